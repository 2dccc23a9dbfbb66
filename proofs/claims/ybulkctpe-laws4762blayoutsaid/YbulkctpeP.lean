/-
  The packet's bytes, plain; the copy into the new row.
-/
import Derived.Test.YbulkctpeW1
namespace Go.Proofs.Ybulkctpe
open Go.RowKit
set_option linter.unusedVariables false

/-- Octet j of the packet. -/
def wI (seq ts ee ss : Nat) (j : Nat) : Nat :=
  if j < 4 then seq / 256 ^ (3 - j) % 256 else if j < 12 then ts / 256 ^ (11 - j) % 256
  else if j = 12 then ee / 256 % 256 else if j = 13 then ee % 256 else if j = 14 then ss / 256 % 256 else if j = 15 then ss % 256 else 0

theorem over_in {o : Nat} {vs : List Value} {f : Nat → Value} {j : Nat} (h : o ≤ j) (h2 : j < o + vs.length) : over o vs f j = vs[j - o]?.getD default := if_pos ⟨h, h2⟩
theorem over_out {o : Nat} {vs : List Value} {f : Nat → Value} {j : Nat} (h : j < o ∨ o + vs.length ≤ j) : over o vs f j = f j := if_neg (by omega)
theorem bc_len (k v : Nat) : (Lib.byteCells (Lib.beBytes k v)).length = k := by simp [Lib.byteCells, Lib.beBytes_length]

theorem bc4 (v j : Nat) (h : j < 4) : (Lib.byteCells (Lib.beBytes 4 v))[j]?.getD default = .int .u8 ((v / 256 ^ (3 - j) % 256 : Nat) : Int) := by
  have e : Lib.byteCells (Lib.beBytes 4 v) = [Value.int .u8 ((v / 256 / 256 / 256 % 256 : Nat) : Int), .int .u8 ((v / 256 / 256 % 256 : Nat) : Int), .int .u8 ((v / 256 % 256 : Nat) : Int), .int .u8 ((v % 256 : Nat) : Int)] := by
    simp only [Lib.byteCells, Lib.beBytes, Lib.leBytes, List.reverse_cons, List.reverse_nil, List.nil_append, List.cons_append, List.map, Lib.toUInt8_mod]
  rw [e]
  simp only [Nat.div_div_eq_div_mul]
  match j, h with
  | 0, _ => rfl
  | 1, _ => rfl
  | 2, _ => rfl
  | 3, _ => simp
theorem bc2 (v j : Nat) (h : j < 2) : (Lib.byteCells (Lib.beBytes 2 v))[j]?.getD default = .int .u8 ((v / 256 ^ (1 - j) % 256 : Nat) : Int) := by
  have e : Lib.byteCells (Lib.beBytes 2 v) = [.int .u8 ((v / 256 % 256 : Nat) : Int), .int .u8 ((v % 256 : Nat) : Int)] := by
    simp only [Lib.byteCells, Lib.beBytes, Lib.leBytes, List.reverse_cons, List.reverse_nil, List.nil_append, List.cons_append, List.map, Lib.toUInt8_mod]
  rw [e]
  match j, h with
  | 0, _ => rfl
  | 1, _ => simp
theorem bc8 (v j : Nat) (h : j < 8) : (Lib.byteCells (Lib.beBytes 8 v))[j]?.getD default = .int .u8 ((v / 256 ^ (7 - j) % 256 : Nat) : Int) := by
  have e : Lib.byteCells (Lib.beBytes 8 v) = [Value.int .u8 ((v / 256 / 256 / 256 / 256 / 256 / 256 / 256 % 256 : Nat) : Int), .int .u8 ((v / 256 / 256 / 256 / 256 / 256 / 256 % 256 : Nat) : Int), .int .u8 ((v / 256 / 256 / 256 / 256 / 256 % 256 : Nat) : Int), .int .u8 ((v / 256 / 256 / 256 / 256 % 256 : Nat) : Int),
      .int .u8 ((v / 256 / 256 / 256 % 256 : Nat) : Int), .int .u8 ((v / 256 / 256 % 256 : Nat) : Int), .int .u8 ((v / 256 % 256 : Nat) : Int), .int .u8 ((v % 256 : Nat) : Int)] := by
    simp only [Lib.byteCells, Lib.beBytes, Lib.leBytes, List.reverse_cons, List.reverse_nil, List.nil_append, List.cons_append, List.map, Lib.toUInt8_mod]
  rw [e]
  simp only [Nat.div_div_eq_div_mul]
  match j, h with
  | 0, _ => rfl
  | 1, _ => rfl
  | 2, _ => rfl
  | 3, _ => rfl
  | 4, _ => rfl
  | 5, _ => rfl
  | 6, _ => rfl
  | 7, _ => simp

theorem putF_high (seq ts ee ss : Nat) (f : Nat → Value) (j : Nat) (h : 44 ≤ j) : putF seq ts ee ss f j = f j := by
  unfold putF
  rw [over_out (by simp; omega), over_out (by rw [bc_len]; omega), over_out (by rw [bc_len]; omega), over_out (by rw [bc_len]; omega), over_out (by rw [bc_len]; omega)]

theorem putF_low (seq ts ee ss : Nat) (f : Nat → Value) (j : Nat) (h : j < 44) : putF seq ts ee ss f j = .int .u8 ((wI seq ts ee ss j : Nat) : Int) := by
  unfold putF
  by_cases h16 : 16 ≤ j
  · rw [over_in h16 (by simp; omega), List.getElem?_replicate, if_pos (by omega)]
    unfold wI
    rw [if_neg (by omega), if_neg (by omega), if_neg (by omega), if_neg (by omega), if_neg (by omega), if_neg (by omega)]
    rfl
  rw [over_out (by omega)]
  by_cases h14 : 14 ≤ j
  · rw [over_in h14 (by rw [bc_len]; omega), bc2 _ _ (by omega)]
    unfold wI
    rw [if_neg (by omega), if_neg (by omega), if_neg (by omega), if_neg (by omega)]
    by_cases e : j = 14
    · subst e; simp
    · have : j = 15 := by omega
      subst this; simp
  rw [over_out (by omega)]
  by_cases h12 : 12 ≤ j
  · rw [over_in h12 (by rw [bc_len]; omega), bc2 _ _ (by omega)]
    unfold wI
    rw [if_neg (by omega), if_neg (by omega)]
    by_cases e : j = 12
    · subst e; simp
    · have : j = 13 := by omega
      subst this; simp
  rw [over_out (by omega)]
  by_cases h4 : 4 ≤ j
  · rw [over_in h4 (by rw [bc_len]; omega), bc8 _ _ (by omega)]
    unfold wI
    rw [if_neg (by omega), if_pos (by omega), show 7 - (j - 4) = 11 - j by omega]
  rw [over_out (by omega), over_in (by omega) (by rw [bc_len]; omega), bc4 _ _ (by omega)]
  unfold wI
  rw [if_pos (by omega), Nat.sub_zero]

/-- The source of the copy. -/
def Src (w : World) (a : Option Addr) (len : Nat) (z : Nat → Int) : Prop := ∀ i, i < len → ∃ b off, a = some ⟨b, off, none⟩ ∧ b < w.heap.size ∧ w.cell? ⟨b, off + i, none⟩ = some (.int .u8 (z i))

theorem Src.below {w w' : World} {a : Option Addr} {len : Nat} {z : Nat → Int} (h : Src w a len z) (hb : Below w.heap.size w w') : Src w' a len z := by
  intro i hi
  obtain ⟨b, off, rfl, hlt, hc⟩ := h i hi
  exact ⟨b, off, rfl, Nat.lt_of_lt_of_le hlt hb.size, (hb.cell (by exact hlt)).trans hc⟩

theorem sz5 : (Yba.prog.info? 5).map (·.size) = some 1 := by kernel_rfl

/-- 'copy' into the new row. -/
theorem copied {w : World} {g N : Nat} {a : Option Addr} {len cap : Nat} {z : Nat → Int} (hr : w.rowIs g 5 N (fun _ => .int .u8 0)) (hN : len ≤ N) (hs : Src w a len z) :
    ∃ w2, (∀ ty, (Builtin.copy_ #[25, 25] ty #[.slice (some ⟨g, 0, none⟩) N N, .slice a len cap]).run Yba.prog w = .ok (goInt len) w2) ∧ w2.rowIs g 5 N (fun j => if j < len then .int .u8 (z j) else .int .u8 0) ∧ Keeps g w w2 := by
  by_cases h0 : len = 0
  · refine ⟨w, fun ty => ?_, hr.congr (fun j _ => by rw [if_neg (by omega)]), Keeps.refl _ _⟩
    rw [h0]
    exact run_copy_none w 25 25 ty 5 _ _ N N 0 cap Yba.underlying25 sz5 (by simp)
  · obtain ⟨b, off, rfl, _, _⟩ := hs 0 (by omega)
    have hl : ((List.range len).map fun i => Value.int .u8 (z i)).length = len := by simp
    refine ⟨w.setCells g 0 ((List.range len).map fun i => Value.int .u8 (z i)), fun ty => ?_, ?_, ⟨below_setCells (Nat.le_refl _) _ _ _ (Below.refl _ _), fun x _ hx => heap_setCells_other hx _ _ _⟩⟩
    · have := run_copy_cells (P := Yba.prog) w 25 25 ty 5 g 0 N N ⟨b, off, none⟩ len cap ((List.range len).map fun i => Value.int .u8 (z i)) Yba.underlying25 sz5 (by rw [hl]; exact (Nat.min_eq_left hN).symm)
        (fun j v hj => by
          have hjl : j < len := by
            rcases Nat.lt_or_ge j len with h' | h'
            · exact h'
            · rw [List.getElem?_eq_none (by rw [hl]; exact h')] at hj; cases hj
          obtain ⟨b', off', e, _, hc⟩ := hs j hjl
          simp only [Option.some.injEq, Addr.mk.injEq, and_true] at e
          obtain ⟨rfl, rfl⟩ := e
          rw [WideShapes.add_plain, hc]
          simp [hjl] at hj
          rw [← hj])
        (fun j hj => by rw [hr.cell (by rw [hl] at hj; omega)]; rfl) (fun j _ => hr.frozen _)
        (fun v hv => by simp only [List.mem_map] at hv; obtain ⟨i, _, rfl⟩ := hv; rfl)
      rw [this, hl]
    · refine (rowIs_setCells _ _ _ _ hr).congr (fun j _ => ?_)
      by_cases hj : j < len
      · rw [if_pos ⟨Nat.zero_le _, by rw [hl]; omega⟩, if_pos hj]
        simp [hj]
      · rw [if_neg (by rw [hl]; omega), if_neg hj]
end Go.Proofs.Ybulkctpe
