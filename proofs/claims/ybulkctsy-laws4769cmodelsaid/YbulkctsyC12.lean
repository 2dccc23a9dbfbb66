/-
  zzs4769cvalue: laws for its walk.
-/
import Derived.Test.YbulkctsyC11
import Derived.Test.YbulkctsyB10
namespace Go.Proofs.Ybulkctsy
open Go.RowKit
set_option linter.unusedVariables false

theorem bval_take (l : List Nat) : ∀ k, k ≤ l.length → bval (fun j => l.getD j 0) k = bn (l.take k)
  | 0, _ => by simp [bval, bn]
  | k + 1, h => by
    have ih := bval_take l k (by omega)
    have e : l.take (k + 1) = l.take k ++ [l.getD k 0] := by
      rw [List.take_add_one, List.getElem?_eq_getElem (by omega)]
      simp only [List.getD_eq_getElem?_getD, List.getElem?_eq_getElem (show k < l.length by omega), Option.getD_some, Option.toList_some]
    rw [bval, ih, e, bn_snoc]
theorem bval_bn (l : List Nat) : bval (fun j => l.getD j 0) l.length = bn l := by
  rw [bval_take l l.length (Nat.le_refl _), List.take_length]
theorem getD_lt {l : List Nat} (h : ∀ b, b ∈ l → b < 256) (j : Nat) : l.getD j 0 < 256 := by
  rw [List.getD_eq_getElem?_getD]
  cases e : l[j]? with
  | none => simp
  | some x => exact h x (List.mem_of_getElem? e)

theorem mk_buf (C : Int) (c : Nat) (hC : C = (c : Int)) (hc : c ≤ 300000) (w : World) :
    (Instr.makeSlice 39 (.int .i64 0) (.int .i64 C)).run Yba.prog w = .ok (.slice (some ⟨w.heap.size, 0, none⟩) 0 c) (w.alloc (.cells (madeCells #[.int .u8 0] c) 5)) := by
  subst hC
  obtain ⟨i, hi, hzz⟩ := Option.map_eq_some_iff.1 info5
  simp only [Prod.mk.injEq] at hzz
  obtain ⟨hz, hs, hb⟩ := hzz
  have hr := run_make (P := Yba.prog) w 39 5 i (.int .u8 0) Yba.underlying39 hi hz .i64 .i64 0 c (by omega) (by omega) (by rw [hb]; omega) (by omega)
  simp only [Int.toNat_natCast, hs, Nat.mul_one] at hr
  exact hr

/-- A new Int. -/
theorem int_new (w : World) : IntAt (w.alloc (.cells #[.bool false, .slice none 0 0] 29)) w.heap.size (.slice none 0 0) :=
  World.rowIs_alloc w #[.bool false, .slice none 0 0] 29 (intF (.slice none 0 0)) (fun i hi => by match i, hi with | 0, _ => rfl | 1, _ => rfl)

/-- SetBytes of a row made since w, into a new Int. -/
theorem setBytes_buf (w wr : World) (v : Value) (l : List Nat) (hl : ∀ b, b ∈ l → b < 256) (hn : l.length ≤ 20000) (h : BufV w wr v l) :
    Calls Yba.prog 26 #[.pointer (some ⟨wr.heap.size, 0, none⟩), v] (wr.alloc (.cells #[.bool false, .slice none 0 0] 29)) fun e w' =>
      e = .returned (.pointer (some ⟨wr.heap.size, 0, none⟩)) ∧ ∃ v', IntAt w' wr.heap.size v' ∧ NatV w' v' (bn l) ∧ KB (fun _ => False) w w' ∧ ∀ b, Blk v' b → w.heap.size ≤ b := by
  obtain ⟨a, c, hv⟩ := h.1.kind
  subst hv
  have hcb : l.length ≤ c := by
    rcases h.1.cells with ⟨e, e2⟩ | ⟨g, c', e, k1, k2, k3, k4⟩
    · rw [e2]; exact Nat.zero_le _
    · injection e with _ _ e; omega
  have hk := h.2.alloc (.cells #[.bool false, .slice none 0 0] 29)
  refine (SetBytes_new wr.heap.size a l.length c (fun j => l.getD j 0) (getD_lt hl) hn hcb _ (int_new wr) ?_).mono ?_
  · rcases h.1.cells with ⟨e, e2⟩ | ⟨g, c', e, k1, k2, k3, k4⟩
    · left; rw [e2]; rfl
    · right
      injection e with e1 _ _
      refine ⟨g, e1, by rw [World.size_alloc]; omega, fun j hj => ?_⟩
      rw [World.cell?_of_block (Go.Deep.blk_alloc_lt wr _ g k2)]
      have e3 := k4 j l[j] (List.getElem?_eq_getElem hj)
      rw [e3, List.getD_eq_getElem?_getD, List.getElem?_eq_getElem hj]
      rfl
  · rintro e w' ⟨he, v', h1, h2, h3, h4⟩
    rw [bval_bn] at h2
    have hs := h.2.size
    refine ⟨he, v', h1, h2, hk.trans h3 (fun x hx e => by omega), fun b hb => ?_⟩
    have := h4 b hb
    rw [World.size_alloc] at this
    omega

/-- SetUint64 into a new Int, then Add. -/
theorem One_of {w w' : World} {x : Nat} {v yv : Value} {N : Nat} (hv : NatV w v N)
    (h : (yv = .slice none 0 0 ∧ x = 0) ∨ ∃ gy cy, yv = .slice (some ⟨gy, 0, none⟩) 1 cy ∧ 1 ≤ cy ∧ cy ≤ 5 ∧ x ≠ 0 ∧ WRow w' gy cy (fun j => if j = 0 then x else 0) ∧ w.heap.size ≤ gy) : One w' v yv x ∧ ∃ a n c, yv = .slice a n c := by
  rcases h with ⟨rfl, h⟩ | ⟨gy, cy, rfl, h1, h2, h3, h4, h5⟩
  · exact ⟨.inl ⟨rfl, h⟩, _, _, _, rfl⟩
  · exact ⟨.inr ⟨gy, cy, rfl, h1, h3, h4, fun hb => by have := hv.lt hb; omega⟩, _, _, _, rfl⟩
end Go.Proofs.Ybulkctsy
