/-
  Frames and rows of words, of no function yet.
-/
import Derived.Test.YbulkctsyRows
import Derived.WalkKit
import Derived.WalkSpells
import Derived.WalkLawsBesides
import Derived.Deep.OwnRows
import Derived.Lib.LazyBuf
import Derived.Lib.SliceRun
import Derived.Below
import Derived.BigQuiet
import Derived.Deep.QuietTactic
import Derived.Deep.RegionHeld3
import Derived.Laws.Twins
import Derived.Laws.BitsAllLaws
namespace Go.Proofs.Ybulkctsy
open Go.RowKit
set_option linter.unusedVariables false
theorem hide {p : Prop} (h : p) : Hid p := h
theorem unhide {p : Prop} (h : Hid p) : p := h

/-- Of the blocks that were there, those of S alone may have turned. -/
structure KB (S : Nat → Prop) (w w' : World) : Prop where
  base : Below 0 w w'
  kept : ∀ b, b < w.heap.size → ¬ S b → w'.heap[b]? = w.heap[b]?

theorem KB.refl (S : Nat → Prop) (w : World) : KB S w w := ⟨Below.refl _ _, fun _ _ _ => rfl⟩
theorem KB.size {S : Nat → Prop} {w w' : World} (h : KB S w w') : w.heap.size ≤ w'.heap.size := h.base.size
theorem KB.trans {S S' : Nat → Prop} {a b c : World} (h : KB S a b) (k : KB S' b c) (e : ∀ x, x < a.heap.size → S' x → S x) : KB S a c :=
  ⟨h.base.trans k.base, fun x hx hs => (k.kept x (Nat.lt_of_lt_of_le hx h.size) (fun h' => hs (e x hx h'))).trans (h.kept x hx hs)⟩
theorem KB.mono {S S' : Nat → Prop} {a b : World} (h : KB S a b) (e : ∀ x, x < a.heap.size → S x → S' x) : KB S' a b :=
  ⟨h.base, fun x hx hs => h.kept x hx (fun h' => hs (e x hx h'))⟩
theorem KB.drew {S : Nat → Prop} {a b : World} (h : KB S a b) : KB S a b.drew := ⟨h.base.drew, h.kept⟩
theorem KB.drewN {S : Nat → Prop} {a b : World} (h : KB S a b) (n : Nat) : KB S a (b.drewN n) := ⟨below_drewN h.base n, h.kept⟩
theorem KB.alloc {S : Nat → Prop} {a b : World} (h : KB S a b) (o : Obj) : KB S a (b.alloc o) :=
  ⟨h.base.alloc (Nat.zero_le _) o, fun x hx hs => (Below.heap_alloc b o x (Nat.lt_of_lt_of_le hx h.size)).trans (h.kept x hx hs)⟩
theorem KB.setCell {S : Nat → Prop} {a b : World} (h : KB S a b) (p : Addr) (v : Value) (hp : p.block < a.heap.size → S p.block) : KB S a (b.setCell p v) :=
  ⟨h.base.setCell (Nat.zero_le _) v, fun x hx hs => by
    have hne : x ≠ p.block := fun e => hs (e ▸ hp (e ▸ hx))
    exact (Below.heap_setCell b p v x hne).trans (h.kept x hx hs)⟩
theorem heap_setCells_other {g b : Nat} (hb : b ≠ g) : ∀ (vs : List Value) (o : Nat) (w : World), (w.setCells g o vs).heap[b]? = w.heap[b]?
  | [], _, _ => rfl
  | v :: r, o, w => (heap_setCells_other hb r (o + 1) _).trans (Below.heap_setCell w ⟨g, o, none⟩ v b hb)
theorem KB.setCells {S : Nat → Prop} {a b : World} (h : KB S a b) (g o : Nat) (vs : List Value) (hp : g < a.heap.size → S g) : KB S a (b.setCells g o vs) :=
  ⟨below_setCells (Nat.zero_le _) vs o _ h.base, fun x hx hs => by
    have hne : x ≠ g := fun e => hs (e ▸ hp (e ▸ hx))
    exact (heap_setCells_other hne vs o b).trans (h.kept x hx hs)⟩
theorem KB.row {S : Nat → Prop} {w w' : World} (h : KB S w w') {g t n : Nat} {f : Nat → Value} (r : w.rowIs g t n f) (hs : ¬ S g) : w'.rowIs g t n f := r.of_block (h.kept g r.lt hs)
theorem KB.below {S : Nat → Prop} {w w' : World} (h : KB S w w') {B : Nat} (hB : B ≤ w.heap.size) (hs : ∀ b, b < B → ¬ S b) : Below B w w' :=
  ⟨h.base.os, h.base.tape, h.base.output, h.base.size, fun k hk => h.kept k (Nat.lt_of_lt_of_le hk hB) (hs k hk)⟩

/-- A row of words. -/
def WRow (w : World) (g cap : Nat) (u : Nat → Nat) : Prop := w.rowIs g 54 cap (fun i => .int .u64 ((u i : Nat) : Int)) ∧ ∀ i, u i < 18446744073709551616
theorem WRow.cell {w : World} {g cap : Nat} {u : Nat → Nat} (h : WRow w g cap u) {i : Nat} (hi : i < cap) : w.cell? ⟨g, i, none⟩ = some (.int .u64 ((u i : Nat) : Int)) := h.1.cell hi
theorem WRow.frozen {w : World} {g cap : Nat} {u : Nat → Nat} (h : WRow w g cap u) (i : Nat) : w.frozen? ⟨g, i, none⟩ = false := h.1.frozen i
theorem WRow.lt {w : World} {g cap : Nat} {u : Nat → Nat} (h : WRow w g cap u) : g < w.heap.size := h.1.lt
theorem WRow.alloc {w : World} {g cap : Nat} {u : Nat → Nat} (h : WRow w g cap u) (o : Obj) : WRow (w.alloc o) g cap u := ⟨h.1.alloc o, h.2⟩
theorem WRow.drewN {w : World} {g cap : Nat} {u : Nat → Nat} (h : WRow w g cap u) (n : Nat) : WRow (w.drewN n) g cap u := ⟨h.1, h.2⟩
theorem WRow.kb {w w' : World} {g cap : Nat} {u : Nat → Nat} {S : Nat → Prop} (h : WRow w g cap u) (k : KB S w w') (hs : ¬ S g) : WRow w' g cap u := ⟨k.row h.1 hs, h.2⟩
theorem WRow.congr {w : World} {g cap : Nat} {u u' : Nat → Nat} (h : WRow w g cap u) (e : ∀ i, i < cap → u i = u' i) (hu : ∀ i, u' i < 18446744073709551616) : WRow w g cap u' := ⟨h.1.congr (fun i hi => by rw [e i hi]), hu⟩
theorem WRow.set {w : World} {g cap : Nat} {u : Nat → Nat} (h : WRow w g cap u) (i x : Nat) (hx : x < 18446744073709551616) : WRow (w.setCell ⟨g, i, none⟩ (.int .u64 ((x : Nat) : Int))) g cap (fun j => if j = i then x else u j) :=
  ⟨(h.1.set i _).congr (fun j _ => by dsimp only; by_cases e : j = i
                                      · rw [if_pos e, if_pos e]
                                      · rw [if_neg e, if_neg e]), fun j => by dsimp only; split; exact hx; exact h.2 j⟩
theorem WRow.setOther {w : World} {g cap : Nat} {u : Nat → Nat} (h : WRow w g cap u) {a : Addr} (ha : g ≠ a.block) (v : Value) : WRow (w.setCell a v) g cap u := ⟨h.1.setOther ha v, h.2⟩

/-- The number of the first n words, the least first. -/
def valF (u : Nat → Nat) : Nat → Nat
  | 0 => 0
  | n + 1 => valF u n + u n * 18446744073709551616 ^ n
theorem valF_congr {u u' : Nat → Nat} : ∀ {n : Nat}, (∀ i, i < n → u i = u' i) → valF u n = valF u' n
  | 0, _ => rfl
  | n + 1, h => by rw [valF, valF, valF_congr (n := n) (fun i hi => h i (by omega)), h n (by omega)]
theorem valF_lt {u : Nat → Nat} (hu : ∀ i, u i < 18446744073709551616) : ∀ n, valF u n < 18446744073709551616 ^ n
  | 0 => by simp [valF]
  | n + 1 => by
    have ih := valF_lt hu n
    have h := hu n
    rw [valF, Nat.pow_succ]
    have : u n * 18446744073709551616 ^ n + 18446744073709551616 ^ n ≤ 18446744073709551616 * 18446744073709551616 ^ n := by
      rw [← Nat.succ_mul]; exact Nat.mul_le_mul_right _ h
    rw [Nat.mul_comm (18446744073709551616 ^ n)]
    omega

theorem info54 : (Yba.prog.info? 54).map (fun i => (i.zero, i.size, i.bytes)) = some (some (.int .u64 0), 1, 8) := by kernel_rfl
theorem sz54 : (Yba.prog.info? 54).map (·.size) = some 1 := by kernel_rfl
theorem made_row (w : World) (n : Nat) : WRow (w.alloc (.cells (madeCells #[.int .u64 0] n) 54)) w.heap.size n (fun _ => 0) := ⟨World.rowIs_made w (.int .u64 0) n 54, fun _ => by dsimp only; omega⟩

/-- nat.make where the old row has room. -/
theorem make_room (a : Option Addr) (n zl cap : Nat) (hn : n ≤ cap) (w : World) :
    Calls Yba.prog 28 #[.slice a zl cap, .int .i64 n] w fun e w' => e = .returned (.slice a n cap) ∧ w' = w := by
  have h : (n : Int) ≤ (cap : Int) := by omega
  go_enter Yba.func28, Yba.ntmps28
  go_wp2
  go_ret
  exact ⟨rfl, rfl⟩

theorem mk_row (n c : Nat) (h : n ≤ c) (hc : c ≤ 100000) (C : Int) (hC : C = (c : Int)) (w : World) :
    (Instr.makeSlice 27 (.int .i64 (n : Int)) (.int .i64 C)).run Yba.prog w = .ok (.slice (some ⟨w.heap.size, 0, none⟩) n c) (w.alloc (.cells (madeCells #[.int .u64 0] c) 54)) := by
  subst hC
  obtain ⟨i, hi, hzz⟩ := Option.map_eq_some_iff.1 info54
  simp only [Prod.mk.injEq] at hzz
  obtain ⟨hz, hs, hb⟩ := hzz
  have hr := run_make (P := Yba.prog) w 27 54 i (.int .u64 0) Yba.underlying27 hi hz .i64 .i64 n c (by omega) (by omega) (by rw [hb]; omega) (by omega)
  simp only [Int.toNat_natCast, hs, Nat.mul_one] at hr
  exact hr

/-- nat.make where a new row is made. -/
theorem make_new (a : Option Addr) (n zl cap : Nat) (hn : cap < n) (hN : n ≤ 10000) (w : World) :
    Calls Yba.prog 28 #[.slice a zl cap, .int .i64 n] w fun e w' => ∃ c, e = .returned (.slice (some ⟨w.heap.size, 0, none⟩) n c) ∧ n ≤ c ∧ c ≤ n + 4 ∧ w' = w.alloc (.cells (madeCells #[.int .u64 0] c) 54) := by
  have h : ¬ (n : Int) ≤ (cap : Int) := by omega
  by_cases h1 : n = 1
  · subst h1
    have hmk : ∀ w, (Instr.makeSlice 27 (.int .i64 1) (.int .i64 1)).run Yba.prog w = .ok (.slice (some ⟨w.heap.size, 0, none⟩) 1 1) (w.alloc (.cells (madeCells #[.int .u64 0] 1) 54)) := fun w => mk_row 1 1 (by omega) (by omega) 1 rfl w
    have h : (cap : Int) < 1 := by omega
    go_enter Yba.func28, Yba.ntmps28
    go_wp2
    go_ret
    exact ⟨1, rfl, by omega, by omega, rfl⟩
  · have hmk := fun w => mk_row n (n + 4) (by omega) (by omega) ((n : Int) + 4) (by omega) w
    have h2 : ¬ (n : Int) = 1 := by omega
    go_enter Yba.func28, Yba.ntmps28
    go_wp2
    go_ret
    exact ⟨n + 4, rfl, by omega, by omega, rfl⟩
end Go.Proofs.Ybulkctsy
