/-
  SenderPacket.Put: its walk.
-/
import Derived.Test.YbulkctpeShelf
import Derived.Test.YbulkctpeRows
import Derived.WalkKit
import Derived.WalkSpells
import Derived.WalkLawsBesides
import Derived.Deep.OwnRows
import Derived.Lib.LazyBuf
import Derived.Lib.SliceRun
import Derived.Below
import Derived.Deep.RegionHeld3
namespace Go.Proofs.Ybulkctpe
open Go.RowKit
set_option linter.unusedVariables false
theorem hide {p : Prop} (h : p) : Hid p := h
theorem unhide {p : Prop} (h : Hid p) : p := h

/-- The row's content with the values 'vs' laid from place 'o' on. -/
def over (o : Nat) (vs : List Value) (f : Nat → Value) : Nat → Value := fun j => if o ≤ j ∧ j < o + vs.length then vs[j - o]?.getD default else f j

/-- Block g alone may turn; new blocks may come. -/
structure Keeps (g : Nat) (w w' : World) : Prop where
  below : Below g w w'
  others : ∀ b, b < w.heap.size → b ≠ g → w'.heap[b]? = w.heap[b]?

theorem Keeps.refl (g : Nat) (w : World) : Keeps g w w := ⟨Below.refl _ _, fun _ _ _ => rfl⟩
theorem Keeps.trans {g : Nat} {a b c : World} (h : Keeps g a b) (k : Keeps g b c) : Keeps g a c :=
  ⟨h.below.trans k.below, fun x hx hg => (k.others x (Nat.lt_of_lt_of_le hx h.below.size) hg).trans (h.others x hx hg)⟩
theorem Keeps.drew (g : Nat) (w : World) : Keeps g w w.drew := ⟨(Below.refl _ _).drew, fun _ _ _ => rfl⟩
theorem Keeps.cell {g : Nat} {w w' : World} (h : Keeps g w w') {B i : Nat} (hB : B < w.heap.size) (hg : B ≠ g) : w'.cell? ⟨B, i, none⟩ = w.cell? ⟨B, i, none⟩ :=
  World.cell?_of_block (w := w) (h.others B hB hg)
theorem heap_setCells_other {g b : Nat} (hb : b ≠ g) : ∀ (vs : List Value) (o : Nat) (w : World), (w.setCells g o vs).heap[b]? = w.heap[b]?
  | [], _, _ => rfl
  | v :: r, o, w => (heap_setCells_other hb r (o + 1) _).trans (Below.heap_setCell w ⟨g, o, none⟩ v b hb)
theorem keeps_put {g : Nat} {w : World} (hg : g < w.heap.size) (ob : Obj) (o : Nat) (vs : List Value) : Keeps g w ((w.alloc ob).setCells g o vs) :=
  ⟨below_setCells (Nat.le_refl _) vs o _ ((Below.refl _ _).alloc (Nat.le_of_lt hg) ob), fun b hb hne => (heap_setCells_other hne vs o _).trans (Below.heap_alloc w ob b hb)⟩

theorem put32 (v : Nat) (hv : v < 4294967296) (g o k c n : Nat) (f : Nat → Value) (w : World) (ho : o + 4 ≤ n) (hk : 4 ≤ k) (h : w.rowIs g 5 n f) :
    Calls Yba.prog 5 #[.agg #[], .slice (some ⟨g, o, none⟩) k c, .int .u32 v] w fun e w' => e = .returned (.tuple #[]) ∧ (∃ f', Hid (f' = over o (Lib.byteCells (Lib.beBytes 4 v)) f) ∧ w'.rowIs g 5 n f') ∧ Keeps g w w' := by
  refine (Yba.binary_BE_PutUint32 g o k c v hv _ _ _ _ w hk (h.cell (by omega)) (h.cell (by omega)) (h.cell (by omega)) (h.cell (by omega)) (h.frozen _) (h.frozen _) (h.frozen _) (h.frozen _)).mono ?_
  rintro e w' ⟨rfl, rfl⟩
  exact ⟨rfl, ⟨_, hide rfl, rowIs_setCells _ _ _ _ (h.alloc _)⟩, keeps_put h.lt _ _ _⟩
theorem put16 (v : Nat) (hv : v < 65536) (g o k c n : Nat) (f : Nat → Value) (w : World) (ho : o + 2 ≤ n) (hk : 2 ≤ k) (h : w.rowIs g 5 n f) :
    Calls Yba.prog 7 #[.agg #[], .slice (some ⟨g, o, none⟩) k c, .int .u16 v] w fun e w' => e = .returned (.tuple #[]) ∧ (∃ f', Hid (f' = over o (Lib.byteCells (Lib.beBytes 2 v)) f) ∧ w'.rowIs g 5 n f') ∧ Keeps g w w' := by
  refine (Yba.binary_BE_PutUint16 g o k c v hv _ _ w hk (h.cell (by omega)) (h.cell (by omega)) (h.frozen _) (h.frozen _)).mono ?_
  rintro e w' ⟨rfl, rfl⟩
  exact ⟨rfl, ⟨_, hide rfl, rowIs_setCells _ _ _ _ (h.alloc _)⟩, keeps_put h.lt _ _ _⟩
theorem put64 (v : Nat) (hv : v < 18446744073709551616) (g o k c n : Nat) (f : Nat → Value) (w : World) (ho : o + 8 ≤ n) (hk : 8 ≤ k) (h : w.rowIs g 5 n f) :
    Calls Yba.prog 6 #[.agg #[], .slice (some ⟨g, o, none⟩) k c, .int .u64 v] w fun e w' => e = .returned (.tuple #[]) ∧ (∃ f', Hid (f' = over o (Lib.byteCells (Lib.beBytes 8 v)) f) ∧ w'.rowIs g 5 n f') ∧ Keeps g w w' := by
  refine (Yba.binary_BE_PutUint64 g o k c v hv _ _ _ _ _ _ _ _ w hk (h.cell (by omega)) (h.cell (by omega)) (h.cell (by omega)) (h.cell (by omega)) (h.cell (by omega)) (h.cell (by omega)) (h.cell (by omega)) (h.cell (by omega))
    (h.frozen _) (h.frozen _) (h.frozen _) (h.frozen _) (h.frozen _) (h.frozen _) (h.frozen _) (h.frozen _)).mono ?_
  rintro e w' ⟨rfl, rfl⟩
  exact ⟨rfl, ⟨_, hide rfl, rowIs_setCells _ _ _ _ (h.alloc _)⟩, keeps_put h.lt _ _ _⟩

theorem slice_from (b n cap i : Nat) (hi : i ≤ n) (hn : n ≤ cap) (hlt : i < cap) (z : Int) (hz : z = (i : Int)) (w : World) :
    (Instr.slice 25 (.slice (some ⟨b, 0, none⟩) n cap) (some (.int .i64 z)) none none).run Yba.prog w = .ok (.slice (some ⟨b, i, none⟩) (n - i) (cap - i)) w := by
  subst hz
  have h1 : (i : Int) ≤ (n : Int) := by omega
  have h2 : (n : Int) ≤ (cap : Int) := by omega
  have h3 : (0 : Int) ≤ (i : Int) := by omega
  go_simp
  omega

/-- The row's content behind 'Put'. -/
def putF (seq ts ee ss : Nat) (f : Nat → Value) : Nat → Value :=
  over 16 (List.replicate 28 (Value.int .u8 0)) (over 14 (Lib.byteCells (Lib.beBytes 2 ss)) (over 12 (Lib.byteCells (Lib.beBytes 2 ee)) (over 4 (Lib.byteCells (Lib.beBytes 8 ts)) (over 0 (Lib.byteCells (Lib.beBytes 4 seq)) f))))

set_option maxRecDepth 20000 in
set_option maxHeartbeats 400000 in
theorem put_any (seq ts ee ss : Nat) (h1 : seq < 4294967296) (h2 : ts < 18446744073709551616) (h3 : ee < 65536) (h4 : ss < 65536) (g n : Nat) (hn : 44 ≤ n) (f : Nat → Value) (w : World) (hrow : w.rowIs g 5 n f) :
    Calls Yba.prog 4 #[.agg #[.int .u32 seq, .int .u64 ts, .int .u16 ee, .int .u16 ss], .slice (some ⟨g, 0, none⟩) n n] w fun e w' => e = .returned (.tuple #[]) ∧ w'.rowIs g 5 n (putF seq ts ee ss f) ∧ Keeps g w w' := by
  have hnZ : (44 : Int) ≤ (n : Int) := by omega
  have hs4 := fun w => slice_from g 44 n 4 (by omega) hn (by omega) 4 rfl w
  have hs12 := fun w => slice_from g 44 n 12 (by omega) hn (by omega) 12 rfl w
  have hs14 := fun w => slice_from g 44 n 14 (by omega) hn (by omega) 14 rfl w
  have hs16 := fun w => slice_from g 44 n 16 (by omega) hn (by omega) 16 rfl w
  have H1 := hide h1
  have H2 := hide h2
  have H3 := hide h3
  have H4 := hide h4
  have HR := hide hrow
  have hg : w.heap.size ≠ g := by have := hrow.lt; omega
  clear h1 h2 h3 h4 hrow
  go_enter Yba.func4, Yba.ntmps4
  go_wp2_with fail
  have hrow1 := (unhide HR).alloc (Obj.cells #[.int .u32 seq, .int .u64 ts, .int .u16 ee, .int .u16 ss] 29)
  have hp := World.rowIs_alloc w #[.int .u32 seq, .int .u64 ts, .int .u16 ee, .int .u16 ss] 29 (fun i => (#[Value.int .u32 seq, .int .u64 ts, .int .u16 ee, .int .u16 ss] : Array Value)[i]?.getD default) (fun i hi => by rw [Array.getElem?_eq_getElem hi]; rfl)
  have c0 := hp.cell (i := 0) (by simp)
  have c1 := hp.cell (i := 1) (by simp)
  have c2 := hp.cell (i := 2) (by simp)
  have c3 := hp.cell (i := 3) (by simp)
  simp only [List.getElem?_toArray, List.getElem?_cons_zero, List.getElem?_cons_succ, Option.getD_some] at c0 c1 c2 c3
  have hk1 : Keeps g w (w.alloc (Obj.cells #[.int .u32 seq, .int .u64 ts, .int .u16 ee, .int .u16 ss] 29)) := ⟨(Below.refl _ _).alloc (Nat.le_of_lt (unhide HR).lt) _, fun b hb _ => Below.heap_alloc w _ b hb⟩
  have hB := hp.lt
  clear hp HR
  generalize w.alloc (Obj.cells #[.int .u32 seq, .int .u64 ts, .int .u16 ee, .int .u16 ss] 29) = w1 at hrow1 c0 c1 c2 c3 hk1 hB ⊢
  generalize w.heap.size = B at hg c0 c1 c2 c3 hB ⊢
  go_region_held3 (fun w' => w'.cell? ⟨B, 0, none⟩ = some (.int .u32 seq)) (go_keep) ((go_at_call 5; refine (put32 seq (unhide H1) g 0 _ _ n _ _ (by omega) (by omega) hrow1.drew).mono ?_; rintro e w2 ⟨rfl, ⟨f2, HF2, hrow2⟩, hk⟩; have d0 := (hk.cell (i := 0) (by exact hB) hg).trans c0; have d1 := (hk.cell (i := 1) (by exact hB) hg).trans c1; have d2 := (hk.cell (i := 2) (by exact hB) hg).trans c2; have d3 := (hk.cell (i := 3) (by exact hB) hg).trans c3))
  have hk2 := hk1.trans ((Keeps.drew g w1).trans hk)
  have hB := Nat.lt_of_lt_of_le hB hk.below.size
  clear c0 c1 c2 c3 hrow1 hk
  have c0 := d0; have c1 := d1; have c2 := d2; have c3 := d3
  clear d0 d1 d2 d3
  go_wp2_with fail
  go_region_held3 (fun w' => w'.cell? ⟨B, 1, none⟩ = some (.int .u64 ts)) (go_keep) ((go_at_call 6; refine (put64 ts (unhide H2) g 4 _ _ n _ _ (by omega) (by omega) hrow2.drew).mono ?_; rintro e w3 ⟨rfl, ⟨f3, HF3, hrow3⟩, hk⟩; have d0 := (hk.cell (i := 0) (by exact hB) hg).trans c0; have d1 := (hk.cell (i := 1) (by exact hB) hg).trans c1; have d2 := (hk.cell (i := 2) (by exact hB) hg).trans c2; have d3 := (hk.cell (i := 3) (by exact hB) hg).trans c3))
  have hk3 := hk2.trans ((Keeps.drew g w2).trans hk)
  have hB := Nat.lt_of_lt_of_le hB hk.below.size
  clear c0 c1 c2 c3 hrow2 hk
  have c0 := d0; have c1 := d1; have c2 := d2; have c3 := d3
  clear d0 d1 d2 d3
  go_wp2_with fail
  go_region_held3 (fun w' => w'.cell? ⟨B, 2, none⟩ = some (.int .u16 ee)) (go_keep) ((go_at_call 7; refine (put16 ee (unhide H3) g 12 _ _ n _ _ (by omega) (by omega) hrow3.drew).mono ?_; rintro e w4 ⟨rfl, ⟨f4, HF4, hrow4⟩, hk⟩; have d0 := (hk.cell (i := 0) (by exact hB) hg).trans c0; have d1 := (hk.cell (i := 1) (by exact hB) hg).trans c1; have d2 := (hk.cell (i := 2) (by exact hB) hg).trans c2; have d3 := (hk.cell (i := 3) (by exact hB) hg).trans c3))
  have hk4 := hk3.trans ((Keeps.drew g w3).trans hk)
  have hB := Nat.lt_of_lt_of_le hB hk.below.size
  clear c0 c1 c2 c3 hrow3 hk
  have c0 := d0; have c1 := d1; have c2 := d2; have c3 := d3
  clear d0 d1 d2 d3
  go_wp2_with fail
  go_region_held3 (fun w' => w'.cell? ⟨B, 3, none⟩ = some (.int .u16 ss)) (go_keep) ((go_at_call 7; refine (put16 ss (unhide H4) g 14 _ _ n _ _ (by omega) (by omega) hrow4.drew).mono ?_; rintro e w5 ⟨rfl, ⟨f5, HF5, hrow5⟩, hk⟩; have d0 := (hk.cell (i := 0) (by exact hB) hg).trans c0; have d1 := (hk.cell (i := 1) (by exact hB) hg).trans c1; have d2 := (hk.cell (i := 2) (by exact hB) hg).trans c2; have d3 := (hk.cell (i := 3) (by exact hB) hg).trans c3))
  have hk5 := hk4.trans ((Keeps.drew g w4).trans hk)
  have hB := Nat.lt_of_lt_of_le hB hk.below.size
  clear c0 c1 c2 c3 hrow4 hk
  have c0 := d0; have c1 := d1; have c2 := d2; have c3 := d3
  clear d0 d1 d2 d3
  have hclr := fun ty => Lib.run_clear_slice (P := Yba.prog) w5 25 5 ty (.int .u8 0) Yba.underlying25 (fun w => Yba.zeroValue5 w) rfl rfl g 16 28 (n - 16) (by omega) (fun j hj => by rw [hrow5.cell (by omega)]; rfl) (fun j _ => hrow5.frozen _)
  have hrow6 := rowIs_setCells (List.replicate 28 (Value.int .u8 0)) 16 w5 f5 hrow5
  have hk6 : Keeps g w (w5.setCells g 16 (List.replicate 28 (Value.int .u8 0))) := hk5.trans ⟨below_setCells (Nat.le_refl _) _ _ _ (Below.refl _ _), fun b _ hb => heap_setCells_other hb _ _ _⟩
  generalize w5.setCells g 16 (List.replicate 28 (Value.int .u8 0)) = w6 at hclr hrow6 hk6
  have HR6 := hide hrow6
  have HK6 := hide hk6
  clear hrow6 hk6 hrow5 hk5 c0 c1 c2 c3
  go_wp2
  go_end0
  refine ⟨rfl, ?_, unhide HK6⟩
  have e2 := unhide HF2; have e3 := unhide HF3; have e4 := unhide HF4; have e5 := unhide HF5
  subst e2 e3 e4 e5
  exact unhide HR6
end Go.Proofs.Ybulkctpe
