/-
  big.Int's SetUint64, Lsh, Add: their walks.
-/
import Derived.Test.YbulkctsyB8
namespace Go.Proofs.Ybulkctsy
open Go.RowKit
set_option linter.unusedVariables false

theorem KB.cell {S : Nat → Prop} {w w' : World} (h : KB S w w') {I i : Nat} (hI : I < w.heap.size) (hs : ¬ S I) : w'.cell? ⟨I, i, none⟩ = w.cell? ⟨I, i, none⟩ := World.cell?_of_block (w := w) (h.kept I hI hs)
theorem KB.frozen {S : Nat → Prop} {w w' : World} (h : KB S w w') {I i : Nat} (hI : I < w.heap.size) (hs : ¬ S I) : w'.frozen? ⟨I, i, none⟩ = w.frozen? ⟨I, i, none⟩ := World.frozen?_of_block (w := w) (h.kept I hI hs)

/-- A big.Int in memory. -/
def intF (v : Value) : Nat → Value := fun i => if i = 0 then .bool false else v
def IntAt (w : World) (I : Nat) (v : Value) : Prop := w.rowIs I 29 2 (intF v)
theorem IntAt.lt {w : World} {I : Nat} {v : Value} (h : IntAt w I v) : I < w.heap.size := World.rowIs.lt h
theorem IntAt.c0 {w : World} {I : Nat} {v : Value} (h : IntAt w I v) : w.cell? ⟨I, 0, none⟩ = some (.bool false) := h.cell (i := 0) (by omega)
theorem IntAt.c1 {w : World} {I : Nat} {v : Value} (h : IntAt w I v) : w.cell? ⟨I, 1, none⟩ = some v := h.cell (i := 1) (by omega)
theorem IntAt.set {w : World} {I : Nat} {v : Value} (h : IntAt w I v) (v' : Value) : IntAt ((w.setCell ⟨I, 1, none⟩ v').setCell ⟨I, 0, none⟩ (.bool false)) I v' :=
  World.rowIs.congr (World.rowIs.set (World.rowIs.set h 1 v') 0 (.bool false)) (fun i hi => by
    unfold intF
    by_cases e : i = 0
    · rw [if_pos e, if_pos e]
    · rw [if_neg e, if_pos (by omega), if_neg e])
theorem IntAt.set1 {w : World} {I : Nat} {v : Value} (h : IntAt w I v) (v' : Value) : IntAt (w.setCell ⟨I, 1, none⟩ v') I v' :=
  World.rowIs.congr (World.rowIs.set h 1 v') (fun i hi => by
    unfold intF
    by_cases e : i = 0
    · rw [if_pos e, if_neg (by omega), if_pos e]
    · rw [if_pos (by omega), if_neg e])
theorem row_ne {w : World} {g g' t t' n n' : Nat} {f f' : Nat → Value} (h : w.rowIs g t n f) (h' : w.rowIs g' t' n' f') (ht : t ≠ t') : g ≠ g' := by
  rintro rfl
  obtain ⟨c, hc, _⟩ := h
  obtain ⟨c', hc', _⟩ := h'
  rw [hc] at hc'
  injection hc' with e
  injection e with _ e2
  exact ht e2
theorem NatV.not_blk {w : World} {v : Value} {N I n t : Nat} {f : Nat → Value} (h : NatV w v N) (hI : w.rowIs I t n f) (ht : t ≠ 54) : ¬ Blk v I := by
  intro hb
  rcases h with ⟨rfl, _⟩ | ⟨g, m, cap, u, rfl, hr, _⟩
  · obtain ⟨_, _, h⟩ := hb; cases h
  · obtain rfl := blk_eq hb
    exact row_ne hI hr.1 ht rfl
theorem NatV.kind {w : World} {v : Value} {N : Nat} (h : NatV w v N) : ∃ a n c, v = .slice a n c := by
  rcases h with ⟨rfl, _⟩ | ⟨g, m, cap, u, rfl, hr, _⟩
  · exact ⟨_, _, _, rfl⟩
  · exact ⟨_, _, _, rfl⟩

theorem int_done {w w1 : World} {I N : Nat} {v v' : Value} (hI : IntAt w1 I v) (h1 : NatV w1 v' N) (h2 : KB (Blk v) w w1) (h3 : ∀ b, Blk v' b → Blk v b ∨ w.heap.size ≤ b) :
    IntAt ((w1.setCell ⟨I, 1, none⟩ v').setCell ⟨I, 0, none⟩ (.bool false)) I v' ∧ NatV ((w1.setCell ⟨I, 1, none⟩ v').setCell ⟨I, 0, none⟩ (.bool false)) v' N ∧
      KB (fun b => b = I ∨ Blk v b) w ((w1.setCell ⟨I, 1, none⟩ v').setCell ⟨I, 0, none⟩ (.bool false)) ∧ ∀ b, Blk v' b → Blk v b ∨ w.heap.size ≤ b := by
  have hk : KB (fun b => b = I) w1 ((w1.setCell ⟨I, 1, none⟩ v').setCell ⟨I, 0, none⟩ (.bool false)) := ((KB.refl (fun b => b = I) w1).setCell ⟨I, 1, none⟩ v' (fun _ => rfl)).setCell ⟨I, 0, none⟩ (.bool false) (fun _ => rfl)
  refine ⟨hI.set v', h1.kb hk (fun b hb e => h1.not_blk hI (by decide) (e ▸ hb)), ?_, h3⟩
  exact (h2.mono (fun _ _ h => .inr h)).trans hk (fun _ _ h => .inl h)

set_option maxRecDepth 20000 in
set_option maxHeartbeats 400000 in
theorem Lsh_any (I N s : Nat) (v : Value) (hs1 : 1 ≤ s) (hs2 : s ≤ 63) (hN : N < 18446744073709551616 ^ 3000) (w : World) (hI : IntAt w I v) (h : NatV w v N) :
    Calls Yba.prog 8 #[.pointer (some ⟨I, 0, none⟩), .pointer (some ⟨I, 0, none⟩), .int .u64 (s : Int)] w fun e w' =>
      e = .returned (.pointer (some ⟨I, 0, none⟩)) ∧ ∃ v', IntAt w' I v' ∧ NatV w' v' (N * 2 ^ s) ∧ KB (fun b => b = I ∨ Blk v b) w w' ∧ ∀ b, Blk v' b → Blk v b ∨ w.heap.size ≤ b := by
  have hnb := h.not_blk hI (by decide)
  have c1 := hI.c1
  have c0 := hI.c0
  have f1 := World.rowIs.frozen hI 1
  have f0 := World.rowIs.frozen hI 0
  have HI := hide hI
  have HA := hide (fun W (hW : W.heap = w.heap) (hb : KB (fun _ => False) w W) => lsh_any v N s hs1 hs2 hN W (h.kb hb (fun _ _ h => h)))
  obtain ⟨a, n, c, hv⟩ := h.kind
  subst hv
  have HN := hide hnb
  clear h hI hnb hN
  go_enter Yba.func8, Yba.ntmps8
  go_wp2
  go_region_with (go_at_call 23; refine ((unhide HA) _ (by exact rfl) ((KB.refl _ _).drew)).mono ?_; rintro e w1 ⟨v', rfl, h1, h2, h3⟩; obtain ⟨a', n', c', hv'⟩ := h1.kind; subst hv'; have d1 := (h2.cell (i := 1) (by exact (unhide HI).lt) (unhide HN)).trans c1; have g1 := (h2.frozen (i := 1) (by exact (unhide HI).lt) (unhide HN)).trans f1; have d0 := (h2.cell (i := 0) (by exact (unhide HI).lt) (unhide HN)).trans c0; have g0 := (h2.frozen (i := 0) (by exact (unhide HI).lt) (unhide HN)).trans f0; have H1 := hide h1; have H2 := hide h2; have H3 := hide h3; have HI1 := hide (World.rowIs.of_block (unhide HI) (h2.kept I (by exact (unhide HI).lt) (unhide HN))); clear h1 h2 h3)
  all_goals
    go_wp2
    go_ret
    exact ⟨rfl, _, int_done (unhide HI1) (unhide H1) (((KB.refl _ _).drew).trans (unhide H2) (fun _ _ h => h)) (unhide H3)⟩

set_option maxRecDepth 20000 in
set_option maxHeartbeats 400000 in
theorem SetU64_new (I x : Nat) (w : World) (hx : x < 18446744073709551616) (hI : IntAt w I (.slice none 0 0)) :
    Calls Yba.prog 7 #[.pointer (some ⟨I, 0, none⟩), .int .u64 (x : Int)] w fun e w' =>
      e = .returned (.pointer (some ⟨I, 0, none⟩)) ∧ KB (fun b => b = I) w w' ∧ ∃ yv, IntAt w' I yv ∧ ((yv = .slice none 0 0 ∧ x = 0) ∨ ∃ gy cy, yv = .slice (some ⟨gy, 0, none⟩) 1 cy ∧ 1 ≤ cy ∧ cy ≤ 5 ∧ x ≠ 0 ∧ WRow w' gy cy (fun j => if j = 0 then x else 0) ∧ w.heap.size ≤ gy) := by
  have c1 := hI.c1
  have c0 := hI.c0
  have f1 := World.rowIs.frozen hI 1
  have f0 := World.rowIs.frozen hI 0
  have HI := hide hI
  have HX := hide hx
  clear hI hx
  go_enter Yba.func7, Yba.ntmps7
  go_wp2_with fail
  refine (setU64_nil x _ (unhide HX)).mono ?_
  rintro e w1 ⟨hk, hres⟩
  have d1 := (hk.cell (i := 1) (unhide HI).lt (fun h => h)).trans c1
  have g1 := (hk.frozen (i := 1) (unhide HI).lt (fun h => h)).trans f1
  have d0 := (hk.cell (i := 0) (unhide HI).lt (fun h => h)).trans c0
  have g0 := (hk.frozen (i := 0) (unhide HI).lt (fun h => h)).trans f0
  have HI1 := hide (World.rowIs.of_block (unhide HI) (hk.kept I (unhide HI).lt (fun h => h)))
  have HK := hide hk
  clear c1 c0 f1 f0 hk
  rcases hres with ⟨h0, rfl⟩ | ⟨h0, cz, rfl, h1, h2, h3⟩
  · have H0 := hide h0
    clear h0
    go_wp2
    go_ret
    have hk2 := (((unhide HK).mono (S' := fun b => b = I) (fun _ _ h => h.elim)).setCell ⟨I, 1, none⟩ (.slice none 0 0) (fun _ => rfl)).setCell ⟨I, 0, none⟩ (.bool false) (fun _ => rfl)
    exact ⟨rfl, hk2, .slice none 0 0, IntAt.set (unhide HI1) _, .inl ⟨rfl, unhide H0⟩⟩
  · have H0 := hide h0
    have H3 := hide h3
    clear h0 h3
    go_wp2
    go_ret
    have hk2 := (((unhide HK).mono (S' := fun b => b = I) (fun _ _ h => h.elim)).setCell ⟨I, 1, none⟩ (.slice (some ⟨w.heap.size, 0, none⟩) 1 cz) (fun _ => rfl)).setCell ⟨I, 0, none⟩ (.bool false) (fun _ => rfl)
    have hne : w.heap.size ≠ I := by have := (unhide HI).lt; omega
    exact ⟨rfl, hk2, _, IntAt.set (unhide HI1) _, .inr ⟨w.heap.size, cz, rfl, h1, h2, unhide H0, ((unhide H3).setOther (by exact hne) _).setOther (by exact hne) _, Nat.le_refl _⟩⟩
end Go.Proofs.Ybulkctsy
