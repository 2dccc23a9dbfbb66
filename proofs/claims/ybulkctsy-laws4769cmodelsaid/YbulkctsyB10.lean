/-
  big.Int's Add: its walk.
-/
import Derived.Test.YbulkctsyB9
namespace Go.Proofs.Ybulkctsy
open Go.RowKit
set_option linter.unusedVariables false

set_option maxRecDepth 20000 in
set_option maxHeartbeats 800000 in
theorem Add_any (I J N Y : Nat) (v yv : Value) (hIJ : I ≠ J) (hN : N < 18446744073709551616 ^ 3000) (w : World) (hI : IntAt w I v) (hJ : IntAt w J yv) (h : NatV w v N) (hy : One w v yv Y) (hyk : ∃ a n c, yv = .slice a n c) :
    Calls Yba.prog 6 #[.pointer (some ⟨I, 0, none⟩), .pointer (some ⟨I, 0, none⟩), .pointer (some ⟨J, 0, none⟩)] w fun e w' =>
      e = .returned (.pointer (some ⟨I, 0, none⟩)) ∧ ∃ v', IntAt w' I v' ∧ NatV w' v' (N + Y) ∧ KB (fun b => b = I ∨ Blk v b) w w' ∧ ∀ b, Blk v' b → Blk v b ∨ w.heap.size ≤ b := by
  have hnb := h.not_blk hI (by decide)
  have c1 := hI.c1
  have c0 := hI.c0
  have e1 := hJ.c1
  have e0 := hJ.c0
  have f1 := World.rowIs.frozen hI 1
  have f0 := World.rowIs.frozen hI 0
  have HI := hide hI
  have HA := hide (fun W (hb : KB (fun _ => False) w W) => add_any v yv N Y hN W (h.kb hb (fun _ _ h => h)) (by
    rcases hy with hy | ⟨gy, cy, h1, h2, h3, h4, h5⟩
    · exact .inl hy
    · exact .inr ⟨gy, cy, h1, h2, h3, h4.kb hb (fun h => h), h5⟩))
  obtain ⟨a, n, c, hv⟩ := h.kind
  obtain ⟨ay, ny, cy, hvy⟩ := hyk
  subst hv hvy
  have HN := hide hnb
  clear h hI hnb hN hy hJ
  go_enter Yba.func6, Yba.ntmps6
  go_wp2
  go_quiet (fail)
  have HQ := hide ((KB.refl (fun _ => False) w).drewN nq)
  have HI2 : Hid (IntAt (w.drewN nq) I (.slice a n c)) := HI
  have c1' : (w.drewN nq).cell? ⟨I, 1, none⟩ = some (.slice a n c) := c1
  have c0' : (w.drewN nq).cell? ⟨I, 0, none⟩ = some (.bool false) := c0
  have e1' : (w.drewN nq).cell? ⟨J, 1, none⟩ = some (.slice ay ny cy) := e1
  have f1' : (w.drewN nq).frozen? ⟨I, 1, none⟩ = false := f1
  have f0' : (w.drewN nq).frozen? ⟨I, 0, none⟩ = false := f0
  clear c1 c0 e1 e0 f1 f0 HI
  generalize hw2 : w.drewN nq = w2 at HQ HI2 c1' c0' e1' f1' f0' ⊢
  have hsz : Hid (w2.heap.size = w.heap.size) := hide (by rw [← hw2]; rfl)
  clear hw2
  go_wp2
  go_region_with (go_at_call 19; refine ((unhide HA) _ ((unhide HQ).drew)).mono ?_; rintro e w1 ⟨v', rfl, h1, h2, h3⟩; obtain ⟨a', n', c', hv'⟩ := h1.kind; subst hv'; have d1 := (h2.cell (i := 1) (by exact (unhide HI2).lt) (unhide HN)).trans c1'; have g1 := (h2.frozen (i := 1) (by exact (unhide HI2).lt) (unhide HN)).trans f1'; have d0 := (h2.cell (i := 0) (by exact (unhide HI2).lt) (unhide HN)).trans c0'; have g0 := (h2.frozen (i := 0) (by exact (unhide HI2).lt) (unhide HN)).trans f0'; have H1 := hide h1; have H2 := hide h2; have H3 := hide h3; have HI1 := hide (World.rowIs.of_block (unhide HI2) (h2.kept I (by exact (unhide HI2).lt) (unhide HN))); clear h1 h2 h3)
  all_goals
    have HB := hide (fun b hb => ((unhide H3) b hb).imp id (fun h => Nat.le_trans (Nat.le_of_eq (unhide hsz).symm) h))
    have HKK := hide ((((unhide HQ).mono (S' := Blk (.slice a n c)) (fun _ _ h => h.elim)).drew).trans (unhide H2) (fun _ _ h => h))
    clear H2 H3 c1' c0' e1' f1' f0'
    rcases Nat.eq_zero_or_pos n' with h0 | h0
    · subst h0
      go_wp2
      go_ret
      exact ⟨rfl, _, int_done (unhide HI1) (unhide H1) (unhide HKK) (unhide HB)⟩
    · have hp : (0 : Int) < (n' : Int) := by omega
      go_wp2
      go_ret
      exact ⟨rfl, _, int_done (unhide HI1) (unhide H1) (unhide HKK) (unhide HB)⟩
end Go.Proofs.Ybulkctsy
