/-
  big.Int's SetBytes: its walk.
-/
import Derived.Test.YbulkctsyC2
namespace Go.Proofs.Ybulkctsy
open Go.RowKit
set_option linter.unusedVariables false

set_option maxRecDepth 20000 in
set_option maxHeartbeats 400000 in
theorem setBytes_zero (a : Option Addr) (cb : Nat) (w : World) :
    Calls Yba.prog 40 #[.slice none 0 0, .slice a 0 cb] w fun e w' => e = .returned (.slice none 0 0) ∧ w' = w := by
  have HM := hide (make_room none 0 0 0 (Nat.le_refl _) w)
  have HN := hide (norm_nil w)
  go_enter Yba.func40, Yba.ntmps40
  go_wp2_with fail
  refine (unhide HM).mono ?_
  rintro e w' ⟨rfl, rfl⟩
  go_wp2
  go_loopw [5, 6] (fun ti tk wr => ti = .int .i64 0 ∧ tk = .int .i64 0 ∧ wr = w') (fun _ _ _ => 0)
  case atStart => exact ⟨rfl, rfl, rfl⟩
  case round =>
    obtain ⟨rfl, rfl, rfl⟩ := hrel
    go_wp2_with fail
    refine (unhide HN).mono ?_
    rintro e w' ⟨rfl, rfl⟩
    go_wp2
    go_ret
    exact ⟨rfl, rfl⟩

/-- nat.setBytes into a new number. -/
theorem setBytes_any (a : Option Addr) (n cb : Nat) (d : Nat → Nat) (hd : ∀ i, d i < 256) (hn2 : n ≤ 20000) (hcb : n ≤ cb) (w : World) (ha : n = 0 ∨ ∃ gb, a = some ⟨gb, 0, none⟩ ∧ gb < w.heap.size ∧ ∀ j, j < n → w.cell? ⟨gb, j, none⟩ = some (.int .u8 ((d j : Nat) : Int))) :
    Calls Yba.prog 40 #[.slice none 0 0, .slice a n cb] w fun e w' => ∃ v, e = .returned v ∧ NatV w' v (bval d n) ∧ KB (fun _ => False) w w' ∧ ∀ b, Blk v b → w.heap.size ≤ b := by
  rcases Nat.eq_zero_or_pos n with h0 | h0
  · subst h0
    refine (setBytes_zero a cb w).mono ?_
    rintro e w' ⟨rfl, rfl⟩
    exact ⟨_, rfl, .inl ⟨rfl, rfl⟩, KB.refl _ _, fun b ⟨_, _, h⟩ => by cases h⟩
  · obtain ⟨gb, rfl, h1, h2⟩ := ha.resolve_left (by omega)
    exact setBytes_some gb n cb d hd h0 hn2 hcb w h1 h2

set_option maxRecDepth 20000 in
set_option maxHeartbeats 400000 in
theorem SetBytes_new (I : Nat) (a : Option Addr) (n cb : Nat) (d : Nat → Nat) (hd : ∀ i, d i < 256) (hn2 : n ≤ 20000) (hcb : n ≤ cb) (w : World) (hI : IntAt w I (.slice none 0 0))
    (ha : n = 0 ∨ ∃ gb, a = some ⟨gb, 0, none⟩ ∧ gb < w.heap.size ∧ ∀ j, j < n → w.cell? ⟨gb, j, none⟩ = some (.int .u8 ((d j : Nat) : Int))) :
    Calls Yba.prog 26 #[.pointer (some ⟨I, 0, none⟩), .slice a n cb] w fun e w' =>
      e = .returned (.pointer (some ⟨I, 0, none⟩)) ∧ ∃ v', IntAt w' I v' ∧ NatV w' v' (bval d n) ∧ KB (fun b => b = I) w w' ∧ ∀ b, Blk v' b → w.heap.size ≤ b := by
  have c1 := hI.c1
  have c0 := hI.c0
  have f1 := World.rowIs.frozen hI 1
  have f0 := World.rowIs.frozen hI 0
  have HI := hide hI
  have HA := hide (setBytes_any a n cb d hd hn2 hcb w ha)
  clear hI ha hd
  go_enter Yba.func26, Yba.ntmps26
  go_wp2_with fail
  refine (unhide HA).mono ?_
  rintro e w1 ⟨v', rfl, h1, hk, h3⟩
  obtain ⟨a', n', c', hv'⟩ := h1.kind
  subst hv'
  have d1 := (hk.cell (i := 1) (unhide HI).lt (fun h => h)).trans c1
  have g1 := (hk.frozen (i := 1) (unhide HI).lt (fun h => h)).trans f1
  have d0 := (hk.cell (i := 0) (unhide HI).lt (fun h => h)).trans c0
  have g0 := (hk.frozen (i := 0) (unhide HI).lt (fun h => h)).trans f0
  have HI1 := hide (World.rowIs.of_block (unhide HI) (hk.kept I (unhide HI).lt (fun h => h)))
  have HK := hide hk; have H1 := hide h1; have H3 := hide h3
  clear c1 c0 f1 f0 hk h1 h3
  go_wp2
  go_ret
  obtain ⟨r1, r2, r3, _⟩ := int_done (v := .slice none 0 0) (unhide HI1) (unhide H1) ((unhide HK).mono (fun _ _ h => h.elim)) (fun b hb => .inr ((unhide H3) b hb))
  exact ⟨rfl, _, r1, r2, r3.mono (fun x _ h => h.elim id (fun ⟨_, _, h⟩ => by cases h)), unhide H3⟩
end Go.Proofs.Ybulkctsy
