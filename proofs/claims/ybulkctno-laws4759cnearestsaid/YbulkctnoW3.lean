/-
  The nearest law: its walk.
-/
import Derived.Test.YbulkctnoP
namespace Go.Proofs.Ybulkctno
open Go.RowKit
set_option linter.unusedVariables false
theorem core_near (v H r : Int) (g1 : -9223372036854775808 ≤ v) (g2 : v ≤ 9223372036854775807 - H) (b1 : 1 ≤ H) (b2 : H ≤ 4611686018427387904) (hr : r = wrap64 (v + H) / (2 * H)) :
    -H ≤ wrap64 (IntKind.u64.wrap (IntKind.u64.wrap v - IntKind.u64.wrap (IntKind.u64.wrap r * (2 * H)))) ∧
      wrap64 (IntKind.u64.wrap (IntKind.u64.wrap v - IntKind.u64.wrap (IntKind.u64.wrap r * (2 * H)))) < H := by
  have e0 : wrap64 (v + H) = v + H := by unfold wrap64; omega
  rw [e0] at hr
  have d := Int.mul_ediv_add_emod (v + H) (2 * H)
  have r0 := Int.emod_nonneg (v + H) (b := 2 * H) (by omega)
  have r1 := Int.emod_lt_of_pos (v + H) (b := 2 * H) (by omega)
  rw [← hr] at d
  have e1 : IntKind.u64.wrap (IntKind.u64.wrap r * (2 * H)) = (2 * H * r) % 18446744073709551616 := by
    rw [wrapU, wrapU, Int.mul_emod, Int.emod_emod, ← Int.mul_emod, Int.mul_comm]
  rw [e1, wrapU, wrapU]
  generalize 2 * H * r = K at d ⊢
  unfold wrap64
  omega

theorem near (v : Int) (g1 : -9223372036854775808 ≤ v) (s : Nat) (h1 : 1 ≤ s) (h2 : s ≤ 63)
    (g : v ≤ wrap64 (9223372036854775807 - wrap64 (2 ^ (s - 1)))) :
    wrap64 (-wrap64 (2 ^ (s - 1))) ≤ wrap64 (IntKind.u64.wrap (IntKind.u64.wrap v - IntKind.u64.wrap (IntKind.u64.wrap (wrap64 (v + wrap64 (2 ^ (s - 1))) / 2 ^ s) * 2 ^ s))) ∧
      wrap64 (IntKind.u64.wrap (IntKind.u64.wrap v - IntKind.u64.wrap (IntKind.u64.wrap (wrap64 (v + wrap64 (2 ^ (s - 1))) / 2 ^ s) * 2 ^ s))) < wrap64 (2 ^ (s - 1)) := by
  obtain ⟨H, Q, a1, a2, a3, a4, b1, b2, b3, b4⟩ := powH s h1 h2
  rw [a1] at g
  rw [a1, a2]
  obtain ⟨c1, c2, c3⟩ := wrapH H b1 b2
  have c4 : wrap64 (-H) = -H := by unfold wrap64; omega
  rw [c1, c3] at g
  rw [c1, c4]
  exact core_near v H _ g1 g b1 b2 rfl

set_option maxHeartbeats 400000 in
theorem nearest_any (v : Int) (x : Int) (g1 : -9223372036854775808 ≤ v) (hx0 : 0 ≤ x) (hx1 : x < 256) (w : World) :
    Calls Yba.prog 4 #[.int .i64 v, .int .u8 x] w fun e w' => e = .returned (.bool true) ∧ w' = w := by
  have hn := hide (near v g1 (1 + x % 63).toNat (by omega) (by omega))
  clear g1
  go_enter Yba.func4, Yba.ntmps4
  go_wp2_with fail
  · go_ret
    exact ⟨rfl, rfl⟩
  all_goals (refine (roundShift_at v (1 + x % 63) (by omega) (by omega) w).mono ?_; rintro e w1 ⟨rfl, rfl⟩)
  all_goals go_wp2
  all_goals go_ret
  · refine ⟨congrArg (fun b => Ending.returned (.bool b)) (decide_eq_true ((unhide hn) ?_).2), rfl⟩
    first | assumption | omega
  · exfalso
    have := ((unhide hn) (by first | assumption | omega)).1
    omega
end Go.Proofs.Ybulkctno
