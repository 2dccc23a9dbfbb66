/-
  The model law: its walk.
-/
import Derived.Test.YbulkctnoP
namespace Go.Proofs.Ybulkctno
open Go.RowKit
set_option linter.unusedVariables false
set_option maxHeartbeats 400000 in
theorem model_any (v : Int) (x : Int) (g1 : -9223372036854775808 ≤ v) (g2 : v ≤ 9223372036854775807) (hx0 : 0 ≤ x) (hx1 : x < 256) (w : World) :
    Calls Yba.prog 3 #[.int .i64 v, .int .u8 x] w fun e w' => e = .returned (.bool true) ∧ w' = w := by
  have he := hide (ends v g1 g2 (1 + x % 63).toNat (by omega) (by omega) (64 - (1 + x % 63)).toNat (by omega))
  clear g1 g2
  go_enter Yba.func3, Yba.ntmps3
  go_wp2_with fail
  all_goals (refine (roundShift_at v (1 + x % 63) (by omega) (by omega) w).mono ?_; rintro e w1 ⟨rfl, rfl⟩)
  all_goals go_wp2
  all_goals go_ret
  · refine ⟨congrArg (fun b => Ending.returned (.bool b)) (beq_iff_eq.2 ((unhide he).1 ?_ ?_)), rfl⟩ <;> assumption
  · refine ⟨congrArg (fun b => Ending.returned (.bool b)) (beq_iff_eq.2 ((unhide he).2.1 ?_ ?_)), rfl⟩ <;> first | assumption | omega
  · refine ⟨congrArg (fun b => Ending.returned (.bool b)) (beq_iff_eq.2 ((unhide he).2.2.1 ?_ ?_)), rfl⟩ <;> assumption
  · refine ⟨congrArg (fun b => Ending.returned (.bool b)) (beq_iff_eq.2 ((unhide he).2.2.2 ?_ ?_)), rfl⟩ <;> first | assumption | omega
end Go.Proofs.Ybulkctno
