/-
  shiftLow: its walk.
-/
import Derived.Test.YbulkctsyC4
namespace Go.Proofs.Ybulkctsy
open Go.RowKit
set_option linter.unusedVariables false

theorem and24 (low : Nat) (h : low < 18446744073709551616) : bits .and .u64 (low : Int) 16777215 = ((low % 16777216 : Nat) : Int) := by
  have e : bits .and .u64 (low : Int) ((16777215 : Nat) : Int) = ((low &&& 16777215 : Nat) : Int) := u64_and_nat low 16777215 (by omega) (by omega)
  rw [nat_mask24 low] at e
  exact e

set_option maxRecDepth 20000 in
set_option maxHeartbeats 400000 in
theorem shift_keep (E low rng ca pe : Nat) (st : Bool) (ov : Value) (h1 : 4278190080 ≤ low) (h2 : low ≤ 4294967295) (hpe : pe ≤ 100000) (w : World) (h : EncAt w E low rng st ca pe ov) :
    Calls Yba.prog 25 #[.pointer (some ⟨E, 0, none⟩)] w fun e w' => e = .returned (.tuple #[]) ∧ EncAt w' E (low % 16777216 * 256) rng st ca (pe + 1) ov ∧ KB (fun b => b = E) w w' := by
  obtain ⟨c0, c1, c2, c3, c4, c5⟩ := h.cells
  have f0 := h.frz 0
  have f4 := h.frz 4
  have a1 : ¬ (low : Int) < 4278190080 := by omega
  have a2 : ¬ (4294967295 : Int) < (low : Int) := by omega
  obtain ⟨x, hx⟩ : ∃ x, low % 16777216 = x := ⟨_, rfl⟩
  have hand : bits .and .u64 (low : Int) 16777215 = (x : Int) := by rw [and24 low (by omega), hx]
  have hx2 : x < 16777216 := by omega
  have HX := hide hx
  have H := hide h
  clear hx h c1 c2 c3 c5
  go_enter Yba.func25, Yba.ntmps25
  go_wp2
  go_end0
  rw [unhide HX]
  have e1 := enc_low (enc_pe (unhide H) (pe + 1)) (x * 256)
  have k1 := ((KB.refl (fun b => b = E) w).setCell ⟨E, 4, none⟩ (.int .i64 ((pe + 1 : Nat) : Int)) (fun _ => rfl)).setCell ⟨E, 0, none⟩ (.int .u64 ((x * 256 : Nat) : Int)) (fun _ => rfl)
  exact ⟨rfl, e1, k1⟩
end Go.Proofs.Ybulkctsy
