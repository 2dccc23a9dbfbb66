/-
  THE WALKS, 1: the two 'lower's.
-/
import Derived.Test.YbulkctnaRows
import Derived.Test.YbulkctnaPlain
import Derived.WalkKit
import Derived.WalkSpells
import Derived.WalkLawsBesides
import Derived.Deep.QuietTactic
import Derived.BigQuiet
namespace Go.Proofs.Ybulkctna
open Go.RowKit

theorem hide {p : Prop} (h : p) : Hid p := h
theorem unhide {p : Prop} (h : Hid p) : p := h

/-- 'low' on numbers. -/
def lowZ (n : Int) : Int := if 65 ≤ n ∧ n ≤ 90 then n + 32 else n
theorem lowZ_low (c : UInt8) : lowZ (c.toNat : Int) = ((Dns.low c).toNat : Int) := by
  unfold lowZ Dns.low
  by_cases h : 65 ≤ c.toNat ∧ c.toNat ≤ 90
  · rw [if_pos (by omega), if_pos h]
    have : (c + 32).toNat = c.toNat + 32 := by rw [UInt8.toNat_add]; simp; omega
    omega
  · rw [if_neg (by omega), if_neg h]

set_option maxHeartbeats 400000 in
theorem lower_any (n : Int) (h0 : 0 ≤ n) (h1 : n ≤ 255) (w : World) :
    Calls Yba.prog 15 #[.int .u8 n] w fun e w' => e = .returned (.int .u8 (lowZ n)) ∧ w' = w := by
  by_cases h : 65 ≤ n
  · by_cases h2 : n ≤ 90
    · have e : lowZ n = n + 97 - 65 := by unfold lowZ; rw [if_pos ⟨h, h2⟩]; omega
      have E := hide e
      clear e
      go_enter Yba.func15, Yba.ntmps15
      go_wp2
      go_ret
      exact ⟨by rw [unhide E]; rfl, rfl⟩
    · have e : lowZ n = n := by unfold lowZ; rw [if_neg (by omega)]
      have E := hide e
      clear e
      go_enter Yba.func15, Yba.ntmps15
      go_wp2
      go_ret
      exact ⟨by rw [unhide E]; rfl, rfl⟩
  · have e : lowZ n = n := by unfold lowZ; rw [if_neg (by omega)]
    have E := hide e
    clear e
    go_enter Yba.func15, Yba.ntmps15
    go_wp2
    go_ret
    exact ⟨by rw [unhide E]; rfl, rfl⟩

set_option maxHeartbeats 400000 in
theorem blow_any (n : Int) (h0 : 0 ≤ n) (h1 : n ≤ 255) (w : World) :
    Calls Yba.prog 11 #[.int .u8 n] w fun e w' => e = .returned (.int .u8 (lowZ n)) ∧ w' = w := by
  by_cases h : 65 ≤ n
  · by_cases h2 : n ≤ 90
    · have e : lowZ n = n + 32 := by unfold lowZ; rw [if_pos ⟨h, h2⟩]
      have E := hide e
      clear e
      go_enter Yba.func11, Yba.ntmps11
      go_wp2
      go_ret
      exact ⟨by rw [unhide E]; rfl, rfl⟩
    · have e : lowZ n = n := by unfold lowZ; rw [if_neg (by omega)]
      have E := hide e
      clear e
      go_enter Yba.func11, Yba.ntmps11
      go_wp2
      go_ret
      exact ⟨by rw [unhide E]; rfl, rfl⟩
  · have e : lowZ n = n := by unfold lowZ; rw [if_neg (by omega)]
    have E := hide e
    clear e
    go_enter Yba.func11, Yba.ntmps11
    go_wp2
    go_ret
    exact ⟨by rw [unhide E]; rfl, rfl⟩
theorem lower_byte (c : UInt8) (w : World) :
    Calls Yba.prog 15 #[.int .u8 (c.toNat : Int)] w fun e w' => e = .returned (.int .u8 (lowZ (c.toNat : Int))) ∧ w' = w :=
  lower_any _ (by omega) (by have := c.toNat_lt; omega) w
theorem blow_byte (c : UInt8) (w : World) :
    Calls Yba.prog 11 #[.int .u8 (c.toNat : Int)] w fun e w' => e = .returned (.int .u8 (lowZ (c.toNat : Int))) ∧ w' = w :=
  blow_any _ (by omega) (by have := c.toNat_lt; omega) w
end Go.Proofs.Ybulkctna
