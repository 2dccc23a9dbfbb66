/-
  roundShift: its walk.
-/
import Derived.Test.YbulkctnoRows
import Derived.WalkKit
import Derived.WalkSpells
import Derived.WalkLawsBesides
import Derived.Laws.BitsAllLaws
namespace Go.Proofs.Ybulkctno
open Go.RowKit
set_option linter.unusedVariables false
theorem hide {p : Prop} (h : p) : Hid p := h
theorem unhide {p : Prop} (h : Hid p) : p := h

theorem and63 (n : Nat) (h : n < 64) : bits .and .u64 (n : Int) 63 = (n : Int) := by
  have e : bits .and .u64 (n : Int) ((63 : Nat) : Int) = ((n &&& 63 : Nat) : Int) := u64_and_nat n 63 (by omega) (by omega)
  have f : n &&& 63 = n % 64 := nat_mask6 n
  have g : n % 64 = n := Nat.mod_eq_of_lt h
  rw [f, g] at e
  exact e

theorem andMask (n s : Nat) (h : n < 18446744073709551616) (hs : s < 64) : bits .and .u64 (n : Int) ((2 : Int) ^ s - 1) = ((n % 2 ^ s : Nat) : Int) := by
  have p : 2 ^ s ≤ 2 ^ 63 := Nat.pow_le_pow_right (by omega) (by omega)
  have q : 0 < 2 ^ s := Nat.pow_pos (by omega)
  have e := u64_and_nat n (2 ^ s - 1) h (by omega)
  rw [Nat.and_two_pow_sub_one_eq_mod] at e
  have f : ((2 ^ s - 1 : Nat) : Int) = (2 : Int) ^ s - 1 := by
    rw [Int.ofNat_sub q]; simp
  rw [f] at e
  exact e

set_option maxHeartbeats 400000 in
theorem roundShift_any (v : Int) (s : Nat) (h1 : 1 ≤ s) (h2 : s ≤ 63) (w : World) :
    Calls Yba.prog 5 #[.int .i64 v, .int .u64 (s : Int)] w fun e w' => e = .returned (.int .i64 (wrap64 (v + wrap64 (2 ^ (s - 1))) / 2 ^ s)) ∧ w' = w := by
  have hand1 : bits .and .u64 ((s : Int) - 1) 63 = (s : Int) - 1 := by
    have := and63 (s - 1) (by omega)
    have e : ((s - 1 : Nat) : Int) = (s : Int) - 1 := by omega
    rw [e] at this
    exact this
  have hand2 : bits .and .u64 (s : Int) 63 = (s : Int) := and63 s (by omega)
  go_enter Yba.func5, Yba.ntmps5
  go_wp2
  go_ret
  exact ⟨rfl, rfl⟩

theorem roundShift_at (v t : Int) (h1 : 1 ≤ t) (h2 : t ≤ 63) (w : World) :
    Calls Yba.prog 5 #[.int .i64 v, .int .u64 t] w fun e w' => e = .returned (.int .i64 (wrap64 (v + wrap64 (2 ^ (t.toNat - 1))) / 2 ^ t.toNat)) ∧ w' = w := by
  obtain ⟨s, rfl⟩ : ∃ s : Nat, t = (s : Int) := ⟨t.toNat, by omega⟩
  exact roundShift_any v s (by omega) (by omega) w
end Go.Proofs.Ybulkctno
