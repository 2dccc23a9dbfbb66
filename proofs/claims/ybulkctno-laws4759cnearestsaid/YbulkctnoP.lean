/-
  The plain laws of the rounding shift: integers only.
-/
import Derived.Test.YbulkctnoW1
namespace Go.Proofs.Ybulkctno
open Go.RowKit
set_option linter.unusedVariables false

theorem div_of {P q r n : Int} (h0 : 0 ≤ r) (h1 : r < P) (e : n = P * q + r) : n / P = q := by
  subst e
  rw [Int.add_comm, Int.add_mul_ediv_left _ _ (by omega), Int.ediv_eq_zero_of_lt h0 h1]
  omega

theorem wrapU (n : Int) : IntKind.u64.wrap n = n % 18446744073709551616 := by simp [IntKind.wrap, IntKind.bits, IntKind.signed]

theorem powH (s : Nat) (h1 : 1 ≤ s) (h2 : s ≤ 63) : ∃ H Q : Int, (2 : Int) ^ (s - 1) = H ∧ (2 : Int) ^ s = 2 * H ∧ (2 : Int) ^ (64 - s) = Q
    ∧ 2 * H * Q = 18446744073709551616 ∧ 1 ≤ H ∧ H ≤ 4611686018427387904 ∧ 1 ≤ Q ∧ Q ≤ 9223372036854775808 := by
  have e1 : (2 : Int) ^ s = 2 * 2 ^ (s - 1) := by
    obtain ⟨k, rfl⟩ : ∃ k, s = k + 1 := ⟨s - 1, by omega⟩
    rw [Int.pow_succ, Int.mul_comm]; rfl
  have pos : ∀ k : Nat, (1 : Int) ≤ 2 ^ k := fun k => by
    have : (0 : Int) < 2 ^ k := Int.pow_pos (by omega)
    omega
  have mono : ∀ a b : Nat, a ≤ b → (2 : Int) ^ a ≤ 2 ^ b := fun a b h => by
    have : (2 : Nat) ^ a ≤ 2 ^ b := Nat.pow_le_pow_right (by omega) h
    exact_mod_cast this
  refine ⟨2 ^ (s - 1), 2 ^ (64 - s), rfl, e1, rfl, ?_, pos _, ?_, pos _, ?_⟩
  · rw [← e1, ← Int.pow_add]
    have : s + (64 - s) = 64 := by omega
    rw [this]; rfl
  · have := mono (s - 1) 62 (by omega)
    exact this
  · have := mono (64 - s) 63 (by omega)
    exact this

/-- What the law's text has of the remainder. -/
theorem remOf (v : Int) (s : Nat) (h1 : 1 ≤ s) (h2 : s ≤ 63) :
    bits BinOp.and IntKind.u64 (IntKind.u64.wrap v) (IntKind.u64.wrap (IntKind.u64.wrap (2 ^ s) - 1)) = v % 2 ^ s := by
  obtain ⟨H, Q, a1, a2, a3, a4, b1, b2, b3, b4⟩ := powH s h1 h2
  have c1 : IntKind.u64.wrap (2 ^ s) = 2 ^ s := by rw [wrapU, a2]; omega
  rw [c1]
  have c2 : IntKind.u64.wrap ((2 : Int) ^ s - 1) = 2 ^ s - 1 := by rw [wrapU, a2]; omega
  rw [c2]
  have c3 : 0 ≤ IntKind.u64.wrap v ∧ IntKind.u64.wrap v < 18446744073709551616 := by rw [wrapU]; omega
  obtain ⟨n, hn⟩ : ∃ n : Nat, IntKind.u64.wrap v = (n : Int) := ⟨(IntKind.u64.wrap v).toNat, by omega⟩
  rw [hn]
  have c4 := andMask n s (by omega) (by omega)
  rw [c4]
  have c5 : ((n % 2 ^ s : Nat) : Int) = (n : Int) % 2 ^ s := by simp
  rw [c5, ← hn, wrapU, a2]
  have c6 : (2 * H) ∣ 18446744073709551616 := ⟨Q, a4.symm⟩
  exact Int.emod_emod_of_dvd v c6

theorem core_low (v H : Int) (g1 : -9223372036854775808 ≤ v) (g2 : v ≤ 9223372036854775807 - H) (b1 : 1 ≤ H) (b2 : H ≤ 4611686018427387904) :
    wrap64 (v + H) / (2 * H) = if H ≤ v % (2 * H) then wrap64 (v / (2 * H) + 1) else v / (2 * H) := by
  have e0 : wrap64 (v + H) = v + H := by unfold wrap64; omega
  have d := Int.mul_ediv_add_emod v (2 * H)
  have r0 := Int.emod_nonneg v (b := 2 * H) (by omega)
  have r1 := Int.emod_lt_of_pos v (b := 2 * H) (by omega)
  have q0 : -4611686018427387904 ≤ v / (2 * H) := Int.le_ediv_of_mul_le (by omega) (by omega)
  have q1 : v / (2 * H) < 4611686018427387904 := Int.ediv_lt_of_lt_mul (by omega) (by omega)
  generalize hq : v / (2 * H) = q at d q0 q1 ⊢
  generalize hr : v % (2 * H) = r at d r0 r1 ⊢
  rw [e0]
  have k1 : 2 * H * (q + 1) = 2 * H * q + 2 * H := by rw [Int.mul_add, Int.mul_one]
  split
  · have : wrap64 (q + 1) = q + 1 := by unfold wrap64; omega
    rw [this]
    exact div_of (r := r - H) (by omega) (by omega) (by rw [k1]; omega)
  · exact div_of (r := r + H) (by omega) (by omega) (by omega)

theorem core_high (v H Q : Int) (g1 : 9223372036854775807 - H < v) (g2 : v ≤ 9223372036854775807) (b1 : 1 ≤ H) (b2 : H ≤ 4611686018427387904)
    (b3 : 1 ≤ Q) (b4 : Q ≤ 9223372036854775808) (a4 : 2 * H * Q = 18446744073709551616) :
    wrap64 (v + H) / (2 * H) = wrap64 (IntKind.u64.wrap (IntKind.u64.wrap (if H ≤ v % (2 * H) then wrap64 (v / (2 * H) + 1) else v / (2 * H)) - IntKind.u64.wrap Q)) := by
  have e0 : wrap64 (v + H) = v + H - 18446744073709551616 := by unfold wrap64; omega
  have d := Int.mul_ediv_add_emod v (2 * H)
  have r0 := Int.emod_nonneg v (b := 2 * H) (by omega)
  have r1 := Int.emod_lt_of_pos v (b := 2 * H) (by omega)
  have q0 : 0 ≤ v / (2 * H) := Int.le_ediv_of_mul_le (by omega) (by omega)
  have q1 : v / (2 * H) < 4611686018427387904 := Int.ediv_lt_of_lt_mul (by omega) (by omega)
  generalize hq : v / (2 * H) = q at d q0 q1 ⊢
  generalize hr : v % (2 * H) = r at d r0 r1 ⊢
  rw [e0]
  have k1 : 2 * H * (q + 1 - Q) = 2 * H * q + 2 * H - 2 * H * Q := by rw [Int.mul_sub, Int.mul_add, Int.mul_one]
  have k2 : 2 * H * (q - Q) = 2 * H * q - 2 * H * Q := by rw [Int.mul_sub]
  split
  · have e1 : wrap64 (q + 1) = q + 1 := by unfold wrap64; omega
    have e2 : wrap64 (IntKind.u64.wrap (IntKind.u64.wrap (wrap64 (q + 1)) - IntKind.u64.wrap Q)) = q + 1 - Q := by
      rw [e1, wrapU, wrapU, wrapU]; unfold wrap64; omega
    rw [e2]
    exact div_of (r := r - H) (by omega) (by omega) (by rw [k1, a4]; omega)
  · have e2 : wrap64 (IntKind.u64.wrap (IntKind.u64.wrap q - IntKind.u64.wrap Q)) = q - Q := by
      rw [wrapU, wrapU, wrapU]; unfold wrap64; omega
    rw [e2]
    exact div_of (r := r + H) (by omega) (by omega) (by rw [k2, a4]; omega)

theorem wrapH (H : Int) (b1 : 1 ≤ H) (b2 : H ≤ 4611686018427387904) : wrap64 H = H ∧ IntKind.u64.wrap H = H ∧ wrap64 (9223372036854775807 - H) = 9223372036854775807 - H := by
  refine ⟨?_, ?_, ?_⟩
  · unfold wrap64; omega
  · rw [wrapU]; omega
  · unfold wrap64; omega

/-- The model law's four ends. -/
theorem ends (v : Int) (g1 : -9223372036854775808 ≤ v) (g2 : v ≤ 9223372036854775807) (s : Nat) (h1 : 1 ≤ s) (h2 : s ≤ 63) (z : Nat) (hz : z = 64 - s) :
    (IntKind.u64.wrap (wrap64 (2 ^ (s - 1))) ≤ bits BinOp.and IntKind.u64 (IntKind.u64.wrap v) (IntKind.u64.wrap (IntKind.u64.wrap (2 ^ s) - 1)) →
      wrap64 (9223372036854775807 - wrap64 (2 ^ (s - 1))) < v →
      wrap64 (v + wrap64 (2 ^ (s - 1))) / 2 ^ s = wrap64 (IntKind.u64.wrap (IntKind.u64.wrap (wrap64 (v / 2 ^ s + 1)) - IntKind.u64.wrap (2 ^ z))))
    ∧ (IntKind.u64.wrap (wrap64 (2 ^ (s - 1))) ≤ bits BinOp.and IntKind.u64 (IntKind.u64.wrap v) (IntKind.u64.wrap (IntKind.u64.wrap (2 ^ s) - 1)) →
      v ≤ wrap64 (9223372036854775807 - wrap64 (2 ^ (s - 1))) →
      wrap64 (v + wrap64 (2 ^ (s - 1))) / 2 ^ s = wrap64 (v / 2 ^ s + 1))
    ∧ (bits BinOp.and IntKind.u64 (IntKind.u64.wrap v) (IntKind.u64.wrap (IntKind.u64.wrap (2 ^ s) - 1)) < IntKind.u64.wrap (wrap64 (2 ^ (s - 1))) →
      wrap64 (9223372036854775807 - wrap64 (2 ^ (s - 1))) < v →
      wrap64 (v + wrap64 (2 ^ (s - 1))) / 2 ^ s = wrap64 (IntKind.u64.wrap (IntKind.u64.wrap (v / 2 ^ s) - IntKind.u64.wrap (2 ^ z))))
    ∧ (bits BinOp.and IntKind.u64 (IntKind.u64.wrap v) (IntKind.u64.wrap (IntKind.u64.wrap (2 ^ s) - 1)) < IntKind.u64.wrap (wrap64 (2 ^ (s - 1))) →
      v ≤ wrap64 (9223372036854775807 - wrap64 (2 ^ (s - 1))) →
      wrap64 (v + wrap64 (2 ^ (s - 1))) / 2 ^ s = v / 2 ^ s) := by
  subst hz
  rw [remOf v s h1 h2]
  obtain ⟨H, Q, a1, a2, a3, a4, b1, b2, b3, b4⟩ := powH s h1 h2
  rw [a1, a2, a3]
  obtain ⟨c1, c2, c3⟩ := wrapH H b1 b2
  rw [c1, c2, c3]
  refine ⟨fun p q => ?_, fun p q => ?_, fun p q => ?_, fun p q => ?_⟩
  · have := core_high v H Q q g2 b1 b2 b3 b4 a4
    rw [if_pos p] at this; exact this
  · have := core_low v H g1 q b1 b2
    rw [if_pos p] at this; exact this
  · have := core_high v H Q q g2 b1 b2 b3 b4 a4
    rw [if_neg (by omega)] at this; exact this
  · have := core_low v H g1 q b1 b2
    rw [if_neg (by omega)] at this; exact this
end Go.Proofs.Ybulkctno
