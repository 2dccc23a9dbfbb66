/-
  What the word loops come to as numbers; a nat in memory.
-/
import Derived.Test.YbulkctsyB4
namespace Go.Proofs.Ybulkctsy
open Go.RowKit
set_option linter.unusedVariables false

theorem valF_succ (u : Nat → Nat) (n : Nat) : valF u (n + 1) = valF u n + u n * 18446744073709551616 ^ n := rfl
theorem lsh_word {x s : Nat} (hs : s ≤ 64) : x * 2 ^ s % 18446744073709551616 + x / 2 ^ (64 - s) * 18446744073709551616 = x * 2 ^ s := by
  have e : x * 2 ^ s / 18446744073709551616 = x / 2 ^ (64 - s) := by
    rw [← pow64 s hs, Nat.mul_comm x, Nat.mul_div_mul_left _ _ (Nat.pow_pos (by omega))]
  rw [← e]
  omega

theorem lsh_val (u : Nat → Nat) {s : Nat} (hs : s ≤ 64) : ∀ m, valF (lshF u s) (m + 1) + u m / 2 ^ (64 - s) * 18446744073709551616 ^ (m + 1) = valF u (m + 1) * 2 ^ s
  | 0 => by
    have := lsh_word (x := u 0) hs
    simp only [valF, lshF, Nat.pow_zero, Nat.mul_one, Nat.zero_add, Nat.pow_one]
    exact this
  | m + 1 => by
    have ih := lsh_val u hs m
    have hw := lsh_word (x := u (m + 1)) hs
    rw [valF_succ (lshF u s) (m + 1), valF_succ u (m + 1), lshF]
    rw [Nat.add_mul (valF u (m + 1)), ← ih, Nat.pow_succ 18446744073709551616 (m + 1)]
    generalize 18446744073709551616 ^ (m + 1) = P
    have k1 : u (m + 1) * P * 2 ^ s = (u (m + 1) * 2 ^ s % 18446744073709551616 + u (m + 1) / 2 ^ (64 - s) * 18446744073709551616) * P := by
      rw [hw, Nat.mul_right_comm]
    rw [k1, Nat.add_mul, Nat.add_mul, Nat.mul_comm P, Nat.mul_assoc (u (m + 1) / 2 ^ (64 - s))]
    omega

theorem add_val (u u' : Nat → Nat) (y k0 L : Nat) (h0 : u' 0 + k0 * 18446744073709551616 = u 0 + y) (h : ∀ j, 1 ≤ j → j ≤ L → u' j = (u j + cs u k0 (j - 1)) % 18446744073709551616) :
    ∀ j, j ≤ L → valF u' (j + 1) + cs u k0 j * 18446744073709551616 ^ (j + 1) = valF u (j + 1) + y
  | 0, _ => by
    simp only [valF, cs, Nat.pow_zero, Nat.mul_one, Nat.zero_add, Nat.pow_one]
    exact h0
  | j + 1, hj => by
    have ih := add_val u u' y k0 L h0 h j (by omega)
    have e := h (j + 1) (by omega) hj
    rw [Nat.add_sub_cancel] at e
    rw [valF_succ u' (j + 1), valF_succ u (j + 1), e, cs, Nat.pow_succ 18446744073709551616 (j + 1)]
    have hw : (u (j + 1) + cs u k0 j) % 18446744073709551616 + (u (j + 1) + cs u k0 j) / 18446744073709551616 * 18446744073709551616 = u (j + 1) + cs u k0 j := by omega
    generalize 18446744073709551616 ^ (j + 1) = P at ih ⊢
    have k1 : ((u (j + 1) + cs u k0 j) % 18446744073709551616 + (u (j + 1) + cs u k0 j) / 18446744073709551616 * 18446744073709551616) * P = (u (j + 1) + cs u k0 j) * P := by rw [hw]
    rw [Nat.add_mul, Nat.add_mul, Nat.mul_assoc] at k1
    rw [Nat.mul_comm P]
    omega

theorem val_zero_tail {u : Nat → Nat} {m : Nat} : ∀ n, m ≤ n → (∀ i, m ≤ i → i < n → u i = 0) → valF u n = valF u m
  | 0, h, _ => by obtain rfl : m = 0 := by omega
                  rfl
  | n + 1, h, hz => by
    by_cases e : m = n + 1
    · rw [e]
    · rw [valF, val_zero_tail n (by omega) (fun i h1 h2 => hz i h1 (by omega)), hz n (by omega) (by omega)]
      omega
theorem valF_le {u : Nat → Nat} {m : Nat} : ∀ n, m ≤ n → valF u m ≤ valF u n
  | 0, h => by obtain rfl : m = 0 := by omega
               exact Nat.le_refl _
  | n + 1, h => by
    by_cases e : m = n + 1
    · rw [e]; exact Nat.le_refl _
    · rw [valF]; exact Nat.le_trans (valF_le n (by omega)) (Nat.le_add_right _ _)
theorem top_le {u : Nat → Nat} {n : Nat} (h : u n ≠ 0) : 18446744073709551616 ^ n ≤ valF u (n + 1) := by
  rw [valF]
  have : 1 * 18446744073709551616 ^ n ≤ u n * 18446744073709551616 ^ n := Nat.mul_le_mul_right _ (by omega)
  omega

/-- The value is a slice that begins at block b's first cell. -/
def Blk (v : Value) (b : Nat) : Prop := ∃ n cap, v = .slice (some ⟨b, 0, none⟩) n cap
/-- A nat in memory: the number N. -/
def NatV (w : World) (v : Value) (N : Nat) : Prop :=
  (v = .slice none 0 0 ∧ N = 0) ∨
  ∃ g n cap u, v = .slice (some ⟨g, 0, none⟩) n cap ∧ WRow w g cap u ∧ n ≤ cap ∧ cap ≤ 5000 ∧ valF u n = N ∧ (n = 0 ∨ u (n - 1) ≠ 0)

theorem NatV.kb {w w' : World} {v : Value} {N : Nat} {S : Nat → Prop} (h : NatV w v N) (k : KB S w w') (hs : ∀ b, Blk v b → ¬ S b) : NatV w' v N := by
  rcases h with h | ⟨g, n, cap, u, rfl, h1, h2⟩
  · exact .inl h
  · exact .inr ⟨g, n, cap, u, rfl, h1.kb k (hs g ⟨n, cap, rfl⟩), h2⟩
theorem NatV.lt {w : World} {v : Value} {N b : Nat} (h : NatV w v N) (hb : Blk v b) : b < w.heap.size := by
  obtain ⟨n', cap', rfl⟩ := hb
  rcases h with ⟨h, _⟩ | ⟨g, n, cap, u, h, h1, _⟩
  · cases h
  · simp only [Value.slice.injEq, Option.some.injEq, Addr.mk.injEq, and_true] at h
    rw [h.1]; exact h1.lt
theorem len_le {u : Nat → Nat} {n K N : Nat} (hN : valF u n = N) (hn : n = 0 ∨ u (n - 1) ≠ 0) (hK : N < 18446744073709551616 ^ K) : n ≤ K := by
  rcases hn with rfl | h
  · exact Nat.zero_le _
  · rcases Nat.eq_zero_or_pos n with h0 | h0
    · omega
    · obtain ⟨m, rfl⟩ : ∃ m, n = m + 1 := ⟨n - 1, by omega⟩
      rw [Nat.add_sub_cancel] at h
      have := top_le h
      rw [hN] at this
      have h3 : 18446744073709551616 ^ m < 18446744073709551616 ^ K := by omega
      have := (Nat.pow_lt_pow_iff_right (by omega)).1 h3
      omega
end Go.Proofs.Ybulkctsy
