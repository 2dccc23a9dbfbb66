/-
  lshVU: its walk.
-/
import Derived.Test.YbulkctsyB3
namespace Go.Proofs.Ybulkctsy
open Go.RowKit
set_option linter.unusedVariables false

/-- The words, shifted left by s. -/
def lshF (u : Nat → Nat) (s : Nat) : Nat → Nat
  | 0 => u 0 * 2 ^ s % 18446744073709551616
  | j + 1 => u (j + 1) * 2 ^ s % 18446744073709551616 + u j / 2 ^ (64 - s)

theorem pow64 (s : Nat) (hs : s ≤ 64) : 2 ^ s * 2 ^ (64 - s) = 18446744073709551616 := by
  rw [← Nat.pow_add, show s + (64 - s) = 64 by omega]
theorem div_lt_pow {x s : Nat} (hx : x < 18446744073709551616) (hs : s ≤ 64) : x / 2 ^ (64 - s) < 2 ^ s := by
  apply Nat.div_lt_of_lt_mul
  rw [Nat.mul_comm, pow64 s hs]; exact hx
theorem mod_pow {x s : Nat} (hs : s ≤ 64) : x * 2 ^ s % 18446744073709551616 = (x % 2 ^ (64 - s)) * 2 ^ s := by
  rw [← pow64 s hs, Nat.mul_comm x, Nat.mul_mod_mul_left, Nat.mul_comm]
theorem lsh_sum_lt {x y s : Nat} (hy : y < 18446744073709551616) (hs : s ≤ 64) : x * 2 ^ s % 18446744073709551616 + y / 2 ^ (64 - s) < 18446744073709551616 := by
  have h1 := div_lt_pow hy hs
  rw [mod_pow hs]
  have h2 : x % 2 ^ (64 - s) < 2 ^ (64 - s) := Nat.mod_lt _ (Nat.pow_pos (by omega))
  have h3 : (x % 2 ^ (64 - s) + 1) * 2 ^ s ≤ 2 ^ (64 - s) * 2 ^ s := Nat.mul_le_mul_right _ h2
  rw [Nat.mul_comm (2 ^ (64 - s)), pow64 s hs, Nat.add_mul, Nat.one_mul] at h3
  omega
theorem lshF_lt {u : Nat → Nat} (hu : ∀ i, u i < 18446744073709551616) {s : Nat} (hs : s ≤ 64) : ∀ j, lshF u s j < 18446744073709551616
  | 0 => by rw [lshF]; omega
  | j + 1 => by rw [lshF]; exact lsh_sum_lt (hu j) hs
theorem or_join {x y s : Nat} (hy : y < 18446744073709551616) (hs : s ≤ 64) :
    bits .or .u64 ((x * 2 ^ s % 18446744073709551616 : Nat) : Int) ((y / 2 ^ (64 - s) : Nat) : Int) = ((x * 2 ^ s % 18446744073709551616 + y / 2 ^ (64 - s) : Nat) : Int) := by
  have h1 := div_lt_pow hy hs
  have h2 := lsh_sum_lt (x := x) hy hs
  rw [u64_or_nat _ _ (by omega) (by omega), nat_join s _ _ (by rw [mod_pow hs]; exact Nat.mul_mod_left _ _) h1]
theorem and63 (n : Nat) (h : n < 64) : bits .and .u64 (n : Int) 63 = (n : Int) := by
  have e : bits .and .u64 (n : Int) ((63 : Nat) : Int) = ((n &&& 63 : Nat) : Int) := u64_and_nat n 63 (by omega) (by omega)
  rw [nat_mask6 n, Nat.mod_eq_of_lt h] at e
  exact e

/-- The row while the loop runs: words from i on are done, up to m. -/
def lshPart (u uz : Nat → Nat) (s m i : Nat) : Nat → Nat := fun j => if i ≤ j ∧ j < m then lshF u s j else uz j

theorem lshPart_step {u uz : Nat → Nat} {s m i j : Nat} (h : i < m) : (if j = i then lshF u s i else lshPart u uz s m (i + 1) j) = lshPart u uz s m i j := by
  unfold lshPart
  by_cases e : j = i
  · subst e; rw [if_pos rfl, if_pos (by omega)]
  · rw [if_neg e]
    by_cases h1 : i + 1 ≤ j ∧ j < m
    · rw [if_pos h1, if_pos (by omega)]
    · rw [if_neg h1, if_neg (by omega)]

set_option maxRecDepth 20000 in
set_option maxHeartbeats 400000 in
theorem lshVU_any (gz gx m cz cx capz : Nat) (u uz : Nat → Nat) (s : Nat) (hs1 : 1 ≤ s) (hs2 : s ≤ 63) (hm : 1 ≤ m) (hcap : m ≤ capz) (hmax : capz ≤ 100000) (w : World)
    (hz : WRow w gz capz uz) (hu : ∀ i, u i < 18446744073709551616) (hx : ∀ j, j < m → w.cell? ⟨gx, j, none⟩ = some (.int .u64 ((u j : Nat) : Int))) :
    Calls Yba.prog 15 #[.slice (some ⟨gz, 0, none⟩) m cz, .slice (some ⟨gx, 0, none⟩) m cx, .int .u64 (s : Int)] w fun e w' =>
      e = .returned (.int .u64 ((u (m - 1) / 2 ^ (64 - s) : Nat) : Int)) ∧ WRow w' gz capz (lshPart u uz s m 0) ∧ KB (fun x => x = gz) w w' := by
  have ha1 : bits .and .u64 (s : Int) 63 = (s : Int) := and63 s (by omega)
  have ha2 : bits .and .u64 (64 - (s : Int)) 63 = 64 - (s : Int) := by
    have := and63 (64 - s) (by omega)
    rw [show ((64 - s : Nat) : Int) = 64 - (s : Int) by omega] at this
    exact this
  have hmZ : (1 : Int) ≤ (m : Int) := by omega
  have hs0 : ((s : Int) == 0) = false := by simp; omega
  obtain ⟨M, rfl⟩ : ∃ M, m = M + 1 := ⟨m - 1, by omega⟩
  have hxM := hx M (by omega)
  have hM0 : ((M : Int) + 1 == 0) = false := by simp; omega
  have HX := hide hx
  have HU := hide hu
  have HZ := hide hz
  clear hx hu hz
  go_enter Yba.func15, Yba.ntmps15
  go_wp2
  go_loopw [8] (fun t wr => ∃ i : Nat, i ≤ M ∧ t = .int .i64 (i : Int) ∧ Hid (WRow wr gz capz (lshPart u uz s (M + 1) (i + 1)) ∧ (∀ j, j ≤ i → wr.cell? ⟨gx, j, none⟩ = some (.int .u64 ((u j : Nat) : Int))) ∧ KB (fun x => x = gz) w wr)) (fun t _ => (intOf t).toNat)
  case atStart => exact ⟨M, Nat.le_refl _, rfl, hide ⟨(unhide HZ).congr (fun j _ => (if_neg (by omega)).symm) (fun j => by unfold lshPart; rw [if_neg (by omega)]; exact (unhide HZ).2 j), fun j hj => (unhide HX) j (by omega), KB.refl _ _⟩⟩
  case round =>
    obtain ⟨i, hi, rfl, HI⟩ := hrel
    by_cases h0 : i = 0
    · subst h0
      have hx0 := (unhide HI).2.1 0 (by omega)
      have hz0 := (unhide HI).1.cell (i := 0) (by omega)
      have hf0 := (unhide HI).1.frozen 0
      clear hxM
      go_wp2
      go_ret
      obtain ⟨h1, h2, h3⟩ := unhide HI
      have e : IntKind.u64.wrap (((u 0 : Nat) : Int) * 2 ^ s) = ((lshF u s 0 : Nat) : Int) := by
        simp [IntKind.wrap, IntKind.bits, IntKind.signed, lshF]
      rw [e]
      refine ⟨?_, ?_, h3.setCell _ _ (fun _ => rfl)⟩
      · simp
      · refine (h1.set 0 _ (lshF_lt (unhide HU) (by omega) 0)).congr (fun j _ => ?_) (fun j => ?_)
        · exact lshPart_step (by omega)
        · unfold lshPart; split
          · exact lshF_lt (unhide HU) (by omega) j
          · exact (unhide HZ).2 j
    · obtain ⟨k, rfl⟩ : ∃ k, i = k + 1 := ⟨i - 1, by omega⟩
      obtain ⟨x, EX⟩ : ∃ x, Hid (u (k + 1) = x) := ⟨_, hide rfl⟩
      obtain ⟨y, EY⟩ : ∃ y, Hid (u k = y) := ⟨_, hide rfl⟩
      have hx1 := (unhide HI).2.1 (k + 1) (by omega)
      have hx0 := (unhide HI).2.1 k (by omega)
      have hz0 := (unhide HI).1.cell (i := k + 1) (by omega)
      have hf0 := (unhide HI).1.frozen (k + 1)
      rw [unhide EX] at hx1
      rw [unhide EY] at hx0
      have hkZ : (0 : Int) < ((k + 1 : Nat) : Int) := by omega
      have hkY : (k : Int) < (M : Int) := by omega
      have hkX : (0 : Int) ≤ (k : Int) := by omega
      have hwk : IntKind.i64.wrap (((k + 1 : Nat) : Int) - 1) = (k : Int) := by rw [IntWalk.i64_in _ (by omega)]; omega
      have hwk2 : IntKind.i64.wrap (k : Int) = (k : Int) := IntWalk.i64_in _ (by omega)
      have hk1 : (k : Int) + 1 < (M : Int) + 1 := by omega
      have hk2 : (k : Int) < (M : Int) + 1 := by omega
      have hk3 : (0 : Int) ≤ (k : Int) + 1 := by omega
      have hk4 : k < M := by omega
      have hk5 : k < M + 1 := by omega
      clear hxM
      go_wp2
      go_region_with (fail)
      all_goals
        go_wp2
        go_roundw
        case rel =>
          obtain ⟨h1, h2, h3⟩ := unhide HI
          have ex := unhide EX; have ey := unhide EY
          have e : bits BinOp.or IntKind.u64 (IntKind.u64.wrap ((x : Int) * 2 ^ s)) ((y : Int) / 2 ^ (64 - s)) = ((lshF u s (k + 1) : Nat) : Int) := by
            have a1 : IntKind.u64.wrap ((x : Int) * 2 ^ s) = ((x * 2 ^ s % 18446744073709551616 : Nat) : Int) := by
              simp [IntKind.wrap, IntKind.bits, IntKind.signed]
            have a2 : (y : Int) / 2 ^ (64 - s) = ((y / 2 ^ (64 - s) : Nat) : Int) := by simp
            rw [a1, a2, or_join (by rw [← ey]; exact (unhide HU) k) (by omega), lshF, ex, ey]
          rw [e]
          refine ⟨k, by omega, rfl, hide ⟨?_, fun j hj => ?_, (h3.setCell _ _ (fun _ => rfl)).drew⟩⟩
          · refine (((h1.set (k + 1) _ (lshF_lt (unhide HU) (by omega) (k + 1))).congr (fun j _ => lshPart_step (by omega)) (fun j => ?_)).drewN 1)
            unfold lshPart; split
            · exact lshF_lt (unhide HU) (by omega) j
            · exact (unhide HZ).2 j
          · have := h2 j (by omega)
            have ne : (⟨gz, k + 1, none⟩ : Addr) ≠ ⟨gx, j, none⟩ := fun h => by injection h; omega
            exact (World.cell?_setCell_other _ _ _ _ ne).trans this
        case measure => simp [intOf]
end Go.Proofs.Ybulkctsy
