/-
  math/bits.Add, nat.norm, addVV at one word.
-/
import Derived.Test.YbulkctsyB0
namespace Go.Proofs.Ybulkctsy
open Go.RowKit
set_option linter.unusedVariables false

theorem add64_runs (x y c s k : Nat) (hc : c ≤ 1) (hs : (x + y + c) % 18446744073709551616 = s) (hk : (x + y + c) / 18446744073709551616 = k) (w : World) :
    (callFunc 42 #[.int .u64 x, .int .u64 y, .int .u64 c]).run Yba.prog w = .ok (.value (.tuple #[.int .u64 (s : Int), .int .u64 (k : Int)])) w := by
  rw [run_callFunc_extern Yba.func42 (by kernel_rfl) (by kernel_rfl) (by kernel_rfl) (e := add64Entry) (by kernel_rfl), run_add64 x y c (by omega) (by omega) (by omega) (by omega)]
  simp only [Result.andThen]
  subst hs hk
  congr 5 <;> omega

theorem bits_add (x y c s k : Nat) (hc : c ≤ 1) (hs : (x + y + c) % 18446744073709551616 = s) (hk : (x + y + c) / 18446744073709551616 = k) (w : World) :
    Calls Yba.prog 32 #[.int .u64 x, .int .u64 y, .int .u64 c] w fun e w' => e = .returned (.tuple #[.int .u64 (s : Int), .int .u64 (k : Int)]) ∧ w' = w := by
  have h := fun w => add64_runs x y c s k hc hs hk w
  clear hs hk
  go_enter Yba.func32, Yba.ntmps32
  go_wp2
  go_ret2
  exact ⟨rfl, rfl⟩

set_option maxRecDepth 20000 in
set_option maxHeartbeats 400000 in
theorem norm_any (g n cap : Nat) (u : Nat → Nat) (hn : n ≤ cap) (hcap : cap ≤ 1000000) (w : World) (hr : WRow w g cap u) :
    Calls Yba.prog 31 #[.slice (some ⟨g, 0, none⟩) n cap] w fun e w' => ∃ m, e = .returned (.slice (some ⟨g, 0, none⟩) m cap) ∧ m ≤ n ∧ (∀ i, m ≤ i → i < n → u i = 0) ∧ (m = 0 ∨ u (m - 1) ≠ 0) ∧ WRow w' g cap u ∧ KB (fun _ => False) w w' := by
  have HR := hide hr
  clear hr
  go_enter Yba.func31, Yba.ntmps31
  go_wp2
  go_loopw [3] (fun t wr => ∃ m : Nat, m ≤ n ∧ t = .int .i64 (m : Int) ∧ Hid ((∀ i, m ≤ i → i < n → u i = 0) ∧ WRow wr g cap u ∧ KB (fun _ => False) w wr)) (fun t _ => (intOf t).toNat)
  case atStart => exact ⟨n, Nat.le_refl _, rfl, hide ⟨fun i h1 h2 => by omega, unhide HR, KB.refl _ _⟩⟩
  case round =>
    obtain ⟨m, hm, rfl, HI⟩ := hrel
    by_cases h0 : m = 0
    · subst h0
      go_wp2
      go_ret
      obtain ⟨h1, h2, h3⟩ := unhide HI
      exact ⟨0, rfl, hm, h1, .inl rfl, h2, h3⟩
    · obtain ⟨k, rfl⟩ : ∃ k, m = k + 1 := ⟨m - 1, by omega⟩
      have hc := (unhide HI).2.1.cell (i := k) (by omega)
      have hkZ : (0 : Int) < ((k + 1 : Nat) : Int) := by omega
      have hkY : (k : Int) < (n : Int) := by omega
      by_cases hu : u k = 0
      · rw [hu] at hc
        go_wp2
        go_roundw
        case rel =>
          obtain ⟨h1, h2, h3⟩ := unhide HI
          refine ⟨k, by omega, rfl, hide ⟨fun i hi hi2 => ?_, h2, h3⟩⟩
          by_cases e : i = k
          · rw [e]; exact hu
          · exact h1 i (by omega) hi2
        case measure => simp [intOf]
      · have hne : ((u k : Int) == 0) = false := by simp; omega
        obtain ⟨x, HX⟩ : ∃ x : Int, Hid ((u k : Int) = x) := ⟨_, hide rfl⟩
        rw [unhide HX] at hc hne
        have HU := hide hu
        clear hu
        go_wp2
        go_ret
        obtain ⟨h1, h2, h3⟩ := unhide HI
        exact ⟨k + 1, rfl, hm, h1, .inr (by simpa using unhide HU), h2, h3⟩

theorem WRow.of_heap {w w' : World} {g cap : Nat} {u : Nat → Nat} (h : WRow w g cap u) (e : w'.heap = w.heap) : WRow w' g cap u := ⟨h.1.of_block (by rw [e]), h.2⟩

set_option maxRecDepth 20000 in
set_option maxHeartbeats 400000 in
/-- addVV at one word. -/
theorem addVV_one (gz gx gy cz cx cy a b s k : Nat) (hs : (a + b) % 18446744073709551616 = s) (hk : (a + b) / 18446744073709551616 = k) (w : World) (z0 : Value)
    (hz : w.cell? ⟨gz, 0, none⟩ = some z0) (hf : w.frozen? ⟨gz, 0, none⟩ = false) (hx : w.cell? ⟨gx, 0, none⟩ = some (.int .u64 (a : Int))) (hy : w.cell? ⟨gy, 0, none⟩ = some (.int .u64 (b : Int))) :
    Calls Yba.prog 13 #[.slice (some ⟨gz, 0, none⟩) 1 cz, .slice (some ⟨gx, 0, none⟩) 1 cx, .slice (some ⟨gy, 0, none⟩) 1 cy] w fun e w' =>
      e = .returned (.int .u64 (k : Int)) ∧ w'.heap = (w.setCell ⟨gz, 0, none⟩ (.int .u64 (s : Int))).heap ∧ KB (fun x => x = gz) w w' := by
  have HA := hide (fun w => bits_add a b 0 s k (by omega) hs hk w)
  clear hs hk
  go_enter Yba.func13, Yba.ntmps13
  go_wp2
  go_loopw [6, 25] (fun c t wr => (t = .int .i64 0 ∧ c = .int .u64 0 ∧ wr = w) ∨ (t = .int .i64 1 ∧ c = .int .u64 (k : Int) ∧ Hid (wr.heap = (w.setCell ⟨gz, 0, none⟩ (.int .u64 (s : Int))).heap ∧ KB (fun x => x = gz) w wr))) (fun _ t _ => 1 - (intOf t).toNat)
  case atStart => exact .inl ⟨rfl, rfl, rfl⟩
  case round =>
    rcases hrel with ⟨rfl, rfl, rfl⟩ | ⟨rfl, rfl, HI⟩
    · go_wp2
      go_quiet ((go_at_call 32; exact Calls.quiet_of_same ((unhide HA) _)))
      go_wp2
      go_roundw
      case rel => exact .inr ⟨rfl, rfl, hide ⟨rfl, ((KB.refl _ _).drewN _).setCell _ _ (fun _ => rfl)⟩⟩
      case measure => simp [intOf]
    · go_wp2
      go_ret
      exact ⟨rfl, (unhide HI).1, (unhide HI).2⟩
end Go.Proofs.Ybulkctsy
