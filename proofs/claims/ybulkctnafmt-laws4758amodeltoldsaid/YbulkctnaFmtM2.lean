/-
  THE LAW 'MODEL': its walk.
-/
import Derived.Test.YbulkctnaFmtM1
import Derived.Test.YbulkctnaFmtB1
import Derived.Laws.CopyOwn
namespace Go.Proofs.YbulkctnaFmt
open Go.RowKit Go.Extern.Stop Go.Stop Go.Extern
set_option linter.unusedVariables false

set_option maxHeartbeats 400000 in
theorem law_long (a0 a1 : Int) (ad : Option Addr) (n c : Nat) (w : World) (h : 4096 < n) :
    Calls Ybaf.prog 3 #[.int .u8 a0, .int .u16 a1, .slice ad n c] w fun e w' => e = .returned (.bool true) ∧ Below w.heap.size w w' := by
  have hZ : (4096 : Int) < (n : Int) := by omega
  go_enter Ybaf.func3, Ybaf.ntmps3
  go_wp2
  go_ret
  exact ⟨rfl, Below.refl _ _⟩

/-- The ten keys that the law lists. -/
abbrev tenKeys : Array Value := #[.int .u16 0, .int .u16 1, .int .u16 2, .int .u16 3, .int .u16 4, .int .u16 5, .int .u16 6, .int .u16 7, .int .u16 8, .int .u16 65535]
theorem keys_get (m : Nat) (h : m < 10) : ∃ k : Int, 0 ≤ k ∧ k ≤ 65535 ∧ tenKeys[m]? = some (.int .u16 k) := by
  match m, h with
  | 0, _ => exact ⟨0, by omega, by omega, rfl⟩
  | 1, _ => exact ⟨1, by omega, by omega, rfl⟩
  | 2, _ => exact ⟨2, by omega, by omega, rfl⟩
  | 3, _ => exact ⟨3, by omega, by omega, rfl⟩
  | 4, _ => exact ⟨4, by omega, by omega, rfl⟩
  | 5, _ => exact ⟨5, by omega, by omega, rfl⟩
  | 6, _ => exact ⟨6, by omega, by omega, rfl⟩
  | 7, _ => exact ⟨7, by omega, by omega, rfl⟩
  | 8, _ => exact ⟨8, by omega, by omega, rfl⟩
  | 9, _ => exact ⟨65535, by omega, by omega, rfl⟩

set_option maxRecDepth 20000 in
set_option maxHeartbeats 800000 in
theorem law_nil_in (F : Interp) (a0 a1 : Int) (h00 : 0 ≤ a0) (h01 : a0 ≤ 255) (h10 : 0 ≤ a1) (h11 : a1 ≤ 65535) (hs : a0 % 12 < 10) (w : World) (hE : Env F w) :
    Calls Ybaf.prog 3 #[.int .u8 a0, .int .u16 a1, .slice none 0 0] w fun e w' => e = .returned (.bool true) ∧ Below w.heap.size w w' := by
  have hbA : Below w.heap.size w (w.alloc (.cells tenKeys 24)) := (Below.refl _ _).alloc (Nat.le_refl _) _
  have HE := hide (hE.below hbA)
  clear hE
  obtain ⟨m, hm⟩ : ∃ m : Nat, a0 % 12 = (m : Int) := ⟨(a0 % 12).toNat, by omega⟩
  have hm10 : (m : Int) < 10 := by omega
  obtain ⟨k, hk0, hk1, hget⟩ := keys_get m (by omega)
  clear hs
  go_enter Ybaf.func3, Ybaf.ntmps3
  go_wp2_with fail
  refine (check_any F k hk0 hk1 none 0 0 [] rfl (by omega) (Nat.le_refl _) _ (by exact unhide HE) (fun i hi => by simp at hi)).mono ?_
  rintro e w1 ⟨hres, hb1⟩
  have hb01 : Below w.heap.size w w1 := hbA.trans (hb1.mono (by simp))
  clear hb1
  rcases hres with ⟨hok, rfl⟩ | ⟨hok, p, rfl⟩
  all_goals
    have HOK := hide hok
    clear hok
    go_wp2_with fail
    refine (model_any k hk0 hk1 none 0 0 [] rfl (by omega) _ (fun i hi => by simp at hi)).mono ?_
    rintro e w2 ⟨rfl, hb2⟩
    rw [unhide HOK]
    have hb02 := hb01.trans (hb2.mono hb01.size)
    clear hb2
    go_wp2
    refine wp_loop_rounds 1 ?_
    rw [rounds_succ]
    go_wp2
    go_ret
    exact ⟨rfl, hb02⟩
set_option maxRecDepth 20000 in
set_option maxHeartbeats 800000 in
theorem law_nil_out (F : Interp) (a0 a1 : Int) (h00 : 0 ≤ a0) (h01 : a0 ≤ 255) (h10 : 0 ≤ a1) (h11 : a1 ≤ 65535) (hs : ¬ a0 % 12 < 10) (w : World) (hE : Env F w) :
    Calls Ybaf.prog 3 #[.int .u8 a0, .int .u16 a1, .slice none 0 0] w fun e w' => e = .returned (.bool true) ∧ Below w.heap.size w w' := by
  have hbA : Below w.heap.size w (w.alloc (.cells tenKeys 24)) := (Below.refl _ _).alloc (Nat.le_refl _) _
  have HE := hide (hE.below hbA)
  clear hE
  have hk0 := h10
  have hk1 := h11
  go_enter Ybaf.func3, Ybaf.ntmps3
  go_wp2_with fail
  refine (check_any F a1 hk0 hk1 none 0 0 [] rfl (by omega) (Nat.le_refl _) _ (by exact unhide HE) (fun i hi => by simp at hi)).mono ?_
  rintro e w1 ⟨hres, hb1⟩
  have hb01 : Below w.heap.size w w1 := hbA.trans (hb1.mono (by simp))
  clear hb1
  rcases hres with ⟨hok, rfl⟩ | ⟨hok, p, rfl⟩
  all_goals
    have HOK := hide hok
    clear hok
    go_wp2_with fail
    refine (model_any a1 hk0 hk1 none 0 0 [] rfl (by omega) _ (fun i hi => by simp at hi)).mono ?_
    rintro e w2 ⟨rfl, hb2⟩
    rw [unhide HOK]
    have hb02 := hb01.trans (hb2.mono hb01.size)
    clear hb2
    go_wp2
    refine wp_loop_rounds 1 ?_
    rw [rounds_succ]
    go_wp2
    go_ret
    exact ⟨rfl, hb02⟩
end Go.Proofs.YbulkctnaFmt
