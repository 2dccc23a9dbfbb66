/-
  THE LAW 'MODEL': its walk at an empty value that is not nil; all inputs together.
-/
import Derived.Test.YbulkctnaFmtM3
namespace Go.Proofs.YbulkctnaFmt
open Go.RowKit Go.Extern.Stop Go.Stop Go.Extern
set_option linter.unusedVariables false

theorem bcells_nil (w : World) (ad : Option Addr) : BCells w ad [] := fun i hi => by simp at hi

set_option maxRecDepth 20000 in
set_option maxHeartbeats 1600000 in
theorem law_zero_in (F : Interp) (a0 a1 : Int) (h00 : 0 ≤ a0) (h01 : a0 ≤ 255) (h10 : 0 ≤ a1) (h11 : a1 ≤ 65535) (hs : a0 % 12 < 10) (x : Addr) (cap : Nat) (w : World) (hE : Env F w) :
    Calls Ybaf.prog 3 #[.int .u8 a0, .int .u16 a1, .slice (some x) 0 cap] w fun e w' => e = .returned (.bool true) ∧ Below w.heap.size w w' := by
  obtain ⟨i0, hi, hz0, hz1, hz2⟩ := info_parts Ybaf.info5
  have hbA : Below w.heap.size w (w.alloc (.cells tenKeys 24)) := (Below.refl _ _).alloc (Nat.le_refl _) _
  have HE := hide hE
  clear hE
  obtain ⟨m, hm⟩ : ∃ m : Nat, a0 % 12 = (m : Int) := ⟨(a0 % 12).toNat, by omega⟩
  have hm10 : (m : Int) < 10 := by omega
  obtain ⟨k, hk0, hk1, hget⟩ := keys_get m (by omega)
  clear hs
  have hrun := fun w1 g ty => run_copy_none (P := Ybaf.prog) w1 23 23 ty 5 (some ⟨g, 0, none⟩) (some x) 0 0 0 cap Ybaf.underlying23 sz5 rfl
  go_enter Ybaf.func3, Ybaf.ntmps3
  go_wp2_with (at_make; refine wpList_make_full _ rfl _ _ 23 rfl (w.heap.size + 1) 5 i0 (.int .u8 0) 1 Ybaf.underlying23 hi hz0 hz1 .i64 .i64 _ _ 0 rfl rfl rfl rfl (by rw [hz2]; omega) (by unfold maxLen; omega) (by simp) ?_; intro w1 hown1 hgrow1; have hb1 := grown_none hgrow1; simp only [World.size_alloc] at hb1; clear hown1 hgrow1)
  have hb02 : Below w.heap.size w w1 := hbA.trans (hb1.mono (by simp))
  have hE2 := (unhide HE).below hb02
  clear hrun hb1
  refine (check_any F k hk0 hk1 _ 0 _ [] rfl (by omega) (Nat.le_refl _) _ hE2 (bcells_nil _ _)).mono ?_
  rintro e w3 ⟨hres, hb3⟩
  have hb03 := hb02.trans (hb3.mono hb02.size)
  clear hb3 hE2
  rcases hres with ⟨hok, rfl⟩ | ⟨hok, p, rfl⟩
  all_goals
    have HOK := hide hok
    clear hok
    go_wp2_with fail
    refine (model_any k hk0 hk1 _ 0 _ [] rfl (by omega) _ (bcells_nil _ _)).mono ?_
    rintro e w4 ⟨rfl, hb4⟩
    rw [unhide HOK]
    have hb04 := hb03.trans (hb4.mono hb03.size)
    clear hb4
    go_wp2
    refine wp_loop_rounds 1 ?_
    rw [rounds_succ]
    go_wp2
    go_ret
    exact ⟨rfl, hb04⟩
set_option maxRecDepth 20000 in
set_option maxHeartbeats 1600000 in
theorem law_zero_out (F : Interp) (a0 a1 : Int) (h00 : 0 ≤ a0) (h01 : a0 ≤ 255) (h10 : 0 ≤ a1) (h11 : a1 ≤ 65535) (hs : ¬ a0 % 12 < 10) (x : Addr) (cap : Nat) (w : World) (hE : Env F w) :
    Calls Ybaf.prog 3 #[.int .u8 a0, .int .u16 a1, .slice (some x) 0 cap] w fun e w' => e = .returned (.bool true) ∧ Below w.heap.size w w' := by
  obtain ⟨i0, hi, hz0, hz1, hz2⟩ := info_parts Ybaf.info5
  have hbA : Below w.heap.size w (w.alloc (.cells tenKeys 24)) := (Below.refl _ _).alloc (Nat.le_refl _) _
  have HE := hide hE
  clear hE
  have hk0 := h10
  have hk1 := h11
  have hrun := fun w1 g ty => run_copy_none (P := Ybaf.prog) w1 23 23 ty 5 (some ⟨g, 0, none⟩) (some x) 0 0 0 cap Ybaf.underlying23 sz5 rfl
  go_enter Ybaf.func3, Ybaf.ntmps3
  go_wp2_with (at_make; refine wpList_make_full _ rfl _ _ 23 rfl (w.heap.size + 1) 5 i0 (.int .u8 0) 1 Ybaf.underlying23 hi hz0 hz1 .i64 .i64 _ _ 0 rfl rfl rfl rfl (by rw [hz2]; omega) (by unfold maxLen; omega) (by simp) ?_; intro w1 hown1 hgrow1; have hb1 := grown_none hgrow1; simp only [World.size_alloc] at hb1; clear hown1 hgrow1)
  have hb02 : Below w.heap.size w w1 := hbA.trans (hb1.mono (by simp))
  have hE2 := (unhide HE).below hb02
  clear hrun hb1
  refine (check_any F a1 hk0 hk1 _ 0 _ [] rfl (by omega) (Nat.le_refl _) _ hE2 (bcells_nil _ _)).mono ?_
  rintro e w3 ⟨hres, hb3⟩
  have hb03 := hb02.trans (hb3.mono hb02.size)
  clear hb3 hE2
  rcases hres with ⟨hok, rfl⟩ | ⟨hok, p, rfl⟩
  all_goals
    have HOK := hide hok
    clear hok
    go_wp2_with fail
    refine (model_any a1 hk0 hk1 _ 0 _ [] rfl (by omega) _ (bcells_nil _ _)).mono ?_
    rintro e w4 ⟨rfl, hb4⟩
    rw [unhide HOK]
    have hb04 := hb03.trans (hb4.mono hb03.size)
    clear hb4
    go_wp2
    refine wp_loop_rounds 1 ?_
    rw [rounds_succ]
    go_wp2
    go_ret
    exact ⟨rfl, hb04⟩

theorem model_walk (F : Interp) (a0 a1 : Int) (w0 : (Lit.int .u8 a0).wf = true) (w1 : (Lit.int .u16 a1).wf = true) (ad : Option Addr) (n cap : Nat) (l : Svc.Bytes) (hl : l.length = n) (hnil : ad = none → n = 0 ∧ cap = 0) (w : World) (hE : Env F w) (hC : BCells w ad l) :
    Calls Ybaf.prog 3 #[.int .u8 a0, .int .u16 a1, .slice ad n cap] w fun e w' => e = .returned (.bool true) ∧ Below w.heap.size w w' := by
  have b0 : 0 ≤ a0 ∧ a0 ≤ 255 := by
    simp only [Lit.wf, IntKind.min, IntKind.max, IntKind.signed, IntKind.bits, Bool.and_eq_true] at w0
    simpa using w0
  have b1 : 0 ≤ a1 ∧ a1 ≤ 65535 := by
    simp only [Lit.wf, IntKind.min, IntKind.max, IntKind.signed, IntKind.bits, Bool.and_eq_true] at w1
    simpa using w1
  by_cases h : 4096 < n
  · exact law_long a0 a1 ad n cap w h
  cases ad with
  | none =>
    obtain ⟨rfl, rfl⟩ := hnil rfl
    by_cases hs : a0 % 12 < 10
    · exact law_nil_in F a0 a1 b0.1 b0.2 b1.1 b1.2 hs w hE
    · exact law_nil_out F a0 a1 b0.1 b0.2 b1.1 b1.2 hs w hE
  | some x =>
    by_cases h0 : n = 0
    · subst h0
      by_cases hs : a0 % 12 < 10
      · exact law_zero_in F a0 a1 b0.1 b0.2 b1.1 b1.2 hs x cap w hE
      · exact law_zero_out F a0 a1 b0.1 b0.2 b1.1 b1.2 hs x cap w hE
    · subst hl
      obtain ⟨b, off, e, _, _⟩ := hC 0 (by omega)
      obtain rfl := Option.some.inj e
      by_cases hs : a0 % 12 < 10
      · exact law_some_in F a0 a1 b0.1 b0.2 b1.1 b1.2 hs b off cap l (by omega) w hE hC
      · exact law_some_out F a0 a1 b0.1 b0.2 b1.1 b1.2 hs b off cap l (by omega) w hE hC
end Go.Proofs.YbulkctnaFmt
