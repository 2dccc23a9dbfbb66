/-
  THE STATEMENT 'Rows.LawS4758BBelowSaid', PROVED: the row's frame (the guide's shell, turned to slices of strings) round the walk of YbulkctnaL1.
-/
import Derived.Test.YbulkctnaL1
import Derived.Test.YbulkctnaP0
namespace Go.Proofs.Ybulkctna
open Go.ChangeShapes Go.WideShapes Go.ChangeAt Go.RowKit
set_option linter.unusedVariables false

theorem below_walk (a0 a1 a2 : Option Addr) (n0 n1 n2 c0 c1 c2 : Nat) (P0 S0 W0 : List Dns.Bytes) (mask : Int) (hm : (Lit.int .u64 mask).wf = true) (w : World)
    (h0 : P0.length = n0) (h1 : S0.length = n1) (h2 : W0.length = n2) (hc0 : Cells w a0 P0) (hc1 : Cells w a1 S0) (hc2 : Cells w a2 W0) :
    Calls Yba.prog 3 #[.slice a0 n0 c0, .slice a1 n1 c1, .slice a2 n2 c2, .int .u64 mask] w fun e w' => e = .returned (.bool true) ∧ Below w.heap.size w w' := by
  have hmb : 0 ≤ mask ∧ mask ≤ 18446744073709551615 := by
    simp only [Lit.wf, IntKind.min, IntKind.max, IntKind.signed, IntKind.bits, Bool.and_eq_true] at hm
    simpa using hm
  by_cases h : 300 < n0 ∨ 300 < n1 ∨ 300 < n2
  · exact below_long a0 a1 a2 n0 n1 n2 c0 c1 c2 mask w h
  · subst h0 h1 h2
    exact below_short a0 a1 a2 c0 c1 c2 P0 S0 W0 mask hmb.1 hmb.2 w (by omega) (by omega) (by omega) hc0 hc1 hc2

set_option maxRecDepth 100000 in
theorem below_lifted (os : Os) (started : os.Started) (H : Type) (enc : TypeId × Value → H) :
    ReturnsInHanded {} Yba.checked os 3 .any (Rows.lawS4758BBelowSpec.pre6 enc Yba.prog Yba.f3 Rows.lawS4758BBelowRow.domain false) (Rows.lawS4758BBelowSpec.post enc Yba.prog Yba.f3 false true false false) := by
  refine returnsInHanded_of_change (C := Yba.checked) own started (by kernel_rfl) Yba.func3
    (ChangeSpec.witness6 (enc := enc) (C := Yba.checked) false ⟨#[], #[.slice none 0 0, .slice none 0 0, .slice none 0 0, .int .u64 0], []⟩ 8 (by kernel_rfl) (by kernel_rfl) (by kernel_rfl) (by kernel_rfl)) ?_
  intro W base args ds gs before hval0 hW hcnd _
  have hval : ∀ (j : Nat) t v, Yba.f3.params[j]? = some t → args[j]? = some v → Value.okWide Yba.prog W .any base t v := hval0
  have hW' := hW
  obtain ⟨p, q, hA0, hV, rfl, hfz, hnd⟩ := hW
  have hA : DataW.TrodAll enc Yba.prog W 0 (fun _ => true) true Yba.f3.params.toList args.toList ds p := hA0
  rw [Yba.params3] at hA hval
  obtain ⟨v0, vs0, d0, ds0, p0, q0, hargs, rfl, rfl, h0, r0⟩ := trodAll_cons hA
  obtain ⟨v1, vs1, d1, ds1, p1, q1, rfl, rfl, rfl, h1, r1⟩ := trodAll_cons r0
  obtain ⟨v2, vs2, d2, ds2, p2, q2, rfl, rfl, rfl, h2, r2⟩ := trodAll_cons r1
  obtain ⟨v3, vs3, d3, ds3, p3, q3, rfl, rfl, rfl, h3, r3⟩ := trodAll_cons r2
  obtain ⟨rfl, rfl, rfl⟩ := trodAll_nil r3
  obtain rfl : args = #[v0, v1, v2, v3] := by cases args; simp_all
  obtain ⟨rfl, rfl⟩ := trodVars_none hV
  obtain ⟨a0, len0, cap0, rfl⟩ := okWide_slice Yba.underlying22 (hval 0 22 v0 rfl rfl)
  obtain ⟨a1, len1, cap1, rfl⟩ := okWide_slice Yba.underlying22 (hval 1 22 v1 rfl rfl)
  obtain ⟨a2, len2, cap2, rfl⟩ := okWide_slice Yba.underlying22 (hval 2 22 v2 rfl rfl)
  obtain ⟨a3, rfl, rfl, rfl, w3⟩ := open_int Yba.underlying23 (hval 3 23 v3 rfl rfl) h3
  have k0 := h0
  have k1 := h1
  have k2 := h2
  have lt0 : ∀ x ∈ p0, x.block < W.heap.size := by obtain ⟨m, hm⟩ := k0; exact DataW.trod_lt m _ _ _ hm
  have lt1 : ∀ x ∈ p1, x.block < W.heap.size := by obtain ⟨m, hm⟩ := k1; exact DataW.trod_lt m _ _ _ hm
  have lt2 : ∀ x ∈ p2, x.block < W.heap.size := by obtain ⟨m, hm⟩ := k2; exact DataW.trod_lt m _ _ _ hm
  obtain ⟨L0, hL0, hc0⟩ := open_cells h0
  obtain ⟨L1, hL1, hc1⟩ := open_cells h1
  obtain ⟨L2, hL2, hc2⟩ := open_cells h2
  clear hA0 hval0
  refine (below_walk a0 a1 a2 len0 len1 len2 cap0 cap1 cap2 L0 L1 L2 a3 w3 W hL0 hL1 hL2 hc0 hc1 hc2).mono fun e W' ⟨he, bel⟩ => ?_
  subst he
  exact ⟨_, rfl, _, _, _, [], _, [], hW', trodAll_mk1 (shut_bool Yba.underlying4 _), trodAll_mk4 (Below.trod laidOut (by kernel_rfl) (of_decide_eq_true (by kernel_rfl)) k0 bel lt0) (Below.trod laidOut (by kernel_rfl) (of_decide_eq_true (by kernel_rfl)) k1 bel lt1) (Below.trod laidOut (by kernel_rfl) (of_decide_eq_true (by kernel_rfl)) k2 bel lt2) (shut_int Yba.underlying23 w3), rfl, bel.frame _, fun h => by cases h⟩

theorem below_over : Rows.lawS4758BBelowRow.holds Yba.pinned (OpenSpec.ofChange Rows.lawS4758BBelowSpec) :=
  OpenClaim.holds_of_wide 3 Yba.f3 rfl rfl rfl rfl rfl rfl rfl ⟨rfl, rfl, rfl, rfl, rfl⟩ rfl rfl rfl rfl rfl (by kernel_rfl) Yba.func3 (by kernel_rfl)
    (of_decide_eq_true (by kernel_rfl)) (by unfold Func.isWrapper; first | (rw [if_pos (by decide +kernel)]; kernel_rfl) | (rw [if_neg (by decide +kernel)]; exact ⟨rfl, rfl⟩))
    (fun os started H enc _ => below_lifted os started H enc)

/-- THE STATEMENT -/
theorem below_proved : Rows.LawS4758BBelowSaid := below_over
#print axioms below_proved
end Go.Proofs.Ybulkctna
