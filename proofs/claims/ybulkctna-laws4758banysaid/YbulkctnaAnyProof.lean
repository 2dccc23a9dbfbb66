/-
  THE STATEMENT 'Rows.LawS4758BAnySaid', PROVED: the row's frame (the guide's shell, turned to slices of strings) round the walk of YbulkctnaL3.
-/
import Derived.Test.YbulkctnaL3
import Derived.Test.YbulkctnaP0
namespace Go.Proofs.Ybulkctna
open Go.ChangeShapes Go.WideShapes Go.ChangeAt Go.RowKit
set_option linter.unusedVariables false

theorem any_walk (a0 a1 a2 : Option Addr) (n0 n1 n2 c0 c1 c2 : Nat) (N0 S0 W0 : List Dns.Bytes) (w : World)
    (h0 : N0.length = n0) (h1 : S0.length = n1) (h2 : W0.length = n2) (hc0 : Cells w a0 N0) (hc1 : Cells w a1 S0) (hc2 : Cells w a2 W0) :
    Calls Yba.prog 4 #[.slice a0 n0 c0, .slice a1 n1 c1, .slice a2 n2 c2] w fun e w' => e = .returned (.bool true) ∧ Below w.heap.size w w' := by
  by_cases h : 300 < n0 ∨ 300 < n1 ∨ 300 < n2
  · exact any_long a0 a1 a2 n0 n1 n2 c0 c1 c2 w h
  · subst h0 h1 h2
    by_cases hl : (Dns.norm N0).length < (Dns.norm S0).length
    · exact any_less a0 a1 a2 c0 c1 c2 N0 S0 W0 w (by omega) (by omega) (by omega) hc0 hc1 hc2 hl
    · exact any_geq a0 a1 a2 c0 c1 c2 N0 S0 W0 w (by omega) (by omega) (by omega) hc0 hc1 hc2 (by omega)

set_option maxRecDepth 100000 in
theorem any_lifted (os : Os) (started : os.Started) (H : Type) (enc : TypeId × Value → H) :
    ReturnsInHanded {} Yba.checked os 4 .any (Rows.lawS4758BAnySpec.pre6 enc Yba.prog Yba.f4 Rows.lawS4758BAnyRow.domain false) (Rows.lawS4758BAnySpec.post enc Yba.prog Yba.f4 false true false false) := by
  refine returnsInHanded_of_change (C := Yba.checked) own started (by kernel_rfl) Yba.func4
    (ChangeSpec.witness6 (enc := enc) (C := Yba.checked) false ⟨#[], #[.slice none 0 0, .slice none 0 0, .slice none 0 0], []⟩ 8 (by kernel_rfl) (by kernel_rfl) (by kernel_rfl) (by kernel_rfl)) ?_
  intro W base args ds gs before hval0 hW hcnd _
  have hval : ∀ (j : Nat) t v, Yba.f4.params[j]? = some t → args[j]? = some v → Value.okWide Yba.prog W .any base t v := hval0
  have hW' := hW
  obtain ⟨p, q, hA0, hV, rfl, hfz, hnd⟩ := hW
  have hA : DataW.TrodAll enc Yba.prog W 0 (fun _ => true) true Yba.f4.params.toList args.toList ds p := hA0
  rw [Yba.params4] at hA hval
  obtain ⟨v0, vs0, d0, ds0, p0, q0, hargs, rfl, rfl, h0, r0⟩ := trodAll_cons hA
  obtain ⟨v1, vs1, d1, ds1, p1, q1, rfl, rfl, rfl, h1, r1⟩ := trodAll_cons r0
  obtain ⟨v2, vs2, d2, ds2, p2, q2, rfl, rfl, rfl, h2, r2⟩ := trodAll_cons r1
  obtain ⟨rfl, rfl, rfl⟩ := trodAll_nil r2
  obtain rfl : args = #[v0, v1, v2] := by cases args; simp_all
  obtain ⟨rfl, rfl⟩ := trodVars_none hV
  obtain ⟨a0, len0, cap0, rfl⟩ := okWide_slice Yba.underlying22 (hval 0 22 v0 rfl rfl)
  obtain ⟨a1, len1, cap1, rfl⟩ := okWide_slice Yba.underlying22 (hval 1 22 v1 rfl rfl)
  obtain ⟨a2, len2, cap2, rfl⟩ := okWide_slice Yba.underlying22 (hval 2 22 v2 rfl rfl)
  have k0 := h0
  have k1 := h1
  have k2 := h2
  have lt0 : ∀ x ∈ p0, x.block < W.heap.size := by obtain ⟨m, hm⟩ := k0; exact DataW.trod_lt m _ _ _ hm
  have lt1 : ∀ x ∈ p1, x.block < W.heap.size := by obtain ⟨m, hm⟩ := k1; exact DataW.trod_lt m _ _ _ hm
  have lt2 : ∀ x ∈ p2, x.block < W.heap.size := by obtain ⟨m, hm⟩ := k2; exact DataW.trod_lt m _ _ _ hm
  obtain ⟨L0, hL0, hc0⟩ := open_cells h0
  obtain ⟨L1, hL1, hc1⟩ := open_cells h1
  obtain ⟨L2, hL2, hc2⟩ := open_cells h2
  clear hA0 hval0
  refine (any_walk a0 a1 a2 len0 len1 len2 cap0 cap1 cap2 L0 L1 L2 W hL0 hL1 hL2 hc0 hc1 hc2).mono fun e W' ⟨he, bel⟩ => ?_
  subst he
  exact ⟨_, rfl, _, _, _, [], _, [], hW', trodAll_mk1 (shut_bool Yba.underlying4 _), trodAll_mk3 (Below.trod laidOut (by kernel_rfl) (of_decide_eq_true (by kernel_rfl)) k0 bel lt0) (Below.trod laidOut (by kernel_rfl) (of_decide_eq_true (by kernel_rfl)) k1 bel lt1) (Below.trod laidOut (by kernel_rfl) (of_decide_eq_true (by kernel_rfl)) k2 bel lt2), rfl, bel.frame _, fun h => by cases h⟩

theorem any_over : Rows.lawS4758BAnyRow.holds Yba.pinned (OpenSpec.ofChange Rows.lawS4758BAnySpec) :=
  OpenClaim.holds_of_wide 4 Yba.f4 rfl rfl rfl rfl rfl rfl rfl ⟨rfl, rfl, rfl, rfl, rfl⟩ rfl rfl rfl rfl rfl (by kernel_rfl) Yba.func4 (by kernel_rfl)
    (of_decide_eq_true (by kernel_rfl)) (by unfold Func.isWrapper; first | (rw [if_pos (by decide +kernel)]; kernel_rfl) | (rw [if_neg (by decide +kernel)]; exact ⟨rfl, rfl⟩))
    (fun os started H enc _ => any_lifted os started H enc)

/-- THE STATEMENT -/
theorem any_proved : Rows.LawS4758BAnySaid := any_over
#print axioms any_proved
end Go.Proofs.Ybulkctna
