/-
  THE STATEMENT 'Rows.LawS4769CModelSaid', PROVED: the row's frame (the guide's shell, turned to a slice of structs) round the walk of YbulkctsyC16.
-/
import Derived.Test.YbulkctsyL1
namespace Go.Proofs.Ybulkctsy
open Go.ChangeShapes Go.WideShapes Go.ChangeAt Go.RowKit
set_option linter.unusedVariables false

theorem model_walk (a : Option Addr) (n cap : Nat) (bf pf : Nat → Nat) (w : World)
    (hst : ∀ j, j < n → ∃ b off, a = some ⟨b, off, none⟩ ∧ b < w.heap.size ∧ bf j < 256 ∧ pf j < 4294967296 ∧ w.cell? ⟨b, off + j * 2, none⟩ = some (.int .u8 (bf j : Int)) ∧ w.cell? ⟨b, off + j * 2 + 1, none⟩ = some (.int .u32 (pf j : Int))) :
    Calls Yba.prog 3 #[.slice a n cap] w fun e w' => e = .returned (.bool true) ∧ Below w.heap.size w w' := by
  have key : Calls Yba.prog 3 #[.slice a n cap] w fun e w' => e = .returned (.bool true) ∧ KB (fun _ => False) w w' := by
    by_cases h : 1024 < n
    · exact law_long a n cap h w
    · exact law_any a n cap bf pf (by omega) w hst
  exact key.mono fun e w' ⟨h1, h2⟩ => ⟨h1, h2.below (Nat.le_refl _) (fun _ _ h => h)⟩

set_option maxRecDepth 100000 in
theorem model_lifted (os : Os) (started : os.Started) (H : Type) (enc : TypeId × Value → H) :
    ReturnsInHanded {} Yba.checked os 3 .any (Rows.lawS4769CModelSpec.pre6 enc Yba.prog Yba.f3 Rows.lawS4769CModelRow.domain false) (Rows.lawS4769CModelSpec.post enc Yba.prog Yba.f3 false true false false) := by
  refine returnsInHanded_of_change (C := Yba.checked) own started (by kernel_rfl) Yba.func3
    (ChangeSpec.witness6 (enc := enc) (C := Yba.checked) false ⟨#[], #[.slice none 0 0], []⟩ 8 (by kernel_rfl) (by kernel_rfl) (by kernel_rfl) (by kernel_rfl)) ?_
  intro W base args ds gs before hval0 hW hcnd _
  have hval : ∀ (j : Nat) t v, Yba.f3.params[j]? = some t → args[j]? = some v → Value.okWide Yba.prog W .any base t v := hval0
  have hW' := hW
  obtain ⟨p, q, hA0, hV, rfl, hfz, hnd⟩ := hW
  have hA : DataW.TrodAll enc Yba.prog W 0 (fun _ => true) true Yba.f3.params.toList args.toList ds p := hA0
  rw [Yba.params3] at hA hval
  obtain ⟨v0, vs0, d0, ds0, p0, q0, hargs, rfl, rfl, h0, r0⟩ := trodAll_cons hA
  obtain ⟨rfl, rfl, rfl⟩ := trodAll_nil r0
  obtain rfl : args = #[v0] := by cases args; simp_all
  obtain ⟨rfl, rfl⟩ := trodVars_none hV
  obtain ⟨a0, len0, cap0, rfl⟩ := okWide_slice Yba.underlying22 (hval 0 22 v0 rfl rfl)
  have k0 := h0
  have lt0 : ∀ x ∈ p0, x.block < W.heap.size := by obtain ⟨m, hm⟩ := k0; exact DataW.trod_lt m _ _ _ hm
  obtain ⟨bf, pf, hst⟩ := open_steps h0
  clear hA0 hval0
  refine (model_walk a0 len0 cap0 bf pf W hst).mono fun e W' ⟨he, bel⟩ => ?_
  subst he
  exact ⟨_, rfl, _, _, _, [], _, [], hW', trodAll_mk1 (shut_bool Yba.underlying4 _), trodAll_mk1 (Below.trod laidOut (by kernel_rfl) (of_decide_eq_true (by kernel_rfl)) k0 bel lt0), rfl, bel.frame _, fun h => by cases h⟩

theorem model_over : Rows.lawS4769CModelRow.holds Yba.pinned (OpenSpec.ofChange Rows.lawS4769CModelSpec) :=
  OpenClaim.holds_of_wide 3 Yba.f3 rfl rfl rfl rfl rfl rfl rfl ⟨rfl, rfl, rfl, rfl, rfl⟩ rfl rfl rfl rfl rfl (by kernel_rfl) Yba.func3 (by kernel_rfl)
    (of_decide_eq_true (by kernel_rfl)) (by unfold Func.isWrapper; first | (rw [if_pos (by decide +kernel)]; kernel_rfl) | (rw [if_neg (by decide +kernel)]; exact ⟨rfl, rfl⟩))
    (fun os started H enc _ => model_lifted os started H enc)

/-- THE STATEMENT -/
theorem model_proved : Rows.LawS4769CModelSaid := model_over
#print axioms model_proved
end Go.Proofs.Ybulkctsy
