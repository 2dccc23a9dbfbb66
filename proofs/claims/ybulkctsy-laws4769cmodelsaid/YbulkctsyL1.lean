/-
  WHAT THE ROW's PROOF WANTS: a slice of steps that came in, as cells; the law at more than 1024 steps.
-/
import Derived.Test.YbulkctsyC16
import Derived.ProofKit
import Derived.ShutString
import Derived.ChangeOld
import Derived.ChangeSlices
import Derived.Carry
namespace Go.Proofs.Ybulkctsy
open Go.ChangeShapes Go.WideShapes Go.ChangeAt Go.RowKit
set_option linter.unusedVariables false

theorem own : ownKnob Yba.prog.godebug = none := by kernel_rfl
theorem laidOut : laidOutB Yba.prog = true := by kernel_rfl
theorem cells32 : Yba.prog.cellsOf 32 = 2 := by kernel_rfl
theorem cells5 : Yba.prog.cellsOf 5 = 1 := by kernel_rfl
theorem cells30 : Yba.prog.cellsOf 30 = 1 := by kernel_rfl

theorem open_steps {H : Type} {enc : TypeId × Value → H} {W : World} {a : Option Addr} {len cap : Nat} {d : DataW H} {ps : List MemPlace}
    (h : DataW.Trod enc Yba.prog W 0 (fun _ => true) true 22 (.slice a len cap) d ps) :
    ∃ bf pf : Nat → Nat, ∀ j, j < len → ∃ b off, a = some ⟨b, off, none⟩ ∧ b < W.heap.size ∧ bf j < 256 ∧ pf j < 4294967296 ∧ W.cell? ⟨b, off + j * 2, none⟩ = some (.int .u8 (bf j : Int)) ∧ W.cell? ⟨b, off + j * 2 + 1, none⟩ = some (.int .u32 (pf j : Int)) := by
  obtain ⟨fuel, hf⟩ := h
  rcases DataW.trod_slice Yba.underlying22 hf with ⟨hcs, _⟩ | ⟨x, l, c, elems, rest, n, _, hcs, _, _, hl, _, hlen, hel, _, _⟩
  · simp [Value.cells] at hcs
    obtain ⟨rfl, rfl, rfl⟩ := hcs
    exact ⟨fun _ => 0, fun _ => 0, fun j hj => by omega⟩
  · simp [Value.cells] at hcs
    obtain ⟨rfl, rfl, rfl⟩ := hcs
    obtain ⟨b, off, spot⟩ := x
    refine ⟨fun j => (intOf ((W.cell? ⟨b, off + j * 2, none⟩).getD default)).toNat, fun j => (intOf ((W.cell? ⟨b, off + j * 2 + 1, none⟩).getD default)).toNat, fun j hj => ?_⟩
    have hspot : spot = none := by
      have h1 := hel 0 (by omega)
      rw [cells32, List.getElem?_eq_getElem (by omega), Option.bind_eq_some_iff] at h1
      obtain ⟨cs, hc, _⟩ := h1
      obtain ⟨_, hlc, hcell⟩ := World.cells?_some hc
      match cs, hlc with
      | [u0, u1], _ =>
        have := World.cell?_spot ((hcell 0 (by omega)).trans rfl)
        simpa [Addr.add] using this
    subst hspot
    have h1 := hel j hj
    rw [cells32, List.getElem?_eq_getElem (by omega), Option.bind_eq_some_iff] at h1
    obtain ⟨cs, hc, ht⟩ := h1
    obtain ⟨_, hlc, hcell⟩ := World.cells?_some hc
    obtain ⟨y0, y1, m, _, _, t0, t1⟩ := trod_struct2 Yba.underlying32 ht
    match cs, hlc with
    | [u0, u1], _ =>
      simp only [cells5, cells30] at t0 t1
      obtain ⟨n0, e0, _, w0⟩ := DataW.trod_int Yba.underlying5 t0
      obtain ⟨n1, e1, _, w1⟩ := DataW.trod_int Yba.underlying30 t1
      simp at e0 e1
      subst e0 e1
      have k0 := hcell 0 (by omega)
      have k1 := hcell 1 (by omega)
      rw [add_plain, add_plain] at k0 k1
      simp at k0 k1
      simp [Lit.wf] at w0 w1
      have hb : b < W.heap.size := by
        have := World.cells?_block hc (by omega)
        rw [add_plain] at this
        exact this
      have e0 : (intOf ((W.cell? ⟨b, off + j * 2, none⟩).getD default)).toNat = n0.toNat := by rw [k0]; rfl
      have e1 : (intOf ((W.cell? ⟨b, off + j * 2 + 1, none⟩).getD default)).toNat = n1.toNat := by rw [k1]; rfl
      dsimp only
      rw [e0, e1]
      have q0 : 0 ≤ n0 ∧ n0 ≤ 255 := w0
      have q1 : 0 ≤ n1 ∧ n1 ≤ 4294967295 := w1
      refine ⟨b, off, rfl, hb, by omega, by omega, ?_, ?_⟩
      · rw [k0, Int.toNat_of_nonneg q0.1]
      · rw [k1, Int.toNat_of_nonneg q1.1]

set_option maxRecDepth 20000 in
theorem law_long (a : Option Addr) (n cap : Nat) (hn : 1024 < n) (w : World) : Calls Yba.prog 3 #[.slice a n cap] w fun e w' => e = .returned (.bool true) ∧ KB (fun _ => False) w w' := by
  have hn1 : (1024 : Int) < (n : Int) := by omega
  go_enter Yba.func3, Yba.ntmps3
  go_wp2
  go_ret
  exact ⟨rfl, KB.refl _ _⟩
end Go.Proofs.Ybulkctsy
