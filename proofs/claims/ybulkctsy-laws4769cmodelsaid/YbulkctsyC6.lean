/-
  shiftLow where bytes are written: its walk.
-/
import Derived.Test.YbulkctsyC5
import Derived.Maps.AppendAt
import Derived.Deep.RegionLaw
import Derived.Deep.DeepCutAuto
import Derived.Deep.RegionWith
namespace Go.Proofs.Ybulkctsy
open Go.RowKit
set_option linter.unusedVariables false

theorem KB.grown {w w' : World} {row : Option Nat} (h : w.grownBy w' row) : KB (fun b => some b = row) w w' :=
  ⟨⟨h.os, h.tape, h.output, h.size, fun k hk => by omega⟩, fun b hb hs => h.block b hb hs⟩
theorem out_ne {w : World} {E base t n m : Nat} {f : Nat → Value} {ov : Value} {xs : List Value} (h : w.rowIs E t n f) (ht : t ≠ 5) (ho : w.ownsRow base 5 1 ov m xs) : some E ≠ ov.ownBlock := by
  obtain ⟨_, ⟨rfl, _⟩ | ⟨g, cap, cur, rfl, _, hg, _⟩⟩ := ho
  · intro h; cases h
  · intro e
    simp only [Value.ownBlock, Option.some.injEq] at e
    subst e
    obtain ⟨c, hc, _⟩ := h
    rw [hc] at hg
    injection hg with e
    injection e with _ e2
    exact ht e2
theorem one_int (n : Int) : ∀ u, u ∈ [Value.int .u8 n] → u.oneCell' = true := by
  intro u hu
  simp only [List.mem_singleton] at hu
  subst hu; rfl
theorem info5 : (Yba.prog.info? 5).map (fun i => (i.zero, i.size, i.bytes)) = some (some (.int .u8 0), 1, 1) := by kernel_rfl

/-- What stands while bytes are written. -/
def FlushS (w : World) (E base low rng : Nat) (st : Bool) (ca pe : Nat) (ov : Value) (bs : List Nat) (wc : World) : Prop :=
  ∃ ov', EncAt wc E low rng st ca pe ov' ∧ OutV wc base ov' bs ∧ KB (fun b => b = E ∨ some b = ov.ownBlock) w wc ∧ (ov'.ownBlock = ov.ownBlock ∨ ∃ g, ov'.ownBlock = some g ∧ w.heap.size ≤ g)

theorem bvals_snoc (bs : List Nat) (x : Nat) : bvals (bs ++ [x]) = bvals bs ++ [.int .u8 (x : Int)] := by simp [bvals]

/-- One byte more. -/
theorem flush_app {w wc w1 : World} {E base low rng ca pe g cap x : Nat} {st : Bool} {ov ov' : Value} {bs : List Nat} {o : Obj}
    (hk : KB (fun b => b = E ∨ some b = ov.ownBlock) w wc) (hov : ov'.ownBlock = ov.ownBlock ∨ ∃ g, ov'.ownBlock = some g ∧ w.heap.size ≤ g)
    (hgr : (wc.alloc o).grownBy w1 ov'.ownBlock) (hE1 : EncAt w1 E low rng st ca pe ov')
    (ho1 : w1.ownsRow base 5 1 (.slice (some ⟨g, 0, none⟩) (bs.length + 1) cap) (bs.length + 1) (bvals bs ++ [.int .u8 (x : Int)])) (hat : ov'.ownBlock = some g ∨ g = wc.heap.size + 1) :
    FlushS w E base low rng st ca pe ov (bs ++ [x]) (w1.setCell ⟨E, 5, none⟩ (.slice (some ⟨g, 0, none⟩) (bs.length + 1) cap)) := by
  have hne := out_ne hE1 (by decide) ho1
  refine ⟨_, enc_ov hE1 _, ?_, ?_, ?_⟩
  · unfold OutV
    rw [bvals_snoc, List.length_append, List.length_singleton]
    obtain ⟨hl, ⟨h, _⟩ | ⟨g', cap', cur, h, hb, hh, h2⟩⟩ := ho1
    · cases h
    · refine ⟨hl, .inr ⟨g', cap', cur, h, hb, ?_, h2⟩⟩
      rw [h] at hne
      rw [Below.heap_setCell w1 ⟨E, 5, none⟩ _ g' (fun e => hne (congrArg some e).symm)]
      exact hh
  · refine ((hk.alloc o).trans (KB.grown hgr) ?_).setCell _ _ (fun _ => .inl rfl)
    intro b hb e
    rcases hov with h | ⟨g', h, hg'⟩
    · right; rw [e, h]
    · rw [h] at e
      injection e with e
      omega
  · rcases hat with h | h
    · rcases hov with h' | ⟨g', h', hg'⟩
      · left; rw [← h', h]; rfl
      · right; exact ⟨g, rfl, by rw [h'] at h; injection h with h; omega⟩
    · right; exact ⟨g, rfl, by have := hk.size; omega⟩

theorem OutV.setE {w : World} {E base i : Nat} {ov v : Value} {bs : List Nat} (ho : OutV w base ov bs) (hne : some E ≠ ov.ownBlock) : OutV (w.setCell ⟨E, i, none⟩ v) base ov bs := by
  obtain ⟨hl, h | ⟨g', cap', cur, h, hb, hh, h2⟩⟩ := ho
  · exact ⟨hl, .inl h⟩
  · refine ⟨hl, .inr ⟨g', cap', cur, h, hb, ?_, h2⟩⟩
    rw [h] at hne
    rw [Below.heap_setCell w ⟨E, i, none⟩ _ g' (fun e => hne (congrArg some e).symm)]
    exact hh

/-- The end of shiftLow where bytes are written. -/
theorem flush_end {w wr : World} {E base low rng ca pe : Nat} {st : Bool} {ov ov1 : Value} {bs : List Nat} (x y : Nat) (hE : EncAt wr E low rng st ca pe ov1) (hO : OutV wr base ov1 bs) (hne : some E ≠ ov1.ownBlock)
    (hK : KB (fun b => b = E ∨ some b = ov.ownBlock) w wr) (hV : ov1.ownBlock = ov.ownBlock ∨ ∃ g, ov1.ownBlock = some g ∧ w.heap.size ≤ g) :
    FlushS w E base x rng true y pe ov bs (((wr.setCell ⟨E, 3, none⟩ (.int .u8 (y : Int))).setCell ⟨E, 2, none⟩ (.bool true)).setCell ⟨E, 0, none⟩ (.int .u64 (x : Int))) :=
  ⟨ov1, enc_low (enc_st (enc_ca hE y) true) x, ((hO.setE hne).setE hne).setE hne, ((hK.setCell _ _ (fun _ => .inl rfl)).setCell _ _ (fun _ => .inl rfl)).setCell _ _ (fun _ => .inl rfl), hV⟩
end Go.Proofs.Ybulkctsy
