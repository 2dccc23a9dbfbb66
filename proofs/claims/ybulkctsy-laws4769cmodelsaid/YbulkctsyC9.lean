/-
  shiftLow in one contract; Encode: its walk.
-/
import Derived.Test.YbulkctsyC7
import Derived.Test.YbulkctsyC8
import Derived.Test.YbulkctsyP1
namespace Go.Proofs.Ybulkctsy
open Go.RowKit
set_option linter.unusedVariables false

def FS (w : World) (E base : Nat) (s : St) (ov : Value) (wc : World) : Prop := FlushS w E base s.low s.rng s.st s.ca s.pe ov s.bs wc

theorem FlushS.trans {w wr w2 : World} {E base low rng ca pe : Nat} {st : Bool} {ov ov1 : Value} {bs : List Nat} (hK : KB (fun b => b = E ∨ some b = ov.ownBlock) w wr) (hV : ov1.ownBlock = ov.ownBlock ∨ ∃ g, ov1.ownBlock = some g ∧ w.heap.size ≤ g)
    (h : FlushS wr E base low rng st ca pe ov1 bs w2) : FlushS w E base low rng st ca pe ov bs w2 := by
  obtain ⟨ov2, h1, h2, h3, h4⟩ := h
  refine ⟨ov2, h1, h2, hK.trans h3 ?_, ?_⟩
  · intro b hb e
    rcases e with e | e
    · exact .inl e
    · rcases hV with h | ⟨g, h, hg⟩
      · right; rw [e, h]
      · rw [h] at e
        injection e with e
        omega
  · rcases h4 with h4 | ⟨g, h4, hg⟩
    · rcases hV with h | ⟨g, h, hg⟩
      · left; rw [h4, h]
      · right; exact ⟨g, by rw [h4, h], hg⟩
    · right; exact ⟨g, h4, Nat.le_trans hK.size hg⟩

theorem shift_any (E base : Nat) (s : St) (ov : Value) (hc : 4294967295 < s.low → s.st = true ∧ s.ca ≤ 254) (h33 : s.low < 8589934592) (hca : s.ca < 256) (hpe : s.pe ≤ 100000) (hbs : s.bs.length ≤ 100000) (w : World) (hb : base ≤ w.heap.size)
    (h : EncAt w E s.low s.rng s.st s.ca s.pe ov) (ho : OutV w base ov s.bs) :
    Calls Yba.prog 25 #[.pointer (some ⟨E, 0, none⟩)] w fun e w' => e = .returned (.tuple #[]) ∧ FS w E base (shiftP s) ov w' := by
  unfold FS shiftP
  by_cases hk : 4278190080 ≤ s.low ∧ s.low ≤ 4294967295
  · rw [if_pos hk]
    refine (shift_keep E s.low s.rng s.ca s.pe s.st ov hk.1 hk.2 hpe w h).mono ?_
    rintro e w' ⟨h1, h2, h3⟩
    have hne := out_ne h (by decide) ho
    refine ⟨h1, ov, h2, ?_, h3.mono (fun _ _ h => .inl h), .inl rfl⟩
    obtain ⟨hl, h | ⟨g', cap', cur, h, hb, hh, h2⟩⟩ := ho
    · exact ⟨hl, .inl h⟩
    · refine ⟨hl, .inr ⟨g', cap', cur, h, hb, ?_, h2⟩⟩
      rw [h] at hne
      rw [h3.kept g' (Array.getElem?_eq_some_iff.1 hh).1 (fun e => hne (congrArg some e).symm)]
      exact hh
  · rw [if_neg hk]
    have hlow : s.low < 4278190080 ∨ 4294967295 < s.low := by omega
    cases e : s.st with
    | true =>
      have hcy : s.low / 4294967296 ≤ 1 := by omega
      have hcc : s.ca + s.low / 4294967296 ≤ 255 := by
        rcases hlow with hl | hl
        · rw [Nat.div_eq_of_lt (by omega)]; omega
        · have := hc hl; omega
      rw [e] at h
      refine (shift_flush_started E base s.low s.rng s.ca s.pe _ ov s.bs hlow rfl hcy hcc hpe hbs h33 w hb h ho).mono ?_
      rintro e' w' ⟨h1, h2⟩
      refine ⟨h1, ?_⟩
      simp only [flushP, e, if_true]
      exact h2
    | false =>
      have hl : s.low < 4278190080 := by
        rcases hlow with hl | hl
        · exact hl
        · have := (hc hl).1; rw [e] at this; cases this
      have hcy : s.low / 4294967296 ≤ 1 := by omega
      rw [e] at h
      refine (shift_flush_first E base s.low s.rng s.ca s.pe _ ov s.bs hl rfl hcy hpe hbs h33 w hb h ho).mono ?_
      rintro e' w' ⟨h1, h2⟩
      refine ⟨h1, ?_⟩
      simp only [flushP, e]
      exact h2
end Go.Proofs.Ybulkctsy
