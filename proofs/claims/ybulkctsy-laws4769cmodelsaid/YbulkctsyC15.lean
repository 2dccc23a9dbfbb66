/-
  The law: what stands at each place of a round.
-/
import Derived.Test.YbulkctsyC14
import Derived.Test.YbulkctsyB11
namespace Go.Proofs.Ybulkctsy
open Go.RowKit
set_option linter.unusedVariables false

theorem Mid.ext {w wr w' : World} {I N : Nat} {v : Value} (h : Mid w wr I v N) (k : KB (fun _ => False) wr w') : Mid w w' I v N :=
  ⟨k.row h.int (fun h => h), h.nat.kb k (fun _ _ h => h), h.kb.trans k (fun _ _ h => h), h.blk, h.old⟩
/-- What stands at the head of a round. -/
structure Hd (w : World) (E I : Nat) (s : St) (wr : World) : Prop where
  ex : ∃ ov v, EncAt wr E s.low s.rng s.st s.ca s.pe ov ∧ OutV wr w.heap.size ov s.bs ∧ Mid w wr I v s.val
  inv : Inv s
  r1 : 16777216 ≤ s.rng
  r2 : s.rng < 4294967296

def stepF (bit p : Nat) : Nat → Value := fun i => if i = 0 then .int .u8 (bit : Int) else .int .u32 (p : Int)
/-- What stands inside a round, ahead of Encode: the model's number is N. -/
structure Rd (w : World) (E I S bit p : Nat) (s : St) (ov : Value) (N : Nat) (wc : World) : Prop where
  enc : EncAt wc E s.low s.rng s.st s.ca s.pe ov
  out : OutV wc w.heap.size ov s.bs
  mid : ∃ v, Mid w wc I v N
  row : wc.rowIs S 32 2 (stepF bit p)

theorem Rd.cells {w wc : World} {E I S bit p N : Nat} {s : St} {ov : Value} (h : Rd w E I S bit p s ov N wc) : wc.cell? ⟨S, 0, none⟩ = some (.int .u8 (bit : Int)) ∧ wc.cell? ⟨S, 1, none⟩ = some (.int .u32 (p : Int)) :=
  ⟨h.row.cell (i := 0) (by omega), h.row.cell (i := 1) (by omega)⟩
theorem Rd.start {w wr : World} {E I : Nat} {s : St} {ov v : Value} (hE : EncAt wr E s.low s.rng s.st s.ca s.pe ov) (hO : OutV wr w.heap.size ov s.bs) (hM : Mid w wr I v s.val) (bit p : Nat) :
    Rd w E I wr.heap.size bit p s ov s.val (wr.alloc (.cells #[.int .u8 (bit : Int), .int .u32 (p : Int)] 32)) := by
  have k : KB (fun _ => False) wr (wr.alloc (.cells #[.int .u8 (bit : Int), .int .u32 (p : Int)] 32)) := (KB.refl _ _).alloc _
  exact ⟨hE.kb k (fun h => h), hO.kb k (fun _ _ h => h), ⟨v, hM.ext k⟩,
    World.rowIs_alloc wr #[.int .u8 (bit : Int), .int .u32 (p : Int)] 32 (stepF bit p) (fun i hi => by match i, hi with | 0, _ => rfl | 1, _ => rfl)⟩
theorem Rd.ext {w wc w' : World} {E I S bit p N : Nat} {s : St} {ov : Value} (h : Rd w E I S bit p s ov N wc) (k : KB (fun _ => False) wc w') : Rd w E I S bit p s ov N w' := by
  obtain ⟨v, hm⟩ := h.mid
  exact ⟨h.enc.kb k (fun h => h), h.out.kb k (fun _ _ h => h), ⟨v, hm.ext k⟩, k.row h.row (fun h => h)⟩
theorem Rd.midk {w wc w' : World} {E I S bit p N N' : Nat} {s : St} {ov v v' : Value} (h : Rd w E I S bit p s ov N wc) (m : Mid w wc I v N) (k : KB (fun b => b = I ∨ Blk v b) wc w') (m' : Mid w w' I v' N') : Rd w E I S bit p s ov N' w' :=
  ⟨h.enc.mid m k, h.out.mid m k, ⟨v', m'⟩, k.row h.row (fun e => by
    rcases e with e | e
    · exact row_ne h.row m.int (by decide) e
    · exact m.nat.not_blk h.row (by decide) e)⟩

theorem Mid.enc {w wc w' : World} {E I N low rng ca pe : Nat} {st : Bool} {bs : List Nat} {ov v : Value} (m : Mid w wc I v N) (hE : EncAt wc E low rng st ca pe ov) (hO : OutV wc w.heap.size ov bs) (hEw : w.heap.size ≤ E)
    (k : KB (fun b => b = E ∨ some b = ov.ownBlock) wc w') : Mid w w' I v N := by
  have hnot : ∀ b, some b = ov.ownBlock → b ≠ I ∧ ¬ Blk v b ∧ w.heap.size ≤ b := by
    intro b hb
    obtain ⟨cur, hc⟩ := out_blk hO hb.symm
    refine ⟨?_, ?_, ?_⟩
    · intro e
      obtain ⟨c, hc', _⟩ := m.int
      rw [← e, hc] at hc'
      injection hc' with e; injection e with _ e; cases e
    · intro e
      rcases m.nat with ⟨h, _⟩ | ⟨g, n, cap, u, h, h1, _⟩
      · obtain ⟨_, _, e⟩ := e; rw [e] at h; cases h
      · subst h
        obtain rfl := blk_eq e
        obtain ⟨c, hc', _⟩ := h1.1
        rw [hc] at hc'
        injection hc' with e; injection e with _ e; cases e
    · rcases hO.cells with ⟨rfl, _⟩ | ⟨g, c, rfl, k1, _⟩
      · cases hb
      · simp only [Value.ownBlock, Option.some.injEq] at hb
        omega
  refine ⟨k.row m.int ?_, m.nat.kb k ?_, m.kb.trans k ?_, m.blk, m.old⟩
  · rintro (e | e)
    · exact row_ne hE m.int (by decide) e.symm
    · exact (hnot I e).1 rfl
  · rintro b hb (e | e)
    · exact m.nat.not_blk hE (by decide) (e ▸ hb)
    · exact (hnot b e).2.1 hb
  · rintro b hb (e | e)
    · omega
    · have := (hnot b e).2.2; omega

/-- Behind Encode. -/
theorem Rd.encoded {w wc w' : World} {E I S bit p N : Nat} {s t : St} {ov : Value} (h : Rd w E I S bit p s ov N wc) (hEw : w.heap.size ≤ E) (hf : FS wc E w.heap.size t ov w') :
    ∃ ov' v, EncAt w' E t.low t.rng t.st t.ca t.pe ov' ∧ OutV w' w.heap.size ov' t.bs ∧ Mid w w' I v N := by
  obtain ⟨ov', h1, h2, h3, _⟩ := hf
  obtain ⟨v, m⟩ := h.mid
  exact ⟨ov', v, h1, h2, m.enc h.enc h.out hEw h3⟩
end Go.Proofs.Ybulkctsy
