/-
  An Int made since a world w: Lsh, SetUint64 and Add keep it so.
-/
import Derived.Test.YbulkctsyC12
namespace Go.Proofs.Ybulkctsy
open Go.RowKit
set_option linter.unusedVariables false

/-- An Int whose blocks are all newer than w. -/
structure Mid (w wr : World) (I : Nat) (v : Value) (N : Nat) : Prop where
  int : IntAt wr I v
  nat : NatV wr v N
  kb : KB (fun _ => False) w wr
  blk : ∀ b, Blk v b → w.heap.size ≤ b
  old : w.heap.size ≤ I

theorem lsh_mid {w wr : World} {I N : Nat} {v : Value} (h : Mid w wr I v N) (s : Nat) (hs1 : 1 ≤ s) (hs2 : s ≤ 63) (hN : N < 18446744073709551616 ^ 3000) :
    Calls Yba.prog 8 #[.pointer (some ⟨I, 0, none⟩), .pointer (some ⟨I, 0, none⟩), .int .u64 (s : Int)] wr fun e w' => e = .returned (.pointer (some ⟨I, 0, none⟩)) ∧ ∃ v', Mid w w' I v' (N * 2 ^ s) ∧ KB (fun b => b = I ∨ Blk v b) wr w' := by
  obtain ⟨h1, h2, h3, h4, h5⟩ := h
  refine (Lsh_any I N s v hs1 hs2 hN wr h1 h2).mono ?_
  rintro e w' ⟨he, v', k1, k2, k3, k4⟩
  refine ⟨he, v', ⟨k1, k2, h3.trans k3 ?_, ?_, h5⟩, k3⟩
  · rintro x hx (e | e)
    · omega
    · have := h4 x e; omega
  · intro b hb
    have := h3.size
    rcases k4 b hb with h | h
    · exact h4 b h
    · omega
theorem setu_mid {w wr : World} {I N x : Nat} {v : Value} (h : Mid w wr I v N) (hx : x < 18446744073709551616) :
    Calls Yba.prog 7 #[.pointer (some ⟨wr.heap.size, 0, none⟩), .int .u64 (x : Int)] (wr.alloc (.cells #[.bool false, .slice none 0 0] 29)) fun e w' => e = .returned (.pointer (some ⟨wr.heap.size, 0, none⟩)) ∧
      ∃ yv, Mid w w' I v N ∧ I ≠ wr.heap.size ∧ IntAt w' wr.heap.size yv ∧ One w' v yv x ∧ (∃ a n c, yv = .slice a n c) ∧ KB (fun _ => False) wr w' := by
  obtain ⟨h1, h2, h3, h4, h5⟩ := h
  refine (SetU64_new wr.heap.size x _ hx (int_new wr)).mono ?_
  rintro e w' ⟨he, k1, yv, k2, k3⟩
  have hIl := h1.lt
  have hk : KB (fun _ => False) wr w' := ((KB.refl (fun _ => False) wr).alloc _).trans k1 (fun b hb e => by omega)
  have h2' : NatV (wr.alloc (.cells #[.bool false, .slice none 0 0] 29)) v N := h2.kb ((KB.refl (fun _ => False) wr).alloc _) (fun _ _ h => h)
  have ho := One_of h2' k3
  exact ⟨he, yv, ⟨hk.row h1 (fun h => h), h2.kb hk (fun _ _ h => h), h3.trans hk (fun _ _ h => h), h4, h5⟩, by omega, k2, ho.1, ho.2, hk⟩
theorem add_mid {w wr : World} {I J N Y : Nat} {v yv : Value} (h : Mid w wr I v N) (hIJ : I ≠ J) (hN : N < 18446744073709551616 ^ 3000) (hJ : IntAt wr J yv) (hy : One wr v yv Y) (hyk : ∃ a n c, yv = .slice a n c) :
    Calls Yba.prog 6 #[.pointer (some ⟨I, 0, none⟩), .pointer (some ⟨I, 0, none⟩), .pointer (some ⟨J, 0, none⟩)] wr fun e w' => e = .returned (.pointer (some ⟨I, 0, none⟩)) ∧ ∃ v', Mid w w' I v' (N + Y) ∧ KB (fun b => b = I ∨ Blk v b) wr w' := by
  obtain ⟨h1, h2, h3, h4, h5⟩ := h
  refine (Add_any I J N Y v yv hIJ hN wr h1 hJ h2 hy hyk).mono ?_
  rintro e w' ⟨he, v', k1, k2, k3, k4⟩
  refine ⟨he, v', ⟨k1, k2, h3.trans k3 ?_, ?_, h5⟩, k3⟩
  · rintro x hx (e | e)
    · omega
    · have := h4 x e; omega
  · intro b hb
    have := h3.size
    rcases k4 b hb with h | h
    · exact h4 b h
    · omega
theorem setBytes_mid (w wr : World) (v : Value) (l : List Nat) (hl : ∀ b, b ∈ l → b < 256) (hn : l.length ≤ 20000) (h : BufV w wr v l) :
    Calls Yba.prog 26 #[.pointer (some ⟨wr.heap.size, 0, none⟩), v] (wr.alloc (.cells #[.bool false, .slice none 0 0] 29)) fun e w' =>
      e = .returned (.pointer (some ⟨wr.heap.size, 0, none⟩)) ∧ ∃ v', Mid w w' wr.heap.size v' (bn l) := by
  refine (setBytes_buf w wr v l hl hn h).mono ?_
  rintro e w' ⟨he, v', k1, k2, k3, k4⟩
  exact ⟨he, v', k1, k2, k3, k4, h.2.size⟩
theorem EncAt.mid {w wr w' : World} {I N E low rng ca pe : Nat} {v ov : Value} {st : Bool} (h : EncAt wr E low rng st ca pe ov) (m : Mid w wr I v N) (k : KB (fun b => b = I ∨ Blk v b) wr w') : EncAt w' E low rng st ca pe ov :=
  h.kb k (fun e => by
    rcases e with e | e
    · exact row_ne h m.int (by decide) e
    · exact m.nat.not_blk h (by decide) e)
theorem out_blk {w : World} {base : Nat} {ov : Value} {bs : List Nat} (h : OutV w base ov bs) {b : Nat} (hb : ov.ownBlock = some b) : ∃ cur, w.heap[b]? = some (.cells cur 5 (0, 0)) := by
  obtain ⟨hl, ⟨rfl, h0⟩ | ⟨g, cap, cur, rfl, _, hg, _⟩⟩ := h
  · cases hb
  · simp only [Value.ownBlock, Option.some.injEq] at hb
    subst hb
    exact ⟨cur, hg⟩
theorem OutV.mid {w wr w' : World} {I N base : Nat} {v ov : Value} {bs : List Nat} (h : OutV wr base ov bs) (m : Mid w wr I v N) (k : KB (fun b => b = I ∨ Blk v b) wr w') : OutV w' base ov bs :=
  h.kb k (fun b hb e => by
    obtain ⟨cur, hc⟩ := out_blk h hb
    rcases e with e | e
    · obtain ⟨c, hc', _⟩ := m.int
      rw [← e, hc] at hc'
      injection hc' with e; injection e with _ e; cases e
    · rcases m.nat with ⟨h, _⟩ | ⟨g, n, cap, u, h, h1, _⟩
      · obtain ⟨_, _, e⟩ := e; rw [e] at h; cases h
      · subst h
        obtain rfl := blk_eq e
        obtain ⟨c, hc', _⟩ := h1.1
        rw [hc] at hc'
        injection hc' with e; injection e with _ e; cases e)
end Go.Proofs.Ybulkctsy
