/-
  THE WALKS, 6: zzs4758bnorm.
-/
import Derived.Test.YbulkctnaW3
namespace Go.Proofs.Ybulkctna
open Go.RowKit
set_option linter.unusedVariables false

/-- The slice's address and its strings, as they lie in the world. -/
def Cells (w : World) (ad : Option Addr) (L : List Dns.Bytes) : Prop := ∀ i, i < L.length → ∃ b off, ad = some ⟨b, off, none⟩ ∧ b < w.heap.size ∧ w.cell? ⟨b, off + i, none⟩ = some (.string (S (L.getD i [])))

theorem Cells.below {w w' : World} {ad : Option Addr} {L : List Dns.Bytes} {B : Nat} (h : Cells w ad L) (hb : Below B w w') (hB : w.heap.size ≤ B) : Cells w' ad L := by
  intro i hi
  obtain ⟨b, off, rfl, h1, h2⟩ := h i hi
  have := hb.size
  exact ⟨b, off, rfl, by omega, by rw [hb.cell (p := ⟨b, off + i, none⟩) (by simp; omega)]; exact h2⟩

/-- Strings as values. -/
def vals (L : List Dns.Bytes) : List Value := L.map fun l => .string (S l)
theorem vals_length (L : List Dns.Bytes) : (vals L).length = L.length := by simp [vals]
theorem vals_snoc (L : List Dns.Bytes) (l : Dns.Bytes) : vals (L ++ [l]) = vals L ++ [.string (S l)] := by simp [vals]

theorem Yba.info9 : (Yba.prog.info? 9).map (fun i => (i.zero, i.size, i.bytes)) = some (some (.string ⟨#[]⟩), 1, 16) := by kernel_rfl

theorem own_lt {w : World} {base e n : Nat} {v : Value} {xs : List Value} (h : w.ownsRow base e 1 v n xs) (hn : 0 < n) :
    ∃ g cap, v = .slice (some ⟨g, 0, none⟩) n cap ∧ base ≤ g ∧ g < w.heap.size ∧ n ≤ cap ∧ ∀ i u, xs[i]? = some u → w.cell? ⟨g, i, none⟩ = some u := by
  obtain ⟨h1, h2 | ⟨g, cap, cur, rfl, hg, hh, hnc, _, hc, ht⟩⟩ := h
  · omega
  refine ⟨g, cap, rfl, hg, lt_of_block hh, hnc, fun i u hu => ?_⟩
  have h3 : cur[i]? = some u := by
    rw [← ht, List.getElem?_take] at hu
    split at hu
    · simpa using hu
    · simp at hu
  simp [World.cell?, hh, h3]

/-- A row of strings that the call owns, as cells. -/
theorem cells_of_own {w : World} {base n : Nat} {v : Value} {L : List Dns.Bytes} (h : w.ownsRow base 9 1 v n (vals L)) :
    ∃ ad cap, v = .slice ad L.length cap ∧ L.length ≤ cap ∧ Cells w ad L := by
  have hn : n = L.length := by have := h.1; rw [vals_length] at this; omega
  subst hn
  by_cases h0 : 0 < L.length
  · obtain ⟨g, cap, rfl, _, hlt, hc, hcell⟩ := own_lt h h0
    refine ⟨_, _, rfl, hc, fun i hi => ⟨g, 0, rfl, hlt, ?_⟩⟩
    rw [Nat.zero_add]
    refine hcell i _ ?_
    simp [vals, hi]
  · have e0 : L = [] := by cases L with | nil => rfl | cons _ _ => simp at h0
    subst e0
    obtain ⟨_, ⟨rfl, _⟩ | ⟨g, cap, cur, rfl, _⟩⟩ := h
    · exact ⟨none, 0, rfl, Nat.le_refl _, fun i hi => by simp at hi⟩
    · exact ⟨_, cap, rfl, by simp, fun i hi => by simp at hi⟩

/-- What norm gives, once more for one string more. -/
theorem norm_take_succ (L : List Dns.Bytes) (k : Nat) (h : k < L.length) : Dns.norm (L.take (k + 1)) = Dns.norm (L.take k) ++ Dns.norm [L[k]] := by
  rw [List.take_succ_eq_append_getElem h, Dns.norm_append]
theorem getD_get (L : List Dns.Bytes) (k : Nat) (h : k < L.length) : L.getD k [] = L[k] := by simp [h]

theorem extract63 (l : Dns.Bytes) : (S l).extract 0 63 = S (l.take 63) := by
  apply ByteArray.ext
  rw [ByteArray.data_extract]
  apply Array.ext'
  simp

/-- The relation's step where nothing is appended. -/
theorem rel_skip {L : List Dns.Bytes} {k : Nat} (h : k < L.length) (he : (L[k]).length = 0) : Dns.norm (L.take (k + 1)) = Dns.norm (L.take k) := by
  rw [norm_take_succ L k h, List.length_eq_zero_iff.1 he, Dns.norm_one_empty, List.append_nil]
theorem rel_put {L : List Dns.Bytes} {k : Nat} (h : k < L.length) (he : 0 < (L[k]).length) : Dns.norm (L.take (k + 1)) = Dns.norm (L.take k) ++ [(L[k]).take 63] := by
  rw [norm_take_succ L k h, Dns.norm_one he]

theorem one_str (t : ByteArray) : ∀ u, u ∈ [Value.string t] → u.oneCell' = true := by
  intro u hu; simp at hu; subst hu; rfl
theorem below_app {w wr w1 : World} {o : Obj} {e n : Nat} {v : Value} {xs : List Value} (hbl : Below w.heap.size w wr) (hown : wr.ownsRow w.heap.size e 1 v n xs) (hg : (wr.alloc o).grownBy w1 v.ownBlock) : Below w.heap.size w w1 :=
  (hbl.alloc hbl.size o).grown hg (by have := hbl.size; simp; omega) (fun k hk => (hown.lt k hk).1)

set_option maxHeartbeats 400000 in
theorem norm_empty (ad : Option Addr) (cap : Nat) (w : World) :
    Calls Yba.prog 5 #[.slice ad 0 cap] w fun e w' => e = .returned (.slice none 0 0) ∧ w' = w := by
  go_enter Yba.func5, Yba.ntmps5
  go_wp2
  refine wp_loop_rounds 1 ?_
  rw [rounds_succ]
  go_wp2
  go_ret
  exact ⟨rfl, rfl⟩

set_option maxHeartbeats 800000 in
theorem norm_some (b off cap : Nat) (L : List Dns.Bytes) (w : World) (hc : Cells w (some ⟨b, off, none⟩) L) (hn : L.length ≤ 300) :
    Calls Yba.prog 5 #[.slice (some ⟨b, off, none⟩) L.length cap] w fun e w' => ∃ v, e = .returned v ∧ w'.ownsRow w.heap.size 9 1 v (Dns.norm L).length (vals (Dns.norm L)) ∧ Below w.heap.size w w' := by
  obtain ⟨i0, hi, hz0, hz1, hz2⟩ := info_parts Yba.info9
  go_enter Yba.func5, Yba.ntmps5
  go_wp2
  go_loopw [3, 8] (fun v i wr => ∃ k : Nat, k ≤ L.length ∧ i = .int .i64 k ∧ wr.ownsRow w.heap.size 9 1 v (Dns.norm (L.take k)).length (vals (Dns.norm (L.take k))) ∧ Below w.heap.size w wr) (fun _ i _ => L.length - (intOf i).toNat)
  case atStart => exact ⟨0, Nat.zero_le _, rfl, World.ownsRow_nil _ _ _ _, Below.refl _ _⟩
  case round =>
    obtain ⟨k, hk, rfl, hown, hbl⟩ := hrel
    by_cases hlt : k < L.length
    · obtain ⟨b', off', hbo, hb1, hcl⟩ := hc k hlt
      simp only [Option.some.injEq, Addr.mk.injEq, and_true] at hbo
      obtain ⟨rfl, rfl⟩ := hbo
      rw [← hbl.cell (p := ⟨b, off + k, none⟩) hb1, getD_get L k hlt] at hcl
      have hli : (k : Int) < (L.length : Int) := by omega
      obtain ⟨t, HT⟩ : ∃ t : ByteArray, Hid (t = S L[k]) := ⟨_, hide rfl⟩
      have hts : t.size = (L[k]).length := by rw [unhide HT, S_size]
      rw [← unhide HT] at hcl
      by_cases he : (L[k]).length = 0
      · have hz : ((t.size : Int) == 0) = true := by rw [hts, he]; rfl
        have HR := hide (rel_skip hlt he)
        clear hts he
        go_wp2
        go_roundw
        case rel => exact ⟨k + 1, by omega, by go_num, by rw [unhide HR]; exact hown, hbl⟩
        case measure => simp [intOf]; omega
      · have hz : ((t.size : Int) == 0) = false := beq_eq_false_iff_ne.2 (by omega)
        have HR := hide (rel_put hlt (by omega))
        have hnl := Dns.norm_length_le (L.take k)
        rw [List.length_take] at hnl
        by_cases hlong : 63 < t.size
        · have hlongZ : (63 : Int) < (t.size : Int) := by omega
          have HX : Hid (t.extract 0 63 = S ((L[k]).take 63)) := by rw [unhide HT]; exact extract63 _
          clear hts he
          go_wp2_with (at_builtin; refine wpList_append_own _ rfl _ _ 22 rfl w.heap.size 9 i0 (.string ⟨#[]⟩) 1 16 Yba.underlying22 hi hz0 hz1 hz2 rfl (by decide) _ _ _ rfl (hown.alloc _) ⟨wr.heap.size, 0, none⟩ 1 1 [.string (t.extract 0 63)] rfl rfl (cell_one_new _ _ _) (one_str _) ?c3 ?c4 ?c5 ?_)
          case c3 => unfold maxLen; omega
          case c4 => omega
          case c5 => have := hbl.size; simp; omega
          intro v' w1 hown' hgrow _
          have hbl' := below_app hbl hown hgrow
          have ho2 : w1.ownsRow w.heap.size 9 1 v' (Dns.norm (L.take (k + 1))).length (vals (Dns.norm (L.take (k + 1)))) := by
            rw [unhide HR, vals_snoc, ← unhide HX, List.length_append]; exact hown'
          clear hown' hgrow hown hcl
          go_wp2
          go_roundw
          case rel => exact ⟨k + 1, by omega, by go_num, ho2, hbl'⟩
          case measure => simp [intOf]; omega
        · have hlongZ : ¬ (63 : Int) < (t.size : Int) := by omega
          have HX : Hid (t = S ((L[k]).take 63)) := by rw [unhide HT, List.take_of_length_le (by omega)]; exact hide rfl
          clear hts he
          go_wp2_with (at_builtin; refine wpList_append_own _ rfl _ _ 22 rfl w.heap.size 9 i0 (.string ⟨#[]⟩) 1 16 Yba.underlying22 hi hz0 hz1 hz2 rfl (by decide) _ _ _ rfl (hown.alloc _) ⟨wr.heap.size, 0, none⟩ 1 1 [.string t] rfl rfl (cell_one_new _ _ _) (one_str _) ?c3 ?c4 ?c5 ?_)
          case c3 => unfold maxLen; omega
          case c4 => omega
          case c5 => have := hbl.size; simp; omega
          intro v' w1 hown' hgrow _
          have hbl' := below_app hbl hown hgrow
          have ho2 : w1.ownsRow w.heap.size 9 1 v' (Dns.norm (L.take (k + 1))).length (vals (Dns.norm (L.take (k + 1)))) := by
            rw [unhide HR, vals_snoc, ← unhide HX, List.length_append]; exact hown'
          clear hown' hgrow hown hcl
          go_wp2
          go_roundw
          case rel => exact ⟨k + 1, by omega, by go_num, ho2, hbl'⟩
          case measure => simp [intOf]; omega
    · have hke : L.take k = L := List.take_of_length_le (by omega)
      rw [hke] at hown
      clear hke
      go_wp2
      go_ret
      exact ⟨_, rfl, hown, hbl⟩

/-- norm, of whatever slice of at most 300 strings. -/
theorem norm_any (ad : Option Addr) (n cap : Nat) (L : List Dns.Bytes) (hL : n = L.length) (w : World) (hc : Cells w ad L) (hn : L.length ≤ 300) :
    Calls Yba.prog 5 #[.slice ad n cap] w fun e w' => ∃ ad' cap', e = .returned (.slice ad' (Dns.norm L).length cap') ∧ (Dns.norm L).length ≤ cap' ∧ Cells w' ad' (Dns.norm L) ∧ Below w.heap.size w w' := by
  subst hL
  by_cases h0 : 0 < L.length
  · obtain ⟨b, off, rfl, _, _⟩ := hc 0 h0
    refine (norm_some b off cap L w hc hn).mono ?_
    rintro e w' ⟨v, rfl, hown, hbl⟩
    obtain ⟨ad', cap', rfl, h1, h2⟩ := cells_of_own hown
    exact ⟨ad', cap', rfl, h1, h2, hbl⟩
  · have e0 : L = [] := by cases L with | nil => rfl | cons _ _ => simp at h0
    subst e0
    refine (norm_empty ad cap w).mono ?_
    rintro e w' ⟨rfl, rfl⟩
    exact ⟨none, 0, rfl, Nat.le_refl _, fun i hi => by simp [Dns.norm] at hi, Below.refl _ _⟩
end Go.Proofs.Ybulkctna
