/-
  addVW: z and x apart.
-/
import Derived.Test.YbulkctsyB2
namespace Go.Proofs.Ybulkctsy
open Go.RowKit
set_option linter.unusedVariables false

/-- 'copy' of words. -/
theorem copy_words (t : TypeId) (ht : Yba.prog.underlying t = some (.slice 54)) {w : World} {gz gx capz capx o n cz cx : Nat} {u uz : Nat → Nat} (hz : WRow w gz capz uz) (hx : WRow w gx capx u) (h1 : o + n ≤ capz) (h2 : o + n ≤ capx)
    (az ax : Option Addr) (ha : n = 0 ∨ (az = some ⟨gz, o, none⟩ ∧ ax = some ⟨gx, o, none⟩)) :
    ∃ w2, (∀ ty, (Builtin.copy_ #[t, t] ty #[.slice az n cz, .slice ax n cx]).run Yba.prog w = .ok (goInt n) w2) ∧ WRow w2 gz capz (fun j => if o ≤ j ∧ j < o + n then u j else uz j) ∧ KB (fun x => x = gz) w w2 := by
  by_cases h0 : n = 0
  · refine ⟨w, fun ty => ?_, hz.congr (fun j _ => by rw [if_neg (by omega)]) (fun j => by rw [if_neg (by omega)]; exact hz.2 j), KB.refl _ _⟩
    rw [h0]
    exact run_copy_none w t t ty 54 _ _ 0 cz 0 cx ht sz54 rfl
  · obtain ⟨rfl, rfl⟩ := ha.resolve_left h0
    have hl : ((List.range n).map fun i => Value.int .u64 ((u (o + i) : Nat) : Int)).length = n := by simp
    refine ⟨w.setCells gz o ((List.range n).map fun i => Value.int .u64 ((u (o + i) : Nat) : Int)), fun ty => ?_, ⟨?_, fun j => by dsimp only; split; exact hx.2 j; exact hz.2 j⟩, (KB.refl _ _).setCells _ _ _ (fun _ => rfl)⟩
    · have := run_copy_cells (P := Yba.prog) w t t ty 54 gz o n cz ⟨gx, o, none⟩ n cx ((List.range n).map fun i => Value.int .u64 ((u (o + i) : Nat) : Int)) ht sz54 (by rw [hl]; exact (Nat.min_self _).symm)
        (fun j v hj => by
          have hjl : j < n := by
            rcases Nat.lt_or_ge j n with h' | h'
            · exact h'
            · rw [List.getElem?_eq_none (by rw [hl]; exact h')] at hj; cases hj
          rw [WideShapes.add_plain, hx.cell (by omega)]
          simp [hjl] at hj
          rw [← hj])
        (fun j hj => by rw [hz.cell (by rw [hl] at hj; omega)]; rfl) (fun j _ => hz.frozen _)
        (fun v hv => by simp only [List.mem_map] at hv; obtain ⟨i, _, rfl⟩ := hv; rfl)
      rw [this, hl]
    · refine (rowIs_setCells _ _ _ _ hz.1).congr (fun j _ => ?_)
      rw [hl]
      dsimp only
      by_cases hj : o ≤ j ∧ j < o + n
      · rw [if_pos hj, if_pos hj, List.getElem?_map, List.getElem?_range (by omega)]
        simp only [Option.map_some, Option.getD_some]
        rw [show o + (j - o) = j by omega]
      · rw [if_neg hj, if_neg hj]

/-- 's[i:]' on a row of words; at its very end the address is left open. -/
theorem slice_end (t : TypeId) (ht : Yba.prog.underlying t = some (.slice 54)) (g o n cap i : Nat) (hi : i ≤ n) (hn : n ≤ cap) (Z : Int) (hZ : Z = (i : Int)) :
    ∃ a, (i < cap → a = some ⟨g, o + i, none⟩) ∧ ∀ w, (Instr.slice t (.slice (some ⟨g, o, none⟩) n cap) (some (.int .i64 Z)) none none).run Yba.prog w = .ok (.slice a (n - i) (cap - i)) w := by
  subst hZ
  have h1 : (i : Int) ≤ (n : Int) := by omega
  have h2 : (n : Int) ≤ (cap : Int) := by omega
  have h3 : (0 : Int) ≤ (i : Int) := by omega
  by_cases h : i < cap
  · refine ⟨some ⟨g, o + i, none⟩, fun _ => rfl, fun w => ?_⟩
    have h4 := sz54
    go_simp
    omega
  · refine ⟨some ⟨g, o, none⟩, fun h' => absurd h' h, fun w => ?_⟩
    have h5 : i = cap := by omega
    have h4 := sz54
    subst h5
    go_simp

theorem addF_rest2 {u uz : Nat → Nat} (hu : ∀ i, u i < 18446744073709551616) {c M L : Nat} (h : cs u c M = 0) (hM : M ≤ L) (j : Nat) :
    (if 1 + M ≤ j ∧ j < 1 + M + (L - M) then u j else addF u uz c M j) = addF u uz c L j := by
  unfold addF
  by_cases h1 : 1 + M ≤ j ∧ j < 1 + M + (L - M)
  · rw [if_pos h1, if_pos (by omega)]
    have := cs_zero hu h (j - 1 - M)
    rw [show M + (j - 1 - M) = j - 1 by omega] at this
    have := hu j
    omega
  · rw [if_neg h1]
    by_cases h2 : 1 ≤ j ∧ j < 1 + M
    · rw [if_pos h2, if_pos (by omega)]
    · rw [if_neg h2, if_neg (by omega)]

theorem WRow.blk {w : World} {g cap : Nat} {u : Nat → Nat} (h : WRow w g cap u) : ∃ c, w.heap[g]? = some (.cells c 54 (0, 0)) := by
  obtain ⟨c, hc, _⟩ := h.1
  exact ⟨c, hc⟩

set_option maxRecDepth 20000 in
set_option maxHeartbeats 400000 in
/-- addVW into another row. -/
theorem addVW_other (gz gx L cz cx capz capx : Nat) (u uz : Nat → Nat) (c : Nat) (hne : gz ≠ gx) (hc : c ≤ 1) (hL : 1 ≤ L) (hcz : L < cz) (hcx : L ≤ cx) (hcapz : 1 + L ≤ capz) (hcapx : 1 + L ≤ capx) (hmax : capx ≤ 100000) (w : World) (hrz : WRow w gz capz uz) (hrx : WRow w gx capx u) :
    Calls Yba.prog 30 #[.slice (some ⟨gz, 1, none⟩) L cz, .slice (some ⟨gx, 1, none⟩) L cx, .int .u64 (c : Int)] w fun e w' =>
      e = .returned (.int .u64 (cs u c L : Int)) ∧ WRow w' gz capz (addF u uz c L) ∧ KB (fun x => x = gz) w w' := by
  obtain ⟨s, hs⟩ : ∃ s, (u 1 + c + 0) % 18446744073709551616 = s := ⟨_, rfl⟩
  obtain ⟨k, hk⟩ : ∃ k, (u 1 + c + 0) / 18446744073709551616 = k := ⟨_, rfl⟩
  have HA := hide (fun w => bits_add (u 1) c 0 s k (by omega) hs hk w)
  have hx1 := hrx.cell (i := 1) (by omega)
  have hz1 := hrz.cell (i := 1) (by omega)
  have hf1 := hrz.frozen 1
  have HU := hide hrx.2
  have HZ := hide hrz.2
  have hR1 : Hid (WRow (w.setCell ⟨gz, 1, none⟩ (.int .u64 (s : Int))) gz capz (addF u uz c 1)) :=
    hide ((hrz.set 1 s (by omega)).congr (fun j _ => by
      have := addF_step (u := u) (uz := uz) (c := c) (L := 0) (j := j) (x := s) (by rw [← hs, Nat.add_zero]; rfl)
      rw [Nat.add_zero, show addF u uz c 0 j = uz j from if_neg (by omega)] at this
      exact this) (addF_lt hrz.2 _ _))
  have hX1 : Hid (WRow (w.setCell ⟨gz, 1, none⟩ (.int .u64 (s : Int))) gx capx u) := hide (hrx.setOther (by exact fun h => hne h.symm) _)
  have HC1 : Hid (cs u c 1 = k) := hide (by rw [cs, cs, ← hk]; rfl)
  have hK1 : Hid (KB (fun x => x = gz) w (w.setCell ⟨gz, 1, none⟩ (.int .u64 (s : Int)))) := hide ((KB.refl _ _).setCell _ _ (fun _ => rfl))
  have hk1 : k ≤ 1 := by rw [← unhide HC1]; exact cs_le hrx.2 hc 1
  have hLZ : (1 : Int) ≤ (L : Int) := by omega
  have hLY : (0 : Int) < (L : Int) := by omega
  have hLX : 0 < L := by omega
  have hna : (⟨gz, 1, none⟩ : Addr) ≠ ⟨gx, 1, none⟩ := fun h => hne (by injection h)
  have HNA := hide hna
  clear hs hk hrz hrx hna
  by_cases h0 : k = 0
  · subst h0
    go_enter Yba.func30, Yba.ntmps30
    go_wp2_with (go_at_call 32; refine ((unhide HA) _).mono ?_; rintro e w1 ⟨rfl, rfl⟩)
    generalize w1.setCell ⟨gz, 1, none⟩ (.int .u64 (s : Int)) = w2 at hR1 hX1 hK1 ⊢
    obtain ⟨bz, hbz⟩ := (unhide hR1).blk
    obtain ⟨bx, hbx⟩ := (unhide hX1).blk
    have hpe : ∀ n, (binOp .neq 64 (.pointer (some ⟨gz, 1, none⟩)) (.pointer (some ⟨gx, 1, none⟩))).run Yba.prog (w2.drewN n) = .ok (.bool true) (w2.drewN n) := fun n => neq_other (unhide HNA) _ hbz hbx
    clear hbz hbx
    go_quiet (fail)
    have hR2 := hide ((unhide hR1).drewN nq)
    have hX2 := hide ((unhide hX1).drewN nq)
    have hK2 := hide ((unhide hK1).drewN nq)
    clear hpe hR1 hX1 hK1 hx1 hz1 hf1
    generalize w2.drewN nq = w4 at hR2 hX2 hK2 ⊢
    obtain ⟨az, haz, hsz⟩ := slice_end 26 Yba.underlying26 gz 1 L cz 1 hL (by omega) 1 rfl
    obtain ⟨ax, hax, hsx⟩ := slice_end 26 Yba.underlying26 gx 1 L cx 1 hL (by omega) 1 rfl
    obtain ⟨w3, hcp, hR3, hK3⟩ := copy_words 26 Yba.underlying26 (w := w4.drew) (cz := cz - 1) (cx := cx - 1) (o := 2) (n := L - 1) ((unhide hR2).drewN 1) ((unhide hX2).drewN 1) (by omega) (by omega) az ax (by
      by_cases h : L = 1
      · exact .inl (by omega)
      · exact .inr ⟨haz (by omega), hax (by omega)⟩)
    have HR3 := hide hR3
    have HK3 := hide hK3
    clear haz hax hR3 hK3
    go_wp2
    go_region_held3 (fun _ => True) (trivial) (fail)
    all_goals go_wp2
    all_goals go_ret
    refine ⟨?_, ?_, ((unhide hK2).drew).trans (unhide HK3) (fun _ _ h => h)⟩
    · have := cs_zero (unhide HU) (unhide HC1) (L - 1)
      rw [show 1 + (L - 1) = L by omega] at this
      rw [this]; rfl
    · exact (unhide HR3).congr (fun j _ => addF_rest2 (unhide HU) (unhide HC1) hL j) (addF_lt (unhide HZ) _ _)
  · obtain rfl : k = 1 := by omega
    clear h0 hk1
    go_enter Yba.func30, Yba.ntmps30
    go_wp2_with (go_at_call 32; refine ((unhide HA) _).mono ?_; rintro e w1 ⟨rfl, rfl⟩)
    generalize w1.setCell ⟨gz, 1, none⟩ (.int .u64 (s : Int)) = w2 at hR1 hX1 hK1 ⊢
    clear HA hx1 hz1 hf1
    go_loopw [9] (fun t wr => ∃ i : Nat, 1 ≤ i ∧ i ≤ L ∧ t = .int .i64 (i : Int) ∧ Hid (cs u c i = 1 ∧ WRow wr gz capz (addF u uz c i) ∧ WRow wr gx capx u ∧ KB (fun x => x = gz) w1 wr)) (fun t _ => L - (intOf t).toNat)
    case atStart => exact ⟨1, by omega, hL, rfl, hide ⟨unhide HC1, unhide hR1, unhide hX1, unhide hK1⟩⟩
    case round =>
      obtain ⟨i, hi1, hi, rfl, HI⟩ := hrel
      clear hR1 hX1 hK1
      by_cases hlt : i < L
      · obtain ⟨x, HX⟩ : ∃ x : Nat, Hid (u (1 + i) = x) := ⟨_, hide rfl⟩
        have hcx := (unhide HI).2.2.1.cell (i := 1 + i) (by omega)
        have hcz := (unhide HI).2.1.cell (i := 1 + i) (by omega)
        have hfz := (unhide HI).2.1.frozen (1 + i)
        rw [unhide HX] at hcx
        have hiZ : (i : Int) < (L : Int) := by omega
        have hiY : (1 : Int) ≤ (i : Int) := by omega
        have HIX : Hid (x < 18446744073709551616) := hide (by rw [← unhide HX]; exact (unhide HU) _)
        by_cases hx : x = 18446744073709551615
        · have hb : ((x : Int) != 18446744073709551615) = false := by subst hx; rfl
          have HX2 := hide hx
          clear hx
          go_wp2
          go_roundw
          case rel =>
            obtain ⟨h1, h2, h2x, h3⟩ := unhide HI
            have e := unhide HX; have e2 := unhide HX2
            refine ⟨i + 1, by omega, by omega, by go_num, hide ⟨?_, ?_, h2x.setOther (by exact fun h => hne h.symm) _, h3.setCell _ _ (fun _ => rfl)⟩⟩
            · rw [cs, h1, Nat.add_comm i 1, e, e2]
            · exact (h2.set (1 + i) 0 (by omega)).congr (fun j _ => addF_step (by rw [h1, e, e2])) (addF_lt (unhide HZ) _ _)
          case measure => simp [intOf]; omega
        · have hb : ((x : Int) != 18446744073709551615) = true := by simp; omega
          have HX2 := hide hx
          clear hx
          go_wp2_with fail
          have hwx : IntKind.u64.wrap ((x : Int) + 1) = ((x + 1 : Nat) : Int) := by
            have := unhide HIX; have := unhide HX2
            simp [IntKind.wrap, IntKind.bits, IntKind.signed]; omega
          rw [hwx]
          clear hwx
          obtain ⟨h1, h2, h2x, h3⟩ := unhide HI
          have hR2 := h2.set (1 + i) (x + 1) (by have := unhide HIX; have := unhide HX2; omega)
          have hX2 := h2x.setOther (a := ⟨gz, 1 + i, none⟩) (by exact fun h => hne h.symm) (.int .u64 ((x + 1 : Nat) : Int))
          have hK2 := h3.setCell ⟨gz, 1 + i, none⟩ (.int .u64 ((x + 1 : Nat) : Int)) (fun _ => rfl)
          have H1 := hide h1
          clear h1 h2 h2x h3 HI hcx hcz hfz
          generalize wr.setCell ⟨gz, 1 + i, none⟩ (.int .u64 ((x + 1 : Nat) : Int)) = w3 at hR2 hX2 hK2 ⊢
          obtain ⟨bz, hbz⟩ := hR2.blk
          obtain ⟨bx, hbx⟩ := hX2.blk
          have hpe : ∀ n, (binOp .neq 64 (.pointer (some ⟨gz, 1, none⟩)) (.pointer (some ⟨gx, 1, none⟩))).run Yba.prog (w3.drewN n) = .ok (.bool true) (w3.drewN n) := fun n => neq_other (unhide HNA) _ hbz hbx
          have HR2 := hide hR2; have HX3 := hide hX2; have HK2 := hide hK2
          clear hbz hbx hR2 hX2 hK2
          go_quiet (fail)
          have hR4 := hide ((unhide HR2).drewN nq)
          have hX4 := hide ((unhide HX3).drewN nq)
          have hK4 := hide ((unhide HK2).drewN nq)
          clear hpe HR2 HX3 HK2
          generalize w3.drewN nq = w4 at hR4 hX4 hK4 ⊢
          obtain ⟨az, haz, hsz⟩ := slice_end 26 Yba.underlying26 gz 1 L cz (i + 1) (by omega) (by omega) ((i : Int) + 1) (by omega)
          obtain ⟨ax, hax, hsx⟩ := slice_end 26 Yba.underlying26 gx 1 L cx (i + 1) (by omega) (by omega) ((i : Int) + 1) (by omega)
          obtain ⟨w5, hcp, hR5, hK5⟩ := copy_words 26 Yba.underlying26 (w := w4.drew) (cz := cz - (i + 1)) (cx := cx - (i + 1)) (o := 1 + (i + 1)) (n := L - (i + 1)) ((unhide hR4).drewN 1) ((unhide hX4).drewN 1) (by omega) (by omega) az ax (by
            by_cases h : L = i + 1
            · exact .inl (by omega)
            · exact .inr ⟨haz (by omega), hax (by omega)⟩)
          have HR5 := hide hR5
          have HK5 := hide hK5
          clear haz hax hR5 hK5
          go_wp2
          have hwi : IntKind.i64.wrap ((i : Int) + 1) = (i : Int) + 1 := IntWalk.i64_in _ (by omega)
          go_region_held3 (fun _ => True) (trivial) (fail)
          clear hwi
          all_goals go_wp2
          all_goals go_ret
          have e := unhide HX
          have hz : cs u c (i + 1) = 0 := by
            rw [cs, unhide H1, Nat.add_comm i 1, e]
            have := unhide HIX; have := unhide HX2
            omega
          refine ⟨?_, ?_, ((unhide hK4).drew).trans (unhide HK5) (fun _ _ h => h)⟩
          · have := cs_zero (unhide HU) hz (L - (i + 1))
            rw [show i + 1 + (L - (i + 1)) = L by omega] at this
            rw [this]; rfl
          · refine (unhide HR5).congr (fun j _ => ?_) (addF_lt (unhide HZ) _ _)
            rw [← addF_rest2 (unhide HU) hz hlt j]
            split
            · rfl
            · refine addF_step (x := x + 1) ?_
              rw [unhide H1, e]
              have := unhide HIX; have := unhide HX2
              omega
      · obtain rfl : i = L := by omega
        have hiZ : ¬ (i : Int) < (i : Int) := by omega
        go_wp2
        go_ret
        obtain ⟨h1, h2, _, h3⟩ := unhide HI
        exact ⟨by rw [h1]; rfl, h2, h3⟩
end Go.Proofs.Ybulkctsy
