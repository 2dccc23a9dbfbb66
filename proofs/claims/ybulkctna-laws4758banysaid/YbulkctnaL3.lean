/-
  THE LAW 'ANY', its walk where the suffix has no more labels than the name.
-/
import Derived.Test.YbulkctnaL2
namespace Go.Proofs.Ybulkctna
open Go.RowKit
set_option linter.unusedVariables false

/-- The first k labels of the suffix are there. -/
def FoundTo (N B : List Dns.Bytes) (k : Nat) : Prop := ∀ i, i < k → Dns.eqf (N.getD (N.length - B.length + i) []) (B.getD i []) = true

theorem found_step {N B : List Dns.Bytes} {k : Nat} (h : FoundTo N B k) {x y : ByteArray} (hx : x = S (N.getD (N.length - B.length + k) [])) (hy : y = S (B.getD k [])) (he : Dns.eqf x.data.toList y.data.toList = true) : FoundTo N B (k + 1) := by
  intro i hi
  by_cases e : i = k
  · subst e hx hy; simpa using he
  · exact h i (by omega)
theorem found_not {N B : List Dns.Bytes} (hN : Dns.Ok N) (hB : Dns.Ok B) {k : Nat} (hk : k < B.length) {x y : ByteArray} (hx : x = S (N.getD (N.length - B.length + k) [])) (hy : y = S (B.getD k [])) (he : Dns.eqf x.data.toList y.data.toList = false) : Dns.isSub N B = false := by
  cases h : Dns.isSub N B with
  | false => rfl
  | true =>
    have := ((Dns.any_sub hN hB).1 h).2 k hk
    subst hx hy
    rw [S_list, S_list, this] at he
    simp at he
theorem found_all {N B : List Dns.Bytes} (hN : Dns.Ok N) (hB : Dns.Ok B) (hle : B.length ≤ N.length) (h : FoundTo N B B.length) : Dns.isSub N B = true :=
  (Dns.any_sub hN hB).2 ⟨hle, h⟩
theorem beqfold_val (a b : ByteArray) (ha : a.size ≤ maxLen) (hb : b.size ≤ maxLen) (v : Bool) (hv : Hid (Dns.eqf a.data.toList b.data.toList = v)) (w : World) :
    Calls Yba.prog 9 #[.string a, .string b] w fun e w' => e = .returned (.bool v) ∧ ∃ n, w' = w.drewN n := by
  rw [← unhide hv]; exact beqfold_any a b ha hb w

theorem Cells.take {w : World} {ad : Option Addr} {L : List Dns.Bytes} (h : Cells w ad L) (n : Nat) : Cells w ad (L.take n) := by
  intro i hi
  rw [List.length_take] at hi
  obtain ⟨b, off, e, h1, h2⟩ := h i (by omega)
  refine ⟨b, off, e, h1, ?_⟩
  rw [h2]
  have e2 : (L.take n).getD i [] = L.getD i [] := by
    rw [List.getD, List.getD, List.getElem?_take_of_lt (by omega)]
  rw [e2]
/-- wire, of a head of normal labels. -/
theorem wire_head_named (ad : Option Addr) (n cap : Nat) (L : List Dns.Bytes) (hok : Dns.Ok L) (hn : n ≤ L.length) (h300 : L.length ≤ 300) (pw : ByteArray) (HP : Hid (pw = S (Dns.wireN (L.take n)))) (w : World) (hc : Cells w ad L) :
    Calls Yba.prog 7 #[.slice ad n cap] w fun e w' => e = .returned (.string pw) ∧ Below w.heap.size w w' := by
  refine (wire_any ad n cap (L.take n) (by rw [List.length_take]; omega) w (hc.take n) (by rw [List.length_take]; omega)).mono ?_
  rintro e w' ⟨rfl, hb⟩
  exact ⟨by rw [Dns.norm_of_ok (Dns.ok_take hok n), ← unhide HP], hb⟩

set_option maxRecDepth 20000 in
set_option maxHeartbeats 1000000 in
theorem any_geq (a0 a1 a2 : Option Addr) (c0 c1 c2 : Nat) (N0 S0 W0 : List Dns.Bytes) (w : World)
    (h0 : N0.length ≤ 300) (h1 : S0.length ≤ 300) (h2 : W0.length ≤ 300) (hc0 : Cells w a0 N0) (hc1 : Cells w a1 S0) (hc2 : Cells w a2 W0) (hge : (Dns.norm S0).length ≤ (Dns.norm N0).length) :
    Calls Yba.prog 4 #[.slice a0 N0.length c0, .slice a1 S0.length c1, .slice a2 W0.length c2] w fun e w' => e = .returned (.bool true) ∧ Below w.heap.size w w' := by
  have h0Z : ¬ (300 : Int) < (N0.length : Int) := by omega
  have h1Z : ¬ (300 : Int) < (S0.length : Int) := by omega
  have h2Z : ¬ (300 : Int) < (W0.length : Int) := by omega
  go_enter Yba.func4, Yba.ntmps4
  go_wp2_with fail
  refine (norm_any a0 N0.length c0 N0 rfl w hc0 h0).mono ?_
  rintro e w1 ⟨ad1, cap1, rfl, hcap1, hcN, hb1⟩
  have hN := Dns.norm_ok N0
  have hNn := Nat.le_trans (Dns.norm_length_le N0) h0
  generalize Dns.norm N0 = N at *
  go_wp2_with fail
  refine (norm_any a1 S0.length c1 S0 rfl w1 (hc1.below hb1 (Nat.le_refl _)) h1).mono ?_
  rintro e w2 ⟨ad2, cap2, rfl, hcap2, hcS, hb2⟩
  have hS := Dns.norm_ok S0
  have hSn := Nat.le_trans (Dns.norm_length_le S0) h1
  generalize Dns.norm S0 = B at *
  have hb12 := hb1.trans (hb2.mono hb1.size)
  go_wp2_with fail
  refine (wire_named a2 W0.length c2 W0 rfl w2 (hc2.below hb12 (Nat.le_refl _)) h2).mono ?_
  rintro e w3 ⟨ww, rfl, HW, hww, hb3⟩
  have hb03 := hb12.trans (hb3.mono hb12.size)
  have hcN3 := hcN.below (hb2.trans (hb3.mono hb2.size)) (Nat.le_refl _)
  have hcS3 := hcS.below hb3 (Nat.le_refl _)
  clear hb1 hb2 hb12 hb3 hcN hcS hc0 hc1 hc2
  have hgeZ : (B.length : Int) ≤ (N.length : Int) := by omega
  go_wp2
  go_loopw [10, 12] (fun v i wr => ∃ k : Nat, k ≤ B.length ∧ v = .bool true ∧ i = .int .i64 k ∧ FoundTo N B k ∧ Below w3.heap.size w3 wr) (fun _ i _ => B.length - (intOf i).toNat)
  case atStart => exact ⟨0, Nat.zero_le _, rfl, rfl, fun i hi => by omega, Below.refl _ _⟩
  case round =>
    obtain ⟨k, hk, rfl, rfl, hfound, hbl⟩ := hrel
    by_cases hlt : k < B.length
    · obtain ⟨bN, oN, rfl, hbN, hclN⟩ := hcN3 (N.length - B.length + k) (by omega)
      obtain ⟨bS, oS, rfl, hbS, hclS⟩ := hcS3 k hlt
      rw [← hbl.cell (p := ⟨bN, oN + (N.length - B.length + k), none⟩) hbN] at hclN
      rw [← hbl.cell (p := ⟨bS, oS + k, none⟩) hbS] at hclS
      obtain ⟨x, HX⟩ : ∃ x : ByteArray, Hid (x = S (N.getD (N.length - B.length + k) [])) := ⟨_, hide rfl⟩
      obtain ⟨y, HY⟩ : ∃ y : ByteArray, Hid (y = S (B.getD k [])) := ⟨_, hide rfl⟩
      rw [← unhide HX] at hclN
      rw [← unhide HY] at hclS
      have hxs : x.size ≤ maxLen := by
        rw [unhide HX, S_size, getD_get _ _ (by omega)]
        have := (hN _ (List.getElem_mem (show N.length - B.length + k < N.length by omega))).2
        unfold maxLen; omega
      have hys : y.size ≤ maxLen := by
        rw [unhide HY, S_size, getD_get _ _ hlt]
        have := (hS _ (List.getElem_mem hlt)).2
        unfold maxLen; omega
      have hkZ : (k : Int) < (B.length : Int) := by omega
      have hkZ2 : ((N.length : Int) - (B.length : Int)) + (k : Int) < (N.length : Int) := by omega
      by_cases heq : Dns.eqf x.data.toList y.data.toList = true
      · have HE := hide heq
        have HF := hide (found_step hfound (unhide HX) (unhide HY) heq)
        clear heq hfound
        go_wp2
        go_quiet ((go_at_call 9; exact Calls.quiet_of (beqfold_val _ _ hxs hys true HE _)))
        go_wp2
        go_roundw
        case rel => exact ⟨k + 1, by omega, rfl, by go_num, unhide HF, below_drewN hbl _⟩
        case measure => simp [intOf]; omega
      · have heq' : Dns.eqf x.data.toList y.data.toList = false := by simpa using heq
        have HE := hide heq'
        have HI := hide (found_not hN hS hlt (unhide HX) (unhide HY) heq')
        clear heq heq' hfound
        go_wp2
        go_quiet ((go_at_call 9; exact Calls.quiet_of (beqfold_val _ _ hxs hys false HE _)))
        go_wp2_with fail
        have hbl' := below_drewN hbl nq
        have hcN' := hcN3.below hbl' (Nat.le_refl _)
        have hcS' := hcS3.below hbl' (Nat.le_refl _)
        have hb0r := hb03.trans (hbl'.mono hb03.size)
        refine (wire_named _ N.length cap1 N rfl _ hcN' hNn).mono ?_
        rintro e w4 ⟨nw, rfl, HN, hnw, hb4⟩
        rw [Dns.norm_of_ok hN] at HN
        have hb04 := hb0r.trans (hb4.mono hb0r.size)
        have hcS4 := hcS'.below hb4 (Nat.le_refl _)
        clear hb03 hb4 hcN' hcS' hbl' hbl hcN3 hcS3 hclN hclS hb0r
        go_wp2_with fail
        refine (wire_named _ B.length cap2 B rfl _ (hcS4.below ((Below.refl _ _).alloc (Nat.le_refl _) _) (Nat.le_refl _)) hSn).mono ?_
        rintro e w5 ⟨sw, rfl, HS, hsw, hb5⟩
        rw [Dns.norm_of_ok hS] at HS
        have hc5 : w5.cell? ⟨w4.heap.size, 0, none⟩ = some (.string nw) := by
          rw [hb5.cell (p := ⟨w4.heap.size, 0, none⟩) (by simp)]; simp
        have hs5 : w4.heap.size < w5.heap.size := by have := hb5.size; simp at this; omega
        have hb05 : Below w.heap.size w w5 := (hb04.alloc hb04.size _).trans (hb5.mono (by have := hb04.size; simp; omega))
        clear hb04 hb5 hcS4
        go_wp2_with fail
        refine (repl_no N B hN hS HI nw sw ww HN HS hNn hSn hww _).mono ?_
        rintro e w6 ⟨rfl, hb6⟩
        have hb06 : Below w.heap.size w w6 := (hb05.alloc hb05.size _).trans (hb6.mono (by have := hb05.size; simp; omega))
        clear hb05 hb6 hc5
        go_wp2
        go_ret
        exact ⟨rfl, hb06.alloc hb06.size _⟩
    · have hkB : k = B.length := by omega
      have HI := hide (found_all hN hS hge (hkB ▸ hfound))
      clear hkB hfound
      have hcN' := hcN3.below hbl (Nat.le_refl _)
      have hcS' := hcS3.below hbl (Nat.le_refl _)
      have hb0r := hb03.trans (hbl.mono hb03.size)
      clear hb03 hbl hcN3 hcS3
      go_wp2_with fail
      refine (wire_named ad1 N.length cap1 N rfl _ hcN' hNn).mono ?_
      rintro e w4 ⟨nw, rfl, HN, hnw, hb4⟩
      rw [Dns.norm_of_ok hN] at HN
      have hb04 := hb0r.trans (hb4.mono hb0r.size)
      have hcS4 := hcS'.below hb4 (Nat.le_refl _)
      have hcN4 := hcN'.below hb4 (Nat.le_refl _)
      clear hb4 hcN' hcS' hb0r
      go_wp2_with fail
      refine (wire_named ad2 B.length cap2 B rfl _ (hcS4.below ((Below.refl _ _).alloc (Nat.le_refl _) _) (Nat.le_refl _)) hSn).mono ?_
      rintro e w5 ⟨sw, rfl, HS, hsw, hb5⟩
      rw [Dns.norm_of_ok hS] at HS
      have hc5 : w5.cell? ⟨w4.heap.size, 0, none⟩ = some (.string nw) := by
        rw [hb5.cell (p := ⟨w4.heap.size, 0, none⟩) (by simp)]; simp
      have hs5 : w4.heap.size < w5.heap.size := by have := hb5.size; simp at this; omega
      have hb05 : Below w.heap.size w w5 := (hb04.alloc hb04.size _).trans (hb5.mono (by have := hb04.size; simp; omega))
      have hcN5 := (hcN4.below ((Below.refl _ _).alloc (Nat.le_refl _) _) (Nat.le_refl _)).below hb5 (Nat.le_refl _)
      clear hb04 hb5 hcS4 hcN4
      go_wp2_with fail
      obtain ⟨pw0, HP0⟩ : ∃ pw : ByteArray, Hid (pw = S (Dns.wireN (N.take (N.length - B.length)))) := ⟨_, hide rfl⟩
      refine (repl_yes N B hN hS HI nw sw ww pw0 HN HS HP0 hNn hSn hww _).mono ?_
      rintro e w6 ⟨rfl, hb6⟩
      have hb06 : Below w.heap.size w w6 := (hb05.alloc hb05.size _).trans (hb6.mono (by have := hb05.size; simp; omega))
      have hcN6 := (hcN5.below ((Below.refl _ _).alloc (Nat.le_refl _) _) (Nat.le_refl _)).below hb6 (Nat.le_refl _)
      clear hb05 hb6 hc5 hcN5
      have hpws : pw0.size ≤ 19200 := by
        have h1 := Dns.wireN_length_le (Dns.ok_take hN (N.length - B.length))
        rw [List.length_take] at h1
        rw [unhide HP0, S_size]
        omega
      by_cases hlong : 255 < pw0.size + ww.size + 1
      · rw [if_pos hlong]
        have hlZ : (255 : Int) < (pw0.size : Int) + (ww.size : Int) + 1 := by omega
        go_wp2_with fail
        refine (wire_head_named ad1 (N.length - B.length) cap1 N hN (by omega) hNn pw0 HP0 _ (hcN6.below ((Below.refl _ _).alloc (Nat.le_refl _) _) (Nat.le_refl _))).mono ?_
        rintro e w7 ⟨rfl, hb7⟩
        have hc7 : w7.cell? ⟨w6.heap.size, 0, none⟩ = some (.string ⟨#[]⟩) := by
          rw [hb7.cell (p := ⟨w6.heap.size, 0, none⟩) (by simp)]; simp
        have hb07 : Below w.heap.size w w7 := (hb06.alloc hb06.size _).trans (hb7.mono (by have := hb06.size; simp; omega))
        clear hb06 hb7 hcN6
        go_wp2
        go_ret
        exact ⟨rfl, hb07⟩
      · rw [if_neg hlong]
        have hlZ : ¬ (255 : Int) < (pw0.size : Int) + (ww.size : Int) + 1 := by omega
        go_wp2_with fail
        refine (wire_head_named ad1 (N.length - B.length) cap1 N hN (by omega) hNn pw0 HP0 _ (hcN6.below ((Below.refl _ _).alloc (Nat.le_refl _) _) (Nat.le_refl _))).mono ?_
        rintro e w7 ⟨rfl, hb7⟩
        have hc7 : w7.cell? ⟨w6.heap.size, 0, none⟩ = some (.string (pw0 ++ ww)) := by
          rw [hb7.cell (p := ⟨w6.heap.size, 0, none⟩) (by simp)]; simp
        have hb07 : Below w.heap.size w w7 := (hb06.alloc hb06.size _).trans (hb7.mono (by have := hb06.size; simp; omega))
        clear hb06 hb7 hcN6
        go_wp2
        go_ret
        exact ⟨rfl, hb07⟩
end Go.Proofs.Ybulkctna
