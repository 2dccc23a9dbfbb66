/-
  THE LAW 'BELOW': its walk.
-/
import Derived.Test.YbulkctnaW5
import Derived.Test.YbulkctnaW8
namespace Go.Proofs.Ybulkctna
open Go.RowKit
set_option linter.unusedVariables false

set_option maxHeartbeats 400000 in
theorem below_long (a0 a1 a2 : Option Addr) (n0 n1 n2 c0 c1 c2 : Nat) (mask : Int) (w : World) (h : 300 < n0 ∨ 300 < n1 ∨ 300 < n2) :
    Calls Yba.prog 3 #[.slice a0 n0 c0, .slice a1 n1 c1, .slice a2 n2 c2, .int .u64 mask] w fun e w' => e = .returned (.bool true) ∧ Below w.heap.size w w' := by
  by_cases h0 : 300 < n0
  · have h0Z : (300 : Int) < (n0 : Int) := by omega
    clear h
    go_enter Yba.func3, Yba.ntmps3
    go_wp2
    go_ret
    exact ⟨rfl, Below.refl _ _⟩
  by_cases h1 : 300 < n1
  · have h0Z : ¬ (300 : Int) < (n0 : Int) := by omega
    have h1Z : (300 : Int) < (n1 : Int) := by omega
    clear h
    go_enter Yba.func3, Yba.ntmps3
    go_wp2
    go_ret
    exact ⟨rfl, Below.refl _ _⟩
  have h0Z : ¬ (300 : Int) < (n0 : Int) := by omega
  have h1Z : ¬ (300 : Int) < (n1 : Int) := by omega
  have h2Z : (300 : Int) < (n2 : Int) := by omega
  clear h
  go_enter Yba.func3, Yba.ntmps3
  go_wp2
  go_ret
  exact ⟨rfl, Below.refl _ _⟩

theorem same_snoc {N F : List Dns.Bytes} {k : Nat} (h : k < N.length) (hs : Dns.Same (N.take k) F) {r : Dns.Bytes} (hr : r.map Dns.low = (N[k]).map Dns.low) : Dns.Same (N.take (k + 1)) (F ++ [r]) := by
  unfold Dns.Same at hs ⊢
  rw [List.take_succ_eq_append_getElem h, List.map_append, List.map_append, hs]
  simp [hr]

theorem own_below {w w' : World} {base e size n : Nat} {v : Value} {xs : List Value} (h : w.ownsRow base e size v n xs) (hb : Below w.heap.size w w') : w'.ownsRow base e size v n xs :=
  h.kept (row := none) ⟨hb.os, hb.tape, hb.output, hb.size, fun k hk _ => hb.block k hk⟩ (by cases hv : v.ownBlock <;> simp)

/-- wire, its answer under a name. -/
theorem wire_named (ad : Option Addr) (n cap : Nat) (L : List Dns.Bytes) (hL : n = L.length) (w : World) (hc : Cells w ad L) (hn : L.length ≤ 300) :
    Calls Yba.prog 7 #[.slice ad n cap] w fun e w' => ∃ t : ByteArray, e = .returned (.string t) ∧ Hid (t = S (Dns.wireN (Dns.norm L))) ∧ t.size ≤ 19200 ∧ Below w.heap.size w w' := by
  refine (wire_any ad n cap L hL w hc hn).mono ?_
  rintro e w' ⟨rfl, hb⟩
  refine ⟨_, rfl, hide rfl, ?_, hb⟩
  have h1 := Dns.wireN_length_le (Dns.norm_ok L)
  have h2 := Dns.norm_length_le L
  rw [S_size]
  omega

theorem S_append (a b : Dns.Bytes) : S (a ++ b) = S a ++ S b := by
  apply ByteArray.ext
  rw [ByteArray.data_append]
  apply Array.ext'
  simp
theorem S_data (t : ByteArray) : S t.data.toList = t := by
  apply ByteArray.ext
  simp

/-- ReplaceSuffix, in the law's own case. -/
theorem repl_below (P N F : List Dns.Bytes) (hP : Dns.Ok P) (hN : Dns.Ok N) (HS : Hid (Dns.Same N F)) (pw sw sf ww : ByteArray) (HP : Hid (pw = S (Dns.wireN P))) (HSW : Hid (sw = S (Dns.wireN N))) (HF : Hid (sf = S (Dns.wireN F)))
    (hPn : P.length ≤ 300) (hNn : N.length ≤ 300) (hww : ww.size ≤ 19200) (w : World) :
    Calls Yba.prog 8 #[nm (pw ++ sw), nm sf, nm ww] w fun e w' => e = .returned (if 255 < pw.size + ww.size + 1 then .tuple #[nm ⟨#[]⟩, .bool false] else .tuple #[nm (pw ++ ww), .bool true]) ∧ Below w.heap.size w w' := by
  have hF := Dns.same_ok (unhide HS) hN
  have hl := Dns.same_len (unhide HS)
  refine (repl_any (P ++ N) F (Dns.ok_append hP hN) hF (pw ++ sw) sf ww (hide ?_) HF (by simp; omega) (by omega) (by omega) w).mono ?_
  · rw [Dns.wireN_append, S_append, unhide HP, unhide HSW]
  rintro e w' ⟨rfl, hb⟩
  refine ⟨?_, hb⟩
  have e1 : (Dns.wireN P).length = pw.size := by rw [unhide HP, S_size]
  have e2 : ww.data.toList.length = ww.size := by simp
  rw [Dns.wireN_append, Dns.below hP hN (unhide HS), e1, e2]
  split
  · rfl
  · show Ending.returned (.tuple #[nm (S (Dns.wireN P ++ ww.data.toList)), .bool true]) = _
    rw [S_append, S_data, ← unhide HP]

set_option maxRecDepth 20000 in
set_option maxHeartbeats 1000000 in
theorem below_short (a0 a1 a2 : Option Addr) (c0 c1 c2 : Nat) (P0 S0 W0 : List Dns.Bytes) (mask : Int) (hm0 : 0 ≤ mask) (hm1 : mask ≤ 18446744073709551615) (w : World)
    (h0 : P0.length ≤ 300) (h1 : S0.length ≤ 300) (h2 : W0.length ≤ 300) (hc0 : Cells w a0 P0) (hc1 : Cells w a1 S0) (hc2 : Cells w a2 W0) :
    Calls Yba.prog 3 #[.slice a0 P0.length c0, .slice a1 S0.length c1, .slice a2 W0.length c2, .int .u64 mask] w fun e w' => e = .returned (.bool true) ∧ Below w.heap.size w w' := by
  obtain ⟨i0, hi, hz0, hz1, hz2⟩ := info_parts Yba.info9
  have h0Z : ¬ (300 : Int) < (P0.length : Int) := by omega
  have h1Z : ¬ (300 : Int) < (S0.length : Int) := by omega
  have h2Z : ¬ (300 : Int) < (W0.length : Int) := by omega
  go_enter Yba.func3, Yba.ntmps3
  go_wp2_with fail
  refine (norm_any a1 S0.length c1 S0 rfl w hc1 h1).mono ?_
  rintro e W ⟨ad', cap', rfl, hcap, hcN, hbW⟩
  have hN := Dns.norm_ok S0
  have hNn := Nat.le_trans (Dns.norm_length_le S0) h1
  generalize Dns.norm S0 = N at *
  go_wp2_with fail
  go_loopw [10, 38] (fun v i wr => ∃ (k : Nat) (F : List Dns.Bytes), k ≤ N.length ∧ i = .int .i64 k ∧ Hid (Dns.Same (N.take k) F) ∧ wr.ownsRow W.heap.size 9 1 v k (vals F) ∧ Below W.heap.size W wr) (fun _ i _ => N.length - (intOf i).toNat)
  case atStart => exact ⟨0, [], Nat.zero_le _, rfl, hide (by simp [Dns.Same]), World.ownsRow_nil _ _ _ _, Below.refl _ _⟩
  case round =>
    obtain ⟨k, F, hk, rfl, HS, hown, hbl⟩ := hrel
    by_cases hlt : k < N.length
    · obtain ⟨b, off, rfl, hb1, hcl⟩ := hcN k hlt
      rw [← hbl.cell (p := ⟨b, off + k, none⟩) hb1, getD_get N k hlt] at hcl
      have hli : (k : Int) < (N.length : Int) := by omega
      obtain ⟨t, HT⟩ : ∃ t : ByteArray, Hid (t = S N[k]) := ⟨_, hide rfl⟩
      have hl := hN _ (List.getElem_mem hlt)
      have hts : t.size ≤ 63 := by rw [unhide HT, S_size]; exact hl.2
      rw [← unhide HT] at hcl
      have hbs := hbl.size
      go_wp2_with fail
      refine (flip_any t mask ((k : Int) * 7) (by omega) (by omega) hm0 hm1 hts _).mono ?_
      rintro e w2 ⟨r, rfl, hr, hb2⟩
      have HS2 := hide (same_snoc hlt (unhide HS) (by rw [hr, unhide HT]))
      have hown2 := own_below hown hb2
      have hbl2 := hbl.trans (hb2.mono hbs)
      have hbs2 := hbl2.size
      clear hr hown hb2 hbl hcl
      go_wp2_with (at_builtin; refine wpList_append_own _ rfl _ _ 22 rfl W.heap.size 9 i0 (.string ⟨#[]⟩) 1 16 Yba.underlying22 hi hz0 hz1 hz2 rfl (by decide) _ _ _ rfl (hown2.alloc _) ⟨w2.heap.size, 0, none⟩ 1 1 [.string (S r)] rfl rfl (cell_one_new _ _ _) (one_str _) (by unfold maxLen; omega) (by omega) (by simp; omega) ?_; intro v' w3 hown3 hgrow3 _)
      have hbl3 := below_app hbl2 hown2 hgrow3
      rw [← vals_snoc] at hown3
      clear hgrow3 hown2 hbl2
      go_roundw
      case rel => exact ⟨k + 1, F ++ [r], by omega, by go_num, HS2, hown3, hbl3⟩
      case measure => simp [intOf]; omega
    · have hke : N.take k = N := List.take_of_length_le (by omega)
      rw [hke] at HS
      obtain ⟨adF, capF, hvF, hcapF, hcF⟩ := cells_of_own hown
      have hF := Dns.same_ok (unhide HS) hN
      have hFn : F.length ≤ 300 := by rw [← Dns.same_len (unhide HS)]; exact hNn
      clear hke hown
      have hb0 := hbW.trans (hbl.mono hbW.size)
      have hc0' := hc0.below hb0 (Nat.le_refl _)
      have hc2' := hc2.below hb0 (Nat.le_refl _)
      have hcN' := hcN.below hbl (Nat.le_refl _)
      clear hc0 hc1 hc2 hcN hbW hbl
      rw [hvF]
      clear hvF
      go_wp2_with fail
      refine (wire_named a0 P0.length c0 P0 rfl wr hc0' h0).mono ?_
      rintro e w1 ⟨pw, rfl, HP, hpw, hb1⟩
      go_wp2_with fail
      refine (wire_named ad' N.length cap' N rfl w1 (hcN'.below hb1 (Nat.le_refl _)) hNn).mono ?_
      rintro e w2 ⟨sw, rfl, HSW, hsw, hb2⟩
      go_wp2_with fail
      have hb12 := hb1.trans (hb2.mono hb1.size)
      refine (wire_named a2 W0.length c2 W0 rfl w2 (hc2'.below hb12 (Nat.le_refl _)) h2).mono ?_
      rintro e w3 ⟨ww, rfl, HW, hww, hb3⟩
      have hb13 := hb12.trans (hb3.mono hb12.size)
      have hcF' := hcF.below hb13 (Nat.le_refl _)
      have hb03 := hb0.trans (hb13.mono hb0.size)
      clear hb1 hb2 hb12 hb3 hb13 hcF hb0 hc0' hc2' hcN'
      go_wp2_with fail
      refine (wire_named adF F.length capF F rfl _ (hcF'.below ((Below.refl _ _).alloc (Nat.le_refl _) _) (Nat.le_refl _)) hFn).mono ?_
      rintro e w4 ⟨sf, rfl, HF, hsf, hb4⟩
      rw [Dns.norm_of_ok hF] at HF
      rw [Dns.norm_of_ok hN] at HSW
      have hc4 : w4.cell? ⟨w3.heap.size, 0, none⟩ = some (.string (pw ++ sw)) := by
        rw [hb4.cell (p := ⟨w3.heap.size, 0, none⟩) (by simp)]; simp
      have hs4 : w3.heap.size < w4.heap.size := by have := hb4.size; simp at this; omega
      have hb04 : Below w.heap.size w w4 := (hb03.alloc hb03.size _).trans (hb4.mono (by have := hb03.size; simp; omega))
      clear hb4 hb03 hcF'
      go_wp2_with fail
      have hPl := Nat.le_trans (Dns.norm_length_le P0) h0
      refine (repl_below (Dns.norm P0) N F (Dns.norm_ok P0) hN HS pw sw sf ww HP HSW HF hPl hNn hww _).mono ?_
      rintro e w5 ⟨rfl, hb5⟩
      have hb05 : Below w.heap.size w w5 := ((hb04.alloc hb04.size _).alloc (by have := hb04.size; simp; omega) _).trans (hb5.mono (by have := hb04.size; simp; omega))
      clear hb04 hb5 hc4
      by_cases hlong : 255 < pw.size + ww.size + 1
      · rw [if_pos hlong]
        have hlZ : (255 : Int) < (pw.size : Int) + (ww.size : Int) + 1 := by omega
        go_wp2
        go_ret
        exact ⟨rfl, hb05.alloc hb05.size _⟩
      · rw [if_neg hlong]
        have hlZ : ¬ (255 : Int) < (pw.size : Int) + (ww.size : Int) + 1 := by omega
        go_wp2
        go_ret
        exact ⟨rfl, hb05.alloc hb05.size _⟩
end Go.Proofs.Ybulkctna
