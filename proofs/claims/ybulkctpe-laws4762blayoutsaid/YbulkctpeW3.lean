/-
  The law: its walk at fewer than 44 octets.
-/
import Derived.Test.YbulkctpeW2
namespace Go.Proofs.Ybulkctpe
open Go.RowKit
set_option linter.unusedVariables false

set_option maxRecDepth 20000 in
set_option maxHeartbeats 400000 in
theorem law_short (seq ts ee ss : Nat) (h1 : seq < 4294967296) (h2 : ts < 18446744073709551616) (h3 : ee < 65536) (h4 : ss < 65536) (a : Option Addr) (len cap : Nat) (z : Nat → Int) (h44 : len < 44) (w : World) (hs : Src w a len z) :
    Calls Yba.prog 3 #[.int .u32 seq, .int .u64 ts, .int .u16 ee, .int .u16 ss, .slice a len cap] w fun e w' => e = .returned (.bool true) ∧ Below w.heap.size w w' := by
  have H1 := hide h1
  have H2 := hide h2
  have H3 := hide h3
  have H4 := hide h4
  have hlZ : ¬ (1024 : Int) < (len : Int) := by omega
  have hlY : (len : Int) < 44 := by omega
  have hmk : ∀ w, (Instr.makeSlice 25 (.int .i64 44) (.int .i64 44)).run Yba.prog w = .ok (.slice (some ⟨w.heap.size, 0, none⟩) 44 44) (w.alloc (.cells (madeCells #[.int .u8 0] 44) 5)) := fun w => run_make_row' (P := Yba.prog) 25 5 (.int .u8 0) 1 Yba.underlying25 info5 rfl .i64 .i64 44 (by omega) (by omega) w
  have hr0 := World.rowIs_made w (.int .u8 0) 44 5
  have hb0 : Below w.heap.size w (w.alloc (.cells (madeCells #[.int .u8 0] 44) 5)) := (Below.refl _ _).alloc (Nat.le_refl _) _
  obtain ⟨w2, hcp, hr2, hk2⟩ := copied (cap := cap) (N := 44) hr0 (Nat.le_of_lt h44) (hs.below hb0)
  have HR2 := hide hr2
  have HB2 := hide (hb0.trans hk2.below)
  have HS := hide hs
  clear h1 h2 h3 h4 hr0 hb0 hr2 hk2 hs
  go_enter Yba.func3, Yba.ntmps3
  go_wp2_with fail
  refine (put_any seq ts ee ss (unhide H1) (unhide H2) (unhide H3) (unhide H4) w.heap.size 44 (Nat.le_refl _) _ _ ((unhide HR2).alloc _)).mono ?_
  rintro e w3 ⟨rfl, hr3, hk3⟩
  have HR3 := hide (hr3.congr (g := rowF seq ts ee ss len z) (fun j hj => by
    unfold rowF
    by_cases h : j < 44
    · rw [putF_low _ _ _ _ _ _ h, if_pos h]
    · rw [putF_high _ _ _ _ _ _ (by omega), if_neg h]))
  have HB3 := hide (((unhide HB2).alloc (unhide HB2).size _).trans (hk3.below.mono (Nat.le_refl _)))
  clear hr3 hk3 HR2 HB2 hmk hcp H1 H2 H3 H4
  go_wp2_with fail
  have hG : w.heap.size < w3.heap.size := (unhide HR3).lt
  have hi0 : Inv w w3.heap.size 44 _ _ _ := ⟨(unhide HB3).alloc (Nat.le_of_lt hG) _, (unhide HR3).alloc _, World.rowIs_alloc w3 (Array.replicate 44 (.int .u8 0)) 31 (wantF seq ts ee ss 0) (fun j hj => by rw [wantF_out (Nat.zero_le _), Array.getElem?_replicate, if_pos (by simpa using hj)])⟩
  have HI0 := hide hi0
  clear hi0 HR3 HB3
  obtain ⟨G, HG⟩ : ∃ G : Nat, Hid (G = w3.heap.size) := ⟨_, hide rfl⟩
  rw [← unhide HG] at hG HI0 ⊢
  go_loopw [15] (fun t wr => ∃ i : Nat, i ≤ 4 ∧ t = .int .i64 (i : Int) ∧ Hid (Inv w G 44 (rowF seq ts ee ss len z) (wantF seq ts ee ss i) wr)) (fun t _ => 4 - (intOf t).toNat)
  case atStart => exact ⟨0, by omega, rfl, HI0⟩
  case round =>
    obtain ⟨i, hi, rfl, HI⟩ := hrel
    by_cases hlt : i < 4
    · have hc := (unhide HI).want.cell (i := i) (by omega)
      have hf := (unhide HI).want.frozen i
      rw [wantF_out (Nat.le_refl _)] at hc
      have hiZ : (i : Int) < 4 := by omega
      have hiY : (0 : Int) ≤ (i : Int) := by omega
      go_wp2
      go_roundw
      case rel => exact ⟨i + 1, by omega, by go_num, hide ((unhide HI).set hG i _ (fun j _ => wantF_step (by rw [val4 seq ts ee ss i hlt])))⟩
      case measure => simp [intOf]; omega
    · obtain rfl : i = 4 := by omega
      clear hlt hi HI0
      go_wp2_with fail
      go_loopw [16] (fun t wr => ∃ i : Nat, i ≤ 8 ∧ t = .int .i64 (i : Int) ∧ Hid (Inv w G 44 (rowF seq ts ee ss len z) (wantF seq ts ee ss (4 + i)) wr)) (fun t _ => 8 - (intOf t).toNat)
      case atStart => exact ⟨0, by omega, rfl, HI⟩
      case round =>
        obtain ⟨i, hi, rfl, HJ⟩ := hrel
        by_cases hlt : i < 8
        · have hc := (unhide HJ).want.cell (i := 4 + i) (by omega)
          have hf := (unhide HJ).want.frozen (4 + i)
          rw [wantF_out (Nat.le_refl _)] at hc
          have hiZ : (i : Int) < 8 := by omega
          have hiY : (0 : Int) ≤ (i : Int) := by omega
          go_wp2
          go_roundw
          case rel => exact ⟨i + 1, by omega, by go_num, hide ((unhide HJ).set hG (4 + i) _ (fun j _ => wantF_step (by rw [val8 seq ts ee ss i hlt])))⟩
          case measure => simp [intOf]; omega
        · obtain rfl : i = 8 := by omega
          clear hlt hi HI
          have c12 := (unhide HJ).want.cell (i := 12) (by omega)
          have c13 := (unhide HJ).want.cell (i := 13) (by omega)
          have c14 := (unhide HJ).want.cell (i := 14) (by omega)
          have c15 := (unhide HJ).want.cell (i := 15) (by omega)
          rw [wantF_out (by omega)] at c12 c13 c14 c15
          have f12 := (unhide HJ).want.frozen 12
          have f13 := (unhide HJ).want.frozen 13
          have f14 := (unhide HJ).want.frozen 14
          have f15 := (unhide HJ).want.frozen 15
          go_wp2_with fail
          have HK := hide ((((((unhide HJ).set hG 12 _ (fun j _ => wantF_step (val12 seq ts ee ss))).set hG 13 _ (fun j _ => wantF_step (val13 seq ts ee ss))).set hG 14 _ (fun j _ => wantF_step (val14 seq ts ee ss))).set hG 15 _ (fun j _ => wantF_step (val15 seq ts ee ss))))
          clear c12 c13 c14 c15 f12 f13 f14 f15 HJ
          go_loopw [17] (fun t wr => ∃ i : Nat, i ≤ 44 ∧ t = .int .i64 (i : Int) ∧ Hid (Inv w G 44 (rowF seq ts ee ss len z) (wantF seq ts ee ss 16) wr)) (fun t _ => 44 - (intOf t).toNat)
          case atStart => exact ⟨0, by omega, rfl, HK⟩
          case round =>
            obtain ⟨i, hi, rfl, HL⟩ := hrel
            clear HK
            by_cases hlt : i < 44
            · obtain ⟨x, HX⟩ : ∃ x : Int, Hid (((wI seq ts ee ss i : Nat) : Int) = x) := ⟨_, hide rfl⟩
              have hA := (unhide HL).row.cell (i := i) (by omega)
              have hB := (unhide HL).want.cell (i := i) hlt
              rw [rowF, if_pos hlt, unhide HX] at hA
              rw [wantF_all, unhide HX] at hB
              have hiZ : (i : Int) < 44 := by omega
              have hiX : (0 : Int) ≤ (i : Int) := by omega
              go_wp2
              go_quiet (fail)
              go_wp2
              go_roundw
              case rel => exact ⟨i + 1, by omega, by go_num, hide ((unhide HL).drewN _)⟩
              case measure => simp [intOf]; omega
            · obtain rfl : i = 44 := by omega
              clear hlt hi
              go_wp2_with fail
              go_loopw [18] (fun t wr => t = .int .i64 44 ∧ Hid (Inv w G 44 (rowF seq ts ee ss len z) (wantF seq ts ee ss 16) wr)) (fun t _ => 0)
              case atStart => exact ⟨rfl, HL⟩
              case round =>
                obtain ⟨rfl, HM⟩ := hrel
                clear HL
                go_wp2
                go_ret
                exact ⟨rfl, (unhide HM).below⟩
end Go.Proofs.Ybulkctpe
