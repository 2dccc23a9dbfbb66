/-
  The law: its walk.
-/
import Derived.Test.YbulkctpeP
import Derived.BigQuiet
import Derived.Deep.QuietTactic
namespace Go.Proofs.Ybulkctpe
open Go.RowKit
set_option linter.unusedVariables false

theorem info5 : (Yba.prog.info? 5).map (fun i => (i.zero, i.size, i.bytes)) = some (some (.int .u8 0), 1, 1) := by kernel_rfl

/-- What stands at each loop: the new row, and the array 'want'. -/
structure Inv (w : World) (G len : Nat) (F k : Nat → Value) (wr : World) : Prop where
  below : Below w.heap.size w wr
  row : wr.rowIs w.heap.size 5 len F
  want : wr.rowIs G 31 44 k
theorem Inv.set {w : World} {G len : Nat} {F k k' : Nat → Value} {wr : World} (h : Inv w G len F k wr) (hG : w.heap.size < G) (i : Nat) (v : Value) (e : ∀ j, j < 44 → (if j = i then v else k j) = k' j) :
    Inv w G len F k' (wr.setCell ⟨G, i, none⟩ v) :=
  ⟨h.below.setCell (Nat.le_of_lt hG) v, h.row.setOther (by exact Nat.ne_of_lt hG) v, (h.want.set i v).congr e⟩
theorem Inv.drew {w : World} {G len : Nat} {F k : Nat → Value} {wr : World} (h : Inv w G len F k wr) : Inv w G len F k wr.drew := ⟨h.below.drew, h.row.drew, h.want.drew⟩

/-- The row's content behind 'Put'. -/
def rowF (seq ts ee ss len : Nat) (z : Nat → Int) : Nat → Value := fun j => if j < 44 then .int .u8 ((wI seq ts ee ss j : Nat) : Int) else if j < len then .int .u8 (z j) else .int .u8 0
/-- The array 'want', its first m octets laid. -/
def wantF (seq ts ee ss m : Nat) : Nat → Value := fun j => if j < m then .int .u8 ((wI seq ts ee ss j : Nat) : Int) else .int .u8 0
theorem wantF_out {seq ts ee ss m j : Nat} (h : m ≤ j) : wantF seq ts ee ss m j = .int .u8 0 := if_neg (by omega)
theorem wantF_step {seq ts ee ss m j : Nat} {x : Int} (h : x = ((wI seq ts ee ss m : Nat) : Int)) : (if j = m then Value.int .u8 x else wantF seq ts ee ss m j) = wantF seq ts ee ss (m + 1) j := by
  unfold wantF
  by_cases e : j = m
  · subst e; rw [if_pos rfl, if_pos (by omega), h]
  · rw [if_neg e]
    by_cases l : j < m
    · rw [if_pos l, if_pos (by omega)]
    · rw [if_neg l, if_neg (by omega)]
theorem val4 (seq ts ee ss i : Nat) (h : i < 4) : (seq : Int) / 2 ^ (24 - 8 * i) % 256 = ((wI seq ts ee ss i : Nat) : Int) := by
  unfold wI
  rw [if_pos h]
  have e : (256 : Nat) ^ (3 - i) = 2 ^ (24 - 8 * i) := by rw [show (256 : Nat) = 2 ^ 8 from rfl, ← Nat.pow_mul, show 8 * (3 - i) = 24 - 8 * i by omega]
  rw [e]
  simp
theorem val8 (seq ts ee ss i : Nat) (h : i < 8) : (ts : Int) / 2 ^ (56 - 8 * i) % 256 = ((wI seq ts ee ss (4 + i) : Nat) : Int) := by
  unfold wI
  rw [if_neg (by omega), if_pos (by omega)]
  have e : (256 : Nat) ^ (11 - (4 + i)) = 2 ^ (56 - 8 * i) := by rw [show (256 : Nat) = 2 ^ 8 from rfl, ← Nat.pow_mul, show 8 * (11 - (4 + i)) = 56 - 8 * i by omega]
  rw [e]
  simp

theorem wantF_all {seq ts ee ss j : Nat} : wantF seq ts ee ss 16 j = .int .u8 ((wI seq ts ee ss j : Nat) : Int) := by
  unfold wantF
  by_cases h : j < 16
  · rw [if_pos h]
  · rw [if_neg h]
    unfold wI
    rw [if_neg (by omega), if_neg (by omega), if_neg (by omega), if_neg (by omega), if_neg (by omega), if_neg (by omega)]
    rfl
theorem Inv.drewN {w : World} {G len : Nat} {F k : Nat → Value} (n : Nat) {wr : World} (h : Inv w G len F k wr) : Inv w G len F k (wr.drewN n) := ⟨below_drewN h.below n, h.row, h.want⟩
theorem val12 (seq ts ee ss : Nat) : (ee : Int) / 256 % 256 = ((wI seq ts ee ss 12 : Nat) : Int) := by unfold wI; simp
theorem val13 (seq ts ee ss : Nat) : (ee : Int) % 256 = ((wI seq ts ee ss 13 : Nat) : Int) := by unfold wI; simp
theorem val14 (seq ts ee ss : Nat) : (ss : Int) / 256 % 256 = ((wI seq ts ee ss 14 : Nat) : Int) := by unfold wI; simp
theorem val15 (seq ts ee ss : Nat) : (ss : Int) % 256 = ((wI seq ts ee ss 15 : Nat) : Int) := by unfold wI; simp

set_option maxRecDepth 20000 in
set_option maxHeartbeats 400000 in
theorem law_long (seq ts ee ss : Nat) (h1 : seq < 4294967296) (h2 : ts < 18446744073709551616) (h3 : ee < 65536) (h4 : ss < 65536) (a : Option Addr) (len cap : Nat) (z : Nat → Int) (h44 : 44 ≤ len) (hl : len ≤ 1024) (w : World) (hs : Src w a len z) :
    Calls Yba.prog 3 #[.int .u32 seq, .int .u64 ts, .int .u16 ee, .int .u16 ss, .slice a len cap] w fun e w' => e = .returned (.bool true) ∧ Below w.heap.size w w' := by
  have H1 := hide h1
  have H2 := hide h2
  have H3 := hide h3
  have H4 := hide h4
  have hlZ : ¬ (1024 : Int) < (len : Int) := by omega
  have hlY : ¬ (len : Int) < 44 := by omega
  have hmk := fun w => run_make_row' (P := Yba.prog) 25 5 (.int .u8 0) 1 Yba.underlying25 info5 rfl .i64 .i64 len (by omega) (by omega) w
  have hr0 := World.rowIs_made w (.int .u8 0) len 5
  have hb0 : Below w.heap.size w (w.alloc (.cells (madeCells #[.int .u8 0] len) 5)) := (Below.refl _ _).alloc (Nat.le_refl _) _
  obtain ⟨w2, hcp, hr2, hk2⟩ := copied (cap := cap) (N := len) hr0 (Nat.le_refl _) (hs.below hb0)
  have HR2 := hide hr2
  have HB2 := hide (hb0.trans hk2.below)
  have HS := hide hs
  clear h1 h2 h3 h4 hr0 hb0 hr2 hk2 hs
  go_enter Yba.func3, Yba.ntmps3
  go_wp2_with fail
  refine (put_any seq ts ee ss (unhide H1) (unhide H2) (unhide H3) (unhide H4) w.heap.size len h44 _ _ ((unhide HR2).alloc _)).mono ?_
  rintro e w3 ⟨rfl, hr3, hk3⟩
  have HR3 := hide (hr3.congr (g := rowF seq ts ee ss len z) (fun j hj => by
    unfold rowF
    by_cases h : j < 44
    · rw [putF_low _ _ _ _ _ _ h, if_pos h]
    · rw [putF_high _ _ _ _ _ _ (by omega), if_neg h]))
  have HB3 := hide (((unhide HB2).alloc (unhide HB2).size _).trans (hk3.below.mono (Nat.le_refl _)))
  clear hr3 hk3 HR2 HB2 hmk hcp H1 H2 H3 H4
  go_wp2_with fail
  have hG : w.heap.size < w3.heap.size := (unhide HR3).lt
  have hi0 : Inv w w3.heap.size len _ _ _ := ⟨(unhide HB3).alloc (Nat.le_of_lt hG) _, (unhide HR3).alloc _, World.rowIs_alloc w3 (Array.replicate 44 (.int .u8 0)) 31 (wantF seq ts ee ss 0) (fun j hj => by rw [wantF_out (Nat.zero_le _), Array.getElem?_replicate, if_pos (by simpa using hj)])⟩
  have HI0 := hide hi0
  clear hi0 HR3 HB3
  obtain ⟨G, HG⟩ : ∃ G : Nat, Hid (G = w3.heap.size) := ⟨_, hide rfl⟩
  rw [← unhide HG] at hG HI0 ⊢
  go_loopw [15] (fun t wr => ∃ i : Nat, i ≤ 4 ∧ t = .int .i64 (i : Int) ∧ Hid (Inv w G len (rowF seq ts ee ss len z) (wantF seq ts ee ss i) wr)) (fun t _ => 4 - (intOf t).toNat)
  case atStart => exact ⟨0, by omega, rfl, HI0⟩
  case round =>
    obtain ⟨i, hi, rfl, HI⟩ := hrel
    by_cases hlt : i < 4
    · have hc := (unhide HI).want.cell (i := i) (by omega)
      have hf := (unhide HI).want.frozen i
      rw [wantF_out (Nat.le_refl _)] at hc
      have hiZ : (i : Int) < 4 := by omega
      have hiY : (0 : Int) ≤ (i : Int) := by omega
      go_wp2
      go_roundw
      case rel => exact ⟨i + 1, by omega, by go_num, hide ((unhide HI).set hG i _ (fun j _ => wantF_step (by rw [val4 seq ts ee ss i hlt])))⟩
      case measure => simp [intOf]; omega
    · obtain rfl : i = 4 := by omega
      clear hlt hi HI0
      go_wp2_with fail
      go_loopw [16] (fun t wr => ∃ i : Nat, i ≤ 8 ∧ t = .int .i64 (i : Int) ∧ Hid (Inv w G len (rowF seq ts ee ss len z) (wantF seq ts ee ss (4 + i)) wr)) (fun t _ => 8 - (intOf t).toNat)
      case atStart => exact ⟨0, by omega, rfl, HI⟩
      case round =>
        obtain ⟨i, hi, rfl, HJ⟩ := hrel
        by_cases hlt : i < 8
        · have hc := (unhide HJ).want.cell (i := 4 + i) (by omega)
          have hf := (unhide HJ).want.frozen (4 + i)
          rw [wantF_out (Nat.le_refl _)] at hc
          have hiZ : (i : Int) < 8 := by omega
          have hiY : (0 : Int) ≤ (i : Int) := by omega
          go_wp2
          go_roundw
          case rel => exact ⟨i + 1, by omega, by go_num, hide ((unhide HJ).set hG (4 + i) _ (fun j _ => wantF_step (by rw [val8 seq ts ee ss i hlt])))⟩
          case measure => simp [intOf]; omega
        · obtain rfl : i = 8 := by omega
          clear hlt hi HI
          have c12 := (unhide HJ).want.cell (i := 12) (by omega)
          have c13 := (unhide HJ).want.cell (i := 13) (by omega)
          have c14 := (unhide HJ).want.cell (i := 14) (by omega)
          have c15 := (unhide HJ).want.cell (i := 15) (by omega)
          rw [wantF_out (by omega)] at c12 c13 c14 c15
          have f12 := (unhide HJ).want.frozen 12
          have f13 := (unhide HJ).want.frozen 13
          have f14 := (unhide HJ).want.frozen 14
          have f15 := (unhide HJ).want.frozen 15
          go_wp2_with fail
          have HK := hide ((((((unhide HJ).set hG 12 _ (fun j _ => wantF_step (val12 seq ts ee ss))).set hG 13 _ (fun j _ => wantF_step (val13 seq ts ee ss))).set hG 14 _ (fun j _ => wantF_step (val14 seq ts ee ss))).set hG 15 _ (fun j _ => wantF_step (val15 seq ts ee ss))))
          clear c12 c13 c14 c15 f12 f13 f14 f15 HJ
          go_loopw [17] (fun t wr => ∃ i : Nat, i ≤ 44 ∧ t = .int .i64 (i : Int) ∧ Hid (Inv w G len (rowF seq ts ee ss len z) (wantF seq ts ee ss 16) wr)) (fun t _ => 44 - (intOf t).toNat)
          case atStart => exact ⟨0, by omega, rfl, HK⟩
          case round =>
            obtain ⟨i, hi, rfl, HL⟩ := hrel
            clear HK
            by_cases hlt : i < 44
            · obtain ⟨x, HX⟩ : ∃ x : Int, Hid (((wI seq ts ee ss i : Nat) : Int) = x) := ⟨_, hide rfl⟩
              have hA := (unhide HL).row.cell (i := i) (by omega)
              have hB := (unhide HL).want.cell (i := i) hlt
              rw [rowF, if_pos hlt, unhide HX] at hA
              rw [wantF_all, unhide HX] at hB
              have hiZ : (i : Int) < 44 := by omega
              have hiY : (i : Int) < (len : Int) := by omega
              have hiX : (0 : Int) ≤ (i : Int) := by omega
              go_wp2
              go_quiet (fail)
              go_wp2
              go_roundw
              case rel => exact ⟨i + 1, by omega, by go_num, hide ((unhide HL).drewN _)⟩
              case measure => simp [intOf]; omega
            · obtain rfl : i = 44 := by omega
              clear hlt hi
              go_wp2_with fail
              go_loopw [18] (fun t wr => ∃ i : Nat, 44 ≤ i ∧ i ≤ len ∧ t = .int .i64 (i : Int) ∧ Hid (Inv w G len (rowF seq ts ee ss len z) (wantF seq ts ee ss 16) wr)) (fun t _ => len - (intOf t).toNat)
              case atStart => exact ⟨44, by omega, h44, rfl, HL⟩
              case round =>
                obtain ⟨i, hi4, hi, rfl, HM⟩ := hrel
                clear HL
                by_cases hlt : i < len
                · obtain ⟨b, off, rfl, hbz, hsc⟩ := (unhide HS) i hlt
                  obtain ⟨x, HX⟩ : ∃ x : Int, Hid (z i = x) := ⟨_, hide rfl⟩
                  have hA := (unhide HM).row.cell (i := i) (by omega)
                  have hB := ((unhide HM).below.cell (p := ⟨b, off + i, none⟩) (by exact hbz)).trans hsc
                  rw [rowF, if_neg (by omega), if_pos hlt, unhide HX] at hA
                  rw [unhide HX] at hB
                  have hiY : (i : Int) < (len : Int) := by omega
                  have hiX : (0 : Int) ≤ (i : Int) := by omega
                  clear hsc hbz
                  go_wp2
                  go_quiet (fail)
                  go_wp2
                  go_roundw
                  case rel => exact ⟨i + 1, by omega, by omega, by go_num, hide ((unhide HM).drewN _)⟩
                  case measure => simp [intOf]; omega
                · have hiY : ¬ (i : Int) < (len : Int) := by omega
                  go_wp2
                  go_ret
                  exact ⟨rfl, (unhide HM).below⟩
end Go.Proofs.Ybulkctpe
