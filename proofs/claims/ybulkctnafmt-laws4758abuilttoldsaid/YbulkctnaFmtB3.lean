/-
  THE LAW 'BUILT': its walk at 'alpn'.
-/
import Derived.Test.YbulkctnaFmtB1
namespace Go.Proofs.YbulkctnaFmt
open Go.RowKit Go.Extern.Stop Go.Stop Go.Extern
set_option linter.unusedVariables false

theorem alp_take_succ (l : Svc.Bytes) (k : Nat) (h : k < l.length) : Svc.alp (l.take (k + 1)) = Svc.alp (l.take k) ++ Svc.oneId (l.getD k 0) := by
  have e : l.getD k 0 = l[k] := by simp [List.getD, List.getElem?_eq_getElem h]
  rw [List.take_succ_eq_append_getElem h, Svc.alp_snoc, e]
/-- The first j+1 bytes of an id, as values. -/
def part (L : Nat) (j : Nat) : List Value := List.replicate (j + 1) (.int .u8 (L : Int))
theorem part_succ (L j : Nat) : part L (j + 1) = part L j ++ [.int .u8 (L : Int)] := by
  unfold part
  rw [List.replicate_succ']
theorem part_one (L : Nat) : part L 0 = [.int .u8 (L : Int)] := rfl
theorem part_length (L j : Nat) : (part L j).length = j + 1 := by simp [part]
theorem part_all (c : UInt8) : part (Svc.idLen c) (Svc.idLen c) = bvals (Svc.oneId c) := by
  have hb := Svc.idLen_bd c
  have en : (UInt8.ofNat (Svc.idLen c)).toNat = Svc.idLen c := by simp [UInt8.toNat_ofNat']; omega
  simp [part, bvals, Svc.oneId, en]

set_option maxRecDepth 20000 in
set_option maxHeartbeats 1600000 in
theorem built_0 (F : Interp) (a0 a3 : Int) (h00 : 0 ≤ a0) (h01 : a0 ≤ 255) (hs : a0 % 4 = 0) (ad1 ad2 : Option Addr) (c1 n2 c2 : Nat) (l : Svc.Bytes) (hn1 : l.length ≤ 300) (hn2 : n2 ≤ 300) (w : World) (hE : Env F w) (hC : BCells w ad1 l) :
    Calls Ybaf.prog 4 #[.int .u8 a0, .slice ad1 l.length c1, .slice ad2 n2 c2, .int .u8 a3] w fun e w' => e = .returned (.bool true) ∧ Below w.heap.size w w' := by
  obtain ⟨i0, hi, hz0, hz1, hz2⟩ := info_parts Ybaf.info5
  have HE := hide hE
  have h1Z : ¬ (300 : Int) < (l.length : Int) := by omega
  have h2Z : ¬ (300 : Int) < (n2 : Int) := by omega
  have s0 : (a0 % 4 == 0) = true := by rw [hs]; rfl
  clear hE hs
  go_enter Ybaf.func4, Ybaf.ntmps4
  go_wp2
  go_loopw [9, 54] (fun v i wr => ∃ j : Nat, j ≤ l.length ∧ i = .int .i64 (j : Int) ∧ wr.ownsRow w.heap.size 5 1 v (Svc.alp (l.take j)).length (bvals (Svc.alp (l.take j))) ∧ Below w.heap.size w wr) (fun _ i _ => l.length - (intOf i).toNat)
  case atStart => exact ⟨0, Nat.zero_le _, rfl, World.ownsRow_nil _ _ _ _, Below.refl _ _⟩
  case round =>
    obtain ⟨j, hj, rfl, hown, hbl⟩ := hrel
    have hbs := hbl.size
    have hal : (Svc.alp (l.take j)).length ≤ 76800 := by
      have := Svc.alp_length_le (l.take j)
      rw [List.length_take] at this
      omega
    by_cases hlt : j < l.length
    · obtain ⟨b, off, rfl, hb1, hcl⟩ := hC j hlt
      rw [← hbl.cell (p := ⟨b, off + j, none⟩) hb1] at hcl
      obtain ⟨c, HCc⟩ : ∃ c : UInt8, Hid (l.getD j 0 = c) := ⟨_, hide rfl⟩
      rw [unhide HCc] at hcl
      have hcb := c.toNat_lt
      obtain ⟨L, HL⟩ : ∃ L : Nat, Hid (Svc.idLen c = L) := ⟨_, hide rfl⟩
      have hLb := Svc.idLen_bd c
      rw [unhide HL] at hLb
      have HLZ : Hid ((c.toNat : Int) % 255 + 1 = (L : Int)) := hide (by have := unhide HL; unfold Svc.idLen at this; omega)
      have HA := hide (alp_take_succ l j hlt)
      have hli : (j : Int) < (l.length : Int) := by omega
      obtain ⟨B, HB⟩ : ∃ B : Svc.Bytes, Hid (Svc.alp (l.take j) = B) := ⟨_, hide rfl⟩
      rw [unhide HB] at hown hal
      go_wp2_with (at_builtin; refine wpList_append_own _ rfl (.tmp 62) (.tmp 65) 23 rfl w.heap.size 5 i0 (.int .u8 0) 1 1 Ybaf.underlying23 hi hz0 hz1 hz2 rfl (by decide) _ _ _ rfl (hown.alloc _) ⟨wr.heap.size, 0, none⟩ 1 1 [.int .u8 ((c.toNat : Int) % 255 + 1)] rfl rfl (cell_one_new _ _ _) (one_int _) (by unfold maxLen; omega) (by omega) (by simp; omega) ?_; intro v1 w1 hown1 hgrow1 _)
      have hbl1 := below_app hbl hown hgrow1
      rw [unhide HLZ, ← part_one] at hown1
      clear hgrow1 hown hcl
      go_loopw [9, 13] (fun v t wx => ∃ m : Nat, m ≤ L ∧ t = .int .i64 (m : Int) ∧ wx.ownsRow w.heap.size 5 1 v (B.length + (m + 1)) (bvals B ++ part L m) ∧ Below w.heap.size w wx) (fun _ t _ => L - (intOf t).toNat)
      case atStart => exact ⟨0, Nat.zero_le _, rfl, hown1, hbl1⟩
      case round =>
        clear hown1 hbl1
        obtain ⟨m, hm, rfl, hownm, hblm⟩ := hrel
        have hbsm := hblm.size
        by_cases hml : m < L
        · have hmZ : (m : Int) < (c.toNat : Int) % 255 + 1 := by have := unhide HLZ; omega
          go_wp2_with (at_builtin; refine wpList_append_own _ rfl (.tmp 72) (.tmp 75) 23 rfl w.heap.size 5 i0 (.int .u8 0) 1 1 Ybaf.underlying23 hi hz0 hz1 hz2 rfl (by decide) _ _ _ rfl (hownm.alloc _) ⟨wr.heap.size, 0, none⟩ 1 1 [.int .u8 ((c.toNat : Int) % 255 + 1)] rfl rfl (cell_one_new _ _ _) (one_int _) (by unfold maxLen; omega) (by omega) (by simp; omega) ?_; intro v2 w2 hown2 hgrow2 _)
          have hbl2 := below_app hblm hownm hgrow2
          rw [unhide HLZ, List.append_assoc, ← part_succ] at hown2
          clear hgrow2 hownm
          go_wp2
          go_roundw
          case rel => exact ⟨m + 1, by omega, by go_num, hown2, hbl2⟩
          case measure => simp [intOf]; omega
        · have hmZ : ¬ (m : Int) < (c.toNat : Int) % 255 + 1 := by have := unhide HLZ; omega
          have ho2 : wr.ownsRow w.heap.size 5 1 u9 (Svc.alp (l.take (j + 1))).length (bvals (Svc.alp (l.take (j + 1)))) := by
            have hmL : m = Svc.idLen c := by have := unhide HL; omega
            have hLc : L = Svc.idLen c := (unhide HL).symm
            rw [hmL, hLc, part_all, ← bvals_append] at hownm
            rw [unhide HA, unhide HB, unhide HCc, List.length_append, Svc.oneId_length]
            exact hownm
          clear hownm
          go_wp2
          go_roundw
          case rel => exact ⟨j + 1, by omega, by go_num, ho2, hblm⟩
          case measure => simp [intOf]; omega
    · obtain ⟨adF, capF, hv, hcapF, hcF⟩ := bcells_of_own hown
      have hke : l.take j = l := List.take_of_length_le (by omega)
      rw [hke] at hal hcF hv hcapF
      have HE2 := hide ((unhide HE).below hbl)
      have HM := hide (Svc.alpn_alp l)
      have hkx : (Svc.alp l).length ≤ 1000000 := by omega
      rw [hv]
      clear hown hv hal hke
      go_wp2_with fail
      refine (check_any F 1 (by omega) (by omega) adF _ capF (Svc.alp l) rfl hkx hcapF _ (unhide HE2) hcF).mono ?_
      rintro e w2 ⟨hres, hb2⟩
      rw [unhide HM] at hres
      have hb3 := hbl.trans (hb2.mono hbs)
      by_cases hpos : 0 < l.length
      · rw [decide_eq_true hpos] at hres
        rcases hres with ⟨_, rfl⟩ | ⟨hf, _⟩
        · have hpZ : (0 : Int) < (l.length : Int) := by omega
          go_wp2
          go_ret
          exact ⟨rfl, hb3⟩
        · cases hf
      · rw [decide_eq_false hpos] at hres
        rcases hres with ⟨hf, _⟩ | ⟨_, p, rfl⟩
        · cases hf
        · have hpZ : ¬ (0 : Int) < (l.length : Int) := by omega
          go_wp2
          go_ret
          exact ⟨rfl, hb3⟩
end Go.Proofs.YbulkctnaFmt
