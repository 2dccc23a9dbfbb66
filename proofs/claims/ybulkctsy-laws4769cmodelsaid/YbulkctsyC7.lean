/-
  shiftLow where bytes are written: its walk.
-/
import Derived.Test.YbulkctsyC6
namespace Go.Proofs.Ybulkctsy
open Go.RowKit
set_option linter.unusedVariables false

theorem grown_undrew {w w1 : World} {row : Option Nat} (h : w.drew.grownBy w1 row) : w.grownBy w1 row := ⟨h.os, h.tape, h.output, h.size, h.block⟩

set_option maxRecDepth 20000 in
set_option maxHeartbeats 800000 in
theorem shift_flush_started (E base low rng ca pe cy : Nat) (ov : Value) (bs : List Nat) (hlow : low < 4278190080 ∨ 4294967295 < low) (hcy : low / 4294967296 = cy) (hcy1 : cy ≤ 1) (hca : ca + cy ≤ 255) (hpe : pe ≤ 100000) (hbs : bs.length ≤ 100000) (h33 : low < 8589934592) (w : World) (hb : base ≤ w.heap.size)
    (h : EncAt w E low rng true ca pe ov) (ho : OutV w base ov bs) :
    Calls Yba.prog 25 #[.pointer (some ⟨E, 0, none⟩)] w fun e w' => e = .returned (.tuple #[]) ∧ FlushS w E base (low % 16777216 * 256) rng true (low / 16777216 % 256) 0 ov (bs ++ [ca + cy] ++ List.replicate pe ((255 + cy) % 256)) w' := by
  obtain ⟨i0, hi, hzz⟩ := Option.map_eq_some_iff.1 info5
  simp only [Prod.mk.injEq] at hzz
  obtain ⟨hz0, hz1, hz2⟩ := hzz
  obtain ⟨c0, c1, c2, c3, c4, c5⟩ := h.cells
  have hne := out_ne h (by decide) ho
  have hEl := h.lt
  have HO := hide ho
  have H := hide h
  have hcyZ : (low : Int) / 4294967296 = (cy : Int) := by omega
  have HL := hide hcy
  clear h ho hcy c1
  rcases hlow with hl | hl
  · have a1 : (low : Int) < 4278190080 := by omega
    go_enter Yba.func25, Yba.ntmps25
    go_wp2_with fail
    have hsum : IntKind.u8.wrap ((ca : Int) + (cy : Int)) = ((ca + cy : Nat) : Int) := by simp [IntKind.wrap, IntKind.bits, IntKind.signed]; omega
    have f5 := (unhide H).frz 5
    go_cut [2] (fun t wc => t = .int .u8 (cy : Int) ∧ Hid (FlushS w E base low rng true ca pe ov (bs ++ [ca + cy]) wc))
    case first =>
      go_region_law ((refine step_append_lies _ (by rfl) _ _ _ (by rfl) base 5 i0 _ 1 1 Yba.underlying39 hi hz0 hz1 hz2 rfl (by omega) ov bs.length (bvals bs) (by rfl) (by exact (unhide HO).alloc _) ⟨w.heap.size, 0, none⟩ 1 1 [.int .u8 ((ca + cy : Nat) : Int)] (by rfl) (by rfl) (cell_one_new w _ _) (one_int _) (by omega) (by unfold maxLen; omega) (by omega) (by simp; omega) (w.heap.size + 1) (by simp) ?_; intro g cap w1 hown1 hgrow hat hlt; have hE1 : EncAt w1 E low rng true ca pe ov := World.rowIs.of_block (World.rowIs.alloc (unhide H) _) (hgrow.block E (by simp; omega) hne); have d5 := hE1.cells.2.2.2.2.2; have g5 := hE1.frz 5; have HE1 := hide hE1; have HO1 := hide hown1; have HGR := hide hgrow; have HAT := hide hat; clear hE1 hown1 hgrow hat hlt))
      all_goals (go_wp2_with fail; go_meet)
      all_goals exact ⟨rfl, hide (flush_app (KB.refl _ _) (.inl rfl) (grown_undrew (unhide HGR)) (unhide HE1) (unhide HO1) (unhide HAT))⟩
    case rest =>
      obtain ⟨rfl, HF⟩ := hcut
      clear c0 c2 c3 c4 c5 f5 hsum hne hEl H HO
      obtain ⟨w0, HW0⟩ : ∃ w0, Hid (w0 = w) := ⟨_, hide rfl⟩
      go_wp2_with fail
      go_loopw [43] (fun _ wr => ∃ q : Nat, q ≤ pe ∧ Hid (FlushS w E base low rng true ca q ov (bs ++ [ca + cy] ++ List.replicate (pe - q) ((255 + cy) % 256)) wr)) (fun _ wr => (intOf ((wr.cell? ⟨E, 4, none⟩).getD default)).toNat)
      case atStart => exact ⟨pe, Nat.le_refl _, hide (by rw [Nat.sub_self, List.replicate_zero, List.append_nil]; exact unhide HF)⟩
      case round =>
        obtain ⟨q, hq, HQ⟩ := hrel
        obtain ⟨ov1, hE, hO, hK, hV⟩ := unhide HQ
        obtain ⟨c0, c1, c2, c3, c4, c5⟩ := hE.cells
        have f0 := hE.frz 0
        have f2 := hE.frz 2
        have f3 := hE.frz 3
        have f4 := hE.frz 4
        have f5 := hE.frz 5
        have hne := out_ne hE (by decide) hO
        have hEl := hE.lt
        have hbr : base ≤ wr.heap.size := Nat.le_trans hb hK.size
        have HE := hide hE; have HO := hide hO; have HK := hide hK; have HV := hide hV
        clear hE hO hK hV c1 HF
        by_cases hq0 : q = 0
        · subst hq0
          obtain ⟨x, HX⟩ : ∃ x, Hid (low % 16777216 = x) := ⟨_, hide rfl⟩
          obtain ⟨y, HY⟩ : ∃ y, Hid (low / 16777216 % 256 = y) := ⟨_, hide rfl⟩
          have hand : bits .and .u64 (low : Int) 16777215 = (x : Int) := by rw [and24 low (by omega), unhide HX]
          have hx2 : x < 16777216 := by have := unhide HX; omega
          have hyy : (low : Int) / 16777216 % 256 = (y : Int) := by have := unhide HY; omega
          go_wp2
          go_end0
          refine ⟨rfl, ?_⟩
          rw [unhide HX, unhide HY]
          rw [Nat.sub_zero] at HO
          have ey : (low : Int) / 16777216 = (y : Int) := by have := unhide HY; omega
          rw [ey]
          exact flush_end (x * 256) y (unhide HE) (unhide HO) hne (unhide HK) (unhide HV)
        · obtain ⟨k, rfl⟩ : ∃ k, q = k + 1 := ⟨q - 1, by omega⟩
          have hk0 : (0 : Int) < ((k + 1 : Nat) : Int) := by omega
          have hk1 : (0 : Int) < (k : Int) + 1 := by omega
          obtain ⟨f, HFF⟩ : ∃ f, Hid ((255 + cy) % 256 = f) := ⟨_, hide rfl⟩
          have hsum : IntKind.u8.wrap (255 + (cy : Int)) = (f : Int) := by have := unhide HFF; simp [IntKind.wrap, IntKind.bits, IntKind.signed]; omega
          obtain ⟨bs1, HB1⟩ : ∃ bs1, Hid (bs ++ [ca + cy] ++ List.replicate (pe - (k + 1)) ((255 + cy) % 256) = bs1) := ⟨_, hide rfl⟩
          have hlen : bs1.length ≤ 300000 := by rw [← unhide HB1]; simp; omega
          rw [unhide HB1] at HO
          clear HQ
          go_wp2_with (at_builtin; refine wpList_append_lies _ rfl _ _ _ rfl base 5 i0 (.int .u8 0) 1 1 Yba.underlying39 hi hz0 hz1 hz2 rfl (by omega) ov1 bs1.length (bvals bs1) rfl ((unhide HO).alloc _) ⟨wr.heap.size, 0, none⟩ 1 1 [.int .u8 (f : Int)] rfl rfl (cell_one_new wr _ _) (one_int _) (by omega) (by unfold maxLen; omega) (by omega) (by simp; omega) (wr.heap.size + 1) (by simp) ?_; intro g cap w1 hown1 hgrow hat hlt; have hE1 : EncAt w1 E low rng true ca (k + 1) ov1 := World.rowIs.of_block (World.rowIs.alloc (unhide HE) _) (hgrow.block E (by simp; omega) hne); have d5 := hE1.cells.2.2.2.2.2; have d4 := hE1.cells.2.2.2.2.1; have g5 := hE1.frz 5; have g4 := hE1.frz 4; have HE1 := hide hE1; have HO1 := hide hown1; have HGR := hide hgrow; have HAT := hide hat; clear hE1 hown1 hgrow hat hlt)
          go_roundw
          case rel =>
            refine ⟨k, by omega, hide ?_⟩
            obtain ⟨ov2, r1, r2, r3, r4⟩ := flush_app (unhide HK) (unhide HV) (unhide HGR) (unhide HE1) (unhide HO1) (unhide HAT)
            have hne2 := out_ne r1 (by decide) r2
            have eb : bs ++ [ca + cy] ++ List.replicate (pe - k) ((255 + cy) % 256) = bs1 ++ [f] := by
              rw [← unhide HB1, unhide HFF, show pe - k = (pe - (k + 1)) + 1 by omega, List.replicate_succ', List.append_assoc (bs ++ [ca + cy])]
            rw [eb]
            exact ⟨ov2, enc_pe r1 k, r2.setE hne2, r3.setCell _ _ (fun _ => .inl rfl), r4⟩
          case measure =>
            have e1 : (w1.setCell ⟨E, 5, none⟩ (.slice (some ⟨g, 0, none⟩) (bs1.length + 1) cap)).cell? ⟨E, 4, none⟩ = some (.int .i64 ((k + 1 : Nat) : Int)) := (World.cell?_setCell_other _ _ _ _ (by simp)).trans d4
            have e2 := World.cell?_setCell_same _ ⟨E, 4, none⟩ (.int .i64 (k : Int)) e1
            rw [e2, c4]
            simp [intOf]
  · have a1 : ¬ (low : Int) < 4278190080 := by omega
    have a2 : (4294967295 : Int) < (low : Int) := by omega
    go_enter Yba.func25, Yba.ntmps25
    go_wp2_with fail
    have hsum : IntKind.u8.wrap ((ca : Int) + (cy : Int)) = ((ca + cy : Nat) : Int) := by simp [IntKind.wrap, IntKind.bits, IntKind.signed]; omega
    have f5 := (unhide H).frz 5
    go_cut [2] (fun t wc => t = .int .u8 (cy : Int) ∧ Hid (FlushS w E base low rng true ca pe ov (bs ++ [ca + cy]) wc))
    case first =>
      go_region_law ((refine step_append_lies _ (by rfl) _ _ _ (by rfl) base 5 i0 _ 1 1 Yba.underlying39 hi hz0 hz1 hz2 rfl (by omega) ov bs.length (bvals bs) (by rfl) (by exact (unhide HO).alloc _) ⟨w.heap.size, 0, none⟩ 1 1 [.int .u8 ((ca + cy : Nat) : Int)] (by rfl) (by rfl) (cell_one_new w _ _) (one_int _) (by omega) (by unfold maxLen; omega) (by omega) (by simp; omega) (w.heap.size + 1) (by simp) ?_; intro g cap w1 hown1 hgrow hat hlt; have hE1 : EncAt w1 E low rng true ca pe ov := World.rowIs.of_block (World.rowIs.alloc (unhide H) _) (hgrow.block E (by simp; omega) hne); have d5 := hE1.cells.2.2.2.2.2; have g5 := hE1.frz 5; have HE1 := hide hE1; have HO1 := hide hown1; have HGR := hide hgrow; have HAT := hide hat; clear hE1 hown1 hgrow hat hlt))
      all_goals (go_wp2_with fail; go_meet)
      all_goals exact ⟨rfl, hide (flush_app (KB.refl _ _) (.inl rfl) (grown_undrew (unhide HGR)) (unhide HE1) (unhide HO1) (unhide HAT))⟩
    case rest =>
      obtain ⟨rfl, HF⟩ := hcut
      clear c0 c2 c3 c4 c5 f5 hsum hne hEl H HO
      obtain ⟨w0, HW0⟩ : ∃ w0, Hid (w0 = w) := ⟨_, hide rfl⟩
      go_wp2_with fail
      go_loopw [43] (fun _ wr => ∃ q : Nat, q ≤ pe ∧ Hid (FlushS w E base low rng true ca q ov (bs ++ [ca + cy] ++ List.replicate (pe - q) ((255 + cy) % 256)) wr)) (fun _ wr => (intOf ((wr.cell? ⟨E, 4, none⟩).getD default)).toNat)
      case atStart => exact ⟨pe, Nat.le_refl _, hide (by rw [Nat.sub_self, List.replicate_zero, List.append_nil]; exact unhide HF)⟩
      case round =>
        obtain ⟨q, hq, HQ⟩ := hrel
        obtain ⟨ov1, hE, hO, hK, hV⟩ := unhide HQ
        obtain ⟨c0, c1, c2, c3, c4, c5⟩ := hE.cells
        have f0 := hE.frz 0
        have f2 := hE.frz 2
        have f3 := hE.frz 3
        have f4 := hE.frz 4
        have f5 := hE.frz 5
        have hne := out_ne hE (by decide) hO
        have hEl := hE.lt
        have hbr : base ≤ wr.heap.size := Nat.le_trans hb hK.size
        have HE := hide hE; have HO := hide hO; have HK := hide hK; have HV := hide hV
        clear hE hO hK hV c1 HF
        by_cases hq0 : q = 0
        · subst hq0
          obtain ⟨x, HX⟩ : ∃ x, Hid (low % 16777216 = x) := ⟨_, hide rfl⟩
          obtain ⟨y, HY⟩ : ∃ y, Hid (low / 16777216 % 256 = y) := ⟨_, hide rfl⟩
          have hand : bits .and .u64 (low : Int) 16777215 = (x : Int) := by rw [and24 low (by omega), unhide HX]
          have hx2 : x < 16777216 := by have := unhide HX; omega
          have hyy : (low : Int) / 16777216 % 256 = (y : Int) := by have := unhide HY; omega
          go_wp2
          go_end0
          refine ⟨rfl, ?_⟩
          rw [unhide HX, unhide HY]
          rw [Nat.sub_zero] at HO
          exact flush_end (x * 256) y (unhide HE) (unhide HO) hne (unhide HK) (unhide HV)
        · obtain ⟨k, rfl⟩ : ∃ k, q = k + 1 := ⟨q - 1, by omega⟩
          have hk0 : (0 : Int) < ((k + 1 : Nat) : Int) := by omega
          have hk1 : (0 : Int) < (k : Int) + 1 := by omega
          obtain ⟨f, HFF⟩ : ∃ f, Hid ((255 + cy) % 256 = f) := ⟨_, hide rfl⟩
          have hsum : IntKind.u8.wrap (255 + (cy : Int)) = (f : Int) := by have := unhide HFF; simp [IntKind.wrap, IntKind.bits, IntKind.signed]; omega
          obtain ⟨bs1, HB1⟩ : ∃ bs1, Hid (bs ++ [ca + cy] ++ List.replicate (pe - (k + 1)) ((255 + cy) % 256) = bs1) := ⟨_, hide rfl⟩
          have hlen : bs1.length ≤ 300000 := by rw [← unhide HB1]; simp; omega
          rw [unhide HB1] at HO
          clear HQ
          go_wp2_with (at_builtin; refine wpList_append_lies _ rfl _ _ _ rfl base 5 i0 (.int .u8 0) 1 1 Yba.underlying39 hi hz0 hz1 hz2 rfl (by omega) ov1 bs1.length (bvals bs1) rfl ((unhide HO).alloc _) ⟨wr.heap.size, 0, none⟩ 1 1 [.int .u8 (f : Int)] rfl rfl (cell_one_new wr _ _) (one_int _) (by omega) (by unfold maxLen; omega) (by omega) (by simp; omega) (wr.heap.size + 1) (by simp) ?_; intro g cap w1 hown1 hgrow hat hlt; have hE1 : EncAt w1 E low rng true ca (k + 1) ov1 := World.rowIs.of_block (World.rowIs.alloc (unhide HE) _) (hgrow.block E (by simp; omega) hne); have d5 := hE1.cells.2.2.2.2.2; have d4 := hE1.cells.2.2.2.2.1; have g5 := hE1.frz 5; have g4 := hE1.frz 4; have HE1 := hide hE1; have HO1 := hide hown1; have HGR := hide hgrow; have HAT := hide hat; clear hE1 hown1 hgrow hat hlt)
          go_roundw
          case rel =>
            refine ⟨k, by omega, hide ?_⟩
            obtain ⟨ov2, r1, r2, r3, r4⟩ := flush_app (unhide HK) (unhide HV) (unhide HGR) (unhide HE1) (unhide HO1) (unhide HAT)
            have hne2 := out_ne r1 (by decide) r2
            have eb : bs ++ [ca + cy] ++ List.replicate (pe - k) ((255 + cy) % 256) = bs1 ++ [f] := by
              rw [← unhide HB1, unhide HFF, show pe - k = (pe - (k + 1)) + 1 by omega, List.replicate_succ', List.append_assoc (bs ++ [ca + cy])]
            rw [eb]
            exact ⟨ov2, enc_pe r1 k, r2.setE hne2, r3.setCell _ _ (fun _ => .inl rfl), r4⟩
          case measure =>
            have e1 : (w1.setCell ⟨E, 5, none⟩ (.slice (some ⟨g, 0, none⟩) (bs1.length + 1) cap)).cell? ⟨E, 4, none⟩ = some (.int .i64 ((k + 1 : Nat) : Int)) := (World.cell?_setCell_other _ _ _ _ (by simp)).trans d4
            have e2 := World.cell?_setCell_same _ ⟨E, 4, none⟩ (.int .i64 (k : Int)) e1
            rw [e2, c4]
            simp [intOf]
end Go.Proofs.Ybulkctsy
