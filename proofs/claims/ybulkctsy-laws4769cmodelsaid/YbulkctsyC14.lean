/-
  zzs4769cvalue: its walk.
-/
import Derived.Test.YbulkctsyC13
namespace Go.Proofs.Ybulkctsy
open Go.RowKit
set_option linter.unusedVariables false

set_option maxRecDepth 20000 in
set_option maxHeartbeats 800000 in
theorem value_any (E base : Nat) (s : St) (ov : Value) (hI : Inv s) (hsz : s.bs.length + s.pe ≤ 2100) (w : World)
    (h : EncAt w E s.low s.rng s.st s.ca s.pe ov) (ho : OutV w base ov s.bs) :
    Calls Yba.prog 10 #[.pointer (some ⟨E, 0, none⟩)] w fun e w' => ∃ I v, e = .returned (.pointer (some ⟨I, 0, none⟩)) ∧ Mid w w' I v s.val := by
  have hval := hide (val_lt hI hsz)
  obtain ⟨low, rng, st, ca, pe, bs⟩ := s
  dsimp only at *
  obtain ⟨c0, c1, c2, c3, c4, c5⟩ := h.cells
  have hEl := h.lt
  obtain ⟨a, oc, hov⟩ := ho.kind
  obtain ⟨i0, hi, hzz⟩ := Option.map_eq_some_iff.1 info5
  simp only [Prod.mk.injEq] at hzz
  obtain ⟨hz0, hz1, hz2⟩ := hzz
  obtain ⟨n, hn⟩ : ∃ n, bs.length = n := ⟨_, rfl⟩
  rw [hn] at hsz hov
  subst hov
  have HN := hide hn
  obtain ⟨c, hc⟩ : ∃ c, n + pe + 1 = c := ⟨_, rfl⟩
  have hC : (n : Int) + (pe : Int) + 1 = (c : Int) := by omega
  have hC2 : IntKind.i64.wrap ((n : Int) + (pe : Int)) = (n : Int) + (pe : Int) := IntWalk.i64_in _ (by omega)
  have hC3 : IntKind.i64.wrap ((n : Int) + (pe : Int) + 1) = (c : Int) := by rw [hC]; exact IntWalk.i64_in _ (by omega)
  have hmk : ∀ w, (Instr.makeSlice 39 (.int .i64 0) (.int .i64 (c : Int))).run Yba.prog w = .ok (.slice (some ⟨w.heap.size, 0, none⟩) 0 c) (w.alloc (.cells (madeCells #[.int .u8 0] c) 5)) := fun w => mk_buf (c : Int) c rfl (by omega) w
  have HE := hide h; have HO := hide ho; have HI := hide hI
  have hlow : low < 18446744073709551616 := by have := hI.sum; dsimp only at this; omega
  obtain ⟨L, HL⟩ : ∃ L, Hid (St.stream ⟨low, rng, st, ca, pe, bs⟩ = L) := ⟨_, hide rfl⟩
  have HLb : Hid (∀ b, b ∈ L → b < 256) := hide (by rw [← unhide HL]; exact stream_lt hI)
  have HLn : Hid (L.length ≤ 20000) := hide (by rw [← unhide HL]; refine Nat.le_trans (stream_len _) ?_; show bs.length + pe + 1 ≤ 20000; omega)
  obtain ⟨V, HV⟩ : ∃ V, Hid (St.val ⟨low, rng, st, ca, pe, bs⟩ = V) := ⟨_, hide rfl⟩
  rw [unhide HV] at hval ⊢
  have HV2 : Hid (V = bn L * 2 ^ 32 + low) := hide (by rw [← unhide HV, ← unhide HL]; rfl)
  have HLSH := hide (fun (W : World) (I : Nat) (v : Value) (m : Mid w W I v (bn L)) => lsh_mid m 32 (by omega) (by omega) (Nat.lt_of_le_of_lt (by rw [unhide HV2]; omega) (unhide hval)))
  have HADD := hide (fun (W : World) (I J : Nat) (v yv : Value) (m : Mid w W I v (bn L * 2 ^ 32)) (hIJ : I ≠ J) (hJ : IntAt W J yv) (hy : One W v yv low) (hyk : ∃ a n c, yv = .slice a n c) => add_mid m hIJ (Nat.lt_of_le_of_lt (by rw [unhide HV2]; omega) (unhide hval)) hJ hy hyk)
  clear h ho hI c1 hn hc hval
  cases st with
  | true =>
    obtain ⟨l0, HL0⟩ : ∃ l0, Hid (bs ++ [ca] = l0) := ⟨_, hide rfl⟩
    have HLL : Hid (L = l0 ++ List.replicate pe 255) := hide (by rw [← unhide HL, ← unhide HL0]; rfl)
    have hl0 : l0.length ≤ n + 1 := by have := unhide HN; rw [← unhide HL0]; simp; omega
    go_enter Yba.func10, Yba.ntmps10
    go_wp2
    go_region
    obtain ⟨w2, HW⟩ : ∃ w2, Hid (w2 = (w.alloc (.cells (madeCells #[.int .u8 0] c) 5)).drew) := ⟨_, hide rfl⟩
    have HB2 : Hid (BufV w w2 (.slice (some ⟨w.heap.size, 0, none⟩) 0 c) []) := by rw [unhide HW]; exact hide ⟨made_out w c (by omega), ((KB.refl _ _).alloc _).drew⟩
    have HE2 := hide ((unhide HE).kb (unhide HB2).2 (fun h => h))
    have HO2 := hide ((unhide HO).kb (unhide HB2).2 (fun _ _ h => h))
    have d5 := (unhide HE2).cells.2.2.2.2.2
    rw [← unhide HW]
    clear c0 c2 c3 c4 c5 hC hC2 hC3 hmk HO
    go_wp2_with (at_builtin; first | (refine wpList_spread rfl _ _ rfl w2 w.heap.size base (.slice (some ⟨w.heap.size, 0, none⟩) 0 c) (.slice a n oc) bs rfl rfl (unhide HB2).1 (unhide HO2) (unhide HB2).2.size (by have := unhide HN; omega) ?_; intro v3 w3 hown3 hgr3; have HB3 := hide ((unhide HB2).grown hgr3 hown3); have hs3 := (unhide HB3).2.size; have HE3 := hide ((unhide HE).kb (unhide HB3).2 (fun h => h)); have e2 := (unhide HE3).cells.2.2.1; have e3 := (unhide HE3).cells.2.2.2.1; clear hown3 hgr3 d5) | (refine wpList_append_lies _ rfl _ _ _ rfl w.heap.size 5 i0 (.int .u8 0) 1 1 Yba.underlying39 hi hz0 hz1 hz2 rfl (by omega) v3 bs.length (bvals bs) rfl (World.ownsRow.alloc (unhide HB3).1 _) ⟨w3.heap.size, 0, none⟩ 1 1 [.int .u8 (ca : Int)] rfl rfl (cell_one_new w3 _ _) (one_int _) (by omega) (by have := unhide HN; unfold maxLen; omega) (by have := unhide HN; omega) (by simp; omega) (w3.heap.size + 1) (by simp) ?_; intro g4 cap4 w4 hown4 hgr4 hat4 hlt4; have HB4 := hide (BufV.app (unhide HB3) hgr4 hown4); clear hown4 hgr4 hat4 hlt4))
    rw [unhide HL0] at HB4
    clear HB3 HE3 e2 e3
    go_loopw [3, 4] (fun tb ti wr => ∃ i : Nat, i ≤ pe ∧ ti = .int .i64 (i : Int) ∧ Hid (BufV w wr tb (l0 ++ List.replicate i 255))) (fun _ ti _ => pe - (intOf ti).toNat)
    case atStart => exact ⟨0, Nat.zero_le _, rfl, hide (by rw [List.replicate_zero, List.append_nil]; exact unhide HB4)⟩
    case round =>
      obtain ⟨i, hip, hti, HB⟩ := hrel
      subst hti
      have HEr := hide ((unhide HE).kb (unhide HB).2 (fun h => h))
      have hsr := (unhide HB).2.size
      have r4 := (unhide HEr).cells.2.2.2.2.1
      by_cases hlt : i < pe
      · have hltZ : (i : Int) < (pe : Int) := by omega
        obtain ⟨l1, HL1⟩ : ∃ l1, Hid (l0 ++ List.replicate i 255 = l1) := ⟨_, hide rfl⟩
        have hl1 : l1.length ≤ 5000 := by rw [← unhide HL1]; simp; omega
        rw [unhide HL1] at HB
        have hwi : IntKind.i64.wrap ((i : Int) + 1) = (i : Int) + 1 := IntWalk.i64_in _ (by omega)
        go_wp2_with (at_builtin; refine wpList_append_lies _ rfl _ _ _ rfl w.heap.size 5 i0 (.int .u8 0) 1 1 Yba.underlying39 hi hz0 hz1 hz2 rfl (by omega) u3 l1.length (bvals l1) rfl (World.ownsRow.alloc (unhide HB).1 _) ⟨wr.heap.size, 0, none⟩ 1 1 [.int .u8 ((255 : Nat) : Int)] rfl rfl (cell_one_new wr _ _) (one_int _) (by omega) (by unfold maxLen; omega) (by omega) (by simp; omega) (wr.heap.size + 1) (by simp) ?_; intro g5 cap5 w5 hown5 hgr5 hat5 hlt5; have HB5 := hide (BufV.app (unhide HB) hgr5 hown5); clear hown5 hgr5 hat5 hlt5)
        go_roundw
        case rel =>
          refine ⟨i + 1, by omega, rfl, hide ?_⟩
          rw [List.replicate_succ', ← List.append_assoc, unhide HL1]
          exact unhide HB5
        case measure =>
          simp only [intOf]
          omega
      · have hltZ : ¬ (i : Int) < (pe : Int) := by omega
        have hie : i = pe := by omega
        rw [hie, ← unhide HLL] at HB
        have HC1 := hide (setBytes_mid w wr u3 L (unhide HLb) (unhide HLn) (unhide HB))
        go_wp2_with fail
        refine (unhide HC1).mono ?_
        rintro e6 w6 ⟨he6, v6, hm6⟩
        subst he6
        have HM6 := hide hm6
        clear hm6 HC1
        have HC2 := hide ((unhide HLSH) _ _ _ (unhide HM6))
        go_wp2_with fail
        refine (unhide HC2).mono ?_
        rintro e7 w7 ⟨he7, v7, hm7, _⟩
        subst he7
        have HM7 := hide hm7
        clear hm7 HC2
        have HE7 := hide ((unhide HE).kb (unhide HM7).kb (fun h => h))
        have q0 := (unhide HE7).cells.1
        have hs7 := (unhide HE7).lt
        have HC3 := hide (setu_mid (unhide HM7) hlow)
        go_wp2_with fail
        refine (unhide HC3).mono ?_
        rintro e8 w8 ⟨he8, yv, hm8, hne8, hj8, ho8, hk8, _⟩
        subst he8
        have HC4 := hide ((unhide HADD) _ _ _ _ _ hm8 hne8 hj8 ho8 hk8)
        clear hm8 hne8 hj8 ho8 hk8 HC3
        go_wp2_with fail
        refine (unhide HC4).mono ?_
        rintro e9 w9 ⟨he9, v9, hm9, _⟩
        subst he9
        have HM9 := hide hm9
        clear hm9 HC4
        go_wp2
        go_ret
        refine ⟨_, v9, rfl, ?_⟩
        rw [unhide HV2]
        exact unhide HM9
  | false =>
    obtain ⟨l0, HL0⟩ : ∃ l0, Hid (bs = l0) := ⟨_, hide rfl⟩
    have HLL : Hid (L = l0 ++ List.replicate pe 255) := hide (by rw [← unhide HL, ← unhide HL0]; rfl)
    have hl0 : l0.length ≤ n + 1 := by have := unhide HN; rw [← unhide HL0]; simp; omega
    go_enter Yba.func10, Yba.ntmps10
    go_wp2
    go_region
    obtain ⟨w2, HW⟩ : ∃ w2, Hid (w2 = (w.alloc (.cells (madeCells #[.int .u8 0] c) 5)).drew) := ⟨_, hide rfl⟩
    have HB2 : Hid (BufV w w2 (.slice (some ⟨w.heap.size, 0, none⟩) 0 c) []) := by rw [unhide HW]; exact hide ⟨made_out w c (by omega), ((KB.refl _ _).alloc _).drew⟩
    have HE2 := hide ((unhide HE).kb (unhide HB2).2 (fun h => h))
    have HO2 := hide ((unhide HO).kb (unhide HB2).2 (fun _ _ h => h))
    have d5 := (unhide HE2).cells.2.2.2.2.2
    rw [← unhide HW]
    clear c0 c2 c3 c4 c5 hC hC2 hC3 hmk HO
    go_wp2_with (at_builtin; refine wpList_spread rfl _ _ rfl w2 w.heap.size base (.slice (some ⟨w.heap.size, 0, none⟩) 0 c) (.slice a n oc) bs rfl rfl (unhide HB2).1 (unhide HO2) (unhide HB2).2.size (by have := unhide HN; omega) ?_; intro v3 w3 hown3 hgr3; have HB3 := hide ((unhide HB2).grown hgr3 hown3); have hs3 := (unhide HB3).2.size; have HE3 := hide ((unhide HE).kb (unhide HB3).2 (fun h => h)); have e2 := (unhide HE3).cells.2.2.1; have e3 := (unhide HE3).cells.2.2.2.1; clear hown3 hgr3 d5)
    go_wp2_with fail
    rw [unhide HL0] at HB3
    go_loopw [3, 4] (fun tb ti wr => ∃ i : Nat, i ≤ pe ∧ ti = .int .i64 (i : Int) ∧ Hid (BufV w wr tb (l0 ++ List.replicate i 255))) (fun _ ti _ => pe - (intOf ti).toNat)
    case atStart => exact ⟨0, Nat.zero_le _, rfl, hide (by rw [List.replicate_zero, List.append_nil]; exact unhide HB3)⟩
    case round =>
      obtain ⟨i, hip, hti, HB⟩ := hrel
      subst hti
      have HEr := hide ((unhide HE).kb (unhide HB).2 (fun h => h))
      have hsr := (unhide HB).2.size
      have r4 := (unhide HEr).cells.2.2.2.2.1
      by_cases hlt : i < pe
      · have hltZ : (i : Int) < (pe : Int) := by omega
        obtain ⟨l1, HL1⟩ : ∃ l1, Hid (l0 ++ List.replicate i 255 = l1) := ⟨_, hide rfl⟩
        have hl1 : l1.length ≤ 5000 := by rw [← unhide HL1]; simp; omega
        rw [unhide HL1] at HB
        have hwi : IntKind.i64.wrap ((i : Int) + 1) = (i : Int) + 1 := IntWalk.i64_in _ (by omega)
        go_wp2_with (at_builtin; refine wpList_append_lies _ rfl _ _ _ rfl w.heap.size 5 i0 (.int .u8 0) 1 1 Yba.underlying39 hi hz0 hz1 hz2 rfl (by omega) u3 l1.length (bvals l1) rfl (World.ownsRow.alloc (unhide HB).1 _) ⟨wr.heap.size, 0, none⟩ 1 1 [.int .u8 ((255 : Nat) : Int)] rfl rfl (cell_one_new wr _ _) (one_int _) (by omega) (by unfold maxLen; omega) (by omega) (by simp; omega) (wr.heap.size + 1) (by simp) ?_; intro g5 cap5 w5 hown5 hgr5 hat5 hlt5; have HB5 := hide (BufV.app (unhide HB) hgr5 hown5); clear hown5 hgr5 hat5 hlt5)
        go_roundw
        case rel =>
          refine ⟨i + 1, by omega, rfl, hide ?_⟩
          rw [List.replicate_succ', ← List.append_assoc, unhide HL1]
          exact unhide HB5
        case measure =>
          simp only [intOf]
          omega
      · have hltZ : ¬ (i : Int) < (pe : Int) := by omega
        have hie : i = pe := by omega
        rw [hie, ← unhide HLL] at HB
        have HC1 := hide (setBytes_mid w wr u3 L (unhide HLb) (unhide HLn) (unhide HB))
        go_wp2_with fail
        refine (unhide HC1).mono ?_
        rintro e6 w6 ⟨he6, v6, hm6⟩
        subst he6
        have HM6 := hide hm6
        clear hm6 HC1
        have HC2 := hide ((unhide HLSH) _ _ _ (unhide HM6))
        go_wp2_with fail
        refine (unhide HC2).mono ?_
        rintro e7 w7 ⟨he7, v7, hm7, _⟩
        subst he7
        have HM7 := hide hm7
        clear hm7 HC2
        have HE7 := hide ((unhide HE).kb (unhide HM7).kb (fun h => h))
        have q0 := (unhide HE7).cells.1
        have hs7 := (unhide HE7).lt
        have HC3 := hide (setu_mid (unhide HM7) hlow)
        go_wp2_with fail
        refine (unhide HC3).mono ?_
        rintro e8 w8 ⟨he8, yv, hm8, hne8, hj8, ho8, hk8, _⟩
        subst he8
        have HC4 := hide ((unhide HADD) _ _ _ _ _ hm8 hne8 hj8 ho8 hk8)
        clear hm8 hne8 hj8 ho8 hk8 HC3
        go_wp2_with fail
        refine (unhide HC4).mono ?_
        rintro e9 w9 ⟨he9, v9, hm9, _⟩
        subst he9
        have HM9 := hide hm9
        clear hm9 HC4
        go_wp2
        go_ret
        refine ⟨_, v9, rfl, ?_⟩
        rw [unhide HV2]
        exact unhide HM9
end Go.Proofs.Ybulkctsy
