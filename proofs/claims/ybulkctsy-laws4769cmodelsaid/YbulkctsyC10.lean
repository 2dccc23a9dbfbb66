/-
  Encode: its walk.
-/
import Derived.Test.YbulkctsyC9
namespace Go.Proofs.Ybulkctsy
open Go.RowKit
set_option linter.unusedVariables false

theorem OutV.kb {w w' : World} {base : Nat} {ov : Value} {bs : List Nat} {S : Nat → Prop} (h : OutV w base ov bs) (k : KB S w w') (hs : ∀ b, ov.ownBlock = some b → ¬ S b) : OutV w' base ov bs := by
  obtain ⟨hl, h | ⟨g', cap', cur, h, hb, hh, h2⟩⟩ := h
  · exact ⟨hl, .inl h⟩
  · refine ⟨hl, .inr ⟨g', cap', cur, h, hb, ?_, h2⟩⟩
    rw [k.kept g' (Array.getElem?_eq_some_iff.1 hh).1 (hs g' (by rw [h]; rfl))]
    exact hh
theorem EncAt.kb {w w' : World} {E low rng ca pe : Nat} {st : Bool} {ov : Value} {S : Nat → Prop} (h : EncAt w E low rng st ca pe ov) (k : KB S w w') (hs : ¬ S E) : EncAt w' E low rng st ca pe ov := k.row h hs

set_option maxRecDepth 20000 in
set_option maxHeartbeats 800000 in
theorem Encode_any (E base bit p : Nat) (s : St) (ov : Value) (hI : Inv s) (hr1 : 16777216 ≤ s.rng) (hr2 : s.rng < 4294967296) (hsz : s.bs.length + s.pe ≤ 50000) (hbit : bit < 256) (hp : p < 4294967296) (w : World) (hb : base ≤ w.heap.size)
    (h : EncAt w E s.low s.rng s.st s.ca s.pe ov) (ho : OutV w base ov s.bs) :
    Calls Yba.prog 9 #[.pointer (some ⟨E, 0, none⟩), .int .i64 (bit : Int), .int .u32 (p : Int)] w fun e w' => e = .returned (.tuple #[]) ∧ FS w E base (encP s bit (s.rng / 65536 * (65536 - clampN p))) ov w' := by
  obtain ⟨low, rng, st, ca, pe, bs⟩ := s
  dsimp only at *
  unfold encP
  obtain ⟨c0, c1, c2, c3, c4, c5⟩ := h.cells
  have f0 := h.frz 0
  have f1 := h.frz 1
  obtain ⟨hq1, hq2⟩ := clampN_bd p
  have HC := hide (fun W => clamp_any p hp W)
  obtain ⟨q, hq⟩ : ∃ q, clampN p = q := ⟨_, rfl⟩
  rw [hq] at HC hq1 hq2 ⊢
  obtain ⟨hz2, hz3, hz4⟩ := zero_bd hr1 hr2 hq1 hq2
  obtain ⟨x, hx⟩ : ∃ x, rng / 65536 = x := ⟨_, rfl⟩
  obtain ⟨y, hy⟩ : ∃ y, 65536 - q = y := ⟨_, rfl⟩
  rw [hx, hy] at hz2 hz3 hz4 ⊢
  obtain ⟨z, hz⟩ : ∃ z, x * y = z := ⟨_, rfl⟩
  rw [hz] at hz2 hz3 hz4 ⊢
  have hxZ : (rng : Int) / 65536 = (x : Int) := by omega
  have hx2 : x < 65536 := by omega
  have hy2 : y < 65536 := by omega
  have hyZ : (65536 : Int) - (q : Int) = (y : Int) := by omega
  have hzZ : (x : Int) * (y : Int) = (z : Int) := by rw [← hz]; simp
  have hne := out_ne h (by decide) ho
  have HH := hide h; have HO := hide ho; have HI := hide hI
  have HQ := hide hq
  clear h ho hI hq hx hy hz c2 c3 c4 c5
  have hlow : low < 8589934592 := by have := (unhide HI).sum; dsimp only at this; omega
  obtain ⟨T, HT⟩ : ∃ T, Hid (normP (halfP ⟨low, rng, st, ca, pe, bs⟩ bit z) = T) := ⟨_, hide rfl⟩
  rw [unhide HT]
  by_cases hb0 : bit = 0
  · subst hb0
    show Calls Yba.prog 9 #[.pointer (some ⟨E, 0, none⟩), .int .i64 0, .int .u32 (p : Int)] w _
    go_enter Yba.func9, Yba.ntmps9
    go_wp2
    go_quiet ((go_at_call 24; exact Calls.quiet_of_same ((unhide HC) _)))
    obtain ⟨w2, HW⟩ : ∃ w2, Hid (w2 = w.drewN nq) := ⟨_, hide rfl⟩
    have HK2 : Hid (KB (fun _ => False) w w2) := hide (by rw [unhide HW]; exact (KB.refl _ _).drewN _)
    have HH2 := hide ((unhide HH).kb (unhide HK2) (fun h => h))
    have HO2 := hide ((unhide HO).kb (unhide HK2) (fun _ _ h => h))
    have d0 := (unhide HH2).cells.1
    have d1 := (unhide HH2).cells.2.1
    have g0 := (unhide HH2).frz 0
    have g1 := (unhide HH2).frz 1
    rw [← unhide HW]
    clear c0 c1 f0 f1
    go_wp2
    have hI := unhide HI
    go_loopw [43] (fun _ wr => Hid (∃ s, FS w E base s ov wr ∧ Inv s ∧ 256 ≤ s.rng ∧ s.rng < 4294967296 ∧ s.bs.length + s.pe + kk s.rng ≤ 50002 ∧ normP s = T)) (fun _ wr => 16777216 - (intOf ((wr.cell? ⟨E, 1, none⟩).getD default)).toNat)
    case atStart =>
      refine hide ⟨halfP ⟨low, rng, st, ca, pe, bs⟩ 0 z, ?_, half_inv hI 0 z hz3, half_rng 0 z hz3 hz2, ?_, ?_, unhide HT⟩
      · rw [show halfP ⟨low, rng, st, ca, pe, bs⟩ 0 z = ⟨low, z, st, ca, pe, bs⟩ from rfl]; exact ⟨ov, enc_rng (unhide HH2) z, (unhide HO2).setE hne, ((unhide HK2).mono (fun _ _ h => h.elim)).setCell _ _ (fun _ => .inl rfl), .inl rfl⟩
      · rw [show halfP ⟨low, rng, st, ca, pe, bs⟩ 0 z = ⟨low, z, st, ca, pe, bs⟩ from rfl]; exact hz4
      · rw [(half_bs _ 0 z).1, (half_bs _ 0 z).2]; have := kk_le (halfP ⟨low, rng, st, ca, pe, bs⟩ 0 z).rng; show bs.length + pe + _ ≤ _; omega
    case round =>
      obtain ⟨⟨low', rng', st', ca', pe', bs'⟩, HF, hI', hr1', hr2', hsz', hT'⟩ := unhide hrel
      obtain ⟨ov1, hE, hO, hK, hV⟩ := HF
      dsimp only at hE hO hr1' hr2' hsz'
      obtain ⟨c0, c1, c2, c3, c4, c5⟩ := hE.cells
      have f0 := hE.frz 0
      have f1 := hE.frz 1
      have hne := out_ne hE (by decide) hO
      have HE := hide hE; have HO := hide hO; have HK := hide hK; have HV := hide hV; have HI' := hide hI'; have HT' := hide hT'; have HI := hide hI; have HS' := hide hsz'
      have hbr : base ≤ wr.heap.size := Nat.le_trans hb hK.size
      clear hE hO hK hV hI' hT' hI hrel hsz'
      by_cases hend : 16777216 ≤ rng'
      · have a1 : ¬ (rng' : Int) < 16777216 := by omega
        go_wp2
        go_end0
        refine ⟨rfl, ?_⟩
        rw [← unhide HT', norm_done (s := ⟨low', rng', st', ca', pe', bs'⟩) hend]
        exact ⟨ov1, unhide HE, unhide HO, unhide HK, unhide HV⟩
      · have a1 : (rng' : Int) < 16777216 := by omega
        have hr3 : rng' < 16777216 := by omega
        have HC := hide (shift_any E base ⟨low', rng' * 256, st', ca', pe', bs'⟩ ov1 (fun h => carry_ok (s := ⟨low', rng', st', ca', pe', bs'⟩) (unhide HI') (by show 0 < rng'; omega) h) (by have := (unhide HI').sum; dsimp only at this ⊢; omega) (unhide HI').ca (by have := unhide HS'; dsimp only at this ⊢; omega) (by have := unhide HS'; dsimp only at this ⊢; omega) (wr.setCell ⟨E, 1, none⟩ (.int .u32 ((rng' * 256 : Nat) : Int))) (by rw [World.size_setCell]; exact hbr) (enc_rng (unhide HE) (rng' * 256)) ((unhide HO).setE hne))
        go_wp2_with fail
        refine (unhide HC).mono ?_
        rintro e w2 ⟨he, HF2⟩
        subst he
        have HF3 := hide HF2
        clear HF2 HC
        go_wp2
        go_roundw
        case rel =>
          have hr4 : 256 ≤ rng' := hr1'
          have hk := kk_succ hr4 hr3
          have sz := shift_size ⟨low', rng' * 256, st', ca', pe', bs'⟩
          have er := round_rng ⟨low', rng', st', ca', pe', bs'⟩
          dsimp only at sz er
          refine hide ⟨roundP ⟨low', rng', st', ca', pe', bs'⟩, FlushS.trans ((unhide HK).setCell _ _ (fun _ => .inl rfl)) (unhide HV) (unhide HF3), round_inv (unhide HI') (by show 0 < rng'; omega) hr3, ?_, ?_, ?_, ?_⟩
          · rw [er]; omega
          · rw [er]; omega
          · rw [er]
            have h1 := unhide HS'
            show (shiftP ⟨low', rng' * 256, st', ca', pe', bs'⟩).bs.length + (shiftP ⟨low', rng' * 256, st', ca', pe', bs'⟩).pe + _ ≤ _
            omega
          · rw [← unhide HT', norm_step (s := ⟨low', rng', st', ca', pe', bs'⟩) hr4 hr3]
        case measure =>
          have e1 : w2.cell? ⟨E, 1, none⟩ = some (.int .u32 ((rng' * 256 : Nat) : Int)) := by
            obtain ⟨ov2, h1, _⟩ := unhide HF3
            have := h1.cells.2.1
            rw [shift_rng] at this
            exact this
          rw [e1, c1]
          simp only [Option.getD_some, intOf, Int.toNat_natCast]
          omega
  · have ab : ¬ (bit : Int) = 0 := by omega
    have abb : ((bit : Int) == 0) = false := by simp; omega
    obtain ⟨lz, HLZ⟩ : ∃ lz, Hid (low + z = lz) := ⟨_, hide rfl⟩
    obtain ⟨rz, HRZ⟩ : ∃ rz, Hid (rng - z = rz) := ⟨_, hide rfl⟩
    have hlz : (low : Int) + (z : Int) = (lz : Int) := by have := unhide HLZ; omega
    have hrz0 : (rng : Int) - (z : Int) = (rz : Int) := by have := unhide HRZ; omega
    have hrz2 : rz < 4294967296 := by have := unhide HRZ; omega
    have hlz2 : lz < 18446744073709551616 := by have := unhide HLZ; omega
    have hhalf : Hid (halfP ⟨low, rng, st, ca, pe, bs⟩ bit z = ⟨lz, rz, st, ca, pe, bs⟩) := by rw [← unhide HLZ, ← unhide HRZ]; exact if_neg hb0
    go_enter Yba.func9, Yba.ntmps9
    go_wp2
    go_quiet ((go_at_call 24; exact Calls.quiet_of_same ((unhide HC) _)))
    obtain ⟨w2, HW⟩ : ∃ w2, Hid (w2 = w.drewN nq) := ⟨_, hide rfl⟩
    have HK2 : Hid (KB (fun _ => False) w w2) := hide (by rw [unhide HW]; exact (KB.refl _ _).drewN _)
    have HH2 := hide ((unhide HH).kb (unhide HK2) (fun h => h))
    have HO2 := hide ((unhide HO).kb (unhide HK2) (fun _ _ h => h))
    have d0 := (unhide HH2).cells.1
    have d1 := (unhide HH2).cells.2.1
    have g0 := (unhide HH2).frz 0
    have g1 := (unhide HH2).frz 1
    rw [← unhide HW]
    clear c0 c1 f0 f1
    go_wp2
    have hI := unhide HI
    go_loopw [43] (fun _ wr => Hid (∃ s, FS w E base s ov wr ∧ Inv s ∧ 256 ≤ s.rng ∧ s.rng < 4294967296 ∧ s.bs.length + s.pe + kk s.rng ≤ 50002 ∧ normP s = T)) (fun _ wr => 16777216 - (intOf ((wr.cell? ⟨E, 1, none⟩).getD default)).toNat)
    case atStart =>
      refine hide ⟨halfP ⟨low, rng, st, ca, pe, bs⟩ bit z, ?_, half_inv hI bit z hz3, half_rng bit z hz3 hz2, ?_, ?_, unhide HT⟩
      · rw [unhide hhalf]; exact ⟨ov, enc_rng (enc_low (unhide HH2) lz) rz, ((unhide HO2).setE hne).setE hne, (((unhide HK2).mono (fun _ _ h => h.elim)).setCell _ _ (fun _ => .inl rfl)).setCell _ _ (fun _ => .inl rfl), .inl rfl⟩
      · rw [unhide hhalf]; exact hrz2
      · rw [(half_bs _ bit z).1, (half_bs _ bit z).2]; have := kk_le (halfP ⟨low, rng, st, ca, pe, bs⟩ bit z).rng; show bs.length + pe + _ ≤ _; omega
    case round =>
      obtain ⟨⟨low', rng', st', ca', pe', bs'⟩, HF, hI', hr1', hr2', hsz', hT'⟩ := unhide hrel
      obtain ⟨ov1, hE, hO, hK, hV⟩ := HF
      dsimp only at hE hO hr1' hr2' hsz'
      obtain ⟨c0, c1, c2, c3, c4, c5⟩ := hE.cells
      have f0 := hE.frz 0
      have f1 := hE.frz 1
      have hne := out_ne hE (by decide) hO
      have HE := hide hE; have HO := hide hO; have HK := hide hK; have HV := hide hV; have HI' := hide hI'; have HT' := hide hT'; have HI := hide hI; have HS' := hide hsz'
      have hbr : base ≤ wr.heap.size := Nat.le_trans hb hK.size
      clear hE hO hK hV hI' hT' hI hrel hsz'
      by_cases hend : 16777216 ≤ rng'
      · have a1 : ¬ (rng' : Int) < 16777216 := by omega
        go_wp2
        go_end0
        refine ⟨rfl, ?_⟩
        rw [← unhide HT', norm_done (s := ⟨low', rng', st', ca', pe', bs'⟩) hend]
        exact ⟨ov1, unhide HE, unhide HO, unhide HK, unhide HV⟩
      · have a1 : (rng' : Int) < 16777216 := by omega
        have hr3 : rng' < 16777216 := by omega
        have HC := hide (shift_any E base ⟨low', rng' * 256, st', ca', pe', bs'⟩ ov1 (fun h => carry_ok (s := ⟨low', rng', st', ca', pe', bs'⟩) (unhide HI') (by show 0 < rng'; omega) h) (by have := (unhide HI').sum; dsimp only at this ⊢; omega) (unhide HI').ca (by have := unhide HS'; dsimp only at this ⊢; omega) (by have := unhide HS'; dsimp only at this ⊢; omega) (wr.setCell ⟨E, 1, none⟩ (.int .u32 ((rng' * 256 : Nat) : Int))) (by rw [World.size_setCell]; exact hbr) (enc_rng (unhide HE) (rng' * 256)) ((unhide HO).setE hne))
        go_wp2_with fail
        refine (unhide HC).mono ?_
        rintro e w2 ⟨he, HF2⟩
        subst he
        have HF3 := hide HF2
        clear HF2 HC
        go_wp2
        go_roundw
        case rel =>
          have hr4 : 256 ≤ rng' := hr1'
          have hk := kk_succ hr4 hr3
          have sz := shift_size ⟨low', rng' * 256, st', ca', pe', bs'⟩
          have er := round_rng ⟨low', rng', st', ca', pe', bs'⟩
          dsimp only at sz er
          refine hide ⟨roundP ⟨low', rng', st', ca', pe', bs'⟩, FlushS.trans ((unhide HK).setCell _ _ (fun _ => .inl rfl)) (unhide HV) (unhide HF3), round_inv (unhide HI') (by show 0 < rng'; omega) hr3, ?_, ?_, ?_, ?_⟩
          · rw [er]; omega
          · rw [er]; omega
          · rw [er]
            have h1 := unhide HS'
            show (shiftP ⟨low', rng' * 256, st', ca', pe', bs'⟩).bs.length + (shiftP ⟨low', rng' * 256, st', ca', pe', bs'⟩).pe + _ ≤ _
            omega
          · rw [← unhide HT', norm_step (s := ⟨low', rng', st', ca', pe', bs'⟩) hr4 hr3]
        case measure =>
          have e1 : w2.cell? ⟨E, 1, none⟩ = some (.int .u32 ((rng' * 256 : Nat) : Int)) := by
            obtain ⟨ov2, h1, _⟩ := unhide HF3
            have := h1.cells.2.1
            rw [shift_rng] at this
            exact this
          rw [e1, c1]
          simp only [Option.getD_some, intOf, Int.toNat_natCast]
          omega
end Go.Proofs.Ybulkctsy
