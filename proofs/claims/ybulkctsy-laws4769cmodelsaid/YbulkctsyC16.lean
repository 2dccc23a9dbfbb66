/-
  The law: its walk.
-/
import Derived.Test.YbulkctsyC15
import Derived.Test.YbulkctsyP2
namespace Go.Proofs.Ybulkctsy
open Go.RowKit
set_option linter.unusedVariables false

set_option maxRecDepth 100000 in
set_option maxHeartbeats 1600000 in
theorem law_any (a : Option Addr) (n cap : Nat) (bf pf : Nat → Nat) (hn : n ≤ 1024) (w : World)
    (hst : ∀ j, j < n → ∃ b off, a = some ⟨b, off, none⟩ ∧ b < w.heap.size ∧ bf j < 256 ∧ pf j < 4294967296 ∧ w.cell? ⟨b, off + j * 2, none⟩ = some (.int .u8 (bf j : Int)) ∧ w.cell? ⟨b, off + j * 2 + 1, none⟩ = some (.int .u32 (pf j : Int))) :
    Calls Yba.prog 3 #[.slice a n cap] w fun e w' => e = .returned (.bool true) ∧ KB (fun _ => False) w w' := by
  have hn1 : ¬ (1024 : Int) < (n : Int) := by omega
  have HST := hide hst
  have HNE := hide (NewEncoder_any w)
  clear hst
  go_enter Yba.func3, Yba.ntmps3
  go_wp2_with fail
  refine (unhide HNE).mono ?_
  rintro e1 w1 ⟨he1, hE1, hK1⟩
  subst he1
  have hs1 := hE1.lt
  obtain ⟨E, hE⟩ : ∃ E, w.heap.size = E := ⟨_, rfl⟩
  obtain ⟨I, hI⟩ : ∃ I, w1.heap.size = I := ⟨_, rfl⟩
  have HHd : Hid (Hd w E I St.new (w1.alloc (.cells #[.bool false, .slice none 0 0] 29))) := hide (by
    have hk2 := hK1.alloc (.cells #[.bool false, .slice none 0 0] 29)
    refine ⟨⟨.slice none 0 0, .slice none 0 0, ?_, ⟨rfl, .inl ⟨rfl, rfl⟩⟩, ⟨?_, .inl ⟨rfl, rfl⟩, hk2, (fun b h => by obtain ⟨_, _, h⟩ := h; cases h), by omega⟩⟩, new_inv, by decide, by decide⟩
    · rw [← hE]; exact hE1.kb ((KB.refl (fun _ => False) w1).alloc _) (fun h => h)
    · rw [← hI]; exact int_new w1)
  rw [hE]
  have HEw := hide hE
  clear hE1 hK1 HNE hs1 hE
  go_wp2_with fail
  obtain ⟨w2, HW2⟩ : ∃ w2, Hid (w2 = (w1.alloc (.cells #[.bool false, .slice none 0 0] 29))) := ⟨_, hide rfl⟩
  rw [← unhide HW2] at HHd ⊢
  clear HW2 hI
  go_loopw [5, 17] (fun t5 t17 wr => ∃ (i : Nat) (s : St), i ≤ n ∧ t17 = .int .i64 (i : Int) ∧ t5 = .int .u32 (s.rng : Int) ∧ s.bs.length + s.pe ≤ 2 * i ∧ Hid (Hd w E I s wr)) (fun _ t17 _ => n - (intOf t17).toNat)
  case atStart => exact ⟨0, St.new, Nat.zero_le _, rfl, rfl, Nat.le_refl _, HHd⟩
  case round =>
    obtain ⟨i, s, hin, ht17, ht5, hsz, HS⟩ := hrel
    subst ht17 ht5
    by_cases hlt : i < n
    · have hltZ : (i : Int) < (n : Int) := by omega
      obtain ⟨b, off, rfl, hb, hb8, hp32, hc1, hc2⟩ := (unhide HST) i hlt
      obtain ⟨⟨ov, v, hE, hO, hM⟩, hInv, hr1, hr2⟩ := unhide HS
      have d1 := (hM.kb.cell (i := off + i * 2) hb (fun h => h)).trans hc1
      have d2 := (hM.kb.cell (i := off + i * 2 + 1) hb (fun h => h)).trans hc2
      obtain ⟨bit, hbit⟩ : ∃ bit, bf i = bit := ⟨_, rfl⟩
      obtain ⟨p, hp⟩ : ∃ p, pf i = p := ⟨_, rfl⟩
      rw [hbit] at d1 hb8
      rw [hp] at d2 hp32
      have HE := hide hE; have HO := hide hO; have HM := hide hM; have HI := hide hInv
      have hbr : b < wr.heap.size := Nat.lt_of_lt_of_le hb (unhide HM).kb.size
      clear hE hO hM hInv hc1 hc2 hbit hp HS HHd HST
      go_upto_if 24 with fail
      obtain ⟨S, HSS⟩ : ∃ S, Hid (wr.heap.size = S) := ⟨_, hide rfl⟩
      have HR : Hid (Rd w E I S bit p s ov s.val (wr.alloc (.cells #[.int .u8 (bit : Int), .int .u32 (p : Int)] 32))) := hide (by rw [← unhide HSS]; exact Rd.start (unhide HE) (unhide HO) (unhide HM) bit p)
      rw [unhide HSS]
      obtain ⟨w3, HW3⟩ : ∃ w3, Hid (w3 = wr.alloc (.cells #[.int .u8 (bit : Int), .int .u32 (p : Int)] 32)) := ⟨_, hide rfl⟩
      rw [← unhide HW3] at HR ⊢
      clear HE HO HM d1 d2 hbr HW3 HSS hb
      obtain ⟨q1, HQ1⟩ : ∃ q1, Hid ((if p < 1 then 1 else p) = q1) := ⟨_, hide rfl⟩
      go_cut [8] (fun t8 wc => t8 = .int .u32 (q1 : Int) ∧ Hid (Rd w E I S bit p s ov s.val wc))
      case first =>
        by_cases hp1 : p < 1
        · have hp1Z : (p : Int) < 1 := by omega
          go_wp2_with fail
          go_meet
          exact ⟨by rw [← unhide HQ1, if_pos hp1]; rfl, HR⟩
        · have hp1Z : ¬ (p : Int) < 1 := by omega
          go_wp2_with fail
          go_meet
          exact ⟨by rw [← unhide HQ1, if_neg hp1], HR⟩
      case rest =>
        obtain ⟨ht8, HR3⟩ := hcut
        subst ht8
        obtain ⟨w4, hw4⟩ : ∃ w4, wc = w4 := ⟨_, rfl⟩
        subst hw4
        clear HR
        go_upto_if 26 with fail
        obtain ⟨q, HQ⟩ : ∃ q, Hid (clampN p = q) := ⟨_, hide rfl⟩
        have hqq : Hid ((if 65535 < q1 then 65535 else q1) = q) := hide (by
          rw [← unhide HQ, ← unhide HQ1]; unfold clampN
          by_cases h : p < 1
          · rw [if_pos h, if_pos h]; rfl
          · rw [if_neg h, if_neg h])
        go_cut [8] (fun t8 wx => t8 = .int .u32 (q : Int) ∧ Hid (Rd w E I S bit p s ov s.val wx))
        case first =>
          by_cases hp1 : 65535 < q1
          · have hp1Z : (65535 : Int) < (q1 : Int) := by omega
            go_wp2_with fail
            go_meet
            exact ⟨by rw [← unhide hqq, if_pos hp1]; rfl, HR3⟩
          · have hp1Z : ¬ (65535 : Int) < (q1 : Int) := by omega
            go_wp2_with fail
            go_meet
            exact ⟨by rw [← unhide hqq, if_neg hp1], HR3⟩
        case rest =>
          obtain ⟨ht8, HR4⟩ := hcut
          subst ht8
          obtain ⟨w5, hw5⟩ : ∃ w5, wc = w5 := ⟨_, rfl⟩
          subst hw5
          have hqb : 1 ≤ q ∧ q ≤ 65535 := by have := clampN_bd p; rw [unhide HQ] at this; exact this
          obtain ⟨hq1, hq2⟩ := hqb
          clear HR3 hqq HQ1
          obtain ⟨hz2, hz3, hz4⟩ := zero_bd hr1 hr2 hq1 hq2
          obtain ⟨x, hx⟩ : ∃ x, s.rng / 65536 = x := ⟨_, rfl⟩
          obtain ⟨y, hy⟩ : ∃ y, 65536 - q = y := ⟨_, rfl⟩
          rw [hx, hy] at hz2 hz3 hz4
          obtain ⟨z, hz⟩ : ∃ z, x * y = z := ⟨_, rfl⟩
          rw [hz] at hz2 hz3 hz4
          have hxZ : (s.rng : Int) / 65536 = (x : Int) := by omega
          have hx2 : x < 65536 := by omega
          have hy2 : y < 65536 := by omega
          have hyZ : (65536 : Int) - (q : Int) = (y : Int) := by omega
          have hzZ : (x : Int) * (y : Int) = (z : Int) := by rw [← hz]; simp
          have HZ : Hid (s.rng / 65536 * (65536 - clampN p) = z) := hide (by rw [unhide HQ, hx, hy, hz])
          clear hx hy hz HQ
          have HSF := hide (step_facts (unhide HI) hr2 bit z hz2 hz3 hz4)
          obtain ⟨t, HT⟩ : ∃ t, Hid (encP s bit z = t) := ⟨_, hide rfl⟩
          rw [unhide HT] at HSF
          have hh1 := half_rng bit z hz3 hz2
          have hh2 := half_lt bit z hr2 hz4
          obtain ⟨r1, HR1⟩ : ∃ r1, Hid ((halfP s bit z).rng = r1) := ⟨_, hide rfl⟩
          obtain ⟨N1, HN1⟩ : ∃ N1, Hid ((halfP s bit z).val = N1) := ⟨_, hide rfl⟩
          rw [unhide HR1] at HSF hh1 hh2
          rw [unhide HN1] at HSF
          have d0 := (unhide HR4).cells.1
          go_upto_if 34 with fail
          go_cut [5] (fun t5 wx => t5 = .int .u32 (r1 : Int) ∧ Hid (Rd w E I S bit p s ov N1 wx))
          case first =>
            by_cases hb0 : bit = 0
            · have ab : (bit : Int) = 0 := by omega
              have abb : ((bit : Int) == 0) = true := by simp; omega
              go_wp2_with fail
              go_meet
              refine ⟨?_, ?_⟩
              · rw [← unhide HR1, hb0]; rfl
              · rw [← unhide HN1, half_val, if_pos hb0, Nat.add_zero]; exact HR4
            · have ab : ¬ (bit : Int) = 0 := by omega
              have abb : ((bit : Int) == 0) = false := by simp; omega
              obtain ⟨v5, hm5⟩ := (unhide HR4).mid
              have HM5 := hide hm5
              have HC1 := hide (setu_mid hm5 (show z < 18446744073709551616 by omega))
              have hsN : Hid (s.val < 18446744073709551616 ^ 3000) := hide (val_lt (unhide HI) (by omega))
              have HADD := hide (fun (W : World) (I J : Nat) (v yv : Value) (m : Mid w W I v s.val) (hIJ : I ≠ J) (hJ : IntAt W J yv) (hy : One W v yv z) (hyk : ∃ a n c, yv = .slice a n c) => add_mid m hIJ (unhide hsN) hJ hy hyk)
              have hrz : (s.rng : Int) - (z : Int) = (r1 : Int) := by have e := unhide HR1; unfold halfP at e; rw [if_neg hb0] at e; dsimp only at e; omega
              clear hm5 hsN
              go_wp2_with fail
              refine (unhide HC1).mono ?_
              rintro e6 w6 ⟨he6, yv, hm6, hne6, hj6, ho6, hk6, hkb6⟩
              subst he6
              have HR6 := hide ((unhide HR4).ext hkb6)
              have HC2 := hide ((unhide HADD) _ _ _ _ _ hm6 hne6 hj6 ho6 hk6)
              have HM6 := hide hm6
              clear hm6 hne6 hj6 ho6 hk6 hkb6 HC1
              go_wp2_with fail
              refine (unhide HC2).mono ?_
              rintro e7 w7 ⟨he7, v7, hm7, hkb7⟩
              subst he7
              have HR7 := hide ((unhide HR6).midk (unhide HM6) hkb7 hm7)
              clear hm7 hkb7 HC2
              go_wp2_with fail
              go_meet
              refine ⟨rfl, ?_⟩
              rw [← unhide HN1, half_val, if_neg hb0]; exact HR7
          case rest =>
            obtain ⟨ht5, HR5⟩ := hcut
            subst ht5
            obtain ⟨w6, hw6⟩ : ∃ w6, wc = w6 := ⟨_, rfl⟩
            subst hw6
            clear HR4 d0 hxZ hyZ hzZ hx2 hy2 hz2 hz3 hz4 HR1 HN1 hq1 hq2
            obtain ⟨R, HRt⟩ : ∃ R, Hid (t.rng = R) := ⟨_, hide rfl⟩
            have ht1 : 16777216 ≤ R := by rw [← unhide HRt]; exact (unhide HSF).r1
            have ht2 : R < 4294967296 := by rw [← unhide HRt]; exact (unhide HSF).r2
            have hts : t.bs.length + t.pe ≤ 2 * (i + 1) := by have := (unhide HSF).size; omega
            have HLSH := hide (fun (W : World) (v : Value) (N : Nat) (hN : N ≤ t.val) (m : Mid w W I v N) => lsh_mid m 8 (by omega) (by omega) (Nat.lt_of_le_of_lt hN (val_lt (unhide HSF).inv (by omega))))
            have HENC := hide (fun (W : World) (hb : w.heap.size ≤ W.heap.size) h ho => Encode_any E w.heap.size bit p s ov (unhide HI) hr1 hr2 (by omega) hb8 hp32 W hb h ho)
            rw [unhide HZ, unhide HT] at HENC
            go_wp2_with fail
            go_loopw [5] (fun t5 wv => ∃ r N : Nat, t5 = .int .u32 (r : Int) ∧ 256 ≤ r ∧ r < 4294967296 ∧ Hid (r * 256 ^ kk r = R ∧ N * 256 ^ kk r = t.val ∧ Rd w E I S bit p s ov N wv)) (fun t5 _ => 16777216 - (intOf t5).toNat)
            case atStart => exact ⟨r1, N1, rfl, hh1, hh2, hide ⟨(unhide HSF).rng.symm.trans (unhide HRt), (unhide HSF).val.symm, unhide HR5⟩⟩
            case round =>
              obtain ⟨r, N, ht5, hrr1, hrr2, HRel⟩ := hrel
              subst ht5
              clear HR5
              by_cases hrl : r < 16777216
              · have hrlZ : (r : Int) < 16777216 := by omega
                obtain ⟨v8, hm8⟩ := (unhide HRel).2.2.mid
                have HM8 := hide hm8
                have HC := hide ((unhide HLSH) _ _ N (by rw [← (unhide HRel).2.1]; exact Nat.le_mul_of_pos_right _ (Nat.pow_pos (by omega))) hm8)
                clear hm8
                go_wp2_with fail
                refine (unhide HC).mono ?_
                rintro e9 w9 ⟨he9, v9, hm9, hkb9⟩
                subst he9
                have HR9 := hide ((unhide HRel).2.2.midk (unhide HM8) hkb9 hm9)
                clear hm9 hkb9 HC
                go_wp2
                go_roundw
                case rel =>
                  have hk := kk_succ hrr1 hrl
                  refine ⟨r * 256, N * 2 ^ 8, rfl, by omega, by omega, hide ⟨?_, ?_, unhide HR9⟩⟩
                  · rw [← (unhide HRel).1, hk, Nat.pow_succ, Nat.mul_assoc, Nat.mul_comm 256]
                  · rw [← (unhide HRel).2.1, hk, show (2 : Nat) ^ 8 = 256 from rfl, Nat.pow_succ, Nat.mul_assoc, Nat.mul_comm 256]
                case measure =>
                  simp only [intOf]
                  omega
              · have hk0 := kk_zero (show 16777216 ≤ r by omega)
                obtain ⟨hA, hB, hC⟩ := unhide HRel
                rw [hk0, Nat.pow_zero, Nat.mul_one] at hA hB
                subst hA hB
                clear hk0
                have hrlZ : ¬ (r : Int) < 16777216 := by omega
                obtain ⟨g0, g1⟩ := hC.cells
                have HC := hide hC
                clear hC HRel HLSH
                have HC1 := hide ((unhide HENC) _ (by obtain ⟨v, m⟩ := (unhide HC).mid; exact m.kb.size) (unhide HC).enc (unhide HC).out)
                clear HENC
                go_wp2_with fail
                refine (unhide HC1).mono ?_
                rintro e10 w10 ⟨he10, hf10⟩
                subst he10
                obtain ⟨ov', v10, hE10, hO10, hM10⟩ := (unhide HC).encoded (Nat.le_of_eq (unhide HEw)) hf10
                have k1 := hE10.cells.2.1
                rw [unhide HRt] at k1
                have HE10 := hide hE10; have HO10 := hide hO10; have HM10 := hide hM10
                have HV := hide (value_any E w.heap.size t ov' (unhide HSF).inv (by omega) w10 hE10 hO10)
                clear hf10 hE10 hO10 hM10 HC1 HC g0 g1
                have hnb : ((r : Int) != (r : Int)) = false := by simp
                have hdl : decide ((r : Int) < 16777216) = false := by simp; omega
                have hvl : Hid (∀ (W : World) (J : Nat) (v : Value), J ≠ I → IntAt W J v → IntAt W I v10 → NatV W v t.val → NatV W v10 t.val → Calls Yba.prog 11 #[.pointer (some ⟨J, 0, none⟩), .pointer (some ⟨I, 0, none⟩)] W fun e w' => e = .returned (.int .i64 0) ∧ ∃ n, w' = W.drewN n) := hide (fun W J v h1 h2 h3 h4 h5 => Cmp_eq J I t.val v v10 h1 (val_lt (unhide HSF).inv (by omega)) W h2 h3 h4 h5)
                go_wp2_with fail
                refine (unhide HV).mono ?_
                rintro e11 w11 ⟨J, v11, he11, hm11⟩
                subst he11
                have HK11 := hide hm11.kb
                have HC2 := hide ((unhide hvl) w11 J v11 (by have := (unhide HM10).int.lt; have := hm11.old; omega) hm11.int ((unhide HM10).ext hm11.kb).int hm11.nat ((unhide HM10).ext hm11.kb).nat)
                clear hm11 HV hvl
                go_wp2_with fail
                refine (unhide HC2).mono ?_
                rintro e12 w12 ⟨he12, m12, hw12⟩
                subst he12
                have HK12 : Hid (KB (fun _ => False) w10 w12) := hide (by rw [hw12]; exact (unhide HK11).drewN _)
                clear hw12 HC2
                have hwi : IntKind.i64.wrap ((i : Int) + 1) = (i : Int) + 1 := IntWalk.i64_in _ (by omega)
                go_wp2
                go_roundw
                case rel =>
                  refine ⟨i + 1, t, by omega, rfl, by rw [unhide HRt], hts, hide ⟨⟨ov', v10, (unhide HE10).kb (unhide HK12) (fun h => h), (unhide HO10).kb (unhide HK12) (fun _ _ h => h), (unhide HM10).ext (unhide HK12)⟩, (unhide HSF).inv, (unhide HSF).r1, (unhide HSF).r2⟩⟩
                case measure =>
                  simp only [intOf]
                  omega
    · have hltZ : ¬ (i : Int) < (n : Int) := by omega
      obtain ⟨⟨ov, v, hE, hO, hM⟩, hInv, hr1, hr2⟩ := unhide HS
      have HK := hide hM.kb
      clear hE hO hM hInv HS HHd HST
      go_wp2
      go_ret
      exact ⟨rfl, unhide HK⟩
end Go.Proofs.Ybulkctsy
