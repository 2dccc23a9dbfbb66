/-
  nat.setBytes: its walk.
-/
import Derived.Test.YbulkctsyC1
namespace Go.Proofs.Ybulkctsy
open Go.RowKit
set_option linter.unusedVariables false

set_option maxRecDepth 20000 in
theorem norm_nil (w : World) : Calls Yba.prog 31 #[.slice none 0 0] w fun e w' => e = .returned (.slice none 0 0) ∧ w' = w := by
  go_enter Yba.func31, Yba.ntmps31
  go_wp2
  go_loopw [3] (fun t wr => t = .int .i64 0 ∧ wr = w) (fun _ _ => 0)
  case atStart => exact ⟨rfl, rfl⟩
  case round =>
    obtain ⟨rfl, rfl⟩ := hrel
    go_wp2
    go_ret
    exact ⟨rfl, rfl⟩

theorem slice_b (g n cap lo hi : Nat) (h1 : lo ≤ hi) (h2 : hi ≤ cap) (h3 : lo < cap) (L H : Int) (hL : L = (lo : Int)) (hH : H = (hi : Int)) (w : World) :
    (Instr.slice 39 (.slice (some ⟨g, 0, none⟩) n cap) (some (.int .i64 L)) (some (.int .i64 H)) none).run Yba.prog w = .ok (.slice (some ⟨g, lo, none⟩) (hi - lo) (cap - lo)) w := by
  subst hL hH
  have a1 : (hi : Int) ≤ (cap : Int) := by omega
  have a2 : (lo : Int) ≤ (hi : Int) := by omega
  have a3 : (0 : Int) ≤ (hi : Int) := by omega
  have a4 : (0 : Int) ≤ (lo : Int) := by omega
  go_simp
  omega

theorem pow_B (k : Nat) : 18446744073709551616 ^ (k + 1) = 18446744073709551616 * 18446744073709551616 ^ k := by rw [Nat.pow_succ, Nat.mul_comm]

theorem or_low {D x s : Nat} (hD : D < 2 ^ s) (hx : x < 256) (hs : s ≤ 48) : bits .or .u64 (D : Int) (IntKind.u64.wrap ((x : Int) * 2 ^ s)) = ((D + x * 2 ^ s : Nat) : Int) ∧ D + x * 2 ^ s < 2 ^ (s + 8) ∧ D + x * 2 ^ s < 18446744073709551616 := by
  have p1 : 2 ^ s ≤ 2 ^ 48 := Nat.pow_le_pow_right (by omega) hs
  have p2 : x * 2 ^ s + 2 ^ s ≤ 256 * 2 ^ s := by rw [← Nat.succ_mul]; exact Nat.mul_le_mul_right _ hx
  have p3 : 2 ^ (s + 8) = 256 * 2 ^ s := by rw [Nat.pow_add, Nat.mul_comm]
  have e1 : IntKind.u64.wrap ((x : Int) * 2 ^ s) = ((x * 2 ^ s : Nat) : Int) := by
    have : ((x : Int) * 2 ^ s) = ((x * 2 ^ s : Nat) : Int) := by simp
    rw [this, IntKind.wrap_u64]
    omega
  refine ⟨?_, by omega, by omega⟩
  rw [e1, u64_or_nat _ _ (by omega) (by omega), Nat.or_comm, nat_join s _ _ (Nat.mul_mod_left _ _) hD, Nat.add_comm]

set_option maxRecDepth 20000 in
set_option maxHeartbeats 800000 in
theorem setBytes_some (gb n cb : Nat) (d : Nat → Nat) (hd : ∀ i, d i < 256) (hn : 1 ≤ n) (hn2 : n ≤ 20000) (hcb : n ≤ cb) (w : World) (hgb : gb < w.heap.size) (hc : ∀ j, j < n → w.cell? ⟨gb, j, none⟩ = some (.int .u8 ((d j : Nat) : Int))) :
    Calls Yba.prog 40 #[.slice none 0 0, .slice (some ⟨gb, 0, none⟩) n cb] w fun e w' => ∃ v, e = .returned v ∧ NatV w' v (bval d n) ∧ KB (fun _ => False) w w' ∧ ∀ b, Blk v b → w.heap.size ≤ b := by
  have hK : ((n : Int) + 8 - 1) / 8 = (((n + 7) / 8 : Nat) : Int) := by omega
  have hK2 : ((n : Int) + 7) / 8 = (((n + 7) / 8 : Nat) : Int) := by omega
  obtain ⟨K, hKK⟩ : ∃ K, (n + 7) / 8 = K := ⟨_, rfl⟩
  rw [hKK] at hK hK2
  have HKK := hide hKK
  have HC := hide hc
  have HD := hide hd
  clear hKK hc hd
  go_enter Yba.func40, Yba.ntmps40
  go_wp2_with fail
  refine (make_new none K 0 0 (by have := unhide HKK; omega) (by have := unhide HKK; omega) w).mono ?_
  rintro e w1 ⟨c, rfl, hc1, hc2, rfl⟩
  have hr := made_row w c
  have hk : KB (fun _ => False) w (w.alloc (.cells (madeCells #[.int .u64 0] c) 54)) := (KB.refl _ _).alloc _
  obtain ⟨G, HG⟩ : ∃ G, Hid (G = w.heap.size) := ⟨_, hide rfl⟩
  have hGw : Hid (w.heap.size ≤ G) := hide (Nat.le_of_eq (unhide HG).symm)
  rw [← unhide HG] at hr ⊢
  generalize w.alloc (.cells (madeCells #[.int .u64 0] c) 54) = w1 at hr hk ⊢
  have HI0 := hide (And.intro hr hk)
  have HCB := hide (fun (W : World) (hW : KB (fun _ => False) w W) j (hj : j < n) => (hW.cell hgb (fun h => h)).trans ((unhide HC) j hj))
  clear hK hK2 hr hk hgb HC
  go_wp2
  go_loopw [5, 6] (fun ti tk wr => ∃ i k : Nat, i + 8 * k = n ∧ ti = .int .i64 (i : Int) ∧ tk = .int .i64 (k : Int) ∧ Hid (∃ u, WRow wr G c u ∧ bval d n = bval d i * 18446744073709551616 ^ k + valF u k ∧ KB (fun _ => False) w wr)) (fun ti _ _ => (intOf ti).toNat)
  case atStart => exact ⟨n, 0, by omega, rfl, rfl, hide ⟨_, (unhide HI0).1, by simp [valF], (unhide HI0).2⟩⟩
  case round =>
    obtain ⟨i, k, hik, rfl, rfl, HI⟩ := hrel
    clear HI0
    by_cases h8 : 8 ≤ i
    · obtain ⟨m, rfl⟩ : ∃ m, i = m + 8 := ⟨i - 8, by omega⟩
      obtain ⟨u, hu⟩ := unhide HI
      have hkK : k < K := by have := unhide HKK; omega
      have hkZ : (k : Int) < (K : Int) := by omega
      have hk0 : (0 : Int) ≤ (k : Int) := by omega
      have hsl := fun w => slice_b gb n cb m (m + 8) (by omega) (by omega) (by omega) (m : Int) ((m : Int) + 8) rfl (by omega) w
      obtain ⟨x, hx⟩ : ∃ x, bval d (m + 8) = bval d m * 18446744073709551616 + x := ⟨_, bval_8 d m⟩
      have hx64 : x < 18446744073709551616 := by
        have e := bval_8 d m
        have b := unhide HD
        have := b m; have := b (m + 1); have := b (m + 2); have := b (m + 3); have := b (m + 4); have := b (m + 5); have := b (m + 6); have := b (m + 7)
        omega
      have HU := hide hu
      have HX := hide hx
      have HX64 := hide hx64
      have hcz := hu.1.cell (i := k) (by omega)
      have hfz := hu.1.frozen k
      clear hu HI hx hx64
      have hmn : m + 8 ≤ n := by omega
      have hk8 : 8 * k ≤ n := by omega
      have HIK := hide hik
      clear hik
      go_wp2_with fail
      refine (beWord_at gb m 8 (cb - m) d (unhide HD) (by omega) wr (fun j hj => (unhide HCB) wr (unhide HU).2.2 (m + j) (by have := unhide HIK; omega)) x (unhide HX)).mono ?_
      rintro e w2 ⟨rfl, q, rfl⟩
      go_wp2
      go_roundw
      case rel =>
        obtain ⟨h1, h2, h3⟩ := unhide HU
        refine ⟨m, k + 1, by have := unhide HIK; omega, by go_num, by go_num, hide ⟨_, (h1.drewN q).set k x (unhide HX64), ?_, (h3.drewN q).setCell _ _ (fun h => by have := unhide hGw; exact absurd h (by dsimp only; omega))⟩⟩
        rw [valF_succ, if_pos rfl, valF_congr (u' := u) (fun j hj => if_neg (by omega)), h2, unhide HX, pow_B, Nat.add_mul, Nat.mul_assoc]
        omega
      case measure => simp [intOf]; omega
    · have hKeq : K = k + (if i = 0 then 0 else 1) := by
        have := unhide HKK
        split <;> omega
      by_cases h0 : i = 0
      · subst h0
        rw [if_pos rfl, Nat.add_zero] at hKeq
        subst hKeq
        obtain ⟨u, h1, h2, h3⟩ := unhide HI
        go_wp2_with fail
        refine (norm_any G K c u hc1 (by have := unhide HKK; omega) wr h1).mono ?_
        rintro e w4 ⟨m, rfl, hm, hzz, htt, hr4, hk4⟩
        have HF := hide (And.intro h2 (And.intro h3 (And.intro hzz (And.intro htt (And.intro hr4 hk4)))))
        clear h1 h2 h3 hzz htt hr4 hk4 HI
        go_wp2
        go_ret
        obtain ⟨h2, h3, hzz, htt, hr4, hk4⟩ := unhide HF
        refine ⟨.slice (some ⟨G, 0, none⟩) m c, rfl, natV_norm hr4 (by have := unhide HKK; omega) hc1 hm hzz htt ?_, h3.trans hk4 (fun _ _ h => h), fun b hb => ?_⟩
        · rw [h2, bval, Nat.zero_mul, Nat.zero_add]
        · rw [blk_eq hb]; exact unhide hGw
      · rw [if_neg h0] at hKeq
        subst hKeq
        obtain ⟨I, HII⟩ : ∃ I, Hid (i = I) := ⟨_, hide rfl⟩
        have hi7 : i ≤ 7 := by omega
        have hin : i ≤ n := by omega
        have hk8 : 8 * k ≤ n := by omega
        have hi0 : (0 : Int) < (i : Int) := by omega
        have HIK := hide hik
        clear hik
        go_wp2
        go_loopw [5, 7, 8] (fun ti td ts wr => ∃ j D s : Nat, j ≤ i ∧ s = 8 * (i - j) ∧ ti = .int .i64 (j : Int) ∧ td = .int .u64 (D : Int) ∧ ts = .int .u64 (s : Int) ∧ wr = wr ∧ Hid (bval d i = bval d j * 2 ^ s + D ∧ D < 2 ^ s ∧ ∃ u, WRow wr G c u ∧ bval d n = bval d i * 18446744073709551616 ^ k + valF u k ∧ KB (fun _ => False) w wr)) (fun ti _ _ _ => (intOf ti).toNat)
        case atStart =>
          exact ⟨i, 0, 0, Nat.le_refl _, by omega, rfl, rfl, rfl, rfl, hide ⟨by simp, by simp, unhide HI⟩⟩
        case round =>
          obtain ⟨j, D, s, hj, hs, rfl, rfl, rfl, _, HJ⟩ := hrel
          have hs7 : s ≤ 56 := by omega
          have HS := hide hs
          clear hs HI
          by_cases hj0 : j = 0
          · subst hj0
            obtain ⟨hb, hD, u, h1, h2, h3⟩ := unhide HJ
            have hD64 : D < 18446744073709551616 := Nat.lt_of_lt_of_le hD (Nat.le_trans (Nat.pow_le_pow_right (by omega) hs7) (by decide))
            have hcz := h1.cell (i := k) (by omega)
            have hfz := h1.frozen k
            have hbD : bval d i = D := by rw [hb, bval, Nat.zero_mul, Nat.zero_add]
            have HQ := hide (And.intro h1 (And.intro h2 (And.intro h3 (And.intro hbD hD64))))
            clear hb hD h1 h2 h3 HJ hbD hD64
            go_wp2_with fail
            obtain ⟨h1, h2, h3, hbD, hD64⟩ := unhide HQ
            have hr3 := h1.set k D hD64
            have hk3 := h3.setCell ⟨G, k, none⟩ (.int .u64 (D : Int)) (fun h => by have := unhide hGw; exact absurd h (by dsimp only; omega))
            refine (norm_any G (k + 1) c _ hc1 (by omega) _ hr3).mono ?_
            rintro e w4 ⟨m, rfl, hm, hzz, htt, hr4, hk4⟩
            have HF := hide (And.intro hzz (And.intro htt (And.intro hr4 hk4)))
            have HK3 := hide hk3
            clear h1 h2 h3 hbD hD64 hr3 hk3 hzz htt hr4 hk4 hcz hfz
            go_wp2
            go_ret
            obtain ⟨hzz, htt, hr4, hk4⟩ := unhide HF
            obtain ⟨h1, h2, h3, hbD, hD64⟩ := unhide HQ
            refine ⟨.slice (some ⟨G, 0, none⟩) m c, rfl, natV_norm hr4 (by omega) hc1 hm hzz htt ?_, (unhide HK3).trans hk4 (fun _ _ h => h), fun b hb => ?_⟩
            · rw [valF_succ, if_pos rfl, valF_congr (u' := u) (fun j hj => if_neg (by omega)), h2, hbD, Nat.add_comm]
            · rw [blk_eq hb]; exact unhide hGw
          · obtain ⟨p, rfl⟩ : ∃ p, j = p + 1 := ⟨j - 1, by omega⟩
            obtain ⟨x, EX⟩ : ∃ x, Hid (d p = x) := ⟨_, hide rfl⟩
            have hcp := (unhide HCB) wr (unhide HJ).2.2.choose_spec.2.2 p (by omega)
            rw [unhide EX] at hcp
            have hx256 : x < 256 := by rw [← unhide EX]; exact (unhide HD) p
            have hs48 : s ≤ 48 := by have := unhide HS; omega
            have HO := hide (or_low (x := x) (unhide HJ).2.1 (by rw [← unhide EX]; exact (unhide HD) p) hs48)
            have hor := (unhide HO).1
            have hp1 : (p : Int) < (n : Int) := by omega
            have hp2 : (0 : Int) ≤ (p : Int) := by omega
            go_wp2
            go_roundw
            case rel =>
              obtain ⟨hb, hD, h3⟩ := unhide HJ
              refine ⟨p, D + x * 2 ^ s, s + 8, by omega, by have := unhide HS; omega, by go_num, rfl, by go_num, trivial, hide ⟨?_, (unhide HO).2.1, h3⟩⟩
              rw [hb, bval, unhide EX, Nat.pow_add, show (2 : Nat) ^ 8 = 256 from rfl, Nat.add_mul, Nat.mul_assoc, Nat.mul_comm 256]
              omega
            case measure => simp [intOf]
end Go.Proofs.Ybulkctsy
