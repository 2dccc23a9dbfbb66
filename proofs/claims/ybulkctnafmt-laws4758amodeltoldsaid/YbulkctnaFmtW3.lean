/-
  checkSvcValue at 'mandatory'.
-/
import Derived.Test.YbulkctnaFmtW2
import Derived.Deep.RegionWith
import Derived.Deep.RegionHeld3
import Derived.Deep.DeepCutAuto
import Derived.Deep.QuietTactic
import Derived.BigQuiet
namespace Go.Proofs.YbulkctnaFmt
open Go.RowKit Go.Extern.Stop Go.Stop Go.Extern
set_option linter.unusedVariables false

/-- The slice's address and its bytes, as they lie in the world. -/
def BCells (w : World) (ad : Option Addr) (l : Svc.Bytes) : Prop := ∀ i, i < l.length → ∃ b off, ad = some ⟨b, off, none⟩ ∧ b < w.heap.size ∧ w.cell? ⟨b, off + i, none⟩ = some (.int .u8 ((l.getD i 0).toNat : Int))
theorem BCells.below {w w' : World} {ad : Option Addr} {l : Svc.Bytes} {B : Nat} (h : BCells w ad l) (hb : Below B w w') (hB : w.heap.size ≤ B) : BCells w' ad l := by
  intro i hi
  obtain ⟨b, off, rfl, h1, h2⟩ := h i hi
  have := hb.size
  exact ⟨b, off, rfl, by omega, by rw [hb.cell (p := ⟨b, off + i, none⟩) (by simp; omega)]; exact h2⟩
theorem BCells.at {w : World} {b off : Nat} {l : Svc.Bytes} (h : BCells w (some ⟨b, off, none⟩) l) {i : Nat} (hi : i < l.length) : b < w.heap.size ∧ w.cell? ⟨b, off + i, none⟩ = some (.int .u8 ((l.getD i 0).toNat : Int)) := by
  obtain ⟨b', off', e, h1, h2⟩ := h i hi
  simp only [Option.some.injEq, Addr.mk.injEq, and_true] at e
  obtain ⟨rfl, rfl⟩ := e
  exact ⟨h1, h2⟩

theorem f_mand (w : World) : (FmtDoors.printed ⟨#[118, 97, 108, 117, 101, 32, 111, 102, 32, 37, 100, 32, 111, 99, 116, 101, 116, 115, 32, 105, 115, 32, 110, 111, 116, 32, 111, 110, 101, 32, 111, 114, 32, 109, 111, 114, 101, 32, 107, 101, 121, 115]⟩ 1).run Ybaf.prog w = .ok [(0, 100, false)] w := by kernel_rfl
theorem f_twice (w : World) : (FmtDoors.printed ⟨#[37, 115, 32, 105, 115, 32, 108, 105, 115, 116, 101, 100, 32, 116, 119, 105, 99, 101, 32, 111, 114, 32, 111, 117, 116, 32, 111, 102, 32, 111, 114, 100, 101, 114]⟩ 1).run Ybaf.prog w = .ok [(0, 115, false)] w := by kernel_rfl

set_option maxHeartbeats 400000 in
/-- An empty value, or one of an odd length. -/
theorem check_0_len (F : Interp) (ad : Option Addr) (n cap : Nat) (hn : n = 0 ∨ n % 2 ≠ 0) (hx : n ≤ 1000000) (w : World) (hF : F.answers w.tape) :
    Calls Ybaf.prog 5 #[.int .u16 0, .slice ad n cap] w fun e w' => Errs e ∧ Below w.heap.size w w' := by
  have HF := hide hF
  clear hF
  by_cases h0 : n = 0
  · subst h0
    clear hn
    go_enter Ybaf.func5, Ybaf.ntmps5
    go_wp2_with fail
    refine (errorf_int F _ f_mand w.heap.size 0 _ (by exact unhide HF) (by simp)).mono ?_
    rintro e w1 ⟨⟨p, rfl⟩, hb⟩
    go_wp2
    go_ret
    exact ⟨⟨p, rfl⟩, ((Below.refl _ _).alloc (Nat.le_refl _) _).trans (hb.mono (by simp))⟩
  · have h1 : ((n : Int) == 0) = false := beq_eq_false_iff_ne.2 (by omega)
    have h2 : ((n : Int) % 2 != 0) = true := by rw [bne_iff_ne]; omega
    clear hn h0
    go_enter Ybaf.func5, Ybaf.ntmps5
    go_wp2_with fail
    refine (errorf_int F _ f_mand w.heap.size n _ (by exact unhide HF) (by simp)).mono ?_
    rintro e w1 ⟨⟨p, rfl⟩, hb⟩
    go_wp2
    go_ret
    exact ⟨⟨p, rfl⟩, ((Below.refl _ _).alloc (Nat.le_refl _) _).trans (hb.mono (by simp))⟩

/-- Uint16 of two of the value's bytes. -/
theorem u16_at (l : Svc.Bytes) (b off n c j o : Nat) (ho : o = off + 2 * j) (hn : 2 ≤ n) (w : World) (hj : 2 * j + 2 ≤ l.length) (hc : BCells w (some ⟨b, off, none⟩) l) :
    Calls Ybaf.prog 8 #[.agg #[], .slice (some ⟨b, o, none⟩) n c] w fun e w' => e = .returned (.int .u16 (Svc.kAt l j)) ∧ Below w.heap.size w w' := by
  subst ho
  refine (Ybaf.binary_BE_Uint16 b (off + 2 * j) n c (l.getD (2 * j) 0) (l.getD (2 * j + 1) 0) w hn (hc.at (by omega)).2 (by have := (hc.at (i := 2 * j + 1) (by omega)).2; rw [← Nat.add_assoc] at this; exact this)).mono ?_
  rintro e w' ⟨rfl, hb⟩
  refine ⟨?_, hb⟩
  have : ((Lib.beNat [l.getD (2 * j) 0, l.getD (2 * j + 1) 0] : Nat) : Int) = Svc.kAt l j := by
    unfold Svc.kAt
    generalize l.getD (2 * j) 0 = x
    generalize l.getD (2 * j + 1) 0 = y
    simp only [Lib.beNat, Lib.beFrom]
    omega
  rw [this]

theorem slice_from (b off n cap i : Nat) (hi : i ≤ n) (hn : n ≤ cap) (hlt : i < cap) (z : Int) (hz : z = (i : Int)) (w : World) :
    (Instr.slice 23 (.slice (some ⟨b, off, none⟩) n cap) (some (.int .i64 z)) none none).run Ybaf.prog w = .ok (.slice (some ⟨b, off + i, none⟩) (n - i) (cap - i)) w := by
  subst hz
  have h1 : (i : Int) ≤ (n : Int) := by omega
  have h2 : (n : Int) ≤ (cap : Int) := by omega
  have h3 : (0 : Int) ≤ (i : Int) := by omega
  go_simp
  omega

/-- What one key does to the whole answer. -/
theorem asc_no {l : Svc.Bytes} {j : Nat} (hA : Svc.asc (-1) l = Svc.asc (Svc.prevAt l j) (l.drop (2 * j))) (hj : 2 * j + 2 ≤ l.length) (h : Svc.kAt l j = 0 ∨ Svc.kAt l j ≤ Svc.prevAt l j) : Svc.asc (-1) l = false := by
  rw [hA, Svc.asc_step hj]
  rcases h with h | h
  · simp [h]
  · have : ¬ (Svc.prevAt l j < Svc.kAt l j) := by omega
    simp [this]
theorem asc_yes {l : Svc.Bytes} {j : Nat} (hA : Svc.asc (-1) l = Svc.asc (Svc.prevAt l j) (l.drop (2 * j))) (hj : 2 * j + 2 ≤ l.length) (h0 : Svc.kAt l j ≠ 0) (h1 : Svc.prevAt l j < Svc.kAt l j) :
    Svc.asc (-1) l = Svc.asc (Svc.prevAt l (j + 1)) (l.drop (2 * (j + 1))) := by
  rw [hA, Svc.asc_step hj]
  show _ = Svc.asc (Svc.kAt l j) (l.drop (2 * (j + 1)))
  simp [h0, h1]

set_option maxRecDepth 20000 in
set_option maxHeartbeats 1600000 in
theorem check_0_rest (F : Interp) (b off cap : Nat) (l : Svc.Bytes) (hl : 0 < l.length) (hl2 : l.length % 2 = 0) (hx : l.length ≤ 1000000) (hcap : l.length ≤ cap) (w : World) (hE : Env F w) (hc : BCells w (some ⟨b, off, none⟩) l) :
    Calls Ybaf.prog 5 #[.int .u16 0, .slice (some ⟨b, off, none⟩) l.length cap] w fun e w' => ((Svc.asc (-1) l = true ∧ e = .returned .nilIface) ∨ (Svc.asc (-1) l = false ∧ Errs e)) ∧ Below w.heap.size w w' := by
  have h1 : ((l.length : Int) == 0) = false := beq_eq_false_iff_ne.2 (by omega)
  have h2 : ((l.length : Int) % 2 != 0) = false := by rw [bne_eq_false_iff_eq]; omega
  have HE := hide hE
  have HL := hide hl2
  clear hE hl2
  go_enter Ybaf.func5, Ybaf.ntmps5
  go_wp2
  go_loopw [5] (fun i wr => ∃ j : Nat, 2 * j ≤ l.length ∧ i = .int .i64 (2 * (j : Int)) ∧ Hid (Svc.asc (-1) l = Svc.asc (Svc.prevAt l j) (l.drop (2 * j))) ∧ Below w.heap.size w wr) (fun i _ => l.length - (intOf i).toNat)
  case atStart => exact ⟨0, by omega, rfl, hide rfl, Below.refl _ _⟩
  case round =>
    obtain ⟨j, hj, rfl, HA, hbl⟩ := hrel
    by_cases hlt : 2 * j < l.length
    · have hj2 : 2 * j + 2 ≤ l.length := by have := unhide HL; omega
      have hcr := hc.below hbl (Nat.le_refl _)
      have hbs := hbl.size
      have hji : (2 * (j : Int)) < (l.length : Int) := by omega
      go_wp2
      go_cut [6] (fun k wc => k = .int .u16 (Svc.kAt l j) ∧ Below wr.heap.size wr wc)
      case first =>
        go_region_with (go_at_call 8; refine (u16_at l b off _ _ j _ (by omega) (by omega) _ hj2 (by exact hcr.below ((Below.refl _ _).drew) (Nat.le_refl _))).mono ?_; rintro e w1 ⟨rfl, hb1⟩)
        all_goals (go_wp2_with fail; go_meet; exact ⟨rfl, ((Below.refl _ _).drew).trans hb1⟩)
      case rest =>
        obtain ⟨rfl, hbc⟩ := hcut
        have hkb := Svc.kAt_bd l j
        by_cases hk0 : Svc.kAt l j = 0
        · have hk0b : (Svc.kAt l j == 0) = true := by rw [hk0]; rfl
          have HN := hide (asc_no (unhide HA) hj2 (.inl hk0))
          clear hk0
          go_wp2_with fail
          refine (errorf_plain _ (by decide +kernel) _).mono ?_
          rintro e w1 ⟨⟨p, rfl⟩, hb1⟩
          go_wp2
          go_ret
          exact ⟨.inr ⟨unhide HN, p, rfl⟩, hbl.trans ((hbc.trans (hb1.mono hbc.size)).mono hbs)⟩
        · have hk0b : (Svc.kAt l j == 0) = false := beq_eq_false_iff_ne.2 hk0
          by_cases hj0 : j = 0
          · have HY := hide (asc_yes (unhide HA) hj2 hk0 (by subst hj0; simp [Svc.prevAt]; omega))
            have hg : decide ((0 : Int) < 2 * (j : Int)) = false := by simp [hj0]
            clear hk0 hj0
            go_wp2
            go_quiet (fail)
            go_wp2
            go_roundw
            case rel => exact ⟨j + 1, by omega, by go_num, HY, hbl.trans ((below_drewN hbc _).mono hbs)⟩
            case measure => simp [intOf]; omega
          · obtain ⟨m, hmj⟩ : ∃ m, j = m + 1 := ⟨j - 1, by omega⟩
            have hg : decide ((0 : Int) < 2 * (j : Int)) = true := by simp; omega
            have hcc := hcr.below hbc (Nat.le_refl _)
            have hkm := Svc.kAt_bd l m
            have hm2 : 2 * m + 2 ≤ l.length := by omega
            have hjge : m + 1 ≤ j := by omega
            have hjle : j ≤ m + 1 := by omega
            have HP : Hid (Svc.prevAt l j = Svc.kAt l m) := by rw [hmj]; exact hide rfl
            have hwr : IntKind.i64.wrap (2 * (j : Int) - 2) = 2 * (m : Int) := by rw [IntWalk.i64_in _ (by omega)]; omega
            have hsl := fun w => slice_from b off l.length cap (2 * m) (by omega) hcap (by omega) (2 * (m : Int)) (by omega) w
            clear hj0 hmj
            go_wp2
            go_cut [51] (fun t wx => t = .bool (decide (Svc.kAt l j ≤ Svc.kAt l m)) ∧ Below wc.heap.size wc wx)
            case first =>
              go_region_held3 (fun _ => True) (trivial) ((go_at_call 8; refine (u16_at l b off _ _ m _ (by omega) (by omega) _ hm2 (by exact hcc.below ((Below.refl _ _).drew) (Nat.le_refl _))).mono ?_; rintro e w1 ⟨rfl, hb1⟩))
              all_goals (go_wp2_with fail; go_meet; exact ⟨rfl, ((Below.refl _ _).drew).trans hb1⟩)
            case rest =>
              obtain ⟨rfl, hbx⟩ := hcut
              have hb2 := hbl.trans ((hbc.trans (hbx.mono hbc.size)).mono hbs)
              by_cases hle : Svc.kAt l j ≤ Svc.kAt l m
              · have HN := hide (asc_no (unhide HA) hj2 (.inr (by rw [unhide HP]; exact hle)))
                have HE2 := hide ((unhide HE).below hb2)
                clear hwr hsl
                go_wp2_with fail
                refine (keyString_any F _ hkb.1 hkb.2 _ (unhide HE2)).mono ?_
                rintro e w1 ⟨sx, rfl, hb3⟩
                have HE3 := hide ((unhide HE2).below hb3)
                go_wp2_with fail
                refine (errorf_str F _ f_twice w1.heap.size sx _ (by exact (unhide HE3).ans) (by simp)).mono ?_
                rintro e w4 ⟨⟨p, rfl⟩, hb4⟩
                go_wp2
                go_ret
                exact ⟨.inr ⟨unhide HN, p, rfl⟩, hb2.trans ((hb3.trans ((((Below.refl _ _).alloc (Nat.le_refl _) _).trans (hb4.mono (by simp))).mono hb3.size)).mono hb2.size)⟩
              · have HY := hide (asc_yes (unhide HA) hj2 hk0 (by rw [unhide HP]; omega))
                clear hwr hsl
                go_wp2
                go_roundw
                case rel => exact ⟨j + 1, by omega, by go_num, HY, hb2⟩
                case measure => simp [intOf]; omega
    · have HT : Hid (Svc.asc (-1) l = true) := by rw [unhide HA]; exact hide (Svc.asc_end (by omega) _)
      go_wp2
      go_ret
      exact ⟨.inl ⟨unhide HT, rfl⟩, hbl⟩
end Go.Proofs.YbulkctnaFmt
