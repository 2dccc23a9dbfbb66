/-
  THE MODEL FUNCTION zzs4758amodel: its walks.
-/
import Derived.Test.YbulkctnaFmtW4
namespace Go.Proofs.YbulkctnaFmt
open Go.RowKit Go.Extern.Stop Go.Stop Go.Extern
set_option linter.unusedVariables false

set_option maxHeartbeats 400000 in
theorem model_other (key : Int) (ad : Option Addr) (n cap : Nat) (w : World) (h0 : (key == 0) = false) (h1 : (key == 1) = false) (h2 : (key == 2) = false) (h3 : (key == 3) = false) (h4 : (key == 4) = false) (h6 : (key == 6) = false) (h8 : (key == 8) = false) (h9 : (key == 65535) = false) :
    Calls Ybaf.prog 6 #[.int .u16 key, .slice ad n cap] w fun e w' => e = .returned (.bool true) ∧ w' = w := by
  go_enter Ybaf.func6, Ybaf.ntmps6
  go_wp2
  go_ret
  exact ⟨rfl, rfl⟩
set_option maxHeartbeats 400000 in
theorem model_65535 (ad : Option Addr) (n cap : Nat) (w : World) :
    Calls Ybaf.prog 6 #[.int .u16 65535, .slice ad n cap] w fun e w' => e = .returned (.bool false) ∧ w' = w := by
  go_enter Ybaf.func6, Ybaf.ntmps6
  go_wp2
  go_ret
  exact ⟨rfl, rfl⟩
theorem ret_bool {a b : Bool} (h : a = b) : Ending.returned (.bool a) = .returned (.bool b) := by rw [h]
theorem int_eq_dec (n m : Nat) : ((n : Int) == (m : Int)) = decide (n = m) := by
  rw [Bool.eq_iff_iff]; simp; omega
set_option maxHeartbeats 400000 in
theorem model_2 (ad : Option Addr) (n cap : Nat) (w : World) :
    Calls Ybaf.prog 6 #[.int .u16 2, .slice ad n cap] w fun e w' => e = .returned (.bool (decide (n = 0))) ∧ w' = w := by
  go_enter Ybaf.func6, Ybaf.ntmps6
  go_wp2
  go_ret
  exact ⟨ret_bool (int_eq_dec n 0), rfl⟩
set_option maxHeartbeats 400000 in
theorem model_8 (ad : Option Addr) (n cap : Nat) (w : World) :
    Calls Ybaf.prog 6 #[.int .u16 8, .slice ad n cap] w fun e w' => e = .returned (.bool (decide (n = 0))) ∧ w' = w := by
  go_enter Ybaf.func6, Ybaf.ntmps6
  go_wp2
  go_ret
  exact ⟨ret_bool (int_eq_dec n 0), rfl⟩
set_option maxHeartbeats 400000 in
theorem model_3 (ad : Option Addr) (n cap : Nat) (w : World) :
    Calls Ybaf.prog 6 #[.int .u16 3, .slice ad n cap] w fun e w' => e = .returned (.bool (decide (n = 2))) ∧ w' = w := by
  go_enter Ybaf.func6, Ybaf.ntmps6
  go_wp2
  go_ret
  exact ⟨ret_bool (int_eq_dec n 2), rfl⟩
set_option maxHeartbeats 400000 in
theorem model_4 (ad : Option Addr) (n cap : Nat) (hx : n ≤ 1000000) (w : World) :
    Calls Ybaf.prog 6 #[.int .u16 4, .slice ad n cap] w fun e w' => e = .returned (.bool (decide (0 < n) && decide (n % 4 = 0))) ∧ w' = w := by
  by_cases h : 0 < n
  · have hZ : (0 : Int) < (n : Int) := by omega
    have H := hide (show ((n : Int) % 4 == 0) = (decide (0 < n) && decide (n % 4 = 0)) by rw [Bool.eq_iff_iff]; simp; omega)
    go_enter Ybaf.func6, Ybaf.ntmps6
    go_wp2
    go_ret
    exact ⟨ret_bool (unhide H), rfl⟩
  · have hZ : ¬ (0 : Int) < (n : Int) := by omega
    go_enter Ybaf.func6, Ybaf.ntmps6
    go_wp2
    go_ret
    exact ⟨rfl, rfl⟩
set_option maxHeartbeats 400000 in
theorem model_6 (ad : Option Addr) (n cap : Nat) (hx : n ≤ 1000000) (w : World) :
    Calls Ybaf.prog 6 #[.int .u16 6, .slice ad n cap] w fun e w' => e = .returned (.bool (decide (0 < n) && decide (n % 16 = 0))) ∧ w' = w := by
  by_cases h : 0 < n
  · have hZ : (0 : Int) < (n : Int) := by omega
    have H := hide (show ((n : Int) % 16 == 0) = (decide (0 < n) && decide (n % 16 = 0)) by rw [Bool.eq_iff_iff]; simp; omega)
    go_enter Ybaf.func6, Ybaf.ntmps6
    go_wp2
    go_ret
    exact ⟨ret_bool (unhide H), rfl⟩
  · have hZ : ¬ (0 : Int) < (n : Int) := by omega
    go_enter Ybaf.func6, Ybaf.ntmps6
    go_wp2
    go_ret
    exact ⟨rfl, rfl⟩

set_option maxHeartbeats 400000 in
theorem model_0_len (ad : Option Addr) (n cap : Nat) (hn : n = 0 ∨ n % 2 ≠ 0) (hx : n ≤ 1000000) (w : World) :
    Calls Ybaf.prog 6 #[.int .u16 0, .slice ad n cap] w fun e w' => e = .returned (.bool false) ∧ w' = w := by
  by_cases h0 : n = 0
  · subst h0
    clear hn
    go_enter Ybaf.func6, Ybaf.ntmps6
    go_wp2
    go_ret
    exact ⟨rfl, rfl⟩
  · have h1 : ((n : Int) == 0) = false := beq_eq_false_iff_ne.2 (by omega)
    have h2 : ((n : Int) % 2 == 1) = true := by rw [beq_iff_eq]; omega
    clear hn h0
    go_enter Ybaf.func6, Ybaf.ntmps6
    go_wp2
    go_ret
    exact ⟨rfl, rfl⟩
set_option maxHeartbeats 400000 in
theorem model_1_empty (ad : Option Addr) (cap : Nat) (w : World) :
    Calls Ybaf.prog 6 #[.int .u16 1, .slice ad 0 cap] w fun e w' => e = .returned (.bool false) ∧ w' = w := by
  go_enter Ybaf.func6, Ybaf.ntmps6
  go_wp2
  go_ret
  exact ⟨rfl, rfl⟩

set_option maxRecDepth 20000 in
set_option maxHeartbeats 800000 in
theorem model_1_rest (b off cap : Nat) (l : Svc.Bytes) (hl : 0 < l.length) (hx : l.length ≤ 1000000) (w : World) (hc : BCells w (some ⟨b, off, none⟩) l) :
    Calls Ybaf.prog 6 #[.int .u16 1, .slice (some ⟨b, off, none⟩) l.length cap] w fun e w' => e = .returned (.bool (Svc.ids l)) ∧ w' = w := by
  have h1 : ((l.length : Int) == 0) = false := beq_eq_false_iff_ne.2 (by omega)
  go_enter Ybaf.func6, Ybaf.ntmps6
  go_wp2
  go_loop [9] (fun t => ∃ i : Nat, i ≤ l.length ∧ t = .int .i64 (i : Int) ∧ Hid (Svc.ids l = Svc.ids (l.drop i))) (fun t => l.length - (intOf t).toNat)
  case atStart => exact ⟨0, by omega, rfl, hide rfl⟩
  case round =>
    obtain ⟨i, hi, rfl, HA⟩ := hrel
    by_cases hlt : i < l.length
    · have hcl := (hc.at hlt).2
      obtain ⟨a, HAA⟩ : ∃ a : Nat, Hid ((l.getD i 0).toNat = a) := ⟨_, hide rfl⟩
      have hab : a ≤ 255 := by rw [← unhide HAA]; have := (l.getD i 0).toNat_lt; omega
      rw [unhide HAA] at hcl
      by_cases h0 : a = 0
      · have h0b : ((a : Int) == 0) = true := by rw [h0]; rfl
        have HN := hide (ids_no (unhide HA) hlt (.inl (by rw [unhide HAA]; exact h0)))
        clear h0
        go_wp2
        go_ret
        exact ⟨by rw [unhide HN]; rfl, rfl⟩
      · have h0b : ((a : Int) == 0) = false := beq_eq_false_iff_ne.2 (by omega)
        by_cases hcut : l.length < i + 1 + a
        · have HN := hide (ids_no (unhide HA) hlt (.inr (by rw [unhide HAA]; exact hcut)))
          have hcZ : (l.length : Int) - (i : Int) - 1 < (a : Int) := by omega
          clear h0
          go_wp2
          go_ret
          exact ⟨by rw [unhide HN]; rfl, rfl⟩
        · have HY := ids_yes (unhide HA) hlt (by rw [unhide HAA]; exact h0) (by rw [unhide HAA]; omega)
          rw [unhide HAA] at HY
          have HY2 := hide HY
          have hcZ : ¬ (l.length : Int) - (i : Int) - 1 < (a : Int) := by omega
          clear h0 HY
          go_wp2
          go_round
          case rel => exact ⟨i + (1 + a), by omega, by go_num, HY2⟩
          case measure => simp [intOf]; omega
    · have HT := hide (ids_done (unhide HA) (by omega))
      go_wp2
      go_ret
      exact ⟨by rw [unhide HT]; rfl, rfl⟩

theorem join_bytes (x y : Nat) (hx : x ≤ 255) (hy : y ≤ 255) : bits .or .i64 ((x : Int) * 256) (y : Int) = 256 * (x : Int) + (y : Int) := by
  rw [bits_join .i64 16 (by decide) (fun n h0 h1 => IntWalk.i64_in n (by omega)) 8 ((x : Int) * 256) (y : Int) (by omega) (by omega) (by omega) (by omega) (by omega) (by omega)]
  omega
theorem drewN_more {w wr : World} {n : Nat} (h : Hid (∃ n, wr = w.drewN n)) : Hid (∃ m, wr.drewN n = w.drewN m) := by
  obtain ⟨m, rfl⟩ := h
  exact ⟨m + n, by rw [World.drewN_drewN]⟩

set_option maxRecDepth 20000 in
set_option maxHeartbeats 800000 in
theorem model_0_rest (b off cap : Nat) (l : Svc.Bytes) (hl : 0 < l.length) (hl2 : l.length % 2 = 0) (hx : l.length ≤ 1000000) (w : World) (hc : BCells w (some ⟨b, off, none⟩) l) :
    Calls Ybaf.prog 6 #[.int .u16 0, .slice (some ⟨b, off, none⟩) l.length cap] w fun e w' => e = .returned (.bool (Svc.asc (-1) l)) ∧ ∃ n, w' = w.drewN n := by
  have h1 : ((l.length : Int) == 0) = false := beq_eq_false_iff_ne.2 (by omega)
  have h2 : ((l.length : Int) % 2 == 1) = false := beq_eq_false_iff_ne.2 (by omega)
  have HL := hide hl2
  clear hl2
  go_enter Ybaf.func6, Ybaf.ntmps6
  go_wp2
  go_loopw [6, 7] (fun p i wr => ∃ j : Nat, 2 * j ≤ l.length ∧ p = .int .i64 (Svc.prevAt l j) ∧ i = .int .i64 (2 * (j : Int)) ∧ Hid (Svc.asc (-1) l = Svc.asc (Svc.prevAt l j) (l.drop (2 * j))) ∧ Hid (∃ n, wr = w.drewN n)) (fun _ i _ => l.length - (intOf i).toNat)
  case atStart => exact ⟨0, by omega, rfl, rfl, hide rfl, hide ⟨0, rfl⟩⟩
  case round =>
    obtain ⟨j, hj, rfl, rfl, HA, HW⟩ := hrel
    by_cases hlt : 2 * j < l.length
    · have hj2 : 2 * j + 2 ≤ l.length := by have := unhide HL; omega
      have hcA : wr.cell? ⟨b, off + 2 * j, none⟩ = some (.int .u8 ((l.getD (2 * j) 0).toNat : Int)) := by
        obtain ⟨n, rfl⟩ := unhide HW
        exact (hc.at (i := 2 * j) (by omega)).2
      have hcB : wr.cell? ⟨b, off + (2 * j + 1), none⟩ = some (.int .u8 ((l.getD (2 * j + 1) 0).toNat : Int)) := by
        obtain ⟨n, rfl⟩ := unhide HW
        exact (hc.at (i := 2 * j + 1) (by omega)).2
      obtain ⟨x, HX⟩ : ∃ x : Nat, Hid ((l.getD (2 * j) 0).toNat = x) := ⟨_, hide rfl⟩
      obtain ⟨y, HY⟩ : ∃ y : Nat, Hid ((l.getD (2 * j + 1) 0).toNat = y) := ⟨_, hide rfl⟩
      have hxb : x ≤ 255 := by rw [← unhide HX]; have := (l.getD (2 * j) 0).toNat_lt; omega
      have hyb : y ≤ 255 := by rw [← unhide HY]; have := (l.getD (2 * j + 1) 0).toNat_lt; omega
      rw [unhide HX] at hcA
      rw [unhide HY] at hcB
      have hji : 2 * (j : Int) + 1 < (l.length : Int) := by omega
      have hji2 : 2 * (j : Int) < (l.length : Int) := by omega
      have hwr : IntKind.i64.wrap (2 * (j : Int) + 1) = 2 * (j : Int) + 1 := IntWalk.i64_in _ (by omega)
      have hpb := Svc.prevAt_bd l j
      have hkx : bits .or .i64 ((x : Int) * 256) (y : Int) = Svc.kAt l j := by
        rw [join_bytes x y hxb hyb]
        unfold Svc.kAt
        rw [unhide HX, unhide HY]
      have hkb := Svc.kAt_bd l j
      by_cases hk0 : Svc.kAt l j = 0
      · have hk0b : (Svc.kAt l j == 0) = true := by rw [hk0]; rfl
        have HN := hide (asc_no (unhide HA) hj2 (.inl hk0))
        clear hk0
        go_wp2
        go_quiet (fail)
        go_wp2
        go_ret
        exact ⟨by rw [unhide HN]; rfl, unhide (drewN_more HW)⟩
      · have hk0b : (Svc.kAt l j == 0) = false := beq_eq_false_iff_ne.2 hk0
        by_cases hle : Svc.kAt l j ≤ Svc.prevAt l j
        · have HN := hide (asc_no (unhide HA) hj2 (.inr hle))
          clear hk0
          go_wp2
          go_quiet (fail)
          go_wp2
          go_ret
          exact ⟨by rw [unhide HN]; rfl, unhide (drewN_more HW)⟩
        · have HYs := hide (asc_yes (unhide HA) hj2 hk0 (by omega))
          clear hk0
          go_wp2
          go_quiet (fail)
          go_wp2
          go_roundw
          case rel => exact ⟨j + 1, by omega, rfl, by go_num, HYs, drewN_more HW⟩
          case measure => simp [intOf]; omega
    · have HT : Hid (Svc.asc (-1) l = true) := by rw [unhide HA]; exact hide (Svc.asc_end (by omega) _)
      have hji : ¬ 2 * (j : Int) + 1 < (l.length : Int) := by omega
      go_wp2
      go_ret
      exact ⟨by rw [unhide HT]; rfl, unhide HW⟩

/-- The model function, of whatever key and value of at most a million bytes. -/
theorem model_any (key : Int) (hk0 : 0 ≤ key) (hk1 : key ≤ 65535) (ad : Option Addr) (n cap : Nat) (l : Svc.Bytes) (hn : l.length = n) (hx : n ≤ 1000000) (w : World) (hc : BCells w ad l) :
    Calls Ybaf.prog 6 #[.int .u16 key, .slice ad n cap] w fun e w' => e = .returned (.bool (Svc.okVal key l)) ∧ Below w.heap.size w w' := by
  subst hn
  have up : ∀ {k : Int} {b : Bool}, Svc.okVal k l = b → Calls Ybaf.prog 6 #[.int .u16 k, .slice ad l.length cap] w (fun e w' => e = .returned (.bool b) ∧ w' = w) → Calls Ybaf.prog 6 #[.int .u16 k, .slice ad l.length cap] w fun e w' => e = .returned (.bool (Svc.okVal k l)) ∧ Below w.heap.size w w' := by
    intro k b h c
    refine c.mono ?_
    rintro e w' ⟨he, rfl⟩
    exact ⟨by rw [h]; exact he, Below.refl _ _⟩
  by_cases k0 : key = 0
  · subst k0
    by_cases hbad : l.length = 0 ∨ l.length % 2 ≠ 0
    · refine up ?_ (model_0_len ad l.length cap hbad hx w)
      rw [Svc.okVal0]
      unfold Svc.mandOk
      rcases hbad with h | h
      · simp [h]
      · simp [h]
    · obtain ⟨b, off, rfl, _, _⟩ := hc 0 (by omega)
      refine (model_0_rest b off cap l (by omega) (by omega) hx w hc).mono ?_
      have e : Svc.okVal 0 l = Svc.asc (-1) l := by
        rw [Svc.okVal0]
        unfold Svc.mandOk
        rw [decide_eq_true (show l.length ≠ 0 by omega), decide_eq_true (show l.length % 2 = 0 by omega)]
        simp
      rw [e]
      rintro e' w' ⟨he, m, rfl⟩
      exact ⟨he, below_drewN (Below.refl _ _) _⟩
  by_cases k1 : key = 1
  · subst k1
    by_cases hbad : l.length = 0
    · have h0 : l = [] := List.length_eq_zero_iff.1 hbad
      subst h0
      exact up rfl (model_1_empty ad cap w)
    · obtain ⟨b, off, rfl, _, _⟩ := hc 0 (by omega)
      refine up ?_ (model_1_rest b off cap l (by omega) hx w hc)
      rw [Svc.okVal1]
      unfold Svc.alpnOk
      rw [decide_eq_true hbad]
      simp
  have hlen := Svc.okVal_len k0 k1 l
  by_cases k2 : key = 2
  · subst k2
    exact up (by rw [hlen]; rfl) (model_2 ad l.length cap w)
  by_cases k8 : key = 8
  · subst k8
    exact up (by rw [hlen]; rfl) (model_8 ad l.length cap w)
  by_cases k3 : key = 3
  · subst k3
    exact up (by rw [hlen]; rfl) (model_3 ad l.length cap w)
  by_cases k4 : key = 4
  · subst k4
    exact up (by rw [hlen]; rfl) (model_4 ad l.length cap hx w)
  by_cases k6 : key = 6
  · subst k6
    exact up (by rw [hlen]; rfl) (model_6 ad l.length cap hx w)
  by_cases k9 : key = 65535
  · subst k9
    exact up (by rw [hlen]; rfl) (model_65535 ad l.length cap w)
  · refine up (by rw [hlen]; simp [Svc.lenOk, k2, k8, k3, k4, k6, k9]) (model_other key ad l.length cap w ?_ ?_ ?_ ?_ ?_ ?_ ?_ ?_)
    all_goals exact beq_eq_false_iff_ne.2 ‹_›
end Go.Proofs.YbulkctnaFmt
