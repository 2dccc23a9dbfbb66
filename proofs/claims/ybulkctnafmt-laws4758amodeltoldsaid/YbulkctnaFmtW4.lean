/-
  checkSvcValue at 'alpn'.
-/
import Derived.Test.YbulkctnaFmtW3
namespace Go.Proofs.YbulkctnaFmt
open Go.RowKit Go.Extern.Stop Go.Stop Go.Extern
set_option linter.unusedVariables false

theorem f_alpn (w : World) : (FmtDoors.printed ⟨#[97, 108, 112, 110, 45, 105, 100, 32, 97, 116, 32, 111, 99, 116, 101, 116, 32, 37, 100, 32, 105, 115, 32, 101, 109, 112, 116, 121, 32, 111, 114, 32, 99, 117, 116, 32, 115, 104, 111, 114, 116]⟩ 1).run Ybaf.prog w = .ok [(0, 100, false)] w := by kernel_rfl

set_option maxHeartbeats 400000 in
theorem check_1_empty (ad : Option Addr) (cap : Nat) (w : World) :
    Calls Ybaf.prog 5 #[.int .u16 1, .slice ad 0 cap] w fun e w' => Errs e ∧ Below w.heap.size w w' := by
  go_enter Ybaf.func5, Ybaf.ntmps5
  go_wp2_with fail
  refine (errorf_plain _ (by decide +kernel) _).mono ?_
  rintro e w1 ⟨⟨p, rfl⟩, hb⟩
  go_wp2
  go_ret
  exact ⟨⟨p, rfl⟩, hb⟩

theorem ids_no {l : Svc.Bytes} {i : Nat} (hA : Svc.ids l = Svc.ids (l.drop i)) (hi : i < l.length) (h : (l.getD i 0).toNat = 0 ∨ l.length < i + 1 + (l.getD i 0).toNat) : Svc.ids l = false := by
  rw [hA, Svc.ids_step hi]
  rcases h with h | h
  · rw [decide_eq_false (show ¬ ((l.getD i 0).toNat ≠ 0) by omega)]; simp
  · have : ¬ ((l.getD i 0).toNat ≤ l.length - i - 1) := by omega
    rw [decide_eq_false this]; simp
theorem ids_yes {l : Svc.Bytes} {i : Nat} (hA : Svc.ids l = Svc.ids (l.drop i)) (hi : i < l.length) (h0 : (l.getD i 0).toNat ≠ 0) (h1 : i + 1 + (l.getD i 0).toNat ≤ l.length) : Svc.ids l = Svc.ids (l.drop (i + (1 + (l.getD i 0).toNat))) := by
  rw [hA, Svc.ids_step hi]
  have : (l.getD i 0).toNat ≤ l.length - i - 1 := by omega
  rw [decide_eq_true h0, decide_eq_true this]; simp
theorem ids_done {l : Svc.Bytes} {i : Nat} (hA : Svc.ids l = Svc.ids (l.drop i)) (hi : l.length ≤ i) : Svc.ids l = true := by
  rw [hA, List.drop_of_length_le hi]; rfl

set_option maxRecDepth 20000 in
set_option maxHeartbeats 800000 in
theorem check_1_rest (F : Interp) (b off cap : Nat) (l : Svc.Bytes) (hl : 0 < l.length) (hx : l.length ≤ 1000000) (w : World) (hE : Env F w) (hc : BCells w (some ⟨b, off, none⟩) l) :
    Calls Ybaf.prog 5 #[.int .u16 1, .slice (some ⟨b, off, none⟩) l.length cap] w fun e w' => ((Svc.ids l = true ∧ e = .returned .nilIface) ∨ (Svc.ids l = false ∧ Errs e)) ∧ Below w.heap.size w w' := by
  have h1 : ((l.length : Int) == 0) = false := beq_eq_false_iff_ne.2 (by omega)
  have HE := hide hE
  clear hE
  go_enter Ybaf.func5, Ybaf.ntmps5
  go_wp2
  go_loop [7] (fun t => ∃ i : Nat, i ≤ l.length ∧ t = .int .i64 (i : Int) ∧ Hid (Svc.ids l = Svc.ids (l.drop i))) (fun t => l.length - (intOf t).toNat)
  case atStart => exact ⟨0, by omega, rfl, hide rfl⟩
  case round =>
    obtain ⟨i, hi, rfl, HA⟩ := hrel
    by_cases hlt : i < l.length
    · have hcl := (hc.at hlt).2
      obtain ⟨a, HAA⟩ : ∃ a : Nat, Hid ((l.getD i 0).toNat = a) := ⟨_, hide rfl⟩
      have hab : a ≤ 255 := by rw [← unhide HAA]; have := (l.getD i 0).toNat_lt; omega
      rw [unhide HAA] at hcl
      by_cases h0 : a = 0
      · have h0b : ((a : Int) == 0) = true := by rw [h0]; rfl
        have HN := hide (ids_no (unhide HA) hlt (.inl (by rw [unhide HAA]; exact h0)))
        clear h0
        go_wp2_with fail
        refine (errorf_int F _ f_alpn w.heap.size i _ (by exact (unhide HE).ans) (by simp)).mono ?_
        rintro e w1 ⟨⟨p, rfl⟩, hb⟩
        go_wp2
        go_ret
        exact ⟨.inr ⟨unhide HN, p, rfl⟩, ((Below.refl _ _).alloc (Nat.le_refl _) _).trans (hb.mono (by simp))⟩
      · have h0b : ((a : Int) == 0) = false := beq_eq_false_iff_ne.2 (by omega)
        by_cases hcut : l.length < i + 1 + a
        · have HN := hide (ids_no (unhide HA) hlt (.inr (by rw [unhide HAA]; exact hcut)))
          have hcZ : (l.length : Int) < (i : Int) + 1 + (a : Int) := by omega
          clear h0
          go_wp2_with fail
          refine (errorf_int F _ f_alpn w.heap.size i _ (by exact (unhide HE).ans) (by simp)).mono ?_
          rintro e w1 ⟨⟨p, rfl⟩, hb⟩
          go_wp2
          go_ret
          exact ⟨.inr ⟨unhide HN, p, rfl⟩, ((Below.refl _ _).alloc (Nat.le_refl _) _).trans (hb.mono (by simp))⟩
        · have HY := ids_yes (unhide HA) hlt (by rw [unhide HAA]; exact h0) (by rw [unhide HAA]; omega)
          rw [unhide HAA] at HY
          have HY2 := hide HY
          clear h0 HY
          go_wp2
          go_round
          case rel => exact ⟨i + (1 + a), by omega, by go_num, HY2⟩
          case measure => simp [intOf]; omega
    · have HT := hide (ids_done (unhide HA) (by omega))
      go_wp2
      go_ret
      exact ⟨.inl ⟨unhide HT, rfl⟩, Below.refl _ _⟩

/-- checkSvcValue, of whatever key and value of at most a million bytes: nil just where the value is well-formed. -/
theorem check_any (F : Interp) (key : Int) (hk0 : 0 ≤ key) (hk1 : key ≤ 65535) (ad : Option Addr) (n cap : Nat) (l : Svc.Bytes) (hn : l.length = n) (hx : n ≤ 1000000) (hcap : n ≤ cap) (w : World) (hE : Env F w) (hc : BCells w ad l) :
    Calls Ybaf.prog 5 #[.int .u16 key, .slice ad n cap] w fun e w' => ((Svc.okVal key l = true ∧ e = .returned .nilIface) ∨ (Svc.okVal key l = false ∧ Errs e)) ∧ Below w.heap.size w w' := by
  subst hn
  have ok : ∀ {k : Int}, Svc.okVal k l = true → Calls Ybaf.prog 5 #[.int .u16 k, .slice ad l.length cap] w (fun e w' => e = .returned .nilIface ∧ w' = w) → Calls Ybaf.prog 5 #[.int .u16 k, .slice ad l.length cap] w fun e w' => ((Svc.okVal k l = true ∧ e = .returned .nilIface) ∨ (Svc.okVal k l = false ∧ Errs e)) ∧ Below w.heap.size w w' := by
    intro k h c
    refine c.mono ?_
    rintro e w' ⟨he, rfl⟩
    exact ⟨.inl ⟨h, he⟩, Below.refl _ _⟩
  have no : ∀ {k : Int}, Svc.okVal k l = false → Calls Ybaf.prog 5 #[.int .u16 k, .slice ad l.length cap] w (fun e w' => Errs e ∧ Below w.heap.size w w') → Calls Ybaf.prog 5 #[.int .u16 k, .slice ad l.length cap] w fun e w' => ((Svc.okVal k l = true ∧ e = .returned .nilIface) ∨ (Svc.okVal k l = false ∧ Errs e)) ∧ Below w.heap.size w w' := by
    intro k h c
    refine c.mono ?_
    rintro e w' ⟨he, hb⟩
    exact ⟨.inr ⟨h, he⟩, hb⟩
  by_cases k0 : key = 0
  · subst k0
    by_cases hbad : l.length = 0 ∨ l.length % 2 ≠ 0
    · refine no ?_ (check_0_len F ad l.length cap hbad hx w hE.ans)
      rw [Svc.okVal0]
      unfold Svc.mandOk
      rcases hbad with h | h
      · simp [h]
      · simp [h]
    · obtain ⟨b, off, rfl, _, _⟩ := hc 0 (by omega)
      refine (check_0_rest F b off cap l (by omega) (by omega) hx hcap w hE hc).mono ?_
      have e : Svc.okVal 0 l = Svc.asc (-1) l := by
        rw [Svc.okVal0]
        unfold Svc.mandOk
        rw [decide_eq_true (show l.length ≠ 0 by omega), decide_eq_true (show l.length % 2 = 0 by omega)]
        simp
      rw [e]
      exact fun _ _ h => h
  by_cases k1 : key = 1
  · subst k1
    by_cases hbad : l.length = 0
    · have h0 : l = [] := List.length_eq_zero_iff.1 hbad
      subst h0
      exact no rfl (check_1_empty ad cap w)
    · obtain ⟨b, off, rfl, _, _⟩ := hc 0 (by omega)
      refine (check_1_rest F b off cap l (by omega) hx w hE hc).mono ?_
      have e : Svc.okVal 1 l = Svc.ids l := by
        rw [Svc.okVal1]
        unfold Svc.alpnOk
        rw [decide_eq_true hbad]
        simp
      rw [e]
      exact fun _ _ h => h
  have hlen := Svc.okVal_len k0 k1 l
  by_cases k2 : key = 2
  · subst k2
    by_cases h : l.length = 0
    · refine ok (by rw [hlen, h]; rfl) ?_
      rw [h]; exact check_2_ok ad cap w
    · exact no (by rw [hlen]; simp [Svc.lenOk, h]) (check_2_no ad l.length cap (by omega) w)
  by_cases k8 : key = 8
  · subst k8
    by_cases h : l.length = 0
    · refine ok (by rw [hlen, h]; rfl) ?_
      rw [h]; exact check_8_ok ad cap w
    · exact no (by rw [hlen]; simp [Svc.lenOk, h]) (check_8_no ad l.length cap (by omega) w)
  by_cases k3 : key = 3
  · subst k3
    by_cases h : l.length = 2
    · refine ok (by rw [hlen, h]; rfl) ?_
      rw [h]; exact check_3_ok ad cap w
    · exact no (by rw [hlen]; simp [Svc.lenOk, h]) (check_3_no F ad l.length cap h w hE.ans)
  by_cases k4 : key = 4
  · subst k4
    by_cases h : l.length = 0 ∨ l.length % 4 ≠ 0
    · refine no ?_ (check_4_no F ad l.length cap h hx w hE.ans)
      rw [hlen]
      rcases h with h | h
      · simp [Svc.lenOk, h]
      · simp [Svc.lenOk, h]
    · refine ok ?_ (check_4_ok ad l.length cap (by omega) (by omega) hx w)
      rw [hlen]
      simp [Svc.lenOk]; omega
  by_cases k6 : key = 6
  · subst k6
    by_cases h : l.length = 0 ∨ l.length % 16 ≠ 0
    · refine no ?_ (check_6_no F ad l.length cap h hx w hE.ans)
      rw [hlen]
      rcases h with h | h
      · simp [Svc.lenOk, h]
      · simp [Svc.lenOk, h]
    · refine ok ?_ (check_6_ok ad l.length cap (by omega) (by omega) hx w)
      rw [hlen]
      simp [Svc.lenOk]; omega
  by_cases k9 : key = 65535
  · subst k9
    exact no (by rw [hlen]; rfl) (check_65535 ad l.length cap w)
  · refine ok (by rw [hlen]; simp [Svc.lenOk, k2, k8, k3, k4, k6, k9]) (check_other key ad l.length cap w ?_ ?_ ?_ ?_ ?_ ?_ ?_ ?_)
    all_goals exact beq_eq_false_iff_ne.2 ‹_›
end Go.Proofs.YbulkctnaFmt
