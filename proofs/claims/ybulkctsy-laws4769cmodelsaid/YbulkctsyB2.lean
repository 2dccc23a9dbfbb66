/-
  addVW: its walk, z and x the same row, and apart.
-/
import Derived.Test.YbulkctsyB1
import Derived.LaidEqlPtr
import Derived.Lib.Builder
namespace Go.Proofs.Ybulkctsy
open Go.RowKit
set_option linter.unusedVariables false

/-- The carry ahead of word i + 1. -/
def cs (u : Nat → Nat) (c : Nat) : Nat → Nat
  | 0 => c
  | i + 1 => (u (i + 1) + cs u c i) / 18446744073709551616
/-- What addVW leaves in the row. -/
def addF (u uz : Nat → Nat) (c L : Nat) : Nat → Nat := fun j => if 1 ≤ j ∧ j < 1 + L then (u j + cs u c (j - 1)) % 18446744073709551616 else uz j

theorem cs_le {u : Nat → Nat} (hu : ∀ i, u i < 18446744073709551616) {c : Nat} (hc : c ≤ 1) : ∀ i, cs u c i ≤ 1
  | 0 => hc
  | i + 1 => by
    have := cs_le hu hc i
    have := hu (i + 1)
    rw [cs]; omega
theorem cs_zero {u : Nat → Nat} (hu : ∀ i, u i < 18446744073709551616) {c i : Nat} (h : cs u c i = 0) : ∀ k, cs u c (i + k) = 0
  | 0 => h
  | k + 1 => by
    have := cs_zero hu h k
    have := hu (i + k + 1)
    rw [← Nat.add_assoc, cs]; omega
theorem addF_step {u uz : Nat → Nat} {c L j : Nat} {x : Nat} (hx : x = (u (1 + L) + cs u c L) % 18446744073709551616) : (if j = 1 + L then x else addF u uz c L j) = addF u uz c (L + 1) j := by
  unfold addF
  by_cases e : j = 1 + L
  · subst e; rw [if_pos rfl, if_pos ⟨by omega, by omega⟩, hx, show 1 + L - 1 = L by omega]
  · rw [if_neg e]
    by_cases h : 1 ≤ j ∧ j < 1 + L
    · rw [if_pos h, if_pos ⟨h.1, by omega⟩]
    · rw [if_neg h, if_neg (by omega)]
theorem addF_lt {u uz : Nat → Nat} (hz : ∀ i, uz i < 18446744073709551616) (c L j : Nat) : addF u uz c L j < 18446744073709551616 := by
  unfold addF
  split
  · omega
  · exact hz j
/-- Behind a carry of 0 the words are as they were. -/
theorem addF_rest {u : Nat → Nat} (hu : ∀ i, u i < 18446744073709551616) {c M L : Nat} (h : cs u c M = 0) (hM : M ≤ L) (j : Nat) : addF u u c M j = addF u u c L j := by
  unfold addF
  by_cases h1 : 1 ≤ j ∧ j < 1 + M
  · rw [if_pos h1, if_pos ⟨h1.1, by omega⟩]
  · rw [if_neg h1]
    by_cases h2 : 1 ≤ j ∧ j < 1 + L
    · rw [if_pos h2]
      have := cs_zero hu h (j - 1 - M)
      rw [show M + (j - 1 - M) = j - 1 by omega] at this
      have := hu j
      omega
    · rw [if_neg h2]

theorem neq_same (a : Addr) (w : World) : (binOp .neq 64 (.pointer (some a)) (.pointer (some a))).run Yba.prog w = .ok (.bool false) w := by
  obtain ⟨j, hj, _⟩ := Option.map_eq_some_iff.1 info54
  exact Lib.run_neq_ptr_same w a Yba.underlying64 hj
theorem neq_other {a b : Addr} (hne : a ≠ b) (w : World) {ca cb : Array Value} {ta tb : TypeId} (ha : w.heap[a.block]? = some (.cells ca ta (0, 0))) (hb : w.heap[b.block]? = some (.cells cb tb (0, 0))) :
    (binOp .neq 64 (.pointer (some a)) (.pointer (some b))).run Yba.prog w = .ok (.bool true) w := by
  obtain ⟨j, hj, hz⟩ := Option.map_eq_some_iff.1 info54
  simp only [Prod.mk.injEq] at hz
  have hsz : j.size ≠ 0 := by rw [hz.2.1]; decide
  have h : ∀ d : Nat, (Op.equalIn (d + 1) 64 (.pointer (some a)) (.pointer (some b))).run Yba.prog w = .ok false w := fun d => by
    simp [Op.equalIn, run_underlying Yba.underlying64, sizeOf, typeInfo, hj, hsz, run_sameAddr_other w hne ha hb]
  simp only [binOp]
  simp [Op.equal, Op.maxDepth, h 9999]

set_option maxRecDepth 20000 in
set_option maxHeartbeats 400000 in
/-- addVW in place. -/
theorem addVW_same (g L cz cx cap : Nat) (u : Nat → Nat) (c : Nat) (hc : c ≤ 1) (hL : 1 ≤ L) (hcap : 1 + L ≤ cap) (hmax : cap ≤ 100000) (w : World) (hr : WRow w g cap u) :
    Calls Yba.prog 30 #[.slice (some ⟨g, 1, none⟩) L cz, .slice (some ⟨g, 1, none⟩) L cx, .int .u64 (c : Int)] w fun e w' =>
      e = .returned (.int .u64 (cs u c L : Int)) ∧ WRow w' g cap (addF u u c L) ∧ KB (fun x => x = g) w w' := by
  obtain ⟨s, hs⟩ : ∃ s, (u 1 + c + 0) % 18446744073709551616 = s := ⟨_, rfl⟩
  obtain ⟨k, hk⟩ : ∃ k, (u 1 + c + 0) / 18446744073709551616 = k := ⟨_, rfl⟩
  have HA := hide (fun w => bits_add (u 1) c 0 s k (by omega) hs hk w)
  have hx1 := hr.cell (i := 1) (by omega)
  have hf1 := hr.frozen 1
  have HR := hide hr
  have HU := hide hr.2
  have hR1 : Hid (WRow (w.setCell ⟨g, 1, none⟩ (.int .u64 (s : Int))) g cap (addF u u c 1)) :=
    hide ((hr.set 1 s (by omega)).congr (fun j _ => by
      have := addF_step (u := u) (uz := u) (c := c) (L := 0) (j := j) (x := s) (by rw [← hs, Nat.add_zero]; rfl)
      rw [Nat.add_zero, show addF u u c 0 j = u j from if_neg (by omega)] at this
      exact this) (addF_lt hr.2 _ _))
  have HC1 : Hid (cs u c 1 = k) := hide (by rw [cs, cs, ← hk]; rfl)
  have hK1 : Hid (KB (fun x => x = g) w (w.setCell ⟨g, 1, none⟩ (.int .u64 (s : Int)))) := hide ((KB.refl _ _).setCell _ _ (fun _ => rfl))
  have hk1 : k ≤ 1 := by rw [← unhide HC1]; exact cs_le hr.2 hc 1
  have hLZ : (1 : Int) ≤ (L : Int) := by omega
  have hLY : (0 : Int) < (L : Int) := by omega
  have hLX : 0 < L := by omega
  have hpe := fun w => neq_same ⟨g, 1, none⟩ w
  clear hs hk hr
  by_cases h0 : k = 0
  · subst h0
    go_enter Yba.func30, Yba.ntmps30
    go_wp2_with (go_at_call 32; refine ((unhide HA) _).mono ?_; rintro e w1 ⟨rfl, rfl⟩)
    generalize w1.setCell ⟨g, 1, none⟩ (.int .u64 (s : Int)) = w2 at hR1 hK1 ⊢
    go_quiet (fail)
    go_wp2
    go_ret
    refine ⟨?_, ?_, (unhide hK1).drewN _⟩
    · have := cs_zero (unhide HU) (unhide HC1) (L - 1)
      rw [show 1 + (L - 1) = L by omega] at this
      rw [this]; rfl
    · exact ((unhide hR1).drewN _).congr (fun j _ => addF_rest (unhide HU) (unhide HC1) hL j) (addF_lt (unhide HU) _ _)
  · obtain rfl : k = 1 := by omega
    clear h0 hk1
    go_enter Yba.func30, Yba.ntmps30
    go_wp2_with (go_at_call 32; refine ((unhide HA) _).mono ?_; rintro e w1 ⟨rfl, rfl⟩)
    generalize w1.setCell ⟨g, 1, none⟩ (.int .u64 (s : Int)) = w2 at hR1 hK1 ⊢
    clear HR HA
    go_loopw [9] (fun t wr => ∃ i : Nat, 1 ≤ i ∧ i ≤ L ∧ t = .int .i64 (i : Int) ∧ Hid (cs u c i = 1 ∧ WRow wr g cap (addF u u c i) ∧ KB (fun x => x = g) w1 wr)) (fun t _ => L - (intOf t).toNat)
    case atStart => exact ⟨1, by omega, hL, rfl, hide ⟨unhide HC1, unhide hR1, unhide hK1⟩⟩
    case round =>
      obtain ⟨i, hi1, hi, rfl, HI⟩ := hrel
      by_cases hlt : i < L
      · obtain ⟨x, HX⟩ : ∃ x : Nat, Hid (u (1 + i) = x) := ⟨_, hide rfl⟩
        have hcx := (unhide HI).2.1.cell (i := 1 + i) (by omega)
        have hfx := (unhide HI).2.1.frozen (1 + i)
        rw [show addF u u c i (1 + i) = x from (if_neg (by omega)).trans (unhide HX)] at hcx
        have hiZ : (i : Int) < (L : Int) := by omega
        have hiY : (1 : Int) ≤ (i : Int) := by omega
        have HIX : Hid (x < 18446744073709551616) := hide (by rw [← unhide HX]; exact (unhide HU) _)
        by_cases hx : x = 18446744073709551615
        · have hb : ((x : Int) != 18446744073709551615) = false := by subst hx; rfl
          have HX2 := hide hx
          clear hx
          go_wp2
          go_roundw
          case rel =>
            obtain ⟨h1, h2, h3⟩ := unhide HI
            have e := unhide HX; have e2 := unhide HX2
            refine ⟨i + 1, by omega, by omega, by go_num, hide ⟨?_, ?_, h3.setCell _ _ (fun _ => rfl)⟩⟩
            · rw [cs, h1, Nat.add_comm i 1, e, e2]
            · exact (h2.set (1 + i) 0 (by omega)).congr (fun j _ => addF_step (by rw [h1, e, e2])) (addF_lt (unhide HU) _ _)
          case measure => simp [intOf]; omega
        · have hb : ((x : Int) != 18446744073709551615) = true := by simp; omega
          have HX2 := hide hx
          clear hx
          go_wp2_with fail
          have hwx : IntKind.u64.wrap ((x : Int) + 1) = ((x + 1 : Nat) : Int) := by
            have := unhide HIX; have := unhide HX2
            simp [IntKind.wrap, IntKind.bits, IntKind.signed]; omega
          rw [hwx]
          clear hwx
          obtain ⟨h1, h2, h3⟩ := unhide HI
          have hR2 := hide (h2.set (1 + i) (x + 1) (by have := unhide HIX; have := unhide HX2; omega))
          have hK2 := hide (h3.setCell ⟨g, 1 + i, none⟩ (.int .u64 ((x + 1 : Nat) : Int)) (fun _ => rfl))
          have H1 := hide h1
          clear h1 h2 h3 HI hcx hfx
          generalize wr.setCell ⟨g, 1 + i, none⟩ (.int .u64 ((x + 1 : Nat) : Int)) = w3 at hR2 hK2 ⊢
          go_quiet (fail)
          go_wp2
          go_ret
          have e := unhide HX
          have hz : cs u c (i + 1) = 0 := by
            rw [cs, unhide H1, Nat.add_comm i 1, e]
            have := unhide HIX; have := unhide HX2
            omega
          refine ⟨?_, ?_, (unhide hK2).drewN _⟩
          · have := cs_zero (unhide HU) hz (L - (i + 1))
            rw [show i + 1 + (L - (i + 1)) = L by omega] at this
            rw [this]; rfl
          · refine (((unhide hR2).congr (fun j _ => addF_step (x := x + 1) ?_) (addF_lt (unhide HU) _ _)).drewN _).congr (fun j _ => addF_rest (unhide HU) hz hlt j) (addF_lt (unhide HU) _ _)
            rw [unhide H1, e]
            have := unhide HIX; have := unhide HX2
            omega
      · obtain rfl : i = L := by omega
        have hiZ : ¬ (i : Int) < (i : Int) := by omega
        go_wp2
        go_ret
        obtain ⟨h1, h2, h3⟩ := unhide HI
        exact ⟨by rw [h1]; rfl, h2, h3⟩
end Go.Proofs.Ybulkctsy
