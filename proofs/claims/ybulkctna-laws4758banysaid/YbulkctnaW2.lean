/-
  THE WALKS, 2: EqualFold, zzs4758beqfold.
-/
import Derived.Test.YbulkctnaW1
namespace Go.Proofs.Ybulkctna
open Go.RowKit
set_option linter.unusedVariables false

theorem take_snoc (s : ByteArray) (k : Nat) (h : k < s.size) : s.data.toList.take (k + 1) = s.data.toList.take k ++ [s[k]] := by
  rw [List.take_succ_eq_append_getElem (by simpa using h)]; rfl

/-- The first k bytes are equal but for letter case. -/
def EqTo (a b : ByteArray) (k : Nat) : Prop := (a.data.toList.take k).map Dns.low = (b.data.toList.take k).map Dns.low
theorem eqTo_zero (a b : ByteArray) : EqTo a b 0 := by simp [EqTo]
theorem eqTo_step {a b : ByteArray} {k : Nat} (h : EqTo a b k) (ha : k < a.size) (hb : k < b.size) (e : lowZ (a[k].toNat : Int) = lowZ (b[k].toNat : Int)) : EqTo a b (k + 1) := by
  unfold EqTo at h ⊢
  rw [take_snoc a k ha, take_snoc b k hb, List.map_append, List.map_append, h]
  rw [lowZ_low, lowZ_low] at e
  have : Dns.low a[k] = Dns.low b[k] := UInt8.toNat_inj.1 (by omega)
  simp [this]
theorem eqf_of_all {a b : ByteArray} (hs : a.size = b.size) (h : EqTo a b a.size) : Dns.eqf a.data.toList b.data.toList = true := by
  unfold EqTo at h
  rw [List.take_of_length_le (by simp), List.take_of_length_le (by simp [hs])] at h
  simp [Dns.eqf, h]
theorem eqf_ne_size {a b : ByteArray} (hs : a.size ≠ b.size) : Dns.eqf a.data.toList b.data.toList = false := by
  cases h : Dns.eqf a.data.toList b.data.toList with
  | false => rfl
  | true => exact absurd (by simpa using Dns.eqf_length h) hs
theorem eqf_ne_at {a b : ByteArray} {k : Nat} (ha : k < a.size) (hb : k < b.size) (e : lowZ (a[k].toNat : Int) ≠ lowZ (b[k].toNat : Int)) : Dns.eqf a.data.toList b.data.toList = false := by
  cases h : Dns.eqf a.data.toList b.data.toList with
  | false => rfl
  | true =>
    refine absurd ?_ e
    rw [lowZ_low, lowZ_low]
    have := eq_of_beq h
    have := congrArg (fun l => l[k]?) this
    simp only [List.getElem?_map] at this
    rw [List.getElem?_eq_getElem (by simpa using ha), List.getElem?_eq_getElem (by simpa using hb)] at this
    simp only [Option.map_some, Option.some.injEq] at this
    have e2 : Dns.low a[k] = Dns.low b[k] := this
    rw [e2]

theorem drewN_more {w wr : World} {n : Nat} (h : Hid (∃ n, wr = w.drewN n)) : Hid (∃ m, wr.drewN n = w.drewN m) := by
  obtain ⟨m, rfl⟩ := h
  exact ⟨m + n, by rw [World.drewN_drewN]⟩

set_option maxHeartbeats 400000 in
theorem beqfold_any (a b : ByteArray) (ha : a.size ≤ maxLen) (hb : b.size ≤ maxLen) (w : World) :
    Calls Yba.prog 9 #[.string a, .string b] w fun e w' => e = .returned (.bool (Dns.eqf a.data.toList b.data.toList)) ∧ ∃ n, w' = w.drewN n := by
  unfold maxLen at ha hb
  by_cases hs : a.size = b.size
  · have hne : ((a.size : Int) != (b.size : Int)) = false := by simp [hs]
    have HS := hide hs
    clear hs
    go_enter Yba.func9, Yba.ntmps9
    go_wp2
    go_loopw [5] (fun i wr => ∃ k : Nat, k ≤ a.size ∧ i = .int .i64 k ∧ EqTo a b k ∧ Hid (∃ n, wr = w.drewN n)) (fun i _ => a.size - (intOf i).toNat)
    case atStart => exact ⟨0, Nat.zero_le _, rfl, eqTo_zero a b, hide ⟨0, rfl⟩⟩
    case round =>
      obtain ⟨k, hk, rfl, heq, HW⟩ := hrel
      by_cases hlt : k < a.size
      · have hlb : k < b.size := by rw [← unhide HS]; exact hlt
        have hli : (k : Int) < (a.size : Int) := by omega
        have hli2 : (k : Int) < (b.size : Int) := by omega
        by_cases hq : lowZ (a[k].toNat : Int) = lowZ (b[k].toNat : Int)
        · have hqb : (lowZ (a[k].toNat : Int) != lowZ (b[k].toNat : Int)) = false := by simp [hq]
          have HQ := hide (eqTo_step heq hlt hlb hq)
          clear hq heq
          go_wp2
          go_quiet ((go_at_call 11; exact Calls.quiet_of_same (blow_byte _ _)))
          go_wp2
          go_roundw
          case rel => exact ⟨k + 1, by omega, by go_num, unhide HQ, drewN_more HW⟩
          case measure => simp [intOf]; omega
        · have hqb : (lowZ (a[k].toNat : Int) != lowZ (b[k].toNat : Int)) = true := by simp [hq]
          have HQ := hide (eqf_ne_at hlt hlb hq)
          clear hq heq
          go_wp2
          go_quiet ((go_at_call 11; exact Calls.quiet_of_same (blow_byte _ _)))
          go_wp2
          go_ret
          exact ⟨by rw [unhide HQ]; rfl, unhide (drewN_more HW)⟩
      · have hke : k = a.size := by omega
        have HQ := hide (eqf_of_all (unhide HS) (hke ▸ heq))
        clear hke heq
        go_wp2
        go_ret
        exact ⟨by rw [unhide HQ]; rfl, unhide HW⟩
  · have hne : ((a.size : Int) != (b.size : Int)) = true := by simp; omega
    have hf := eqf_ne_size hs
    have HF := hide hf
    clear hs hf
    go_enter Yba.func9, Yba.ntmps9
    go_wp2
    go_ret
    exact ⟨by rw [unhide HF]; rfl, 0, rfl⟩

/-- A name: a struct of one string. -/
abbrev nm (s : ByteArray) : Value := .agg #[.string s]

theorem bcell {W w1 : World} (hb : Below W.heap.size W w1) : (∀ b o, b < W.heap.size → w1.cell? ⟨b, o, none⟩ = W.cell? ⟨b, o, none⟩) ∧ (∀ b o, b < W.heap.size → w1.frozen? ⟨b, o, none⟩ = W.frozen? ⟨b, o, none⟩) :=
  ⟨fun b o h => hb.cell (p := ⟨b, o, none⟩) h, fun b o h => hb.frozen (p := ⟨b, o, none⟩) h⟩

set_option maxHeartbeats 400000 in
theorem equalFold_any (a b : ByteArray) (ha : a.size ≤ maxLen) (hb : b.size ≤ maxLen) (w : World) :
    Calls Yba.prog 14 #[nm a, nm b] w fun e w' => e = .returned (.bool (Dns.eqf a.data.toList b.data.toList)) ∧ Below w.heap.size w w' := by
  unfold maxLen at ha hb
  by_cases hs : a.size = b.size
  · have hne : ((a.size : Int) != (b.size : Int)) = false := by simp [hs]
    have HS := hide hs
    clear hs
    go_enter Yba.func14, Yba.ntmps14
    go_wp2
    go_loopw [5] (fun i wr => ∃ k : Nat, k ≤ a.size ∧ i = .int .i64 k ∧ EqTo a b k ∧ wr.cell? ⟨w.heap.size, 0, none⟩ = some (.string a) ∧ wr.cell? ⟨w.heap.size + 1, 0, none⟩ = some (.string b) ∧ Below w.heap.size w wr) (fun i _ => a.size - (intOf i).toNat)
    case atStart => exact ⟨0, Nat.zero_le _, rfl, eqTo_zero a b, by simp, by simp, ((Below.refl _ _).alloc (Nat.le_refl _) _).alloc (by simp) _⟩
    case round =>
      obtain ⟨k, hk, rfl, heq, hca, hcb, hbl⟩ := hrel
      by_cases hlt : k < a.size
      · have hlb : k < b.size := by rw [← unhide HS]; exact hlt
        have hli : (k : Int) < (a.size : Int) := by omega
        have hli2 : (k : Int) < (b.size : Int) := by omega
        by_cases hq : lowZ (a[k].toNat : Int) = lowZ (b[k].toNat : Int)
        · have hqb : (lowZ (a[k].toNat : Int) != lowZ (b[k].toNat : Int)) = false := by simp [hq]
          have HQ := hide (eqTo_step heq hlt hlb hq)
          clear hq heq
          go_wp2
          go_quiet ((go_at_call 15; exact Calls.quiet_of_same (lower_byte _ _)))
          go_wp2
          go_roundw
          case rel => exact ⟨k + 1, by omega, by go_num, unhide HQ, by simpa using hca, by simpa using hcb, below_drewN hbl _⟩
          case measure => simp [intOf]; omega
        · have hqb : (lowZ (a[k].toNat : Int) != lowZ (b[k].toNat : Int)) = true := by simp [hq]
          have HQ := hide (eqf_ne_at hlt hlb hq)
          clear hq heq
          go_wp2
          go_quiet ((go_at_call 15; exact Calls.quiet_of_same (lower_byte _ _)))
          go_wp2
          go_ret
          exact ⟨by rw [unhide HQ]; rfl, below_drewN hbl _⟩
      · have hke : k = a.size := by omega
        have HQ := hide (eqf_of_all (unhide HS) (hke ▸ heq))
        clear hke heq
        go_wp2
        go_ret
        exact ⟨by rw [unhide HQ]; rfl, hbl⟩
  · have hne : ((a.size : Int) != (b.size : Int)) = true := by simp; omega
    have hf := eqf_ne_size hs
    have HF := hide hf
    clear hs hf
    go_enter Yba.func14, Yba.ntmps14
    go_wp2
    go_ret
    exact ⟨by rw [unhide HF]; rfl, ((Below.refl _ _).alloc (Nat.le_refl _) _).alloc (by simp) _⟩
end Go.Proofs.Ybulkctna
