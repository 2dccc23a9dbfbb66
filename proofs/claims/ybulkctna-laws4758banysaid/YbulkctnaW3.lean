/-
  THE WALKS, 3: Labels, Parent.
-/
import Derived.Test.YbulkctnaW2
import Derived.RegionTactic
import Derived.BigRegion
namespace Go.Proofs.Ybulkctna
open Go.RowKit
set_option linter.unusedVariables false

/-- Bytes as a string's array. -/
abbrev S (l : Dns.Bytes) : ByteArray := ⟨l.toArray⟩
theorem S_size (l : Dns.Bytes) : (S l).size = l.length := by simp [ByteArray.size]
theorem S_list (l : Dns.Bytes) : (S l).data.toList = l := by simp

theorem wire_head {l : Dns.Bytes} {ls : List Dns.Bytes} (s : ByteArray) (hs : s = S (Dns.wireN (l :: ls))) (hl : l.length ≤ 63) (h0 : 0 < s.size) : (s[0]'h0).toNat = l.length := by
  subst hs
  have : (S (Dns.wireN (l :: ls)))[0]'h0 = UInt8.ofNat l.length := by
    show (Dns.wireN (l :: ls)).toArray[0]'(by rw [Dns.wireN_cons]; simp) = _
    simp [Dns.wireN_cons]
  rw [this]
  simp [UInt8.toNat_ofNat']
  omega
theorem wire_tail {l : Dns.Bytes} {ls : List Dns.Bytes} (s : ByteArray) (hs : s = S (Dns.wireN (l :: ls))) : s.extract (1 + l.length) s.size = S (Dns.wireN ls) := by
  subst hs
  apply ByteArray.ext
  rw [ByteArray.data_extract]
  apply Array.ext'
  simp [Dns.wireN_cons, ByteArray.size]
  rw [Nat.add_comm 1 l.length, List.drop_succ_cons, List.drop_left, List.take_of_length_le (by simp)]
theorem wire_size {l : Dns.Bytes} {ls : List Dns.Bytes} (s : ByteArray) (hs : s = S (Dns.wireN (l :: ls))) : 1 + l.length ≤ s.size := by
  subst hs
  rw [S_size, Dns.wireN_cons]
  simp
  omega

theorem nonempty_of {t : ByteArray} (h : 0 < t.size) : t.toList.isEmpty = false := by
  rw [ByteArray.toList_eq]
  cases hh : t.data.toList.isEmpty with
  | false => rfl
  | true =>
    have := List.isEmpty_iff.1 hh
    have h2 : t.size = t.data.toList.length := by simp
    rw [this, List.length_nil] at h2
    omega
theorem empty_of {t : ByteArray} (h : t.size = 0) : t.toList.isEmpty = true := by
  rw [ByteArray.toList_eq]
  have h2 : t.size = t.data.toList.length := by simp
  rw [List.isEmpty_iff, ← List.length_eq_zero_iff]
  omega

set_option maxHeartbeats 400000 in
theorem labels_any (A : List Dns.Bytes) (hA : Dns.Ok A) (s0 : ByteArray) (hs0 : Hid (s0 = S (Dns.wireN A))) (hm : A.length ≤ 1000000) (w : World) :
    Calls Yba.prog 12 #[nm s0] w fun e w' => e = .returned (.int .i64 (A.length : Int)) ∧ w' = w.alloc (.cells #[.string s0] 28) := by
  go_enter Yba.func12, Yba.ntmps12
  go_wp2
  go_loop [3, 4] (fun c s => ∃ (k : Nat) (t : ByteArray), k ≤ A.length ∧ c = .int .i64 k ∧ s = .string t ∧ Hid (t = S (Dns.wireN (A.drop k)))) (fun c _ => A.length - (intOf c).toNat)
  case atStart => exact ⟨0, s0, Nat.zero_le _, rfl, rfl, hs0⟩
  case round =>
    obtain ⟨k, t, hk, rfl, rfl, HT⟩ := hrel
    by_cases hlt : k < A.length
    · obtain ⟨l, hl1, hl2⟩ : ∃ l, A.drop k = l :: A.drop (k + 1) ∧ l.length ≤ 63 := ⟨A[k], List.drop_eq_getElem_cons hlt, (hA _ (List.getElem_mem hlt)).2⟩
      have ht := unhide HT
      rw [hl1] at ht
      have e2 := wire_tail t ht
      have h1 := wire_size t ht
      have h0 : 0 < t.size := by omega
      have e1 := wire_head t ht hl2 h0
      have hle : 1 + (t[0]'h0).toNat ≤ t.size := by rw [e1]; exact h1
      rw [← e1] at e2
      have HE := hide e2
      have hns := nonempty_of h0
      clear ht e2 hl1 e1 h1 hl2
      have hb := (t[0]'h0).toNat_lt
      go_wp2
      go_round
      case rel => exact ⟨k + 1, _, by omega, by go_num, rfl, HE⟩
      case measure => simp [intOf]; omega
    · have ht := unhide HT
      rw [List.drop_of_length_le (by omega)] at ht
      have hz : t.size = 0 := by rw [ht]; rfl
      have hns := empty_of hz
      have hkA : k = A.length := by omega
      have HK := hide hkA
      clear ht hz hkA
      go_wp2
      go_ret
      exact ⟨by rw [← unhide HK]; rfl, rfl⟩

set_option maxHeartbeats 400000 in
theorem parent_any (l : Dns.Bytes) (ls : List Dns.Bytes) (hl : l.length ≤ 63) (t : ByteArray) (hs : Hid (t = S (Dns.wireN (l :: ls)))) (w : World) :
    Calls Yba.prog 13 #[nm t] w fun e w' => e = .returned (nm (S (Dns.wireN ls))) ∧ Below w.heap.size w w' := by
  have ht := unhide hs
  have e2 := wire_tail t ht
  have h1 := wire_size t ht
  have h0 : 0 < t.size := by omega
  have e1 := wire_head t ht hl h0
  have hle : 1 + (t[0]'h0).toNat ≤ t.size := by rw [e1]; exact h1
  rw [← e1] at e2
  have HE := hide e2
  have hns := nonempty_of h0
  clear ht e2 e1 h1 hl
  have hb := (t[0]'h0).toNat_lt
  have hleZ : 1 + ((t[0]'h0).toNat : Int) ≤ (t.size : Int) := by omega
  have h0Z : (0 : Int) < (t.size : Int) := by omega
  go_enter Yba.func13, Yba.ntmps13
  go_wp2
  go_region
  all_goals go_wp2
  exact bodyPost_ret (v := nm (t.extract (1 + (t[0]'h0).toNat) t.size)) (by simp [results, Yba.results13, go_sem]) rfl ⟨by rw [unhide HE], (((Below.refl _ _).alloc (Nat.le_refl _) _).alloc (by simp) _).drew⟩
end Go.Proofs.Ybulkctna
