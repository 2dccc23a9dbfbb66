/-
  PLAIN: what the law 'Built' builds, and that it is well-formed.
-/
import Derived.Test.YbulkctnaFmtPlain
namespace Go.Proofs.YbulkctnaFmt
namespace Svc
/-- How long an id the byte l stands for. -/
def idLen (l : UInt8) : Nat := l.toNat % 255 + 1
theorem idLen_bd (l : UInt8) : 1 ≤ idLen l ∧ idLen l ≤ 255 := by unfold idLen; omega
/-- One id: its length and as many bytes, each the length again. -/
def oneId (l : UInt8) : Bytes := List.replicate (idLen l + 1) (UInt8.ofNat (idLen l))
def alp (ls : Bytes) : Bytes := ls.flatMap oneId
theorem alp_snoc (ls : Bytes) (l : UInt8) : alp (ls ++ [l]) = alp ls ++ oneId l := by simp [alp]
theorem oneId_length (l : UInt8) : (oneId l).length = idLen l + 1 := by simp [oneId]
theorem alp_length_le (ls : Bytes) : (alp ls).length ≤ 256 * ls.length := by
  induction ls with
  | nil => simp [alp]
  | cons l ls ih =>
    have := idLen_bd l
    have e : alp (l :: ls) = oneId l ++ alp ls := by simp [alp]
    rw [e, List.length_append, oneId_length, List.length_cons]
    omega
theorem ids_alp (ls : Bytes) : ids (alp ls) = true := by
  induction ls with
  | nil => rfl
  | cons l ls ih =>
    have hb := idLen_bd l
    have e : alp (l :: ls) = UInt8.ofNat (idLen l) :: (List.replicate (idLen l) (UInt8.ofNat (idLen l)) ++ alp ls) := by
      simp [alp, oneId, List.replicate_succ]
    have en : (UInt8.ofNat (idLen l)).toNat = idLen l := by simp [UInt8.toNat_ofNat']; omega
    rw [e, ids_cons, en]
    have e2 : (List.replicate (idLen l) (UInt8.ofNat (idLen l)) ++ alp ls).drop (idLen l) = alp ls := by
      rw [List.drop_append_of_le_length (by simp), List.drop_of_length_le (by simp)]; rfl
    rw [e2, ih, decide_eq_true (show idLen l ≠ 0 by omega), decide_eq_true (show idLen l ≤ (List.replicate (idLen l) (UInt8.ofNat (idLen l)) ++ alp ls).length by simp)]
    rfl
theorem alpn_alp (ls : Bytes) : okVal 1 (alp ls) = decide (0 < ls.length) := by
  rw [okVal1]
  unfold alpnOk
  rw [ids_alp]
  cases ls with
  | nil => rfl
  | cons l ls =>
    have : (alp (l :: ls)).length ≠ 0 := by
      have e : alp (l :: ls) = oneId l ++ alp ls := by simp [alp]
      rw [e, List.length_append, oneId_length]; omega
    simp [this]

/-- A key's two bytes. -/
def two (k : Nat) : Bytes := [UInt8.ofNat (k / 256), UInt8.ofNat k]
/-- The bytes of ascending keys: what has been built from keys ks. -/
def keysOf (ks : List Nat) : Bytes := ks.flatMap two
theorem keysOf_snoc (ks : List Nat) (k : Nat) : keysOf (ks ++ [k]) = keysOf ks ++ two k := by simp [keysOf]
theorem keysOf_length (ks : List Nat) : (keysOf ks).length = 2 * ks.length := by
  induction ks with
  | nil => rfl
  | cons k ks ih =>
    have e : keysOf (k :: ks) = two k ++ keysOf ks := by simp [keysOf]
    rw [e, List.length_append, ih, List.length_cons]
    simp [two]; omega
/-- Ascending, each at most 65535, all above p. -/
def Up (p : Nat) : List Nat → Prop
  | [] => True
  | k :: r => p < k ∧ k ≤ 65535 ∧ Up k r
/-- The last of them, p where there is none. -/
def lastOf (p : Nat) : List Nat → Nat
  | [] => p
  | k :: r => lastOf k r
theorem lastOf_snoc : ∀ (ks : List Nat) (p k : Nat), lastOf p (ks ++ [k]) = k
  | [], _, _ => rfl
  | x :: r, _, k => lastOf_snoc r x k
theorem up_snoc : ∀ (ks : List Nat) (p k : Nat), Up p ks → lastOf p ks < k → k ≤ 65535 → Up p (ks ++ [k])
  | [], _, _, _, h, h2 => ⟨h, h2, trivial⟩
  | x :: r, _, k, hu, h, h2 => ⟨hu.1, hu.2.1, up_snoc r x k hu.2.2 h h2⟩
theorem asc_keys : ∀ (ks : List Nat) (p : Nat) (q : Int), Up p ks → q ≤ p → asc q (keysOf ks) = true
  | [], _, _, _, _ => rfl
  | k :: r, p, q, hu, hq => by
    obtain ⟨a, b, c⟩ := hu
    have e : keysOf (k :: r) = UInt8.ofNat (k / 256) :: UInt8.ofNat k :: keysOf r := by simp [keysOf, two]
    have e1 : (UInt8.ofNat (k / 256)).toNat = k / 256 := by simp [UInt8.toNat_ofNat']; omega
    have e2 : (UInt8.ofNat k).toNat = k % 256 := by simp [UInt8.toNat_ofNat']
    have e3 : 256 * (((k / 256 : Nat)) : Int) + ((k % 256 : Nat) : Int) = (k : Int) := by omega
    rw [e]
    simp only [asc, e1, e2, e3]
    rw [asc_keys r k k c (Int.le_refl _), decide_eq_true (show (k : Int) ≠ 0 by omega), decide_eq_true (show q < (k : Int) by omega)]
    rfl
theorem mand_keys (ks : List Nat) (h : Up 0 ks) : okVal 0 (keysOf ks) = decide (0 < (keysOf ks).length) := by
  rw [okVal0]
  unfold mandOk
  rw [asc_keys ks 0 (-1) h (by omega), keysOf_length]
  by_cases h0 : ks.length = 0
  · simp [h0]
  · rw [decide_eq_true (show 2 * ks.length ≠ 0 by omega), decide_eq_true (show 2 * ks.length % 2 = 0 by omega), decide_eq_true (show 0 < 2 * ks.length by omega)]
    rfl
end Svc
end Go.Proofs.YbulkctnaFmt
