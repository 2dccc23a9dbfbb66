/-
  PLAIN: lists of bytes alone: when a wire value is well-formed for its key.
-/
namespace Go.Proofs.YbulkctnaFmt
namespace Svc
abbrev Bytes := List UInt8

/-- The j-th key of a list of keys. -/
def kAt (l : Bytes) (j : Nat) : Int := 256 * ((l.getD (2 * j) 0).toNat : Int) + ((l.getD (2 * j + 1) 0).toNat : Int)
/-- The key before the j-th, -1 before the first. -/
def prevAt (l : Bytes) : Nat → Int
  | 0 => -1
  | j + 1 => kAt l j
/-- Keys in ascending order, none of them 0. -/
def asc (prev : Int) : Bytes → Bool
  | a :: b :: r => decide (256 * (a.toNat : Int) + (b.toNat : Int) ≠ 0) && decide (prev < 256 * (a.toNat : Int) + (b.toNat : Int)) && asc (256 * (a.toNat : Int) + (b.toNat : Int)) r
  | _ => true
def mandOk (l : Bytes) : Bool := decide (l.length ≠ 0) && decide (l.length % 2 = 0) && asc (-1) l

theorem asc_step {l : Bytes} {j : Nat} (h : 2 * j + 2 ≤ l.length) (p : Int) :
    asc p (l.drop (2 * j)) = (decide (kAt l j ≠ 0) && decide (p < kAt l j) && asc (kAt l j) (l.drop (2 * (j + 1)))) := by
  have e1 : l.drop (2 * j) = l[2 * j] :: l.drop (2 * j + 1) := List.drop_eq_getElem_cons (by omega)
  have e2 : l.drop (2 * j + 1) = l[2 * j + 1] :: l.drop (2 * j + 2) := List.drop_eq_getElem_cons (by omega)
  have g1 : l.getD (2 * j) 0 = l[2 * j] := by simp [List.getD, List.getElem?_eq_getElem (show 2 * j < l.length by omega)]
  have g2 : l.getD (2 * j + 1) 0 = l[2 * j + 1] := by simp [List.getD, List.getElem?_eq_getElem (show 2 * j + 1 < l.length by omega)]
  rw [e1, e2, show 2 * (j + 1) = 2 * j + 2 by omega]
  simp only [asc, kAt, g1, g2]
theorem asc_end {l : Bytes} {j : Nat} (h : l.length ≤ 2 * j) (p : Int) : asc p (l.drop (2 * j)) = true := by
  rw [List.drop_of_length_le h]; rfl
theorem kAt_bd (l : Bytes) (j : Nat) : 0 ≤ kAt l j ∧ kAt l j ≤ 65535 := by
  have := (l.getD (2 * j) 0).toNat_lt
  have := (l.getD (2 * j + 1) 0).toNat_lt
  unfold kAt
  omega
theorem prevAt_bd (l : Bytes) (j : Nat) : -1 ≤ prevAt l j ∧ prevAt l j ≤ 65535 := by
  cases j with
  | zero => simp [prevAt]
  | succ j => have := kAt_bd l j; simp only [prevAt]; omega

/-- ALPN ids, one after the other, each a length and as many bytes; with fuel. -/
def alpnF : Nat → Bytes → Bool
  | _, [] => true
  | 0, _ :: _ => false
  | f + 1, a :: r => decide (a.toNat ≠ 0) && decide (a.toNat ≤ r.length) && alpnF f (r.drop a.toNat)
def ids (l : Bytes) : Bool := alpnF l.length l
theorem alpnF_more : ∀ (f g : Nat) (l : Bytes), l.length ≤ f → l.length ≤ g → alpnF f l = alpnF g l
  | _, _, [], _, _ => by simp [alpnF]
  | 0, _, _ :: _, h, _ => by simp at h
  | _ + 1, 0, _ :: _, _, h => by simp at h
  | f + 1, g + 1, a :: r, hf, hg => by
    simp only [alpnF]
    rw [alpnF_more f g (r.drop a.toNat) (by simp at hf ⊢; omega) (by simp at hg ⊢; omega)]
theorem ids_cons (a : UInt8) (r : Bytes) : ids (a :: r) = (decide (a.toNat ≠ 0) && decide (a.toNat ≤ r.length) && ids (r.drop a.toNat)) := by
  unfold ids
  simp only [List.length_cons, alpnF]
  rw [alpnF_more r.length (r.drop a.toNat).length (r.drop a.toNat) (by simp) (Nat.le_refl _)]
theorem ids_nil : ids [] = true := rfl
theorem ids_step {l : Bytes} {i : Nat} (h : i < l.length) :
    ids (l.drop i) = (decide ((l.getD i 0).toNat ≠ 0) && decide ((l.getD i 0).toNat ≤ l.length - i - 1) && ids (l.drop (i + (1 + (l.getD i 0).toNat)))) := by
  have e1 : l.drop i = l[i] :: l.drop (i + 1) := List.drop_eq_getElem_cons h
  have g1 : l.getD i 0 = l[i] := by simp [List.getD, List.getElem?_eq_getElem h]
  rw [e1, ids_cons, g1, List.drop_drop, List.length_drop, show i + 1 + l[i].toNat = i + (1 + l[i].toNat) by omega, show l.length - (i + 1) = l.length - i - 1 by omega]
def alpnOk (l : Bytes) : Bool := decide (l.length ≠ 0) && ids l

/-- The keys whose value is asked for its length alone. -/
def lenOk (key : Int) (n : Nat) : Bool :=
  if key = 2 ∨ key = 8 then decide (n = 0) else if key = 3 then decide (n = 2) else if key = 4 then decide (0 < n) && decide (n % 4 = 0) else if key = 6 then decide (0 < n) && decide (n % 16 = 0) else if key = 65535 then false else true

def okVal (key : Int) (l : Bytes) : Bool := if key = 0 then mandOk l else if key = 1 then alpnOk l else lenOk key l.length
theorem okVal0 (l : Bytes) : okVal 0 l = mandOk l := by simp [okVal]
theorem okVal1 (l : Bytes) : okVal 1 l = alpnOk l := by simp [okVal]
theorem okVal_len {key : Int} (h0 : key ≠ 0) (h1 : key ≠ 1) (l : Bytes) : okVal key l = lenOk key l.length := by simp [okVal, h0, h1]
end Svc
end Go.Proofs.YbulkctnaFmt
