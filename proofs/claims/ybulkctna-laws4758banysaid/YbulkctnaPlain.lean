/-
  PLAIN: lists of bytes alone; nothing of the program. The wire form of DNS names; what 'norm', 'wire', 'ReplaceSuffix' come to.
-/
namespace Go.Proofs.Ybulkctna
namespace Dns

/-- A label or a wire form: its bytes. -/
abbrev Bytes := List UInt8

/-- 'zzs4758bnorm': empty labels are dropped, long ones cut at 63. -/
def norm (ls : List Bytes) : List Bytes := (ls.filter (fun l => !l.isEmpty)).map (fun l => l.take 63)

/-- The wire form of labels that are already normal. -/
def wireN (ls : List Bytes) : Bytes := ls.flatMap (fun l => UInt8.ofNat l.length :: l)

/-- Every label has one to 63 bytes. -/
def Ok (ls : List Bytes) : Prop := ∀ l ∈ ls, 0 < l.length ∧ l.length ≤ 63

/-- 'lower'. -/
def low (c : UInt8) : UInt8 := if 65 ≤ c.toNat ∧ c.toNat ≤ 90 then c + 32 else c

/-- 'EqualFold'. -/
def eqf (a b : Bytes) : Bool := a.map low == b.map low

theorem ok_nil : Ok [] := by intro l hl; simp at hl
theorem ok_cons {l : Bytes} {ls : List Bytes} : Ok (l :: ls) ↔ (0 < l.length ∧ l.length ≤ 63) ∧ Ok ls := by
  constructor
  · intro h; exact ⟨h l (by simp), fun m hm => h m (by simp [hm])⟩
  · rintro ⟨h1, h2⟩ m hm
    rcases List.mem_cons.1 hm with rfl | hm
    · exact h1
    · exact h2 m hm
theorem ok_append {a b : List Bytes} (ha : Ok a) (hb : Ok b) : Ok (a ++ b) := by
  intro l hl
  rcases List.mem_append.1 hl with h | h
  · exact ha l h
  · exact hb l h
theorem ok_drop {a : List Bytes} (ha : Ok a) (n : Nat) : Ok (a.drop n) := fun l hl => ha l (List.mem_of_mem_drop hl)
theorem ok_take {a : List Bytes} (ha : Ok a) (n : Nat) : Ok (a.take n) := fun l hl => ha l (List.mem_of_mem_take hl)

theorem norm_ok (ls : List Bytes) : Ok (norm ls) := by
  intro l hl
  simp only [norm, List.mem_map, List.mem_filter] at hl
  obtain ⟨m, ⟨_, hm⟩, rfl⟩ := hl
  have : m ≠ [] := by intro h; simp [h] at hm
  have := List.length_pos_iff.2 this
  simp only [List.length_take]
  omega

theorem norm_of_ok {ls : List Bytes} (h : Ok ls) : norm ls = ls := by
  induction ls with
  | nil => rfl
  | cons l ls ih =>
    have hl := (ok_cons.1 h).1
    have := ih (ok_cons.1 h).2
    have e : l.isEmpty = false := by
      cases l with
      | nil => simp at hl
      | cons _ _ => rfl
    have e2 : l.take 63 = l := List.take_of_length_le hl.2
    simp only [norm] at this ⊢
    simp [e, e2, this]

theorem norm_append (a b : List Bytes) : norm (a ++ b) = norm a ++ norm b := by simp [norm]
theorem norm_one_empty : norm [([] : Bytes)] = [] := rfl
theorem norm_one {l : Bytes} (h : 0 < l.length) : norm [l] = [l.take 63] := by
  cases l with
  | nil => simp at h
  | cons _ _ => rfl
theorem norm_length_le (ls : List Bytes) : (norm ls).length ≤ ls.length := by
  simp only [norm, List.length_map]
  exact List.length_filter_le _ _

theorem wireN_nil : wireN [] = [] := rfl
theorem wireN_cons (l : Bytes) (ls : List Bytes) : wireN (l :: ls) = UInt8.ofNat l.length :: (l ++ wireN ls) := by simp [wireN]
theorem wireN_append (a b : List Bytes) : wireN (a ++ b) = wireN a ++ wireN b := by simp [wireN]
theorem wireN_one (l : Bytes) : wireN [l] = UInt8.ofNat l.length :: l := by simp [wireN]
theorem wireN_length_le {ls : List Bytes} (h : Ok ls) : (wireN ls).length ≤ 64 * ls.length := by
  induction ls with
  | nil => simp [wireN]
  | cons l ls ih =>
    have := ih (ok_cons.1 h).2
    have := (ok_cons.1 h).1
    rw [wireN_cons]
    simp only [List.length_cons, List.length_append]
    omega

theorem low_small {n : Nat} (h : n ≤ 63) : low (UInt8.ofNat n) = UInt8.ofNat n := by
  have : (UInt8.ofNat n).toNat = n := by simp [UInt8.toNat_ofNat']; omega
  unfold low
  rw [if_neg (by omega)]
theorem ofNat_inj {m n : Nat} (hm : m ≤ 63) (hn : n ≤ 63) (h : UInt8.ofNat m = UInt8.ofNat n) : m = n := by
  have := congrArg UInt8.toNat h
  simp [UInt8.toNat_ofNat'] at this
  omega

/-- Two wire forms are equal but for letter case just where their labels are. -/
theorem wire_fold : ∀ {X Y : List Bytes}, Ok X → Ok Y → ((wireN X).map low = (wireN Y).map low ↔ X.map (·.map low) = Y.map (·.map low))
  | [], [], _, _ => by simp [wireN]
  | [], y :: Y, _, _ => by simp [wireN]
  | x :: X, [], _, _ => by simp [wireN]
  | x :: X, y :: Y, hX, hY => by
    have hx := (ok_cons.1 hX).1
    have hy := (ok_cons.1 hY).1
    have ih := wire_fold (ok_cons.1 hX).2 (ok_cons.1 hY).2
    rw [wireN_cons, wireN_cons]
    simp only [List.map_cons, List.map_append, List.cons.injEq]
    rw [low_small hx.2, low_small hy.2]
    constructor
    · rintro ⟨h1, h2⟩
      have hl := ofNat_inj hx.2 hy.2 h1
      have := List.append_inj h2 (by simp [hl])
      exact ⟨this.1, ih.1 this.2⟩
    · rintro ⟨h1, h2⟩
      have hl : x.length = y.length := by simpa using congrArg List.length h1
      exact ⟨by rw [hl], by rw [h1, ih.2 h2]⟩

theorem eqf_length {a b : Bytes} (h : eqf a b = true) : a.length = b.length := by
  have := congrArg List.length (eq_of_beq h)
  simpa using this

/-- What IsSubdomain answers of well-formed names. -/
def isSub (A B : List Bytes) : Bool := eqf (wireN (A.drop (A.length - B.length))) (wireN B)

/-- What ReplaceSuffix answers, given what IsSubdomain said. -/
def repl (b : Bool) (n s w : Bytes) : Bytes × Bool :=
  if b then (if 255 < n.length - s.length + w.length + 1 then ([], false) else (n.take (n.length - s.length) ++ w, true)) else ([], false)

theorem isSub_len {A B : List Bytes} (h : isSub A B = true) : (wireN B).length ≤ (wireN A).length := by
  have := eqf_length h
  have e : wireN A = wireN (A.take (A.length - B.length)) ++ wireN (A.drop (A.length - B.length)) := by rw [← wireN_append, List.take_append_drop]
  rw [e, List.length_append]
  omega

/-- Labels that are the same but for case. -/
def Same (X Y : List Bytes) : Prop := X.map (·.map low) = Y.map (·.map low)

theorem same_len {X Y : List Bytes} (h : Same X Y) : X.length = Y.length := by
  have := congrArg List.length h
  simpa using this
theorem same_lens {X Y : List Bytes} (h : Same X Y) : X.map List.length = Y.map List.length := by
  have := congrArg (List.map List.length) h
  simpa [List.map_map, Function.comp_def] using this
theorem same_ok : ∀ {X Y : List Bytes}, Same X Y → Ok X → Ok Y
  | [], [], _, _ => ok_nil
  | [], y :: Y, h, _ => by have := same_len h; simp at this
  | x :: X, [], h, _ => by have := same_len h; simp at this
  | x :: X, y :: Y, h, hX => by
    simp only [Same, List.map_cons, List.cons.injEq] at h
    have hl : x.length = y.length := by simpa using congrArg List.length h.1
    have := (ok_cons.1 hX).1
    exact ok_cons.2 ⟨by omega, same_ok (X := X) h.2 (ok_cons.1 hX).2⟩
theorem same_wire_len {X Y : List Bytes} (hX : Ok X) (h : Same X Y) : (wireN X).length = (wireN Y).length := by
  have := congrArg List.length ((wire_fold hX (same_ok h hX)).2 h)
  simpa using this

/-- THE LAW 'BELOW': what ReplaceSuffix gives. -/
theorem below {P N F : List Bytes} (_hP : Ok P) (hN : Ok N) (h : Same N F) (W : Bytes) :
    repl (isSub (P ++ N) F) (wireN P ++ wireN N) (wireN F) W = if 255 < (wireN P).length + W.length + 1 then ([], false) else (wireN P ++ W, true) := by
  have hl := same_len h
  have hw := same_wire_len hN h
  have e1 : isSub (P ++ N) F = true := by
    have ed : (P ++ N).drop ((P ++ N).length - F.length) = N := by
      rw [List.length_append, show P.length + N.length - F.length = P.length by omega, List.drop_left]
    simp only [isSub, ed, eqf]
    rw [(wire_fold hN (same_ok h hN)).2 h]
    exact BEq.rfl
  have e2 : (wireN P ++ wireN N).length - (wireN F).length = (wireN P).length := by rw [List.length_append]; omega
  simp only [repl, e1, if_true, e2, List.take_left]

/-- THE LAW 'ANY': is the suffix there? -/
theorem any_sub {A B : List Bytes} (hA : Ok A) (hB : Ok B) :
    isSub A B = true ↔ B.length ≤ A.length ∧ ∀ i, i < B.length → eqf (A.getD (A.length - B.length + i) []) (B.getD i []) = true := by
  have hf := wire_fold (ok_drop hA (A.length - B.length)) hB
  have e0 : isSub A B = true ↔ (wireN (A.drop (A.length - B.length))).map low = (wireN B).map low := by simp [isSub, eqf]
  rw [e0, hf]
  constructor
  · intro h
    have hl : (A.drop (A.length - B.length)).length = B.length := by simpa using congrArg List.length h
    rw [List.length_drop] at hl
    refine ⟨by omega, fun i hi => ?_⟩
    have hg := congrArg (fun l => l[i]?) h
    simp only [List.getElem?_map, List.getElem?_drop] at hg
    rw [List.getElem?_eq_getElem hi, List.getElem?_eq_getElem (show A.length - B.length + i < A.length by omega)] at hg
    simp only [Option.map_some, Option.some.injEq] at hg
    simp only [eqf, List.getD, List.getElem?_eq_getElem hi, List.getElem?_eq_getElem (show A.length - B.length + i < A.length by omega), Option.getD_some, hg]
    exact BEq.rfl
  · rintro ⟨hl, h⟩
    apply List.ext_getElem
    · simp; omega
    intro i h1 h2
    simp only [List.length_map] at h2
    have := h i h2
    simp only [eqf, List.getD, List.getElem?_eq_getElem h2, List.getElem?_eq_getElem (show A.length - B.length + i < A.length by omega), Option.getD_some] at this
    simpa using eq_of_beq this

theorem any_repl_no {A B : List Bytes} (W : Bytes) (h : isSub A B = false) : repl (isSub A B) (wireN A) (wireN B) W = ([], false) := by simp [repl, h]
theorem any_repl_yes {A B : List Bytes} (W : Bytes) (h : isSub A B = true) :
    repl (isSub A B) (wireN A) (wireN B) W = if 255 < (wireN (A.take (A.length - B.length))).length + W.length + 1 then ([], false) else (wireN (A.take (A.length - B.length)) ++ W, true) := by
  have hl := eqf_length h
  have e : wireN A = wireN (A.take (A.length - B.length)) ++ wireN (A.drop (A.length - B.length)) := by rw [← wireN_append, List.take_append_drop]
  have e2 : (wireN A).length - (wireN B).length = (wireN (A.take (A.length - B.length))).length := by rw [e, List.length_append]; omega
  have e3 : (wireN A).take (wireN (A.take (A.length - B.length))).length = wireN (A.take (A.length - B.length)) := by
    conv => lhs; arg 2; rw [e]
    rw [List.take_left]
  simp only [repl, h, if_true, e2, e3]

/-- One letter's case turned. -/
def flipB (c : UInt8) : UInt8 := if 65 ≤ c.toNat ∧ c.toNat ≤ 90 then c + 32 else if 97 ≤ c.toNat ∧ c.toNat ≤ 122 then c - 32 else c
theorem low_flipB_nat : ∀ n : Fin 256, low (flipB (UInt8.ofNat n.val)) = low (UInt8.ofNat n.val) := by decide +kernel
theorem low_flipB (c : UInt8) : low (flipB c) = low c := by
  have := low_flipB_nat ⟨c.toNat, c.toNat_lt⟩
  simpa using this

end Dns
end Go.Proofs.Ybulkctna
