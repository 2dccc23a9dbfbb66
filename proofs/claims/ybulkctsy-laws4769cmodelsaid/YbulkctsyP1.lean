/-
  The range coder as plain numbers: shiftLow multiplies the value by 256.
-/
namespace Go.Proofs.Ybulkctsy
set_option linter.unusedVariables false

/-- The number of a list of bytes, the greatest first. -/
def bn (l : List Nat) : Nat := l.foldl (fun a b => a * 256 + b) 0
theorem bn_snoc (l : List Nat) (x : Nat) : bn (l ++ [x]) = bn l * 256 + x := by simp [bn, List.foldl_append]

theorem bn_carry (l : List Nat) (c : Nat) : ∀ n, bn (l ++ [c + 1] ++ List.replicate n 0) = bn (l ++ [c] ++ List.replicate n 255) + 1
  | 0 => by simp only [List.replicate_zero, List.append_nil, bn_snoc]; omega
  | n + 1 => by
    have ih := bn_carry l c n
    rw [List.replicate_succ', List.replicate_succ', ← List.append_assoc, ← List.append_assoc, bn_snoc, bn_snoc, ih]
    omega

theorem bn_lt : ∀ (l : List Nat), (∀ b, b ∈ l → b < 256) → bn l < 256 ^ l.length := by
  suffices h : ∀ (r : List Nat), (∀ b, b ∈ r.reverse → b < 256) → bn r.reverse < 256 ^ r.reverse.length by
    intro l hl
    have := h l.reverse (by rw [List.reverse_reverse]; exact hl)
    rw [List.reverse_reverse] at this
    exact this
  intro r
  induction r with
  | nil => intro _; simp [bn]
  | cons x r ih =>
    intro h
    rw [List.reverse_cons] at h ⊢
    rw [bn_snoc, List.length_append, List.length_singleton, Nat.pow_succ]
    have h1 := ih (fun b hb => h b (by simp only [List.mem_append]; exact .inl hb))
    have h2 := h x (by simp)
    omega

/-- The encoder's cells, and the bytes written. -/
structure St where
  low : Nat
  rng : Nat
  st : Bool
  ca : Nat
  pe : Nat
  bs : List Nat

def St.mid (s : St) : List Nat := if s.st = true then s.bs ++ [s.ca] else s.bs
def St.stream (s : St) : List Nat := s.mid ++ List.replicate s.pe 255
def St.val (s : St) : Nat := bn s.stream * 4294967296 + s.low

structure Inv (s : St) : Prop where
  sum : s.low + s.rng ≤ 8589934592
  top : (s.st = false ∨ s.ca = 255) → s.low + s.rng ≤ 4294967296
  ca : s.ca < 256
  bs : ∀ b, b ∈ s.bs → b < 256

def keepP (s : St) : St := { s with low := s.low % 16777216 * 256, pe := s.pe + 1 }
def flushP (s : St) : St := { low := s.low % 16777216 * 256, rng := s.rng, st := true, ca := s.low / 16777216 % 256, pe := 0, bs := (if s.st = true then s.bs ++ [s.ca + s.low / 4294967296] else s.bs) ++ List.replicate s.pe ((255 + s.low / 4294967296) % 256) }
def shiftP (s : St) : St := if 4278190080 ≤ s.low ∧ s.low ≤ 4294967295 then keepP s else flushP s
/-- rng <<= 8, then shiftLow. -/
def roundP (s : St) : St := shiftP { s with rng := s.rng * 256 }

theorem shift_rng (s : St) : (shiftP s).rng = s.rng := by unfold shiftP; split <;> rfl
theorem shift_size (s : St) : (shiftP s).bs.length + (shiftP s).pe ≤ s.bs.length + s.pe + 1 := by
  unfold shiftP; split
  · simp only [keepP]; omega
  · simp only [flushP, List.length_append, List.length_replicate]
    split
    · simp only [List.length_append, List.length_singleton]; omega
    · omega

/-- Where bytes are written: what is known of the carry. -/
theorem carry_ok {s : St} (h : Inv s) (hr : 0 < s.rng) (hb : 4294967295 < s.low) : s.st = true ∧ s.ca ≤ 254 := by
  have h1 := h.top
  constructor
  · cases e : s.st with
    | true => rfl
    | false => have := h1 (.inl e); omega
  · by_cases e : s.ca = 255
    · have := h1 (.inr e); omega
    · have := h.ca; omega

theorem round_inv {s : St} (h : Inv s) (hr : 0 < s.rng) (hr2 : s.rng < 16777216) : Inv (roundP s) := by
  obtain ⟨h1, h2, h3, h4⟩ := h
  unfold roundP shiftP
  by_cases hc : 4278190080 ≤ s.low ∧ s.low ≤ 4294967295
  · rw [if_pos hc]
    obtain ⟨ha, hb⟩ := hc
    refine ⟨?_, ?_, h3, h4⟩
    · show s.low % 16777216 * 256 + s.rng * 256 ≤ _; omega
    · intro e
      have e' := h2 e
      show s.low % 16777216 * 256 + s.rng * 256 ≤ _
      have : s.low % 16777216 = s.low - 4278190080 := by omega
      omega
  · rw [if_neg hc]
    refine ⟨?_, ?_, ?_, ?_⟩
    · show s.low % 16777216 * 256 + s.rng * 256 ≤ _; omega
    · intro e
      have e1 : s.low / 16777216 % 256 = 255 := by rcases e with e | e; cases e; exact e
      show s.low % 16777216 * 256 + s.rng * 256 ≤ _
      have hl : s.low < 8589934592 := by omega
      by_cases hq : s.low < 4278190080
      · omega
      · have hq2 : 4294967295 < s.low := by omega
        have : s.low % 16777216 = s.low - 8573157376 := by omega
        omega
    · show s.low / 16777216 % 256 < 256; omega
    · intro b hb
      simp only [flushP] at hb
      rw [List.mem_append] at hb
      rcases hb with hb | hb
      · split at hb
        · rename_i hst
          rw [List.mem_append] at hb
          rcases hb with hb | hb
          · exact h4 b hb
          · simp only [List.mem_singleton] at hb
            subst hb
            by_cases hq : s.low < 4294967296
            · rw [Nat.div_eq_of_lt hq]; omega
            · have := carry_ok ⟨h1, h2, h3, h4⟩ hr (by omega)
              omega
        · exact h4 b hb
      · have := (List.mem_replicate.1 hb).2
        omega

theorem round_val {s : St} (h : Inv s) (hr : 0 < s.rng) (hr2 : s.rng < 16777216) : (roundP s).val = s.val * 256 := by
  obtain ⟨h1, h2, h3, h4⟩ := h
  unfold roundP shiftP
  by_cases hc : 4278190080 ≤ s.low ∧ s.low ≤ 4294967295
  · rw [if_pos hc]
    obtain ⟨ha, hb⟩ := hc
    have e : St.stream (keepP { s with rng := s.rng * 256 }) = s.stream ++ [255] := by
      show s.mid ++ List.replicate (s.pe + 1) 255 = _
      rw [List.replicate_succ', ← List.append_assoc]; rfl
    unfold St.val
    rw [e, bn_snoc]
    show (bn s.stream * 256 + 255) * 4294967296 + s.low % 16777216 * 256 = _
    omega
  · rw [if_neg hc]
    have e : St.stream (flushP { s with rng := s.rng * 256 }) = ((if s.st = true then s.bs ++ [s.ca + s.low / 4294967296] else s.bs) ++ List.replicate s.pe ((255 + s.low / 4294967296) % 256)) ++ [s.low / 16777216 % 256] := by
      simp [St.stream, St.mid, flushP]
    unfold St.val
    rw [e, bn_snoc]
    show (_ * 256 + s.low / 16777216 % 256) * 4294967296 + s.low % 16777216 * 256 = _
    have hl : s.low < 8589934592 := by omega
    by_cases hq : s.low < 4278190080
    · have z : s.low / 4294967296 = 0 := Nat.div_eq_of_lt (by omega)
      rw [z]
      have e2 : (if s.st = true then s.bs ++ [s.ca + 0] else s.bs) ++ List.replicate s.pe ((255 + 0) % 256) = s.stream := rfl
      rw [e2]
      omega
    · have hq2 : 4294967295 < s.low := by omega
      obtain ⟨k1, k2⟩ := carry_ok ⟨h1, h2, h3, h4⟩ hr hq2
      have z : s.low / 4294967296 = 1 := by omega
      rw [z, if_pos k1]
      have e2 : s.stream = s.bs ++ [s.ca] ++ List.replicate s.pe 255 := by simp [St.stream, St.mid, k1]
      rw [show (255 + 1) % 256 = 0 from rfl, bn_carry, e2]
      omega

/-- How many bytes a width is short of. -/
def kk (r : Nat) : Nat := if 16777216 ≤ r then 0 else if 65536 ≤ r then 1 else 2
theorem kk_succ {r : Nat} (h : 256 ≤ r) (h2 : r < 16777216) : kk r = kk (r * 256) + 1 := by
  unfold kk
  rw [if_neg (by omega)]
  by_cases h3 : 65536 ≤ r
  · rw [if_pos h3, if_pos (by omega)]
  · rw [if_neg h3, if_neg (by omega), if_pos (by omega)]
theorem kk_zero {r : Nat} (h : 16777216 ≤ r) : kk r = 0 := by unfold kk; rw [if_pos h]
theorem kk_le (r : Nat) : kk r ≤ 2 := by
  unfold kk
  split
  · omega
  · split <;> omega

/-- The loop of Encode. -/
def rounds : Nat → St → St
  | 0, s => s
  | n + 1, s => rounds n (roundP s)
def normP (s : St) : St := rounds (kk s.rng) s
theorem round_rng (s : St) : (roundP s).rng = s.rng * 256 := by unfold roundP; rw [shift_rng]
theorem norm_step {s : St} (h : 256 ≤ s.rng) (h2 : s.rng < 16777216) : normP s = normP (roundP s) := by
  unfold normP
  rw [kk_succ h h2, round_rng]
  rfl
theorem norm_done {s : St} (h : 16777216 ≤ s.rng) : normP s = s := by
  unfold normP
  rw [kk_zero h]
  rfl

/-- What a normal form keeps. -/
theorem rounds_all : ∀ (n : Nat) (s : St), Inv s → 256 ≤ s.rng → kk s.rng = n → Inv (rounds n s) ∧ (rounds n s).rng = s.rng * 256 ^ n ∧ (rounds n s).val = s.val * 256 ^ n ∧ 16777216 ≤ (rounds n s).rng ∧ (rounds n s).bs.length + (rounds n s).pe ≤ s.bs.length + s.pe + n
  | 0, s, h, hr, hk => by
    refine ⟨h, by simp [rounds], by simp [rounds], ?_, by simp [rounds]⟩
    show 16777216 ≤ s.rng
    unfold kk at hk
    split at hk
    · assumption
    · split at hk <;> omega
  | n + 1, s, h, hr, hk => by
    have h2 : s.rng < 16777216 := by
      refine Nat.lt_of_not_le (fun h2 => ?_)
      rw [kk_zero h2] at hk
      omega
    have e := kk_succ hr h2
    obtain ⟨a1, a2, a3, a4, a5⟩ := rounds_all n (roundP s) (round_inv h (by omega) h2) (by rw [round_rng]; omega) (by rw [round_rng]; omega)
    have sz : (roundP s).bs.length + (roundP s).pe ≤ s.bs.length + s.pe + 1 := shift_size { s with rng := s.rng * 256 }
    refine ⟨a1, ?_, ?_, a4, ?_⟩
    · show (rounds n (roundP s)).rng = _
      rw [a2, round_rng, Nat.pow_succ, Nat.mul_assoc, Nat.mul_comm 256]
    · show (rounds n (roundP s)).val = _
      rw [a3, round_val h (by omega) h2, Nat.pow_succ, Nat.mul_assoc, Nat.mul_comm 256]
    · show (rounds n (roundP s)).bs.length + (rounds n (roundP s)).pe ≤ _
      omega

/-- The part of Encode ahead of the loop; z: the width of the zero. -/
def halfP (s : St) (bit z : Nat) : St := if bit = 0 then { s with rng := z } else { s with low := s.low + z, rng := s.rng - z }
def encP (s : St) (bit z : Nat) : St := normP (halfP s bit z)

theorem zero_bd {r q : Nat} (h1 : 16777216 ≤ r) (h2 : r < 4294967296) (q1 : 1 ≤ q) (q2 : q ≤ 65535) : 256 ≤ r / 65536 * (65536 - q) ∧ r / 65536 * (65536 - q) + 256 ≤ r ∧ r / 65536 * (65536 - q) < 4294967296 := by
  have a1 : 256 ≤ r / 65536 := by omega
  have b1 : r / 65536 * 1 ≤ r / 65536 * (65536 - q) := Nat.mul_le_mul_left _ (by omega)
  have b2 : r / 65536 * (65536 - q) ≤ r / 65536 * 65535 := Nat.mul_le_mul_left _ (by omega)
  omega

theorem half_inv {s : St} (h : Inv s) (bit z : Nat) (hz : z + 256 ≤ s.rng) : Inv (halfP s bit z) := by
  obtain ⟨h1, h2, h3, h4⟩ := h
  unfold halfP
  split
  · exact ⟨by show s.low + z ≤ _; omega, fun e => by have := h2 e; show s.low + z ≤ _; omega, h3, h4⟩
  · exact ⟨by show s.low + z + (s.rng - z) ≤ _; omega, fun e => by have := h2 e; show s.low + z + (s.rng - z) ≤ _; omega, h3, h4⟩
theorem half_rng {s : St} (bit z : Nat) (hz : z + 256 ≤ s.rng) (hz2 : 256 ≤ z) : 256 ≤ (halfP s bit z).rng := by
  unfold halfP
  split
  · exact hz2
  · show 256 ≤ s.rng - z; omega
theorem half_val (s : St) (bit z : Nat) : (halfP s bit z).val = s.val + (if bit = 0 then 0 else z) := by
  unfold halfP
  split
  · show bn s.stream * 4294967296 + s.low = bn s.stream * 4294967296 + s.low + 0
    omega
  · show bn s.stream * 4294967296 + (s.low + z) = bn s.stream * 4294967296 + s.low + z
    omega
theorem half_bs (s : St) (bit z : Nat) : (halfP s bit z).bs = s.bs ∧ (halfP s bit z).pe = s.pe := by
  unfold halfP
  split <;> exact ⟨rfl, rfl⟩

theorem stream_len (s : St) : s.stream.length ≤ s.bs.length + s.pe + 1 := by
  unfold St.stream St.mid
  split <;> simp <;> omega
theorem stream_lt {s : St} (h : Inv s) : ∀ b, b ∈ s.stream → b < 256 := by
  intro b hb
  unfold St.stream at hb
  rw [List.mem_append] at hb
  rcases hb with hb | hb
  · unfold St.mid at hb
    split at hb
    · rw [List.mem_append] at hb
      rcases hb with hb | hb
      · exact h.bs b hb
      · simp only [List.mem_singleton] at hb
        subst hb; exact h.ca
    · exact h.bs b hb
  · have := (List.mem_replicate.1 hb).2
    omega
theorem pw (n m : Nat) (h : n + 5 ≤ m) : (256 : Nat) ^ n * 1099511627776 ≤ 256 ^ m := by
  have e : (256 : Nat) ^ (n + 5) = 256 ^ n * 1099511627776 := by rw [Nat.pow_add]
  rw [← e]
  exact Nat.pow_le_pow_right (by decide) h
theorem val_lt' {s : St} (h : Inv s) (m : Nat) (hl : s.bs.length + s.pe + 6 ≤ m) : s.val < 18446744073709551616 ^ m := by
  have h1 := bn_lt s.stream (stream_lt h)
  have h3 := pw s.stream.length m (Nat.le_trans (Nat.add_le_add_right (stream_len s) 5) (by omega))
  have h4 : (256 : Nat) ^ m ≤ 18446744073709551616 ^ m := Nat.pow_le_pow_left (by decide) _
  have h6 : 0 < (256 : Nat) ^ s.stream.length := Nat.pow_pos (by decide)
  have h5 := h.sum
  unfold St.val
  generalize (256 : Nat) ^ m = B at *
  generalize (18446744073709551616 : Nat) ^ m = C at *
  generalize (256 : Nat) ^ s.stream.length = D at *
  generalize bn s.stream = n at *
  omega
theorem val_lt {s : St} (h : Inv s) (hl : s.bs.length + s.pe ≤ 2100) : s.val < 18446744073709551616 ^ 3000 := val_lt' h 3000 (by omega)
def St.new : St := { low := 0, rng := 4294967295, st := false, ca := 0, pe := 0, bs := [] }
theorem new_inv : Inv St.new := ⟨by decide, fun _ => by decide, by decide, fun b hb => by cases hb⟩
theorem new_val : St.new.val = 0 := rfl
end Go.Proofs.Ybulkctsy
