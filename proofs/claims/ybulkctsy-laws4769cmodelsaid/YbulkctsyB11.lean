/-
  nat.cmp and big.Int's Cmp at two equal numbers.
-/
import Derived.Test.YbulkctsyB9
namespace Go.Proofs.Ybulkctsy
open Go.RowKit
set_option linter.unusedVariables false

theorem valF_inj {u u' : Nat → Nat} (hu : ∀ i, u i < 18446744073709551616) (hu' : ∀ i, u' i < 18446744073709551616) : ∀ n, valF u n = valF u' n → ∀ i, i < n → u i = u' i
  | 0, _, i, hi => absurd hi (Nat.not_lt_zero _)
  | n + 1, h, i, hi => by
    have l1 := valF_lt hu n
    have l2 := valF_lt hu' n
    rw [valF_succ, valF_succ] at h
    have hpos : 0 < 18446744073709551616 ^ n := Nat.pow_pos (by omega)
    have e1 : u n = u' n := by
      have a := congrArg (· / 18446744073709551616 ^ n) h
      simp only [Nat.add_mul_div_right _ _ hpos, Nat.div_eq_of_lt l1, Nat.div_eq_of_lt l2, Nat.zero_add] at a
      exact a
    have e2 : valF u n = valF u' n := by rw [e1] at h; omega
    rcases Nat.lt_or_ge i n with h' | h'
    · exact valF_inj hu hu' n e2 i h'
    · obtain rfl : i = n := by omega
      exact e1

theorem len_eq {u u' : Nat → Nat} (hu : ∀ i, u i < 18446744073709551616) (hu' : ∀ i, u' i < 18446744073709551616) {n n' : Nat} (h : valF u n = valF u' n') (ht : n = 0 ∨ u (n - 1) ≠ 0) (ht' : n' = 0 ∨ u' (n' - 1) ≠ 0) : n = n' := by
  have a := len_le (K := n') h ht (valF_lt hu' n')
  have b := len_le (K := n) h.symm ht' (valF_lt hu n)
  omega

set_option maxRecDepth 20000 in
set_option maxHeartbeats 400000 in
theorem cmp_zero (a b : Option Addr) (c d : Nat) (w : World) :
    Calls Yba.prog 20 #[.slice a 0 c, .slice b 0 d] w fun e w' => e = .returned (.int .i64 0) ∧ ∃ n, w' = w.drewN n := by
  go_enter Yba.func20, Yba.ntmps20
  go_wp2
  go_ret
  exact ⟨rfl, 0, rfl⟩

set_option maxRecDepth 20000 in
set_option maxHeartbeats 400000 in
theorem cmp_some (g g' M c d : Nat) (u : Nat → Nat) (hc : M + 1 ≤ c) (hd : M + 1 ≤ d) (hM : M ≤ 100000) (w : World) (hx : ∀ i, i < M + 1 → w.cell? ⟨g, i, none⟩ = some (.int .u64 ((u i : Nat) : Int))) (hy : ∀ i, i < M + 1 → w.cell? ⟨g', i, none⟩ = some (.int .u64 ((u i : Nat) : Int))) :
    Calls Yba.prog 20 #[.slice (some ⟨g, 0, none⟩) (M + 1) c, .slice (some ⟨g', 0, none⟩) (M + 1) d] w fun e w' => e = .returned (.int .i64 0) ∧ ∃ n, w' = w.drewN n := by
  have hM0 : ((M : Int) + 1 == 0) = false := by simp; omega
  have HX := hide hx
  have HY := hide hy
  clear hx hy
  go_enter Yba.func20, Yba.ntmps20
  go_wp2
  go_loopw [7] (fun t wr => ∃ i : Nat, i ≤ M ∧ t = .int .i64 (i : Int) ∧ Hid (∃ n, wr = w.drewN n)) (fun t _ => (intOf t).toNat)
  case atStart => exact ⟨M, Nat.le_refl _, rfl, hide ⟨0, rfl⟩⟩
  case round =>
    obtain ⟨i, hi, rfl, HW⟩ := hrel
    obtain ⟨x, EX⟩ : ∃ x : Int, Hid (((u i : Nat) : Int) = x) := ⟨_, hide rfl⟩
    have hA : wr.cell? ⟨g, i, none⟩ = some (.int .u64 x) := by
      obtain ⟨n, rfl⟩ := unhide HW
      rw [← unhide EX]
      exact (unhide HX) i (by omega)
    have hB : wr.cell? ⟨g', i, none⟩ = some (.int .u64 x) := by
      obtain ⟨n, rfl⟩ := unhide HW
      rw [← unhide EX]
      exact (unhide HY) i (by omega)
    have hxx : ¬ x < x := by omega
    by_cases h0 : i = 0
    · subst h0
      go_wp2
      go_quiet (fail)
      go_wp2
      go_quiet (fail)
      go_wp2
      go_quiet (fail)
      go_wp2
      go_ret
      obtain ⟨n, rfl⟩ := unhide HW
      refine ⟨rfl, ?_⟩
      simp only [World.drewN_drewN]
      exact ⟨_, rfl⟩
    · obtain ⟨k, rfl⟩ : ∃ k, i = k + 1 := ⟨i - 1, by omega⟩
      have hg : decide ((0 : Int) < ((k + 1 : Nat) : Int)) = true := by simp
      have hg2 : decide ((0 : Int) < (k : Int) + 1) = true := by simp
      have hk1 : (k : Int) + 1 < (M : Int) + 1 := by omega
      have hk2 : (k : Int) < (M : Int) := by omega
      have hk3 : (0 : Int) ≤ (k : Int) + 1 := by omega
      have hk4 : k < M := by omega
      go_wp2
      go_quiet (fail)
      go_wp2
      go_roundw
      case rel =>
        obtain ⟨n, rfl⟩ := unhide HW
        exact ⟨k, by omega, by go_num, hide ⟨_, by rw [World.drewN_drewN]⟩⟩
      case measure => simp [intOf]

theorem cmp_eq (v v' : Value) (N : Nat) (hN : N < 18446744073709551616 ^ 3000) (w : World) (h : NatV w v N) (h' : NatV w v' N) :
    Calls Yba.prog 20 #[v, v'] w fun e w' => e = .returned (.int .i64 0) ∧ ∃ n, w' = w.drewN n := by
  rcases h with ⟨rfl, rfl⟩ | ⟨g, n, c, u, rfl, hr, hn, hc, hv, ht⟩
  · rcases h' with ⟨rfl, _⟩ | ⟨g', n', c', u', rfl, hr', hn', hc', hv', ht'⟩
    · exact cmp_zero none none 0 0 w
    · have : n' = 0 := by
        have := len_le (K := 0) hv' ht' (by decide)
        omega
      subst this
      exact cmp_zero none _ 0 _ w
  · have hlen := len_le hv ht hN
    rcases h' with ⟨rfl, rfl⟩ | ⟨g', n', c', u', rfl, hr', hn', hc', hv', ht'⟩
    · have : n = 0 := by
        have := len_le (K := 0) hv ht (by decide)
        omega
      subst this
      exact cmp_zero _ none _ 0 w
    · have en := len_eq hr.2 hr'.2 (hv.trans hv'.symm) ht ht'
      subst en
      rcases Nat.eq_zero_or_pos n with h0 | h0
      · subst h0
        exact cmp_zero _ _ _ _ w
      · obtain ⟨M, rfl⟩ : ∃ M, n = M + 1 := ⟨n - 1, by omega⟩
        have hi := valF_inj hr.2 hr'.2 (M + 1) (hv.trans hv'.symm)
        exact cmp_some g g' M c c' u hn hn' (by omega) w (fun i hi => hr.cell (by omega)) (fun i h => by rw [hi i h]; exact hr'.cell (by omega))

theorem eql_int {a b : Addr} (hne : a ≠ b) (w : World) {ca cb : Array Value} {ta tb : TypeId} (ha : w.heap[a.block]? = some (.cells ca ta (0, 0))) (hb : w.heap[b.block]? = some (.cells cb tb (0, 0))) :
    (binOp .eql 25 (.pointer (some a)) (.pointer (some b))).run Yba.prog w = .ok (.bool false) w := by
  have info29 : (Yba.prog.info? 29).map (·.size) = some 2 := by kernel_rfl
  obtain ⟨j, hj, hz⟩ := Option.map_eq_some_iff.1 info29
  exact run_eql_ptr_other w Yba.underlying25 hj (by rw [hz]; decide) hne ha hb

set_option maxRecDepth 20000 in
set_option maxHeartbeats 400000 in
theorem Cmp_eq (I J N : Nat) (v v' : Value) (hIJ : I ≠ J) (hN : N < 18446744073709551616 ^ 3000) (w : World) (hI : IntAt w I v) (hJ : IntAt w J v') (h : NatV w v N) (h' : NatV w v' N) :
    Calls Yba.prog 11 #[.pointer (some ⟨I, 0, none⟩), .pointer (some ⟨J, 0, none⟩)] w fun e w' => e = .returned (.int .i64 0) ∧ ∃ n, w' = w.drewN n := by
  obtain ⟨a, n, c, hv⟩ := h.kind
  obtain ⟨a', n', c', hv'⟩ := h'.kind
  subst hv hv'
  have c1 := hI.c1
  have c0 := hI.c0
  have d1 := hJ.c1
  have d0 := hJ.c0
  have hp : (binOp .eql 25 (.pointer (some ⟨I, 0, none⟩)) (.pointer (some ⟨J, 0, none⟩))).run Yba.prog w = .ok (.bool false) w := by
    obtain ⟨ci, hci, _⟩ := hI
    obtain ⟨cj, hcj, _⟩ := hJ
    exact eql_int (fun h => hIJ (by injection h)) w hci hcj
  have HA := hide (fun W (hW : KB (fun _ => False) w W) => cmp_eq _ _ N hN W (h.kb hW (fun _ _ h => h)) (h'.kb hW (fun _ _ h => h)))
  clear hI hJ h h' hN
  go_enter Yba.func11, Yba.ntmps11
  go_wp2
  go_quiet (fail)
  clear hp
  obtain ⟨w2, HW⟩ : ∃ w2, Hid (w2 = w.drewN nq) := ⟨_, hide rfl⟩
  have HK2 : Hid (KB (fun _ => False) w w2) := hide (by rw [unhide HW]; exact (KB.refl _ _).drewN _)
  have c1' : w2.cell? ⟨I, 1, none⟩ = some (.slice a n c) := by rw [unhide HW]; exact c1
  have c0' : w2.cell? ⟨I, 0, none⟩ = some (.bool false) := by rw [unhide HW]; exact c0
  have d1' : w2.cell? ⟨J, 1, none⟩ = some (.slice a' n' c') := by rw [unhide HW]; exact d1
  rw [← unhide HW]
  clear c1 c0 d1 d0
  go_wp2
  go_quiet ((go_at_call 20; exact Calls.quiet_of ((unhide HA) _ ((unhide HK2).drewN _))))
  go_wp2
  go_ret
  refine ⟨rfl, ?_⟩
  rw [unhide HW]
  simp only [World.drewN_drewN]
  exact ⟨_, rfl⟩
end Go.Proofs.Ybulkctsy
