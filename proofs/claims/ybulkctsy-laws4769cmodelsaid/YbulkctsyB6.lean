/-
  nat.lsh in place: its walk.
-/
import Derived.Test.YbulkctsyB5
namespace Go.Proofs.Ybulkctsy
open Go.RowKit
set_option linter.unusedVariables false

theorem lshVU_enters (args : Array Value) (w : World) : (callFunc 39 args).run Yba.prog w = .ok (.enter 15 args) w :=
  run_callFunc_twin (twin := Yba.f15.name) Yba.func39 (by kernel_rfl) (by kernel_rfl) (by kernel_rfl) (by kernel_rfl) Yba.func15 (by kernel_rfl) (by kernel_rfl) (by kernel_rfl) args w
theorem addVV_enters (args : Array Value) (w : World) : (callFunc 29 args).run Yba.prog w = .ok (.enter 13 args) w :=
  run_callFunc_twin (twin := Yba.f13.name) Yba.func29 (by kernel_rfl) (by kernel_rfl) (by kernel_rfl) (by kernel_rfl) Yba.func13 (by kernel_rfl) (by kernel_rfl) (by kernel_rfl) args w

set_option maxRecDepth 20000 in
set_option maxHeartbeats 400000 in
theorem lsh_zero (a : Option Addr) (cap s : Nat) (hs1 : 1 ≤ s) (hs2 : s ≤ 63) (w : World) :
    Calls Yba.prog 23 #[.slice a 0 cap, .slice a 0 cap, .int .u64 (s : Int)] w fun e w' => e = .returned (.slice a 0 cap) ∧ w' = w := by
  have hs0 : ((s : Int) == 0) = false := by simp; omega
  go_enter Yba.func23, Yba.ntmps23
  go_wp2
  go_ret
  exact ⟨rfl, rfl⟩

/-- nat.make, either way. -/
theorem make_any (g n zl cap : Nat) (u : Nat → Nat) (Z : Int) (hZ : Z = (n : Int)) (hN : n ≤ 4000) (hcap : cap ≤ 5000) (w : World) (hr : WRow w g cap u) :
    Calls Yba.prog 28 #[.slice (some ⟨g, 0, none⟩) zl cap, .int .i64 Z] w fun e w' => ∃ gz cz uz, e = .returned (.slice (some ⟨gz, 0, none⟩) n cz) ∧ n ≤ cz ∧ cz ≤ 5000 ∧ WRow w' gz cz uz ∧ WRow w' g cap u ∧ KB (fun _ => False) w w' ∧ ((gz = g ∧ cz = cap ∧ uz = u) ∨ (w.heap.size ≤ gz ∧ gz ≠ g)) := by
  subst hZ
  by_cases h : n ≤ cap
  · refine (make_room (some ⟨g, 0, none⟩) n zl cap h w).mono ?_
    rintro e w' ⟨rfl, rfl⟩
    exact ⟨g, cap, u, rfl, h, hcap, hr, hr, KB.refl _ _, .inl ⟨rfl, rfl, rfl⟩⟩
  · refine (make_new (some ⟨g, 0, none⟩) n zl cap (by omega) (by omega) w).mono ?_
    rintro e w' ⟨c, rfl, h1, h2, rfl⟩
    exact ⟨w.heap.size, c, fun _ => 0, rfl, h1, by omega, made_row w c, hr.alloc _, (KB.refl _ _).alloc _, .inr ⟨Nat.le_refl _, by have := hr.lt; omega⟩⟩

theorem slice_0 (t : TypeId) (ht : Yba.prog.underlying t = some (.slice 54)) (g n cap h : Nat) (hh : h ≤ cap) (hc : 0 < cap) (Z : Int) (hZ : Z = (h : Int)) (w : World) :
    (Instr.slice t (.slice (some ⟨g, 0, none⟩) n cap) (some (.int .i64 0)) (some (.int .i64 Z)) none).run Yba.prog w = .ok (.slice (some ⟨g, 0, none⟩) h cap) w := by
  subst hZ
  have h1 : (h : Int) ≤ (cap : Int) := by omega
  have h3 : (0 : Int) ≤ (h : Int) := by omega
  have h4 := sz54
  go_simp

theorem blk_eq {g n cap b : Nat} (h : Blk (.slice (some ⟨g, 0, none⟩) n cap) b) : b = g := by
  obtain ⟨n', c', h⟩ := h
  injection h with h1
  injection h1 with h2
  injection h2 with h3
  exact h3.symm
theorem clear_none (a : Option Addr) (c : Nat) (ty : TypeId) (w : World) : (Builtin.clear_ #[27] ty #[.slice a 0 c]).run Yba.prog w = .ok (.tuple #[]) w := by
  cases a <;> simp [Builtin.clear_, run_underlying Yba.underlying27]

/-- What norm leaves is a nat. -/
theorem natV_norm {w : World} {g n m cap N : Nat} {u : Nat → Nat} (hr : WRow w g cap u) (hc : cap ≤ 5000) (hn : n ≤ cap) (hm : m ≤ n) (hz : ∀ i, m ≤ i → i < n → u i = 0) (ht : m = 0 ∨ u (m - 1) ≠ 0) (hN : valF u n = N) :
    NatV w (.slice (some ⟨g, 0, none⟩) m cap) N :=
  .inr ⟨g, m, cap, u, rfl, hr, by omega, hc, by rw [← hN]; exact (val_zero_tail n hm hz).symm, ht⟩

set_option maxRecDepth 20000 in
set_option maxHeartbeats 400000 in
theorem lsh_some (g M cap s : Nat) (u : Nat → Nat) (hs1 : 1 ≤ s) (hs2 : s ≤ 63) (hn : M + 1 ≤ cap) (hM : M ≤ 3000) (hmax : cap ≤ 5000) (w : World) (hr : WRow w g cap u) (htop : u M ≠ 0) :
    Calls Yba.prog 23 #[.slice (some ⟨g, 0, none⟩) (M + 1) cap, .slice (some ⟨g, 0, none⟩) (M + 1) cap, .int .u64 (s : Int)] w fun e w' => ∃ v, e = .returned v ∧ NatV w' v (valF u (M + 1) * 2 ^ s) ∧ KB (fun x => x = g) w w' ∧ ∀ b, Blk v b → b = g ∨ w.heap.size ≤ b := by
  have hs0 : ((s : Int) == 0) = false := by simp; omega
  have hM0 : ((M : Int) + 1 == 0) = false := by simp; omega
  have hq : (s : Int) / 64 = 0 := by omega
  have hrm : (s : Int) % 64 = (s : Int) := by omega
  have hen := fun args w => lshVU_enters args w
  have HR := hide hr
  have HT := hide htop
  clear hr htop
  go_enter Yba.func23, Yba.ntmps23
  go_wp2_with fail
  refine (make_any g (M + 2) _ cap u _ (by omega) (by omega) hmax _ (unhide HR)).mono ?_
  rintro e w1 ⟨gz, cz, uz, rfl, hcz1, hcz2, hrz, hrx, hk1, hg⟩
  have HZ := hide hrz
  have HX := hide hrx
  have HK1 := hide hk1
  have HG := hide hg
  have hsl := fun w => slice_0 27 Yba.underlying27 gz (M + 2) cz (M + 1) (by omega) (by omega) ((M : Int) + 1) (by omega) w
  have hsl0 := fun w => slice_0 27 Yba.underlying27 gz (M + 2) cz 0 (by omega) (by omega) 0 rfl w
  have hczZ : (M : Int) + 1 < ((M + 2 : Nat) : Int) := by omega
  have hcMZ : (M : Int) + 1 < (M : Int) + 2 := by omega
  have hcl := fun ty w => clear_none (some ⟨gz, 0, none⟩) cz ty w
  clear hrz hrx hk1 hg
  go_wp2_with (go_at_call 15; refine (lshVU_any gz g (M + 1) cz cap cz u uz s hs1 hs2 (by omega) (by omega) (by omega) _ (unhide HZ) (unhide HX).2 (fun j hj => (unhide HX).cell (by omega))).mono ?_; rintro e w2 ⟨rfl, hr2, hk2⟩; have HR2 := hide hr2; have HK2 := hide hk2; have hcz0 := hr2.cell (i := M + 1) (by omega); have hfz0 := hr2.frozen (M + 1); clear hr2 hk2)
  have ec : ((u M : Nat) : Int) / 2 ^ (64 - s) = ((u M / 2 ^ (64 - s) : Nat) : Int) := by simp
  rw [ec]
  clear ec
  have hr3 := (unhide HR2).set (M + 1) (u M / 2 ^ (64 - s)) (Nat.lt_of_le_of_lt (Nat.div_le_self _ _) ((unhide HX).2 M))
  have hk3 := (unhide HK2).setCell ⟨gz, M + 1, none⟩ (.int .u64 ((u M / 2 ^ (64 - s) : Nat) : Int)) (fun _ => rfl)
  refine (norm_any gz (M + 2) cz _ hcz1 (by omega) _ hr3).mono ?_
  rintro e w4 ⟨m, rfl, hm, hzz, htt, hr4, hk4⟩
  clear hcz0 hfz0 hr3
  go_wp2
  go_ret
  have hK : KB (fun x => x = g) w w4 := by
    have a1 : KB (fun x => x = g) w w1 := (unhide HK1).mono (fun _ _ h => h.elim)
    refine (a1.trans (hk3.trans hk4 (fun _ _ h => h.elim)) ?_)
    intro x hx e
    rcases unhide HG with ⟨h, _⟩ | ⟨h, _⟩
    · rw [e, h]
    · omega
  refine ⟨.slice (some ⟨gz, 0, none⟩) m cz, rfl, natV_norm hr4 hcz2 hcz1 hm hzz htt ?_, hK, ?_⟩
  · have := lsh_val u (s := s) (by omega) M
    rw [valF_succ, if_pos rfl, ← this]
    congr 1
    refine valF_congr (fun j hj => ?_)
    rw [if_neg (by omega)]
    exact if_pos ⟨Nat.zero_le _, hj⟩
  · intro b hb
    obtain rfl := blk_eq hb
    rcases unhide HG with ⟨h', _⟩ | ⟨h', _⟩
    · exact .inl h'
    · exact .inr h'

/-- nat.lsh in place, whatever the number. -/
theorem lsh_any (v : Value) (N s : Nat) (hs1 : 1 ≤ s) (hs2 : s ≤ 63) (hN : N < 18446744073709551616 ^ 3000) (w : World) (h : NatV w v N) :
    Calls Yba.prog 23 #[v, v, .int .u64 (s : Int)] w fun e w' => ∃ v', e = .returned v' ∧ NatV w' v' (N * 2 ^ s) ∧ KB (Blk v) w w' ∧ ∀ b, Blk v' b → Blk v b ∨ w.heap.size ≤ b := by
  rcases h with ⟨rfl, rfl⟩ | ⟨g, n, cap, u, rfl, hr, hn, hc, hv, ht⟩
  · refine (lsh_zero none 0 s hs1 hs2 w).mono ?_
    rintro e w' ⟨rfl, rfl⟩
    exact ⟨_, rfl, .inl ⟨rfl, by omega⟩, KB.refl _ _, fun b h => .inl h⟩
  · have hlen := len_le hv ht hN
    rcases Nat.eq_zero_or_pos n with h0 | h0
    · subst h0
      refine (lsh_zero (some ⟨g, 0, none⟩) cap s hs1 hs2 w).mono ?_
      rintro e w' ⟨rfl, rfl⟩
      have : N = 0 := by rw [← hv]; rfl
      subst this
      exact ⟨_, rfl, .inr ⟨g, 0, cap, u, rfl, hr, hn, hc, by rw [Nat.zero_mul]; rfl, .inl rfl⟩, KB.refl _ _, fun b h => .inl h⟩
    · obtain ⟨M, rfl⟩ : ∃ M, n = M + 1 := ⟨n - 1, by omega⟩
      refine (lsh_some g M cap s u hs1 hs2 hn (by omega) hc w hr (by have := ht.resolve_left (by omega); simpa using this)).mono ?_
      rintro e w' ⟨v, rfl, h1, h2, h3⟩
      rw [hv] at h1
      refine ⟨v, rfl, h1, h2.mono (fun x _ e => e ▸ ⟨_, _, rfl⟩), fun b hb => ?_⟩
      rcases h3 b hb with rfl | h
      · exact .inl ⟨_, _, rfl⟩
      · exact .inr h
end Go.Proofs.Ybulkctsy
