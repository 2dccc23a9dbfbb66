/-
  THE LAW 'BUILT': its walk, the long inputs and the two hints.
-/
import Derived.Test.YbulkctnaFmtW4
import Derived.Test.YbulkctnaFmtPlain2
import Derived.OwnWalk
namespace Go.Proofs.YbulkctnaFmt
open Go.RowKit Go.Extern.Stop Go.Stop Go.Extern
set_option linter.unusedVariables false

set_option maxHeartbeats 400000 in
theorem built_long (a0 a3 : Int) (ad1 ad2 : Option Addr) (n1 c1 n2 c2 : Nat) (w : World) (h : 300 < n1 ∨ 300 < n2) :
    Calls Ybaf.prog 4 #[.int .u8 a0, .slice ad1 n1 c1, .slice ad2 n2 c2, .int .u8 a3] w fun e w' => e = .returned (.bool true) ∧ Below w.heap.size w w' := by
  by_cases h1 : 300 < n1
  · have h1Z : (300 : Int) < (n1 : Int) := by omega
    clear h
    go_enter Ybaf.func4, Ybaf.ntmps4
    go_wp2
    go_ret
    exact ⟨rfl, Below.refl _ _⟩
  · have h1Z : ¬ (300 : Int) < (n1 : Int) := by omega
    have h2Z : (300 : Int) < (n2 : Int) := by omega
    clear h
    go_enter Ybaf.func4, Ybaf.ntmps4
    go_wp2
    go_ret
    exact ⟨rfl, Below.refl _ _⟩

/-- Bytes as values. -/
def bvals (l : Svc.Bytes) : List Value := l.map fun b => .int .u8 b.toNat
theorem bvals_append (a b : Svc.Bytes) : bvals (a ++ b) = bvals a ++ bvals b := by simp [bvals]
theorem bvals_length (a : Svc.Bytes) : (bvals a).length = a.length := by simp [bvals]
theorem Ybaf.info5 : (Ybaf.prog.info? 5).map (fun i => (i.zero, i.size, i.bytes)) = some (some (.int .u8 0), 1, 1) := by kernel_rfl

theorem own_lt {w : World} {base e n : Nat} {v : Value} {xs : List Value} (h : w.ownsRow base e 1 v n xs) (hn : 0 < n) :
    ∃ g cap, v = .slice (some ⟨g, 0, none⟩) n cap ∧ base ≤ g ∧ g < w.heap.size ∧ n ≤ cap ∧ ∀ i u, xs[i]? = some u → w.cell? ⟨g, i, none⟩ = some u := by
  obtain ⟨h1, h2 | ⟨g, cap, cur, rfl, hg, hh, hnc, _, hc, ht⟩⟩ := h
  · omega
  refine ⟨g, cap, rfl, hg, lt_of_block hh, hnc, fun i u hu => ?_⟩
  have h3 : cur[i]? = some u := by
    rw [← ht, List.getElem?_take] at hu
    split at hu
    · simpa using hu
    · simp at hu
  simp [World.cell?, hh, h3]
theorem bcells_of_own {w : World} {base n : Nat} {v : Value} {L : Svc.Bytes} (h : w.ownsRow base 5 1 v n (bvals L)) :
    ∃ ad cap, v = .slice ad L.length cap ∧ L.length ≤ cap ∧ BCells w ad L := by
  have hn : n = L.length := by have := h.1; rw [bvals_length] at this; omega
  subst hn
  by_cases h0 : 0 < L.length
  · obtain ⟨g, cap, rfl, _, hlt, hc, hcell⟩ := own_lt h h0
    refine ⟨_, _, rfl, hc, fun i hi => ⟨g, 0, rfl, hlt, ?_⟩⟩
    rw [Nat.zero_add]
    refine hcell i _ ?_
    simp [bvals, hi]
  · have e0 : L = [] := by cases L with | nil => rfl | cons _ _ => simp at h0
    subst e0
    obtain ⟨_, ⟨rfl, _⟩ | ⟨g, cap, cur, rfl, _⟩⟩ := h
    · exact ⟨none, 0, rfl, Nat.le_refl _, fun i hi => by simp at hi⟩
    · exact ⟨_, cap, rfl, by simp, fun i hi => by simp at hi⟩
theorem one_int (n : Int) : ∀ u, u ∈ [Value.int .u8 n] → u.oneCell' = true := by
  intro u hu; simp at hu; subst hu; rfl
theorem below_app {w wr w1 : World} {o : Obj} {e n : Nat} {v : Value} {xs : List Value} (hbl : Below w.heap.size w wr) (hown : wr.ownsRow w.heap.size e 1 v n xs) (hg : (wr.alloc o).grownBy w1 v.ownBlock) : Below w.heap.size w w1 :=
  (hbl.alloc hbl.size o).grown hg (by have := hbl.size; simp; omega) (fun k hk => (hown.lt k hk).1)
theorem own_below {w w' : World} {base e size n : Nat} {v : Value} {xs : List Value} (h : w.ownsRow base e size v n xs) (hb : Below w.heap.size w w') : w'.ownsRow base e size v n xs :=
  h.kept (row := none) ⟨hb.os, hb.tape, hb.output, hb.size, fun k hk _ => hb.block k hk⟩ (by cases hv : v.ownBlock <;> simp)

set_option maxRecDepth 20000 in
set_option maxHeartbeats 800000 in
/-- The IPv4 hint: n addresses of four zero bytes; then one byte too many. -/
theorem built_2_zero (F : Interp) (a0 a3 : Int) (h30 : 0 ≤ a3) (h31 : a3 ≤ 255) (h00 : 0 ≤ a0) (h01 : a0 ≤ 255) (hs : a0 % 4 = 2) (hn : a3 % 20 = 0) (ad1 ad2 : Option Addr) (n1 c1 n2 c2 : Nat) (hn1 : n1 ≤ 300) (hn2 : n2 ≤ 300) (w : World) (hE : Env F w) :
    Calls Ybaf.prog 4 #[.int .u8 a0, .slice ad1 n1 c1, .slice ad2 n2 c2, .int .u8 a3] w fun e w' => e = .returned (.bool true) ∧ Below w.heap.size w w' := by
  obtain ⟨i0, hi, hz0, hz1, hz2⟩ := info_parts Ybaf.info5
  have HE := hide hE
  have h1Z : ¬ (300 : Int) < (n1 : Int) := by omega
  have h2Z : ¬ (300 : Int) < (n2 : Int) := by omega
  have s0 : (a0 % 4 == 0) = false := by rw [hs]; rfl
  have s1 : (a0 % 4 == 1) = false := by rw [hs]; rfl
  have s2 : (a0 % 4 == 2) = true := by rw [hs]; rfl
  obtain ⟨n, HN⟩ : ∃ n : Nat, Hid (a3 % 20 = (n : Int)) := ⟨(a3 % 20).toNat, hide (by omega)⟩
  have hnb : n < 20 := by have := unhide HN; omega
  have hnz : n = 0 := by have := unhide HN; omega
  have HNZ := hide hnz
  have hgt : ¬ ((0 : Int) < a3 % 20) := by omega
  clear hE hs hn hnz
  go_enter Ybaf.func4, Ybaf.ntmps4
  go_wp2_with (at_make; refine wpList_make_full _ rfl _ _ 23 rfl w.heap.size 5 i0 (.int .u8 0) 1 Ybaf.underlying23 hi hz0 hz1 .i64 .i64 _ _ (4 * n) rfl rfl (by have := unhide HN; omega) (by have := unhide HN; omega) (by rw [hz2]; omega) (by unfold maxLen; omega) (Nat.le_refl _) ?_; intro w1 hown1 hgrow1)
  have hb1 : Below w.heap.size w w1 := (Below.refl _ _).grown hgrow1 (Nat.le_refl _) (fun k hk => by cases hk)
  have HE1 := hide ((unhide HE).below hb1)
  have hnz := unhide HNZ
  refine (check_4_no F _ _ _ (.inl (by omega)) (by omega) _ (by exact (unhide HE1).ans)).mono ?_
  rintro e w2 ⟨⟨p, rfl⟩, hb2⟩
  have HE2 := hide ((unhide HE1).below hb2)
  have hown2 := own_below hown1 hb2
  have hb12 := hb1.trans (hb2.mono hb1.size)
  have hbs := hb12.size
  clear hgrow1 hnz
  go_wp2_with (at_builtin; refine wpList_append_own _ rfl _ _ 23 rfl w.heap.size 5 i0 (.int .u8 0) 1 1 Ybaf.underlying23 hi hz0 hz1 hz2 rfl (by decide) _ _ _ rfl (hown2.alloc _) ⟨w2.heap.size, 0, none⟩ 1 1 [.int .u8 1] rfl rfl (cell_one_new _ _ _) (one_int _) (by unfold maxLen; omega) (by omega) (by simp; omega) ?_; intro v' w3 hown3 hgrow3 _)
  have hb3 := below_app hb12 hown2 hgrow3
  obtain ⟨g, cap, hv, _⟩ := own_lt hown3 (by omega)
  rw [hv]
  have HE3 := hide ((unhide HE).below hb3)
  go_wp2_with fail
  refine (check_4_no F _ _ _ (.inr (by omega)) (by omega) _ (by exact (unhide HE3).ans)).mono ?_
  rintro e w4 ⟨⟨p', rfl⟩, hb4⟩
  go_wp2
  go_ret
  exact ⟨rfl, hb3.trans (hb4.mono hb3.size)⟩
set_option maxRecDepth 20000 in
set_option maxHeartbeats 800000 in
/-- The IPv4 hint: n addresses of four zero bytes; then one byte too many. -/
theorem built_2_pos (F : Interp) (a0 a3 : Int) (h30 : 0 ≤ a3) (h31 : a3 ≤ 255) (h00 : 0 ≤ a0) (h01 : a0 ≤ 255) (hs : a0 % 4 = 2) (hn : 0 < a3 % 20) (ad1 ad2 : Option Addr) (n1 c1 n2 c2 : Nat) (hn1 : n1 ≤ 300) (hn2 : n2 ≤ 300) (w : World) (hE : Env F w) :
    Calls Ybaf.prog 4 #[.int .u8 a0, .slice ad1 n1 c1, .slice ad2 n2 c2, .int .u8 a3] w fun e w' => e = .returned (.bool true) ∧ Below w.heap.size w w' := by
  obtain ⟨i0, hi, hz0, hz1, hz2⟩ := info_parts Ybaf.info5
  have HE := hide hE
  have h1Z : ¬ (300 : Int) < (n1 : Int) := by omega
  have h2Z : ¬ (300 : Int) < (n2 : Int) := by omega
  have s0 : (a0 % 4 == 0) = false := by rw [hs]; rfl
  have s1 : (a0 % 4 == 1) = false := by rw [hs]; rfl
  have s2 : (a0 % 4 == 2) = true := by rw [hs]; rfl
  obtain ⟨n, HN⟩ : ∃ n : Nat, Hid (a3 % 20 = (n : Int)) := ⟨(a3 % 20).toNat, hide (by omega)⟩
  have hnb : n < 20 := by have := unhide HN; omega
  have hnz : 0 < n := by have := unhide HN; omega
  have HNZ := hide hnz
  have hgt : (0 : Int) < a3 % 20 := by omega
  clear hE hs hn hnz
  go_enter Ybaf.func4, Ybaf.ntmps4
  go_wp2_with (at_make; refine wpList_make_full _ rfl _ _ 23 rfl w.heap.size 5 i0 (.int .u8 0) 1 Ybaf.underlying23 hi hz0 hz1 .i64 .i64 _ _ (4 * n) rfl rfl (by have := unhide HN; omega) (by have := unhide HN; omega) (by rw [hz2]; omega) (by unfold maxLen; omega) (Nat.le_refl _) ?_; intro w1 hown1 hgrow1)
  have hb1 : Below w.heap.size w w1 := (Below.refl _ _).grown hgrow1 (Nat.le_refl _) (fun k hk => by cases hk)
  have HE1 := hide ((unhide HE).below hb1)
  have hnz := unhide HNZ
  refine (check_4_ok _ _ _ (by omega) (by omega) (by omega) _).mono ?_
  rintro e w2 ⟨rfl, rfl⟩
  have hb2 := Below.refl w2.heap.size w2
  have HE2 := hide ((unhide HE1).below hb2)
  have hown2 := own_below hown1 hb2
  have hb12 := hb1.trans (hb2.mono hb1.size)
  have hbs := hb12.size
  clear hgrow1 hnz
  go_wp2_with (at_builtin; refine wpList_append_own _ rfl _ _ 23 rfl w.heap.size 5 i0 (.int .u8 0) 1 1 Ybaf.underlying23 hi hz0 hz1 hz2 rfl (by decide) _ _ _ rfl (hown2.alloc _) ⟨w2.heap.size, 0, none⟩ 1 1 [.int .u8 1] rfl rfl (cell_one_new _ _ _) (one_int _) (by unfold maxLen; omega) (by omega) (by simp; omega) ?_; intro v' w3 hown3 hgrow3 _)
  have hb3 := below_app hb12 hown2 hgrow3
  obtain ⟨g, cap, hv, _⟩ := own_lt hown3 (by omega)
  rw [hv]
  have HE3 := hide ((unhide HE).below hb3)
  go_wp2_with fail
  refine (check_4_no F _ _ _ (.inr (by omega)) (by omega) _ (by exact (unhide HE3).ans)).mono ?_
  rintro e w4 ⟨⟨p', rfl⟩, hb4⟩
  go_wp2
  go_ret
  exact ⟨rfl, hb3.trans (hb4.mono hb3.size)⟩
set_option maxRecDepth 20000 in
set_option maxHeartbeats 800000 in
/-- The IPv6 hint: n addresses of sixteen zero bytes; then one byte too many. -/
theorem built_3_zero (F : Interp) (a0 a3 : Int) (h30 : 0 ≤ a3) (h31 : a3 ≤ 255) (h00 : 0 ≤ a0) (h01 : a0 ≤ 255) (hs : a0 % 4 = 3) (hn : a3 % 20 = 0) (ad1 ad2 : Option Addr) (n1 c1 n2 c2 : Nat) (hn1 : n1 ≤ 300) (hn2 : n2 ≤ 300) (w : World) (hE : Env F w) :
    Calls Ybaf.prog 4 #[.int .u8 a0, .slice ad1 n1 c1, .slice ad2 n2 c2, .int .u8 a3] w fun e w' => e = .returned (.bool true) ∧ Below w.heap.size w w' := by
  obtain ⟨i0, hi, hz0, hz1, hz2⟩ := info_parts Ybaf.info5
  have HE := hide hE
  have h1Z : ¬ (300 : Int) < (n1 : Int) := by omega
  have h2Z : ¬ (300 : Int) < (n2 : Int) := by omega
  have s0 : (a0 % 4 == 0) = false := by rw [hs]; rfl
  have s1 : (a0 % 4 == 1) = false := by rw [hs]; rfl
  have s2 : (a0 % 4 == 2) = false := by rw [hs]; rfl
  obtain ⟨n, HN⟩ : ∃ n : Nat, Hid (a3 % 20 = (n : Int)) := ⟨(a3 % 20).toNat, hide (by omega)⟩
  have hnb : n < 20 := by have := unhide HN; omega
  have hnz : n = 0 := by have := unhide HN; omega
  have HNZ := hide hnz
  have hgt : ¬ ((0 : Int) < a3 % 20) := by omega
  clear hE hs hn hnz
  go_enter Ybaf.func4, Ybaf.ntmps4
  go_wp2_with (at_make; refine wpList_make_full _ rfl _ _ 23 rfl w.heap.size 5 i0 (.int .u8 0) 1 Ybaf.underlying23 hi hz0 hz1 .i64 .i64 _ _ (16 * n) rfl rfl (by have := unhide HN; omega) (by have := unhide HN; omega) (by rw [hz2]; omega) (by unfold maxLen; omega) (Nat.le_refl _) ?_; intro w1 hown1 hgrow1)
  have hb1 : Below w.heap.size w w1 := (Below.refl _ _).grown hgrow1 (Nat.le_refl _) (fun k hk => by cases hk)
  have HE1 := hide ((unhide HE).below hb1)
  have hnz := unhide HNZ
  refine (check_6_no F _ _ _ (.inl (by omega)) (by omega) _ (by exact (unhide HE1).ans)).mono ?_
  rintro e w2 ⟨⟨p, rfl⟩, hb2⟩
  have HE2 := hide ((unhide HE1).below hb2)
  have hown2 := own_below hown1 hb2
  have hb12 := hb1.trans (hb2.mono hb1.size)
  have hbs := hb12.size
  clear hgrow1 hnz
  go_wp2_with (at_builtin; refine wpList_append_own _ rfl _ _ 23 rfl w.heap.size 5 i0 (.int .u8 0) 1 1 Ybaf.underlying23 hi hz0 hz1 hz2 rfl (by decide) _ _ _ rfl (hown2.alloc _) ⟨w2.heap.size, 0, none⟩ 1 1 [.int .u8 1] rfl rfl (cell_one_new _ _ _) (one_int _) (by unfold maxLen; omega) (by omega) (by simp; omega) ?_; intro v' w3 hown3 hgrow3 _)
  have hb3 := below_app hb12 hown2 hgrow3
  obtain ⟨g, cap, hv, _⟩ := own_lt hown3 (by omega)
  rw [hv]
  have HE3 := hide ((unhide HE).below hb3)
  go_wp2_with fail
  refine (check_6_no F _ _ _ (.inr (by omega)) (by omega) _ (by exact (unhide HE3).ans)).mono ?_
  rintro e w4 ⟨⟨p', rfl⟩, hb4⟩
  go_wp2
  go_ret
  exact ⟨rfl, hb3.trans (hb4.mono hb3.size)⟩
set_option maxRecDepth 20000 in
set_option maxHeartbeats 800000 in
/-- The IPv6 hint: n addresses of sixteen zero bytes; then one byte too many. -/
theorem built_3_pos (F : Interp) (a0 a3 : Int) (h30 : 0 ≤ a3) (h31 : a3 ≤ 255) (h00 : 0 ≤ a0) (h01 : a0 ≤ 255) (hs : a0 % 4 = 3) (hn : 0 < a3 % 20) (ad1 ad2 : Option Addr) (n1 c1 n2 c2 : Nat) (hn1 : n1 ≤ 300) (hn2 : n2 ≤ 300) (w : World) (hE : Env F w) :
    Calls Ybaf.prog 4 #[.int .u8 a0, .slice ad1 n1 c1, .slice ad2 n2 c2, .int .u8 a3] w fun e w' => e = .returned (.bool true) ∧ Below w.heap.size w w' := by
  obtain ⟨i0, hi, hz0, hz1, hz2⟩ := info_parts Ybaf.info5
  have HE := hide hE
  have h1Z : ¬ (300 : Int) < (n1 : Int) := by omega
  have h2Z : ¬ (300 : Int) < (n2 : Int) := by omega
  have s0 : (a0 % 4 == 0) = false := by rw [hs]; rfl
  have s1 : (a0 % 4 == 1) = false := by rw [hs]; rfl
  have s2 : (a0 % 4 == 2) = false := by rw [hs]; rfl
  obtain ⟨n, HN⟩ : ∃ n : Nat, Hid (a3 % 20 = (n : Int)) := ⟨(a3 % 20).toNat, hide (by omega)⟩
  have hnb : n < 20 := by have := unhide HN; omega
  have hnz : 0 < n := by have := unhide HN; omega
  have HNZ := hide hnz
  have hgt : (0 : Int) < a3 % 20 := by omega
  clear hE hs hn hnz
  go_enter Ybaf.func4, Ybaf.ntmps4
  go_wp2_with (at_make; refine wpList_make_full _ rfl _ _ 23 rfl w.heap.size 5 i0 (.int .u8 0) 1 Ybaf.underlying23 hi hz0 hz1 .i64 .i64 _ _ (16 * n) rfl rfl (by have := unhide HN; omega) (by have := unhide HN; omega) (by rw [hz2]; omega) (by unfold maxLen; omega) (Nat.le_refl _) ?_; intro w1 hown1 hgrow1)
  have hb1 : Below w.heap.size w w1 := (Below.refl _ _).grown hgrow1 (Nat.le_refl _) (fun k hk => by cases hk)
  have HE1 := hide ((unhide HE).below hb1)
  have hnz := unhide HNZ
  refine (check_6_ok _ _ _ (by omega) (by omega) (by omega) _).mono ?_
  rintro e w2 ⟨rfl, rfl⟩
  have hb2 := Below.refl w2.heap.size w2
  have HE2 := hide ((unhide HE1).below hb2)
  have hown2 := own_below hown1 hb2
  have hb12 := hb1.trans (hb2.mono hb1.size)
  have hbs := hb12.size
  clear hgrow1 hnz
  go_wp2_with (at_builtin; refine wpList_append_own _ rfl _ _ 23 rfl w.heap.size 5 i0 (.int .u8 0) 1 1 Ybaf.underlying23 hi hz0 hz1 hz2 rfl (by decide) _ _ _ rfl (hown2.alloc _) ⟨w2.heap.size, 0, none⟩ 1 1 [.int .u8 1] rfl rfl (cell_one_new _ _ _) (one_int _) (by unfold maxLen; omega) (by omega) (by simp; omega) ?_; intro v' w3 hown3 hgrow3 _)
  have hb3 := below_app hb12 hown2 hgrow3
  obtain ⟨g, cap, hv, _⟩ := own_lt hown3 (by omega)
  rw [hv]
  have HE3 := hide ((unhide HE).below hb3)
  go_wp2_with fail
  refine (check_6_no F _ _ _ (.inr (by omega)) (by omega) _ (by exact (unhide HE3).ans)).mono ?_
  rintro e w4 ⟨⟨p', rfl⟩, hb4⟩
  go_wp2
  go_ret
  exact ⟨rfl, hb3.trans (hb4.mono hb3.size)⟩
end Go.Proofs.YbulkctnaFmt
