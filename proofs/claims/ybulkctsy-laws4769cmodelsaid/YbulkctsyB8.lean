/-
  nat.add: its walk.
-/
import Derived.Test.YbulkctsyB7
namespace Go.Proofs.Ybulkctsy
open Go.RowKit
set_option linter.unusedVariables false

theorem cs_congr {u u' : Nat → Nat} {c : Nat} : ∀ {i : Nat}, (∀ j, 1 ≤ j → j ≤ i → u j = u' j) → cs u c i = cs u' c i
  | 0, _ => rfl
  | i + 1, h => by rw [cs, cs, cs_congr (i := i) (fun j h1 h2 => h j h1 (by omega)), h (i + 1) (by omega) (Nat.le_refl _)]

/-- Where z's row is x's own, or another. -/
def Two (w : World) (gz gx capz capx L : Nat) (uz u : Nat → Nat) : Prop :=
  (gz = gx ∧ WRow w gz capz uz ∧ ∀ j, 1 ≤ j → j ≤ L → uz j = u j) ∨ (gz ≠ gx ∧ WRow w gz capz uz ∧ WRow w gx capx u)

theorem Two.drew {w : World} {gz gx capz capx L : Nat} {uz u : Nat → Nat} (h : Two w gz gx capz capx L uz u) : Two w.drew gz gx capz capx L uz u := by
  rcases h with ⟨h1, h2, h3⟩ | ⟨h1, h2, h3⟩
  · exact .inl ⟨h1, h2.drewN 1, h3⟩
  · exact .inr ⟨h1, h2.drewN 1, h3.drewN 1⟩

theorem addVW_both (gz gx L cz cx capz capx : Nat) (u uz : Nat → Nat) (c : Nat) (hc : c ≤ 1) (hL : 1 ≤ L) (hcz : L < cz) (hcx : L ≤ cx) (hcapz : 1 + L ≤ capz) (hcapx : 1 + L ≤ capx) (hmaxz : capz ≤ 100000) (hmax : capx ≤ 100000) (w : World)
    (h : Two w gz gx capz capx L uz u) :
    Calls Yba.prog 30 #[.slice (some ⟨gz, 1, none⟩) L cz, .slice (some ⟨gx, 1, none⟩) L cx, .int .u64 (c : Int)] w fun e w' =>
      e = .returned (.int .u64 (cs u c L : Int)) ∧ ∃ u', WRow w' gz capz u' ∧ u' 0 = uz 0 ∧ (∀ j, 1 ≤ j → j ≤ L → u' j = (u j + cs u c (j - 1)) % 18446744073709551616) ∧ KB (fun x => x = gz) w w' := by
  rcases h with ⟨rfl, hz, he⟩ | ⟨hne, hz, hx⟩
  · refine (addVW_same gz L cz cx capz uz c hc hL hcapz hmaxz w hz).mono ?_
    rintro e w' ⟨rfl, h1, h2⟩
    refine ⟨by rw [cs_congr he], _, h1, if_neg (by omega), fun j j1 j2 => ?_, h2⟩
    rw [addF, if_pos ⟨j1, by omega⟩, he j j1 j2, cs_congr (fun i i1 i2 => he i i1 (by omega))]
  · refine (addVW_other gz gx L cz cx capz capx u uz c hne hc hL hcz hcx hcapz hcapx hmax w hz hx).mono ?_
    rintro e w' ⟨rfl, h1, h2⟩
    refine ⟨rfl, _, h1, if_neg (by omega), fun j j1 j2 => ?_, h2⟩
    rw [addF, if_pos ⟨j1, by omega⟩]

theorem slice_hi (g n cap h : Nat) (hh : h ≤ cap) (hc : 0 < cap) (Z : Int) (hZ : Z = (h : Int)) (w : World) :
    (Instr.slice 27 (.slice (some ⟨g, 0, none⟩) n cap) none (some (.int .i64 Z)) none).run Yba.prog w = .ok (.slice (some ⟨g, 0, none⟩) h cap) w := by
  subst hZ
  have h1 : (h : Int) ≤ (cap : Int) := by omega
  have h3 : (0 : Int) ≤ (h : Int) := by omega
  have h4 := sz54
  go_simp

theorem slice_mid (g n cap h : Nat) (hh : h ≤ cap) (h1h : 1 ≤ h) (hc : 1 < cap) (Z : Int) (hZ : Z = (h : Int)) (w : World) :
    (Instr.slice 27 (.slice (some ⟨g, 0, none⟩) n cap) (some (.int .i64 1)) (some (.int .i64 Z)) none).run Yba.prog w = .ok (.slice (some ⟨g, 1, none⟩) (h - 1) (cap - 1)) w := by
  subst hZ
  have h1 : (h : Int) ≤ (cap : Int) := by omega
  have h2 : (1 : Int) ≤ (h : Int) := by omega
  have h3 : (0 : Int) ≤ (h : Int) := by omega
  have h4 := sz54
  go_simp
  omega

theorem slice_lo (g n cap : Nat) (hn : n ≤ cap) (h1n : 1 ≤ n) (hc : 1 < cap) (w : World) :
    (Instr.slice 27 (.slice (some ⟨g, 0, none⟩) n cap) (some (.int .i64 1)) none none).run Yba.prog w = .ok (.slice (some ⟨g, 1, none⟩) (n - 1) (cap - 1)) w := by
  have h1 : (n : Int) ≤ (cap : Int) := by omega
  have h2 : (1 : Int) ≤ (n : Int) := by omega
  have h4 := sz54
  go_simp
  omega

/-- The sum, once the carry is stored and norm has run. -/
theorem add_done {w : World} {gz cz M Y s k m : Nat} {u u' : Nat → Nat} (hs : (u 0 + Y) % 18446744073709551616 = s) (hk : (u 0 + Y) / 18446744073709551616 = k) (h0 : u' 0 = s)
    (h : ∀ j, 1 ≤ j → j ≤ M → u' j = (u j + cs u k (j - 1)) % 18446744073709551616)
    (hr : WRow w gz cz (fun j => if j = M + 1 then cs u k M else u' j)) (hc1 : M + 2 ≤ cz) (hc2 : cz ≤ 5000) (hm : m ≤ M + 2) (hz : ∀ i, m ≤ i → i < M + 2 → (if i = M + 1 then cs u k M else u' i) = 0)
    (ht : m = 0 ∨ (if m - 1 = M + 1 then cs u k M else u' (m - 1)) ≠ 0) : NatV w (.slice (some ⟨gz, 0, none⟩) m cz) (valF u (M + 1) + Y) := by
  refine natV_norm hr hc2 hc1 hm hz ht ?_
  have := add_val u u' Y k M (by rw [h0]; omega) h M (Nat.le_refl _)
  rw [valF_succ, if_pos rfl, ← this]
  congr 1
  refine valF_congr (fun j hj => ?_)
  rw [if_neg (by omega)]

set_option maxRecDepth 20000 in
set_option maxHeartbeats 800000 in
/-- nat.add in place, y of one word. -/
theorem add_words (g M cap gy cy Y : Nat) (u : Nat → Nat) (hn : M + 1 ≤ cap) (hM : M ≤ 3000) (hmax : cap ≤ 5000) (hcy : 1 ≤ cy) (hgy : gy ≠ g) (w : World) (hr : WRow w g cap u) (hy : WRow w gy cy (fun j => if j = 0 then Y else 0)) :
    Calls Yba.prog 19 #[.slice (some ⟨g, 0, none⟩) (M + 1) cap, .slice (some ⟨g, 0, none⟩) (M + 1) cap, .slice (some ⟨gy, 0, none⟩) 1 cy] w fun e w' => ∃ v, e = .returned v ∧ NatV w' v (valF u (M + 1) + Y) ∧ KB (fun x => x = g) w w' ∧ ∀ b, Blk v b → b = g ∨ w.heap.size ≤ b := by
  have hM0 : ((M : Int) + 1 == 0) = false := by simp; omega
  have hM1 : ¬ (M : Int) + 1 < 1 := by omega
  have hen := fun args w => addVV_enters args w
  have HR := hide hr
  have HY := hide hy
  clear hr hy
  go_enter Yba.func19, Yba.ntmps19
  go_wp2_with fail
  refine (make_any g (M + 2) _ cap u _ (by omega) (by omega) hmax _ (unhide HR)).mono ?_
  rintro e w1 ⟨gz, cz, uz, rfl, hcz1, hcz2, hrz, hrx, hk1, hg⟩
  have hyz : gy ≠ gz := by
    rcases hg with ⟨h, _⟩ | ⟨h, _⟩
    · rw [h]; exact hgy
    · have := (unhide HY).lt; omega
  have hry := (unhide HY).kb hk1 (fun h => h)
  have hs1 := fun w => slice_hi gz (M + 2) cz 1 (by omega) (by omega) 1 rfl w
  have hs2 := fun w => slice_hi g (M + 1) cap 1 (by omega) (by omega) 1 rfl w
  have hs3 := fun w => slice_hi gy 1 cy 1 (by omega) (by omega) 1 rfl w
  obtain ⟨s, hs⟩ : ∃ s, (u 0 + Y) % 18446744073709551616 = s := ⟨_, rfl⟩
  obtain ⟨k, hk⟩ : ∃ k, (u 0 + Y) / 18446744073709551616 = k := ⟨_, rfl⟩
  have hYlt : Y < 18446744073709551616 := by have := hry.2 0; simpa using this
  have hk1' : k ≤ 1 := by have := hrx.2 0; omega
  have HA := hide (fun W hW => addVV_one gz g gy cz cap cy (u 0) Y s k hs hk W (.int .u64 (uz 0)) (by exact (hrz.of_heap hW).cell (by omega)) ((hrz.of_heap hW).frozen 0) ((hrx.of_heap hW).cell (by omega)) (by have := (hry.of_heap hW).cell (i := 0) (by omega); simpa using this))
  have HZ := hide hrz
  have HX := hide hrx
  have HK1 := hide hk1
  have HG := hide hg
  have HS := hide hs
  have HKK := hide hk
  clear hrz hrx hk1 hg hry hs hk hYlt
  go_wp2
  go_region_held3 (fun _ => True) (trivial) ((go_at_call 13; refine ((unhide HA) _ (by exact rfl)).mono ?_; rintro e w2 ⟨rfl, hh2, hk2⟩))
  have hr2 : WRow w2 gz cz (fun j => if j = 0 then s else uz j) := ((unhide HZ).set 0 s (by have := unhide HS; omega)).of_heap hh2
  have hD2 : Two w2 gz g cz cap M (fun j => if j = 0 then s else uz j) u := by
    rcases unhide HG with ⟨h1, _, h3⟩ | ⟨_, h2⟩
    · exact .inl ⟨h1, hr2, fun j h _ => by dsimp only; rw [if_neg (by omega), h3]⟩
    · exact .inr ⟨h2, hr2, ((unhide HX).drewN 1).kb hk2 (fun h => h2 h.symm)⟩
  have hk12 : KB (fun x => x = gz) w1 w2 := ((KB.refl _ _).drew).trans hk2 (fun _ _ h => h)
  have HKG : Hid (∀ w5, KB (fun x => x = gz) w1 w5 → KB (fun x => x = g) w w5) := hide (fun w5 h5 => by
    have a1 : KB (fun x => x = g) w w1 := (unhide HK1).mono (fun _ _ h => h.elim)
    refine a1.trans h5 (fun x hx e => ?_)
    rcases unhide HG with ⟨h, _⟩ | ⟨h, _⟩
    · rw [e, h]
    · omega)
  have HBG : Hid (∀ n c b, Blk (.slice (some ⟨gz, 0, none⟩) n c) b → b = g ∨ w.heap.size ≤ b) := hide (fun n c b hb => by
    obtain rfl := blk_eq hb
    rcases unhide HG with ⟨h, _⟩ | ⟨h, _⟩
    · exact .inl h
    · exact .inr h)
  have HR2 := hide hr2
  have HD2 := hide hD2
  have HK12 := hide hk12
  have hcsU := (unhide HX).2
  have hcle : ∀ i, cs u k i ≤ 1 := fun i => cs_le hcsU hk1' i
  have HCLE := hide hcle
  clear hh2 hk2 hr2 hD2 hk12 HA hen hs1 hs2 hs3 HG HK1 HZ HX HR HY hcsU hcle
  by_cases h0 : M = 0
  · subst h0
    have hczc := (unhide HR2).cell (i := 1) (by omega)
    have hfzc := (unhide HR2).frozen 1
    go_wp2_with fail
    have hr3 := (unhide HR2).set 1 k (by omega)
    have hk3 := (unhide HK12).setCell ⟨gz, 1, none⟩ (.int .u64 (k : Int)) (fun _ => rfl)
    refine (norm_any gz 2 cz _ hcz1 (by omega) _ hr3).mono ?_
    rintro e w4 ⟨m, rfl, hm, hzz, htt, hr4, hk4⟩
    clear hczc hfzc hr3
    go_wp2
    go_ret
    refine ⟨.slice (some ⟨gz, 0, none⟩) m cz, rfl, ?_, (unhide HKG) _ (hk3.trans hk4 (fun _ _ h => h.elim)), (unhide HBG) m cz⟩
    exact add_done (M := 0) (u := u) (u' := fun j => if j = 0 then s else uz j) (unhide HS) (unhide HKK) rfl (fun j h1 h2 => by omega) hr4 hcz1 hcz2 hm hzz htt
  · have hMZ : (1 : Int) < (M : Int) + 1 := by omega
    have hsz := fun w => slice_mid gz (M + 2) cz (M + 1) (by omega) (by omega) (by omega) ((M : Int) + 1) (by omega) w
    have hsx := fun w => slice_lo g (M + 1) cap (by omega) (by omega) (by omega) w
    rw [show M + 1 - 1 = M by omega] at hsz hsx
    go_wp2
    go_region_held3 (fun _ => True) (trivial) ((go_at_call 30; refine (addVW_both gz g M (cz - 1) (cap - 1) cz cap u _ k hk1' (by omega) (by omega) (by omega) (by omega) (by omega) (by omega) (by omega) _ (Two.drew (unhide HD2))).mono ?_; rintro e w3 ⟨rfl, u', hr3, hu0, huj, hk3⟩))
    have hczc := hr3.cell (i := M + 1) (by omega)
    have hfzc := hr3.frozen (M + 1)
    have hcM := (unhide HCLE) M
    have hk13 := (unhide HK12).drew.trans hk3 (fun _ _ h => h)
    have HR3 := hide hr3; have HU0 := hide hu0; have HUJ := hide huj; have HK13 := hide hk13
    clear hr3 hu0 huj hk3 hk13 hsz hsx
    generalize hcs : cs u k M = cM at hcM ⊢
    have HCS := hide hcs
    clear hcs
    have hcx1 : (M : Int) + 1 < ((M + 2 : Nat) : Int) := by omega
    have hcx2 : (M : Int) + 1 < (M : Int) + 2 := by omega
    go_wp2_with fail
    have hr5 := (unhide HR3).set (M + 1) cM (by omega)
    have hk5 := (unhide HK13).setCell ⟨gz, M + 1, none⟩ (.int .u64 (cM : Int)) (fun _ => rfl)
    refine (norm_any gz (M + 2) cz _ hcz1 (by omega) _ hr5).mono ?_
    rintro e w4 ⟨m, rfl, hm, hzz, htt, hr4, hk4⟩
    clear hczc hfzc hr5
    go_wp2
    go_ret
    refine ⟨.slice (some ⟨gz, 0, none⟩) m cz, rfl, ?_, (unhide HKG) _ (hk5.trans hk4 (fun _ _ h => h.elim)), (unhide HBG) m cz⟩
    have ecs := unhide HCS
    subst ecs
    exact add_done (u := u) (u' := u') (unhide HS) (unhide HKK) (by have := unhide HU0; simpa using this) (unhide HUJ) hr4 hcz1 hcz2 hm hzz htt

/-- What y is: 0, or one word in a row of its own. -/
def One (w : World) (v yv : Value) (Y : Nat) : Prop :=
  (yv = .slice none 0 0 ∧ Y = 0) ∨ ∃ gy cy, yv = .slice (some ⟨gy, 0, none⟩) 1 cy ∧ 1 ≤ cy ∧ Y ≠ 0 ∧ WRow w gy cy (fun j => if j = 0 then Y else 0) ∧ ¬ Blk v gy

set_option maxRecDepth 20000 in
set_option maxHeartbeats 400000 in
theorem add_nn (a b : Option Addr) (c cb : Nat) (w : World) :
    Calls Yba.prog 19 #[.slice a 0 c, .slice a 0 c, .slice b 0 cb] w fun e w' => e = .returned (.slice a 0 c) ∧ w' = w := by
  go_enter Yba.func19, Yba.ntmps19
  go_wp2
  go_ret
  exact ⟨rfl, rfl⟩

set_option maxRecDepth 20000 in
set_option maxHeartbeats 400000 in
/-- x is not 0, y is 0. -/
theorem add_x0 (v : Value) (N gx n cx cb : Nat) (b : Option Addr) (u : Nat → Nat) (h1 : 1 ≤ n) (hN : n ≤ 4000) (hc : n ≤ cx) (htop : u (n - 1) ≠ 0) (w : World) (h : NatV w v N) (hx : WRow w gx cx u) :
    Calls Yba.prog 19 #[v, .slice (some ⟨gx, 0, none⟩) n cx, .slice b 0 cb] w fun e w' => ∃ v', e = .returned v' ∧ NatV w' v' (valF u n) ∧ KB (Blk v) w w' ∧ ∀ b, Blk v' b → Blk v b ∨ w.heap.size ≤ b := by
  have HA := hide (set_any v N gx n cx u h1 hN hc htop w h hx)
  have hn0 : ((n : Int) == 0) = false := by simp; omega
  have hn1 : ¬ (n : Int) < 0 := by omega
  clear h hx htop
  go_enter Yba.func19, Yba.ntmps19
  go_wp2_with fail
  refine (unhide HA).mono ?_
  rintro e w' ⟨v', rfl, h2, h3, h4⟩
  have H := hide (And.intro h2 (And.intro h3 h4))
  clear h2 h3 h4
  go_wp2
  go_ret
  exact ⟨v', rfl, unhide H⟩

set_option maxRecDepth 20000 in
set_option maxHeartbeats 400000 in
/-- x is 0, y is not. -/
theorem add_0y (a : Option Addr) (c N gx n cx : Nat) (u : Nat → Nat) (h1 : 1 ≤ n) (hN : n ≤ 4000) (hc : n ≤ cx) (htop : u (n - 1) ≠ 0) (w : World) (h : NatV w (.slice a 0 c) N) (hx : WRow w gx cx u) :
    Calls Yba.prog 19 #[.slice a 0 c, .slice a 0 c, .slice (some ⟨gx, 0, none⟩) n cx] w fun e w' => ∃ v', e = .returned v' ∧ NatV w' v' (valF u n) ∧ KB (Blk (.slice a 0 c)) w w' ∧ ∀ b, Blk v' b → Blk (.slice a 0 c) b ∨ w.heap.size ≤ b := by
  have HA := hide (add_x0 (.slice a 0 c) N gx n cx c a u h1 hN hc htop w h hx)
  have hn1 : (0 : Int) < (n : Int) := by omega
  have hn2 : 0 < n := by omega
  clear h hx htop
  go_enter Yba.func19, Yba.ntmps19
  go_wp2_with fail
  refine (unhide HA).mono ?_
  rintro e w' ⟨v', rfl, h2, h3, h4⟩
  have H := hide (And.intro h2 (And.intro h3 h4))
  clear h2 h3 h4
  go_wp2
  go_ret
  exact ⟨v', rfl, unhide H⟩

/-- nat.add in place. -/
theorem add_any (v yv : Value) (N Y : Nat) (hN : N < 18446744073709551616 ^ 3000) (w : World) (h : NatV w v N) (hy : One w v yv Y) :
    Calls Yba.prog 19 #[v, v, yv] w fun e w' => ∃ v', e = .returned v' ∧ NatV w' v' (N + Y) ∧ KB (Blk v) w w' ∧ ∀ b, Blk v' b → Blk v b ∨ w.heap.size ≤ b := by
  have hv1 : ∀ Y : Nat, valF (fun j => if j = 0 then Y else 0) 1 = Y := fun Y => by simp [valF]
  rcases h with ⟨rfl, rfl⟩ | ⟨g, n, cap, u, rfl, hr, hn, hc, hv, ht⟩
  · rcases hy with ⟨rfl, rfl⟩ | ⟨gy, cy, rfl, hcy, hY, hry, _⟩
    · refine (add_nn none none 0 0 w).mono ?_
      rintro e w' ⟨rfl, rfl⟩
      exact ⟨_, rfl, .inl ⟨rfl, rfl⟩, KB.refl _ _, fun b h => .inl h⟩
    · refine (add_0y none 0 0 gy 1 cy _ (by omega) (by omega) hcy (by exact hY) w (.inl ⟨rfl, rfl⟩) hry).mono ?_
      rw [hv1 Y, Nat.zero_add]
      exact fun e w' h => h
  · have hlen := len_le hv ht hN
    have hNat : NatV w (.slice (some ⟨g, 0, none⟩) n cap) N := .inr ⟨g, n, cap, u, rfl, hr, hn, hc, hv, ht⟩
    rcases Nat.eq_zero_or_pos n with h0 | h0
    · subst h0
      have hN0 : N = 0 := by rw [← hv]; rfl
      subst hN0
      rcases hy with ⟨rfl, rfl⟩ | ⟨gy, cy, rfl, hcy, hY, hry, _⟩
      · refine (add_nn (some ⟨g, 0, none⟩) none cap 0 w).mono ?_
        rintro e w' ⟨rfl, rfl⟩
        exact ⟨_, rfl, hNat, KB.refl _ _, fun b h => .inl h⟩
      · refine (add_0y (some ⟨g, 0, none⟩) cap 0 gy 1 cy _ (by omega) (by omega) hcy (by exact hY) w hNat hry).mono ?_
        rw [hv1 Y, Nat.zero_add]
        exact fun e w' h => h
    · obtain ⟨M, rfl⟩ : ∃ M, n = M + 1 := ⟨n - 1, by omega⟩
      have htop : u (M + 1 - 1) ≠ 0 := ht.resolve_left (by omega)
      rcases hy with ⟨rfl, rfl⟩ | ⟨gy, cy, rfl, hcy, hY, hry, hgy⟩
      · refine (add_x0 (.slice (some ⟨g, 0, none⟩) (M + 1) cap) N g (M + 1) cap 0 none u (by omega) (by omega) hn htop w hNat hr).mono ?_
        rw [hv, Nat.add_zero]
        exact fun e w' h => h
      · refine (add_words g M cap gy cy Y u hn (by omega) hc hcy (fun h => hgy (h ▸ ⟨_, _, rfl⟩)) w hr hry).mono ?_
        rintro e w' ⟨v, rfl, h1, h2, h3⟩
        rw [hv] at h1
        refine ⟨v, rfl, h1, h2.mono (fun x _ e => e ▸ ⟨_, _, rfl⟩), fun b hb => ?_⟩
        rcases h3 b hb with rfl | h
        · exact .inl ⟨_, _, rfl⟩
        · exact .inr h
end Go.Proofs.Ybulkctsy
