/-
  nat.set, setWord, setUint64: their walks.
-/
import Derived.Test.YbulkctsyB6
namespace Go.Proofs.Ybulkctsy
open Go.RowKit
set_option linter.unusedVariables false

/-- nat.make on a nat. -/
theorem make_nat (v : Value) (N n : Nat) (Z : Int) (hZ : Z = (n : Int)) (h1 : 1 ≤ n) (hN : n ≤ 4000) (w : World) (h : NatV w v N) :
    Calls Yba.prog 28 #[v, .int .i64 Z] w fun e w' => ∃ gz cz uz, e = .returned (.slice (some ⟨gz, 0, none⟩) n cz) ∧ n ≤ cz ∧ cz ≤ 5000 ∧ WRow w' gz cz uz ∧ KB (fun _ => False) w w' ∧ (Blk v gz ∨ w.heap.size ≤ gz) := by
  rcases h with ⟨rfl, rfl⟩ | ⟨g, zl, cap, u, rfl, hr, hn, hc, _⟩
  · subst hZ
    refine (make_new none n 0 0 (by omega) (by omega) w).mono ?_
    rintro e w' ⟨c, rfl, h1, h2, rfl⟩
    exact ⟨w.heap.size, c, fun _ => 0, rfl, h1, by omega, made_row w c, (KB.refl _ _).alloc _, .inr (Nat.le_refl _)⟩
  · refine (make_any g n zl cap u Z hZ hN hc w hr).mono ?_
    rintro e w' ⟨gz, cz, uz, rfl, h1, h2, h3, _, h5, h6⟩
    refine ⟨gz, cz, uz, rfl, h1, h2, h3, h5, ?_⟩
    rcases h6 with ⟨rfl, _⟩ | ⟨h, _⟩
    · exact .inl ⟨_, _, rfl⟩
    · exact .inr h

set_option maxRecDepth 20000 in
set_option maxHeartbeats 400000 in
/-- nat.set of a number that is not nil. -/
theorem set_any (v : Value) (N gx n cx : Nat) (u : Nat → Nat) (h1 : 1 ≤ n) (hN : n ≤ 4000) (hc : n ≤ cx) (htop : u (n - 1) ≠ 0) (w : World) (h : NatV w v N) (hx : WRow w gx cx u) :
    Calls Yba.prog 27 #[v, .slice (some ⟨gx, 0, none⟩) n cx] w fun e w' => ∃ v', e = .returned v' ∧ NatV w' v' (valF u n) ∧ KB (Blk v) w w' ∧ ∀ b, Blk v' b → Blk v b ∨ w.heap.size ≤ b := by
  have HV := hide h
  have HX := hide hx
  have HT := hide htop
  clear h hx htop
  go_enter Yba.func27, Yba.ntmps27
  go_wp2_with fail
  refine (make_nat v N n _ rfl h1 hN _ (unhide HV)).mono ?_
  rintro e w1 ⟨gz, cz, uz, rfl, hcz1, hcz2, hrz, hk1, hg⟩
  obtain ⟨w2, hcp, hr2, hk2⟩ := copy_words 27 Yba.underlying27 (w := w1) (cz := cz) (cx := cx) (o := 0) (n := n) hrz ((unhide HX).kb hk1 (fun h => h)) (by omega) (by omega) (some ⟨gz, 0, none⟩) (some ⟨gx, 0, none⟩) (.inr ⟨rfl, rfl⟩)
  have HR2 := hide hr2
  have HK2 := hide hk2
  have HK1 := hide hk1
  have HG := hide hg
  clear hrz hk1 hk2 hr2 hg
  go_wp2
  go_ret
  refine ⟨.slice (some ⟨gz, 0, none⟩) n cz, rfl, .inr ⟨gz, n, cz, _, rfl, unhide HR2, hcz1, hcz2, ?_, .inr ?_⟩, ?_, ?_⟩
  · refine valF_congr (fun i hi => ?_)
    rw [if_pos ⟨Nat.zero_le _, by omega⟩]
  · rw [if_pos ⟨Nat.zero_le _, by omega⟩]; exact unhide HT
  · have a1 : KB (Blk v) w w1 := (unhide HK1).mono (fun _ _ h => h.elim)
    refine a1.trans (unhide HK2) (fun x hx e => ?_)
    rcases unhide HG with h | h
    · rw [e]; exact h
    · omega
  · intro b hb
    obtain rfl := blk_eq hb
    exact unhide HG

set_option maxRecDepth 20000 in
set_option maxHeartbeats 400000 in
theorem setWord_nil (x : Nat) (w : World) (hx : x < 18446744073709551616) :
    Calls Yba.prog 36 #[.slice none 0 0, .int .u64 (x : Int)] w fun e w' => KB (fun _ => False) w w' ∧ ((x = 0 ∧ e = .returned (.slice none 0 0)) ∨ (x ≠ 0 ∧ ∃ cz, e = .returned (.slice (some ⟨w.heap.size, 0, none⟩) 1 cz) ∧ 1 ≤ cz ∧ cz ≤ 5 ∧ WRow w' w.heap.size cz (fun j => if j = 0 then x else 0))) := by
  have HX := hide hx
  clear hx
  by_cases h0 : x = 0
  · subst h0
    go_enter Yba.func36, Yba.ntmps36
    go_wp2
    go_ret
    exact ⟨KB.refl _ _, .inl ⟨trivial, rfl⟩⟩
  · have hb : ((x : Int) == 0) = false := by simp; omega
    have H0 := hide h0
    clear h0
    go_enter Yba.func36, Yba.ntmps36
    go_wp2_with fail
    refine (make_new none 1 0 0 (by omega) (by omega) w).mono ?_
    rintro e w1 ⟨c, rfl, h1, h2, rfl⟩
    have hr := made_row w c
    have hk : KB (fun _ => False) w (w.alloc (.cells (madeCells #[.int .u64 0] c) 54)) := (KB.refl _ _).alloc _
    generalize w.alloc (.cells (madeCells #[.int .u64 0] c) 54) = w2 at hr hk ⊢
    have hr2 := hide (hr.set 0 x (unhide HX))
    have hk2 := hide (hk.setCell ⟨w.heap.size, 0, none⟩ (.int .u64 (x : Int)) (fun h => absurd h (Nat.lt_irrefl _)))
    have hc0 := hr.cell (i := 0) (by omega)
    have hf0 := hr.frozen 0
    clear hr hk
    go_wp2
    go_ret
    exact ⟨unhide hk2, .inr ⟨unhide H0, c, rfl, h1, by omega, unhide hr2⟩⟩

set_option maxRecDepth 20000 in
set_option maxHeartbeats 400000 in
theorem setU64_nil (x : Nat) (w : World) (hx : x < 18446744073709551616) :
    Calls Yba.prog 22 #[.slice none 0 0, .int .u64 (x : Int)] w fun e w' => KB (fun _ => False) w w' ∧ ((x = 0 ∧ e = .returned (.slice none 0 0)) ∨ (x ≠ 0 ∧ ∃ cz, e = .returned (.slice (some ⟨w.heap.size, 0, none⟩) 1 cz) ∧ 1 ≤ cz ∧ cz ≤ 5 ∧ WRow w' w.heap.size cz (fun j => if j = 0 then x else 0))) := by
  have HX := hide hx
  clear hx
  go_enter Yba.func22, Yba.ntmps22
  go_wp2_with fail
  refine (setWord_nil x _ (unhide HX)).mono ?_
  rintro e w1 ⟨hk, ⟨h0, rfl⟩ | ⟨h0, cz, rfl, h1, h2, h3⟩⟩
  · have HK := hide hk; have H0 := hide h0
    clear hk h0
    go_wp2
    go_ret
    exact ⟨unhide HK, .inl ⟨unhide H0, rfl⟩⟩
  · have HK := hide hk; have H0 := hide h0; have H3 := hide h3
    clear hk h0 h3
    go_wp2
    go_ret
    exact ⟨unhide HK, .inr ⟨unhide H0, cz, rfl, h1, h2, unhide H3⟩⟩
end Go.Proofs.Ybulkctsy
