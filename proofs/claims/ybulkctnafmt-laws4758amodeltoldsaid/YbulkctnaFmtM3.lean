/-
  THE LAW 'MODEL': its walk at a value that is not nil.
-/
import Derived.Test.YbulkctnaFmtM2
import Derived.Laws.IdiomCopy
namespace Go.Proofs.YbulkctnaFmt
open Go.RowKit Go.Extern.Stop Go.Stop Go.Extern
set_option linter.unusedVariables false

theorem made_block {w : World} {base g n : Nat} {xs : List Value} (h : w.ownsRow base 5 1 (.slice (some ⟨g, 0, none⟩) n n) n xs) : ∃ cur : List Value, w.heap[g]? = some (.cells cur.toArray 5 (0, 0)) ∧ cur.length = n := by
  obtain ⟨_, ⟨h1, _⟩ | ⟨g', cap, cur, e, _, hh, _, _, hc, _⟩⟩ := h
  · cases h1
  · simp only [Value.slice.injEq, Option.some.injEq, Addr.mk.injEq] at e
    obtain ⟨⟨rfl, _⟩, _, rfl⟩ := e
    exact ⟨cur.toList, by simpa using hh, by simpa using hc⟩
theorem bcells_of_block {w : World} {g : Nat} {l : Svc.Bytes} (h : w.heap[g]? = some (.cells (bvals l).toArray 5 (0, 0))) : BCells w (some ⟨g, 0, none⟩) l := by
  intro i hi
  refine ⟨g, 0, rfl, (Array.getElem?_eq_some_iff.1 h).1, ?_⟩
  simp [World.cell?, h, bvals, hi]
theorem one_bvals (l : Svc.Bytes) : ∀ v ∈ bvals l, v.oneCell' = true := by
  intro v hv
  simp only [bvals, List.mem_map] at hv
  obtain ⟨b, _, rfl⟩ := hv
  rfl
theorem src_cells {w : World} {b off : Nat} {l : Svc.Bytes} (h : BCells w (some ⟨b, off, none⟩) l) : ∀ j v, (bvals l)[j]? = some v → w.cell? ((⟨b, off, none⟩ : Addr).add j) = some v := by
  intro j v hj
  have hjl : j < l.length := by
    rcases Nat.lt_or_ge j l.length with h' | h'
    · exact h'
    · rw [List.getElem?_eq_none (by rw [bvals_length]; exact h')] at hj; cases hj
  rw [WideShapes.add_plain, (h.at hjl).2]
  simp [bvals, List.getElem?_eq_getElem hjl] at hj
  rw [← hj]
  simp [List.getElem?_eq_getElem hjl]
theorem sz5 : (Ybaf.prog.info? 5).map (·.size) = some 1 := by kernel_rfl
/-- 'copy' of the whole value into a new row of its length. -/
theorem copied {w : World} {g cap : Nat} {x : Addr} {l : Svc.Bytes} {cur : List Value} (hcur : w.heap[g]? = some (.cells cur.toArray 5 (0, 0))) (hcl : cur.length = l.length) (hc : BCells w (some x) l) :
    ∃ w2, (∀ ty, (Builtin.copy_ #[23, 23] ty #[.slice (some ⟨g, 0, none⟩) l.length l.length, .slice (some x) l.length cap]).run Ybaf.prog w = .ok (goInt l.length) w2) ∧ BCells w2 (some ⟨g, 0, none⟩) l ∧ Below g w w2 := by
  by_cases h0 : l.length = 0
  · refine ⟨w, fun ty => ?_, fun i hi => by omega, Below.refl _ _⟩
    rw [h0]
    exact run_copy_none w 23 23 ty 5 _ _ 0 0 0 cap Ybaf.underlying23 sz5 rfl
  · obtain ⟨b, off, e, _, _⟩ := hc 0 (by omega)
    obtain rfl := Option.some.inj e
    have hrow := fun ty => run_copy_row (P := Ybaf.prog) w 23 23 ty 5 g 0 l.length l.length ⟨b, off, none⟩ l.length cap cur.toArray 5 (bvals l) Ybaf.underlying23 sz5 hcur (by rw [bvals_length]; exact (Nat.min_self _).symm) (src_cells hc) (by rw [bvals_length]; simp [hcl]) (one_bvals l)
    have e1 : (cur.toArray.toList.take 0 ++ bvals l ++ cur.toArray.toList.drop (0 + (bvals l).length)).toArray = (bvals l).toArray := by
      rw [List.take_zero, List.nil_append, Nat.zero_add, bvals_length, List.drop_of_length_le (by simp [hcl]), List.append_nil]
    rw [e1] at hrow
    refine ⟨w.setRow g (bvals l).toArray, fun ty => ?_, bcells_of_block (setRow_heap w g _ _ 5 _ hcur), below_setRow (Below.refl _ _) (Nat.le_refl _) _⟩
    rw [hrow ty, bvals_length]
theorem grown_none {w w1 : World} (hg : w.grownBy w1 none) : Below w.heap.size w w1 := (Below.refl _ _).grown hg (Nat.le_refl _) (fun k hk => by cases hk)

set_option maxRecDepth 20000 in
set_option maxHeartbeats 1600000 in
theorem law_some_in (F : Interp) (a0 a1 : Int) (h00 : 0 ≤ a0) (h01 : a0 ≤ 255) (h10 : 0 ≤ a1) (h11 : a1 ≤ 65535) (hs : a0 % 12 < 10) (b off cap : Nat) (l : Svc.Bytes) (hl : l.length ≤ 4096) (w : World) (hE : Env F w) (hC : BCells w (some ⟨b, off, none⟩) l) :
    Calls Ybaf.prog 3 #[.int .u8 a0, .int .u16 a1, .slice (some ⟨b, off, none⟩) l.length cap] w fun e w' => e = .returned (.bool true) ∧ Below w.heap.size w w' := by
  obtain ⟨i0, hi, hz0, hz1, hz2⟩ := info_parts Ybaf.info5
  have hlZ : ¬ (4096 : Int) < (l.length : Int) := by omega
  have hbA : Below w.heap.size w (w.alloc (.cells tenKeys 24)) := (Below.refl _ _).alloc (Nat.le_refl _) _
  have HE := hide hE
  have HC := hide hC
  clear hE hC
  obtain ⟨m, hm⟩ : ∃ m : Nat, a0 % 12 = (m : Int) := ⟨(a0 % 12).toNat, by omega⟩
  have hm10 : (m : Int) < 10 := by omega
  obtain ⟨k, hk0, hk1, hget⟩ := keys_get m (by omega)
  clear hs
  go_enter Ybaf.func3, Ybaf.ntmps3
  go_wp2_with (at_make; refine wpList_make_full _ rfl _ _ 23 rfl (w.heap.size + 1) 5 i0 (.int .u8 0) 1 Ybaf.underlying23 hi hz0 hz1 .i64 .i64 _ _ l.length rfl rfl rfl rfl (by rw [hz2]; omega) (by unfold maxLen; omega) (by simp) ?_; intro w1 hown1 hgrow1; obtain ⟨cur, hcur, hcl⟩ := made_block hown1; have hb1 := grown_none hgrow1; simp only [World.size_alloc] at hcur hb1; have HC1 := hide (((unhide HC).below hbA (Nat.le_refl _)).below hb1 (by simp)); obtain ⟨w2, hrun, hc2, hb2⟩ := copied (cap := cap) hcur hcl (unhide HC1); have HC2 := hide hc2; clear hown1 hgrow1 hc2)
  have hc2 := unhide HC2
  have hb02 : Below w.heap.size w w2 := hbA.trans ((hb1.trans hb2).mono (by simp))
  have hE2 := (unhide HE).below hb02
  have hv2 := (unhide HC).below hb02 (Nat.le_refl _)
  clear hrun hcur hb1 hb2
  refine (check_any F k hk0 hk1 _ _ _ l rfl (by omega) (Nat.le_refl _) _ hE2 hc2).mono ?_
  rintro e w3 ⟨hres, hb3⟩
  have hb03 := hb02.trans (hb3.mono hb02.size)
  have hc3 := hc2.below hb3 (Nat.le_refl _)
  have hv3 := hv2.below hb3 (Nat.le_refl _)
  clear hb3 hc2 hv2 hE2
  rcases hres with ⟨hok, rfl⟩ | ⟨hok, p, rfl⟩
  all_goals
    have HOK := hide hok
    clear hok
    go_wp2_with fail
    refine (model_any k hk0 hk1 _ _ _ l rfl (by omega) _ hv3).mono ?_
    rintro e w4 ⟨rfl, hb4⟩
    rw [unhide HOK]
    have hb04 := hb03.trans (hb4.mono hb03.size)
    have hc4 := hc3.below hb4 (Nat.le_refl _)
    have hv4 := hv3.below hb4 (Nat.le_refl _)
    clear hb4 hc3 hv3
    go_wp2
    go_loopw [11] (fun t wr => ∃ i : Nat, i ≤ l.length ∧ t = .int .i64 (i : Int) ∧ Hid (∃ n, wr = w4.drewN n)) (fun t _ => l.length - (intOf t).toNat)
    case atStart => exact ⟨0, Nat.zero_le _, rfl, hide ⟨0, rfl⟩⟩
    case round =>
      obtain ⟨i, hil, rfl, HW⟩ := hrel
      by_cases hlt : i < l.length
      · have hA : wr.cell? ⟨b, off + i, none⟩ = some (.int .u8 ((l.getD i 0).toNat : Int)) := by
          obtain ⟨n, rfl⟩ := unhide HW
          exact (hv4.at hlt).2
        have hB : wr.cell? ⟨w.heap.size + 1, i, none⟩ = some (.int .u8 ((l.getD i 0).toNat : Int)) := by
          obtain ⟨n, rfl⟩ := unhide HW
          have := (hc4.at hlt).2
          rw [Nat.zero_add] at this
          exact this
        obtain ⟨x, HX⟩ : ∃ x : Int, Hid (((l.getD i 0).toNat : Int) = x) := ⟨_, hide rfl⟩
        rw [unhide HX] at hA hB
        have hli : (i : Int) < (l.length : Int) := by omega
        go_wp2
        go_quiet (fail)
        go_wp2
        go_roundw
        case rel => exact ⟨i + 1, by omega, by go_num, drewN_more HW⟩
        case measure => simp [intOf]; omega
      · go_wp2
        go_ret
        obtain ⟨n, rfl⟩ := unhide HW
        exact ⟨rfl, below_drewN hb04 _⟩
set_option maxRecDepth 20000 in
set_option maxHeartbeats 1600000 in
theorem law_some_out (F : Interp) (a0 a1 : Int) (h00 : 0 ≤ a0) (h01 : a0 ≤ 255) (h10 : 0 ≤ a1) (h11 : a1 ≤ 65535) (hs : ¬ a0 % 12 < 10) (b off cap : Nat) (l : Svc.Bytes) (hl : l.length ≤ 4096) (w : World) (hE : Env F w) (hC : BCells w (some ⟨b, off, none⟩) l) :
    Calls Ybaf.prog 3 #[.int .u8 a0, .int .u16 a1, .slice (some ⟨b, off, none⟩) l.length cap] w fun e w' => e = .returned (.bool true) ∧ Below w.heap.size w w' := by
  obtain ⟨i0, hi, hz0, hz1, hz2⟩ := info_parts Ybaf.info5
  have hlZ : ¬ (4096 : Int) < (l.length : Int) := by omega
  have hbA : Below w.heap.size w (w.alloc (.cells tenKeys 24)) := (Below.refl _ _).alloc (Nat.le_refl _) _
  have HE := hide hE
  have HC := hide hC
  clear hE hC
  have hk0 := h10
  have hk1 := h11
  go_enter Ybaf.func3, Ybaf.ntmps3
  go_wp2_with (at_make; refine wpList_make_full _ rfl _ _ 23 rfl (w.heap.size + 1) 5 i0 (.int .u8 0) 1 Ybaf.underlying23 hi hz0 hz1 .i64 .i64 _ _ l.length rfl rfl rfl rfl (by rw [hz2]; omega) (by unfold maxLen; omega) (by simp) ?_; intro w1 hown1 hgrow1; obtain ⟨cur, hcur, hcl⟩ := made_block hown1; have hb1 := grown_none hgrow1; simp only [World.size_alloc] at hcur hb1; have HC1 := hide (((unhide HC).below hbA (Nat.le_refl _)).below hb1 (by simp)); obtain ⟨w2, hrun, hc2, hb2⟩ := copied (cap := cap) hcur hcl (unhide HC1); have HC2 := hide hc2; clear hown1 hgrow1 hc2)
  have hc2 := unhide HC2
  have hb02 : Below w.heap.size w w2 := hbA.trans ((hb1.trans hb2).mono (by simp))
  have hE2 := (unhide HE).below hb02
  have hv2 := (unhide HC).below hb02 (Nat.le_refl _)
  clear hrun hcur hb1 hb2
  refine (check_any F a1 hk0 hk1 _ _ _ l rfl (by omega) (Nat.le_refl _) _ hE2 hc2).mono ?_
  rintro e w3 ⟨hres, hb3⟩
  have hb03 := hb02.trans (hb3.mono hb02.size)
  have hc3 := hc2.below hb3 (Nat.le_refl _)
  have hv3 := hv2.below hb3 (Nat.le_refl _)
  clear hb3 hc2 hv2 hE2
  rcases hres with ⟨hok, rfl⟩ | ⟨hok, p, rfl⟩
  all_goals
    have HOK := hide hok
    clear hok
    go_wp2_with fail
    refine (model_any a1 hk0 hk1 _ _ _ l rfl (by omega) _ hv3).mono ?_
    rintro e w4 ⟨rfl, hb4⟩
    rw [unhide HOK]
    have hb04 := hb03.trans (hb4.mono hb03.size)
    have hc4 := hc3.below hb4 (Nat.le_refl _)
    have hv4 := hv3.below hb4 (Nat.le_refl _)
    clear hb4 hc3 hv3
    go_wp2
    go_loopw [11] (fun t wr => ∃ i : Nat, i ≤ l.length ∧ t = .int .i64 (i : Int) ∧ Hid (∃ n, wr = w4.drewN n)) (fun t _ => l.length - (intOf t).toNat)
    case atStart => exact ⟨0, Nat.zero_le _, rfl, hide ⟨0, rfl⟩⟩
    case round =>
      obtain ⟨i, hil, rfl, HW⟩ := hrel
      by_cases hlt : i < l.length
      · have hA : wr.cell? ⟨b, off + i, none⟩ = some (.int .u8 ((l.getD i 0).toNat : Int)) := by
          obtain ⟨n, rfl⟩ := unhide HW
          exact (hv4.at hlt).2
        have hB : wr.cell? ⟨w.heap.size + 1, i, none⟩ = some (.int .u8 ((l.getD i 0).toNat : Int)) := by
          obtain ⟨n, rfl⟩ := unhide HW
          have := (hc4.at hlt).2
          rw [Nat.zero_add] at this
          exact this
        obtain ⟨x, HX⟩ : ∃ x : Int, Hid (((l.getD i 0).toNat : Int) = x) := ⟨_, hide rfl⟩
        rw [unhide HX] at hA hB
        have hli : (i : Int) < (l.length : Int) := by omega
        go_wp2
        go_quiet (fail)
        go_wp2
        go_roundw
        case rel => exact ⟨i + 1, by omega, by go_num, drewN_more HW⟩
        case measure => simp [intOf]; omega
      · go_wp2
        go_ret
        obtain ⟨n, rfl⟩ := unhide HW
        exact ⟨rfl, below_drewN hb04 _⟩
end Go.Proofs.YbulkctnaFmt
