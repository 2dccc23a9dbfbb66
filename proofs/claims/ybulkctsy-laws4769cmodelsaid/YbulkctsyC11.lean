/-
  NewEncoder: its walk. The row of bytes that zzs4769cvalue lays.
-/
import Derived.Test.YbulkctsyC10
namespace Go.Proofs.Ybulkctsy
open Go.RowKit
set_option linter.unusedVariables false

set_option maxRecDepth 20000 in
theorem NewEncoder_any (w : World) :
    Calls Yba.prog 5 #[] w fun e w' => e = .returned (.pointer (some ⟨w.heap.size, 0, none⟩)) ∧ EncAt w' w.heap.size 0 4294967295 false 0 0 (.slice none 0 0) ∧ KB (fun _ => False) w w' := by
  go_enter Yba.func5, Yba.ntmps5
  go_wp2
  go_ret
  refine ⟨rfl, ?_, (KB.refl _ _).alloc _⟩
  exact World.rowIs_alloc w _ 41 (encF 0 4294967295 false 0 0 (.slice none 0 0)) (fun i hi => by
    match i, hi with | 0, _ => rfl | 1, _ => rfl | 2, _ => rfl | 3, _ => rfl | 4, _ => rfl | 5, _ => rfl)

theorem OutV.kind {w : World} {base : Nat} {ov : Value} {bs : List Nat} (h : OutV w base ov bs) : ∃ a c, ov = .slice a bs.length c := by
  obtain ⟨hl, ⟨h, h0⟩ | ⟨g', cap', cur, h, _⟩⟩ := h
  · exact ⟨none, 0, by rw [h, h0]⟩
  · exact ⟨_, _, h⟩
theorem OutV.cells {w : World} {base : Nat} {ov : Value} {bs : List Nat} (h : OutV w base ov bs) : ov = .slice none 0 0 ∧ bs = [] ∨ ∃ g c, ov = .slice (some ⟨g, 0, none⟩) bs.length c ∧ base ≤ g ∧ g < w.heap.size ∧ bs.length ≤ c ∧ ∀ (j x : Nat), bs[j]? = some x → w.cell? ⟨g, j, none⟩ = some (.int .u8 (x : Int)) := by
  obtain ⟨hl, ⟨h, h0⟩ | ⟨g, cap, cur, h, hb, hg, h1, h2, h3, h4⟩⟩ := h
  · exact .inl ⟨h, List.eq_nil_of_length_eq_zero h0⟩
  · refine .inr ⟨g, cap, h, hb, (Array.getElem?_eq_some_iff.1 hg).1, h1, fun j x hx => ?_⟩
    have hj : j < bs.length := (List.getElem?_eq_some_iff.1 hx).1
    have e : cur[j]? = some (.int .u8 (x : Int)) := by
      rw [← Array.getElem?_toList]
      have := congrArg (fun l => l[j]?) h4
      simp only [List.getElem?_take, bvals, List.getElem?_map, hx, Option.map_some] at this
      rw [if_pos (by omega)] at this
      exact this
    simp [World.cell?, hg, e]
theorem bvals_cell {bs : List Nat} : ∀ u, u ∈ bvals bs → u.oneCell' = true := by
  intro u hu
  obtain ⟨b, _, rfl⟩ := List.mem_map.1 hu
  rfl
theorem bvals_len (bs : List Nat) : (bvals bs).length = bs.length := by simp [bvals]

theorem run_app_nil (ty : TypeId) (w : World) (v : Value) (bb n : Nat) (xs : List Value) (h : w.ownsRow bb 5 1 v n xs) (hn : n ≤ 1000000) : (Builtin.append_ #[39, 39] ty #[v, .slice none 0 0]).run Yba.prog w = .ok v w := by
  obtain ⟨i0, hi, hzz⟩ := Option.map_eq_some_iff.1 info5
  obtain ⟨hl, ⟨rfl, h0⟩ | ⟨g, cap, cur, rfl, hb, hg, h1, h2, h3, h4⟩⟩ := h
  · simp [Builtin.append_, run_underlying Yba.underlying39, sizeOf, typeInfo, hi, Builtin.lenOf, Builtin.firstCells]
  · simp [Builtin.append_, run_underlying Yba.underlying39, sizeOf, typeInfo, hi, Builtin.lenOf, Builtin.firstCells, h1, storeCells]

/-- append(b, out...) where b is empty. -/
theorem wpList_spread {ops : Array Oper} {rest : List Oper} {o : Oper} {a : Act} {Q : Exit → Act → World → Prop} (hgd : o.guard = none) (s x : Operand)
    (ho : o.op = .call { callee := .builtin .append, args := #[s, x], argTypes := #[39, 39] }) (w : World) (bb base : Nat) (v ov : Value) (bs : List Nat) (hs : a.eval s = v) (hx : a.eval x = ov)
    (hv : OutV w bb v []) (hov : OutV w base ov bs) (hb : bb ≤ w.heap.size) (hn : bs.length ≤ 200000)
    (h : ∀ v' w', OutV w' bb v' bs → w.grownBy w' v.ownBlock → wpList Yba.prog ops Q rest (a.put o.dst v') w') : wpList Yba.prog ops Q (o :: rest) a w := by
  obtain ⟨i0, hi, hzz⟩ := Option.map_eq_some_iff.1 info5
  simp only [Prod.mk.injEq] at hzz
  obtain ⟨hz0, hz1, hz2⟩ := hzz
  rcases hov.cells with ⟨rfl, rfl⟩ | ⟨g, c, rfl, h1, h2, h3, h4⟩
  · refine wpList_plain hgd fun K hK => ?_
    have hr := run_app_nil o.type w v bb 0 [] hv (by omega)
    unfold Oper.wp execOp
    simp only [ho, resolve, invoke, builtin, Sem.run_bind, Sem.run_pure, Result.andThen_ok, List.map_toArray, List.map_cons, List.map_nil, hs, hx, hr]
    exact hK _ _ (h v w hv ⟨rfl, rfl, rfl, Nat.le_refl _, fun _ _ _ => rfl⟩)
  · refine wpList_append_own w hgd s x 39 ho bb 5 i0 _ 1 1 Yba.underlying39 hi hz0 hz1 hz2 rfl (by omega) v 0 [] hs hv ⟨g, 0, none⟩ bs.length c (bvals bs) hx (by rw [bvals_len]; omega) ?_ bvals_cell (by unfold maxLen; omega) (by omega) hb ?_
    · intro j u hu
      simp only [bvals, List.getElem?_map, Option.map_eq_some_iff] at hu
      obtain ⟨x, hx, rfl⟩ := hu
      have := h4 j x hx
      rw [Addr.add_lit, Nat.zero_add]
      exact this
    · intro v' w' k1 k2 _
      refine h v' w' ?_ k2
      rw [Nat.zero_add] at k1
      exact k1
theorem made_out (w : World) (c : Nat) (hc : c ≤ 300000) : OutV (w.alloc (.cells (madeCells #[.int .u8 0] c) 5)) w.heap.size (.slice (some ⟨w.heap.size, 0, none⟩) 0 c) [] :=
  ⟨rfl, .inr ⟨w.heap.size, c, madeCells #[.int .u8 0] c, rfl, Nat.le_refl _, Go.Deep.blk_alloc_new _ _, Nat.zero_le _, by unfold maxLen; omega, by rw [size_madeCells]; omega, by simp [bvals]⟩⟩
/-- A row of bytes made since w. -/
def BufV (w wr : World) (v : Value) (l : List Nat) : Prop := OutV wr w.heap.size v l ∧ KB (fun _ => False) w wr
theorem BufV.grown {w wr w1 : World} {v v' : Value} {l l' : List Nat} (h : BufV w wr v l) (hg : wr.grownBy w1 v.ownBlock) (ho : OutV w1 w.heap.size v' l') : BufV w w1 v' l' := by
  obtain ⟨h1, h2⟩ := h
  refine ⟨ho, h2.trans (KB.grown hg) ?_⟩
  intro b hb e
  rcases h1.cells with ⟨rfl, _⟩ | ⟨g, c, rfl, k1, _⟩
  · cases e
  · simp only [Value.ownBlock, Option.some.injEq] at e
    omega
theorem BufV.app {w wr w1 : World} {v : Value} {l : List Nat} {g cap x : Nat} {o : Obj} (h : BufV w wr v l) (hg : (wr.alloc o).grownBy w1 v.ownBlock)
    (ho : w1.ownsRow w.heap.size 5 1 (.slice (some ⟨g, 0, none⟩) (l.length + 1) cap) (l.length + 1) (bvals l ++ [.int .u8 (x : Int)])) : BufV w w1 (.slice (some ⟨g, 0, none⟩) (l.length + 1) cap) (l ++ [x]) := by
  have h' : BufV w (wr.alloc o) v l := ⟨World.ownsRow.alloc h.1 _, h.2.alloc _⟩
  refine h'.grown hg ?_
  unfold OutV
  rw [bvals_snoc, List.length_append, List.length_singleton]
  exact ho
end Go.Proofs.Ybulkctsy
