/-
  svcKeyString: some string, whatever the key.
-/
import Derived.Test.YbulkctnaFmtW0
import Derived.Test.YbulkctnaFmtShelf
import Derived.Maps.OwnSet
import Derived.Maps.StringElems
import Derived.Lib.ItoaLen
import Derived.Lib.LaidTab
namespace Go.Proofs.YbulkctnaFmt
open Go.RowKit Go.Extern.Stop Go.Stop Go.Extern Go.Maps Go.Sort
set_option linter.unusedVariables false

theorem below_grow {w : World} (k : Nat) (os : Array Obj) : Below w.heap.size w (grow (w.drewN k) os) := by
  refine ⟨rfl, rfl, rfl, ?_, fun i hi => ?_⟩
  · show w.heap.size ≤ (w.heap ++ os).size
    simp
  · show (w.heap ++ os)[i]? = w.heap[i]?
    rw [Array.getElem?_append_left hi]

/-- What the walks ask of the world: fmt answers by F; the table of powers of ten is what it is; the map of names is a map. -/
structure Env (F : Interp) (w : World) : Prop where
  ans : F.answers w.tape
  tab : Lib.TabIs Ybaf.prog w Ybaf.tabName .u64 Lib.pow10Tab
  names : ∃ bm n, ∃ D : DataW Unit, w.cell? ⟨1, 0, none⟩ = some (.map (some bm)) ∧ w.ownsMap Ybaf.prog 22 (plainElem (H := Unit) Ybaf.prog 9) bm n D

theorem lt_of_cell {w : World} {a : Addr} {v : Value} (h : w.cell? a = some v) : a.block < w.heap.size := by
  rcases Nat.lt_or_ge a.block w.heap.size with h' | h'
  · exact h'
  · have : w.heap[a.block]? = none := Array.getElem?_eq_none h'
    simp [World.cell?, this] at h

theorem tab_global : Ybaf.prog.globalNamed Ybaf.tabName = some 2 := by kernel_rfl

theorem Env.below {F : Interp} {w w' : World} (h : Env F w) (hb : Below w.heap.size w w') : Env F w' := by
  obtain ⟨bm, n, D, hc, es, clock, hm, hrest⟩ := h.names
  have hbm : bm < w.heap.size := (Array.getElem?_eq_some_iff.1 hm).1
  refine ⟨by rw [hb.tape]; exact h.ans, ?_, ⟨bm, n, D, ?_, es, clock, ?_, hrest⟩⟩
  · have ht := h.tab
    unfold Lib.TabIs at ht ⊢
    have hg : 2 < w.heap.size := by
      unfold World.var? at ht
      rw [tab_global] at ht
      rcases Nat.lt_or_ge 2 w.heap.size with h' | h'
      · exact h'
      · have : w.heap[2]? = none := Array.getElem?_eq_none h'
        simp [this] at ht
    exact var?_below hb tab_global hg ht
  · rw [hb.cell (p := ⟨1, 0, none⟩) (lt_of_cell hc)]; exact hc
  · rw [hb.block bm hbm]; exact hm

/-- The look-up, as the walk wants it. -/
theorem Env.look {F : Interp} {w : World} (h : Env F w) (k : Int) (h0 : 0 ≤ k) (h1 : k ≤ 65535) :
    ∃ bm, w.cell? ⟨1, 0, none⟩ = some (.map (some bm)) ∧ ∃ (s : ByteArray) (b : Bool), (Instr.lookup 43 (.map (some bm)) (.int .u16 k) true).run Ybaf.prog w = .ok (.tuple #[.string s, .bool b]) w ∧ s.size ≤ maxLen := by
  obtain ⟨bm, n, D, hc, hown⟩ := h.names
  have hz : (zeroValue 9).run Ybaf.prog w = .ok (.string ⟨#[]⟩) w := by kernel_rfl
  have hzd : plainElem (H := Unit) Ybaf.prog 9 (.string ⟨#[]⟩) = some (.lit (.string []), []) := by
    simp only [plainElem, Ybaf.underlying9]
    exact if_pos (Nat.zero_le _)
  obtain ⟨v, ps, hrun, hR⟩ := hown.look_ok (int_keyed Ybaf.underlying22) Ybaf.underlying43 hz hzd (keyOf_int_mk Ybaf.underlying22 (a := k) (WalkArith.wf_u16 (by omega)))
  obtain ⟨s, rfl, _, hs⟩ := plainElem_string_inv Ybaf.underlying9 hR
  exact ⟨bm, hc, s, _, hrun, hs⟩

theorem itoa_any (n : Int) (h0 : 0 ≤ n) (h1 : n ≤ 65535) (w : World) (htab : Lib.TabIs Ybaf.prog w Ybaf.tabName .u64 Lib.pow10Tab) :
    Calls Ybaf.prog 12 #[.int .i64 n] w fun e w' => ∃ s : ByteArray, e = .returned (.string s) ∧ s.size ≤ 21 ∧ Below w.heap.size w w' := by
  refine (Ybaf.strconv_Itoa n (by omega) (by omega) w htab).mono ?_
  rintro e w' ⟨rfl, k, os, rfl⟩
  refine ⟨_, rfl, ?_, below_grow k os⟩
  have := Lib.itoa_length_le n (by omega) (by omega)
  simpa [ByteArray.size] using this

set_option maxHeartbeats 400000 in
theorem keyString_any (F : Interp) (k : Int) (h0 : 0 ≤ k) (h1 : k ≤ 65535) (w : World) (hE : Env F w) :
    Calls Ybaf.prog 9 #[.int .u16 k] w fun e w' => ∃ s : ByteArray, e = .returned (.string s) ∧ Below w.heap.size w w' := by
  obtain ⟨bm, hc, s, b, hrun, hs⟩ := hE.look k h0 h1
  have htab := hide hE.tab
  clear hE
  cases b with
  | true =>
    go_enter Ybaf.func9, Ybaf.ntmps9
    go_wp2
    go_ret
    exact ⟨s, rfl, Below.refl _ _⟩
  | false =>
    go_enter Ybaf.func9, Ybaf.ntmps9
    go_wp2_with fail
    refine (itoa_any k h0 h1 _ (unhide htab)).mono ?_
    rintro e w1 ⟨t, rfl, ht, hb⟩
    go_wp2
    go_ret
    exact ⟨_, rfl, hb⟩
end Go.Proofs.YbulkctnaFmt
