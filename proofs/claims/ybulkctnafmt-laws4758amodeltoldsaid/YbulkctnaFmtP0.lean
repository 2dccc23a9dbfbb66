/-
  WHAT THE CARDS' PROOFS SHARE: the start that is shown to be there; what the listed variables give the walks; the named variable read again; slices of integers that came in.
-/
import Derived.Test.YbulkctnaFmtB1
import Derived.Test.YbulkctnaFmtB2
import Derived.ProofKit
import Derived.LaidMore
import Derived.OpenShut
import Derived.Stop.Joined
import Derived.Stop.JoinedTold
import Derived.Deep.DeepWitnessRef
import Derived.Lib.LaidTab
import Derived.ChangeOld
import Derived.Carry
namespace Go.Proofs.YbulkctnaFmt
open Go.ChangeShapes Go.WideShapes Go.ChangeAt Go.WideMaps Go.WideElems Go.RowKit
open Go.Extern.Stop Go.Stop Go.Extern Go.Maps
set_option linter.unusedVariables false

theorem own : ownKnob Ybaf.prog.godebug = none := by kernel_rfl
theorem laidOut : laidOutB Ybaf.prog = true := by kernel_rfl

/-- The four listed variables, as both rows list them. -/
def laid4 : List (String × DataW Unit) := Rows.lawS4758AModelRow.laid
/-- The name of the map of names. -/
def mapName : String := Rows.lawS4758AModelSpec.vars.getD 0 default

/-- The door's own heap meets the condition. -/
theorem door_met (os : Os) (args : Array Value) : laidMetH Ybaf.prog laid4 ((World.doorLaid Ybaf.prog 74 os).forCall (fun _ _ => 0) ⟨#[], args, []⟩).memory :=
  laidMetH_of_parts3 (fuel := 8) (laidMet_of_run' 8 (by kernel_rfl) (by kernel_rfl)) (by kernel_rfl) (by kernel_rfl)

theorem tMap : (Ybaf.prog.globals[1]?).map (·.type) = some 43 := by kernel_rfl
theorem gMap : Ybaf.prog.globalNamed mapName = some 1 := by kernel_rfl
theorem tTab : (Ybaf.prog.globals[2]?).map (·.type) = some 57 := by kernel_rfl
theorem tabD : (Rows.laid_internal_strconv_uint64pow10 : DataW Unit) = Lib.tabData .u64 Lib.pow10Tab := by kernel_rfl

/-- What the condition gives the walks. -/
theorem env_of {F : Interp} {W : World} (hF : F.answers W.tape) (h : laidMetH Ybaf.prog laid4 W) : Env F W := by
  rw [MakeChecks.laidMetH_plain _ _ _ (by kernel_rfl)] at h
  obtain ⟨ps, ⟨g0, t0, cs0, f0, p0, q0, hg0, ht0, hv0, hd0, ⟨g1, t1, cs1, f1, p1, q1, hg1, ht1, hv1, hd1, ⟨g2, t2, cs2, f2, p2, q2, hg2, ht2, hv2, hd2, ⟨g3, t3, cs3, f3, p3, q3, hg3, ht3, hv3, hd3, _, _⟩, _⟩, _⟩, _⟩, _, _⟩ := h
  obtain rfl : g2 = 2 := Option.some.inj (hg2.symm.trans tab_global)
  obtain rfl : g3 = 1 := Option.some.inj (hg3.symm.trans gMap)
  obtain rfl : t2 = 57 := Option.some.inj (ht2.symm.trans tTab)
  obtain rfl : t3 = 43 := Option.some.inj (ht3.symm.trans tMap)
  refine ⟨hF, ?_, ?_⟩
  · have hd2' : DataW.trod (fun _ => ()) Ybaf.prog W 0 (fun _ => true) false f2 57 cs2.toList = some (Lib.tabData .u64 Lib.pow10Tab, p2) := by rw [← tabD]; exact hd2
    have := Lib.cells_of_tab Ybaf.underlying57 Ybaf.underlying50 (by kernel_rfl) (by kernel_rfl) hd2'
    show W.var? Ybaf.prog _ = _
    have e : cs2 = (Lib.pow10Tab.map fun z => Value.int .u64 z).toArray := by rw [← this]
    rw [← e]
    exact hv2
  · rcases open_map Ybaf.underlying43 hd3 with ⟨_, hx⟩ | ⟨bm, es, clock, m, rfl, hcs, hb, _, Ft, hx⟩
    · simp only [Prod.mk.injEq] at hx
      cases hx.1
    · have hcell : W.cell? ⟨1, 0, none⟩ = some (.map (some bm)) := by
        have := World.var?_cell hg3 hv3 0
        rw [Array.eq_one_of_toList hcs] at this
        simpa using this
      exact ⟨bm, _, _, hcell, World.ownsMap_of_fit (R := plainElem (H := Unit) Ybaf.prog 9) hb Ft (fun x _ z hz => elemAt_plainElem_string Ybaf.underlying9 hz)⟩

theorem vars_below {H : Type} {enc : TypeId × Value → H} {W W' : World} {gs : List (DataW H)} {ps : List MemPlace} (hb : Below W.heap.size W W') (h : DataW.TrodVars enc Ybaf.prog W (fun _ => true) [mapName] gs ps) :
    DataW.TrodVars enc Ybaf.prog W' (fun b => decide (b < W.heap.size)) [mapName] gs ps := by
  have hlt := DataW.TrodVars.lt h
  obtain ⟨g, t, cs, fuel, d, p, rfl, hg, ht, hv, hd, rfl⟩ := trodVars_one h
  obtain rfl : g = 1 := Option.some.inj (hg.symm.trans gMap)
  obtain rfl : t = 43 := Option.some.inj (ht.symm.trans tMap)
  have hone : ∃ v : Value, cs.toList = [v] ∧ v.cells.toList = [v] := by
    rcases open_map Ybaf.underlying43 hd with ⟨hcs, _⟩ | ⟨bm, es, clock, m, _, hcs, _⟩
    · exact ⟨_, hcs, rfl⟩
    · exact ⟨_, hcs, rfl⟩
  obtain ⟨v, hcs, hvc⟩ := hone
  have hT : DataW.Trod enc Ybaf.prog W 0 (fun _ => true) true 43 v d p := ⟨fuel, by rw [hvc, ← hcs]; exact hd⟩
  have hp : ∀ x ∈ p, x.block < W.heap.size := fun x hx => hlt x (List.mem_append_right _ hx)
  obtain ⟨fuel', hT'⟩ := Below.trod laidOut (by kernel_rfl) (of_decide_eq_true (by kernel_rfl)) hT hb hp
  rw [hvc, ← hcs] at hT'
  have h1 : 1 < W.heap.size := by
    unfold World.var? at hv
    rw [hg] at hv
    rcases Nat.lt_or_ge 1 W.heap.size with h' | h'
    · exact h'
    · have : W.heap[1]? = none := Array.getElem?_eq_none h'
      simp [this] at hv
  exact trodVars_mk1 hg ht (var?_below hb hg h1 hv) hT'
end Go.Proofs.YbulkctnaFmt
