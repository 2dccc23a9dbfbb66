/-
  No cell of these rows narrows 'for every input' (looked for: loops, veiled, ifaces, maps, wideKeys, modest, calm, conditions, laid).
  DERIVED. THE GIVEN ROWS OF THIS SEAT. 2 by the template 'for every input the law returns true; each argument reads behind the call as it read before'; 0 by the template 'total and deterministic' (their statements: YbulkctnoTotals.lean).
  GIVEN WITH THE SEED: the statements are not yours to turn. If you find one false, say at which input.
  Laid BY PROGRAM, IN A SANDBOX (cutbox-rows.mjs): the forced cells as the released guide's own fill.sh prints them over the translation b8b0f907f3ede446… (all of the seat's roots in one cut). By AI agents, Wed Nov 11 2026. No macro, syntax, notation, axiom, sorry.
-/
import Derived.Test.YbulkctnoChecked
import GoSem.Claim
import GoSem.ClaimJoined
import GoSem.ClaimMapViews
import Derived.JoinedTies
import Derived.KernelRfl
namespace Go.Proofs.Ybulkctno
/- THE CELL 'sum', in the pinned program and in every row, IS THE sha256 OF THE DUMP (.gsa) THAT YbulkctnoProg.lean LOADS. Nothing in Lean hashes anything: it is a label: what it is worth is what the hold of that sum in a sandbox is worth. -/
noncomputable def Yba.pinned : Pinned := { name := "ybulkctno", sum := "b8b0f907f3ede44618db2c255f9a18976c42fb9e0661f5e187a56a73b3c764f4", checked := Yba.checked }
namespace Rows
def none {H : Type} : Left H := { results := [], args := [] }

/-- 'shiftwise.LawS4759CModel': WHATEVER THE INPUT: true; the input reads as it did. -/
def lawS4759CModelSpec : ChangeSpec := { name := "lawS4759CModel", fn := fun _ => fun
  | [d1, d2] => { results := [.lit (.bool true)], args := [d1, d2] }
  | _ => none }
def lawS4759CModelRow : OpenClaim := { program := "ybulkctno", sum := "b8b0f907f3ede44618db2c255f9a18976c42fb9e0661f5e187a56a73b3c764f4", func := "example.com/shiftwise/shiftwise.LawS4759CModel", spec := "lawS4759CModel", apart := false }
def LawS4759CModelSaid : Prop := lawS4759CModelRow.holds Yba.pinned (OpenSpec.ofChange lawS4759CModelSpec)

/-- ITS FALSE NEIGHBOUR: 'it returns false'. Refute it at one input. -/
def lawS4759CModelWrong : ChangeSpec := { name := "lawS4759CModel", fn := fun _ => fun
  | [d1, d2] => { results := [.lit (.bool false)], args := [d1, d2] }
  | _ => none }
def LawS4759CModelWrongFalsely : Prop := lawS4759CModelRow.holds Yba.pinned (OpenSpec.ofChange lawS4759CModelWrong)

/-- 'shiftwise.LawS4759CNearest': WHATEVER THE INPUT: true; the input reads as it did. -/
def lawS4759CNearestSpec : ChangeSpec := { name := "lawS4759CNearest", fn := fun _ => fun
  | [d1, d2] => { results := [.lit (.bool true)], args := [d1, d2] }
  | _ => none }
def lawS4759CNearestRow : OpenClaim := { program := "ybulkctno", sum := "b8b0f907f3ede44618db2c255f9a18976c42fb9e0661f5e187a56a73b3c764f4", func := "example.com/shiftwise/shiftwise.LawS4759CNearest", spec := "lawS4759CNearest", apart := false }
def LawS4759CNearestSaid : Prop := lawS4759CNearestRow.holds Yba.pinned (OpenSpec.ofChange lawS4759CNearestSpec)

/-- ITS FALSE NEIGHBOUR: 'it returns false'. Refute it at one input. -/
def lawS4759CNearestWrong : ChangeSpec := { name := "lawS4759CNearest", fn := fun _ => fun
  | [d1, d2] => { results := [.lit (.bool false)], args := [d1, d2] }
  | _ => none }
def LawS4759CNearestWrongFalsely : Prop := lawS4759CNearestRow.holds Yba.pinned (OpenSpec.ofChange lawS4759CNearestWrong)

end Rows
end Go.Proofs.Ybulkctno
