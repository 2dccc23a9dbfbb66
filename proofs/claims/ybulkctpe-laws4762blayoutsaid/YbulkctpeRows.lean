/-
  No cell of these rows narrows 'for every input' (looked for: loops, veiled, ifaces, maps, wideKeys, modest, calm, conditions, laid).
  DERIVED. THE GIVEN ROWS OF THIS SEAT. 1 by the template 'for every input the law returns true; each argument reads behind the call as it read before'; 0 by the template 'total and deterministic' (their statements: YbulkctpeTotals.lean).
  GIVEN WITH THE SEED: the statements are not yours to turn. If you find one false, say at which input.
  Laid BY PROGRAM, IN A SANDBOX (cutbox-rows.mjs): the forced cells as the released guide's own fill.sh prints them over the translation 1936b41b0c17ce31… (all of the seat's roots in one cut). By AI agents, Wed Nov 11 2026. No macro, syntax, notation, axiom, sorry.
-/
import Derived.Test.YbulkctpeChecked
import GoSem.Claim
import GoSem.ClaimJoined
import GoSem.ClaimMapViews
import Derived.JoinedTies
import Derived.KernelRfl
namespace Go.Proofs.Ybulkctpe
/- THE CELL 'sum', in the pinned program and in every row, IS THE sha256 OF THE DUMP (.gsa) THAT YbulkctpeProg.lean LOADS. Nothing in Lean hashes anything: it is a label: what it is worth is what the hold of that sum in a sandbox is worth. -/
noncomputable def Yba.pinned : Pinned := { name := "ybulkctpe", sum := "1936b41b0c17ce317556b3b34e2d8dedb38429b6a04ddf16513a7596fbff3192", checked := Yba.checked }
namespace Rows
def none {H : Type} : Left H := { results := [], args := [] }

/-- 'stamp.LawS4762BLayout': WHATEVER THE INPUT: true; the input reads as it did. -/
def lawS4762BLayoutSpec : ChangeSpec := { name := "lawS4762BLayout", fn := fun _ => fun
  | [d1, d2, d3, d4, d5] => { results := [.lit (.bool true)], args := [d1, d2, d3, d4, d5] }
  | _ => none }
def lawS4762BLayoutRow : OpenClaim := { program := "ybulkctpe", sum := "1936b41b0c17ce317556b3b34e2d8dedb38429b6a04ddf16513a7596fbff3192", func := "example.com/echosonde/echosonde/stamp.LawS4762BLayout", spec := "lawS4762BLayout", named := ["encoding/binary.BigEndian"], apart := false }
def LawS4762BLayoutSaid : Prop := lawS4762BLayoutRow.holds Yba.pinned (OpenSpec.ofChange lawS4762BLayoutSpec)

/-- ITS FALSE NEIGHBOUR: 'it returns false'. Refute it at one input. -/
def lawS4762BLayoutWrong : ChangeSpec := { name := "lawS4762BLayout", fn := fun _ => fun
  | [d1, d2, d3, d4, d5] => { results := [.lit (.bool false)], args := [d1, d2, d3, d4, d5] }
  | _ => none }
def LawS4762BLayoutWrongFalsely : Prop := lawS4762BLayoutRow.holds Yba.pinned (OpenSpec.ofChange lawS4762BLayoutWrong)

end Rows
end Go.Proofs.Ybulkctpe
