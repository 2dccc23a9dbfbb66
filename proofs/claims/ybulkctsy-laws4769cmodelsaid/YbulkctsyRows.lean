/-
  No cell of these rows narrows 'for every input' (looked for: loops, veiled, ifaces, maps, wideKeys, modest, calm, conditions, laid).
  DERIVED. THE GIVEN ROWS OF THIS SEAT. 2 by the template 'for every input the law returns true; each argument reads behind the call as it read before'; 0 by the template 'total and deterministic' (their statements: YbulkctsyTotals.lean).
  GIVEN WITH THE SEED: the statements are not yours to turn. If you find one false, say at which input.
  Laid BY PROGRAM, IN A SANDBOX (cutbox-rows.mjs): the forced cells as the released guide's own fill.sh prints them over the translation 640e67639600a29c… (all of the seat's roots in one cut). By AI agents, Wed Nov 11 2026. No macro, syntax, notation, axiom, sorry.
-/
import Derived.Test.YbulkctsyChecked
import GoSem.Claim
import GoSem.ClaimJoined
import GoSem.ClaimMapViews
import Derived.JoinedTies
import Derived.KernelRfl
namespace Go.Proofs.Ybulkctsy
/- THE CELL 'sum', in the pinned program and in every row, IS THE sha256 OF THE DUMP (.gsa) THAT YbulkctsyProg.lean LOADS. Nothing in Lean hashes anything: it is a label: what it is worth is what the hold of that sum in a sandbox is worth. -/
noncomputable def Yba.pinned : Pinned := { name := "ybulkctsy", sum := "640e67639600a29c7bac3ac9e2fe4f2bbe725ead6568e4f96aaa702184da8cfd", checked := Yba.checked }
namespace Rows
def none {H : Type} : Left H := { results := [], args := [] }

/-- 'rangecode.LawS4769CModel': WHATEVER THE INPUT: true; the input reads as it did. -/
def lawS4769CModelSpec : ChangeSpec := { name := "lawS4769CModel", fn := fun _ => fun
  | [d] => { results := [.lit (.bool true)], args := [d] }
  | _ => none }
def lawS4769CModelRow : OpenClaim := { program := "ybulkctsy", sum := "640e67639600a29c7bac3ac9e2fe4f2bbe725ead6568e4f96aaa702184da8cfd", func := "example.com/palimpsest/palimpsest/pkg/rangecode.LawS4769CModel", spec := "lawS4769CModel", inPlace := ["math/big.addVV", "math/bits.Add64", "math/big.subVV", "math/bits.Sub64", "math/big.lshVU"], recurses := true, apart := false }
def LawS4769CModelSaid : Prop := lawS4769CModelRow.holds Yba.pinned (OpenSpec.ofChange lawS4769CModelSpec)

/-- ITS FALSE NEIGHBOUR: 'it returns false'. Refute it at one input. -/
def lawS4769CModelWrong : ChangeSpec := { name := "lawS4769CModel", fn := fun _ => fun
  | [d] => { results := [.lit (.bool false)], args := [d] }
  | _ => none }
def LawS4769CModelWrongFalsely : Prop := lawS4769CModelRow.holds Yba.pinned (OpenSpec.ofChange lawS4769CModelWrong)

/-- 'rangecode.LawS4769CPrefix': WHATEVER THE INPUT: true; the input reads as it did. -/
def lawS4769CPrefixSpec : ChangeSpec := { name := "lawS4769CPrefix", fn := fun _ => fun
  | [d] => { results := [.lit (.bool true)], args := [d] }
  | _ => none }
def lawS4769CPrefixRow : OpenClaim := { program := "ybulkctsy", sum := "640e67639600a29c7bac3ac9e2fe4f2bbe725ead6568e4f96aaa702184da8cfd", func := "example.com/palimpsest/palimpsest/pkg/rangecode.LawS4769CPrefix", spec := "lawS4769CPrefix", apart := false }
def LawS4769CPrefixSaid : Prop := lawS4769CPrefixRow.holds Yba.pinned (OpenSpec.ofChange lawS4769CPrefixSpec)

/-- ITS FALSE NEIGHBOUR: 'it returns false'. Refute it at one input. -/
def lawS4769CPrefixWrong : ChangeSpec := { name := "lawS4769CPrefix", fn := fun _ => fun
  | [d] => { results := [.lit (.bool false)], args := [d] }
  | _ => none }
def LawS4769CPrefixWrongFalsely : Prop := lawS4769CPrefixRow.holds Yba.pinned (OpenSpec.ofChange lawS4769CPrefixWrong)

end Rows
end Go.Proofs.Ybulkctsy
