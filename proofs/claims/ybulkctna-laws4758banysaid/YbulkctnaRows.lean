/-
  No cell of these rows narrows 'for every input' (looked for: loops, veiled, ifaces, maps, wideKeys, modest, calm, conditions, laid).
  DERIVED. THE GIVEN ROWS OF THIS SEAT. 2 by the template 'for every input the law returns true; each argument reads behind the call as it read before'; 0 by the template 'total and deterministic' (their statements: YbulkctnaTotals.lean).
  GIVEN WITH THE SEED: the statements are not yours to turn. If you find one false, say at which input.
  Laid BY PROGRAM, IN A SANDBOX (cutbox-rows.mjs): the forced cells as the released guide's own fill.sh prints them over the translation 64b469a97b625936… (all of the seat's roots in one cut). By AI agents, Wed Nov 11 2026. No macro, syntax, notation, axiom, sorry.
-/
import Derived.Test.YbulkctnaChecked
import GoSem.Claim
import GoSem.ClaimJoined
import GoSem.ClaimMapViews
import Derived.JoinedTies
import Derived.KernelRfl
namespace Go.Proofs.Ybulkctna
/- THE CELL 'sum', in the pinned program and in every row, IS THE sha256 OF THE DUMP (.gsa) THAT YbulkctnaProg.lean LOADS. Nothing in Lean hashes anything: it is a label: what it is worth is what the hold of that sum in a sandbox is worth. -/
noncomputable def Yba.pinned : Pinned := { name := "ybulkctna", sum := "64b469a97b62593695a2d3786e735eb33686fe842bc2aa08b455e06211c9fdc9", checked := Yba.checked }
namespace Rows
def none {H : Type} : Left H := { results := [], args := [] }

/-- 'dns.LawS4758BBelow': WHATEVER THE INPUT: true; the input reads as it did. -/
def lawS4758BBelowSpec : ChangeSpec := { name := "lawS4758BBelow", fn := fun _ => fun
  | [d1, d2, d3, d4] => { results := [.lit (.bool true)], args := [d1, d2, d3, d4] }
  | _ => none }
def lawS4758BBelowRow : OpenClaim := { program := "ybulkctna", sum := "64b469a97b62593695a2d3786e735eb33686fe842bc2aa08b455e06211c9fdc9", func := "example.com/rootward/rootward/dns.LawS4758BBelow", spec := "lawS4758BBelow", apart := false }
def LawS4758BBelowSaid : Prop := lawS4758BBelowRow.holds Yba.pinned (OpenSpec.ofChange lawS4758BBelowSpec)

/-- ITS FALSE NEIGHBOUR: 'it returns false'. Refute it at one input. -/
def lawS4758BBelowWrong : ChangeSpec := { name := "lawS4758BBelow", fn := fun _ => fun
  | [d1, d2, d3, d4] => { results := [.lit (.bool false)], args := [d1, d2, d3, d4] }
  | _ => none }
def LawS4758BBelowWrongFalsely : Prop := lawS4758BBelowRow.holds Yba.pinned (OpenSpec.ofChange lawS4758BBelowWrong)

/-- 'dns.LawS4758BAny': WHATEVER THE INPUT: true; the input reads as it did. -/
def lawS4758BAnySpec : ChangeSpec := { name := "lawS4758BAny", fn := fun _ => fun
  | [d1, d2, d3] => { results := [.lit (.bool true)], args := [d1, d2, d3] }
  | _ => none }
def lawS4758BAnyRow : OpenClaim := { program := "ybulkctna", sum := "64b469a97b62593695a2d3786e735eb33686fe842bc2aa08b455e06211c9fdc9", func := "example.com/rootward/rootward/dns.LawS4758BAny", spec := "lawS4758BAny", apart := false }
def LawS4758BAnySaid : Prop := lawS4758BAnyRow.holds Yba.pinned (OpenSpec.ofChange lawS4758BAnySpec)

/-- ITS FALSE NEIGHBOUR: 'it returns false'. Refute it at one input. -/
def lawS4758BAnyWrong : ChangeSpec := { name := "lawS4758BAny", fn := fun _ => fun
  | [d1, d2, d3] => { results := [.lit (.bool false)], args := [d1, d2, d3] }
  | _ => none }
def LawS4758BAnyWrongFalsely : Prop := lawS4758BAnyRow.holds Yba.pinned (OpenSpec.ofChange lawS4758BAnyWrong)

end Rows
end Go.Proofs.Ybulkctna
