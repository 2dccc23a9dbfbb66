/-
  DERIVED. GIVEN WITH THE SEED: THE CARDS: each row of YbulkctnaFmtRows.lean that lists a variable, with what it lists TIED to the program's text (the seventh form; the later family's looks); each row that meets fmt, with fmt's text TOLD by the authors' own Lean function (tested against real Go, not proved from fmt's source: count such statements apart). THE CARD IS WHAT COUNTS. Prove the row's statement (the work); the ties are given (YbulkctnaFmtTie.lean); close each card by the builder's one call (the guide's Derived/Test/ToyasCard.lean, 'card_holds'). Laid BY PROGRAM, IN A SANDBOX (cutbox-door.mjs). By AI agents, Wed Nov 11 2026. No macro, syntax, notation, axiom, sorry.
-/
import Derived.Test.YbulkctnaFmtRows
import GoSem.ClaimSeven
namespace Go.Proofs.YbulkctnaFmt
namespace Rows

/-- THE TOLD AND TIED CARD OF 'dns.LawS4758AModel'. -/
def lawS4758AModelCard : Claim7 := { stood := { row := lawS4758AModelRow, standIns := [], harness := (true, "4426465a44480b1554cf7ebdae32f809d3aad5fcceae516f62794ce467e2b432"), looks := false }, told := true, laidByText := true, laidKinds := [.data, .data, .data, .mapped], laidTests := true, laidLooks := .later, goes := false }
def LawS4758AModelToldSaid : Prop := Claim7.holds Ybaf.pinned (.plain (OpenSpec.ofChange lawS4758AModelSpec)) lawS4758AModelCard
/-- ITS FALSE NEIGHBOUR. Refute it at one input. -/
def LawS4758AModelToldWrongFalsely : Prop := Claim7.holds Ybaf.pinned (.plain (OpenSpec.ofChange lawS4758AModelWrong)) lawS4758AModelCard

/-- THE TOLD AND TIED CARD OF 'dns.LawS4758ABuilt'. -/
def lawS4758ABuiltCard : Claim7 := { stood := { row := lawS4758ABuiltRow, standIns := [], harness := (true, "4426465a44480b1554cf7ebdae32f809d3aad5fcceae516f62794ce467e2b432"), looks := false }, told := true, laidByText := true, laidKinds := [.data, .data, .data, .mapped], laidTests := true, laidLooks := .later, goes := false }
def LawS4758ABuiltToldSaid : Prop := Claim7.holds Ybaf.pinned (.plain (OpenSpec.ofChange lawS4758ABuiltSpec)) lawS4758ABuiltCard
/-- ITS FALSE NEIGHBOUR. Refute it at one input. -/
def LawS4758ABuiltToldWrongFalsely : Prop := Claim7.holds Ybaf.pinned (.plain (OpenSpec.ofChange lawS4758ABuiltWrong)) lawS4758ABuiltCard
end Rows
end Go.Proofs.YbulkctnaFmt
