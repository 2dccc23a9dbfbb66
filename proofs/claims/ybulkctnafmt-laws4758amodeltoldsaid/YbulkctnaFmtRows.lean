/-
  NARROWER THAN 'FOR EVERY INPUT', by the rows' own cells (each row's printed sentence says how): LawS4758AModel: maps, laid · LawS4758ABuilt: maps, laid.
  DERIVED. THE GIVEN ROWS OF THIS SEAT. 2 by the template 'for every input the law returns true; each argument reads behind the call as it read before'; 0 by the template 'total and deterministic' (their statements: YbulkctnaFmtTotals.lean).
  GIVEN WITH THE SEED: the statements are not yours to turn. If you find one false, say at which input.
  Laid BY PROGRAM, IN A SANDBOX (cutbox-rows.mjs): the forced cells as the released guide's own fill.sh prints them over the translation 90ce36e7768c3b38… (all of the seat's roots in one cut). By AI agents, Wed Nov 11 2026. No macro, syntax, notation, axiom, sorry.
-/
import Derived.Test.YbulkctnaFmtChecked
import GoSem.Claim
import GoSem.ClaimJoined
import GoSem.ClaimMapViews
import Derived.JoinedTies
import Derived.KernelRfl
namespace Go.Proofs.YbulkctnaFmt
/- THE CELL 'sum', in the pinned program and in every row, IS THE sha256 OF THE DUMP (.gsa) THAT YbulkctnaFmtProg.lean LOADS. Nothing in Lean hashes anything: it is a label: what it is worth is what the hold of that sum in a sandbox is worth. -/
noncomputable def Ybaf.pinned : Pinned := { name := "ybulkctnafmt", sum := "90ce36e7768c3b3856efe4f415702f6ff66fcda33095e9aeaa028055b190ddb4", checked := Ybaf.checked }
namespace Rows
def none {H : Type} : Left H := { results := [], args := [] }

/- WHAT THE LISTED PACKAGE-LEVEL VARIABLES READ AS WHEN THE CALL BEGINS. Each datum BY PROGRAM (the guide's laid-datum.mjs) off the statement by which the dump's own 'gosem.cut.vars' lays the variable. In a bare row this is a premise. The card (YbulkctnaFmtCards.lean) ties it to the program's text. -/
def laid_math_bits_deBruijn32tab {H : Type} : DataW H := .agg [.lit (.int .u8 0), .lit (.int .u8 1), .lit (.int .u8 28), .lit (.int .u8 2), .lit (.int .u8 29), .lit (.int .u8 14), .lit (.int .u8 24), .lit (.int .u8 3), .lit (.int .u8 30), .lit (.int .u8 22), .lit (.int .u8 20), .lit (.int .u8 15), .lit (.int .u8 25), .lit (.int .u8 17), .lit (.int .u8 4), .lit (.int .u8 8), .lit (.int .u8 31), .lit (.int .u8 27), .lit (.int .u8 13), .lit (.int .u8 23), .lit (.int .u8 21), .lit (.int .u8 19), .lit (.int .u8 16), .lit (.int .u8 7), .lit (.int .u8 26), .lit (.int .u8 12), .lit (.int .u8 18), .lit (.int .u8 6), .lit (.int .u8 11), .lit (.int .u8 5), .lit (.int .u8 10), .lit (.int .u8 9)]
def laid_math_bits_deBruijn64tab {H : Type} : DataW H := .agg [.lit (.int .u8 0), .lit (.int .u8 1), .lit (.int .u8 56), .lit (.int .u8 2), .lit (.int .u8 57), .lit (.int .u8 49), .lit (.int .u8 28), .lit (.int .u8 3), .lit (.int .u8 61), .lit (.int .u8 58), .lit (.int .u8 42), .lit (.int .u8 50), .lit (.int .u8 38), .lit (.int .u8 29), .lit (.int .u8 17), .lit (.int .u8 4), .lit (.int .u8 62), .lit (.int .u8 47), .lit (.int .u8 59), .lit (.int .u8 36), .lit (.int .u8 45), .lit (.int .u8 43), .lit (.int .u8 51), .lit (.int .u8 22), .lit (.int .u8 53), .lit (.int .u8 39), .lit (.int .u8 33), .lit (.int .u8 30), .lit (.int .u8 24), .lit (.int .u8 18), .lit (.int .u8 12), .lit (.int .u8 5), .lit (.int .u8 63), .lit (.int .u8 55), .lit (.int .u8 48), .lit (.int .u8 27), .lit (.int .u8 60), .lit (.int .u8 41), .lit (.int .u8 37), .lit (.int .u8 16), .lit (.int .u8 46), .lit (.int .u8 35), .lit (.int .u8 44), .lit (.int .u8 21), .lit (.int .u8 52), .lit (.int .u8 32), .lit (.int .u8 23), .lit (.int .u8 11), .lit (.int .u8 54), .lit (.int .u8 26), .lit (.int .u8 40), .lit (.int .u8 15), .lit (.int .u8 34), .lit (.int .u8 20), .lit (.int .u8 31), .lit (.int .u8 10), .lit (.int .u8 25), .lit (.int .u8 14), .lit (.int .u8 19), .lit (.int .u8 9), .lit (.int .u8 13), .lit (.int .u8 8), .lit (.int .u8 7), .lit (.int .u8 6)]
def laid_internal_strconv_uint64pow10 {H : Type} : DataW H := .agg [.lit (.int .u64 1), .lit (.int .u64 10), .lit (.int .u64 100), .lit (.int .u64 1000), .lit (.int .u64 10000), .lit (.int .u64 100000), .lit (.int .u64 1000000), .lit (.int .u64 10000000), .lit (.int .u64 100000000), .lit (.int .u64 1000000000), .lit (.int .u64 10000000000), .lit (.int .u64 100000000000), .lit (.int .u64 1000000000000), .lit (.int .u64 10000000000000), .lit (.int .u64 100000000000000), .lit (.int .u64 1000000000000000), .lit (.int .u64 10000000000000000), .lit (.int .u64 100000000000000000), .lit (.int .u64 1000000000000000000), .lit (.int .u64 10000000000000000000)]
def laid_example_com_rootward_rootward_dns_svcKeyNames {H : Type} : DataW H := .map [(.int .u16 0, .lit (.string [109, 97, 110, 100, 97, 116, 111, 114, 121])), (.int .u16 1, .lit (.string [97, 108, 112, 110])), (.int .u16 2, .lit (.string [110, 111, 45, 100, 101, 102, 97, 117, 108, 116, 45, 97, 108, 112, 110])), (.int .u16 3, .lit (.string [112, 111, 114, 116])), (.int .u16 4, .lit (.string [105, 112, 118, 52, 104, 105, 110, 116])), (.int .u16 5, .lit (.string [101, 99, 104])), (.int .u16 6, .lit (.string [105, 112, 118, 54, 104, 105, 110, 116])), (.int .u16 7, .lit (.string [100, 111, 104, 112, 97, 116, 104])), (.int .u16 8, .lit (.string [111, 104, 116, 116, 112]))]

/-- 'dns.LawS4758AModel': WHATEVER THE INPUT: true; the input reads as it did. -/
def lawS4758AModelSpec : ChangeSpec := { name := "lawS4758AModel", vars := ["example.com/rootward/rootward/dns.svcKeyNames"], fn := fun _ => fun
  | [d1, d2, d3, g1] => { results := [.lit (.bool true)], args := [d1, d2, d3], vars := [g1] }
  | _ => none }
def lawS4758AModelRow : OpenClaim := { program := "ybulkctnafmt", sum := "90ce36e7768c3b3856efe4f415702f6ff66fcda33095e9aeaa028055b190ddb4", func := "example.com/rootward/rootward/dns.LawS4758AModel", spec := "lawS4758AModel", stops := ["fmt.errorf"], inPlace := ["fmt.errorf"], named := ["encoding/binary.BigEndian", "example.com/rootward/rootward/dns.svcKeyNames", "internal/strconv.uint64pow10", "math/bits.deBruijn32tab", "math/bits.deBruijn64tab"], maps := true, apart := false, laid := [("math/bits.deBruijn32tab", laid_math_bits_deBruijn32tab), ("math/bits.deBruijn64tab", laid_math_bits_deBruijn64tab), ("internal/strconv.uint64pow10", laid_internal_strconv_uint64pow10), ("example.com/rootward/rootward/dns.svcKeyNames", laid_example_com_rootward_rootward_dns_svcKeyNames)] }
/-- NO THEOREM (fmt's text is open here; it may be false): for the released tool's asking of the row's closed facts alone. THE STATEMENT IS 'LawS4758AModelToldSaid' (YbulkctnaFmtCards.lean). -/
def LawS4758AModelFormAsk : Prop := lawS4758AModelRow.holds Ybaf.pinned (OpenSpec.ofChange lawS4758AModelSpec)

/-- ITS FALSE NEIGHBOUR: 'it returns false'. Refute it at one input. -/
def lawS4758AModelWrong : ChangeSpec := { name := "lawS4758AModel", vars := ["example.com/rootward/rootward/dns.svcKeyNames"], fn := fun _ => fun
  | [d1, d2, d3, g1] => { results := [.lit (.bool false)], args := [d1, d2, d3], vars := [g1] }
  | _ => none }
def LawS4758AModelWrongFormAsk : Prop := lawS4758AModelRow.holds Ybaf.pinned (OpenSpec.ofChange lawS4758AModelWrong)

/-- 'dns.LawS4758ABuilt': WHATEVER THE INPUT: true; the input reads as it did. -/
def lawS4758ABuiltSpec : ChangeSpec := { name := "lawS4758ABuilt", vars := ["example.com/rootward/rootward/dns.svcKeyNames"], fn := fun _ => fun
  | [d1, d2, d3, d4, g1] => { results := [.lit (.bool true)], args := [d1, d2, d3, d4], vars := [g1] }
  | _ => none }
def lawS4758ABuiltRow : OpenClaim := { program := "ybulkctnafmt", sum := "90ce36e7768c3b3856efe4f415702f6ff66fcda33095e9aeaa028055b190ddb4", func := "example.com/rootward/rootward/dns.LawS4758ABuilt", spec := "lawS4758ABuilt", stops := ["fmt.errorf"], inPlace := ["fmt.errorf"], named := ["encoding/binary.BigEndian", "example.com/rootward/rootward/dns.svcKeyNames", "internal/strconv.uint64pow10", "math/bits.deBruijn32tab", "math/bits.deBruijn64tab"], maps := true, apart := false, laid := [("math/bits.deBruijn32tab", laid_math_bits_deBruijn32tab), ("math/bits.deBruijn64tab", laid_math_bits_deBruijn64tab), ("internal/strconv.uint64pow10", laid_internal_strconv_uint64pow10), ("example.com/rootward/rootward/dns.svcKeyNames", laid_example_com_rootward_rootward_dns_svcKeyNames)] }
/-- NO THEOREM (fmt's text is open here; it may be false): for the released tool's asking of the row's closed facts alone. THE STATEMENT IS 'LawS4758ABuiltToldSaid' (YbulkctnaFmtCards.lean). -/
def LawS4758ABuiltFormAsk : Prop := lawS4758ABuiltRow.holds Ybaf.pinned (OpenSpec.ofChange lawS4758ABuiltSpec)

/-- ITS FALSE NEIGHBOUR: 'it returns false'. Refute it at one input. -/
def lawS4758ABuiltWrong : ChangeSpec := { name := "lawS4758ABuilt", vars := ["example.com/rootward/rootward/dns.svcKeyNames"], fn := fun _ => fun
  | [d1, d2, d3, d4, g1] => { results := [.lit (.bool false)], args := [d1, d2, d3, d4], vars := [g1] }
  | _ => none }
def LawS4758ABuiltWrongFormAsk : Prop := lawS4758ABuiltRow.holds Ybaf.pinned (OpenSpec.ofChange lawS4758ABuiltWrong)

end Rows
end Go.Proofs.YbulkctnaFmt
