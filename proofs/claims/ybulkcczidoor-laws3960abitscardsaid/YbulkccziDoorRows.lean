/-
  NARROWER THAN 'FOR EVERY INPUT', by the rows' own cells (each row's printed sentence says how): LawS3960ATokens: laid · LawS3960ABits: laid.
  DERIVED. THE GIVEN ROWS OF THIS SEAT. 2 by the template 'for every input the law returns true; each argument reads behind the call as it read before'; 0 by the template 'total and deterministic' (their statements: YbulkccziDoorTotals.lean).
  GIVEN WITH THE SEED: the statements are not yours to turn. If you find one false, say at which input.
  Laid BY PROGRAM, IN A SANDBOX (cutbox-rows.mjs): the forced cells as the released guide's own fill.sh prints them over the translation bc60abc2ee0ef2ee… (all of the seat's roots in one cut). By AI agents, Wed Nov 11 2026. No macro, syntax, notation, axiom, sorry.
-/
import Derived.Test.YbulkccziDoorChecked
import GoSem.Claim
import GoSem.ClaimJoined
import GoSem.ClaimMapViews
import Derived.JoinedTies
import Derived.KernelRfl
namespace Go.Proofs.YbulkccziDoor
/- THE CELL 'sum', in the pinned program and in every row, IS THE sha256 OF THE DUMP (.gsa) THAT YbulkccziDoorProg.lean LOADS. Nothing in Lean hashes anything: it is a label: what it is worth is what the hold of that sum in a sandbox is worth. -/
noncomputable def Ybad.pinned : Pinned := { name := "ybulkcczidoor", sum := "bc60abc2ee0ef2ee5855169de9fa9388e684f158c8dc006f2aed5a37ba3bdb8b", checked := Ybad.checked }
namespace Rows
def none {H : Type} : Left H := { results := [], args := [] }

/- WHAT THE LISTED PACKAGE-LEVEL VARIABLES READ AS WHEN THE CALL BEGINS. Each datum BY PROGRAM (the guide's laid-datum.mjs) off the statement by which the dump's own 'gosem.cut.vars' lays the variable. In a bare row this is a premise. The card (YbulkccziDoorCards.lean) ties it to the program's text. -/
def laid_example_com_palimpsest_palimpsest_deflate_codeLenOrder {H : Type} : DataW H := .agg [.lit (.int .u8 16), .lit (.int .u8 17), .lit (.int .u8 18), .lit (.int .u8 0), .lit (.int .u8 8), .lit (.int .u8 7), .lit (.int .u8 9), .lit (.int .u8 6), .lit (.int .u8 10), .lit (.int .u8 5), .lit (.int .u8 11), .lit (.int .u8 4), .lit (.int .u8 12), .lit (.int .u8 3), .lit (.int .u8 13), .lit (.int .u8 2), .lit (.int .u8 14), .lit (.int .u8 1), .lit (.int .u8 15)]

/-- 'deflate.LawS3960ATokens': WHATEVER THE INPUT: true; the input reads as it did. -/
def lawS3960ATokensSpec : ChangeSpec := { name := "lawS3960ATokens", vars := ["example.com/palimpsest/palimpsest/deflate.codeLenOrder"], fn := fun _ => fun
  | [d1, d2, d3, g1] => { results := [.lit (.bool true)], args := [d1, d2, d3], vars := [g1] }
  | _ => none }
def lawS3960ATokensRow : OpenClaim := { program := "ybulkcczidoor", sum := "bc60abc2ee0ef2ee5855169de9fa9388e684f158c8dc006f2aed5a37ba3bdb8b", func := "example.com/palimpsest/palimpsest/deflate.LawS3960ATokens", spec := "lawS3960ATokens", recurses := true, named := ["example.com/palimpsest/palimpsest/deflate.codeLenOrder"], apart := false, laid := [("example.com/palimpsest/palimpsest/deflate.codeLenOrder", laid_example_com_palimpsest_palimpsest_deflate_codeLenOrder)] }
def LawS3960ATokensSaid : Prop := lawS3960ATokensRow.holds Ybad.pinned (OpenSpec.ofChange lawS3960ATokensSpec)

/-- ITS FALSE NEIGHBOUR: 'it returns false'. Refute it at one input. -/
def lawS3960ATokensWrong : ChangeSpec := { name := "lawS3960ATokens", vars := ["example.com/palimpsest/palimpsest/deflate.codeLenOrder"], fn := fun _ => fun
  | [d1, d2, d3, g1] => { results := [.lit (.bool false)], args := [d1, d2, d3], vars := [g1] }
  | _ => none }
def LawS3960ATokensWrongFalsely : Prop := lawS3960ATokensRow.holds Ybad.pinned (OpenSpec.ofChange lawS3960ATokensWrong)

/-- 'deflate.LawS3960ABits': WHATEVER THE INPUT: true; the input reads as it did. -/
def lawS3960ABitsSpec : ChangeSpec := { name := "lawS3960ABits", vars := ["example.com/palimpsest/palimpsest/deflate.codeLenOrder"], fn := fun _ => fun
  | [d1, d2, d3, g1] => { results := [.lit (.bool true)], args := [d1, d2, d3], vars := [g1] }
  | _ => none }
def lawS3960ABitsRow : OpenClaim := { program := "ybulkcczidoor", sum := "bc60abc2ee0ef2ee5855169de9fa9388e684f158c8dc006f2aed5a37ba3bdb8b", func := "example.com/palimpsest/palimpsest/deflate.LawS3960ABits", spec := "lawS3960ABits", recurses := true, named := ["example.com/palimpsest/palimpsest/deflate.codeLenOrder"], apart := false, laid := [("example.com/palimpsest/palimpsest/deflate.codeLenOrder", laid_example_com_palimpsest_palimpsest_deflate_codeLenOrder)] }
def LawS3960ABitsSaid : Prop := lawS3960ABitsRow.holds Ybad.pinned (OpenSpec.ofChange lawS3960ABitsSpec)

/-- ITS FALSE NEIGHBOUR: 'it returns false'. Refute it at one input. -/
def lawS3960ABitsWrong : ChangeSpec := { name := "lawS3960ABits", vars := ["example.com/palimpsest/palimpsest/deflate.codeLenOrder"], fn := fun _ => fun
  | [d1, d2, d3, g1] => { results := [.lit (.bool false)], args := [d1, d2, d3], vars := [g1] }
  | _ => none }
def LawS3960ABitsWrongFalsely : Prop := lawS3960ABitsRow.holds Ybad.pinned (OpenSpec.ofChange lawS3960ABitsWrong)

end Rows
end Go.Proofs.YbulkccziDoor
