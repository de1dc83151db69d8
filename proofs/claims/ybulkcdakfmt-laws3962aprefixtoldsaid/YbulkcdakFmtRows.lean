/-
  No cell of these rows narrows 'for every input' (looked for: loops, veiled, ifaces, maps, wideKeys, modest, calm, conditions, laid).
  DERIVED. THE GIVEN ROWS OF THIS SEAT. 2 by the template 'for every input the law returns true; each argument reads behind the call as it read before'; 0 by the template 'total and deterministic' (their statements: YbulkcdakFmtTotals.lean).
  GIVEN WITH THE SEED: the statements are not yours to turn. If you find one false, say at which input.
  Laid BY PROGRAM, IN A SANDBOX (cutbox-rows.mjs): the forced cells as the released guide's own fill.sh prints them over the translation 0f37f6ba76d38b52… (all of the seat's roots in one cut). By AI agents, Wed Nov 11 2026. No macro, syntax, notation, axiom, sorry.
-/
import Derived.Test.YbulkcdakFmtChecked
import GoSem.Claim
import GoSem.ClaimJoined
import GoSem.ClaimMapViews
import Derived.JoinedTies
import Derived.KernelRfl
namespace Go.Proofs.YbulkcdakFmt
/- THE CELL 'sum', in the pinned program and in every row, IS THE sha256 OF THE DUMP (.gsa) THAT YbulkcdakFmtProg.lean LOADS. Nothing in Lean hashes anything: it is a label: what it is worth is what the hold of that sum in a sandbox is worth. -/
noncomputable def Ybaf.pinned : Pinned := { name := "ybulkcdakfmt", sum := "0f37f6ba76d38b52b9f2efda73d15b132a343082ec3f1de3ff6ee38e0864e625", checked := Ybaf.checked }
namespace Rows
def none {H : Type} : Left H := { results := [], args := [] }

/-- 'rule.LawS3962APrintable': WHATEVER THE INPUT: true; the input reads as it did. -/
def lawS3962APrintableSpec : ChangeSpec := { name := "lawS3962APrintable", fn := fun _ => fun
  | [d] => { results := [.lit (.bool true)], args := [d] }
  | _ => none }
def lawS3962APrintableRow : OpenClaim := { program := "ybulkcdakfmt", sum := "0f37f6ba76d38b52b9f2efda73d15b132a343082ec3f1de3ff6ee38e0864e625", func := "example.com/magicbind/magicbind/pkg/rule.LawS3962APrintable", spec := "lawS3962APrintable", stops := ["fmt.Sprintf"], inPlace := ["internal/abi.NoEscape", "fmt.Fprintf", "fmt.Sprintf"], unfollowed := true, recurses := true, apart := false }
/-- NO THEOREM (fmt's text is open here; it may be false): for the released tool's asking of the row's closed facts alone. THE STATEMENT IS 'LawS3962APrintableToldSaid' (YbulkcdakFmtCards.lean). -/
def LawS3962APrintableFormAsk : Prop := lawS3962APrintableRow.holds Ybaf.pinned (OpenSpec.ofChange lawS3962APrintableSpec)

/-- ITS FALSE NEIGHBOUR: 'it returns false'. Refute it at one input. -/
def lawS3962APrintableWrong : ChangeSpec := { name := "lawS3962APrintable", fn := fun _ => fun
  | [d] => { results := [.lit (.bool false)], args := [d] }
  | _ => none }
def LawS3962APrintableWrongFormAsk : Prop := lawS3962APrintableRow.holds Ybaf.pinned (OpenSpec.ofChange lawS3962APrintableWrong)

/-- 'rule.LawS3962APrefix': WHATEVER THE INPUT: true; the input reads as it did. -/
def lawS3962APrefixSpec : ChangeSpec := { name := "lawS3962APrefix", fn := fun _ => fun
  | [d] => { results := [.lit (.bool true)], args := [d] }
  | _ => none }
def lawS3962APrefixRow : OpenClaim := { program := "ybulkcdakfmt", sum := "0f37f6ba76d38b52b9f2efda73d15b132a343082ec3f1de3ff6ee38e0864e625", func := "example.com/magicbind/magicbind/pkg/rule.LawS3962APrefix", spec := "lawS3962APrefix", stops := ["fmt.Sprintf"], inPlace := ["internal/abi.NoEscape", "fmt.Fprintf", "fmt.Sprintf"], unfollowed := true, recurses := true, apart := false }
/-- NO THEOREM (fmt's text is open here; it may be false): for the released tool's asking of the row's closed facts alone. THE STATEMENT IS 'LawS3962APrefixToldSaid' (YbulkcdakFmtCards.lean). -/
def LawS3962APrefixFormAsk : Prop := lawS3962APrefixRow.holds Ybaf.pinned (OpenSpec.ofChange lawS3962APrefixSpec)

/-- ITS FALSE NEIGHBOUR: 'it returns false'. Refute it at one input. -/
def lawS3962APrefixWrong : ChangeSpec := { name := "lawS3962APrefix", fn := fun _ => fun
  | [d] => { results := [.lit (.bool false)], args := [d] }
  | _ => none }
def LawS3962APrefixWrongFormAsk : Prop := lawS3962APrefixRow.holds Ybaf.pinned (OpenSpec.ofChange lawS3962APrefixWrong)

end Rows
end Go.Proofs.YbulkcdakFmt
