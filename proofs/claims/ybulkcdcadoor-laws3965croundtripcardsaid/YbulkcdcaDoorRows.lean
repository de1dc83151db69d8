/-
  NARROWER THAN 'FOR EVERY INPUT', by the rows' own cells (each row's printed sentence says how): LawS3965CRoundTrip: ifaces, laid · LawS3965CRaw: ifaces, laid.
  DERIVED. THE GIVEN ROWS OF THIS SEAT. 2 by the template 'for every input the law returns true; each argument reads behind the call as it read before'; 0 by the template 'total and deterministic' (their statements: YbulkcdcaDoorTotals.lean).
  GIVEN WITH THE SEED: the statements are not yours to turn. If you find one false, say at which input.
  Laid BY PROGRAM, IN A SANDBOX (cutbox-rows.mjs): the forced cells as the released guide's own fill.sh prints them over the translation 743669359a855722… (all of the seat's roots in one cut). By AI agents, Wed Nov 11 2026. No macro, syntax, notation, axiom, sorry.
-/
import Derived.Test.YbulkcdcaDoorChecked
import GoSem.Claim
import GoSem.ClaimJoined
import GoSem.ClaimMapViews
import Derived.JoinedTies
import Derived.KernelRfl
namespace Go.Proofs.YbulkcdcaDoor
/- THE CELL 'sum', in the pinned program and in every row, IS THE sha256 OF THE DUMP (.gsa) THAT YbulkcdcaDoorProg.lean LOADS. Nothing in Lean hashes anything: it is a label: what it is worth is what the hold of that sum in a sandbox is worth. -/
noncomputable def Ybad.pinned : Pinned := { name := "ybulkcdcadoor", sum := "743669359a85572274e9d6d4855cad198887cb2a3eb8a26bbe4d958e1de47bf8", checked := Ybad.checked }
namespace Rows
def none {H : Type} : Left H := { results := [], args := [] }

/- WHAT THE LISTED PACKAGE-LEVEL VARIABLES READ AS WHEN THE CALL BEGINS. Each datum BY PROGRAM (the guide's laid-datum.mjs) off the statement by which the dump's own 'gosem.cut.vars' lays the variable. In a bare row this is a premise. The card (YbulkcdcaDoorCards.lean) ties it to the program's text. -/
def laid_example_com_rollcall_rollcall_internal_wire_ErrMalformed {H : Type} : DataW H := .iface "*errors.errorString" (.ptr (.agg [.lit (.string [109, 97, 108, 102, 111, 114, 109, 101, 100, 32, 102, 114, 97, 109, 101])]))

/-- 'wire.LawS3965CRoundTrip': WHATEVER THE INPUT: true; the input reads as it did. -/
def lawS3965CRoundTripSpec : ChangeSpec := { name := "lawS3965CRoundTrip", vars := ["example.com/rollcall/rollcall/internal/wire.ErrMalformed"], fn := fun _ => fun
  | [d1, d2, d3, d4, g1] => { results := [.lit (.bool true)], args := [d1, d2, d3, d4], vars := [g1] }
  | _ => none }
def lawS3965CRoundTripRow : OpenClaim := { program := "ybulkcdcadoor", sum := "743669359a85572274e9d6d4855cad198887cb2a3eb8a26bbe4d958e1de47bf8", func := "example.com/rollcall/rollcall/internal/wire.LawS3965CRoundTrip", spec := "lawS3965CRoundTrip", unfollowed := true, recurses := true, named := ["example.com/rollcall/rollcall/internal/wire.ErrMalformed"], ifaces := true, apart := false, laid := [("example.com/rollcall/rollcall/internal/wire.ErrMalformed", laid_example_com_rollcall_rollcall_internal_wire_ErrMalformed)] }
def LawS3965CRoundTripSaid : Prop := lawS3965CRoundTripRow.holds Ybad.pinned (OpenSpec.ofChange lawS3965CRoundTripSpec)

/-- ITS FALSE NEIGHBOUR: 'it returns false'. Refute it at one input. -/
def lawS3965CRoundTripWrong : ChangeSpec := { name := "lawS3965CRoundTrip", vars := ["example.com/rollcall/rollcall/internal/wire.ErrMalformed"], fn := fun _ => fun
  | [d1, d2, d3, d4, g1] => { results := [.lit (.bool false)], args := [d1, d2, d3, d4], vars := [g1] }
  | _ => none }
def LawS3965CRoundTripWrongFalsely : Prop := lawS3965CRoundTripRow.holds Ybad.pinned (OpenSpec.ofChange lawS3965CRoundTripWrong)

/-- 'wire.LawS3965CRaw': WHATEVER THE INPUT: true; the input reads as it did. -/
def lawS3965CRawSpec : ChangeSpec := { name := "lawS3965CRaw", vars := ["example.com/rollcall/rollcall/internal/wire.ErrMalformed"], fn := fun _ => fun
  | [d1, d2, g1] => { results := [.lit (.bool true)], args := [d1, d2], vars := [g1] }
  | _ => none }
def lawS3965CRawRow : OpenClaim := { program := "ybulkcdcadoor", sum := "743669359a85572274e9d6d4855cad198887cb2a3eb8a26bbe4d958e1de47bf8", func := "example.com/rollcall/rollcall/internal/wire.LawS3965CRaw", spec := "lawS3965CRaw", unfollowed := true, recurses := true, named := ["example.com/rollcall/rollcall/internal/wire.ErrMalformed"], ifaces := true, apart := false, laid := [("example.com/rollcall/rollcall/internal/wire.ErrMalformed", laid_example_com_rollcall_rollcall_internal_wire_ErrMalformed)] }
def LawS3965CRawSaid : Prop := lawS3965CRawRow.holds Ybad.pinned (OpenSpec.ofChange lawS3965CRawSpec)

/-- ITS FALSE NEIGHBOUR: 'it returns false'. Refute it at one input. -/
def lawS3965CRawWrong : ChangeSpec := { name := "lawS3965CRaw", vars := ["example.com/rollcall/rollcall/internal/wire.ErrMalformed"], fn := fun _ => fun
  | [d1, d2, g1] => { results := [.lit (.bool false)], args := [d1, d2], vars := [g1] }
  | _ => none }
def LawS3965CRawWrongFalsely : Prop := lawS3965CRawRow.holds Ybad.pinned (OpenSpec.ofChange lawS3965CRawWrong)

end Rows
end Go.Proofs.YbulkcdcaDoor
