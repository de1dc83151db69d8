/-
  DERIVED. GIVEN WITH THE SEED: THE CARDS: each row of YbulkcdcaDoorRows.lean that lists a variable, with what it lists TIED to the program's text (the seventh form; the later family's looks); each row that meets fmt, with fmt's text TOLD by the authors' own Lean function (tested against real Go, not proved from fmt's source: count such statements apart). THE CARD IS WHAT COUNTS. Prove the row's statement (the work); the ties are given (YbulkcdcaDoorTie.lean); close each card by the builder's one call (the guide's Derived/Test/ToyasCard.lean, 'card_holds'). Laid BY PROGRAM, IN A SANDBOX (cutbox-door.mjs). By AI agents, Wed Nov 11 2026. No macro, syntax, notation, axiom, sorry.
-/
import Derived.Test.YbulkcdcaDoorRows
import GoSem.ClaimSeven
namespace Go.Proofs.YbulkcdcaDoor
namespace Rows

/-- THE TIED CARD OF 'wire.LawS3965CRoundTrip'. -/
def lawS3965CRoundTripCard : Claim7 := { stood := { row := lawS3965CRoundTripRow, standIns := [], harness := (true, "642a6216cab095e653d4a694329f85e964f512ff0ce9c25a7779d44a59c525de"), looks := true }, kinds := [], alts := [], laidByText := true, laidKinds := [.sentinel], laidTests := true, laidLooks := .later }
def LawS3965CRoundTripCardSaid : Prop := Claim7.holds Ybad.pinned (.plain (OpenSpec.ofChange lawS3965CRoundTripSpec)) lawS3965CRoundTripCard

/-- THE TIED CARD OF 'wire.LawS3965CRaw'. -/
def lawS3965CRawCard : Claim7 := { stood := { row := lawS3965CRawRow, standIns := [], harness := (true, "642a6216cab095e653d4a694329f85e964f512ff0ce9c25a7779d44a59c525de"), looks := true }, kinds := [], alts := [], laidByText := true, laidKinds := [.sentinel], laidTests := true, laidLooks := .later }
def LawS3965CRawCardSaid : Prop := Claim7.holds Ybad.pinned (.plain (OpenSpec.ofChange lawS3965CRawSpec)) lawS3965CRawCard
end Rows
end Go.Proofs.YbulkcdcaDoor
