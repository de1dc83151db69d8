/-
  DERIVED. GIVEN WITH THE SEED: THE CARDS: each row of YbulkcdakDoorRows.lean that lists a variable, with what it lists TIED to the program's text (the seventh form; the later family's looks); each row that meets fmt, with fmt's text TOLD by the authors' own Lean function (tested against real Go, not proved from fmt's source: count such statements apart). THE CARD IS WHAT COUNTS. Prove the row's statement (the work); the ties are given (YbulkcdakDoorTie.lean); close each card by the builder's one call (the guide's Derived/Test/ToyasCard.lean, 'card_holds'). Laid BY PROGRAM, IN A SANDBOX (cutbox-door.mjs). By AI agents, Wed Nov 11 2026. No macro, syntax, notation, axiom, sorry.
-/
import Derived.Test.YbulkcdakDoorRows
import GoSem.ClaimSeven
namespace Go.Proofs.YbulkcdakDoor
namespace Rows

/-- THE TIED CARD OF 'sandbox.LawS3962BRoundTrip'. -/
def lawS3962BRoundTripCard : Claim7 := { stood := { row := lawS3962BRoundTripRow, standIns := [], harness := (true, "b36a81da6370ddba066f4a13953dcecde17ed4d7d75fe60ac6ae924fda3051fe"), looks := true }, kinds := [], alts := [], laidByText := true, laidKinds := [.data, .data, .data, .sentinel, .sentinel, .listed, .data], laidTests := true, laidLooks := .later }
def LawS3962BRoundTripCardSaid : Prop := Claim7.holds Ybad.pinned (.plain (OpenSpec.ofChange lawS3962BRoundTripSpec)) lawS3962BRoundTripCard

/-- THE TIED CARD OF 'sandbox.LawS3962BModel'. -/
def lawS3962BModelCard : Claim7 := { stood := { row := lawS3962BModelRow, standIns := [], harness := (true, "b36a81da6370ddba066f4a13953dcecde17ed4d7d75fe60ac6ae924fda3051fe"), looks := true }, kinds := [], alts := [], laidByText := true, laidKinds := [.data, .data, .data, .sentinel, .sentinel, .listed, .data], laidTests := true, laidLooks := .later }
def LawS3962BModelCardSaid : Prop := Claim7.holds Ybad.pinned (.plain (OpenSpec.ofChange lawS3962BModelSpec)) lawS3962BModelCard

/-- THE TIED CARD OF 'sandbox.LawS3962BTooWide'. -/
def lawS3962BTooWideCard : Claim7 := { stood := { row := lawS3962BTooWideRow, standIns := [], harness := (true, "b36a81da6370ddba066f4a13953dcecde17ed4d7d75fe60ac6ae924fda3051fe"), looks := true }, kinds := [], alts := [], laidByText := true, laidKinds := [.data, .data, .data, .sentinel, .sentinel, .listed, .data], laidTests := true, laidLooks := .later }
def LawS3962BTooWideCardSaid : Prop := Claim7.holds Ybad.pinned (.plain (OpenSpec.ofChange lawS3962BTooWideSpec)) lawS3962BTooWideCard
end Rows
end Go.Proofs.YbulkcdakDoor
