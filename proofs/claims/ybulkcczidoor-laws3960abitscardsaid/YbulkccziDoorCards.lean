/-
  DERIVED. GIVEN WITH THE SEED: THE CARDS: each row of YbulkccziDoorRows.lean that lists a variable, with what it lists TIED to the program's text (the seventh form; the later family's looks); each row that meets fmt, with fmt's text TOLD by the authors' own Lean function (tested against real Go, not proved from fmt's source: count such statements apart). THE CARD IS WHAT COUNTS. Prove the row's statement (the work); the ties are given (YbulkccziDoorTie.lean); close each card by the builder's one call (the guide's Derived/Test/ToyasCard.lean, 'card_holds'). Laid BY PROGRAM, IN A SANDBOX (cutbox-door.mjs). By AI agents, Wed Nov 11 2026. No macro, syntax, notation, axiom, sorry.
-/
import Derived.Test.YbulkccziDoorRows
import GoSem.ClaimSeven
namespace Go.Proofs.YbulkccziDoor
namespace Rows

/-- THE TIED CARD OF 'deflate.LawS3960ATokens'. -/
def lawS3960ATokensCard : Claim7 := { stood := { row := lawS3960ATokensRow, standIns := [], harness := (true, "9d6fb796174f7817e66d10bfce553a82ccfcd4fbb754b232efc7598db4f66f36"), looks := false }, kinds := [], alts := [], laidByText := true, laidKinds := [.widerDeep], laidTests := true, laidLooks := .later }
def LawS3960ATokensCardSaid : Prop := Claim7.holds Ybad.pinned (.plain (OpenSpec.ofChange lawS3960ATokensSpec)) lawS3960ATokensCard

/-- THE TIED CARD OF 'deflate.LawS3960ABits'. -/
def lawS3960ABitsCard : Claim7 := { stood := { row := lawS3960ABitsRow, standIns := [], harness := (true, "9d6fb796174f7817e66d10bfce553a82ccfcd4fbb754b232efc7598db4f66f36"), looks := false }, kinds := [], alts := [], laidByText := true, laidKinds := [.widerDeep], laidTests := true, laidLooks := .later }
def LawS3960ABitsCardSaid : Prop := Claim7.holds Ybad.pinned (.plain (OpenSpec.ofChange lawS3960ABitsSpec)) lawS3960ABitsCard
end Rows
end Go.Proofs.YbulkccziDoor
