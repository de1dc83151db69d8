/-
  DERIVED. GIVEN WITH THE SEED: THE CARDS: each row of YbulkcdakFmtRows.lean that lists a variable, with what it lists TIED to the program's text (the seventh form; the later family's looks); each row that meets fmt, with fmt's text TOLD by the authors' own Lean function (tested against real Go, not proved from fmt's source: count such statements apart). THE CARD IS WHAT COUNTS. Prove the row's statement (the work); the ties are given (YbulkcdakFmtTie.lean); close each card by the builder's one call (the guide's Derived/Test/ToyasCard.lean, 'card_holds'). Laid BY PROGRAM, IN A SANDBOX (cutbox-door.mjs). By AI agents, Wed Nov 11 2026. No macro, syntax, notation, axiom, sorry.
-/
import Derived.Test.YbulkcdakFmtRows
import GoSem.ClaimSeven
namespace Go.Proofs.YbulkcdakFmt
namespace Rows

/-- THE TOLD CARD OF 'rule.LawS3962APrintable'. -/
def lawS3962APrintableCard : Claim7 := { stood := { row := lawS3962APrintableRow, standIns := [], harness := (true, "8b25df9c143500aa3a825296ea052f8c530d44b130b0eec62fa22577114e2b1c"), looks := false }, told := true, goes := false }
def LawS3962APrintableToldSaid : Prop := Claim7.holds Ybaf.pinned (.plain (OpenSpec.ofChange lawS3962APrintableSpec)) lawS3962APrintableCard
/-- ITS FALSE NEIGHBOUR. Refute it at one input. -/
def LawS3962APrintableToldWrongFalsely : Prop := Claim7.holds Ybaf.pinned (.plain (OpenSpec.ofChange lawS3962APrintableWrong)) lawS3962APrintableCard

/-- THE TOLD CARD OF 'rule.LawS3962APrefix'. -/
def lawS3962APrefixCard : Claim7 := { stood := { row := lawS3962APrefixRow, standIns := [], harness := (true, "8b25df9c143500aa3a825296ea052f8c530d44b130b0eec62fa22577114e2b1c"), looks := false }, told := true, goes := false }
def LawS3962APrefixToldSaid : Prop := Claim7.holds Ybaf.pinned (.plain (OpenSpec.ofChange lawS3962APrefixSpec)) lawS3962APrefixCard
/-- ITS FALSE NEIGHBOUR. Refute it at one input. -/
def LawS3962APrefixToldWrongFalsely : Prop := Claim7.holds Ybaf.pinned (.plain (OpenSpec.ofChange lawS3962APrefixWrong)) lawS3962APrefixCard
end Rows
end Go.Proofs.YbulkcdakFmt
