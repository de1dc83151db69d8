/-
  DERIVED. GIVEN WITH THE SEED: THE PROGRAM's TIES (one call each: nine closed facts by the kernel) AND EACH ROW's TIE, after the 31st guide's Derived/Test/Toyas{Tie, Card}.lean. No idea stands in it: it is a product of the set-up. Laid BY PROGRAM, IN A SANDBOX (cutbox-door.mjs). By AI agents, Wed Nov 11 2026. No macro, syntax, notation, axiom, sorry.
-/
import Derived.Test.YbulkccziDoorRows
import Derived.LaidByTextLater
import Derived.SevenTiedAt
import Derived.LaidSub
import Derived.LaidOnce
namespace Go.Proofs.YbulkccziDoor
open Go
set_option maxRecDepth 100000
theorem seatTie1 : Ybad.prog.laidByTextLater [("example.com/palimpsest/palimpsest/deflate.codeLenOrder", Rows.laid_example_com_palimpsest_palimpsest_deflate_codeLenOrder)] [.widerDeep] true :=
  Program.laidByTextLater_by_one 14 8 20 (by kernel_rfl) (by kernel_rfl) (by kernel_rfl) (by kernel_rfl) (by kernel_rfl) (by kernel_rfl) (fun _ _ => by kernel_rfl)
theorem noOwnUnsafe : Ybad.pinned.checked.prog.headLifts.contains "ownunsafe" = false := by kernel_rfl
theorem tie : Ybad.prog.laidByTextLater [("example.com/palimpsest/palimpsest/deflate.codeLenOrder", Rows.laid_example_com_palimpsest_palimpsest_deflate_codeLenOrder)] [.widerDeep] true :=
  Program.laidByTextLater.sub seatTie1 ["example.com/palimpsest/palimpsest/deflate.codeLenOrder"] (by kernel_rfl) (by kernel_rfl)
theorem lawS3960ATokens_row_tie : Rows.lawS3960ATokensRow.laidByTextAt .later Ybad.pinned [.widerDeep] true :=
  OpenClaim.laidByTextAt_later rfl rfl tie noOwnUnsafe
theorem lawS3960ABits_row_tie : Rows.lawS3960ABitsRow.laidByTextAt .later Ybad.pinned [.widerDeep] true :=
  OpenClaim.laidByTextAt_later rfl rfl tie noOwnUnsafe
end Go.Proofs.YbulkccziDoor
