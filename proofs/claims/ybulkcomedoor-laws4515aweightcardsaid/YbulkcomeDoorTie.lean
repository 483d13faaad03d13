/-
  DERIVED. GIVEN WITH THE SEED: THE PROGRAM's TIES (one call each: nine closed facts by the kernel) AND EACH ROW's TIE, after the 31st guide's Derived/Test/Toyas{Tie, Card}.lean. No idea stands in it: it is a product of the set-up. Laid BY PROGRAM, IN A SANDBOX (cutbox-door.mjs). By AI agents, Wed Nov 11 2026. No macro, syntax, notation, axiom, sorry.
-/
import Derived.Test.YbulkcomeDoorRows
import Derived.LaidByTextLater
import Derived.SevenTiedAt
import Derived.LaidSub
import Derived.LaidOnce
namespace Go.Proofs.YbulkcomeDoor
open Go
set_option maxRecDepth 100000
theorem seatTie1 : Ybad.prog.laidByTextLater [("example.com/phaseweave/phaseweave.kronrodNodes", Rows.laid_example_com_phaseweave_phaseweave_kronrodNodes), ("example.com/phaseweave/phaseweave.kronrodWeights", Rows.laid_example_com_phaseweave_phaseweave_kronrodWeights), ("example.com/phaseweave/phaseweave.gaussWeights", Rows.laid_example_com_phaseweave_phaseweave_gaussWeights)] [.data, .data, .data] true :=
  Program.laidByTextLater_by_one 24 8 9 (by kernel_rfl) (by kernel_rfl) (by kernel_rfl) (by kernel_rfl) (by kernel_rfl) (by kernel_rfl) (fun _ _ => by kernel_rfl)
theorem noOwnUnsafe : Ybad.pinned.checked.prog.headLifts.contains "ownunsafe" = false := by kernel_rfl
theorem tie : Ybad.prog.laidByTextLater [("example.com/phaseweave/phaseweave.kronrodNodes", Rows.laid_example_com_phaseweave_phaseweave_kronrodNodes), ("example.com/phaseweave/phaseweave.kronrodWeights", Rows.laid_example_com_phaseweave_phaseweave_kronrodWeights), ("example.com/phaseweave/phaseweave.gaussWeights", Rows.laid_example_com_phaseweave_phaseweave_gaussWeights)] [.data, .data, .data] true :=
  Program.laidByTextLater.sub seatTie1 ["example.com/phaseweave/phaseweave.kronrodNodes", "example.com/phaseweave/phaseweave.kronrodWeights", "example.com/phaseweave/phaseweave.gaussWeights"] (by kernel_rfl) (by kernel_rfl)
theorem lawS4515ANodes_row_tie : Rows.lawS4515ANodesRow.laidByTextAt .later Ybad.pinned [.data, .data, .data] true :=
  OpenClaim.laidByTextAt_later rfl rfl tie noOwnUnsafe
theorem lawS4515AWeight_row_tie : Rows.lawS4515AWeightRow.laidByTextAt .later Ybad.pinned [.data, .data, .data] true :=
  OpenClaim.laidByTextAt_later rfl rfl tie noOwnUnsafe
end Go.Proofs.YbulkcomeDoor
