/-
  DERIVED. GIVEN WITH THE SEED: THE PROGRAM's TIES (one call each: nine closed facts by the kernel) AND EACH ROW's TIE, after the 31st guide's Derived/Test/Toyas{Tie, Card}.lean. No idea stands in it: it is a product of the set-up. Laid BY PROGRAM, IN A SANDBOX (cutbox-door.mjs). By AI agents, Wed Nov 11 2026. No macro, syntax, notation, axiom, sorry.
-/
import Derived.Test.YbulkcaggDoorRows
import Derived.LaidByTextLater
import Derived.SevenTiedAt
import Derived.LaidSub
import Derived.LaidOnce
namespace Go.Proofs.YbulkcaggDoor
open Go
set_option maxRecDepth 100000
theorem seatTie1 : Ybad.prog.laidByTextLater [("errors.errorType", Rows.laid_errors_errorType), ("example.com/roundtable/roundtable/scenario.processCount", Rows.laid_example_com_roundtable_roundtable_scenario_processCount), ("example.com/roundtable/roundtable/scenario.roundCount", Rows.laid_example_com_roundtable_roundtable_scenario_roundCount), ("example.com/roundtable/roundtable/scenario.values", Rows.laid_example_com_roundtable_roundtable_scenario_values)] [.handle, .data, .data, .wider] true :=
  Program.laidByTextLater_by_one 31 8 3 (by kernel_rfl) (by kernel_rfl) (by kernel_rfl) (by kernel_rfl) (by kernel_rfl) (by kernel_rfl) (fun _ _ => by kernel_rfl)
theorem noOwnUnsafe : Ybad.pinned.checked.prog.headLifts.contains "ownunsafe" = false := by kernel_rfl
theorem tie : Ybad.prog.laidByTextLater [("errors.errorType", Rows.laid_errors_errorType), ("example.com/roundtable/roundtable/scenario.processCount", Rows.laid_example_com_roundtable_roundtable_scenario_processCount), ("example.com/roundtable/roundtable/scenario.roundCount", Rows.laid_example_com_roundtable_roundtable_scenario_roundCount), ("example.com/roundtable/roundtable/scenario.values", Rows.laid_example_com_roundtable_roundtable_scenario_values)] [.handle, .data, .data, .wider] true :=
  Program.laidByTextLater.sub seatTie1 ["errors.errorType", "example.com/roundtable/roundtable/scenario.processCount", "example.com/roundtable/roundtable/scenario.roundCount", "example.com/roundtable/roundtable/scenario.values"] (by kernel_rfl) (by kernel_rfl)
theorem lawS3828CExact_row_tie : Rows.lawS3828CExactRow.laidByTextAt .later Ybad.pinned [.handle, .data, .data, .wider] true :=
  OpenClaim.laidByTextAt_later rfl rfl tie noOwnUnsafe
theorem tie2 : Ybad.prog.laidByTextLater [("example.com/roundtable/roundtable/scenario.processCount", Rows.laid_example_com_roundtable_roundtable_scenario_processCount), ("example.com/roundtable/roundtable/scenario.roundCount", Rows.laid_example_com_roundtable_roundtable_scenario_roundCount), ("example.com/roundtable/roundtable/scenario.values", Rows.laid_example_com_roundtable_roundtable_scenario_values)] [.data, .data, .wider] true :=
  Program.laidByTextLater.sub seatTie1 ["example.com/roundtable/roundtable/scenario.processCount", "example.com/roundtable/roundtable/scenario.roundCount", "example.com/roundtable/roundtable/scenario.values"] (by kernel_rfl) (by kernel_rfl)
theorem lawS3828CValid_row_tie : Rows.lawS3828CValidRow.laidByTextAt .later Ybad.pinned [.data, .data, .wider] true :=
  OpenClaim.laidByTextAt_later rfl rfl tie2 noOwnUnsafe
end Go.Proofs.YbulkcaggDoor
