/-
  DERIVED. GIVEN WITH THE SEED: THE PROGRAM's TIES (one call each: nine closed facts by the kernel) AND EACH ROW's TIE, after the 31st guide's Derived/Test/Toyas{Tie, Card}.lean. No idea stands in it: it is a product of the set-up. Laid BY PROGRAM, IN A SANDBOX (cutbox-door.mjs). By AI agents, Wed Nov 11 2026. No macro, syntax, notation, axiom, sorry.
-/
import Derived.Test.YbulkkrgDoorRows
import Derived.LaidByTextLater
import Derived.SevenTiedAt
import Derived.LaidSub
import Derived.LaidOnce
namespace Go.Proofs.YbulkkrgDoor
open Go
set_option maxRecDepth 100000
theorem seatTie1 : Ybad.prog.laidByTextLater [("example.com/varve/varve.lengthExtra", Rows.laid_example_com_varve_varve_lengthExtra), ("example.com/varve/varve.distExtra", Rows.laid_example_com_varve_varve_distExtra), ("example.com/varve/varve.clOrder", Rows.laid_example_com_varve_varve_clOrder), ("example.com/varve/varve.clExtra", Rows.laid_example_com_varve_varve_clExtra)] [.wider, .called, .widerDeep, .data] true :=
  Program.laidByTextLater_by_one 731 8 31 (by kernel_rfl) (by kernel_rfl) (by kernel_rfl) (by kernel_rfl) (by kernel_rfl) (by kernel_rfl) (fun _ _ => by kernel_rfl)
theorem noOwnUnsafe : Ybad.pinned.checked.prog.headLifts.contains "ownunsafe" = false := by kernel_rfl
theorem tie : Ybad.prog.laidByTextLater [("example.com/varve/varve.lengthExtra", Rows.laid_example_com_varve_varve_lengthExtra), ("example.com/varve/varve.distExtra", Rows.laid_example_com_varve_varve_distExtra), ("example.com/varve/varve.clOrder", Rows.laid_example_com_varve_varve_clOrder), ("example.com/varve/varve.clExtra", Rows.laid_example_com_varve_varve_clExtra)] [.wider, .called, .widerDeep, .data] true :=
  Program.laidByTextLater.sub seatTie1 ["example.com/varve/varve.lengthExtra", "example.com/varve/varve.distExtra", "example.com/varve/varve.clOrder", "example.com/varve/varve.clExtra"] (by kernel_rfl) (by kernel_rfl)
theorem lawS0565BCode_row_tie : Rows.lawS0565BCodeRow.laidByTextAt .later Ybad.pinned [.wider, .called, .widerDeep, .data] true :=
  OpenClaim.laidByTextAt_later rfl rfl tie noOwnUnsafe
theorem lawS0565BHeader_row_tie : Rows.lawS0565BHeaderRow.laidByTextAt .later Ybad.pinned [.wider, .called, .widerDeep, .data] true :=
  OpenClaim.laidByTextAt_later rfl rfl tie noOwnUnsafe
theorem lawS0565BBits_row_tie : Rows.lawS0565BBitsRow.laidByTextAt .later Ybad.pinned [.wider, .called, .widerDeep, .data] true :=
  OpenClaim.laidByTextAt_later rfl rfl tie noOwnUnsafe
end Go.Proofs.YbulkkrgDoor
