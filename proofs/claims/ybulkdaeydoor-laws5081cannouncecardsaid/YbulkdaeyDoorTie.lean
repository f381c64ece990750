/-
  DERIVED. GIVEN WITH THE SEED: THE PROGRAM's TIES (one call each: nine closed facts by the kernel) AND EACH ROW's TIE, after the 31st guide's Derived/Test/Toyas{Tie, Card}.lean. No idea stands in it: it is a product of the set-up. Laid BY PROGRAM, IN A SANDBOX (cutbox-door.mjs). By AI agents, Wed Nov 11 2026. No macro, syntax, notation, axiom, sorry.
-/
import Derived.Test.YbulkdaeyDoorRows
import Derived.LaidByTextLater
import Derived.SevenTiedAt
import Derived.LaidSub
import Derived.LaidOnce
namespace Go.Proofs.YbulkdaeyDoor
open Go
set_option maxRecDepth 100000
theorem seatTie1 : Ybad.prog.laidByTextLater [("example.com/hopwire/hopwire/internal/tree.probeIntake", Rows.laid_example_com_hopwire_hopwire_internal_tree_probeIntake), ("example.com/hopwire/hopwire/internal/tree.ErrNoTree", Rows.laid_example_com_hopwire_hopwire_internal_tree_ErrNoTree), ("example.com/hopwire/hopwire/internal/tree.ErrNoNeighbours", Rows.laid_example_com_hopwire_hopwire_internal_tree_ErrNoNeighbours)] [.wider, .sentinel, .sentinel] true :=
  Program.laidByTextLater_by_one 52 8 3 (by kernel_rfl) (by kernel_rfl) (by kernel_rfl) (by kernel_rfl) (by kernel_rfl) (by kernel_rfl) (fun _ _ => by kernel_rfl)
theorem noOwnUnsafe : Ybad.pinned.checked.prog.headLifts.contains "ownunsafe" = false := by kernel_rfl
theorem tie : Ybad.prog.laidByTextLater [("example.com/hopwire/hopwire/internal/tree.probeIntake", Rows.laid_example_com_hopwire_hopwire_internal_tree_probeIntake), ("example.com/hopwire/hopwire/internal/tree.ErrNoTree", Rows.laid_example_com_hopwire_hopwire_internal_tree_ErrNoTree)] [.wider, .sentinel] true :=
  Program.laidByTextLater.sub seatTie1 ["example.com/hopwire/hopwire/internal/tree.probeIntake", "example.com/hopwire/hopwire/internal/tree.ErrNoTree"] (by kernel_rfl) (by kernel_rfl)
theorem lawS5081ASends_row_tie : Rows.lawS5081ASendsRow.laidByTextAt .later Ybad.pinned [.wider, .sentinel] true :=
  OpenClaim.laidByTextAt_later rfl rfl tie noOwnUnsafe
theorem lawS5081AParent_row_tie : Rows.lawS5081AParentRow.laidByTextAt .later Ybad.pinned [.wider, .sentinel] true :=
  OpenClaim.laidByTextAt_later rfl rfl tie noOwnUnsafe
theorem tie2 : Ybad.prog.laidByTextLater [("example.com/hopwire/hopwire/internal/tree.ErrNoTree", Rows.laid_example_com_hopwire_hopwire_internal_tree_ErrNoTree), ("example.com/hopwire/hopwire/internal/tree.ErrNoNeighbours", Rows.laid_example_com_hopwire_hopwire_internal_tree_ErrNoNeighbours)] [.sentinel, .sentinel] true :=
  Program.laidByTextLater.sub seatTie1 ["example.com/hopwire/hopwire/internal/tree.ErrNoTree", "example.com/hopwire/hopwire/internal/tree.ErrNoNeighbours"] (by kernel_rfl) (by kernel_rfl)
theorem lawS5081CAnnounce_row_tie : Rows.lawS5081CAnnounceRow.laidByTextAt .later Ybad.pinned [.sentinel, .sentinel] true :=
  OpenClaim.laidByTextAt_later rfl rfl tie2 noOwnUnsafe
end Go.Proofs.YbulkdaeyDoor
