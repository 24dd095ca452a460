/-
  DERIVED. GIVEN WITH THE SEED: THE PROGRAM's TIES (one call each: nine closed facts by the kernel) AND EACH ROW's TIE, after the 31st guide's Derived/Test/Toyas{Tie, Card}.lean. No idea stands in it: it is a product of the set-up. Laid BY PROGRAM, IN A SANDBOX (cutbox-door.mjs). By AI agents, Wed Nov 11 2026. No macro, syntax, notation, axiom, sorry.
-/
import Derived.Test.Qxb6609465aDoorRows
import Derived.LaidByTextLater
import Derived.SevenTiedAt
import Derived.LaidSub
import Derived.LaidOnce
namespace Go.Proofs.Qxb6609465aDoor
open Go
set_option maxRecDepth 100000
theorem seatTie1 : Tryd.prog.laidByTextLater [("example.com/pathweave/pathweave/route.intents", Rows.laid_example_com_pathweave_pathweave_route_intents), ("example.com/pathweave/pathweave/route.bounds", Rows.laid_example_com_pathweave_pathweave_route_bounds)] [.data, .data] true :=
  Program.laidByTextLater_by_one 30 8 22 (by kernel_rfl) (by kernel_rfl) (by kernel_rfl) (by kernel_rfl) (by kernel_rfl) (by kernel_rfl) (fun _ _ => by kernel_rfl)
theorem noOwnUnsafe : Tryd.pinned.checked.prog.headLifts.contains "ownunsafe" = false := by kernel_rfl
theorem tie : Tryd.prog.laidByTextLater [("example.com/pathweave/pathweave/route.intents", Rows.laid_example_com_pathweave_pathweave_route_intents)] [.data] true :=
  Program.laidByTextLater.sub seatTie1 ["example.com/pathweave/pathweave/route.intents"] (by kernel_rfl) (by kernel_rfl)
theorem fnNamesAllOrNone_row_tie : Rows.fnNamesAllOrNoneRow.laidByTextAt .later Tryd.pinned [.data] true :=
  OpenClaim.laidByTextAt_later rfl rfl tie noOwnUnsafe
theorem tie2 : Tryd.prog.laidByTextLater [("example.com/pathweave/pathweave/route.bounds", Rows.laid_example_com_pathweave_pathweave_route_bounds)] [.data] true :=
  Program.laidByTextLater.sub seatTie1 ["example.com/pathweave/pathweave/route.bounds"] (by kernel_rfl) (by kernel_rfl)
theorem fnBoundFloorOnlyMinBandwidth_row_tie : Rows.fnBoundFloorOnlyMinBandwidthRow.laidByTextAt .later Tryd.pinned [.data] true :=
  OpenClaim.laidByTextAt_later rfl rfl tie2 noOwnUnsafe
end Go.Proofs.Qxb6609465aDoor
