/-
  DERIVED. GIVEN WITH THE SEED: THE PROGRAM's TIES (one call each: nine closed facts by the kernel) AND EACH ROW's TIE, after the 31st guide's Derived/Test/Toyas{Tie, Card}.lean. No idea stands in it: it is a product of the set-up. Laid BY PROGRAM, IN A SANDBOX (cutbox-door.mjs). By AI agents, Wed Nov 11 2026. No macro, syntax, notation, axiom, sorry.
-/
import Derived.Test.YbulkeekaGreatFmtRows
import Derived.LaidByTextLater
import Derived.SevenTiedAt
import Derived.LaidSub
import Derived.LaidOnce
namespace Go.Proofs.YbulkeekaGreatFmt
open Go
set_option maxRecDepth 100000
theorem seatTie1 : Ybaz.prog.laidByTextLater [("example.com/mapstone/mapstone.ErrIncompatibleValue", Rows.laid_example_com_mapstone_mapstone_ErrIncompatibleValue)] [.sentinel] true :=
  Program.laidByTextLater_by_one 28 8 2 (by kernel_rfl) (by kernel_rfl) (by kernel_rfl) (by kernel_rfl) (by kernel_rfl) (by kernel_rfl) (fun _ _ => by kernel_rfl)
theorem noOwnUnsafe : Ybaz.pinned.checked.prog.headLifts.contains "ownunsafe" = false := by kernel_rfl
theorem tie : Ybaz.prog.laidByTextLater [("example.com/mapstone/mapstone.ErrIncompatibleValue", Rows.laid_example_com_mapstone_mapstone_ErrIncompatibleValue)] [.sentinel] true :=
  Program.laidByTextLater.sub seatTie1 ["example.com/mapstone/mapstone.ErrIncompatibleValue"] (by kernel_rfl) (by kernel_rfl)
theorem lawS6539BPart_row_tie : Rows.lawS6539BPartRow.laidByTextAt .later Ybaz.pinned [.sentinel] true :=
  OpenClaim.laidByTextAt_later rfl rfl tie noOwnUnsafe
end Go.Proofs.YbulkeekaGreatFmt
