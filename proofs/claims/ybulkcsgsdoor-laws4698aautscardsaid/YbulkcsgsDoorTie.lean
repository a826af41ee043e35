/-
  DERIVED. GIVEN WITH THE SEED: THE PROGRAM's TIES (one call each: nine closed facts by the kernel) AND EACH ROW's TIE, after the 31st guide's Derived/Test/Toyas{Tie, Card}.lean. No idea stands in it: it is a product of the set-up. Laid BY PROGRAM, IN A SANDBOX (cutbox-door.mjs). By AI agents, Wed Nov 11 2026. No macro, syntax, notation, axiom, sorry.
-/
import Derived.Test.YbulkcsgsDoorRows
import Derived.LaidByTextLater
import Derived.SevenTiedAt
import Derived.LaidSub
import Derived.LaidOnce
namespace Go.Proofs.YbulkcsgsDoor
open Go
set_option maxRecDepth 100000
theorem seatTie1 : Ybad.prog.laidByTextLater [("example.com/roamkey/roamkey.milenageRC", Rows.laid_example_com_roamkey_roamkey_milenageRC), ("example.com/roamkey/roamkey.resyncAMF", Rows.laid_example_com_roamkey_roamkey_resyncAMF)] [.data, .widerDeep] true :=
  Program.laidByTextLater_by_one 24 8 13 (by kernel_rfl) (by kernel_rfl) (by kernel_rfl) (by kernel_rfl) (by kernel_rfl) (by kernel_rfl) (fun _ _ => by kernel_rfl)
theorem noOwnUnsafe : Ybad.pinned.checked.prog.headLifts.contains "ownunsafe" = false := by kernel_rfl
theorem tie : Ybad.prog.laidByTextLater [("example.com/roamkey/roamkey.milenageRC", Rows.laid_example_com_roamkey_roamkey_milenageRC)] [.data] true :=
  Program.laidByTextLater.sub seatTie1 ["example.com/roamkey/roamkey.milenageRC"] (by kernel_rfl) (by kernel_rfl)
theorem lawS4698AModel_row_tie : Rows.lawS4698AModelRow.laidByTextAt .later Ybad.pinned [.data] true :=
  OpenClaim.laidByTextAt_later rfl rfl tie noOwnUnsafe
theorem tie2 : Ybad.prog.laidByTextLater [("example.com/roamkey/roamkey.milenageRC", Rows.laid_example_com_roamkey_roamkey_milenageRC), ("example.com/roamkey/roamkey.resyncAMF", Rows.laid_example_com_roamkey_roamkey_resyncAMF)] [.data, .widerDeep] true :=
  Program.laidByTextLater.sub seatTie1 ["example.com/roamkey/roamkey.milenageRC", "example.com/roamkey/roamkey.resyncAMF"] (by kernel_rfl) (by kernel_rfl)
theorem lawS4698AAuts_row_tie : Rows.lawS4698AAutsRow.laidByTextAt .later Ybad.pinned [.data, .widerDeep] true :=
  OpenClaim.laidByTextAt_later rfl rfl tie2 noOwnUnsafe
end Go.Proofs.YbulkcsgsDoor
