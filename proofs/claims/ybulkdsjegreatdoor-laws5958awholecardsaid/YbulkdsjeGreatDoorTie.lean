/-
  DERIVED. GIVEN WITH THE SEED: THE PROGRAM's TIES (one call each: nine closed facts by the kernel) AND EACH ROW's TIE, after the 31st guide's Derived/Test/Toyas{Tie, Card}.lean. No idea stands in it: it is a product of the set-up. Laid BY PROGRAM, IN A SANDBOX (cutbox-door.mjs). By AI agents, Wed Nov 11 2026. No macro, syntax, notation, axiom, sorry.
-/
import Derived.Test.YbulkdsjeGreatDoorRows
import Derived.LaidByTextLater
import Derived.SevenTiedAt
import Derived.LaidSub
import Derived.LaidOnce
namespace Go.Proofs.YbulkdsjeGreatDoor
open Go
set_option maxRecDepth 100000
theorem seatTie1 : Ybaz.prog.laidByTextLater [("math/bits.deBruijn64tab", Rows.laid_math_bits_deBruijn64tab), ("example.com/chronolith/chronolith/store.pow10", Rows.laid_example_com_chronolith_chronolith_store_pow10)] [.data, .data] true :=
  Program.laidByTextLater_by_one 19 8 65 (by kernel_rfl) (by kernel_rfl) (by kernel_rfl) (by kernel_rfl) (by kernel_rfl) (by kernel_rfl) (fun _ _ => by kernel_rfl)
theorem noOwnUnsafe : Ybaz.pinned.checked.prog.headLifts.contains "ownunsafe" = false := by kernel_rfl
theorem tie : Ybaz.prog.laidByTextLater [("math/bits.deBruijn64tab", Rows.laid_math_bits_deBruijn64tab), ("example.com/chronolith/chronolith/store.pow10", Rows.laid_example_com_chronolith_chronolith_store_pow10)] [.data, .data] true :=
  Program.laidByTextLater.sub seatTie1 ["math/bits.deBruijn64tab", "example.com/chronolith/chronolith/store.pow10"] (by kernel_rfl) (by kernel_rfl)
theorem lawS5958AWhole_row_tie : Rows.lawS5958AWholeRow.laidByTextAt .later Ybaz.pinned [.data, .data] true :=
  OpenClaim.laidByTextAt_later rfl rfl tie noOwnUnsafe
theorem lawS5958ABlock_row_tie : Rows.lawS5958ABlockRow.laidByTextAt .later Ybaz.pinned [.data, .data] true :=
  OpenClaim.laidByTextAt_later rfl rfl tie noOwnUnsafe
end Go.Proofs.YbulkdsjeGreatDoor
