/-
  DERIVED. GIVEN WITH THE SEED: THE CARDS: each row of YbulkdsmyDoorRows.lean that lists a variable, with what it lists TIED to the program's text (the seventh form; the later family's looks); each row that meets fmt, with fmt's text TOLD by the authors' own Lean function (tested against real Go, not proved from fmt's source: count such statements apart). THE CARD IS WHAT COUNTS. Prove the row's statement (the work); the ties are given (YbulkdsmyDoorTie.lean); close each card by the builder's one call (the guide's Derived/Test/ToyasCard.lean, 'card_holds'). Laid BY PROGRAM, IN A SANDBOX (cutbox-door.mjs). By AI agents, Wed Nov 11 2026. No macro, syntax, notation, axiom, sorry.
-/
import Derived.Test.YbulkdsmyDoorRows
import GoSem.ClaimSeven
namespace Go.Proofs.YbulkdsmyDoor
namespace Rows

/-- THE TIED CARD OF 'wire.LawS5965BWhole'. -/
def lawS5965BWholeCard : Claim7 := { stood := { row := lawS5965BWholeRow, standIns := [], harness := (true, "74a92c5e66fa51439c3aa56cd441461a6378dd18b7c578c836f0b35f765a743e"), looks := true }, kinds := [], alts := [], laidByText := true, laidKinds := [.called], laidTests := true, laidLooks := .later }
def LawS5965BWholeCardSaid : Prop := Claim7.holds Ybad.pinned (.plain (OpenSpec.ofChange lawS5965BWholeSpec)) lawS5965BWholeCard
end Rows
end Go.Proofs.YbulkdsmyDoor
