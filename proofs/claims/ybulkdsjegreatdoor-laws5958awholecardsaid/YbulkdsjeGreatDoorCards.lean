/-
  DERIVED. GIVEN WITH THE SEED: THE CARDS: each row of YbulkdsjeGreatDoorRows.lean that lists a variable, with what it lists TIED to the program's text (the seventh form; the later family's looks); each row that meets fmt, with fmt's text TOLD by the authors' own Lean function (tested against real Go, not proved from fmt's source: count such statements apart). THE CARD IS WHAT COUNTS. Prove the row's statement (the work); the ties are given (YbulkdsjeGreatDoorTie.lean); close each card by the builder's one call (the guide's Derived/Test/ToyasCard.lean, 'card_holds'). Laid BY PROGRAM, IN A SANDBOX (cutbox-door.mjs). By AI agents, Wed Nov 11 2026. No macro, syntax, notation, axiom, sorry.
-/
import Derived.Test.YbulkdsjeGreatDoorRows
import GoSem.ClaimSeven
namespace Go.Proofs.YbulkdsjeGreatDoor
namespace Rows

/-- THE TIED CARD OF 'store.LawS5958AWhole'. -/
def lawS5958AWholeCard : Claim7 := { stood := { row := lawS5958AWholeRow, standIns := [], harness := (true, "b9e6d96a57ae544cf7e1d857e99817a5d7094731ceb2e735254a026b3d781e6c"), looks := false }, kinds := [], alts := [], laidByText := true, laidKinds := [.data, .data], laidTests := true, laidLooks := .later }
def LawS5958AWholeCardSaid : Prop := Claim7.holds Ybaz.pinned (.plain (OpenSpec.ofChange lawS5958AWholeSpec)) lawS5958AWholeCard

/-- THE TIED CARD OF 'store.LawS5958ABlock'. -/
def lawS5958ABlockCard : Claim7 := { stood := { row := lawS5958ABlockRow, standIns := [], harness := (true, "b9e6d96a57ae544cf7e1d857e99817a5d7094731ceb2e735254a026b3d781e6c"), looks := false }, kinds := [], alts := [], laidByText := true, laidKinds := [.data, .data], laidTests := true, laidLooks := .later }
def LawS5958ABlockCardSaid : Prop := Claim7.holds Ybaz.pinned (.plain (OpenSpec.ofChange lawS5958ABlockSpec)) lawS5958ABlockCard
end Rows
end Go.Proofs.YbulkdsjeGreatDoor
