/-
  No cell of these rows narrows 'for every input' (looked for: loops, veiled, ifaces, maps, wideKeys, modest, calm, conditions, laid).
  DERIVED. THE GIVEN ROWS OF THIS SEAT. 1 by the template 'for every input the law returns true; each argument reads behind the call as it read before'; 0 by the template 'total and deterministic' (their statements: YbulkdsicTotals.lean).
  GIVEN WITH THE SEED: the statements are not yours to turn. If you find one false, say at which input.
  Laid BY PROGRAM, IN A SANDBOX (cutbox-rows.mjs): the forced cells as the released guide's own fill.sh prints them over the translation 032826b07cf058f3… (all of the seat's roots in one cut). By AI agents, Wed Nov 11 2026. No macro, syntax, notation, axiom, sorry.
-/
import Derived.Test.YbulkdsicChecked
import GoSem.Claim
import GoSem.ClaimJoined
import GoSem.ClaimMapViews
import Derived.JoinedTies
import Derived.KernelRfl
namespace Go.Proofs.Ybulkdsic
/- THE CELL 'sum', in the pinned program and in every row, IS THE sha256 OF THE DUMP (.gsa) THAT YbulkdsicProg.lean LOADS. Nothing in Lean hashes anything: it is a label: what it is worth is what the hold of that sum in a sandbox is worth. -/
noncomputable def Yba.pinned : Pinned := { name := "ybulkdsic", sum := "032826b07cf058f3c4cf5354d618d0cedadf5898f2bb7e67ebec9e211026c67f", checked := Yba.checked }
namespace Rows
def none {H : Type} : Left H := { results := [], args := [] }

/-- 'lacework.LawS5956AWhole': WHATEVER THE INPUT: true; the input reads as it did. -/
def lawS5956AWholeSpec : ChangeSpec := { name := "lawS5956AWhole", fn := fun _ => fun
  | [d] => { results := [.lit (.bool true)], args := [d] }
  | _ => none }
def lawS5956AWholeRow : OpenClaim := { program := "ybulkdsic", sum := "032826b07cf058f3c4cf5354d618d0cedadf5898f2bb7e67ebec9e211026c67f", func := "example.com/lacework/lacework.LawS5956AWhole", spec := "lawS5956AWhole", apart := false }
def LawS5956AWholeSaid : Prop := lawS5956AWholeRow.holds Yba.pinned (OpenSpec.ofChange lawS5956AWholeSpec)

/-- ITS FALSE NEIGHBOUR: 'it returns false'. Refute it at one input. -/
def lawS5956AWholeWrong : ChangeSpec := { name := "lawS5956AWhole", fn := fun _ => fun
  | [d] => { results := [.lit (.bool false)], args := [d] }
  | _ => none }
def LawS5956AWholeWrongFalsely : Prop := lawS5956AWholeRow.holds Yba.pinned (OpenSpec.ofChange lawS5956AWholeWrong)

end Rows
end Go.Proofs.Ybulkdsic
