/-
  No cell of these rows narrows 'for every input' (looked for: loops, veiled, ifaces, maps, wideKeys, modest, calm, conditions, laid).
  DERIVED. THE GIVEN ROWS OF THIS SEAT. 1 by the template 'for every input the law returns true; each argument reads behind the call as it read before'; 0 by the template 'total and deterministic' (their statements: YbulkdsicGreatTotals.lean).
  GIVEN WITH THE SEED: the statements are not yours to turn. If you find one false, say at which input.
  Laid BY PROGRAM, IN A SANDBOX (cutbox-rows.mjs): the forced cells as the released guide's own fill.sh prints them over the translation 0f04c72748ba36e0… (all of the seat's roots in one cut). By AI agents, Wed Nov 11 2026. No macro, syntax, notation, axiom, sorry.
-/
import Derived.Test.YbulkdsicGreatChecked
import GoSem.Claim
import GoSem.ClaimJoined
import GoSem.ClaimMapViews
import Derived.JoinedTies
import Derived.KernelRfl
namespace Go.Proofs.YbulkdsicGreat
/- THE CELL 'sum', in the pinned program and in every row, IS THE sha256 OF THE DUMP (.gsa) THAT YbulkdsicGreatProg.lean LOADS. Nothing in Lean hashes anything: it is a label: what it is worth is what the hold of that sum in a sandbox is worth. -/
noncomputable def Ybaz.pinned : Pinned := { name := "ybulkdsicgreat", sum := "0f04c72748ba36e02c53ed8e78fc37cc103974d0799fc0fdc866b0e82843cc7a", checked := Ybaz.checked }
namespace Rows
def none {H : Type} : Left H := { results := [], args := [] }

/-- 'lacework.LawS5956CPart': WHATEVER THE INPUT: true; the input reads as it did. -/
def lawS5956CPartSpec : ChangeSpec := { name := "lawS5956CPart", fn := fun _ => fun
  | [d1, d2, d3] => { results := [.lit (.bool true)], args := [d1, d2, d3] }
  | _ => none }
def lawS5956CPartRow : OpenClaim := { program := "ybulkdsicgreat", sum := "0f04c72748ba36e02c53ed8e78fc37cc103974d0799fc0fdc866b0e82843cc7a", func := "example.com/lacework/lacework.LawS5956CPart", spec := "lawS5956CPart", inPlace := ["math.Float64frombits", "internal/reflectlite.ValueOf", "internal/reflectlite.Swapper", "(internal/reflectlite.Value).Len"], unfollowed := true, recurses := true, apart := false }
def LawS5956CPartSaid : Prop := lawS5956CPartRow.holds Ybaz.pinned (OpenSpec.ofChange lawS5956CPartSpec)

/-- ITS FALSE NEIGHBOUR: 'it returns false'. Refute it at one input. -/
def lawS5956CPartWrong : ChangeSpec := { name := "lawS5956CPart", fn := fun _ => fun
  | [d1, d2, d3] => { results := [.lit (.bool false)], args := [d1, d2, d3] }
  | _ => none }
def LawS5956CPartWrongFalsely : Prop := lawS5956CPartRow.holds Ybaz.pinned (OpenSpec.ofChange lawS5956CPartWrong)

end Rows
end Go.Proofs.YbulkdsicGreat
