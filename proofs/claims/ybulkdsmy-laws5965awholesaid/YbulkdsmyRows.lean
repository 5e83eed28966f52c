/-
  No cell of these rows narrows 'for every input' (looked for: loops, veiled, ifaces, maps, wideKeys, modest, calm, conditions, laid).
  DERIVED. THE GIVEN ROWS OF THIS SEAT. 1 by the template 'for every input the law returns true; each argument reads behind the call as it read before'; 0 by the template 'total and deterministic' (their statements: YbulkdsmyTotals.lean).
  GIVEN WITH THE SEED: the statements are not yours to turn. If you find one false, say at which input.
  Laid BY PROGRAM, IN A SANDBOX (cutbox-rows.mjs): the forced cells as the released guide's own fill.sh prints them over the translation 48481960156e33a4… (all of the seat's roots in one cut). By AI agents, Wed Nov 11 2026. No macro, syntax, notation, axiom, sorry.
-/
import Derived.Test.YbulkdsmyChecked
import GoSem.Claim
import GoSem.ClaimJoined
import GoSem.ClaimMapViews
import Derived.JoinedTies
import Derived.KernelRfl
namespace Go.Proofs.Ybulkdsmy
/- THE CELL 'sum', in the pinned program and in every row, IS THE sha256 OF THE DUMP (.gsa) THAT YbulkdsmyProg.lean LOADS. Nothing in Lean hashes anything: it is a label: what it is worth is what the hold of that sum in a sandbox is worth. -/
noncomputable def Yba.pinned : Pinned := { name := "ybulkdsmy", sum := "48481960156e33a4a35e439a079f6ff7d923b1bf5386a2376fff64cfc77da365", checked := Yba.checked }
namespace Rows
def none {H : Type} : Left H := { results := [], args := [] }

/-- 'ring.LawS5965AWhole': WHATEVER THE INPUT: true; the input reads as it did. -/
def lawS5965AWholeSpec : ChangeSpec := { name := "lawS5965AWhole", fn := fun _ => fun
  | [d1, d2, d3, d4, d5, d6, d7, d8, d9, d10] => { results := [.lit (.bool true)], args := [d1, d2, d3, d4, d5, d6, d7, d8, d9, d10] }
  | _ => none }
def lawS5965AWholeRow : OpenClaim := { program := "ybulkdsmy", sum := "48481960156e33a4a35e439a079f6ff7d923b1bf5386a2376fff64cfc77da365", func := "example.com/overweave/overweave/internal/ring.LawS5965AWhole", spec := "lawS5965AWhole", inPlace := ["math/bits.Sub64"], unfollowed := true, recurses := true, named := ["encoding/binary.BigEndian"], apart := false }
def LawS5965AWholeSaid : Prop := lawS5965AWholeRow.holds Yba.pinned (OpenSpec.ofChange lawS5965AWholeSpec)

/-- ITS FALSE NEIGHBOUR: 'it returns false'. Refute it at one input. -/
def lawS5965AWholeWrong : ChangeSpec := { name := "lawS5965AWhole", fn := fun _ => fun
  | [d1, d2, d3, d4, d5, d6, d7, d8, d9, d10] => { results := [.lit (.bool false)], args := [d1, d2, d3, d4, d5, d6, d7, d8, d9, d10] }
  | _ => none }
def LawS5965AWholeWrongFalsely : Prop := lawS5965AWholeRow.holds Yba.pinned (OpenSpec.ofChange lawS5965AWholeWrong)

end Rows
end Go.Proofs.Ybulkdsmy
