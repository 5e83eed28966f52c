/-
  No cell of these rows narrows 'for every input' (looked for: loops, veiled, ifaces, maps, wideKeys, modest, calm, conditions, laid).
  DERIVED. THE GIVEN ROWS OF THIS SEAT. 1 by the template 'for every input the law returns true; each argument reads behind the call as it read before'; 0 by the template 'total and deterministic' (their statements: YbulkdslwTotals.lean).
  GIVEN WITH THE SEED: the statements are not yours to turn. If you find one false, say at which input.
  Laid BY PROGRAM, IN A SANDBOX (cutbox-rows.mjs): the forced cells as the released guide's own fill.sh prints them over the translation 55e72bd26b70f1af… (all of the seat's roots in one cut). By AI agents, Wed Nov 11 2026. No macro, syntax, notation, axiom, sorry.
-/
import Derived.Test.YbulkdslwChecked
import GoSem.Claim
import GoSem.ClaimJoined
import GoSem.ClaimMapViews
import Derived.JoinedTies
import Derived.KernelRfl
namespace Go.Proofs.Ybulkdslw
/- THE CELL 'sum', in the pinned program and in every row, IS THE sha256 OF THE DUMP (.gsa) THAT YbulkdslwProg.lean LOADS. Nothing in Lean hashes anything: it is a label: what it is worth is what the hold of that sum in a sandbox is worth. -/
noncomputable def Yba.pinned : Pinned := { name := "ybulkdslw", sum := "55e72bd26b70f1af4dcf09c1e31a3f8b83b56d6e92b313bd36ac4bb2bba43010", checked := Yba.checked }
namespace Rows
def none {H : Type} : Left H := { results := [], args := [] }

/-- 'bytestitch.LawS5963CWhole': WHATEVER THE INPUT: true; the input reads as it did. -/
def lawS5963CWholeSpec : ChangeSpec := { name := "lawS5963CWhole", fn := fun _ => fun
  | [d1, d2, d3, d4, d5, d6] => { results := [.lit (.bool true)], args := [d1, d2, d3, d4, d5, d6] }
  | _ => none }
def lawS5963CWholeRow : OpenClaim := { program := "ybulkdslw", sum := "55e72bd26b70f1af4dcf09c1e31a3f8b83b56d6e92b313bd36ac4bb2bba43010", func := "example.com/bytestitch/bytestitch.LawS5963CWhole", spec := "lawS5963CWhole", named := ["encoding/binary.BigEndian", "encoding/binary.LittleEndian"], apart := false }
def LawS5963CWholeSaid : Prop := lawS5963CWholeRow.holds Yba.pinned (OpenSpec.ofChange lawS5963CWholeSpec)

/-- ITS FALSE NEIGHBOUR: 'it returns false'. Refute it at one input. -/
def lawS5963CWholeWrong : ChangeSpec := { name := "lawS5963CWhole", fn := fun _ => fun
  | [d1, d2, d3, d4, d5, d6] => { results := [.lit (.bool false)], args := [d1, d2, d3, d4, d5, d6] }
  | _ => none }
def LawS5963CWholeWrongFalsely : Prop := lawS5963CWholeRow.holds Yba.pinned (OpenSpec.ofChange lawS5963CWholeWrong)

end Rows
end Go.Proofs.Ybulkdslw
