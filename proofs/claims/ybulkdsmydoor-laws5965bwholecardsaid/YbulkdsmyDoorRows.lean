/-
  NARROWER THAN 'FOR EVERY INPUT', by the rows' own cells (each row's printed sentence says how): LawS5965BWhole: ifaces, laid.
  DERIVED. THE GIVEN ROWS OF THIS SEAT. 1 by the template 'for every input the law returns true; each argument reads behind the call as it read before'; 0 by the template 'total and deterministic' (their statements: YbulkdsmyDoorTotals.lean).
  GIVEN WITH THE SEED: the statements are not yours to turn. If you find one false, say at which input.
  Laid BY PROGRAM, IN A SANDBOX (cutbox-rows.mjs): the forced cells as the released guide's own fill.sh prints them over the translation 78dcdc06c586d1f3… (all of the seat's roots in one cut). By AI agents, Wed Nov 11 2026. No macro, syntax, notation, axiom, sorry.
-/
import Derived.Test.YbulkdsmyDoorChecked
import GoSem.Claim
import GoSem.ClaimJoined
import GoSem.ClaimMapViews
import Derived.JoinedTies
import Derived.KernelRfl
namespace Go.Proofs.YbulkdsmyDoor
/- THE CELL 'sum', in the pinned program and in every row, IS THE sha256 OF THE DUMP (.gsa) THAT YbulkdsmyDoorProg.lean LOADS. Nothing in Lean hashes anything: it is a label: what it is worth is what the hold of that sum in a sandbox is worth. -/
noncomputable def Ybad.pinned : Pinned := { name := "ybulkdsmydoor", sum := "78dcdc06c586d1f3756051967c3eb3f39fed35293c3c075544394d27da6665b2", checked := Ybad.checked }
namespace Rows
def none {H : Type} : Left H := { results := [], args := [] }

/- WHAT THE LISTED PACKAGE-LEVEL VARIABLES READ AS WHEN THE CALL BEGINS. Each datum BY PROGRAM (the guide's laid-datum.mjs) off the statement by which the dump's own 'gosem.cut.vars' lays the variable. In a bare row this is a premise. The card (YbulkdsmyDoorCards.lean) ties it to the program's text. -/
def laid_example_com_overweave_overweave_wire_errShort {H : Type} : DataW H := .iface "*errors.errorString" (.ptr (.agg [.lit (.string [119, 105, 114, 101, 58, 32, 116, 104, 101, 32, 109, 101, 115, 115, 97, 103, 101, 32, 101, 110, 100, 115, 32, 98, 101, 102, 111, 114, 101, 32, 105, 116, 115, 32, 108, 97, 115, 116, 32, 102, 105, 101, 108, 100])]))

/-- 'wire.LawS5965BWhole': WHATEVER THE INPUT: true; the input reads as it did. -/
def lawS5965BWholeSpec : ChangeSpec := { name := "lawS5965BWhole", vars := ["example.com/overweave/overweave/wire.errShort"], fn := fun _ => fun
  | [d1, d2, g1] => { results := [.lit (.bool true)], args := [d1, d2], vars := [g1] }
  | _ => none }
def lawS5965BWholeRow : OpenClaim := { program := "ybulkdsmydoor", sum := "78dcdc06c586d1f3756051967c3eb3f39fed35293c3c075544394d27da6665b2", func := "example.com/overweave/overweave/wire.LawS5965BWhole", spec := "lawS5965BWhole", named := ["example.com/overweave/overweave/wire.errShort", "encoding/binary.BigEndian"], ifaces := true, apart := false, laid := [("example.com/overweave/overweave/wire.errShort", laid_example_com_overweave_overweave_wire_errShort)] }
def LawS5965BWholeSaid : Prop := lawS5965BWholeRow.holds Ybad.pinned (OpenSpec.ofChange lawS5965BWholeSpec)

/-- ITS FALSE NEIGHBOUR: 'it returns false'. Refute it at one input. -/
def lawS5965BWholeWrong : ChangeSpec := { name := "lawS5965BWhole", vars := ["example.com/overweave/overweave/wire.errShort"], fn := fun _ => fun
  | [d1, d2, g1] => { results := [.lit (.bool false)], args := [d1, d2], vars := [g1] }
  | _ => none }
def LawS5965BWholeWrongFalsely : Prop := lawS5965BWholeRow.holds Ybad.pinned (OpenSpec.ofChange lawS5965BWholeWrong)

end Rows
end Go.Proofs.YbulkdsmyDoor
