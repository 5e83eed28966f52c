/-
  NARROWER THAN 'FOR EVERY INPUT', by the rows' own cells (each row's printed sentence says how): LawS5958AWhole: laid · LawS5958ABlock: laid.
  DERIVED. THE GIVEN ROWS OF THIS SEAT. 2 by the template 'for every input the law returns true; each argument reads behind the call as it read before'; 0 by the template 'total and deterministic' (their statements: YbulkdsjeGreatDoorTotals.lean).
  GIVEN WITH THE SEED: the statements are not yours to turn. If you find one false, say at which input.
  Laid BY PROGRAM, IN A SANDBOX (cutbox-rows.mjs): the forced cells as the released guide's own fill.sh prints them over the translation 4acfefabcce910a7… (all of the seat's roots in one cut). By AI agents, Wed Nov 11 2026. No macro, syntax, notation, axiom, sorry.
-/
import Derived.Test.YbulkdsjeGreatDoorChecked
import GoSem.Claim
import GoSem.ClaimJoined
import GoSem.ClaimMapViews
import Derived.JoinedTies
import Derived.KernelRfl
namespace Go.Proofs.YbulkdsjeGreatDoor
/- THE CELL 'sum', in the pinned program and in every row, IS THE sha256 OF THE DUMP (.gsa) THAT YbulkdsjeGreatDoorProg.lean LOADS. Nothing in Lean hashes anything: it is a label: what it is worth is what the hold of that sum in a sandbox is worth. -/
noncomputable def Ybaz.pinned : Pinned := { name := "ybulkdsjegreatdoor", sum := "4acfefabcce910a7d450512326f56f1f78aaf95ba095418c18e4140e1d9517ae", checked := Ybaz.checked }
namespace Rows
def none {H : Type} : Left H := { results := [], args := [] }

/- WHAT THE LISTED PACKAGE-LEVEL VARIABLES READ AS WHEN THE CALL BEGINS. Each datum BY PROGRAM (the guide's laid-datum.mjs) off the statement by which the dump's own 'gosem.cut.vars' lays the variable. In a bare row this is a premise. The card (YbulkdsjeGreatDoorCards.lean) ties it to the program's text. -/
def laid_math_bits_deBruijn64tab {H : Type} : DataW H := .agg [.lit (.int .u8 0), .lit (.int .u8 1), .lit (.int .u8 56), .lit (.int .u8 2), .lit (.int .u8 57), .lit (.int .u8 49), .lit (.int .u8 28), .lit (.int .u8 3), .lit (.int .u8 61), .lit (.int .u8 58), .lit (.int .u8 42), .lit (.int .u8 50), .lit (.int .u8 38), .lit (.int .u8 29), .lit (.int .u8 17), .lit (.int .u8 4), .lit (.int .u8 62), .lit (.int .u8 47), .lit (.int .u8 59), .lit (.int .u8 36), .lit (.int .u8 45), .lit (.int .u8 43), .lit (.int .u8 51), .lit (.int .u8 22), .lit (.int .u8 53), .lit (.int .u8 39), .lit (.int .u8 33), .lit (.int .u8 30), .lit (.int .u8 24), .lit (.int .u8 18), .lit (.int .u8 12), .lit (.int .u8 5), .lit (.int .u8 63), .lit (.int .u8 55), .lit (.int .u8 48), .lit (.int .u8 27), .lit (.int .u8 60), .lit (.int .u8 41), .lit (.int .u8 37), .lit (.int .u8 16), .lit (.int .u8 46), .lit (.int .u8 35), .lit (.int .u8 44), .lit (.int .u8 21), .lit (.int .u8 52), .lit (.int .u8 32), .lit (.int .u8 23), .lit (.int .u8 11), .lit (.int .u8 54), .lit (.int .u8 26), .lit (.int .u8 40), .lit (.int .u8 15), .lit (.int .u8 34), .lit (.int .u8 20), .lit (.int .u8 31), .lit (.int .u8 10), .lit (.int .u8 25), .lit (.int .u8 14), .lit (.int .u8 19), .lit (.int .u8 9), .lit (.int .u8 13), .lit (.int .u8 8), .lit (.int .u8 7), .lit (.int .u8 6)]
def laid_example_com_chronolith_chronolith_store_pow10 {H : Type} : DataW H := .agg [.lit (.float .f64 4607182418800017408), .lit (.float .f64 4621819117588971520), .lit (.float .f64 4636737291354636288), .lit (.float .f64 4652007308841189376), .lit (.float .f64 4666723172467343360), .lit (.float .f64 4681608360884174848), .lit (.float .f64 4696837146684686336), .lit (.float .f64 4711630319722168320), .lit (.float .f64 4726483295884279808), .lit (.float .f64 4741671816366391296), .lit (.float .f64 4756540486875873280), .lit (.float .f64 4771362005757984768), .lit (.float .f64 4786511204640096256), .lit (.float .f64 4801453603149578240), .lit (.float .f64 4816244402031689728), .lit (.float .f64 4831355200913801216), .lit (.float .f64 4846369599423283200), .lit (.float .f64 4861130398305394688), .lit (.float .f64 4876203697187506176), .lit (.float .f64 4891288408196988160), .lit (.float .f64 4906019910204099648), .lit (.float .f64 4921056587992461136), .lit (.float .f64 4936209963552724370)]

/-- 'store.LawS5958AWhole': WHATEVER THE INPUT: true; the input reads as it did. -/
def lawS5958AWholeSpec : ChangeSpec := { name := "lawS5958AWhole", vars := ["example.com/chronolith/chronolith/store.pow10"], fn := fun _ => fun
  | [d1, d2, d3, d4, g1] => { results := [.lit (.bool true)], args := [d1, d2, d3, d4], vars := [g1] }
  | _ => none }
def lawS5958AWholeRow : OpenClaim := { program := "ybulkdsjegreatdoor", sum := "4acfefabcce910a7d450512326f56f1f78aaf95ba095418c18e4140e1d9517ae", func := "example.com/chronolith/chronolith/store.LawS5958AWhole", spec := "lawS5958AWhole", inPlace := ["math.Float64bits", "math.Float64frombits", "math.archLog"], unfollowed := true, recurses := true, named := ["encoding/binary.LittleEndian", "example.com/chronolith/chronolith/store.pow10", "math/bits.deBruijn64tab"], apart := false, laid := [("math/bits.deBruijn64tab", laid_math_bits_deBruijn64tab), ("example.com/chronolith/chronolith/store.pow10", laid_example_com_chronolith_chronolith_store_pow10)] }
def LawS5958AWholeSaid : Prop := lawS5958AWholeRow.holds Ybaz.pinned (OpenSpec.ofChange lawS5958AWholeSpec)

/-- ITS FALSE NEIGHBOUR: 'it returns false'. Refute it at one input. -/
def lawS5958AWholeWrong : ChangeSpec := { name := "lawS5958AWhole", vars := ["example.com/chronolith/chronolith/store.pow10"], fn := fun _ => fun
  | [d1, d2, d3, d4, g1] => { results := [.lit (.bool false)], args := [d1, d2, d3, d4], vars := [g1] }
  | _ => none }
def LawS5958AWholeWrongFalsely : Prop := lawS5958AWholeRow.holds Ybaz.pinned (OpenSpec.ofChange lawS5958AWholeWrong)

/-- 'store.LawS5958ABlock': WHATEVER THE INPUT: true; the input reads as it did. -/
def lawS5958ABlockSpec : ChangeSpec := { name := "lawS5958ABlock", vars := ["example.com/chronolith/chronolith/store.pow10"], fn := fun _ => fun
  | [d1, d2, d3, g1] => { results := [.lit (.bool true)], args := [d1, d2, d3], vars := [g1] }
  | _ => none }
def lawS5958ABlockRow : OpenClaim := { program := "ybulkdsjegreatdoor", sum := "4acfefabcce910a7d450512326f56f1f78aaf95ba095418c18e4140e1d9517ae", func := "example.com/chronolith/chronolith/store.LawS5958ABlock", spec := "lawS5958ABlock", inPlace := ["math.Float64bits", "math.Float64frombits", "math.archLog"], unfollowed := true, recurses := true, named := ["encoding/binary.LittleEndian", "example.com/chronolith/chronolith/store.pow10", "math/bits.deBruijn64tab"], apart := false, laid := [("math/bits.deBruijn64tab", laid_math_bits_deBruijn64tab), ("example.com/chronolith/chronolith/store.pow10", laid_example_com_chronolith_chronolith_store_pow10)] }
def LawS5958ABlockSaid : Prop := lawS5958ABlockRow.holds Ybaz.pinned (OpenSpec.ofChange lawS5958ABlockSpec)

/-- ITS FALSE NEIGHBOUR: 'it returns false'. Refute it at one input. -/
def lawS5958ABlockWrong : ChangeSpec := { name := "lawS5958ABlock", vars := ["example.com/chronolith/chronolith/store.pow10"], fn := fun _ => fun
  | [d1, d2, d3, g1] => { results := [.lit (.bool false)], args := [d1, d2, d3], vars := [g1] }
  | _ => none }
def LawS5958ABlockWrongFalsely : Prop := lawS5958ABlockRow.holds Ybaz.pinned (OpenSpec.ofChange lawS5958ABlockWrong)

end Rows
end Go.Proofs.YbulkdsjeGreatDoor
