import Derived.Test.YbulkdsmyLawT
namespace Go.Proofs.Ybulkdsmy
open Go.RowKit
/-- The code behind the first k statements. -/
def dropC : Nat → Code → Code
  | 0, c => c
  | n + 1, .seq _ b => dropC n b
  | _, c => c
def headId : Code → Nat
  | .region n _ _ => n
  | .seq a _ => headId a
  | _ => 1000
theorem tail37_head : headId (dropC 20 (Yba.f3.body.getD .skip)) = 37 := by kernel_rfl
theorem tail65_head : headId (dropC 29 (Yba.f3.body.getD .skip)) = 65 := by kernel_rfl
theorem tail87_head : headId (dropC 33 (Yba.f3.body.getD .skip)) = 87 := by kernel_rfl
/-- What follows, by its name. -/
theorem wp_later {P : Program} {c t : Code} {Q : Exit → Act → World → Prop} {K : Act → World → Prop} {a : Act} {w : World} (hK : ∀ a w, Code.wp P t Q a w → K a w) (h : Code.wp P c (Exit.then (fun a w => Code.wp P t Q a w) Q) a w) : Code.wp P c (Exit.then K Q) a w :=
  wp_mono h fun e a w he => by
    cases e with
    | normal => exact hK _ _ he
    | _ => exact he
/-- The law's end. -/
def lawPost (w : World) : Exit → Act → World → Prop := bodyPost Yba.prog Yba.f3 fun e w' => e = .returned (.bool true) ∧ Below w.heap.size w w'
end Go.Proofs.Ybulkdsmy
