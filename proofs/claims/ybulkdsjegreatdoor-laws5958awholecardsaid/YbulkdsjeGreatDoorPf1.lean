import Derived.Test.YbulkdsjeGreatDoorRows
import Derived.Test.YbulkdsjeGreatDoorBy8
import Derived.ProofKit
import Derived.LaidMore
import Derived.OpenShut
import Derived.ShutString
import Derived.ChangeOld
import Derived.ChangeVars
import Derived.ChangeMaps5
import Derived.Stop.Joined
import Derived.Deep.SlicePairs
import Derived.SizedLaws
import Derived.WalkSmall
set_option linter.unusedVariables false
set_option linter.unusedSimpArgs false
namespace Go.Proofs.YbulkdsjeGreatDoor
open Go.ChangeShapes Go.WideShapes Go.ChangeAt Go.RowKit

theorem own : ownKnob Ybaz.prog.godebug = none := by kernel_rfl
theorem laidOut : laidOutB Ybaz.prog = true := by kernel_rfl
/-- The listed variable's name, off the given specification. -/
def vname : String := Rows.lawS5958AWholeSpec.vars.headD ""
theorem gS : Ybaz.prog.globalNamed vname = some 2 := by kernel_rfl
theorem tS : (Ybaz.prog.globals[2]?).map (·.type) = some 130 := by kernel_rfl
theorem gT : Ybaz.prog.globalNamed "math/bits.deBruijn64tab" = some 3 := by kernel_rfl
theorem tT : (Ybaz.prog.globals[3]?).map (·.type) = some 187 := by kernel_rfl
theorem Ybaz.cells130 : Ybaz.prog.cellsOf 130 = 23 := by kernel_rfl
theorem Ybaz.cells187 : Ybaz.prog.cellsOf 187 = 64 := by kernel_rfl
theorem Ybaz.cells24 : Ybaz.prog.cellsOf 24 = 1 := by kernel_rfl
theorem Ybaz.cells5 : Ybaz.prog.cellsOf 5 = 1 := by kernel_rfl
theorem Ybaz.cells62 : Ybaz.prog.cellsOf 62 = 2 := by kernel_rfl
theorem Ybaz.cells60 : Ybaz.prog.cellsOf 60 = 1 := by kernel_rfl
theorem Ybaz.cells23 : Ybaz.prog.cellsOf 23 = 1 := by kernel_rfl
theorem Ybaz.cells26 : Ybaz.prog.cellsOf 26 = 6 := by kernel_rfl
theorem u130 : Ybaz.prog.underlying 130 = some (.array 23 24) := by kernel_rfl
theorem u187 : Ybaz.prog.underlying 187 = some (.array 64 5) := by kernel_rfl
section
variable {H : Type} {enc : TypeId × Value → H} {P : Program} {w : World} {base : Nat} {sp : Nat → Bool} {held : Bool}
theorem trod_flt {fuel : Nat} {t : TypeId} {cs : List Value} {x : DataW H × List MemPlace} {k : FloatKind} (ht : P.underlying t = some (.float k)) (h : DataW.trod enc P w base sp held fuel t cs = some x) : ∃ b, cs = [.float k b] ∧ (Lit.float k b).wf = true := by
  cases fuel with
  | zero => simp [DataW.trod] at h
  | succ n =>
    unfold DataW.trod at h
    rw [ht] at h
    split at h
    all_goals first | (rename_i heq; cases heq; done) | skip
    all_goals simp_all
end
/-- What the listed tables give the walk. -/
theorem gl_of {W : World} (h : laidMetH Ybaz.prog Rows.lawS5958AWholeRow.laid W) : GL W := by
  rw [MakeChecks.laidMetH_plain _ _ _ (by kernel_rfl)] at h
  obtain ⟨ps, ⟨g, t, cs, fuel, p, q, hg, ht, hv, hd, ⟨g', t', cs', fuel', p', q', hg', ht', hv', hd', _⟩, _⟩, _⟩ := h
  obtain rfl := Option.some.inj (gT.symm.trans hg)
  obtain rfl := Option.some.inj (tT.symm.trans ht)
  obtain rfl := Option.some.inj (gS.symm.trans hg')
  obtain rfl := Option.some.inj (tS.symm.trans ht')
  refine ⟨fun j hj => ?_, fun j hj => ?_⟩
  · obtain ⟨xs, m, _, hx, hl, hxl, hall⟩ := DataW.trod_array u130 hd'
    have h1 := hall j hj
    obtain ⟨b, hb⟩ : ∃ b, xs[j]? = some b := ⟨xs[j]'(by omega), List.getElem?_eq_getElem (by omega)⟩
    rw [hb, Ybaz.cells24] at h1
    obtain ⟨z, hz, _⟩ := trod_flt Ybaz.underlying24 h1
    have h2 := congrArg (·[0]?) hz
    simp only [List.getElem?_take, List.getElem?_drop] at h2
    refine ⟨z, ?_⟩
    rw [World.var?_cell hg' hv' j, ← Array.getElem?_toList]
    simpa using h2
  · obtain ⟨xs, m, _, hx, hl, hxl, hall⟩ := DataW.trod_array u187 hd
    have h1 := hall j hj
    obtain ⟨b, hb⟩ : ∃ b, xs[j]? = some b := ⟨xs[j]'(by omega), List.getElem?_eq_getElem (by omega)⟩
    rw [hb, Ybaz.cells5] at h1
    obtain ⟨z, hz, hbz, _⟩ := DataW.trod_int Ybaz.underlying5 h1
    have h2 := congrArg (·[0]?) hz
    simp only [List.getElem?_take, List.getElem?_drop] at h2
    have hmem : (DataW.lit (.int .u8 z) : DataW Unit) ∈ xs.map (·.1) := by
      refine List.mem_map.2 ⟨b, List.mem_of_getElem? hb, ?_⟩
      rw [hbz]
    have hx1 : xs.map (·.1) = match (Rows.laid_math_bits_deBruijn64tab : DataW Unit) with | .agg l => l | _ => [] := by
      have this : (Rows.laid_math_bits_deBruijn64tab : DataW Unit) = .agg (xs.map (·.1)) := congrArg Prod.fst hx
      rw [this]
    rw [hx1] at hmem
    have hall2 : ∀ d ∈ (match (Rows.laid_math_bits_deBruijn64tab : DataW Unit) with | .agg l => l | _ => []), (match d with | .lit (.int .u8 z) => decide (0 ≤ z ∧ z < 64) | _ => false) = true := by
      intro d hdm
      exact List.all_eq_true.1 (show (List.all (match (Rows.laid_math_bits_deBruijn64tab : DataW Unit) with | .agg l => l | _ => []) (fun d => match d with | .lit (.int .u8 z) => decide (0 ≤ z ∧ z < 64) | _ => false)) = true by kernel_rfl) d hdm
    have hz2 := of_decide_eq_true (hall2 _ hmem)
    refine ⟨z.toNat, by omega, ?_⟩
    rw [World.var?_cell hg hv j, ← Array.getElem?_toList, Int.toNat_of_nonneg hz2.1]
    simpa using h2
end Go.Proofs.YbulkdsjeGreatDoor
