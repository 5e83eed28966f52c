import Derived.Test.YbulkdsjeGreatDoorSe4
import Derived.BigQuiet
import Derived.Deep.QuietTactic
set_option linter.unusedVariables false
set_option linter.unusedSimpArgs false
namespace Go.Proofs.YbulkdsjeGreatDoor
open Go.RowKit

/-- What has turned of a series' steps. -/
def SN (U : World) (SA : Nat → Nat → Prop) (sb ab na : Nat) (SA' : Nat → Nat → Prop) (w' : World) : Prop := FP U w' (fun c j => (∃ i, i < na ∧ SA i c) ∨ c = ab ∨ (c = sb ∧ 8 ≤ j ∧ j < 12)) ∧ ∀ i c, i < na → SA' i c → SA i c ∨ U.heap.size ≤ c
theorem SM.n {U V : World} {SA S1 : Nat → Nat → Prop} {sb ab na : Nat} (h : SM U SA ab na S1 V) : SN U SA sb ab na S1 V := ⟨h.1.mono (fun c j _ hx => hx.elim .inl (fun h => .inr (.inl h))), h.2⟩
theorem SN.trans {U V W : World} {SA S1 S2 : Nat → Nat → Prop} {sb ab na : Nat} (h : SN U SA sb ab na S1 V) (k : SN V S1 sb ab na S2 W) : SN U SA sb ab na S2 W := by
  refine ⟨h.1.thn k.1 (fun c j hc hx => ?_), fun i c hi hc => ?_⟩
  · rcases hx with ⟨i, hi, hx⟩ | hx
    · rcases h.2 i c hi hx with h1 | h1
      · exact .inl ⟨i, hi, h1⟩
      · omega
    · exact .inr hx
  · rcases k.2 i c hi hc with h1 | h1
    · exact h.2 i c hi h1
    · exact .inr (Nat.le_trans h.1.size h1)
/-- Behind a step at t. -/
def StP (U : World) (SA : Nat → Nat → Prop) (sb ab na : Nat) (st nn fu : Nat → Nat) (hb t : Nat) (w' : World) : Prop := ∃ SA' pv', SX w' SA' sb ab na st nn fu hb pv' t true ∧ SN U SA sb ab na SA' w'
section
variable {U V W : World} {SA : Nat → Nat → Prop} {sb ab na : Nat} {st nn fu : Nat → Nat} {hb pv nw : Nat} {sd : Bool}
/-- prev, newest, value and started anew. -/
theorem SX.set (h : SX U SA sb ab na st nn fu hb pv nw sd) {pv' nw' x : Nat} {sd' : Bool} (fp : FP U V (fun c j => c = sb ∧ 8 ≤ j ∧ j < 12)) (c8 : V.cell? ⟨sb, 8, none⟩ = some (vi pv')) (c9 : V.cell? ⟨sb, 9, none⟩ = some (vi nw')) (c10 : V.cell? ⟨sb, 10, none⟩ = some (.float .f64 x)) (c11 : V.cell? ⟨sb, 11, none⟩ = some (.bool sd')) (hb2 : pv' ≤ nw' ∧ nw' ≤ 8000000000) : SX V SA sb ab na st nn fu hb pv' nw' sd' ∧ SN U SA sb ab na SA V := by
  have hl := h.lt
  refine ⟨⟨by rw [fp.cell _ _ hl (fun e => by omega)]; exact h.r1, by rw [fp.cell _ _ hl (fun e => by omega)]; exact h.c4, c8, c9, ⟨x, c10⟩, c11, fun j a b => by rw [fp.frz _ _ hl]; exact h.fz j a b, fun i hi => (h.ar i hi).fp fp (fun j _ e => h.sab e.1.symm) (fun c j hc e => h.ds i c hi hc e.1), h.dj, h.ds, h.sab, h.hna, h.hhb, hb2⟩, fp.mono (fun c j _ e => .inr (.inr e)), fun _ _ _ h => .inl h⟩
end
theorem cell_setv (w : World) (b i : Nat) (v : Value) (h : (w.cell? ⟨b, i, none⟩).isSome = true) : (w.setCell ⟨b, i, none⟩ v).cell? ⟨b, i, none⟩ = some v := World.cell?_setCell_same' _ _ _ h
theorem cell_seto (w : World) (b i j : Nat) (v : Value) (h : i ≠ j) : (w.setCell ⟨b, i, none⟩ v).cell? ⟨b, j, none⟩ = w.cell? ⟨b, j, none⟩ := World.cell?_setCell_other _ _ _ _ (fun e => h (by have h0 := congrArg Addr.off e; simp at h0; exact h0))
/-- Four cells in a row set. -/
theorem set4 {U : World} {b : Nat} {v8 v9 v10 v11 : Value} (h8 : (U.cell? ⟨b, 8, none⟩).isSome = true) (h9 : (U.cell? ⟨b, 9, none⟩).isSome = true) (h10 : (U.cell? ⟨b, 10, none⟩).isSome = true) (h11 : (U.cell? ⟨b, 11, none⟩).isSome = true) (V : World) (hV : V = (((U.setCell ⟨b, 8, none⟩ v8).setCell ⟨b, 9, none⟩ v9).setCell ⟨b, 10, none⟩ v10).setCell ⟨b, 11, none⟩ v11) : FP U V (fun c j => c = b ∧ 8 ≤ j ∧ j < 12) ∧ V.cell? ⟨b, 8, none⟩ = some v8 ∧ V.cell? ⟨b, 9, none⟩ = some v9 ∧ V.cell? ⟨b, 10, none⟩ = some v10 ∧ V.cell? ⟨b, 11, none⟩ = some v11 := by
  subst hV
  have m : ∀ (w : World) (i : Nat) (v : Value), 8 ≤ i → i < 12 → FP w (w.setCell ⟨b, i, none⟩ v) (fun c j => c = b ∧ 8 ≤ j ∧ j < 12) := fun w i v h1 h2 => (FP.set (w := w) b i v).mono (fun c j _ e => ⟨e.1, by omega, by omega⟩)
  refine ⟨(((m _ 8 _ (by omega) (by omega)).trans (m _ 9 _ (by omega) (by omega))).trans (m _ 10 _ (by omega) (by omega))).trans (m _ 11 _ (by omega) (by omega)), ?_, ?_, ?_, ?_⟩
  · rw [cell_seto _ _ _ _ _ (by omega), cell_seto _ _ _ _ _ (by omega), cell_seto _ _ _ _ _ (by omega), cell_setv _ _ _ _ h8]
  · rw [cell_seto _ _ _ _ _ (by omega), cell_seto _ _ _ _ _ (by omega), cell_setv _ _ _ _ (by rw [cell_seto _ _ _ _ _ (by omega)]; exact h9)]
  · rw [cell_seto _ _ _ _ _ (by omega), cell_setv _ _ _ _ (by rw [cell_seto _ _ _ _ _ (by omega), cell_seto _ _ _ _ _ (by omega)]; exact h10)]
  · rw [cell_setv _ _ _ _ (by rw [cell_seto _ _ _ _ _ (by omega), cell_seto _ _ _ _ _ (by omega), cell_seto _ _ _ _ _ (by omega)]; exact h11)]
theorem set3 {U : World} {b : Nat} {v8 v9 v10 v11 : Value} (h8 : (U.cell? ⟨b, 8, none⟩).isSome = true) (h9 : (U.cell? ⟨b, 9, none⟩).isSome = true) (h10 : (U.cell? ⟨b, 10, none⟩).isSome = true) (h11 : U.cell? ⟨b, 11, none⟩ = some v11) (V : World) (hV : V = ((U.setCell ⟨b, 8, none⟩ v8).setCell ⟨b, 9, none⟩ v9).setCell ⟨b, 10, none⟩ v10) : FP U V (fun c j => c = b ∧ 8 ≤ j ∧ j < 12) ∧ V.cell? ⟨b, 8, none⟩ = some v8 ∧ V.cell? ⟨b, 9, none⟩ = some v9 ∧ V.cell? ⟨b, 10, none⟩ = some v10 ∧ V.cell? ⟨b, 11, none⟩ = some v11 := by
  subst hV
  have m : ∀ (w : World) (i : Nat) (v : Value), 8 ≤ i → i < 12 → FP w (w.setCell ⟨b, i, none⟩ v) (fun c j => c = b ∧ 8 ≤ j ∧ j < 12) := fun w i v h1 h2 => (FP.set (w := w) b i v).mono (fun c j _ e => ⟨e.1, by omega, by omega⟩)
  refine ⟨((m _ 8 _ (by omega) (by omega)).trans (m _ 9 _ (by omega) (by omega))).trans (m _ 10 _ (by omega) (by omega)), ?_, ?_, ?_, ?_⟩
  · rw [cell_seto _ _ _ _ _ (by omega), cell_seto _ _ _ _ _ (by omega), cell_setv _ _ _ _ h8]
  · rw [cell_seto _ _ _ _ _ (by omega), cell_setv _ _ _ _ (by rw [cell_seto _ _ _ _ _ (by omega)]; exact h9)]
  · rw [cell_setv _ _ _ _ (by rw [cell_seto _ _ _ _ _ (by omega), cell_seto _ _ _ _ _ (by omega)]; exact h10)]
  · rw [cell_seto _ _ _ _ _ (by omega), cell_seto _ _ _ _ _ (by omega), cell_seto _ _ _ _ _ (by omega)]; exact h11
end Go.Proofs.YbulkdsjeGreatDoor
