import Derived.Test.YbulkdsjeGreatDoorAr4
import Derived.Test.YbulkdsjeGreatDoorArith
import Derived.BigQuiet
import Derived.Deep.QuietTactic
set_option linter.unusedVariables false
set_option linter.unusedSimpArgs false
namespace Go.Proofs.YbulkdsjeGreatDoor
open Go.RowKit

/-- A whole number turned in place. -/
theorem CX.setI {U : World} {S : Nat → Prop} {b o d n m Cb co cc : Nat} {f : Nat → Int} {sv : Value} {I cp : Nat → Nat} (h : CX U S b o d n f sv m Cb co cc I cp) {i : Nat} (hi : i < n) (v : Int) : CX (U.setCell ⟨I ((d + i) / 256), (d + i) % 256 * 2, none⟩ (ii v)) S b o d n (fun p => if p = d + i then v else f p) sv m Cb co cc I cp := by
  obtain ⟨p1, p2⟩ := h.place hi
  have fp := FP.set (w := U) (I ((d + i) / 256)) ((d + i) % 256 * 2) (ii v)
  obtain ⟨hx0, _⟩ := h.val (d + i) (by omega)
  have same : (U.setCell ⟨I ((d + i) / 256), (d + i) % 256 * 2, none⟩ (ii v)).cell? ⟨I ((d + i) / 256), (d + i) % 256 * 2, none⟩ = some (ii v) := World.cell?_setCell_same' _ _ _ (by rw [hx0]; rfl)
  obtain ⟨q, hq⟩ : ∃ q, (d + i) / 256 = q := ⟨_, rfl⟩
  rw [hq] at p1 fp same ⊢
  obtain ⟨U', hU'⟩ : ∃ U', U.setCell ⟨I q, (d + i) % 256 * 2, none⟩ (ii v) = U' := ⟨_, rfl⟩
  rw [hU'] at fp same ⊢
  have hb : b < U.heap.size := World.block_lt_of_cell? U _ h.c0
  have bI : b ≠ I q := fun e => h.sb (by rw [e]; exact h.oi q p1)
  have cb : ∀ j, U'.cell? ⟨b, j, none⟩ = U.cell? ⟨b, j, none⟩ := fun j => fp.cell _ _ hb (fun e => bI e.1)
  have hm : 0 < m := by omega
  have hC := h.slt _ (h.oc hm)
  have cC : ∀ j, U'.cell? ⟨Cb, j, none⟩ = U.cell? ⟨Cb, j, none⟩ := fun j => fp.cell _ _ hC (fun e => h.ic q p1 e.1.symm)
  refine ⟨⟨by rw [cb]; exact h.c0, by rw [cb]; exact h.c1, by rw [cb]; exact h.c2, fun j hj => by rw [fp.frz _ _ hb]; exact h.fr j hj, h.form, h.mcc, fun hm j hj => by rw [cC, fp.frz _ _ hC]; exact h.row hm j hj, h.hi, h.d256, fun k hk => by rw [cC, cC]; exact h.ch k hk, fun k hk j hj => ?_, h.cpl, fun p hp => ?_, h.inj, h.ic, h.oc, h.oi, fun x hx => Nat.lt_of_lt_of_le (h.slt x hx) fp.size, h.sb, h.bd⟩, h.lo, h.z⟩
  · refine there_fp fp (h.slt _ (h.oi k hk)) (h.it k hk j hj) (fun e => ?_)
    rw [e.1, e.2, same]
    rfl
  · have hp2 : p / 256 < m := by have := h.hi; omega
    obtain ⟨v1, x, v2⟩ := h.val p hp
    refine ⟨?_, x, by rw [fp.cell _ _ (h.slt _ (h.oi _ hp2)) (fun e => by omega)]; exact v2⟩
    by_cases e : p = d + i
    · subst e
      rw [hq, if_pos rfl]
      exact same
    · rw [if_neg e, fp.cell _ _ (h.slt _ (h.oi _ hp2)) (fun e' => e ?_)]
      · exact v1
      · have := h.inj _ _ hp2 p1 e'.1
        omega
/-- What 'slot' gives. -/
def SlV (U : World) (S : Nat → Prop) (b o st nn fu sc : Nat) (v : Value) (w' : World) : Prop :=
  ∃ S' fi d n f, AX w' S' b o st nn fu sc fi d n f ∧ AM U S b o S' w' ∧ (v = .pointer none ∨ ∃ sv m Cb co cc I cp i, CX w' S' b (o + 5) d n f sv m Cb co cc I cp ∧ i < n ∧ v = .pointer (some ⟨I ((d + i) / 256), (d + i) % 256 * 2, none⟩))
theorem SlP.val {U w' : World} {S : Nat → Prop} {b o st nn fu sc : Nat} {e : Ending} (h : SlP U S b o st nn fu sc e w') : ∃ v, e = .returned v ∧ SlV U S b o st nn fu sc v w' := by
  obtain ⟨S', fi, d, n, f, ax, am, h⟩ := h
  rcases h with rfl | ⟨sv, m, Cb, co, cc, I, cp, i, hx, hi, rfl⟩
  · exact ⟨_, rfl, S', fi, d, n, f, ax, am, .inl rfl⟩
  · exact ⟨_, rfl, S', fi, d, n, f, ax, am, .inr ⟨sv, m, Cb, co, cc, I, cp, i, hx, hi, rfl⟩⟩
/-- A slot in memory: what may be written there. -/
def SlQ (U : World) (S : Nat → Prop) (b o st nn fu sc pb po : Nat) : Prop := ∃ fi d n f sv m Cb co cc I cp i, AX U S b o st nn fu sc fi d n f ∧ CX U S b (o + 5) d n f sv m Cb co cc I cp ∧ i < n ∧ pb = I ((d + i) / 256) ∧ po = (d + i) % 256 * 2
theorem SlQ.kept {U V : World} {S : Nat → Prop} {b o st nn fu sc pb po : Nat} (h : SlQ U S b o st nn fu sc pb po) (k : Kept (fun _ => False) U V) : SlQ V S b o st nn fu sc pb po := by
  obtain ⟨fi, d, n, f, sv, m, Cb, co, cc, I, cp, i, ax, cx, hi, h1, h2⟩ := h
  exact ⟨fi, d, n, f, sv, m, Cb, co, cc, I, cp, i, ax.kept k, cx.kept k (fun h => h) (fun _ _ h => h), hi, h1, h2⟩
theorem SlQ.cells {U : World} {S : Nat → Prop} {b o st nn fu sc pb po : Nat} (h : SlQ U S b o st nn fu sc pb po) : (∃ x y, U.cell? ⟨pb, po, none⟩ = some (ii x) ∧ U.cell? ⟨pb, po + 1, none⟩ = some (.float .f64 y)) ∧ U.frozen? ⟨pb, po, none⟩ = false ∧ U.frozen? ⟨pb, po + 1, none⟩ = false ∧ U.cell? ⟨b, o, none⟩ = some (vi st) ∧ U.cell? ⟨b, o + 3, none⟩ = some (.float .f64 sc) ∧ pb ≠ b := by
  obtain ⟨fi, d, n, f, sv, m, Cb, co, cc, I, cp, i, ax, cx, hi, rfl, rfl⟩ := h
  obtain ⟨p1, p2⟩ := cx.place hi
  obtain ⟨v1, y, v2⟩ := cx.val (d + i) (by omega)
  have hc := cx.cpl _ p1
  exact ⟨⟨_, y, v1, v2⟩, (cx.it _ p1 _ (by omega)).2, (cx.it _ p1 _ (by omega)).2, ax.s0, ax.s3, fun e => cx.sb (by rw [← e]; exact cx.oi _ p1)⟩
theorem SlQ.setI {U : World} {S : Nat → Prop} {b o st nn fu sc pb po : Nat} (h : SlQ U S b o st nn fu sc pb po) (v : Int) : SlQ (U.setCell ⟨pb, po, none⟩ (ii v)) S b o st nn fu sc pb po ∧ AM U S b o S (U.setCell ⟨pb, po, none⟩ (ii v)) := by
  obtain ⟨fi, d, n, f, sv, m, Cb, co, cc, I, cp, i, ax, cx, hi, rfl, rfl⟩ := h
  obtain ⟨p1, p2⟩ := cx.place hi
  have c2 := cx.setI hi v
  have fp := (FP.set (w := U) (I ((d + i) / 256)) ((d + i) % 256 * 2) (ii v))
  have oi := cx.oi _ p1
  exact ⟨⟨fi, d, n, _, sv, m, Cb, co, cc, I, cp, i, ax.slots ⟨_, _, _, _, _, _, _, c2⟩ (fp.mono (fun c j _ e => .inl (by rw [e.1]; exact oi))) ax.hfi, c2, hi, rfl, rfl⟩, fp.mono (fun c j _ e => .inl (by rw [e.1]; exact oi)), fun _ h => .inl h⟩
theorem SlQ.setF {U : World} {S : Nat → Prop} {b o st nn fu sc pb po : Nat} (h : SlQ U S b o st nn fu sc pb po) (v : Nat) : SlQ (U.setCell ⟨pb, po + 1, none⟩ (.float .f64 v)) S b o st nn fu sc pb po ∧ AM U S b o S (U.setCell ⟨pb, po + 1, none⟩ (.float .f64 v)) := by
  obtain ⟨fi, d, n, f, sv, m, Cb, co, cc, I, cp, i, ax, cx, hi, rfl, rfl⟩ := h
  obtain ⟨p1, p2⟩ := cx.place hi
  have c2 := cx.setF hi v
  have fp := (FP.set (w := U) (I ((d + i) / 256)) ((d + i) % 256 * 2 + 1) (.float .f64 v))
  have oi := cx.oi _ p1
  exact ⟨⟨fi, d, n, f, sv, m, Cb, co, cc, I, cp, i, ax.slots ⟨_, _, _, _, _, _, _, c2⟩ (fp.mono (fun c j _ e => .inl (by rw [e.1]; exact oi))) ax.hfi, c2, hi, rfl, rfl⟩, fp.mono (fun c j _ e => .inl (by rw [e.1]; exact oi)), fun _ h => .inl h⟩
theorem SlQ.ar {U : World} {S : Nat → Prop} {b o st nn fu sc pb po : Nat} (h : SlQ U S b o st nn fu sc pb po) : ∃ fi d n f, AX U S b o st nn fu sc fi d n f := by
  obtain ⟨fi, d, n, f, sv, m, Cb, co, cc, I, cp, i, ax, _⟩ := h
  exact ⟨fi, d, n, f, ax⟩
/-- Where an archive has moved on to. -/
def AO (U : World) (S : Nat → Prop) (b o st nn fu sc : Nat) (w' : World) : Prop := ∃ S' fi d n f, AX w' S' b o st nn fu sc fi d n f ∧ AM U S b o S' w'
end Go.Proofs.YbulkdsjeGreatDoor
