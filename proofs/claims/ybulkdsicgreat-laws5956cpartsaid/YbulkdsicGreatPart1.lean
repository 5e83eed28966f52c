import Derived.Test.YbulkdsicGreatSer1
import Derived.Test.YbulkdsicGreatFlt
set_option linter.unusedVariables false
set_option linter.unusedSimpArgs false
namespace Go.Proofs.YbulkdsicGreat
open Go.RowKit Go.Shelf

def partC (m bp bs bt be bl : Nat) (b0 b1 b2 L : Value) : List Value := [b0, b1, b2, sl bp 0 m m, sl bs 0 m m, sl bt 0 m m, sl be 0 m m, sl bl 0 m m, L]
/-- A part in the making. -/
structure PS (w V : World) (T0 Pb Pv bp bs bt be bl m : Nat) (b0 b1 b2 : Value) (fp fs ft fe fl : Nat → Value) (L : Value) : Prop where
  bel : Below w.heap.size w V
  bx : V.rangeAt w.heap.size 0 [b0, b1, b2]
  pv : V.cell? ⟨Pv, 0, none⟩ = some (.pointer (some ⟨Pb, 0, none⟩))
  ps : V.rangeAt Pb 0 (partC m bp bs bt be bl b0 b1 b2 L)
  th : V.there Pb 0 9
  tp : Tab V bp 0 m fp
  ts : Tab V bs 0 m fs
  tt : Tab V bt 0 m ft
  te : Tab V be 0 m fe
  tl : Tab V bl 0 m fl
  lPv : w.heap.size < Pv
  hPv : Pv < T0
  lPb : w.heap.size < Pb
  hPb : Pb < T0
  lbp : w.heap.size < bp
  hbp : bp < T0
  lbs : w.heap.size < bs
  hbs : bs < T0
  lbt : w.heap.size < bt
  hbt : bt < T0
  lbe : w.heap.size < be
  hbe : be < T0
  lbl : w.heap.size < bl
  hbl : bl < T0
  sz : T0 ≤ V.heap.size
  n_Pv_Pb : Pv ≠ Pb
  n_Pv_bp : Pv ≠ bp
  n_Pv_bs : Pv ≠ bs
  n_Pv_bt : Pv ≠ bt
  n_Pv_be : Pv ≠ be
  n_Pv_bl : Pv ≠ bl
  n_Pb_bp : Pb ≠ bp
  n_Pb_bs : Pb ≠ bs
  n_Pb_bt : Pb ≠ bt
  n_Pb_be : Pb ≠ be
  n_Pb_bl : Pb ≠ bl
  n_bp_bs : bp ≠ bs
  n_bp_bt : bp ≠ bt
  n_bp_be : bp ≠ be
  n_bp_bl : bp ≠ bl
  n_bs_bt : bs ≠ bt
  n_bs_be : bs ≠ be
  n_bs_bl : bs ≠ bl
  n_bt_be : bt ≠ be
  n_bt_bl : bt ≠ bl
  n_be_bl : be ≠ bl
section
variable {w V V' : World} {T0 Pb Pv bp bs bt be bl m : Nat} {b0 b1 b2 : Value} {fp fs ft fe fl : Nat → Value} {L : Value}
theorem PS.kept {E : Nat → Prop} (h : PS w V T0 Pb Pv bp bs bt be bl m b0 b1 b2 fp fs ft fe fl L) (k : Kept E V V') (hE : ∀ b, E b → T0 ≤ b) : PS w V' T0 Pb Pv bp bs bt be bl m b0 b1 b2 fp fs ft fe fl L := by
  have n0 : ∀ b, b < T0 → ¬ E b := fun b hb he => by have := hE b he; omega
  have hlp := h.lPv
  have hhp := h.hPv
  exact ⟨h.bel.trans (k.toBelow (fun b hb => n0 b (by omega)) h.bel.size), k.range (n0 _ (by omega)) h.bx, k.cell (p := ⟨Pv, 0, none⟩) (n0 Pv h.hPv) h.pv, k.range (n0 _ h.hPb) h.ps, k.there (n0 _ h.hPb) h.th, h.tp.kept k (n0 _ h.hbp), h.ts.kept k (n0 _ h.hbs), h.tt.kept k (n0 _ h.hbt), h.te.kept k (n0 _ h.hbe), h.tl.kept k (n0 _ h.hbl), h.lPv, h.hPv, h.lPb, h.hPb, h.lbp, h.hbp, h.lbs, h.hbs, h.lbt, h.hbt, h.lbe, h.hbe, h.lbl, h.hbl, Nat.le_trans h.sz k.size, h.n_Pv_Pb, h.n_Pv_bp, h.n_Pv_bs, h.n_Pv_bt, h.n_Pv_be, h.n_Pv_bl, h.n_Pb_bp, h.n_Pb_bs, h.n_Pb_bt, h.n_Pb_be, h.n_Pb_bl, h.n_bp_bs, h.n_bp_bt, h.n_bp_be, h.n_bp_bl, h.n_bs_bt, h.n_bs_be, h.n_bs_bl, h.n_bt_be, h.n_bt_bl, h.n_be_bl⟩
theorem PS.drewN (h : PS w V T0 Pb Pv bp bs bt be bl m b0 b1 b2 fp fs ft fe fl L) (n : Nat) : PS w (V.drewN n) T0 Pb Pv bp bs bt be bl m b0 b1 b2 fp fs ft fe fl L := h.kept (E := fun _ => False) ⟨rfl, rfl, rfl, Nat.le_refl _, fun _ _ _ => rfl⟩ (fun _ h => h.elim)
theorem PS.ext {fp' fs' ft' fe' fl' : Nat → Value} (h : PS w V T0 Pb Pv bp bs bt be bl m b0 b1 b2 fp fs ft fe fl L) (ep : ∀ x, x < m → fp x = fp' x) (es : ∀ x, x < m → fs x = fs' x) (et : ∀ x, x < m → ft x = ft' x) (ee : ∀ x, x < m → fe x = fe' x) (el : ∀ x, x < m → fl x = fl' x) : PS w V T0 Pb Pv bp bs bt be bl m b0 b1 b2 fp' fs' ft' fe' fl' L :=
  ⟨h.bel, h.bx, h.pv, h.ps, h.th, h.tp.ext ep, h.ts.ext es, h.tt.ext et, h.te.ext ee, h.tl.ext el, h.lPv, h.hPv, h.lPb, h.hPb, h.lbp, h.hbp, h.lbs, h.hbs, h.lbt, h.hbt, h.lbe, h.hbe, h.lbl, h.hbl, h.sz, h.n_Pv_Pb, h.n_Pv_bp, h.n_Pv_bs, h.n_Pv_bt, h.n_Pv_be, h.n_Pv_bl, h.n_Pb_bp, h.n_Pb_bs, h.n_Pb_bt, h.n_Pb_be, h.n_Pb_bl, h.n_bp_bs, h.n_bp_bt, h.n_bp_be, h.n_bp_bl, h.n_bs_bt, h.n_bs_be, h.n_bs_bl, h.n_bt_be, h.n_bt_bl, h.n_be_bl⟩
theorem PS.setp (h : PS w V T0 Pb Pv bp bs bt be bl m b0 b1 b2 fp fs ft fe fl L) {i : Nat} (hi : i < m) (v : Value) : PS w (V.setCell ⟨bp, i, none⟩ v) T0 Pb Pv bp bs bt be bl m b0 b1 b2 (fun y => if y = i then v else fp y) fs ft fe fl L := by
  have k1 : Kept (fun b => b = bp) V (V.setCell ⟨bp, i, none⟩ v) := (Kept.refl (fun b => b = bp) V).setCell (p := ⟨bp, i, none⟩) (.inl rfl) _
  have hl := h.lbp
  exact ⟨h.bel.setCell (p := ⟨bp, i, none⟩) (Nat.le_of_lt h.lbp) _, k1.range (fun (e : w.heap.size = _) => by omega) h.bx, k1.cell (p := ⟨Pv, 0, none⟩) h.n_Pv_bp h.pv, k1.range h.n_Pb_bp h.ps, k1.there h.n_Pb_bp h.th, (by have := h.tp.set hi v; rw [Nat.zero_add] at this; exact this), h.ts.kept k1 (Ne.symm h.n_bp_bs), h.tt.kept k1 (Ne.symm h.n_bp_bt), h.te.kept k1 (Ne.symm h.n_bp_be), h.tl.kept k1 (Ne.symm h.n_bp_bl), h.lPv, h.hPv, h.lPb, h.hPb, h.lbp, h.hbp, h.lbs, h.hbs, h.lbt, h.hbt, h.lbe, h.hbe, h.lbl, h.hbl, by simpa using h.sz, h.n_Pv_Pb, h.n_Pv_bp, h.n_Pv_bs, h.n_Pv_bt, h.n_Pv_be, h.n_Pv_bl, h.n_Pb_bp, h.n_Pb_bs, h.n_Pb_bt, h.n_Pb_be, h.n_Pb_bl, h.n_bp_bs, h.n_bp_bt, h.n_bp_be, h.n_bp_bl, h.n_bs_bt, h.n_bs_be, h.n_bs_bl, h.n_bt_be, h.n_bt_bl, h.n_be_bl⟩
theorem PS.cellp (h : PS w V T0 Pb Pv bp bs bt be bl m b0 b1 b2 fp fs ft fe fl L) {i : Nat} (hi : i < m) : V.cell? ⟨bp, i, none⟩ = some (fp i) := by have := h.tp.cell hi; rwa [Nat.zero_add] at this
theorem PS.freep (h : PS w V T0 Pb Pv bp bs bt be bl m b0 b1 b2 fp fs ft fe fl L) {i : Nat} (hi : i < m) : V.frozen? ⟨bp, i, none⟩ = false := by have := h.tp.free hi; rwa [Nat.zero_add] at this
theorem PS.sets (h : PS w V T0 Pb Pv bp bs bt be bl m b0 b1 b2 fp fs ft fe fl L) {i : Nat} (hi : i < m) (v : Value) : PS w (V.setCell ⟨bs, i, none⟩ v) T0 Pb Pv bp bs bt be bl m b0 b1 b2 fp (fun y => if y = i then v else fs y) ft fe fl L := by
  have k1 : Kept (fun b => b = bs) V (V.setCell ⟨bs, i, none⟩ v) := (Kept.refl (fun b => b = bs) V).setCell (p := ⟨bs, i, none⟩) (.inl rfl) _
  have hl := h.lbs
  exact ⟨h.bel.setCell (p := ⟨bs, i, none⟩) (Nat.le_of_lt h.lbs) _, k1.range (fun (e : w.heap.size = _) => by omega) h.bx, k1.cell (p := ⟨Pv, 0, none⟩) h.n_Pv_bs h.pv, k1.range h.n_Pb_bs h.ps, k1.there h.n_Pb_bs h.th, h.tp.kept k1 h.n_bp_bs, (by have := h.ts.set hi v; rw [Nat.zero_add] at this; exact this), h.tt.kept k1 (Ne.symm h.n_bs_bt), h.te.kept k1 (Ne.symm h.n_bs_be), h.tl.kept k1 (Ne.symm h.n_bs_bl), h.lPv, h.hPv, h.lPb, h.hPb, h.lbp, h.hbp, h.lbs, h.hbs, h.lbt, h.hbt, h.lbe, h.hbe, h.lbl, h.hbl, by simpa using h.sz, h.n_Pv_Pb, h.n_Pv_bp, h.n_Pv_bs, h.n_Pv_bt, h.n_Pv_be, h.n_Pv_bl, h.n_Pb_bp, h.n_Pb_bs, h.n_Pb_bt, h.n_Pb_be, h.n_Pb_bl, h.n_bp_bs, h.n_bp_bt, h.n_bp_be, h.n_bp_bl, h.n_bs_bt, h.n_bs_be, h.n_bs_bl, h.n_bt_be, h.n_bt_bl, h.n_be_bl⟩
theorem PS.cells (h : PS w V T0 Pb Pv bp bs bt be bl m b0 b1 b2 fp fs ft fe fl L) {i : Nat} (hi : i < m) : V.cell? ⟨bs, i, none⟩ = some (fs i) := by have := h.ts.cell hi; rwa [Nat.zero_add] at this
theorem PS.frees (h : PS w V T0 Pb Pv bp bs bt be bl m b0 b1 b2 fp fs ft fe fl L) {i : Nat} (hi : i < m) : V.frozen? ⟨bs, i, none⟩ = false := by have := h.ts.free hi; rwa [Nat.zero_add] at this
theorem PS.sett (h : PS w V T0 Pb Pv bp bs bt be bl m b0 b1 b2 fp fs ft fe fl L) {i : Nat} (hi : i < m) (v : Value) : PS w (V.setCell ⟨bt, i, none⟩ v) T0 Pb Pv bp bs bt be bl m b0 b1 b2 fp fs (fun y => if y = i then v else ft y) fe fl L := by
  have k1 : Kept (fun b => b = bt) V (V.setCell ⟨bt, i, none⟩ v) := (Kept.refl (fun b => b = bt) V).setCell (p := ⟨bt, i, none⟩) (.inl rfl) _
  have hl := h.lbt
  exact ⟨h.bel.setCell (p := ⟨bt, i, none⟩) (Nat.le_of_lt h.lbt) _, k1.range (fun (e : w.heap.size = _) => by omega) h.bx, k1.cell (p := ⟨Pv, 0, none⟩) h.n_Pv_bt h.pv, k1.range h.n_Pb_bt h.ps, k1.there h.n_Pb_bt h.th, h.tp.kept k1 h.n_bp_bt, h.ts.kept k1 h.n_bs_bt, (by have := h.tt.set hi v; rw [Nat.zero_add] at this; exact this), h.te.kept k1 (Ne.symm h.n_bt_be), h.tl.kept k1 (Ne.symm h.n_bt_bl), h.lPv, h.hPv, h.lPb, h.hPb, h.lbp, h.hbp, h.lbs, h.hbs, h.lbt, h.hbt, h.lbe, h.hbe, h.lbl, h.hbl, by simpa using h.sz, h.n_Pv_Pb, h.n_Pv_bp, h.n_Pv_bs, h.n_Pv_bt, h.n_Pv_be, h.n_Pv_bl, h.n_Pb_bp, h.n_Pb_bs, h.n_Pb_bt, h.n_Pb_be, h.n_Pb_bl, h.n_bp_bs, h.n_bp_bt, h.n_bp_be, h.n_bp_bl, h.n_bs_bt, h.n_bs_be, h.n_bs_bl, h.n_bt_be, h.n_bt_bl, h.n_be_bl⟩
theorem PS.cellt (h : PS w V T0 Pb Pv bp bs bt be bl m b0 b1 b2 fp fs ft fe fl L) {i : Nat} (hi : i < m) : V.cell? ⟨bt, i, none⟩ = some (ft i) := by have := h.tt.cell hi; rwa [Nat.zero_add] at this
theorem PS.freet (h : PS w V T0 Pb Pv bp bs bt be bl m b0 b1 b2 fp fs ft fe fl L) {i : Nat} (hi : i < m) : V.frozen? ⟨bt, i, none⟩ = false := by have := h.tt.free hi; rwa [Nat.zero_add] at this
theorem PS.sete (h : PS w V T0 Pb Pv bp bs bt be bl m b0 b1 b2 fp fs ft fe fl L) {i : Nat} (hi : i < m) (v : Value) : PS w (V.setCell ⟨be, i, none⟩ v) T0 Pb Pv bp bs bt be bl m b0 b1 b2 fp fs ft (fun y => if y = i then v else fe y) fl L := by
  have k1 : Kept (fun b => b = be) V (V.setCell ⟨be, i, none⟩ v) := (Kept.refl (fun b => b = be) V).setCell (p := ⟨be, i, none⟩) (.inl rfl) _
  have hl := h.lbe
  exact ⟨h.bel.setCell (p := ⟨be, i, none⟩) (Nat.le_of_lt h.lbe) _, k1.range (fun (e : w.heap.size = _) => by omega) h.bx, k1.cell (p := ⟨Pv, 0, none⟩) h.n_Pv_be h.pv, k1.range h.n_Pb_be h.ps, k1.there h.n_Pb_be h.th, h.tp.kept k1 h.n_bp_be, h.ts.kept k1 h.n_bs_be, h.tt.kept k1 h.n_bt_be, (by have := h.te.set hi v; rw [Nat.zero_add] at this; exact this), h.tl.kept k1 (Ne.symm h.n_be_bl), h.lPv, h.hPv, h.lPb, h.hPb, h.lbp, h.hbp, h.lbs, h.hbs, h.lbt, h.hbt, h.lbe, h.hbe, h.lbl, h.hbl, by simpa using h.sz, h.n_Pv_Pb, h.n_Pv_bp, h.n_Pv_bs, h.n_Pv_bt, h.n_Pv_be, h.n_Pv_bl, h.n_Pb_bp, h.n_Pb_bs, h.n_Pb_bt, h.n_Pb_be, h.n_Pb_bl, h.n_bp_bs, h.n_bp_bt, h.n_bp_be, h.n_bp_bl, h.n_bs_bt, h.n_bs_be, h.n_bs_bl, h.n_bt_be, h.n_bt_bl, h.n_be_bl⟩
theorem PS.celle (h : PS w V T0 Pb Pv bp bs bt be bl m b0 b1 b2 fp fs ft fe fl L) {i : Nat} (hi : i < m) : V.cell? ⟨be, i, none⟩ = some (fe i) := by have := h.te.cell hi; rwa [Nat.zero_add] at this
theorem PS.freee (h : PS w V T0 Pb Pv bp bs bt be bl m b0 b1 b2 fp fs ft fe fl L) {i : Nat} (hi : i < m) : V.frozen? ⟨be, i, none⟩ = false := by have := h.te.free hi; rwa [Nat.zero_add] at this
theorem PS.setl (h : PS w V T0 Pb Pv bp bs bt be bl m b0 b1 b2 fp fs ft fe fl L) {i : Nat} (hi : i < m) (v : Value) : PS w (V.setCell ⟨bl, i, none⟩ v) T0 Pb Pv bp bs bt be bl m b0 b1 b2 fp fs ft fe (fun y => if y = i then v else fl y) L := by
  have k1 : Kept (fun b => b = bl) V (V.setCell ⟨bl, i, none⟩ v) := (Kept.refl (fun b => b = bl) V).setCell (p := ⟨bl, i, none⟩) (.inl rfl) _
  have hl := h.lbl
  exact ⟨h.bel.setCell (p := ⟨bl, i, none⟩) (Nat.le_of_lt h.lbl) _, k1.range (fun (e : w.heap.size = _) => by omega) h.bx, k1.cell (p := ⟨Pv, 0, none⟩) h.n_Pv_bl h.pv, k1.range h.n_Pb_bl h.ps, k1.there h.n_Pb_bl h.th, h.tp.kept k1 h.n_bp_bl, h.ts.kept k1 h.n_bs_bl, h.tt.kept k1 h.n_bt_bl, h.te.kept k1 h.n_be_bl, (by have := h.tl.set hi v; rw [Nat.zero_add] at this; exact this), h.lPv, h.hPv, h.lPb, h.hPb, h.lbp, h.hbp, h.lbs, h.hbs, h.lbt, h.hbt, h.lbe, h.hbe, h.lbl, h.hbl, by simpa using h.sz, h.n_Pv_Pb, h.n_Pv_bp, h.n_Pv_bs, h.n_Pv_bt, h.n_Pv_be, h.n_Pv_bl, h.n_Pb_bp, h.n_Pb_bs, h.n_Pb_bt, h.n_Pb_be, h.n_Pb_bl, h.n_bp_bs, h.n_bp_bt, h.n_bp_be, h.n_bp_bl, h.n_bs_bt, h.n_bs_be, h.n_bs_bl, h.n_bt_be, h.n_bt_bl, h.n_be_bl⟩
theorem PS.celll (h : PS w V T0 Pb Pv bp bs bt be bl m b0 b1 b2 fp fs ft fe fl L) {i : Nat} (hi : i < m) : V.cell? ⟨bl, i, none⟩ = some (fl i) := by have := h.tl.cell hi; rwa [Nat.zero_add] at this
theorem PS.freel (h : PS w V T0 Pb Pv bp bs bt be bl m b0 b1 b2 fp fs ft fe fl L) {i : Nat} (hi : i < m) : V.frozen? ⟨bl, i, none⟩ = false := by have := h.tl.free hi; rwa [Nat.zero_add] at this
theorem PS.setL (h : PS w V T0 Pb Pv bp bs bt be bl m b0 b1 b2 fp fs ft fe fl L) (v : Value) : PS w (V.setCell ⟨Pb, 8, none⟩ v) T0 Pb Pv bp bs bt be bl m b0 b1 b2 fp fs ft fe fl v := by
  have k1 : Kept (fun b => b = Pb) V (V.setCell ⟨Pb, 8, none⟩ v) := (Kept.refl (fun b => b = Pb) V).setCell (p := ⟨Pb, 8, none⟩) (.inl rfl) _
  have hl := h.lPb
  refine ⟨h.bel.setCell (p := ⟨Pb, 8, none⟩) (Nat.le_of_lt h.lPb) _, k1.range (fun (e : w.heap.size = _) => by omega) h.bx, k1.cell (p := ⟨Pv, 0, none⟩) h.n_Pv_Pb h.pv, ?_, there_setCell h.th _ _, h.tp.kept k1 (Ne.symm h.n_Pb_bp), h.ts.kept k1 (Ne.symm h.n_Pb_bs), h.tt.kept k1 (Ne.symm h.n_Pb_bt), h.te.kept k1 (Ne.symm h.n_Pb_be), h.tl.kept k1 (Ne.symm h.n_Pb_bl), h.lPv, h.hPv, h.lPb, h.hPb, h.lbp, h.hbp, h.lbs, h.hbs, h.lbt, h.hbt, h.lbe, h.hbe, h.lbl, h.hbl, by simpa using h.sz, h.n_Pv_Pb, h.n_Pv_bp, h.n_Pv_bs, h.n_Pv_bt, h.n_Pv_be, h.n_Pv_bl, h.n_Pb_bp, h.n_Pb_bs, h.n_Pb_bt, h.n_Pb_be, h.n_Pb_bl, h.n_bp_bs, h.n_bp_bt, h.n_bp_be, h.n_bp_bl, h.n_bs_bt, h.n_bs_be, h.n_bs_bl, h.n_bt_be, h.n_bt_bl, h.n_be_bl⟩
  intro j u hu
  rw [Nat.zero_add]
  by_cases e : j = 8
  · subst e
    simp [partC] at hu
    rw [World.cell?_setCell_same' _ _ _ (by have := (h.th 8 (by omega)).1; simpa using this), hu]
  · rw [World.cell?_setCell_other _ _ _ _ (fun he => e (by have h0 := congrArg Addr.off he; simp at h0; exact h0.symm))]
    have := h.ps j u (by
      rw [← hu]
      match j with
      | 0 | 1 | 2 | 3 | 4 | 5 | 6 | 7 => rfl
      | j + 9 => simp [partC])
    simpa using this
end
/-- Rows of one, in memory behind T0. -/
structure RW (V : World) (T0 m : Nat) (f : Nat → Value) (r : Nat → Option Nat) : Prop where
  nn : ∀ k, k < m → r k = none → f k = .slice none 0 0
  ss : ∀ k x, k < m → r k = some x → ∃ g c, f k = sl g 0 1 c ∧ T0 ≤ g ∧ V.cell? ⟨g, 0, none⟩ = some (vi x)
theorem RW.kept {E : Nat → Prop} {V V' : World} {T0 m : Nat} {f : Nat → Value} {r : Nat → Option Nat} (h : RW V T0 m f r) (k : Kept E V V') (hE : ∀ b, E b → b < T0) : RW V' T0 m f r :=
  ⟨h.nn, fun x y hx hr => by
    obtain ⟨g, c, h1, h2, h3⟩ := h.ss x y hx hr
    exact ⟨g, c, h1, h2, k.cell (p := ⟨g, 0, none⟩) (fun he => by have := hE g he; omega) h3⟩⟩
theorem RW.keptc {E : Nat → Prop} {V V' : World} {T0 m : Nat} {f : Nat → Value} {r : Nat → Option Nat} (h : RW V T0 m f r) (k : Kept E V V') (hE : ∀ b, E b → ∀ o v, V.cell? ⟨b, o, none⟩ ≠ some v) : RW V' T0 m f r :=
  ⟨h.nn, fun x y hx hr => by
    obtain ⟨g, c, h1, h2, h3⟩ := h.ss x y hx hr
    exact ⟨g, c, h1, h2, k.cell (p := ⟨g, 0, none⟩) (fun he => hE g he 0 _ h3) h3⟩⟩
theorem RW.low {V : World} {T0 m : Nat} {f : Nat → Value} {r : Nat → Option Nat} (h : RW V T0 m f r) {b o : Nat} (hb : b < T0) (v : Value) : RW (V.setCell ⟨b, o, none⟩ v) T0 m f r :=
  h.kept ((Kept.refl (fun x => x = b) V).setCell (p := ⟨b, o, none⟩) (.inl rfl) _) (fun x hx => by subst hx; exact hb)
theorem RW.drewN {V : World} {T0 m : Nat} {f : Nat → Value} {r : Nat → Option Nat} (h : RW V T0 m f r) (n : Nat) : RW (V.drewN n) T0 m f r := ⟨h.nn, h.ss⟩
theorem RW.put {V : World} {T0 m : Nat} {f : Nat → Value} {r : Nat → Option Nat} (h : RW V T0 m f r) (i x g c : Nat) (hg : T0 ≤ g) (hc : V.cell? ⟨g, 0, none⟩ = some (vi x)) : RW V T0 m (fun y => if y = i then sl g 0 1 c else f y) (fun y => if y = i then some x else r y) :=
  ⟨fun k hk hr => by
    by_cases e : k = i
    · simp [e] at hr
    · simp only [if_neg e] at hr ⊢; exact h.nn k hk hr, fun k y hk hr => by
    by_cases e : k = i
    · simp only [if_pos e] at hr ⊢; cases hr; exact ⟨g, c, rfl, hg, hc⟩
    · simp only [if_neg e] at hr ⊢; exact h.ss k y hk hr⟩
theorem RW.ext {V : World} {T0 m : Nat} {f : Nat → Value} {r r' : Nat → Option Nat} (h : RW V T0 m f r) (e : ∀ k, k < m → r k = r' k) : RW V T0 m f r' :=
  ⟨fun k hk hr => h.nn k hk (by rw [e k hk]; exact hr), fun k x hk hr => h.ss k x hk (by rw [e k hk]; exact hr)⟩
/-- Who waits for whom in a chain, as far as i. -/
def prC (i k : Nat) : Option Nat := if 0 < k ∧ k < i then some (k - 1) else none
def suC (i k : Nat) : Option Nat := if k + 1 < i then some (k + 1) else none
theorem prC_at {i k : Nat} (h : k + 1 < i) : prC i (k + 1) = some k := by unfold prC; rw [if_pos ⟨by omega, h⟩]; rfl
theorem suC_at {i k : Nat} (h : k + 1 < i) : suC i k = some (k + 1) := by unfold suC; rw [if_pos h]
/-- The sums of the times. -/
def sumT (tt : Nat → Nat) : Nat → Nat
  | 0 => 0
  | k + 1 => sumT tt k + tt k
theorem sumT_le (tt : Nat → Nat) : ∀ k, (∀ j, j < k → tt j ≤ 65535) → sumT tt k ≤ 65535 * k
  | 0, _ => Nat.le_refl _
  | k + 1, h => by have := sumT_le tt k (fun j hj => h j (by omega)); have := h k (by omega); simp only [sumT]; omega
theorem sumT_mono (tt : Nat → Nat) {i j : Nat} (h : i ≤ j) : sumT tt i ≤ sumT tt j := by
  induction h with
  | refl => exact Nat.le_refl _
  | step _ ih => simp only [sumT]; omega
end Go.Proofs.YbulkdsicGreat
