import Derived.Test.YbulkdsicGreatStart
import Derived.Test.YbulkdsicGreatRoom
import Derived.Deep.Cut
set_option linter.unusedVariables false
set_option linter.unusedSimpArgs false
namespace Go.Proofs.YbulkdsicGreat
open Go.RowKit Go.Shelf

/-- A part that is a chain. -/
structure PartC (W : World) (Pb m bm om cm bp cp bs cs bt ct : Nat) (st : Nat → Nat) : Prop where
  f0 : W.cell? ⟨Pb, 0, none⟩ = some (sl bm om m cm)
  f3 : W.cell? ⟨Pb, 3, none⟩ = some (sl bp 0 m cp)
  f4 : W.cell? ⟨Pb, 4, none⟩ = some (sl bs 0 m cs)
  p0 : W.cell? ⟨bp, 0, none⟩ = some (.slice none 0 0)
  p1 : ∀ i, i + 1 < m → ∃ g c, W.cell? ⟨bp, i + 1, none⟩ = some (sl g 0 1 c) ∧ W.cell? ⟨g, 0, none⟩ = some (vi i)
  s1 : ∀ i, i + 1 < m → ∃ g c, W.cell? ⟨bs, i, none⟩ = some (sl g 0 1 c) ∧ W.cell? ⟨g, 0, none⟩ = some (vi (i + 1))
  st' : StartAt W Pb bt ct m st
theorem PartC.below {W W' : World} {Pb m bm om cm bp cp bs cs bt ct : Nat} {st : Nat → Nat} (h : PartC W Pb m bm om cm bp cp bs cs bt ct st) (b : Below W.heap.size W W') : PartC W' Pb m bm om cm bp cp bs cs bt ct st := by
  have k : ∀ {p : Addr} {v : Value}, W.cell? p = some v → W'.cell? p = some v := fun {p v} hv => (Kept.ofBelow (E := fun _ => False) b).cell (fun h => h) hv
  refine ⟨k h.f0, k h.f3, k h.f4, k h.p0, fun i hi => ?_, fun i hi => ?_, h.st'.below b⟩
  · obtain ⟨g, c, h1, h2⟩ := h.p1 i hi
    exact ⟨g, c, k h1, k h2⟩
  · obtain ⟨g, c, h1, h2⟩ := h.s1 i hi
    exact ⟨g, c, k h1, k h2⟩

/-- What series keeps. -/
structure SR (w V : World) (base Ob Bb Fb Wb Lb m : Nat) (fb ff fw fl : Nat → Value) (gv : Value) (gs : List (List Nat)) : Prop where
  bel : Below w.heap.size w V
  ord : Tab V Ob 0 m (fun k => vi k)
  tb : Tab V Bb 0 m fb
  tf : Tab V Fb 0 m ff
  tw : Tab V Wb 0 m fw
  tl : Tab V Lb 0 m fl
  gr : ∃ vals, OR V base gv vals gs
  l0 : w.heap.size ≤ Ob
  lb : w.heap.size ≤ Bb
  lf : w.heap.size ≤ Fb
  lw : w.heap.size ≤ Wb
  ll : w.heap.size ≤ Lb
  h0 : Ob < base
  hb : Bb < base
  hf : Fb < base
  hw : Wb < base
  hl : Lb < base
  sz : base ≤ V.heap.size
  n1 : Ob ≠ Bb
  n2 : Ob ≠ Fb
  n3 : Ob ≠ Wb
  n4 : Ob ≠ Lb
  n5 : Bb ≠ Fb
  n6 : Bb ≠ Wb
  n7 : Bb ≠ Lb
  n8 : Fb ≠ Wb
  n9 : Fb ≠ Lb
  n10 : Wb ≠ Lb
section
variable {w V V' : World} {base Ob Bb Fb Wb Lb m : Nat} {fb ff fw fl : Nat → Value} {gv : Value} {gs : List (List Nat)}
theorem SR.kept {E : Nat → Prop} {gv' : Value} {gs' : List (List Nat)} (h : SR w V base Ob Bb Fb Wb Lb m fb ff fw fl gv gs) (k : Kept E V V') (hE : ∀ b, E b → base ≤ b) (hg : ∃ vals, OR V' base gv' vals gs') : SR w V' base Ob Bb Fb Wb Lb m fb ff fw fl gv' gs' := by
  have n0 : ∀ b, b < base → ¬ E b := fun b hb he => by have := hE b he; omega
  have hl0 := h.l0
  have hh0 := h.h0
  exact ⟨h.bel.trans (k.toBelow (fun b hb => n0 b (by omega)) h.bel.size), h.ord.kept k (n0 _ h.h0), h.tb.kept k (n0 _ h.hb), h.tf.kept k (n0 _ h.hf), h.tw.kept k (n0 _ h.hw), h.tl.kept k (n0 _ h.hl), hg, h.l0, h.lb, h.lf, h.lw, h.ll, h.h0, h.hb, h.hf, h.hw, h.hl, Nat.le_trans h.sz k.size, h.n1, h.n2, h.n3, h.n4, h.n5, h.n6, h.n7, h.n8, h.n9, h.n10⟩
theorem SR.ext {fb' ff' fw' fl' : Nat → Value} (h : SR w V base Ob Bb Fb Wb Lb m fb ff fw fl gv gs) (e1 : ∀ x, x < m → fb x = fb' x) (e2 : ∀ x, x < m → ff x = ff' x) (e3 : ∀ x, x < m → fw x = fw' x) (e4 : ∀ x, x < m → fl x = fl' x) : SR w V base Ob Bb Fb Wb Lb m fb' ff' fw' fl' gv gs :=
  ⟨h.bel, h.ord, h.tb.ext e1, h.tf.ext e2, h.tw.ext e3, h.tl.ext e4, h.gr, h.l0, h.lb, h.lf, h.lw, h.ll, h.h0, h.hb, h.hf, h.hw, h.hl, h.sz, h.n1, h.n2, h.n3, h.n4, h.n5, h.n6, h.n7, h.n8, h.n9, h.n10⟩
theorem SR.setb (h : SR w V base Ob Bb Fb Wb Lb m fb ff fw fl gv gs) {i : Nat} (hi : i < m) (v : Value) : SR w (V.setCell ⟨Bb, i, none⟩ v) base Ob Bb Fb Wb Lb m (fun y => if y = i then v else fb y) ff fw fl gv gs := by
  have k1 : Kept (fun b => b = Bb) V (V.setCell ⟨Bb, i, none⟩ v) := (Kept.refl (fun b => b = Bb) V).setCell (p := ⟨Bb, i, none⟩) (.inl rfl) _
  obtain ⟨vals, hor⟩ := h.gr
  exact ⟨h.bel.setCell (p := ⟨Bb, i, none⟩) h.lb _, h.ord.kept k1 h.n1, (by have := h.tb.set hi v; rw [Nat.zero_add] at this; exact this), h.tf.kept k1 (Ne.symm h.n5), h.tw.kept k1 (Ne.symm h.n6), h.tl.kept k1 (Ne.symm h.n7), ⟨vals, hor.kept k1 (fun b (hb : b = _) => by have := h.hb; omega)⟩, h.l0, h.lb, h.lf, h.lw, h.ll, h.h0, h.hb, h.hf, h.hw, h.hl, by simpa using h.sz, h.n1, h.n2, h.n3, h.n4, h.n5, h.n6, h.n7, h.n8, h.n9, h.n10⟩
theorem SR.cellb (h : SR w V base Ob Bb Fb Wb Lb m fb ff fw fl gv gs) {i : Nat} (hi : i < m) : V.cell? ⟨Bb, i, none⟩ = some (fb i) := by have := h.tb.cell hi; rwa [Nat.zero_add] at this
theorem SR.freeb (h : SR w V base Ob Bb Fb Wb Lb m fb ff fw fl gv gs) {i : Nat} (hi : i < m) : V.frozen? ⟨Bb, i, none⟩ = false := by have := h.tb.free hi; rwa [Nat.zero_add] at this
theorem SR.setf (h : SR w V base Ob Bb Fb Wb Lb m fb ff fw fl gv gs) {i : Nat} (hi : i < m) (v : Value) : SR w (V.setCell ⟨Fb, i, none⟩ v) base Ob Bb Fb Wb Lb m fb (fun y => if y = i then v else ff y) fw fl gv gs := by
  have k1 : Kept (fun b => b = Fb) V (V.setCell ⟨Fb, i, none⟩ v) := (Kept.refl (fun b => b = Fb) V).setCell (p := ⟨Fb, i, none⟩) (.inl rfl) _
  obtain ⟨vals, hor⟩ := h.gr
  exact ⟨h.bel.setCell (p := ⟨Fb, i, none⟩) h.lf _, h.ord.kept k1 h.n2, h.tb.kept k1 h.n5, (by have := h.tf.set hi v; rw [Nat.zero_add] at this; exact this), h.tw.kept k1 (Ne.symm h.n8), h.tl.kept k1 (Ne.symm h.n9), ⟨vals, hor.kept k1 (fun b (hb : b = _) => by have := h.hf; omega)⟩, h.l0, h.lb, h.lf, h.lw, h.ll, h.h0, h.hb, h.hf, h.hw, h.hl, by simpa using h.sz, h.n1, h.n2, h.n3, h.n4, h.n5, h.n6, h.n7, h.n8, h.n9, h.n10⟩
theorem SR.cellf (h : SR w V base Ob Bb Fb Wb Lb m fb ff fw fl gv gs) {i : Nat} (hi : i < m) : V.cell? ⟨Fb, i, none⟩ = some (ff i) := by have := h.tf.cell hi; rwa [Nat.zero_add] at this
theorem SR.freef (h : SR w V base Ob Bb Fb Wb Lb m fb ff fw fl gv gs) {i : Nat} (hi : i < m) : V.frozen? ⟨Fb, i, none⟩ = false := by have := h.tf.free hi; rwa [Nat.zero_add] at this
theorem SR.setw (h : SR w V base Ob Bb Fb Wb Lb m fb ff fw fl gv gs) {i : Nat} (hi : i < m) (v : Value) : SR w (V.setCell ⟨Wb, i, none⟩ v) base Ob Bb Fb Wb Lb m fb ff (fun y => if y = i then v else fw y) fl gv gs := by
  have k1 : Kept (fun b => b = Wb) V (V.setCell ⟨Wb, i, none⟩ v) := (Kept.refl (fun b => b = Wb) V).setCell (p := ⟨Wb, i, none⟩) (.inl rfl) _
  obtain ⟨vals, hor⟩ := h.gr
  exact ⟨h.bel.setCell (p := ⟨Wb, i, none⟩) h.lw _, h.ord.kept k1 h.n3, h.tb.kept k1 h.n6, h.tf.kept k1 h.n8, (by have := h.tw.set hi v; rw [Nat.zero_add] at this; exact this), h.tl.kept k1 (Ne.symm h.n10), ⟨vals, hor.kept k1 (fun b (hb : b = _) => by have := h.hw; omega)⟩, h.l0, h.lb, h.lf, h.lw, h.ll, h.h0, h.hb, h.hf, h.hw, h.hl, by simpa using h.sz, h.n1, h.n2, h.n3, h.n4, h.n5, h.n6, h.n7, h.n8, h.n9, h.n10⟩
theorem SR.cellw (h : SR w V base Ob Bb Fb Wb Lb m fb ff fw fl gv gs) {i : Nat} (hi : i < m) : V.cell? ⟨Wb, i, none⟩ = some (fw i) := by have := h.tw.cell hi; rwa [Nat.zero_add] at this
theorem SR.freew (h : SR w V base Ob Bb Fb Wb Lb m fb ff fw fl gv gs) {i : Nat} (hi : i < m) : V.frozen? ⟨Wb, i, none⟩ = false := by have := h.tw.free hi; rwa [Nat.zero_add] at this
theorem SR.setl (h : SR w V base Ob Bb Fb Wb Lb m fb ff fw fl gv gs) {i : Nat} (hi : i < m) (v : Value) : SR w (V.setCell ⟨Lb, i, none⟩ v) base Ob Bb Fb Wb Lb m fb ff fw (fun y => if y = i then v else fl y) gv gs := by
  have k1 : Kept (fun b => b = Lb) V (V.setCell ⟨Lb, i, none⟩ v) := (Kept.refl (fun b => b = Lb) V).setCell (p := ⟨Lb, i, none⟩) (.inl rfl) _
  obtain ⟨vals, hor⟩ := h.gr
  exact ⟨h.bel.setCell (p := ⟨Lb, i, none⟩) h.ll _, h.ord.kept k1 h.n4, h.tb.kept k1 h.n7, h.tf.kept k1 h.n9, h.tw.kept k1 h.n10, (by have := h.tl.set hi v; rw [Nat.zero_add] at this; exact this), ⟨vals, hor.kept k1 (fun b (hb : b = _) => by have := h.hl; omega)⟩, h.l0, h.lb, h.lf, h.lw, h.ll, h.h0, h.hb, h.hf, h.hw, h.hl, by simpa using h.sz, h.n1, h.n2, h.n3, h.n4, h.n5, h.n6, h.n7, h.n8, h.n9, h.n10⟩
theorem SR.celll (h : SR w V base Ob Bb Fb Wb Lb m fb ff fw fl gv gs) {i : Nat} (hi : i < m) : V.cell? ⟨Lb, i, none⟩ = some (fl i) := by have := h.tl.cell hi; rwa [Nat.zero_add] at this
theorem SR.freel (h : SR w V base Ob Bb Fb Wb Lb m fb ff fw fl gv gs) {i : Nat} (hi : i < m) : V.frozen? ⟨Lb, i, none⟩ = false := by have := h.tl.free hi; rwa [Nat.zero_add] at this
theorem SR.cello (h : SR w V base Ob Bb Fb Wb Lb m fb ff fw fl gv gs) {i : Nat} (hi : i < m) : V.cell? ⟨Ob, i, none⟩ = some (vi i) := by have := h.ord.cell hi; rwa [Nat.zero_add] at this
theorem SR.drewN (h : SR w V base Ob Bb Fb Wb Lb m fb ff fw fl gv gs) (n : Nat) : SR w (V.drewN n) base Ob Bb Fb Wb Lb m fb ff fw fl gv gs := by
  obtain ⟨vals, hor⟩ := h.gr
  have k : Kept (fun _ => False) V (V.drewN n) := ⟨rfl, rfl, rfl, Nat.le_refl _, fun _ _ _ => rfl⟩
  exact h.kept k (fun _ h => h.elim) ⟨vals, hor.kept k (fun _ h => h.elim)⟩
end
/-! ### The tables at the head of round k -/
def befF (k i : Nat) : Value := .bool (decide (i < k))
def folF (k i : Nat) : Value := if i + 1 < k then vi 1 else vi 0
def waiF (k i : Nat) : Value := if k < i then vi 1 else vi 0
def frlF (k i : Nat) : Value := if i = k ∧ 0 < k then vi 1 else vi 0
def ones (k : Nat) : List (List Nat) := (List.range k).map (fun x => [x])
theorem ones_succ (k : Nat) : ones (k + 1) = ones k ++ [[k]] := by unfold ones; rw [List.range_succ, List.map_append]; rfl
theorem ones_len (k : Nat) : (ones k).length = k := by simp [ones]
end Go.Proofs.YbulkdsicGreat
