import Derived.Test.YbulkdsjeGreatDoorSmall
set_option linter.unusedVariables false
set_option linter.unusedSimpArgs false
namespace Go.Proofs.YbulkdsjeGreatDoor
open Go.RowKit

/-- A chunked row in memory, laid bare; the last chunk may be empty. -/
structure CY (W : World) (S : Nat → Prop) (b o d n : Nat) (f : Nat → Int) (sv : Value) (m Cb co cc : Nat) (I cp : Nat → Nat) : Prop where
  c0 : W.cell? ⟨b, o, none⟩ = some sv
  c1 : W.cell? ⟨b, o + 1, none⟩ = some (vi d)
  c2 : W.cell? ⟨b, o + 2, none⟩ = some (vi n)
  fr : ∀ j, j < 3 → W.frozen? ⟨b, o + j, none⟩ = false
  form : (m = 0 ∧ sv = .slice none 0 0) ∨ (0 < m ∧ sv = sl Cb co m cc)
  mcc : m ≤ cc
  row : 0 < m → ∀ j, j < cc * 2 → (W.cell? ⟨Cb, co + j, none⟩).isSome = true ∧ W.frozen? ⟨Cb, co + j, none⟩ = false
  hi : d + n ≤ 256 * m
  d256 : d < 256
  ch : ∀ k, k < m → W.cell? ⟨Cb, co + k * 2, none⟩ = some (sl (I k) 0 (min 256 (d + n - 256 * k)) (cp k)) ∧ W.cell? ⟨Cb, co + k * 2 + 1, none⟩ = some (vi 0)
  it : ∀ k, k < m → ∀ j, j < cp k * 2 → (W.cell? ⟨I k, j, none⟩).isSome = true ∧ W.frozen? ⟨I k, j, none⟩ = false
  cpl : ∀ k, k < m → min 256 (d + n - 256 * k) ≤ cp k ∧ cp k ≤ 256 ∧ 0 < cp k
  val : ∀ p, p < d + n → W.cell? ⟨I (p / 256), p % 256 * 2, none⟩ = some (ii (f p)) ∧ ∃ x, W.cell? ⟨I (p / 256), p % 256 * 2 + 1, none⟩ = some (.float .f64 x)
  inj : ∀ k k', k < m → k' < m → I k = I k' → k = k'
  ic : ∀ k, k < m → I k ≠ Cb
  oc : 0 < m → S Cb
  oi : ∀ k, k < m → S (I k)
  slt : ∀ x, S x → x < W.heap.size
  sb : ¬ S b
  bd : d + n ≤ 17179869184
structure CX (W : World) (S : Nat → Prop) (b o d n : Nat) (f : Nat → Int) (sv : Value) (m Cb co cc : Nat) (I cp : Nat → Nat) : Prop extends CY W S b o d n f sv m Cb co cc I cp where
  lo : 256 * m < d + n + 256
  z : n = 0 → m = 0
/-- A chunked row in memory: n items behind d dropped ones; S: the blocks that are its own. -/
def CK (W : World) (S : Nat → Prop) (b o d n : Nat) (f : Nat → Int) : Prop := ∃ sv m Cb co cc I cp, CX W S b o d n f sv m Cb co cc I cp
theorem CY.kept {W W' : World} {S E : Nat → Prop} {b o d n m Cb co cc : Nat} {f : Nat → Int} {sv : Value} {I cp : Nat → Nat} (h : CY W S b o d n f sv m Cb co cc I cp) (k : Kept E W W') (hb : ¬ E b) (hS : ∀ x, S x → ¬ E x) : CY W' S b o d n f sv m Cb co cc I cp := by
  have cb : 0 < m → ¬ E Cb := fun hm => hS _ (h.oc hm)
  have ci : ∀ j, j < m → ¬ E (I j) := fun j hj => hS _ (h.oi j hj)
  have fz : ∀ (c j : Nat), ¬ E c → c < W.heap.size → W'.frozen? ⟨c, j, none⟩ = W.frozen? ⟨c, j, none⟩ := fun c j hc hl => World.frozen?_of_block (w := W) (w' := W') (k.block c hl hc)
  have hbl : b < W.heap.size := World.block_lt_of_cell? W _ h.c0
  have cl : ∀ (c j : Nat), ¬ E c → c < W.heap.size → W'.cell? ⟨c, j, none⟩ = W.cell? ⟨c, j, none⟩ := fun c j hc hl => World.cell?_of_block (w := W) (w' := W') (a := ⟨c, j, none⟩) (k.block c hl hc)
  refine ⟨by rw [cl _ _ hb hbl]; exact h.c0, by rw [cl _ _ hb hbl]; exact h.c1, by rw [cl _ _ hb hbl]; exact h.c2, fun j hj => by rw [fz _ _ hb hbl]; exact h.fr j hj, h.form, h.mcc, fun hm j hj => ?_, h.hi, h.d256, fun q hq => ?_, fun q hq j hj => ?_, h.cpl, fun p hp => ?_, h.inj, h.ic, h.oc, h.oi, fun x hx => Nat.lt_of_lt_of_le (h.slt x hx) k.size, h.sb, h.bd⟩
  · have hl := h.slt _ (h.oc hm)
    rw [cl _ _ (cb hm) hl, fz _ _ (cb hm) hl]
    exact h.row hm j hj
  · have hm : 0 < m := by omega
    have hl := h.slt _ (h.oc hm)
    rw [cl _ _ (cb hm) hl, cl _ _ (cb hm) hl]
    exact h.ch q hq
  · have hl := h.slt _ (h.oi q hq)
    rw [cl _ _ (ci q hq) hl, fz _ _ (ci q hq) hl]
    exact h.it q hq j hj
  · have hq : p / 256 < m := by have := h.hi; omega
    have hl := h.slt _ (h.oi _ hq)
    rw [cl _ _ (ci _ hq) hl, cl _ _ (ci _ hq) hl]
    exact h.val p hp
theorem CX.kept {W W' : World} {S E : Nat → Prop} {b o d n m Cb co cc : Nat} {f : Nat → Int} {sv : Value} {I cp : Nat → Nat} (h : CX W S b o d n f sv m Cb co cc I cp) (k : Kept E W W') (hb : ¬ E b) (hS : ∀ x, S x → ¬ E x) : CX W' S b o d n f sv m Cb co cc I cp := ⟨h.toCY.kept k hb hS, h.lo, h.z⟩
theorem CK.kept {W W' : World} {S E : Nat → Prop} {b o d n : Nat} {f : Nat → Int} (h : CK W S b o d n f) (k : Kept E W W') (hb : ¬ E b) (hS : ∀ x, S x → ¬ E x) : CK W' S b o d n f := by
  obtain ⟨sv, m, Cb, co, cc, I, cp, hx⟩ := h
  exact ⟨sv, m, Cb, co, cc, I, cp, hx.kept k hb hS⟩
/-- What has turned: cells of X, and new blocks. -/
structure FP (w w' : World) (X : Nat → Nat → Prop) : Prop where
  os : w'.os = w.os
  tape : w'.tape = w.tape
  output : w'.output = w.output
  size : w.heap.size ≤ w'.heap.size
  cell : ∀ c j, c < w.heap.size → ¬ X c j → w'.cell? ⟨c, j, none⟩ = w.cell? ⟨c, j, none⟩
  frz : ∀ c j, c < w.heap.size → w'.frozen? ⟨c, j, none⟩ = w.frozen? ⟨c, j, none⟩
  block : ∀ c, c < w.heap.size → (∀ j, ¬ X c j) → w'.heap[c]? = w.heap[c]?
theorem FP.refl (w : World) (X : Nat → Nat → Prop) : FP w w X := ⟨rfl, rfl, rfl, Nat.le_refl _, fun _ _ _ _ => rfl, fun _ _ _ => rfl, fun _ _ _ => rfl⟩
theorem FP.kept {w w' : World} {X : Nat → Nat → Prop} (h : FP w w' X) {E : Nat → Prop} (hE : ∀ c j, c < w.heap.size → X c j → E c) : Kept E w w' := ⟨h.os, h.tape, h.output, h.size, fun c hc hn => h.block c hc (fun j hx => hn (hE c j hc hx))⟩
theorem FP.mono {w w' : World} {X Y : Nat → Nat → Prop} (h : FP w w' X) (hX : ∀ c j, c < w.heap.size → X c j → Y c j) : FP w w' Y := ⟨h.os, h.tape, h.output, h.size, fun c j hc hn => h.cell c j hc (fun hx => hn (hX c j hc hx)), h.frz, fun c hc hn => h.block c hc (fun j hx => hn j (hX c j hc hx))⟩
theorem FP.trans {a b c : World} {X : Nat → Nat → Prop} (h : FP a b X) (k : FP b c X) : FP a c X :=
  ⟨k.os.trans h.os, k.tape.trans h.tape, k.output.trans h.output, Nat.le_trans h.size k.size, fun q j hq hn => (k.cell q j (Nat.lt_of_lt_of_le hq h.size) hn).trans (h.cell q j hq hn), fun q j hq => (k.frz q j (Nat.lt_of_lt_of_le hq h.size)).trans (h.frz q j hq), fun q hq hn => (k.block q (Nat.lt_of_lt_of_le hq h.size) hn).trans (h.block q hq hn)⟩
theorem FP.ofKept {w w' : World} {E : Nat → Prop} (k : Kept E w w') (hf : ∀ c j, c < w.heap.size → w'.frozen? ⟨c, j, none⟩ = w.frozen? ⟨c, j, none⟩) : FP w w' (fun c _ => E c) :=
  ⟨k.os, k.tape, k.output, k.size, fun c j hc hn => World.cell?_of_block (w := w) (w' := w') (a := ⟨c, j, none⟩) (k.block c hc hn), hf, fun c hc hn => k.block c hc (hn 0)⟩
theorem FP.calm {w w' : World} (k : Kept (fun _ => False) w w') : FP w w' (fun _ _ => False) :=
  FP.ofKept k (fun c j hc => World.frozen?_of_block (w := w) (w' := w') (k.block c hc (fun h => h)))
theorem FP.set {w : World} (c j : Nat) (v : Value) : FP w (w.setCell ⟨c, j, none⟩ v) (fun q i => q = c ∧ i = j) := by
  have k : Kept (fun q => q = c) w (w.setCell ⟨c, j, none⟩ v) := (Kept.refl (fun q => q = c) w).setCell (p := ⟨c, j, none⟩) (.inl rfl) _
  refine ⟨k.os, k.tape, k.output, k.size, fun q i hq hn => World.cell?_setCell_other _ _ _ _ (fun he => hn ⟨?_, ?_⟩), fun q i hq => World.frozen?_setCell .., fun q hq hn => k.block q hq (fun e => hn j ⟨e, rfl⟩)⟩
  · have h0 := congrArg Addr.block he; simp at h0; exact h0.symm
  · have h0 := congrArg Addr.off he; simp at h0; exact h0.symm
/-- Where an item lies. -/
theorem CX.place {W : World} {S : Nat → Prop} {b o d n m Cb co cc : Nat} {f : Nat → Int} {sv : Value} {I cp : Nat → Nat} (h : CX W S b o d n f sv m Cb co cc I cp) {i : Nat} (hi : i < n) : (d + i) / 256 < m ∧ (d + i) % 256 < min 256 (d + n - 256 * ((d + i) / 256)) := by
  have := h.hi
  omega
end Go.Proofs.YbulkdsjeGreatDoor
