import Derived.Test.YbulkdsjeGreatDoorIt1
import Derived.Test.YbulkdsjeGreatDoorSe8
set_option linter.unusedVariables false
set_option linter.unusedSimpArgs false
namespace Go.Proofs.YbulkdsjeGreatDoor
open Go.RowKit

/-- A block of cells. -/
def isC (W : World) (c : Nat) : Prop := ∃ j, (W.cell? ⟨c, j, none⟩).isSome = true
theorem isC.lt {W : World} {c : Nat} (h : isC W c) : c < W.heap.size := by
  obtain ⟨j, hj⟩ := h
  obtain ⟨u, hu⟩ := Option.isSome_iff_exists.1 hj
  exact World.block_lt_of_cell? W _ hu
theorem isC.ne {W : World} {c r : Nat} (h : isC W c) {o : Obj} (hr : W.heap[r]? = some o) (ho : o.isCells = false) : c ≠ r := fun e => by
  subst e
  obtain ⟨j, hj⟩ := h
  unfold World.cell? at hj
  simp only [hr] at hj
  cases o <;> simp [Obj.isCells] at ho hj
theorem isC.calm {W W' : World} {c : Nat} {E : Nat → Prop} (h : isC W c) (k : Kept E W W') (hc : ¬ E c) : isC W' c := by
  have hl := h.lt
  obtain ⟨j, hj⟩ := h
  exact ⟨j, by rw [World.cell?_of_block (a := ⟨c, j, none⟩) (k.block c hl hc)]; exact hj⟩
theorem CK.tight {W : World} {S : Nat → Prop} {b o d n : Nat} {f : Nat → Int} (h : CK W S b o d n f) : CK W (fun c => S c ∧ isC W c) b o d n f := by
  obtain ⟨sv, m, Cb, co, cc, I, cp, hx⟩ := h
  refine ⟨sv, m, Cb, co, cc, I, cp, ⟨hx.c0, hx.c1, hx.c2, hx.fr, hx.form, hx.mcc, hx.row, hx.hi, hx.d256, hx.ch, hx.it, hx.cpl, hx.val, hx.inj, hx.ic, fun hm => ⟨hx.oc hm, co + 0, (hx.row hm 0 (by have := hx.mcc; omega)).1⟩, fun k hk => ⟨hx.oi k hk, 0, (hx.it k hk 0 (by have := hx.cpl k hk; omega)).1⟩, fun x hx' => hx.slt x hx'.1, fun h => hx.sb h.1, hx.bd⟩, hx.lo, hx.z⟩
theorem AR.tight {W : World} {S : Nat → Prop} {b o st nn fu : Nat} (h : AR W S b o st nn fu) : AR W (fun c => S c ∧ isC W c) b o st nn fu := by
  obtain ⟨sc, fi, d, n, f, hx⟩ := h
  exact ⟨sc, fi, d, n, f, hx.s0, hx.s1, hx.s2, hx.s3, hx.s4, hx.fz, hx.ck.tight, hx.hst, hx.hnn, hx.hfu, hx.hfi⟩
section
variable {U V W : World} {SA : Nat → Nat → Prop} {sb ab na : Nat} {st nn fu : Nat → Nat} {hb pv nw : Nat} {sd : Bool}
theorem SX.tight (h : SX U SA sb ab na st nn fu hb pv nw sd) : SX U (fun i c => SA i c ∧ isC U c) sb ab na st nn fu hb pv nw sd :=
  ⟨h.r1, h.c4, h.c8, h.c9, h.c10, h.c11, h.fz, fun i hi => (h.ar i hi).tight, fun i j hi hj hne c hc hc' => h.dj i j hi hj hne c hc.1 hc'.1, fun i c hi hc => h.ds i c hi hc.1, h.sab, h.hna, h.hhb, h.hpn⟩
theorem AR.isC (h : AR W (fun _ => True) ab 0 0 0 0) : isC W ab := by
  obtain ⟨sc, fi, d, n, f, hx⟩ := h
  exact ⟨0, by rw [hx.s0]; rfl⟩
theorem SX.isb (h : SX U SA sb ab na st nn fu hb pv nw sd) : isC U sb := ⟨4, by rw [h.c4]; rfl⟩
theorem SX.isa (h : SX U SA sb ab na st nn fu hb pv nw sd) : isC U ab := by
  obtain ⟨sc, fi, d, n, f, hx⟩ := h.ar 0 (by have := h.hna; omega)
  exact ⟨0 * 8, by rw [hx.s0]; rfl⟩
/-- Where one's blocks have not turned. -/
theorem SX.keptE {E : Nat → Prop} (h : SX U SA sb ab na st nn fu hb pv nw sd) (k : Kept E U V) (h1 : ¬ E sb) (h2 : ¬ E ab) (h3 : ∀ i c, i < na → SA i c → ¬ E c) : SX V SA sb ab na st nn fu hb pv nw sd := by
  have e := k.block sb h.lt h1
  have c : ∀ j, V.cell? ⟨sb, j, none⟩ = U.cell? ⟨sb, j, none⟩ := fun j => World.cell?_of_block (a := ⟨sb, j, none⟩) e
  have ea := k.block ab h.isa.lt h2
  have ca : ∀ j, V.cell? ⟨ab, j, none⟩ = U.cell? ⟨ab, j, none⟩ := fun j => World.cell?_of_block (a := ⟨ab, j, none⟩) ea
  refine ⟨by rw [c]; exact h.r1, by rw [c]; exact h.c4, by rw [c]; exact h.c8, by rw [c]; exact h.c9, by rw [c]; exact h.c10, by rw [c]; exact h.c11, fun j a b => by rw [World.frozen?_of_block (a := ⟨sb, j, none⟩) e]; exact h.fz j a b, fun i hi => ?_, h.dj, h.ds, h.sab, h.hna, h.hhb, h.hpn⟩
  obtain ⟨sc, fi, d, n, f, hx⟩ := h.ar i hi
  exact ⟨sc, fi, d, n, f, by rw [ca]; exact hx.s0, by rw [ca]; exact hx.s1, by rw [ca]; exact hx.s2, by rw [ca]; exact hx.s3, by rw [ca]; exact hx.s4, by rw [World.frozen?_of_block (a := ⟨ab, i * 8 + 4, none⟩) ea]; exact hx.fz, hx.ck.kept k h2 (fun x hx' => h3 i x hi hx'), hx.hst, hx.hnn, hx.hfu, hx.hfi⟩
end
theorem FP.keptHi {U W W' : World} {X : Nat → Nat → Prop} {E : Nat → Prop} (h : FP U W X) (k : Kept E W W') (hE : ∀ c, E c → U.heap.size ≤ c) : FP U W' X := by
  have b : ∀ c, c < U.heap.size → W'.heap[c]? = W.heap[c]? := fun c hc => k.block c (Nat.lt_of_lt_of_le hc h.size) (fun he => by have := hE c he; omega)
  exact ⟨k.os.trans h.os, k.tape.trans h.tape, k.output.trans h.output, Nat.le_trans h.size k.size, fun c j hc hx => (World.cell?_of_block (a := ⟨c, j, none⟩) (b c hc)).trans (h.cell c j hc hx), fun c j hc => (World.frozen?_of_block (a := ⟨c, j, none⟩) (b c hc)).trans (h.frz c j hc), fun c hc hx => (b c hc).trans (h.block c hc hx)⟩
/-- The kept blocks of a round: what turns is cells. -/
theorem keepsFrom_fp {B : Nat} {V V' : World} {X : Nat → Nat → Prop} (h : FP V V' X) (hX : ∀ c j, X c j → isC V c) : KeepsFrom B V V' :=
  ⟨h.size, fun i o _ hi ho => (h.block i (Array.getElem?_eq_some_iff.1 hi).1 (fun j hx => (hX i j hx).ne hi ho rfl)).trans hi⟩
theorem keepsFrom_keptC {B : Nat} {V V' : World} {E : Nat → Prop} (h : Kept E V V') (hX : ∀ c, E c → isC V c) : KeepsFrom B V V' :=
  ⟨h.size, fun i o _ hi ho => (h.block i (Array.getElem?_eq_some_iff.1 hi).1 (fun hx => (hX i hx).ne hi ho rfl)).trans hi⟩
end Go.Proofs.YbulkdsjeGreatDoor
