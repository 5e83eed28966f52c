import Derived.Test.YbulkdsjeGreatDoorIt3
import Derived.Test.YbulkdsjeGreatDoorEs6
import Derived.Test.YbulkdsjeGreatDoorNm1
import Derived.Test.YbulkdsjeGreatDoorBd1
import Derived.BigQuiet
import Derived.Deep.QuietTactic
import Derived.Handy
import Derived.Deep.MidRow
set_option linter.unusedVariables false
set_option linter.unusedSimpArgs false
namespace Go.Proofs.YbulkdsjeGreatDoor
open Go.RowKit

attribute [local go_sem] Oper.semAt_some
theorem CD.isCells {U : World} {z : Zs} {ov : Value} {L : Nat} (h : CD U z ov L) {c r : Nat} (hc : CE z ov c) {o : Obj} (hr : U.heap[r]? = some o) (ho : o.isCells = false) : c ≠ r := by
  obtain ⟨xs, low, rg, cache, pend, st, ex, _⟩ := h.es.ex
  have pc : ∀ x o N, PA U x o N → 0 < N → isC U x := fun x o N hp hN => by
    obtain ⟨p, hp, _⟩ := hp 0 hN
    exact ⟨o + 0, by rw [hp]; rfl⟩
  rcases hc with e | e | e | e | e | e | e
  · rw [e]; exact (show isC U z.Eb from ⟨0, by rw [ex.cell 0 _ rfl]; rfl⟩).ne hr ho
  · rw [e]; exact (show isC U z.Mb from ⟨0, by rw [h.md.c0]; rfl⟩).ne hr ho
  · rw [e]; exact (pc _ _ _ h.md.um1.pm (by omega)).ne hr ho
  · rw [e]; exact (pc _ _ _ h.md.um1.pl (by omega)).ne hr ho
  · rw [e]; exact (pc _ _ _ h.md.um2.pm (by omega)).ne hr ho
  · rw [e]; exact (pc _ _ _ h.md.um2.pl (by omega)).ne hr ho
  · rcases ex.own.2 with ⟨e', _⟩ | ⟨g', cap, cur, e', hb, hh, _⟩
    · rw [e'] at e; cases e
    · rw [e'] at e
      cases e
      intro e2
      have e3 : g' = r := e2
      subst e3
      rw [hh] at hr
      cases hr
      cases ho
/-- Between two rounds of the points' code: the coder has moved on, the count lies in its box. -/
def LI (V : World) (z : Zs) (ov : Value) (L Bm Be Bi : Nat) (k : Nat) (W : World) : Prop := ∃ ov', CD W z ov' (L + 270 * k) ∧ Kept (fun c => CE z ov c ∨ c = Bi) V W ∧ Mv V ov ov' ∧ W.cell? ⟨Bm, 0, none⟩ = some (.pointer (some ⟨z.Mb, 0, none⟩)) ∧ W.cell? ⟨Be, 0, none⟩ = some (.pointer (some ⟨z.Eb, 0, none⟩)) ∧ W.cell? ⟨Bi, 0, none⟩ = some (vi k) ∧ W.frozen? ⟨Bi, 0, none⟩ = false
theorem LI.row {V W W' : World} {z : Zs} {ov : Value} {L Bm Be Bi k : Nat} (h : LI V z ov L Bm Be Bi k W) (hV : 3 < V.heap.size) {E : Nat → Prop} (kk : Kept E W W') (hE : ∀ c, E c → V.heap.size ≤ c ∧ ∃ o : Obj, W.heap[c]? = some o ∧ o.isCells = false) : LI V z ov L Bm Be Bi k W' := by
  obtain ⟨ov', cd, k1, mv, c1, c2, c3, f3⟩ := h
  have nc : ∀ {x : Nat} {v : Value}, W.cell? ⟨x, 0, none⟩ = some v → ¬ E x := fun {x v} hx he => by
    obtain ⟨_, o, ho1, ho2⟩ := hE _ he
    exact (show isC W x from ⟨0, by rw [hx]; rfl⟩).ne ho1 ho2 rfl
  refine ⟨ov', cd.kept kk (fun c hc he => ?_) (fun c hc he => ?_), Kept.thn' k1 kk (fun c hc he => ?_), mv, kk.cell (p := ⟨Bm, 0, none⟩) (nc c1) c1, kk.cell (p := ⟨Be, 0, none⟩) (nc c2) c2, kk.cell (p := ⟨Bi, 0, none⟩) (nc c3) c3, ?_⟩
  · obtain ⟨_, o, ho1, ho2⟩ := hE _ he
    exact cd.isCells hc ho1 ho2 rfl
  · obtain ⟨hs, _⟩ := hE _ he
    omega
  · obtain ⟨hs, _⟩ := hE _ he
    omega
  · rw [World.frozen?_of_block (a := ⟨Bi, 0, none⟩) (kk.block Bi (World.block_lt_of_cell? W _ c3) (nc c3))]
    exact f3
end Go.Proofs.YbulkdsjeGreatDoor
