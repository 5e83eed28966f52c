import Derived.Test.YbulkdsjeGreatDoorAc1
import Derived.BigQuiet
import Derived.Deep.QuietTactic
import Derived.Handy
import Derived.Deep.MidRow
set_option linter.unusedVariables false
set_option linter.unusedSimpArgs false
namespace Go.Proofs.YbulkdsjeGreatDoor
open Go.RowKit

attribute [local go_sem] Oper.semAt_some
theorem MD.calm {U V : World} {z : Zs} (h : MD U z) (k : Kept (fun _ => False) U V) : MD V z := by
  have lt := h.lt
  exact h.pu (PU.kept k (fun h => h) lt.1) (PU.kept k (fun h => h) lt.2.1) (PU.kept k (fun h => h) lt.2.2.1) (PU.kept k (fun h => h) lt.2.2.2.1) (PU.kept k (fun h => h) lt.2.2.2.2)
/-- The coder as it begins. -/
structure CB (U X : World) (z : Zs) (ov : Value) (L Bm Be : Nat) : Prop where
  cd : CD X z ov L
  k : Kept (fun c => U.heap.size ≤ c) U X
  lo : U.heap.size ≤ z.L1
  bm : X.cell? ⟨Bm, 0, none⟩ = some (.pointer (some ⟨z.Mb, 0, none⟩))
  be : X.cell? ⟨Be, 0, none⟩ = some (.pointer (some ⟨z.Eb, 0, none⟩))
  n1 : ¬ CE z ov Bm
  n2 : ¬ CE z ov Be
  l1 : U.heap.size ≤ Bm
  l2 : U.heap.size ≤ Be
theorem CE.ge {U X : World} {z : Zs} {ov : Value} {L : Nat} (h : CD X z ov L) (lo : U.heap.size ≤ z.L1) (c : Nat) (hc : CE z ov c) : U.heap.size ≤ c := by
  have od := h.o
  rcases hc with e | e | e | e | e | e | e
  · omega
  · omega
  · omega
  · omega
  · omega
  · omega
  · have := h.own c e; omega
theorem CB.go {U X Y : World} {z : Zs} {ov : Value} {L L' Bm Be : Nat} (h : CB U X z ov L Bm Be) (c : CP X z ov L' Y) : ∃ ov', CB U Y z ov' L' Bm Be := by
  obtain ⟨ov', cd, k, mv⟩ := c
  have nb : ∀ B, B < X.heap.size → ¬ CE z ov B → ¬ CE z ov' B := fun B hB hn hc => by
    rcases hc with e | e | e | e | e | e | e
    · exact hn (.inl e)
    · exact hn (.inr (.inl e))
    · exact hn (.inr (.inr (.inl e)))
    · exact hn (.inr (.inr (.inr (.inl e))))
    · exact hn (.inr (.inr (.inr (.inr (.inl e)))))
    · exact hn (.inr (.inr (.inr (.inr (.inr (.inl e))))))
    · rcases mv B e with e | e
      · exact hn (.inr (.inr (.inr (.inr (.inr (.inr e))))))
      · omega
  exact ⟨ov', cd, Kept.thn' h.k k (fun c _ he => CE.ge h.cd h.lo c he), h.lo, k.cell (p := ⟨Bm, 0, none⟩) h.n1 h.bm, k.cell (p := ⟨Be, 0, none⟩) h.n2 h.be, nb Bm (World.block_lt_of_cell? X _ h.bm) h.n1, nb Be (World.block_lt_of_cell? X _ h.be) h.n2, h.l1, h.l2⟩
theorem CB.calm {U X Y : World} {z : Zs} {ov : Value} {L Bm Be : Nat} (h : CB U X z ov L Bm Be) (k : Kept (fun _ => False) X Y) : CB U Y z ov L Bm Be :=
  ⟨h.cd.calm k, Kept.thn' h.k k (fun _ _ h => h.elim), h.lo, k.cell (p := ⟨Bm, 0, none⟩) (fun h => h) h.bm, k.cell (p := ⟨Be, 0, none⟩) (fun h => h) h.be, h.n1, h.n2, h.l1, h.l2⟩
theorem Mv.ce {X : World} {z : Zs} {ov ov' : Value} (mv : Mv X ov ov') {B : Nat} (hB : B < X.heap.size) (hn : ¬ CE z ov B) : ¬ CE z ov' B := fun hc => by
  rcases hc with e | e | e | e | e | e | e
  · exact hn (.inl e)
  · exact hn (.inr (.inl e))
  · exact hn (.inr (.inr (.inl e)))
  · exact hn (.inr (.inr (.inr (.inl e))))
  · exact hn (.inr (.inr (.inr (.inr (.inl e)))))
  · exact hn (.inr (.inr (.inr (.inr (.inr (.inl e))))))
  · rcases mv B e with e | e
    · exact hn (.inr (.inr (.inr (.inr (.inr (.inr e))))))
    · omega
/-- A block of points is no block of the coder. -/
theorem CD.point {U : World} {z : Zs} {ov : Value} {L : Nat} (h : CD U z ov L) {c : Nat} {xs : Array Value} (hc : z.Eb < c) (ho : U.heap[c]? = some (.cells xs 46)) : ¬ CE z ov c := by
  have od := h.o
  obtain ⟨_, low, rg, cache, pend, st, ex, _⟩ := h.es.ex
  intro e
  rcases e with e | e | e | e | e | e | e
  · omega
  · omega
  · omega
  · omega
  · omega
  · omega
  · rcases ex.own.2 with ⟨e', _⟩ | ⟨g', cap, cur, e', hb, hh, _⟩
    · rw [e'] at e; cases e
    · rw [e'] at e
      have e2 : g' = c := by cases e; rfl
      subst e2
      rw [hh] at ho
      cases ho
/-- The coder behind the points: a mark lies beside it. -/
structure CM (U X : World) (z : Zs) (ov : Value) (L Bm Be D : Nat) : Prop where
  cb : CB U X z ov L Bm Be
  mrk : X.heap[D]? = some (.deferred (some []))
  lo : U.heap.size ≤ D
theorem CM.calm {U X Y : World} {z : Zs} {ov : Value} {L Bm Be D : Nat} (h : CM U X z ov L Bm Be D) (k : Kept (fun _ => False) X Y) : CM U Y z ov L Bm Be D :=
  ⟨h.cb.calm k, (k.block D (Array.getElem?_eq_some_iff.1 h.mrk).1 (fun h => h)).trans h.mrk, h.lo⟩
theorem CM.go {U X Y : World} {z : Zs} {ov ov' : Value} {L L' Bm Be D : Nat} (h : CM U X z ov L Bm Be D) (cd : CD Y z ov' L') (k : Kept (CE z ov) X Y) (mv : Mv X ov ov') : CM U Y z ov' L' Bm Be D :=
  ⟨⟨cd, Kept.thn' h.cb.k k (fun c _ he => CE.ge h.cb.cd h.cb.lo c he), h.cb.lo, k.cell (p := ⟨Bm, 0, none⟩) h.cb.n1 h.cb.bm, k.cell (p := ⟨Be, 0, none⟩) h.cb.n2 h.cb.be, mv.ce (World.block_lt_of_cell? X _ h.cb.bm) h.cb.n1, mv.ce (World.block_lt_of_cell? X _ h.cb.be) h.cb.n2, h.cb.l1, h.cb.l2⟩,
    (k.block D (Array.getElem?_eq_some_iff.1 h.mrk).1 (fun hc => h.cb.cd.isCells hc h.mrk rfl rfl)).trans h.mrk, h.lo⟩
/-- The coder, and the replayed series beside it. -/
structure CR (U X : World) (z : Zs) (ov : Value) (L Bm Be D : Nat) (SB : Nat → Nat → Prop) (sb2 ab2 na : Nat) (st nn fu : Nat → Nat) (hb pv2 nw2 : Nat) (sd2 : Bool) : Prop where
  cm : CM U X z ov L Bm Be D
  sx : SX X SB sb2 ab2 na st nn fu hb pv2 nw2 sd2
  n1 : ¬ CE z ov sb2
  n2 : ¬ CE z ov ab2
  n3 : ∀ i c, i < na → SB i c → ¬ CE z ov c
theorem CR.calm {U X Y : World} {z : Zs} {ov : Value} {L Bm Be D : Nat} {SB : Nat → Nat → Prop} {sb2 ab2 na : Nat} {st nn fu : Nat → Nat} {hb pv2 nw2 : Nat} {sd2 : Bool} (h : CR U X z ov L Bm Be D SB sb2 ab2 na st nn fu hb pv2 nw2 sd2) (k : Kept (fun _ => False) X Y) : CR U Y z ov L Bm Be D SB sb2 ab2 na st nn fu hb pv2 nw2 sd2 :=
  ⟨h.cm.calm k, h.sx.kept k, h.n1, h.n2, h.n3⟩
theorem CR.go {U X Y : World} {z : Zs} {ov : Value} {L L' Bm Be D : Nat} {SB : Nat → Nat → Prop} {sb2 ab2 na : Nat} {st nn fu : Nat → Nat} {hb pv2 nw2 : Nat} {sd2 : Bool} (h : CR U X z ov L Bm Be D SB sb2 ab2 na st nn fu hb pv2 nw2 sd2) (c : CP X z ov L' Y) : ∃ ov', CR U Y z ov' L' Bm Be D SB sb2 ab2 na st nn fu hb pv2 nw2 sd2 := by
  obtain ⟨ov', cd, k, mv⟩ := c
  exact ⟨ov', h.cm.go cd k mv, h.sx.keptE k h.n1 h.n2 h.n3, mv.ce h.sx.lt h.n1, mv.ce h.sx.isa.lt h.n2, fun i c hi hc => mv.ce ((h.sx.ar i hi).bl.2.1 c hc) (h.n3 i c hi hc)⟩
/-- Within a round of the points' code. -/
structure LJ (V : World) (z : Zs) (ov : Value) (Bm Be Bi k M : Nat) (W : World) (ov' : Value) : Prop where
  cd : CD W z ov' M
  kp : Kept (fun c => CE z ov c ∨ c = Bi) V W
  mv : Mv V ov ov'
  bm : W.cell? ⟨Bm, 0, none⟩ = some (.pointer (some ⟨z.Mb, 0, none⟩))
  be : W.cell? ⟨Be, 0, none⟩ = some (.pointer (some ⟨z.Eb, 0, none⟩))
  bi : W.cell? ⟨Bi, 0, none⟩ = some (vi k)
  fi : W.frozen? ⟨Bi, 0, none⟩ = false
/-- The boxes beside the coder. -/
structure LB (V : World) (z : Zs) (ov : Value) (Bm Be Bi : Nat) : Prop where
  m : Bm < V.heap.size ∧ ¬ CE z ov Bm
  e : Be < V.heap.size ∧ ¬ CE z ov Be
  i : Bi < V.heap.size ∧ ¬ CE z ov Bi
  v : 3 < V.heap.size
  d : Bi ≠ Bm ∧ Bi ≠ Be
  g : 3 < Bi
theorem LJ.go {V W W1 : World} {z : Zs} {ov ov' : Value} {Bm Be Bi k M M' : Nat} (b : LB V z ov Bm Be Bi) (h : LJ V z ov Bm Be Bi k M W ov') (c : CP W z ov' M' W1) : (∃ ov1, LJ V z ov Bm Be Bi k M' W1 ov1) ∧ Kept (CE z ov') W W1 := by
  obtain ⟨ov1, cd, k1, mv⟩ := c
  have nm := h.mv.ce b.m.1 b.m.2
  have ne := h.mv.ce b.e.1 b.e.2
  have ni := h.mv.ce b.i.1 b.i.2
  refine ⟨⟨ov1, cd, Kept.thn' h.kp k1 (fun c hc he => .inl (Classical.byContradiction fun hn => h.mv.ce hc hn he)), fun c hc => ?_, k1.cell (p := ⟨Bm, 0, none⟩) nm h.bm, k1.cell (p := ⟨Be, 0, none⟩) ne h.be, k1.cell (p := ⟨Bi, 0, none⟩) ni h.bi, ?_⟩, k1⟩
  · rcases mv c hc with e | e
    · exact h.mv c e
    · exact .inr (Nat.le_trans h.kp.size e)
  · rw [World.frozen?_of_block (a := ⟨Bi, 0, none⟩) (k1.block Bi (World.block_lt_of_cell? W _ h.bi) ni)]
    exact h.fi
theorem LJ.turn {V W : World} {z : Zs} {ov ov' : Value} {Bm Be Bi k L M : Nat} (b : LB V z ov Bm Be Bi) (h : LJ V z ov Bm Be Bi k M W ov') (hM : M ≤ L + 270 * (k + 1)) : LI V z ov L Bm Be Bi (k + 1) (W.setCell ⟨Bi, 0, none⟩ (ii ((k : Int) + 1))) := by
  have ni := h.mv.ce b.i.1 b.i.2
  have ks : Kept (fun c => c = Bi) W (W.setCell ⟨Bi, 0, none⟩ (ii ((k : Int) + 1))) := (Kept.refl (fun c => c = Bi) W).setCell (p := ⟨Bi, 0, none⟩) (.inl rfl) _
  refine ⟨ov', (h.cd.kept ks (fun c hc he => ni (by rw [← show c = Bi from he]; exact hc)) (fun c hc he => ?_)).mono hM, Kept.thn' h.kp ks (fun c _ he => .inr he), h.mv, ks.cell (p := ⟨Bm, 0, none⟩) (fun e => b.d.1 (show Bm = Bi from e).symm) h.bm, ks.cell (p := ⟨Be, 0, none⟩) (fun e => b.d.2 (show Be = Bi from e).symm) h.be, ?_, by rw [World.frozen?_setCell]; exact h.fi⟩
  · have := b.g
    have e : c = Bi := he
    omega
  · rw [show (vi (k + 1)) = ii ((k : Int) + 1) by simp]
    exact World.cell?_setCell_same' _ _ _ (by rw [h.bi]; rfl)
/-- What appendSeriesCode leaves. -/
def AcP (U : World) (e : Ending) (w' : World) : Prop := ∃ ov xs, e = .returned ov ∧ w'.ownsRow U.heap.size 5 1 ov xs.length xs ∧ xs.length ≤ 20000000000 ∧ (∀ u ∈ xs, u.oneCell' = true) ∧ Kept (fun _ => False) U w'
end Go.Proofs.YbulkdsjeGreatDoor
