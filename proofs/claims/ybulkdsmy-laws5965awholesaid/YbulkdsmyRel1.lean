import Derived.Test.YbulkdsmyEq
set_option linter.unusedSimpArgs false
namespace Go.Proofs.Ybulkdsmy
open Go.RowKit

theorem cutZero27 (g n c : Nat) (W : World) : Sem.run Yba.prog (Instr.sliceAt 27 (.slice (some ⟨g, 0, none⟩) n c) none (some (.int .i64 0)) none) W = .ok (.slice (some ⟨g, 0, none⟩) 0 c) W := by
  rw [run_sliceAt_slice W 27 _ _ _ _ u27, run_slice_h (P := Yba.prog) W 27 (some ⟨g, 0, none⟩) n c u27 .i64 0 (by omega) (by omega), elem27, sizeOf31]
  simp [sliced, Result.andThen, Addr.add]

/-- The blocks that came in are apart. -/
structure Apart (N HB PB lb G qg R : Nat) (lv : Value) : Prop where
  nodup : [N, HB, PB, lb, G, qg, R].Nodup
  log : ∀ x ∈ [N, HB, PB, lb, G, qg, R], lv.ownBlock ≠ some x

/-- The node as Relink finds it. -/
structure Node0 (w : World) (base N HB PB lb G qg R T nR nQ : Nat) (lv tv : Value) (se pr su : Pr) (pg : Bool) (PL : List Pr) (Qs : List Sl) : Prop where
  host : w.cell? ⟨N, 0, none⟩ = some (.iface 48 (.pointer (some ⟨HB, 0, none⟩)))
  proto : w.cell? ⟨N, 1, none⟩ = some (.iface 44 (.pointer (some ⟨PB, 0, none⟩)))
  quiet : w.cell? ⟨N, 4, none⟩ = some (.slice (some ⟨qg, 0, none⟩) nQ nQ)
  links : w.cell? ⟨N, 6, none⟩ = some (.slice (some ⟨R, 0, none⟩) nR nR)
  self : w.rangeAt N 14 (prc se)
  pred : w.rangeAt N 35 (prc pr)
  succ : w.rangeAt N 56 (prc su)
  told : w.cell? ⟨N, 78, none⟩ = some tv
  gone : w.cell? ⟨N, 80, none⟩ = some (.bool pg)
  room : w.there N 0 83
  plinks : w.cell? ⟨PB, 0, none⟩ = some (.slice (some ⟨G, 0, none⟩) PL.length PL.length)
  plog : w.cell? ⟨PB, 1, none⟩ = some (.pointer (some ⟨lb, 0, none⟩))
  hlog : w.cell? ⟨HB, 1, none⟩ = some (.pointer (some ⟨lb, 0, none⟩))
  hcalls : w.cell? ⟨HB, 127, none⟩ = some (.int .i64 0)
  hroom : w.there HB 0 128
  log : LogAt w base lb lv []
  pls : PeersAt w (some ⟨G, 0, none⟩) PL
  qs : ∀ i s, Qs[i]? = some s → w.rangeAt qg (i * 21) (slc s)
  qroom : w.there qg 0 (nQ * 21)
  rblk : ∃ cur, w.heap[R]? = some (.cells cur 31 (0, 0)) ∧ cur.size = nR * 21
  nq : nQ = Qs.length
  oldG : G < w.heap.size
  oldq : qg < w.heap.size
  low : base ≤ R
  few : PL.length ≤ 4096 ∧ nR ≤ 4096 ∧ nQ ≤ 4096
  okse : se.ok
  okpr : pr.ok
  oksu : su.ok
  okPL : ∀ q ∈ PL, q.ok
  okQ : ∀ s ∈ Qs, 0 ≤ s.b ∧ s.b ≤ 255
  ap : Apart N HB PB lb G qg R lv
  tap : T ∉ [N, HB, PB, lb, G, qg, R]
  ltap : lv.ownBlock ≠ some T

/-- Where a slice's own block may lie: it is x, or it was made since w0. -/
def AtOrNew (w0 : World) (v : Value) (x : Option Nat) : Prop := v.ownBlock = x ∨ ∃ g, v.ownBlock = some g ∧ w0.heap.size ≤ g
theorem AtOrNew.moved {w0 w : World} {v v' : Value} {x : Option Nat} (h : AtOrNew w0 v x) (m : Moved w v v') (hs : w0.heap.size ≤ w.heap.size) : AtOrNew w0 v' x := by
  rcases m with h1 | ⟨g, h1, h2⟩
  · rcases h with h | ⟨g, h, h3⟩
    · exact .inl (h1.trans h)
    · exact .inr ⟨g, h1.trans h, h3⟩
  · exact .inr ⟨g, h1, Nat.le_trans hs h2⟩
theorem AtOrNew.ne {w0 : World} {v : Value} {x : Option Nat} (h : AtOrNew w0 v x) {y : Nat} (hy : y < w0.heap.size) (hx : x ≠ some y) : v.ownBlock ≠ some y := by
  rcases h with h | ⟨g, h, hg⟩
  · rw [h]; exact hx
  · rw [h]
    intro he
    have := Option.some.inj he
    omega
theorem own_apart {w : World} {base base' n n' : Nat} {v v' : Value} {xs xs' : List Value} (h : w.ownsRow base 31 21 v n xs) (h' : w.ownsRow base' 5 1 v' n' xs') {g : Nat} (hg : v.ownBlock = some g) : v'.ownBlock ≠ some g := by
  intro hg'
  rcases h.2 with ⟨rfl, _⟩ | ⟨b, cap, cur, rfl, _, hb, _⟩
  · cases hg
  rcases h'.2 with ⟨rfl, _⟩ | ⟨b', cap', cur', rfl, _, hb', _⟩
  · cases hg'
  have e1 : b = g := Option.some.inj hg
  have e2 : b' = g := Option.some.inj hg'
  subst e1
  subst e2
  rw [hb] at hb'
  cases hb'

/-- The blocks that Relink may write. -/
def RE (N R lb qg HB : Nat) (lv : Value) (k : Nat) : Prop := k = N ∨ k = R ∨ k = lb ∨ k = qg ∨ k = HB ∨ lv.ownBlock = some k

/-- Relink on its way: the links L so far (their slice: kv), the log xs so far (its slice: gv). -/
structure RS (w0 w : World) (base N B HB PB lb G qg R nQ : Nat) (lv tv kv gv : Value) (se pr su : Pr) (pg : Bool) (PL : List Pr) (Qs : List Sl) (L : List Pr) (xs : List Value) : Prop where
  ns : NS w base N B se kv L
  host : w.cell? ⟨N, 0, none⟩ = some (.iface 48 (.pointer (some ⟨HB, 0, none⟩)))
  proto : w.cell? ⟨N, 1, none⟩ = some (.iface 44 (.pointer (some ⟨PB, 0, none⟩)))
  quiet : w.cell? ⟨N, 4, none⟩ = some (.slice (some ⟨qg, 0, none⟩) Qs.length nQ)
  pred : w.rangeAt N 35 (prc pr)
  succ : w.rangeAt N 56 (prc su)
  told : w.cell? ⟨N, 78, none⟩ = some tv
  gone : w.cell? ⟨N, 80, none⟩ = some (.bool pg)
  plinks : w.cell? ⟨PB, 0, none⟩ = some (.slice (some ⟨G, 0, none⟩) PL.length PL.length)
  plog : w.cell? ⟨PB, 1, none⟩ = some (.pointer (some ⟨lb, 0, none⟩))
  hlog : w.cell? ⟨HB, 1, none⟩ = some (.pointer (some ⟨lb, 0, none⟩))
  hcalls : w.cell? ⟨HB, 127, none⟩ = some (.int .i64 0)
  hroom : w.there HB 0 128
  log : LogAt w base lb gv xs
  pls : PeersAt w (some ⟨G, 0, none⟩) PL
  qs : ∀ i s, Qs[i]? = some s → w.rangeAt qg (i * 21) (slc s)
  qroom : w.there qg 0 (nQ * 21)
  kept : Kept (RE N R lb qg HB lv) w0 w
  kat : AtOrNew w0 kv (some R)
  gat : AtOrNew w0 gv lv.ownBlock
  old : ∀ x ∈ [N, HB, PB, lb, G, qg, R], x < w0.heap.size
  newB : w0.heap.size ≤ B
  gB : gv.ownBlock ≠ some B

theorem kept_on {E E' : Nat → Prop} {w0 w w' : World} (h : Kept E w0 w) (k : Kept E' w w') (hE : ∀ i, i < w0.heap.size → E' i → E i) : Kept E w0 w' :=
  ⟨k.os.trans h.os, k.tape.trans h.tape, k.output.trans h.output, Nat.le_trans h.size k.size, fun i hi hn => (k.block i (Nat.lt_of_lt_of_le hi h.size) fun he => hn (hE i hi he)).trans (h.block i hi hn)⟩

theorem range_node {w w' : World} {N o : Nat} {E : Nat → Prop} {cs : List Value} (h : NodeKept N E w w') (hr : w.rangeAt N o cs) (hE : ∀ j, j < cs.length → ¬ E (o + j)) : w'.rangeAt N o cs := fun j v hv => h (o + j) v (hE j (List.getElem?_eq_some_iff.1 hv).1) (hr j v hv)
theorem peers_kept {E : Nat → Prop} {w w' : World} {g : Nat} {L : List Pr} (h : PeersAt w (some ⟨g, 0, none⟩) L) (k : Kept E w w') (hg : ¬ E g) : PeersAt w' (some ⟨g, 0, none⟩) L := fun i p hp => by
  obtain ⟨g', e, hr⟩ := h i p hp
  cases e
  exact ⟨g, rfl, k.range hg hr⟩

section
variable {w0 w w' : World} {base N B HB PB lb G qg R nQ : Nat} {lv tv kv gv : Value} {se pr su : Pr} {pg : Bool} {PL : List Pr} {Qs : List Sl} {L : List Pr} {xs : List Value}

/-- New blocks alone. -/
theorem RS.below (h : RS w0 w base N B HB PB lb G qg R nQ lv tv kv gv se pr su pg PL Qs L xs) (k : Below w.heap.size w w') : RS w0 w' base N B HB PB lb G qg R nQ lv tv kv gv se pr su pg PL Qs L xs := by
  have kf : Kept (fun _ => False) w w' := Kept.ofBelow k
  exact ⟨h.ns.below k, kf.cell (fun h => h) h.host, kf.cell (fun h => h) h.proto, kf.cell (fun h => h) h.quiet, kf.range (fun h => h) h.pred, kf.range (fun h => h) h.succ, kf.cell (fun h => h) h.told, kf.cell (fun h => h) h.gone, kf.cell (fun h => h) h.plinks, kf.cell (fun h => h) h.plog, kf.cell (fun h => h) h.hlog, kf.cell (fun h => h) h.hcalls, kf.there (fun h => h) h.hroom,
    log_kept h.log kf (fun h => h) (fun _ _ h => h), peers_kept h.pls kf (fun h => h), fun i s hs => kf.range (fun h => h) (h.qs i s hs), kf.there (fun h => h) h.qroom, kept_on h.kept kf (fun _ _ h => h.elim), h.kat, h.gat, h.old, h.newB, h.gB⟩

set_option maxHeartbeats 2000000 in
/-- The links have changed. -/
theorem RS.added {kv' : Value} {L' : List Pr} (h : RS w0 w base N B HB PB lb G qg R nQ lv tv kv gv se pr su pg PL Qs L xs) (ap : Apart N HB PB lb G qg R lv) (ns : NS w' base N B se kv' L') (mv : Moved w kv kv') (k : Kept (fun k => k = N ∨ kv.ownBlock = some k) w w') (nk : NodeKept N (fun o => o = 6) w w') :
    RS w0 w' base N B HB PB lb G qg R nQ lv tv kv' gv se pr su pg PL Qs L' xs := by
  have nd := ap.nodup
  simp only [List.nodup_cons, List.mem_cons, List.not_mem_nil, or_false, not_or] at nd
  have old := h.old
  simp only [List.mem_cons, List.not_mem_nil, or_false, forall_eq_or_imp, forall_eq] at old
  have al := ap.log
  simp only [List.mem_cons, List.not_mem_nil, or_false, forall_eq_or_imp, forall_eq] at al
  have no : ∀ x, x < w0.heap.size → x ≠ N → R ≠ x → ¬ (x = N ∨ kv.ownBlock = some x) := fun x hx hN hR he => he.elim hN (h.kat.ne hx (by intro e; exact hR (Option.some.inj e)))
  have nPB := no PB (by omega) (by omega) (by omega)
  have nHB := no HB (by omega) (by omega) (by omega)
  have nlb := no lb (by omega) (by omega) (by omega)
  have nG := no G (by omega) (by omega) (by omega)
  have nq := no qg (by omega) (by omega) (by omega)
  refine ⟨ns, nk 0 _ (by omega) h.host, nk 1 _ (by omega) h.proto, nk 4 _ (by omega) h.quiet, range_node nk h.pred (fun j _ => by omega), range_node nk h.succ (fun j _ => by omega), nk 78 _ (by omega) h.told, nk 80 _ (by omega) h.gone, k.cell nPB h.plinks, k.cell nPB h.plog, k.cell nHB h.hlog, k.cell nHB h.hcalls, k.there nHB h.hroom,
    log_kept h.log k nlb (fun g hg he => he.elim (fun e => h.gat.ne old.1 al.1 (by rw [hg, e])) (fun e => own_apart h.ns.own h.log.own e hg)), peers_kept h.pls k nG, fun i s hs => k.range nq (h.qs i s hs), k.there nq h.qroom, kept_on h.kept k (fun i hi he => ?_), h.kat.moved mv h.kept.size, h.gat, h.old, h.newB, h.gB⟩
  rcases he with e | e
  · exact .inl e
  · rcases h.kat with e' | ⟨g, e', hg⟩
    · exact .inr (.inl (Option.some.inj (e.symm.trans e')))
    · have := Option.some.inj (e.symm.trans e')
      omega

set_option maxHeartbeats 2000000 in
/-- The log has grown. -/
theorem RS.logged {gv' : Value} {xs' : List Value} (h : RS w0 w base N B HB PB lb G qg R nQ lv tv kv gv se pr su pg PL Qs L xs) (ap : Apart N HB PB lb G qg R lv) (lg : LogAt w' base lb gv' xs') (mv : Moved w gv gv') (k : Kept (fun k => k = lb ∨ gv.ownBlock = some k) w w') :
    RS w0 w' base N B HB PB lb G qg R nQ lv tv kv gv' se pr su pg PL Qs L xs' := by
  have nd := ap.nodup
  simp only [List.nodup_cons, List.mem_cons, List.not_mem_nil, or_false, not_or] at nd
  have old := h.old
  simp only [List.mem_cons, List.not_mem_nil, or_false, forall_eq_or_imp, forall_eq] at old
  have al := ap.log
  simp only [List.mem_cons, List.not_mem_nil, or_false, forall_eq_or_imp, forall_eq] at al
  have no : ∀ x, x < w0.heap.size → x ≠ lb → lv.ownBlock ≠ some x → ¬ (x = lb ∨ gv.ownBlock = some x) := fun x hx hN hR he => he.elim hN (h.gat.ne hx hR)
  have nN := no N (by omega) (by omega) al.1
  have nPB := no PB (by omega) (by omega) al.2.2.1
  have nHB := no HB (by omega) (by omega) al.2.1
  have nG := no G (by omega) (by omega) al.2.2.2.2.1
  have nq := no qg (by omega) (by omega) al.2.2.2.2.2.1
  have nB : ¬ (B = lb ∨ gv.ownBlock = some B) := fun he => he.elim (fun e => by have := h.newB; omega) h.gB
  have hBw : B < w.heap.size := World.block_lt_of_cell? w _ h.ns.box
  have gB' : gv'.ownBlock ≠ some B := by
    rcases mv with e | ⟨g, e, hg⟩
    · rw [e]; exact h.gB
    · rw [e]
      intro he
      have := Option.some.inj he
      omega
  have nk : ∀ g, kv.ownBlock = some g → ¬ (g = lb ∨ gv.ownBlock = some g) := fun g hg he => he.elim (fun e => h.kat.ne (y := lb) (by omega) (by intro e2; have := Option.some.inj e2; omega) (by rw [hg, e])) (fun e => own_apart h.ns.own h.log.own hg e)
  refine ⟨h.ns.kept k nN nB nk, k.cell nN h.host, k.cell nN h.proto, k.cell nN h.quiet, k.range nN h.pred, k.range nN h.succ, k.cell nN h.told, k.cell nN h.gone, k.cell nPB h.plinks, k.cell nPB h.plog, k.cell nHB h.hlog, k.cell nHB h.hcalls, k.there nHB h.hroom,
    lg, peers_kept h.pls k nG, fun i s hs => k.range nq (h.qs i s hs), k.there nq h.qroom, kept_on h.kept k (fun i hi he => ?_), h.kat, h.gat.moved mv h.kept.size, h.old, h.newB, gB'⟩
  rcases he with e | e
  · exact .inr (.inr (.inl e))
  · rcases h.gat with e' | ⟨g, e', hg⟩
    · exact .inr (.inr (.inr (.inr (.inr (e'.symm.trans e)))))
    · have := Option.some.inj (e.symm.trans e')
      omega
end

end Go.Proofs.Ybulkdsmy
