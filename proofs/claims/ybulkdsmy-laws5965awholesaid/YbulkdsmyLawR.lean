import Derived.Test.YbulkdsmyLawP
set_option linter.unusedSimpArgs false
namespace Go.Proofs.Ybulkdsmy
open Go.RowKit

theorem peers_on {w w' : World} {sa : Option Addr} {L : List Pr} (h : PeersAt w sa L) (b : Below w.heap.size w w') : PeersAt w' sa L := fun i p hp => by
  obtain ⟨g, e, hr⟩ := h i p hp
  exact ⟨g, e, range_kept_below b hr⟩

/-- What lies in memory behind Relink. -/
structure F7 (w W : World) (PL : List Pr) (se pr su tp ts : Pr) (pg : Bool) (n1 G : Nat) (cv : Value) (n3 qg N HB lb : Nat) (M : Int) (ta : Option Addr) (T TW top : Nat) (L : List Pr) (Qf : List Sl) : Prop where
  bx : Bx w W se pr su tp ts
  pl : PeersAt W (some ⟨G, 0, none⟩) PL
  cl : ∃ sa cap, cv = .slice sa n1 cap ∧ PeersAt W sa PL
  td : ToldAt W T (.pointer ta) se (tdOf M pr su tp ts)
  was : ∀ tp' ts', tdOf M pr su tp ts = some (tp', ts') → W.rangeAt TW 0 (plc se ts' tp')
  links : ∃ sa cap, W.cell? ⟨N, 6, none⟩ = some (.slice sa L.length cap) ∧ PeersAt W sa L
  quiet : W.cell? ⟨N, 4, none⟩ = some (.slice (some ⟨qg, 0, none⟩) Qf.length n3)
  qs : ∀ i s, Qf[i]? = some s → W.rangeAt qg (i * 21) (slc s)
  self : W.rangeAt N 14 (prc se)
  pred : W.rangeAt N 35 (prc pr)
  succ : W.rangeAt N 56 (prc su)
  gone : W.cell? ⟨N, 80, none⟩ = some (.bool pg)
  logS : tellOf pr su (tdOf M pr su tp ts) = true → ∃ g cap, W.cell? ⟨lb, 0, none⟩ = some (.slice (some ⟨g, 0, none⟩) 3 cap) ∧ W.rangeAt g 0 [.int .u8 76, .int .u8 82, .int .u8 72]
  logM : tellOf pr su (tdOf M pr su tp ts) = false → ∃ g cap, W.cell? ⟨lb, 0, none⟩ = some (.slice (some ⟨g, 0, none⟩) 2 cap) ∧ W.rangeAt g 0 [.int .u8 76, .int .u8 82]
  said : tellOf pr su (tdOf M pr su tp ts) = true → ∃ NP, top ≤ NP ∧ W.cell? ⟨N, 78, none⟩ = some (.pointer (some ⟨NP, 0, none⟩)) ∧ W.rangeAt NP 0 (plc se su pr) ∧ W.cell? ⟨HB, 2, none⟩ = some (.iface 39 (.pointer (some ⟨NP, 0, none⟩))) ∧ W.rangeAt HB 3 (changeFor se pr su (tdOf M pr su tp ts)) ∧ W.cell? ⟨HB, 127, none⟩ = some (.int .i64 1)
  mute : tellOf pr su (tdOf M pr su tp ts) = false → W.cell? ⟨N, 78, none⟩ = some (.pointer ta) ∧ W.cell? ⟨HB, 127, none⟩ = some (.int .i64 0)
  tt : T < top
  tb : ∀ tp' ts', tdOf M pr su tp ts = some (tp', ts') → W.heap[T]? = some (.cells (plc se ts' tp').toArray 42)

theorem F7.below {w W W' : World} {PL : List Pr} {se pr su tp ts : Pr} {pg : Bool} {n1 G : Nat} {cv : Value} {n3 qg N HB lb : Nat} {M : Int} {ta : Option Addr} {T TW top : Nat} {L : List Pr} {Qf : List Sl} (h : F7 w W PL se pr su tp ts pg n1 G cv n3 qg N HB lb M ta T TW top L Qf) (b : Below W.heap.size W W') :
    F7 w W' PL se pr su tp ts pg n1 G cv n3 qg N HB lb M ta T TW top L Qf := by
  have kf : Kept (fun _ => False) W W' := Kept.ofBelow b
  have c : ∀ {p : Addr} {v : Value}, W.cell? p = some v → W'.cell? p = some v := fun hv => kf.cell (fun h => h) hv
  have r : ∀ {b o : Nat} {cs : List Value}, W.rangeAt b o cs → W'.rangeAt b o cs := fun hr => kf.range (fun h => h) hr
  refine ⟨h.bx.on b h.bx.sz, peers_on h.pl b, ?_, ?_, fun tp' ts' e => r (h.was tp' ts' e), ?_, c h.quiet, fun i s hs => r (h.qs i s hs), r h.self, r h.pred, r h.succ, c h.gone, ?_, ?_, ?_, fun e => ⟨c (h.mute e).1, c (h.mute e).2⟩, h.tt, fun tp' ts' e => by rw [b.block T (Array.getElem?_eq_some_iff.1 (h.tb tp' ts' e)).1]; exact h.tb tp' ts' e⟩
  · obtain ⟨sa, cap, e, hp⟩ := h.cl
    exact ⟨sa, cap, e, peers_on hp b⟩
  · have htd := h.td
    generalize tdOf M pr su tp ts = td at htd
    cases td with
    | none => exact htd
    | some x => exact ⟨htd.1, r htd.2.1, htd.2.2⟩
  · obtain ⟨sa, cap, e, hp⟩ := h.links
    exact ⟨sa, cap, c e, peers_on hp b⟩
  · intro e
    obtain ⟨g, cap, h1, h2⟩ := h.logS e
    exact ⟨g, cap, c h1, r h2⟩
  · intro e
    obtain ⟨g, cap, h1, h2⟩ := h.logM e
    exact ⟨g, cap, c h1, r h2⟩
  · intro e
    obtain ⟨NP, h1, h2, h3, h4, h5, h6⟩ := h.said e
    exact ⟨NP, h1, c h2, r h3, c h4, r h5, c h6⟩

theorem log_range {w : World} {base lb : Nat} {gv : Value} {x : Value} {xs : List Value} (h : LogAt w base lb gv (x :: xs)) : ∃ g cap, w.cell? ⟨lb, 0, none⟩ = some (.slice (some ⟨g, 0, none⟩) (x :: xs).length cap) ∧ w.rangeAt g 0 (x :: xs) := by
  have hc := h.cell
  rcases h.own.2 with ⟨_, h0⟩ | ⟨g, cap, cur, rfl, _, hb, h3, _, _, h6⟩
  · cases h0
  · refine ⟨g, cap, hc, fun j v hv => ?_⟩
    rw [← h6, Nat.mul_one] at hv
    have hlt := (List.getElem?_eq_some_iff.1 hv).1
    rw [List.getElem?_take_of_lt (by rw [List.length_take] at hlt; omega)] at hv
    unfold World.cell?
    simp only [hb]
    simpa using hv

set_option maxHeartbeats 4000000 in
theorem F7.make {w W W' : World} {PL : List Pr} {Q : List Sl} {se pr su tp ts : Pr} {pg : Bool} {n1 n2 n3 G R qg T TW N HB lb top x : Nat} {cv : Value} {M : Int} {ta : Option Addr} {L : List Pr} {Qf : List Sl} (hn1 : n1 = PL.length)
    (h : S5 w W PL Q se pr su tp ts n1 G cv n2 R n3 qg M ta T TW top) (hx : top ≤ x ∧ top ≤ N ∧ top ≤ HB ∧ top ≤ lb) (r : Rel W W' w.heap.size N HB lb qg R n3 (.slice (some ⟨x, 0, none⟩) 0 0) (.pointer ta) se pr su pg Qf L (tdOf M pr su tp ts)) :
    F7 w W' PL se pr su tp ts pg n1 G cv n3 qg N HB lb M ta T TW top L Qf := by
  have g5 := h.s4.s3.s2.g5
  have gt := h.s4.s3.s2.gt
  have rt := h.s4.s3.rt
  have qt := h.s4.qt
  have wt := h.wt
  have tt := h.tt
  have tl := h.tl
  obtain ⟨x1, x2, x3, x4⟩ := hx
  have no : ∀ k, k < top → k ≠ R → k ≠ qg → ¬ RE N R lb qg HB (.slice (some ⟨x, 0, none⟩) 0 0) k := fun k hk h1 h2 he => by
    rcases he with e | e | e | e | e | e
    · omega
    · exact h1 e
    · omega
    · exact h2 e
    · omega
    · have e' : x = k := Option.some.inj e
      omega
  have k := r.kept
  have bel : Below (w.heap.size + 5) W W' := k.toBelow (fun i hi => no i (by omega) (by omega) (by omega)) (by have := h.s4.s3.s2.bx.sz; omega)
  refine ⟨h.s4.s3.s2.bx.on bel (Nat.le_refl _), fun i p hp => ⟨G, rfl, k.range (no G (by omega) (by omega) (by omega)) (h.s4.s3.s2.pl i p hp)⟩, ?_, ?_, fun tp' ts' e => k.range (no TW (by omega) (by omega) (by omega)) (h.was tp' ts' e), r.links, r.quiet, r.qs, r.self, r.pred, r.succ, r.gone, ?_, ?_, ?_, r.mute, Nat.lt_trans tt wt, fun tp' ts' e => by rw [k.block T (Array.getElem?_eq_some_iff.1 (h.tb tp' ts' e)).1 (no T (by omega) (by omega) (by omega))]; exact h.tb tp' ts' e⟩
  · have own := own_kept h.s4.s3.s2.cl k (fun g hg => no g (by have := h.s4.s3.s2.ct g hg; omega) (by have := h.s4.s3.s2.ct g hg; omega) (by have := h.s4.s3.s2.ct g hg; omega))
    rw [hn1] at own
    obtain ⟨sa, cap, e, hp, _⟩ := own_peers own
    exact ⟨sa, cap, by rw [hn1]; exact e, hp⟩
  · have htd := h.td
    generalize tdOf M pr su tp ts = td at htd
    cases td with
    | none => exact htd
    | some y => exact ⟨htd.1, k.range (no T (by omega) (by omega) (by omega)) htd.2.1, htd.2.2⟩
  · intro e
    obtain ⟨gv, hl⟩ := r.log
    rw [e] at hl
    exact log_range hl
  · intro e
    obtain ⟨gv, hl⟩ := r.log
    rw [e] at hl
    exact log_range hl
  · intro e
    obtain ⟨NP, h1, h2⟩ := r.said e
    exact ⟨NP, Nat.le_trans h.sz h1, h2⟩
end Go.Proofs.Ybulkdsmy
