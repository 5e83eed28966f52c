import Derived.Test.YbulkdsmyRel2
set_option linter.unusedSimpArgs false
namespace Go.Proofs.Ybulkdsmy
open Go.RowKit

/-- What was told last: nothing, or a place between these two. -/
def ToldAt (w : World) (T : Nat) (tv : Value) (se : Pr) : Option (Pr × Pr) → Prop
  | none => tv = .pointer none
  | some (tp, ts) => tv = .pointer (some ⟨T, 0, none⟩) ∧ w.rangeAt T 0 (plc se ts tp) ∧ tp.ok ∧ ts.ok
def tellOf (pr su : Pr) : Option (Pr × Pr) → Bool
  | none => true
  | some (tp, ts) => !pr.same tp || !su.same ts
def changeFor (se pr su : Pr) : Option (Pr × Pr) → List Value
  | none => chc zp zp 0 0
  | some (tp, ts) => changeOf se su pr ts tp
theorem changeOf_len (se su pr su' pr' : Pr) : (changeOf se su pr su' pr').length = 124 := chc_len _ _ _ _
theorem changeOf_one (se su pr su' pr' : Pr) : ∀ v ∈ changeOf se su pr su' pr', v.oneCell' = true := chc_one _ _ _ _

/-- What Relink leaves. -/
structure Rel (w w' : World) (base N HB lb qg R nQ : Nat) (lv tv : Value) (se pr su : Pr) (pg : Bool) (Qs : List Sl) (L : List Pr) (td : Option (Pr × Pr)) : Prop where
  links : ∃ sa cap, w'.cell? ⟨N, 6, none⟩ = some (.slice sa L.length cap) ∧ PeersAt w' sa L
  quiet : w'.cell? ⟨N, 4, none⟩ = some (.slice (some ⟨qg, 0, none⟩) Qs.length nQ)
  qs : ∀ i s, Qs[i]? = some s → w'.rangeAt qg (i * 21) (slc s)
  self : w'.rangeAt N 14 (prc se)
  pred : w'.rangeAt N 35 (prc pr)
  succ : w'.rangeAt N 56 (prc su)
  gone : w'.cell? ⟨N, 80, none⟩ = some (.bool pg)
  log : ∃ gv, LogAt w' base lb gv (if tellOf pr su td then [.int .u8 76, .int .u8 82, .int .u8 72] else [.int .u8 76, .int .u8 82])
  said : tellOf pr su td = true → ∃ NP, w.heap.size ≤ NP ∧ w'.cell? ⟨N, 78, none⟩ = some (.pointer (some ⟨NP, 0, none⟩)) ∧ w'.rangeAt NP 0 (plc se su pr) ∧ w'.cell? ⟨HB, 2, none⟩ = some (.iface 39 (.pointer (some ⟨NP, 0, none⟩))) ∧ w'.rangeAt HB 3 (changeFor se pr su td) ∧ w'.cell? ⟨HB, 127, none⟩ = some (.int .i64 1)
  mute : tellOf pr su td = false → w'.cell? ⟨N, 78, none⟩ = some tv ∧ w'.cell? ⟨HB, 127, none⟩ = some (.int .i64 0)
  kept : Kept (RE N R lb qg HB lv) w w'

theorem NS.set {w : World} {base N B : Nat} {se : Pr} {lv : Value} {L : List Pr} (h : NS w base N B se lv L) {o : Nat} (ho : o = 4 ∨ o = 78) (v : Value) : NS (w.setCell ⟨N, o, none⟩ v) base N B se lv L := by
  have k2 : Kept (fun k => k = N) w (w.setCell ⟨N, o, none⟩ v) := (Kept.refl (fun k => k = N) w).setCell (p := ⟨N, o, none⟩) (.inl rfl) _
  refine ⟨k2.cell (Ne.symm h.nb) h.box, ?_, there_setCell h.room _ _, own_kept h.own k2 (fun g hg he => h.aN (by rw [hg, he])), h.few, h.ok, range_setCell h.self _ _ (fun _ => ?_), h.aN, h.aB, h.nb, by simpa using h.low⟩
  · rw [World.cell?_setCell_other _ _ _ _ (fun he => by injection he with _ e _; omega)]
    exact h.field
  · rw [prc_len]
    dsimp only
    omega

section
variable {w0 w w' : World} {base N B HB PB lb G qg R nQ : Nat} {lv tv kv gv : Value} {se pr su : Pr} {pg : Bool} {PL : List Pr} {Qs : List Sl} {L : List Pr} {xs : List Value}

set_option maxHeartbeats 2000000 in
/-- The quiet ones have been picked out, and their slice has been written. -/
theorem RS.cleared {Qs' : List Sl} (h : RS w0 w base N B HB PB lb G qg R nQ lv tv kv gv se pr su pg PL Qs L xs) (ap : Apart N HB PB lb G qg R lv) (hq : ∀ i s, Qs'[i]? = some s → w'.rangeAt qg (i * 21) (slc s)) (k : Kept (fun k => k = qg) w w') (hr : w'.there qg 0 (nQ * 21)) :
    RS w0 (w'.setCell ⟨N, 4, none⟩ (.slice (some ⟨qg, 0, none⟩) Qs'.length nQ)) base N B HB PB lb G qg R nQ lv tv kv gv se pr su pg PL Qs' L xs := by
  have nd := ap.nodup
  simp only [List.nodup_cons, List.mem_cons, List.not_mem_nil, or_false, not_or] at nd
  have old := h.old
  simp only [List.mem_cons, List.not_mem_nil, or_false, forall_eq_or_imp, forall_eq] at old
  have al := ap.log
  simp only [List.mem_cons, List.not_mem_nil, or_false, forall_eq_or_imp, forall_eq] at al
  obtain ⟨⟨NH, NP', Nl, NG, Nq, NR⟩, ⟨HP, Hl, HG, Hq, HR⟩, ⟨Pl, PG, Pq, PR⟩, ⟨lG, lq, lR⟩, ⟨Gq, GR⟩, qR, _⟩ := nd
  obtain ⟨oN, oH, oP, ol, oG, oq, oR⟩ := old
  obtain ⟨aN, aH, aP, aL, aG, aq, aR⟩ := al
  have k2 : Kept (fun k => k = N) w' (w'.setCell ⟨N, 4, none⟩ (.slice (some ⟨qg, 0, none⟩) Qs'.length nQ)) := (Kept.refl (fun k => k = N) w').setCell (p := ⟨N, 4, none⟩) (.inl rfl) _
  have nNq : ¬ N = qg := Nq
  have nPq : ¬ PB = qg := Pq
  have nHq : ¬ HB = qg := Hq
  have nlq : ¬ lb = qg := lq
  have nGq : ¬ G = qg := Gq
  have nPN : ¬ PB = N := fun e => NP' e.symm
  have nHN : ¬ HB = N := fun e => NH e.symm
  have nlN : ¬ lb = N := fun e => Nl e.symm
  have nGN : ¬ G = N := fun e => NG e.symm
  have nqN : ¬ qg = N := fun e => Nq e.symm
  have nBq : ¬ B = qg := fun e => absurd (e ▸ h.newB) (Nat.not_le_of_lt oq)
  have nkq : ∀ g, kv.ownBlock = some g → ¬ g = qg := fun g hg he => h.kat.ne (y := qg) oq (fun e => qR (Option.some.inj e).symm) (by rw [hg, he])
  have ngq : ∀ g, gv.ownBlock = some g → ¬ g = qg := fun g hg he => h.gat.ne (y := qg) oq aq (by rw [hg, he])
  have ngN : ∀ g, gv.ownBlock = some g → ¬ g = N := fun g hg he => h.gat.ne (y := N) oN aN (by rw [hg, he])
  have o4 : ∀ o : Nat, o ≠ 4 → ∀ v, w'.cell? ⟨N, o, none⟩ = some v → (w'.setCell ⟨N, 4, none⟩ (.slice (some ⟨qg, 0, none⟩) Qs'.length nQ)).cell? ⟨N, o, none⟩ = some v := fun o ho v hv => by
    rw [World.cell?_setCell_other _ _ _ _ (fun he => ho (by cases he; rfl))]
    exact hv
  have c4 := k.cell (p := ⟨N, 4, none⟩) nNq h.quiet
  refine ⟨(h.ns.kept k nNq nBq nkq).set (.inl rfl) _, o4 0 (by omega) _ (k.cell nNq h.host), o4 1 (by omega) _ (k.cell nNq h.proto), ?_, range_setCell (k.range nNq h.pred) _ _ (fun _ => .inl (by simp)), range_setCell (k.range nNq h.succ) _ _ (fun _ => .inl (by simp)), o4 78 (by omega) _ (k.cell nNq h.told), o4 80 (by omega) _ (k.cell nNq h.gone),
    k2.cell nPN (k.cell nPq h.plinks), k2.cell nPN (k.cell nPq h.plog), k2.cell nHN (k.cell nHq h.hlog), k2.cell nHN (k.cell nHq h.hcalls), k2.there nHN (k.there nHq h.hroom), log_kept (log_kept h.log k nlq ngq) k2 nlN ngN, peers_kept (peers_kept h.pls k nGq) k2 nGN, fun i s hs => k2.range nqN (hq i s hs), k2.there nqN hr, ?_, h.kat, h.gat, h.old, h.newB, h.gB⟩
  · first | exact World.cell?_setCell_same _ _ _ c4 | exact World.cell?_setCell_same _ _ c4
  · exact kept_on (kept_on h.kept k (fun i _ e => .inr (.inr (.inr (.inl e))))) k2 (fun i _ e => .inl e)

set_option maxHeartbeats 2000000 in
/-- The place told last has been written. -/
theorem RS.telling (h : RS w0 w base N B HB PB lb G qg R nQ lv tv kv gv se pr su pg PL Qs L xs) (ap : Apart N HB PB lb G qg R lv) (tv' : Value) :
    RS w0 (w.setCell ⟨N, 78, none⟩ tv') base N B HB PB lb G qg R nQ lv tv' kv gv se pr su pg PL Qs L xs := by
  have nd := ap.nodup
  simp only [List.nodup_cons, List.mem_cons, List.not_mem_nil, or_false, not_or] at nd
  have old := h.old
  simp only [List.mem_cons, List.not_mem_nil, or_false, forall_eq_or_imp, forall_eq] at old
  have al := ap.log
  simp only [List.mem_cons, List.not_mem_nil, or_false, forall_eq_or_imp, forall_eq] at al
  obtain ⟨⟨NH, NP', Nl, NG, Nq, NR⟩, ⟨HP, Hl, HG, Hq, HR⟩, ⟨Pl, PG, Pq, PR⟩, ⟨lG, lq, lR⟩, ⟨Gq, GR⟩, qR, _⟩ := nd
  obtain ⟨oN, oH, oP, ol, oG, oq, oR⟩ := old
  obtain ⟨aN, aH, aP, aL, aG, aq, aR⟩ := al
  have k2 : Kept (fun k => k = N) w (w.setCell ⟨N, 78, none⟩ tv') := (Kept.refl (fun k => k = N) w).setCell (p := ⟨N, 78, none⟩) (.inl rfl) _
  have nPN : ¬ PB = N := fun e => NP' e.symm
  have nHN : ¬ HB = N := fun e => NH e.symm
  have nlN : ¬ lb = N := fun e => Nl e.symm
  have nGN : ¬ G = N := fun e => NG e.symm
  have nqN : ¬ qg = N := fun e => Nq e.symm
  have ngN : ∀ g, gv.ownBlock = some g → ¬ g = N := fun g hg he => h.gat.ne (y := N) oN aN (by rw [hg, he])
  have o4 : ∀ o : Nat, o ≠ 78 → ∀ v, w.cell? ⟨N, o, none⟩ = some v → (w.setCell ⟨N, 78, none⟩ tv').cell? ⟨N, o, none⟩ = some v := fun o ho v hv => by
    rw [World.cell?_setCell_other _ _ _ _ (fun he => ho (by cases he; rfl))]
    exact hv
  refine ⟨h.ns.set (.inr rfl) _, o4 0 (by omega) _ h.host, o4 1 (by omega) _ h.proto, o4 4 (by omega) _ h.quiet, range_setCell h.pred _ _ (fun _ => .inr (by rw [prc_len]; dsimp only; omega)), range_setCell h.succ _ _ (fun _ => .inr (by rw [prc_len]; dsimp only; omega)), ?_, o4 80 (by omega) _ h.gone,
    k2.cell nPN h.plinks, k2.cell nPN h.plog, k2.cell nHN h.hlog, k2.cell nHN h.hcalls, k2.there nHN h.hroom, log_kept h.log k2 nlN ngN, peers_kept h.pls k2 nGN, fun i s hs => k2.range nqN (h.qs i s hs), k2.there nqN h.qroom, ?_, h.kat, h.gat, h.old, h.newB, h.gB⟩
  · first | exact World.cell?_setCell_same _ _ _ h.told | exact World.cell?_setCell_same _ _ h.told
  · exact kept_on h.kept k2 (fun i _ e => .inl e)

set_option maxHeartbeats 2000000 in
/-- Nothing was told. -/
theorem RS.mute {td : Option (Pr × Pr)} (h : RS w0 w base N B HB PB lb G qg R nQ lv tv kv gv se pr su pg PL Qs L [.int .u8 76, .int .u8 82]) (ht : tellOf pr su td = false) : Rel w0 w base N HB lb qg R nQ lv tv se pr su pg Qs L td := by
  obtain ⟨sa, cap, e, hl, _⟩ := h.ns.links
  exact ⟨⟨sa, cap, hl.field, hl.peers⟩, h.quiet, h.qs, h.ns.self, h.pred, h.succ, h.gone, ⟨gv, by rw [ht]; exact h.log⟩, fun e => (by rw [ht] at e; cases e), fun _ => ⟨h.told, h.hcalls⟩, h.kept⟩

set_option maxHeartbeats 2000000 in
/-- The host was told. -/
theorem RS.said {td : Option (Pr × Pr)} {NP : Nat} {gv' : Value} (h : RS w0 w base N B HB PB lb G qg R nQ lv (.pointer (some ⟨NP, 0, none⟩)) kv gv se pr su pg PL Qs L [.int .u8 76, .int .u8 82]) (ap : Apart N HB PB lb G qg R lv) (ht : tellOf pr su td = true) (hNP : w0.heap.size ≤ NP) (hr : w.rangeAt NP 0 (plc se su pr)) (hg : gv.ownBlock ≠ some NP)
    (lg : LogAt w' base lb gv' [.int .u8 76, .int .u8 82, .int .u8 72]) (c2 : w'.cell? ⟨HB, 2, none⟩ = some (.iface 39 (.pointer (some ⟨NP, 0, none⟩)))) (c3 : w'.rangeAt HB 3 (changeFor se pr su td)) (c127 : w'.cell? ⟨HB, 127, none⟩ = some (.int .i64 1)) (k : Kept (fun k => k = HB ∨ k = lb ∨ gv.ownBlock = some k) w w') : Rel w0 w' base N HB lb qg R nQ lv tv se pr su pg Qs L td := by
  have nd := ap.nodup
  simp only [List.nodup_cons, List.mem_cons, List.not_mem_nil, or_false, not_or] at nd
  have old := h.old
  simp only [List.mem_cons, List.not_mem_nil, or_false, forall_eq_or_imp, forall_eq] at old
  have al := ap.log
  simp only [List.mem_cons, List.not_mem_nil, or_false, forall_eq_or_imp, forall_eq] at al
  obtain ⟨⟨NH, NP', Nl, NG, Nq, NR⟩, ⟨HP, Hl, HG, Hq, HR⟩, ⟨Pl, PG, Pq, PR⟩, ⟨lG, lq, lR⟩, ⟨Gq, GR⟩, qR, _⟩ := nd
  obtain ⟨oN, oH, oP, ol, oG, oq, oR⟩ := old
  obtain ⟨aN, aH, aP, aL, aG, aq, aR⟩ := al
  have no : ∀ x, x < w0.heap.size → x ≠ HB → x ≠ lb → lv.ownBlock ≠ some x → ¬ (x = HB ∨ x = lb ∨ gv.ownBlock = some x) := fun x hx hN hl hR he => by
    rcases he with e | e | e
    · exact hN e
    · exact hl e
    · exact h.gat.ne hx hR e
  have nN := no N oN NH Nl aN
  have nq := no qg oq (fun e => Hq e.symm) (fun e => lq e.symm) aq
  have nP : ¬ (NP = HB ∨ NP = lb ∨ gv.ownBlock = some NP) := fun he => by
    rcases he with e | e | e
    · exact absurd (e ▸ hNP) (Nat.not_le_of_lt oH)
    · exact absurd (e ▸ hNP) (Nat.not_le_of_lt ol)
    · exact hg e
  obtain ⟨sa, cap, e, hl, hs⟩ := h.ns.links
  refine ⟨⟨sa, cap, k.cell nN hl.field, fun i p hp => ?_⟩, k.cell nN h.quiet, fun i s hs => k.range nq (h.qs i s hs), k.range nN h.ns.self, k.range nN h.pred, k.range nN h.succ, k.cell nN h.gone, ⟨gv', by rw [ht]; exact lg⟩, fun _ => ⟨NP, hNP, k.cell nN h.told, k.range nP hr, c2, c3, c127⟩, fun e => (by rw [ht] at e; cases e), kept_on h.kept k (fun i hi he => ?_)⟩
  · obtain ⟨g, eg, hr'⟩ := hl.peers i p hp
    refine ⟨g, eg, k.range (fun he => ?_) hr'⟩
    have hk := hs g eg
    rcases he with e | e | e
    · exact h.kat.ne (y := HB) oH (fun e2 => HR (Option.some.inj e2).symm) (by rw [hk, e])
    · exact h.kat.ne (y := lb) ol (fun e2 => lR (Option.some.inj e2).symm) (by rw [hk, e])
    · exact own_apart h.ns.own h.log.own hk e
  · rcases he with e | e | e
    · exact .inr (.inr (.inr (.inr (.inl e))))
    · exact .inr (.inr (.inl e))
    · rcases h.gat with e' | ⟨g, e', hg⟩
      · exact .inr (.inr (.inr (.inr (.inr (e'.symm.trans e)))))
      · have := Option.some.inj (e.symm.trans e')
        omega
end

end Go.Proofs.Ybulkdsmy
