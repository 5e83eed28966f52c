import Derived.Test.YbulkdsmyLog2
namespace Go
open Go.RowKit
theorem wpList_buildSliceAs {P : Program} {ops : Array Oper} {Q : Exit → Act → World → Prop} {a : Act} {w : World} {o : Oper} {rest : List Oper} (hgd : o.guard = none) (ty : TypeId) (n : Nat) (l : Array (Nat × Operand)) (_ho : o.op = .buildSlice ty n l) (v : Value) (w' : World) (hr : (execOp a.eval o).run P w = .ok (.value v) w')
    (h : wpList P ops Q rest (a.put o.dst v) w') : wpList P ops Q (o :: rest) a w := by
  refine wpList_plain hgd fun K hK => ?_
  unfold Oper.wp
  rw [hr]
  exact hK _ _ h
end Go
namespace Go.Proofs.Ybulkdsmy
open Go.RowKit

theorem Yba.info31 : (Yba.prog.info? 31).map (fun i => (i.zero, i.size, i.bytes)) = some (some (.agg (prc ⟨ByteArray.empty, 0⟩).toArray), 21, 40) := by kernel_rfl

/-- The cells of a row of peers. -/
def rowc (L : List Pr) : List Value := L.flatMap prc
theorem rowc_len (L : List Pr) : (rowc L).length = L.length * 21 := by
  induction L with
  | nil => rfl
  | cons p L ih => simp only [rowc, List.flatMap_cons, List.length_append, List.length_cons, prc_len] at *; omega
theorem rowc_snoc (L : List Pr) (p : Pr) : rowc (L ++ [p]) = rowc L ++ prc p := by simp [rowc]
theorem rowc_at (L : List Pr) : ∀ (i : Nat) (p : Pr), L[i]? = some p → ∀ j v, (prc p)[j]? = some v → (rowc L)[i * 21 + j]? = some v := by
  induction L with
  | nil => intro i p h; simp at h
  | cons q L ih =>
    intro i p h j v hv
    have hj : j < 21 := by have := (List.getElem?_eq_some_iff.1 hv).1; rwa [prc_len] at this
    simp only [rowc, List.flatMap_cons]
    cases i with
    | zero =>
      have : q = p := by simpa using h
      subst this
      rw [Nat.zero_mul, Nat.zero_add, List.getElem?_append_left (by rw [prc_len]; exact hj)]
      exact hv
    | succ i =>
      have h' : L[i]? = some p := by simpa using h
      rw [List.getElem?_append_right (by rw [prc_len]; omega), prc_len, show (i + 1) * 21 + j - 21 = i * 21 + j by omega]
      exact ih i p h' j v hv

theorem own_peers {w : World} {base : Nat} {v : Value} {L : List Pr} (h : w.ownsRow base 31 21 v L.length (rowc L)) : ∃ sa cap, v = .slice sa L.length cap ∧ PeersAt w sa L ∧ (∀ g, sa = some ⟨g, 0, none⟩ → v.ownBlock = some g) ∧ L.length ≤ cap := by
  rcases h.2 with ⟨rfl, h2⟩ | ⟨g, cap, cur, rfl, _, hb, hc, _, _, ht⟩
  · have : L = [] := List.eq_nil_of_length_eq_zero h2
    subst this
    exact ⟨none, 0, rfl, fun i p hp => by simp at hp, fun g hg => (by cases hg), Nat.le_refl _⟩
  · refine ⟨some ⟨g, 0, none⟩, cap, rfl, fun i p hp => ⟨g, rfl, fun j v hv => ?_⟩, fun g' hg' => (by cases hg'; rfl), hc⟩
    have h1 := rowc_at L i p hp j v hv
    rw [← ht] at h1
    have hlt := (List.getElem?_eq_some_iff.1 h1).1
    rw [List.getElem?_take_of_lt (by rw [List.length_take] at hlt; omega)] at h1
    unfold World.cell?
    simp only [hb]
    simpa using h1

/-- The node, its links, as Relink sees them. -/
structure NS (w : World) (base N B : Nat) (se : Pr) (lv : Value) (L : List Pr) : Prop where
  box : w.cell? ⟨B, 0, none⟩ = some (.pointer (some ⟨N, 0, none⟩))
  field : w.cell? ⟨N, 6, none⟩ = some lv
  room : w.there N 0 83
  own : w.ownsRow base 31 21 lv L.length (rowc L)
  few : L.length ≤ 1000000
  ok : ∀ q ∈ L, 0 ≤ q.b ∧ q.b ≤ 255
  self : w.rangeAt N 14 (prc se)
  aN : lv.ownBlock ≠ some N
  aB : lv.ownBlock ≠ some B
  nb : N ≠ B
  low : base ≤ w.heap.size

theorem NS.links {w : World} {base N B : Nat} {se : Pr} {lv : Value} {L : List Pr} (h : NS w base N B se lv L) : ∃ sa cap, lv = .slice sa L.length cap ∧ Links w N sa cap L ∧ ∀ g, sa = some ⟨g, 0, none⟩ → lv.ownBlock = some g := by
  obtain ⟨sa, cap, e, hp, hg, _⟩ := own_peers h.own
  exact ⟨sa, cap, e, ⟨by rw [← e]; exact h.field, hp, by have := h.few; omega, h.ok⟩, hg⟩
theorem NS.kept {E : Nat → Prop} {w w' : World} {base N B : Nat} {se : Pr} {lv : Value} {L : List Pr} (h : NS w base N B se lv L) (k : Kept E w w') (h1 : ¬ E N) (h2 : ¬ E B) (h3 : ∀ g, lv.ownBlock = some g → ¬ E g) : NS w' base N B se lv L :=
  ⟨k.cell h2 h.box, k.cell h1 h.field, k.there h1 h.room, own_kept h.own k h3, h.few, h.ok, k.range h1 h.self, h.aN, h.aB, h.nb, Nat.le_trans h.low k.size⟩
theorem NS.below {w w' : World} {base N B : Nat} {se : Pr} {lv : Value} {L : List Pr} (h : NS w base N B se lv L) (k : Below w.heap.size w w') : NS w' base N B se lv L :=
  h.kept (Kept.ofBelow (E := fun _ => False) k) (fun h => h) (fun h => h) (fun _ _ h => h)

/-- One peer more, if it is not the node's own and not there. -/
def addTo (se : Pr) (L : List Pr) (p : Pr) : List Pr := if p.b = se.b ∨ has L p.b = true then L else L ++ [p]

/-- The node's cells but these are as they were. -/
def NodeKept (N : Nat) (E : Nat → Prop) (w w' : World) : Prop := ∀ o v, ¬ E o → w.cell? ⟨N, o, none⟩ = some v → w'.cell? ⟨N, o, none⟩ = some v

theorem bs27 (p : Pr) (w : World) : Sem.run Yba.prog (Instr.buildSlice 27 1 #[(0, .agg (prc p).toArray)]) w = .ok (.slice (some ⟨w.heap.size, 0, none⟩) 1 1) (w.alloc (.cells (prc p).toArray 31)) := by kernel_rfl

theorem NS.push {w w1 : World} {base N B : Nat} {se p : Pr} {lv v' : Value} {L : List Pr} {ob : Obj} (h : NS w base N B se lv L) (hp : 0 ≤ p.b ∧ p.b ≤ 255) (hfew : L.length + 1 ≤ 1000000) (own1 : w1.ownsRow base 31 21 v' (L.length + 1) (rowc L ++ prc p))
    (grow : (w.alloc ob).drew.grownBy w1 lv.ownBlock) (mv : v'.ownBlock = lv.ownBlock ∨ v'.ownBlock = some (w.alloc ob).drew.heap.size) :
    w1.cell? ⟨B, 0, none⟩ = some (.pointer (some ⟨N, 0, none⟩)) ∧ w1.cell? ⟨N, 6, none⟩ = some lv ∧ w1.frozen? ⟨N, 6, none⟩ = false ∧ Kept (fun k => lv.ownBlock = some k) w w1 ∧
    NS (w1.setCell ⟨N, 6, none⟩ v') base N B se v' (L ++ [p]) ∧ Moved w lv v' ∧ Kept (fun k => k = N ∨ lv.ownBlock = some k) w (w1.setCell ⟨N, 6, none⟩ v') ∧ NodeKept N (fun o => o = 6) w (w1.setCell ⟨N, 6, none⟩ v') := by
  have k0 := kept_new w ob
  have k1 : Kept (fun k => lv.ownBlock = some k) w w1 := (k0.weak (fun _ _ h => h.elim)).grown grow (fun k hk => .inl hk)
  have hN : N < w.heap.size := World.block_lt_of_cell? w _ h.field
  have hB : B < w.heap.size := World.block_lt_of_cell? w _ h.box
  have sz : (w.alloc ob).drew.heap.size = w.heap.size + 1 := by simp
  have apart : ∀ X, X < w.heap.size → lv.ownBlock ≠ some X → v'.ownBlock ≠ some X := fun X hX hne => by
    rcases mv with h | h
    · rw [h]; exact hne
    · rw [h, sz]
      intro he
      have := Option.some.inj he
      omega
  have a1 := apart N hN h.aN
  have a2 := apart B hB h.aB
  have c0 := k1.cell (p := ⟨B, 0, none⟩) h.aB h.box
  have c6 := k1.cell (p := ⟨N, 6, none⟩) h.aN h.field
  have rm := k1.there h.aN h.room
  have k2 : Kept (fun k => k = N) w1 (w1.setCell ⟨N, 6, none⟩ v') := (Kept.refl (fun k => k = N) w1).setCell (p := ⟨N, 6, none⟩) (.inl rfl) _
  refine ⟨c0, c6, by simpa using (rm 6 (by omega)).2, k1, ⟨k2.cell (Ne.symm h.nb) c0, by first | exact World.cell?_setCell_same _ _ _ c6 | exact World.cell?_setCell_same _ _ c6, there_setCell rm _ _, ?_, by simpa using hfew, ?_, range_setCell (k1.range h.aN h.self) _ _ (fun _ => .inl (by simp)), a1, a2, h.nb, ?_⟩, ?_, (k1.weak (fun _ _ h => .inr h)).setCell (.inl (.inl rfl)) _, fun o v ho hv => ?_⟩
  · have := own_kept own1 k2 (fun g hg he => a1 (by rw [hg, he]))
    rw [rowc_snoc]
    simpa using this
  · intro q hq
    rcases List.mem_append.1 hq with hq | hq
    · exact h.ok q hq
    · have : q = p := by simpa using hq
      rw [this]; exact hp
  · have := h.low
    have := k1.size
    simp
    omega
  · rcases mv with h | h
    · exact .inl h
    · exact .inr ⟨_, h, by rw [sz]; omega⟩
  · rw [World.cell?_setCell_other _ _ _ _ (fun he => ho (by cases he; rfl))]
    exact k1.cell (p := ⟨N, o, none⟩) h.aN hv

theorem nodeKept_below {N : Nat} {E : Nat → Prop} {w w' : World} (h : Below w.heap.size w w') : NodeKept N E w w' := fun _ _ _ hv => (Kept.ofBelow (E := fun _ => False) h).cell (fun h => h) hv
theorem drew_below (w : World) : Below w.heap.size w w.drew := ⟨rfl, rfl, rfl, Nat.le_refl _, fun _ _ => rfl⟩
theorem below_trans {a b c : World} (h : Below a.heap.size a b) (k : Below b.heap.size b c) : Below a.heap.size a c := h.trans (k.mono h.size)

set_option maxHeartbeats 4000000 in
theorem add_any (p se : Pr) (hp : 0 ≤ p.b ∧ p.b ≤ 255) (hse : 0 ≤ se.b ∧ se.b ≤ 255) (base N B : Nat) (lv : Value) (L : List Pr) (w : World) (h : NS w base N B se lv L) (hfew : L.length + 1 ≤ 1000000) :
    Calls Yba.prog 10 #[.agg (prc p).toArray, .pointer (some ⟨B, 0, none⟩)] w fun e w' => e = .returned (.tuple #[]) ∧ ∃ lv', NS w' base N B se lv' (addTo se L p) ∧ Moved w lv lv' ∧ Kept (fun k => k = N ∨ lv.ownBlock = some k) w w' ∧ NodeKept N (fun o => o = 6) w w' := by
  have b0 : Below w.heap.size w (w.alloc (.cells (prc p).toArray 31)) := (Below.refl _ _).alloc (Nat.le_refl _) _
  have N0 := hid (h.below b0)
  have r0 : (w.alloc (.cells (prc p).toArray 31)).rangeAt w.heap.size 0 (prc p) := range_new w (prc p) 31
  have B0 := hid b0
  have R0 := hid r0
  have HH := hid h
  clear b0 r0 h
  go_enter Yba.func10, Yba.ntmps10
  go_wp2_with (refine wpList_box_as rfl 31 _ rfl (prc p).toArray rfl (bx31 p) ?_)
  simp only [Act.put, List.setIfInBounds_toArray, List.set_cons_succ, List.set_cons_zero]
  refine wp_as (fun W => Below w.heap.size w W ∧ NS W base N B se lv L ∧ W.rangeAt w.heap.size 0 (prc p)) ⟨B0, N0, R0⟩ ?_
  clear B0 N0 R0
  rintro W ⟨b0, n0, r0⟩
  let S : World → Prop := fun w' => InB W w'
  have s0 : S W.drew := ⟨rfl, rfl, rfl, Nat.le_refl _, fun _ _ => rfl⟩
  haveI : Nonempty (Wld S) := ⟨⟨W.drew, s0⟩⟩
  have x1 : ∀ x : Wld S, x.w.cell? ⟨B, 0, none⟩ = some (.pointer (some ⟨N, 0, none⟩)) := fun x => (n0.below x.h).box
  have X2 := hid (fun (x : Wld S) => range_id (range_kept_below x.h r0))
  have X3 := hid (fun (x : Wld S) => range_id (n0.below x.h).self)
  have X4 := hid (fun (x : Wld S) => range_kept_below x.h r0)
  have KL := hid (fun (W' : World) (k : InB W W') => by
    obtain ⟨sa', cap', _, hl, _⟩ := (n0.below k).links
    exact linksTo_any p L hp N cap' sa' W' hl)
  have N0 := hid n0
  have B0 := hid b0
  have R0 := hid r0
  clear n0 b0 r0
  have hn29 : ∀ w, (binOp .neq 29 (.agg (idc p.b).toArray) (.agg (idc se.b).toArray)).run Yba.prog w = .ok (.bool (!decide (p.b = se.b))) w := neq29 p.b se.b hp hse
  by_cases hself : p.b = se.b
  · have hd : (!decide (p.b = se.b)) = false := by simpa using hself
    rw [hd] at hn29
    have NE := hid hn29
    clear hn29 hd
    refine wp_region_plan 14 [(true, 0), (true, 1), (true, 2), (true, 3), (true, 4), (true, 5), (true, 6), (true, 7), (true, 8), (true, 9), (true, 10), (false, 11), (true, 12), (true, 13)] (fun w' => ∃ x : Wld S, w' = x.w) (by kernel_rfl) (by kernel_rfl) (fun _ _ d _ _ h => by cases d <;> exact h) (inS s0) ?_
    repeat (refine wpPlan_q (by rfl) ?_; dsimp only [List.getElem_toArray, List.getElem_cons_zero, List.getElem_cons_succ]; (first
      | (show wpQuiet _ _ _ _ (⟨_, .load 29 (.tmp 3), _, _, _, _⟩ :: _) _; refine wpQuiet_load_mid rfl 29 _ rfl w.heap.size 1 rfl (idc p.b) _ (fun _ ⟨x, hx⟩ => hx ▸ X2.out x) Yba.underlying29 rfl (info29 _) ?_; simp only [Act.put, List.setIfInBounds_toArray, List.set_cons_succ, List.set_cons_zero])
      | (show wpQuiet _ _ _ _ (⟨_, .load 29 (.tmp 8), _, _, _, _⟩ :: _) _; refine wpQuiet_load_mid rfl 29 _ rfl N 15 rfl (idc se.b) _ (fun _ ⟨x, hx⟩ => hx ▸ X3.out x) Yba.underlying29 rfl (info29 _) ?_; simp only [Act.put, List.setIfInBounds_toArray, List.set_cons_succ, List.set_cons_zero])
      | (show wpQuiet _ _ _ _ (⟨_, .binOp .neq 29 _ _ _, _, _, _, _⟩ :: _) _; refine wpQuiet_cmp rfl .neq _ _ 29 _ rfl (idc p.b).toArray (idc se.b).toArray rfl rfl eg29 _ NE.out ?_; simp only [Act.put, List.setIfInBounds_toArray, List.set_cons_succ, List.set_cons_zero])
      | (show wpQuiet _ _ _ _ (⟨_, .load 31 (.tmp 2), _, _, _, _⟩ :: _) _; refine wpQuiet_load_mid rfl 31 _ rfl w.heap.size 0 rfl (prc p) _ (fun _ ⟨x, hx⟩ => hx ▸ X4.out x) Yba.underlying31 rfl (info31 _) ?_; simp only [Act.put, List.setIfInBounds_toArray, List.set_cons_succ, List.set_cons_zero])
      | go_big_quiet_step (fail)); refine wpQuiet_nil ?_)
    refine wpPlan_e (by rfl) ?_
    dsimp only [List.getElem_toArray, List.getElem_cons_zero, List.getElem_cons_succ]
    go_wp2
    refine onward_normal (fun _ => inS s0) ?_
    repeat (refine wpPlan_q (by rfl) ?_; dsimp only [List.getElem_toArray, List.getElem_cons_zero, List.getElem_cons_succ]; (first
      | go_big_quiet_step (fail)); refine wpQuiet_nil ?_)
    refine wpPlan_nil ?_
    go_wp2
    have hadd : addTo se L p = L := by unfold addTo; rw [if_pos (.inl hself)]
    refine bodyPost_end (results_none rfl _ _ _) rfl ⟨rfl, lv, ?_, .inl rfl, ?_, ?_⟩
    · rw [hadd]; exact N0.out.below (drew_below W)
    · exact Kept.ofBelow (below_trans B0.out (drew_below W))
    · exact nodeKept_below (below_trans B0.out (drew_below W))
  · have hd : (!decide (p.b = se.b)) = true := by simpa using hself
    rw [hd] at hn29
    have NE := hid hn29
    clear hn29 hd
    cases hhas : has L p.b with
    | true =>
      rw [hhas] at KL
      have HHas := hid hhas
      clear hhas
      refine wp_region_plan 14 [(true, 0), (true, 1), (true, 2), (true, 3), (true, 4), (true, 5), (true, 6), (true, 7), (true, 8), (true, 9), (true, 10), (false, 11), (true, 12), (true, 13)] (fun w' => ∃ x : Wld S, w' = x.w) (by kernel_rfl) (by kernel_rfl) (fun _ _ d _ _ h => by cases d <;> exact h) (inS s0) ?_
      repeat (refine wpPlan_q (by rfl) ?_; dsimp only [List.getElem_toArray, List.getElem_cons_zero, List.getElem_cons_succ]; (first
        | (show wpQuiet _ _ _ _ (⟨_, .load 29 (.tmp 3), _, _, _, _⟩ :: _) _; refine wpQuiet_load_mid rfl 29 _ rfl w.heap.size 1 rfl (idc p.b) _ (fun _ ⟨x, hx⟩ => hx ▸ X2.out x) Yba.underlying29 rfl (info29 _) ?_; simp only [Act.put, List.setIfInBounds_toArray, List.set_cons_succ, List.set_cons_zero])
        | (show wpQuiet _ _ _ _ (⟨_, .load 29 (.tmp 8), _, _, _, _⟩ :: _) _; refine wpQuiet_load_mid rfl 29 _ rfl N 15 rfl (idc se.b) _ (fun _ ⟨x, hx⟩ => hx ▸ X3.out x) Yba.underlying29 rfl (info29 _) ?_; simp only [Act.put, List.setIfInBounds_toArray, List.set_cons_succ, List.set_cons_zero])
        | (show wpQuiet _ _ _ _ (⟨_, .binOp .neq 29 _ _ _, _, _, _, _⟩ :: _) _; refine wpQuiet_cmp rfl .neq _ _ 29 _ rfl (idc p.b).toArray (idc se.b).toArray rfl rfl eg29 _ NE.out ?_; simp only [Act.put, List.setIfInBounds_toArray, List.set_cons_succ, List.set_cons_zero])
        | (show wpQuiet _ _ _ _ (⟨_, .load 31 (.tmp 2), _, _, _, _⟩ :: _) _; refine wpQuiet_load_mid rfl 31 _ rfl w.heap.size 0 rfl (prc p) _ (fun _ ⟨x, hx⟩ => hx ▸ X4.out x) Yba.underlying31 rfl (info31 _) ?_; simp only [Act.put, List.setIfInBounds_toArray, List.set_cons_succ, List.set_cons_zero])
        | go_big_quiet_step (fail)); refine wpQuiet_nil ?_)
      refine wpPlan_e (by rfl) ?_
      dsimp only [List.getElem_toArray, List.getElem_cons_zero, List.getElem_cons_succ]
      go_wp2_with (go_at_call 11; refine (KL.out _ s0).mono ?_; rintro e w5 ⟨rfl, hb5⟩)
      refine onward_normal (fun _ => inS (show S w5 from below_trans (drew_below W) hb5)) ?_
      repeat (refine wpPlan_q (by rfl) ?_; dsimp only [List.getElem_toArray, List.getElem_cons_zero, List.getElem_cons_succ]; (first
        | go_big_quiet_step (fail)); refine wpQuiet_nil ?_)
      refine wpPlan_nil ?_
      go_wp2
      have hadd : addTo se L p = L := by unfold addTo; rw [if_pos (.inr HHas.out)]
      have hb6 := below_trans (drew_below W) hb5
      refine bodyPost_end (results_none rfl _ _ _) rfl ⟨rfl, lv, ?_, .inl rfl, ?_, ?_⟩
      · rw [hadd]; exact N0.out.below hb6
      · exact Kept.ofBelow (below_trans B0.out hb6)
      · exact nodeKept_below (below_trans B0.out hb6)
    | false =>
      rw [hhas] at KL
      have HHas := hid hhas
      clear hhas
      refine wp_region_plan 14 [(true, 0), (true, 1), (true, 2), (true, 3), (true, 4), (true, 5), (true, 6), (true, 7), (true, 8), (true, 9), (true, 10), (false, 11), (true, 12), (true, 13)] (fun w' => ∃ x : Wld S, w' = x.w) (by kernel_rfl) (by kernel_rfl) (fun _ _ d _ _ h => by cases d <;> exact h) (inS s0) ?_
      repeat (refine wpPlan_q (by rfl) ?_; dsimp only [List.getElem_toArray, List.getElem_cons_zero, List.getElem_cons_succ]; (first
        | (show wpQuiet _ _ _ _ (⟨_, .load 29 (.tmp 3), _, _, _, _⟩ :: _) _; refine wpQuiet_load_mid rfl 29 _ rfl w.heap.size 1 rfl (idc p.b) _ (fun _ ⟨x, hx⟩ => hx ▸ X2.out x) Yba.underlying29 rfl (info29 _) ?_; simp only [Act.put, List.setIfInBounds_toArray, List.set_cons_succ, List.set_cons_zero])
        | (show wpQuiet _ _ _ _ (⟨_, .load 29 (.tmp 8), _, _, _, _⟩ :: _) _; refine wpQuiet_load_mid rfl 29 _ rfl N 15 rfl (idc se.b) _ (fun _ ⟨x, hx⟩ => hx ▸ X3.out x) Yba.underlying29 rfl (info29 _) ?_; simp only [Act.put, List.setIfInBounds_toArray, List.set_cons_succ, List.set_cons_zero])
        | (show wpQuiet _ _ _ _ (⟨_, .binOp .neq 29 _ _ _, _, _, _, _⟩ :: _) _; refine wpQuiet_cmp rfl .neq _ _ 29 _ rfl (idc p.b).toArray (idc se.b).toArray rfl rfl eg29 _ NE.out ?_; simp only [Act.put, List.setIfInBounds_toArray, List.set_cons_succ, List.set_cons_zero])
        | (show wpQuiet _ _ _ _ (⟨_, .load 31 (.tmp 2), _, _, _, _⟩ :: _) _; refine wpQuiet_load_mid rfl 31 _ rfl w.heap.size 0 rfl (prc p) _ (fun _ ⟨x, hx⟩ => hx ▸ X4.out x) Yba.underlying31 rfl (info31 _) ?_; simp only [Act.put, List.setIfInBounds_toArray, List.set_cons_succ, List.set_cons_zero])
        | go_big_quiet_step (fail)); refine wpQuiet_nil ?_)
      refine wpPlan_e (by rfl) ?_
      dsimp only [List.getElem_toArray, List.getElem_cons_zero, List.getElem_cons_succ]
      go_wp2_with (go_at_call 11; refine (KL.out _ s0).mono ?_; rintro e w5 ⟨rfl, hb5⟩)
      refine onward_normal (fun _ => inS (show S w5 from below_trans (drew_below W) hb5)) ?_
      repeat (refine wpPlan_q (by rfl) ?_; dsimp only [List.getElem_toArray, List.getElem_cons_zero, List.getElem_cons_succ]; (first
        | go_big_quiet_step (fail)); refine wpQuiet_nil ?_)
      refine wpPlan_nil ?_
      go_wp2
      have hb6 : Below W.heap.size W w5 := below_trans (drew_below W) hb5
      have n5 := N0.out.below hb6
      have r5 := range_kept_below hb6 R0.out
      have b5 := below_trans B0.out hb6
      have hwN : lv.ownBlock ≠ some w.heap.size := fun h => by have := ownBlock_lt HH.out.own h; omega
      clear KL X2 X3 X4 N0 R0 B0 hb5 hb6 NE x1 this s0
      let S2 : World → Prop := fun w' => w'.cell? ⟨B, 0, none⟩ = some (.pointer (some ⟨N, 0, none⟩)) ∧ w'.cell? ⟨N, 6, none⟩ = some lv ∧ w'.rangeAt w.heap.size 0 (prc p)
      have s2 : S2 w5.drew := ⟨by simpa using n5.box, by simpa using n5.field, by simpa using r5⟩
      haveI : Nonempty (Wld S2) := ⟨⟨w5.drew, s2⟩⟩
      have x1 : ∀ x : Wld S2, x.w.cell? ⟨B, 0, none⟩ = some (.pointer (some ⟨N, 0, none⟩)) := fun x => x.h.1
      have x2 : ∀ x : Wld S2, x.w.cell? ⟨N, 6, none⟩ = some lv := fun x => x.h.2.1
      have X3 := hid (fun (x : Wld S2) => x.h.2.2)
      have N5 := hid n5
      have R5 := hid r5
      have B5 := hid b5
      have hbox := n5.box
      have hfld := n5.field
      clear n5 r5 b5
      obtain ⟨i0, hi, hz0, hz1, hz2⟩ := info_parts Yba.info31
      refine wp_region_plan 10 [(true, 0), (true, 1), (true, 2), (true, 3), (true, 4), (true, 5), (false, 6), (false, 7), (true, 8), (true, 9), (false, 10)] (fun w' => ∃ x : Wld S2, w' = x.w) (by kernel_rfl) (by kernel_rfl) (fun _ _ d _ _ h => by cases d <;> exact h) (inS s2) ?_
      repeat (refine wpPlan_q (by rfl) ?_; dsimp only [List.getElem_toArray, List.getElem_cons_zero, List.getElem_cons_succ]; (first
        | (show wpQuiet _ _ _ _ (⟨_, .load 31 (.tmp 2), _, _, _, _⟩ :: _) _; refine wpQuiet_load_mid rfl 31 _ rfl w.heap.size 0 rfl (prc p) _ (fun _ ⟨x, hx⟩ => hx ▸ X3.out x) Yba.underlying31 rfl (info31 _) ?_; simp only [Act.put, List.setIfInBounds_toArray, List.set_cons_succ, List.set_cons_zero])
        | go_big_quiet_step (fail)); refine wpQuiet_nil ?_)
      refine wpPlan_e (by rfl) ?_
      dsimp only [List.getElem_toArray, List.getElem_cons_zero, List.getElem_cons_succ]
      refine wpList_buildSliceAs rfl 27 1 _ rfl (.slice (some ⟨w5.heap.size, 0, none⟩) 1 1) (w5.alloc (.cells (prc p).toArray 31)).drew (by kernel_rfl) ?_
      refine wpList_done ?_
      simp only [Act.put, List.setIfInBounds_toArray, List.set_cons_succ, List.set_cons_zero]
      have kn := kept_new w5 (.cells (prc p).toArray 31)
      refine onward_normal (fun _ => inS ⟨kn.cell (fun h => h) hbox, kn.cell (fun h => h) hfld, kn.range (fun h => h) R5.out⟩) ?_
      refine wpPlan_e (by rfl) ?_
      dsimp only [List.getElem_toArray, List.getElem_cons_zero, List.getElem_cons_succ]
      refine wpList_append_own_at _ rfl (.tmp 21) (.tmp 23) 27 rfl base 31 i0 (.agg (prc ⟨ByteArray.empty, 0⟩).toArray) 21 40 Yba.underlying27 hi hz0 hz1 hz2 (by simp [Value.cells, prc_len]) (by decide) lv L.length (rowc L) rfl (own_kept N5.out.own kn (fun _ _ h => h)) ⟨w5.heap.size, 0, none⟩ 1 1 (prc p) rfl (by rw [prc_len]) ?_ (prc_one p) (by unfold maxLen; omega) (by omega) (by have := N5.out.low; simp; omega) ?_
      · intro j u hu
        have := range_new w5 (prc p) 31 j u hu
        rw [Nat.zero_add] at this
        have hadd : (⟨w5.heap.size, 0, none⟩ : Addr).add j = ⟨w5.heap.size, j, none⟩ := by unfold Addr.add; split <;> simp_all
        rw [hadd]
        simpa using this
      intro v' w1 own1 grow1 _ mv
      obtain ⟨g', cap', rfl⟩ := own_slice own1
      obtain ⟨p1, p2, p3, p4, p5, p6, p7, p8⟩ := N5.out.push hp hfew own1 grow1 mv
      have r1 := p4.range hwN R5.out
      have P5 := hid p5
      have P6 := hid p6
      have P7 := hid p7
      have P8 := hid p8
      clear p4 p5 p6 p7 p8 own1 grow1 mv kn
      refine wpList_done ?_
      simp only [Act.put, List.setIfInBounds_toArray, List.set_cons_succ, List.set_cons_zero]
      refine onward_normal (fun _ => inS ⟨p1, p2, r1⟩) ?_
      repeat (refine wpPlan_q (by rfl) ?_; dsimp only [List.getElem_toArray, List.getElem_cons_zero, List.getElem_cons_succ]; (first
        | go_big_quiet_step (fail)); refine wpQuiet_nil ?_)
      refine wpPlan_e (by rfl) ?_
      dsimp only [List.getElem_toArray, List.getElem_cons_zero, List.getElem_cons_succ]
      go_wp2
      refine onward_normal (fun h => by cases h) (wpPlan_nil ?_)
      have hadd : addTo se L p = L ++ [p] := by
        unfold addTo
        rw [if_neg]
        rintro (h | h)
        · exact hself h
        · rw [HHas.out] at h; cases h
      refine bodyPost_end (results_none rfl _ _ _) rfl ⟨rfl, _, by rw [hadd]; exact P5, ?_, ?_, ?_⟩
      · rcases P6.out with h | ⟨g, h, hg⟩
        · exact .inl h
        · exact .inr ⟨g, h, Nat.le_trans B5.out.size hg⟩
      · exact (Kept.ofBelow B5.out).trans P7.out
      · exact fun o v ho hv => P8.out o v ho (nodeKept_below (E := fun _ => False) B5.out o v (fun h => h) hv)

end Go.Proofs.Ybulkdsmy
