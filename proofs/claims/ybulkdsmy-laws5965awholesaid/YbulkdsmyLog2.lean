import Derived.Test.YbulkdsmyLog
namespace Go.Proofs.Ybulkdsmy
open Go.RowKit

set_option maxHeartbeats 1000000 in
theorem relinked_any (PB base lb : Nat) (lv : Value) (xs : List Value) (w : World) (h1 : w.cell? ⟨PB, 1, none⟩ = some (.pointer (some ⟨lb, 0, none⟩))) (hl : LogAt w base lb lv xs) (hx : xs.length + 1 ≤ 1000) (hP : lv.ownBlock ≠ some PB) :
    Calls Yba.prog 49 #[.pointer (some ⟨PB, 0, none⟩)] w fun e w' => e = .returned (.tuple #[]) ∧ ∃ lv', LogAt w' base lb lv' (xs ++ [.int .u8 82]) ∧ Moved w lv lv' ∧ Kept (fun k => k = lb ∨ lv.ownBlock = some k) w w' := by
  obtain ⟨i0, hi, hz0, hz1, hz2⟩ := info_parts Yba.info5
  have HL := hid hl
  have hc := hl.cell
  go_enter Yba.func49, Yba.ntmps49
  go_wp2
  let S : World → Prop := fun w' => w'.cell? ⟨PB, 1, none⟩ = some (.pointer (some ⟨lb, 0, none⟩)) ∧ w'.cell? ⟨lb, 0, none⟩ = some lv
  have s0 : S w.drew := ⟨by simpa using h1, by simpa using hc⟩
  haveI : Nonempty (Wld S) := ⟨⟨w.drew, s0⟩⟩
  have x1 : ∀ x : Wld S, x.w.cell? ⟨PB, 1, none⟩ = some (.pointer (some ⟨lb, 0, none⟩)) := fun x => x.h.1
  have x2 : ∀ x : Wld S, x.w.cell? ⟨lb, 0, none⟩ = some lv := fun x => x.h.2
  refine wp_region_plan 13 [(true, 0), (true, 1), (true, 2), (true, 3), (true, 4), (true, 5), (true, 6), (true, 7), (true, 8), (true, 9), (false, 10), (false, 11), (true, 12), (false, 13)] (fun w' => ∃ x : Wld S, w' = x.w) (by kernel_rfl) (by kernel_rfl) (fun _ _ d _ _ h => by cases d <;> exact h) (inS s0) ?_
  repeat (refine wpPlan_q (by rfl) ?_; dsimp only [List.getElem_toArray, List.getElem_cons_zero, List.getElem_cons_succ]; go_big_quiet_step (fail); refine wpQuiet_nil ?_)
  refine wpPlan_e (by rfl) ?_
  dsimp only [List.getElem_toArray, List.getElem_cons_zero, List.getElem_cons_succ]
  go_wp2
  refine onward_normal (fun _ => inS ⟨by simpa using cell?_alloc_old _ h1, by simpa using cell?_alloc_old _ hc⟩) ?_
  refine wpPlan_e (by rfl) ?_
  dsimp only [List.getElem_toArray, List.getElem_cons_zero, List.getElem_cons_succ]
  refine wpList_append_own_at _ rfl (.tmp 11) (.tmp 12) 43 rfl base 5 i0 (.int .u8 0) 1 1 Yba.underlying43 hi hz0 hz1 hz2 rfl (by decide) lv xs.length xs rfl (own_kept HL.out.own (kept_new w _) (fun _ _ h => h)) ⟨w.heap.size, 0, none⟩ 1 1 [.int .u8 82] rfl rfl ?_ (by simp [Value.oneCell']) (by have := hx; unfold maxLen; omega) (by omega) (by have := HL.out.base; simp; omega) ?_
  · intro j u hu
    match j, hu with
    | 0, hu => cases hu; simp [Addr.add]
  intro v' w1 own1 grow1 _ mv
  obtain ⟨g', cap', rfl⟩ := own_slice own1
  obtain ⟨p1, p2, p3, p4, p5, p6⟩ := log_push HL.out own1 grow1 mv hx
  have q1 := p3.cell (p := ⟨PB, 1, none⟩) hP h1
  have R := hid p4
  have R2 := hid p5
  have R3 := hid p6
  clear p4 p5 p6 own1 grow1 mv p3
  refine wpList_done ?_
  simp only [Act.put, List.setIfInBounds_toArray, List.set_cons_succ, List.set_cons_zero]
  refine onward_normal (fun _ => inS ⟨q1, p1⟩) ?_
  refine wpPlan_q (by rfl) ?_
  dsimp only [List.getElem_toArray, List.getElem_cons_zero, List.getElem_cons_succ]
  go_big_quiet_step (fail)
  refine wpQuiet_nil ?_
  refine wpPlan_e (by rfl) ?_
  dsimp only [List.getElem_toArray, List.getElem_cons_zero, List.getElem_cons_succ]
  go_wp2
  refine onward_normal (fun h => by cases h) (wpPlan_nil ?_)
  go_wp2
  refine bodyPost_end (results_none rfl _ _ _) rfl ?_
  exact ⟨rfl, _, R, R2, R3⟩


/-- The change that the host is told of. -/
def chc (be la : Pr) (ta tb : Int) : List Value := prc be ++ (prc ⟨ByteArray.empty, 0⟩ ++ (prc la ++ (idc ta ++ (idc tb ++ prc ⟨ByteArray.empty, 0⟩))))
theorem chc_len (be la : Pr) (ta tb : Int) : (chc be la ta tb).length = 124 := by simp [chc, prc_len, idc_len]
theorem chc_one (be la : Pr) (ta tb : Int) : ∀ v ∈ chc be la ta tb, v.oneCell' = true := by
  intro v hv
  simp only [chc, List.mem_append] at hv
  rcases hv with h | h | h | h | h | h
  · exact prc_one _ v h
  · exact prc_one _ v h
  · exact prc_one _ v h
  · exact idc_one _ v h
  · exact idc_one _ v h
  · exact prc_one _ v h
theorem size56 : (Yba.prog.info? 56).map (·.size) = some 124 := by kernel_rfl
theorem bx56 (cs : List Value) (w : World) : Sem.run Yba.prog (Instr.box 56 (.agg cs.toArray)) w = .ok (.pointer (some ⟨w.heap.size, 0, none⟩)) (w.alloc (.cells cs.toArray 56)) := by rfl

theorem log_kept {E : Nat → Prop} {w w' : World} {base lb : Nat} {lv : Value} {xs : List Value} (h : LogAt w base lb lv xs) (k : Kept E w w') (h1 : ¬ E lb) (h2 : ∀ g, lv.ownBlock = some g → ¬ E g) : LogAt w' base lb lv xs :=
  ⟨k.cell h1 h.cell, by rw [World.frozen?_of_block (w := w) (k.block lb (World.block_lt_of_cell? w _ h.cell) h1)]; exact h.free, own_kept h.own k h2, h.apart, Nat.le_trans h.base k.size, h.few⟩
theorem range_setCell {w : World} {b o : Nat} {cs : List Value} (h : w.rangeAt b o cs) (p : Addr) (v : Value) (hp : p.block = b → p.off < o ∨ o + cs.length ≤ p.off) : (w.setCell p v).rangeAt b o cs := fun j u hu => by
  rw [World.cell?_setCell_other _ _ _ _ (fun he => by
    subst he
    have := hp rfl
    have := (List.getElem?_eq_some_iff.1 hu).1
    simp at *
    omega)]
  exact h j u hu
theorem there_setCell {w : World} {b o n : Nat} (h : w.there b o n) (p : Addr) (v : Value) : (w.setCell p v).there b o n := fun j hj => by
  obtain ⟨h1, h2⟩ := h j hj
  refine ⟨?_, by rw [World.frozen?_setCell]; exact h2⟩
  have := World.isSome_setCells p.block [v] p.off w ⟨b, o + j, none⟩ h1
  by_cases hq : p = ⟨b, o + j, none⟩
  · subst hq
    exact this
  · rw [World.cell?_setCell_other _ _ _ _ hq]
    exact h1

set_option maxHeartbeats 2000000 in
theorem changed_any (HB base lb : Nat) (lv atv : Value) (n : Int) (cs xs : List Value) (w : World) (hcs : cs.length = 124) (h1c : ∀ v ∈ cs, v.oneCell' = true) (t : TypeId) (x : Addr) (hat : atv = .iface t (.pointer (some x))) (hn : 0 ≤ n ∧ n ≤ 1000)
    (h1 : w.cell? ⟨HB, 1, none⟩ = some (.pointer (some ⟨lb, 0, none⟩))) (h127 : w.cell? ⟨HB, 127, none⟩ = some (.int .i64 n)) (hth : w.there HB 0 128) (hl : LogAt w base lb lv xs) (hx : xs.length + 1 ≤ 1000) (hP : lv.ownBlock ≠ some HB) (hPl : HB ≠ lb) :
    Calls Yba.prog 50 #[.pointer (some ⟨HB, 0, none⟩), atv, .agg cs.toArray] w fun e w' => e = .returned (.tuple #[]) ∧ (∃ lv', LogAt w' base lb lv' (xs ++ [.int .u8 72]) ∧ Moved w lv lv') ∧
      w'.cell? ⟨HB, 2, none⟩ = some atv ∧ w'.rangeAt HB 3 cs ∧ w'.cell? ⟨HB, 127, none⟩ = some (.int .i64 (n + 1)) ∧ Kept (fun k => k = HB ∨ k = lb ∨ lv.ownBlock = some k) w w' := by
  subst hat
  obtain ⟨i0, hi, hz0, hz1, hz2⟩ := info_parts Yba.info5
  go_enter Yba.func50, Yba.ntmps50
  go_wp2_with (refine wpList_box_as rfl 56 _ rfl cs.toArray rfl (bx56 cs) ?_)
  simp only [Act.put, List.setIfInBounds_toArray, List.set_cons_succ, List.set_cons_zero]
  have k0 : Kept (fun k => k = HB ∨ k = lb ∨ lv.ownBlock = some k) w (w.alloc (.cells cs.toArray 56)) := (Kept.refl _ w).alloc _
  have kf : Kept (fun _ => False) w (w.alloc (.cells cs.toArray 56)) := (Kept.refl _ w).alloc _
  refine wp_as (fun W => Kept (fun k => k = HB ∨ k = lb ∨ lv.ownBlock = some k) w W ∧ W.heap.size = w.heap.size + 1 ∧ W.cell? ⟨HB, 1, none⟩ = some (.pointer (some ⟨lb, 0, none⟩)) ∧ W.cell? ⟨HB, 127, none⟩ = some (.int .i64 n) ∧ W.there HB 0 128 ∧ LogAt W base lb lv xs ∧ W.rangeAt w.heap.size 0 cs)
    ⟨k0, by simp, kf.cell (fun h => h) h1, kf.cell (fun h => h) h127, kf.there (fun h => h) hth,
      ⟨kf.cell (fun h => h) hl.cell, by rw [World.frozen?_of_block (w := w) (kf.block lb (World.block_lt_of_cell? w _ hl.cell) (fun h => h))]; exact hl.free, own_kept hl.own kf (fun _ _ h => h), hl.apart, by have := hl.base; simp; omega, hl.few⟩, range_new w cs 56⟩ ?_
  have hbw : lv.ownBlock ≠ some w.heap.size := fun h => by have := ownBlock_lt hl.own h; omega
  have hHw : HB < w.heap.size := World.block_lt_of_cell? w _ h1
  have hlw : lb < w.heap.size := World.block_lt_of_cell? w _ hl.cell
  clear k0 kf h1 h127 hth hl
  rintro W ⟨k0, hsz, h1, h127, hth, hl, hr⟩
  have HL := hid hl
  have hc := hl.cell
  have HR := hid hr
  have HTH := hid hth
  have K0 := hid k0
  have HSZ := hid hsz
  clear hl hr hth k0 hsz
  let S : World → Prop := fun w' => w'.cell? ⟨HB, 1, none⟩ = some (.pointer (some ⟨lb, 0, none⟩)) ∧ w'.cell? ⟨lb, 0, none⟩ = some lv
  have s0 : S W.drew := ⟨by simpa using h1, by simpa using hc⟩
  haveI : Nonempty (Wld S) := ⟨⟨W.drew, s0⟩⟩
  have x1 : ∀ x : Wld S, x.w.cell? ⟨HB, 1, none⟩ = some (.pointer (some ⟨lb, 0, none⟩)) := fun x => x.h.1
  have x2 : ∀ x : Wld S, x.w.cell? ⟨lb, 0, none⟩ = some lv := fun x => x.h.2
  refine wp_region_plan 13 [(true, 0), (true, 1), (true, 2), (true, 3), (true, 4), (true, 5), (true, 6), (true, 7), (true, 8), (true, 9), (false, 10), (false, 11), (true, 12), (false, 13)] (fun w' => ∃ x : Wld S, w' = x.w) (by kernel_rfl) (by kernel_rfl) (fun _ _ d _ _ h => by cases d <;> exact h) (inS s0) ?_
  repeat (refine wpPlan_q (by rfl) ?_; dsimp only [List.getElem_toArray, List.getElem_cons_zero, List.getElem_cons_succ]; go_big_quiet_step (fail); refine wpQuiet_nil ?_)
  refine wpPlan_e (by rfl) ?_
  dsimp only [List.getElem_toArray, List.getElem_cons_zero, List.getElem_cons_succ]
  go_wp2
  refine onward_normal (fun _ => inS ⟨by simpa using cell?_alloc_old _ h1, by simpa using cell?_alloc_old _ hc⟩) ?_
  refine wpPlan_e (by rfl) ?_
  dsimp only [List.getElem_toArray, List.getElem_cons_zero, List.getElem_cons_succ]
  refine wpList_append_own_at _ rfl (.tmp 15) (.tmp 16) 43 rfl base 5 i0 (.int .u8 0) 1 1 Yba.underlying43 hi hz0 hz1 hz2 rfl (by decide) lv xs.length xs rfl (own_kept HL.out.own (kept_new W _) (fun _ _ h => h)) ⟨W.heap.size, 0, none⟩ 1 1 [.int .u8 72] rfl rfl ?_ (by simp [Value.oneCell']) (by have := hx; unfold maxLen; omega) (by omega) (by have := HL.out.base; simp; omega) ?_
  · intro j u hu
    match j, hu with
    | 0, hu => cases hu; simp [Addr.add]
  intro v' w1 own1 grow1 _ mv
  obtain ⟨g', cap', rfl⟩ := own_slice own1
  obtain ⟨p1, p2, p3, p4, p5, p6⟩ := log_push HL.out own1 grow1 mv hx
  have K3 := hid p3
  have q1 := p3.cell (p := ⟨HB, 1, none⟩) hP h1
  have R := hid p4
  have R2 := hid p5
  have R3 := hid p6
  clear p4 p5 p6 own1 grow1 mv p3
  refine wpList_done ?_
  simp only [Act.put, List.setIfInBounds_toArray, List.set_cons_succ, List.set_cons_zero]
  refine onward_normal (fun _ => inS ⟨q1, p1⟩) ?_
  refine wpPlan_q (by rfl) ?_
  dsimp only [List.getElem_toArray, List.getElem_cons_zero, List.getElem_cons_succ]
  go_big_quiet_step (fail)
  refine wpQuiet_nil ?_
  refine wpPlan_e (by rfl) ?_
  dsimp only [List.getElem_toArray, List.getElem_cons_zero, List.getElem_cons_succ]
  go_wp2
  refine onward_normal (fun h => by cases h) (wpPlan_nil ?_)
  have r4 := R3.out
  have rH : ¬ (HB = lb ∨ lv.ownBlock = some HB) := fun h => h.elim hPl hP
  have rW : ¬ (w.heap.size = lb ∨ lv.ownBlock = some w.heap.size) := fun h => h.elim (fun h => by omega) hbw
  have a127 := r4.cell (p := ⟨HB, 127, none⟩) rH h127
  have aT := r4.there rH HTH.out
  have aR := r4.range rW HR.out
  have aK : Kept (fun k => k = HB ∨ k = lb ∨ lv.ownBlock = some k) w (w1.setCell ⟨lb, 0, none⟩ (.slice (some ⟨g', 0, none⟩) (xs.length + 1) cap')) := K0.out.trans (r4.weak (fun _ _ h => .inr h))
  have aM : Moved w lv (.slice (some ⟨g', 0, none⟩) (xs.length + 1) cap') := by
    rcases R2.out with h | ⟨g, h, hg⟩
    · exact .inl h
    · exact .inr ⟨g, h, Nat.le_trans K0.out.size hg⟩
  have aL := R.out
  have hgH : g' ≠ HB := by
    rcases aM with h | ⟨g, h, hg⟩
    · intro he
      rw [← he] at hP
      exact hP h.symm
    · have : g' = g := Option.some.inj h
      omega
  clear r4 rH rW R R2 R3 K0 HR HTH p1 p2 q1 h1 h127 hc HL
  generalize w1.setCell ⟨lb, 0, none⟩ (.slice (some ⟨g', 0, none⟩) (xs.length + 1) cap') = W2 at *
  have b2 := aT 2 (by omega)
  obtain ⟨u2, hu2⟩ := Option.isSome_iff_exists.1 b2.1
  have f2 := b2.2
  simp only [Nat.zero_add] at hu2 f2
  obtain ⟨W3, hW3⟩ : ∃ W3, W3 = W2.setCell ⟨HB, 2, none⟩ (.iface t (.pointer (some x))) := ⟨_, rfl⟩
  have wHB : w.heap.size ≠ HB := by omega
  have c3R := hid (show W3.rangeAt w.heap.size 0 cs by rw [hW3]; exact range_setCell aR _ _ (fun h => absurd h (Ne.symm wHB)))
  have c3T := hid (show W3.there HB 3 cs.toArray.size by rw [hW3]; exact there_setCell (there_part aT (by omega) (by simp [hcs])) _ _)
  have c3 : W3.cell? ⟨HB, 2, none⟩ = some (.iface t (.pointer (some x))) := by rw [hW3]; first | exact World.cell?_setCell_same _ _ _ hu2 | exact World.cell?_setCell_same _ _ hu2
  have c3K : Kept (fun k => k = HB ∨ k = lb ∨ lv.ownBlock = some k) w W3 := by rw [hW3]; exact aK.setCell (.inl (.inl rfl)) _
  have c3L : LogAt W3 base lb (.slice (some ⟨g', 0, none⟩) (xs.length + 1) cap') (xs ++ [.int .u8 72]) := by
    rw [hW3]
    exact log_kept aL ((Kept.refl (fun k => k = HB) W2).setCell (p := ⟨HB, 2, none⟩) (.inl rfl) _) (Ne.symm hPl) (fun g hg he => hgH (by cases hg; exact he))
  have c3127 : W3.cell? ⟨HB, 127, none⟩ = some (.int .i64 n) := by rw [hW3, World.cell?_setCell_other _ _ _ _ (by simp)]; exact a127
  have f3127 : W3.frozen? ⟨HB, 127, none⟩ = false := by rw [hW3, World.frozen?_setCell]; simpa using (aT 127 (by omega)).2
  obtain ⟨W4, hW4⟩ : ∃ W4, W4 = W3.setCells HB 3 cs := ⟨_, rfl⟩
  have d2 : W4.cell? ⟨HB, 2, none⟩ = some (.iface t (.pointer (some x))) := by rw [hW4, World.cell?_setCells_out _ _ _ _ _ (fun _ _ => .inl (by simp))]; exact c3
  have d127 : W4.cell? ⟨HB, 127, none⟩ = some (.int .i64 n) := by rw [hW4, World.cell?_setCells_out _ _ _ _ _ (fun _ _ => .inr (by simp [hcs]))]; exact c3127
  have e127 : W4.frozen? ⟨HB, 127, none⟩ = false := by rw [hW4, World.frozen?_setCells]; exact f3127
  have dR : W4.rangeAt HB 3 cs := by rw [hW4]; exact World.rangeAt_setCells_same _ _ _ _ (by simpa using c3T.out)
  have dK : Kept (fun k => k = HB ∨ k = lb ∨ lv.ownBlock = some k) w W4 := by rw [hW4]; exact c3K.setCells (.inl (.inl rfl)) _ _
  have dL : LogAt W4 base lb (.slice (some ⟨g', 0, none⟩) (xs.length + 1) cap') (xs ++ [.int .u8 72]) := by
    rw [hW4]
    exact log_kept c3L ((Kept.refl (fun k => k = HB) W3).setCells (.inl rfl) _ _) (Ne.symm hPl) (fun g hg he => hgH (by cases hg; exact he))
  have D := hid dR
  have DK := hid dK
  have DL := hid dL
  have AM := hid aM
  clear dR dK dL aM aT aR aK aL b2 c3K c3L a127
  have HW3 := hid hW3
  have HW4 := hid (show W3.setCells HB 3 cs.toArray.toList = W4 by rw [hW4])
  have c3' := hid c3
  clear hW4 hW3 c3 c3127 f3127
  have i56 : (Yba.prog.info? 56).map (·.size) = some cs.length := by rw [hcs]; exact size56
  have i56a : (Yba.prog.info? 56).map (·.size) = some cs.toArray.size := by rw [List.size_toArray, hcs]; exact size56
  go_wp2_with (first
    | (show wpList _ _ _ (⟨_, .load 56 _, _, _, _, _⟩ :: _) _ _; rw [← HW3.out]; refine wpList_load_mid rfl 56 _ rfl w.heap.size 0 rfl cs _ c3R Yba.underlying56 rfl i56 ?_)
    | (show wpList _ _ _ (⟨_, .store 56 _ _, _, _, _, _⟩ :: _) _ _; refine wpList_store_mid rfl 56 _ _ rfl HB 3 cs.toArray rfl rfl c3T i56a (all_oneCell_toArray h1c) ?_; rw [HW4.out]))
  refine bodyPost_end (results_none rfl _ _ _) rfl ?_
  refine ⟨rfl, ⟨_, ?_, AM⟩, ?_, ?_, ?_, DK.out.setCell (.inl (.inl rfl)) _⟩
  · exact log_kept DL.out ((Kept.refl (fun k => k = HB) W4).setCell (p := ⟨HB, 127, none⟩) (.inl rfl) _) (Ne.symm hPl) (fun g hg he => hgH (by cases hg; exact he))
  · rw [World.cell?_setCell_other _ _ _ _ (by simp)]; exact d2
  · exact range_setCell D.out _ _ (fun _ => .inr (by simp [hcs]))
  · first | exact World.cell?_setCell_same _ _ _ d127 | exact World.cell?_setCell_same _ _ d127

end Go.Proofs.Ybulkdsmy
