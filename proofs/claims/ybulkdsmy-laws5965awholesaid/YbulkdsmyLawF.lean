import Derived.Test.YbulkdsmyLawB1
import Derived.Deep.CutBlock
set_option linter.unusedSimpArgs false
namespace Go.Proofs.Ybulkdsmy
open Go.RowKit

set_option maxHeartbeats 8000000 in
set_option maxRecDepth 40000 in
theorem law_any (a1 a2 a3 : Option Addr) (c1 c2 c3 n1 n2 n3 : Nat) (PL OL : List Pr) (Q : List Sl) (se pr su tp ts : Pr) (pg : Bool) (md : Int) (w : World) (hn1 : n1 = PL.length) (hn2 : n2 = OL.length) (hn3 : n3 = Q.length) (hmd : 0 ≤ md ∧ md ≤ 255) (hc1 : a1 = none → n1 = 0 ∧ c1 = 0) (h : In w a1 a2 a3 PL OL Q se pr su tp ts) :
    Calls Yba.prog 3 #[.agg (rwc se).toArray, .agg (rwc pr).toArray, .agg (rwc su).toArray, .bool pg, .slice a1 n1 c1, .slice a2 n2 c2, .slice a3 n3 c3, .int .u8 md, .agg (rwc tp).toArray, .agg (rwc ts).toArray] w fun e w' => e = .returned (.bool true) ∧ Below w.heap.size w w' := by
  obtain ⟨i31, hi31, hz31, hs31, hb31⟩ := info_parts Yba.info31
  obtain ⟨i23, hi23, hz23, hs23, hb23⟩ := info_parts Yba.info23
  obtain ⟨i38, hi38, hz38, hs38, hb38⟩ := info_parts Ybulkdsmy.Yba.info38
  have HI := hid h
  have Hn1 := hid hn1
  have Hn2 := hid hn2
  have Hn3 := hid hn3
  have hfew : n1 + n2 + n3 ≤ 4096 := by have := h.few; omega
  clear h hn1 hn2 hn3
  have I31 := hid (And.intro hi31 (And.intro hz31 (And.intro hs31 hb31)))
  have I23 := hid (And.intro hi23 (And.intro hz23 (And.intro hs23 hb23)))
  have HC1 := hid hc1
  have I38 := hid (And.intro hi38 (And.intro hz38 (And.intro hs38 hb38)))
  clear hc1 hi23 hz23 hs23 hb23 hi31 hz31 hs31 hb31 hi38 hz38 hs38 hb38
  go_enter Yba.func3, Yba.ntmps3
  go_upto_region 1 with (refine wpList_box_as rfl 23 _ rfl (rwc _).toArray rfl (bx23 _) ?_)
  have B0 := hid (Bx.make w se pr su tp ts)
  generalize hW : (((((w.alloc (.cells (rwc se).toArray 23)).alloc (.cells (rwc pr).toArray 23)).alloc (.cells (rwc su).toArray 23)).alloc (.cells (rwc tp).toArray 23)).alloc (.cells (rwc ts).toArray 23)) = W0 at B0 ⊢
  clear hW
  go_wp2_with (refine wpList_make_full _ rfl _ _ 27 rfl (w.heap.size + 5) 31 i31 _ 21 Yba.underlying27 I31.out.1 I31.out.2.1 I31.out.2.2.1 .i64 .i64 _ _ n1 rfl rfl rfl rfl (by rw [I31.out.2.2.2]; omega) (by unfold maxLen; omega) B0.out.sz ?_; intro W1 own1 gr1)
  have hG : w.heap.size + 5 ≤ W0.heap.size := B0.out.sz
  have bW1 : Below W0.heap.size W0 W1 := ⟨gr1.os, gr1.tape, gr1.output, gr1.size, fun k hk => gr1.block k hk (by simp)⟩
  have B1 := hid (B0.out.on bW1 hG)
  have F1 := hid (show Fill W1 W0.heap.size n1 (PL.map prc) 0 from ⟨there_own own1, fun j cs hj => absurd hj (Nat.not_lt_zero _)⟩)
  have hG1 : W0.heap.size < W1.heap.size := ownBlock_lt own1 rfl
  clear own1 gr1 bW1 B0
  generalize W0.heap.size = G at hG hG1 F1 ⊢
  go_loopw [66] (fun i w' => ∃ m : Nat, m ≤ n1 ∧ i = .int .i64 m ∧ Bx w w' se pr su tp ts ∧ Fill w' G n1 (PL.map prc) m ∧ G < w'.heap.size) (fun i _ => n1 - (intOf i).toNat)
  case atStart => exact ⟨0, Nat.zero_le _, rfl, B1.out, F1.out, hG1⟩
  obtain ⟨m, hm, rfl, bx, fl, hGr⟩ := hrel
  have BX := hid bx
  have FL := hid fl
  clear bx fl B1 F1
  by_cases hlt : m < n1
  · obtain ⟨p, hp⟩ : ∃ p, PL[m]? = some p := ⟨PL[m]'(by have := Hn1.out; omega), List.getElem?_eq_getElem (by have := Hn1.out; omega)⟩
    have hli : (m : Int) < (n1 : Int) := by omega
    obtain ⟨g, o, rfl, hr⟩ := HI.out.pl m p hp
    have HR := hid (range_low BX.out.bel (World.block_lt_of_cell? w _ (hr 0 _ rfl)) hr)
    have HX := hid (show (PL.map prc)[m]? = some (prc p) by rw [List.getElem?_map, hp]; rfl)
    clear hr hp
    go_wp2_with (first
      | ((with_reducible (show wpList _ _ _ (⟨_, .load 23 _, _, _, _, _⟩ :: _) _ _)); refine wpList_load_mid rfl 23 _ rfl g (o + m * 2) rfl (rwc p) _ HR Yba.underlying23 rfl (info23 _) ?_)
      | (go_at_call 4; refine (peer_raw p wr).mono ?_; rintro e w4 ⟨rfl, hb4⟩; have FL4 := hid (FL.out.on hb4 hGr); have HT := hid (show w4.there G (m * 21) (prc p).toArray.size by rw [prc_sz]; exact there_part FL4.out.room (by omega) (by omega)))
      | ((with_reducible (show wpList _ _ _ (⟨_, .store 31 _ _, _, _, _, _⟩ :: _) _ _)); refine wpList_store_mid rfl 31 _ _ rfl G (m * 21) (prc p).toArray rfl rfl HT (info31a _) (one31 _) ?_))
    go_roundw
    case rel => exact ⟨m + 1, by omega, by go_num, (BX.out.on hb4 BX.out.sz).on (below_setCells (Below.refl _ _) (Nat.le_refl _) _ _) hG, FL4.out.step HX.out hlt (by intro c hc; obtain ⟨q, _, rfl⟩ := List.mem_map.1 hc; exact prc_len q), Nat.lt_of_lt_of_le (Nat.lt_of_lt_of_le hGr hb4.size) (below_setCells (Below.refl G w4) (Nat.le_refl _) _ _).size⟩
    case measure => simp [intOf]; omega
  have F2 := hid (show ∀ i p, PL[i]? = some p → wr.rangeAt G (i * 21) (prc p) from fun i p hp => FL.out.at' i (prc p) (by have h1 := (List.getElem?_eq_some_iff.1 hp).1; have h2 := Hn1.out; omega) (by rw [List.getElem?_map, hp]; rfl))
  clear FL hG1
  go_upto_region 10 with fail
  clear hlt
  have K := hid (clone_any PL n1 n1 G wr Hn1.out (by omega) (fun j u hu => by
    obtain ⟨i, p, r, h1, h2, h3⟩ := rowc_in PL j u hu
    have := F2.out i p h1 r u h2
    rw [h3]; exact this))
  go_upto_region 11 with (go_at_call 5; refine K.out.mono ?_; rintro e w5 ⟨⟨cv, rfl, own5⟩, hb5⟩)
  have s2 : S2 w w5 PL se pr su tp ts n1 G cv w5.heap.size := ⟨BX.out.on hb5 BX.out.sz, fun i p hp => range_low hb5 hGr (F2.out i p hp), by
    refine ⟨own5.1, ?_⟩
    rcases own5.2 with h0 | ⟨g', cap', cur, h1, h2, h3⟩
    · exact .inl h0
    · exact .inr ⟨g', cap', cur, h1, by omega, h3⟩, hG, Nat.lt_of_lt_of_le hGr hb5.size, fun g hg => ownBlock_lt own5 hg, Nat.le_refl _⟩
  have SS2 := hid s2
  clear K F2 BX own5 hb5 s2 hGr hm
  go_wp2_with (refine wpList_make_full _ rfl _ _ 27 rfl 0 31 i31 _ 21 Yba.underlying27 I31.out.1 I31.out.2.1 I31.out.2.2.1 .i64 .i64 _ _ n2 rfl rfl rfl rfl (by rw [I31.out.2.2.2]; omega) (by unfold maxLen; omega) (Nat.zero_le _) ?_; intro W2 own2 gr2)
  have s3 : S3 w W2 PL se pr su tp ts n1 G cv n2 w5.heap.size (w5.heap.size + 1) := ⟨SS2.out.on (k := w5.heap.size) ⟨gr2.os, gr2.tape, gr2.output, gr2.size, fun k hk => gr2.block k hk (by simp)⟩ (Nat.le_refl _), by
    rcases own2.2 with ⟨h0, _⟩ | ⟨g', cap', cur, h1, h2, h3, h4, h5, h6, h7⟩
    · cases h0
    · cases h1
      exact ⟨cur, h3, h6⟩, Nat.lt_succ_self _, ownBlock_lt own2 rfl⟩
  have SS3 := hid s3
  clear SS2 own2 gr2 s3
  generalize w5.heap.size = R at SS3 ⊢
  go_loopw [86] (fun i w' => ∃ m : Nat, m ≤ n2 ∧ i = .int .i64 m ∧ S3 w w' PL se pr su tp ts n1 G cv n2 R (R + 1)) (fun i _ => n2 - (intOf i).toNat)
  case atStart => exact ⟨0, Nat.zero_le _, rfl, SS3.out⟩
  obtain ⟨m, hm, rfl, s3⟩ := hrel
  clear SS3
  have SS3 := hid s3
  clear s3
  by_cases hlt : m < n2
  · obtain ⟨p, hp⟩ : ∃ p, OL[m]? = some p := ⟨OL[m]'(by have := Hn2.out; omega), List.getElem?_eq_getElem (by have := Hn2.out; omega)⟩
    have hli : (m : Int) < (n2 : Int) := by omega
    obtain ⟨g, o, rfl, hr⟩ := HI.out.ol m p hp
    have HR := hid (range_low SS3.out.s2.bx.bel (World.block_lt_of_cell? w _ (hr 0 _ rfl)) hr)
    clear hr hp
    go_wp2_with (first
      | ((with_reducible (show wpList _ _ _ (⟨_, .load 23 _, _, _, _, _⟩ :: _) _ _)); refine wpList_load_mid rfl 23 _ rfl g (o + m * 2) rfl (rwc p) _ HR Yba.underlying23 rfl (info23 _) ?_)
      | (go_at_call 4; refine (peer_raw p wr).mono ?_; rintro e w4 ⟨rfl, hb4⟩; have SS4 := hid (SS3.out.on hb4 SS3.out.sz); have HT := hid (show w4.there R (m * 21) (prc p).toArray.size by rw [prc_sz]; obtain ⟨cur, hc1, hc2⟩ := SS4.out.rb; have := there_of_block (cs := cur.toList) (t := 31) hc1; exact there_part this (by omega) (by simp; omega)))
      | ((with_reducible (show wpList _ _ _ (⟨_, .store 31 _ _, _, _, _, _⟩ :: _) _ _)); refine wpList_store_mid rfl 31 _ _ rfl R (m * 21) (prc p).toArray rfl rfl HT (info31a _) (one31 _) ?_))
    go_roundw
    case rel =>
      refine ⟨m + 1, by omega, by go_num, SS4.out.s2.on (below_setCells (Below.refl R _) (Nat.le_refl _) _ _) (Nat.le_refl _), ?_, Nat.lt_succ_self _, Nat.le_trans SS4.out.sz (below_setCells (Below.refl R w4) (Nat.le_refl _) _ _).size⟩
      obtain ⟨cur, hc1, hc2⟩ := SS4.out.rb
      obtain ⟨cur', h1, h2⟩ := block_setCells (prc p).toArray.toList (m * 21) w4 cur hc1
      exact ⟨cur', h1, h2.trans hc2⟩
    case measure => simp [intOf]; omega
  go_upto_region 17 with fail
  clear hlt hm
  go_wp2_with (refine wpList_make_full _ rfl _ _ 33 rfl 0 38 i38 _ 21 Yba.underlying33 I38.out.1 I38.out.2.1 I38.out.2.2.1 .i64 .i64 _ _ n3 rfl rfl rfl rfl (by rw [I38.out.2.2.2]; omega) (by unfold maxLen; omega) (Nat.zero_le _) ?_; intro W3 own3 gr3)
  have b3 : Below wr.heap.size wr W3 := ⟨gr3.os, gr3.tape, gr3.output, gr3.size, fun k hk => gr3.block k hk (by simp)⟩
  have SS4 := hid ((SS3.out.up SS3.out.sz (Nat.le_refl _)).on b3 (Nat.le_refl _))
  have F3 := hid (show Fill W3 wr.heap.size n3 (Q.map slc) 0 from ⟨there_own own3, fun j cs hj => absurd hj (Nat.not_lt_zero _)⟩)
  have hq3 : wr.heap.size < W3.heap.size := ownBlock_lt own3 rfl
  clear SS3 own3 gr3 b3
  generalize wr.heap.size = qg at SS4 F3 hq3 ⊢
  go_loopw [104] (fun i w' => ∃ m : Nat, m ≤ n3 ∧ i = .int .i64 m ∧ S3 w w' PL se pr su tp ts n1 G cv n2 R qg ∧ Fill w' qg n3 (Q.map slc) m ∧ qg < w'.heap.size) (fun i _ => n3 - (intOf i).toNat)
  case atStart => exact ⟨0, Nat.zero_le _, rfl, SS4.out, F3.out, hq3⟩
  obtain ⟨m, hm, rfl, s3, fl, hqr⟩ := hrel
  clear SS4 F3 hq3
  have SS3 := hid s3
  have FL := hid fl
  clear s3 fl
  by_cases hlt : m < n3
  · obtain ⟨s, hs⟩ : ∃ s, Q[m]? = some s := ⟨Q[m]'(by have := Hn3.out; omega), List.getElem?_eq_getElem (by have := Hn3.out; omega)⟩
    have hli : (m : Int) < (n3 : Int) := by omega
    obtain ⟨g, o, rfl, hr⟩ := HI.out.q m s hs
    have hgw := World.block_lt_of_cell? w _ (hr 0 _ rfl)
    have HR := hid (range_low SS3.out.s2.bx.bel hgw hr)
    have hg3 : g < wr.heap.size := Nat.lt_of_lt_of_le hgw SS3.out.s2.bx.bel.size
    have HX := hid (show (Q.map slc)[m]? = some (slc s) by rw [List.getElem?_map, hs]; rfl)
    clear hr hs
    go_upto_region 21 with fail
    let S : World → Prop := fun w' => InB wr w'
    have s0 : S wr.drew := drew_below wr
    haveI : Nonempty (Wld S) := ⟨⟨_, s0⟩⟩

    have x1 : ∀ x : Wld S, x.w.cell? ⟨g, o + m * 2, none⟩ = some (.int .u8 s.b) := fun x => range_cell (range_kept_below x.h HR.out) (j := 0) rfl
    have x2 : ∀ x : Wld S, x.w.cell? ⟨g, o + m * 2 + 1, none⟩ = some (.int .i64 s.n) := fun x => range_cell (range_kept_below x.h HR.out) (j := 1) rfl
    refine wp_region_plan 15 [(true, 0), (true, 1), (true, 2), (true, 3), (true, 4), (true, 5), (true, 6), (true, 8), (true, 9), (true, 10), (true, 11), (true, 12), (false, 7), (true, 13), (true, 14), (false, 15)] (fun w' => ∃ x : Wld S, w' = x.w) (by kernel_rfl) (by kernel_rfl) (fun _ _ d _ _ h => by cases d <;> exact h) (inS s0) ?_
    repeat (refine wpPlan_q (by rfl) ?_; dsimp only [List.getElem_toArray, List.getElem_cons_zero, List.getElem_cons_succ]; (first
      | ((with_reducible (show wpQuiet _ _ _ _ (⟨_, .build 38 _, _, _, _, _⟩ :: _) _)); refine wpQuiet_build 38 _ rfl (.agg (slc s).toArray) rfl (fun w => by kernel_rfl) ?_; simp only [Act.put, List.setIfInBounds_toArray, List.set_cons_succ, List.set_cons_zero])
      | go_big_quiet_step (fail)); refine wpQuiet_nil ?_)
    refine wpPlan_e (by rfl) ?_
    dsimp only [List.getElem_toArray, List.getElem_cons_zero, List.getElem_cons_succ]
    go_wp2_with (go_at_call 6; refine (id_any s.b wr.drew).mono ?_; rintro e w6 ⟨rfl, hb6⟩)
    have hi6 : InB wr w6 := below_trans (drew_below wr) hb6
    refine onward_normal (fun _ => inS (show S w6 from hi6)) ?_
    repeat (refine wpPlan_q (by rfl) ?_; dsimp only [List.getElem_toArray, List.getElem_cons_zero, List.getElem_cons_succ]; (first
      | ((with_reducible (show wpQuiet _ _ _ _ (⟨_, .build 38 _, _, _, _, _⟩ :: _) _)); refine wpQuiet_build 38 _ rfl (.agg (slc s).toArray) rfl (fun w => by kernel_rfl) ?_; simp only [Act.put, List.setIfInBounds_toArray, List.set_cons_succ, List.set_cons_zero])
      | go_big_quiet_step (fail)); refine wpQuiet_nil ?_)
    refine wpPlan_e (by rfl) ?_
    dsimp only [List.getElem_toArray, List.getElem_cons_zero, List.getElem_cons_succ]
    have FL6 := hid (FL.out.on hi6 hqr)
    have HT := hid (show w6.there qg (m * 21) (slc s).toArray.size by rw [slc_sz]; exact there_part FL6.out.room (by omega) (by omega))
    refine wpList_store_mid rfl 38 _ _ rfl qg (m * 21) (slc s).toArray rfl rfl HT (info38a _) (one38 _) ?_
    refine wpList_done ?_
    simp only [Act.put, List.setIfInBounds_toArray, List.set_cons_succ, List.set_cons_zero]
    refine onward_normal (fun h => by cases h) ?_
    refine wpPlan_nil ?_
    go_wp2
    go_roundw
    case rel => exact ⟨m + 1, by omega, by go_num, (SS3.out.on hi6 SS3.out.sz).on (below_setCells (Below.refl qg _) (Nat.le_refl _) _ _) (Nat.le_refl _), FL6.out.step HX.out hlt (by intro c hc; obtain ⟨q, _, rfl⟩ := List.mem_map.1 hc; exact slc_len q), Nat.lt_of_lt_of_le (Nat.lt_of_lt_of_le hqr hi6.size) (below_setCells (Below.refl qg w6) (Nat.le_refl _) _ _).size⟩
    case measure => simp [intOf]; omega
  have s4 : S4 w wr PL Q se pr su tp ts n1 G cv n2 R n3 qg wr.heap.size := ⟨SS3.out, fun i s hs => FL.out.at' i (slc s) (by have h1 := (List.getElem?_eq_some_iff.1 hs).1; have h2 := Hn3.out; omega) (by rw [List.getElem?_map, hs]; rfl), FL.out.room, hqr, Nat.le_refl _⟩
  have SS4 := hid s4
  go_upto_region 23 with fail
  clear s4 SS3 FL hqr hlt hm
  go_upto_region 25 with fail
  have hM : 0 ≤ md % 3 ∧ md % 3 ≤ 2 := by omega
  generalize md % 3 = M at hM ⊢
  clear hmd
  go_upto_if 127 with fail
  go_cut [30] from 128 to 153 (fun tv w' => ∃ ta T, tv = .pointer ta ∧ S4 w w' PL Q se pr su tp ts n1 G cv n2 R n3 qg w'.heap.size ∧ ToldAt w' T (.pointer ta) se (tdOf M pr su tp ts) ∧ (T < G ∨ qg < T) ∧ T < w'.heap.size ∧ ∀ tp' ts', tdOf M pr su tp ts = some (tp', ts') → w'.heap[T]? = some (.cells (plc se ts' tp').toArray 42))
  case first =>
    have hM3 : M = 0 ∨ M = 1 ∨ M = 2 := by omega
    clear hM
    rcases hM3 with rfl | rfl | rfl
    · go_wp2_with fail
      go_meet
      case rel => exact ⟨none, w.heap.size, rfl, SS4.out, rfl, .inl (by have := SS4.out.s3.s2.g5; omega), by have := SS4.out.s3.s2.bx.sz; omega, fun tp' ts' e => by simp [tdOf] at e⟩

    · go_upto_region 26 with fail
      let S : World → Prop := fun w' => InB wr w'
      have s0 : S wr.drew := drew_below wr
      haveI : Nonempty (Wld S) := ⟨⟨_, s0⟩⟩

      have Y0 := hid (show ∀ x : Wld S, x.w.rangeAt w.heap.size 0 (rwc se) from fun x => range_kept_below x.h SS4.out.s3.s2.bx.b0)
      have Y1 := hid (show ∀ x : Wld S, x.w.rangeAt (w.heap.size + 1 + 1) 0 (rwc su) from fun x => range_kept_below x.h SS4.out.s3.s2.bx.b2)
      have Y2 := hid (show ∀ x : Wld S, x.w.rangeAt (w.heap.size + 1) 0 (rwc pr) from fun x => range_kept_below x.h SS4.out.s3.s2.bx.b1)
      refine wp_region_plan 13 [(true, 0), (true, 1), (true, 3), (true, 4), (true, 6), (true, 7), (false, 2), (false, 5), (false, 8), (true, 9), (true, 10), (false, 11), (true, 12)] (fun w' => ∃ x : Wld S, w' = x.w) (by kernel_rfl) (by kernel_rfl) (fun _ _ d _ _ h => by cases d <;> exact h) (inS s0) ?_
      repeat (refine wpPlan_q (by rfl) ?_; dsimp only [List.getElem_toArray, List.getElem_cons_zero, List.getElem_cons_succ]; (first
        | ((with_reducible (show wpQuiet _ _ _ _ (⟨_, .load 23 (.tmp 10), _, _, _, _⟩ :: _) _)); refine wpQuiet_load_mid rfl 23 _ rfl w.heap.size 0 rfl (rwc se) _ (fun _ ⟨x, hx⟩ => hx ▸ Y0.out x) Yba.underlying23 rfl (info23 _) ?_; simp only [Act.put, List.setIfInBounds_toArray, List.set_cons_succ, List.set_cons_zero])
        | ((with_reducible (show wpQuiet _ _ _ _ (⟨_, .load 23 (.tmp 12), _, _, _, _⟩ :: _) _)); refine wpQuiet_load_mid rfl 23 _ rfl (w.heap.size + 1 + 1) 0 rfl (rwc su) _ (fun _ ⟨x, hx⟩ => hx ▸ Y1.out x) Yba.underlying23 rfl (info23 _) ?_; simp only [Act.put, List.setIfInBounds_toArray, List.set_cons_succ, List.set_cons_zero])
        | ((with_reducible (show wpQuiet _ _ _ _ (⟨_, .load 23 (.tmp 11), _, _, _, _⟩ :: _) _)); refine wpQuiet_load_mid rfl 23 _ rfl (w.heap.size + 1) 0 rfl (rwc pr) _ (fun _ ⟨x, hx⟩ => hx ▸ Y2.out x) Yba.underlying23 rfl (info23 _) ?_; simp only [Act.put, List.setIfInBounds_toArray, List.set_cons_succ, List.set_cons_zero])
        | ((with_reducible (show wpQuiet _ _ _ _ (⟨_, .build 40 _, _, _, _, _⟩ :: _) _)); refine wpQuiet_build 40 _ rfl (.agg (prc pr).toArray) rfl (fun w => by kernel_rfl) ?_; simp only [Act.put, List.setIfInBounds_toArray, List.set_cons_succ, List.set_cons_zero])
        | ((with_reducible (show wpQuiet _ _ _ _ (⟨_, .build 42 _, _, _, _, _⟩ :: _) _)); refine wpQuiet_build 42 _ rfl (.agg (plc se su pr).toArray) rfl (fun w => by kernel_rfl) ?_; simp only [Act.put, List.setIfInBounds_toArray, List.set_cons_succ, List.set_cons_zero])
        | go_big_quiet_step (fail)); refine wpQuiet_nil ?_)
      refine wpPlan_e (by rfl) ?_
      dsimp only [List.getElem_toArray, List.getElem_cons_zero, List.getElem_cons_succ]
      go_wp2_with (go_at_call 4; refine (peer_raw se wr.drew).mono ?_; rintro e v1 ⟨rfl, hb_v1⟩)
      have i1 : InB _ v1 := below_trans (drew_below wr) hb_v1
      refine onward_normal (fun _ => inS (show S v1 from i1)) ?_

      refine wpPlan_e (by rfl) ?_
      dsimp only [List.getElem_toArray, List.getElem_cons_zero, List.getElem_cons_succ]
      go_wp2_with (go_at_call 4; refine (peer_raw su v1).mono ?_; rintro e v2 ⟨rfl, hb_v2⟩)
      have i2 : InB _ v2 := below_trans i1 hb_v2
      refine onward_normal (fun _ => inS (show S v2 from i2)) ?_

      refine wpPlan_e (by rfl) ?_
      dsimp only [List.getElem_toArray, List.getElem_cons_zero, List.getElem_cons_succ]
      go_wp2_with (go_at_call 4; refine (peer_raw pr v2).mono ?_; rintro e v3 ⟨rfl, hb_v3⟩)
      have i3 : InB _ v3 := below_trans i2 hb_v3
      refine onward_normal (fun _ => inS (show S v3 from i3)) ?_

      repeat (refine wpPlan_q (by rfl) ?_; dsimp only [List.getElem_toArray, List.getElem_cons_zero, List.getElem_cons_succ]; (first
        | ((with_reducible (show wpQuiet _ _ _ _ (⟨_, .load 23 (.tmp 10), _, _, _, _⟩ :: _) _)); refine wpQuiet_load_mid rfl 23 _ rfl w.heap.size 0 rfl (rwc se) _ (fun _ ⟨x, hx⟩ => hx ▸ Y0.out x) Yba.underlying23 rfl (info23 _) ?_; simp only [Act.put, List.setIfInBounds_toArray, List.set_cons_succ, List.set_cons_zero])
        | ((with_reducible (show wpQuiet _ _ _ _ (⟨_, .load 23 (.tmp 12), _, _, _, _⟩ :: _) _)); refine wpQuiet_load_mid rfl 23 _ rfl (w.heap.size + 1 + 1) 0 rfl (rwc su) _ (fun _ ⟨x, hx⟩ => hx ▸ Y1.out x) Yba.underlying23 rfl (info23 _) ?_; simp only [Act.put, List.setIfInBounds_toArray, List.set_cons_succ, List.set_cons_zero])
        | ((with_reducible (show wpQuiet _ _ _ _ (⟨_, .load 23 (.tmp 11), _, _, _, _⟩ :: _) _)); refine wpQuiet_load_mid rfl 23 _ rfl (w.heap.size + 1) 0 rfl (rwc pr) _ (fun _ ⟨x, hx⟩ => hx ▸ Y2.out x) Yba.underlying23 rfl (info23 _) ?_; simp only [Act.put, List.setIfInBounds_toArray, List.set_cons_succ, List.set_cons_zero])
        | ((with_reducible (show wpQuiet _ _ _ _ (⟨_, .build 40 _, _, _, _, _⟩ :: _) _)); refine wpQuiet_build 40 _ rfl (.agg (prc pr).toArray) rfl (fun w => by kernel_rfl) ?_; simp only [Act.put, List.setIfInBounds_toArray, List.set_cons_succ, List.set_cons_zero])
        | ((with_reducible (show wpQuiet _ _ _ _ (⟨_, .build 42 _, _, _, _, _⟩ :: _) _)); refine wpQuiet_build 42 _ rfl (.agg (plc se su pr).toArray) rfl (fun w => by kernel_rfl) ?_; simp only [Act.put, List.setIfInBounds_toArray, List.set_cons_succ, List.set_cons_zero])
        | go_big_quiet_step (fail)); refine wpQuiet_nil ?_)
      refine wpPlan_e (by rfl) ?_
      dsimp only [List.getElem_toArray, List.getElem_cons_zero, List.getElem_cons_succ]
      refine wpList_box_as rfl 42 _ rfl (plc se su pr).toArray rfl (bx42 (plc se su pr)) ?_
      refine wpList_done ?_
      simp only [Act.put, List.setIfInBounds_toArray, List.set_cons_succ, List.set_cons_zero]
      have i4 : InB wr (v3.alloc (.cells (plc se su pr).toArray 42)) := below_trans i3 ((Below.refl _ _).alloc (Nat.le_refl _) _)
      refine onward_normal (fun _ => inS (show S _ from i4)) ?_
      repeat (refine wpPlan_q (by rfl) ?_; dsimp only [List.getElem_toArray, List.getElem_cons_zero, List.getElem_cons_succ]; (first
        | ((with_reducible (show wpQuiet _ _ _ _ (⟨_, .load 23 (.tmp 10), _, _, _, _⟩ :: _) _)); refine wpQuiet_load_mid rfl 23 _ rfl w.heap.size 0 rfl (rwc se) _ (fun _ ⟨x, hx⟩ => hx ▸ Y0.out x) Yba.underlying23 rfl (info23 _) ?_; simp only [Act.put, List.setIfInBounds_toArray, List.set_cons_succ, List.set_cons_zero])
        | ((with_reducible (show wpQuiet _ _ _ _ (⟨_, .load 23 (.tmp 12), _, _, _, _⟩ :: _) _)); refine wpQuiet_load_mid rfl 23 _ rfl (w.heap.size + 1 + 1) 0 rfl (rwc su) _ (fun _ ⟨x, hx⟩ => hx ▸ Y1.out x) Yba.underlying23 rfl (info23 _) ?_; simp only [Act.put, List.setIfInBounds_toArray, List.set_cons_succ, List.set_cons_zero])
        | ((with_reducible (show wpQuiet _ _ _ _ (⟨_, .load 23 (.tmp 11), _, _, _, _⟩ :: _) _)); refine wpQuiet_load_mid rfl 23 _ rfl (w.heap.size + 1) 0 rfl (rwc pr) _ (fun _ ⟨x, hx⟩ => hx ▸ Y2.out x) Yba.underlying23 rfl (info23 _) ?_; simp only [Act.put, List.setIfInBounds_toArray, List.set_cons_succ, List.set_cons_zero])
        | ((with_reducible (show wpQuiet _ _ _ _ (⟨_, .build 40 _, _, _, _, _⟩ :: _) _)); refine wpQuiet_build 40 _ rfl (.agg (prc pr).toArray) rfl (fun w => by kernel_rfl) ?_; simp only [Act.put, List.setIfInBounds_toArray, List.set_cons_succ, List.set_cons_zero])
        | ((with_reducible (show wpQuiet _ _ _ _ (⟨_, .build 42 _, _, _, _, _⟩ :: _) _)); refine wpQuiet_build 42 _ rfl (.agg (plc se su pr).toArray) rfl (fun w => by kernel_rfl) ?_; simp only [Act.put, List.setIfInBounds_toArray, List.set_cons_succ, List.set_cons_zero])
        | go_big_quiet_step (fail)); refine wpQuiet_nil ?_)
      refine wpPlan_nil ?_
      go_wp2_with fail
      go_meet
      case rel =>
        have hs3 : wr.heap.size ≤ v3.heap.size := i3.size
        have hq := SS4.out.qt
        refine ⟨some ⟨v3.heap.size, 0, none⟩, v3.heap.size, rfl, (SS4.out.on i4 (Nat.le_refl _)).up (by have := i4.size; omega) (Nat.le_refl _), ⟨rfl, range_new v3 (plc se su pr) 42, HI.out.okpr, HI.out.oksu⟩, .inr (by omega), by simp, fun tp' ts' e => by simp [tdOf] at e; obtain ⟨rfl, rfl⟩ := e; exact heap_alloc_last v3 _⟩

    · go_upto_region 28 with fail
      let S : World → Prop := fun w' => InB wr w'
      have s0 : S wr.drew := drew_below wr
      haveI : Nonempty (Wld S) := ⟨⟨_, s0⟩⟩

      have Y0 := hid (show ∀ x : Wld S, x.w.rangeAt w.heap.size 0 (rwc se) from fun x => range_kept_below x.h SS4.out.s3.s2.bx.b0)
      have Y1 := hid (show ∀ x : Wld S, x.w.rangeAt (w.heap.size + 1 + 1 + 1 + 1) 0 (rwc ts) from fun x => range_kept_below x.h SS4.out.s3.s2.bx.b4)
      have Y2 := hid (show ∀ x : Wld S, x.w.rangeAt (w.heap.size + 1 + 1 + 1) 0 (rwc tp) from fun x => range_kept_below x.h SS4.out.s3.s2.bx.b3)
      refine wp_region_plan 13 [(true, 0), (true, 1), (true, 3), (true, 4), (true, 6), (true, 7), (false, 2), (false, 5), (false, 8), (true, 9), (true, 10), (false, 11), (true, 12)] (fun w' => ∃ x : Wld S, w' = x.w) (by kernel_rfl) (by kernel_rfl) (fun _ _ d _ _ h => by cases d <;> exact h) (inS s0) ?_
      repeat (refine wpPlan_q (by rfl) ?_; dsimp only [List.getElem_toArray, List.getElem_cons_zero, List.getElem_cons_succ]; (first
        | ((with_reducible (show wpQuiet _ _ _ _ (⟨_, .load 23 (.tmp 10), _, _, _, _⟩ :: _) _)); refine wpQuiet_load_mid rfl 23 _ rfl w.heap.size 0 rfl (rwc se) _ (fun _ ⟨x, hx⟩ => hx ▸ Y0.out x) Yba.underlying23 rfl (info23 _) ?_; simp only [Act.put, List.setIfInBounds_toArray, List.set_cons_succ, List.set_cons_zero])
        | ((with_reducible (show wpQuiet _ _ _ _ (⟨_, .load 23 (.tmp 19), _, _, _, _⟩ :: _) _)); refine wpQuiet_load_mid rfl 23 _ rfl (w.heap.size + 1 + 1 + 1 + 1) 0 rfl (rwc ts) _ (fun _ ⟨x, hx⟩ => hx ▸ Y1.out x) Yba.underlying23 rfl (info23 _) ?_; simp only [Act.put, List.setIfInBounds_toArray, List.set_cons_succ, List.set_cons_zero])
        | ((with_reducible (show wpQuiet _ _ _ _ (⟨_, .load 23 (.tmp 18), _, _, _, _⟩ :: _) _)); refine wpQuiet_load_mid rfl 23 _ rfl (w.heap.size + 1 + 1 + 1) 0 rfl (rwc tp) _ (fun _ ⟨x, hx⟩ => hx ▸ Y2.out x) Yba.underlying23 rfl (info23 _) ?_; simp only [Act.put, List.setIfInBounds_toArray, List.set_cons_succ, List.set_cons_zero])
        | ((with_reducible (show wpQuiet _ _ _ _ (⟨_, .build 40 _, _, _, _, _⟩ :: _) _)); refine wpQuiet_build 40 _ rfl (.agg (prc tp).toArray) rfl (fun w => by kernel_rfl) ?_; simp only [Act.put, List.setIfInBounds_toArray, List.set_cons_succ, List.set_cons_zero])
        | ((with_reducible (show wpQuiet _ _ _ _ (⟨_, .build 42 _, _, _, _, _⟩ :: _) _)); refine wpQuiet_build 42 _ rfl (.agg (plc se ts tp).toArray) rfl (fun w => by kernel_rfl) ?_; simp only [Act.put, List.setIfInBounds_toArray, List.set_cons_succ, List.set_cons_zero])
        | go_big_quiet_step (fail)); refine wpQuiet_nil ?_)
      refine wpPlan_e (by rfl) ?_
      dsimp only [List.getElem_toArray, List.getElem_cons_zero, List.getElem_cons_succ]
      go_wp2_with (go_at_call 4; refine (peer_raw se wr.drew).mono ?_; rintro e v1 ⟨rfl, hb_v1⟩)
      have i1 : InB _ v1 := below_trans (drew_below wr) hb_v1
      refine onward_normal (fun _ => inS (show S v1 from i1)) ?_

      refine wpPlan_e (by rfl) ?_
      dsimp only [List.getElem_toArray, List.getElem_cons_zero, List.getElem_cons_succ]
      go_wp2_with (go_at_call 4; refine (peer_raw ts v1).mono ?_; rintro e v2 ⟨rfl, hb_v2⟩)
      have i2 : InB _ v2 := below_trans i1 hb_v2
      refine onward_normal (fun _ => inS (show S v2 from i2)) ?_

      refine wpPlan_e (by rfl) ?_
      dsimp only [List.getElem_toArray, List.getElem_cons_zero, List.getElem_cons_succ]
      go_wp2_with (go_at_call 4; refine (peer_raw tp v2).mono ?_; rintro e v3 ⟨rfl, hb_v3⟩)
      have i3 : InB _ v3 := below_trans i2 hb_v3
      refine onward_normal (fun _ => inS (show S v3 from i3)) ?_

      repeat (refine wpPlan_q (by rfl) ?_; dsimp only [List.getElem_toArray, List.getElem_cons_zero, List.getElem_cons_succ]; (first
        | ((with_reducible (show wpQuiet _ _ _ _ (⟨_, .load 23 (.tmp 10), _, _, _, _⟩ :: _) _)); refine wpQuiet_load_mid rfl 23 _ rfl w.heap.size 0 rfl (rwc se) _ (fun _ ⟨x, hx⟩ => hx ▸ Y0.out x) Yba.underlying23 rfl (info23 _) ?_; simp only [Act.put, List.setIfInBounds_toArray, List.set_cons_succ, List.set_cons_zero])
        | ((with_reducible (show wpQuiet _ _ _ _ (⟨_, .load 23 (.tmp 19), _, _, _, _⟩ :: _) _)); refine wpQuiet_load_mid rfl 23 _ rfl (w.heap.size + 1 + 1 + 1 + 1) 0 rfl (rwc ts) _ (fun _ ⟨x, hx⟩ => hx ▸ Y1.out x) Yba.underlying23 rfl (info23 _) ?_; simp only [Act.put, List.setIfInBounds_toArray, List.set_cons_succ, List.set_cons_zero])
        | ((with_reducible (show wpQuiet _ _ _ _ (⟨_, .load 23 (.tmp 18), _, _, _, _⟩ :: _) _)); refine wpQuiet_load_mid rfl 23 _ rfl (w.heap.size + 1 + 1 + 1) 0 rfl (rwc tp) _ (fun _ ⟨x, hx⟩ => hx ▸ Y2.out x) Yba.underlying23 rfl (info23 _) ?_; simp only [Act.put, List.setIfInBounds_toArray, List.set_cons_succ, List.set_cons_zero])
        | ((with_reducible (show wpQuiet _ _ _ _ (⟨_, .build 40 _, _, _, _, _⟩ :: _) _)); refine wpQuiet_build 40 _ rfl (.agg (prc tp).toArray) rfl (fun w => by kernel_rfl) ?_; simp only [Act.put, List.setIfInBounds_toArray, List.set_cons_succ, List.set_cons_zero])
        | ((with_reducible (show wpQuiet _ _ _ _ (⟨_, .build 42 _, _, _, _, _⟩ :: _) _)); refine wpQuiet_build 42 _ rfl (.agg (plc se ts tp).toArray) rfl (fun w => by kernel_rfl) ?_; simp only [Act.put, List.setIfInBounds_toArray, List.set_cons_succ, List.set_cons_zero])
        | go_big_quiet_step (fail)); refine wpQuiet_nil ?_)
      refine wpPlan_e (by rfl) ?_
      dsimp only [List.getElem_toArray, List.getElem_cons_zero, List.getElem_cons_succ]
      refine wpList_box_as rfl 42 _ rfl (plc se ts tp).toArray rfl (bx42 (plc se ts tp)) ?_
      refine wpList_done ?_
      simp only [Act.put, List.setIfInBounds_toArray, List.set_cons_succ, List.set_cons_zero]
      have i4 : InB wr (v3.alloc (.cells (plc se ts tp).toArray 42)) := below_trans i3 ((Below.refl _ _).alloc (Nat.le_refl _) _)
      refine onward_normal (fun _ => inS (show S _ from i4)) ?_
      repeat (refine wpPlan_q (by rfl) ?_; dsimp only [List.getElem_toArray, List.getElem_cons_zero, List.getElem_cons_succ]; (first
        | ((with_reducible (show wpQuiet _ _ _ _ (⟨_, .load 23 (.tmp 10), _, _, _, _⟩ :: _) _)); refine wpQuiet_load_mid rfl 23 _ rfl w.heap.size 0 rfl (rwc se) _ (fun _ ⟨x, hx⟩ => hx ▸ Y0.out x) Yba.underlying23 rfl (info23 _) ?_; simp only [Act.put, List.setIfInBounds_toArray, List.set_cons_succ, List.set_cons_zero])
        | ((with_reducible (show wpQuiet _ _ _ _ (⟨_, .load 23 (.tmp 19), _, _, _, _⟩ :: _) _)); refine wpQuiet_load_mid rfl 23 _ rfl (w.heap.size + 1 + 1 + 1 + 1) 0 rfl (rwc ts) _ (fun _ ⟨x, hx⟩ => hx ▸ Y1.out x) Yba.underlying23 rfl (info23 _) ?_; simp only [Act.put, List.setIfInBounds_toArray, List.set_cons_succ, List.set_cons_zero])
        | ((with_reducible (show wpQuiet _ _ _ _ (⟨_, .load 23 (.tmp 18), _, _, _, _⟩ :: _) _)); refine wpQuiet_load_mid rfl 23 _ rfl (w.heap.size + 1 + 1 + 1) 0 rfl (rwc tp) _ (fun _ ⟨x, hx⟩ => hx ▸ Y2.out x) Yba.underlying23 rfl (info23 _) ?_; simp only [Act.put, List.setIfInBounds_toArray, List.set_cons_succ, List.set_cons_zero])
        | ((with_reducible (show wpQuiet _ _ _ _ (⟨_, .build 40 _, _, _, _, _⟩ :: _) _)); refine wpQuiet_build 40 _ rfl (.agg (prc tp).toArray) rfl (fun w => by kernel_rfl) ?_; simp only [Act.put, List.setIfInBounds_toArray, List.set_cons_succ, List.set_cons_zero])
        | ((with_reducible (show wpQuiet _ _ _ _ (⟨_, .build 42 _, _, _, _, _⟩ :: _) _)); refine wpQuiet_build 42 _ rfl (.agg (plc se ts tp).toArray) rfl (fun w => by kernel_rfl) ?_; simp only [Act.put, List.setIfInBounds_toArray, List.set_cons_succ, List.set_cons_zero])
        | go_big_quiet_step (fail)); refine wpQuiet_nil ?_)
      refine wpPlan_nil ?_
      go_wp2_with fail
      go_meet
      case rel =>
        have hs3 : wr.heap.size ≤ v3.heap.size := i3.size
        have hq := SS4.out.qt
        refine ⟨some ⟨v3.heap.size, 0, none⟩, v3.heap.size, rfl, (SS4.out.on i4 (Nat.le_refl _)).up (by have := i4.size; omega) (Nat.le_refl _), ⟨rfl, range_new v3 (plc se ts tp) 42, HI.out.oktp, HI.out.okts⟩, .inr (by omega), by simp, fun tp' ts' e => by simp [tdOf] at e; obtain ⟨rfl, rfl⟩ := e; exact heap_alloc_last v3 _⟩

  case rest =>
    obtain ⟨ta, T, rfl, s4, htd, htl, htw, htb⟩ := hcut
    clear SS4
    have SS4 := hid s4
    have HTD := hid htd
    clear s4 htd
    go_upto_if 155 with (refine wpList_alloc_as rfl 42 rfl (plc zp zp zp).toArray al42 ?_)
    have bA : Below wc.heap.size wc (wc.alloc (.cells (plc zp zp zp).toArray 42)) := (Below.refl _ _).alloc (Nat.le_refl _) _
    have SS4' := hid (SS4.out.on bA (Nat.le_refl _))
    have HTD' := hid (HTD.out.on bA htw)
    have HTB := hid (show ∀ tp' ts', tdOf M pr su tp ts = some (tp', ts') → (wc.alloc (.cells (plc zp zp zp).toArray 42)).heap[T]? = some (.cells (plc se ts' tp').toArray 42) from fun tp' ts' e => by rw [bA.block T htw]; exact htb tp' ts' e)
    have HTT := hid (show (wc.alloc (.cells (plc zp zp zp).toArray 42)).there wc.heap.size 0 63 by have h := there_new wc (plc zp zp zp) 42; rwa [plc_len] at h)
    have hsz : wc.heap.size < (wc.alloc (.cells (plc zp zp zp).toArray 42)).heap.size := by simp
    clear SS4 HTD bA htb
    generalize wc.alloc (.cells (plc zp zp zp).toArray 42) = WA at SS4' HTD' HTT HTB hsz ⊢
    generalize wc.heap.size = TW at SS4' HTT hsz htw ⊢
    go_cut [] from 156 to 158 (fun w' => S5 w w' PL Q se pr su tp ts n1 G cv n2 R n3 qg M ta T TW w'.heap.size)
    case first =>
      generalize hT : tdOf M pr su tp ts = td at HTD'
      cases td with
      | none =>
        have e : Value.pointer ta = .pointer none := HTD'.out
        cases e
        go_wp2_with fail
        go_meet
        case rel => exact ⟨SS4'.out, by rw [hT]; exact HTD'.out, fun tp' ts' e => (by rw [hT] at e; cases e), HTB.out, htl, htw, hsz, Nat.le_refl _⟩
      | some tt =>
        obtain ⟨tp', ts'⟩ := tt
        obtain ⟨e, hr, ok1, ok2⟩ := HTD'.out
        cases e
        have HR := hid hr
        have HTS := hid (show WA.there TW 0 (plc se ts' tp').toArray.size by rw [plc_sz]; exact HTT.out)
        have HTd := hid hT
        clear hr hT
        go_wp2_with (first
          | ((with_reducible (show wpList _ _ _ (⟨_, .load 42 _, _, _, _, _⟩ :: _) _ _)); refine wpList_load_mid rfl 42 _ rfl T 0 rfl (plc se ts' tp') _ HR Yba.underlying42 rfl (info42 _ _ _) ?_)
          | ((with_reducible (show wpList _ _ _ (⟨_, .store 42 _ _, _, _, _, _⟩ :: _) _ _)); refine wpList_store_mid rfl 42 _ _ rfl TW 0 (plc se ts' tp').toArray rfl rfl HTS (info42a _ _ _) (one42 _ _ _) ?_))
        go_meet
        case rel =>
          have bS : Below TW WA (WA.setCells TW 0 (plc se ts' tp').toArray.toList) := below_setCells (Below.refl _ _) (Nat.le_refl _) _ _
          refine ⟨SS4'.out.on bS (Nat.le_refl _), by rw [HTd.out]; exact HTD'.out.on bS htw, fun tp2 ts2 e => ?_, fun tp2 ts2 e => by rw [bS.block T htw]; exact HTB.out tp2 ts2 e, htl, htw, Nat.lt_of_lt_of_le hsz bS.size, Nat.le_refl _⟩
          rw [HTd.out] at e
          cases e
          exact World.rangeAt_setCells_same _ _ _ _ (by rw [plc_len]; exact HTT.out)

    case rest =>
      clear SS4' HTD' HTT HTB hsz htl htw
      have SS5 := hid hcut
      clear hcut
      go_upto_region 33 with (refine wpList_buildSliceAs rfl 43 0 _ rfl (.slice (some ⟨wc.heap.size, 0, none⟩) 0 0) (wc.alloc (.cells #[] 5)) (by kernel_rfl) ?_)
      go_upto_region 35 with (first
        | ((with_reducible (show wpList _ _ _ (⟨_, .build 47 _, _, _, _, _⟩ :: _) _ _)); refine wpList_buildAs rfl 47 _ rfl (.agg (proc' G n1 (wc.heap.size + 1)).toArray) (fun w => by kernel_rfl) ?_)
        | ((with_reducible (show wpList _ _ _ (⟨_, .box 47 _, _, _, _, _⟩ :: _) _ _)); refine wpList_box_as rfl 47 _ rfl (proc' G n1 (wc.heap.size + 1)).toArray rfl (bx47 _) ?_)
        | ((with_reducible (show wpList _ _ _ (⟨_, .build 58 _, _, _, _, _⟩ :: _) _ _)); refine wpList_buildAs rfl 58 _ rfl (.agg (hostc (wc.heap.size + 1)).toArray) (fun w => by kernel_rfl) ?_)
        | ((with_reducible (show wpList _ _ _ (⟨_, .box 58 _, _, _, _, _⟩ :: _) _ _)); refine wpList_box_as rfl 58 _ rfl (hostc (wc.heap.size + 1)).toArray rfl (bx58 _) ?_))
      generalize hWP : (((wc.alloc (.cells #[] 5)).alloc (.cells #[.slice (some ⟨wc.heap.size, 0, none⟩) 0 0] 43)).alloc (.cells (proc' G n1 (wc.heap.size + 1)).toArray 47)).alloc (.cells (hostc (wc.heap.size + 1)).toArray 58) = WP
      have hP4 : pre4 wc G n1 = WP := hWP
      have BXP := hid ((SS5.out.on (hP4 ▸ pre4_below wc G n1 : Below wc.heap.size wc WP) (Nat.le_refl _)).s4.s3.s2.bx)
      clear hWP
      let S : World → Prop := fun w' => InB WP w'
      have s0 : S WP.drew := drew_below WP
      haveI : Nonempty (Wld S) := ⟨⟨_, s0⟩⟩

      have Y0 := hid (show ∀ x : Wld S, x.w.rangeAt w.heap.size 0 (rwc se) from fun x => range_kept_below x.h BXP.out.b0)
      have Y1 := hid (show ∀ x : Wld S, x.w.rangeAt (w.heap.size + 1) 0 (rwc pr) from fun x => range_kept_below x.h BXP.out.b1)
      have Y2 := hid (show ∀ x : Wld S, x.w.rangeAt (w.heap.size + 1 + 1) 0 (rwc su) from fun x => range_kept_below x.h BXP.out.b2)
      refine wp_region_plan 20 [(true, 0), (true, 1), (true, 2), (true, 3), (true, 4), (true, 5), (true, 7), (true, 8), (true, 10), (true, 11), (true, 13), (true, 14), (true, 15), (true, 16), (false, 6), (false, 9), (false, 12), (true, 17), (false, 18), (true, 19)] (fun w' => ∃ x : Wld S, w' = x.w) (by kernel_rfl) (by kernel_rfl) (fun _ _ d _ _ h => by cases d <;> exact h) (inS s0) ?_
      repeat (refine wpPlan_q (by rfl) ?_; dsimp only [List.getElem_toArray, List.getElem_cons_zero, List.getElem_cons_succ]; (first
        | ((with_reducible (show wpQuiet _ _ _ _ (⟨_, .load 23 (.tmp 10), _, _, _, _⟩ :: _) _)); refine wpQuiet_load_mid rfl 23 _ rfl w.heap.size 0 rfl (rwc se) _ (fun _ ⟨x, hx⟩ => hx ▸ Y0.out x) Yba.underlying23 rfl (info23 _) ?_; simp only [Act.put, List.setIfInBounds_toArray, List.set_cons_succ, List.set_cons_zero])
        | ((with_reducible (show wpQuiet _ _ _ _ (⟨_, .load 23 (.tmp 11), _, _, _, _⟩ :: _) _)); refine wpQuiet_load_mid rfl 23 _ rfl (w.heap.size + 1) 0 rfl (rwc pr) _ (fun _ ⟨x, hx⟩ => hx ▸ Y1.out x) Yba.underlying23 rfl (info23 _) ?_; simp only [Act.put, List.setIfInBounds_toArray, List.set_cons_succ, List.set_cons_zero])
        | ((with_reducible (show wpQuiet _ _ _ _ (⟨_, .load 23 (.tmp 12), _, _, _, _⟩ :: _) _)); refine wpQuiet_load_mid rfl 23 _ rfl (w.heap.size + 1 + 1) 0 rfl (rwc su) _ (fun _ ⟨x, hx⟩ => hx ▸ Y2.out x) Yba.underlying23 rfl (info23 _) ?_; simp only [Act.put, List.setIfInBounds_toArray, List.set_cons_succ, List.set_cons_zero])
        | ((with_reducible (show wpQuiet _ _ _ _ (⟨_, .build 73 _, _, _, _, _⟩ :: _) _)); refine wpQuiet_build 73 _ rfl (.agg (nodec (wc.heap.size + 3) (wc.heap.size + 2) qg n3 R n2 ta se pr su pg).toArray) rfl (fun w => by kernel_rfl) ?_; simp only [Act.put, List.setIfInBounds_toArray, List.set_cons_succ, List.set_cons_zero])
        | go_big_quiet_step (fail)); refine wpQuiet_nil ?_)
      refine wpPlan_e (by rfl) ?_
      dsimp only [List.getElem_toArray, List.getElem_cons_zero, List.getElem_cons_succ]
      go_wp2_with (go_at_call 4; refine (peer_raw se WP.drew).mono ?_; rintro e v1 ⟨rfl, hb_v1⟩)
      have i1 : InB _ v1 := below_trans (drew_below WP) hb_v1
      refine onward_normal (fun _ => inS (show S v1 from i1)) ?_

      refine wpPlan_e (by rfl) ?_
      dsimp only [List.getElem_toArray, List.getElem_cons_zero, List.getElem_cons_succ]
      go_wp2_with (go_at_call 4; refine (peer_raw pr v1).mono ?_; rintro e v2 ⟨rfl, hb_v2⟩)
      have i2 : InB _ v2 := below_trans i1 hb_v2
      refine onward_normal (fun _ => inS (show S v2 from i2)) ?_

      refine wpPlan_e (by rfl) ?_
      dsimp only [List.getElem_toArray, List.getElem_cons_zero, List.getElem_cons_succ]
      go_wp2_with (go_at_call 4; refine (peer_raw su v2).mono ?_; rintro e v3 ⟨rfl, hb_v3⟩)
      have i3 : InB _ v3 := below_trans i2 hb_v3
      refine onward_normal (fun _ => inS (show S v3 from i3)) ?_

      repeat (refine wpPlan_q (by rfl) ?_; dsimp only [List.getElem_toArray, List.getElem_cons_zero, List.getElem_cons_succ]; (first
        | ((with_reducible (show wpQuiet _ _ _ _ (⟨_, .load 23 (.tmp 10), _, _, _, _⟩ :: _) _)); refine wpQuiet_load_mid rfl 23 _ rfl w.heap.size 0 rfl (rwc se) _ (fun _ ⟨x, hx⟩ => hx ▸ Y0.out x) Yba.underlying23 rfl (info23 _) ?_; simp only [Act.put, List.setIfInBounds_toArray, List.set_cons_succ, List.set_cons_zero])
        | ((with_reducible (show wpQuiet _ _ _ _ (⟨_, .load 23 (.tmp 11), _, _, _, _⟩ :: _) _)); refine wpQuiet_load_mid rfl 23 _ rfl (w.heap.size + 1) 0 rfl (rwc pr) _ (fun _ ⟨x, hx⟩ => hx ▸ Y1.out x) Yba.underlying23 rfl (info23 _) ?_; simp only [Act.put, List.setIfInBounds_toArray, List.set_cons_succ, List.set_cons_zero])
        | ((with_reducible (show wpQuiet _ _ _ _ (⟨_, .load 23 (.tmp 12), _, _, _, _⟩ :: _) _)); refine wpQuiet_load_mid rfl 23 _ rfl (w.heap.size + 1 + 1) 0 rfl (rwc su) _ (fun _ ⟨x, hx⟩ => hx ▸ Y2.out x) Yba.underlying23 rfl (info23 _) ?_; simp only [Act.put, List.setIfInBounds_toArray, List.set_cons_succ, List.set_cons_zero])
        | ((with_reducible (show wpQuiet _ _ _ _ (⟨_, .build 73 _, _, _, _, _⟩ :: _) _)); refine wpQuiet_build 73 _ rfl (.agg (nodec (wc.heap.size + 3) (wc.heap.size + 2) qg n3 R n2 ta se pr su pg).toArray) rfl (fun w => by kernel_rfl) ?_; simp only [Act.put, List.setIfInBounds_toArray, List.set_cons_succ, List.set_cons_zero])
        | go_big_quiet_step (fail)); refine wpQuiet_nil ?_)
      refine wpPlan_e (by rfl) ?_
      dsimp only [List.getElem_toArray, List.getElem_cons_zero, List.getElem_cons_succ]
      refine wpList_box_as rfl 73 _ rfl (nodec (wc.heap.size + 3) (wc.heap.size + 2) qg n3 R n2 ta se pr su pg).toArray rfl (bx73 _) ?_
      refine wpList_done ?_
      simp only [Act.put, List.setIfInBounds_toArray, List.set_cons_succ, List.set_cons_zero]
      have i4 : InB WP (v3.alloc (.cells (nodec (wc.heap.size + 3) (wc.heap.size + 2) qg n3 R n2 ta se pr su pg).toArray 73)) := below_trans i3 ((Below.refl _ _).alloc (Nat.le_refl _) _)
      refine onward_normal (fun _ => inS (show S _ from i4)) ?_
      repeat (refine wpPlan_q (by rfl) ?_; dsimp only [List.getElem_toArray, List.getElem_cons_zero, List.getElem_cons_succ]; (first
        | ((with_reducible (show wpQuiet _ _ _ _ (⟨_, .load 23 (.tmp 10), _, _, _, _⟩ :: _) _)); refine wpQuiet_load_mid rfl 23 _ rfl w.heap.size 0 rfl (rwc se) _ (fun _ ⟨x, hx⟩ => hx ▸ Y0.out x) Yba.underlying23 rfl (info23 _) ?_; simp only [Act.put, List.setIfInBounds_toArray, List.set_cons_succ, List.set_cons_zero])
        | ((with_reducible (show wpQuiet _ _ _ _ (⟨_, .load 23 (.tmp 11), _, _, _, _⟩ :: _) _)); refine wpQuiet_load_mid rfl 23 _ rfl (w.heap.size + 1) 0 rfl (rwc pr) _ (fun _ ⟨x, hx⟩ => hx ▸ Y1.out x) Yba.underlying23 rfl (info23 _) ?_; simp only [Act.put, List.setIfInBounds_toArray, List.set_cons_succ, List.set_cons_zero])
        | ((with_reducible (show wpQuiet _ _ _ _ (⟨_, .load 23 (.tmp 12), _, _, _, _⟩ :: _) _)); refine wpQuiet_load_mid rfl 23 _ rfl (w.heap.size + 1 + 1) 0 rfl (rwc su) _ (fun _ ⟨x, hx⟩ => hx ▸ Y2.out x) Yba.underlying23 rfl (info23 _) ?_; simp only [Act.put, List.setIfInBounds_toArray, List.set_cons_succ, List.set_cons_zero])
        | ((with_reducible (show wpQuiet _ _ _ _ (⟨_, .build 73 _, _, _, _, _⟩ :: _) _)); refine wpQuiet_build 73 _ rfl (.agg (nodec (wc.heap.size + 3) (wc.heap.size + 2) qg n3 R n2 ta se pr su pg).toArray) rfl (fun w => by kernel_rfl) ?_; simp only [Act.put, List.setIfInBounds_toArray, List.set_cons_succ, List.set_cons_zero])
        | go_big_quiet_step (fail)); refine wpQuiet_nil ?_)
      refine wpPlan_nil ?_
      clear Y0 Y1 Y2 s0 this
      subst hP4
      have ND := hid (node0 (pg := pg) HI.out Hn1.out Hn2.out Hn3.out SS5.out i3)
      have sN : wc.heap.size + 4 ≤ v3.heap.size := by have := i3.size; rwa [pre4_size] at this
      have K := hid (relink_any w.heap.size v3.heap.size (wc.heap.size + 3) (wc.heap.size + 2) (wc.heap.size + 1) G qg R T n2 n3 (.slice (some ⟨wc.heap.size, 0, none⟩) 0 0) (.pointer ta) se pr su pg PL Q (tdOf M pr su tp ts) _ ND.out.1 ND.out.2.td)
      clear BXP i1 i2 i3 i4 hb_v1 hb_v2 hb_v3
      go_upto_region 36 with fail
      rename_i K36 hK36
      refine wp_later (t := (dropC 20 (Yba.f3.body.getD .skip))) hK36 ?_
      clear hK36
      go_wp2_with (go_at_call 7; refine K.out.mono ?_; rintro e W7 ⟨rfl, hrel7⟩)
      have F := hid (F7.make (x := wc.heap.size) Hn1.out ND.out.2 ⟨Nat.le_refl _, by omega, by omega, by omega⟩ hrel7)
      clear K ND hrel7 SS5
      generalize v3.heap.size = N at F sN ⊢
      generalize wc.heap.size = x at F sN ⊢
      exact law_back a1 a2 a3 c1 c2 c3 n1 n2 n3 PL OL Q se pr su tp ts pg md w G R qg T TW N x cv M ta W7 HI Hn1 Hn2 Hn3 HC1 hfew hM F sN

end Go.Proofs.Ybulkdsmy
