import Derived.Test.YbulkdsmyPlace
import Derived.Test.YbulkdsmyTwo
import Derived.Deep.Cut
set_option linter.unusedSimpArgs false
namespace Go.Proofs.Ybulkdsmy
open Go.RowKit

def zp : Pr := ⟨ByteArray.empty, 0⟩
theorem chc_sz (be la : Pr) (ta tb : Int) : (chc be la ta tb).toArray.size = 124 := by simp [chc_len]
theorem info56 (be la : Pr) (ta tb : Int) : (Yba.prog.info? 56).map (·.size) = some (chc be la ta tb).length := by rw [chc_len]; exact size56
theorem info56a (be la : Pr) (ta tb : Int) : (Yba.prog.info? 56).map (·.size) = some (chc be la ta tb).toArray.size := by rw [chc_sz]; exact size56
theorem one56 (be la : Pr) (ta tb : Int) : (chc be la ta tb).toArray.all (·.oneCell') = true := all_oneCell_toArray (chc_one _ _ _ _)
theorem al56 (w : World) : Sem.run Yba.prog (Instr.alloc 56 true (.tuple #[])) w = .ok (.pointer (some ⟨w.heap.size, 0, none⟩)) (w.alloc (.cells (chc zp zp 0 0).toArray 56)) := by kernel_rfl
theorem al31p (w : World) : Sem.run Yba.prog (Instr.alloc 31 true (.tuple #[])) w = .ok (ptrTo w.heap.size) (w.alloc (.cells (prc zp).toArray 31)) := by kernel_rfl

/-- What has changed, as the code reckons it. -/
def behind (se pr pr' : Pr) : Bool := !pr.same pr' && (pr'.same se || !within pr.b pr'.b se.b)
def between (se su su' : Pr) : Bool := !su.same su' && within su.b se.b su'.b
def changeOf (se su pr su' pr' : Pr) : List Value := chc (if behind se pr pr' then pr else zp) (if between se su su' then su else zp) (if between se su su' then su.b else 0) (if between se su su' then su'.b else 0)

set_option maxHeartbeats 1000000 in
theorem since_nil (P : Value) (w : World) :
    Calls Yba.prog 15 #[P, .pointer none] w fun e w' => e = .returned (.agg (chc zp zp 0 0).toArray) ∧ Below w.heap.size w w' := by
  have r1 : ((w.alloc (.cells (chc zp zp 0 0).toArray 56)).alloc (.cells (chc zp zp 0 0).toArray 56)).rangeAt (w.heap.size + 1) 0 (chc zp zp 0 0) := by
    have h := range_new (w.alloc (.cells (chc zp zp 0 0).toArray 56)) (chc zp zp 0 0) 56
    simpa using h
  have t0 : ((w.alloc (.cells (chc zp zp 0 0).toArray 56)).alloc (.cells (chc zp zp 0 0).toArray 56)).there w.heap.size 0 (chc zp zp 0 0).toArray.size := by
    rw [List.size_toArray]
    exact World.there_alloc (there_new w (chc zp zp 0 0) 56) _
  have R1 := hid r1
  have T0 := hid t0
  clear r1 t0
  go_enter Yba.func15, Yba.ntmps15
  go_wp2_with (first
    | (show wpList _ _ _ (⟨_, .alloc 56, _, _, _, _⟩ :: _) _ _; refine wpList_alloc_as rfl 56 rfl (chc zp zp 0 0).toArray al56 ?_)
    | (show wpList _ _ _ (⟨_, .load 56 _, _, _, _, _⟩ :: _) _ _; refine wpList_load_mid rfl 56 _ rfl (w.heap.size + 1) 0 rfl (chc zp zp 0 0) _ R1 Yba.underlying56 rfl (info56 _ _ _ _) ?_)
    | (show wpList _ _ _ (⟨_, .store 56 _ _, _, _, _, _⟩ :: _) _ _; refine wpList_store_mid rfl 56 _ _ rfl w.heap.size 0 (chc zp zp 0 0).toArray rfl rfl T0 (info56a _ _ _ _) (one56 _ _ _ _) ?_))
  refine bodyPost_ret (v := .agg (chc zp zp 0 0).toArray) (results_cell Yba.results15 _ _ _ (b := w.heap.size) (o := 0) rfl ?_) rfl ⟨rfl, ?_⟩
  · refine run_loadVar_mid _ _ _ 56 (chc zp zp 0 0) _ ?_ Yba.underlying56 rfl (info56 _ _ _ _)
    exact World.rangeAt_setCells_same _ _ _ _ (by simpa using T0.out)
  · exact below_setCells (((Below.refl _ _).alloc (Nat.le_refl _) _).alloc (by simp) _) (Nat.le_refl _) _ _

/-- What the later statements of Since find. -/
structure SF (w W : World) (P Wb p q : Nat) (se su pr se' su' pr' : Pr) (c : List Value) : Prop where
  bel : Below w.heap.size w W
  place : W.rangeAt P 0 (plc se su pr)
  was : W.rangeAt Wb 0 (plc se' su' pr')
  pred : W.rangeAt p 0 (prc pr)
  old : W.rangeAt q 0 (prc pr')
  chg : W.rangeAt (w.heap.size + 1) 0 c
  r0 : W.there w.heap.size 0 124
  r1 : W.there (w.heap.size + 1) 0 124
  lP : P < w.heap.size
  lW : Wb < w.heap.size
  lp : w.heap.size + 2 ≤ p
  lq : w.heap.size + 2 ≤ q
theorem SF.below {w W W' : World} {P Wb p q : Nat} {se su pr se' su' pr' : Pr} {c : List Value} (h : SF w W P Wb p q se su pr se' su' pr' c) (k : Below W.heap.size W W') : SF w W' P Wb p q se su pr se' su' pr' c :=
  ⟨h.bel.trans (k.mono h.bel.size), range_kept_below k h.place, range_kept_below k h.was, range_kept_below k h.pred, range_kept_below k h.old, range_kept_below k h.chg, there_kept_below k h.r0, there_kept_below k h.r1, h.lP, h.lW, h.lp, h.lq⟩
/-- A store into the change. -/
theorem SF.store {w W : World} {P Wb p q o : Nat} {se su pr se' su' pr' : Pr} {c c' vs : List Value} (h : SF w W P Wb p q se su pr se' su' pr' c) (hc : (W.setCells (w.heap.size + 1) o vs).rangeAt (w.heap.size + 1) 0 c') : SF w (W.setCells (w.heap.size + 1) o vs) P Wb p q se su pr se' su' pr' c' :=
  have l1 := h.lP
  have l2 := h.lW
  have l3 := h.lp
  have l4 := h.lq
  ⟨below_setCells h.bel (by omega) _ _, World.rangeAt_setCells_apart h.place _ _ _ (.inl (by omega)), World.rangeAt_setCells_apart h.was _ _ _ (.inl (by omega)), World.rangeAt_setCells_apart h.pred _ _ _ (.inl (by omega)),
    World.rangeAt_setCells_apart h.old _ _ _ (.inl (by omega)), hc, World.there_setCells h.r0 _ _ _, World.there_setCells h.r1 _ _ _, h.lP, h.lW, h.lp, h.lq⟩

/-- An arc's cells. -/
def arcc (a b : Int) : List Value := idc a ++ idc b
theorem arcc_len (a b : Int) : (arcc a b).length = 40 := by simp [arcc, idc_len]
theorem arcc_sz (a b : Int) : (arcc a b).toArray.size = 40 := by simp [arcc_len]
theorem arcc_one (a b : Int) : ∀ v ∈ arcc a b, v.oneCell' = true := by
  intro v hv
  rcases List.mem_append.1 hv with h | h <;> exact idc_one _ v h
theorem size54 : (Yba.prog.info? 54).map (·.size) = some 40 := by kernel_rfl
theorem info54a (a b : Int) : (Yba.prog.info? 54).map (·.size) = some (arcc a b).toArray.size := by rw [arcc_sz]; exact size54
theorem one54 (a b : Int) : (arcc a b).toArray.all (·.oneCell') = true := all_oneCell_toArray (arcc_one _ _)

theorem chc_store {W : World} {c : Nat} {be la la' : Pr} {ta tb ta' tb' : Int} (h : W.rangeAt c 0 (chc be la' ta' tb')) (ht : W.there c 0 124) :
    ((W.setCells c 42 (prc la)).setCells c 63 (arcc ta tb)).rangeAt c 0 (chc be la ta tb) := by
  obtain ⟨h0, h⟩ := range_app h
  rw [prc_len] at h
  obtain ⟨h1, h⟩ := range_app h
  rw [prc_len] at h
  obtain ⟨_, h⟩ := range_app h
  rw [prc_len] at h
  obtain ⟨_, h⟩ := range_app h
  rw [idc_len] at h
  obtain ⟨_, h5⟩ := range_app h
  rw [idc_len] at h5
  have far : ∀ (o : Nat) (xs : List Value), (o + xs.length ≤ 42 ∨ 103 ≤ o) → W.rangeAt c o xs → ((W.setCells c 42 (prc la)).setCells c 63 (arcc ta tb)).rangeAt c o xs := fun o xs ho hx =>
    World.rangeAt_setCells_apart (World.rangeAt_setCells_apart hx _ _ _ (by rw [prc_len]; omega)) _ _ _ (by rw [arcc_len]; omega)
  have t42 : W.there c 42 (prc la).length := by rw [prc_len]; exact there_part ht (by omega) (by omega)
  have t63 : (W.setCells c 42 (prc la)).there c 63 (arcc ta tb).length := by rw [arcc_len]; exact there_part (World.there_setCells ht _ _ _) (by omega) (by omega)
  have a2 : ((W.setCells c 42 (prc la)).setCells c 63 (arcc ta tb)).rangeAt c 42 (prc la) := World.rangeAt_setCells_apart (World.rangeAt_setCells_same _ _ _ _ t42) _ _ _ (by rw [prc_len]; omega)
  have a3 := range_app (World.rangeAt_setCells_same _ _ _ _ t63)
  rw [idc_len] at a3
  refine range_join (far 0 _ (by rw [prc_len]; omega) h0) ?_
  rw [prc_len]
  refine range_join (far _ _ (by rw [prc_len]; omega) h1) ?_
  rw [prc_len]
  refine range_join a2 ?_
  rw [prc_len]
  refine range_join a3.1 ?_
  rw [idc_len]
  refine range_join a3.2 ?_
  rw [idc_len]
  exact far _ _ (by omega) h5

set_option maxHeartbeats 4000000 in
set_option maxRecDepth 20000 in
theorem since_any (P Wb : Nat) (se su pr se' su' pr' : Pr) (hse : se.ok) (hsu : su.ok) (hpr : pr.ok) (hsu' : su'.ok) (hpr' : pr'.ok) (w : World) (hP : w.rangeAt P 0 (plc se su pr)) (hW : w.rangeAt Wb 0 (plc se' su' pr')) :
    Calls Yba.prog 15 #[.pointer (some ⟨P, 0, none⟩), .pointer (some ⟨Wb, 0, none⟩)] w fun e w' => e = .returned (.agg (changeOf se su pr su' pr').toArray) ∧ Below w.heap.size w w' := by
  have HP := hid hP
  have HW := hid hW
  have lP : P < w.heap.size := World.block_lt_of_cell? w _ (hP 0 (.string se.s) rfl)
  have lW : Wb < w.heap.size := World.block_lt_of_cell? w _ (hW 0 (.string se'.s) rfl)
  clear hP hW
  go_enter Yba.func15, Yba.ntmps15
  go_wp2_with (first
    | (show wpList _ _ _ (⟨_, .alloc 56, _, _, _, _⟩ :: _) _ _; refine wpList_alloc_as rfl 56 rfl (chc zp zp 0 0).toArray al56 ?_))
  have b0 : Below w.heap.size w ((w.alloc (.cells (chc zp zp 0 0).toArray 56)).alloc (.cells (chc zp zp 0 0).toArray 56)) := ((Below.refl _ _).alloc (Nat.le_refl _) _).alloc (by simp) _
  refine wp_as (fun W => Below w.heap.size w W ∧ W.heap.size = w.heap.size + 2 ∧ W.rangeAt P 0 (plc se su pr) ∧ W.rangeAt Wb 0 (plc se' su' pr') ∧ W.rangeAt (w.heap.size + 1) 0 (chc zp zp 0 0) ∧ W.there w.heap.size 0 124 ∧ W.there (w.heap.size + 1) 0 124) ⟨b0, by simp, range_kept_below b0 HP.out, range_kept_below b0 HW.out, ?_, ?_, ?_⟩ ?_
  · have h := range_new (w.alloc (.cells (chc zp zp 0 0).toArray 56)) (chc zp zp 0 0) 56
    simpa using h
  · have h := World.there_alloc (there_new w (chc zp zp 0 0) 56) (.cells (chc zp zp 0 0).toArray 56)
    rwa [chc_len] at h
  · have h := there_new (w.alloc (.cells (chc zp zp 0 0).toArray 56)) (chc zp zp 0 0) 56
    rw [chc_len] at h
    simpa using h
  clear b0 HP HW
  rintro W ⟨b0, hsz, hP, hW, hR, hT0, hT1⟩
  let S : World → Prop := fun w' => InB W w'
  have s0 : S W.drew := drew_below W
  haveI : Nonempty (Wld S) := ⟨⟨W.drew, s0⟩⟩
  have XP := hid (fun (x : Wld S) => (plc_parts (range_kept_below x.h hP)).2.2)
  have XW := hid (fun (x : Wld S) => (plc_parts (range_kept_below x.h hW)).2.2)
  have HP := hid hP
  have HW := hid hW
  have HR := hid hR
  have HT0 := hid hT0
  have HT1 := hid hT1
  have B0 := hid b0
  have HSZ := hid hsz
  clear hP hW hR hT0 hT1 b0 hsz
  refine wp_region_two 14 [0, 1, 2, 3, 4, 5, 6, 7, 8, 9] 10 11 [(false, 12), (false, 13)] (fun w' => ∃ x : Wld S, w' = x.w) (by kernel_rfl) (by kernel_rfl) (fun _ _ d _ _ h => by cases d <;> exact h) (inS s0) (fun w' o ⟨x, hx⟩ => inS (show S (w'.alloc o) from hx ▸ InB.alloc x.h o)) _ _ rfl rfl (t1 := 31) (t2 := 31) (Z1 := (prc zp).toArray) (Z2 := (prc zp).toArray) ⟨rfl, rfl, al31p⟩ ⟨rfl, rfl, al31p⟩ (by simp) ?_
  repeat (refine wpTake_q (by rfl) ?_; dsimp only [List.getElem_toArray, List.getElem_cons_zero, List.getElem_cons_succ]; (first
    | (show wpQuiet _ _ _ _ (⟨_, .load 31 (.tmp 14), _, _, _, _⟩ :: _) _; refine wpQuiet_load_mid rfl 31 _ rfl P 42 rfl (prc pr) _ (fun _ ⟨x, hx⟩ => hx ▸ XP.out x) Yba.underlying31 rfl (info31 _) ?_; simp only [Act.put, List.setIfInBounds_toArray, List.set_cons_succ, List.set_cons_zero])
    | (show wpQuiet _ _ _ _ (⟨_, .load 31 (.tmp 19), _, _, _, _⟩ :: _) _; refine wpQuiet_load_mid rfl 31 _ rfl Wb 42 rfl (prc pr') _ (fun _ ⟨x, hx⟩ => hx ▸ XW.out x) Yba.underlying31 rfl (info31 _) ?_; simp only [Act.put, List.setIfInBounds_toArray, List.set_cons_succ, List.set_cons_zero])
    | go_big_quiet_step (fail)); refine wpQuiet_nil ?_)
  refine wpTake_nil ?_
  intro p q W1 k1 hpq hp hq zp1 zq1 _
  have tp : W1.there p 0 21 := by have h := there_of_block (cs := prc zp) zp1; rwa [prc_len] at h
  have tq : W1.there q 0 21 := by have h := there_of_block (cs := prc zp) zq1; rwa [prc_len] at h
  simp only [ptrTo, List.setIfInBounds_toArray, List.set_cons_succ, List.set_cons_zero]
  refine wpPlan_e (by rfl) ?_
  dsimp only [List.getElem_toArray, List.getElem_cons_zero, List.getElem_cons_succ]
  refine wpList_store_mid rfl 31 _ _ rfl p 0 (prc pr).toArray rfl rfl (by rw [prc_sz]; exact tp) (info31a _) (one31 _) ?_
  refine wpList_done ?_
  simp only [Act.put, List.setIfInBounds_toArray, List.set_cons_succ, List.set_cons_zero]
  refine onward_normal (fun _ => inS (show S _ from below_setCells k1 hp _ _)) ?_
  refine wpPlan_e (by rfl) ?_
  dsimp only [List.getElem_toArray, List.getElem_cons_zero, List.getElem_cons_succ]
  refine wpList_store_mid rfl 31 _ _ rfl q 0 (prc pr').toArray rfl rfl (by rw [prc_sz]; exact World.there_setCells tq _ _ _) (info31a _) (one31 _) ?_
  refine wpList_done ?_
  simp only [Act.put, List.setIfInBounds_toArray, List.set_cons_succ, List.set_cons_zero]
  refine onward_normal (fun _ => inS (show S _ from below_setCells (below_setCells k1 hp _ _) hq _ _)) (wpPlan_nil ?_)
  have k2 : Below W.heap.size W ((W1.setCells p 0 (prc pr).toArray.toList).setCells q 0 (prc pr').toArray.toList) := below_setCells (below_setCells k1 hp _ _) hq _ _
  have ts := two_stores (W := W1) (prc pr) (prc pr') hpq (by rw [prc_len]; exact tp) (by rw [prc_len]; exact tq)
  have sf : SF w ((W1.setCells p 0 (prc pr).toArray.toList).setCells q 0 (prc pr').toArray.toList) P Wb p q se su pr se' su' pr' (chc zp zp 0 0) :=
    ⟨B0.out.trans (k2.mono B0.out.size), range_kept_below k2 HP.out, range_kept_below k2 HW.out, ts.1, ts.2, range_kept_below k2 HR.out, there_kept_below k2 HT0.out, there_kept_below k2 HT1.out, lP, lW, by have := HSZ.out; omega, by have := HSZ.out; omega⟩
  have SFH := hid sf
  clear sf ts k2 k1 tp tq zp1 zq1 B0 HSZ HT0 HT1 HR HP HW XP XW this s0
  generalize (W1.setCells p 0 (prc pr).toArray.toList).setCells q 0 (prc pr').toArray.toList = W2 at SFH ⊢
  go_wp2
  go_cut [44] from 21 (fun b w' => b = .bool (behind se pr pr') ∧ SF w w' P Wb p q se su pr se' su' pr' (chc zp zp 0 0))
  case first =>
    let S5 : World → Prop := fun w' => InB W2 w'
    have s5 : S5 W2.drew := drew_below W2
    haveI : Nonempty (Wld S5) := ⟨⟨W2.drew, s5⟩⟩
    have Y1 := hid (fun (x : Wld S5) => (SFH.out.below x.h).pred)
    have Y2 := hid (fun (x : Wld S5) => (SFH.out.below x.h).old)
    have Y3 := hid (fun (x : Wld S5) => (plc_parts (SFH.out.below x.h).place).1)
    have Y4 := hid (fun (x : Wld S5) => range_id (SFH.out.below x.h).pred)
    have Y5 := hid (fun (x : Wld S5) => range_id (SFH.out.below x.h).old)
    have Y6 := hid (fun (x : Wld S5) => range_id (plc_parts (SFH.out.below x.h).place).1)
    have E1 := hid (neq31 pr pr' hpr hpr')
    have E2 := hid (eql31 pr' se hpr' hse)
    have KW := hid (within_any pr.b pr'.b se.b ⟨hpr.1, hpr.2.1⟩ ⟨hpr'.1, hpr'.2.1⟩ ⟨hse.1, hse.2.1⟩)
    have BH := hid (show behind se pr pr' = (!pr.same pr' && (pr'.same se || !within pr.b pr'.b se.b)) from rfl)
    cases h1 : pr.same pr' with
    | true =>
      rw [h1] at E1 BH
      simp only [Bool.not_true, Bool.not_false] at E1
      clear h1
      refine wp_region_plan 24 [(true, 0), (true, 1), (true, 2), (true, 3), (true, 4), (true, 5), (true, 6), (true, 7), (true, 8), (true, 9), (true, 10), (true, 11), (true, 12), (true, 13), (true, 14), (true, 15), (true, 16), (true, 17), (true, 18), (true, 19), (false, 20), (true, 21), (true, 22), (true, 23)] (fun w' => ∃ x : Wld S5, w' = x.w) (by kernel_rfl) (by kernel_rfl) (fun _ _ d _ _ h => by cases d <;> exact h) (inS s5) ?_
      repeat (refine wpPlan_q (by rfl) ?_; dsimp only [List.getElem_toArray, List.getElem_cons_zero, List.getElem_cons_succ]; (first
        | (show wpQuiet _ _ _ _ (⟨_, .load 31 (.tmp 6), _, _, _, _⟩ :: _) _; refine wpQuiet_load_mid rfl 31 _ rfl p 0 rfl (prc pr) _ (fun _ ⟨x, hx⟩ => hx ▸ Y1.out x) Yba.underlying31 rfl (info31 _) ?_; simp only [Act.put, List.setIfInBounds_toArray, List.set_cons_succ, List.set_cons_zero])
        | (show wpQuiet _ _ _ _ (⟨_, .load 31 (.tmp 7), _, _, _, _⟩ :: _) _; refine wpQuiet_load_mid rfl 31 _ rfl q 0 rfl (prc pr') _ (fun _ ⟨x, hx⟩ => hx ▸ Y2.out x) Yba.underlying31 rfl (info31 _) ?_; simp only [Act.put, List.setIfInBounds_toArray, List.set_cons_succ, List.set_cons_zero])
        | (show wpQuiet _ _ _ _ (⟨_, .binOp .neq 31 _ _ _, _, _, _, _⟩ :: _) _; refine wpQuiet_cmp rfl .neq _ _ 31 _ rfl (prc pr).toArray (prc pr').toArray rfl rfl eg31 _ E1.out ?_; simp only [Act.put, List.setIfInBounds_toArray, List.set_cons_succ, List.set_cons_zero])
        | (show wpQuiet _ _ _ _ (⟨_, .load 31 (.tmp 28), _, _, _, _⟩ :: _) _; refine wpQuiet_load_mid rfl 31 _ rfl P 0 rfl (prc se) _ (fun _ ⟨x, hx⟩ => hx ▸ Y3.out x) Yba.underlying31 rfl (info31 _) ?_; simp only [Act.put, List.setIfInBounds_toArray, List.set_cons_succ, List.set_cons_zero])
        | (show wpQuiet _ _ _ _ (⟨_, .binOp .eql 31 _ _ _, _, _, _, _⟩ :: _) _; refine wpQuiet_cmp rfl .eql _ _ 31 _ rfl (prc pr').toArray (prc se).toArray rfl rfl eg31 _ E2.out ?_; simp only [Act.put, List.setIfInBounds_toArray, List.set_cons_succ, List.set_cons_zero])
        | (show wpQuiet _ _ _ _ (⟨_, .load 29 (.tmp 32), _, _, _, _⟩ :: _) _; refine wpQuiet_load_mid rfl 29 _ rfl p 1 rfl (idc pr.b) _ (fun _ ⟨x, hx⟩ => hx ▸ Y4.out x) Yba.underlying29 rfl (info29 _) ?_; simp only [Act.put, List.setIfInBounds_toArray, List.set_cons_succ, List.set_cons_zero])
        | (show wpQuiet _ _ _ _ (⟨_, .load 29 (.tmp 34), _, _, _, _⟩ :: _) _; refine wpQuiet_load_mid rfl 29 _ rfl q 1 rfl (idc pr'.b) _ (fun _ ⟨x, hx⟩ => hx ▸ Y5.out x) Yba.underlying29 rfl (info29 _) ?_; simp only [Act.put, List.setIfInBounds_toArray, List.set_cons_succ, List.set_cons_zero])
        | (show wpQuiet _ _ _ _ (⟨_, .load 29 (.tmp 39), _, _, _, _⟩ :: _) _; refine wpQuiet_load_mid rfl 29 _ rfl P 1 rfl (idc se.b) _ (fun _ ⟨x, hx⟩ => hx ▸ Y6.out x) Yba.underlying29 rfl (info29 _) ?_; simp only [Act.put, List.setIfInBounds_toArray, List.set_cons_succ, List.set_cons_zero])
        | go_big_quiet_step (fail)); refine wpQuiet_nil ?_)
      refine wpPlan_e (by rfl) ?_
      dsimp only [List.getElem_toArray, List.getElem_cons_zero, List.getElem_cons_succ]
      go_wp2
      refine onward_normal (fun _ => inS s5) ?_
      repeat (refine wpPlan_q (by rfl) ?_; dsimp only [List.getElem_toArray, List.getElem_cons_zero, List.getElem_cons_succ]; (first
        | go_big_quiet_step (fail)); refine wpQuiet_nil ?_)
      refine wpPlan_nil ?_
      go_wp2_with fail
      go_meet
      case rel => exact ⟨by rw [BH.out]; rfl, SFH.out.below s5⟩
    | false =>
      rw [h1] at E1 BH
      simp only [Bool.not_true, Bool.not_false] at E1
      clear h1
      cases h2 : pr'.same se with
      | true =>
        rw [h2] at E2 BH
        clear h2
        refine wp_region_plan 24 [(true, 0), (true, 1), (true, 2), (true, 3), (true, 4), (true, 5), (true, 6), (true, 7), (true, 8), (true, 9), (true, 10), (true, 11), (true, 12), (true, 13), (true, 14), (true, 15), (true, 16), (true, 17), (true, 18), (true, 19), (false, 20), (true, 21), (true, 22), (true, 23)] (fun w' => ∃ x : Wld S5, w' = x.w) (by kernel_rfl) (by kernel_rfl) (fun _ _ d _ _ h => by cases d <;> exact h) (inS s5) ?_
        repeat (refine wpPlan_q (by rfl) ?_; dsimp only [List.getElem_toArray, List.getElem_cons_zero, List.getElem_cons_succ]; (first
          | (show wpQuiet _ _ _ _ (⟨_, .load 31 (.tmp 6), _, _, _, _⟩ :: _) _; refine wpQuiet_load_mid rfl 31 _ rfl p 0 rfl (prc pr) _ (fun _ ⟨x, hx⟩ => hx ▸ Y1.out x) Yba.underlying31 rfl (info31 _) ?_; simp only [Act.put, List.setIfInBounds_toArray, List.set_cons_succ, List.set_cons_zero])
          | (show wpQuiet _ _ _ _ (⟨_, .load 31 (.tmp 7), _, _, _, _⟩ :: _) _; refine wpQuiet_load_mid rfl 31 _ rfl q 0 rfl (prc pr') _ (fun _ ⟨x, hx⟩ => hx ▸ Y2.out x) Yba.underlying31 rfl (info31 _) ?_; simp only [Act.put, List.setIfInBounds_toArray, List.set_cons_succ, List.set_cons_zero])
          | (show wpQuiet _ _ _ _ (⟨_, .binOp .neq 31 _ _ _, _, _, _, _⟩ :: _) _; refine wpQuiet_cmp rfl .neq _ _ 31 _ rfl (prc pr).toArray (prc pr').toArray rfl rfl eg31 _ E1.out ?_; simp only [Act.put, List.setIfInBounds_toArray, List.set_cons_succ, List.set_cons_zero])
          | (show wpQuiet _ _ _ _ (⟨_, .load 31 (.tmp 28), _, _, _, _⟩ :: _) _; refine wpQuiet_load_mid rfl 31 _ rfl P 0 rfl (prc se) _ (fun _ ⟨x, hx⟩ => hx ▸ Y3.out x) Yba.underlying31 rfl (info31 _) ?_; simp only [Act.put, List.setIfInBounds_toArray, List.set_cons_succ, List.set_cons_zero])
          | (show wpQuiet _ _ _ _ (⟨_, .binOp .eql 31 _ _ _, _, _, _, _⟩ :: _) _; refine wpQuiet_cmp rfl .eql _ _ 31 _ rfl (prc pr').toArray (prc se).toArray rfl rfl eg31 _ E2.out ?_; simp only [Act.put, List.setIfInBounds_toArray, List.set_cons_succ, List.set_cons_zero])
          | (show wpQuiet _ _ _ _ (⟨_, .load 29 (.tmp 32), _, _, _, _⟩ :: _) _; refine wpQuiet_load_mid rfl 29 _ rfl p 1 rfl (idc pr.b) _ (fun _ ⟨x, hx⟩ => hx ▸ Y4.out x) Yba.underlying29 rfl (info29 _) ?_; simp only [Act.put, List.setIfInBounds_toArray, List.set_cons_succ, List.set_cons_zero])
          | (show wpQuiet _ _ _ _ (⟨_, .load 29 (.tmp 34), _, _, _, _⟩ :: _) _; refine wpQuiet_load_mid rfl 29 _ rfl q 1 rfl (idc pr'.b) _ (fun _ ⟨x, hx⟩ => hx ▸ Y5.out x) Yba.underlying29 rfl (info29 _) ?_; simp only [Act.put, List.setIfInBounds_toArray, List.set_cons_succ, List.set_cons_zero])
          | (show wpQuiet _ _ _ _ (⟨_, .load 29 (.tmp 39), _, _, _, _⟩ :: _) _; refine wpQuiet_load_mid rfl 29 _ rfl P 1 rfl (idc se.b) _ (fun _ ⟨x, hx⟩ => hx ▸ Y6.out x) Yba.underlying29 rfl (info29 _) ?_; simp only [Act.put, List.setIfInBounds_toArray, List.set_cons_succ, List.set_cons_zero])
          | go_big_quiet_step (fail)); refine wpQuiet_nil ?_)
        refine wpPlan_e (by rfl) ?_
        dsimp only [List.getElem_toArray, List.getElem_cons_zero, List.getElem_cons_succ]
        go_wp2
        refine onward_normal (fun _ => inS s5) ?_
        repeat (refine wpPlan_q (by rfl) ?_; dsimp only [List.getElem_toArray, List.getElem_cons_zero, List.getElem_cons_succ]; (first
          | go_big_quiet_step (fail)); refine wpQuiet_nil ?_)
        refine wpPlan_nil ?_
        go_wp2_with fail
        go_meet
        case rel => exact ⟨by rw [BH.out]; rfl, SFH.out.below s5⟩
      | false =>
        rw [h2] at E2 BH
        clear h2
        generalize within pr.b pr'.b se.b = wi at KW BH
        refine wp_region_plan 24 [(true, 0), (true, 1), (true, 2), (true, 3), (true, 4), (true, 5), (true, 6), (true, 7), (true, 8), (true, 9), (true, 10), (true, 11), (true, 12), (true, 13), (true, 14), (true, 15), (true, 16), (true, 17), (true, 18), (true, 19), (false, 20), (true, 21), (true, 22), (true, 23)] (fun w' => ∃ x : Wld S5, w' = x.w) (by kernel_rfl) (by kernel_rfl) (fun _ _ d _ _ h => by cases d <;> exact h) (inS s5) ?_
        repeat (refine wpPlan_q (by rfl) ?_; dsimp only [List.getElem_toArray, List.getElem_cons_zero, List.getElem_cons_succ]; (first
          | (show wpQuiet _ _ _ _ (⟨_, .load 31 (.tmp 6), _, _, _, _⟩ :: _) _; refine wpQuiet_load_mid rfl 31 _ rfl p 0 rfl (prc pr) _ (fun _ ⟨x, hx⟩ => hx ▸ Y1.out x) Yba.underlying31 rfl (info31 _) ?_; simp only [Act.put, List.setIfInBounds_toArray, List.set_cons_succ, List.set_cons_zero])
          | (show wpQuiet _ _ _ _ (⟨_, .load 31 (.tmp 7), _, _, _, _⟩ :: _) _; refine wpQuiet_load_mid rfl 31 _ rfl q 0 rfl (prc pr') _ (fun _ ⟨x, hx⟩ => hx ▸ Y2.out x) Yba.underlying31 rfl (info31 _) ?_; simp only [Act.put, List.setIfInBounds_toArray, List.set_cons_succ, List.set_cons_zero])
          | (show wpQuiet _ _ _ _ (⟨_, .binOp .neq 31 _ _ _, _, _, _, _⟩ :: _) _; refine wpQuiet_cmp rfl .neq _ _ 31 _ rfl (prc pr).toArray (prc pr').toArray rfl rfl eg31 _ E1.out ?_; simp only [Act.put, List.setIfInBounds_toArray, List.set_cons_succ, List.set_cons_zero])
          | (show wpQuiet _ _ _ _ (⟨_, .load 31 (.tmp 28), _, _, _, _⟩ :: _) _; refine wpQuiet_load_mid rfl 31 _ rfl P 0 rfl (prc se) _ (fun _ ⟨x, hx⟩ => hx ▸ Y3.out x) Yba.underlying31 rfl (info31 _) ?_; simp only [Act.put, List.setIfInBounds_toArray, List.set_cons_succ, List.set_cons_zero])
          | (show wpQuiet _ _ _ _ (⟨_, .binOp .eql 31 _ _ _, _, _, _, _⟩ :: _) _; refine wpQuiet_cmp rfl .eql _ _ 31 _ rfl (prc pr').toArray (prc se).toArray rfl rfl eg31 _ E2.out ?_; simp only [Act.put, List.setIfInBounds_toArray, List.set_cons_succ, List.set_cons_zero])
          | (show wpQuiet _ _ _ _ (⟨_, .load 29 (.tmp 32), _, _, _, _⟩ :: _) _; refine wpQuiet_load_mid rfl 29 _ rfl p 1 rfl (idc pr.b) _ (fun _ ⟨x, hx⟩ => hx ▸ Y4.out x) Yba.underlying29 rfl (info29 _) ?_; simp only [Act.put, List.setIfInBounds_toArray, List.set_cons_succ, List.set_cons_zero])
          | (show wpQuiet _ _ _ _ (⟨_, .load 29 (.tmp 34), _, _, _, _⟩ :: _) _; refine wpQuiet_load_mid rfl 29 _ rfl q 1 rfl (idc pr'.b) _ (fun _ ⟨x, hx⟩ => hx ▸ Y5.out x) Yba.underlying29 rfl (info29 _) ?_; simp only [Act.put, List.setIfInBounds_toArray, List.set_cons_succ, List.set_cons_zero])
          | (show wpQuiet _ _ _ _ (⟨_, .load 29 (.tmp 39), _, _, _, _⟩ :: _) _; refine wpQuiet_load_mid rfl 29 _ rfl P 1 rfl (idc se.b) _ (fun _ ⟨x, hx⟩ => hx ▸ Y6.out x) Yba.underlying29 rfl (info29 _) ?_; simp only [Act.put, List.setIfInBounds_toArray, List.set_cons_succ, List.set_cons_zero])
          | go_big_quiet_step (fail)); refine wpQuiet_nil ?_)
        refine wpPlan_e (by rfl) ?_
        dsimp only [List.getElem_toArray, List.getElem_cons_zero, List.getElem_cons_succ]
        go_wp2_with (go_at_call 20; refine (KW.out _).mono ?_; rintro e w5 ⟨rfl, hb5⟩)
        refine onward_normal (fun _ => inS (show S5 w5 from below_trans (drew_below W2) hb5)) ?_
        repeat (refine wpPlan_q (by rfl) ?_; dsimp only [List.getElem_toArray, List.getElem_cons_zero, List.getElem_cons_succ]; (first
          | go_big_quiet_step (fail)); refine wpQuiet_nil ?_)
        refine wpPlan_nil ?_
        go_wp2_with fail
        go_meet
        case rel => exact ⟨by rw [BH.out]; cases wi <;> rfl, SFH.out.below (below_trans (drew_below W2) hb5)⟩
  case rest =>
    obtain ⟨rfl, sf⟩ := hcut
    have SF2 := hid sf
    clear sf SFH
    go_upto_if 44 with fail
    go_cut [] from 21 (fun w' => SF w w' P Wb p q se su pr se' su' pr' (chc (if behind se pr pr' then pr else zp) zp 0 0))
    case first =>
      rcases Bool.eq_false_or_eq_true (behind se pr pr') with hbh | hbh
      · have HT := hid (show wc.there (w.heap.size + 1) 0 (prc pr).toArray.size by rw [prc_sz]; exact there_part SF2.out.r1 (by omega) (by omega))
        have HP := hid SF2.out.pred
        have HBH := hid hbh
        rw [hbh]
        clear hbh
        go_wp2_with (first
          | (show wpList _ _ _ (⟨_, .load 31 _, _, _, _, _⟩ :: _) _ _; refine wpList_load_mid rfl 31 _ rfl p 0 rfl (prc pr) _ HP Yba.underlying31 rfl (info31 _) ?_)
          | (show wpList _ _ _ (⟨_, .store 31 _ _, _, _, _, _⟩ :: _) _ _; refine wpList_store_mid rfl 31 _ _ rfl (w.heap.size + 1) 0 (prc pr).toArray rfl rfl HT (info31a _) (one31 _) ?_))
        go_meet
        case rel =>
          rw [HBH.out]
          refine SF2.out.store ?_
          exact range_join (World.rangeAt_setCells_same _ _ _ _ (by simpa using HT.out)) (World.rangeAt_setCells_apart (range_app SF2.out.chg).2 _ _ _ (by simp [prc_len]))
      · have HBH := hid hbh
        rw [hbh]
        clear hbh
        go_wp2_with fail
        go_meet
        case rel => rw [HBH.out]; exact SF2.out
    case rest =>
      have SF3 := hid hcut
      clear hcut SF2
      go_upto_region 7 with fail
      go_cut [73] from 21 (fun b w' => b = .bool (between se su su') ∧ SF w w' P Wb p q se su pr se' su' pr' (chc (if behind se pr pr' then pr else zp) zp 0 0))
      case first =>
        let S7 : World → Prop := fun w' => InB wc w'
        have s7 : S7 wc.drew := drew_below wc
        haveI : Nonempty (Wld S7) := ⟨⟨wc.drew, s7⟩⟩
        have Y1 := hid (fun (x : Wld S7) => (plc_parts (SF3.out.below x.h).place).2.1)
        have Y2 := hid (fun (x : Wld S7) => (plc_parts (SF3.out.below x.h).was).2.1)
        have Y3 := hid (fun (x : Wld S7) => range_id (plc_parts (SF3.out.below x.h).place).2.1)
        have Y4 := hid (fun (x : Wld S7) => range_id (plc_parts (SF3.out.below x.h).place).1)
        have Y5 := hid (fun (x : Wld S7) => range_id (plc_parts (SF3.out.below x.h).was).2.1)
        have E1 := hid (neq31 su su' hsu hsu')
        have KW := hid (within_any su.b se.b su'.b ⟨hsu.1, hsu.2.1⟩ ⟨hse.1, hse.2.1⟩ ⟨hsu'.1, hsu'.2.1⟩)
        have BT := hid (show between se su su' = (!su.same su' && within su.b se.b su'.b) from rfl)
        cases h1 : su.same su' with
        | true =>
          rw [h1] at E1 BT
          simp only [Bool.not_true, Bool.not_false] at E1
          clear h1
          refine wp_region_plan 27 [(true, 0), (true, 1), (true, 2), (true, 3), (true, 4), (true, 5), (true, 6), (true, 7), (true, 8), (true, 9), (true, 10), (true, 11), (true, 12), (true, 13), (true, 14), (true, 15), (true, 16), (true, 17), (true, 18), (true, 19), (true, 20), (true, 21), (true, 22), (true, 23), (true, 24), (false, 25), (true, 26)] (fun w' => ∃ x : Wld S7, w' = x.w) (by kernel_rfl) (by kernel_rfl) (fun _ _ d _ _ h => by cases d <;> exact h) (inS s7) ?_
          repeat (refine wpPlan_q (by rfl) ?_; dsimp only [List.getElem_toArray, List.getElem_cons_zero, List.getElem_cons_succ]; (first
            | (show wpQuiet _ _ _ _ (⟨_, .load 31 (.tmp 49), _, _, _, _⟩ :: _) _; refine wpQuiet_load_mid rfl 31 _ rfl P 21 rfl (prc su) _ (fun _ ⟨x, hx⟩ => hx ▸ Y1.out x) Yba.underlying31 rfl (info31 _) ?_; simp only [Act.put, List.setIfInBounds_toArray, List.set_cons_succ, List.set_cons_zero])
            | (show wpQuiet _ _ _ _ (⟨_, .load 31 (.tmp 53), _, _, _, _⟩ :: _) _; refine wpQuiet_load_mid rfl 31 _ rfl Wb 21 rfl (prc su') _ (fun _ ⟨x, hx⟩ => hx ▸ Y2.out x) Yba.underlying31 rfl (info31 _) ?_; simp only [Act.put, List.setIfInBounds_toArray, List.set_cons_succ, List.set_cons_zero])
            | (show wpQuiet _ _ _ _ (⟨_, .binOp .neq 31 _ _ _, _, _, _, _⟩ :: _) _; refine wpQuiet_cmp rfl .neq _ _ 31 _ rfl (prc su).toArray (prc su').toArray rfl rfl eg31 _ E1.out ?_; simp only [Act.put, List.setIfInBounds_toArray, List.set_cons_succ, List.set_cons_zero])
            | (show wpQuiet _ _ _ _ (⟨_, .load 29 (.tmp 60), _, _, _, _⟩ :: _) _; refine wpQuiet_load_mid rfl 29 _ rfl P 22 rfl (idc su.b) _ (fun _ ⟨x, hx⟩ => hx ▸ Y3.out x) Yba.underlying29 rfl (info29 _) ?_; simp only [Act.put, List.setIfInBounds_toArray, List.set_cons_succ, List.set_cons_zero])
            | (show wpQuiet _ _ _ _ (⟨_, .load 29 (.tmp 65), _, _, _, _⟩ :: _) _; refine wpQuiet_load_mid rfl 29 _ rfl P 1 rfl (idc se.b) _ (fun _ ⟨x, hx⟩ => hx ▸ Y4.out x) Yba.underlying29 rfl (info29 _) ?_; simp only [Act.put, List.setIfInBounds_toArray, List.set_cons_succ, List.set_cons_zero])
            | (show wpQuiet _ _ _ _ (⟨_, .load 29 (.tmp 70), _, _, _, _⟩ :: _) _; refine wpQuiet_load_mid rfl 29 _ rfl Wb 22 rfl (idc su'.b) _ (fun _ ⟨x, hx⟩ => hx ▸ Y5.out x) Yba.underlying29 rfl (info29 _) ?_; simp only [Act.put, List.setIfInBounds_toArray, List.set_cons_succ, List.set_cons_zero])
            | go_big_quiet_step (fail)); refine wpQuiet_nil ?_)
          refine wpPlan_e (by rfl) ?_
          dsimp only [List.getElem_toArray, List.getElem_cons_zero, List.getElem_cons_succ]
          go_wp2
          refine onward_normal (fun _ => inS s7) ?_
          repeat (refine wpPlan_q (by rfl) ?_; dsimp only [List.getElem_toArray, List.getElem_cons_zero, List.getElem_cons_succ]; (first
            | go_big_quiet_step (fail)); refine wpQuiet_nil ?_)
          refine wpPlan_nil ?_
          go_wp2_with fail
          go_meet
          case rel => exact ⟨by rw [BT.out]; rfl, SF3.out.below s7⟩
        | false =>
          rw [h1] at E1 BT
          simp only [Bool.not_true, Bool.not_false] at E1
          clear h1
          generalize within su.b se.b su'.b = wi at KW BT
          refine wp_region_plan 27 [(true, 0), (true, 1), (true, 2), (true, 3), (true, 4), (true, 5), (true, 6), (true, 7), (true, 8), (true, 9), (true, 10), (true, 11), (true, 12), (true, 13), (true, 14), (true, 15), (true, 16), (true, 17), (true, 18), (true, 19), (true, 20), (true, 21), (true, 22), (true, 23), (true, 24), (false, 25), (true, 26)] (fun w' => ∃ x : Wld S7, w' = x.w) (by kernel_rfl) (by kernel_rfl) (fun _ _ d _ _ h => by cases d <;> exact h) (inS s7) ?_
          repeat (refine wpPlan_q (by rfl) ?_; dsimp only [List.getElem_toArray, List.getElem_cons_zero, List.getElem_cons_succ]; (first
            | (show wpQuiet _ _ _ _ (⟨_, .load 31 (.tmp 49), _, _, _, _⟩ :: _) _; refine wpQuiet_load_mid rfl 31 _ rfl P 21 rfl (prc su) _ (fun _ ⟨x, hx⟩ => hx ▸ Y1.out x) Yba.underlying31 rfl (info31 _) ?_; simp only [Act.put, List.setIfInBounds_toArray, List.set_cons_succ, List.set_cons_zero])
            | (show wpQuiet _ _ _ _ (⟨_, .load 31 (.tmp 53), _, _, _, _⟩ :: _) _; refine wpQuiet_load_mid rfl 31 _ rfl Wb 21 rfl (prc su') _ (fun _ ⟨x, hx⟩ => hx ▸ Y2.out x) Yba.underlying31 rfl (info31 _) ?_; simp only [Act.put, List.setIfInBounds_toArray, List.set_cons_succ, List.set_cons_zero])
            | (show wpQuiet _ _ _ _ (⟨_, .binOp .neq 31 _ _ _, _, _, _, _⟩ :: _) _; refine wpQuiet_cmp rfl .neq _ _ 31 _ rfl (prc su).toArray (prc su').toArray rfl rfl eg31 _ E1.out ?_; simp only [Act.put, List.setIfInBounds_toArray, List.set_cons_succ, List.set_cons_zero])
            | (show wpQuiet _ _ _ _ (⟨_, .load 29 (.tmp 60), _, _, _, _⟩ :: _) _; refine wpQuiet_load_mid rfl 29 _ rfl P 22 rfl (idc su.b) _ (fun _ ⟨x, hx⟩ => hx ▸ Y3.out x) Yba.underlying29 rfl (info29 _) ?_; simp only [Act.put, List.setIfInBounds_toArray, List.set_cons_succ, List.set_cons_zero])
            | (show wpQuiet _ _ _ _ (⟨_, .load 29 (.tmp 65), _, _, _, _⟩ :: _) _; refine wpQuiet_load_mid rfl 29 _ rfl P 1 rfl (idc se.b) _ (fun _ ⟨x, hx⟩ => hx ▸ Y4.out x) Yba.underlying29 rfl (info29 _) ?_; simp only [Act.put, List.setIfInBounds_toArray, List.set_cons_succ, List.set_cons_zero])
            | (show wpQuiet _ _ _ _ (⟨_, .load 29 (.tmp 70), _, _, _, _⟩ :: _) _; refine wpQuiet_load_mid rfl 29 _ rfl Wb 22 rfl (idc su'.b) _ (fun _ ⟨x, hx⟩ => hx ▸ Y5.out x) Yba.underlying29 rfl (info29 _) ?_; simp only [Act.put, List.setIfInBounds_toArray, List.set_cons_succ, List.set_cons_zero])
            | go_big_quiet_step (fail)); refine wpQuiet_nil ?_)
          refine wpPlan_e (by rfl) ?_
          dsimp only [List.getElem_toArray, List.getElem_cons_zero, List.getElem_cons_succ]
          go_wp2_with (go_at_call 20; refine (KW.out _).mono ?_; rintro e w5 ⟨rfl, hb5⟩)
          refine onward_normal (fun _ => inS (show S7 w5 from below_trans (drew_below wc) hb5)) ?_
          repeat (refine wpPlan_q (by rfl) ?_; dsimp only [List.getElem_toArray, List.getElem_cons_zero, List.getElem_cons_succ]; (first
            | go_big_quiet_step (fail)); refine wpQuiet_nil ?_)
          refine wpPlan_nil ?_
          go_wp2_with fail
          go_meet
          case rel => exact ⟨by rw [BT.out]; cases wi <;> rfl, SF3.out.below (below_trans (drew_below wc) hb5)⟩
      case rest =>
        obtain ⟨rfl, sf⟩ := hcut
        have SF4 := hid sf
        clear sf SF3
        go_upto_if 73 with fail
        go_cut [] from 21 (fun w' => SF w w' P Wb p q se su pr se' su' pr' (changeOf se su pr su' pr'))
        case first =>
          rcases Bool.eq_false_or_eq_true (between se su su') with hbt | hbt
          · have HCH := hid (show changeOf se su pr su' pr' = chc (if behind se pr pr' then pr else zp) su su.b su'.b by unfold changeOf; rw [hbt]; rfl)
            rw [hbt]
            clear hbt
            go_wp2_with fail
            let S8 : World → Prop := fun w' => w'.rangeAt P 0 (plc se su pr) ∧ w'.rangeAt Wb 0 (plc se' su' pr')
            have s8 : S8 wc.drew := ⟨by simpa using SF4.out.place, by simpa using SF4.out.was⟩
            haveI : Nonempty (Wld S8) := ⟨⟨wc.drew, s8⟩⟩
            have Y1 := hid (fun (x : Wld S8) => (plc_parts x.h.1).2.1)
            have Y3 := hid (fun (x : Wld S8) => range_id (plc_parts x.h.1).2.1)
            have Y5 := hid (fun (x : Wld S8) => range_id (plc_parts x.h.2).2.1)
            have SF5 := hid (SF4.out.below (drew_below wc))
            have HT := hid (show wc.drew.there (w.heap.size + 1) 42 (prc su).toArray.size by rw [prc_sz]; exact there_part SF5.out.r1 (by omega) (by omega))
            have HT2 := hid (show (wc.drew.setCells (w.heap.size + 1) 42 (prc su).toArray.toList).there (w.heap.size + 1) 63 (arcc su.b su'.b).toArray.size by rw [arcc_sz]; exact there_part (World.there_setCells SF5.out.r1 _ _ _) (by omega) (by omega))
            have nP : P ≠ w.heap.size + 1 := by omega
            have nW : Wb ≠ w.heap.size + 1 := by omega
            refine wp_region_plan 19 [(true, 0), (true, 1), (true, 2), (true, 3), (true, 4), (true, 5), (true, 6), (true, 7), (true, 8), (true, 9), (true, 10), (true, 11), (true, 12), (true, 13), (true, 14), (true, 15), (false, 16), (true, 17), (false, 18)] (fun w' => ∃ x : Wld S8, w' = x.w) (by kernel_rfl) (by kernel_rfl) (fun _ _ d _ _ h => by cases d <;> exact h) (inS s8) ?_
            repeat (refine wpPlan_q (by rfl) ?_; dsimp only [List.getElem_toArray, List.getElem_cons_zero, List.getElem_cons_succ]; (first
              | (show wpQuiet _ _ _ _ (⟨_, .load 31 (.tmp 76), _, _, _, _⟩ :: _) _; refine wpQuiet_load_mid rfl 31 _ rfl P 21 rfl (prc su) _ (fun _ ⟨x, hx⟩ => hx ▸ Y1.out x) Yba.underlying31 rfl (info31 _) ?_; simp only [Act.put, List.setIfInBounds_toArray, List.set_cons_succ, List.set_cons_zero])
              | (show wpQuiet _ _ _ _ (⟨_, .load 29 (.tmp 81), _, _, _, _⟩ :: _) _; refine wpQuiet_load_mid rfl 29 _ rfl P 22 rfl (idc su.b) _ (fun _ ⟨x, hx⟩ => hx ▸ Y3.out x) Yba.underlying29 rfl (info29 _) ?_; simp only [Act.put, List.setIfInBounds_toArray, List.set_cons_succ, List.set_cons_zero])
              | (show wpQuiet _ _ _ _ (⟨_, .load 29 (.tmp 86), _, _, _, _⟩ :: _) _; refine wpQuiet_load_mid rfl 29 _ rfl Wb 22 rfl (idc su'.b) _ (fun _ ⟨x, hx⟩ => hx ▸ Y5.out x) Yba.underlying29 rfl (info29 _) ?_; simp only [Act.put, List.setIfInBounds_toArray, List.set_cons_succ, List.set_cons_zero])
              | (show wpQuiet _ _ _ _ (⟨_, .build 54 _, _, _, _, _⟩ :: _) _; refine wpQuiet_build 54 _ rfl (.agg (arcc su.b su'.b).toArray) rfl (fun w => by kernel_rfl) ?_; simp only [Act.put, List.setIfInBounds_toArray, List.set_cons_succ, List.set_cons_zero])
              | go_big_quiet_step (fail)); refine wpQuiet_nil ?_)
            refine wpPlan_e (by rfl) ?_
            dsimp only [List.getElem_toArray, List.getElem_cons_zero, List.getElem_cons_succ]
            refine wpList_store_mid rfl 31 _ _ rfl (w.heap.size + 1) 42 (prc su).toArray rfl rfl HT (info31a _) (one31 _) ?_
            refine wpList_done ?_
            simp only [Act.put, List.setIfInBounds_toArray, List.set_cons_succ, List.set_cons_zero]
            refine onward_normal (fun _ => inS ⟨World.rangeAt_setCells_apart s8.1 _ _ _ (.inl nP), World.rangeAt_setCells_apart s8.2 _ _ _ (.inl nW)⟩) ?_
            repeat (refine wpPlan_q (by rfl) ?_; dsimp only [List.getElem_toArray, List.getElem_cons_zero, List.getElem_cons_succ]; (first
              | go_big_quiet_step (fail)); refine wpQuiet_nil ?_)
            refine wpPlan_e (by rfl) ?_
            dsimp only [List.getElem_toArray, List.getElem_cons_zero, List.getElem_cons_succ]
            refine wpList_store_mid rfl 54 _ _ rfl (w.heap.size + 1) 63 (arcc su.b su'.b).toArray rfl rfl HT2 (info54a _ _) (one54 _ _) ?_
            refine wpList_done ?_
            simp only [Act.put, List.setIfInBounds_toArray, List.set_cons_succ, List.set_cons_zero]
            refine onward_normal (fun _ => inS ⟨World.rangeAt_setCells_apart (World.rangeAt_setCells_apart s8.1 _ _ _ (.inl nP)) _ _ _ (.inl nP), World.rangeAt_setCells_apart (World.rangeAt_setCells_apart s8.2 _ _ _ (.inl nW)) _ _ _ (.inl nW)⟩) (wpPlan_nil ?_)
            go_wp2_with fail
            go_meet
            case rel =>
              rw [HCH.out]
              have c1 := chc_store (la := su) (ta := su.b) (tb := su'.b) SF5.out.chg SF5.out.r1
              have st1 : ∀ c', (wc.drew.setCells (w.heap.size + 1) 42 (prc su)).rangeAt (w.heap.size + 1) 0 c' → SF w (wc.drew.setCells (w.heap.size + 1) 42 (prc su)) P Wb p q se su pr se' su' pr' c' := fun c' h => SF5.out.store h
              exact (st1 [] (fun j v hv => by simp at hv)).store c1
          · have HCH := hid (show changeOf se su pr su' pr' = chc (if behind se pr pr' then pr else zp) zp 0 0 by unfold changeOf; rw [hbt]; rfl)
            rw [hbt]
            clear hbt
            go_wp2_with fail
            go_meet
            case rel => rw [HCH.out]; exact SF4.out
        case rest =>
          have SF5 := hid hcut
          clear hcut SF4
          have hlen : (changeOf se su pr su' pr').toArray.size = 124 := chc_sz _ _ _ _
          have R1 := hid SF5.out.chg
          have T0 := hid (show wc.there w.heap.size 0 (changeOf se su pr su' pr').toArray.size by rw [hlen]; exact SF5.out.r0)
          have i56 : (Yba.prog.info? 56).map (·.size) = some (changeOf se su pr su' pr').length := info56 _ _ _ _
          have i56a : (Yba.prog.info? 56).map (·.size) = some (changeOf se su pr su' pr').toArray.size := info56a _ _ _ _
          have o56 : (changeOf se su pr su' pr').toArray.all (·.oneCell') = true := one56 _ _ _ _
          go_wp2_with (first
            | (show wpList _ _ _ (⟨_, .load 56 _, _, _, _, _⟩ :: _) _ _; refine wpList_load_mid rfl 56 _ rfl (w.heap.size + 1) 0 rfl (changeOf se su pr su' pr') _ R1 Yba.underlying56 rfl i56 ?_)
            | (show wpList _ _ _ (⟨_, .store 56 _ _, _, _, _, _⟩ :: _) _ _; refine wpList_store_mid rfl 56 _ _ rfl w.heap.size 0 (changeOf se su pr su' pr').toArray rfl rfl T0 i56a o56 ?_))
          refine bodyPost_ret (v := .agg (changeOf se su pr su' pr').toArray) (results_cell Yba.results15 _ _ _ (b := w.heap.size) (o := 0) rfl ?_) rfl ⟨rfl, ?_⟩
          · refine run_loadVar_mid _ _ _ 56 (changeOf se su pr su' pr') _ ?_ Yba.underlying56 rfl i56
            exact World.rangeAt_setCells_same _ _ _ _ (by simpa using T0.out)
          · exact below_setCells SF5.out.bel (Nat.le_refl _) _ _

end Go.Proofs.Ybulkdsmy
