import Derived.Test.YbulkdsjeGreatDoorNs1
import Derived.Test.YbulkdsjeGreatDoorFlo3
import Derived.BigQuiet
import Derived.Deep.QuietTactic
import Derived.Deep.MidRow
set_option linter.unusedVariables false
set_option linter.unusedSimpArgs false
namespace Go.Proofs.YbulkdsjeGreatDoor
open Go.RowKit


set_option maxRecDepth 100000 in
set_option maxHeartbeats 4000000 in
theorem newSeries_any (rb ro rc na : Nat) (st nn : Nat → Nat) (hb rw xff : Nat) (U : World) (h : RuleM U rb ro na st nn) (hhb : hb < 1125899906842624) (hrw : rw < 1125899906842624) (hfu : ∀ i, i < na → 0 < fuOf st i ∧ fuOf st i ≤ 60000) : Calls Ybaz.prog 16 #[.agg #[sl rb ro na rc, vi hb, .float .f64 xff, vi rw]] U fun e w' => NsP U rb ro rc na st nn hb rw xff e w' := by
  have k0 : Kept (fun _ => False) U (U.alloc (.cells #[sl rb ro na rc, vi hb, .float .f64 xff, vi rw] 31)) := (Kept.refl _ U).alloc _
  have KK := hid (show Kept (fun _ => False) U (U.alloc (.cells #[sl rb ro na rc, vi hb, .float .f64 xff, vi rw] 31)) ∧ (U.alloc (.cells #[sl rb ro na rc, vi hb, .float .f64 xff, vi rw] 31)).rangeAt U.heap.size 0 [sl rb ro na rc, vi hb, .float .f64 xff, vi rw] from ⟨k0, range_new U [sl rb ro na rc, vi hb, .float .f64 xff, vi rw] 31⟩)
  have H := hid h
  have HB := hid (show hb < 1125899906842624 ∧ rw < 1125899906842624 from ⟨hhb, hrw⟩)
  have HF := hid hfu
  obtain ⟨iA, hiA, hzA, hsA, hbA⟩ := info_parts info106
  have MI : Hid (∀ i, i < na → ∀ W, Calls Ybaz.prog 35 #[vi (st i * 1000000)] W fun e w' => e = .returned (vi (st i)) ∧ w' = W) := hid fun i hi W => by
    have := millis_any (st i * 1000000) W (by have := h.bd i hi; omega)
    rw [Nat.mul_div_cancel _ (by omega)] at this
    exact this
  have hna1 : (na : Int) ≤ 2 := by have := h.hna; omega
  have hna0 : (0 : Int) < (na : Int) := by have := h.hna; omega
  clear h hhb hrw hfu k0
  go_enter Ybaz.func16, Ybaz.ntmps16
  go_upto_region 1 with fail
  refine wp_as (fun V => Kept (fun _ => False) U V ∧ V.rangeAt U.heap.size 0 [sl rb ro na rc, vi hb, .float .f64 xff, vi rw]) KK.out ?_
  rintro V ⟨kV, rV⟩
  obtain ⟨Rb, hRb⟩ : ∃ Rb, U.heap.size = Rb := ⟨_, rfl⟩
  rw [hRb] at rV ⊢
  have KV := hid kV
  have RV := hid rV
  have s0 : Kept (fun _ => False) V V.drew := (Kept.refl _ V).drew
  haveI nS : Nonempty (Wld (fun U' => Kept (fun _ => False) V U')) := ⟨⟨V.drew, s0⟩⟩
  have yc : V.cell? ⟨Rb, 0, none⟩ = some (sl rb ro na rc) := rV 0 _ rfl
  have y0 : ∀ x : Wld (fun U' => Kept (fun _ => False) V U'), x.w.cell? ⟨Rb, 0, none⟩ = some (sl rb ro na rc) := fun x => x.h.cell (p := ⟨Rb, 0, none⟩) (fun h => h) yc
  have hVs : U.heap.size ≤ V.heap.size := kV.size
  clear KK kV rV yc
  refine wp_region_calmplan 8 [(true, 0), (true, 1), (true, 2), (false, 3), (false, 4), (true, 5), (false, 6), (true, 7)] (fun w' => ∃ x : Wld (fun U' => Kept (fun _ => False) V U'), w' = x.w) mixed (by kernel_rfl) (inS s0) ?_
  refine wpPlan_q (by rfl) ?_
  dsimp only [List.getElem_toArray, List.getElem_cons_zero, List.getElem_cons_succ]
  refine wpQuiet_run (.agg #[sl rb ro na rc, vi hb, .float .f64 xff, vi rw]) rfl (fun w hw => by obtain ⟨x, rfl⟩ := hw; exact xload_mid Rb 0 rfl [sl rb ro na rc, vi hb, .float .f64 xff, vi rw] _ (x.h.range (fun h => h) RV.out) Ybaz.underlying31 rfl (by kernel_rfl)) ?_
  simp only [Act.put, List.setIfInBounds_toArray, List.set_cons_succ, List.set_cons_zero]
  refine wpQuiet_nil ?_
  iterate 2 (refine wpPlan_q (by rfl) ?_; dsimp only [List.getElem_toArray, List.getElem_cons_zero, List.getElem_cons_succ]; go_big_quiet_step (fail); refine wpQuiet_nil ?_)
  refine wpPlan_e (by rfl) ?_
  dsimp only [List.getElem_toArray, List.getElem_cons_zero, List.getElem_cons_succ]
  go_wp2
  refine onward_normal (fun _ => inS s0) ?_
  refine wpPlan_e (by rfl) ?_
  dsimp only [List.getElem_toArray, List.getElem_cons_zero, List.getElem_cons_succ]
  refine wpList_makeN rfl _ _ 35 106 iA _ na na rfl Ybaz.underlying35 hiA hzA rfl rfl (Nat.le_refl _) (by rw [hbA]; omega) (by omega) ?_
  rw [hsA]
  refine wpList_done ?_
  simp only [Act.put, List.setIfInBounds_toArray, List.set_cons_succ, List.set_cons_zero]
  obtain ⟨arr, harr⟩ : ∃ arr : Array Value, madeCells (Value.agg #[vi 0, vi 0, vi 0, .float .f64 0, vi 0, .slice none 0 0, vi 0, vi 0]).cells (na * 8) = arr := ⟨_, rfl⟩
  have harrs : arr.size = na * 8 := by rw [← harr, made_size]
  rw [harr]
  have szd : V.drew.heap.size = V.heap.size := rfl
  rw [szd]
  obtain ⟨ab, hab⟩ : ∃ ab, V.heap.size = ab := ⟨_, rfl⟩
  have s1 : Kept (fun _ => False) V (V.drew.alloc (.cells arr 106)) := Kept.alloc s0 _
  refine onward_normal (fun _ => inS s1) ?_
  refine plan_as (fun W => Kept (fun _ => False) V W ∧ ab < W.heap.size ∧ ∀ j, j < na * 8 → (W.cell? ⟨ab, j, none⟩).isSome = true ∧ W.frozen? ⟨ab, j, none⟩ = false) ⟨s1, by rw [World.size_alloc, ← hab]; exact Nat.lt_succ_self _, th_block (by rw [← hab]; exact World.alloc_heap_new V.drew _) harrs⟩ ?_
  rw [hab]
  rintro V1 ⟨k1, hab1, th1⟩
  have K1 := hid k1
  have HAB := hid (show V.heap.size = ab ∧ ab < V1.heap.size from ⟨hab, hab1⟩)
  have TH1 := hid th1
  clear harr harrs szd s1 hab hab1 th1 k1 arr
  refine wpPlan_q (by rfl) ?_
  dsimp only [List.getElem_toArray, List.getElem_cons_zero, List.getElem_cons_succ]
  refine wpQuiet_run (.agg ([sl rb ro na rc, vi hb, .float .f64 xff, vi rw, sl ab 0 na na, .slice none 0 0, vi 0, vi 0, vi 0, vi 0, .float .f64 0, .bool false] : List Value).toArray) rfl (fun w _ => run_opbuild (fun W => by kernel_rfl)) ?_
  simp only [Act.put, List.setIfInBounds_toArray, List.set_cons_succ, List.set_cons_zero]
  refine wpQuiet_nil ?_
  refine wpPlan_e (by rfl) ?_
  dsimp only [List.getElem_toArray, List.getElem_cons_zero, List.getElem_cons_succ]
  refine wpList_box_as rfl 42 _ rfl ([sl rb ro na rc, vi hb, .float .f64 xff, vi rw, sl ab 0 na na, .slice none 0 0, vi 0, vi 0, vi 0, vi 0, .float .f64 0, .bool false] : List Value).toArray rfl (fun w => box42 _ w rfl) ?_
  refine wpList_done ?_
  simp only [Act.put, List.setIfInBounds_toArray, List.set_cons_succ, List.set_cons_zero]
  have k2 : Kept (fun _ => False) V (V1.alloc (.cells ([sl rb ro na rc, vi hb, .float .f64 xff, vi rw, sl ab 0 na na, .slice none 0 0, vi 0, vi 0, vi 0, vi 0, .float .f64 0, .bool false] : List Value).toArray 42)) := K1.out.alloc _
  have k12 : Kept (fun _ => False) V1 (V1.alloc (.cells ([sl rb ro na rc, vi hb, .float .f64 xff, vi rw, sl ab 0 na na, .slice none 0 0, vi 0, vi 0, vi 0, vi 0, .float .f64 0, .bool false] : List Value).toArray 42)) := (Kept.refl _ V1).alloc _
  refine onward_normal (fun _ => inS k2) ?_
  obtain ⟨sb, hsb⟩ : ∃ sb, V1.heap.size = sb := ⟨_, rfl⟩
  rw [hsb]
  (refine wpPlan_q (by rfl) ?_; dsimp only [List.getElem_toArray, List.getElem_cons_zero, List.getElem_cons_succ]; go_big_quiet_step (fail); refine wpQuiet_nil ?_)
  refine wpPlan_nil ?_
  refine calmQ_normal ?_
  refine q_as (fun X => NI U rb ro rc sb ab na st nn hb rw xff 0 X ∧ Kept (fun _ => False) V X) ⟨⟨KV.out.trans k2, by have := HAB.out; omega, by have := HAB.out; omega, by have := HAB.out; omega, by rw [← hsb]; exact range_new V1 [sl rb ro na rc, vi hb, .float .f64 xff, vi rw, sl ab 0 na na, .slice none 0 0, vi 0, vi 0, vi 0, vi 0, .float .f64 0, .bool false] 42, by rw [← hsb]; exact there_new V1 [sl rb ro na rc, vi hb, .float .f64 xff, vi rw, sl ab 0 na na, .slice none 0 0, vi 0, vi 0, vi 0, vi 0, .float .f64 0, .bool false] 42, fun j hj => by
    have e := k12.block ab HAB.out.2 (fun h => h)
    rw [World.cell?_of_block (a := ⟨ab, j, none⟩) e, World.frozen?_of_block (a := ⟨ab, j, none⟩) e]
    exact TH1.out j hj, fun j hj => by omega⟩, k2⟩ ?_
  rintro X0 ⟨ni0, kV0⟩
  have NI0 := hid ni0
  have y00 : X0.cell? ⟨Rb, 0, none⟩ = some (sl rb ro na rc) := kV0.cell (p := ⟨Rb, 0, none⟩) (fun h => h) (RV.out 0 _ rfl)
  have z0 := (H.out.kept ni0.k (fun h => h)).row 0 (by omega)
  have z00 : X0.cell? ⟨rb, ro, none⟩ = some (vi (st 0 * 1000000)) := by have := z0.1; rw [Nat.zero_mul, Nat.add_zero] at this; exact this
  obtain ⟨q0, hq0⟩ : ∃ q0, st 0 * 1000000 = q0 := ⟨_, rfl⟩
  have M0 := hid (MI.out 0 (by omega))
  rw [hq0] at z00 M0
  obtain ⟨s0', hs0⟩ : ∃ s0', st 0 = s0' := ⟨_, rfl⟩
  rw [hs0] at M0
  have HS0 := hid hs0
  clear ni0 kV0 k2 k12 hsb y0 nS s0 TH1 K1 HAB KV RV hq0 hs0 z0
  go_wp2_with (go_at_call 35; refine (M0.out _).mono ?_; rintro e W1 ⟨rfl, rfl⟩)
  clear z00 y00 M0
  go_loopw [25] (fun iv X => ∃ i : Nat, iv = vi i ∧ i ≤ na ∧ NI U rb ro rc sb ab na st nn hb rw xff i X) (fun iv _ => na - (intOf iv).toNat)
  case atStart => exact ⟨0, rfl, by omega, NI0.out⟩
  case round =>
    clear NI0
    obtain ⟨i, rfl, hi, ni⟩ := hrel
    have HI := hid hi
    have hii : (i : Int) ≤ 2 := by omega
    have NIH := hid ni
    clear hi ni
    by_cases more : (i : Int) < (na : Int)
    · have hin : i < na := by omega
      obtain ⟨z0, z1⟩ := (H.out.kept NIH.out.k (fun h => h)).row i hin
      obtain ⟨A, hA⟩ : ∃ A, st i * 1000000 = A := ⟨_, rfl⟩
      obtain ⟨B, hB⟩ : ∃ B, st i * nn i * 1000000 = B := ⟨_, rfl⟩
      obtain ⟨s, hs⟩ : ∃ s, st i = s := ⟨_, rfl⟩
      obtain ⟨m, hm⟩ : ∃ m, nn i = m := ⟨_, rfl⟩
      obtain ⟨g, hg⟩ : ∃ g, fuOf st i = g := ⟨_, rfl⟩
      have bd := H.out.bd i hin
      have SLT : Hid (∀ W, Calls Ybaz.prog 36 #[.agg #[vi A, vi B]] W fun e w' => e = .returned (vi m) ∧ Kept (fun _ => False) W w') := hid fun W => by
        have := slots_any (st i) (nn i) ⟨bd.1, bd.2.1⟩ bd.2.2 W
        rw [hA, hB, hm] at this
        exact this
      have M1 := hid (MI.out i hin)
      rw [hA, hs] at M1
      rw [hA] at z0
      rw [hB] at z1
      have hfg := HF.out i hin
      rw [hg] at hfg
      have SCL := hid (fun W => scale_any g (by omega) W)
      have eq1 : i ≠ 0 → (s : Int).tdiv (s0' : Int) = (g : Int) := fun h0 => by
        rw [← hs, ← HS0.out, ← hg, ← Int.ofNat_tdiv]
        unfold fuOf
        rw [if_neg h0]
      have eq0 : i = 0 → s = g := fun h0 => by
        rw [← hs, ← hg]
        unfold fuOf
        rw [if_pos h0, h0]
      have hs00 : 1000 ≤ s0' := by rw [← HS0.out]; exact (H.out.bd 0 (by omega)).1
      have HE := hid (show (i ≠ 0 → (s : Int).tdiv (s0' : Int) = (g : Int)) ∧ (i = 0 → s = g) ∧ 1000 ≤ s0' from ⟨eq1, eq0, hs00⟩)
      have HG := hid (show st i = s ∧ nn i = m ∧ fuOf st i = g ∧ i < na from ⟨hs, hm, hg, hin⟩)
      have bs : (s : Int) ≤ 60000 := by omega
      have bg : (g : Int) ≤ 60000 := by omega
      have ST := hid (run_storeAt_new (P := Ybaz.prog) wr 58 #[.int .i64 0, .int .i64 0] #[vi A, vi B] (by kernel_rfl) rfl (by simp [Value.oneCell']))
      clear hA hB hs hm hg bd hfg eq1 eq0 hs00 hin
      go_upto_region 6 with ((with_reducible (show wpList _ _ _ (⟨_, .store 58 _ _, _, _, _, _⟩ :: _) _ _)); refine wpList_store_as rfl 58 _ _ rfl rfl wr.heap.size 0 (.agg #[vi A, vi B]) rfl rfl ST.out ?_)
      clear z0 z1 more
      refine wp_as (fun Y => Kept (fun _ => False) wr Y ∧ Y.rangeAt wr.heap.size 0 [vi A, vi B]) ⟨(Kept.refl _ wr).alloc _, range_new wr [vi A, vi B] 58⟩ ?_
      rintro Y ⟨kY, rY⟩
      obtain ⟨Bk, hBk⟩ : ∃ Bk, wr.heap.size = Bk := ⟨_, rfl⟩
      rw [hBk] at rY ⊢
      have yA : Y.cell? ⟨Bk, 0, none⟩ = some (vi A) := rY 0 _ rfl
      have KY := hid kY
      have RY := hid rY
      clear kY rY hBk ST
      go_upto_region 8 with (go_at_call 35; refine (M1.out _).mono ?_; rintro e W1 ⟨rfl, rfl⟩)
      clear yA M1
      go_upto_if 35 with fail
      obtain ⟨tb, htb⟩ : ∃ tb, decide (0 < i) = tb := ⟨_, rfl⟩
      rw [htb]
      have HTB := hid htb
      clear htb
      go_cut [8] from 36 to 38 (fun v w' => v = vi g ∧ w' = W1)
      case first =>
        cases tb with
        | false =>
          have hi0 : i = 0 := by have := of_decide_eq_false HTB.out; omega
          have e1 := HE.out.2.1 hi0
          clear hi0
          subst e1
          go_wp2
          go_meet
          case rel => exact ⟨rfl, rfl⟩
        | true =>
          have hi0 : i ≠ 0 := by have := of_decide_eq_true HTB.out; omega
          have e1 := HE.out.1 hi0
          have hs2 : ((s0' : Int) == 0) = false := by simp; have := HE.out.2.2; omega
          have hs3 : ¬ (s0' : Int) = 0 := by have := HE.out.2.2; omega
          clear hi0
          go_wp2
          go_meet
          case rel => exact ⟨rfl, rfl⟩
      case rest =>
        obtain ⟨rfl, ew⟩ := hcut
        rw [ew]
        clear ew
        have ha0 := NIH.out.lt (by omega)
        have niY := NIH.out.kept KY.out ha0
        have haY := niY.lt (by omega)
        have yS : W1.cell? ⟨sb, 4, none⟩ = some (sl ab 0 na na) := by have := niY.ra 4 _ rfl; rw [Nat.zero_add] at this; exact this
        have s0 : Kept (fun _ => False) W1 W1.drew := (Kept.refl _ W1).drew
        haveI nS : Nonempty (Wld (fun U' => Kept (fun _ => False) W1 U')) := ⟨⟨W1.drew, s0⟩⟩
        have y4 : ∀ x : Wld (fun U' => Kept (fun _ => False) W1 U'), x.w.cell? ⟨sb, 4, none⟩ = some (sl ab 0 na na) := fun x => x.h.cell (p := ⟨sb, 4, none⟩) (fun h => h) yS
        have hin : (i : Int) < (na : Int) := by have := HG.out; omega
        have NIY := hid niY
        have HAY := hid haY
        clear niY haY ha0 yS NIH KY
        go_upto_region 10 with fail
        refine wp_region_calmplan 13 [(true, 0), (true, 1), (true, 2), (true, 3), (true, 4), (true, 5), (true, 6), (true, 8), (true, 9), (false, 7), (false, 10), (true, 11), (true, 12), (false, 13)] (fun w' => ∃ x : Wld (fun U' => Kept (fun _ => False) W1 U'), w' = x.w) mixed (by kernel_rfl) (inS s0) ?_
        iterate 6 (refine wpPlan_q (by rfl) ?_; dsimp only [List.getElem_toArray, List.getElem_cons_zero, List.getElem_cons_succ]; go_big_quiet_step (fail); refine wpQuiet_nil ?_)
        refine wpPlan_q (by rfl) ?_
        dsimp only [List.getElem_toArray, List.getElem_cons_zero, List.getElem_cons_succ]
        refine wpQuiet_run (.agg #[vi A, vi B]) rfl (fun w hw => by obtain ⟨x, rfl⟩ := hw; exact xload_mid Bk 0 rfl [vi A, vi B] _ (x.h.range (fun h => h) RY.out) Ybaz.underlying58 rfl (by kernel_rfl)) ?_
        simp only [Act.put, List.setIfInBounds_toArray, List.set_cons_succ, List.set_cons_zero]
        refine wpQuiet_nil ?_
        iterate 2 (refine wpPlan_q (by rfl) ?_; dsimp only [List.getElem_toArray, List.getElem_cons_zero, List.getElem_cons_succ]; go_big_quiet_step (fail); refine wpQuiet_nil ?_)
        refine wpPlan_e (by rfl) ?_
        dsimp only [List.getElem_toArray, List.getElem_cons_zero, List.getElem_cons_succ]
        go_wp2_with (go_at_call 36; refine (SLT.out _).mono ?_; rintro e W2 ⟨rfl, k2⟩; have K2 := hid (s0.trans k2); clear k2)
        refine onward_normal (fun _ => inS K2.out) ?_
        refine wpPlan_e (by rfl) ?_
        dsimp only [List.getElem_toArray, List.getElem_cons_zero, List.getElem_cons_succ]
        go_wp2_with (go_at_call 37; refine (SCL.out _).mono ?_; rintro e W3 ⟨⟨fr, rfl⟩, hd⟩; have K3 := hid (K2.out.trans hd.kept); clear hd)
        refine onward_normal (fun _ => inS K3.out) ?_
        refine wpPlan_q (by rfl) ?_
        dsimp only [List.getElem_toArray, List.getElem_cons_zero, List.getElem_cons_succ]
        refine wpQuiet_run (.agg #[vi s, vi m, vi g, .float .f64 fr, vi 0, .slice none 0 0, vi 0, vi 0]) rfl (fun w _ => run_opbuild (fun W => by kernel_rfl)) ?_
        simp only [Act.put, List.setIfInBounds_toArray, List.set_cons_succ, List.set_cons_zero]
        refine wpQuiet_nil ?_
        (refine wpPlan_q (by rfl) ?_; dsimp only [List.getElem_toArray, List.getElem_cons_zero, List.getElem_cons_succ]; go_big_quiet_step (fail); refine wpQuiet_nil ?_)
        refine wpPlan_e (by rfl) ?_
        dsimp only [List.getElem_toArray, List.getElem_cons_zero, List.getElem_cons_succ]
        have ni3 := NIY.out.kept K3.out HAY.out
        refine wpList_store_mid rfl 106 _ _ rfl ab (i * 8) #[vi s, vi m, vi g, .float .f64 fr, vi 0, .slice none 0 0, vi 0, vi 0] rfl rfl (fun j hj => ni3.ta (i * 8 + j) (by have := HG.out.2.2.2; simp at hj; omega)) (by kernel_rfl) (by simp [Value.oneCell']) ?_
        refine wpList_done ?_
        refine onward_normal (fun h => by cases h) ?_
        refine wpPlan_nil ?_
        refine calmQ_normal ?_
        refine q_as (fun X => NI U rb ro rc sb ab na st nn hb rw xff (i + 1) X) (by
          have hin := HG.out.2.2.2
          have := ni3.lay (by omega) hin fr (H.out.bd i hin) (HF.out i hin).2
          rw [HG.out.1, HG.out.2.1, HG.out.2.2.1] at this
          exact this) ?_
        intro X ni4
        have NI4 := hid ni4
        clear ni4 ni3 y4 nS s0 K2 K3 hin
        go_wp2
        go_roundw
        case rel => exact ⟨i + 1, by simp, HG.out.2.2.2, NI4.out⟩
        case measure =>
          have := HG.out.2.2.2
          simp [intOf]
          omega
    · go_wp2
      go_ret
      have e : i = na := by have := HI.out; omega
      subst e
      exact NI.done NIH.out H.out.hna HB.out.1 HB.out.2
end Go.Proofs.YbulkdsjeGreatDoor
