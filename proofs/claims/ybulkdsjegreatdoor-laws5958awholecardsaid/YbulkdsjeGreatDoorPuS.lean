import Derived.Test.YbulkdsjeGreatDoorPu
import Derived.Test.YbulkdsjeGreatDoorCkS
set_option linter.unusedVariables false
set_option linter.unusedSimpArgs false
namespace Go.Proofs.YbulkdsjeGreatDoor
open Go.RowKit

theorem Ybaz.info143 : (Ybaz.prog.info? 143).map (fun i => (i.zero, i.size, i.bytes)) = some (some (.agg #[.int .i64 0, .float .f64 0]), 2, 16) := by kernel_rfl
theorem Ybaz.info173 : (Ybaz.prog.info? 173).map (fun i => (i.zero, i.size, i.bytes)) = some (some (.agg #[.slice none 0 0, .int .i64 0]), 2, 32) := by kernel_rfl
theorem bldS (sa : Option Addr) (n c : Nat) (w : World) : Sem.run Ybaz.prog (Instr.build 173 #[(0, .slice sa n c)]) w = .ok (.agg #[.slice sa n c, .int .i64 0]) w := by kernel_rfl

set_option maxRecDepth 100000 in
set_option maxHeartbeats 4000000 in
theorem pushS_any (S : Nat → Prop) (b o d n : Nat) (f : Nat → Int) (x1 : Int) (x2 : Nat) (U : World) (h : CK U S b o d n f) (hbd : d + n < 17179869184) : Calls Ybaz.prog 111 #[.pointer (some ⟨b, o, none⟩), .agg #[ii x1, .float .f64 x2]] U fun e w' => e = .returned (.tuple #[]) ∧ PuP U S b o d n f x1 w' := by
  obtain ⟨iT, hiT, hzT, hsT, hbT⟩ := info_parts Ybaz.info143
  obtain ⟨iC, hiC, hzC, hsC, hbC⟩ := info_parts Ybaz.info173
  obtain ⟨sv, m, Cb, co, cc, I, cp, hx⟩ := h
  have bld := bldS
  have k0 : Kept (fun _ => False) U (U.alloc (.cells #[ii x1, .float .f64 x2] 143)) := (Kept.refl _ U).alloc _
  have hU : Hid (∀ x, S x → x < U.heap.size) := hid hx.slt
  have HbU := hid (World.block_lt_of_cell? U _ hx.c0)
  have EN := hid (show CX (U.alloc (.cells #[ii x1, .float .f64 x2] 143)) S b o d n f sv m Cb co cc I cp ∧ Kept (fun _ => False) U (U.alloc (.cells #[ii x1, .float .f64 x2] 143)) ∧ (U.alloc (.cells #[ii x1, .float .f64 x2] 143)).cell? ⟨U.heap.size, 0, none⟩ = some (ii x1) ∧ (U.alloc (.cells #[ii x1, .float .f64 x2] 143)).cell? ⟨U.heap.size, 1, none⟩ = some (.float .f64 x2) from ⟨hx.kept k0 (fun h => h) (fun _ _ h => h), k0, range_new U [ii x1, .float .f64 x2] 143 0 _ rfl, range_new U [ii x1, .float .f64 x2] 143 1 _ rfl⟩)
  clear hx k0
  go_enter Ybaz.func111, Ybaz.ntmps111
  go_upto_region 1 with fail
  refine wp_as (fun V => CX V S b o d n f sv m Cb co cc I cp ∧ Kept (fun _ => False) U V ∧ V.cell? ⟨U.heap.size, 0, none⟩ = some (ii x1) ∧ V.cell? ⟨U.heap.size, 1, none⟩ = some (.float .f64 x2)) EN.out ?_
  clear EN
  rintro V ⟨hx, kV, xa, xb⟩
  obtain ⟨xB, hxB⟩ : ∃ xB, U.heap.size = xB := ⟨_, rfl⟩
  rw [hxB] at xa xb ⊢
  have XB := hid hxB
  have KV := hid kV
  have XA := hid (show V.cell? ⟨xB, 0, none⟩ = some (ii x1) ∧ V.cell? ⟨xB, 1, none⟩ = some (.float .f64 x2) from ⟨xa, xb⟩)
  have HX := hid hx
  have c0 := hx.c0
  obtain ⟨sa, sc, esv⟩ : ∃ sa sc, sv = .slice sa m sc := by
    rcases hx.form with ⟨h0, h1⟩ | ⟨h0, h1⟩
    · exact ⟨none, 0, by rw [h1, h0]⟩
    · exact ⟨_, _, h1⟩
  rw [esv] at c0
  have hm40 : m ≤ 1099511627776 := by have := hx.lo; omega
  have HB := hid hbd
  clear hx kV xa xb hxB hbd
  go_upto_region 2 with fail
  obtain ⟨B, hB⟩ : ∃ B, decide (d + n = 256 * m) = B := ⟨_, rfl⟩
  have HBB := hid hB
  clear hB
  obtain ⟨l, hl⟩ : ∃ l : Int, (m : Int) - 1 = l := ⟨_, rfl⟩
  rw [hl]
  have HL := hid hl
  clear hl
  go_cut [26] from 13 to 26 (fun v w' => v = .bool B ∧ w' = V)
  case first =>
    by_cases hm0 : m = 0
    · have eB : B = true := by
        rw [← HBB.out, decide_eq_true_iff]
        have := HX.out.hi
        omega
      have hl00 : l < 0 := by have := HL.out; omega
      clear hm0
      go_wp2
      go_meet
      case rel => exact ⟨by rw [eB], rfl⟩
    · obtain ⟨y0, _⟩ := HX.out.ch (m - 1) (by omega)
      have esv2 : sv = sl Cb co m cc := by
        rcases HX.out.form with ⟨h0, _⟩ | ⟨_, h1⟩
        · omega
        · exact h1
      rw [esv2] at esv
      injection esv with e1 e2 e3
      subst e1
      subst e3
      have hl0 : (0 : Int) ≤ l := by have := HL.out; omega
      have hl00 : ¬ l < 0 := by omega
      have hl1 : l < (m : Int) := by have := HL.out; omega
      rw [show m - 1 = l.toNat by have := HL.out; omega] at y0
      obtain ⟨Iq, hIq⟩ : ∃ Iq, I l.toNat = Iq := ⟨_, rfl⟩
      obtain ⟨cq, hcq⟩ : ∃ cq, cp l.toNat = cq := ⟨_, rfl⟩
      rw [hIq, hcq] at y0
      obtain ⟨L, hL⟩ : ∃ L, min 256 (d + n - 256 * l.toNat) = L := ⟨_, rfl⟩
      rw [hL] at y0
      have eB : ((L : Int) == 256) = B := by
        rw [← HBB.out]
        have := HX.out.hi
        have := HX.out.lo
        have := HL.out
        by_cases e : d + n = 256 * m
        · rw [decide_eq_true e]
          have : L = 256 := by omega
          subst this
          rfl
        · rw [decide_eq_false e]
          have : (L : Int) ≠ 256 := by omega
          simpa using this
      go_wp2
      go_meet
      case rel => exact ⟨rfl, rfl⟩
  case rest =>
    obtain ⟨rfl, ew⟩ := hcut
    rw [ew]
    clear ew
    go_upto_if 26 with fail
    go_cut [4] from 5 to 42 (fun v w' => ∃ q : Nat, v = vi q ∧ PuQ V S b o d n f q w')
    case first =>
      cases B with
      | false =>
        have hm0 : 0 < m := by
          have h1 := of_decide_eq_false HBB.out
          have := HX.out.hi
          omega
        go_wp2
        go_meet
        case rel =>
          have h1 := of_decide_eq_false HBB.out
          have h2 := HX.out.hi
          have h3 := HX.out.lo
          obtain ⟨q, rfl⟩ : ∃ q, m = q + 1 := ⟨m - 1, by omega⟩
          exact ⟨q, by have := HL.out; simp; omega, S, _, _, _, _, _, _, HX.out.toCY, by omega, by omega, FP.refl _ _, fun c hc => .inl hc⟩
      | true =>
        have hfull := of_decide_eq_true HBB.out
        by_cases hm0 : m = 0
        · subst hm0
          have s0 : KC 0 Cb V V.drew := (Kept.refl (fun c => 0 < 0 ∧ c = Cb) V).drew
          haveI nS : Nonempty (Wld (KC 0 Cb V)) := ⟨⟨V.drew, s0⟩⟩
          have y0 : ∀ x : Wld (KC 0 Cb V), x.w.cell? ⟨b, o, none⟩ = some (.slice sa 0 sc) := fun x => Kept.cell (p := ⟨b, o, none⟩) x.h (fun h => by omega) c0
          have hl00 : l < 0 := by have := HL.out; omega
          go_upto_region 6 with fail
          clear hl00
          refine wp_region_calmplan 12 [(true, 0), (true, 1), (true, 2), (true, 3), (true, 4), (true, 5), (false, 6), (true, 7), (false, 8), (false, 9), (true, 10), (true, 11), (false, 12)] (fun w' => ∃ x : Wld (KC 0 Cb V), w' = x.w) mixed (by kernel_rfl) (inS s0) ?_
          iterate 6 (refine wpPlan_q (by rfl) ?_; dsimp only [List.getElem_toArray, List.getElem_cons_zero, List.getElem_cons_succ]; go_big_quiet_step (fail); refine wpQuiet_nil ?_)
          refine wpPlan_e (by rfl) ?_
          dsimp only [List.getElem_toArray, List.getElem_cons_zero, List.getElem_cons_succ]
          refine wpList_makeN rfl _ _ 171 143 iT _ 0 4 rfl Ybaz.underlying171 hiT hzT rfl rfl (by omega) (by rw [hbT]; omega) (by omega) ?_
          rw [hsT]
          refine wpList_done ?_
          simp only [Act.put, List.setIfInBounds_toArray, List.set_cons_succ, List.set_cons_zero]
          obtain ⟨arr, harr⟩ : ∃ arr : Array Value, madeCells (Value.agg #[.int .i64 0, .float .f64 0]).cells (4 * 2) = arr := ⟨_, rfl⟩
          have harrs : arr.size = 4 * 2 := by rw [← harr, made_size]
          rw [harr]
          have szd : V.drew.heap.size = V.heap.size := rfl
          rw [szd]
          obtain ⟨NB, hNB⟩ : ∃ NB, V.heap.size = NB := ⟨_, rfl⟩
          have s1 : KC 0 Cb V (V.drew.alloc (.cells arr 143)) := Kept.alloc s0 _
          refine onward_normal (fun _ => inS s1) ?_
          refine plan_as (fun W => Kept (fun _ => False) V W ∧ NB < W.heap.size ∧ ∀ j, j < 4 * 2 → (W.cell? ⟨NB, j, none⟩).isSome = true ∧ W.frozen? ⟨NB, j, none⟩ = false) ⟨((Kept.refl _ V).drew).alloc _, by rw [World.size_alloc, ← hNB]; exact Nat.lt_succ_self _, th_block (by rw [← hNB]; exact World.alloc_heap_new V.drew _) harrs⟩ ?_
          rw [hNB]
          rintro V1 ⟨k1, hNB1, th1⟩
          have HN := hid hNB
          have HN1 := hid hNB1
          have TH1 := hid th1
          have K1 := hid k1
          clear harr harrs szd s1 hNB hNB1 th1 k1 arr
          refine wpPlan_q (by rfl) ?_
          dsimp only [List.getElem_toArray, List.getElem_cons_zero, List.getElem_cons_succ]
          refine wpQuiet_run (.agg #[sl NB 0 0 4, vi 0]) rfl (fun w _ => run_opbuild (fun W => by kernel_rfl)) ?_
          simp only [Act.put, List.setIfInBounds_toArray, List.set_cons_succ, List.set_cons_zero]
          refine wpQuiet_nil ?_
          refine wpPlan_e (by rfl) ?_
          dsimp only [List.getElem_toArray, List.getElem_cons_zero, List.getElem_cons_succ]
          go_wp2
          have v1a : (V1.alloc (.cells #[sl NB 0 0 4, vi 0] 173)).cell? ⟨V1.heap.size, 0, none⟩ = some (sl NB 0 0 4) := range_new V1 [sl NB 0 0 4, vi 0] 173 0 _ rfl
          have v1b : (V1.alloc (.cells #[sl NB 0 0 4, vi 0] 173)).cell? ⟨V1.heap.size, 1, none⟩ = some (vi 0) := range_new V1 [sl NB 0 0 4, vi 0] 173 1 _ rfl
          have k2 : Kept (fun _ => False) V (V1.alloc (.cells #[sl NB 0 0 4, vi 0] 173)) := K1.out.alloc _
          have k12 : Kept (fun _ => False) V1 (V1.alloc (.cells #[sl NB 0 0 4, vi 0] 173)) := (Kept.refl _ V1).alloc _
          have s2 : KC 0 Cb V (V1.alloc (.cells #[sl NB 0 0 4, vi 0] 173)) := k2.weak (fun _ _ h => h.elim)
          refine onward_normal (fun _ => inS s2) ?_
          obtain ⟨BB, hBB⟩ : ∃ BB, V1.heap.size = BB := ⟨_, rfl⟩
          rw [hBB] at v1a v1b
          refine plan_as (fun W => Kept (fun _ => False) V W ∧ NB < W.heap.size ∧ (∀ j, j < 4 * 2 → (W.cell? ⟨NB, j, none⟩).isSome = true ∧ W.frozen? ⟨NB, j, none⟩ = false) ∧ W.cell? ⟨BB, 0, none⟩ = some (sl NB 0 0 4) ∧ W.cell? ⟨BB, 1, none⟩ = some (vi 0)) ⟨k2, by rw [World.size_alloc]; exact Nat.lt_succ_of_lt HN1.out, fun j hj => by
            have := TH1.out j hj
            have e := k12.block NB HN1.out (fun h => h)
            rw [World.cell?_of_block (a := ⟨NB, j, none⟩) e, World.frozen?_of_block (a := ⟨NB, j, none⟩) e]
            exact this, v1a, v1b⟩ ?_
          rw [hBB]
          rintro V2 ⟨k2', hNB2, th2, bb1, bb2⟩
          clear k2 k12 s2 v1a v1b TH1 K1 HN1 hBB
          have HY := hid (HX.out.kept k2' (fun h => h) (fun _ _ h => h))
          have hC : 0 < 0 → Cb < V2.heap.size := fun hm => HY.out.slt _ (HY.out.oc hm)
          have K2 := hid k2'
          have HN2 := hid hNB2
          have TH2 := hid th2
          clear k2' hNB2 th2
          refine wpPlan_e (by rfl) ?_
          dsimp only [List.getElem_toArray, List.getElem_cons_zero, List.getElem_cons_succ]
          refine wpList_app2 rfl _ _ 102 173 iC _ rfl Ybaz.underlying102 hiC hzC hsC rfl (by rw [hbC]; omega) sv Cb co 0 cc esv.symm HY.out.form HY.out.mcc HY.out.row hC BB (sl NB 0 0 4) (vi 0) rfl bb1 bb2 rfl rfl hm40 ?_
          intro Cb' co' cc' V3 ap
          refine wpList_done ?_
          simp only [Act.put, List.setIfInBounds_toArray, List.set_cons_succ, List.set_cons_zero]
          have AP := hid ap
          have s3 : KC 0 Cb V V3 := (K2.out.weak (fun _ _ h => h.elim)).trans ap.kept
          refine onward_normal (fun _ => inS s3) ?_
          iterate 2 (refine wpPlan_q (by rfl) ?_; dsimp only [List.getElem_toArray, List.getElem_cons_zero, List.getElem_cons_succ]; go_big_quiet_step (fail); refine wpQuiet_nil ?_)
          obtain ⟨cb3, fb3⟩ := PuQ.bo HX.out K2.out ap
          refine wpPlan_e (by rfl) ?_
          dsimp only [List.getElem_toArray, List.getElem_cons_zero, List.getElem_cons_succ]
          refine wpList_store_as rfl 102 _ _ rfl rfl b o (sl Cb' co' (0 + 1) cc') rfl rfl (storeSl 102 173 Ybaz.underlying102 (fun W => by kernel_rfl) V3 b o _ _ _ (by rw [cb3]; rfl) fb3) ?_
          refine wpList_done ?_
          refine onward_normal (fun h => by cases h) ?_
          refine wpPlan_nil ?_
          refine calmQ_normal ?_
          refine q_as (fun X => PuQ V S b o d n f 0 X) (PuQ.make HX.out hfull K2.out HN.out HN2.out TH2.out (by omega) (by omega) AP.out) ?_
          intro X px
          have PX := hid px
          clear px fb3 cb3 s3 ap AP bb1 bb2 hC HY K2 HN2 TH2 s0 nS y0
          have hl1 : l + 1 = (0 : Int) := by have := HL.out; omega
          go_wp2
          go_meet
          case rel => exact ⟨0, by simp [hl1], PX.out⟩

        · have s0 : KC m Cb V V.drew := (Kept.refl (fun c => 0 < m ∧ c = Cb) V).drew
          haveI nS : Nonempty (Wld (KC m Cb V)) := ⟨⟨V.drew, s0⟩⟩
          have y0 : ∀ x : Wld (KC m Cb V), x.w.cell? ⟨b, o, none⟩ = some (.slice sa m sc) := fun x => Kept.cell (p := ⟨b, o, none⟩) x.h (fun h => HX.out.sb (by show S b; rw [show b = Cb from h.2]; exact HX.out.oc h.1)) c0
          have hl00 : ¬ l < 0 := by have := HL.out; omega
          go_upto_region 6 with fail
          clear hl00
          refine wp_region_calmplan 12 [(true, 0), (true, 1), (true, 2), (true, 3), (true, 4), (true, 5), (false, 6), (true, 7), (false, 8), (false, 9), (true, 10), (true, 11), (false, 12)] (fun w' => ∃ x : Wld (KC m Cb V), w' = x.w) mixed (by kernel_rfl) (inS s0) ?_
          iterate 6 (refine wpPlan_q (by rfl) ?_; dsimp only [List.getElem_toArray, List.getElem_cons_zero, List.getElem_cons_succ]; go_big_quiet_step (fail); refine wpQuiet_nil ?_)
          refine wpPlan_e (by rfl) ?_
          dsimp only [List.getElem_toArray, List.getElem_cons_zero, List.getElem_cons_succ]
          refine wpList_makeN rfl _ _ 171 143 iT _ 0 256 rfl Ybaz.underlying171 hiT hzT rfl rfl (by omega) (by rw [hbT]; omega) (by omega) ?_
          rw [hsT]
          refine wpList_done ?_
          simp only [Act.put, List.setIfInBounds_toArray, List.set_cons_succ, List.set_cons_zero]
          obtain ⟨arr, harr⟩ : ∃ arr : Array Value, madeCells (Value.agg #[.int .i64 0, .float .f64 0]).cells (256 * 2) = arr := ⟨_, rfl⟩
          have harrs : arr.size = 256 * 2 := by rw [← harr, made_size]
          rw [harr]
          have szd : V.drew.heap.size = V.heap.size := rfl
          rw [szd]
          obtain ⟨NB, hNB⟩ : ∃ NB, V.heap.size = NB := ⟨_, rfl⟩
          have s1 : KC m Cb V (V.drew.alloc (.cells arr 143)) := Kept.alloc s0 _
          refine onward_normal (fun _ => inS s1) ?_
          refine plan_as (fun W => Kept (fun _ => False) V W ∧ NB < W.heap.size ∧ ∀ j, j < 256 * 2 → (W.cell? ⟨NB, j, none⟩).isSome = true ∧ W.frozen? ⟨NB, j, none⟩ = false) ⟨((Kept.refl _ V).drew).alloc _, by rw [World.size_alloc, ← hNB]; exact Nat.lt_succ_self _, th_block (by rw [← hNB]; exact World.alloc_heap_new V.drew _) harrs⟩ ?_
          rw [hNB]
          rintro V1 ⟨k1, hNB1, th1⟩
          have HN := hid hNB
          have HN1 := hid hNB1
          have TH1 := hid th1
          have K1 := hid k1
          clear harr harrs szd s1 hNB hNB1 th1 k1 arr
          refine wpPlan_q (by rfl) ?_
          dsimp only [List.getElem_toArray, List.getElem_cons_zero, List.getElem_cons_succ]
          refine wpQuiet_run (.agg #[sl NB 0 0 256, vi 0]) rfl (fun w _ => run_opbuild (fun W => by kernel_rfl)) ?_
          simp only [Act.put, List.setIfInBounds_toArray, List.set_cons_succ, List.set_cons_zero]
          refine wpQuiet_nil ?_
          refine wpPlan_e (by rfl) ?_
          dsimp only [List.getElem_toArray, List.getElem_cons_zero, List.getElem_cons_succ]
          go_wp2
          have v1a : (V1.alloc (.cells #[sl NB 0 0 256, vi 0] 173)).cell? ⟨V1.heap.size, 0, none⟩ = some (sl NB 0 0 256) := range_new V1 [sl NB 0 0 256, vi 0] 173 0 _ rfl
          have v1b : (V1.alloc (.cells #[sl NB 0 0 256, vi 0] 173)).cell? ⟨V1.heap.size, 1, none⟩ = some (vi 0) := range_new V1 [sl NB 0 0 256, vi 0] 173 1 _ rfl
          have k2 : Kept (fun _ => False) V (V1.alloc (.cells #[sl NB 0 0 256, vi 0] 173)) := K1.out.alloc _
          have k12 : Kept (fun _ => False) V1 (V1.alloc (.cells #[sl NB 0 0 256, vi 0] 173)) := (Kept.refl _ V1).alloc _
          have s2 : KC m Cb V (V1.alloc (.cells #[sl NB 0 0 256, vi 0] 173)) := k2.weak (fun _ _ h => h.elim)
          refine onward_normal (fun _ => inS s2) ?_
          obtain ⟨BB, hBB⟩ : ∃ BB, V1.heap.size = BB := ⟨_, rfl⟩
          rw [hBB] at v1a v1b
          refine plan_as (fun W => Kept (fun _ => False) V W ∧ NB < W.heap.size ∧ (∀ j, j < 256 * 2 → (W.cell? ⟨NB, j, none⟩).isSome = true ∧ W.frozen? ⟨NB, j, none⟩ = false) ∧ W.cell? ⟨BB, 0, none⟩ = some (sl NB 0 0 256) ∧ W.cell? ⟨BB, 1, none⟩ = some (vi 0)) ⟨k2, by rw [World.size_alloc]; exact Nat.lt_succ_of_lt HN1.out, fun j hj => by
            have := TH1.out j hj
            have e := k12.block NB HN1.out (fun h => h)
            rw [World.cell?_of_block (a := ⟨NB, j, none⟩) e, World.frozen?_of_block (a := ⟨NB, j, none⟩) e]
            exact this, v1a, v1b⟩ ?_
          rw [hBB]
          rintro V2 ⟨k2', hNB2, th2, bb1, bb2⟩
          clear k2 k12 s2 v1a v1b TH1 K1 HN1 hBB
          have HY := hid (HX.out.kept k2' (fun h => h) (fun _ _ h => h))
          have hC : 0 < m → Cb < V2.heap.size := fun hm => HY.out.slt _ (HY.out.oc hm)
          have K2 := hid k2'
          have HN2 := hid hNB2
          have TH2 := hid th2
          clear k2' hNB2 th2
          refine wpPlan_e (by rfl) ?_
          dsimp only [List.getElem_toArray, List.getElem_cons_zero, List.getElem_cons_succ]
          refine wpList_app2 rfl _ _ 102 173 iC _ rfl Ybaz.underlying102 hiC hzC hsC rfl (by rw [hbC]; omega) sv Cb co m cc esv.symm HY.out.form HY.out.mcc HY.out.row hC BB (sl NB 0 0 256) (vi 0) rfl bb1 bb2 rfl rfl hm40 ?_
          intro Cb' co' cc' V3 ap
          refine wpList_done ?_
          simp only [Act.put, List.setIfInBounds_toArray, List.set_cons_succ, List.set_cons_zero]
          have AP := hid ap
          have s3 : KC m Cb V V3 := (K2.out.weak (fun _ _ h => h.elim)).trans ap.kept
          refine onward_normal (fun _ => inS s3) ?_
          iterate 2 (refine wpPlan_q (by rfl) ?_; dsimp only [List.getElem_toArray, List.getElem_cons_zero, List.getElem_cons_succ]; go_big_quiet_step (fail); refine wpQuiet_nil ?_)
          obtain ⟨cb3, fb3⟩ := PuQ.bo HX.out K2.out ap
          refine wpPlan_e (by rfl) ?_
          dsimp only [List.getElem_toArray, List.getElem_cons_zero, List.getElem_cons_succ]
          refine wpList_store_as rfl 102 _ _ rfl rfl b o (sl Cb' co' (m + 1) cc') rfl rfl (storeSl 102 173 Ybaz.underlying102 (fun W => by kernel_rfl) V3 b o _ _ _ (by rw [cb3]; rfl) fb3) ?_
          refine wpList_done ?_
          refine onward_normal (fun h => by cases h) ?_
          refine wpPlan_nil ?_
          refine calmQ_normal ?_
          refine q_as (fun X => PuQ V S b o d n f m X) (PuQ.make HX.out hfull K2.out HN.out HN2.out TH2.out (by omega) (by omega) AP.out) ?_
          intro X px
          have PX := hid px
          clear px fb3 cb3 s3 ap AP bb1 bb2 hC HY K2 HN2 TH2 s0 nS y0
          have hl1 : l + 1 = (m : Int) := by have := HL.out; omega
          go_wp2
          go_meet
          case rel => exact ⟨m, by simp [hl1], PX.out⟩

    case rest =>
      obtain ⟨q, rfl, S1, sv1, Cb1, co1, cc1, I1, cp1, hy, hq1, hq2, fp1, hS1⟩ := hcut
      clear HX c0 esv hm40 HBB HL
      have esv1 : sv1 = sl Cb1 co1 (q + 1) cc1 := by
        rcases hy.form with ⟨h0, _⟩ | ⟨_, h1⟩
        · omega
        · exact h1
      have c0 := hy.c0
      rw [esv1] at c0
      obtain ⟨L, hL⟩ : ∃ L, d + n - 256 * q = L := ⟨_, rfl⟩
      have hL2 : min 256 (d + n - 256 * q) = L := by omega
      obtain ⟨y0, y1⟩ := hy.ch q (by omega)
      rw [hL2] at y0
      have hqi : (q : Int) < ((q + 1 : Nat) : Int) := by omega
      have hcp := hy.cpl q (by omega)
      have HY := hid hy
      have F1 := hid fp1
      have S1H := hid hS1
      have HQ := hid (show d + n = 256 * q + L ∧ L < 256 from ⟨by omega, by omega⟩)
      obtain ⟨Iq, hIq⟩ : ∃ Iq, I1 q = Iq := ⟨_, rfl⟩
      obtain ⟨cq, hcq⟩ : ∃ cq, cp1 q = cq := ⟨_, rfl⟩
      rw [hIq, hcq] at y0
      rw [hcq, hL2] at hcp
      have HCP := hid hcp
      have HI := hid (show I1 q = Iq ∧ cp1 q = cq from ⟨hIq, hcq⟩)
      have OW := hid (fun W (hW : W.cell? ⟨Cb1, co1 + q * 2 + 1, none⟩ = some (vi 0)) => ownS_any Cb1 (co1 + q * 2) L W hW)
      clear hy fp1 hS1 hq1 hq2 hL hL2 hcp hIq hcq
      rename_i W1 _ _
      go_upto_region 10 with (go_at_call 119; refine (OW.out _ y1).mono ?_; rintro e W2 ⟨rfl, rfl⟩)
      go_quiet (fail)
      clear OW
      have k20 : Kept (fun _ => False) W2 (W2.drewN nq) := Dr.kept ⟨nq, rfl⟩
      have HT := hid (show CY (W2.drewN nq) S1 b o d n f sv1 (q + 1) Cb1 co1 cc1 I1 cp1 ∧ FP V (W2.drewN nq) (fun c j => S c ∨ (c = b ∧ j = o)) from ⟨HY.out.kept k20 (fun h => h) (fun _ _ h => h), F1.out.trans ((FP.calm k20).mono (fun _ _ _ h => h.elim))⟩)
      refine q_as (fun X => CY X S1 b o d n f sv1 (q + 1) Cb1 co1 cc1 I1 cp1 ∧ FP V X (fun c j => S c ∨ (c = b ∧ j = o))) HT.out ?_
      clear HT k20 HY F1 y0 y1 c0
      rintro X ⟨hy, fp1⟩
      obtain ⟨B2, hB2⟩ : ∃ B2, ((L : Int) == (cq : Int)) = B2 := ⟨_, rfl⟩
      rw [hB2]
      have HB2 := hid hB2
      have HY := hid hy
      have F1 := hid fp1
      clear hy fp1 hB2
      go_upto_if 66 with fail
      go_cut [] from 67 to 85 (fun w' => PuT V S b o d n f q Cb1 co1 cc1 sv1 w')
      case first =>
        cases B2 with
        | false =>
          go_wp2
          go_meet
          case rel =>
            have h1 : (L : Int) ≠ (cq : Int) := by simpa using HB2.out
            have h2 := HCP.out.1
            have h3 := HQ.out
            exact ⟨S1, I1, cp1, HY.out, by rw [HI.out.2]; omega, F1.out, S1H.out⟩
        | true =>
          have eLc : L = cq := by
            have h1 : (L : Int) = (cq : Int) := by simpa using HB2.out
            omega
          have s0 : KC 0 0 X X.drew := (Kept.refl (fun c => 0 < 0 ∧ c = 0) X).drew
          haveI nS : Nonempty (Wld (KC 0 0 X)) := ⟨⟨X.drew, s0⟩⟩
          have y0 := (HY.out.ch q (by omega)).1
          rw [show min 256 (d + n - 256 * q) = L by have := HQ.out; omega, HI.out.1, HI.out.2] at y0
          have z0 : ∀ x : Wld (KC 0 0 X), x.w.cell? ⟨Cb1, co1 + q * 2, none⟩ = some (sl Iq 0 L cq) := fun x => Kept.cell (p := ⟨Cb1, co1 + q * 2, none⟩) x.h (fun h => by omega) y0
          obtain ⟨r, er, hr1, hr2⟩ : ∃ r : Nat, min (2 * (cq : Int)) 256 = (r : Int) ∧ L < r ∧ r ≤ 256 := ⟨min (2 * cq) 256, by omega, by have := HQ.out; have := HCP.out; omega, by omega⟩
          have hcq : (cq : Int) ≤ 256 := by have := HCP.out; omega
          have HR := hid (show L < r ∧ r ≤ 256 from ⟨hr1, hr2⟩)
          clear hr1 hr2 eLc y0
          go_upto_region 11 with fail
          refine wp_region_calmplan 16 [(true, 0), (true, 1), (true, 2), (true, 3), (true, 4), (true, 9), (true, 10), (true, 11), (true, 12), (false, 5), (true, 6), (false, 7), (false, 8), (false, 13), (true, 14), (true, 15), (false, 16)] (fun w' => ∃ x : Wld (KC 0 0 X), w' = x.w) mixed (by kernel_rfl) (inS s0) ?_
          iterate 9 (refine wpPlan_q (by rfl) ?_; dsimp only [List.getElem_toArray, List.getElem_cons_zero, List.getElem_cons_succ]; go_big_quiet_step (fail); refine wpQuiet_nil ?_)

          refine wpPlan_e (by rfl) ?_
          dsimp only [List.getElem_toArray, List.getElem_cons_zero, List.getElem_cons_succ]

          go_wp2
          refine onward_normal (fun _ => inS s0) ?_
          iterate 1 (refine wpPlan_q (by rfl) ?_; dsimp only [List.getElem_toArray, List.getElem_cons_zero, List.getElem_cons_succ]; go_big_quiet_step (fail); refine wpQuiet_nil ?_)

          refine wpPlan_e (by rfl) ?_
          dsimp only [List.getElem_toArray, List.getElem_cons_zero, List.getElem_cons_succ]

          go_wp2
          refine onward_normal (fun _ => inS s0) ?_
          clear er hcq
          refine wpPlan_e (by rfl) ?_
          dsimp only [List.getElem_toArray, List.getElem_cons_zero, List.getElem_cons_succ]

          refine wpList_makeN rfl _ _ 171 143 iT _ 0 r rfl Ybaz.underlying171 hiT hzT rfl rfl (by omega) (by rw [hbT]; have := HR.out; omega) (by have := HR.out; omega) ?_
          rw [hsT]
          refine wpList_done ?_
          simp only [Act.put, List.setIfInBounds_toArray, List.set_cons_succ, List.set_cons_zero]
          obtain ⟨arr, harr⟩ : ∃ arr : Array Value, madeCells (Value.agg #[.int .i64 0, .float .f64 0]).cells (r * 2) = arr := ⟨_, rfl⟩
          have harrs : arr.size = r * 2 := by rw [← harr, made_size]
          rw [harr]
          have szd : X.drew.heap.size = X.heap.size := rfl
          rw [szd]
          obtain ⟨NB, hNB⟩ : ∃ NB, X.heap.size = NB := ⟨_, rfl⟩
          have s1 : KC 0 0 X (X.drew.alloc (.cells arr 143)) := Kept.alloc s0 _
          refine onward_normal (fun _ => inS s1) ?_
          refine plan_as (fun W => Kept (fun _ => False) X W ∧ NB < W.heap.size ∧ ∀ j, j < r * 2 → (W.cell? ⟨NB, j, none⟩).isSome = true ∧ W.frozen? ⟨NB, j, none⟩ = false) ⟨((Kept.refl _ X).drew).alloc _, by rw [World.size_alloc, ← hNB]; exact Nat.lt_succ_self _, th_block (by rw [← hNB]; exact World.alloc_heap_new X.drew _) harrs⟩ ?_
          rw [hNB]
          rintro V1 ⟨k1, hNB1, th1⟩
          have HN := hid hNB
          clear harr harrs szd s1 hNB arr
          have hIl : Iq < X.heap.size := by rw [← HI.out.1]; exact HY.out.slt _ (HY.out.oi q (by omega))
          have src : ∀ j, j < L * 2 → ∃ u, V1.cell? ⟨Iq, j, none⟩ = some u ∧ u.oneCell' = true := fun j hj => by
            rw [World.cell?_of_block (a := ⟨Iq, j, none⟩) (k1.block Iq hIl (fun h => h))]
            have hv := HY.out.val (256 * q + j / 2) (by have := HQ.out; omega)
            rw [show (256 * q + j / 2) / 256 = q by have := HQ.out; omega, show (256 * q + j / 2) % 256 = j / 2 by have := HQ.out; omega, HI.out.1] at hv
            obtain ⟨v1, x, v2⟩ := hv
            by_cases e : j % 2 = 0
            · rw [show j / 2 * 2 = j by omega] at v1
              exact ⟨_, v1, rfl⟩
            · rw [show j / 2 * 2 + 1 = j by omega] at v2
              exact ⟨_, v2, rfl⟩
          refine wpPlan_e (by rfl) ?_
          dsimp only [List.getElem_toArray, List.getElem_cons_zero, List.getElem_cons_succ]

          refine wpList_appN rfl _ _ 171 143 iT rfl Ybaz.underlying171 hiT hsT NB r Iq L cq rfl rfl (by have := HR.out; omega) th1 src ?_
          intro V2 f2 old2 th2
          refine wpList_done ?_
          simp only [Act.put, List.setIfInBounds_toArray, List.set_cons_succ, List.set_cons_zero]
          have kk : Kept (fun _ => False) X V2 := Kept.thn' k1 (f2.kept (E := fun c => c = NB) (fun _ _ _ h => h)) (fun i hi e => by have := HN.out; omega)
          refine onward_normal (fun _ => inS (S := KC 0 0 X) (kk.weak (fun _ _ h => h.elim))) ?_
          iterate 2 (refine wpPlan_q (by rfl) ?_; dsimp only [List.getElem_toArray, List.getElem_cons_zero, List.getElem_cons_succ]; go_big_quiet_step (fail); refine wpQuiet_nil ?_)

          have old3 : ∀ j, j < L * 2 → V2.cell? ⟨NB, j, none⟩ = X.cell? ⟨I1 q, j, none⟩ := fun j hj => by
            rw [old2 j hj, HI.out.1]
            exact World.cell?_of_block (a := ⟨Iq, j, none⟩) (k1.block Iq hIl (fun h => h))
          have tr : V2.cell? ⟨Cb1, co1 + q * 2, none⟩ = some (sl Iq 0 L cq) := z0 ⟨V2, kk.weak (fun _ _ h => h.elim)⟩
          have hCl := HY.out.slt _ (HY.out.oc (by omega))
          have frC : ∀ j, V2.frozen? ⟨Cb1, j, none⟩ = X.frozen? ⟨Cb1, j, none⟩ := fun j => World.frozen?_of_block (a := ⟨Cb1, j, none⟩) (kk.block Cb1 hCl (fun h => h))
          have frz := HY.out.row (by omega) (q * 2) (by have := HY.out.mcc; omega)
          have frz1 := HY.out.row (by omega) (q * 2 + 1) (by have := HY.out.mcc; omega)
          have tr1 : V2.cell? ⟨Cb1, co1 + q * 2 + 1, none⟩ = some (vi 0) := by
            rw [World.cell?_of_block (a := ⟨Cb1, co1 + q * 2 + 1, none⟩) (kk.block Cb1 hCl (fun h => h))]
            exact (HY.out.ch q (by omega)).2
          refine wpPlan_e (by rfl) ?_
          dsimp only [List.getElem_toArray, List.getElem_cons_zero, List.getElem_cons_succ]

          refine wpList_store_as rfl 171 _ _ rfl rfl Cb1 (co1 + q * 2) (sl NB 0 L r) rfl rfl (storeSl 171 143 Ybaz.underlying171 (fun W => by kernel_rfl) V2 Cb1 (co1 + q * 2) _ _ _ (by rw [tr]; rfl) (by rw [frC]; exact frz.2)) ?_
          refine wpList_done ?_
          refine onward_normal (fun h => by cases h) ?_
          refine wpPlan_nil ?_
          refine calmQ_normal ?_
          have PT := hid (PuT.regrow (cc := cc1) (sv := sv1) HY.out F1.out S1H.out HQ.out.1 HQ.out.2 kk (by have := HN.out; omega) (Nat.lt_of_lt_of_le hNB1 f2.size) th2 old3 HR.out.1 HR.out.2)
          have tr3 : (V2.setCell ⟨Cb1, co1 + q * 2, none⟩ (sl NB 0 L r)).cell? ⟨Cb1, co1 + q * 2 + 1, none⟩ = some (vi 0) := by
            rw [World.cell?_setCell_other _ _ _ _ (fun he => by have h0 := congrArg Addr.off he; simp at h0)]; exact tr1
          have fr3 : (V2.setCell ⟨Cb1, co1 + q * 2, none⟩ (sl NB 0 L r)).frozen? ⟨Cb1, co1 + q * 2 + 1, none⟩ = false := by
            rw [World.frozen?_setCell, frC]; exact frz1.2
          obtain ⟨V3, hV3⟩ : ∃ V3, V2.setCell ⟨Cb1, co1 + q * 2, none⟩ (sl NB 0 L r) = V3 := ⟨_, rfl⟩
          rw [hV3] at PT tr3 fr3
          rw [hV3]
          clear hV3 tr1 frz1 frz frC hCl tr old3 kk th2 old2 f2 src hIl th1 hNB1 k1 z0 nS s0
          go_wp2
          go_meet
          case rel => exact PT.out
      case rest =>
        obtain ⟨S2, I2, cp2, hy, hL, fp2, hS2⟩ := hcut
        clear HY F1 S1H HCP HI HB2
        have hL2 : L < cp2 q := by have := HQ.out; omega
        obtain ⟨Ir, hIr⟩ : ∃ Ir, I2 q = Ir := ⟨_, rfl⟩
        have s0 : KC 1 Ir wc wc.drew := (Kept.refl (fun c => 0 < 1 ∧ c = Ir) wc).drew
        haveI nS : Nonempty (Wld (KC 1 Ir wc)) := ⟨⟨wc.drew, s0⟩⟩
        have y0 := (hy.ch q (by omega)).1
        rw [show min 256 (d + n - 256 * q) = L by have := HQ.out; omega] at y0
        have nC : ¬ (0 < 1 ∧ Cb1 = Ir) := fun e => hy.ic q (by omega) (by rw [hIr, e.2])
        obtain ⟨cr, hcr⟩ : ∃ cr, cp2 q = cr := ⟨_, rfl⟩
        rw [hIr, hcr] at y0
        rw [hcr] at hL2
        have HI := hid (show I2 q = Ir ∧ cp2 q = cr from ⟨hIr, hcr⟩)
        have z0 : ∀ x : Wld (KC 1 Ir wc), x.w.cell? ⟨Cb1, co1 + q * 2, none⟩ = some (sl Ir 0 L cr) := fun x => Kept.cell (p := ⟨Cb1, co1 + q * 2, none⟩) x.h nC y0
        have hxl : xB < V.heap.size := World.block_lt_of_cell? V _ XA.out.1
        have nx : ∀ j, ¬ (S xB ∨ (xB = b ∧ j = o)) := fun j e => by
          have h1 := XB.out
          rcases e with e | e
          · have := hU.out xB e
            omega
          · have := HbU.out
            omega
        have nX : ¬ (0 < 1 ∧ xB = Ir) := fun e => by
          rcases hS2 Ir (by rw [← hIr]; exact hy.oi q (by omega)) with h | h
          · exact nx 0 (.inl (by rw [e.2]; exact h))
          · omega
        have za : ∀ x : Wld (KC 1 Ir wc), x.w.cell? ⟨xB, 0, none⟩ = some (ii x1) := fun x => Kept.cell (p := ⟨xB, 0, none⟩) x.h nX (by rw [fp2.cell _ _ hxl (nx 0)]; exact XA.out.1)
        have zb : ∀ x : Wld (KC 1 Ir wc), x.w.cell? ⟨xB, 1, none⟩ = some (.float .f64 x2) := fun x => Kept.cell (p := ⟨xB, 1, none⟩) x.h nX (by rw [fp2.cell _ _ hxl (nx 1)]; exact XA.out.2)
        have hIl : Ir < wc.heap.size := by rw [← hIr]; exact hy.slt _ (hy.oi q (by omega))
        have thI : ∀ j, j < cr * 2 → (wc.cell? ⟨Ir, j, none⟩).isSome = true ∧ wc.frozen? ⟨Ir, j, none⟩ = false := by rw [← hIr, ← hcr]; exact hy.it q (by omega)
        have HY := hid hy
        have F2 := hid fp2
        have S2H := hid hS2
        have HL2 := hid hL2
        have THI := hid thI
        have HIL := hid hIl
        clear hy fp2 hS2 hL hL2 nx hxl y0 hIr hcr thI hIl nX
        go_upto_region 13 with fail
        refine wp_region_calmplan 10 [(true, 0), (true, 1), (true, 2), (true, 3), (true, 4), (true, 5), (false, 6), (false, 7), (true, 8), (true, 9), (false, 10)] (fun w' => ∃ x : Wld (KC 1 Ir wc), w' = x.w) mixed (by kernel_rfl) (inS s0) ?_
        iterate 6 (refine wpPlan_q (by rfl) ?_; dsimp only [List.getElem_toArray, List.getElem_cons_zero, List.getElem_cons_succ]; go_big_quiet_step (fail); refine wpQuiet_nil ?_)

        refine wpPlan_e (by rfl) ?_
        dsimp only [List.getElem_toArray, List.getElem_cons_zero, List.getElem_cons_succ]

        go_wp2
        have s1 : KC 1 Ir wc ((wc.alloc (.cells #[ii x1, .float .f64 x2] 143)).drew) := (Kept.alloc (Kept.refl (fun c => 0 < 1 ∧ c = Ir) wc) _).drew
        refine onward_normal (fun _ => inS s1) ?_
        have bb1 : ((wc.alloc (.cells #[ii x1, .float .f64 x2] 143)).drew).cell? ⟨wc.heap.size, 0, none⟩ = some (ii x1) := range_new wc [ii x1, .float .f64 x2] 143 0 _ rfl
        have bb2 : ((wc.alloc (.cells #[ii x1, .float .f64 x2] 143)).drew).cell? ⟨wc.heap.size, 1, none⟩ = some (.float .f64 x2) := range_new wc [ii x1, .float .f64 x2] 143 1 _ rfl
        have k6 : Kept (fun _ => False) wc ((wc.alloc (.cells #[ii x1, .float .f64 x2] 143)).drew) := (Kept.alloc (Kept.refl (fun _ => False) wc) _).drew
        obtain ⟨BB, hBB⟩ : ∃ BB, wc.heap.size = BB := ⟨_, rfl⟩
        rw [hBB] at bb1 bb2
        refine plan_as (fun W => Kept (fun _ => False) wc W ∧ W.cell? ⟨BB, 0, none⟩ = some (ii x1) ∧ W.cell? ⟨BB, 1, none⟩ = some (.float .f64 x2)) ⟨k6, bb1, bb2⟩ ?_
        rw [hBB]
        clear bb1 bb2 k6 s1 hBB
        rintro X6 ⟨k6, bb1, bb2⟩
        have th6 : ∀ j, j < cr * 2 → (X6.cell? ⟨Ir, j, none⟩).isSome = true ∧ X6.frozen? ⟨Ir, j, none⟩ = false := fun j hj => by
          have e := k6.block Ir HIL.out (fun h => h)
          rw [World.cell?_of_block (a := ⟨Ir, j, none⟩) e, World.frozen?_of_block (a := ⟨Ir, j, none⟩) e]
          exact THI.out j hj
        refine wpPlan_e (by rfl) ?_
        dsimp only [List.getElem_toArray, List.getElem_cons_zero, List.getElem_cons_succ]

        refine wpList_app2r rfl _ _ 171 143 iT rfl Ybaz.underlying171 hiT hsT Ir L cr rfl BB (ii x1) (.float .f64 x2) rfl bb1 bb2 rfl rfl HL2.out th6 ?_
        refine wpList_done ?_
        simp only [Act.put, List.setIfInBounds_toArray, List.set_cons_succ, List.set_cons_zero]
        have PM := hid (PuP.make KV.out hU.out HY.out F2.out S2H.out HQ.out.1 (by rw [HI.out.2]; exact HL2.out) HB.out k6 x1 x2)
        rw [HI.out.1, HI.out.2] at PM
        have s2 : KC 1 Ir wc ((X6.setCell ⟨Ir, L * 2, none⟩ (ii x1)).setCell ⟨Ir, L * 2 + 1, none⟩ (.float .f64 x2)) := ((k6.weak (fun _ _ h => h.elim)).setCell (p := ⟨Ir, L * 2, none⟩) (.inl ⟨by omega, rfl⟩) _).setCell (p := ⟨Ir, L * 2 + 1, none⟩) (.inl ⟨by omega, rfl⟩) _
        refine onward_normal (fun _ => inS s2) ?_
        iterate 2 (refine wpPlan_q (by rfl) ?_; dsimp only [List.getElem_toArray, List.getElem_cons_zero, List.getElem_cons_succ]; go_big_quiet_step (fail); refine wpQuiet_nil ?_)

        have cC : ((X6.setCell ⟨Ir, L * 2, none⟩ (ii x1)).setCell ⟨Ir, L * 2 + 1, none⟩ (.float .f64 x2)).cell? ⟨Cb1, co1 + q * 2, none⟩ = some (sl Ir 0 L cr) := z0 ⟨_, s2⟩
        have fC : ((X6.setCell ⟨Ir, L * 2, none⟩ (ii x1)).setCell ⟨Ir, L * 2 + 1, none⟩ (.float .f64 x2)).frozen? ⟨Cb1, co1 + q * 2, none⟩ = false := by
          rw [World.frozen?_setCell, World.frozen?_setCell, World.frozen?_of_block (a := ⟨Cb1, co1 + q * 2, none⟩) (k6.block Cb1 (HY.out.slt _ (HY.out.oc (by omega))) (fun h => h))]
          exact (HY.out.row (by omega) (q * 2) (by have := HY.out.mcc; omega)).2
        obtain ⟨X7, hX7⟩ : ∃ X7, (X6.setCell ⟨Ir, L * 2, none⟩ (ii x1)).setCell ⟨Ir, L * 2 + 1, none⟩ (.float .f64 x2) = X7 := ⟨_, rfl⟩
        rw [hX7] at PM cC fC
        rw [hX7]
        refine wpPlan_e (by rfl) ?_
        dsimp only [List.getElem_toArray, List.getElem_cons_zero, List.getElem_cons_succ]

        refine wpList_store_as rfl 171 _ _ rfl rfl Cb1 (co1 + q * 2) (sl Ir 0 (L + 1) cr) rfl rfl (storeSl 171 143 Ybaz.underlying171 (fun W => by kernel_rfl) X7 Cb1 (co1 + q * 2) _ _ _ (by rw [cC]; rfl) fC) ?_
        refine wpList_done ?_
        refine onward_normal (fun h => by cases h) ?_
        refine wpPlan_nil ?_
        refine calmQ_normal ?_
        obtain ⟨X8, hX8⟩ : ∃ X8, X7.setCell ⟨Cb1, co1 + q * 2, none⟩ (sl Ir 0 (L + 1) cr) = X8 := ⟨_, rfl⟩
        rw [hX8] at PM
        rw [hX8]
        obtain ⟨pm, c8, f8⟩ := PM.out
        have PF := hid pm
        have hnb : (n : Int) ≤ 17179869184 := by have := HB.out; omega
        clear pm PM hX8 hX7 cC fC s2 th6 bb1 bb2 k6 z0 za zb nC s0 nS
        go_wp2
        go_end0
        exact ⟨rfl, PF.out⟩
end Go.Proofs.YbulkdsjeGreatDoor
