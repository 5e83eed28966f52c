import Derived.Test.YbulkdsjeGreatDoorNs2
import Derived.BigQuiet
import Derived.Deep.QuietTactic
import Derived.Deep.MidRow
set_option linter.unusedVariables false
set_option linter.unusedSimpArgs false
namespace Go.Proofs.YbulkdsjeGreatDoor
open Go.RowKit

theorem Ybaz.info58 : (Ybaz.prog.info? 58).map (fun i => (i.zero, i.size, i.bytes)) = some (some (.agg #[.int .i64 0, .int .i64 0]), 2, 16) := by kernel_rfl
/-- The rule that the law builds. -/
def stOf (a c : Nat) (i : Nat) : Nat := if i = 0 then (1 + a % 10) * 1000 else (1 + a % 10) * 1000 * (2 + c % 5)
def nnOf (b : Nat) (i : Nat) : Nat := if i = 0 then 1 + b % 100 else 1 + b % 7
def naOf (c : Nat) : Nat := 1 + c % 2

set_option maxRecDepth 100000 in
set_option maxHeartbeats 4000000 in
theorem rule_any (a b c h r x : Nat) (U : World) (ha : a < 256) (hb : b < 256) (hc : c < 256) (hh : h < 18446744073709551616) (hr : r < 18446744073709551616) : Calls Ybaz.prog 5 #[.agg #[.int .u8 (a : Int), .int .u8 (b : Int), .int .u8 (c : Int), .int .u64 (h : Int), .int .u64 (r : Int), .float .f64 x]] U fun e w' => ∃ rb ro rc, e = .returned (.agg #[sl rb ro (naOf c) rc, vi (h % 1125899906842624), .float .f64 x, vi (r % 1125899906842624)]) ∧ RuleM w' rb ro (naOf c) (stOf a c) (nnOf b) ∧ Kept (fun _ => False) U w' := by
  have k0 : Kept (fun _ => False) U (U.alloc (.cells #[.int .u8 (a : Int), .int .u8 (b : Int), .int .u8 (c : Int), .int .u64 (h : Int), .int .u64 (r : Int), .float .f64 x] 26)) := (Kept.refl _ U).alloc _
  obtain ⟨p, hp⟩ : ∃ p, a % 10 = p := ⟨_, rfl⟩
  obtain ⟨q, hq⟩ : ∃ q, b % 100 = q := ⟨_, rfl⟩
  have e1 : (a : Int).tmod 10 = (p : Int) := by rw [← hp]; simp [Int.tmod_eq_emod_of_nonneg]
  have e2 : (b : Int).tmod 100 = (q : Int) := by rw [← hq]; simp [Int.tmod_eq_emod_of_nonneg]
  have b1 : (p : Int) ≤ 9 := by omega
  have b2 : (q : Int) ≤ 99 := by omega
  go_enter Ybaz.func5, Ybaz.ntmps5
  go_upto_region 1 with fail
  refine wp_as (fun V => Kept (fun _ => False) U V ∧ V.rangeAt U.heap.size 0 [.int .u8 (a : Int), .int .u8 (b : Int), .int .u8 (c : Int), .int .u64 (h : Int), .int .u64 (r : Int), .float .f64 x] ∧ V.there (U.heap.size + 1) 0 4) ⟨?k, ?r, ?t⟩ ?_
  case k => exact k0.alloc _
  case r =>
    have kk : Kept (fun _ => False) (U.alloc (.cells #[.int .u8 (a : Int), .int .u8 (b : Int), .int .u8 (c : Int), .int .u64 (h : Int), .int .u64 (r : Int), .float .f64 x] 26)) ((U.alloc (.cells #[.int .u8 (a : Int), .int .u8 (b : Int), .int .u8 (c : Int), .int .u64 (h : Int), .int .u64 (r : Int), .float .f64 x] 26)).alloc (.cells #[.slice none 0 0, vi 0, .float .f64 0, vi 0] 31)) := (Kept.refl _ _).alloc _
    exact kk.range (fun h => h) (range_new U [.int .u8 (a : Int), .int .u8 (b : Int), .int .u8 (c : Int), .int .u64 (h : Int), .int .u64 (r : Int), .float .f64 x] 26)
  case t =>
    have := there_new (U.alloc (.cells #[.int .u8 (a : Int), .int .u8 (b : Int), .int .u8 (c : Int), .int .u64 (h : Int), .int .u64 (r : Int), .float .f64 x] 26)) [.slice none 0 0, vi 0, .float .f64 0, vi 0] 31
    rw [World.size_alloc] at this
    exact this
  rintro V ⟨kV, rV, tV⟩
  obtain ⟨Ub, hUb⟩ : ∃ Ub, U.heap.size = Ub := ⟨_, rfl⟩
  rw [hUb] at rV tV ⊢
  have y0 : V.cell? ⟨Ub, 0, none⟩ = some (.int .u8 (a : Int)) := rV 0 _ rfl
  have y1 : V.cell? ⟨Ub, 1, none⟩ = some (.int .u8 (b : Int)) := rV 1 _ rfl
  have y2 : V.cell? ⟨Ub, 2, none⟩ = some (.int .u8 (c : Int)) := rV 2 _ rfl
  go_upto_region 3 with fail
  obtain ⟨f, hf⟩ : ∃ f, (1 + p) * 1000 = f := ⟨_, rfl⟩
  obtain ⟨n, hn⟩ : ∃ n, 1 + q = n := ⟨_, rfl⟩
  obtain ⟨g, hg⟩ : ∃ g, f * n = g := ⟨_, rfl⟩
  rw [show (1 + (p : Int)) * 1000 = (f : Int) by omega, show 1 + (q : Int) = (n : Int) by omega]
  have hgi : (f : Int) * (n : Int) = (g : Int) := by rw [← hg]; simp
  have hfb : (f : Int) ≤ 10000 := by omega
  have hnb : (n : Int) ≤ 100 := by omega
  have hgb : (g : Int) ≤ 1000000 := by
    have : f * n ≤ 10000 * 100 := Nat.mul_le_mul (by omega) (by omega)
    omega
  go_upto_region 4 with (first | ((with_reducible (show wpList _ _ _ (⟨_, .build 58 _, _, _, _, _⟩ :: _) _ _)); refine wpList_as (.agg #[ii _, ii _]) (by kernel_rfl) (run_opbuild (fun W => by kernel_rfl)) ?_; simp only [Act.put, List.setIfInBounds_toArray, List.set_cons_succ, List.set_cons_zero]))
  refine wp_as (fun W => Kept (fun _ => False) V W ∧ W.rangeAt V.heap.size 0 [vi (f * 1000000), vi (g * 1000000)] ∧ W.there V.heap.size 0 2 ∧ V.heap.size < W.heap.size) ⟨(Kept.refl _ V).alloc _, by have := range_new V [ii ((f : Int) * 1000000), ii ((g : Int) * 1000000)] 58; rw [show (vi (f * 1000000)) = ii ((f : Int) * 1000000) by simp, show (vi (g * 1000000)) = ii ((g : Int) * 1000000) by simp]; exact this, there_new V [ii ((f : Int) * 1000000), ii ((g : Int) * 1000000)] 58, by rw [World.size_alloc]; omega⟩ ?_
  rintro W ⟨kW, rW, tW, lW⟩
  obtain ⟨Ab, hAb⟩ : ∃ Ab, V.heap.size = Ab := ⟨_, rfl⟩
  rw [hAb] at rW tW lW ⊢
  have hUA : Ub + 1 < Ab := by
    obtain ⟨u, hu⟩ := Option.isSome_iff_exists.1 (tV 0 (by omega)).1
    have := World.block_lt_of_cell? V _ hu
    simp at this
    omega
  have z2 := kW.cell (p := ⟨Ub, 2, none⟩) (fun h => h) y2
  have z1 := kW.cell (p := ⟨Ub, 1, none⟩) (fun h => h) y1
  obtain ⟨c2, hc2⟩ : ∃ c2, c % 2 = c2 := ⟨_, rfl⟩
  have e3 : (c : Int).tmod 2 = (c2 : Int) := by rw [← hc2]; simp [Int.tmod_eq_emod_of_nonneg]
  obtain ⟨tb, htb⟩ : ∃ tb, ((c2 : Int) == 1) = tb := ⟨_, rfl⟩
  have HV := hid (show Kept (fun _ => False) U V ∧ V.rangeAt Ub 0 [.int .u8 (a : Int), .int .u8 (b : Int), .int .u8 (c : Int), .int .u64 (h : Int), .int .u64 (r : Int), .float .f64 x] ∧ V.there (Ub + 1) 0 4 from ⟨kV, rV, tV⟩)
  have HW := hid (show Kept (fun _ => False) V W ∧ W.rangeAt Ab 0 [vi (f * 1000000), vi (g * 1000000)] ∧ W.there Ab 0 2 ∧ Ab < W.heap.size ∧ Ub + 1 < Ab from ⟨kW, rW, tW, lW, hUA⟩)
  have HC := hid (show c % 2 = c2 ∧ c2 < 2 ∧ (((c2 : Int) == 1) = tb) from ⟨hc2, by omega, htb⟩)
  have HU := hid hUb
  have HP := hid (show a % 10 = p ∧ b % 100 = q ∧ (1 + p) * 1000 = f ∧ 1 + q = n ∧ f * n = g from ⟨hp, hq, hf, hn, hg⟩)
  have HR := hid (show a < 256 ∧ b < 256 ∧ c < 256 ∧ h < 18446744073709551616 ∧ r < 18446744073709551616 from ⟨ha, hb, hc, hh, hr⟩)
  have b3 : (c2 : Int) < 2 := by omega
  clear kV rV tV y0 y1 y2 kW rW tW lW hUA hAb hc2 hp hq hf hn hg k0 hUb ha hb hc hh hr e1 e2
  go_upto_if 29 with fail
  go_cut [5, 6] from 30 to 50 (fun v v6 w' => ∃ rb ro rc, v = sl rb ro (naOf c) rc ∧ RuleM w' rb ro (naOf c) (stOf a c) (nnOf b) ∧ Kept (fun x => x = Ab) W w' ∧ Ab ≤ rb)
  case first =>
    cases tb with
    | false =>
      go_wp2
      go_meet
      case rel =>
        have hna : naOf c = 1 := by
          unfold naOf
          have h1 := HC.out
          have : ¬ (c2 : Int) = 1 := by simpa using h1.2.2
          omega
        rw [hna]
        refine ⟨Ab, 0, 1, rfl, ⟨fun i hi => ?_, fun i hi => ?_, by omega⟩, Kept.refl _ _, Nat.le_refl _⟩
        · obtain rfl : i = 0 := by omega
          have es : stOf a c 0 = f := by unfold stOf; rw [if_pos rfl, HP.out.1]; exact HP.out.2.2.1
          have en : nnOf b 0 = n := by unfold nnOf; rw [if_pos rfl, HP.out.2.1]; exact HP.out.2.2.2.1
          rw [es, en, HP.out.2.2.2.2]
          exact ⟨HW.out.2.1 0 _ rfl, HW.out.2.1 1 _ rfl⟩
        · obtain rfl : i = 0 := by omega
          have es : stOf a c 0 = f := by unfold stOf; rw [if_pos rfl, HP.out.1]; exact HP.out.2.2.1
          have en : nnOf b 0 = n := by unfold nnOf; rw [if_pos rfl, HP.out.2.1]; exact HP.out.2.2.2.1
          rw [es, en]
          have := HP.out.2.2.1
          have := HP.out.2.2.2.1
          omega
    | true =>
      obtain ⟨c5, hc5⟩ : ∃ c5, c % 5 = c5 := ⟨_, rfl⟩
      obtain ⟨q7, hq7⟩ : ∃ q7, b % 7 = q7 := ⟨_, rfl⟩
      have e5 : (c : Int).tmod 5 = (c5 : Int) := by rw [← hc5]; simp [Int.tmod_eq_emod_of_nonneg]
      have e7 : (b : Int).tmod 7 = (q7 : Int) := by rw [← hq7]; simp [Int.tmod_eq_emod_of_nonneg]
      have b5 : (c5 : Int) ≤ 4 := by omega
      have b7 : (q7 : Int) ≤ 6 := by omega
      obtain ⟨k2, hk2⟩ : ∃ k2, 2 + c5 = k2 := ⟨_, rfl⟩
      obtain ⟨f2, hf2⟩ : ∃ f2, f * k2 = f2 := ⟨_, rfl⟩
      obtain ⟨n2, hn2⟩ : ∃ n2, 1 + q7 = n2 := ⟨_, rfl⟩
      obtain ⟨g2, hg2⟩ : ∃ g2, f2 * n2 = g2 := ⟨_, rfl⟩
      have ef2 : (f : Int) * (2 + (c5 : Int)) = (f2 : Int) := by rw [← hf2, ← hk2]; simp
      have eg2 : (f2 : Int) * (1 + (q7 : Int)) = (g2 : Int) := by rw [← hg2, ← hn2]; simp
      have bf2 : f2 ≤ 60000 := by
        rw [← hf2]
        exact Nat.le_trans (Nat.mul_le_mul (show f ≤ 10000 by omega) (show k2 ≤ 6 by omega)) (by omega)
      have bg2 : g2 ≤ 420000 := by
        rw [← hg2]
        exact Nat.le_trans (Nat.mul_le_mul bf2 (show n2 ≤ 7 by omega)) (by omega)
      have bf2i : (f2 : Int) ≤ 60000 := by omega
      have bg2i : (g2 : Int) ≤ 420000 := by omega
      obtain ⟨iA, hiA, hzA, hsA, hbA⟩ := info_parts Ybaz.info58
      have H2 := hid (show c % 5 = c5 ∧ b % 7 = q7 ∧ 2 + c5 = k2 ∧ f * k2 = f2 ∧ 1 + q7 = n2 ∧ f2 * n2 = g2 ∧ f2 ≤ 60000 from ⟨hc5, hq7, hk2, hf2, hn2, hg2, bf2⟩)
      have BB := hid (show Kept (fun _ => False) W (W.alloc (.cells #[ii ((f2 : Int) * 1000000), ii ((g2 : Int) * 1000000)] 58)) ∧ (W.alloc (.cells #[ii ((f2 : Int) * 1000000), ii ((g2 : Int) * 1000000)] 58)).rangeAt W.heap.size 0 [ii ((f2 : Int) * 1000000), ii ((g2 : Int) * 1000000)] from ⟨(Kept.refl _ W).alloc _, range_new W [ii ((f2 : Int) * 1000000), ii ((g2 : Int) * 1000000)] 58⟩)
      have AROW : Hid (∀ j, j < 1 * 2 → ((W.alloc (.cells #[ii ((f2 : Int) * 1000000), ii ((g2 : Int) * 1000000)] 58)).cell? ⟨Ab, 0 + j, none⟩).isSome = true ∧ (W.alloc (.cells #[ii ((f2 : Int) * 1000000), ii ((g2 : Int) * 1000000)] 58)).frozen? ⟨Ab, 0 + j, none⟩ = false) := hid fun j hj => by
        have := HW.out.2.2.1 j hj
        have e := BB.out.1.block Ab HW.out.2.2.2.1 (fun h => h)
        rw [World.cell?_of_block (a := ⟨Ab, 0 + j, none⟩) e, World.frozen?_of_block (a := ⟨Ab, 0 + j, none⟩) e]
        exact this
      clear hc5 hq7 hk2 hf2 hn2 hg2 bf2 bg2
      go_wp2_with (first | ((with_reducible (show wpList _ _ _ (⟨_, .build 58 _, _, _, _, _⟩ :: _) _ _)); refine wpList_as (.agg #[ii _, ii _]) (by kernel_rfl) (run_opbuild (fun W => by kernel_rfl)) ?_; simp only [Act.put, List.setIfInBounds_toArray, List.set_cons_succ, List.set_cons_zero]) | ((with_reducible (show wpList _ _ _ (⟨some 50, .call _, _, _, _, _⟩ :: _) _ _)); refine wpList_app2 rfl _ _ 28 58 iA _ rfl Ybaz.underlying28 hiA hzA hsA rfl (by rw [hbA]; omega) (sl Ab 0 1 1) Ab 0 1 1 rfl (.inr ⟨by omega, rfl⟩) (Nat.le_refl _) (fun _ => AROW.out) (fun _ => by rw [World.size_alloc]; have := HW.out.2.2.2.1; omega) W.heap.size (ii ((f2 : Int) * 1000000)) (ii ((g2 : Int) * 1000000)) rfl (BB.out.2 0 _ rfl) (BB.out.2 1 _ rfl) rfl rfl (by omega) ?_; intro Cb' co' cc' V3 ap; simp only [Act.put, List.setIfInBounds_toArray, List.set_cons_succ, List.set_cons_zero]; have AP := hid ap; clear ap))
      go_meet
      case rel =>
        have hna : naOf c = 2 := by
          unfold naOf
          have h1 := HC.out
          have : (c2 : Int) = 1 := by simpa using h1.2.2
          omega
        rw [hna]
        have es : stOf a c 0 = f := by unfold stOf; rw [if_pos rfl, HP.out.1]; exact HP.out.2.2.1
        have en : nnOf b 0 = n := by unfold nnOf; rw [if_pos rfl, HP.out.2.1]; exact HP.out.2.2.2.1
        have es2 : stOf a c 1 = f2 := by unfold stOf; rw [if_neg (by omega), HP.out.1, HP.out.2.2.1, H2.out.1, H2.out.2.2.1]; exact H2.out.2.2.2.1
        have en2 : nnOf b 1 = n2 := by unfold nnOf; rw [if_neg (by omega), H2.out.2.1]; exact H2.out.2.2.2.2.1
        have hbnd := H2.out
        refine ⟨Cb', co', cc', rfl, ⟨fun i hi => ?_, fun i hi => ?_, by omega⟩, Kept.thn' (BB.out.1.weak (fun _ _ h => h.elim)) AP.out.kept (fun x _ he => he.2), by exact AP.out.mv.elim (fun h => by omega) (fun h => by rw [World.size_alloc] at h; have := HW.out.2.2.2.1; omega)⟩
        · by_cases e : i = 0
          · subst e
            rw [es, en, HP.out.2.2.2.2]
            have o1 := AP.out.old 0 (by omega)
            have o2 := AP.out.old 1 (by omega)
            have c1 := BB.out.1.cell (p := ⟨Ab, 0 + 0, none⟩) (fun h => h) (HW.out.2.1 0 _ rfl)
            have c2' := BB.out.1.cell (p := ⟨Ab, 0 + 1, none⟩) (fun h => h) (HW.out.2.1 1 _ rfl)
            exact ⟨by rw [show co' + 0 * 2 = co' + 0 by omega, o1]; exact c1, by rw [show co' + 0 * 2 + 1 = co' + 1 by omega, o2]; exact c2'⟩
          · obtain rfl : i = 1 := by omega
            rw [es2, en2, H2.out.2.2.2.2.2.1]
            have n1 := AP.out.new1
            have n2' := AP.out.new2
            exact ⟨by rw [n1]; simp, by rw [n2']; simp⟩
        · by_cases e : i = 0
          · subst e
            rw [es, en]
            have := HP.out.2.2.1
            have := HP.out.2.2.2.1
            omega
          · obtain rfl : i = 1 := by omega
            rw [es2, en2]
            refine ⟨?_, hbnd.2.2.2.2.2.2, by omega⟩
            have := HP.out.2.2.1
            have : 1000 * 1 ≤ f * k2 := Nat.mul_le_mul (by omega) (by omega)
            omega
  case rest =>
    obtain ⟨rb, ro, rc, rfl, rm, kw, le⟩ := hcut
    have LE := hid le
    have kVw : Kept (fun x => x = Ab) V wc := (HW.out.1.weak (fun _ _ h => h.elim)).trans kw
    have ne := HW.out.2.2.2.2
    have r2 := kVw.range (E := fun x => x = Ab) (b := Ub) (by omega) HV.out.2.1
    have y3 : wc.cell? ⟨Ub, 3, none⟩ = some (.int .u64 (h : Int)) := r2 3 _ rfl
    have y4 : wc.cell? ⟨Ub, 4, none⟩ = some (.int .u64 (r : Int)) := r2 4 _ rfl
    have y5 : wc.cell? ⟨Ub, 5, none⟩ = some (.float .f64 x) := r2 5 _ rfl
    have tR : wc.there (Ub + 1) 0 4 := fun j hj => by
      have hl : Ub + 1 < V.heap.size := by
        obtain ⟨u, hu⟩ := Option.isSome_iff_exists.1 (HV.out.2.2 0 (by omega)).1
        exact World.block_lt_of_cell? V _ hu
      have e := kVw.block (Ub + 1) hl (by omega)
      rw [World.cell?_of_block (a := ⟨Ub + 1, 0 + j, none⟩) e, World.frozen?_of_block (a := ⟨Ub + 1, 0 + j, none⟩) e]
      exact HV.out.2.2 j hj
    obtain ⟨h2, hh2⟩ : ∃ h2, h % 1125899906842624 = h2 := ⟨_, rfl⟩
    obtain ⟨r2', hr2⟩ : ∃ r2', r % 1125899906842624 = r2' := ⟨_, rfl⟩
    have e8 : (h : Int).tmod 1125899906842624 = (h2 : Int) := by rw [← hh2]; simp [Int.tmod_eq_emod_of_nonneg]
    have e9 : (r : Int).tmod 1125899906842624 = (r2' : Int) := by rw [← hr2]; simp [Int.tmod_eq_emod_of_nonneg]
    have b8 : (h2 : Int) < 1125899906842624 := by omega
    have b9 : (r2' : Int) < 1125899906842624 := by omega
    have HHR := hid (show h % 1125899906842624 = h2 ∧ r % 1125899906842624 = r2' from ⟨hh2, hr2⟩)
    have RM := hid rm
    have TR := hid tR
    have KW := hid (show Kept (fun x => x = Ab) V wc from kVw)
    have SZ := hid (show Ub + 1 < Ab ∧ U.heap.size = Ub from ⟨ne, HU.out⟩)
    obtain ⟨na, hna⟩ : ∃ na, naOf c = na := ⟨_, rfl⟩
    rw [hna] at RM ⊢
    have HNA := hid hna
    clear rm kw kVw r2 tR hh2 hr2 z1 z2 e3 hna
    go_wp2_with (first | ((with_reducible (show wpList _ _ _ (⟨_, .build 31 _, _, _, _, _⟩ :: _) _ _)); refine wpList_as (.agg #[sl rb ro na rc, vi h2, .float .f64 x, vi r2']) (by kernel_rfl) (run_opbuild (fun W => by kernel_rfl)) ?_; simp only [Act.put, List.setIfInBounds_toArray, List.set_cons_succ, List.set_cons_zero]) | ((with_reducible (show wpList _ _ _ (⟨_, .store 31 _ _, _, _, _, _⟩ :: _) _ _)); refine wpList_store_mid rfl 31 _ _ rfl (Ub + 1) 0 #[sl rb ro na rc, vi h2, .float .f64 x, vi r2'] rfl rfl TR.out (by kernel_rfl) (by simp [Value.oneCell']) ?_; refine list_as (fun Y => Y.rangeAt (Ub + 1) 0 [sl rb ro na rc, vi h2, .float .f64 x, vi r2'] ∧ Kept (fun c => c = Ub + 1) wc Y) ⟨World.rangeAt_setCells_same wc (Ub + 1) 0 _ TR.out, (Kept.refl (fun c => c = Ub + 1) wc).setCells (g := Ub + 1) (.inl rfl) _ _⟩ ?_; rintro Y ⟨rY, kY⟩; have RY := hid rY; have KY := hid kY; clear rY kY TR))
    have w0 : Y.cell? ⟨Ub + 1, 0, none⟩ = some (sl rb ro na rc) := RY.out 0 _ rfl
    have w1 : Y.cell? ⟨Ub + 1, 1, none⟩ = some (vi h2) := RY.out 1 _ rfl
    have w2 : Y.cell? ⟨Ub + 1, 2, none⟩ = some (.float .f64 x) := RY.out 2 _ rfl
    have w3 : Y.cell? ⟨Ub + 1, 3, none⟩ = some (vi r2') := RY.out 3 _ rfl
    have hu31 := Ybaz.underlying31
    refine bodyPost_ret (v := .agg #[sl rb ro na rc, vi h2, .float .f64 x, vi r2']) (by simp [results, Ybaz.results5, go_sem, w0, w1, w2, w3, Act.put]; try rfl) rfl ?_
    refine ⟨rb, ro, rc, by rw [HNA.out, HHR.out.1, HHR.out.2], ?_, ?_⟩
    · rw [HNA.out]
      exact RM.out.kept KY.out (by have := SZ.out; have := LE.out; omega)
    · have sz := SZ.out
      refine Kept.thn' (Kept.thn' HV.out.1 KW.out (fun i hi he => ?_)) KY.out (fun i hi he => ?_)
      · have : i = Ab := he
        omega
      · have : i = Ub + 1 := he
        omega
end Go.Proofs.YbulkdsjeGreatDoor
