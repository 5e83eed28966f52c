import Derived.Test.YbulkdsjeGreatDoorBy3
import Derived.BigQuiet
import Derived.Deep.QuietTactic
import Derived.Handy
import Derived.Deep.MidRow
set_option linter.unusedVariables false
set_option linter.unusedSimpArgs false
namespace Go.Proofs.YbulkdsjeGreatDoor
open Go.RowKit

attribute [local go_sem] Oper.semAt_some
theorem BB.kept {w w' : World} {base : Nat} {v v' : Value} {xs ys : List Value} (h : BB w base v xs w' v' ys) : Kept (fun c => v.ownBlock = some c) w w' := h.fp.kept (fun _ _ _ hx => hx.1)

set_option maxRecDepth 100000 in
set_option maxHeartbeats 4000000 in
theorem rule21 (rb ro rc na : Nat) (st nn : Nat → Nat) (hb rw xff base : Nat) (v : Value) (xs : List Value) (w : World) (rm : RuleM w rb ro na st nn) (hhb : hb < 1125899906842624) (hrw : rw < 1125899906842624) (hx : xff < 18446744073709551616) (hown : w.ownsRow base 5 1 v xs.length xs) (hl : xs.length ≤ 1000000000000) (hbs : base ≤ w.heap.size) (hv : ∀ c, v.ownBlock = some c → c ≠ rb) : Calls Ybaz.prog 21 #[v, .agg #[sl rb ro na rc, vi hb, .float .f64 xff, vi rw]] w fun e w' => ∃ v', e = .returned v' ∧ BB w base v xs w' v' (u8s (ruB na st nn hb rw xff)) := by
  have b7 := f64bits
  obtain ⟨W, hW⟩ : ∃ W, w.alloc (.cells #[sl rb ro na rc, vi hb, .float .f64 xff, vi rw] 31) = W := ⟨_, rfl⟩
  obtain ⟨B3, hB3⟩ : ∃ B3, w.heap.size = B3 := ⟨_, rfl⟩
  have k0 : Kept (fun _ => False) w W := by rw [← hW]; exact (Kept.refl _ w).alloc _
  have r0 : W.rangeAt B3 0 [sl rb ro na rc, vi hb, .float .f64 xff, vi rw] := by rw [← hW, ← hB3]; exact range_new w [sl rb ro na rc, vi hb, .float .f64 xff, vi rw] 31
  have o0 : W.ownsRow base 5 1 v xs.length xs := own_kept hown k0 (fun _ _ h => h)
  have hrb := World.block_lt_of_cell? w _ (rm.row 0 (by have := rm.hna; omega)).1
  have fx : ∀ X vv ys, BB W base v xs X vv ys → X.rangeAt B3 0 [sl rb ro na rc, vi hb, .float .f64 xff, vi rw] ∧ RuleM X rb ro na st nn ∧ B3 < X.heap.size ∧ (∀ c, vv.ownBlock = some c → c ≠ B3) := fun X vv ys b => by
    have n3 : ¬ v.ownBlock = some B3 := fun e => by have := (hown.lt _ e).2; omega
    refine ⟨b.kept.range n3 r0, (rm.kept k0 (fun h => h)).kept b.kept (fun e => hv _ e rfl), ?_, fun c hc e => ?_⟩
    · have := b.fp.size
      have := World.block_lt_of_cell? W _ (r0 0 _ rfl)
      dsimp only at this
      omega
    · subst e
      rcases b.mv _ hc with e | e
      · exact n3 e
      · have := World.block_lt_of_cell? W _ (r0 0 _ rfl)
        dsimp only at this
        omega
  have FX := hid fx
  have K0 := hid k0
  have BD := hid rm.bd
  have B0 := hid (BB.refl o0)
  have HL := hid (show xs.length ≤ 1000000000000 ∧ base ≤ W.heap.size from ⟨hl, Nat.le_trans hbs k0.size⟩)
  have hnn := rm.hna
  have y0 : W.cell? ⟨B3, 0, none⟩ = some (sl rb ro na rc) := r0 0 _ rfl
  have hni : (na : Int) ≤ 2 := by omega
  have U0 := hid (uv20 base v xs na W (by omega) o0 (by omega) (Nat.le_trans hbs k0.size))
  clear fx rm hown hl hbs hv k0 o0 r0 hrb
  go_enter Ybaz.func21, Ybaz.ntmps21
  go_upto_region 1 with fail
  clear hW hB3
  go_upto_region 2 with (go_at_call 20; refine U0.out.mono ?_; rintro e W1 ⟨v1, rfl, bb⟩; have B1 := hid bb; clear bb U0)
  clear y0 B0
  have y1 : W1.cell? ⟨B3, 0, none⟩ = some (sl rb ro na rc) := (FX.out _ _ _ B1.out).1 0 _ rfl
  go_wp2
  clear y1
  go_loopw [0, 16] (fun vv iv X => ∃ i : Nat, iv = vi i ∧ i ≤ na ∧ BB W base v xs X vv (u8s (uvF 10 na ++ arB st nn i))) (fun _ iv _ => na - (intOf iv).toNat)
  case atStart => exact ⟨0, rfl, by omega, by rw [arB, List.append_nil]; exact B1.out⟩
  case round =>
    clear B1
    obtain ⟨i, rfl, hi, bb⟩ := hrel
    have BBH := hid bb
    have HI := hid hi
    clear bb hi
    have LEN := hid (show (uvF 10 na ++ arB st nn i).length ≤ 100 by have := uvF_len 10 na; have := arB_len st nn i; have := HI.out; rw [List.length_append]; omega)
    have hii : (i : Int) ≤ 2 := by have := HI.out; omega
    by_cases more : (i : Int) < (na : Int)
    · have hin : i < na := by omega
      obtain ⟨f1, f2, f3, f4⟩ := FX.out _ _ _ BBH.out
      obtain ⟨z0, z1⟩ := f2.row i hin
      have bd := f2.bd i hin
      obtain ⟨s, hs⟩ : ∃ s, st i = s := ⟨_, rfl⟩
      obtain ⟨p, hp⟩ : ∃ p, st i * nn i = p := ⟨_, rfl⟩
      have hpb : p ≤ 6000000 := by rw [← hp]; exact Nat.le_trans (Nat.mul_le_mul bd.2.1 bd.2.2) (by omega)
      rw [hs] at bd
      rw [hp] at z1
      rw [hs] at z0
      obtain ⟨A, hA⟩ : ∃ A, s * 1000000 = A := ⟨_, rfl⟩
      obtain ⟨B, hB⟩ : ∃ B, p * 1000000 = B := ⟨_, rfl⟩
      rw [hA] at z0
      rw [hB] at z1
      have ST := hid (run_storeAt_new (P := Ybaz.prog) wr 58 #[.int .i64 0, .int .i64 0] #[vi A, vi B] (by kernel_rfl) rfl (by simp [Value.oneCell']))
      have MA := hid (fun W => ms35 A W (by omega))
      have MB := hid (fun W => ms35 B W (by omega))
      rw [show A / 1000000 = s by omega] at MA
      rw [show B / 1000000 = p by omega] at MB
      have HSP := hid (show st i = s ∧ st i * nn i = p ∧ i < na from ⟨hs, hp, hin⟩)
      have hsi : (s : Int) ≤ 60000 := by omega
      have hpi : (p : Int) ≤ 6000000 := by omega
      have hlt := fun c hc => (BBH.out.own.lt c hc).2
      clear f1 f2 f3 f4 hA hB hs hp hin
      go_upto_region 5 with ((with_reducible (show wpList _ _ _ (⟨_, .store 58 _ _, _, _, _, _⟩ :: _) _ _)); refine wpList_store_as rfl 58 _ _ rfl rfl wr.heap.size 0 (.agg #[vi A, vi B]) rfl rfl ST.out ?_)
      clear z0 z1 more ST
      refine wp_as (fun Y => Kept (fun _ => False) wr Y ∧ Y.rangeAt wr.heap.size 0 [vi A, vi B] ∧ wr.heap.size < Y.heap.size) ⟨(Kept.refl _ wr).alloc _, range_new wr [vi A, vi B] 58, by rw [World.size_alloc]; omega⟩ ?_
      rintro Y ⟨kY, rY, sY⟩
      obtain ⟨Bk, hBk⟩ : ∃ Bk, wr.heap.size = Bk := ⟨_, rfl⟩
      rw [hBk] at rY sY ⊢
      have bY := BBH.out.calm kY
      have U1 := hid (uv20 base u0 (xs ++ u8s (uvF 10 na ++ arB st nn i)) s Y (by omega) bY.own (by have := HL.out; have := LEN.out; rw [List.length_append, u8s_len]; omega) (by have := HL.out.2; have := bY.fp.size; omega))
      have BY := hid bY
      have yA : Y.cell? ⟨Bk, 0, none⟩ = some (vi A) := rY 0 _ rfl
      have RY := hid (show Y.rangeAt Bk 0 [vi A, vi B] ∧ Bk < Y.heap.size ∧ ∀ c, u0.ownBlock = some c → c ≠ Bk from ⟨rY, sY, fun c hc e => by have := hlt c hc; omega⟩)
      clear kY rY sY hBk bY BBH hlt
      go_upto_region 6 with (first | (go_at_call 35; refine (MA.out _).mono ?_; rintro e Wx ⟨rfl, rfl⟩) | (go_at_call 20; refine U1.out.mono ?_; rintro e W2 ⟨v2, rfl, bb⟩; have B2 := hid bb; clear bb U1))
      clear yA MA
      have b2 := BY.out.trans B2.out
      have yB : W2.cell? ⟨Bk, 1, none⟩ = some (vi B) := B2.out.kept.cell (p := ⟨Bk, 1, none⟩) (fun e => RY.out.2.2 _ e rfl) (RY.out.1 1 _ rfl)
      have U2 := hid (uv20 base v2 (xs ++ (u8s (uvF 10 na ++ arB st nn i) ++ u8s (uvF 10 s))) p W2 (by omega) b2.own (by have := HL.out; have := LEN.out; have := uvF_len 10 s; simp only [List.length_append, u8s_len] at this ⊢; simp only [List.length_append] at *; omega) (by have := HL.out.2; have := b2.fp.size; omega))
      have BT := hid b2
      clear b2 BY B2 RY
      go_wp2_with (first | (go_at_call 35; refine (MB.out _).mono ?_; rintro e Wx ⟨rfl, rfl⟩) | (go_at_call 20; refine U2.out.mono ?_; rintro e W3 ⟨v3, rfl, bb⟩; have B3' := hid bb; clear bb U2))
      go_roundw
      case rel =>
        refine ⟨i + 1, by simp, HSP.out.2.2, ?_⟩
        have b3 := BT.out.trans B3'.out
        rw [arB, HSP.out.2.1, HSP.out.1]
        simp only [u8s_app, List.append_assoc] at b3 ⊢
        exact b3
      case measure =>
        have := HSP.out.2.2
        simp [intOf]
        omega
    · have HN := hid (show i = na by have := HI.out; omega)
      obtain ⟨f1, f2, f3, f4⟩ := FX.out _ _ _ BBH.out
      have y1 : wr.cell? ⟨B3, 1, none⟩ = some (vi hb) := f1 1 _ rfl
      have MH := hid (fun W => ms35 hb W (by omega))
      obtain ⟨hq, hhq⟩ : ∃ hq, hb / 1000000 = hq := ⟨_, rfl⟩
      obtain ⟨rq, hrq⟩ : ∃ rq, rw / 1000000 = rq := ⟨_, rfl⟩
      have MR := hid (fun W => ms35 rw W (by omega))
      rw [hhq] at MH
      rw [hrq] at MR
      have bq : (hq : Int) < 1125899906842624 := by omega
      have brq : (rq : Int) < 1125899906842624 := by omega
      have HQ := hid (show hb / 1000000 = hq ∧ rw / 1000000 = rq from ⟨hhq, hrq⟩)
      have U1 := hid (uv20 base u0 (xs ++ u8s (uvF 10 na ++ arB st nn i)) hq wr (by omega) BBH.out.own (by have := HL.out; have := LEN.out; rw [List.length_append, u8s_len]; omega) (by have := HL.out.2; have := BBH.out.fp.size; omega))
      clear f1 f2 f3 f4 hhq hrq
      go_upto_region 9 with (first | (go_at_call 35; refine (MH.out _).mono ?_; rintro e Wx ⟨rfl, rfl⟩) | (go_at_call 20; refine U1.out.mono ?_; rintro e W2 ⟨v2, rfl, bb⟩; have B2 := hid (BBH.out.trans bb); clear bb U1))
      clear y1 MH BBH
      -- region 9
      obtain ⟨f1, f2, f3, f4⟩ := FX.out _ _ _ B2.out
      have n3 : ¬ v2.ownBlock = some B3 := fun e => f4 _ e rfl
      have s0 : Kept (fun c => v2.ownBlock = some c) W2 W2.drew := (Kept.refl _ W2).drew
      haveI nS : Nonempty (Wld (fun U' => Kept (fun c => v2.ownBlock = some c) W2 U')) := ⟨⟨W2.drew, s0⟩⟩
      have z2 : ∀ x : Wld (fun U' => Kept (fun c => v2.ownBlock = some c) W2 U'), x.w.cell? ⟨B3, 2, none⟩ = some (.float .f64 xff) := fun x => x.h.cell (p := ⟨B3, 2, none⟩) n3 (f1 2 _ rfl)
      have kd : Kept (fun _ => False) W2 W2.drew := (Kept.refl _ W2).drew
      have LE := hid (le41 base v2 (xs ++ (u8s (uvF 10 na ++ arB st nn i) ++ u8s (uvF 10 hq))) xff W2.drew hx (B2.out.calm kd).own (by have := HL.out; have := LEN.out; have := uvF_len 10 hq; rw [List.length_append, List.length_append, u8s_len, u8s_len]; omega) (by have := HL.out.2; have := B2.out.fp.size; have := kd.size; omega))
      clear f1 f2 f3 f4
      refine wp_region_calmplan 7 [(true, 0), (true, 1), (true, 2), (true, 3), (false, 4), (false, 5), (true, 6)] (fun w' => ∃ x : Wld (fun U' => Kept (fun c => v2.ownBlock = some c) W2 U'), w' = x.w) mixed (by kernel_rfl) (inS s0) ?_
      iterate 4 (refine wpPlan_q (by rfl) ?_; dsimp only [List.getElem_toArray, List.getElem_cons_zero, List.getElem_cons_succ]; go_big_quiet_step (fail); refine wpQuiet_nil ?_)
      refine wpPlan_e (by rfl) ?_
      dsimp only [List.getElem_toArray, List.getElem_cons_zero, List.getElem_cons_succ]
      go_wp2
      refine onward_normal (fun _ => inS s0) ?_
      refine wpPlan_e (by rfl) ?_
      dsimp only [List.getElem_toArray, List.getElem_cons_zero, List.getElem_cons_succ]
      go_wp2_with (go_at_call 41; refine LE.out.mono ?_; rintro e W4 ⟨v4, rfl, bb⟩; have B4 := hid (BB.pre kd bb); clear bb LE)
      refine onward_normal (fun _ => inS B4.out.kept) ?_
      (refine wpPlan_q (by rfl) ?_; dsimp only [List.getElem_toArray, List.getElem_cons_zero, List.getElem_cons_succ]; go_big_quiet_step (fail); refine wpQuiet_nil ?_)
      refine wpPlan_nil ?_
      refine calmQ_normal ?_
      have b5 := B2.out.trans B4.out
      have B5 := hid b5
      have y3 : W4.cell? ⟨B3, 3, none⟩ = some (vi rw) := (FX.out _ _ _ b5).1 3 _ rfl
      have U5 := hid (uv20 base v4 (xs ++ (u8s (uvF 10 na ++ arB st nn i) ++ u8s (uvF 10 hq) ++ u8s (leB xff))) rq W4 (by omega) b5.own (by have := HL.out; have := LEN.out; have := uvF_len 10 hq; have : (leB xff).length = 8 := rfl; simp only [List.length_append, u8s_len] at *; omega) (by have := HL.out.2; have := b5.fp.size; omega))
      clear b5 B2 B4 z2 nS s0 n3
      go_wp2_with (first | (go_at_call 35; refine (MR.out _).mono ?_; rintro e Wx ⟨rfl, rfl⟩) | (go_at_call 20; refine U5.out.mono ?_; rintro e W6 ⟨v6, rfl, bb⟩; have B6 := hid (B5.out.trans bb); clear bb U5))
      go_ret
      refine ⟨v6, rfl, ?_⟩
      have b6 := BB.pre K0.out B6.out
      rw [ruB, HQ.out.1, HQ.out.2, ← HN.out]
      rw [← HN.out] at b6
      simp only [u8s_app, List.append_assoc] at b6 ⊢
      exact b6
end Go.Proofs.YbulkdsjeGreatDoor
