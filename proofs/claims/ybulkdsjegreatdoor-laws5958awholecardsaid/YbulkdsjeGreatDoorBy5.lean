import Derived.Test.YbulkdsjeGreatDoorBy4
import Derived.Handy
import Derived.Deep.MidRow
set_option linter.unusedVariables false
set_option linter.unusedSimpArgs false
namespace Go.Proofs.YbulkdsjeGreatDoor
open Go.RowKit

attribute [local go_sem] Oper.semAt_some

set_option maxRecDepth 100000 in
set_option maxHeartbeats 4000000 in
theorem rule13 (rb ro rc na : Nat) (st nn : Nat → Nat) (hb rw xff base : Nat) (v : Value) (xs : List Value) (w : World) (rm : RuleM w rb ro na st nn) (hhb : hb < 1125899906842624) (hrw : rw < 1125899906842624) (hx : xff < 18446744073709551616) (hown : w.ownsRow base 5 1 v xs.length xs) (hl : xs.length ≤ 1000000000000) (hbs : base ≤ w.heap.size) (hv : ∀ c, v.ownBlock = some c → c ≠ rb) : Calls Ybaz.prog 13 #[v, .agg #[sl rb ro na rc, vi hb, .float .f64 xff, vi rw]] w fun e w' => ∃ v', e = .returned v' ∧ BB w base v xs w' v' (u8s (ruB na st nn hb rw xff)) := by
  have b7 := f64bits
  obtain ⟨W, hW⟩ : ∃ W, w.alloc (.cells #[sl rb ro na rc, vi hb, .float .f64 xff, vi rw] 31) = W := ⟨_, rfl⟩
  obtain ⟨B3, hB3⟩ : ∃ B3, w.heap.size = B3 := ⟨_, rfl⟩
  have k0 : Kept (fun _ => False) w W := by rw [← hW]; exact (Kept.refl _ w).alloc _
  have r0 : W.rangeAt B3 0 [sl rb ro na rc, vi hb, .float .f64 xff, vi rw] := by rw [← hW, ← hB3]; exact range_new w [sl rb ro na rc, vi hb, .float .f64 xff, vi rw] 31
  have o0 : W.ownsRow base 5 1 v xs.length xs := own_kept hown k0 (fun _ _ h => h)
  have hrb := World.block_lt_of_cell? w _ (rm.row 0 (by have := rm.hna; omega)).1
  have fx : ∀ X vv ys, BB W base v xs X vv ys → X.rangeAt B3 0 [sl rb ro na rc, vi hb, .float .f64 xff, vi rw] ∧ RuleM X rb ro na st nn := fun X vv ys b => by
    have n3 : ¬ v.ownBlock = some B3 := fun e => by have := (hown.lt _ e).2; omega
    exact ⟨b.kept.range n3 r0, (rm.kept k0 (fun h => h)).kept b.kept (fun e => hv _ e rfl)⟩
  have FX := hid fx
  have K0 := hid k0
  have B0 := hid (BB.refl o0)
  have HL := hid (show xs.length ≤ 1000000000000 ∧ base ≤ W.heap.size from ⟨hl, Nat.le_trans hbs k0.size⟩)
  have hnn := rm.hna
  have y0 : W.cell? ⟨B3, 0, none⟩ = some (sl rb ro na rc) := r0 0 _ rfl
  have hni : (na : Int) ≤ 2 := by omega
  have hxi : (xff : Int) < 18446744073709551616 := by omega
  have U0 := hid (uv12 base v xs na W (by omega) o0 (by omega) (Nat.le_trans hbs k0.size))
  clear fx rm hown hl hbs hv k0 o0 r0 hrb
  go_enter Ybaz.func13, Ybaz.ntmps13
  go_upto_region 1 with fail
  clear hW hB3
  go_upto_region 2 with (go_at_call 12; refine U0.out.mono ?_; rintro e W1 ⟨v1, rfl, bb⟩; have B1 := hid bb; clear bb U0)
  clear y0 B0
  go_wp2
  go_loopw [0, 5] (fun vv iv X => ∃ i : Nat, iv = vi i ∧ i ≤ na ∧ BB W base v xs X vv (u8s (uvF 10 na ++ arB st nn i))) (fun _ iv _ => na - (intOf iv).toNat)
  case atStart => exact ⟨0, rfl, by omega, by rw [arB, List.append_nil]; exact B1.out⟩
  case round =>
    clear B1
    obtain ⟨i, rfl, hi, bb⟩ := hrel
    have BBH := hid bb
    have HI := hid hi
    clear bb hi
    have LEN := hid (show (uvF 10 na ++ arB st nn i).length ≤ 100 by have := uvF_len 10 na; have := arB_len st nn i; have := HI.out; rw [List.length_append]; omega)
    have hii : (i : Int) ≤ 2 := by have := HI.out; omega
    have y1 : wr.cell? ⟨B3, 0, none⟩ = some (sl rb ro na rc) := (FX.out _ _ _ BBH.out).1 0 _ rfl
    by_cases more : (i : Int) < (na : Int)
    · have hin : i < na := by omega
      obtain ⟨f1, f2⟩ := FX.out _ _ _ BBH.out
      obtain ⟨z0, z1⟩ := f2.row i hin
      have bd := f2.bd i hin
      obtain ⟨s, hs⟩ : ∃ s, st i = s := ⟨_, rfl⟩
      obtain ⟨p, hp⟩ : ∃ p, st i * nn i = p := ⟨_, rfl⟩
      have hpb : p ≤ 6000000 := by rw [← hp]; exact Nat.le_trans (Nat.mul_le_mul bd.2.1 bd.2.2) (by omega)
      rw [hs] at bd
      rw [hs] at z0
      obtain ⟨A, hA⟩ : ∃ A, s * 1000000 = A := ⟨_, rfl⟩
      obtain ⟨B, hB⟩ : ∃ B, p * 1000000 = B := ⟨_, rfl⟩
      rw [hA] at z0
      have MA := hid (fun W => ms22 A W (by omega))
      have MB := hid (fun W => ms22 B W (by omega))
      rw [show A / 1000000 = s by omega] at MA
      rw [show B / 1000000 = p by omega] at MB
      have HSP := hid (show st i = s ∧ st i * nn i = p ∧ i < na ∧ p * 1000000 = B from ⟨hs, hp, hin, hB⟩)
      have hsi : (s : Int) ≤ 60000 := by omega
      have hpi : (p : Int) ≤ 6000000 := by omega
      have U1 := hid (uv12 base u0 (xs ++ u8s (uvF 10 na ++ arB st nn i)) s wr (by omega) BBH.out.own (by have := HL.out; have := LEN.out; rw [List.length_append, u8s_len]; omega) (by have := HL.out.2; have := BBH.out.fp.size; omega))
      clear f1 f2 hA hB hs hp hin z1
      go_upto_region 6 with (first | (go_at_call 22; refine (MA.out _).mono ?_; rintro e Wx ⟨rfl, rfl⟩) | (go_at_call 12; refine U1.out.mono ?_; rintro e W2 ⟨v2, rfl, bb⟩; have B2 := hid (BBH.out.trans bb); clear bb U1))
      clear z0 y1 MA BBH
      obtain ⟨f1, f2⟩ := FX.out _ _ _ B2.out
      have z1 := (f2.row i HSP.out.2.2.1).2
      rw [HSP.out.2.1, HSP.out.2.2.2] at z1
      have y1 : W2.cell? ⟨B3, 0, none⟩ = some (sl rb ro na rc) := f1 0 _ rfl
      have U2 := hid (uv12 base v2 (xs ++ (u8s (uvF 10 na ++ arB st nn i) ++ u8s (uvF 10 s))) p W2 (by omega) B2.out.own (by have := HL.out; have := LEN.out; have := uvF_len 10 s; simp only [List.length_append, u8s_len] at *; omega) (by have := HL.out.2; have := B2.out.fp.size; omega))
      clear f1 f2
      go_wp2_with (first | (go_at_call 22; refine (MB.out _).mono ?_; rintro e Wx ⟨rfl, rfl⟩) | (go_at_call 12; refine U2.out.mono ?_; rintro e W3 ⟨v3, rfl, bb⟩; have B3' := hid (B2.out.trans bb); clear bb U2))
      go_roundw
      case rel =>
        refine ⟨i + 1, by simp, HSP.out.2.2.1, ?_⟩
        have b3 := B3'.out
        rw [arB, HSP.out.2.1, HSP.out.1]
        simp only [u8s_app, List.append_assoc] at b3 ⊢
        exact b3
      case measure =>
        have := HSP.out.2.2.1
        simp [intOf]
        omega
    · have HN := hid (show i = na by have := HI.out; omega)
      obtain ⟨f1, f2⟩ := FX.out _ _ _ BBH.out
      have z1 : wr.cell? ⟨B3, 1, none⟩ = some (vi hb) := f1 1 _ rfl
      have MH := hid (fun W => ms22 hb W (by omega))
      obtain ⟨hq, hhq⟩ : ∃ hq, hb / 1000000 = hq := ⟨_, rfl⟩
      obtain ⟨rq, hrq⟩ : ∃ rq, rw / 1000000 = rq := ⟨_, rfl⟩
      have MR := hid (fun W => ms22 rw W (by omega))
      rw [hhq] at MH
      rw [hrq] at MR
      have bq : (hq : Int) < 1125899906842624 := by omega
      have brq : (rq : Int) < 1125899906842624 := by omega
      have HQ := hid (show hb / 1000000 = hq ∧ rw / 1000000 = rq from ⟨hhq, hrq⟩)
      have U1 := hid (uv12 base u0 (xs ++ u8s (uvF 10 na ++ arB st nn i)) hq wr (by omega) BBH.out.own (by have := HL.out; have := LEN.out; rw [List.length_append, u8s_len]; omega) (by have := HL.out.2; have := BBH.out.fp.size; omega))
      clear f1 f2 hhq hrq
      go_upto_region 8 with (first | (go_at_call 22; refine (MH.out _).mono ?_; rintro e Wx ⟨rfl, rfl⟩) | (go_at_call 12; refine U1.out.mono ?_; rintro e W2 ⟨v2, rfl, bb⟩; have B2 := hid (BBH.out.trans bb); clear bb U1))
      clear y1 z1 MH BBH more
      have z2 : W2.cell? ⟨B3, 2, none⟩ = some (.float .f64 xff) := (FX.out _ _ _ B2.out).1 2 _ rfl
      obtain ⟨ys, hys⟩ : ∃ ys, uvF 10 na ++ arB st nn i ++ uvF 10 hq = ys := ⟨_, rfl⟩
      have b2 := B2.out
      rw [← u8s_app, hys] at b2
      have B2' := hid b2
      have LY := hid (show ys.length ≤ 200 by rw [← hys, List.length_append]; have := LEN.out; have := uvF_len 10 hq; omega)
      have HY := hid hys
      clear b2 B2 hys
      go_wp2
      clear z2
      go_loopw [0, 7] (fun vv jv X => ∃ j : Nat, jv = vi j ∧ j ≤ 8 ∧ BB W base v xs X vv (u8s ys ++ u8s ((leB xff).take j))) (fun _ jv _ => 8 - (intOf jv).toNat)
      case atStart => exact ⟨0, rfl, by omega, by simpa [u8s] using B2'.out⟩
      case round =>
       clear B2'
       obtain ⟨j, rfl, hj, bb⟩ := hrel
       have BBH := hid bb
       clear bb
       obtain rfl | rfl | rfl | rfl | rfl | rfl | rfl | rfl | rfl : j = 0 ∨ j = 1 ∨ j = 2 ∨ j = 3 ∨ j = 4 ∨ j = 5 ∨ j = 6 ∨ j = 7 ∨ j = 8 := by omega
       · go_wp2_with ((with_reducible (show wpList _ _ _ (⟨some 59, _, _, _, _, _⟩ :: _) _ _)); refine wpList_src rfl _ _ rfl base u0 (xs ++ (u8s ys ++ u8s ((leB xff).take 0))) rfl (own_kept BBH.out.own ((Kept.refl (fun _ => False) wr).alloc _) (fun _ _ h => h)) _ [.int .u8 ((xff : Int) % 256)] rfl (src_one _ _) (fun b hb => by simp at hb; rw [hb]; rfl) (by have := HL.out; have := LY.out; simp [u8s_len]; omega) (by rw [World.size_alloc]; have := BBH.out.fp.size; have := HL.out.2; omega) ?_; intro v2 W2 bb2; have BB2 := hid (BBH.out.trans (BB.pre ((Kept.refl (fun _ => False) wr).alloc _) bb2)); clear bb2 BBH; simp only [Act.put, List.setIfInBounds_toArray, List.set_cons_succ, List.set_cons_zero])
         go_roundw
         case rel => exact ⟨1, rfl, by omega, by
           have b2 := BB2.out
           simp only [leB, List.take, u8s, List.map, List.append_assoc, List.cons_append, List.nil_append] at b2 ⊢
           simpa using b2⟩
         case measure => simp [intOf]
       · go_wp2_with ((with_reducible (show wpList _ _ _ (⟨some 59, _, _, _, _, _⟩ :: _) _ _)); refine wpList_src rfl _ _ rfl base u0 (xs ++ (u8s ys ++ u8s ((leB xff).take 1))) rfl (own_kept BBH.out.own ((Kept.refl (fun _ => False) wr).alloc _) (fun _ _ h => h)) _ [.int .u8 ((xff : Int) / 256 % 256)] rfl (src_one _ _) (fun b hb => by simp at hb; rw [hb]; rfl) (by have := HL.out; have := LY.out; simp [u8s_len]; omega) (by rw [World.size_alloc]; have := BBH.out.fp.size; have := HL.out.2; omega) ?_; intro v2 W2 bb2; have BB2 := hid (BBH.out.trans (BB.pre ((Kept.refl (fun _ => False) wr).alloc _) bb2)); clear bb2 BBH; simp only [Act.put, List.setIfInBounds_toArray, List.set_cons_succ, List.set_cons_zero])
         go_roundw
         case rel => exact ⟨2, rfl, by omega, by
           have b2 := BB2.out
           simp only [leB, List.take, u8s, List.map, List.append_assoc, List.cons_append, List.nil_append] at b2 ⊢
           simpa using b2⟩
         case measure => simp [intOf]
       · go_wp2_with ((with_reducible (show wpList _ _ _ (⟨some 59, _, _, _, _, _⟩ :: _) _ _)); refine wpList_src rfl _ _ rfl base u0 (xs ++ (u8s ys ++ u8s ((leB xff).take 2))) rfl (own_kept BBH.out.own ((Kept.refl (fun _ => False) wr).alloc _) (fun _ _ h => h)) _ [.int .u8 ((xff : Int) / 65536 % 256)] rfl (src_one _ _) (fun b hb => by simp at hb; rw [hb]; rfl) (by have := HL.out; have := LY.out; simp [u8s_len]; omega) (by rw [World.size_alloc]; have := BBH.out.fp.size; have := HL.out.2; omega) ?_; intro v2 W2 bb2; have BB2 := hid (BBH.out.trans (BB.pre ((Kept.refl (fun _ => False) wr).alloc _) bb2)); clear bb2 BBH; simp only [Act.put, List.setIfInBounds_toArray, List.set_cons_succ, List.set_cons_zero])
         go_roundw
         case rel => exact ⟨3, rfl, by omega, by
           have b2 := BB2.out
           simp only [leB, List.take, u8s, List.map, List.append_assoc, List.cons_append, List.nil_append] at b2 ⊢
           simpa using b2⟩
         case measure => simp [intOf]
       · go_wp2_with ((with_reducible (show wpList _ _ _ (⟨some 59, _, _, _, _, _⟩ :: _) _ _)); refine wpList_src rfl _ _ rfl base u0 (xs ++ (u8s ys ++ u8s ((leB xff).take 3))) rfl (own_kept BBH.out.own ((Kept.refl (fun _ => False) wr).alloc _) (fun _ _ h => h)) _ [.int .u8 ((xff : Int) / 16777216 % 256)] rfl (src_one _ _) (fun b hb => by simp at hb; rw [hb]; rfl) (by have := HL.out; have := LY.out; simp [u8s_len]; omega) (by rw [World.size_alloc]; have := BBH.out.fp.size; have := HL.out.2; omega) ?_; intro v2 W2 bb2; have BB2 := hid (BBH.out.trans (BB.pre ((Kept.refl (fun _ => False) wr).alloc _) bb2)); clear bb2 BBH; simp only [Act.put, List.setIfInBounds_toArray, List.set_cons_succ, List.set_cons_zero])
         go_roundw
         case rel => exact ⟨4, rfl, by omega, by
           have b2 := BB2.out
           simp only [leB, List.take, u8s, List.map, List.append_assoc, List.cons_append, List.nil_append] at b2 ⊢
           simpa using b2⟩
         case measure => simp [intOf]
       · go_wp2_with ((with_reducible (show wpList _ _ _ (⟨some 59, _, _, _, _, _⟩ :: _) _ _)); refine wpList_src rfl _ _ rfl base u0 (xs ++ (u8s ys ++ u8s ((leB xff).take 4))) rfl (own_kept BBH.out.own ((Kept.refl (fun _ => False) wr).alloc _) (fun _ _ h => h)) _ [.int .u8 ((xff : Int) / 4294967296 % 256)] rfl (src_one _ _) (fun b hb => by simp at hb; rw [hb]; rfl) (by have := HL.out; have := LY.out; simp [u8s_len]; omega) (by rw [World.size_alloc]; have := BBH.out.fp.size; have := HL.out.2; omega) ?_; intro v2 W2 bb2; have BB2 := hid (BBH.out.trans (BB.pre ((Kept.refl (fun _ => False) wr).alloc _) bb2)); clear bb2 BBH; simp only [Act.put, List.setIfInBounds_toArray, List.set_cons_succ, List.set_cons_zero])
         go_roundw
         case rel => exact ⟨5, rfl, by omega, by
           have b2 := BB2.out
           simp only [leB, List.take, u8s, List.map, List.append_assoc, List.cons_append, List.nil_append] at b2 ⊢
           simpa using b2⟩
         case measure => simp [intOf]
       · go_wp2_with ((with_reducible (show wpList _ _ _ (⟨some 59, _, _, _, _, _⟩ :: _) _ _)); refine wpList_src rfl _ _ rfl base u0 (xs ++ (u8s ys ++ u8s ((leB xff).take 5))) rfl (own_kept BBH.out.own ((Kept.refl (fun _ => False) wr).alloc _) (fun _ _ h => h)) _ [.int .u8 ((xff : Int) / 1099511627776 % 256)] rfl (src_one _ _) (fun b hb => by simp at hb; rw [hb]; rfl) (by have := HL.out; have := LY.out; simp [u8s_len]; omega) (by rw [World.size_alloc]; have := BBH.out.fp.size; have := HL.out.2; omega) ?_; intro v2 W2 bb2; have BB2 := hid (BBH.out.trans (BB.pre ((Kept.refl (fun _ => False) wr).alloc _) bb2)); clear bb2 BBH; simp only [Act.put, List.setIfInBounds_toArray, List.set_cons_succ, List.set_cons_zero])
         go_roundw
         case rel => exact ⟨6, rfl, by omega, by
           have b2 := BB2.out
           simp only [leB, List.take, u8s, List.map, List.append_assoc, List.cons_append, List.nil_append] at b2 ⊢
           simpa using b2⟩
         case measure => simp [intOf]
       · go_wp2_with ((with_reducible (show wpList _ _ _ (⟨some 59, _, _, _, _, _⟩ :: _) _ _)); refine wpList_src rfl _ _ rfl base u0 (xs ++ (u8s ys ++ u8s ((leB xff).take 6))) rfl (own_kept BBH.out.own ((Kept.refl (fun _ => False) wr).alloc _) (fun _ _ h => h)) _ [.int .u8 ((xff : Int) / 281474976710656 % 256)] rfl (src_one _ _) (fun b hb => by simp at hb; rw [hb]; rfl) (by have := HL.out; have := LY.out; simp [u8s_len]; omega) (by rw [World.size_alloc]; have := BBH.out.fp.size; have := HL.out.2; omega) ?_; intro v2 W2 bb2; have BB2 := hid (BBH.out.trans (BB.pre ((Kept.refl (fun _ => False) wr).alloc _) bb2)); clear bb2 BBH; simp only [Act.put, List.setIfInBounds_toArray, List.set_cons_succ, List.set_cons_zero])
         go_roundw
         case rel => exact ⟨7, rfl, by omega, by
           have b2 := BB2.out
           simp only [leB, List.take, u8s, List.map, List.append_assoc, List.cons_append, List.nil_append] at b2 ⊢
           simpa using b2⟩
         case measure => simp [intOf]
       · go_wp2_with ((with_reducible (show wpList _ _ _ (⟨some 59, _, _, _, _, _⟩ :: _) _ _)); refine wpList_src rfl _ _ rfl base u0 (xs ++ (u8s ys ++ u8s ((leB xff).take 7))) rfl (own_kept BBH.out.own ((Kept.refl (fun _ => False) wr).alloc _) (fun _ _ h => h)) _ [.int .u8 ((xff : Int) / 72057594037927936)] rfl (src_one _ _) (fun b hb => by simp at hb; rw [hb]; rfl) (by have := HL.out; have := LY.out; simp [u8s_len]; omega) (by rw [World.size_alloc]; have := BBH.out.fp.size; have := HL.out.2; omega) ?_; intro v2 W2 bb2; have BB2 := hid (BBH.out.trans (BB.pre ((Kept.refl (fun _ => False) wr).alloc _) bb2)); clear bb2 BBH; simp only [Act.put, List.setIfInBounds_toArray, List.set_cons_succ, List.set_cons_zero])
         go_roundw
         case rel => exact ⟨8, rfl, by omega, by
           have b2 := BB2.out
           simp only [leB, List.take, u8s, List.map, List.append_assoc, List.cons_append, List.nil_append] at b2 ⊢
           simpa using b2⟩
         case measure => simp [intOf]

       · have z3 : wr.cell? ⟨B3, 3, none⟩ = some (vi rw) := (FX.out _ _ _ BBH.out).1 3 _ rfl
         have U5 := hid (uv12 base u0 (xs ++ (u8s ys ++ u8s ((leB xff).take 8))) rq wr (by omega) BBH.out.own (by have := HL.out; have := LY.out; simp [u8s_len]; omega) (by have := HL.out.2; have := BBH.out.fp.size; omega))
         go_wp2_with (first | (go_at_call 22; refine (MR.out _).mono ?_; rintro e Wx ⟨rfl, rfl⟩) | (go_at_call 12; refine U5.out.mono ?_; rintro e W6 ⟨v6, rfl, bb⟩; have B6 := hid (BBH.out.trans bb); clear bb U5))
         go_ret
         refine ⟨v6, rfl, ?_⟩
         have b6 := BB.pre K0.out B6.out
         rw [ruB, HQ.out.1, HQ.out.2]
         rw [← HY.out, HN.out, show (leB xff).take 8 = leB xff from rfl] at b6
         simp only [u8s_app, List.append_assoc] at b6 ⊢
         exact b6
end Go.Proofs.YbulkdsjeGreatDoor
