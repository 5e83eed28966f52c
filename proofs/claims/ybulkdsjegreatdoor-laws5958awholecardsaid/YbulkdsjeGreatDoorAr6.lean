import Derived.Test.YbulkdsjeGreatDoorAr5
import Derived.BigQuiet
import Derived.Deep.QuietTactic
set_option linter.unusedVariables false
set_option linter.unusedSimpArgs false
namespace Go.Proofs.YbulkdsjeGreatDoor
open Go.RowKit


set_option maxRecDepth 100000 in
set_option maxHeartbeats 4000000 in
theorem add_any (A B v : Nat) (S : Nat → Prop) (b o st nn fu sc fi d n : Nat) (f : Nat → Int) (U : World) (h : AX U S b o st nn fu sc fi d n f) (hAB : A ≤ B) (hB : B ≤ 8000000000) : Calls Ybaz.prog 75 #[.pointer (some ⟨b, o, none⟩), vi A, vi B, .float .f64 v] U fun e w' => e = .returned (.tuple #[]) ∧ AO U S b o st nn fu sc w' := by
  have s0 := h.s0
  have hst := h.hst
  obtain ⟨q0, hq0⟩ : ∃ q0, A / st = q0 := ⟨_, rfl⟩
  have FD := hid (show Calls Ybaz.prog 93 #[vi A, vi st] U (fun e w' => e = .returned (vi q0) ∧ w' = U) from by
    have := floorDiv_any A st U (by omega) (by omega) (by omega)
    rw [← Int.natCast_ediv, hq0] at this
    exact this)
  have hq1 : q0 * st ≤ A := by rw [← hq0]; exact Nat.div_mul_le_self A st
  have hq2 : q0 ≤ A := by rw [← hq0]; exact Nat.div_le_self A st
  have hqi : (q0 : Int) ≤ 8000000000 := by omega
  have HA := hid h
  have HS := hid hst
  have HB := hid (show A ≤ B ∧ B ≤ 8000000000 ∧ q0 * st ≤ A from ⟨hAB, hB, hq1⟩)
  clear h hst hAB hB hq0 hq1 hq2
  go_enter Ybaz.func75, Ybaz.ntmps75
  go_wp2_with (go_at_call 93; refine FD.out.mono ?_; rintro e W1 ⟨rfl, rfl⟩)
  clear s0 hqi
  go_loopw [8] (fun kv X => ∃ k0 : Nat, kv = ii ((k0 : Int) + 1) ∧ k0 * st ≤ B + st ∧ AO W1 S b o st nn fu sc X) (fun kv _ => B + 2 - (intOf kv).toNat)
  case atStart => exact ⟨q0, rfl, by have := HB.out; omega, S, fi, d, n, f, HA.out, AM.refl _ _ _ _⟩
  case round =>
    clear HA FD
    obtain ⟨k0, rfl, hk, S1, fi1, d1, n1, f1, ax, am⟩ := hrel
    obtain ⟨p, hp⟩ : ∃ p, k0 * st = p := ⟨_, rfl⟩
    rw [hp] at hk
    have ep : (k0 : Int) * (st : Int) = (p : Int) := by rw [← hp]; simp
    have ep2 : ((k0 : Int) + 1) * (st : Int) = (p : Int) + (st : Int) := by rw [Int.add_mul, ep, Int.one_mul]
    have hkp : k0 ≤ p := by rw [← hp]; exact Nat.le_mul_of_pos_right _ (by have := HS.out; omega)
    have hkp2 : k0 * 1000 ≤ p := by rw [← hp]; exact Nat.mul_le_mul_left _ (by have := HS.out; omega)
    have b1 : (p : Int) ≤ 8000060000 := by have := HB.out; have := HS.out; omega
    have b2 : (k0 : Int) ≤ 8000060 := by omega
    have b3 : (st : Int) ≤ 60000 := by have := HS.out; omega
    have s0 := ax.s0
    have HK := hid (show k0 * st = p ∧ k0 ≤ p ∧ k0 * 1000 ≤ p from ⟨hp, hkp, hkp2⟩)
    have HAX := hid ax
    have HAM := hid am
    clear ax am hp hk hkp hkp2
    by_cases hlt : (p : Int) < (B : Int)
    · have SA := hid (show Calls Ybaz.prog 96 #[.pointer (some ⟨b, o, none⟩), ii ((k0 : Int) + 1)] wr (fun e w' => SlP wr S1 b o st nn fu sc e w') from slot_any (k0 + 1) S1 b o st nn fu sc fi1 d1 n1 f1 wr HAX.out (by have := HB.out; have := HK.out; omega))
      have HLT := hid (show k0 ≤ p ∧ p < B ∧ k0 * st = p from ⟨HK.out.2.1, by omega, HK.out.1⟩)
      have hBi : (B : Int) ≤ 8000000000 := by have := HB.out; omega
      have hAi : (A : Int) ≤ 8000000000 := by have := HB.out; omega
      go_upto_region 3 with fail
      clear s0 hlt
      go_cut [9] from 29 to 31 (fun v w' => SlV wr S1 b o st nn fu sc v w')
      case first =>
        go_wp2_with (go_at_call 96; refine SA.out.mono ?_; intro e W2 sp; obtain ⟨sv0, rfl, sv1⟩ := sp.val; have SV := hid sv1; clear sv1 sp SA)
        go_meet
        case rel => exact SV.out
      case rest =>
        clear SA
        obtain ⟨S2, fi2, d2, n2, f2, ax2, am2, hv⟩ := hcut
        rcases hv with rfl | ⟨sv, m, Cb, co, cc, I, cp, i, hx, hi, rfl⟩
        · have AX2 := hid ax2
          have AM2 := hid am2
          clear ax2 am2
          go_wp2
          go_roundw
          case rel => exact ⟨k0 + 1, by simp, by have := HLT.out; have e := Nat.add_mul k0 1 st; omega, S2, fi2, d2, n2, f2, AX2.out, HAM.out.trans AM2.out⟩
          case measure =>
            have := HLT.out
            simp [intOf]
            omega
        · have sq : SlQ wc S2 b o st nn fu sc (I ((d2 + i) / 256)) ((d2 + i) % 256 * 2) := ⟨fi2, d2, n2, f2, sv, m, Cb, co, cc, I, cp, i, ax2, hx, hi, rfl, rfl⟩
          obtain ⟨pb, hpb⟩ : ∃ pb, I ((d2 + i) / 256) = pb := ⟨_, rfl⟩
          obtain ⟨po, hpo⟩ : ∃ po, (d2 + i) % 256 * 2 = po := ⟨_, rfl⟩
          rw [hpb, hpo] at sq ⊢
          have SQ := hid sq
          have AM2 := hid am2
          obtain ⟨⟨x, y, cx, cy⟩, fx, fy, s0, s3, nb⟩ := sq.cells
          have C3 := hid (show wc.cell? ⟨pb, po + 1, none⟩ = some (.float .f64 y) ∧ wc.frozen? ⟨pb, po + 1, none⟩ = false ∧ wc.cell? ⟨b, o + 3, none⟩ = some (.float .f64 sc) from ⟨cy, fy, s3⟩)
          have OV : Hid (∀ q, Calls Ybaz.prog 97 #[vi A, vi B, vi p, ii ((p : Int) + (st : Int))] (wc.drewN q) fun e w' => e = .returned (ii (max 0 (min (B : Int) ((p : Int) + (st : Int)) - max (A : Int) (p : Int)))) ∧ w' = wc.drewN q) := hid fun q => overlap_any A B p ((p : Int) + (st : Int)) (wc.drewN q) (by omega) (by omega) (by omega) (by omega)
          obtain ⟨ov, hov⟩ : ∃ ov, max 0 (min (B : Int) ((p : Int) + (st : Int)) - max (A : Int) (p : Int)) = ov := ⟨_, rfl⟩
          rw [hov] at OV
          clear hx ax2 am2 sq hpb hpo hi hov cy fy s3
          go_upto_region 5 with fail
          go_quiet ((go_at_call 97; refine Calls.quiet_of_same (OV.out _)))
          clear OV
          go_upto_region 7 with fail
          obtain ⟨z, hz⟩ : ∃ z, wrap64 (x + ov) = z := ⟨_, rfl⟩
          rw [hz]
          have sq2 := SQ.out.kept (Kept.drawn (Kept.refl _ _) nq)
          have AC := hid (AM.calm (S := S2) (b := b) (o := o) (Kept.drawn (Kept.refl (fun _ => False) wc) nq))
          refine wp_as (fun V => SlQ V S2 b o st nn fu sc pb po ∧ AM wc S2 b o S2 V) ⟨(sq2.setI z).1, AC.out.trans (sq2.setI z).2⟩ ?_
          rintro V ⟨sq4, am4⟩
          obtain ⟨⟨x4, y4, cx4, cy4⟩, fx4, fy4, s04, s34, nb4⟩ := sq4.cells
          have TM := hid (term_any v sc b o ov V.drew s34)
          have s0 : Kept (fun _ => False) V V.drew := (Kept.refl _ V).drew
          haveI nS : Nonempty (Wld (fun U' => Kept (fun _ => False) V U')) := ⟨⟨V.drew, s0⟩⟩
          have z4 : ∀ x : Wld (fun U' => Kept (fun _ => False) V U'), x.w.cell? ⟨pb, po + 1, none⟩ = some (.float .f64 y4) := fun x => x.h.cell (p := ⟨pb, po + 1, none⟩) (fun h => h) cy4
          have SQ4 := hid sq4
          have AM4 := hid am4
          clear sq2 AC SQ C3 cx fx hz sq4 am4 cx4 fx4 s04 s34
          refine wp_region_calmplan 11 [(true, 0), (true, 1), (true, 2), (true, 3), (true, 4), (true, 5), (true, 6), (false, 7), (false, 8), (true, 9), (true, 10), (false, 11)] (fun w' => ∃ x : Wld (fun U' => Kept (fun _ => False) V U'), w' = x.w) mixed (by kernel_rfl) (inS s0) ?_
          iterate 7 (refine wpPlan_q (by rfl) ?_; dsimp only [List.getElem_toArray, List.getElem_cons_zero, List.getElem_cons_succ]; go_big_quiet_step (fail); refine wpQuiet_nil ?_)
          refine wpPlan_e (by rfl) ?_
          dsimp only [List.getElem_toArray, List.getElem_cons_zero, List.getElem_cons_succ]
          go_wp2_with (go_at_call 98; refine TM.out.mono ?_; rintro e W4 ⟨⟨fr, rfl⟩, hd⟩; have KD := hid ((Kept.refl (fun _ => False) V).drew.trans hd.kept); clear hd TM)
          refine onward_normal (fun _ => inS KD.out) ?_
          refine wpPlan_e (by rfl) ?_
          dsimp only [List.getElem_toArray, List.getElem_cons_zero, List.getElem_cons_succ]
          go_wp2_with (((with_reducible (show wpList _ _ _ (⟨_, .binOp .add 24 _ _ _, _, _, _, _⟩ :: _) _ _)); refine wpList_fl rfl .add rfl 24 _ _ _ rfl _ _ rfl rfl ?_; intro fr fn; simp only [Act.put, List.setIfInBounds_toArray, List.set_cons_succ, List.set_cons_zero]))
          refine onward_normal (fun _ => inS (Kept.drawn KD.out _)) ?_
          iterate 2 (refine wpPlan_q (by rfl) ?_; dsimp only [List.getElem_toArray, List.getElem_cons_zero, List.getElem_cons_succ]; go_big_quiet_step (fail); refine wpQuiet_nil ?_)
          have sq5 := SQ4.out.kept (Kept.drawn KD.out fn)
          obtain ⟨⟨x5, y5, cx5, cy5⟩, fx5, fy5, s05, s35, nb5⟩ := sq5.cells
          refine wpPlan_e (by rfl) ?_
          dsimp only [List.getElem_toArray, List.getElem_cons_zero, List.getElem_cons_succ]
          refine wpList_store_as rfl 24 _ _ rfl rfl pb (po + 1) (.float .f64 _) rfl rfl (store24 _ _ _ _ (by rw [cy5]; rfl) fy5) ?_
          refine wpList_done ?_
          refine onward_normal (fun h => by cases h) ?_
          refine wpPlan_nil ?_
          refine calmQ_normal ?_
          refine q_as (fun X => ∃ fi d n f, AX X S2 b o st nn fu sc fi d n f ∧ AM wc S2 b o S2 X) (by
            obtain ⟨g1, g2⟩ := sq5.setF fr
            obtain ⟨fi5, d5, n5, f5, ax5⟩ := g1.ar
            exact ⟨fi5, d5, n5, f5, ax5, (AM4.out.trans (AM.calm (Kept.drawn KD.out fn))).trans g2⟩) ?_
          rintro X ⟨fi5, d5, n5, f5, ax5, am5⟩
          have AX5 := hid ax5
          have AM5 := hid am5
          clear ax5 am5 sq5 cx5 cy5 fx5 fy5 s05 s35 nb5 cy4 fy4 nb4 z4 s0 nS KD SQ4 AM4
          go_wp2
          go_roundw
          case rel => exact ⟨k0 + 1, by simp, by have := HLT.out; have e := Nat.add_mul k0 1 st; omega, S2, fi5, d5, n5, f5, AX5.out, (HAM.out.trans AM2.out).trans AM5.out⟩
          case measure =>
            have := HLT.out
            simp [intOf]
            omega
    · go_wp2
      go_end0
      exact ⟨rfl, S1, fi1, d1, n1, f1, HAX.out, HAM.out⟩
end Go.Proofs.YbulkdsjeGreatDoor
