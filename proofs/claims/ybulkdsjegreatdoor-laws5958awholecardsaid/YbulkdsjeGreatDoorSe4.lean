import Derived.Test.YbulkdsjeGreatDoorSe3
import Derived.BigQuiet
import Derived.Deep.QuietTactic
set_option linter.unusedVariables false
set_option linter.unusedSimpArgs false
namespace Go.Proofs.YbulkdsjeGreatDoor
open Go.RowKit

theorem SO.two {U V W : World} {SA S1 : Nat → Nat → Prop} {sb ab na : Nat} {st nn fu : Nat → Nat} {hb pv nw : Nat} {sd : Bool} (h : SX V S1 sb ab na st nn fu hb pv nw sd) (sm : SM U SA ab na S1 V) {i sc fi d n : Nat} {f : Nat → Int} (hi : i < na) {S' : Nat → Prop} (ax : AX W S' ab (i * 8) (st i) (nn i) (fu i) sc fi d n f) (am : AM V (S1 i) ab (i * 8) S' W) : SO U SA sb ab na st nn fu hb pv nw sd W := SO.trans sm (SO.turn h hi ax am)

set_option maxRecDepth 100000 in
set_option maxHeartbeats 4000000 in
theorem consolidate_any (bf : Nat) (SA : Nat → Nat → Prop) (sb ab na : Nat) (st nn fu : Nat → Nat) (hb pv nw : Nat) (sd : Bool) (U : World) (h : SX U SA sb ab na st nn fu hb pv nw sd) (hbf : bf ≤ 8000000000) : Calls Ybaz.prog 76 #[.pointer (some ⟨sb, 0, none⟩), vi bf] U fun e w' => e = .returned (.tuple #[]) ∧ SO U SA sb ab na st nn fu hb pv nw sd w' := by
  have c4 := h.c4
  have hna := h.hna
  by_cases hn1 : na = 1
  · have HX := hid h
    have e1 : ((na : Int) == 1) = true := by simp [hn1]
    clear h hna hn1
    go_enter Ybaz.func76, Ybaz.ntmps76
    go_wp2
    refine bodyPost_ret (results_none Ybaz.results76 _ _ _) rfl ?_
    exact ⟨rfl, SO.refl HX.out⟩
  · have e1 : ((na : Int) == 1) = false := by simp; omega
    have F1 := hid (finest_any sb ab na U (by omega) h.c4)
    obtain ⟨sc, fi, d, n, f, ax⟩ := h.ar 0 (by omega)
    rw [Nat.zero_mul] at ax
    obtain ⟨s, hs⟩ : ∃ s, st 0 = s := ⟨_, rfl⟩
    have hst := ax.hst
    rw [hs] at hst
    have hpn := h.hpn
    have hfi := ax.hfi
    obtain ⟨q, hq⟩ : ∃ q, pv / s = q := ⟨_, rfl⟩
    obtain ⟨q1, hq1⟩ : ∃ q1, bf / s = q1 := ⟨_, rfl⟩
    have hqs : q * s ≤ pv := by rw [← hq]; exact Nat.div_mul_le_self pv s
    have dv : ∀ a, a ≤ 8000000000 → a / s ≤ 8000000 := fun a ha => by
      have : a / s ≤ a / 1000 := Nat.div_le_div_left hst.1 (by omega)
      omega
    have hq2 : q ≤ 8000000 := by rw [← hq]; exact dv _ (by omega)
    have hq12 : q1 ≤ 8000000 := by rw [← hq1]; exact dv _ (by omega)
    have FD1 : Hid (∀ W, Calls Ybaz.prog 93 #[vi bf, vi s] W fun e w' => e = .returned (vi q1) ∧ w' = W) := hid fun W => by
      have := floorDiv_any bf s W (by omega) (by omega) (by omega)
      rw [← Int.natCast_ediv, hq1] at this
      exact this
    have FD2 : Hid (∀ W, Calls Ybaz.prog 93 #[vi pv, vi s] W fun e w' => e = .returned (vi q) ∧ w' = W) := hid fun W => by
      have := floorDiv_any pv s W (by omega) (by omega) (by omega)
      rw [← Int.natCast_ediv, hq] at this
      exact this
    have LA : Hid (∀ W, Kept (fun _ => False) U W → Calls Ybaz.prog 60 #[.pointer (some ⟨ab, 0, none⟩)] W fun e w' => e = .returned (ii ((fi : Int) + (n : Int) - 1)) ∧ Dr W w') := hid fun W kk => last_any fi n ab 0 W (ax.kept kk).s4 (ax.kept kk).ck.c2 hfi
    obtain ⟨lo, hlo⟩ : ∃ lo : Nat, max ((q1 : Int) + 1) (fi : Int) = (lo : Int) := ⟨max (q1 + 1) fi, by omega⟩
    obtain ⟨hi, hhi⟩ : ∃ hi : Int, min (q : Int) ((fi : Int) + (n : Int) - 1) = hi := ⟨_, rfl⟩
    have HH := hid (show hi ≤ (q : Int) ∧ q * s ≤ pv ∧ lo ≤ 8388608 ∧ pv ≤ 8000000000 ∧ 1000 ≤ s ∧ s ≤ 60000 ∧ st 0 = s ∧ q ≤ 8000000 from ⟨by omega, hqs, by omega, by omega, hst.1, hst.2, hs, hq2⟩)
    have b1 : (q1 : Int) ≤ 8000000 := by omega
    have b2 : (q : Int) ≤ 8000000 := by omega
    have b3 : (fi : Int) ≤ 8388608 := by omega
    have b4 : (n : Int) ≤ 8388608 := by omega
    have s0 : Kept (fun _ => False) U U.drew := (Kept.refl _ U).drew
    haveI nS : Nonempty (Wld (fun U' => Kept (fun _ => False) U U')) := ⟨⟨U.drew, s0⟩⟩
    have y8 : ∀ x : Wld (fun U' => Kept (fun _ => False) U U'), x.w.cell? ⟨sb, 8, none⟩ = some (vi pv) := fun x => x.h.cell (p := ⟨sb, 8, none⟩) (fun h => h) h.c8
    have y0 : ∀ x : Wld (fun U' => Kept (fun _ => False) U U'), x.w.cell? ⟨ab, 0, none⟩ = some (vi s) := fun x => x.h.cell (p := ⟨ab, 0, none⟩) (fun h => h) (by rw [← hs]; exact ax.s0)
    have y4 : ∀ x : Wld (fun U' => Kept (fun _ => False) U U'), x.w.cell? ⟨ab, 0 + 4, none⟩ = some (vi fi) := fun x => x.h.cell (p := ⟨ab, 0 + 4, none⟩) (fun h => h) ax.s4
    have HX := hid h
    have HN := hid (show 1 ≤ na ∧ na ≤ 2 from hna)
    clear h ax hs hst hpn hfi hq hq1 hqs dv hq2 hq12 hna hn1
    go_enter Ybaz.func76, Ybaz.ntmps76
    go_upto_region 2 with (go_at_call 71; refine F1.out.mono ?_; rintro e W1 ⟨rfl, rfl⟩)
    clear e1 c4
    refine wp_region_calmplan 13 [(true, 0), (true, 1), (true, 2), (true, 3), (true, 4), (true, 7), (true, 8), (true, 9), (true, 10), (false, 5), (true, 6), (false, 11), (true, 12)] (fun w' => ∃ x : Wld (fun U' => Kept (fun _ => False) W1 U'), w' = x.w) mixed (by kernel_rfl) (inS s0) ?_
    iterate 9 (refine wpPlan_q (by rfl) ?_; dsimp only [List.getElem_toArray, List.getElem_cons_zero, List.getElem_cons_succ]; go_big_quiet_step (fail); refine wpQuiet_nil ?_)
    refine wpPlan_e (by rfl) ?_
    dsimp only [List.getElem_toArray, List.getElem_cons_zero, List.getElem_cons_succ]
    go_wp2_with (go_at_call 93; refine (FD1.out _).mono ?_; rintro e W3 ⟨rfl, rfl⟩)
    refine onward_normal (fun _ => inS s0) ?_
    (refine wpPlan_q (by rfl) ?_; dsimp only [List.getElem_toArray, List.getElem_cons_zero, List.getElem_cons_succ]; go_big_quiet_step (fail); refine wpQuiet_nil ?_)
    refine wpPlan_e (by rfl) ?_
    dsimp only [List.getElem_toArray, List.getElem_cons_zero, List.getElem_cons_succ]
    go_wp2
    refine onward_normal (fun _ => inS s0) ?_
    (refine wpPlan_q (by rfl) ?_; dsimp only [List.getElem_toArray, List.getElem_cons_zero, List.getElem_cons_succ]; go_big_quiet_step (fail); refine wpQuiet_nil ?_)
    refine wpPlan_nil ?_
    refine calmQ_normal ?_
    refine q_as (fun X => Kept (fun _ => False) W1 X) s0 ?_
    intro W2 k2
    have K2 := hid k2
    clear nS s0
    have y8' : ∀ x : Wld (fun U' => Kept (fun _ => False) W2 U'), x.w.cell? ⟨sb, 8, none⟩ = some (vi pv) := fun x => y8 ⟨x.w, k2.trans x.h⟩
    have y0' : ∀ x : Wld (fun U' => Kept (fun _ => False) W2 U'), x.w.cell? ⟨ab, 0, none⟩ = some (vi s) := fun x => y0 ⟨x.w, k2.trans x.h⟩
    have s0 : Kept (fun _ => False) W2 W2.drew := (Kept.refl _ W2).drew
    haveI nS : Nonempty (Wld (fun U' => Kept (fun _ => False) W2 U')) := ⟨⟨W2.drew, s0⟩⟩
    clear k2 y8 y0 y4 hlo
    go_upto_region 3 with fail
    refine wp_region_calmplan 13 [(true, 0), (true, 1), (true, 2), (true, 3), (true, 4), (true, 5), (true, 6), (true, 7), (true, 9), (false, 8), (false, 10), (false, 11), (true, 12)] (fun w' => ∃ x : Wld (fun U' => Kept (fun _ => False) W2 U'), w' = x.w) mixed (by kernel_rfl) (inS s0) ?_
    iterate 9 (refine wpPlan_q (by rfl) ?_; dsimp only [List.getElem_toArray, List.getElem_cons_zero, List.getElem_cons_succ]; go_big_quiet_step (fail); refine wpQuiet_nil ?_)
    refine wpPlan_e (by rfl) ?_
    dsimp only [List.getElem_toArray, List.getElem_cons_zero, List.getElem_cons_succ]
    go_wp2_with (go_at_call 93; refine (FD2.out _).mono ?_; rintro e W3 ⟨rfl, rfl⟩)
    refine onward_normal (fun _ => inS s0) ?_
    refine wpPlan_e (by rfl) ?_
    dsimp only [List.getElem_toArray, List.getElem_cons_zero, List.getElem_cons_succ]
    go_wp2_with (go_at_call 60; refine (LA.out _ (K2.out.trans s0)).mono ?_; rintro e W4 ⟨rfl, hd⟩; have K4 := hid (s0.trans hd.kept); clear hd LA)
    refine onward_normal (fun _ => inS K4.out) ?_
    refine wpPlan_e (by rfl) ?_
    dsimp only [List.getElem_toArray, List.getElem_cons_zero, List.getElem_cons_succ]
    go_wp2
    refine onward_normal (fun _ => inS K4.out) ?_
    (refine wpPlan_q (by rfl) ?_; dsimp only [List.getElem_toArray, List.getElem_cons_zero, List.getElem_cons_succ]; go_big_quiet_step (fail); refine wpQuiet_nil ?_)
    refine wpPlan_nil ?_
    refine calmQ_normal ?_
    have S4 := hid ((SO.refl HX.out).kept (K2.out.trans K4.out))
    clear y8' y0' nS s0 K2 K4 FD1 FD2 F1 hhi b1 b3 b4 HX
    go_wp2
    go_loopw [7] (fun kv X => ∃ k : Nat, kv = vi k ∧ k ≤ 8388609 ∧ SO W1 SA sb ab na st nn fu hb pv nw sd X) (fun kv _ => (hi + 1 - intOf kv).toNat)
    case atStart => exact ⟨lo, rfl, by have := HH.out; omega, S4.out⟩
    case round =>
      clear S4
      obtain ⟨k, rfl, hk, S1, sx, sm⟩ := hrel
      have SXH := hid sx
      have SMH := hid sm
      have HK := hid hk
      have hki : (k : Int) ≤ 8388609 := by omega
      clear sx sm hk
      by_cases more : (k : Int) ≤ hi
      · have FV := hid (finestValue_any k S1 sb ab na st nn fu hb pv nw sd wr SXH.out (by have := HH.out; omega))
        have MORE := hid more
        go_upto_region 8 with (go_at_call 99; refine FV.out.mono ?_; rintro e W5 ⟨⟨x, t, rfl⟩, k5⟩; have K5 := hid k5; clear k5 FV)
        clear more
        cases t with
        | false =>
          go_wp2
          go_roundw
          case rel => exact ⟨k + 1, by simp, by have := HH.out; have := MORE.out; omega, S1, SXH.out.kept K5.out, SMH.out.trans (SM.calm K5.out)⟩
          case measure =>
            have := MORE.out
            simp [intOf]
            omega
        | true =>
          go_upto_region 9 with fail
          have S5 := hid (show SO W1 SA sb ab na st nn fu hb pv nw sd W5 from ⟨S1, SXH.out.kept K5.out, SMH.out.trans (SM.calm K5.out)⟩)
          obtain ⟨p, hp⟩ : ∃ p, k * s = p := ⟨_, rfl⟩
          have hp2 : p ≤ 8000000000 := by
            have h1 : k ≤ q := by have := MORE.out; have := HH.out.1; omega
            have h2 : k * s ≤ q * s := Nat.mul_le_mul_right s h1
            have := HH.out
            omega
          have ep : (k : Int) * (s : Int) = (p : Int) := by rw [← hp]; simp
          have bp : (p : Int) ≤ 8000000000 := by omega
          have HP := hid hp2
          clear hp hp2 SXH SMH K5
          go_wp2
          go_loopw [10] (fun iv X => ∃ i : Nat, iv = vi i ∧ 1 ≤ i ∧ i ≤ na ∧ SO W1 SA sb ab na st nn fu hb pv nw sd X) (fun iv _ => na - (intOf iv).toNat)
          case atStart => exact ⟨1, rfl, by omega, HN.out.1, S5.out⟩
          case round =>
            clear S5
            obtain ⟨i, rfl, hi1, hi2, S1, sx, sm⟩ := hrel
            have c4 := sx.c4
            have SXH := hid sx
            have SMH := hid sm
            have HI := hid (show 1 ≤ i ∧ i ≤ na from ⟨hi1, hi2⟩)
            have hii : (i : Int) ≤ 2 := by have := HN.out; omega
            clear sx sm hi1 hi2
            by_cases more : (i : Int) < (na : Int)
            · have hin : i < na := by omega
              obtain ⟨sc1, fi1, d1, n1, f1, ax1⟩ := SXH.out.ar i hin
              obtain ⟨s1, hs1⟩ : ∃ s1, st i = s1 := ⟨_, rfl⟩
              have hst1 := ax1.hst
              rw [hs1] at hst1
              obtain ⟨c, ec, hc, _, _⟩ := cdiv p s1 hst1.1 HP.out
              have CD : Hid (∀ W, Calls Ybaz.prog 72 #[vi p, vi s1] W fun e w' => e = .returned (vi c) ∧ w' = W) := hid fun W => by
                have := ceilDiv_any p s1 W (by omega) (by omega) (by omega)
                rw [ec] at this
                exact this
              have SL := hid (slot_any c (S1 i) ab (i * 8) (st i) (nn i) (fu i) sc1 fi1 d1 n1 f1 wr.drew (ax1.kept (Kept.refl _ _).drew) (by omega))
              have ab0 : wr.cell? ⟨ab, 0, none⟩ = some (vi s) := by
                obtain ⟨sc0, fi0, d0, n0, f0, ax0⟩ := SXH.out.ar 0 (by omega)
                have := ax0.s0
                rw [Nat.zero_mul, HH.out.2.2.2.2.2.2.1] at this
                exact this
              have hS1 : ¬ S1 i ab := (SXH.out.ar i hin).bl.2.2.1
              have hab : ab < wr.heap.size := (SXH.out.ar i hin).bl.1
              have cs1 : wr.cell? ⟨ab, i * 8, none⟩ = some (vi s1) := by rw [← hs1]; exact ax1.s0
              have r0 : wr.drew.cell? ⟨ab, 0, none⟩ = some (vi s) ∧ wr.drew.cell? ⟨ab, i * 8, none⟩ = some (vi s1) := ⟨ab0, cs1⟩
              haveI nS : Nonempty (Wld (fun w => w.cell? ⟨ab, 0, none⟩ = some (vi s) ∧ w.cell? ⟨ab, i * 8, none⟩ = some (vi s1))) := ⟨⟨wr.drew, r0⟩⟩
              have y0 : ∀ x : Wld (fun w => w.cell? ⟨ab, 0, none⟩ = some (vi s) ∧ w.cell? ⟨ab, i * 8, none⟩ = some (vi s1)), x.w.cell? ⟨ab, 0, none⟩ = some (vi s) := fun x => x.h.1
              have y1 : ∀ x : Wld (fun w => w.cell? ⟨ab, 0, none⟩ = some (vi s) ∧ w.cell? ⟨ab, i * 8, none⟩ = some (vi s1)), x.w.cell? ⟨ab, i * 8, none⟩ = some (vi s1) := fun x => x.h.2
              have HIN := hid (show i < na ∧ st i = s1 ∧ ¬ S1 i ab ∧ ab < wr.heap.size from ⟨hin, hs1, hS1, hab⟩)
              clear ax1 hst1 hc hin hs1 hS1 hab ec
              go_upto_region 13 with fail
              clear more c4 ab0 cs1
              refine wp_region_calmplan 14 [(true, 0), (true, 1), (true, 2), (true, 3), (true, 4), (true, 5), (true, 6), (true, 7), (true, 8), (true, 9), (true, 10), (false, 11), (false, 12), (true, 13)] (fun w' => ∃ x : Wld (fun w => w.cell? ⟨ab, 0, none⟩ = some (vi s) ∧ w.cell? ⟨ab, i * 8, none⟩ = some (vi s1)), w' = x.w) mixed (by kernel_rfl) (inS r0) ?_
              iterate 11 (refine wpPlan_q (by rfl) ?_; dsimp only [List.getElem_toArray, List.getElem_cons_zero, List.getElem_cons_succ]; go_big_quiet_step (fail); refine wpQuiet_nil ?_)
              refine wpPlan_e (by rfl) ?_
              dsimp only [List.getElem_toArray, List.getElem_cons_zero, List.getElem_cons_succ]
              go_wp2_with (go_at_call 72; refine (CD.out _).mono ?_; rintro e W6 ⟨rfl, rfl⟩)
              refine onward_normal (fun _ => inS r0) ?_
              refine wpPlan_e (by rfl) ?_
              dsimp only [List.getElem_toArray, List.getElem_cons_zero, List.getElem_cons_succ]
              go_wp2_with (go_at_call 96; refine SL.out.mono ?_; intro e W7 sp; obtain ⟨v0, rfl, sv1⟩ := sp.val; have SV := hid sv1; clear sv1 sp SL)
              refine onward_normal (fun _ => inS (by
                obtain ⟨S2, fi2, d2, n2, f2, ax2, am2, _⟩ := SV.out
                refine ⟨?_, by rw [← HIN.out.2.1]; exact ax2.s0⟩
                rw [am2.1.cell ab 0 HIN.out.2.2.2 (fun hx => ?_)]
                · exact r0.1
                · rcases hx with hx | hx
                  · exact HIN.out.2.2.1 hx
                  · have := HI.out
                    omega)) ?_
              (refine wpPlan_q (by rfl) ?_; dsimp only [List.getElem_toArray, List.getElem_cons_zero, List.getElem_cons_succ]; go_big_quiet_step (fail); refine wpQuiet_nil ?_)
              refine wpPlan_nil ?_
              refine calmQ_normal ?_
              have KD0 := hid (Kept.refl (fun _ => False) wr).drew
              clear y0 y1 nS r0 CD
              obtain ⟨S2, fi2, d2, n2, f2, ax2, am2, hv⟩ := SV.out
              clear SV
              rcases hv with rfl | ⟨sv, m, Cb, co, cc, I, cp, i2, hx, hi2, rfl⟩
              · have S7 := hid (SO.two (SXH.out.kept KD0.out) (SMH.out.trans (SM.calm KD0.out)) HIN.out.1 ax2 am2)
                clear ax2 am2
                go_wp2
                go_roundw
                case rel => exact ⟨i + 1, by simp, by omega, HIN.out.1, S7.out⟩
                case measure =>
                  have := HIN.out.1
                  simp [intOf]
                  omega
              · have sq : SlQ W7 S2 ab (i * 8) (st i) (nn i) (fu i) sc1 (I ((d2 + i2) / 256)) ((d2 + i2) % 256 * 2) := ⟨fi2, d2, n2, f2, sv, m, Cb, co, cc, I, cp, i2, ax2, hx, hi2, rfl, rfl⟩
                obtain ⟨pb, hpb⟩ : ∃ pb, I ((d2 + i2) / 256) = pb := ⟨_, rfl⟩
                obtain ⟨po, hpo⟩ : ∃ po, (d2 + i2) % 256 * 2 = po := ⟨_, rfl⟩
                rw [hpb, hpo] at sq ⊢
                have SQ := hid sq
                have AM2 := hid am2
                obtain ⟨⟨x2, y2, cx, cy⟩, fx, fy, s02, s3, nb⟩ := sq.cells
                clear hx ax2 am2 sq hpb hpo hi2 cy fy s3 s02
                go_upto_region 16 with fail
                obtain ⟨z, hz⟩ : ∃ z, wrap64 (x2 + 1) = z := ⟨_, rfl⟩
                rw [hz]
                refine wp_as (fun V => SlQ V S2 ab (i * 8) (st i) (nn i) (fu i) sc1 pb po ∧ AM W7 S2 ab (i * 8) S2 V) ⟨(SQ.out.setI z).1, (SQ.out.setI z).2⟩ ?_
                rintro V ⟨sq4, am4⟩
                obtain ⟨⟨x4, y4, cx4, cy4⟩, fx4, fy4, s04, s34, nb4⟩ := sq4.cells
                have TM := hid (term_any x sc1 ab (i * 8) 1 V.drew s34)
                have s0 : Kept (fun _ => False) V V.drew := (Kept.refl _ V).drew
                haveI nS : Nonempty (Wld (fun U' => Kept (fun _ => False) V U')) := ⟨⟨V.drew, s0⟩⟩
                have z4 : ∀ x : Wld (fun U' => Kept (fun _ => False) V U'), x.w.cell? ⟨pb, po + 1, none⟩ = some (.float .f64 y4) := fun x => x.h.cell (p := ⟨pb, po + 1, none⟩) (fun h => h) cy4
                have SQ4 := hid sq4
                have AM4 := hid am4
                clear SQ cx fx hz sq4 am4 cx4 fx4 s04 s34 nb
                refine wp_region_calmplan 10 [(true, 0), (true, 1), (true, 2), (true, 3), (true, 4), (true, 5), (false, 6), (false, 7), (true, 8), (true, 9), (false, 10)] (fun w' => ∃ x : Wld (fun U' => Kept (fun _ => False) V U'), w' = x.w) mixed (by kernel_rfl) (inS s0) ?_
                iterate 6 (refine wpPlan_q (by rfl) ?_; dsimp only [List.getElem_toArray, List.getElem_cons_zero, List.getElem_cons_succ]; go_big_quiet_step (fail); refine wpQuiet_nil ?_)
                refine wpPlan_e (by rfl) ?_
                dsimp only [List.getElem_toArray, List.getElem_cons_zero, List.getElem_cons_succ]
                go_wp2_with (go_at_call 98; refine TM.out.mono ?_; rintro e W8 ⟨⟨fr, rfl⟩, hd⟩; have KD := hid ((Kept.refl (fun _ => False) V).drew.trans hd.kept); clear hd TM)
                refine onward_normal (fun _ => inS KD.out) ?_
                refine wpPlan_e (by rfl) ?_
                dsimp only [List.getElem_toArray, List.getElem_cons_zero, List.getElem_cons_succ]
                go_wp2_with (((with_reducible (show wpList _ _ _ (⟨_, .binOp .add 24 _ _ _, _, _, _, _⟩ :: _) _ _)); refine wpList_fl rfl .add rfl 24 _ _ _ rfl _ _ rfl rfl ?_; intro fr fn; simp only [Act.put, List.setIfInBounds_toArray, List.set_cons_succ, List.set_cons_zero]))
                refine onward_normal (fun _ => inS (Kept.drawn KD.out _)) ?_
                iterate 2 (refine wpPlan_q (by rfl) ?_; dsimp only [List.getElem_toArray, List.getElem_cons_zero, List.getElem_cons_succ]; go_big_quiet_step (fail); refine wpQuiet_nil ?_)
                have sq5 := SQ4.out.kept (Kept.drawn KD.out fn)
                obtain ⟨⟨x5, y5, cx5, cy5⟩, fx5, fy5, s05, s35, nb5⟩ := sq5.cells
                refine wpPlan_e (by rfl) ?_
                dsimp only [List.getElem_toArray, List.getElem_cons_zero, List.getElem_cons_succ]
                refine wpList_store_as rfl 24 _ _ rfl rfl pb (po + 1) (.float .f64 _) rfl rfl (store24 _ _ _ _ (by rw [cy5]; rfl) fy5) ?_
                refine wpList_done ?_
                refine onward_normal (fun h => by cases h) ?_
                refine wpPlan_nil ?_
                refine calmQ_normal ?_
                refine q_as (fun X => SO W1 SA sb ab na st nn fu hb pv nw sd X) (by
                  obtain ⟨g1, g2⟩ := sq5.setF fr
                  obtain ⟨fi5, d5, n5, f5, ax5⟩ := g1.ar
                  exact SO.two (SXH.out.kept KD0.out) (SMH.out.trans (SM.calm KD0.out)) HIN.out.1 ax5 ((AM2.out.trans (AM4.out.trans (AM.calm (Kept.drawn KD.out fn)))).trans g2)) ?_
                intro X so
                have S9 := hid so
                clear so sq5 cx5 cy5 fx5 fy5 s05 s35 nb5 cy4 fy4 nb4 z4 s0 nS KD SQ4 AM4 AM2 KD0
                go_wp2
                go_roundw
                case rel => exact ⟨i + 1, by simp, by omega, HIN.out.1, S9.out⟩
                case measure =>
                  have := HIN.out.1
                  simp [intOf]
                  omega
            · go_wp2
              go_roundw
              case rel => exact ⟨k + 1, by simp, by have := HH.out; have := MORE.out; omega, S1, SXH.out, SMH.out⟩
              case measure =>
                have := MORE.out
                simp [intOf]
                omega
      · go_wp2
        go_end0
        exact ⟨rfl, S1, SXH.out, SMH.out⟩
end Go.Proofs.YbulkdsjeGreatDoor
