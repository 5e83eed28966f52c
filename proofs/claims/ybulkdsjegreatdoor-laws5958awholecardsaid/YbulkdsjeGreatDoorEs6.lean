import Derived.Test.YbulkdsjeGreatDoorEs5
import Derived.BigQuiet
import Derived.Deep.QuietTactic
import Derived.Deep.MidRow
import Derived.Deep.CutBlock
set_option linter.unusedVariables false
set_option linter.unusedSimpArgs false
namespace Go.Proofs.YbulkdsjeGreatDoor
open Go.RowKit

theorem CD.lt {U : World} {z : Zs} {ov : Value} {L : Nat} (h : CD U z ov L) (c : Nat) (hc : CE z ov c) : c < U.heap.size := by
  have l := h.md.lt
  obtain ⟨xs, low, rg, cache, pend, st, ex, _⟩ := h.es.ex
  rcases hc with e | e | e | e | e | e | e
  · rw [e]; exact World.block_lt_of_cell? U _ (ex.cell 0 _ rfl)
  · rw [e]; exact l.1
  · rw [e]; exact l.2.1
  · rw [e]; exact l.2.2.1
  · rw [e]; exact l.2.2.2.1
  · rw [e]; exact l.2.2.2.2
  · rcases ex.own.2 with ⟨e', _⟩ | ⟨g', cap, cur, e', hb, hh, _⟩
    · rw [e'] at e; cases e
    · rw [e'] at e
      cases e
      exact (Array.getElem?_eq_some_iff.1 hh).1
def F59 (b6 b7 : Nat) : Value := .func (.func 59) #[] #[.pointer (some ⟨b6, 0, none⟩), .pointer (some ⟨b7, 0, none⟩)]

set_option maxRecDepth 100000 in
set_option maxHeartbeats 4000000 in
theorem slots33 (Sa : Nat → Prop) (ab ao st nn fu sc fi d n : Nat) (f : Nat → Int) (Sb : Nat → Prop) (rb ro st2 nn2 fu2 sc2 fi2 d2 n2 : Nat) (f2 : Nat → Int) (z : Zs) (ov : Value) (L : Nat) (U : World) (h : CD U z ov L) (ha : AX U Sa ab ao st nn fu sc fi d n f) (hr : AX U Sb rb ro st2 nn2 fu2 sc2 fi2 d2 n2 f2) (hL : L + 4000000000 < 1099511627776) (ea : ¬ CE z ov ab) (er : ¬ CE z ov rb) (eA : ∀ x, Sa x → ¬ CE z ov x) (eR : ∀ x, Sb x → ¬ CE z ov x) : Calls Ybaz.prog 33 #[.pointer (some ⟨z.Mb, 0, none⟩), .pointer (some ⟨z.Eb, 0, none⟩), .pointer (some ⟨ab, ao, none⟩), .pointer (some ⟨rb, ro, none⟩)] U fun e w' => e = .returned (.tuple #[]) ∧ CP U z ov (L + 120 + 300 * n) w' := by
  have b7 := f64bits
  have k0 : Kept (fun _ => False) U ((U.alloc (.cells #[.pointer (some ⟨ab, ao, none⟩)] 101)).alloc (.cells #[.pointer (some ⟨rb, ro, none⟩)] 101)) := ((Kept.refl _ U).alloc _).alloc _
  have kk : Kept (fun _ => False) (U.alloc (.cells #[.pointer (some ⟨ab, ao, none⟩)] 101)) ((U.alloc (.cells #[.pointer (some ⟨ab, ao, none⟩)] 101)).alloc (.cells #[.pointer (some ⟨rb, ro, none⟩)] 101)) := (Kept.refl _ _).alloc _
  have ALL := hid (show Kept (fun _ => False) U ((U.alloc (.cells #[.pointer (some ⟨ab, ao, none⟩)] 101)).alloc (.cells #[.pointer (some ⟨rb, ro, none⟩)] 101)) ∧ ((U.alloc (.cells #[.pointer (some ⟨ab, ao, none⟩)] 101)).alloc (.cells #[.pointer (some ⟨rb, ro, none⟩)] 101)).cell? ⟨U.heap.size, 0, none⟩ = some (.pointer (some ⟨ab, ao, none⟩)) ∧ ((U.alloc (.cells #[.pointer (some ⟨ab, ao, none⟩)] 101)).alloc (.cells #[.pointer (some ⟨rb, ro, none⟩)] 101)).cell? ⟨U.heap.size + 1, 0, none⟩ = some (.pointer (some ⟨rb, ro, none⟩)) from ⟨k0, kk.cell (p := ⟨U.heap.size, 0, none⟩) (fun h => h) (range_new U [.pointer (some ⟨ab, ao, none⟩)] 101 0 _ rfl), by
    have := range_new (U.alloc (.cells #[.pointer (some ⟨ab, ao, none⟩)] 101)) [.pointer (some ⟨rb, ro, none⟩)] 101 0 _ rfl
    rw [World.size_alloc] at this
    exact this⟩)
  have HC := hid h
  have HA := hid ha
  have HR := hid hr
  have HL := hid hL
  have HE := hid (show ¬ CE z ov ab ∧ ¬ CE z ov rb ∧ (∀ x, Sa x → ¬ CE z ov x) ∧ (∀ x, Sb x → ¬ CE z ov x) from ⟨ea, er, eA, eR⟩)
  have hb1 : (fi : Int) ≤ 8388608 := by have := ha.hfi; omega
  have hb2 : (fi2 : Int) ≤ 8388608 := by have := hr.hfi; omega
  have hb3 : (n : Int) ≤ 8388608 := by have := ha.hfi; omega
  have hb4 : (fu : Int) ≤ 60000 := by have := ha.hfu; omega
  clear k0 kk h ha hr hL ea er eA eR
  go_enter Ybaz.func33, Ybaz.ntmps33
  go_upto_region 1 with fail
  refine wp_as (fun V => Kept (fun _ => False) U V ∧ V.cell? ⟨U.heap.size, 0, none⟩ = some (.pointer (some ⟨ab, ao, none⟩)) ∧ V.cell? ⟨U.heap.size + 1, 0, none⟩ = some (.pointer (some ⟨rb, ro, none⟩))) ALL.out ?_
  clear ALL
  rintro V ⟨kV, v6, v7⟩
  obtain ⟨b6, hb6⟩ : ∃ b6, U.heap.size = b6 := ⟨_, rfl⟩
  rw [hb6] at v6 v7 ⊢
  have n6 : ¬ CE z ov b6 := fun hx => by have := HC.out.lt _ hx; omega
  have n7 : ¬ CE z ov (b6 + 1) := fun hx => by have := HC.out.lt _ hx; omega
  have aV := HA.out.kept kV
  have rV := HR.out.kept kV
  have cdV := HC.out.calm kV
  obtain ⟨tf, htf⟩ : ∃ tf : Nat → Bool, ∀ j, j < n → ∀ W, Kept (CE z ov) V W → Calls Ybaz.prog 59 #[vi j, .pointer (some ⟨b6, 0, none⟩), .pointer (some ⟨b6 + 1, 0, none⟩)] W fun e w' => e = .returned (.bool (tf j)) ∧ Kept (fun _ => False) W w' := by
    have sd := fun j (hj : j < n) => same_det (E := CE z ov) j b6 (b6 + 1) v6 v7 aV rV hj n6 n7 HE.out.1 HE.out.2.1 HE.out.2.2.1 HE.out.2.2.2
    refine ⟨fun j => if hj : j < n then Classical.choose (sd j hj) else false, fun j hj W k => ?_⟩
    have := Classical.choose_spec (sd j hj) W k
    simpa only [dif_pos hj] using this
  have TF := hid htf
  have KV := hid kV
  have AV := hid aV
  have V67 := hid (show V.cell? ⟨b6, 0, none⟩ = some (.pointer (some ⟨ab, ao, none⟩)) ∧ V.cell? ⟨b6 + 1, 0, none⟩ = some (.pointer (some ⟨rb, ro, none⟩)) ∧ ¬ CE z ov b6 ∧ ¬ CE z ov (b6 + 1) from ⟨v6, v7, n6, n7⟩)
  have s0 : Kept (fun _ => False) V V.drew := (Kept.refl _ V).drew
  haveI nS : Nonempty (Wld (fun U' => Kept (fun _ => False) V U')) := ⟨⟨V.drew, s0⟩⟩
  have y6 : ∀ x : Wld (fun U' => Kept (fun _ => False) V U'), x.w.cell? ⟨b6, 0, none⟩ = some (.pointer (some ⟨ab, ao, none⟩)) := fun x => x.h.cell (p := ⟨b6, 0, none⟩) (fun h => h) v6
  have y7 : ∀ x : Wld (fun U' => Kept (fun _ => False) V U'), x.w.cell? ⟨b6 + 1, 0, none⟩ = some (.pointer (some ⟨rb, ro, none⟩)) := fun x => x.h.cell (p := ⟨b6 + 1, 0, none⟩) (fun h => h) v7
  have y4a : ∀ x : Wld (fun U' => Kept (fun _ => False) V U'), x.w.cell? ⟨ab, ao + 4, none⟩ = some (vi fi) := fun x => x.h.cell (p := ⟨ab, ao + 4, none⟩) (fun h => h) aV.s4
  have y4r : ∀ x : Wld (fun U' => Kept (fun _ => False) V U'), x.w.cell? ⟨rb, ro + 4, none⟩ = some (vi fi2) := fun x => x.h.cell (p := ⟨rb, ro + 4, none⟩) (fun h => h) rV.s4
  have y0 : ∀ x : Wld (fun U' => Kept (fun _ => False) V U'), x.w.cell? ⟨z.Mb, 0, none⟩ = some (.pointer (some ⟨z.U1, 0, none⟩)) := fun x => x.h.cell (p := ⟨z.Mb, 0, none⟩) (fun h => h) cdV.md.c0
  have CV := hid cdV
  have CLT := hid (show ∀ c, CE z ov c → c < V.heap.size from fun c hc => cdV.lt c hc)
  clear htf kV aV rV cdV v6 v7 n6 n7 hb6 HC HA HR
  refine wp_region_calmplan 15 [(true, 0), (true, 1), (true, 2), (true, 3), (true, 4), (true, 5), (true, 6), (true, 7), (true, 8), (true, 9), (true, 10), (true, 11), (true, 12), (true, 13), (false, 14), (false, 15)] (fun w' => ∃ x : Wld (fun U' => Kept (fun _ => False) V U'), w' = x.w) mixed (by kernel_rfl) (inS s0) ?_
  iterate 14 (refine wpPlan_q (by rfl) ?_; dsimp only [List.getElem_toArray, List.getElem_cons_zero, List.getElem_cons_succ]; go_big_quiet_step (fail); refine wpQuiet_nil ?_)
  refine wpPlan_e (by rfl) ?_
  dsimp only [List.getElem_toArray, List.getElem_cons_zero, List.getElem_cons_succ]
  go_wp2_with (go_at_call 32; refine (zigzag_any _ _).mono ?_; rintro e W1 ⟨⟨zz, hzz, rfl⟩, rfl⟩)
  refine onward_normal (fun _ => inS s0) ?_
  have U1 := hid ((CV.out.calm s0).uint1 (ctx := 3) (v := zz) (by have := HL.out; omega) (by omega) (by omega))
  refine wpPlan_e (by rfl) ?_
  dsimp only [List.getElem_toArray, List.getElem_cons_zero, List.getElem_cons_succ]
  go_wp2_with (go_at_call 25; refine U1.out.mono ?_; rintro e W2 ⟨rfl, cp⟩; have C2 := hid (CP.thn (s0.weak (fun _ _ h => h.elim)) (Mv.refl V ov) cp); clear cp U1)
  refine onward_normal (fun h => by cases h) ?_
  refine wpPlan_nil ?_
  refine calmQ_normal ?_
  clear y6 y7 y4a y4r y0 nS s0 hzz
  obtain ⟨ov2, co2⟩ := C2.out
  have aW := AV.out.keptE co2.2.1 HE.out.1 HE.out.2.2.1
  have w6 := co2.2.1.cell (p := ⟨b6, 0, none⟩) V67.out.2.2.1 V67.out.1
  have LN := hid (lenS_any ab (ao + 5) n W2 aW.ck.c2)
  have c0 := co2.1.md.c0
  have U2 := hid (co2.1.uint1 (ctx := 4) (v := n) (by have := HL.out; omega) (by omega) (by omega))
  have CO2 := hid (show CO V z ov (L + 60) W2 ov2 from co2)
  clear co2 C2 aW CV
  go_wp2_with (first | (go_at_call 58; refine LN.out.mono ?_; rintro e W3 ⟨rfl, rfl⟩) | (go_at_call 25; refine U2.out.mono ?_; rintro e W4 ⟨rfl, cp⟩; have C4 := hid (CO2.out.thn cp); clear cp U2))
  clear CO2 w6 c0 LN
  go_loopw [10, 11] (fun sv jv X => ∃ s j : Nat, sv = .int .u64 (s : Int) ∧ jv = vi j ∧ j ≤ n ∧ CP V z ov (L + 120 + 300 * j) X) (fun _ jv _ => n - (intOf jv).toNat)
  case atStart => exact ⟨0, 0, rfl, rfl, by omega, C4.out.mono (by omega)⟩
  case round =>
    clear C4
    obtain ⟨s, j, rfl, rfl, hj, cp⟩ := hrel
    have CX0 := hid cp
    have HJ := hid hj
    have hji : (j : Int) ≤ 8388608 := by omega
    clear cp hj
    by_cases more : (j : Int) < (n : Int)
    · go_upto_region 8 with fail
      have MORE := hid (show j < n by omega)
      clear more
      go_upto_block 2 with fail
      go_cut [12] from 47 to 60 (fun rv w' => ∃ r : Nat, rv = vi r ∧ j + r ≤ n ∧ (j + r < n → tf (j + r) = false) ∧ CP V z ov (L + 120 + 300 * j) w')
      case first =>
        go_wp2
        go_loopw [12] (fun rv X => ∃ r : Nat, rv = vi r ∧ j + r ≤ n ∧ CP V z ov (L + 120 + 300 * j) X) (fun rv _ => n - (intOf rv).toNat)
        case atStart => exact ⟨0, rfl, by have := HJ.out; omega, CX0.out⟩
        case round =>
          clear CX0
          obtain ⟨r, rfl, hr, cp⟩ := hrel
          have CX := hid cp
          have HRR := hid hr
          have hri : (r : Int) ≤ 8388608 := by omega
          clear cp hr
          by_cases m2 : (j : Int) + (r : Int) < (n : Int)
          · have SM : Hid (Calls Ybaz.prog 59 #[ii ((j : Int) + (r : Int)), .pointer (some ⟨b6, 0, none⟩), .pointer (some ⟨b6 + 1, 0, none⟩)] wr fun e w' => e = .returned (.bool (tf (j + r))) ∧ Kept (fun _ => False) wr w') := hid (by
              obtain ⟨ovx, cox⟩ := CX.out
              have := TF.out (j + r) (by omega) wr cox.2.1
              rw [show (vi (j + r)) = ii ((j : Int) + (r : Int)) by simp] at this
              exact this)
            have HM2 := hid (show j + r < n by omega)
            obtain ⟨tt, htt⟩ : ∃ tt, tf (j + r) = tt := ⟨_, rfl⟩
            rw [htt] at SM
            have HTT := hid htt
            clear htt
            cases tt with
            | true =>
              go_wp2_with (go_at_call 59; refine SM.out.mono ?_; rintro e W5 ⟨rfl, k5⟩; have K5 := hid k5; clear k5 SM)
              go_roundw
              case rel =>
                obtain ⟨ovx, cox⟩ := CX.out
                exact ⟨r + 1, by simp, HM2.out, CO.cp (CO.calm cox K5.out)⟩
              case measure =>
                have := HM2.out
                simp [intOf]
                omega
            | false =>
              go_wp2_with (go_at_call 59; refine SM.out.mono ?_; rintro e W5 ⟨rfl, k5⟩; have K5 := hid k5; clear k5 SM)
              go_meet
              case rel =>
                obtain ⟨ovx, cox⟩ := CX.out
                exact ⟨r, rfl, HRR.out, fun _ => HTT.out, CO.cp (CO.calm cox K5.out)⟩
          · have HM2 := hid (show ¬ j + r < n by omega)
            go_wp2
            go_meet
            case rel => exact ⟨r, rfl, HRR.out, fun h => absurd h HM2.out, CX.out⟩
      case rest =>
        clear CX0
        obtain ⟨r, rfl, hr, hfl, cp⟩ := hcut
        have HRR := hid (show j + r ≤ n ∧ (j + r < n → tf (j + r) = false) from ⟨hr, hfl⟩)
        have hri : (r : Int) ≤ 8388608 := by omega
        obtain ⟨ov5, co5⟩ := cp
        have c0 := co5.1.md.c0
        have U5 := hid (co5.1.uint1 (ctx := 5) (v := r) (by have := HL.out; omega) (by omega) (by omega))
        have CO5 := hid (show CO V z ov (L + 120 + 300 * j) wc ov5 from co5)
        clear co5 hr hfl
        go_upto_region 12 with (go_at_call 25; refine U5.out.mono ?_; rintro e W6 ⟨rfl, cp⟩; have C6 := hid (CO5.out.thn cp); clear cp U5)
        clear c0 CO5
        obtain ⟨j2, hj2⟩ : ∃ j2, j + r = j2 := ⟨_, rfl⟩
        have ej2 : (j : Int) + (r : Int) = (j2 : Int) := by omega
        have HJ2 := hid (show j + r = j2 ∧ j2 ≤ n ∧ (j2 < n → tf j2 = false) from ⟨hj2, by have := HRR.out; omega, by rw [← hj2]; exact HRR.out.2⟩)
        have hj2i : (j2 : Int) ≤ 8388608 := by have := HJ2.out; omega
        clear hj2
        by_cases he : j2 = n
        · have he2 : ((j2 : Int) == (n : Int)) = true := by simp [he]
          have HE2 := hid he
          clear he
          go_wp2
          refine bodyPost_end (results_none Ybaz.results33 _ _ _) rfl ?_
          refine ⟨rfl, ?_⟩
          have c6 := C6.out.mono (L' := L + 120 + 300 * n) (by have := HE2.out; have := HJ2.out; have := MORE.out; omega)
          exact CP.thn (KV.out.weak (fun _ _ h => h.elim)) (Mv.refl _ _) c6
        · have he2 : ((j2 : Int) == (n : Int)) = false := by simp; omega
          have HLT := hid (show j2 < n by have := HJ2.out; omega)
          clear he
          go_upto_region 14 with fail
          clear he2 ej2
          go_upto_block 4 with fail
          go_cut [12] from 75 to 89 (fun rv w' => ∃ r2 : Nat, rv = vi r2 ∧ 1 ≤ r2 ∧ j2 + r2 ≤ n ∧ CP V z ov (L + 120 + 300 * j + 60) w')
          case first =>
            go_wp2
            go_loopw [12] (fun rv X => ∃ r2 : Nat, rv = vi r2 ∧ j2 + r2 ≤ n ∧ CP V z ov (L + 120 + 300 * j + 60) X) (fun rv _ => n - (intOf rv).toNat)
            case atStart => exact ⟨0, rfl, by have := HJ2.out; omega, C6.out⟩
            case round =>
              clear C6
              obtain ⟨r2, rfl, hr, cp⟩ := hrel
              have CX := hid cp
              have HR2 := hid hr
              have hr2i : (r2 : Int) ≤ 8388608 := by omega
              clear cp hr
              by_cases m2 : (j2 : Int) + (r2 : Int) < (n : Int)
              · have SM : Hid (Calls Ybaz.prog 59 #[ii ((j2 : Int) + (r2 : Int)), .pointer (some ⟨b6, 0, none⟩), .pointer (some ⟨b6 + 1, 0, none⟩)] wr fun e w' => e = .returned (.bool (tf (j2 + r2))) ∧ Kept (fun _ => False) wr w') := hid (by
                  obtain ⟨ovx, cox⟩ := CX.out
                  have := TF.out (j2 + r2) (by omega) wr cox.2.1
                  rw [show (vi (j2 + r2)) = ii ((j2 : Int) + (r2 : Int)) by simp] at this
                  exact this)
                have HM2 := hid (show j2 + r2 < n by omega)
                obtain ⟨tt, htt⟩ : ∃ tt, tf (j2 + r2) = tt := ⟨_, rfl⟩
                rw [htt] at SM
                have HTT := hid htt
                clear htt
                cases tt with
                | false =>
                  go_wp2_with (go_at_call 59; refine SM.out.mono ?_; rintro e W7 ⟨rfl, k7⟩; have K7 := hid k7; clear k7 SM)
                  go_roundw
                  case rel =>
                    obtain ⟨ovx, cox⟩ := CX.out
                    exact ⟨r2 + 1, by simp, HM2.out, CO.cp (CO.calm cox K7.out)⟩
                  case measure =>
                    have := HM2.out
                    simp [intOf]
                    omega
                | true =>
                  go_wp2_with (go_at_call 59; refine SM.out.mono ?_; rintro e W7 ⟨rfl, k7⟩; have K7 := hid k7; clear k7 SM)
                  go_meet
                  case rel =>
                    obtain ⟨ovx, cox⟩ := CX.out
                    refine ⟨r2, rfl, ?_, HR2.out, CO.cp (CO.calm cox K7.out)⟩
                    rcases Nat.eq_zero_or_pos r2 with e | e
                    · exfalso
                      have h1 := HTT.out
                      rw [e, Nat.add_zero, HJ2.out.2.2 HLT.out] at h1
                      cases h1
                    · exact e
              · have HM2 := hid (show ¬ j2 + r2 < n by omega)
                go_wp2
                go_meet
                case rel => exact ⟨r2, rfl, by have := HM2.out; have := HLT.out; omega, HR2.out, CX.out⟩
          case rest =>
            clear C6
            obtain ⟨r2, rfl, hr1, hr2, cp⟩ := hcut
            obtain ⟨ov8, co8⟩ := cp
            have c0 := co8.1.md.c0
            obtain ⟨q2, hq2⟩ : ∃ q2 : Nat, (r2 : Int) - 1 = (q2 : Int) := ⟨r2 - 1, by omega⟩
            have hr2i : (r2 : Int) ≤ 8388608 := by omega
            have U8 := hid (co8.1.uint1 (ctx := 6) (v := q2) (by have := HL.out; have := MORE.out; omega) (by omega) (by omega))
            have CO8 := hid (show CO V z ov (L + 120 + 300 * j + 60) wc ov8 from co8)
            have HR3 := hid (show 1 ≤ r2 ∧ j2 + r2 ≤ n from ⟨hr1, hr2⟩)
            clear co8 hr1 hr2
            go_upto_region 17 with fail
            go_wp2_with (go_at_call 25; refine U8.out.mono ?_; rintro e W9 ⟨rfl, cp⟩; have C9 := hid (CO8.out.thn cp); clear cp U8)
            clear c0 CO8 hq2
            go_loopw [10, 11, 12] (fun sv jv rv X => ∃ s2 jj rr : Nat, sv = .int .u64 (s2 : Int) ∧ jv = vi jj ∧ rv = vi rr ∧ jj + rr = j2 + r2 ∧ j2 ≤ jj ∧ CP V z ov (L + 120 + 300 * j + 120 + 123 * (jj - j2)) X) (fun _ _ rv _ => (intOf rv).toNat)
            case atStart => exact ⟨s, j2, r2, rfl, rfl, rfl, rfl, Nat.le_refl _, C9.out.mono (by omega)⟩
            case round =>
              clear C9
              obtain ⟨s2, jj, rr, rfl, rfl, rfl, hjr, hjj, cp⟩ := hrel
              have HQ := hid (show jj + rr = j2 + r2 ∧ j2 ≤ jj from ⟨hjr, hjj⟩)
              have CX := hid cp
              have hjji : (jj : Int) ≤ 8388608 := by have := HR3.out; omega
              have hrri : (rr : Int) ≤ 8388608 := by have := HR3.out; omega
              clear cp hjr hjj
              by_cases m4 : (0 : Int) < (rr : Int)
              · have HM4 := hid (show 0 < rr by omega)
                obtain ⟨LL, hLL⟩ : ∃ LL, L + 120 + 300 * j + 120 + 123 * (jj - j2) = LL := ⟨_, rfl⟩
                have HLL := hid (show L + 120 + 300 * j + 120 + 123 * (jj - j2) = LL ∧ LL + 1000 < 1099511627776 from ⟨hLL, by have := HL.out; have := MORE.out; have := HR3.out; have := HQ.out; omega⟩)
                obtain ⟨ovA, coA⟩ := CX.out
                rw [hLL] at coA
                have aW := AV.out.keptE coA.2.1 HE.out.1 HE.out.2.2.1
                have w6 := coA.2.1.cell (p := ⟨b6, 0, none⟩) V67.out.2.2.1 V67.out.1
                have AT := hid (atS_any Sa ab (ao + 5) d n jj f wr aW.ck (by have := HQ.out; have := HR3.out; omega))
                have CA := hid (show CO V z ov LL wr ovA from coA)
                obtain ⟨fx, hfx⟩ : ∃ fx, f (d + jj) = fx := ⟨_, rfl⟩
                unfold AtS at AT
                rw [hfx] at AT
                clear coA CX aW hLL hfx
                go_upto_region 21 with (first | (go_at_call 61; refine AT.out.mono ?_; rintro e WB ⟨y, rfl, kB⟩; have KB := hid kB; have ST := hid (run_storeAt_new (P := Ybaz.prog) WB 143 #[.int .i64 0, .float .f64 0] #[ii fx, .float .f64 y] (by kernel_rfl) rfl (by simp [Value.oneCell'])); clear kB AT) | ((with_reducible (show wpList _ _ _ (⟨_, .store 143 _ _, _, _, _, _⟩ :: _) _ _)); refine wpList_store_as rfl 143 _ _ rfl rfl WB.heap.size 0 (.agg #[ii fx, .float .f64 y]) rfl rfl ST.out ?_))
                clear w6
                refine wp_as (fun X => (CO V z ov LL X ovA ∧ ∀ c, CE z ovA c → c < WB.heap.size) ∧ X.rangeAt WB.heap.size 0 [ii fx, .float .f64 y]) ⟨⟨(CA.out.calm KB.out).calm ((Kept.refl _ WB).alloc _), fun c hc => (CA.out.calm KB.out).1.lt c hc⟩, range_new WB [ii fx, .float .f64 y] 143⟩ ?_
                rintro X ⟨⟨coX, ltX⟩, rX⟩
                obtain ⟨g, hg⟩ : ∃ g, WB.heap.size = g := ⟨_, rfl⟩
                rw [hg] at ltX rX ⊢
                have ng : ¬ CE z ovA g := fun hc => by have := ltX g hc; omega
                have gX0 : X.cell? ⟨g, 0, none⟩ = some (ii fx) := rX 0 _ rfl
                have gX1 : X.cell? ⟨g, 1, none⟩ = some (.float .f64 y) := rX 1 _ rfl
                have aX := AV.out.keptE coX.2.1 HE.out.1 HE.out.2.2.1
                have x6 := coX.2.1.cell (p := ⟨b6, 0, none⟩) V67.out.2.2.1 V67.out.1
                have s0 : Kept (fun _ => False) X X.drew := (Kept.refl _ X).drew
                haveI nS : Nonempty (Wld (fun U' => Kept (fun _ => False) X U')) := ⟨⟨X.drew, s0⟩⟩
                have w0 : ∀ x : Wld (fun U' => Kept (fun _ => False) X U'), x.w.cell? ⟨z.Mb, 0, none⟩ = some (.pointer (some ⟨z.U1, 0, none⟩)) := fun x => x.h.cell (p := ⟨z.Mb, 0, none⟩) (fun h => h) coX.1.md.c0
                have w1 : ∀ x : Wld (fun U' => Kept (fun _ => False) X U'), x.w.cell? ⟨b6, 0, none⟩ = some (.pointer (some ⟨ab, ao, none⟩)) := fun x => x.h.cell (p := ⟨b6, 0, none⟩) (fun h => h) x6
                have w2 : ∀ x : Wld (fun U' => Kept (fun _ => False) X U'), x.w.cell? ⟨ab, ao + 2, none⟩ = some (vi fu) := fun x => x.h.cell (p := ⟨ab, ao + 2, none⟩) (fun h => h) aX.s2
                have w3 : ∀ x : Wld (fun U' => Kept (fun _ => False) X U'), x.w.cell? ⟨g, 0, none⟩ = some (ii fx) := fun x => x.h.cell (p := ⟨g, 0, none⟩) (fun h => h) gX0
                have UI : Hid (∀ q : Int, Calls Ybaz.prog 25 #[.pointer (some ⟨z.Eb, 0, none⟩), .pointer (some ⟨z.U1, 0, none⟩), vi 7, .int .u64 (IntKind.u64.wrap q)] X.drew fun e w' => e = .returned (.tuple #[]) ∧ CP X.drew z ovA (LL + 60) w') := hid fun q => by
                  obtain ⟨m, hm, em⟩ := u64_nat q
                  rw [em]
                  exact (coX.1.calm s0).uint1 (by have := HLL.out; omega) (by omega) (by omega)
                have COX := hid coX
                have NG := hid (show ¬ CE z ovA g ∧ X.cell? ⟨g, 1, none⟩ = some (.float .f64 y) from ⟨ng, gX1⟩)
                clear coX ltX rX ng gX0 gX1 aX x6 CA KB ST hg
                refine wp_region_calmplan 13 [(true, 0), (true, 1), (true, 2), (true, 3), (true, 4), (true, 5), (true, 6), (true, 7), (true, 8), (true, 9), (true, 10), (true, 11), (true, 12), (false, 13)] (fun w' => ∃ x : Wld (fun U' => Kept (fun _ => False) X U'), w' = x.w) mixed (by kernel_rfl) (inS s0) ?_
                iterate 13 (refine wpPlan_q (by rfl) ?_; dsimp only [List.getElem_toArray, List.getElem_cons_zero, List.getElem_cons_succ]; go_big_quiet_step (fail); refine wpQuiet_nil ?_)
                refine wpPlan_e (by rfl) ?_
                dsimp only [List.getElem_toArray, List.getElem_cons_zero, List.getElem_cons_succ]
                go_wp2_with (go_at_call 25; refine (UI.out _).mono ?_; rintro e WC ⟨rfl, cp⟩; have CC := hid cp; clear cp UI)
                refine onward_normal (fun h => by cases h) ?_
                refine wpPlan_nil ?_
                refine calmQ_normal ?_
                have gC1 : WC.cell? ⟨g, 1, none⟩ = some (.float .f64 y) := by
                  obtain ⟨ovC, cdC, kC, mC⟩ := CC.out
                  exact kC.cell (p := ⟨g, 1, none⟩) NG.out.1 NG.out.2
                have C1 := hid ((COX.out.calm s0).thn CC.out)
                clear CC COX NG w0 w1 w2 w3 nS s0
                go_upto_region 23 with fail
                clear gC1
                obtain ⟨tz, htz⟩ : ∃ tz, ((y : Int) != (s2 : Int)) = tz := ⟨_, rfl⟩
                obtain ⟨ovD, coD⟩ := C1.out
                have BA : Hid (∀ W b, CD W z ovD (LL + 60) → Calls Ybaz.prog 51 #[.pointer (some ⟨z.Eb, 0, none⟩), .pointer (some ⟨z.Mb, 337, none⟩), .int .u64 b] W fun e w' => e = .returned (.tuple #[]) ∧ CP W z ovD (LL + 60 + 3) w') := hid fun W b hW => hW.bit (by have := HLL.out; omega) b (hW.md.sm.sub (by omega) (by omega))
                have s0 : Kept (fun _ => False) WC WC.drew := (Kept.refl _ WC).drew
                haveI nS : Nonempty (Wld (fun U' => Kept (fun _ => False) WC U')) := ⟨⟨WC.drew, s0⟩⟩
                have COD := hid (show CO V z ov (LL + 60) WC ovD from coD)
                clear coD C1
                refine wp_region_calmplan 8 [(true, 0), (true, 1), (true, 2), (true, 3), (true, 4), (true, 5), (true, 6), (false, 7), (false, 8)] (fun w' => ∃ x : Wld (fun U' => Kept (fun _ => False) WC U'), w' = x.w) mixed (by kernel_rfl) (inS s0) ?_
                iterate 7 (refine wpPlan_q (by rfl) ?_; dsimp only [List.getElem_toArray, List.getElem_cons_zero, List.getElem_cons_succ]; go_big_quiet_step (fail); refine wpQuiet_nil ?_)
                refine wpPlan_e (by rfl) ?_
                dsimp only [List.getElem_toArray, List.getElem_cons_zero, List.getElem_cons_succ]
                go_wp2_with (go_at_call 52; refine (bit_ofI _ _).mono ?_; rintro e W0 ⟨rfl, rfl⟩)
                refine onward_normal (fun _ => inS s0) ?_
                refine wpPlan_e (by rfl) ?_
                dsimp only [List.getElem_toArray, List.getElem_cons_zero, List.getElem_cons_succ]
                go_wp2_with (go_at_call 51; refine (BA.out _ _ (COD.out.1.calm s0)).mono ?_; rintro e WE ⟨rfl, cp⟩; have CE1 := hid ((COD.out.calm s0).thn cp); clear cp BA)
                refine onward_normal (fun h => by cases h) ?_
                refine wpPlan_nil ?_
                refine calmQ_normal ?_
                clear COD s0 nS
                go_upto_region 24 with fail
                go_upto_if 136 with fail
                clear htz
                go_cut [] from 137 to 144 (fun w' => CP V z ov (LL + 123) w')
                case first =>
                  cases tz with
                  | false =>
                    go_wp2
                    go_meet
                    case rel => exact CE1.out.mono (by omega)
                  | true =>
                    obtain ⟨ovE, coE⟩ := CE1.out
                    obtain ⟨xm, hxm, exm⟩ := bits_u64 .xor (y : Int) (s2 : Int)
                    have XE := hid (xor_any xm 338 hxm z ovE (LL + 60 + 3) WE coE.1 (by have := HLL.out; omega) (.inr rfl))
                    have COE := hid (show CO V z ov (LL + 60 + 3) WE ovE from coE)
                    clear coE CE1 hxm
                    go_wp2_with (go_at_call 57; refine XE.out.mono ?_; rintro e WF2 ⟨rfl, cp⟩; have CF := hid (COE.out.thn cp); clear cp XE)
                    go_meet
                    case rel => exact CF.out.mono (by omega)
                case rest =>
                  have CG := hid hcut
                  clear hcut CE1
                  go_wp2
                  go_roundw
                  case rel => exact ⟨y, jj + 1, rr - 1, rfl, by simp, by have := HM4.out; simp; omega, by have := HM4.out; have := HQ.out; omega, by have := HQ.out; omega, CG.out.mono (by have := HLL.out; have := HQ.out; omega)⟩
                  case measure =>
                    have := HM4.out
                    simp [intOf]
                    omega
              · go_wp2
                go_roundw
                case rel => exact ⟨s2, jj, rfl, rfl, by have := HR3.out; have := HQ.out; omega, CX.out.mono (by have := HR3.out; have := HQ.out; have := HJ2.out; omega)⟩
                case measure =>
                  have := HR3.out
                  have := HQ.out
                  have := HJ2.out
                  have := MORE.out
                  simp [intOf]
                  omega
    · go_wp2
      refine bodyPost_end (results_none Ybaz.results33 _ _ _) rfl ?_
      have e : j = n := by have := HJ.out; omega
      subst e
      exact ⟨rfl, CP.thn (KV.out.weak (fun _ _ h => h.elim)) (Mv.refl _ _) CX0.out⟩
end Go.Proofs.YbulkdsjeGreatDoor
