import Derived.Test.YbulkdsjeGreatDoorMd6
import Derived.BigQuiet
import Derived.Deep.QuietTactic
set_option linter.unusedVariables false
set_option linter.unusedSimpArgs false
namespace Go.Proofs.YbulkdsjeGreatDoor
open Go.RowKit

theorem slice78a (b o : Nat) (w : World) : Sem.run Ybaz.prog (Instr.sliceAt 78 (.pointer (some ⟨b, o, none⟩)) none none none) w = .ok (sl b o 4 4) w := by kernel_rfl
theorem slice81a (b o : Nat) (w : World) : Sem.run Ybaz.prog (Instr.sliceAt 81 (.pointer (some ⟨b, o, none⟩)) none none none) w = .ok (sl b o 32 32) w := by kernel_rfl
theorem slice84a (b o : Nat) (w : World) : Sem.run Ybaz.prog (Instr.sliceAt 84 (.pointer (some ⟨b, o, none⟩)) none none none) w = .ok (sl b o 8 8) w := by kernel_rfl
theorem bitI_nat (b : Bool) : ∃ t : Nat, t ≤ 1 ∧ bitI b = (t : Int) := by
  cases b
  · exact ⟨0, by omega, rfl⟩
  · exact ⟨1, by omega, rfl⟩
section
variable {U V : World} {z : Zs} {ov : Value} {L : Nat}
theorem MD.i79 (h : MD U z) : ∃ p : Nat, p < 23 ∧ U.cell? ⟨z.Mb, 79, none⟩ = some (vi p) := by
  obtain ⟨v, hv, ok⟩ := h.mi 79 (by omega)
  simp [MOk] at ok
  obtain ⟨x, hx, rfl⟩ := ok
  exact ⟨x, hx, hv⟩
theorem MD.i81 (h : MD U z) : ∃ x : Int, U.cell? ⟨z.Mb, 81, none⟩ = some (ii x) := by
  obtain ⟨v, hv, ok⟩ := h.mi 81 (by omega)
  simp [MOk] at ok
  obtain ⟨x, rfl⟩ := ok
  exact ⟨x, hv⟩
theorem MD.i82 (h : MD U z) : ∃ c : Nat, c < 18 ∧ U.cell? ⟨z.Mb, 82, none⟩ = some (vi c) := by
  obtain ⟨v, hv, ok⟩ := h.mi 82 (by omega)
  simp [MOk] at ok
  obtain ⟨x, hx, rfl⟩ := ok
  exact ⟨x, hx, hv⟩
theorem ok81 (x : Int) : MOk 81 (ii x) := by simp [MOk]
theorem ok82 {c : Nat} (hc : c < 18) : MOk 82 (vi c) := by
  simp [MOk]
  exact ⟨c, hc, rfl⟩
theorem ok79 {p : Nat} (hp : p < 23) : MOk 79 (vi p) := by
  simp [MOk]
  exact ⟨p, hp, rfl⟩
/-- The kinds' chances in a context. -/
theorem CD.kinds (h : CD U z ov L) (hL : L + 100 < 1099511627776) {c : Nat} {v : Int} (hc : c < 18) (hv : 0 ≤ v) : Calls Ybaz.prog 44 #[.pointer (some ⟨z.Eb, 0, none⟩), sl z.Mb (7 + c * 4) 4 4, .int .u64 v] U fun e w' => e = .returned (.tuple #[]) ∧ CP U z ov (L + 21) w' :=
  h.tree hL (n := 2) (by omega) (h.md.kd.sub (by omega) (by omega)) hv
end
/-- Where the coder stands, laid open. -/
def CO (U : World) (z : Zs) (ov : Value) (L : Nat) (W : World) (ov1 : Value) : Prop := CD W z ov1 L ∧ Kept (CE z ov) U W ∧ Mv U ov ov1
theorem CO.thn {U W X : World} {z : Zs} {ov ov1 : Value} {L L' : Nat} (h : CO U z ov L W ov1) (k : CP W z ov1 L' X) : CP U z ov L' X := CP.thn h.2.1 h.2.2 k
theorem CO.calm {U W X : World} {z : Zs} {ov ov1 : Value} {L : Nat} (h : CO U z ov L W ov1) (k : Kept (fun _ => False) W X) : CO U z ov L X ov1 := ⟨h.1.calm k, Kept.thn' h.2.1 k (fun _ _ h => h.elim), h.2.2⟩
theorem CO.cp {U W : World} {z : Zs} {ov ov1 : Value} {L : Nat} (h : CO U z ov L W ov1) : CP U z ov L W := ⟨ov1, h⟩
def UV (x : Value) : Prop := ∃ m : Nat, m < 18446744073709551616 ∧ x = .int .u64 (m : Int)
theorem UV.mk (y : Int) : UV (.int .u64 (IntKind.u64.wrap y)) := by
  obtain ⟨m, hm, em⟩ := u64_nat y
  exact ⟨m, hm, by rw [em]⟩
def FdV (x : Value) : Prop := x = ii (-1) ∨ ∃ i : Nat, i < 32 ∧ x = vi i
theorem FdR.val {e : Ending} (h : FdR e) : ∃ x, e = .returned x ∧ FdV x := by
  rcases h with rfl | ⟨i, hi, rfl⟩
  · exact ⟨_, rfl, .inl rfl⟩
  · exact ⟨_, rfl, .inr ⟨i, hi, rfl⟩⟩

set_option maxRecDepth 100000 in
set_option maxHeartbeats 4000000 in
theorem value_any (v : Nat) (z : Zs) (ov : Value) (L : Nat) (U : World) (h : CD U z ov L) (hL : L + 600 < 1099511627776) : Calls Ybaz.prog 30 #[.pointer (some ⟨z.Mb, 0, none⟩), .pointer (some ⟨z.Eb, 0, none⟩), .float .f64 v] U fun e w' => e = .returned (.tuple #[]) ∧ CP U z ov (L + 200) w' := by
  have b7 := f64bits
  obtain ⟨c, hc, y82⟩ := h.md.i82
  have hci : (c : Int) < 18 := by omega
  have HC := hid h
  have HL := hid hL
  have HCC := hid hc
  have s0 : Kept (fun _ => False) U U.drew := (Kept.refl _ U).drew
  haveI nS : Nonempty (Wld (fun U' => Kept (fun _ => False) U U')) := ⟨⟨U.drew, s0⟩⟩
  have y0 : ∀ x : Wld (fun U' => Kept (fun _ => False) U U'), x.w.cell? ⟨z.Mb, 82, none⟩ = some (vi c) := fun x => x.h.cell (p := ⟨z.Mb, 82, none⟩) (fun h => h) y82
  clear h hL hc y82
  go_enter Ybaz.func30, Ybaz.ntmps30
  go_upto_region 1 with fail
  refine wp_region_calmplan 10 [(true, 0), (true, 1), (true, 2), (true, 3), (true, 4), (true, 5), (true, 6), (true, 7), (true, 8), (true, 9)] (fun w' => ∃ x : Wld (fun U' => Kept (fun _ => False) U U'), w' = x.w) mixed (by kernel_rfl) (inS s0) ?_
  iterate 8 (refine wpPlan_q (by rfl) ?_; dsimp only [List.getElem_toArray, List.getElem_cons_zero, List.getElem_cons_succ]; go_big_quiet_step (fail); refine wpQuiet_nil ?_)
  refine wpPlan_q (by rfl) ?_
  dsimp only [List.getElem_toArray, List.getElem_cons_zero, List.getElem_cons_succ]
  refine wpQuiet_run (sl z.Mb (7 + c * 4) 4 4) rfl (fun w _ => run_opslice (fun W => slice78a z.Mb (7 + c * 4) W)) ?_
  simp only [Act.put, List.setIfInBounds_toArray, List.set_cons_succ, List.set_cons_zero]
  refine wpQuiet_nil ?_
  (refine wpPlan_q (by rfl) ?_; dsimp only [List.getElem_toArray, List.getElem_cons_zero, List.getElem_cons_succ]; go_big_quiet_step (fail); refine wpQuiet_nil ?_)
  refine wpPlan_nil ?_
  refine calmQ_normal ?_
  refine q_as (fun X => CO U z ov L X ov) ⟨HC.out.calm s0, s0.weak (fun _ _ h => h.elim), Mv.refl _ _⟩ ?_
  intro W co
  obtain ⟨la, y80⟩ := co.1.md.i80
  have CW := hid co
  clear co y0 nS s0 HC
  obtain ⟨tb, htb⟩ : ∃ tb, ((v : Int) == (la : Int)) = tb := ⟨_, rfl⟩
  cases tb with
  | true =>
    have TR := hid (CW.out.1.kinds (by have := HL.out; omega) HCC.out (v := 0) (by omega))
    go_upto_region 4 with (go_at_call 44; refine TR.out.mono ?_; rintro e W1 ⟨rfl, cp⟩; have C1 := hid (CW.out.thn cp); clear cp TR)
    obtain ⟨ov1, co1⟩ := C1.out
    have S1 := hid (CO.thn co1 (CP.set co1.1 (j := 82) (by omega) (ok82 (c := 0) (by omega))))
    obtain ⟨c2, _, y82⟩ := co1.1.md.i82
    have f82 := co1.1.md.fz 82 (by omega)
    clear co1 C1 y80 htb CW
    go_wp2
    refine bodyPost_ret (results_none Ybaz.results30 _ _ _) rfl ?_
    exact ⟨rfl, S1.out.mono (by omega)⟩
  | false =>
    have FD := hid (find_any v z W CW.out.1.md)
    go_upto_region 5 with fail
    clear y80 htb
    go_cut [8] from 40 to 42 (fun x w' => FdV x ∧ CO U z ov L w' ov)
    case first =>
      go_wp2_with (go_at_call 53; refine FD.out.mono ?_; rintro e W1 ⟨fr, k1⟩; obtain ⟨x0, rfl, fv⟩ := fr.val; have FV := hid fv; have C1 := hid (CW.out.calm k1); clear fv fr k1 FD)
      go_meet
      case rel => exact ⟨FV.out, C1.out⟩
    case rest =>
      obtain ⟨fv, co⟩ := hcut
      have C0 := hid co
      clear co CW FD
      rcases fv with rfl | ⟨i, hi, rfl⟩
      · go_upto_region 14 with fail
        have PU := hid (push_any z ov L wc C0.out.1)
        go_upto_region 15 with (go_at_call 56; refine PU.out.mono ?_; rintro e W1 ⟨rfl, cp⟩; have C1 := hid (C0.out.thn cp); clear cp PU)
        obtain ⟨ov1, co1⟩ := C1.out
        obtain ⟨p, hp, y79⟩ := co1.1.md.i79
        have CO1 := hid (show CO U z ov L W1 ov1 from co1)
        have TD := hid (toDecimal_any v p hp W1 co1.1.gl)
        clear co1 C1 C0 hp
        go_upto_region 16 with (go_at_call 55; refine TD.out.mono ?_; rintro e W2 ⟨⟨dg, og, t, rfl⟩, k2⟩; have CO2 := hid (CO1.out.calm k2); clear k2 TD)
        clear y79 CO1
        go_upto_if 96 with fail
        go_cut [15, 16] from 97 to 196 (fun _ _ w' => CP U z ov (L + 190) w')
        case first =>
          cases t with
          | false =>
            have TR := hid (CO2.out.1.kinds (by have := HL.out; omega) HCC.out (v := 3) (by omega))
            go_upto_region 30 with (go_at_call 44; refine TR.out.mono ?_; rintro e W3 ⟨rfl, cp⟩; have C3 := hid (CO2.out.thn cp); clear cp TR)
            obtain ⟨ov3, co3⟩ := C3.out
            obtain ⟨la3, y80⟩ := co3.1.md.i80
            obtain ⟨xm, hxm, exm⟩ := bits_u64 .xor (v : Int) (la3 : Int)
            have s0 : Kept (fun _ => False) W3 W3.drew := (Kept.refl _ W3).drew
            haveI nS : Nonempty (Wld (fun U' => Kept (fun _ => False) W3 U')) := ⟨⟨W3.drew, s0⟩⟩
            have z80 : ∀ x : Wld (fun U' => Kept (fun _ => False) W3 U'), x.w.cell? ⟨z.Mb, 80, none⟩ = some (.int .u64 (la3 : Int)) := fun x => x.h.cell (p := ⟨z.Mb, 80, none⟩) (fun h => h) y80
            have XE := hid (xor_any xm 209 hxm z ov3 (L + 21) W3.drew (co3.1.calm s0) (by have := HL.out; omega) (.inl rfl))
            have CO3 := hid (show CO U z ov (L + 21) W3 ov3 from co3)
            have EXM := hid exm
            clear co3 C3 y80 hxm exm CO2
            refine wp_region_calmplan 10 [(true, 0), (true, 1), (true, 2), (true, 3), (true, 4), (true, 5), (true, 6), (true, 7), (true, 8), (true, 9), (false, 10)] (fun w' => ∃ x : Wld (fun U' => Kept (fun _ => False) W3 U'), w' = x.w) mixed (by kernel_rfl) (inS s0) ?_
            iterate 10 (refine wpPlan_q (by rfl) ?_; dsimp only [List.getElem_toArray, List.getElem_cons_zero, List.getElem_cons_succ]; go_big_quiet_step (fail); refine wpQuiet_nil ?_)
            rw [EXM.out]
            refine wpPlan_e (by rfl) ?_
            dsimp only [List.getElem_toArray, List.getElem_cons_zero, List.getElem_cons_succ]
            go_wp2_with (go_at_call 57; refine XE.out.mono ?_; rintro e W4 ⟨rfl, cp⟩; have C4 := hid ((CO3.out.calm s0).thn cp); clear cp XE)
            refine onward_normal (fun h => by cases h) ?_
            refine wpPlan_nil ?_
            refine calmQ_normal ?_
            obtain ⟨ov4, co4⟩ := C4.out
            have S4 := hid (CO.thn co4 (CP.set co4.1 (j := 82) (by omega) (ok82 (c := 2) (by omega))))
            obtain ⟨c4, _, y82⟩ := co4.1.md.i82
            have f82 := co4.1.md.fz 82 (by omega)
            clear co4 C4 z80 s0 nS CO3
            go_wp2
            go_meet
            case rel => exact S4.out.mono (by omega)
          | true =>
            have TR := hid (CO2.out.1.kinds (by have := HL.out; omega) HCC.out (v := 2) (by omega))
            go_upto_region 18 with (go_at_call 44; refine TR.out.mono ?_; rintro e W3 ⟨rfl, cp⟩; have C3 := hid (CO2.out.thn cp); clear cp TR)
            clear CO2
            obtain ⟨ov3, co3⟩ := C3.out
            obtain ⟨x81, y81⟩ := co3.1.md.i81
            clear co3
            go_cut [15] from 100 to 105 (fun x w' => IV x ∧ CP U z ov (L + 21) w')
            case first =>
              go_wp2
              go_meet
              case rel => exact ⟨⟨_, rfl⟩, C3.out⟩
            case rest =>
              obtain ⟨⟨ch, rfl⟩, cp⟩ := hcut
              clear C3 y81
              have C3 := hid cp
              clear cp
              go_upto_region 19 with fail
              go_cut [16] from 106 to 110 (fun x w' => UV x ∧ CP U z ov (L + 21) w')
              case first =>
                go_wp2
                go_meet
                case rel => exact ⟨UV.mk _, C3.out⟩
              case rest =>
                obtain ⟨⟨sz, hsz, rfl⟩, cp⟩ := hcut
                clear C3
                have HSZ := hid hsz
                obtain ⟨ov4, co4⟩ := cp
                obtain ⟨c4, hc4, y82⟩ := co4.1.md.i82
                have c180 := co4.1.md.c180
                have s0 : Kept (fun _ => False) wc wc.drew := (Kept.refl _ wc).drew
                haveI nS : Nonempty (Wld (fun U' => Kept (fun _ => False) wc U')) := ⟨⟨wc.drew, s0⟩⟩
                have z82 : ∀ x : Wld (fun U' => Kept (fun _ => False) wc U'), x.w.cell? ⟨z.Mb, 82, none⟩ = some (vi c4) := fun x => x.h.cell (p := ⟨z.Mb, 82, none⟩) (fun h => h) y82
                have z180 : ∀ x : Wld (fun U' => Kept (fun _ => False) wc U'), x.w.cell? ⟨z.Mb, 180, none⟩ = some (.pointer (some ⟨z.U2, 0, none⟩)) := fun x => x.h.cell (p := ⟨z.Mb, 180, none⟩) (fun h => h) c180
                have UI := hid ((co4.1.calm s0).uint2 (ctx := c4) (v := sz) (by have := HL.out; omega) hc4 (by omega))
                have CO4 := hid (show CO U z ov (L + 21) wc ov4 from co4)
                clear co4 hc4 y82 c180 hsz
                go_upto_region 20 with fail
                refine wp_region_calmplan 10 [(true, 0), (true, 1), (true, 2), (true, 3), (true, 4), (true, 5), (true, 6), (true, 7), (true, 8), (true, 9), (false, 10)] (fun w' => ∃ x : Wld (fun U' => Kept (fun _ => False) wc U'), w' = x.w) mixed (by kernel_rfl) (inS s0) ?_
                iterate 10 (refine wpPlan_q (by rfl) ?_; dsimp only [List.getElem_toArray, List.getElem_cons_zero, List.getElem_cons_succ]; go_big_quiet_step (fail); refine wpQuiet_nil ?_)
                refine wpPlan_e (by rfl) ?_
                dsimp only [List.getElem_toArray, List.getElem_cons_zero, List.getElem_cons_succ]
                go_wp2_with (go_at_call 25; refine UI.out.mono ?_; rintro e W5 ⟨rfl, cp⟩; have C5 := hid ((CO4.out.calm s0).thn cp); clear cp UI)
                refine onward_normal (fun h => by cases h) ?_
                refine wpPlan_nil ?_
                refine calmQ_normal ?_
                clear CO4 s0 nS z82 z180
                go_upto_region 21 with fail
                obtain ⟨tz, htz⟩ : ∃ tz, ((sz : Int) != 0) = tz := ⟨_, rfl⟩
                go_upto_if 123 with fail
                clear htz
                go_cut [] from 124 to 136 (fun w' => CP U z ov (L + 21 + 60 + 3) w')
                case first =>
                  cases tz with
                  | false =>
                    go_wp2
                    go_meet
                    case rel => exact C5.out.mono (by omega)
                  | true =>
                    obtain ⟨ov6, co6⟩ := C5.out
                    obtain ⟨c6, hc6, y82⟩ := co6.1.md.i82
                    have HC6 := hid hc6
                    have hc6i : (c6 : Int) < 18 := by omega
                    clear hc6
                    have BA6 : Hid (∀ V b, CD V z ov6 (L + 21 + 60) → Calls Ybaz.prog 51 #[.pointer (some ⟨z.Eb, 0, none⟩), .pointer (some ⟨z.Mb, 181 + c6, none⟩), .int .u64 b] V fun e w' => e = .returned (.tuple #[]) ∧ CP V z ov6 (L + 21 + 60 + 3) w') := hid fun V b hV => hV.bit (by have := HL.out; omega) b (hV.md.p2.sub (by have := HC6.out; omega) (by have := HC6.out; omega))
                    have s0 : Kept (fun _ => False) W5 W5.drew := (Kept.refl _ W5).drew
                    haveI nS : Nonempty (Wld (fun U' => Kept (fun _ => False) W5 U')) := ⟨⟨W5.drew, s0⟩⟩
                    have z82 : ∀ x : Wld (fun U' => Kept (fun _ => False) W5 U'), x.w.cell? ⟨z.Mb, 82, none⟩ = some (vi c6) := fun x => x.h.cell (p := ⟨z.Mb, 82, none⟩) (fun h => h) y82
                    clear y82
                    have CO6 := hid (show CO U z ov (L + 21 + 60) W5 ov6 from co6)
                    clear co6 C5
                    go_upto_region 22 with fail
                    refine wp_region_calmplan 12 [(true, 0), (true, 1), (true, 2), (true, 3), (true, 4), (true, 5), (true, 6), (true, 7), (true, 8), (true, 9), (true, 10), (false, 11), (false, 12)] (fun w' => ∃ x : Wld (fun U' => Kept (fun _ => False) W5 U'), w' = x.w) mixed (by kernel_rfl) (inS s0) ?_
                    iterate 11 (refine wpPlan_q (by rfl) ?_; dsimp only [List.getElem_toArray, List.getElem_cons_zero, List.getElem_cons_succ]; go_big_quiet_step (fail); refine wpQuiet_nil ?_)
                    refine wpPlan_e (by rfl) ?_
                    dsimp only [List.getElem_toArray, List.getElem_cons_zero, List.getElem_cons_succ]
                    go_wp2_with (go_at_call 52; refine (bit_ofI _ _).mono ?_; rintro e W0 ⟨rfl, rfl⟩)
                    refine onward_normal (fun _ => inS s0) ?_
                    refine wpPlan_e (by rfl) ?_
                    dsimp only [List.getElem_toArray, List.getElem_cons_zero, List.getElem_cons_succ]
                    go_wp2_with (go_at_call 51; refine (BA6.out _ _ (CO6.out.1.calm s0)).mono ?_; rintro e W6 ⟨rfl, cp⟩; have C6 := hid ((CO6.out.calm s0).thn cp); clear cp BA6)
                    refine onward_normal (fun h => by cases h) ?_
                    refine wpPlan_nil ?_
                    refine calmQ_normal ?_
                    clear CO6 s0 nS z82
                    go_wp2
                    go_meet
                    case rel => exact C6.out
                case rest =>
                  have C6 := hid hcut
                  clear hcut C5
                  obtain ⟨ov7, co7⟩ := C6.out
                  have BA7 : Hid (∀ V b, CD V z ov7 (L + 21 + 60 + 3) → Calls Ybaz.prog 51 #[.pointer (some ⟨z.Eb, 0, none⟩), .pointer (some ⟨z.Mb, 199, none⟩), .int .u64 b] V fun e w' => e = .returned (.tuple #[]) ∧ CP V z ov7 (L + 21 + 60 + 3 + 3) w') := hid fun V b hV => hV.bit (by have := HL.out; omega) b (hV.md.p2.sub (by omega) (by omega))
                  have s0 : Kept (fun _ => False) wc wc.drew := (Kept.refl _ wc).drew
                  haveI nS : Nonempty (Wld (fun U' => Kept (fun _ => False) wc U')) := ⟨⟨wc.drew, s0⟩⟩
                  have CO7 := hid (show CO U z ov (L + 21 + 60 + 3) wc ov7 from co7)
                  clear co7 C6
                  go_upto_region 23 with fail
                  refine wp_region_calmplan 8 [(true, 0), (true, 1), (true, 2), (true, 3), (true, 4), (true, 5), (true, 6), (false, 7), (false, 8)] (fun w' => ∃ x : Wld (fun U' => Kept (fun _ => False) wc U'), w' = x.w) mixed (by kernel_rfl) (inS s0) ?_
                  iterate 7 (refine wpPlan_q (by rfl) ?_; dsimp only [List.getElem_toArray, List.getElem_cons_zero, List.getElem_cons_succ]; go_big_quiet_step (fail); refine wpQuiet_nil ?_)
                  refine wpPlan_e (by rfl) ?_
                  dsimp only [List.getElem_toArray, List.getElem_cons_zero, List.getElem_cons_succ]
                  go_wp2_with (go_at_call 52; refine (bit_ofI _ _).mono ?_; rintro e W0 ⟨rfl, rfl⟩)
                  refine onward_normal (fun _ => inS s0) ?_
                  refine wpPlan_e (by rfl) ?_
                  dsimp only [List.getElem_toArray, List.getElem_cons_zero, List.getElem_cons_succ]
                  go_wp2_with (go_at_call 51; refine (BA7.out _ _ (CO7.out.1.calm s0)).mono ?_; rintro e W7 ⟨rfl, cp⟩; have C7 := hid ((CO7.out.calm s0).thn cp); clear cp BA7)
                  refine onward_normal (fun h => by cases h) ?_
                  refine wpPlan_nil ?_
                  refine calmQ_normal ?_
                  clear CO7 s0 nS
                  go_upto_region 24 with fail
                  obtain ⟨tq, hto⟩ : ∃ tq, (og != 0) = tq := ⟨_, rfl⟩
                  go_upto_if 147 with fail
                  clear hto
                  go_cut [] from 148 to 168 (fun w' => CP U z ov (L + 21 + 60 + 3 + 3 + 3 + 21) w')
                  case first =>
                    cases tq with
                    | false =>
                      go_wp2
                      go_meet
                      case rel => exact C7.out.mono (by omega)
                    | true =>
                      obtain ⟨ov8, co8⟩ := C7.out
                      have BA8 : Hid (∀ V b, CD V z ov8 (L + 21 + 60 + 3 + 3) → Calls Ybaz.prog 51 #[.pointer (some ⟨z.Eb, 0, none⟩), .pointer (some ⟨z.Mb, 200, none⟩), .int .u64 b] V fun e w' => e = .returned (.tuple #[]) ∧ CP V z ov8 (L + 21 + 60 + 3 + 3 + 3) w') := hid fun V b hV => hV.bit (by have := HL.out; omega) b (hV.md.p2.sub (by omega) (by omega))
                      have s0 : Kept (fun _ => False) W7 W7.drew := (Kept.refl _ W7).drew
                      haveI nS : Nonempty (Wld (fun U' => Kept (fun _ => False) W7 U')) := ⟨⟨W7.drew, s0⟩⟩
                      have CO8 := hid (show CO U z ov (L + 21 + 60 + 3 + 3) W7 ov8 from co8)
                      clear co8 C7
                      go_upto_region 25 with fail
                      refine wp_region_calmplan 8 [(true, 0), (true, 1), (true, 2), (true, 3), (true, 4), (true, 5), (true, 6), (false, 7), (false, 8)] (fun w' => ∃ x : Wld (fun U' => Kept (fun _ => False) W7 U'), w' = x.w) mixed (by kernel_rfl) (inS s0) ?_
                      iterate 7 (refine wpPlan_q (by rfl) ?_; dsimp only [List.getElem_toArray, List.getElem_cons_zero, List.getElem_cons_succ]; go_big_quiet_step (fail); refine wpQuiet_nil ?_)
                      refine wpPlan_e (by rfl) ?_
                      dsimp only [List.getElem_toArray, List.getElem_cons_zero, List.getElem_cons_succ]
                      go_wp2_with (go_at_call 52; refine (bit_ofI _ _).mono ?_; rintro e W0 ⟨rfl, rfl⟩)
                      refine onward_normal (fun _ => inS s0) ?_
                      refine wpPlan_e (by rfl) ?_
                      dsimp only [List.getElem_toArray, List.getElem_cons_zero, List.getElem_cons_succ]
                      go_wp2_with (go_at_call 51; refine (BA8.out _ _ (CO8.out.1.calm s0)).mono ?_; rintro e W8 ⟨rfl, cp⟩; have C8 := hid ((CO8.out.calm s0).thn cp); clear cp BA8)
                      refine onward_normal (fun h => by cases h) ?_
                      refine wpPlan_nil ?_
                      refine calmQ_normal ?_
                      clear CO8 s0 nS
                      obtain ⟨ov9, co9⟩ := C8.out
                      have TS : Hid (∀ y : Int, Calls Ybaz.prog 44 #[.pointer (some ⟨z.Eb, 0, none⟩), sl z.Mb 201 8 8, .int .u64 (IntKind.u64.wrap y)] W8 fun e w' => e = .returned (.tuple #[]) ∧ CP W8 z ov9 (L + 21 + 60 + 3 + 3 + 3 + 21) w') := hid fun y => by
                        obtain ⟨m, hm, em⟩ := u64_nat y
                        rw [em]
                        exact co9.1.tree (by have := HL.out; omega) (n := 3) (by omega) (co9.1.md.p2.sub (by omega) (by omega)) (by omega)
                      have CO9 := hid (show CO U z ov (L + 21 + 60 + 3 + 3 + 3) W8 ov9 from co9)
                      clear co9 C8
                      go_wp2_with (first | ((with_reducible (show wpList _ _ _ (⟨_, .slice 84 _ _ _ _, _, _, _, _⟩ :: _) _ _)); refine wpList_as (sl z.Mb 201 8 8) (by kernel_rfl) (run_opslice (fun W => slice84a z.Mb 201 W)) ?_; simp only [Act.put, List.setIfInBounds_toArray, List.set_cons_succ, List.set_cons_zero]) | (go_at_call 44; refine (TS.out _).mono ?_; rintro e W9 ⟨rfl, cp⟩; have C9 := hid (CO9.out.thn cp); clear cp TS))
                      go_meet
                      case rel => exact C9.out
                  case rest =>
                    obtain ⟨ovA, coA⟩ := hcut
                    obtain ⟨xA, yA⟩ := coA.1.md.i81
                    have fA := coA.1.md.fz 81 (by omega)
                    have SA := coA.1.set (j := 81) (by omega) (ok81 dg)
                    have COA := hid (show CO U z ov (L + 21 + 60 + 3 + 3 + 3 + 21) wc ovA from coA)
                    clear coA C7
                    go_upto_region 28 with fail
                    refine wp_as (fun V => CD V z ovA (L + 21 + 60 + 3 + 3 + 3 + 21) ∧ Kept (CE z ovA) wc V) SA ?_
                    rintro VB ⟨cdB, kB⟩
                    obtain ⟨cB, _, yB⟩ := cdB.md.i82
                    have fB := cdB.md.fz 82 (by omega)
                    obtain ⟨bl, hbl⟩ : ∃ bl, Lib.bitLen sz = bl := ⟨_, rfl⟩
                    have LN : Hid (∀ w, Calls Ybaz.prog 43 #[.int .u64 (sz : Int)] w fun e w' => e = .returned (vi bl) ∧ w' = w) := hid fun w => by
                      have := Ybaz.bits_Len64 (sz : Int) w (by omega) (by have := HSZ.out; omega)
                      rw [Int.toNat_natCast, hbl] at this
                      exact this
                    have hbl64 : bl ≤ 64 := by rw [← hbl]; exact Lib.bitLen_le sz 64 (by have := HSZ.out; omega) (by have := HSZ.out; omega)
                    obtain ⟨mn, hmn⟩ : ∃ mn : Nat, min (bl : Int) 14 = (mn : Int) := ⟨min bl 14, by omega⟩
                    have hmn2 : mn ≤ 14 := by omega
                    have hmi : (mn : Int) ≤ 14 := by omega
                    have SB := hid (show CP U z ov (L + 21 + 60 + 3 + 3 + 3 + 21) (VB.setCell ⟨z.Mb, 82, none⟩ (ii (3 + (mn : Int)))) from COA.out.thn (CP.thn kB (Mv.refl _ _) (by
                      have := CP.set cdB (j := 82) (by omega) (ok82 (c := 3 + mn) (by omega))
                      rw [show (vi (3 + mn)) = ii (3 + (mn : Int)) by simp] at this
                      exact this)))
                    clear cdB kB SA COA hbl hmn2 yA fA
                    go_wp2_with (go_at_call 43; refine (LN.out _).mono ?_; rintro e WC ⟨rfl, rfl⟩)
                    go_meet
                    case rel => exact SB.out.mono (by omega)
        case rest =>
          obtain ⟨ov5, co5⟩ := hcut
          obtain ⟨la5, y80⟩ := co5.1.md.i80
          have f80 := co5.1.md.fz 80 (by omega)
          have S5 := hid (CO.thn co5 (CP.set co5.1 (j := 80) (by omega) (okr (by omega) v)))
          clear co5 CO2
          go_wp2
          go_end0
          exact ⟨rfl, S5.out.mono (by omega)⟩
      · have hii : (i : Int) < 32 := by omega
        have HI := hid hi
        have TR := hid (C0.out.1.kinds (by have := HL.out; omega) HCC.out (v := 1) (by omega))
        clear hi
        go_upto_region 8 with (go_at_call 44; refine TR.out.mono ?_; rintro e W1 ⟨rfl, cp⟩; have C1 := hid (C0.out.thn cp); clear cp TR)
        obtain ⟨ov1, co1⟩ := C1.out
        obtain ⟨c1, hc1, y82⟩ := co1.1.md.i82
        obtain ⟨bb, hbb⟩ : ∃ bb, ((c1 : Int) == 1) = bb := ⟨_, rfl⟩
        obtain ⟨t1, ht1, et1⟩ := bitI_nat bb
        have BT : Hid (∀ W, Calls Ybaz.prog 52 #[.bool bb] W fun e w' => e = .returned (.int .u64 (t1 : Int)) ∧ w' = W) := hid fun W => by
          have := bit_ofI bb W
          rw [et1] at this
          exact this
        have ht1i : (t1 : Int) < 2 := by omega
        have s0 : Kept (fun _ => False) W1 W1.drew := (Kept.refl _ W1).drew
        haveI nS : Nonempty (Wld (fun U' => Kept (fun _ => False) W1 U')) := ⟨⟨W1.drew, s0⟩⟩
        have z82 : ∀ x : Wld (fun U' => Kept (fun _ => False) W1 U'), x.w.cell? ⟨z.Mb, 82, none⟩ = some (vi c1) := fun x => x.h.cell (p := ⟨z.Mb, 82, none⟩) (fun h => h) y82
        have TS := hid (show Calls Ybaz.prog 44 #[.pointer (some ⟨z.Eb, 0, none⟩), sl z.Mb (116 + t1 * 32) 32 32, .int .u64 (i : Int)] W1.drew (fun e w' => e = .returned (.tuple #[]) ∧ CP W1.drew z ov1 (L + 21 + 21) w') from (co1.1.calm s0).tree (by have := HL.out; omega) (n := 5) (by omega) ((co1.1.calm s0).md.wh.sub (by omega) (by omega)) (by omega))
        have CO1 := hid (show CO U z ov (L + 21) W1 ov1 from co1)
        clear co1 C1 C0 y82 hc1 ht1 et1
        refine wp_region_calmplan 14 [(true, 0), (true, 1), (true, 2), (true, 3), (true, 4), (true, 5), (true, 6), (true, 8), (true, 9), (true, 12), (true, 13), (false, 7), (true, 10), (true, 11), (false, 14)] (fun w' => ∃ x : Wld (fun U' => Kept (fun _ => False) W1 U'), w' = x.w) mixed (by kernel_rfl) (inS s0) ?_
        iterate 11 (refine wpPlan_q (by rfl) ?_; dsimp only [List.getElem_toArray, List.getElem_cons_zero, List.getElem_cons_succ]; go_big_quiet_step (fail); refine wpQuiet_nil ?_)
        refine wpPlan_e (by rfl) ?_
        dsimp only [List.getElem_toArray, List.getElem_cons_zero, List.getElem_cons_succ]
        go_wp2_with (go_at_call 52; refine (BT.out _).mono ?_; rintro e W0 ⟨rfl, rfl⟩)
        refine onward_normal (fun _ => inS s0) ?_
        (refine wpPlan_q (by rfl) ?_; dsimp only [List.getElem_toArray, List.getElem_cons_zero, List.getElem_cons_succ]; go_big_quiet_step (fail); refine wpQuiet_nil ?_)
        refine wpPlan_q (by rfl) ?_
        dsimp only [List.getElem_toArray, List.getElem_cons_zero, List.getElem_cons_succ]
        refine wpQuiet_run (sl z.Mb (116 + t1 * 32) 32 32) rfl (fun w _ => run_opslice (fun W => slice81a z.Mb (116 + t1 * 32) W)) ?_
        simp only [Act.put, List.setIfInBounds_toArray, List.set_cons_succ, List.set_cons_zero]
        refine wpQuiet_nil ?_
        refine wpPlan_e (by rfl) ?_
        dsimp only [List.getElem_toArray, List.getElem_cons_zero, List.getElem_cons_succ]
        go_wp2_with (go_at_call 44; refine TS.out.mono ?_; rintro e W2 ⟨rfl, cp⟩; have C2 := hid ((CO1.out.calm s0).thn cp); clear cp TS)
        refine onward_normal (fun h => by cases h) ?_
        refine wpPlan_nil ?_
        refine calmQ_normal ?_
        clear CO1 z82 s0 nS BT hbb
        obtain ⟨ov2, co2⟩ := C2.out
        have TK := hid (take_any i HI.out z ov2 (L + 21 + 21) W2 co2.1)
        have CO2 := hid (show CO U z ov (L + 21 + 21) W2 ov2 from co2)
        clear co2 C2
        go_upto_region 10 with (go_at_call 54; refine TK.out.mono ?_; rintro e W3 ⟨rfl, cp⟩; have C3 := hid (CO2.out.thn cp); clear cp TK)
        obtain ⟨ov3, co3⟩ := C3.out
        obtain ⟨c3, _, y82⟩ := co3.1.md.i82
        have f82 := co3.1.md.fz 82 (by omega)
        have S3 := co3.1.set (j := 82) (by omega) (ok82 (c := 1) (by omega))
        have CO3 := hid (show CO U z ov (L + 21 + 21) W3 ov3 from co3)
        clear co3 C3 CO2
        go_upto_region 11 with fail
        refine wp_as (fun V => CD V z ov3 (L + 21 + 21) ∧ Kept (CE z ov3) W3 V) S3 ?_
        rintro V4 ⟨cd4, k4⟩
        have C4 := hid (CO3.out.thn (CP.thn k4 (Mv.refl _ _) (CP.refl cd4)))
        clear cd4 k4 S3 CO3 y82 f82
        obtain ⟨ov4, co4⟩ := C4.out
        obtain ⟨p, hp, y79⟩ := co4.1.md.i79
        have TD := hid (toDecimal_any v p hp V4 co4.1.gl)
        have CO4 := hid (show CO U z ov (L + 21 + 21) V4 ov4 from co4)
        clear co4 C4 hp
        go_upto_region 12 with (go_at_call 55; refine TD.out.mono ?_; rintro e W5 ⟨⟨dg, og, t, rfl⟩, k5⟩; have CO5 := hid (CO4.out.calm k5); clear k5 TD)
        clear y79 CO4
        cases t with
        | false =>
          go_wp2
          refine bodyPost_ret (results_none Ybaz.results30 _ _ _) rfl ?_
          exact ⟨rfl, CO5.out.cp.mono (by omega)⟩
        | true =>
          obtain ⟨x6, y81⟩ := CO5.out.1.md.i81
          have f81 := CO5.out.1.md.fz 81 (by omega)
          have S6 := hid (CO5.out.thn (CP.set CO5.out.1 (j := 81) (by omega) (ok81 dg)))
          clear CO5
          go_wp2
          refine bodyPost_ret (results_none Ybaz.results30 _ _ _) rfl ?_
          exact ⟨rfl, S6.out.mono (by omega)⟩
end Go.Proofs.YbulkdsjeGreatDoor
