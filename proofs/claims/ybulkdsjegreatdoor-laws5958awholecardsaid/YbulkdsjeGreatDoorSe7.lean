import Derived.Test.YbulkdsjeGreatDoorSe6
import Derived.BigQuiet
import Derived.Deep.QuietTactic
set_option linter.unusedVariables false
set_option linter.unusedSimpArgs false
namespace Go.Proofs.YbulkdsjeGreatDoor
open Go.RowKit


set_option maxRecDepth 100000 in
set_option maxHeartbeats 4000000 in
theorem step_next (t v : Nat) (SA : Nat → Nat → Prop) (sb ab na : Nat) (st nn fu : Nat → Nat) (hb pv nw : Nat) (U : World) (h : SX U SA sb ab na st nn fu hb pv nw true) (ht : nw ≤ t ∧ t ≤ 8000000000) : Calls Ybaz.prog 40 #[.pointer (some ⟨sb, 0, none⟩), vi t, .float .f64 v] U fun e w' => e = .returned (.tuple #[]) ∧ StP U SA sb ab na st nn fu hb t w' := by
  have F1 := hid (finest_any sb ab na U (by have := h.hna; omega) h.c4)
  have c11 := h.c11
  have c9 := h.c9
  have hnt : ¬ ((t : Int) < (nw : Int)) := by omega
  have HX := hid h
  have HT := hid ht
  by_cases hte : t = nw
  · subst hte
    obtain ⟨x10, h10⟩ := h.c10
    have f10 := h.fz 10 (by omega) (by omega)
    clear h ht hnt
    go_enter Ybaz.func40, Ybaz.ntmps40
    go_wp2_with (first | (go_at_call 71; refine F1.out.mono ?_; rintro e W1 ⟨rfl, rfl⟩) | ((with_reducible (show wpList _ _ _ (⟨_, .store 24 _ _, _, _, _, _⟩ :: _) _ _)); refine wpList_store_as rfl 24 _ _ rfl rfl sb 10 (.float .f64 v) rfl rfl (store24 _ _ _ _ (by rw [h10]; rfl) f10) ?_))
    refine bodyPost_ret (results_none Ybaz.results40 _ _ _) rfl ?_
    refine ⟨rfl, ?_⟩
    have fp := (FP.set (w := W1) sb 10 (.float .f64 v)).mono (Y := fun c j => c = sb ∧ 8 ≤ j ∧ j < 12) (fun c j _ e => ⟨e.1, by omega, by omega⟩)
    obtain ⟨a, b⟩ := HX.out.set fp (by rw [cell_seto _ _ _ _ _ (by omega)]; exact HX.out.c8) (by rw [cell_seto _ _ _ _ _ (by omega)]; exact HX.out.c9) (cell_setv _ _ _ _ (by rw [h10]; rfl)) (by rw [cell_seto _ _ _ _ _ (by omega)]; exact HX.out.c11) HX.out.hpn
    exact ⟨_, _, a, b⟩
  · have hte2 : ((t : Int) == (nw : Int)) = false := by simp; omega
    have TS := hid (trimS_any t SA sb ab na st nn fu hb pv nw true U h ht.2)
    clear h ht hte
    go_enter Ybaz.func40, Ybaz.ntmps40
    go_upto_region 8 with (first | (go_at_call 71; refine F1.out.mono ?_; rintro e W1 ⟨rfl, rfl⟩) | (go_at_call 73; refine TS.out.mono ?_; rintro e W2 ⟨rfl, so⟩; have S2 := hid so; clear so TS))
    clear c11 c9 hnt hte2 F1 HX
    obtain ⟨S1, sx, sm⟩ := S2.out
    have SX2 := hid sx
    have SM2 := hid sm
    have KN := hid (known_any sb hb pv nw W2 sx.hhb sx.hpn sx.r1 sx.c8 sx.c9)
    clear sx sm S2
    go_cut [61] from 60 to 61 (fun v w' => BV v ∧ Dr W2 w')
    case first =>
      go_wp2_with (go_at_call 74; refine KN.out.mono ?_; rintro e W3 ⟨⟨b, rfl⟩, hd⟩; have HD := hid hd; clear hd KN)
      go_meet
      case rel => exact ⟨⟨_, rfl⟩, HD.out⟩
    case rest =>
      obtain ⟨⟨b, rfl⟩, hd⟩ := hcut
      have SX3 := hid (SX2.out.kept hd.kept)
      have SM3 := hid (SM2.out.trans (SM.calm (SA := S1) hd.kept))
      clear hd KN SX2 SM2
      go_upto_if 61 with fail
      go_cut [] from 62 to 75 (fun w' => SO W1 SA sb ab na st nn fu hb pv nw true w')
      case first =>
        cases b with
        | false =>
          go_wp2
          go_meet
          case rel => exact ⟨S1, SX3.out, SM3.out⟩
        | true =>
          obtain ⟨sc, fi, d, n, f, ax⟩ := SX3.out.ar 0 (by have := SX3.out.hna; omega)
          rw [Nat.zero_mul] at ax
          obtain ⟨x10, h10⟩ := SX3.out.c10
          have AD := hid (add_any pv nw x10 (S1 0) ab 0 (st 0) (nn 0) (fu 0) sc fi d n f wc.drew (ax.kept (Kept.refl _ _).drew) SX3.out.hpn.1 SX3.out.hpn.2)
          have s0 : Kept (fun _ => False) wc wc.drew := (Kept.refl _ wc).drew
          haveI nS : Nonempty (Wld (fun U' => Kept (fun _ => False) wc U')) := ⟨⟨wc.drew, s0⟩⟩
          have y8 : ∀ x : Wld (fun U' => Kept (fun _ => False) wc U'), x.w.cell? ⟨sb, 8, none⟩ = some (vi pv) := fun x => x.h.cell (p := ⟨sb, 8, none⟩) (fun h => h) SX3.out.c8
          have y9 : ∀ x : Wld (fun U' => Kept (fun _ => False) wc U'), x.w.cell? ⟨sb, 9, none⟩ = some (vi nw) := fun x => x.h.cell (p := ⟨sb, 9, none⟩) (fun h => h) SX3.out.c9
          have y10 : ∀ x : Wld (fun U' => Kept (fun _ => False) wc U'), x.w.cell? ⟨sb, 10, none⟩ = some (.float .f64 x10) := fun x => x.h.cell (p := ⟨sb, 10, none⟩) (fun h => h) h10
          clear ax h10
          go_upto_region 9 with fail
          refine wp_region_calmplan 13 [(true, 0), (true, 1), (true, 2), (true, 3), (true, 4), (true, 5), (true, 6), (true, 7), (true, 8), (true, 9), (true, 10), (true, 11), (true, 12), (false, 13)] (fun w' => ∃ x : Wld (fun U' => Kept (fun _ => False) wc U'), w' = x.w) mixed (by kernel_rfl) (inS s0) ?_
          iterate 13 (refine wpPlan_q (by rfl) ?_; dsimp only [List.getElem_toArray, List.getElem_cons_zero, List.getElem_cons_succ]; go_big_quiet_step (fail); refine wpQuiet_nil ?_)
          refine wpPlan_e (by rfl) ?_
          dsimp only [List.getElem_toArray, List.getElem_cons_zero, List.getElem_cons_succ]
          go_wp2_with (go_at_call 75; refine AD.out.mono ?_; rintro e W4 ⟨rfl, ao⟩; have AO4 := hid ao; clear ao AD)
          refine onward_normal (fun h => by cases h) ?_
          refine wpPlan_nil ?_
          refine calmQ_normal ?_
          have S4 := hid (show SO W1 SA sb ab na st nn fu hb pv nw true W4 from by
            obtain ⟨S', fi4, d4, n4, f4, ax4, am4⟩ := AO4.out
            exact SO.trans (SM3.out.trans (SM.calm s0)) (SO.turn0 (SX3.out.kept s0) ax4 am4))
          clear y8 y9 y10 nS s0 AO4
          go_wp2
          go_meet
          case rel => exact S4.out
      case rest =>
        clear SX3 SM3
        obtain ⟨S2, sx, sm⟩ := hcut
        have c8 := sx.c8
        have c9 := sx.c9
        have f8 := sx.fz 8 (by omega) (by omega)
        have f9 := sx.fz 9 (by omega) (by omega)
        have f10 := sx.fz 10 (by omega) (by omega)
        obtain ⟨x10, h10⟩ := sx.c10
        have S3 := hid (fun V hV => set3 (U := wc) (b := sb) (v8 := vi nw) (v9 := vi t) (v10 := .float .f64 v) (v11 := .bool true) (by rw [c8]; rfl) (by rw [c9]; rfl) (by rw [h10]; rfl) sx.c11 V hV)
        have SXH := hid sx
        have SMH := hid sm
        have H10 := hid h10
        clear sx sm h10
        go_upto_region 12 with (first | ((with_reducible (show wpList _ _ _ (⟨_, .store 24 _ _, _, _, _, _⟩ :: _) _ _)); refine wpList_store_as rfl 24 _ _ rfl rfl sb 10 (.float .f64 v) rfl rfl (store24 _ _ _ _ (by rw [cell_seto _ _ _ _ _ (by omega), cell_seto _ _ _ _ _ (by omega), H10.out]; rfl) (by rw [World.frozen?_setCell, World.frozen?_setCell]; exact f10)) ?_))
        refine wp_as (fun V => SX V S2 sb ab na st nn fu hb nw t true ∧ SN W1 SA sb ab na S2 V) (by
          obtain ⟨fp, e8, e9, e10, e11⟩ := S3.out _ rfl
          obtain ⟨a, b⟩ := SXH.out.set fp e8 e9 e10 e11 HT.out
          exact ⟨a, (SM.n SMH.out).trans b⟩) ?_
        rintro V ⟨sx, sn⟩
        have CO := hid (consolidate_any pv S2 sb ab na st nn fu hb nw t true V sx (by have := SXH.out.hpn; omega))
        have SNH := hid sn
        clear sx sn c8 c9 f8 f9 f10 S3 SXH SMH H10
        go_wp2_with (go_at_call 76; refine CO.out.mono ?_; rintro e W5 ⟨rfl, so⟩; have S5 := hid so; clear so CO)
        go_end0
        obtain ⟨S6, sx6, sm6⟩ := S5.out
        exact ⟨rfl, S6, nw, sx6, SNH.out.trans (SM.n sm6)⟩
end Go.Proofs.YbulkdsjeGreatDoor
