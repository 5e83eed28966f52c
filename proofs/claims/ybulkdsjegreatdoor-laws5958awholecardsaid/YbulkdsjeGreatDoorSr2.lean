import Derived.Test.YbulkdsjeGreatDoorSr1
set_option linter.unusedVariables false
set_option linter.unusedSimpArgs false
namespace Go.Proofs.YbulkdsjeGreatDoor
open Go.RowKit

theorem wat {V : World} (x : Wld (KC 0 0 V)) {p : Addr} {v : Value} (h : V.cell? p = some v) : x.w.cell? p = some v := Kept.cell x.h (fun h => by omega) h
theorem wkept {V : World} (x : Wld (KC 0 0 V)) : Kept (fun _ => False) V x.w := Kept.weak x.h (fun _ _ h => by omega)
theorem KC.of {V W : World} (h : Kept (fun _ => False) V W) : KC 0 0 V W := h.weak (fun _ _ h => h.elim)

set_option maxRecDepth 100000 in
set_option maxHeartbeats 4000000 in
theorem f106_any (x ms : Int) (v Mb Kb Ik L c : Nat) (U : World) (hm : U.cell? ⟨Mb, 0, none⟩ = some (ii ms)) (hk : U.cell? ⟨Kb, 0, none⟩ = some (F91 Mb)) (hL : 0 < L) (hL2 : L ≤ 256) (h1 : U.cell? ⟨Ik, (L - 1) * 2, none⟩ = some (ii x)) (h2 : U.cell? ⟨Ik, (L - 1) * 2 + 1, none⟩ = some (.float .f64 v)) : Calls Ybaz.prog 106 #[.agg #[sl Ik 0 L c, vi 0], .agg #[], .pointer (some ⟨Kb, 0, none⟩)] U fun e w' => e = .returned (ii (cmpI x ms)) ∧ Kept (fun _ => False) U w' := by
  have k0 : Kept (fun _ => False) U ((U.alloc (.cells #[sl Ik 0 L c, vi 0] 134)).alloc (.cells #[] 112)) := ((Kept.refl _ U).alloc _).alloc _
  have bx : ((U.alloc (.cells #[sl Ik 0 L c, vi 0] 134)).alloc (.cells #[] 112)).cell? ⟨U.heap.size, 0, none⟩ = some (sl Ik 0 L c) := ((Kept.refl (fun _ => False) (U.alloc (.cells #[sl Ik 0 L c, vi 0] 134))).alloc _).cell (p := ⟨U.heap.size, 0, none⟩) (fun h => h) (range_new U [sl Ik 0 L c, vi 0] 134 0 _ rfl)
  obtain ⟨l, hl⟩ : ∃ l, L - 1 = l := ⟨_, rfl⟩
  have el : (L : Int) - 1 = (l : Int) := by omega
  have hll : (l : Int) < (L : Int) := by omega
  rw [hl] at h1 h2
  have ALL := hid (show Kept (fun _ => False) U ((U.alloc (.cells #[sl Ik 0 L c, vi 0] 134)).alloc (.cells #[] 112)) ∧ ((U.alloc (.cells #[sl Ik 0 L c, vi 0] 134)).alloc (.cells #[] 112)).cell? ⟨U.heap.size, 0, none⟩ = some (sl Ik 0 L c) ∧ ((U.alloc (.cells #[sl Ik 0 L c, vi 0] 134)).alloc (.cells #[] 112)).cell? ⟨Mb, 0, none⟩ = some (ii ms) ∧ ((U.alloc (.cells #[sl Ik 0 L c, vi 0] 134)).alloc (.cells #[] 112)).cell? ⟨Kb, 0, none⟩ = some (F91 Mb) ∧ ((U.alloc (.cells #[sl Ik 0 L c, vi 0] 134)).alloc (.cells #[] 112)).cell? ⟨Ik, l * 2, none⟩ = some (ii x) ∧ ((U.alloc (.cells #[sl Ik 0 L c, vi 0] 134)).alloc (.cells #[] 112)).cell? ⟨Ik, l * 2 + 1, none⟩ = some (.float .f64 v) from ⟨k0, bx, k0.cell (p := ⟨Mb, 0, none⟩) (fun h => h) hm, k0.cell (p := ⟨Kb, 0, none⟩) (fun h => h) hk, k0.cell (p := ⟨Ik, l * 2, none⟩) (fun h => h) h1, k0.cell (p := ⟨Ik, l * 2 + 1, none⟩) (fun h => h) h2⟩)
  clear k0 bx hm hk h1 h2 hl hL
  go_enter Ybaz.func106, Ybaz.ntmps106
  go_upto_region 1 with fail
  refine wp_as (fun V => Kept (fun _ => False) U V ∧ V.cell? ⟨U.heap.size, 0, none⟩ = some (sl Ik 0 L c) ∧ V.cell? ⟨Mb, 0, none⟩ = some (ii ms) ∧ V.cell? ⟨Kb, 0, none⟩ = some (F91 Mb) ∧ V.cell? ⟨Ik, l * 2, none⟩ = some (ii x) ∧ V.cell? ⟨Ik, l * 2 + 1, none⟩ = some (.float .f64 v)) ALL.out ?_
  rintro V ⟨k0, a1, a2, a3, a4, a5⟩
  obtain ⟨XB, hXB⟩ : ∃ XB, U.heap.size = XB := ⟨_, rfl⟩
  rw [hXB] at a1 ⊢
  have s0 : KC 0 0 V V.drew := (Kept.refl (fun c => 0 < 0 ∧ c = 0) V).drew
  haveI nS : Nonempty (Wld (KC 0 0 V)) := ⟨⟨V.drew, s0⟩⟩

  have z1 : ∀ x : Wld (KC 0 0 V), x.w.cell? ⟨XB, 0, none⟩ = some (sl Ik 0 L c) := fun x => wat x a1
  have z3 : ∀ x : Wld (KC 0 0 V), x.w.cell? ⟨Kb, 0, none⟩ = some (F91 Mb) := fun x => wat x a3
  have z4 : ∀ w : Wld (KC 0 0 V), w.w.cell? ⟨Ik, l * 2, none⟩ = some (ii x) := fun x => wat x a4
  have z5 : ∀ w : Wld (KC 0 0 V), w.w.cell? ⟨Ik, l * 2 + 1, none⟩ = some (.float .f64 v) := fun x => wat x a5
  have FA := hid (fun W (hW : KC 0 0 V W) => f91_any x ms v Mb W (wat ⟨W, hW⟩ a2))
  have K0 := hid k0
  clear ALL k0 a1 a2 a3 a4 a5 hXB
  refine wp_region_calmplan 11 [(true, 0), (true, 1), (true, 2), (true, 3), (true, 4), (false, 5), (true, 6), (true, 7), (true, 8), (false, 9), (true, 10)] (fun w' => ∃ x : Wld (KC 0 0 V), w' = x.w) mixed (by kernel_rfl) (inS s0) ?_
  iterate 5 (refine wpPlan_q (by rfl) ?_; dsimp only [List.getElem_toArray, List.getElem_cons_zero, List.getElem_cons_succ]; go_big_quiet_step (fail); refine wpQuiet_nil ?_)

  refine wpPlan_e (by rfl) ?_
  dsimp only [List.getElem_toArray, List.getElem_cons_zero, List.getElem_cons_succ]

  go_wp2
  refine onward_normal (fun _ => inS s0) ?_
  iterate 3 (refine wpPlan_q (by rfl) ?_; dsimp only [List.getElem_toArray, List.getElem_cons_zero, List.getElem_cons_succ]; go_big_quiet_step (fail); refine wpQuiet_nil ?_)

  refine wpPlan_e (by rfl) ?_
  dsimp only [List.getElem_toArray, List.getElem_cons_zero, List.getElem_cons_succ]

  go_wp2_with (go_at_call 91; refine (FA.out _ s0).mono ?_; rintro e W1 ⟨rfl, k1⟩)
  have s1 : KC 0 0 V W1 := KC.of (((Kept.refl _ V).drew).trans k1)
  refine onward_normal (fun _ => inS s1) ?_
  iterate 1 (refine wpPlan_q (by rfl) ?_; dsimp only [List.getElem_toArray, List.getElem_cons_zero, List.getElem_cons_succ]; go_big_quiet_step (fail); refine wpQuiet_nil ?_)

  refine wpPlan_nil ?_
  refine calmQ_normal ?_
  clear z1 z3 z4 z5 FA s0 nS
  go_wp2
  go_ret
  exact ⟨rfl, K0.out.trans (wkept ⟨W1, s1⟩)⟩
end Go.Proofs.YbulkdsjeGreatDoor
