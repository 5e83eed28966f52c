import Derived.Test.YbulkdsjeGreatDoorSe5
import Derived.BigQuiet
import Derived.Deep.QuietTactic
set_option linter.unusedVariables false
set_option linter.unusedSimpArgs false
namespace Go.Proofs.YbulkdsjeGreatDoor
open Go.RowKit


set_option maxRecDepth 100000 in
set_option maxHeartbeats 4000000 in
theorem step_first (t v : Nat) (SA : Nat → Nat → Prop) (sb ab na : Nat) (st nn fu : Nat → Nat) (hb pv nw : Nat) (U : World) (h : SX U SA sb ab na st nn fu hb pv nw false) (ht : 1 ≤ t ∧ t ≤ 8000000000) : Calls Ybaz.prog 40 #[.pointer (some ⟨sb, 0, none⟩), vi t, .float .f64 v] U fun e w' => e = .returned (.tuple #[]) ∧ StP U SA sb ab na st nn fu hb t w' := by
  have F1 := hid (finest_any sb ab na U (by have := h.hna; omega) h.c4)
  obtain ⟨sc, fi, d, n, f, ax⟩ := h.ar 0 (by have := h.hna; omega)
  rw [Nat.zero_mul] at ax
  obtain ⟨s, hs⟩ : ∃ s, st 0 = s := ⟨_, rfl⟩
  have hst := ax.hst
  rw [hs] at hst
  obtain ⟨c, ec, hc, hc1, hc2⟩ := cdiv t s hst.1 ht.2
  have CD : Hid (∀ W, Calls Ybaz.prog 72 #[vi t, vi s] W fun e w' => e = .returned (vi c) ∧ w' = W) := hid fun W => by
    have := ceilDiv_any t s W (by omega) (by omega) (by omega)
    rw [ec] at this
    exact this
  have hc0 : 1 ≤ c := by
    rcases Nat.eq_zero_or_pos c with e | e
    · subst e; omega
    · exact e
  obtain ⟨p, hp⟩ : ∃ p, (c - 1) * s = p := ⟨_, rfl⟩
  have hpc : p + s = c * s := by
    rw [← hp, ← Nat.succ_mul]
    congr 1
    omega
  have hpt : p ≤ t := by omega
  have ep : ((c : Int) - 1) * (s : Int) = (p : Int) := by rw [← hp, show (c : Int) - 1 = ((c - 1 : Nat) : Int) by omega]; simp
  have b1 : (c : Int) ≤ 8000001 := by omega
  have b2 : (p : Int) ≤ 8000000000 := by omega
  have hl := h.lt
  obtain ⟨x10, h10⟩ := h.c10
  have s0 : Kept (fun _ => False) U U.drew := (Kept.refl _ U).drew
  haveI nS : Nonempty (Wld (fun U' => Kept (fun _ => False) U U')) := ⟨⟨U.drew, s0⟩⟩
  have y0 : ∀ x : Wld (fun U' => Kept (fun _ => False) U U'), x.w.cell? ⟨ab, 0, none⟩ = some (vi s) := fun x => x.h.cell (p := ⟨ab, 0, none⟩) (fun h => h) (by rw [← hs]; exact ax.s0)
  have c11 := h.c11
  have HX := hid h
  have HP := hid (show p ≤ t ∧ t ≤ 8000000000 from ⟨hpt, ht.2⟩)
  clear h ax hs hst hc hc1 hc2 ec hc0 hp hpc hpt ht h10 hl
  go_enter Ybaz.func40, Ybaz.ntmps40
  go_upto_region 2 with (go_at_call 71; refine F1.out.mono ?_; rintro e W1 ⟨rfl, rfl⟩)
  clear c11
  refine wp_region_calmplan 15 [(true, 0), (true, 1), (true, 2), (true, 3), (true, 4), (true, 5), (true, 8), (true, 9), (true, 10), (true, 11), (false, 6), (true, 7), (true, 12), (true, 13), (true, 14), (false, 15)] (fun w' => ∃ x : Wld (fun U' => Kept (fun _ => False) W1 U'), w' = x.w) mixed (by kernel_rfl) (inS s0) ?_
  iterate 10 (refine wpPlan_q (by rfl) ?_; dsimp only [List.getElem_toArray, List.getElem_cons_zero, List.getElem_cons_succ]; go_big_quiet_step (fail); refine wpQuiet_nil ?_)
  refine wpPlan_e (by rfl) ?_
  dsimp only [List.getElem_toArray, List.getElem_cons_zero, List.getElem_cons_succ]
  go_wp2_with (go_at_call 72; refine (CD.out _).mono ?_; rintro e W3 ⟨rfl, rfl⟩)
  refine onward_normal (fun _ => inS s0) ?_
  iterate 4 (refine wpPlan_q (by rfl) ?_; dsimp only [List.getElem_toArray, List.getElem_cons_zero, List.getElem_cons_succ]; go_big_quiet_step (fail); refine wpQuiet_nil ?_)
  refine wpPlan_e (by rfl) ?_
  dsimp only [List.getElem_toArray, List.getElem_cons_zero, List.getElem_cons_succ]
  have f8 : W1.drew.frozen? ⟨sb, 8, none⟩ = false := HX.out.fz 8 (by omega) (by omega)
  have c8 : W1.drew.cell? ⟨sb, 8, none⟩ = some (vi pv) := HX.out.c8
  go_wp2
  refine onward_normal (fun h => by cases h) ?_
  refine wpPlan_nil ?_
  refine calmQ_normal ?_
  have sxd := HX.out.kept s0
  have SXD := hid sxd
  have c9 : (W1.drew.setCell ⟨sb, 8, none⟩ (vi p)).cell? ⟨sb, 9, none⟩ = some (vi nw) := by rw [cell_seto _ _ _ _ _ (by omega)]; exact sxd.c9
  have f9 : (W1.drew.setCell ⟨sb, 8, none⟩ (vi p)).frozen? ⟨sb, 9, none⟩ = false := by rw [World.frozen?_setCell]; exact sxd.fz 9 (by omega) (by omega)
  obtain ⟨x10, h10⟩ := sxd.c10
  have g10 : (W1.drew.setCell ⟨sb, 8, none⟩ (vi p)).cell? ⟨sb, 10, none⟩ = some (.float .f64 x10) := by rw [cell_seto _ _ _ _ _ (by omega)]; exact h10
  have f10 : (W1.drew.setCell ⟨sb, 8, none⟩ (vi p)).frozen? ⟨sb, 10, none⟩ = false := by rw [World.frozen?_setCell]; exact sxd.fz 10 (by omega) (by omega)
  have g11 : (W1.drew.setCell ⟨sb, 8, none⟩ (vi p)).cell? ⟨sb, 11, none⟩ = some (.bool false) := by rw [cell_seto _ _ _ _ _ (by omega)]; exact sxd.c11
  have f11 : (W1.drew.setCell ⟨sb, 8, none⟩ (vi p)).frozen? ⟨sb, 11, none⟩ = false := by rw [World.frozen?_setCell]; exact sxd.fz 11 (by omega) (by omega)
  have S4 := hid (fun V hV => set4 (U := W1.drew) (b := sb) (v8 := vi p) (v9 := vi t) (v10 := .float .f64 v) (v11 := .bool true) (by rw [sxd.c8]; rfl) (by rw [sxd.c9]; rfl) (by rw [h10]; rfl) (by rw [sxd.c11]; rfl) V hV)
  refine q_as (fun V => V = W1.drew.setCell ⟨sb, 8, none⟩ (vi p)) rfl ?_
  intro V0 hV0
  rw [← hV0] at c9 f9 g10 f10 g11 f11 S4
  have K0 := hid s0
  clear sxd h10 f8 c8 y0 nS s0 CD F1 hV0
  go_wp2_with (first | ((with_reducible (show wpList _ _ _ (⟨_, .store 24 _ _, _, _, _, _⟩ :: _) _ _)); refine wpList_store_as rfl 24 _ _ rfl rfl sb 10 (.float .f64 v) rfl rfl (store24 _ _ _ _ (by rw [cell_seto _ _ _ _ _ (by omega), g10]; rfl) (by rw [World.frozen?_setCell]; exact f10)) ?_))
  refine bodyPost_ret (results_none Ybaz.results40 _ _ _) rfl ?_
  refine ⟨rfl, ?_⟩
  obtain ⟨fp, e8, e9, e10, e11⟩ := S4.out _ rfl
  obtain ⟨a, b⟩ := SXD.out.set fp e8 e9 e10 e11 HP.out
  exact ⟨_, _, a, (SM.n (SM.calm K0.out)).trans b⟩
end Go.Proofs.YbulkdsjeGreatDoor
