import Derived.Test.YbulkdsicGreatIter
set_option linter.unusedVariables false
set_option linter.unusedSimpArgs false
namespace Go.Proofs.YbulkdsicGreat
open Go.RowKit

theorem mixed : Ybaz.prog.follows .mixedOrders = true := by kernel_rfl

/-- The roots: a table, and who leads whom. -/
structure Roots (W : World) (K1 K2 m c : Nat) (R : Nat → Nat) : Prop where
  var : W.cell? ⟨K2, 0, none⟩ = some (sl K1 0 m c)
  tab : Tab W K1 0 m (fun k => vi (R k))
  lt : ∀ k, k < m → R k < m
  idem : ∀ k, k < m → R (R k) = R k
  ne : K2 ≠ K1
theorem Roots.kept {W W' : World} {K1 K2 m c : Nat} {R : Nat → Nat} (h : Roots W K1 K2 m c R) (k : Kept (fun b => b = K1) W W') (t : Tab W' K1 0 m (fun k => vi (R k))) : Roots W' K1 K2 m c R :=
  ⟨k.cell (p := ⟨K2, 0, none⟩) h.ne h.var, t, h.lt, h.idem, h.ne⟩

set_option maxRecDepth 100000 in
set_option maxHeartbeats 2000000 in
theorem find_any (K1 K2 m c : Nat) (R : Nat → Nat) (i : Nat) (hi : i < m) (hm : m ≤ 300) (w : World) (h : Roots w K1 K2 m c R) :
    Calls Ybaz.prog 28 #[vi i, .pointer (some ⟨K2, 0, none⟩)] w fun e w' => e = .returned (vi (R i)) ∧ Kept (fun b => b = K1) w w' ∧ Tab w' K1 0 m (fun k => vi (R k)) := by
  have h0 := h.var
  have ci : w.cell? ⟨K1, i, none⟩ = some (vi (R i)) := by simpa using h.tab.cell hi
  have hri := h.lt i hi
  by_cases e : R i = i
  · rw [e] at ci
    have T := hid h.tab
    clear h
    go_enter Ybaz.func28, Ybaz.ntmps28
    go_wp2
    refine wp_loop_rounds 1 ?_
    rw [rounds_succ]
    go_wp2
    go_ret
    exact ⟨by rw [e]; rfl, Kept.refl _ _, T.out⟩
  · have cr : w.cell? ⟨K1, R i, none⟩ = some (vi (R i)) := by have := h.tab.cell hri; rw [h.idem i hi] at this; simpa using this
    have fi : w.frozen? ⟨K1, i, none⟩ = false := by simpa using h.tab.free hi
    have T := hid h.tab
    have I := hid (h.idem i hi)
    have hne := h.ne
    clear h
    have e' : ¬ ((R i : Int) = (i : Int)) := fun he => e (by omega)
    go_enter Ybaz.func28, Ybaz.ntmps28
    go_wp2
    refine wp_loop_rounds 2 ?_
    rw [rounds_succ]
    go_wp2
    refine wp_region_quiet_tail 9 (fun w' => ∃ nq, w' = w.drewN nq) mixed (by kernel_rfl) ⟨1, rfl⟩ ?_
    dsimp only [List.take, List.drop]
    repeat go_big_quiet_step (fail)
    refine wpQuiet_nil ?_
    rintro _ ⟨nq, rfl⟩
    go_wp2
    have cr' : ((w.drewN nq).setCell ⟨K1, i, none⟩ (.int .i64 (R i))).cell? ⟨K1, R i, none⟩ = some (vi (R i)) := by
      rw [World.cell?_setCell_other _ _ _ _ (fun he => e (by have h0 := congrArg Addr.off he; simp at h0; exact h0.symm))]
      simpa using cr
    have c0' : ((w.drewN nq).setCell ⟨K1, i, none⟩ (.int .i64 (R i))).cell? ⟨K2, 0, none⟩ = some (sl K1 0 m c) := by
      rw [World.cell?_setCell_other _ _ _ _ (fun he => hne (by cases he; rfl))]
      simpa using h0
    rw [rounds_succ]
    go_wp2
    go_ret
    refine ⟨rfl, ?_, ?_⟩
    · have kq : Kept (fun b => b = K1) w (w.drewN nq) := ⟨rfl, rfl, rfl, Nat.le_refl _, fun _ _ _ => rfl⟩
      exact kq.setCell (p := ⟨K1, i, none⟩) (.inl rfl) _
    · have t1 : Tab (w.drewN nq) K1 0 m (fun k => vi (R k)) := T.out
      have t2 := t1.set hi (vi (R i))
      rw [Nat.zero_add] at t2
      refine t2.ext fun j _ => ?_
      by_cases hj : j = i
      · rw [if_pos hj, hj]
      · rw [if_neg hj]
end Go.Proofs.YbulkdsicGreat
