import Derived.Test.YbulkdsjeGreatDoorMd7
import Derived.Test.YbulkdsjeGreatDoorPu
set_option linter.unusedVariables false
set_option linter.unusedSimpArgs false
namespace Go.Proofs.YbulkdsjeGreatDoor
open Go.RowKit

/-- The model's zero. -/
def z89f (j : Nat) : Value := if j = 0 ∨ j = 180 then .pointer none else if j = 4 ∨ j = 5 ∨ j = 79 ∨ j = 81 ∨ j = 82 ∨ j = 115 then .int .i64 0 else if j = 6 ∨ j = 80 ∨ (83 ≤ j ∧ j < 115) then .int .u64 0 else .int .i16 0
set_option maxRecDepth 1000000
theorem zc89 : Ybaz.zeroCells89 = ((List.range 466).map z89f).toArray := by kernel_rfl
theorem UM.calm {U V : World} {a b n : Nat} (h : UM U a b n) (hn : 0 < n) (k : Kept (fun _ => False) U V) : UM V a b n := h.pu (PU.kept k (fun h => h) (World.block_lt_of_cell? U _ h.len)) (PU.kept k (fun h => h) (h.pl.lt (by omega)))
/-- What newSeriesModel leaves. -/
def NmP (w : World) (e : Ending) (w' : World) : Prop := ∃ l2 mb, e = .returned (.pointer (some ⟨mb, 0, none⟩)) ∧ w.heap.size + 1 < l2 ∧ l2 + 1 < mb ∧ mb < w'.heap.size ∧ (∀ Eb, MD w' ⟨Eb, mb, w.heap.size + 1, w.heap.size, l2 + 1, l2⟩) ∧ Kept (fun _ => False) w w'
theorem md_new (W : World) (Eb u1 l1 u2 l2 : Nat) (m1 : UM W u1 l1 8) (m2 : UM W u2 l2 18) : MD (W.alloc (.cells ((Ybaz.zeroCells89.setIfInBounds 0 (.pointer (some ⟨u1, 0, none⟩))).setIfInBounds 180 (.pointer (some ⟨u2, 0, none⟩))) 89)) ⟨Eb, W.heap.size, u1, l1, u2, l2⟩ := by
  have k : Kept (fun _ => False) W (W.alloc (.cells ((Ybaz.zeroCells89.setIfInBounds 0 (.pointer (some ⟨u1, 0, none⟩))).setIfInBounds 180 (.pointer (some ⟨u2, 0, none⟩))) 89)) := (Kept.refl _ W).alloc _
  have sz : Ybaz.zeroCells89.size = 466 := by rw [zc89]; simp
  have gz : ∀ j, j < 466 → Ybaz.zeroCells89[j]? = some (z89f j) := fun j hj => by
    rw [zc89, List.getElem?_toArray, List.getElem?_map, List.getElem?_range hj, Option.map_some]
  obtain ⟨Z, hZ⟩ : ∃ Z, (Ybaz.zeroCells89.setIfInBounds 0 (.pointer (some ⟨u1, 0, none⟩))).setIfInBounds 180 (.pointer (some ⟨u2, 0, none⟩)) = Z := ⟨_, rfl⟩
  have g0 : Z[0]? = some (.pointer (some ⟨u1, 0, none⟩)) := by
    rw [← hZ, Array.getElem?_setIfInBounds_ne (by omega), Array.getElem?_setIfInBounds_self_of_lt (by omega)]
  have g180 : Z[180]? = some (.pointer (some ⟨u2, 0, none⟩)) := by
    rw [← hZ, Array.getElem?_setIfInBounds_self_of_lt (by simp [sz])]
  have gj : ∀ j, j < 466 → j ≠ 0 → j ≠ 180 → Z[j]? = some (z89f j) := fun j hj h0 h1 => by
    rw [← hZ, Array.getElem?_setIfInBounds_ne (Ne.symm h1), Array.getElem?_setIfInBounds_ne (Ne.symm h0)]
    exact gz j hj
  rw [hZ] at k ⊢
  have hb := World.alloc_heap_new W (.cells Z 89)
  have ce : ∀ j, (W.alloc (.cells Z 89)).cell? ⟨W.heap.size, j, none⟩ = Z[j]? := fun j => by
    unfold World.cell?
    simp only [hb]
    rfl
  have zs : Z.size = 466 := by rw [← hZ]; simp [sz]
  have fr : ∀ j, j < 466 → (W.alloc (.cells Z 89)).frozen? ⟨W.heap.size, j, none⟩ = false := fun j hj => (th_block hb zs j hj).2
  have pz : ∀ o N, (∀ j, j < N → o + j < 466 ∧ o + j ≠ 0 ∧ o + j ≠ 180 ∧ z89f (o + j) = .int .i16 0) → PA (W.alloc (.cells Z 89)) W.heap.size o N := fun o N h => pa_block hb (fun j hj => by
    obtain ⟨a, b, c, e⟩ := h j hj
    rw [gj _ a b c, e])
  have zi : ∀ j, ¬ (j = 0 ∨ j = 180) → ¬ (j = 4 ∨ j = 5 ∨ j = 79 ∨ j = 81 ∨ j = 82 ∨ j = 115) → ¬ (j = 6 ∨ j = 80 ∨ (83 ≤ j ∧ j < 115)) → z89f j = .int .i16 0 := fun j a b c => by
    unfold z89f
    rw [if_neg a, if_neg b, if_neg c]
  refine ⟨fun j hj => fr j hj, by rw [ce]; exact g0, by rw [ce]; exact g180, pz _ _ (fun j hj => ⟨by omega, by omega, by omega, zi _ (by omega) (by omega) (by omega)⟩), pz _ _ (fun j hj => ⟨by omega, by omega, by omega, zi _ (by omega) (by omega) (by omega)⟩), pz _ _ (fun j hj => ⟨by omega, by omega, by omega, zi _ (by omega) (by omega) (by omega)⟩), pz _ _ (fun j hj => ⟨by omega, by omega, by omega, zi _ (by omega) (by omega) (by omega)⟩), pz _ _ (fun j hj => ⟨by omega, by omega, by omega, zi _ (by omega) (by omega) (by omega)⟩), fun j hj => ⟨z89f j, by rw [ce]; exact gj j (by omega) (by omega) (by omega), ?_⟩, m1.calm (by omega) k, m2.calm (by omega) k⟩
  unfold MOk z89f
  rw [if_neg (show ¬ (j = 0 ∨ j = 180) by omega)]
  by_cases h1 : j = 4 ∨ j = 5 ∨ j = 81
  · rw [if_pos h1, if_pos (by omega)]
    exact ⟨0, rfl⟩
  · rw [if_neg h1]
    by_cases h2 : j = 6
    · rw [if_pos h2, if_neg (by omega), if_pos (by omega)]
      exact ⟨0, by omega, rfl⟩
    · rw [if_neg h2]
      by_cases h3 : j = 79
      · rw [if_pos h3, if_pos (by omega)]
        exact ⟨0, by omega, rfl⟩
      · rw [if_neg h3]
        by_cases h4 : j = 82
        · rw [if_pos h4, if_pos (by omega)]
          exact ⟨0, by omega, rfl⟩
        · rw [if_neg h4]
          by_cases h5 : j = 115
          · rw [if_pos h5, if_pos (by omega)]
            exact ⟨0, by omega, rfl⟩
          · rw [if_neg h5, if_neg (by omega), if_pos (by omega)]
            exact ⟨0, rfl⟩

set_option maxRecDepth 100000 in
set_option maxHeartbeats 4000000 in
theorem newModel_any (w : World) : Calls Ybaz.prog 23 #[] w fun e w' => NmP w e w' := by
  have N1 := hid (newUint_any 8 (by omega) w)
  have N2 := hid (fun W => newUint_any 18 (by omega) W)
  go_enter Ybaz.func23, Ybaz.ntmps23
  go_wp2_with (first | (go_at_call 42; refine N1.out.mono ?_; rintro e W1 ⟨rfl, u1, k1⟩; have U1 := hid u1; have K1 := hid k1; clear u1 k1 N1) | (go_at_call 42; refine (N2.out _).mono ?_; rintro e W2 ⟨rfl, u2, k2⟩; have U2 := hid u2; have K2 := hid k2; clear u2 k2 N2))
  go_ret
  have l1 := World.block_lt_of_cell? W1 _ U1.out.len
  have l2 := World.block_lt_of_cell? W2 _ U2.out.len
  simp only at l1 l2
  refine ⟨W1.heap.size, W2.heap.size, rfl, by omega, by omega, by rw [World.size_alloc]; omega, fun Eb => md_new W2 Eb _ _ _ _ (U1.out.calm (by omega) K2.out) U2.out, (K1.out.trans K2.out).alloc _⟩
end Go.Proofs.YbulkdsjeGreatDoor
