import Derived.Test.YbulkdsmyAdd
namespace Go.Proofs.Ybulkdsmy
open Go.RowKit

/-- A place's cells: the node, its successor, its predecessor. -/
def plc (se su pr : Pr) : List Value := prc se ++ (prc su ++ prc pr)
theorem plc_len (se su pr : Pr) : (plc se su pr).length = 63 := by simp [plc, prc_len]
theorem plc_sz (se su pr : Pr) : (plc se su pr).toArray.size = 63 := by simp [plc_len]
theorem plc_one (se su pr : Pr) : ∀ v ∈ plc se su pr, v.oneCell' = true := by
  intro v hv
  simp only [plc, List.mem_append] at hv
  rcases hv with h | h | h <;> exact prc_one _ v h
theorem size42 : (Yba.prog.info? 42).map (·.size) = some 63 := by kernel_rfl
theorem info42 (se su pr : Pr) : (Yba.prog.info? 42).map (·.size) = some (plc se su pr).length := by rw [plc_len]; exact size42
theorem info42a (se su pr : Pr) : (Yba.prog.info? 42).map (·.size) = some (plc se su pr).toArray.size := by rw [plc_sz]; exact size42
theorem one42 (se su pr : Pr) : (plc se su pr).toArray.all (·.oneCell') = true := all_oneCell_toArray (plc_one _ _ _)
theorem range_app {w : World} {b o : Nat} {xs ys : List Value} (h : w.rangeAt b o (xs ++ ys)) : w.rangeAt b o xs ∧ w.rangeAt b (o + xs.length) ys :=
  ⟨fun j v hv => h j v (by rw [List.getElem?_append_left (List.getElem?_eq_some_iff.1 hv).1]; exact hv),
   fun j v hv => by
    have := h (xs.length + j) v (by rw [List.getElem?_append_right (by omega), show xs.length + j - xs.length = j by omega]; exact hv)
    rwa [show o + (xs.length + j) = o + xs.length + j by omega] at this⟩
theorem range_join {w : World} {b o : Nat} {xs ys : List Value} (h1 : w.rangeAt b o xs) (h2 : w.rangeAt b (o + xs.length) ys) : w.rangeAt b o (xs ++ ys) := fun j v hv => by
  rcases Nat.lt_or_ge j xs.length with hj | hj
  · rw [List.getElem?_append_left hj] at hv
    exact h1 j v hv
  · rw [List.getElem?_append_right hj] at hv
    have := h2 (j - xs.length) v hv
    rwa [show o + xs.length + (j - xs.length) = o + j by omega] at this
theorem plc_parts {w : World} {b : Nat} {se su pr : Pr} (h : w.rangeAt b 0 (plc se su pr)) : w.rangeAt b 0 (prc se) ∧ w.rangeAt b 21 (prc su) ∧ w.rangeAt b 42 (prc pr) := by
  obtain ⟨h1, h2⟩ := range_app h
  rw [prc_len] at h2
  obtain ⟨h3, h4⟩ := range_app h2
  rw [prc_len] at h4
  exact ⟨h1, by simpa using h3, by simpa using h4⟩

theorem bx42 (cs : List Value) (w : World) : Sem.run Yba.prog (Instr.box 42 (.agg cs.toArray)) w = .ok (.pointer (some ⟨w.heap.size, 0, none⟩)) (w.alloc (.cells cs.toArray 42)) := by rfl

set_option maxHeartbeats 1000000 in
theorem place_any (se pr su : Pr) (w : World) :
    Calls Yba.prog 14 #[.agg (prc se).toArray, .agg (prc pr).toArray, .agg (prc su).toArray] w fun e w' =>
      e = .returned (.pointer (some ⟨w.heap.size + 3, 0, none⟩)) ∧ w'.rangeAt (w.heap.size + 3) 0 (plc se su pr) ∧ w'.there (w.heap.size + 3) 0 63 ∧ Below w.heap.size w w' := by
  have r0 : (((w.alloc (.cells (prc se).toArray 31)).alloc (.cells (prc pr).toArray 31)).alloc (.cells (prc su).toArray 31)).rangeAt w.heap.size 0 (prc se) := World.rangeAt_alloc (World.rangeAt_alloc (range_new w _ 31) _) _
  have r1 : (((w.alloc (.cells (prc se).toArray 31)).alloc (.cells (prc pr).toArray 31)).alloc (.cells (prc su).toArray 31)).rangeAt (w.heap.size + 1) 0 (prc pr) := by
    have h := World.rangeAt_alloc (range_new (w.alloc (.cells (prc se).toArray 31)) (prc pr) 31) (.cells (prc su).toArray 31)
    simpa using h
  have r2 : (((w.alloc (.cells (prc se).toArray 31)).alloc (.cells (prc pr).toArray 31)).alloc (.cells (prc su).toArray 31)).rangeAt (w.heap.size + 2) 0 (prc su) := by
    have h := range_new ((w.alloc (.cells (prc se).toArray 31)).alloc (.cells (prc pr).toArray 31)) (prc su) 31
    simpa using h
  have R0 := hid r0
  have R1 := hid r1
  have R2 := hid r2
  clear r0 r1 r2
  go_enter Yba.func14, Yba.ntmps14
  go_wp2_with (first
    | (show wpList _ _ _ (⟨_, .box 31 (.tmp 0), _, _, _, _⟩ :: _) _ _; refine wpList_box_as rfl 31 _ rfl (prc se).toArray rfl (bx31 se) ?_)
    | (show wpList _ _ _ (⟨_, .box 31 (.tmp 1), _, _, _, _⟩ :: _) _ _; refine wpList_box_as rfl 31 _ rfl (prc pr).toArray rfl (bx31 pr) ?_)
    | (show wpList _ _ _ (⟨_, .box 31 (.tmp 2), _, _, _, _⟩ :: _) _ _; refine wpList_box_as rfl 31 _ rfl (prc su).toArray rfl (bx31 su) ?_)
    | (show wpList _ _ _ (⟨_, .load 31 (.tmp 3), _, _, _, _⟩ :: _) _ _; refine wpList_load_mid rfl 31 _ rfl w.heap.size 0 rfl (prc se) _ R0 Yba.underlying31 rfl (info31 _) ?_)
    | (show wpList _ _ _ (⟨_, .load 31 (.tmp 4), _, _, _, _⟩ :: _) _ _; refine wpList_load_mid rfl 31 _ rfl (w.heap.size + 1) 0 rfl (prc pr) _ R1 Yba.underlying31 rfl (info31 _) ?_)
    | (show wpList _ _ _ (⟨_, .load 31 (.tmp 5), _, _, _, _⟩ :: _) _ _; refine wpList_load_mid rfl 31 _ rfl (w.heap.size + 2) 0 rfl (prc su) _ R2 Yba.underlying31 rfl (info31 _) ?_)
    | (show wpList _ _ _ (⟨_, .build 40 _, _, _, _, _⟩ :: _) _ _; refine wpList_buildAs rfl 40 _ rfl (.agg (prc pr).toArray) (fun w => by kernel_rfl) ?_)
    | (show wpList _ _ _ (⟨_, .build 42 _, _, _, _, _⟩ :: _) _ _; refine wpList_buildAs rfl 42 _ rfl (.agg (plc se su pr).toArray) (fun w => by kernel_rfl) ?_)
    | (show wpList _ _ _ (⟨_, .box 42 _, _, _, _, _⟩ :: _) _ _; refine wpList_box_as rfl 42 _ rfl (plc se su pr).toArray rfl (bx42 _) ?_))
  go_ret
  have r := range_new (((w.alloc (.cells (prc se).toArray 31)).alloc (.cells (prc pr).toArray 31)).alloc (.cells (prc su).toArray 31)) (plc se su pr) 42
  have t := there_new (((w.alloc (.cells (prc se).toArray 31)).alloc (.cells (prc pr).toArray 31)).alloc (.cells (prc su).toArray 31)) (plc se su pr) 42
  refine ⟨by simp, by simpa using r, by rw [plc_len] at t; simpa using t, (((((Below.refl _ _).alloc (Nat.le_refl _) _).alloc (by simp) _).alloc (by simp; omega) _).alloc (by simp; omega) _)⟩

end Go.Proofs.Ybulkdsmy
