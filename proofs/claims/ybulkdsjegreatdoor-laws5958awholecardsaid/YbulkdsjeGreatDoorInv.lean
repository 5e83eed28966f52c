/-
  A REGION THAT DRAWS ITS ORDER, BY AN INVARIANT OVER WHAT IS LISTED: J holds at the start; whichever operation comes up leads from J to J with it listed; where none may come up, Q. (For regions in which several allocations may come in any order.)
-/
import Derived.Test.YbulkdsjeGreatDoorPlan
namespace Go
section
variable {P : Program} {ops : Array Oper} {md : Region.Mode} {Q : Exit → Act → World → Prop}

def unlisted (listed : Array Bool) : Nat := listed.toList.countP (fun b => !b)
theorem unlisted_set {listed : Array Bool} {i : Nat} (h : listed.getD i true = false) : unlisted (listed.setIfInBounds i true) + 1 = unlisted listed := by
  have hi : i < listed.size := by
    rcases Nat.lt_or_ge i listed.size with h1 | h1
    · exact h1
    · rw [Array.getD_eq_getD_getElem?, Array.getElem?_eq_none h1] at h; cases h
  have hv : listed[i] = false := by
    rw [Array.getD_eq_getD_getElem?, Array.getElem?_eq_getElem hi] at h; exact h
  unfold unlisted
  rw [Array.toList_setIfInBounds, List.countP_set (by simpa using hi)]
  have hv' : listed.toList[i]'(by simpa using hi) = false := by simpa using hv
  have hpos : 0 < listed.toList.countP (fun b => !b) := List.countP_pos_iff.2 ⟨false, by rw [← hv']; exact List.getElem_mem _, rfl⟩
  rw [hv']
  generalize List.countP (fun b => !b) listed.toList = c at *
  simp only [Bool.not_false, Bool.not_true, if_true, Bool.false_eq_true, if_false]
  omega
theorem ready_nil {listed : Array Bool} (h : unlisted listed = 0) : Region.ready md ops listed = [] := by
  refine List.eq_nil_iff_forall_not_mem.2 fun i hi => ?_
  have := unlisted_set (mem_ready.1 hi).1
  omega
theorem wpAny_inv (J : Array Bool → Act → World → Prop) (hstep : ∀ listed a w, J listed a w → ∀ i ∈ Region.ready md ops listed, wpOp P ops Q i (J (listed.setIfInBounds i true)) a w)
    (hend : ∀ listed a w, J listed a w → Region.ready md ops listed = [] → Q .normal a w) :
    ∀ (f : Nat) (listed : Array Bool) (a : Act) (w : World), unlisted listed ≤ f → J listed a w → wpAny P md ops Q f listed a w
  | 0, listed, a, w, hf, h => ⟨ready_nil (by omega), hend _ _ _ h (ready_nil (by omega))⟩
  | f + 1, listed, a, w, hf, h => ⟨hend _ _ _ h, fun i hi => wpOp_mono (fun a' w' h' => wpAny_inv J hstep hend f _ a' w' (by have := unlisted_set (mem_ready.1 hi).1; omega) h') (hstep _ _ _ h i hi)⟩
theorem wp_region_inv {id : Nat} {a : Act} {w : World} (hm : P.follows .mixedOrders = true) (J : Array Bool → Act → World → Prop) (h0 : J (Array.replicate ops.size false) a w.drew)
    (hstep : ∀ listed a w, J listed a w → ∀ i ∈ Region.ready .any ops listed, wpOp P ops Q i (J (listed.setIfInBounds i true)) a w)
    (hend : ∀ listed a w, J listed a w → Region.ready .any ops listed = [] → Q .normal a w) : (Code.region id ops true).wp P Q a w :=
  wp_region_any hm (wpAny_inv J hstep hend _ _ _ _ (by unfold unlisted; have := List.countP_le_length (p := fun b : Bool => !b) (l := (Array.replicate ops.size false).toList); simpa using this) h0)
end
end Go
