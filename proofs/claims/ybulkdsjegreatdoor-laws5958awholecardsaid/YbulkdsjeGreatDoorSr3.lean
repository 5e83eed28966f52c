import Derived.Test.YbulkdsjeGreatDoorSr2
set_option linter.unusedVariables false
set_option linter.unusedSimpArgs false
namespace Go.Proofs.YbulkdsjeGreatDoor
open Go.RowKit

theorem cmpI_lt (x y : Int) : (cmpI x y < 0) = (x < y) := by
  unfold cmpI
  apply propext
  split
  · simp [*]
  · split <;> simp <;> omega
theorem cmpI_eq (x y : Int) : (cmpI x y == 0) = decide (x = y) := by
  unfold cmpI
  split
  · rw [decide_eq_false (by omega)]; rfl
  · split
    · rw [decide_eq_false (by omega)]; rfl
    · rw [decide_eq_true (by omega)]; rfl
/-- What a binary search gives. -/
def BsP (U : World) (N : Nat) (X : Nat → Int) (ms : Int) (e : Ending) (w' : World) : Prop := ∃ k fd, e = .returned (.tuple #[vi k, .bool fd]) ∧ k ≤ N ∧ (fd = true → k < N) ∧ (∀ t, t ≤ N → (∀ q, q < t → X q < ms) → (∀ q, t ≤ q → q < N → ms ≤ X q) → k = t) ∧ (k < N → X k = ms → fd = true) ∧ Kept (fun _ => False) U w'
/-- The loop. -/
def BsL (U : World) (N : Nat) (X : Nat → Int) (ms : Int) (a b : Nat) (W : World) : Prop := a ≤ b ∧ b ≤ N ∧ (∀ t, t ≤ N → (∀ q, q < t → X q < ms) → (∀ q, t ≤ q → q < N → ms ≤ X q) → a ≤ t ∧ t ≤ b) ∧ Kept (fun _ => False) U W
theorem BsL.left {U W W' : World} {N a b h : Nat} {X : Nat → Int} {ms : Int} (l : BsL U N X ms a b W) (ha : a ≤ h) (hb : h < b) (hx : X h < ms) (k : Kept (fun _ => False) U W') : BsL U N X ms (h + 1) b W' := by
  obtain ⟨l1, l2, l3, _⟩ := l
  refine ⟨by omega, l2, fun t ht h1 h2 => ?_, k⟩
  obtain ⟨r1, r2⟩ := l3 t ht h1 h2
  refine ⟨?_, r2⟩
  by_cases e : t ≤ h
  · have := h2 h e (by omega)
    omega
  · omega
theorem BsL.right {U W W' : World} {N a b h : Nat} {X : Nat → Int} {ms : Int} (l : BsL U N X ms a b W) (ha : a ≤ h) (hb : h < b) (hx : ¬ X h < ms) (k : Kept (fun _ => False) U W') : BsL U N X ms a h W' := by
  obtain ⟨l1, l2, l3, _⟩ := l
  refine ⟨by omega, by omega, fun t ht h1 h2 => ?_, k⟩
  obtain ⟨r1, r2⟩ := l3 t ht h1 h2
  refine ⟨r1, ?_⟩
  by_cases e : h < t
  · have := h1 h e
    omega
  · omega
end Go.Proofs.YbulkdsjeGreatDoor
