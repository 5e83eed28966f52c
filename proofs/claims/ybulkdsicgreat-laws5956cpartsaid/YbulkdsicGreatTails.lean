import Derived.Test.YbulkdsicGreatPlain
set_option linter.unusedVariables false
set_option linter.unusedSimpArgs false
namespace Go.Proofs.YbulkdsicGreat
open Go.RowKit

/-- The chains' tails, once the first k services are placed; 'd' is what the input says of each. -/
def tl (d : Nat → Nat) : Nat → List Nat
  | 0 => []
  | k + 1 => if d k % ((tl d k).length + 1) = (tl d k).length then tl d k ++ [k] else (tl d k).set (d k % ((tl d k).length + 1)) k
/-- What the service k waits for. -/
def prd (d : Nat → Nat) (k : Nat) : Option Nat := (tl d k)[d k % ((tl d k).length + 1)]?

theorem tl_lt (d : Nat → Nat) : ∀ k j, j ∈ tl d k → j < k
  | 0, j, h => by simp [tl] at h
  | k + 1, j, h => by
    unfold tl at h
    split at h
    · rcases List.mem_append.1 h with h | h
      · have := tl_lt d k j h; omega
      · simp at h; omega
    · rcases List.mem_or_eq_of_mem_set h with h | h
      · have := tl_lt d k j h; omega
      · omega
theorem prd_low (d : Nat → Nat) (m : Nat) : Low m (prd d) := fun i j _ h => tl_lt d i j (List.mem_of_getElem? h)
theorem prd_new {d : Nat → Nat} {k : Nat} (h : d k % ((tl d k).length + 1) = (tl d k).length) : prd d k = none := by
  unfold prd
  rw [h]
  simp
theorem prd_old {d : Nat → Nat} {k : Nat} (h : ¬ d k % ((tl d k).length + 1) = (tl d k).length) : ∃ j, prd d k = some j ∧ (tl d k)[d k % ((tl d k).length + 1)]? = some j := by
  have h1 : d k % ((tl d k).length + 1) < (tl d k).length + 1 := Nat.mod_lt _ (by omega)
  have h2 : d k % ((tl d k).length + 1) < (tl d k).length := by omega
  exact ⟨_, List.getElem?_eq_getElem h2, List.getElem?_eq_getElem h2⟩
theorem tl_inv (d : Nat → Nat) (m : Nat) : ∀ k, k ≤ m → (tl d k).length = rk (prd d) k ∧ (∀ c j, (tl d k)[c]? = some j → rk (prd d) (rt (prd d) m j) = c) ∧ (∀ j, j ∈ tl d k → ∀ i, i < k → prd d i ≠ some j)
  | 0, _ => ⟨rfl, fun c j h => by simp [tl] at h, fun j h => by simp [tl] at h⟩
  | k + 1, hk => by
    obtain ⟨h1, h2, h3⟩ := tl_inv d m k (by omega)
    have hlow := prd_low d m
    have hkm : k < m := by omega
    by_cases hc : d k % ((tl d k).length + 1) = (tl d k).length
    · have hp := prd_new hc
      have et : tl d (k + 1) = tl d k ++ [k] := by conv => lhs; unfold tl; rw [if_pos hc]
      have er : rt (prd d) m k = k := by have := rt_at hlow hkm; rw [hp] at this; exact this
      rw [et]
      refine ⟨by simp [rk, hp, h1], fun c j hj => ?_, fun j hj i hi => ?_⟩
      · rcases Nat.lt_or_ge c (tl d k).length with hl | hl
        · rw [List.getElem?_append_left hl] at hj; exact h2 c j hj
        · rw [List.getElem?_append_right hl] at hj
          have h5 := (List.getElem?_eq_some_iff.1 hj).1
          have hc0 : c - (tl d k).length = 0 := by simp at h5; omega
          rw [hc0] at hj
          simp at hj
          subst hj
          rw [er, ← h1]; omega
      · intro hpi
        rcases List.mem_append.1 hj with hj | hj
        · by_cases e : i = k
          · rw [e, hp] at hpi; cases hpi
          · exact h3 j hj i (by omega) hpi
        · simp at hj
          subst hj
          have := hlow i j (by omega) hpi
          omega
    · obtain ⟨j0, hp, ht⟩ := prd_old hc
      have et : tl d (k + 1) = (tl d k).set (d k % ((tl d k).length + 1)) k := by conv => lhs; unfold tl; rw [if_neg hc]
      have hlt := (List.getElem?_eq_some_iff.1 ht).1
      have er : rt (prd d) m k = rt (prd d) m j0 := by have := rt_at hlow hkm; rw [hp] at this; exact this
      generalize hcc : d k % ((tl d k).length + 1) = c0 at *
      rw [et]
      refine ⟨by simp [rk, hp, h1], fun c j hj => ?_, fun j hj i hi => ?_⟩
      · by_cases e : c0 = c
        · subst e
          rw [List.getElem?_set_self hlt] at hj
          cases hj
          rw [er]; exact h2 _ _ ht
        · rw [List.getElem?_set_ne e] at hj
          exact h2 c j hj
      · intro hpi
        obtain ⟨c, hc'⟩ := List.getElem?_of_mem hj
        by_cases e : c0 = c
        · subst e
          rw [List.getElem?_set_self hlt] at hc'
          cases hc'
          have := hlow i k (by omega) hpi
          omega
        · rw [List.getElem?_set_ne e] at hc'
          by_cases e2 : i = k
          · subst e2
            rw [hp] at hpi
            cases hpi
            have a1 := h2 _ _ hc'
            have a2 := h2 _ _ ht
            omega
          · exact h3 j (List.mem_of_getElem? hc') i (by omega) hpi
theorem prd_inj (d : Nat → Nat) (m : Nat) (i i' j : Nat) (hi : i < m) (hi' : i' < m) (h : prd d i = some j) (h' : prd d i' = some j) : i = i' := by
  rcases Nat.lt_trichotomy i i' with hl | hl | hl
  · exact absurd h ((tl_inv d m i' (by omega)).2.2 j (List.mem_of_getElem? h') i hl)
  · exact hl
  · exact absurd h' ((tl_inv d m i (by omega)).2.2 j (List.mem_of_getElem? h) i' hl)
/-- The chains. -/
theorem chains_new {d : Nat → Nat} {m k : Nat} (hk : k < m) (hc : d k % ((tl d k).length + 1) = (tl d k).length) : groups (prd d) (rt (prd d) m) (k + 1) = groups (prd d) (rt (prd d) m) k ++ [[k]] := by
  rw [(groups_new (prd_low d m) hk (prd_new hc)).2]
  have e : (groups (prd d) (rt (prd d) m) k).length = rk (prd d) k := groups_len (prd_low d m) k
  rw [← e, List.set_append_right _ _ (Nat.le_refl _), Nat.sub_self]
  rfl
theorem chains_old {d : Nat → Nat} {m k : Nat} (hk : k < m) (hc : ¬ d k % ((tl d k).length + 1) = (tl d k).length) : ∃ g, (groups (prd d) (rt (prd d) m) k)[d k % ((tl d k).length + 1)]? = some g ∧
    groups (prd d) (rt (prd d) m) (k + 1) = (groups (prd d) (rt (prd d) m) k).set (d k % ((tl d k).length + 1)) (g ++ [k]) := by
  obtain ⟨j0, hp, ht⟩ := prd_old hc
  have hlow := prd_low d m
  obtain ⟨h1, h2⟩ := groups_old hlow hk hp
  have er : rt (prd d) m k = rt (prd d) m j0 := by have := rt_at hlow hk; rw [hp] at this; exact this
  have ec := (tl_inv d m k (by omega)).2.1 _ _ ht
  rw [← er] at ec
  rw [ec] at h1 h2
  exact ⟨_, groups_at hlow h1, h2⟩
end Go.Proofs.YbulkdsicGreat
