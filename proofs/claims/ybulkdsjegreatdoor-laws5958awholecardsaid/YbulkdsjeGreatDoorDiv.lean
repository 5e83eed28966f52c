import Derived.Test.YbulkdsjeGreatDoorFin
set_option linter.unusedVariables false
set_option linter.unusedSimpArgs false
namespace Go.Proofs.YbulkdsjeGreatDoor
open Go.RowKit

set_option maxRecDepth 100000 in
set_option maxHeartbeats 4000000 in
theorem floorDiv_any (a b : Int) (w : World) (ha : -4611686018427387904 < a ∧ a < 4611686018427387904) (hb : 0 < b) (hb2 : b < 4611686018427387904) : Calls Ybaz.prog 93 #[.int .i64 a, .int .i64 b] w fun e w' => e = .returned (.int .i64 (a / b)) ∧ w' = w := by
  have hb0 : ¬ b = 0 := by omega
  have hbe : (b == 0) = false := by simpa using hb0
  obtain ⟨q, hq⟩ : ∃ q, a.tdiv b = q := ⟨_, rfl⟩
  obtain ⟨r, hr⟩ : ∃ r, a.tmod b = r := ⟨_, rfl⟩
  have e1 : b * q + r = a := by rw [← hq, ← hr]; exact Int.mul_tdiv_add_tmod a b
  have r1 : r.natAbs < b.natAbs := by rw [← hr, Int.natAbs_tmod]; exact Nat.mod_lt _ (by omega)
  have r2 : 0 ≤ a → 0 ≤ r := fun h => by rw [← hr]; exact Int.tmod_nonneg _ h
  have r3 : a < 0 → r ≤ 0 := fun h => by
    have : 0 ≤ (-a).tmod b := Int.tmod_nonneg _ (by omega)
    rw [Int.neg_tmod, hr] at this
    omega
  have qb : q.natAbs ≤ a.natAbs := by rw [← hq, Int.natAbs_tdiv]; exact Nat.div_le_self _ _
  have D : ∀ z s : Int, b * z + s = a → 0 ≤ s → s < b → a / b = z := fun z s h h0 h1 => by
    rw [← h, Int.add_comm, Int.mul_comm b z, Int.add_mul_ediv_right _ _ hb0, Int.ediv_eq_zero_of_lt h0 h1]
    omega
  have H : Hid ((∀ z s : Int, b * z + s = a → 0 ≤ s → s < b → a / b = z) ∧ b * q + r = a ∧ r.natAbs < b.natAbs) := hid ⟨D, e1, r1⟩
  clear D e1
  by_cases h0 : r = 0
  · subst h0
    go_enter Ybaz.func93, Ybaz.ntmps93
    go_wp2
    go_ret
    refine ⟨?_, rfl⟩
    rw [H.out.1 q 0 H.out.2.1 (by omega) hb]
    rfl
  · by_cases hn : a < 0
    · go_enter Ybaz.func93, Ybaz.ntmps93
      go_wp2
      go_ret
      refine ⟨?_, rfl⟩
      have := H.out.2.2
      have e1 := H.out.2.1
      rw [H.out.1 (q - 1) (r + b) (by rw [Int.mul_sub]; omega) (by omega) (by have := r3 hn; omega)]
      rfl
    · go_enter Ybaz.func93, Ybaz.ntmps93
      go_wp2
      go_ret
      refine ⟨?_, rfl⟩
      have := H.out.2.2
      rw [H.out.1 q r H.out.2.1 (r2 (by omega)) (by have := r2 (by omega); omega)]
      rfl

set_option maxRecDepth 100000 in
set_option maxHeartbeats 4000000 in
theorem ceilDiv_any (a b : Int) (w : World) (ha : -4611686018427387904 < a ∧ a < 4611686018427387904) (hb : 0 < b) (hb2 : b < 4611686018427387904) : Calls Ybaz.prog 72 #[.int .i64 a, .int .i64 b] w fun e w' => e = .returned (.int .i64 (-((-a) / b))) ∧ w' = w := by
  have FD := hid (floorDiv_any (-a) b w (by omega) hb hb2)
  have hq : -4611686018427387904 < (-a) / b ∧ (-a) / b < 4611686018427387904 := by
    constructor
    · rw [Int.lt_iff_add_one_le, Int.le_ediv_iff_mul_le hb]
      omega
    · rw [Int.ediv_lt_iff_lt_mul hb]
      omega
  go_enter Ybaz.func72, Ybaz.ntmps72
  go_wp2_with (go_at_call 93; refine FD.out.mono ?_; rintro e W1 ⟨rfl, rfl⟩)
  go_ret
  exact ⟨rfl, rfl⟩
end Go.Proofs.YbulkdsjeGreatDoor
