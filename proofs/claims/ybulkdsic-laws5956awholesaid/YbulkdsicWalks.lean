/-
  THE WALKS OF THE TWO CALLEES: 'choice' (4) and the model (5): each computes 'md zs 0 0'.
-/
import Derived.Test.YbulkdsicRows
import Derived.Test.YbulkdsicPlain
import Derived.WalkKit
import Derived.ProofKit
import Derived.Below
namespace Go.Proofs.Ybulkdsic
open Go.RowKit

theorem ret_int {k : IntKind} {a b : Int} (h : a = b) : Ending.returned (.int k a) = .returned (.int k b) := by rw [h]

set_option maxHeartbeats 400000 in
theorem choice_nil (w : World) :
    Calls Yba.prog 4 #[.agg #[.slice none 0 0, .slice none 0 0, .slice none 0 0]] w fun e w' => e = .returned (.int .i64 (-1)) ∧ Below w.heap.size w w' := by
  go_enter Yba.func4, Yba.ntmps4
  go_wp2
  refine wp_loop_rounds 1 ?_
  rw [rounds_succ]
  go_wp2
  go_ret
  exact ⟨rfl, (Below.refl _ _).alloc (Nat.le_refl _) _⟩

set_option maxHeartbeats 400000 in
theorem choice_any (b n cap : Nat) (zs : List Int) (w : World) (hzl : zs.length = n) (hn : n ≤ 1048576) (hz : ∀ j, 0 ≤ zs.getD j 0 ∧ zs.getD j 0 ≤ 255) (hb : b < w.heap.size)
    (hc : ∀ j, j < n → w.cell? ⟨b, j, none⟩ = some (.int .i64 (zs.getD j 0))) :
    Calls Yba.prog 4 #[.agg #[.slice none 0 0, .slice (some ⟨b, 0, none⟩) n cap, .slice none 0 0]] w fun e w' => e = .returned (.int .i64 (md zs 0 0)) ∧ Below w.heap.size w w' := by
  have H0 : Hid (md zs 0 0 = md (zs.drop 0) 0 0) := rfl
  have HZ : Hid (zs.length = n) := hzl
  clear hzl
  have HC : Hid (∀ j, j < n → w.cell? ⟨b, j, none⟩ = some (.int .i64 (zs.getD j 0))) := hc
  have HN : Hid (∀ j, 0 ≤ zs.getD j 0 ∧ zs.getD j 0 ≤ 255) := hz
  clear hc hz
  generalize md zs 0 0 = R at *
  go_enter Yba.func4, Yba.ntmps4
  go_wp2
  go_loop [3] (fun r => ∃ k : Nat, k ≤ n + 256 ∧ r = .int .i64 k ∧ Hid (R = md (zs.drop k) 0 k)) (fun r => n + 256 - (intOf r).toNat)
  case atStart => exact ⟨0, by omega, rfl, H0⟩
  case round =>
    obtain ⟨k, hk, rfl, HR⟩ := hrel
    by_cases hlt : k < n
    · obtain ⟨z, hzz⟩ : ∃ z, z = zs.getD k 0 := ⟨_, rfl⟩
      have hz0 : 0 ≤ z := by rw [hzz]; exact (HN.out k).1
      have hz1 : z ≤ 255 := by rw [hzz]; exact (HN.out k).2
      have hcell : w.cell? ⟨b, k, none⟩ = some (.int .i64 z) := by rw [hzz]; exact HC.out k hlt
      have HZZ : Hid (z = zs.getD k 0) := hzz
      clear hzz
      by_cases h1 : 1 < z
      · go_wp2
        go_ret
        exact ⟨ret_int (by rw [HR.out, md_hit zs k (by rw [HZ.out]; exact hlt) (by rw [← HZZ.out]; exact h1)]), (Below.refl _ _).alloc (Nat.le_refl _) _⟩
      · go_wp2
        go_round
        case rel =>
          refine ⟨k + 1 + z.toNat, by omega, ?_, ?_⟩
          · exact congrArg (Value.int .i64) (by omega)
          · show R = _
            rw [HR.out, md_jump zs k (by rw [HZ.out]; exact hlt) (by rw [← HZZ.out]; exact h1), ← HZZ.out]
        case measure => simp [intOf]; omega
    · go_wp2
      go_ret
      exact ⟨ret_int (by rw [HR.out, md_end zs 0 k (by rw [HZ.out]; omega)]), (Below.refl _ _).alloc (Nat.le_refl _) _⟩

set_option maxHeartbeats 400000 in
theorem model_nil (w : World) :
    Calls Yba.prog 5 #[.slice none 0 0] w fun e w' => e = .returned (.int .i64 (-1)) ∧ w' = w := by
  go_enter Yba.func5, Yba.ntmps5
  go_wp2
  refine wp_loop_rounds 1 ?_
  rw [rounds_succ]
  go_wp2
  go_ret
  exact ⟨rfl, rfl⟩

set_option maxHeartbeats 400000 in
theorem model_any (b n cap : Nat) (zs : List Int) (w : World) (hzl : zs.length = n) (hn : n ≤ 1048576) (hz : ∀ j, 0 ≤ zs.getD j 0 ∧ zs.getD j 0 ≤ 255)
    (hc : ∀ j, j < n → w.cell? ⟨b, j, none⟩ = some (.int .i64 (zs.getD j 0))) :
    Calls Yba.prog 5 #[.slice (some ⟨b, 0, none⟩) n cap] w fun e w' => e = .returned (.int .i64 (md zs 0 0)) ∧ w' = w := by
  have H0 : Hid (md zs 0 0 = md (zs.drop 0) 0 0) := rfl
  have HZ : Hid (zs.length = n) := hzl
  clear hzl
  have HC : Hid (∀ j, j < n → w.cell? ⟨b, j, none⟩ = some (.int .i64 (zs.getD j 0))) := hc
  have HN : Hid (∀ j, 0 ≤ zs.getD j 0 ∧ zs.getD j 0 ≤ 255) := hz
  clear hc hz
  generalize md zs 0 0 = R at *
  go_enter Yba.func5, Yba.ntmps5
  go_wp2
  go_loop [3, 4] (fun x r => ∃ k s : Nat, k ≤ n ∧ s ≤ 256 ∧ r = .int .i64 k ∧ x = .int .i64 ((k : Int) + s) ∧ Hid (R = md (zs.drop k) s k)) (fun _ r => n - (intOf r).toNat)
  case atStart => exact ⟨0, 0, by omega, by omega, rfl, rfl, H0⟩
  case round =>
    obtain ⟨k, s, hk, hs, rfl, rfl, HR⟩ := hrel
    by_cases hlt : k < n
    · obtain ⟨z, hzz⟩ : ∃ z, z = zs.getD k 0 := ⟨_, rfl⟩
      have hz0 : 0 ≤ z := by rw [hzz]; exact (HN.out k).1
      have hz1 : z ≤ 255 := by rw [hzz]; exact (HN.out k).2
      have hcell : w.cell? ⟨b, k, none⟩ = some (.int .i64 z) := by rw [hzz]; exact HC.out k hlt
      have HZZ : Hid (z = zs.getD k 0) := hzz
      clear hzz
      have hlz : k < zs.length := by rw [HZ.out]; exact hlt
      have HLZ : Hid (k < zs.length) := hlz
      clear hlz
      rcases Nat.eq_zero_or_pos s with hs0 | hs0
      · subst hs0
        by_cases h1 : 1 < z
        · go_wp2
          go_ret
          exact ⟨ret_int (by rw [HR.out, md_hit zs k HLZ.out (by rw [← HZZ.out]; exact h1)]), rfl⟩
        · go_wp2
          go_round
          case rel =>
            refine ⟨k + 1, z.toNat, by omega, by omega, ?_, ?_, ?_⟩
            · go_num
            · exact congrArg (Value.int .i64) (by omega)
            · show R = _
              rw [HR.out, md_step zs k HLZ.out (by rw [← HZZ.out]; exact h1), ← HZZ.out]
          case measure => simp [intOf]; omega
      · go_wp2
        go_round
        case rel =>
          obtain ⟨t, rfl⟩ : ∃ t, s = t + 1 := ⟨s - 1, by omega⟩
          refine ⟨k + 1, t, by omega, by omega, ?_, ?_, ?_⟩
          · go_num
          · exact congrArg (Value.int .i64) (by omega)
          · show R = _
            rw [HR.out, md_wait zs t k HLZ.out]
        case measure => simp [intOf]; omega
    · go_wp2
      go_ret
      exact ⟨ret_int (by rw [HR.out, md_end zs s k (by rw [HZ.out]; omega)]), rfl⟩

end Go.Proofs.Ybulkdsic
