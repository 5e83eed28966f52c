import Derived.Test.YbulkdsjeGreatDoorFlo
set_option linter.unusedVariables false
set_option linter.unusedSimpArgs false
namespace Go.Proofs.YbulkdsjeGreatDoor
open Go.RowKit

set_option maxRecDepth 100000 in
set_option maxHeartbeats 4000000 in
theorem isInf_any (x : Nat) (w : World) : Calls Ybaz.prog 18 #[.float .f64 x, vi 0] w fun e w' => RB e ∧ w' = w := by
  go_enter Ybaz.func18, Ybaz.ntmps18
  go_wp2_with (first | (go_at_call 38; refine (abs_any _ _).mono ?_; rintro e W1 ⟨⟨fr, rfl⟩, rfl⟩) | ((with_reducible (show wpList _ _ _ (⟨_, .binOp .gtr 24 _ _ _, _, _, _, _⟩ :: _) _ _)); refine wpList_fcmp rfl .gtr rfl 24 _ _ _ rfl _ _ rfl rfl ?_; intro fb; simp only [Act.put, List.setIfInBounds_toArray, List.set_cons_succ, List.set_cons_zero]))
  go_ret
  exact ⟨⟨fb, rfl⟩, rfl⟩

set_option maxRecDepth 100000 in
set_option maxHeartbeats 4000000 in
theorem inf_any (s : Int) (w : World) : Calls Ybaz.prog 47 #[.int .i64 s] w fun e w' => RF e ∧ w' = w := by
  have b65 := f64from
  by_cases hs : 0 ≤ s
  · go_enter Ybaz.func47, Ybaz.ntmps47
    go_wp2
    go_ret
    exact ⟨⟨_, rfl⟩, rfl⟩
  · go_enter Ybaz.func47, Ybaz.ntmps47
    go_wp2
    go_ret
    exact ⟨⟨_, rfl⟩, rfl⟩

set_option maxRecDepth 100000 in
set_option maxHeartbeats 4000000 in
theorem copysign_any (x y : Nat) (w : World) : Calls Ybaz.prog 104 #[.float .f64 x, .float .f64 y] w fun e w' => RF e ∧ w' = w := by
  have b7 := f64bits
  have b65 := f64from
  go_enter Ybaz.func104, Ybaz.ntmps104
  go_wp2
  go_ret
  exact ⟨⟨_, rfl⟩, rfl⟩

set_option maxRecDepth 100000 in
set_option maxHeartbeats 4000000 in
theorem mean_any (x y : Nat) (n : Int) (w : World) : Calls Ybaz.prog 114 #[.float .f64 x, .int .i64 n, .float .f64 y] w fun e w' => RF e ∧ Dr w w' := by
  go_enter Ybaz.func114, Ybaz.ntmps114
  go_wp2_with (first | ((with_reducible (show wpList _ _ _ (⟨_, .binOp .mul 24 _ _ _, _, _, _, _⟩ :: _) _ _)); refine wpList_fl rfl .mul rfl 24 _ _ _ rfl _ _ rfl rfl ?_; intro fr fn; simp only [Act.put, List.setIfInBounds_toArray, List.set_cons_succ, List.set_cons_zero]) | ((with_reducible (show wpList _ _ _ (⟨_, .binOp .quo 24 _ _ _, _, _, _, _⟩ :: _) _ _)); refine wpList_fl rfl .quo rfl 24 _ _ _ rfl _ _ rfl rfl ?_; intro fr fn; simp only [Act.put, List.setIfInBounds_toArray, List.set_cons_succ, List.set_cons_zero]))
  go_ret
  exact ⟨⟨_, rfl⟩, ((Dr.refl w).drewN _).drewN _⟩

set_option maxRecDepth 100000 in
set_option maxHeartbeats 4000000 in
theorem abs1 (w : World) : Calls Ybaz.prog 38 #[.float .f64 4607182418800017408] w fun e w' => e = .returned (.float .f64 4607182418800017408) ∧ w' = w := by
  have b7 := f64bits
  have b65 := f64from
  go_enter Ybaz.func38, Ybaz.ntmps38
  go_wp2
  go_ret
  exact ⟨by kernel_rfl, rfl⟩

set_option maxRecDepth 100000 in
set_option maxHeartbeats 4000000 in
theorem normalize1 (w : World) : Calls Ybaz.prog 103 #[.float .f64 4607182418800017408] w fun e w' => e = .returned (.tuple #[.float .f64 4607182418800017408, vi 0]) ∧ w' = w := by
  go_enter Ybaz.func103, Ybaz.ntmps103
  go_wp2_with (first | (go_at_call 38; refine (abs1 _).mono ?_; rintro e W1 ⟨rfl, rfl⟩) | ((with_reducible (show wpList _ _ _ (⟨_, .binOp .lss 24 _ _ _, _, _, _, _⟩ :: _) _ _)); refine wpList_bin_as rfl .lss 24 _ _ _ rfl (.float .f64 4607182418800017408) (.float .f64 4503599627370496) (.bool false) rfl rfl (fun w => eqg_float _ _ _ _ _ _ _) (by kernel_rfl) ?_; simp only [Act.put, List.setIfInBounds_toArray, List.set_cons_succ, List.set_cons_zero]))
  go_ret2
  exact ⟨rfl, rfl⟩

set_option maxRecDepth 100000 in
set_option maxHeartbeats 4000000 in
theorem isInf1 (w : World) : Calls Ybaz.prog 18 #[.float .f64 4607182418800017408, vi 0] w fun e w' => e = .returned (.bool false) ∧ w' = w := by
  go_enter Ybaz.func18, Ybaz.ntmps18
  go_wp2_with (first | (go_at_call 38; refine (abs1 _).mono ?_; rintro e W1 ⟨rfl, rfl⟩) | ((with_reducible (show wpList _ _ _ (⟨_, .binOp .gtr 24 _ _ _, _, _, _, _⟩ :: _) _ _)); refine wpList_bin_as rfl .gtr 24 _ _ _ rfl (.float .f64 4607182418800017408) (.float .f64 9218868437227405311) (.bool false) rfl rfl (fun w => eqg_float _ _ _ _ _ _ _) (by kernel_rfl) ?_; simp only [Act.put, List.setIfInBounds_toArray, List.set_cons_succ, List.set_cons_zero]))
  go_ret
  exact ⟨rfl, rfl⟩

set_option maxRecDepth 100000 in
set_option maxHeartbeats 4000000 in
theorem isNaN1 (w : World) : Calls Ybaz.prog 17 #[.float .f64 4607182418800017408] w fun e w' => e = .returned (.bool false) ∧ w' = w := by
  go_enter Ybaz.func17, Ybaz.ntmps17
  go_wp2_with (first | ((with_reducible (show wpList _ _ _ (⟨_, .binOp .neq 24 _ _ _, _, _, _, _⟩ :: _) _ _)); refine wpList_bin_as rfl .neq 24 _ _ _ rfl (.float .f64 4607182418800017408) (.float .f64 4607182418800017408) (.bool false) rfl rfl (fun w => eqg_float _ _ _ _ _ _ _) (by kernel_rfl) ?_; simp only [Act.put, List.setIfInBounds_toArray, List.set_cons_succ, List.set_cons_zero]))
  go_ret
  exact ⟨rfl, rfl⟩

set_option maxRecDepth 100000 in
set_option maxHeartbeats 4000000 in
theorem ldexp1 (k : Nat) (hk : k ≤ 100) (w : World) : Calls Ybaz.prog 88 #[.float .f64 4607182418800017408, .int .i64 (-1 - (k : Int))] w fun e w' => RF e ∧ Dr w w' := by
  have b7 := f64bits
  have b65 := f64from
  go_enter Ybaz.func88, Ybaz.ntmps88
  go_upto_region 8 with (first | (go_at_call 18; refine (isInf1 _).mono ?_; rintro e W1 ⟨rfl, rfl⟩) | (go_at_call 17; refine (isNaN1 _).mono ?_; rintro e W1 ⟨rfl, rfl⟩) | (go_at_call 103; refine (normalize1 _).mono ?_; rintro e W1 ⟨rfl, rfl⟩) | ((with_reducible (show wpList _ _ _ (⟨_, .binOp .eql 24 _ _ _, _, _, _, _⟩ :: _) _ _)); refine wpList_bin_as rfl .eql 24 _ _ _ rfl (.float .f64 4607182418800017408) (.float .f64 0) (.bool false) rfl rfl (fun w => eqg_float _ _ _ _ _ _ _) (by kernel_rfl) ?_; simp only [Act.put, List.setIfInBounds_toArray, List.set_cons_succ, List.set_cons_zero]))
  have ez : bits BinOp.and IntKind.i64 1023 2047 = 1023 := by kernel_rfl
  go_wp2_with (first | ((with_reducible (show wpList _ _ _ (⟨_, .binOp .mul 24 _ _ _, _, _, _, _⟩ :: _) _ _)); refine wpList_fl rfl .mul rfl 24 _ _ _ rfl _ _ rfl rfl ?_; intro fr fn; simp only [Act.put, List.setIfInBounds_toArray, List.set_cons_succ, List.set_cons_zero]))
  go_ret
  exact ⟨⟨_, rfl⟩, ((Dr.refl _).drewN _)⟩
end Go.Proofs.YbulkdsjeGreatDoor
