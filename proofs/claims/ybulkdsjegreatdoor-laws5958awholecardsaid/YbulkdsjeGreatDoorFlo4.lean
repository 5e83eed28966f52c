import Derived.Test.YbulkdsjeGreatDoorFlo2
import Derived.Test.YbulkdsjeGreatDoorFin
set_option linter.unusedVariables false
set_option linter.unusedSimpArgs false
namespace Go.Proofs.YbulkdsjeGreatDoor
open Go.RowKit

set_option maxRecDepth 100000 in
set_option maxHeartbeats 4000000 in
theorem abs10 (w : World) : Calls Ybaz.prog 38 #[.float .f64 4621819117588971520] w fun e w' => e = .returned (.float .f64 4621819117588971520) ∧ w' = w := by
  have b7 := f64bits
  have b65 := f64from
  go_enter Ybaz.func38, Ybaz.ntmps38
  go_wp2
  go_ret
  exact ⟨by kernel_rfl, rfl⟩

set_option maxRecDepth 100000 in
set_option maxHeartbeats 4000000 in
theorem normalize10 (w : World) : Calls Ybaz.prog 103 #[.float .f64 4621819117588971520] w fun e w' => e = .returned (.tuple #[.float .f64 4621819117588971520, vi 0]) ∧ w' = w := by
  go_enter Ybaz.func103, Ybaz.ntmps103
  go_wp2_with (first | (go_at_call 38; refine (abs10 _).mono ?_; rintro e W1 ⟨rfl, rfl⟩) | ((with_reducible (show wpList _ _ _ (⟨_, .binOp .lss 24 _ _ _, _, _, _, _⟩ :: _) _ _)); refine wpList_bin_as rfl .lss 24 _ _ _ rfl (.float .f64 4621819117588971520) (.float .f64 4503599627370496) (.bool false) rfl rfl (fun w => eqg_float _ _ _ _ _ _ _) (by kernel_rfl) ?_; simp only [Act.put, List.setIfInBounds_toArray, List.set_cons_succ, List.set_cons_zero]))
  go_ret2
  exact ⟨rfl, rfl⟩

set_option maxRecDepth 100000 in
set_option maxHeartbeats 4000000 in
theorem isInf10 (w : World) : Calls Ybaz.prog 18 #[.float .f64 4621819117588971520, vi 0] w fun e w' => e = .returned (.bool false) ∧ w' = w := by
  go_enter Ybaz.func18, Ybaz.ntmps18
  go_wp2_with (first | (go_at_call 38; refine (abs10 _).mono ?_; rintro e W1 ⟨rfl, rfl⟩) | ((with_reducible (show wpList _ _ _ (⟨_, .binOp .gtr 24 _ _ _, _, _, _, _⟩ :: _) _ _)); refine wpList_bin_as rfl .gtr 24 _ _ _ rfl (.float .f64 4621819117588971520) (.float .f64 9218868437227405311) (.bool false) rfl rfl (fun w => eqg_float _ _ _ _ _ _ _) (by kernel_rfl) ?_; simp only [Act.put, List.setIfInBounds_toArray, List.set_cons_succ, List.set_cons_zero]))
  go_ret
  exact ⟨rfl, rfl⟩

set_option maxRecDepth 100000 in
set_option maxHeartbeats 4000000 in
theorem isNaN10 (w : World) : Calls Ybaz.prog 17 #[.float .f64 4621819117588971520] w fun e w' => e = .returned (.bool false) ∧ w' = w := by
  go_enter Ybaz.func17, Ybaz.ntmps17
  go_wp2_with (first | ((with_reducible (show wpList _ _ _ (⟨_, .binOp .neq 24 _ _ _, _, _, _, _⟩ :: _) _ _)); refine wpList_bin_as rfl .neq 24 _ _ _ rfl (.float .f64 4621819117588971520) (.float .f64 4621819117588971520) (.bool false) rfl rfl (fun w => eqg_float _ _ _ _ _ _ _) (by kernel_rfl) ?_; simp only [Act.put, List.setIfInBounds_toArray, List.set_cons_succ, List.set_cons_zero]))
  go_ret
  exact ⟨rfl, rfl⟩

set_option maxRecDepth 100000 in
set_option maxHeartbeats 4000000 in
theorem frexp10 (w : World) : Calls Ybaz.prog 116 #[.float .f64 4621819117588971520] w fun e w' => e = .returned (.tuple #[.float .f64 4603804719079489536, vi 4]) ∧ w' = w := by
  have b7 := f64bits
  have b65 := f64from
  go_enter Ybaz.func116, Ybaz.ntmps116
  go_wp2_with (first | (go_at_call 18; refine (isInf10 _).mono ?_; rintro e W1 ⟨rfl, rfl⟩) | (go_at_call 17; refine (isNaN10 _).mono ?_; rintro e W1 ⟨rfl, rfl⟩) | (go_at_call 103; refine (normalize10 _).mono ?_; rintro e W1 ⟨rfl, rfl⟩) | ((with_reducible (show wpList _ _ _ (⟨_, .binOp .eql 24 _ _ _, _, _, _, _⟩ :: _) _ _)); refine wpList_bin_as rfl .eql 24 _ _ _ rfl (.float .f64 4621819117588971520) (.float .f64 0) (.bool false) rfl rfl (fun w => eqg_float _ _ _ _ _ _ _) (by kernel_rfl) ?_; simp only [Act.put, List.setIfInBounds_toArray, List.set_cons_succ, List.set_cons_zero]))
  go_ret2
  exact ⟨by kernel_rfl, rfl⟩

set_option maxRecDepth 100000 in
set_option maxHeartbeats 4000000 in
theorem Frexp10 (w : World) : Calls Ybaz.prog 101 #[.float .f64 4621819117588971520] w fun e w' => e = .returned (.tuple #[.float .f64 4603804719079489536, vi 4]) ∧ w' = w := by
  go_enter Ybaz.func101, Ybaz.ntmps101
  go_wp2_with (first | (go_at_call 116; refine (frexp10 _).mono ?_; rintro e W1 ⟨rfl, rfl⟩))
  go_ret2
  exact ⟨by kernel_rfl, rfl⟩
theorem archLog0 (w : World) : ∃ r, Sem.run Ybaz.prog (callFunc 117 #[.float .f64 4603804719079489536]) w = .ok (.value (.float .f64 r)) w := by
  rw [run_callFunc_extern Ybaz.func117 (by kernel_rfl) (by kernel_rfl) (by kernel_rfl) (e := _root_.Go.Extern.MathLog.archLog) (by kernel_rfl)]
  exact ⟨13825510489450817230, by kernel_rfl⟩

set_option maxRecDepth 100000 in
set_option maxHeartbeats 4000000 in
theorem Log0 (w : World) : Calls Ybaz.prog 102 #[.float .f64 4603804719079489536] w fun e w' => RF e ∧ w' = w := by
  obtain ⟨r, hr⟩ := archLog0 w
  go_enter Ybaz.func102, Ybaz.ntmps102
  go_wp2
  go_ret
  exact ⟨⟨_, rfl⟩, rfl⟩

set_option maxRecDepth 100000 in
set_option maxHeartbeats 4000000 in
theorem log2_10 (w : World) : Calls Ybaz.prog 80 #[.float .f64 4621819117588971520] w fun e w' => RF e ∧ Dr w w' := by
  go_enter Ybaz.func80, Ybaz.ntmps80
  go_wp2_with (first | (go_at_call 101; refine (Frexp10 _).mono ?_; rintro e W1 ⟨rfl, rfl⟩) | (go_at_call 102; refine (Log0 _).mono ?_; rintro e W1 ⟨⟨fr, rfl⟩, rfl⟩) | ((with_reducible (show wpList _ _ _ (⟨_, .binOp .eql 24 _ _ _, _, _, _, _⟩ :: _) _ _)); refine wpList_bin_as rfl .eql 24 _ _ _ rfl (.float .f64 4603804719079489536) (.float .f64 4602678819172646912) (.bool false) rfl rfl (fun w => eqg_float _ _ _ _ _ _ _) (by kernel_rfl) ?_; simp only [Act.put, List.setIfInBounds_toArray, List.set_cons_succ, List.set_cons_zero]) | ((with_reducible (show wpList _ _ _ (⟨_, .binOp .mul 24 _ _ _, _, _, _, _⟩ :: _) _ _)); refine wpList_fl rfl .mul rfl 24 _ _ _ rfl _ _ rfl rfl ?_; intro fr fn; simp only [Act.put, List.setIfInBounds_toArray, List.set_cons_succ, List.set_cons_zero]) | ((with_reducible (show wpList _ _ _ (⟨_, .binOp .add 24 _ _ _, _, _, _, _⟩ :: _) _ _)); refine wpList_fl rfl .add rfl 24 _ _ _ rfl _ _ rfl rfl ?_; intro fr fn; simp only [Act.put, List.setIfInBounds_toArray, List.set_cons_succ, List.set_cons_zero]))
  go_ret
  exact ⟨⟨_, rfl⟩, ((Dr.refl _).drewN _).drewN _⟩

set_option maxRecDepth 100000 in
set_option maxHeartbeats 4000000 in
theorem Log2_10 (w : World) : Calls Ybaz.prog 48 #[.float .f64 4621819117588971520] w fun e w' => RF e ∧ Dr w w' := by
  go_enter Ybaz.func48, Ybaz.ntmps48
  go_wp2_with (first | (go_at_call 80; refine (log2_10 _).mono ?_; rintro e W1 ⟨⟨fr, rfl⟩, hd⟩))
  go_ret
  exact ⟨⟨_, rfl⟩, hd⟩
end Go.Proofs.YbulkdsjeGreatDoor
