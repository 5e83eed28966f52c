import Derived.Test.YbulkdsjeGreatDoorMd4
import Derived.Test.YbulkdsjeGreatDoorFlo3
import Derived.Test.YbulkdsjeGreatDoorFlo4
import Derived.Test.YbulkdsjeGreatDoorSe2
import Derived.BigQuiet
import Derived.Deep.QuietTactic
set_option linter.unusedVariables false
set_option linter.unusedSimpArgs false
namespace Go.Proofs.YbulkdsjeGreatDoor
open Go.RowKit

theorem run_cvt (x : Nat) (w : World) : ∃ r n, Sem.run Ybaz.prog (convert 24 2 (.float .f64 x)) w = .ok (ii r) (w.drewN n) := by
  have h : ∃ r n, Sem.run Ybaz.prog (Conv.floatToInt .f64 x .i64) w = .ok (ii r) (w.drewN n) := by
    have any : ∃ r n, Sem.run Ybaz.prog (do pure (.int .i64 (IntKind.i64.wrap (← choose (.floatToInt .f64 x .i64)))) : Sem Value) w = .ok (ii r) (w.drewN n) := by
      refine ⟨IntKind.i64.wrap ((Question.floatToInt .f64 x .i64).cut (w.tape w.drawn (Question.floatToInt .f64 x .i64)) : Nat), 1, ?_⟩
      simp only [Sem.run_bind, run_choose_drew, Question.forced]
      rfl
    unfold Conv.floatToInt
    split
    · split
      · exact ⟨_, 0, rfl⟩
      · exact any
    · exact any
  obtain ⟨r, n, hr⟩ := h
  refine ⟨r, n, ?_⟩
  rw [← hr]
  have h1 := Ybaz.underlying24
  have h2 := Ybaz.underlying2
  simp [convert, run_underlying h1, run_underlying h2]
theorem wpList_cvt {ops : Array Oper} {rest : List Oper} {o : Oper} {a : Act} {w : World} {Q : Exit → Act → World → Prop} (hgd : o.guard = none) (x : Operand) (ho : o.op = .convert 24 2 x) (v : Nat) (h1 : a.eval x = .float .f64 v)
    (h : ∀ r n, wpList Ybaz.prog ops Q rest (a.put o.dst (ii r)) (w.drewN n)) : wpList Ybaz.prog ops Q (o :: rest) a w := by
  refine wpList_plain hgd fun K hK => ?_
  obtain ⟨r, n, hr⟩ := run_cvt v w
  unfold Oper.wp execOp
  simp only [ho, h1, Sem.run_bind, hr, Result.andThen_ok, Sem.run_pure]
  exact hK _ _ (h r n)
/-- Digits, an offset, whether. -/
def RD (e : Ending) : Prop := ∃ (d o : Int) (t : Bool), e = .returned (.tuple #[ii d, ii o, .bool t])
def IV (v : Value) : Prop := ∃ x : Int, v = ii x

set_option maxRecDepth 100000 in
set_option maxHeartbeats 4000000 in
theorem toDecimal_any (v p : Nat) (hp : p < 23) (U : World) (g : GL U) : Calls Ybaz.prog 55 #[.float .f64 v, vi p] U fun e w' => RD e ∧ Kept (fun _ => False) U w' := by
  obtain ⟨pw, yp⟩ := g.pow p hp
  have hpi : (p : Int) < 23 := by omega
  have b7 := f64bits
  have YP := hid yp
  clear hp g
  go_enter Ybaz.func55, Ybaz.ntmps55
  go_upto_region 2 with (((with_reducible (show wpList _ _ _ (⟨_, .binOp .mul 24 _ _ _, _, _, _, _⟩ :: _) _ _)); refine wpList_fl rfl .mul rfl 24 _ _ _ rfl _ _ rfl rfl ?_; intro fr fn; simp only [Act.put, List.setIfInBounds_toArray, List.set_cons_succ, List.set_cons_zero]))
  have K0 := hid (Kept.drawn (Kept.refl (fun _ => False) U) fn)
  obtain ⟨W, hW⟩ : ∃ W, U.drewN fn = W := ⟨_, rfl⟩
  rw [hW] at K0 ⊢
  clear hW yp
  go_cut [17] from 14 to 17 (fun v w' => BV v ∧ w' = W)
  case first =>
    go_wp2_with (first | (go_at_call 38; refine (abs_any _ _).mono ?_; rintro e W1 ⟨⟨fa, rfl⟩, rfl⟩) | ((with_reducible (show wpList _ _ _ (⟨_, .binOp .lss 24 _ _ _, _, _, _, _⟩ :: _) _ _)); refine wpList_fcmp rfl .lss rfl 24 _ _ _ rfl _ _ rfl rfl ?_; intro fb; simp only [Act.put, List.setIfInBounds_toArray, List.set_cons_succ, List.set_cons_zero]))
    go_meet
    case rel => exact ⟨⟨_, rfl⟩, rfl⟩
  case rest =>
    obtain ⟨⟨b, rfl⟩, ew⟩ := hcut
    rw [ew]
    clear ew
    go_upto_if 17 with fail
    cases b with
    | true =>
      go_wp2
      go_ret3
      exact ⟨⟨_, _, _, rfl⟩, K0.out⟩
    | false =>
      have yp := K0.out.cell (p := ⟨2, p, none⟩) (fun h => h) YP.out
      go_upto_region 5 with (first | (go_at_call 83; refine (round_any _ _).mono ?_; rintro e W1 ⟨⟨fa, rfl⟩, rfl⟩) | ((with_reducible (show wpList _ _ _ (⟨_, .convert 24 2 _, _, _, _, _⟩ :: _) _ _)); refine wpList_cvt rfl _ rfl _ rfl ?_; intro ci fn; simp only [Act.put, List.setIfInBounds_toArray, List.set_cons_succ, List.set_cons_zero]))
      have K1 := hid (Kept.drawn K0.out fn)
      obtain ⟨W2, hW2⟩ : ∃ W2, W1.drewN fn = W2 := ⟨_, rfl⟩
      rw [hW2] at K1 ⊢
      have yp2 := K1.out.cell (p := ⟨2, p, none⟩) (fun h => h) YP.out
      clear hW2 yp K0
      go_upto_region 6 with (((with_reducible (show wpList _ _ _ (⟨_, .binOp .quo 24 _ _ _, _, _, _, _⟩ :: _) _ _)); refine wpList_fl rfl .quo rfl 24 _ _ _ rfl _ _ rfl rfl ?_; intro fr fn; simp only [Act.put, List.setIfInBounds_toArray, List.set_cons_succ, List.set_cons_zero]))
      have K2 := hid (Kept.drawn K1.out fn)
      clear yp2
      go_cut [5] from 29 to 33 (fun v w' => IV v ∧ w' = W2.drewN fn)
      case first =>
        go_wp2
        go_meet
        case rel => exact ⟨⟨_, rfl⟩, rfl⟩
      case rest =>
        obtain ⟨⟨off, rfl⟩, ew⟩ := hcut
        rw [ew]
        clear ew
        by_cases h1 : off < -8
        · go_wp2
          go_ret3
          exact ⟨⟨_, _, _, rfl⟩, K2.out⟩
        · by_cases h2 : 8 < off
          · go_wp2
            go_ret3
            exact ⟨⟨_, _, _, rfl⟩, K2.out⟩
          · go_wp2
            go_ret3
            exact ⟨⟨_, _, _, rfl⟩, K2.out⟩
end Go.Proofs.YbulkdsjeGreatDoor
