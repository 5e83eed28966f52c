import Derived.Test.YbulkdsjeGreatDoorLen64
import Derived.Test.YbulkdsjeGreatDoorBase
import Derived.Deep.Draws
import Derived.Laws.FloatArith
set_option linter.unusedVariables false
set_option linter.unusedSimpArgs false
namespace Go.Proofs.YbulkdsjeGreatDoor
open Go.RowKit
/-- An operation that takes two floats to one. -/
def isArith : BinOp → Bool | .add | .sub | .mul | .quo => true | _ => false
def isCmp : BinOp → Bool | .eql | .neq | .lss | .leq | .gtr | .geq => true | _ => false
theorem run_fl (op : BinOp) (ho : isArith op = true) (t : TypeId) (x y : Nat) (w : World) : ∃ r n, Sem.run Ybaz.prog (binOp op t (.float .f64 x) (.float .f64 y)) w = .ok (.float .f64 r) (w.drewN n) := by
  cases hf : floatBits op .f64 x y with
  | some r => exact ⟨r, 0, run_float_arith w op t .f64 x y r hf⟩
  | none =>
    have hq : ∀ z, (match (none : Option Nat) with | some r => (pure (.float .f64 r) : Sem Value) | none => do pure (.float .f64 (← choose (.nanBits .f64 x y)))) = z → ∃ r n, Sem.run Ybaz.prog z w = .ok (.float .f64 r) (w.drewN n) := by
      rintro z rfl
      refine ⟨(Question.nanBits .f64 x y).cut (w.tape w.drawn (Question.nanBits .f64 x y)), 1, ?_⟩
      simp only [Sem.run_bind, run_choose_drew, Question.forced]
      rfl
    unfold floatBits at hf
    cases op <;> simp only [isArith] at ho <;> first | (cases ho; done) | skip
    all_goals simp only at hf
    all_goals
      have := hq _ rfl
      simpa [binOp, Op.floatArith, hf] using this
theorem run_fcmp (op : BinOp) (ho : isCmp op = true) (t : TypeId) (x y : Nat) : ∃ b, ∀ w, Sem.run Ybaz.prog (binOp op t (.float .f64 x) (.float .f64 y)) w = .ok (.bool b) w := by
  cases op <;> simp only [isCmp] at ho <;> first | (cases ho; done) | skip
  all_goals
    exact ⟨_, fun w => rfl⟩
theorem eqg_float (op : BinOp) (t : TypeId) (x y : Operand) (a b : Nat) (w : World) : Sem.run Ybaz.prog (eqGuard op t x y (.float .f64 a) (.float .f64 b)) w = .ok () w := by
  unfold eqGuard
  cases op <;> simp
theorem wpList_fl {ops : Array Oper} {rest : List Oper} {o : Oper} {a : Act} {w : World} {Q : Exit → Act → World → Prop} (hgd : o.guard = none) (op : BinOp) (hop : isArith op = true) (t : TypeId) (x y : Operand) (t' : TypeId) (ho : o.op = .binOp op t x y t') (v1 v2 : Nat) (h1 : a.eval x = .float .f64 v1) (h2 : a.eval y = .float .f64 v2)
    (h : ∀ r n, wpList Ybaz.prog ops Q rest (a.put o.dst (.float .f64 r)) (w.drewN n)) : wpList Ybaz.prog ops Q (o :: rest) a w := by
  refine wpList_plain hgd fun K hK => ?_
  obtain ⟨r, n, hr⟩ := run_fl op hop t v1 v2 w
  unfold Oper.wp execOp
  simp only [ho, h1, h2, Sem.run_bind, eqg_float, hr, Result.andThen_ok, Sem.run_pure]
  exact hK _ _ (h r n)
theorem wpList_fcmp {ops : Array Oper} {rest : List Oper} {o : Oper} {a : Act} {w : World} {Q : Exit → Act → World → Prop} (hgd : o.guard = none) (op : BinOp) (hop : isCmp op = true) (t : TypeId) (x y : Operand) (t' : TypeId) (ho : o.op = .binOp op t x y t') (v1 v2 : Nat) (h1 : a.eval x = .float .f64 v1) (h2 : a.eval y = .float .f64 v2)
    (h : ∀ b, wpList Ybaz.prog ops Q rest (a.put o.dst (.bool b)) w) : wpList Ybaz.prog ops Q (o :: rest) a w := by
  refine wpList_plain hgd fun K hK => ?_
  obtain ⟨b, hr⟩ := run_fcmp op hop t v1 v2
  unfold Oper.wp execOp
  simp only [ho, h1, h2, Sem.run_bind, eqg_float, hr, Result.andThen_ok, Sem.run_pure]
  exact hK _ _ (h b)
/-- Some truth value, some float. -/
def RB (e : Ending) : Prop := ∃ b, e = .returned (.bool b)
def RF (e : Ending) : Prop := ∃ r, e = .returned (.float .f64 r)
def Dr (w w' : World) : Prop := ∃ n, w' = w.drewN n
theorem Dr.refl (w : World) : Dr w w := ⟨0, rfl⟩
theorem drewN_drewN (w : World) (a b : Nat) : (w.drewN a).drewN b = w.drewN (a + b) := by simp [World.drewN, Nat.add_assoc]
theorem Dr.drewN {w w' : World} (h : Dr w w') (n : Nat) : Dr w (w'.drewN n) := by
  obtain ⟨m, rfl⟩ := h
  exact ⟨m + n, drewN_drewN w m n⟩
theorem Dr.trans {a b c : World} (h : Dr a b) (k : Dr b c) : Dr a c := by
  obtain ⟨m, rfl⟩ := k
  exact h.drewN m
theorem Dr.kept {a b : World} (h : Dr a b) : Kept (fun _ => False) a b := by
  obtain ⟨m, rfl⟩ := h
  exact ⟨rfl, rfl, rfl, Nat.le_refl _, fun _ _ _ => rfl⟩

set_option maxRecDepth 100000 in
set_option maxHeartbeats 1000000 in
theorem isNaN_any (x : Nat) (w : World) : Calls Ybaz.prog 17 #[.float .f64 x] w fun e w' => RB e ∧ w' = w := by
  go_enter Ybaz.func17, Ybaz.ntmps17
  go_wp2_with ((with_reducible (show wpList _ _ _ (⟨_, .binOp .neq 24 _ _ _, _, _, _, _⟩ :: _) _ _)); refine wpList_fcmp rfl .neq rfl 24 _ _ _ rfl _ _ rfl rfl ?_; intro fb; simp only [Act.put, List.setIfInBounds_toArray, List.set_cons_succ, List.set_cons_zero])
  go_ret
  exact ⟨⟨fb, rfl⟩, rfl⟩

theorem f64bits (x : Nat) (w : World) : Sem.run Ybaz.prog (callFunc 7 #[.float .f64 x]) w = .ok (.value (.int .u64 x)) w := by
  rw [run_callFunc_extern Ybaz.func7 (by kernel_rfl) (by kernel_rfl) (by kernel_rfl) (e := _root_.Go.Extern.MathFloatBits.float64bits) (by kernel_rfl)]
  rfl
theorem f64from (x : Int) (w : World) : Sem.run Ybaz.prog (callFunc 65 #[.int .u64 x]) w = .ok (.value (.float .f64 x.toNat)) w := by
  rw [run_callFunc_extern Ybaz.func65 (by kernel_rfl) (by kernel_rfl) (by kernel_rfl) (e := _root_.Go.Extern.MathFloatBits.float64frombits) (by kernel_rfl)]
  rfl

set_option maxRecDepth 100000 in
set_option maxHeartbeats 1000000 in
theorem abs_any (x : Nat) (w : World) : Calls Ybaz.prog 38 #[.float .f64 x] w fun e w' => RF e ∧ w' = w := by
  have b7 := f64bits
  have b65 := f64from
  go_enter Ybaz.func38, Ybaz.ntmps38
  go_wp2
  go_ret
  exact ⟨⟨_, rfl⟩, rfl⟩
end Go.Proofs.YbulkdsjeGreatDoor
