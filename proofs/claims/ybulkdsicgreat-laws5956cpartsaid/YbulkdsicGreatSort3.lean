import Derived.Test.YbulkdsicGreatSort2
import Derived.Lib.ReflectliteSlice
set_option linter.unusedVariables false
set_option linter.unusedSimpArgs false
namespace Go.Proofs.YbulkdsicGreat
open Go.RowKit Go.Shelf Go.Lib

theorem siK (n : Nat) (h2 : 2 ≤ n) : Lib.swapperK n ((Ybaz.prog.info? 3).get (by kernel_rfl)) 2 = 5 := by
  have a : ((Ybaz.prog.info? 3).get (by kernel_rfl)).hasPointers = false := by kernel_rfl
  have b : ((Ybaz.prog.info? 3).get (by kernel_rfl)).bytes = 8 := by kernel_rfl
  have c : (n == 0) = false := by simp; omega
  have d : (n == 1) = false := by simp; omega
  simp [Lib.swapperK, a, b, c, d]

theorem run_extern_as {P : Program} {f : FuncId} {fn : Func} {e : Array Value → Sem Value} (hf : P.funcs[f]? = some fn) (hname : (fn.name == "runtime.NumGoroutine") = false) (hb : fn.body.isNone = true) (hn : Extern.findNext fn = none) (he : Extern.find fn = some e) (args : Array Value) (w : World) (v : Value) (w' : World) (h : (e args).run P w = .ok v w') :
    (callFunc f args).run P w = .ok (.value v) w' := by
  rw [run_callFunc_extern hf hname hb hn he, h]
  rfl

set_option maxRecDepth 100000 in
set_option maxHeartbeats 2000000 in
theorem sliceStable_any (b n c : Nat) (h2 : 2 ≤ n) (hn : n ≤ 300) (c1 c2 : Value) (w : World) (h : LessNo w n c1 c2) :
    Calls Ybaz.prog 35 #[.iface 26 (sl b 0 n c), fv c1 c2] w fun e w' => e = .returned (.tuple #[]) ∧ Below w.heap.size w w' := by
  have hv := run_valueOf_slice (P := Ybaz.prog) 26 3 ((Ybaz.prog.info? 26).get (by kernel_rfl)) (by kernel_rfl) (by kernel_rfl) (some ⟨b, 0, none⟩) n c w
  have hs := fun w => run_swapper_slice (P := Ybaz.prog) 26 3 ((Ybaz.prog.info? 26).get (by kernel_rfl)) ((Ybaz.prog.info? 3).get (by kernel_rfl)) (by kernel_rfl) (by kernel_rfl) (by kernel_rfl) 2 (fun _ => by kernel_rfl) (some ⟨b, 0, none⟩) n c 67 (by rw [siK n h2]; kernel_rfl) w
  have hl := fun a w ha => run_valueLen_slice (P := Ybaz.prog) 26 3 ((Ybaz.prog.info? 26).get (by kernel_rfl)) (by kernel_rfl) (by kernel_rfl) (by kernel_rfl) a (some ⟨b, 0, none⟩) n c w ha
  generalize (if swapperK n ((Ybaz.prog.info? 3).get (by kernel_rfl)) 2 ≤ 2 then (#[] : Array Value) else #[.slice (some ⟨b, 0, none⟩) n c, typeHandle Ybaz.prog 3]) = B at hs
  have ST : Hid (∀ W, Below w.heap.size w W → Calls Ybaz.prog 53 #[.agg #[fv c1 c2, .func (.func 67) #[] B], vi n] W fun e w' => e = .returned (.tuple #[]) ∧ Below W.heap.size W w') := hid fun W hW => stable_any n c1 c2 _ W hn (h.on hW)
  clear h
  have hg : Ybaz.prog.globals.size = 1 := by kernel_rfl
  simp only [typeHandle, hg] at hv hl
  go_enter Ybaz.func35, Ybaz.ntmps35
  go_wp2
  rw [run_callFunc_extern Ybaz.func51 (by kernel_rfl) (by kernel_rfl) (by kernel_rfl) (e := fun args => Extern.ReflectliteValue.unpack (args.getD 0 (.tuple #[]))) (by kernel_rfl),
    show Sem.run Ybaz.prog ((fun args : Array Value => Extern.ReflectliteValue.unpack (args.getD 0 (.tuple #[]))) #[.iface 26 (sl b 0 n c)]) w = _ from hv]
  simp only [Result.andThen]
  rw [Oper.upon_value]
  go_wp2
  rw [run_extern_as Ybaz.func52 (by kernel_rfl) (by kernel_rfl) (by kernel_rfl) (by kernel_rfl) _ _ _ _ (hs _)]
  rw [Oper.upon_value]
  go_wp2
  rw [run_callFunc_extern Ybaz.func54 (by kernel_rfl) (by kernel_rfl) (by kernel_rfl) (e := Extern.ReflectliteValue.method (Extern.ReflectliteValue.valueError "reflectlite.Value.Len" 0) Extern.ReflectliteValue.len) (by kernel_rfl),
    hl _ _ (by simp)]
  simp only [Result.andThen]
  rw [Oper.upon_value]
  have hB : ∀ o1 o2, Below w.heap.size w ((w.alloc o1).alloc o2) := fun o1 o2 => ((Below.refl _ w).alloc (Nat.le_refl _) o1).alloc (by simp) o2
  have HB := hid hB
  clear hB
  go_wp2_with (go_at_call 53; refine (ST.out _ (HB.out _ _)).mono ?_; rintro e w' ⟨rfl, hb⟩; have B1 := hid hb; clear hb)
  go_end0
  exact ⟨rfl, (HB.out _ _).trans (B1.out.mono (by simp; omega))⟩
end Go.Proofs.YbulkdsicGreat
