import Derived.Test.YbulkdsicGreatPart3
set_option linter.unusedVariables false
set_option linter.unusedSimpArgs false
namespace Go
open Go.RowKit
section
variable {P : Program} {ρ : Operand → Value} {d : Option Tmp} {ty : TypeId} {ps : String} {af : Array Edge} {g : Option (Nat × Bool)} {w : World}
theorem xfield {x : Operand} {t : TypeId} {i : Nat} {v u : Value} (h : ρ x = v) (hr : ∀ w, Sem.run P (Instr.fieldAt t v i) w = .ok u w) : (execOp ρ ⟨d, .fieldAddr t x i, ty, ps, af, g⟩).run P w = .ok (.value u) w := by
  unfold execOp; simp only [h, Sem.run_bind, hr, Result.andThen_ok, Sem.run_pure]
theorem xbin {x y : Operand} {op : BinOp} {t t' : TypeId} {v1 v2 u : Value} (h1 : ρ x = v1) (h2 : ρ y = v2) (hk : ∀ w, Sem.run P (eqGuard op t x y v1 v2) w = .ok () w) (hr : ∀ w, Sem.run P (binOp op t v1 v2) w = .ok u w) : (execOp ρ ⟨d, .binOp op t x y t', ty, ps, af, g⟩).run P w = .ok (.value u) w := by
  unfold execOp; simp only [h1, h2, Sem.run_bind, hk, hr, Result.andThen_ok, Sem.run_pure]
theorem xload1 {x : Operand} {t : TypeId} {b o : Nat} {v : Value} (h : ρ x = .pointer (some ⟨b, o, none⟩)) (hr : Sem.run P (loadVar t ⟨b, o, none⟩) w = .ok v w) : (execOp ρ ⟨d, .load t x, ty, ps, af, g⟩).run P w = .ok (.value v) w := by
  unfold execOp
  simp only [h, Instr.loadAt, Instr.sureAddr, Sem.run_bind, Sem.run_pure, Result.andThen_ok, hr]
theorem xstore1 {x y : Operand} {t : TypeId} {b o : Nat} {v : Value} {w' : World} (h : ρ x = .pointer (some ⟨b, o, none⟩)) (hy : ρ y = v) (hr : Sem.run P (Instr.storeAt t (.pointer (some ⟨b, o, none⟩)) v) w = .ok () w') : (execOp ρ ⟨d, .store t x y, ty, ps, af, g⟩).run P w = .ok .skip w' := by
  unfold execOp
  simp only [h, hy, Sem.run_bind, Sem.run_pure, Result.andThen_ok, hr]
end
end Go
namespace Go.Proofs.YbulkdsicGreat
open Go.RowKit
theorem load36 (w : World) (b o : Nat) (v : Value) (h : w.cell? ⟨b, o, none⟩ = some v) : Sem.run Ybaz.prog (loadVar 36 ⟨b, o, none⟩) w = .ok v w := by
  have hu := Ybaz.underlying36
  go_simp
theorem store36 (w : World) (b o : Nat) (x : Nat) (hc : (w.cell? ⟨b, o, none⟩).isSome = true) (hf : w.frozen? ⟨b, o, none⟩ = false) : Sem.run Ybaz.prog (Instr.storeAt 36 (.pointer (some ⟨b, o, none⟩)) (.float .f64 x)) w = .ok () (w.setCell ⟨b, o, none⟩ (.float .f64 x)) := by
  have hu := Ybaz.underlying36
  have hst := run_store1 (P := Ybaz.prog) w b o (.float .f64 x) hc hf rfl
  go_simp
theorem fa61b (kb : Nat) (w : World) : Sem.run Ybaz.prog (Instr.fieldAt 61 (.pointer (some ⟨kb, 0, none⟩)) 1) w = .ok (.pointer (some ⟨kb, 4, none⟩)) w := by kernel_rfl
theorem fa61 (kb : Nat) (w : World) : Sem.run Ybaz.prog (Instr.fieldAt 61 (.pointer (some ⟨kb, 0, none⟩)) 0) w = .ok (.pointer (some ⟨kb, 0, none⟩)) w := by kernel_rfl
theorem fa59 (kb : Nat) (w : World) : Sem.run Ybaz.prog (Instr.fieldAt 59 (.pointer (some ⟨kb, 0, none⟩)) 1) w = .ok (.pointer (some ⟨kb, 3, none⟩)) w := by kernel_rfl
end Go.Proofs.YbulkdsicGreat
