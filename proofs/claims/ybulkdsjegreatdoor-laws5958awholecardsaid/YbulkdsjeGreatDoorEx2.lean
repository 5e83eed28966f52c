import Derived.Test.YbulkdsjeGreatDoorAr1
import Derived.BigQuiet
import Derived.Deep.QuietTactic
set_option linter.unusedVariables false
set_option linter.unusedSimpArgs false
namespace Go.Proofs.YbulkdsjeGreatDoor
open Go.RowKit

section
variable {P : Program} {ρ : Operand → Value} {d : Option Tmp} {ty : TypeId} {ps : String} {af : Array Edge} {g : Option (Nat × Bool)} {w : World}
theorem xfield {x : Operand} {t : TypeId} {i : Nat} {v u : Value} (h : ρ x = v) (hr : ∀ w, Sem.run P (Instr.fieldAt t v i) w = .ok u w) : (execOp ρ ⟨d, .fieldAddr t x i, ty, ps, af, g⟩).run P w = .ok (.value u) w := by
  unfold execOp; simp only [h, Sem.run_bind, hr, Result.andThen_ok, Sem.run_pure]
theorem xnil {x : Operand} {v : Addr} (h : ρ x = .pointer (some v)) : (execOp ρ ⟨d, .nilCheck x, ty, ps, af, g⟩).run P w = .ok (.value (.pointer (some v))) w := by
  unfold execOp; simp only [h]; rfl
theorem xbin {x y : Operand} {op : BinOp} {t t' : TypeId} {v1 v2 u : Value} (h1 : ρ x = v1) (h2 : ρ y = v2) (hk : ∀ w, Sem.run P (eqGuard op t x y v1 v2) w = .ok () w) (hr : ∀ w, Sem.run P (binOp op t v1 v2) w = .ok u w) : (execOp ρ ⟨d, .binOp op t x y t', ty, ps, af, g⟩).run P w = .ok (.value u) w := by
  unfold execOp; simp only [h1, h2, Sem.run_bind, hk, hr, Result.andThen_ok, Sem.run_pure]
theorem xload1 {x : Operand} {t : TypeId} {b o : Nat} {v : Value} (h : ρ x = .pointer (some ⟨b, o, none⟩)) (hr : Sem.run P (loadVar t ⟨b, o, none⟩) w = .ok v w) : (execOp ρ ⟨d, .load t x, ty, ps, af, g⟩).run P w = .ok (.value v) w := by
  unfold execOp
  simp only [h, Instr.loadAt, Instr.sureAddr, Sem.run_bind, Sem.run_pure, Result.andThen_ok, hr]
end
theorem xcall {ρ : Operand → Value} {d : Option Tmp} {ty : TypeId} {ps : String} {af : Array Edge} {g : Option (Nat × Bool)} {w : World} {f : Nat} {args : Array Operand} {tys : Array TypeId} (hρ : ρ (.func f) = .func (.func f) #[] #[]) (hb : ∀ vs : Array Value, (callFunc f vs).run Ybaz.prog w = .ok (.enter f vs) w) :
    (execOp ρ ⟨d, .call { callee := .value (.func f), args := args, argTypes := tys }, ty, ps, af, g⟩).run Ybaz.prog w = .ok (.enter f (args.map ρ)) w := by
  unfold execOp
  simp [resolve, invoke, hρ, Deferred.ofValue, Result.andThen, hb]
theorem load2 (w : World) (b o : Nat) (v : Value) (h : w.cell? ⟨b, o, none⟩ = some v) : Sem.run Ybaz.prog (loadVar 2 ⟨b, o, none⟩) w = .ok v w := by
  have hu := Ybaz.underlying2
  go_simp
/-- A drawn region of reads, calls that keep all, and allocations, in any order; the last waits for all. -/
theorem wp_region_calls {Q : Exit → Act → World → Prop} {id : Nat} {a0 : Act} {w0 : World} {l : List Oper} (z n : Nat) (R : Nat → Value → World → Prop) (hR : ∀ i v w w', R i v w → Kept (fun _ => False) w w' → R i v w') (hB : actsB l.toArray z n = true) (hn : a0.tmps.size = n)
    (hstep : ∀ i o, l[i]? = some o → i < z → ∀ (nu : Nat → Value) (ρ : Operand → Value) (w : World), Kept (fun _ => False) w0 w → ρ = ρ →
      (∀ a : Act, ρ = a.eval → 
      (∀ j oj d, l[j]? = some oj → oj.dst = some d → Region.waitsFor .any l.toArray i j = true → ρ (.tmp d) = nu j ∧ R j (nu j) w) → (∀ s, (l.take z).all (fun o => o.dst != some s) = true → ρ (.tmp s) = a0.eval (.tmp s)) →
      (∃ v w', (execOp ρ o).run Ybaz.prog w = .ok (.value v) w' ∧ Kept (fun _ => False) w w' ∧ R i v w') ∨ (∃ f args, (execOp ρ o).run Ybaz.prog w = .ok (.enter f args) w ∧ Calls Ybaz.prog f args w fun e w' => ∃ v, e = .returned v ∧ Kept (fun _ => False) w w' ∧ R i v w')))
    (hend : ∀ oz, l[z]? = some oz → ∀ (nu : Nat → Value) (w : World), Kept (fun _ => False) w0 w → (∀ j, j < z → R j (nu j) w) → wpList Ybaz.prog l.toArray Q [oz] (lay nu (l.take z) 0 a0) w) : (Code.region id l.toArray true).wp Ybaz.prog Q a0 w0 := by
  have up : ∀ {w w' : World} {L : Nat → Bool} {nu : Nat → Value} {i : Nat} {v : Value}, (∀ k, L k = true → R k (nu k) w) → Kept (fun _ => False) w w' → R i v w' → ∀ k, updL L i k = true → R k (updV nu i v k) w' := fun {w w' L nu i v} h kk hv k hk => by
    unfold updL at hk
    unfold updV
    by_cases e : k = i
    · subst e; rw [if_pos rfl]; exact hv
    · rw [if_neg e] at hk ⊢; exact hR _ _ _ _ (h k hk) kk
  refine wp_region_acts z n (fun L nu w => Kept (fun _ => False) w0 w ∧ ∀ k, L k = true → R k (nu k) w) mixed hB hn ?_ ?_ ?_
  · exact fun nu => ⟨(Kept.refl _ w0).drew, fun k h => by cases h⟩
  · intro i o ho hi L nu a w hLi hdep hWd h1 h2
    have := hstep i o ho hi nu a.eval w hWd.1 rfl a rfl (fun j oj d hj hd hwf => ⟨h1 j oj d hj hd hwf, hWd.2 j (hdep j hwf)⟩) h2
    rcases this with ⟨v, w', hr, hk, hv⟩ | ⟨f, args, hr, hc⟩
    · exact .inl ⟨v, w', hr, hWd.1.trans hk, up hWd.2 hk hv⟩
    · refine .inr (.inl ⟨f, args, hr, hc.mono ?_⟩)
      rintro e w' ⟨v, rfl, hk, hv⟩
      exact ⟨v, rfl, hWd.1.trans hk, up hWd.2 hk hv⟩
  · intro oz hoz L nu w hL hWd
    exact hend oz hoz nu w hWd.1 (fun j hj => hWd.2 j (hL j hj))
end Go.Proofs.YbulkdsjeGreatDoor
