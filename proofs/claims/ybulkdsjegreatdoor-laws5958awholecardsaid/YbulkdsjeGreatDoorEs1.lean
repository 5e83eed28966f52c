import Derived.Test.YbulkdsjeGreatDoorAr2
import Derived.Test.YbulkdsjeGreatDoorSe2
import Derived.BigQuiet
import Derived.Deep.QuietTactic
import Derived.Deep.MidRow
set_option linter.unusedVariables false
set_option linter.unusedSimpArgs false
namespace Go.Proofs.YbulkdsjeGreatDoor
open Go.RowKit

/-- A block that holds a slot. -/
def TS (w : World) (g : Nat) : Prop := (∃ x : Int, w.cell? ⟨g, 0, none⟩ = some (ii x)) ∧ (∃ y : Nat, w.cell? ⟨g, 1, none⟩ = some (.float .f64 y)) ∧ w.frozen? ⟨g, 0, none⟩ = false ∧ w.frozen? ⟨g, 1, none⟩ = false
/-- All is kept, but for a slot of one's own that is set. -/
def TT (B : Nat) (w w' : World) : Prop := Kept (fun _ => False) w w' ∨ ∃ g x y, B ≤ g ∧ TS w g ∧ w' = w.setCells g 0 [ii x, .float .f64 y]
theorem TT.refl (B : Nat) (w : World) : TT B w w := .inl (Kept.refl _ _)
theorem TS.lt {w : World} {g : Nat} (h : TS w g) : g < w.heap.size := by
  obtain ⟨⟨x, hx⟩, _⟩ := h
  exact World.block_lt_of_cell? w _ hx
theorem TS.calm {w w' : World} {g : Nat} (h : TS w g) (k : Kept (fun _ => False) w w') : TS w' g := by
  have e := k.block g h.lt (fun h => h)
  unfold TS
  rw [World.cell?_of_block (a := ⟨g, 0, none⟩) e, World.cell?_of_block (a := ⟨g, 1, none⟩) e, World.frozen?_of_block (a := ⟨g, 0, none⟩) e, World.frozen?_of_block (a := ⟨g, 1, none⟩) e]
  exact h
theorem TS.set {w : World} {g g' : Nat} (h : TS w g) (h' : TS w g') (x : Int) (y : Nat) : TS (w.setCells g' 0 [ii x, .float .f64 y]) g := by
  have fp := FP.setCells2 g' [ii x, .float .f64 y] 0 w
  have th : w.there g' 0 2 := fun j hj => by
    obtain ⟨⟨a, ha⟩, ⟨b, hb⟩, f0, f1⟩ := h'
    rw [Nat.zero_add]
    match j, hj with
    | 0, _ => exact ⟨by rw [ha]; rfl, f0⟩
    | 1, _ => exact ⟨by rw [hb]; rfl, f1⟩
  have rr := World.rangeAt_setCells_same w g' 0 [ii x, .float .f64 y] th
  have hl := h.lt
  by_cases e : g = g'
  · subst e
    exact ⟨⟨x, rr 0 _ rfl⟩, ⟨y, rr 1 _ rfl⟩, by rw [fp.frz _ _ hl]; exact h.2.2.1, by rw [fp.frz _ _ hl]; exact h.2.2.2⟩
  · unfold TS
    rw [fp.cell _ _ hl (fun he => e he.1), fp.cell _ _ hl (fun he => e he.1), fp.frz _ _ hl, fp.frz _ _ hl]
    exact h
theorem TS.tt {B : Nat} {w w' : World} {g : Nat} (h : TS w g) (t : TT B w w') : TS w' g := by
  rcases t with k | ⟨g', x, y, _, h', rfl⟩
  · exact h.calm k
  · exact h.set h' x y
theorem TT.keep {B : Nat} {U w w' : World} (k : Kept (fun _ => False) U w) (hB : U.heap.size ≤ B) (t : TT B w w') : Kept (fun _ => False) U w' := by
  rcases t with k' | ⟨g', x, y, hg, h', rfl⟩
  · exact k.trans k'
  · exact Kept.thn' k ((Kept.refl (fun c => c = g') w).setCells (g := g') (.inl rfl) _ _) (fun c hc (he : c = g') => by omega)
/-- As wp_region_calls, with slots of one's own set. -/
theorem wp_region_calls2 {Q : Exit → Act → World → Prop} {id : Nat} {a0 : Act} {w0 : World} {l : List Oper} (z n B : Nat) (hB0 : w0.heap.size ≤ B) (R : Nat → Value → World → Prop) (hR : ∀ i v w w', R i v w → TT B w w' → R i v w') (hB : actsB l.toArray z n = true) (hn : a0.tmps.size = n)
    (hstep : ∀ i o, l[i]? = some o → i < z → ∀ (nu : Nat → Value) (ρ : Operand → Value) (w : World), Kept (fun _ => False) w0 w →
      (∀ a : Act, ρ = a.eval → 
      (∀ j oj d, l[j]? = some oj → oj.dst = some d → Region.waitsFor .any l.toArray i j = true → ρ (.tmp d) = nu j ∧ R j (nu j) w) → (∀ s, (l.take z).all (fun o => o.dst != some s) = true → ρ (.tmp s) = a0.eval (.tmp s)) →
      (∃ v w', (execOp ρ o).run Ybaz.prog w = .ok (.value v) w' ∧ TT B w w' ∧ R i v w') ∨ (∃ f args, (execOp ρ o).run Ybaz.prog w = .ok (.enter f args) w ∧ Calls Ybaz.prog f args w fun e w' => ∃ v, e = .returned v ∧ TT B w w' ∧ R i v w') ∨ (∃ w', (execOp ρ o).run Ybaz.prog w = .ok .skip w' ∧ TT B w w' ∧ R i undef w')))
    (hend : ∀ oz, l[z]? = some oz → ∀ (nu : Nat → Value) (w : World), Kept (fun _ => False) w0 w → (∀ j, j < z → R j (nu j) w) → wpList Ybaz.prog l.toArray Q [oz] (lay nu (l.take z) 0 a0) w) : (Code.region id l.toArray true).wp Ybaz.prog Q a0 w0 := by
  have up : ∀ {w w' : World} {L : Nat → Bool} {nu : Nat → Value} {i : Nat} {v : Value}, (∀ k, L k = true → R k (nu k) w) → TT B w w' → R i v w' → ∀ k, updL L i k = true → R k (updV nu i v k) w' := fun {w w' L nu i v} h kk hv k hk => by
    unfold updL at hk
    unfold updV
    by_cases e : k = i
    · subst e; rw [if_pos rfl]; exact hv
    · rw [if_neg e] at hk ⊢; exact hR _ _ _ _ (h k hk) kk
  refine wp_region_acts z n (fun L nu w => Kept (fun _ => False) w0 w ∧ ∀ k, L k = true → R k (nu k) w) mixed hB hn ?_ ?_ ?_
  · exact fun nu => ⟨(Kept.refl _ w0).drew, fun k h => by cases h⟩
  · intro i o ho hi L nu a w hLi hdep hWd h1 h2
    have := hstep i o ho hi nu a.eval w hWd.1 a rfl (fun j oj d hj hd hwf => ⟨h1 j oj d hj hd hwf, hWd.2 j (hdep j hwf)⟩) h2
    rcases this with ⟨v, w', hr, hk, hv⟩ | ⟨f, args, hr, hc⟩ | ⟨w', hr, hk, hv⟩
    · exact .inl ⟨v, w', hr, TT.keep hWd.1 hB0 hk, up hWd.2 hk hv⟩
    · refine .inr (.inl ⟨f, args, hr, hc.mono ?_⟩)
      rintro e w' ⟨v, rfl, hk, hv⟩
      exact ⟨v, rfl, TT.keep hWd.1 hB0 hk, up hWd.2 hk hv⟩
    · exact .inr (.inr ⟨w', hr, TT.keep hWd.1 hB0 hk, up hWd.2 hk hv⟩)
  · intro oz hoz L nu w hL hWd
    exact hend oz hoz nu w hWd.1 (fun j hj => hWd.2 j (hL j hj))
theorem load101 (w : World) (b o : Nat) (v : Value) (h : w.cell? ⟨b, o, none⟩ = some v) : Sem.run Ybaz.prog (loadVar 101 ⟨b, o, none⟩) w = .ok v w := by
  have hu := Ybaz.underlying101
  go_simp
theorem xstore143 {ρ : Operand → Value} {d : Option Tmp} {ty : TypeId} {ps : String} {af : Array Edge} {g : Option (Nat × Bool)} {w : World} {x y : Operand} {b : Nat} {a1 : Int} {a2 : Nat} (h : ρ x = .pointer (some ⟨b, 0, none⟩)) (hy : ρ y = .agg #[ii a1, .float .f64 a2]) (ts : TS w b) : (execOp ρ ⟨d, .store 143 x y, ty, ps, af, g⟩).run Ybaz.prog w = .ok .skip (w.setCells b 0 [ii a1, .float .f64 a2]) := by
  have th : w.there b 0 2 := fun j hj => by
    obtain ⟨⟨a, ha⟩, ⟨b, hb⟩, f0, f1⟩ := ts
    rw [Nat.zero_add]
    match j, hj with
    | 0, _ => exact ⟨by rw [ha]; rfl, f0⟩
    | 1, _ => exact ⟨by rw [hb]; rfl, f1⟩
  have hr := run_storeAt_mid (P := Ybaz.prog) w b 0 143 #[ii a1, .float .f64 a2] th (by kernel_rfl) (by simp [Value.oneCell'])
  unfold execOp
  simp only [h, hy, Sem.run_bind, Sem.run_pure, Result.andThen_ok, hr]
end Go.Proofs.YbulkdsjeGreatDoor
