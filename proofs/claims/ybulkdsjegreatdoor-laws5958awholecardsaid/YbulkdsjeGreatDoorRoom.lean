import Derived.Test.YbulkdsjeGreatDoorKit
import Derived.Laws.IdiomCopy
set_option linter.unusedVariables false
set_option linter.unusedSimpArgs false
namespace Go
open Go.RowKit
/-- 'append(s, u)' where s has room: one cell is written, in its own block. -/
theorem run_append_one_room {P : Program} (w : World) (t ty e : TypeId) (i : TypeInfo) (ht : P.underlying t = some (.slice e)) (hi : P.info? e = some i) (hs : i.size = 1)
    (g off n cap : Nat) (ad : Addr) (c : Nat) (u : Value) (hu : w.cell? ad = some u) (h1 : u.oneCell' = true) (hroom : n + 1 ≤ cap) (hth : (w.cell? ⟨g, off + n, none⟩).isSome = true) (hfr : w.frozen? ⟨g, off + n, none⟩ = false) :
    (Builtin.append_ #[t, t] ty #[.slice (some ⟨g, off, none⟩) n cap, .slice (some ad) 1 c]).run P w = .ok (.slice (some ⟨g, off, none⟩) (n + 1) cap) (w.setCell ⟨g, off + n, none⟩ u) := by
  have hf := run_firstCells_some (P := P) w i.size 1 ad 1 c [u] (by rw [hs]; rfl) (fun j v hv => by
    match j, hv with
    | 0, hv => simp at hv; subst hv; simpa [Addr.add] using hu)
  have hst := run_storeCells_cells (P := P) g (off + n) [u] 0 w (fun j hj => by obtain rfl : j = 0 := (by simpa using hj); simpa using hth) (fun j hj => by obtain rfl : j = 0 := (by simpa using hj); simpa using hfr) (fun v hv => by simp at hv; subst hv; exact h1)
  have hadd : (⟨g, off, none⟩ : Addr).add (n * i.size) = ⟨g, off + n, none⟩ := by rw [hs, Nat.mul_one]; unfold Addr.add; split <;> simp_all
  simp only [Nat.add_zero] at hst
  simp [Builtin.append_, run_underlying ht, sizeOf, typeInfo, hi, Builtin.lenOf, hroom, hf, hadd, hst]
  rfl
theorem wpList_append_room1 {P : Program} {w : World} {ops : Array Oper} {rest : List Oper} {o : Oper} {a : Act} {Q : Exit → Act → World → Prop} (hgd : o.guard = none) (s x : Operand) (t : TypeId)
    (ho : o.op = .call { callee := .builtin .append, args := #[s, x], argTypes := #[t, t] })
    (e : TypeId) (i : TypeInfo) (ht : P.underlying t = some (.slice e)) (hi : P.info? e = some i) (hsz : i.size = 1)
    (g off n cap : Nat) (hs : a.eval s = .slice (some ⟨g, off, none⟩) n cap) (ad : Addr) (c : Nat) (u : Value) (hx : a.eval x = .slice (some ad) 1 c) (hu : w.cell? ad = some u) (h1 : u.oneCell' = true) (hroom : n + 1 ≤ cap)
    (hth : (w.cell? ⟨g, off + n, none⟩).isSome = true) (hfr : w.frozen? ⟨g, off + n, none⟩ = false)
    (h : wpList P ops Q rest (a.put o.dst (.slice (some ⟨g, off, none⟩) (n + 1) cap)) (w.setCell ⟨g, off + n, none⟩ u)) : wpList P ops Q (o :: rest) a w := by
  refine wpList_plain hgd fun K hK => ?_
  have hr := run_append_one_room (P := P) w t o.type e i ht hi hsz g off n cap ad c u hu h1 hroom hth hfr
  unfold Oper.wp execOp
  simp only [ho, resolve, invoke, builtin, Sem.run_bind, Sem.run_pure, Result.andThen_ok, List.map_toArray, List.map_cons, List.map_nil, hs, hx, hr]
  exact hK _ _ h
theorem wpListIn_append_room1 {F : Fence} {nf : Nat} {P : Program} {w : World} {ops : Array Oper} {rest : List Oper} {o : Oper} {a : Act} {Q : Exit → Act → World → Prop} (hgd : o.guard = none) (s x : Operand) (t : TypeId)
    (ho : o.op = .call { callee := .builtin .append, args := #[s, x], argTypes := #[t, t] })
    (e : TypeId) (i : TypeInfo) (ht : P.underlying t = some (.slice e)) (hi : P.info? e = some i) (hsz : i.size = 1)
    (g off n cap : Nat) (hs : a.eval s = .slice (some ⟨g, off, none⟩) n cap) (ad : Addr) (c : Nat) (u : Value) (hx : a.eval x = .slice (some ad) 1 c) (hu : w.cell? ad = some u) (h1 : u.oneCell' = true) (hroom : n + 1 ≤ cap)
    (hth : (w.cell? ⟨g, off + n, none⟩).isSome = true) (hfr : w.frozen? ⟨g, off + n, none⟩ = false)
    (h : wpListIn F nf P ops Q rest (a.put o.dst (.slice (some ⟨g, off, none⟩) (n + 1) cap)) (w.setCell ⟨g, off + n, none⟩ u)) : wpListIn F nf P ops Q (o :: rest) a w := by
  refine wpListIn_plain hgd fun K hK => ?_
  have hr := run_append_one_room (P := P) w t o.type e i ht hi hsz g off n cap ad c u hu h1 hroom hth hfr
  unfold Oper.wpIn
  refine ⟨?_, ?_⟩
  · simp [Oper.about, ho, resolve, Target.leads, Sem.run_pure]
  · rw [Oper.semAt_plain F _ _ (by rw [ho]; intro c hc'; cases hc')]
    simp [execOp, ho, resolve, invoke, builtin, hs, hx, hr, Result.andThen]
    exact hK _ _ h
theorem wpListIn_as {F : Fence} {n : Nat} {P : Program} {ops : Array Oper} {l : List Oper} {Q : Exit → Act → World → Prop} {a : Act} {w : World} (Fa : World → Prop) (h : Fa w) (k : ∀ W, Fa W → wpListIn F n P ops Q l a W) : wpListIn F n P ops Q l a w := k w h
theorem wpIn_as {F : Fence} {n : Nat} {P : Program} {c : Code} {Q : Exit → Act → World → Prop} {a : Act} {w : World} (Fa : World → Prop) (h : Fa w) (k : ∀ W, Fa W → c.wpIn F n P Q a W) : c.wpIn F n P Q a w := k w h

/-- Q, where nothing panics. -/
def calmQ (Q : Exit → Act → World → Prop) : Exit → Act → World → Prop := fun e a w => match e with | .panic _ => False | e => Q e a w
theorem calmQ_le {Q : Exit → Act → World → Prop} : ∀ e a w, calmQ Q e a w → Q e a w := fun e a w h => by cases e <;> first | exact h | exact h.elim
/-- A region by a plan in which nothing panics. -/
theorem wp_region_calmplan {P : Program} {Q : Exit → Act → World → Prop} {id : Nat} {a : Act} {w : World} {l : List Oper} (z : Nat) (pl : List (Bool × Nat)) (C : World → Prop) (hm : P.follows .mixedOrders = true) (hB : Region.planB .any l.toArray z pl = true)
    (hC : C w.drew) (h : wpPlan P l.toArray C z (calmQ Q) pl a w.drew) : (Code.region id l.toArray true).wp P Q a w :=
  Code.wp_mono calmQ_le (wp_region_plan z pl C hm hB (fun _ _ _ _ _ h => h) hC h)
theorem calmQ_normal {Q : Exit → Act → World → Prop} {a : Act} {w : World} (h : Q .normal a w) : calmQ Q .normal a w := h
end Go
namespace Go
open Go.RowKit
theorem q_as {Q : Exit → Act → World → Prop} {a : Act} {w : World} (F : World → Prop) (h : F w) (k : ∀ W, F W → Q .normal a W) : Q .normal a w := k w h
theorem there_setCells {w : World} {b o n : Nat} (h : w.there b o n) (b' o' : Nat) : ∀ (vs : List Value), (w.setCells b' o' vs).there b o n := fun vs => by
  induction vs generalizing o' w with
  | nil => exact h
  | cons v r ih => exact ih (there_setCell h ⟨b', o', none⟩ v) (o' + 1)
end Go
