/-
  REGIONS THAT DRAW THEIR ORDER, WALKED BY A PLAN: a list of the operations' numbers; each is either TAKEN FIRST (it only reads, and yields one value in every world of the class C, wherever it comes) or THE ONLY ONE THAT MAY COME UP (a call, an allocation, an append, a store). C is shown anew behind each operation that is carried out, but for the one (z) that waits for all others.
  The library's 'wpAnyH' (Derived/OrdersHeld.lean) with two turns: C need not hold behind z; the plan is one list.
-/
import Derived.OrdersHeld
import Derived.StillTail
import Derived.Deep.Quiet
namespace Go

section
variable {P : Program} {ops : Array Oper} {md : Region.Mode} {Q : Exit → Act → World → Prop} {C : World → Prop} {z : Nat}

def wpAnyE (P : Program) (md : Region.Mode) (ops : Array Oper) (Q : Exit → Act → World → Prop) (C : World → Prop) (z : Nat) : Nat → Array Bool → Act → World → Prop
  | 0, listed, a, w => Region.ready md ops listed = [] ∧ Q .normal a w
  | f + 1, listed, a, w =>
    (Region.ready md ops listed = [] → Q .normal a w) ∧
    ∀ i ∈ Region.ready md ops listed, wpOp P ops Q i (fun a' w' => (i ≠ z → C w') ∧ wpAnyE P md ops Q C z f (listed.setIfInBounds i true) a' w') a w

theorem wpAny_of_E : ∀ (f : Nat) (listed : Array Bool) (a : Act) (w : World), wpAnyE P md ops Q C z f listed a w → wpAny P md ops Q f listed a w
  | 0, _, _, _, h => h
  | f + 1, _, _, _, h => ⟨h.1, fun i hi => wpOp_mono (fun a' w' h' => wpAny_of_E f _ a' w' h'.2) (h.2 i hi)⟩

/-- What is listed has what it waits for listed. -/
def Closed (md : Region.Mode) (ops : Array Oper) (listed : Array Bool) : Prop :=
  ∀ j oj, ops[j]? = some oj → listed.getD j false = true → ∀ e ∈ oj.after, Region.binds md e = true → listed.getD e.on false = true
theorem Closed.init (n : Nat) : Closed md ops (Array.replicate n false) := fun j oj _ hl => by rw [getD_replicate_false] at hl; cases hl
theorem Closed.set {listed : Array Bool} {i : Nat} (h : Closed md ops listed) (hi : i ∈ Region.ready md ops listed) : Closed md ops (listed.setIfInBounds i true) := fun j oj hj hl e he hb => by
  obtain ⟨_, oi, hoi, hall⟩ := mem_ready.1 hi
  by_cases hij : i = j
  · subst hij
    have : oj = oi := Option.some.inj (hj.symm.trans hoi)
    subst this
    exact getD_set_true (hall e he hb)
  · rw [getD_set_ne false hij] at hl
    exact getD_set_true (h j oj hj hl e he hb)

/-- z waits for i, by steps. -/
def Region.reach (md : Region.Mode) (ops : Array Oper) : Nat → Nat → Nat → Bool
  | 0, z, i => Region.waitsFor md ops z i
  | k + 1, z, i => Region.waitsFor md ops z i || (List.range z).any fun j => Region.waitsFor md ops z j && Region.reach md ops k j i
/-- z waits for all others, by steps. -/
def Region.lastB (md : Region.Mode) (ops : Array Oper) (z : Nat) : Bool :=
  decide (ops.size ≤ z) || (List.range ops.size).all fun i => decide (i = z) || Region.reach md ops 8 z i
theorem reach_listed {listed : Array Bool} (hcl : Closed md ops listed) : ∀ (k z i : Nat), (∀ j, Region.waitsFor md ops z j = true → listed.getD j false = true) → Region.reach md ops k z i = true → listed.getD i false = true
  | 0, z, i, hz, h => hz i h
  | k + 1, z, i, hz, h => by
    unfold Region.reach at h
    rw [Bool.or_eq_true] at h
    rcases h with h | h
    · exact hz i h
    · obtain ⟨j, _, hj⟩ := List.any_eq_true.1 h
      rw [Bool.and_eq_true] at hj
      refine reach_listed hcl k j i (fun j' hj' => ?_) hj.2
      obtain ⟨ok, hok, e', he', hb', hon'⟩ := Region.waitsFor_spec hj'
      have h3 := hcl j ok hok (hz j hj.1) e' he' hb'
      rw [hon'] at h3
      exact h3
theorem last_waits (h : Region.lastB md ops z = true) {listed : Array Bool} (hcl : Closed md ops listed) {i : Nat} (hi : i ∈ Region.ready md ops listed) (hz : z ∈ Region.ready md ops listed) : i = z := by
  obtain ⟨hun, oi, hoi, _⟩ := mem_ready.1 hi
  obtain ⟨_, oz, hoz, hall⟩ := mem_ready.1 hz
  have his : i < ops.size := (Array.getElem?_eq_some_iff.1 hoi).1
  have hzs : z < ops.size := (Array.getElem?_eq_some_iff.1 hoz).1
  unfold Region.lastB at h
  rw [Bool.or_eq_true, decide_eq_true_eq] at h
  rcases h with h | h
  · omega
  · have h1 := List.all_eq_true.1 h i (List.mem_range.2 his)
    rw [Bool.or_eq_true, decide_eq_true_eq] at h1
    rcases h1 with h1 | h1
    · exact h1
    · have h2 := reach_listed hcl 8 z i (fun j hj => by
        obtain ⟨oj, hoj, e, he, hb, hon⟩ := Region.waitsFor_spec hj
        obtain rfl : oj = oz := Option.some.inj (hoj.symm.trans hoz)
        have h2 := hall e he hb
        rw [hon] at h2
        exact h2) h1
      rw [getD_both hun] at h2
      cases h2

theorem wpAnyE_first {i : Nat} {oi : Oper} {v : Value} (hi : ops[i]? = some oi) (hsel : ∀ (j : Nat) (o : Oper) cs b, ops[j]? = some o → o.op ≠ .select cs b) (hlast : Region.lastB md ops z = true)
    (hQ : ∀ c a w, Q (.panic c) (a.put oi.dst v) w → Q (.panic c) a w) :
    ∀ (f : Nat) (listed : Array Bool) (a : Act) (w : World), Closed md ops listed →
      (∀ j oj, ops[j]? = some oj → j ≠ i → listed.getD j true = false → (∀ e ∈ oj.after, Region.binds md e = true → e.on ≠ i) → oi.apart ops oj = true) →
      i ∈ Region.ready md ops listed → YieldsIf P ops C oi v a → C w →
      wpAnyE P md ops Q C z f (listed.setIfInBounds i true) (a.put oi.dst v) w → wpAnyE P md ops Q C z (f + 1) listed a w := by
  intro f
  induction f with
  | zero =>
    intro listed a w _ _ hr hy hS H
    refine ⟨fun h => (by rw [h] at hr; cases hr), fun j hj => ?_⟩
    by_cases hji : j = i
    · subst hji; exact hy.wpOp hi hS ⟨fun _ => hS, H⟩
    · have := ready_mono hj hji
      rw [H.1] at this
      cases this
  | succ f ih =>
    intro listed a w hcl hfree hr hy hS H
    refine ⟨fun h => (by rw [h] at hr; cases hr), fun j hj => ?_⟩
    by_cases hji : j = i
    · subst hji; exact hy.wpOp hi hS ⟨fun _ => hS, H⟩
    · have h1 := H.2 j (ready_mono hj hji)
      have hjz : j ≠ z := fun h => hji (by rw [h] at hj ⊢; exact (last_waits hlast hcl hr hj).symm)
      obtain ⟨hjun, oj, hoj, hall⟩ := mem_ready.1 hj
      have hnot : ∀ e ∈ oj.after, Region.binds md e = true → e.on ≠ i := fun e he hb heq => by
        have h1 := hall e he hb
        rw [heq, getD_both (mem_ready.1 hr).1] at h1
        cases h1
      have h2 := wpOp_putIf hoj (hfree j oj hoj hji hjun hnot) (fun cs b => hsel i oi cs b hi) (fun cs b => hsel j oj cs b hoj) hQ hy h1
      have hfree' : ∀ k ok, ops[k]? = some ok → k ≠ i → (listed.setIfInBounds j true).getD k true = false →
          (∀ e ∈ ok.after, Region.binds md e = true → e.on ≠ i) → oi.apart ops ok = true := fun k ok hk hki hun hno => by
        refine hfree k ok hk hki ?_ hno
        by_cases hjk : j = k
        · subst hjk; exact hjun
        · rw [getD_set_ne true hjk] at hun; exact hun
      refine wpOp_mono (fun a' w' h3 => ⟨h3.2.1, ih (listed.setIfInBounds j true) a' w' (hcl.set hj) hfree' (ready_mono hr (Ne.symm hji)) h3.1 (h3.2.1 hjz) ?_⟩) h2
      rw [Array.setIfInBounds_comm _ _ hji]
      exact h3.2.2

/-- Operations that hand a value on, or stop: no call, no store. -/
def Op.plain : Op → Bool
  | .move _ | .assign _ | .pick .. | .build .. | .load .. | .binOp .. | .unOp .. | .convert .. | .makeInterface .. | .makeFunc .. | .slice .. | .fieldAddr .. | .indexAddr .. | .field .. | .index .. | .extract .. | .typeAssert .. => true
  | .nilCheck _ => true
  | _ => false

/-- It yields a value, or stops. -/
def VH (P : Program) (m : Sem Next) : Prop := ∀ w, (∃ u w', m.run P w = .ok (.value u) w') ∨ ∃ x w', m.run P w = .halt x w'
theorem VH.value (u : Value) : VH P (pure (.value u)) := fun w => .inl ⟨u, w, rfl⟩
theorem VH.bind {α : Type} (m : Sem α) {k : α → Sem Next} (h : ∀ x, VH P (k x)) : VH P (m >>= k) := fun w => by
  rw [Sem.run_bind]
  generalize m.run P w = r
  cases r with
  | ok u w1 => rw [Result.andThen_ok]; exact h u w1
  | halt x w1 => exact .inr ⟨x, w1, rfl⟩
theorem VH.panic : VH P (runtimePanic .nilDeref) := fun w => by
  refine .inr ?_
  simp [runtimePanic, goPanic]

theorem vh_plain {o : Oper} (ho : o.op.plain = true) (ρ : Operand → Value) : VH P (execOp ρ o) := by
  obtain ⟨dst, op, ty, pos, aft, g⟩ := o
  cases op <;> simp only [Op.plain, Bool.false_eq_true] at ho
  case nilCheck x =>
    unfold execOp
    simp only
    split
    · exact VH.panic
    · exact VH.panic
    · exact VH.panic
    · split
      · exact VH.panic
      · refine VH.bind _ fun _ => VH.bind _ fun b => ?_
        split
        · exact VH.bind _ fun _ => VH.value _
        · exact VH.value _
      · exact VH.value _
    · exact VH.value _
  all_goals first
    | exact VH.value _
    | exact VH.bind _ fun _ => VH.value _

theorem quiet_plain {o : Oper} (ho : o.op.plain = true) {a : Act} {w : World} {v : Value} (h : o.quietAt P a C w v) : (execOp a.eval o).run P w = .ok (.value v) w := by
  unfold Oper.quietAt at h
  rcases vh_plain (P := P) ho a.eval w with ⟨u, w', hr⟩ | ⟨x, w', hr⟩
  · rw [hr] at h ⊢
    simp only [Oper.quietUpon] at h
    rw [h.1, h.2]
  · rw [hr] at h
    simp [Oper.quietUpon] at h
/-- The way on behind an operation that is carried out. -/
def onward (Q : Exit → Act → World → Prop) (C : World → Prop) (last : Bool) (K : Act → World → Prop) : Exit → Act → World → Prop
  | .normal, a, w => (last = false → C w) ∧ K a w
  | e, a, w => Q e a w

theorem onward_normal {last : Bool} {K : Act → World → Prop} {a : Act} {w : World} (h1 : last = false → C w) (h2 : K a w) : onward Q C last K .normal a w := ⟨h1, h2⟩

/-- The plan: 'true': taken first; 'false': the only one that may come up. -/
def wpPlan (P : Program) (ops : Array Oper) (C : World → Prop) (z : Nat) (Q : Exit → Act → World → Prop) : List (Bool × Nat) → Act → World → Prop
  | [], a, w => Q .normal a w
  | (true, i) :: r, a, w => ∃ o, ops[i]? = some o ∧ wpQuiet P ops C (fun a' => wpPlan P ops C z Q r a' w) [o] a
  | (false, i) :: r, a, w => ∃ o, ops[i]? = some o ∧ wpList P ops (onward Q C (i == z) (fun a' w' => wpPlan P ops C z Q r a' w')) [o] a w

theorem wpPlan_q {i : Nat} {r : List (Bool × Nat)} {a : Act} {w : World} {o : Oper} (ho : ops[i]? = some o) (h : wpQuiet P ops C (fun a' => wpPlan P ops C z Q r a' w) [o] a) : wpPlan P ops C z Q ((true, i) :: r) a w := ⟨o, ho, h⟩
theorem wpPlan_e {i : Nat} {r : List (Bool × Nat)} {a : Act} {w : World} {o : Oper} (ho : ops[i]? = some o) (h : wpList P ops (onward Q C (i == z) (fun a' w' => wpPlan P ops C z Q r a' w')) [o] a w) : wpPlan P ops C z Q ((false, i) :: r) a w := ⟨o, ho, h⟩
theorem wpPlan_nil {a : Act} {w : World} (h : Q .normal a w) : wpPlan P ops C z Q [] a w := h

def Region.planFrom (md : Region.Mode) (ops : Array Oper) (z : Nat) : List (Bool × Nat) → Array Bool → Bool
  | [], listed => Region.ready md ops listed == []
  | (true, i) :: r, listed => (Region.ready md ops listed).contains i && Region.free md ops listed i && (match ops[i]? with | some o => o.op.plain | none => false) && Region.planFrom md ops z r (listed.setIfInBounds i true)
  | (false, i) :: r, listed => (Region.ready md ops listed == [i]) && (i != z || r.isEmpty) && Region.planFrom md ops z r (listed.setIfInBounds i true)
def Region.planB (md : Region.Mode) (ops : Array Oper) (z : Nat) (pl : List (Bool × Nat)) : Bool :=
  Region.noSelect ops && Region.lastB md ops z && decide (pl.length = ops.size) && Region.planFrom md ops z pl (Array.replicate ops.size false)

theorem wp_onward {o : Oper} {last : Bool} {K K' : Act → World → Prop} {a : Act} {w : World} (hk : ∀ a w, K a w → K' a w) (h : o.wp P a w K (onward Q C last K')) : o.wp P a w K' Q := by
  unfold Oper.wp at *
  generalize (execOp a.eval o).run P w = r at *
  cases r with
  | ok n w' =>
    cases n <;> simp only [Oper.upon] at h ⊢
    case value u => exact hk _ _ h
    case skip => exact hk _ _ h
    case defer d => exact hk _ _ h
    case enter f args =>
      refine Calls.mono h fun e w'' he => ?_
      cases e with
      | returned u => exact hk _ _ he
      | panicked c => exact he
      | outgrown => exact he
    case row row args => exact Rows.mono h fun u w'' he => hk _ _ he
  | halt x w' =>
    cases x <;> simp only [Oper.upon] at h ⊢
    case panic u => exact h

theorem wpOp_of_list {o : Oper} {i : Nat} {last : Bool} {K : Act → World → Prop} {a : Act} {w : World} (ho : ops[i]? = some o) (h : wpList P ops (onward Q C last K) [o] a w) : wpOp P ops Q i (fun a' w' => (last = false → C w') ∧ K a' w') a w := by
  unfold wpOp
  simp only [ho]
  unfold wpList at h
  split at h
  · rename_i hw
    rw [if_pos hw]
    rcases h with h | ⟨h1, h2⟩
    · refine .inl ?_
      have : o.wp P a w (fun a' w' => (last = false → C w') ∧ K a' w') (onward Q C last (fun a' w' => (last = false → C w') ∧ K a' w')) := by
        unfold Oper.wp at *
        generalize (execOp a.eval o).run P w = r at *
        cases r with
        | ok n w' =>
          cases n <;> simp only [Oper.upon] at h ⊢
          case value u => exact h
          case skip => exact h
          case defer d => exact h
          case enter f args =>
            refine Calls.mono h fun e w'' he => ?_
            cases e with
            | returned u => exact he
            | panicked c => exact he
            | outgrown => exact he
          case row row args => exact Rows.mono h fun u w'' he => he
        | halt x w' =>
          cases x <;> simp only [Oper.upon] at h ⊢
          case panic u => exact h
      exact wp_onward (fun _ _ h => h) this
    · exact .inr ⟨h1, h2⟩
  · rename_i hw
    rw [if_neg hw]
    exact h

theorem wpAnyE_of_plan (hsel : Region.noSelect ops = true) (hlast : Region.lastB md ops z = true) (hQ : ∀ c a d v w, Q (.panic c) (a.put d v) w → Q (.panic c) a w) :
    ∀ (pl : List (Bool × Nat)) (listed : Array Bool) (a : Act) (w : World), Closed md ops listed → C w → Region.planFrom md ops z pl listed = true → wpPlan P ops C z Q pl a w → wpAnyE P md ops Q C z pl.length listed a w
  | [], listed, a, w, _, _, hB, h => ⟨by simpa [Region.planFrom] using hB, h⟩
  | (true, i) :: r, listed, a, w, hcl, hC, hB, h => by
    obtain ⟨o, ho, h⟩ := h
    simp only [Region.planFrom, Bool.and_eq_true, ho] at hB
    obtain ⟨⟨⟨hr, hf⟩, hp⟩, hB⟩ := hB
    have hr' : i ∈ Region.ready md ops listed := by simpa using hr
    unfold wpQuiet at h
    split at h
    · rename_i hw
      obtain ⟨v, hv, h⟩ := h
      exact wpAnyE_first ho (Region.noSelect_spec hsel) hlast (fun c a w => hQ c a _ _ w) r.length listed a w hcl (Region.free_spec ho hf) hr' (.inl ⟨hw, fun w' hw' => quiet_plain hp (hv w' hw')⟩) hC
        (wpAnyE_of_plan hsel hlast hQ r _ _ _ (hcl.set hr') hC hB h)
    · rename_i hw
      exact wpAnyE_first ho (Region.noSelect_spec hsel) hlast (fun c a w => hQ c a _ _ w) r.length listed a w hcl (Region.free_spec ho hf) hr' (.inr ⟨by simpa using hw, rfl⟩) hC
        (wpAnyE_of_plan hsel hlast hQ r _ _ _ (hcl.set hr') hC hB h)
  | (false, i) :: r, listed, a, w, hcl, hC, hB, h => by
    obtain ⟨o, ho, h⟩ := h
    simp only [Region.planFrom, Bool.and_eq_true, beq_iff_eq] at hB
    obtain ⟨⟨hr, hz0⟩, hB⟩ := hB
    refine ⟨fun h0 => (by rw [hr] at h0; cases h0), fun j hj0 => ?_⟩
    have hj := hj0
    rw [hr] at hj
    have hji : j = i := by simpa using hj
    subst hji
    refine wpOp_mono (fun a' w' h' => ⟨fun hz => h'.1 (by simpa using hz), ?_⟩) (wpOp_of_list ho h)
    by_cases hz : j = z
    · have hr0 : r = [] := by simpa [hz] using hz0
      subst hr0
      exact ⟨by simpa [Region.planFrom] using hB, h'.2⟩
    · exact wpAnyE_of_plan hsel hlast hQ r _ _ _ (hcl.set hj0) (h'.1 (by simpa using hz)) hB h'.2

/-- A REGION BY A PLAN. -/
theorem wp_region_plan {id : Nat} {a : Act} {w : World} {l : List Oper} (z : Nat) (pl : List (Bool × Nat)) (C : World → Prop) (hm : P.follows .mixedOrders = true) (hB : Region.planB .any l.toArray z pl = true)
    (hQ : ∀ c a d v w, Q (.panic c) (a.put d v) w → Q (.panic c) a w) (hC : C w.drew) (h : wpPlan P l.toArray C z Q pl a w.drew) : (Code.region id l.toArray true).wp P Q a w := by
  simp only [Region.planB, Bool.and_eq_true, decide_eq_true_eq] at hB
  obtain ⟨⟨⟨hsel, hlast⟩, hlen⟩, hpl⟩ := hB
  refine wp_region_any hm ?_
  have := wpAny_of_E _ _ _ _ (wpAnyE_of_plan hsel hlast hQ pl _ a w.drew (Closed.init _) hC hpl h)
  rw [hlen] at this
  exact this

/-- The worlds that meet S, as one parameter (so the library's quiet steps see through it). -/
structure Wld (S : World → Prop) where
  w : World
  h : S w
def InS (S : World → Prop) : World → Prop := fun w' => ∃ x : Wld S, w' = x.w
theorem inS {S : World → Prop} {w : World} (h : S w) : ∃ x : Wld S, w = x.w := ⟨⟨w, h⟩, rfl⟩
end
end Go
