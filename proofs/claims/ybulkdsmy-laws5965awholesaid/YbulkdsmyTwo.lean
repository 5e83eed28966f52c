/-
  REGIONS BY A PLAN, WITH TWO ALLOCATIONS IN THE MIDST: a plan, then two new blocks in either order, then a plan.
-/
import Derived.Test.YbulkdsmyPlan
import Derived.Test.YbulkdsmyCalm
namespace Go
open Go.RowKit

section
variable {P : Program} {ops : Array Oper} {md : Region.Mode} {Q : Exit → Act → World → Prop} {C : World → Prop} {z : Nat}

/-- A plan of operations that are all taken first, and what follows. -/
def wpTake (P : Program) (ops : Array Oper) (C : World → Prop) (K : Act → Prop) : List Nat → Act → Prop
  | [], a => K a
  | i :: r, a => ∃ o, ops[i]? = some o ∧ wpQuiet P ops C (fun a' => wpTake P ops C K r a') [o] a
theorem wpTake_q {K : Act → Prop} {i : Nat} {r : List Nat} {a : Act} {o : Oper} (ho : ops[i]? = some o) (h : wpQuiet P ops C (fun a' => wpTake P ops C K r a') [o] a) : wpTake P ops C K (i :: r) a := ⟨o, ho, h⟩
theorem wpTake_nil {K : Act → Prop} {a : Act} (h : K a) : wpTake P ops C K [] a := h

def Region.takeTo (md : Region.Mode) (ops : Array Oper) : List Nat → Array Bool → Option (Array Bool)
  | [], listed => some listed
  | i :: r, listed => if (Region.ready md ops listed).contains i && Region.free md ops listed i && (match ops[i]? with | some o => o.op.plain | none => false) then Region.takeTo md ops r (listed.setIfInBounds i true) else none

theorem wpAnyE_of_take (hsel : Region.noSelect ops = true) (hlast : Region.lastB md ops z = true) (hQ : ∀ c a d v w, Q (.panic c) (a.put d v) w → Q (.panic c) a w) {g : Nat} {K : Act → Prop} {w : World} (hC : C w) :
    ∀ (pl : List Nat) (listed : Array Bool) (a : Act) (L : Array Bool), Closed md ops listed → Region.takeTo md ops pl listed = some L → (Closed md ops L → ∀ a, K a → wpAnyE P md ops Q C z g L a w) → wpTake P ops C K pl a → wpAnyE P md ops Q C z (pl.length + g) listed a w
  | [], listed, a, L, hcl, hB, hK, h => by
    have : listed = L := by simpa [Region.takeTo] using hB
    subst this
    rw [List.length_nil, Nat.zero_add]
    exact hK hcl a h
  | i :: r, listed, a, L, hcl, hB, hK, h => by
    obtain ⟨o, ho, h⟩ := h
    simp only [Region.takeTo, ho] at hB
    split at hB
    · rename_i hc
      simp only [Bool.and_eq_true] at hc
      obtain ⟨⟨hr, hf⟩, hp⟩ := hc
      have hr' : i ∈ Region.ready md ops listed := by simpa using hr
      rw [List.length_cons, show r.length + 1 + g = (r.length + g) + 1 by omega]
      unfold wpQuiet at h
      split at h
      · rename_i hw
        obtain ⟨v, hv, h⟩ := h
        exact wpAnyE_first ho (Region.noSelect_spec hsel) hlast (fun c a w => hQ c a _ _ w) (r.length + g) listed a w hcl (Region.free_spec ho hf) hr' (.inl ⟨hw, fun w' hw' => quiet_plain hp (hv w' hw')⟩) hC
          (wpAnyE_of_take hsel hlast hQ hC r _ _ L (hcl.set hr') hB hK h)
      · rename_i hw
        exact wpAnyE_first ho (Region.noSelect_spec hsel) hlast (fun c a w => hQ c a _ _ w) (r.length + g) listed a w hcl (Region.free_spec ho hf) hr' (.inr ⟨by simpa using hw, rfl⟩) hC
          (wpAnyE_of_take hsel hlast hQ hC r _ _ L (hcl.set hr') hB hK h)
    · cases hB

theorem wpOp_new {i : Nat} {o : Oper} {ty : TypeId} {Z : Array Value} (ho : ops[i]? = some o) (hn : IsNew P o ty Z) {K : Act → World → Prop} {a : Act} {w : World} (h : K (a.put o.dst (ptrTo w.heap.size)) (w.alloc (.cells Z ty))) : wpOp P ops Q i K a w := by
  obtain ⟨h1, h2, h3⟩ := hn
  unfold wpOp
  simp only [ho]
  rw [if_pos (by simp [Region.wanted, h2])]
  refine .inl ?_
  unfold Oper.wp execOp
  simp only [h1, Sem.run_bind, h3, Result.andThen_ok, Sem.run_pure, Oper.upon]
  exact h

def Region.twoB (md : Region.Mode) (ops : Array Oper) (z : Nat) (p1 : List Nat) (i j : Nat) (p2 : List (Bool × Nat)) : Bool :=
  Region.noSelect ops && Region.lastB md ops z && decide (p1.length + (p2.length + 2) = ops.size) && decide (i ≠ z) && decide (j ≠ z) && decide (i ≠ j) &&
  match Region.takeTo md ops p1 (Array.replicate ops.size false) with
  | some L => (Region.ready md ops L == [i, j]) && (Region.ready md ops (L.setIfInBounds i true) == [j]) && (Region.ready md ops (L.setIfInBounds j true) == [i]) && Region.planFrom md ops z p2 ((L.setIfInBounds i true).setIfInBounds j true)
  | none => false

theorem wp_region_two {id : Nat} {a : Act} {w : World} {l : List Oper} (z : Nat) (p1 : List Nat) (i j : Nat) (p2 : List (Bool × Nat)) (C : World → Prop) (hm : P.follows .mixedOrders = true) (hB : Region.twoB .any l.toArray z p1 i j p2 = true)
    (hQ : ∀ c a d v w, Q (.panic c) (a.put d v) w → Q (.panic c) a w) (hC : C w.drew) (hal : ∀ w o, C w → C (w.alloc o))
    (o1 o2 : Oper) (h1 : l[i]? = some o1) (h2 : l[j]? = some o2) {t1 t2 : TypeId} {Z1 Z2 : Array Value} (n1 : IsNew P o1 t1 Z1) (n2 : IsNew P o2 t2 Z2) (hd : ∀ d, o1.dst = some d → o2.dst ≠ some d)
    (h : wpTake P l.toArray C (fun a' => ∀ p q w', InB w w' → p ≠ q → w.heap.size ≤ p → w.heap.size ≤ q → w'.heap[p]? = some (.cells Z1 t1) → w'.heap[q]? = some (.cells Z2 t2) → C w' →
      wpPlan P l.toArray C z Q p2 ((a'.put o1.dst (ptrTo p)).put o2.dst (ptrTo q)) w') p1 a) : (Code.region id l.toArray true).wp P Q a w := by
  simp only [Region.twoB, Bool.and_eq_true, decide_eq_true_eq] at hB
  obtain ⟨⟨⟨⟨⟨⟨hsel, hlast⟩, hlen⟩, hiz⟩, hjz⟩, hij⟩, hB⟩ := hB
  split at hB
  case h_2 => cases hB
  rename_i L hL
  simp only [Bool.and_eq_true, beq_iff_eq] at hB
  obtain ⟨⟨⟨hr0, hr1⟩, hr2⟩, hpl⟩ := hB
  have e1 : l.toArray[i]? = some o1 := by simpa using h1
  have e2 : l.toArray[j]? = some o2 := by simpa using h2
  have dr : InB w w.drew := ⟨rfl, rfl, rfl, Nat.le_refl _, fun _ _ => rfl⟩
  have new : ∀ (A : World) (o : Obj) (B : World), InB (A.alloc o) B → B.heap[A.heap.size]? = some o := fun A o B k => by
    rw [k.block A.heap.size (by simp)]; show (A.heap.push o)[A.heap.size]? = _; simp
  refine wp_region_any hm ?_
  have := wpAny_of_E _ _ _ _ (wpAnyE_of_take (P := P) (Q := Q) (C := C) (z := z) hsel hlast hQ (g := p2.length + 2) hC p1 _ a L (Closed.init _) hL (fun hcl a' ha' => by
    have mi : i ∈ Region.ready .any l.toArray L := by rw [hr0]; simp
    have mj : j ∈ Region.ready .any l.toArray L := by rw [hr0]; simp
    have mj' : j ∈ Region.ready .any l.toArray (L.setIfInBounds i true) := by rw [hr1]; simp
    refine ⟨fun h0 => (by rw [hr0] at h0; cases h0), fun k hk => ?_⟩
    rw [hr0] at hk
    simp only [List.mem_cons, List.not_mem_nil, or_false] at hk
    rcases hk with rfl | rfl
    · refine wpOp_new e1 n1 ⟨fun _ => hal _ _ hC, ?_⟩
      refine ⟨fun h0 => (by rw [hr1] at h0; cases h0), fun k' hk' => ?_⟩
      rw [hr1] at hk'
      obtain rfl : k' = j := by simpa using hk'
      refine wpOp_new e2 n2 ⟨fun _ => hal _ _ (hal _ _ hC), ?_⟩
      refine wpAnyE_of_plan hsel hlast hQ p2 _ _ _ ((hcl.set mi).set mj') (hal _ _ (hal _ _ hC)) hpl ?_
      have k1 : InB (w.drew.alloc (.cells Z1 t1)) ((w.drew.alloc (.cells Z1 t1)).alloc (.cells Z2 t2)) := (InB.refl _).alloc _
      exact ha' _ _ _ ((dr.alloc _).trans k1) (by simp) (by simp) (by simp) (new w.drew _ _ k1) (new _ _ _ (InB.refl _)) (hal _ _ (hal _ _ hC))
    · refine wpOp_new e2 n2 ⟨fun _ => hal _ _ hC, ?_⟩
      refine ⟨fun h0 => (by rw [hr2] at h0; cases h0), fun k' hk' => ?_⟩
      rw [hr2] at hk'
      obtain rfl : k' = i := by simpa using hk'
      refine wpOp_new e1 n1 ⟨fun _ => hal _ _ (hal _ _ hC), ?_⟩
      rw [Array.setIfInBounds_comm _ _ (Ne.symm hij)]
      refine wpAnyE_of_plan hsel hlast hQ p2 _ _ _ ((hcl.set mi).set mj') (hal _ _ (hal _ _ hC)) hpl ?_
      rw [← Act.put_comm a' _ _ hd]
      have k1 : InB (w.drew.alloc (.cells Z2 t2)) ((w.drew.alloc (.cells Z2 t2)).alloc (.cells Z1 t1)) := (InB.refl _).alloc _
      exact ha' _ _ _ ((dr.alloc _).trans k1) (by simp) (by simp) (by simp) (new _ _ _ (InB.refl _)) (new w.drew _ _ k1) (hal _ _ (hal _ _ hC))) h)
  rw [hlen] at this
  exact this
end
end Go
