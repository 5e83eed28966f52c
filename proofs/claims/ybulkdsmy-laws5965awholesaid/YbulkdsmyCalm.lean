/-
  REGIONS THAT DRAW THEIR ORDER, WITH TWO ALLOCATIONS BEHIND A QUIET HEAD ('a, b := f(x), g(y)'): the head's operations (loads, calls that leave new blocks alone behind) are walked once, in the order of the text, whenever the allocations come; then the two blocks lie anywhere among the new ones, apart; then the tail goes in its own order.
-/
import Derived.Test.YbulkdsmyQT
namespace Go
open Go.RowKit

section
variable {P : Program} {ops : Array Oper} {md : Region.Mode}

def InB (W : World) : World → Prop := fun w' => Below W.heap.size W w'
theorem InB.refl (W : World) : InB W W := Below.refl _ _
theorem InB.trans {A B C : World} (h : InB A B) (k : InB B C) : InB A C := Below.trans h (Below.mono k h.size)
theorem InB.alloc {A B : World} (h : InB A B) (o : Obj) : InB A (B.alloc o) := Below.alloc h h.size o

def ptrTo (b : Nat) : Value := .pointer (some ⟨b, 0, none⟩)

/-- In the frame a, in every world over W, the operation yields v, and leaves a world over the one that it got. -/
def Calmly (P : Program) (ops : Array Oper) (o : Oper) (a : Act) (W : World) (v : Value) : Prop :=
  Region.wanted o (yielded ops a.tmps) = true ∧ ∀ W1, InB W W1 → o.quietAt P a (InB W1) W1 v

theorem Calmly.over {o : Oper} {a : Act} {W W' : World} {v : Value} (h : Calmly P ops o a W v) (k : InB W W') : Calmly P ops o a W' v :=
  ⟨h.1, fun W1 h1 => h.2 W1 (k.trans h1)⟩

theorem Calmly.of_same {o : Oper} {v : Value} {W : World} {a a' : Act} (hy : Calmly P ops o a W v) (he : execOp a'.eval o = execOp a.eval o)
    (hw : Region.wanted o (yielded ops a'.tmps) = Region.wanted o (yielded ops a.tmps)) : Calmly P ops o a' W v := by
  unfold Calmly Oper.quietAt at *
  rw [he, hw]
  exact hy

theorem quietUpon_mono {C C' : World → Prop} (h : ∀ w, C w → C' w) {w : World} {v : Value} {r : Result Next} (k : Oper.quietUpon P C w v r) : Oper.quietUpon P C' w v r := by
  unfold Oper.quietUpon at *
  split
  · exact k
  · exact k
  · exact ⟨k.1, k.2.mono fun _ _ ⟨h1, h2⟩ => ⟨h1, h _ h2⟩⟩
  · rename_i h1 h2 h3
    split at k
    · exact absurd rfl (h1 _ _)
    · exact absurd rfl (h2 _)
    · exact absurd rfl (h3 _ _ _)
    · exact k

theorem Calmly.quiet {o : Oper} {a : Act} {W : World} {v : Value} (h : Calmly P ops o a W v) {K : Act → Prop} (k : K (a.put o.dst v)) : o.quiet P a (InB W) K :=
  ⟨v, fun W1 h1 => quietUpon_mono (fun _ h2 => InB.trans h1 h2) (h.2 W1 h1), k⟩

/-- A new variable whose zero cells are Z. -/
def IsNew (P : Program) (o : Oper) (ty : TypeId) (Z : Array Value) : Prop :=
  o.op = .alloc ty ∧ o.guard = none ∧ ∀ w, Sem.run P (Instr.alloc ty true (.tuple #[])) w = .ok (ptrTo w.heap.size) (w.alloc (.cells Z ty))

/-- f operations of the head come up, in whatever order; then L. -/
def wpAl (P : Program) (md : Region.Mode) (ops : Array Oper) (n : Nat) (L : Array Bool → Act → World → Prop) : Nat → Array Bool → Act → World → Prop
  | 0, listed, a, W => L listed a W
  | f + 1, listed, a, W => Region.ready md ops listed ≠ [] ∧ ∀ i ∈ Region.ready md ops listed, i < n ∧ ∃ o, ops[i]? = some o ∧
      ((∃ ty Z, IsNew P o ty Z ∧ ∀ W', InB W W' → wpAl P md ops n L f (listed.setIfInBounds i true) (a.put o.dst (ptrTo W'.heap.size)) (W'.alloc (.cells Z ty))) ∨
       (∃ v, Calmly P ops o a W v ∧ wpAl P md ops n L f (listed.setIfInBounds i true) (a.put o.dst v) W))

theorem wpAl_over {n : Nat} {L : Array Bool → Act → World → Prop} (hL : ∀ listed a W W', InB W W' → L listed a W → L listed a W') :
    ∀ (f : Nat) (listed : Array Bool) (a : Act) (W W' : World), InB W W' → wpAl P md ops n L f listed a W → wpAl P md ops n L f listed a W'
  | 0, _, _, _, _, k, h => hL _ _ _ _ k h
  | f + 1, listed, a, W, W', k, h => ⟨h.1, fun i hi => by
    obtain ⟨hin, o, ho, hh⟩ := h.2 i hi
    refine ⟨hin, o, ho, ?_⟩
    rcases hh with ⟨ty, Z, hz, hw⟩ | ⟨v, hc, hw⟩
    · exact .inl ⟨ty, Z, hz, fun W1 h1 => hw W1 (k.trans h1)⟩
    · exact .inr ⟨v, hc.over k, wpAl_over hL f _ _ _ _ k hw⟩⟩

theorem wpAny_of_al {n g : Nat} {L : Array Bool → Act → World → Prop} {Q' : Exit → Act → World → Prop} (hO : ∀ listed a W W', InB W W' → L listed a W → L listed a W')
    (hL : ∀ listed a w, L listed a w → wpAny P md ops Q' g listed a w) :
    ∀ (f : Nat) (listed : Array Bool) (a : Act) (w : World), wpAl P md ops n L f listed a w → wpAny P md ops Q' (f + g) listed a w
  | 0, listed, a, w, h => by rw [Nat.zero_add]; exact hL _ _ _ h
  | f + 1, listed, a, w, h => by
    rw [show f + 1 + g = (f + g) + 1 by omega]
    refine ⟨fun h0 => absurd h0 h.1, fun i hi => ?_⟩
    obtain ⟨_, o, ho, hh⟩ := h.2 i hi
    rcases hh with ⟨ty, Z, ⟨h1, h2, h3⟩, hw⟩ | ⟨v, hc, hw⟩
    · unfold wpOp
      simp only [ho]
      rw [if_pos (by simp [Region.wanted, h2])]
      refine .inl ?_
      unfold Oper.wp execOp
      simp only [h1, Sem.run_bind, h3, Result.andThen_ok, Sem.run_pure, Oper.upon]
      exact wpAny_of_al hO hL f _ _ _ (hw w (InB.refl w))
    · refine wpOp_of_qOp (C := InB w) (K := fun a' => a' = a.put o.dst v) (InB.refl w) (fun a' w' hw' ha' => ?_) ?_
      · subst ha'
        exact wpAny_of_al hO hL f _ _ _ (wpAl_over hO f _ _ _ _ hw' hw)
      · unfold qOp
        simp only [ho]
        rw [if_pos hc.1]
        exact hc.quiet rfl

theorem wpAl_first {n i : Nat} {oi : Oper} {v : Value} {L : Array Bool → Act → World → Prop} (hi : ops[i]? = some oi) (hsel : ∀ (j : Nat) (o : Oper) cs b, ops[j]? = some o → o.op ≠ .select cs b)
    (hs : Region.sinkB md ops n = true) (hc : Region.chainB md ops n = true) (hn : n < ops.size) (hin : i < n) (hdone : ∀ listed a W, L listed a W → ∀ j ∈ Region.ready md ops listed, n ≤ j) :
    ∀ (f : Nat) (listed : Array Bool) (a : Act) (W : World), HeadInv md ops n listed →
      (∀ j oj, ops[j]? = some oj → j ≠ i → listed.getD j true = false → (∀ e ∈ oj.after, Region.binds md e = true → e.on ≠ i) → oi.apart ops oj = true) →
      i ∈ Region.ready md ops listed → Calmly P ops oi a W v →
      wpAl P md ops n L f (listed.setIfInBounds i true) (a.put oi.dst v) W → wpAl P md ops n L (f + 1) listed a W := by
  intro f
  induction f with
  | zero =>
    intro listed a W inv _ hr hy H
    refine ⟨fun h => (by rw [h] at hr; cases hr), fun j hj => ?_⟩
    have hjn : j < n := Nat.lt_of_not_le fun h => tail_waits hs hc hn inv _ i rfl hin (mem_ready.1 hr).1 j h hj
    refine ⟨hjn, ?_⟩
    by_cases hji : j = i
    · subst hji; exact ⟨oi, hi, .inr ⟨v, hy, H⟩⟩
    · have := hdone _ _ _ H j (ready_mono hj hji)
      omega
  | succ f ih =>
    intro listed a W inv hfree hr hy H
    have hun := (mem_ready.1 hr).1
    refine ⟨fun h => (by rw [h] at hr; cases hr), fun j hj => ?_⟩
    have hjn : j < n := Nat.lt_of_not_le fun h => tail_waits hs hc hn inv _ i rfl hin hun j h hj
    refine ⟨hjn, ?_⟩
    by_cases hji : j = i
    · subst hji; exact ⟨oi, hi, .inr ⟨v, hy, H⟩⟩
    · obtain ⟨hjun, oj, hoj, hall⟩ := mem_ready.1 hj
      have hnot : ∀ e ∈ oj.after, Region.binds md e = true → e.on ≠ i := fun e he hb heq => by
        have h1 := hall e he hb
        rw [heq, getD_both hun] at h1
        cases h1
      obtain ⟨p1, p2, p3⟩ := Oper.apart_spec (hfree j oj hoj hji hjun hnot)
      have hfree' : ∀ k ok, ops[k]? = some ok → k ≠ i → (listed.setIfInBounds j true).getD k true = false → (∀ e ∈ ok.after, Region.binds md e = true → e.on ≠ i) → oi.apart ops ok = true := fun k ok hk hki hunk hno => hfree k ok hk hki (by
        by_cases hjk : j = k
        · subst hjk; exact hjun
        · rw [getD_set_ne true hjk] at hunk; exact hunk) hno
      have keep : ∀ W' u, InB W W' → Calmly P ops oi (a.put oj.dst u) W' v := fun W' u k =>
        (hy.over k).of_same (execOp_put oi (fun cs b => hsel i oi cs b hi) a oj.dst u p3) (wanted_put oi a oj.dst u p3)
      obtain ⟨_, o', ho', hh⟩ := H.2 j (ready_mono hj hji)
      obtain rfl : o' = oj := Option.some.inj (ho'.symm.trans hoj)
      refine ⟨o', hoj, ?_⟩
      rcases hh with ⟨ty, Z, hz, hw⟩ | ⟨u, hu, hw⟩
      · refine .inl ⟨ty, Z, hz, fun W' k => ?_⟩
        refine ih (listed.setIfInBounds j true) _ _ (inv.set hj hjn) hfree' (ready_mono hr (Ne.symm hji)) (keep _ _ (k.alloc _)) ?_
        have := hw W' k
        rw [Array.setIfInBounds_comm _ _ hji, ← Act.put_comm a v _ p2]
        exact this
      · refine .inr ⟨u, hu.of_same (execOp_put o' (fun cs b => hsel j o' cs b hoj) a oi.dst v p1).symm (wanted_put o' a oi.dst v p1).symm, ?_⟩
        refine ih (listed.setIfInBounds j true) _ _ (inv.set hj hjn) hfree' (ready_mono hr (Ne.symm hji)) (keep _ _ (InB.refl _)) ?_
        rw [Array.setIfInBounds_comm _ _ hji, ← Act.put_comm a v _ p2]
        exact hw

/-- The head's quiet operations, in the order of the text. -/
def wpCalm (P : Program) (ops : Array Oper) (W : World) (Q : Act → Prop) : List Oper → Act → Prop
  | [], a => Q a
  | o :: rest, a => ∃ v, Calmly P ops o a W v ∧ wpCalm P ops W Q rest (a.put o.dst v)

/-- What stands listed behind the operations k, k+1, .. -/
def setFrom : Nat → Nat → Array Bool → Array Bool
  | 0, _, listed => listed
  | f + 1, k, listed => setFrom f (k + 1) (listed.setIfInBounds k true)
def Region.calmFrom (md : Region.Mode) (ops : Array Oper) : Nat → Nat → Array Bool → Bool
  | 0, _, _ => true
  | f + 1, k, listed => (Region.ready md ops listed).contains k && Region.free md ops listed k && Region.calmFrom md ops f (k + 1) (listed.setIfInBounds k true)

theorem wpAl_lex {n g : Nat} {W : World} {L : Array Bool → Act → World → Prop} (hsel : Region.noSelect ops = true) (hs : Region.sinkB md ops n = true) (hc : Region.chainB md ops n = true) (hn : n < ops.size) (hdone : ∀ listed a W, L listed a W → ∀ j ∈ Region.ready md ops listed, n ≤ j) :
    ∀ (l : List Oper) (k : Nat) (listed : Array Bool) (a : Act), (∀ j, j < l.length → l[j]? = ops[k + j]?) → k + l.length ≤ n → HeadInv md ops n listed →
    Region.calmFrom md ops l.length k listed = true → wpCalm P ops W (fun a' => wpAl P md ops n L g (setFrom l.length k listed) a' W) l a →
    wpAl P md ops n L (l.length + g) listed a W
  | [], k, listed, a, _, _, _, _, h => by rw [List.length_nil, Nat.zero_add]; exact h
  | o :: l, k, listed, a, hl, hk, inv, hB, h => by
    have h0 : ops[k]? = some o := by simpa using (hl 0 (by simp)).symm
    simp only [List.length_cons, Region.calmFrom, Bool.and_eq_true] at hB
    simp only [List.length_cons] at hk
    have hr : k ∈ Region.ready md ops listed := by simpa using hB.1.1
    obtain ⟨v, hy, hK⟩ := h
    rw [List.length_cons, show l.length + 1 + g = (l.length + g) + 1 by omega]
    refine wpAl_first h0 (Region.noSelect_spec hsel) hs hc hn (by omega) hdone _ listed a W inv (Region.free_spec h0 hB.1.2) hr hy ?_
    exact wpAl_lex hsel hs hc hn hdone l (k + 1) _ _ (fun j hj => by have := hl (j + 1) (by simp; omega); simpa [Nat.add_assoc, Nat.add_comm 1 j] using this) (by omega) (inv.set hr (by omega)) hB.2 hK

/-- m quiet operations, two allocations, the tail. -/
def Region.calmB (md : Region.Mode) (ops : Array Oper) (m : Nat) : Bool :=
  let L := setFrom m 0 (Array.replicate ops.size false)
  Region.noSelect ops && decide (m + 2 < ops.size) && Region.sinkB md ops (m + 2) && Region.chainB md ops (m + 2) && Region.calmFrom md ops m 0 (Array.replicate ops.size false) &&
  (Region.ready md ops L == [m, m + 1]) && (Region.ready md ops (L.setIfInBounds m true) == [m + 1]) && (Region.ready md ops (L.setIfInBounds (m + 1) true) == [m]) &&
  Region.seqB md ops (ops.size - (m + 2)) (m + 2) ((L.setIfInBounds m true).setIfInBounds (m + 1) true)

theorem wp_region_calm {id : Nat} {Q : Exit → Act → World → Prop} {a : Act} {w : World} {l : List Oper} (m : Nat) (hm : P.follows .mixedOrders = true) (hB : Region.calmB .any l.toArray m = true)
    (o1 o2 : Oper) (h1 : l[m]? = some o1) (h2 : l[m + 1]? = some o2) {t1 t2 : TypeId} {Z1 Z2 : Array Value} (n1 : IsNew P o1 t1 Z1) (n2 : IsNew P o2 t2 Z2) (hd : ∀ d, o1.dst = some d → o2.dst ≠ some d)
    (h : wpCalm P l.toArray w.drew (fun a' => ∀ p q w', InB w w' → p ≠ q → w.heap.size ≤ p → w.heap.size ≤ q → w'.heap[p]? = some (.cells Z1 t1) → w'.heap[q]? = some (.cells Z2 t2) →
      wpList P l.toArray Q (l.drop (m + 2)) ((a'.put o1.dst (ptrTo p)).put o2.dst (ptrTo q)) w') (l.take m) a) : (Code.region id l.toArray true).wp P Q a w := by
  simp only [Region.calmB, Bool.and_eq_true, decide_eq_true_eq, beq_iff_eq] at hB
  obtain ⟨⟨⟨⟨⟨⟨⟨⟨hsel, hn⟩, hs⟩, hc⟩, hlex⟩, hr0⟩, hr1⟩, hr2⟩, hseq⟩ := hB
  have hn' : m + 2 < l.length := by simpa using hn
  have htl : (l.take m).length = m := by simp; omega
  have hdl : (l.drop (m + 2)).length = l.toArray.size - (m + 2) := by simp
  have inv0 : HeadInv .any l.toArray (m + 2) (Array.replicate l.toArray.size false) :=
    ⟨by simp, fun j oj _ hl => (by rw [getD_replicate_false] at hl; cases hl), fun t _ ht => getD_in (by simpa using ht) (getD_replicate_false _ _)⟩
  have e1 : l.toArray[m]? = some o1 := by simpa using h1
  have e2 : l.toArray[m + 1]? = some o2 := by simpa using h2
  have dr : InB w w.drew := ⟨rfl, rfl, rfl, Nat.le_refl _, fun _ _ => rfl⟩
  let LL : Array Bool → Act → World → Prop := fun listed a' W => Region.seqB .any l.toArray (l.toArray.size - (m + 2)) (m + 2) listed = true ∧ ∀ w', InB W w' → wpList P l.toArray Q (l.drop (m + 2)) a' w'
  have H := wpAl_lex (P := P) (md := .any) (n := m + 2) (g := 2) (W := w.drew) (L := LL) hsel hs hc hn (fun _ _ _ hL => seqB_ready hL.1) (l.take m) 0 _ a (fun j hj => by
    rw [htl] at hj
    simp [hj]) (by rw [htl]; omega) inv0 (by rw [htl]; exact hlex) (by
      rw [htl]
      revert h
      generalize l.take m = lh
      intro h
      induction lh generalizing a with
      | cons o r ih =>
        obtain ⟨v, hv, hh⟩ := h
        exact ⟨v, hv, ih hh⟩
      | nil =>
        have h' : ∀ p q w', InB w w' → p ≠ q → w.heap.size ≤ p → w.heap.size ≤ q → w'.heap[p]? = some (.cells Z1 t1) → w'.heap[q]? = some (.cells Z2 t2) →
          wpList P l.toArray Q (l.drop (m + 2)) ((a.put o1.dst (ptrTo p)).put o2.dst (ptrTo q)) w' := h
        have new : ∀ (A : World) (o : Obj) (B : World), InB (A.alloc o) B → B.heap[A.heap.size]? = some o := fun A o B k => by
          rw [k.block A.heap.size (by simp)]; show (A.heap.push o)[A.heap.size]? = _; simp
        show wpAl P .any l.toArray (m + 2) LL 2 _ a w.drew
        refine ⟨by rw [hr0]; simp, fun i hi => ?_⟩
        rw [hr0] at hi
        simp only [List.mem_cons, List.not_mem_nil, or_false] at hi
        rcases hi with rfl | rfl
        · refine ⟨by omega, o1, e1, .inl ⟨t1, Z1, n1, fun W1 k1 => ?_⟩⟩
          refine ⟨by rw [hr1]; simp, fun i hi => ?_⟩
          rw [hr1] at hi
          simp only [List.mem_cons, List.not_mem_nil, or_false] at hi
          subst hi
          refine ⟨by omega, o2, e2, .inl ⟨t2, Z2, n2, fun W2 k2 => ⟨hseq, fun w' k3 => ?_⟩⟩⟩
          have s1 : w.heap.size ≤ W1.heap.size := k1.size
          have s2 : W1.heap.size < W2.heap.size := by have := k2.size; simp at this; omega
          refine h' W1.heap.size W2.heap.size w' (dr.trans (k1.trans (((InB.refl W1).alloc _).trans (k2.trans (((InB.refl W2).alloc _).trans k3))))) (by omega) s1 (by omega) ?_ (new _ _ _ k3)
          exact new W1 _ w' (k2.trans (((InB.refl W2).alloc _).trans k3))
        · refine ⟨by omega, o2, e2, .inl ⟨t2, Z2, n2, fun W1 k1 => ?_⟩⟩
          refine ⟨by rw [hr2]; simp, fun i hi => ?_⟩
          rw [hr2] at hi
          simp only [List.mem_cons, List.not_mem_nil, or_false] at hi
          subst hi
          refine ⟨by omega, o1, e1, .inl ⟨t1, Z1, n1, fun W2 k2 => ⟨by rw [Array.setIfInBounds_comm _ _ (by omega)]; exact hseq, fun w' k3 => ?_⟩⟩⟩
          have s1 : w.heap.size ≤ W1.heap.size := k1.size
          have s2 : W1.heap.size < W2.heap.size := by have := k2.size; simp at this; omega
          rw [← Act.put_comm a _ _ hd]
          refine h' W2.heap.size W1.heap.size w' (dr.trans (k1.trans (((InB.refl W1).alloc _).trans (k2.trans (((InB.refl W2).alloc _).trans k3))))) (by omega) (by omega) s1 (new _ _ _ k3) ?_
          exact new W1 _ w' (k2.trans (((InB.refl W2).alloc _).trans k3)))
  refine wp_region_any hm ?_
  have := wpAny_of_al (Q' := Q) (g := l.toArray.size - (m + 2)) (fun _ _ _ _ k hL => ⟨hL.1, fun w' k' => hL.2 w' (k.trans k')⟩) (fun listed a' w' hL => by
    have := wpAny_of_seq (md := .any) (Q' := Q) (l.drop (m + 2)) (m + 2) listed a' w' (fun j => by simp [List.getElem?_drop]) (by rw [hdl]; exact hL.1) (hL.2 w' (InB.refl _))
    rwa [hdl] at this) _ _ _ _ H
  rw [htl, show m + 2 + (l.toArray.size - (m + 2)) = l.toArray.size by omega] at this
  exact this

theorem wpCalm_load {W : World} {Q : Act → Prop} {a : Act} {o : Oper} {rest : List Oper} (hw : Region.wanted o (yielded ops a.tmps) = true) (ty : TypeId) (x : Operand) (ho : o.op = .load ty x) (b off : Nat) (hx : a.eval x = .pointer (some ⟨b, off, none⟩)) (cs : List Value) (d : TypeDesc)
    (hc : W.rangeAt b off cs) (hu : P.underlying ty = some d) (hd : d.isRow = true) (hi : (P.info? ty).map (·.size) = some cs.length)
    (h : wpCalm P ops W Q rest (a.put o.dst (.agg cs.toArray))) : wpCalm P ops W Q (o :: rest) a := by
  refine ⟨_, ⟨hw, fun W1 k => ?_⟩, h⟩
  have hc' : W1.rangeAt b off cs := fun j v hv => by
    have h1 := hc j v hv
    rw [Below.cell k (p := ⟨b, off + j, none⟩) (World.block_lt_of_cell? W _ h1)]
    exact h1
  unfold Oper.quietAt execOp
  simp only [ho, hx, Instr.loadAt, Instr.sureAddr, Sem.run_bind, Sem.run_pure, Result.andThen_ok, run_loadVar_mid W1 b off ty cs d hc' hu hd hi]
  exact ⟨rfl, rfl⟩

theorem wpCalm_run {W : World} {Q : Act → Prop} {a : Act} {o : Oper} {rest : List Oper} (v : Value) (hw : Region.wanted o (yielded ops a.tmps) = true) (hr : ∀ w, (execOp a.eval o).run P w = .ok (.value v) w)
    (h : wpCalm P ops W Q rest (a.put o.dst v)) : wpCalm P ops W Q (o :: rest) a := by
  refine ⟨v, ⟨hw, fun W1 _ => ?_⟩, h⟩
  unfold Oper.quietAt
  rw [hr]
  exact ⟨rfl, rfl⟩

theorem wpCalm_call {W : World} {Q : Act → Prop} {a : Act} {o : Oper} {rest : List Oper} (v : Value) (f : FuncId) (args : Array Value) (hw : Region.wanted o (yielded ops a.tmps) = true) (hr : ∀ w, (execOp a.eval o).run P w = .ok (.enter f args) w)
    (hc : ∀ w, Calls P f args w fun e w' => e = .returned v ∧ Below w.heap.size w w')
    (h : wpCalm P ops W Q rest (a.put o.dst v)) : wpCalm P ops W Q (o :: rest) a := by
  refine ⟨v, ⟨hw, fun W1 _ => ?_⟩, h⟩
  unfold Oper.quietAt
  rw [hr]
  exact ⟨rfl, hc W1⟩
end
end Go
