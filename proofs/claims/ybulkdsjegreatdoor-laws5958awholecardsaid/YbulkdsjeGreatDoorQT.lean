/-
  REGIONS THAT DRAW THEIR ORDER: a head of operations that are quiet in a class of worlds (loads, arithmetic, calls that stay in the class), and a tail that waits for all of them and goes in its own order: ONE walk. The library's two theorems (StillTail: one world; Quiet: a class, no tail) joined.
  And the class that is used: worlds that have, over W, new blocks and draws alone ('W.ext').
-/
import Derived.StillTail
import Derived.Deep.Quiet
import Derived.Deep.MidRow
import Derived.Below
namespace Go
open Go.RowKit

section
variable {P : Program} {ops : Array Oper} {md : Region.Mode} {C : World → Prop}

/-- For 'f' steps only operations of the head come up, each quiet in the class; then L. -/
def wpAnyT (P : Program) (md : Region.Mode) (ops : Array Oper) (C : World → Prop) (n : Nat) (L : Array Bool → Act → Prop) : Nat → Array Bool → Act → Prop
  | 0, listed, a => L listed a
  | f + 1, listed, a => Region.ready md ops listed ≠ [] ∧ ∀ i ∈ Region.ready md ops listed, i < n ∧ qOp P ops C i (wpAnyT P md ops C n L f (listed.setIfInBounds i true)) a

theorem wpAny_of_T {n g : Nat} {L : Array Bool → Act → Prop} {Q' : Exit → Act → World → Prop} (hL : ∀ listed a w, C w → L listed a → wpAny P md ops Q' g listed a w) :
    ∀ (f : Nat) (listed : Array Bool) (a : Act) (w : World), C w → wpAnyT P md ops C n L f listed a → wpAny P md ops Q' (f + g) listed a w
  | 0, listed, a, w, hC, h => by rw [Nat.zero_add]; exact hL _ _ _ hC h
  | f + 1, listed, a, w, hC, h => by
    rw [show f + 1 + g = (f + g) + 1 by omega]
    exact ⟨fun h0 => absurd h0 h.1, fun i hi => wpOp_of_qOp hC (fun a' w' hC' h' => wpAny_of_T hL f _ a' w' hC' h') (h.2 i hi).2⟩

theorem wpAnyT_first {n i : Nat} {oi : Oper} {v : Value} {L : Array Bool → Act → Prop} (hi : ops[i]? = some oi) (hsel : ∀ (j : Nat) (o : Oper) cs b, ops[j]? = some o → o.op ≠ .select cs b)
    (hs : Region.sinkB md ops n = true) (hc : Region.chainB md ops n = true) (hn : n < ops.size) (hin : i < n) (hdone : ∀ listed a, L listed a → ∀ j ∈ Region.ready md ops listed, n ≤ j) :
    ∀ (f : Nat) (listed : Array Bool) (a : Act), HeadInv md ops n listed →
      (∀ j oj, ops[j]? = some oj → j ≠ i → listed.getD j true = false → (∀ e ∈ oj.after, Region.binds md e = true → e.on ≠ i) → oi.apart ops oj = true) →
      i ∈ Region.ready md ops listed → YieldsIn P ops C oi v a →
      wpAnyT P md ops C n L f (listed.setIfInBounds i true) (a.put oi.dst v) → wpAnyT P md ops C n L (f + 1) listed a := by
  intro f
  induction f with
  | zero =>
    intro listed a inv _ hr hy H
    refine ⟨fun h => (by rw [h] at hr; cases hr), fun j hj => ?_⟩
    have hjn : j < n := Nat.lt_of_not_le fun h => tail_waits hs hc hn inv _ i rfl hin (mem_ready.1 hr).1 j h hj
    refine ⟨hjn, ?_⟩
    by_cases hji : j = i
    · subst hji; exact hy.qOp hi H
    · have := hdone _ _ H j (ready_mono hj hji)
      omega
  | succ f ih =>
    intro listed a inv hfree hr hy H
    have hun := (mem_ready.1 hr).1
    refine ⟨fun h => (by rw [h] at hr; cases hr), fun j hj => ?_⟩
    have hjn : j < n := Nat.lt_of_not_le fun h => tail_waits hs hc hn inv _ i rfl hin hun j h hj
    refine ⟨hjn, ?_⟩
    by_cases hji : j = i
    · subst hji; exact hy.qOp hi H
    · obtain ⟨hjun, oj, hoj, hall⟩ := mem_ready.1 hj
      have hnot : ∀ e ∈ oj.after, Region.binds md e = true → e.on ≠ i := fun e he hb heq => by
        have h1 := hall e he hb
        rw [heq, getD_both hun] at h1
        cases h1
      have h2 := qOp_put hoj (hfree j oj hoj hji hjun hnot) (fun cs b => hsel i oi cs b hi) (fun cs b => hsel j oj cs b hoj) hy (H.2 j (ready_mono hj hji)).2
      refine qOp_mono (fun a' h3 => ih (listed.setIfInBounds j true) a' (inv.set hj hjn) (fun k ok hk hki hunk hno => hfree k ok hk hki ?_ hno) (ready_mono hr (Ne.symm hji)) h3.1 ?_) h2
      · by_cases hjk : j = k
        · subst hjk; exact hjun
        · rw [getD_set_ne true hjk] at hunk; exact hunk
      · rw [Array.setIfInBounds_comm _ _ hji]
        exact h3.2

theorem wpAnyT_lex {n g : Nat} {Lq : Act → Prop} (hsel : Region.noSelect ops = true) (hs : Region.sinkB md ops n = true) (hc : Region.chainB md ops n = true) (hn : n < ops.size) :
    ∀ (l : List Oper) (k : Nat) (listed : Array Bool) (a : Act), (∀ j, j < l.length → l[j]? = ops[k + j]?) → k + l.length = n → HeadInv md ops n listed →
    Region.lexHead md ops g l.length k listed = true → wpQuiet P ops C Lq l a →
    wpAnyT P md ops C n (fun listed' a' => Region.seqB md ops g n listed' = true ∧ Lq a') l.length listed a
  | [], k, listed, a, _, hk, _, hB, h => by
    have : k = n := by simpa using hk
    subst this
    exact ⟨by simpa [Region.lexHead] using hB, h⟩
  | o :: l, k, listed, a, hl, hk, inv, hB, h => by
    have h0 : ops[k]? = some o := by simpa using (hl 0 (by simp)).symm
    simp only [List.length_cons, Region.lexHead, Bool.and_eq_true] at hB
    simp only [List.length_cons] at hk
    have hr : k ∈ Region.ready md ops listed := by simpa using hB.1.1
    have hq : qOp P ops C k (wpQuiet P ops C Lq l) a := by unfold qOp; simp only [h0]; exact h
    obtain ⟨v, hy, hK⟩ := yieldsIn_of_qOp h0 hq
    refine wpAnyT_first h0 (Region.noSelect_spec hsel) hs hc hn (by omega) (fun _ _ hL => seqB_ready hL.1) l.length listed a inv (Region.free_spec h0 hB.1.2) hr hy ?_
    exact wpAnyT_lex hsel hs hc hn l (k + 1) _ _ (fun j hj => by have := hl (j + 1) (by simp; omega); simpa [Nat.add_assoc, Nat.add_comm 1 j] using this) (by omega) (inv.set hr (by omega)) hB.2 hK

/-- A HEAD THAT IS QUIET IN A CLASS, AND A TAIL: the head is walked once, in the order of the text; the tail is walked as a plain region, in every world of the class. -/
theorem wp_region_quiet_tail {id : Nat} {Q : Exit → Act → World → Prop} {a : Act} {w : World} {l : List Oper} (n : Nat) (C : World → Prop) (hm : P.follows .mixedOrders = true) (hB : Region.lexTailB .any l.toArray n = true) (hC : C { w with drawn := w.drawn + 1 })
    (h : wpQuiet P l.toArray C (fun a' => ∀ w', C w' → wpList P l.toArray Q (l.drop n) a' w') (l.take n) a) : (Code.region id l.toArray true).wp P Q a w := by
  simp only [Region.lexTailB, Bool.and_eq_true, decide_eq_true_eq] at hB
  obtain ⟨⟨⟨⟨hsel, hn⟩, hs⟩, hc⟩, hlex⟩ := hB
  have hn' : n < l.length := by simpa using hn
  have htl : (l.take n).length = n := by simp; omega
  have hdl : (l.drop n).length = l.toArray.size - n := by simp
  have inv0 : HeadInv .any l.toArray n (Array.replicate l.toArray.size false) :=
    ⟨by simp, fun j oj _ hl => (by rw [getD_replicate_false] at hl; cases hl), fun t _ ht => getD_in (by simpa using ht) (getD_replicate_false _ _)⟩
  have H := wpAnyT_lex (md := .any) (C := C) (g := l.toArray.size - n) hsel hs hc hn (l.take n) 0 _ a (fun j hj => by
    rw [htl] at hj
    simp [hj]) (by simpa using htl) inv0 (by rw [htl]; exact hlex) h
  refine wp_region_any hm ?_
  have := wpAny_of_T (Q' := Q) (g := l.toArray.size - n) (fun listed a' w' hw' hL => by
    have := wpAny_of_seq (md := .any) (Q' := Q) (l.drop n) n listed a' w' (fun j => by simp [List.getElem?_drop]) (by rw [hdl]; exact hL.1) (hL.2 w' hw')
    rwa [hdl] at this) _ _ _ _ hC H
  rw [htl, show n + (l.toArray.size - n) = l.toArray.size by omega] at this
  exact this

/-- A load of many cells in a quiet walk. -/
theorem wpQuiet_load_mid {Q : Act → Prop} {a : Act} {o : Oper} {rest : List Oper} (hw : Region.wanted o (yielded ops a.tmps) = true) (ty : TypeId) (x : Operand) (ho : o.op = .load ty x) (b off : Nat) (hx : a.eval x = .pointer (some ⟨b, off, none⟩)) (cs : List Value) (d : TypeDesc)
    (hc : ∀ w, C w → w.rangeAt b off cs) (hu : P.underlying ty = some d) (hd : d.isRow = true) (hi : (P.info? ty).map (·.size) = some cs.length)
    (h : wpQuiet P ops C Q rest (a.put o.dst (.agg cs.toArray))) : wpQuiet P ops C Q (o :: rest) a := by
  unfold wpQuiet
  rw [if_pos hw]
  refine ⟨_, fun w hw' => ?_, h⟩
  unfold Oper.quietAt execOp
  simp only [ho, hx, Instr.loadAt, Instr.sureAddr, Sem.run_bind, Sem.run_pure, Result.andThen_ok, run_loadVar_mid w b off ty cs d (hc w hw') hu hd hi]
  exact ⟨rfl, rfl⟩

/-- An operation whose run is known in every world of the class, in a quiet walk. -/
theorem wpQuiet_run {Q : Act → Prop} {a : Act} {o : Oper} {rest : List Oper} (v : Value) (hw : Region.wanted o (yielded ops a.tmps) = true) (hr : ∀ w, C w → (execOp a.eval o).run P w = .ok (.value v) w)
    (h : wpQuiet P ops C Q rest (a.put o.dst v)) : wpQuiet P ops C Q (o :: rest) a := by
  unfold wpQuiet
  rw [if_pos hw]
  refine ⟨_, fun w hw' => ?_, h⟩
  unfold Oper.quietAt
  rw [hr w hw']
  exact ⟨rfl, rfl⟩

/-- A struct or array put together, in a quiet walk. -/
theorem wpQuiet_build {Q : Act → Prop} {a : Act} {o : Oper} {rest : List Oper} (ty : TypeId) (l : Array (Nat × Operand)) (_ho : o.op = .build ty l) (v : Value) (hw : Region.wanted o (yielded ops a.tmps) = true) (hr : ∀ w, (execOp a.eval o).run P w = .ok (.value v) w)
    (h : wpQuiet P ops C Q rest (a.put o.dst v)) : wpQuiet P ops C Q (o :: rest) a := wpQuiet_run v hw (fun w _ => hr w) h
/-- The same in a plain walk. -/
theorem wpList_buildAs {Q : Exit → Act → World → Prop} {a : Act} {w : World} {o : Oper} {rest : List Oper} (hgd : o.guard = none) (ty : TypeId) (l : Array (Nat × Operand)) (_ho : o.op = .build ty l) (v : Value) (hr : ∀ w, (execOp a.eval o).run P w = .ok (.value v) w)
    (h : wpList P ops Q rest (a.put o.dst v) w) : wpList P ops Q (o :: rest) a w := by
  refine wpList_plain hgd fun K hK => ?_
  unfold Oper.wp
  rw [hr w]
  exact hK _ _ h
end

/-- W with new blocks, and draws. -/
def World.ext (W : World) (o : Array Obj) (d : Nat) : World := { W with heap := W.heap ++ o, drawn := d }

theorem ext_below (W : World) (o : Array Obj) (d : Nat) : Below W.heap.size W (W.ext o d) :=
  ⟨rfl, rfl, rfl, by simp [World.ext], fun k hk => by simp [World.ext, Array.getElem?_append_left hk]⟩

theorem ext_of_below {W w : World} (h : Below W.heap.size W w) : ∃ o d, w = W.ext o d := by
  refine ⟨w.heap.extract W.heap.size w.heap.size, w.drawn, ?_⟩
  have e : w.heap = W.heap ++ w.heap.extract W.heap.size w.heap.size := by
    apply Array.ext_getElem?
    intro i
    rcases Nat.lt_or_ge i W.heap.size with hi | hi
    · rw [Array.getElem?_append_left hi, h.block i hi]
    · rw [Array.getElem?_append_right hi, Array.getElem?_extract]
      have hs := h.size
      by_cases hlt : i < w.heap.size
      · rw [if_pos (by omega), show W.heap.size + (i - W.heap.size) = i by omega]
      · rw [if_neg (by omega), Array.getElem?_eq_none (by omega)]
  cases w
  unfold World.ext
  simp only at e h
  have h1 := h.os
  have h2 := h.tape
  have h3 := h.output
  simp only at h1 h2 h3
  subst h1 h2 h3
  simp only [World.mk.injEq, and_true]
  exact e

theorem ext_ext (W : World) (o o' : Array Obj) (d d' : Nat) : (W.ext o d).ext o' d' = W.ext (o ++ o') d' := by simp [World.ext, Array.append_assoc]
theorem ext_drewN (W : World) (n : Nat) : W.drewN n = W.ext #[] (W.drawn + n) := by simp [World.ext, World.drewN]
theorem ext_size (W : World) (o : Array Obj) (d : Nat) : (W.ext o d).heap.size = W.heap.size + o.size := by simp [World.ext]
theorem ext_cell (W : World) (o : Array Obj) (d : Nat) (a : Addr) (h : a.block < W.heap.size) : (W.ext o d).cell? a = W.cell? a := (ext_below W o d).cell h
theorem ext_frozen (W : World) (o : Array Obj) (d : Nat) (a : Addr) (h : a.block < W.heap.size) : (W.ext o d).frozen? a = W.frozen? a := (ext_below W o d).frozen h
theorem ext_range {W : World} {b off : Nat} {cs : List Value} (h : W.rangeAt b off cs) (o : Array Obj) (d : Nat) : (W.ext o d).rangeAt b off cs := fun j v hv => by
  have := h j v hv
  rw [ext_cell _ _ _ _ (World.block_lt_of_cell? W _ this)]
  exact this
theorem ext_there {W : World} {b off n : Nat} (h : W.there b off n) (o : Array Obj) (d : Nat) : (W.ext o d).there b off n := fun j hj => by
  obtain ⟨h1, h2⟩ := h j hj
  obtain ⟨u, hu⟩ := Option.isSome_iff_exists.1 h1
  have hb := World.block_lt_of_cell? W _ hu
  exact ⟨by rw [ext_cell _ _ _ _ hb]; exact h1, by rw [ext_frozen _ _ _ _ hb]; exact h2⟩

end Go
