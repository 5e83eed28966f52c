import Derived.Test.YbulkdsjeGreatDoorRows
import Derived.Test.YbulkdsjeGreatDoorPlan
import Derived.Test.YbulkdsjeGreatDoorQT
import Derived.WalkKit
import Derived.ProofKit
import Derived.Below
import Derived.WalkSpells
import Derived.WalkSmall
import Derived.Deep.QuietTactic
import Derived.BigQuiet
import Derived.Deep.RegionWith
import Derived.Deep.RegionHeld3
import Derived.Deep.MidRow
import Derived.Deep.WholeRow
import Derived.Deep.AppendLies
import Derived.Deep.Upon
import Derived.Maps.AppendAt
import Derived.RangeFuncNested
import Derived.RangeFuncBound
import Derived.RangeFuncCalls
import Derived.RangeFuncLeaves
import Derived.RangeFuncBox
import Derived.OwnWalkIn
import Derived.TacticsInMore
import Derived.LoopNIn
import Derived.LoopIn
namespace Go
open Go.RowKit
theorem hid {p : Prop} (h : p) : Hid p := h
/-- All blocks but those of E are as they were. -/
structure Kept (E : Nat → Prop) (w w' : World) : Prop where
  os : w'.os = w.os
  tape : w'.tape = w.tape
  output : w'.output = w.output
  size : w.heap.size ≤ w'.heap.size
  block : ∀ k, k < w.heap.size → ¬ E k → w'.heap[k]? = w.heap[k]?
namespace Kept
variable {E E' : Nat → Prop} {a b c w w' : World}
theorem refl (E : Nat → Prop) (w : World) : Kept E w w := ⟨rfl, rfl, rfl, Nat.le_refl _, fun _ _ _ => rfl⟩
theorem trans (h : Kept E a b) (k : Kept E b c) : Kept E a c :=
  ⟨k.os.trans h.os, k.tape.trans h.tape, k.output.trans h.output, Nat.le_trans h.size k.size, fun i hi hE => (k.block i (Nat.lt_of_lt_of_le hi h.size) hE).trans (h.block i hi hE)⟩
theorem weak (h : Kept E a b) (hE : ∀ i, i < a.heap.size → E i → E' i) : Kept E' a b := ⟨h.os, h.tape, h.output, h.size, fun i hi hn => h.block i hi fun he => hn (hE i hi he)⟩
theorem ofBelow (h : Below w.heap.size w w') : Kept E w w' := ⟨h.os, h.tape, h.output, h.size, fun i hi _ => h.block i hi⟩
theorem toBelow {B : Nat} (h : Kept E w w') (hE : ∀ i, i < B → ¬ E i) (hB : B ≤ w.heap.size) : Below B w w' := ⟨h.os, h.tape, h.output, h.size, fun i hi => h.block i (by omega) (hE i hi)⟩
theorem alloc (h : Kept E a w) (o : Obj) : Kept E a (w.alloc o) := h.trans (ofBelow ((Below.refl _ _).alloc (Nat.le_refl _) _))
theorem drew (h : Kept E a w) : Kept E a w.drew := ⟨h.os, h.tape, h.output, h.size, h.block⟩
theorem setCell (h : Kept E a w) {p : Addr} (hp : E p.block ∨ a.heap.size ≤ p.block) (u : Value) : Kept E a (w.setCell p u) :=
  ⟨h.os, h.tape, h.output, by simpa using h.size, fun i hi hn => by
    rw [Below.heap_setCell w p u i (fun he => by subst he; rcases hp with hp | hp; exact hn hp; omega)]
    exact h.block i hi hn⟩
theorem setCells (h : Kept E a w) {g : Nat} (hg : E g ∨ a.heap.size ≤ g) (o : Nat) (vs : List Value) : Kept E a (w.setCells g o vs) := by
  induction vs generalizing o w with
  | nil => exact h
  | cons v r ih => exact ih (h.setCell (p := ⟨g, o, none⟩) hg v) (o + 1)
theorem grown {row : Option Nat} (h : Kept E a w) (hg : w.grownBy w' row) (hr : ∀ k, row = some k → E k ∨ a.heap.size ≤ k) : Kept E a w' :=
  ⟨hg.os.trans h.os, hg.tape.trans h.tape, hg.output.trans h.output, Nat.le_trans h.size hg.size, fun i hi hn => by
    rw [hg.block i (Nat.lt_of_lt_of_le hi h.size) (fun he => by rcases hr i he.symm with h1 | h1; exact hn h1; omega)]
    exact h.block i hi hn⟩
theorem cell (h : Kept E w w') {p : Addr} {v : Value} (hp : ¬ E p.block) (hv : w.cell? p = some v) : w'.cell? p = some v := by
  rw [World.cell?_of_block (w := w) (h.block p.block (World.block_lt_of_cell? w _ hv) hp)]; exact hv
theorem range (h : Kept E w w') {b o : Nat} {cs : List Value} (hb : ¬ E b) (hr : w.rangeAt b o cs) : w'.rangeAt b o cs := fun j v hv => h.cell (p := ⟨b, o + j, none⟩) hb (hr j v hv)
theorem there (h : Kept E w w') {b o n : Nat} (hb : ¬ E b) (hr : w.there b o n) : w'.there b o n := fun j hj => by
  obtain ⟨h1, h2⟩ := hr j hj
  obtain ⟨u, hu⟩ := Option.isSome_iff_exists.1 h1
  have hlt := World.block_lt_of_cell? w _ hu
  refine ⟨by rw [h.cell (p := ⟨b, o + j, none⟩) hb hu]; rfl, ?_⟩
  rw [World.frozen?_of_block (w := w) (h.block b hlt hb)]
  exact h2
end Kept
theorem range_kept_below {w w' : World} (h : Below w.heap.size w w') {b o : Nat} {cs : List Value} (hr : w.rangeAt b o cs) : w'.rangeAt b o cs := (Kept.ofBelow (E := fun _ => False) h).range (fun h => h) hr
theorem there_kept_below {w w' : World} (h : Below w.heap.size w w') {b o n : Nat} (hr : w.there b o n) : w'.there b o n := (Kept.ofBelow (E := fun _ => False) h).there (fun h => h) hr

theorem range_new (w : World) (cs : List Value) (t : TypeId) : (w.alloc (.cells cs.toArray t)).rangeAt w.heap.size 0 cs := fun j v hv => by
  rw [Nat.zero_add, World.cell?_alloc_new]
  simpa using hv
theorem there_new (w : World) (cs : List Value) (t : TypeId) : (w.alloc (.cells cs.toArray t)).there w.heap.size 0 cs.length := fun j hj => by
  refine ⟨?_, ?_⟩
  · rw [Nat.zero_add, World.cell?_alloc_new]
    simp [hj]
  · rw [Nat.zero_add, World.frozen?_alloc_new]

theorem results_cell {fn : Func} {p : Tmp} {ty : TypeId} (h : fn.results = #[.cell p ty]) (tmps : Array Value) (P : Program) (w : World) {b o : Nat} {v : Value} (hp : tmps.getD p undef = .pointer (some ⟨b, o, none⟩))
    (hl : (loadVar ty ⟨b, o, none⟩).run P w = .ok v w) : (results fn tmps).run P w = .ok v w := by
  have h1 : (results fn tmps).run P w = ((asAddr (tmps.getD p undef)).run P w).andThen fun a w₁ => (loadVar ty a).run P w₁ := by
    simp only [results, h]
    simp [Sem.run_bind, Result.andThen]
  rw [h1, hp]
  simp [asAddr, Result.andThen, hl]

/-- A new variable, its zero cells given whole. -/
theorem wpList_alloc_as {P : Program} {w : World} {ops : Array Oper} {rest : List Oper} {o : Oper} {a : Act} {Q : Exit → Act → World → Prop} (hgd : o.guard = none) (ty : TypeId) (ho : o.op = .alloc ty) (Z : Array Value)
    (hz : ∀ w, Sem.run P (Instr.alloc ty true (.tuple #[])) w = .ok (.pointer (some ⟨w.heap.size, 0, none⟩)) (w.alloc (.cells Z ty)))
    (h : wpList P ops Q rest (a.put o.dst (.pointer (some ⟨w.heap.size, 0, none⟩))) (w.alloc (.cells Z ty))) : wpList P ops Q (o :: rest) a w := by
  refine wpList_plain hgd fun K hK => ?_
  unfold Oper.wp execOp
  simp only [ho, Sem.run_bind, hz, Result.andThen_ok, Sem.run_pure]
  exact hK _ _ h
/-- A value laid into a block of its own. -/
theorem wpList_box_as {P : Program} {w : World} {ops : Array Oper} {rest : List Oper} {o : Oper} {a : Act} {Q : Exit → Act → World → Prop} (hgd : o.guard = none) (ty : TypeId) (x : Operand) (ho : o.op = .box ty x) (Z : Array Value) (hx : a.eval x = .agg Z)
    (hz : ∀ w, Sem.run P (Instr.box ty (.agg Z)) w = .ok (.pointer (some ⟨w.heap.size, 0, none⟩)) (w.alloc (.cells Z ty)))
    (h : wpList P ops Q rest (a.put o.dst (.pointer (some ⟨w.heap.size, 0, none⟩))) (w.alloc (.cells Z ty))) : wpList P ops Q (o :: rest) a w := by
  refine wpList_plain hgd fun K hK => ?_
  unfold Oper.wp execOp
  simp only [ho, hx, Sem.run_bind, hz, Result.andThen_ok, Sem.run_pure]
  exact hK _ _ h

theorem below_setCells {B : Nat} {a w : World} (h : Below B a w) {g : Nat} (hg : B ≤ g) (o : Nat) (vs : List Value) : Below B a (w.setCells g o vs) := by
  induction vs generalizing o w with
  | nil => exact h
  | cons v r ih => exact ih (h.setCell (p := ⟨g, o, none⟩) hg v) (o + 1)
theorem ownBlock_lt {w : World} {base e size n : Nat} {v : Value} {xs : List Value} (h : w.ownsRow base e size v n xs) {g : Nat} (hg : v.ownBlock = some g) : g < w.heap.size := by
  rcases h.2 with ⟨rfl, _⟩ | ⟨g', cap, cur, rfl, _, hb, _⟩
  · cases hg
  · cases hg
    exact (Array.getElem?_eq_some_iff.1 hb).1

theorem wpList_done {P : Program} {ops : Array Oper} {Q : Exit → Act → World → Prop} {a : Act} {w : World} (h : Q .normal a w) : wpList P ops Q [] a w := h
theorem own_slice {w : World} {base e size n : Nat} {v : Value} {xs : List Value} (h : w.ownsRow base e size v (n + 1) xs) : ∃ g cap, v = .slice (some ⟨g, 0, none⟩) (n + 1) cap := by
  rcases h.2 with ⟨_, h2⟩ | ⟨g, cap, cur, rfl, _⟩
  · omega
  · exact ⟨g, cap, rfl⟩
theorem own_kept {E : Nat → Prop} {w w' : World} {base e size n : Nat} {v : Value} {xs : List Value} (h : w.ownsRow base e size v n xs) (k : Kept E w w') (hE : ∀ g, v.ownBlock = some g → ¬ E g) : w'.ownsRow base e size v n xs := by
  refine ⟨h.1, ?_⟩
  rcases h.2 with ⟨h1, h2⟩ | ⟨g, cap, cur, rfl, hb, hc, h3⟩
  · exact .inl ⟨h1, h2⟩
  · exact .inr ⟨g, cap, cur, rfl, hb, (k.block g (Array.getElem?_eq_some_iff.1 hc).1 (hE g rfl)).trans hc, h3⟩
theorem kept_new (w : World) (o : Obj) : Kept (fun _ => False) w (w.alloc o).drew := ((Kept.refl _ w).alloc o).drew

/-- 'v := x', v a new variable of many cells. -/
theorem wpList_newvar {P : Program} {ops : Array Oper} {rest : List Oper} {o1 o2 : Oper} {a : Act} {w : World} {Q : Exit → Act → World → Prop} (hg1 : o1.guard = none) (hg2 : o2.guard = none) (ty : TypeId) (ho1 : o1.op = .alloc ty) (x y : Operand) (ho2 : o2.op = .store ty x y) (Z cs : Array Value)
    (hz : ∀ w, Sem.run P (Instr.alloc ty true (.tuple #[])) w = .ok (.pointer (some ⟨w.heap.size, 0, none⟩)) (w.alloc (.cells Z ty)))
    (hx : (a.put o1.dst (.pointer (some ⟨w.heap.size, 0, none⟩))).eval x = .pointer (some ⟨w.heap.size, 0, none⟩)) (hy : (a.put o1.dst (.pointer (some ⟨w.heap.size, 0, none⟩))).eval y = .agg cs)
    (hi : (P.info? ty).map (·.size) = some cs.size) (hs : Z.size = cs.size) (h1 : cs.all (·.oneCell') = true)
    (h : wpList P ops Q rest ((a.put o1.dst (.pointer (some ⟨w.heap.size, 0, none⟩))).put o2.dst undef) (w.alloc (.cells cs ty))) : wpList P ops Q (o1 :: o2 :: rest) a w := by
  refine wpList_plain hg1 fun K hK => ?_
  unfold Oper.wp execOp
  simp only [ho1, Sem.run_bind, hz, Result.andThen_ok, Sem.run_pure]
  refine hK _ _ (wpList_plain hg2 fun K hK => ?_)
  unfold Oper.wp execOp
  simp only [ho2, hx, hy, Sem.run_bind, run_storeAt_new w ty Z cs hi hs h1, Result.andThen_ok, Sem.run_pure]
  exact hK _ _ h
theorem there_part {w : World} {g o n o' n' : Nat} (h : w.there g o n) (h1 : o ≤ o') (h2 : o' + n' ≤ o + n) : w.there g o' n' := fun j hj => by
  have := h (o' - o + j) (by omega)
  rwa [show o + (o' - o + j) = o' + j by omega] at this
theorem range_of_block {w : World} {b : Nat} {cs : List Value} {t : TypeId} (h : w.heap[b]? = some (.cells cs.toArray t)) : w.rangeAt b 0 cs := fun j v hv => by
  rw [Nat.zero_add]
  unfold World.cell?
  simp only [h]
  simpa using hv
theorem there_of_block {w : World} {b : Nat} {cs : List Value} {t : TypeId} (h : w.heap[b]? = some (.cells cs.toArray t)) : w.there b 0 cs.length := fun j hj => by
  rw [Nat.zero_add]
  refine ⟨?_, ?_⟩
  · rw [show w.cell? ⟨b, j, none⟩ = cs[j]? from by unfold World.cell?; simp only [h]; simp]
    simp [hj]
  · unfold World.frozen?
    simp [h]

/-- A world by its facts alone, in the midst of a region. -/
theorem wpList_as {P : Program} {ops : Array Oper} {l : List Oper} {Q : Exit → Act → World → Prop} {a : Act} {w : World} (F : World → Prop) (h : F w) (k : ∀ W, F W → wpList P ops Q l a W) : wpList P ops Q l a w := k w h
/-- A world by its facts alone. -/
theorem wp_as {P : Program} {c : Code} {Q : Exit → Act → World → Prop} {a : Act} {w : World} (F : World → Prop) (h : F w) (k : ∀ W, F W → c.wp P Q a W) : c.wp P Q a w := k w h

theorem range_setCell {w : World} {b o : Nat} {cs : List Value} (h : w.rangeAt b o cs) (p : Addr) (v : Value) (hp : p.block = b → p.off < o ∨ o + cs.length ≤ p.off) : (w.setCell p v).rangeAt b o cs := fun j u hu => by
  rw [World.cell?_setCell_other _ _ _ _ (fun he => by
    subst he
    have := hp rfl
    have := (List.getElem?_eq_some_iff.1 hu).1
    simp at *
    omega)]
  exact h j u hu
theorem there_setCell {w : World} {b o n : Nat} (h : w.there b o n) (p : Addr) (v : Value) : (w.setCell p v).there b o n := fun j hj => by
  obtain ⟨h1, h2⟩ := h j hj
  refine ⟨?_, by rw [World.frozen?_setCell]; exact h2⟩
  have := World.isSome_setCells p.block [v] p.off w ⟨b, o + j, none⟩ h1
  by_cases hq : p = ⟨b, o + j, none⟩
  · subst hq
    exact this
  · rw [World.cell?_setCell_other _ _ _ _ hq]
    exact h1

theorem range_low {n : Nat} {w w' : World} (h : Below n w w') {b o : Nat} {cs : List Value} (hb : b < n) (hr : w.rangeAt b o cs) : w'.rangeAt b o cs := fun j v hv => by
  rw [h.cell (p := ⟨b, o + j, none⟩) hb]; exact hr j v hv
theorem there_low {n : Nat} {w w' : World} (h : Below n w w') {b o k : Nat} (hb : b < n) (hr : w.there b o k) : w'.there b o k := fun j hj => by
  obtain ⟨h1, h2⟩ := hr j hj
  exact ⟨by rw [h.cell (p := ⟨b, o + j, none⟩) hb]; exact h1, by rw [h.frozen (p := ⟨b, o + j, none⟩) hb]; exact h2⟩
theorem own_low {n : Nat} {w w' : World} {base e size k : Nat} {v : Value} {xs : List Value} (h : w.ownsRow base e size v k xs) (b : Below n w w') (hv : ∀ g, v.ownBlock = some g → g < n) : w'.ownsRow base e size v k xs := by
  refine ⟨h.1, ?_⟩
  rcases h.2 with h0 | ⟨g, cap, cur, rfl, h1, h2, h3, h4, h5, h6⟩
  · exact .inl h0
  · exact .inr ⟨g, cap, cur, rfl, h1, by rw [b.block g (hv g rfl)]; exact h2, h3, h4, h5, h6⟩
theorem range_cell {w : World} {b o : Nat} {cs : List Value} (h : w.rangeAt b o cs) {j : Nat} {v : Value} (hv : cs[j]? = some v) : w.cell? ⟨b, o + j, none⟩ = some v := h j v hv

theorem wpList_buildSliceAs {P : Program} {ops : Array Oper} {Q : Exit → Act → World → Prop} {a : Act} {w : World} {o : Oper} {rest : List Oper} (hgd : o.guard = none) (ty : TypeId) (n : Nat) (l : Array (Nat × Operand)) (_ho : o.op = .buildSlice ty n l) (v : Value) (w' : World) (hr : (execOp a.eval o).run P w = .ok (.value v) w')
    (h : wpList P ops Q rest (a.put o.dst v) w') : wpList P ops Q (o :: rest) a w := by
  refine wpList_plain hgd fun K hK => ?_
  unfold Oper.wp
  rw [hr]
  exact hK _ _ h
theorem drew_below (w : World) : Below w.heap.size w w.drew := ⟨rfl, rfl, rfl, Nat.le_refl _, fun _ _ => rfl⟩
theorem below_trans {a b c : World} (h : Below a.heap.size a b) (k : Below b.heap.size b c) : Below a.heap.size a c := h.trans (k.mono h.size)

/-! ### Rounds of a range over a function: an operation is carried out as everywhere -/
def noDefer (ops : Array Oper) : Bool := ops.all fun o => match o.op with | .defer _ => false | _ => true
theorem noDefer_spec {ops : Array Oper} (h : noDefer ops = true) {i : Nat} {o : Oper} (ho : ops[i]? = some o) (c : Call) : o.op ≠ .defer c := fun e => by
  have := Array.all_eq_true_iff_forall_mem.1 h o (Array.mem_of_getElem? ho)
  rw [e] at this
  cases this

section
variable {P : Program} {ops : Array Oper} {Q : Exit → Act → World → Prop} {a : Act} {w : World} {l n : Nat}

theorem oper_in {o : Oper} {K : Act → World → Prop} (hd : ∀ c, o.op ≠ .defer c) (h : o.wp P a w K Q) : o.wpIn (Fence.wide.inRound l) n P a w K Q := by
  refine ⟨fun _ _ => trivial, ?_⟩
  unfold Oper.wp at h
  have e : o.semAt (Fence.wide.inRound l).round a.eval = execOp a.eval o := Oper.semAt_eq _ _ _ hd
  rw [e]
  generalize (execOp a.eval o).run P w = r at *
  cases r with
  | ok x w' =>
    cases x <;> simp only [Oper.upon, Oper.uponIn] at h ⊢
    case value v => exact h
    case skip => exact h
    case defer d => exact h
    case enter f args => exact ⟨fun hh => (by cases hh), CallsIn.inRound l ((callsIn_wide (n := n - 1)).2 h)⟩
    case row row args =>
      refine ⟨fun hh => (by cases hh), ?_⟩
      intro c cs _
      obtain ⟨v, w'', hR, hs⟩ := h c cs
      exact ⟨v, w'', hR, stepsIn_wide.2 hs⟩
  | halt x w' =>
    cases x <;> simp only [Oper.upon, Oper.uponIn] at h ⊢
    exact h

theorem ops_in (hd : noDefer ops = true) (hQ : ¬ LetsOut Q) : ∀ (is : List Nat) (a : Act) (w : World), wpOps P ops Q is a w → wpOpsIn (Fence.wide.inRound l) n P ops Q is a w
  | [], a, w, h => h
  | i :: rest, a, w, h => by
    unfold wpOps at h
    unfold wpOpsIn
    cases ho : ops[i]? with
    | none => simp only [ho] at h ⊢; exact ops_in hd hQ rest a w h
    | some o =>
      simp only [ho] at h ⊢
      split
      · rename_i hw
        rw [if_pos hw] at h
        rcases h with h | ⟨_, h⟩
        · exact Oper.wpIn_mono (fun a w => ops_in hd hQ rest a w) (oper_in (noDefer_spec hd ho) h)
        · exact absurd h hQ
      · rename_i hw
        rw [if_neg hw] at h
        exact ⟨fun _ _ => trivial, ops_in hd hQ rest _ w h⟩

/-- A region in a round, walked as anywhere. -/
theorem wpIn_region_plain {id : Nat} {ls : List Oper} (hd : noDefer ls.toArray = true) (hQ : ¬ LetsOut Q) (h : wpList P ls.toArray Q ls a w) : (Code.region id ls.toArray false).wpIn (Fence.wide.inRound l) n P Q a w := by
  refine wpIn_region (ops_in hd hQ _ a w ?_)
  have e := wpOps_eq_wpList (P := P) (ops := ls.toArray) (Q := Q) ls 0 (by simp)
  rw [List.range_eq_range', List.size_toArray, e]
  exact h
theorem wpIn_region_plan {id : Nat} {ls : List Oper} (z : Nat) (pl : List (Bool × Nat)) (C : World → Prop) (hd : noDefer ls.toArray = true) (hLO : ¬ LetsOut Q) (hm : P.follows .mixedOrders = true) (hB : Region.planB .any ls.toArray z pl = true)
    (hQ : ∀ c a d v w, Q (.panic c) (a.put d v) w → Q (.panic c) a w) (hC : C w.drew) (h : wpPlan P ls.toArray C z Q pl a w.drew) : (Code.region id ls.toArray true).wpIn (Fence.wide.inRound l) n P Q a w := by
  simp only [Region.planB, Bool.and_eq_true, decide_eq_true_eq] at hB
  obtain ⟨⟨⟨hsel, hlast⟩, hlen⟩, hpl⟩ := hB
  refine wpIn_region_draw fun t => ops_in hd hLO _ _ _ ?_
  have := wpAny_of_E _ _ _ _ (wpAnyE_of_plan hsel hlast hQ pl _ a w.drew (Closed.init _) hC hpl h)
  rw [hlen] at this
  simp only [Region.schedule, hm, Bool.true_or, if_true]
  exact wpAny_sound ls.toArray.size t _ a _ this
end

/-! ### The marks among the deferred calls -/
def markOf (D : Nat) : Deferred := { target := .collected D, args := #[] }
def IsDef (W : World) (k : Nat) : Prop := ∃ x, W.heap[k]? = some (.deferred x)
theorem notDef_of_cell {W : World} {p : Addr} {v : Value} (h : W.cell? p = some v) : ¬ IsDef W p.block := fun ⟨x, hx⟩ => by
  unfold World.cell? at h
  simp only [hx] at h
  cases h
structure Marks (W : World) (lo : Nat) (Ds : List Nat) : Prop where
  nodup : Ds.Nodup
  at' : ∀ D ∈ Ds, lo ≤ D ∧ W.heap[D]? = some (.deferred (some []))
theorem Marks.nil (W : World) (lo : Nat) : Marks W lo [] := ⟨List.nodup_nil, fun _ h => by cases h⟩
theorem Marks.kept {E : Nat → Prop} {W W' : World} {lo : Nat} {Ds : List Nat} (h : Marks W lo Ds) (k : Kept E W W') (hE : ∀ b, E b → ¬ IsDef W b) : Marks W' lo Ds :=
  ⟨h.nodup, fun D hD => ⟨(h.at' D hD).1, (k.block D (Array.getElem?_eq_some_iff.1 (h.at' D hD).2).1 (fun he => hE D he ⟨_, (h.at' D hD).2⟩)).trans (h.at' D hD).2⟩⟩
theorem Marks.cons {W : World} {lo D : Nat} {Ds : List Nat} (h : Marks W lo Ds) (hn : D ∉ Ds) (hlo : lo ≤ D) (hD : W.heap[D]? = some (.deferred (some []))) : Marks W lo (D :: Ds) :=
  ⟨List.nodup_cons.2 ⟨hn, h.nodup⟩, fun X hX => by
    rcases List.mem_cons.1 hX with rfl | hX
    · exact ⟨hlo, hD⟩
    · exact h.at' X hX⟩
theorem kept_putObj {W : World} {D : Nat} (hD : W.heap[D]? = some (.deferred (some []))) : Kept (IsDef W) W (W.putObj D (.deferred none)) :=
  ⟨rfl, rfl, rfl, by simp [World.putObj], fun k _ hE => by
    have : D ≠ k := fun e => hE (e ▸ ⟨_, hD⟩)
    simp [World.putObj, this]⟩
theorem leaves_marks {F : Fence} {n : Nat} {P : Program} {fn : Func} {tmps : Array Value} {R : Ending → World → Prop} {lo : Nat} : ∀ (Ds : List Nat) (W : World), Marks W lo Ds →
    (∀ W', Kept (fun b => b ∈ Ds) W W' → LeavesIn F n P fn tmps R [] .returning W') → LeavesInM F n P fn tmps R (Ds.map markOf) .returning W
  | [], W, _, h => h W (Kept.refl _ _)
  | D :: Ds, W, hM, h => by
    have hD := (hM.at' D (List.mem_cons_self ..)).2
    refine ⟨by simp, .inl ⟨D, _, rfl, run_takeDeferred hD, leaves_marks (lo := lo) Ds _ ⟨(List.nodup_cons.1 hM.nodup).2, fun X hX => ?_⟩ fun W' k' => h W' ?_⟩⟩
    · obtain ⟨h1, h2⟩ := hM.at' X (List.mem_cons_of_mem _ hX)
      refine ⟨h1, ?_⟩
      have : D ≠ X := fun e => (List.nodup_cons.1 hM.nodup).1 (e ▸ hX)
      simpa [World.putObj, this] using h2
    · have k : Kept (fun b => b ∈ D :: Ds) W (W.putObj D (.deferred none)) := ⟨rfl, rfl, rfl, by simp [World.putObj], fun b _ hE => by
        have : D ≠ b := fun e => hE (e ▸ List.mem_cons_self ..)
        simp [World.putObj, this]⟩
      exact k.trans (k'.weak (fun b _ hb => List.mem_cons_of_mem _ hb))

theorem calls_of_wp_marks {P : Program} {f : FuncId} {fn : Func} {c : Code} {args : Array Value} {w : World} {R : Ending → World → Prop}
    (hf : P.funcs[f]? = some fn) (hb : fn.body = some c)
    (h : c.wp P (bodyPostM Fence.wide 3 P fn R) { tmps := args ++ Array.replicate (fn.ntmps - args.size) undef, defers := [] } w) : Calls P f args w R :=
  (callsIn_wide (n := 3)).1 (callsIn_of_wp_marks hf hb trivial (wpIn_wide.2 h))

/-! ### Tables: the cells of a block, from o on -/
def Tab (W : World) (b o n : Nat) (f : Nat → Value) : Prop := ∀ j, j < n → W.cell? ⟨b, o + j, none⟩ = some (f j) ∧ W.frozen? ⟨b, o + j, none⟩ = false
theorem Tab.cell {W : World} {b o n : Nat} {f : Nat → Value} (h : Tab W b o n f) {j : Nat} (hj : j < n) : W.cell? ⟨b, o + j, none⟩ = some (f j) := (h j hj).1
theorem Tab.free {W : World} {b o n : Nat} {f : Nat → Value} (h : Tab W b o n f) {j : Nat} (hj : j < n) : W.frozen? ⟨b, o + j, none⟩ = false := (h j hj).2
theorem Tab.ext {W : World} {b o n : Nat} {f g : Nat → Value} (h : Tab W b o n f) (hfg : ∀ j, j < n → f j = g j) : Tab W b o n g := fun j hj => by rw [← hfg j hj]; exact h j hj
theorem Tab.kept {E : Nat → Prop} {W W' : World} {b o n : Nat} {f : Nat → Value} (h : Tab W b o n f) (k : Kept E W W') (hb : ¬ E b) : Tab W' b o n f := fun j hj => by
  refine ⟨k.cell (p := ⟨b, o + j, none⟩) hb (h j hj).1, ?_⟩
  rw [World.frozen?_of_block (w := W) (k.block b (World.block_lt_of_cell? W _ (h j hj).1) hb)]
  exact (h j hj).2
theorem Tab.set {W : World} {b o n : Nat} {f : Nat → Value} (h : Tab W b o n f) {j : Nat} (hj : j < n) (v : Value) : Tab (W.setCell ⟨b, o + j, none⟩ v) b o n (fun k => if k = j then v else f k) := fun k hk => by
  refine ⟨?_, by rw [World.frozen?_setCell]; exact (h k hk).2⟩
  by_cases e : k = j
  · subst e
    show _ = some (if k = k then v else f k)
    rw [if_pos rfl]
    exact World.cell?_setCell_same' _ _ _ (by rw [(h k hk).1]; rfl)
  · show _ = some (if k = j then v else f k)
    rw [if_neg e, World.cell?_setCell_other _ _ _ _ (fun he => e (by have h0 := congrArg Addr.off he; simp at h0; exact h0.symm))]
    exact (h k hk).1
theorem Tab.other {W : World} {b o n : Nat} {f : Nat → Value} (h : Tab W b o n f) (p : Addr) (v : Value) (hp : p.block = b → p.off < o ∨ o + n ≤ p.off) : Tab (W.setCell p v) b o n f := fun k hk => by
  refine ⟨?_, by rw [World.frozen?_setCell]; exact (h k hk).2⟩
  rw [World.cell?_setCell_other _ _ _ _ (fun he => by subst he; have := hp rfl; simp at this; omega)]
  exact (h k hk).1
theorem Tab.lt {W : World} {b o n : Nat} {f : Nat → Value} (h : Tab W b o n f) (hn : 0 < n) : b < W.heap.size := World.block_lt_of_cell? W _ (h 0 hn).1
theorem Tab.new (W : World) (n : Nat) (t : TypeId) (v : Value) : Tab (W.alloc (.cells (Array.replicate n v) t)) W.heap.size 0 n (fun _ => v) := fun j hj => by
  rw [Nat.zero_add, World.cell?_alloc_new, World.frozen?_alloc_new]
  simp [hj]
theorem Tab.drew {W : World} {b o n : Nat} {f : Nat → Value} (h : Tab W b o n f) : Tab W.drew b o n f := h
theorem Tab.alloc {W : World} {b o n : Nat} {f : Nat → Value} (h : Tab W b o n f) (ob : Obj) : Tab (W.alloc ob) b o n f := h.kept (E := fun _ => False) ((Kept.refl _ _).alloc ob) (fun h => h)
/-! ### In the wide fence: a quiet head, and a tail in its own order that may call yield -/
theorem oper_wide {P : Program} {Q : Exit → Act → World → Prop} {a : Act} {w : World} {n : Nat} {o : Oper} {K : Act → World → Prop} (h : o.wp P a w K Q) : o.wpIn Fence.wide n P a w K Q := by
  refine ⟨fun _ _ => trivial, ?_⟩
  unfold Oper.wp at h
  have e : o.semAt Fence.wide.round a.eval = execOp a.eval o := Oper.semAt_none _ _
  rw [e]
  generalize (execOp a.eval o).run P w = r at *
  cases r with
  | ok x w' =>
    cases x <;> simp only [Oper.upon, Oper.uponIn] at h ⊢
    case value v => exact h
    case skip => exact h
    case defer d => exact h
    case enter f args => exact ⟨fun hh => (by cases hh), (callsIn_wide (n := n - 1)).2 h⟩
    case row row args =>
      refine ⟨fun hh => (by cases hh), ?_⟩
      intro c cs _
      obtain ⟨v, w'', hR, hs⟩ := h c cs
      exact ⟨v, w'', hR, stepsIn_wide.2 hs⟩
  | halt x w' =>
    cases x <;> simp only [Oper.upon, Oper.uponIn] at h ⊢
    exact h

section
variable {P : Program} {ops : Array Oper} {md : Region.Mode} {C : World → Prop} {m : Nat}
theorem wpOpIn_of_qOp {i : Nat} {a : Act} {K : Act → Prop} {K' : Act → World → Prop} {Q' : Exit → Act → World → Prop} {w : World} (hC : C w) (h : ∀ a w', C w' → K a → K' a w') (hh : qOp P ops C i K a) : wpOpIn Fence.wide m P ops Q' i K' a w := by
  unfold qOp at hh
  unfold wpOpIn
  split
  · rename_i ho; simp only [ho] at hh; exact h _ _ hC hh
  · rename_i o ho
    simp only [ho] at hh
    split
    · rename_i hw; simp only [hw, if_true] at hh; exact oper_wide (Oper.wp_of_quiet hC h hh)
    · rename_i hw; simp only [hw] at hh; exact ⟨fun _ _ => trivial, h _ _ hC hh⟩
theorem wpAnyIn_of_T {n g : Nat} {L : Array Bool → Act → Prop} {Q' : Exit → Act → World → Prop} (hL : ∀ listed a w, C w → L listed a → wpAnyIn Fence.wide m P md ops Q' g listed a w) :
    ∀ (f : Nat) (listed : Array Bool) (a : Act) (w : World), C w → wpAnyT P md ops C n L f listed a → wpAnyIn Fence.wide m P md ops Q' (f + g) listed a w
  | 0, listed, a, w, hC, h => by rw [Nat.zero_add]; exact hL _ _ _ hC h
  | f + 1, listed, a, w, hC, h => by
    rw [show f + 1 + g = (f + g) + 1 by omega]
    exact ⟨fun h0 => absurd h0 h.1, fun i hi => wpOpIn_of_qOp hC (fun a' w' hC' h' => wpAnyIn_of_T hL f _ a' w' hC' h') (h.2 i hi).2⟩
theorem wpAnyIn_of_seq {Q' : Exit → Act → World → Prop} : ∀ (l : List Oper) (k : Nat) (listed : Array Bool) (a : Act) (w : World), (∀ j, l[j]? = ops[k + j]?) →
    Region.seqB md ops l.length k listed = true → wpListIn Fence.wide m P ops Q' l a w → wpAnyIn Fence.wide m P md ops Q' l.length listed a w
  | [], _, _, _, _, _, hB, h => ⟨by simpa [Region.seqB] using hB, h⟩
  | o :: l, k, listed, a, w, hl, hB, h => by
    have h0 : ops[k]? = some o := by simpa using (hl 0).symm
    simp only [List.length_cons, Region.seqB, Bool.and_eq_true, decide_eq_true_eq] at hB
    refine ⟨fun h1 => (by rw [hB.1] at h1; cases h1), fun i hi => ?_⟩
    rw [hB.1] at hi
    have hik : i = k := by simpa using hi
    subst hik
    have hw : wpOpIn Fence.wide m P ops Q' i (wpListIn Fence.wide m P ops Q' l) a w := by unfold wpOpIn; simp only [h0]; exact h
    exact wpOpIn_mono (fun a' w' h' => wpAnyIn_of_seq l (i + 1) _ a' w' (fun j => by have := hl (j + 1); simpa [Nat.add_assoc, Nat.add_comm 1 j] using this) hB.2 h') hw
theorem wpIn_region_quiet_tail {id : Nat} {Q : Exit → Act → World → Prop} {a : Act} {w : World} {l : List Oper} (n : Nat) (C : World → Prop) (hm : P.follows .mixedOrders = true) (hB : Region.lexTailB .any l.toArray n = true) (hC : C { w with drawn := w.drawn + 1 })
    (h : wpQuiet P l.toArray C (fun a' => ∀ w', C w' → wpListIn Fence.wide m P l.toArray Q (l.drop n) a' w') (l.take n) a) : (Code.region id l.toArray true).wpIn Fence.wide m P Q a w := by
  simp only [Region.lexTailB, Bool.and_eq_true, decide_eq_true_eq] at hB
  obtain ⟨⟨⟨⟨hsel, hn⟩, hs⟩, hc⟩, hlex⟩ := hB
  have hn' : n < l.length := by simpa using hn
  have htl : (l.take n).length = n := by simp; omega
  have hdl : (l.drop n).length = l.toArray.size - n := by simp
  have inv0 : HeadInv .any l.toArray n (Array.replicate l.toArray.size false) :=
    ⟨by simp, fun j oj _ hl => (by rw [getD_replicate_false] at hl; cases hl), fun t _ ht => getD_in (by simpa using ht) (getD_replicate_false _ _)⟩
  have H := wpAnyT_lex (md := .any) (C := C) (g := l.toArray.size - n) hsel hs hc hn (l.take n) 0 _ a (fun j hj => by
    rw [htl] at hj
    simp [hj]) (by simpa using htl) inv0 (by rw [htl]; exact hlex) h
  refine wpIn_region_any hm ?_
  have := wpAnyIn_of_T (m := m) (Q' := Q) (g := l.toArray.size - n) (fun listed a' w' hw' hL => by
    have := wpAnyIn_of_seq (m := m) (md := .any) (Q' := Q) (l.drop n) n listed a' w' (fun j => by simp [List.getElem?_drop]) (by rw [hdl]; exact hL.1) (hL.2 w' hw')
    rwa [hdl] at this) _ _ _ _ hC H
  rw [htl, show n + (l.toArray.size - n) = l.toArray.size by omega] at this
  exact this
/-- A quiet head and a tail, in a round. -/
theorem wpIn_round_quiet_tail {id r : Nat} {Q : Exit → Act → World → Prop} {a : Act} {w : World} {l : List Oper} (n : Nat) (C : World → Prop) (hd : noDefer l.toArray = true) (hLO : ¬ LetsOut Q) (hm : P.follows .mixedOrders = true) (hB : Region.lexTailB .any l.toArray n = true) (hC : C { w with drawn := w.drawn + 1 })
    (h : wpQuiet P l.toArray C (fun a' => ∀ w', C w' → wpList P l.toArray Q (l.drop n) a' w') (l.take n) a) : (Code.region id l.toArray true).wpIn (Fence.wide.inRound r) m P Q a w := by
  simp only [Region.lexTailB, Bool.and_eq_true, decide_eq_true_eq] at hB
  obtain ⟨⟨⟨⟨hsel, hn⟩, hs⟩, hc⟩, hlex⟩ := hB
  have hn' : n < l.length := by simpa using hn
  have htl : (l.take n).length = n := by simp; omega
  have hdl : (l.drop n).length = l.toArray.size - n := by simp
  have inv0 : HeadInv .any l.toArray n (Array.replicate l.toArray.size false) :=
    ⟨by simp, fun j oj _ hl => (by rw [getD_replicate_false] at hl; cases hl), fun t _ ht => getD_in (by simpa using ht) (getD_replicate_false _ _)⟩
  have H := wpAnyT_lex (md := .any) (C := C) (g := l.toArray.size - n) hsel hs hc hn (l.take n) 0 _ a (fun j hj => by
    rw [htl] at hj
    simp [hj]) (by simpa using htl) inv0 (by rw [htl]; exact hlex) h
  have := wpAny_of_T (Q' := Q) (g := l.toArray.size - n) (fun listed a' w' hw' hL => by
    have := wpAny_of_seq (md := .any) (Q' := Q) (l.drop n) n listed a' w' (fun j => by simp [List.getElem?_drop]) (by rw [hdl]; exact hL.1) (hL.2 w' hw')
    rwa [hdl] at this) _ _ _ _ hC H
  rw [htl, show n + (l.toArray.size - n) = l.toArray.size by omega] at this
  refine wpIn_region_draw fun t => ops_in hd hLO _ _ _ ?_
  simp only [Region.schedule, hm, Bool.true_or, if_true]
  exact wpAny_sound l.toArray.size t _ a _ this
end
end Go
