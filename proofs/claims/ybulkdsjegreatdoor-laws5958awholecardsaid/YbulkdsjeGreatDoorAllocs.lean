/-
  A REGION THAT DRAWS ITS ORDER, IN WHICH SEVERAL OPERATIONS ALLOCATE: whatever the order, the new blocks are distinct, lie behind the old ones and hold their objects; each slot holds what it would in the text's order, but for the blocks' numbers. 'blk i' is the block that operation i made; 'z', the last, waits for all others and is walked by itself.
-/
import Derived.Test.YbulkdsjeGreatDoorInv
import Derived.Test.YbulkdsjeGreatDoorKit
set_option linter.unusedVariables false
namespace Go
open Go.RowKit
section
variable {P : Program} {ops : Array Oper} {Q : Exit → Act → World → Prop}

/-- The frame behind the first operations. -/
def lay (val : Nat → Value) : List Oper → Nat → Act → Act
  | [], _, a => a
  | o :: r, j, a => lay val r (j + 1) (a.put o.dst (val j))
theorem put_size (a : Act) (d : Option Tmp) (v : Value) : (a.put d v).tmps.size = a.tmps.size := by unfold Act.put; split <;> simp
theorem put_defers (a : Act) (d : Option Tmp) (v : Value) : (a.put d v).defers = a.defers := by unfold Act.put; split <;> rfl
theorem put_same (a : Act) (d : Tmp) (v : Value) (h : d < a.tmps.size) : (a.put (some d) v).tmps[d]? = some v := by
  unfold Act.put; simp [h]
theorem put_other (a : Act) (d : Option Tmp) (v : Value) (s : Nat) (h : d ≠ some s) : (a.put d v).tmps[s]? = a.tmps[s]? := by
  cases d with
  | none => rfl
  | some d => unfold Act.put; simp only; rw [Array.getElem?_setIfInBounds_ne (fun e => h (by rw [e]))]
theorem lay_size (val : Nat → Value) : ∀ (l : List Oper) (j : Nat) (a : Act), (lay val l j a).tmps.size = a.tmps.size
  | [], _, _ => rfl
  | o :: r, j, a => by unfold lay; rw [lay_size val r, put_size]
theorem lay_defers (val : Nat → Value) : ∀ (l : List Oper) (j : Nat) (a : Act), (lay val l j a).defers = a.defers
  | [], _, _ => rfl
  | o :: r, j, a => by unfold lay; rw [lay_defers val r, put_defers]
theorem lay_none (val : Nat → Value) (s : Nat) : ∀ (l : List Oper) (j : Nat) (a : Act), (∀ o ∈ l, o.dst ≠ some s) → (lay val l j a).tmps[s]? = a.tmps[s]?
  | [], _, _, _ => rfl
  | o :: r, j, a, h => by
    unfold lay
    rw [lay_none val s r _ _ (fun o' ho => h o' (List.mem_cons_of_mem _ ho)), put_other _ _ _ _ (h o (List.mem_cons_self ..))]
theorem lay_at (val : Nat → Value) (s : Nat) : ∀ (l : List Oper) (j : Nat) (a : Act) (k : Nat) (o : Oper), l[k]? = some o → o.dst = some s → s < a.tmps.size → (∀ k' o', l[k']? = some o' → o'.dst = some s → k' = k) → (lay val l j a).tmps[s]? = some (val (j + k))
  | [], _, _, _, _, h, _, _, _ => by simp at h
  | o1 :: r, j, a, 0, o, h, hd, hs, hu => by
    simp at h
    subst h
    unfold lay
    rw [lay_none val s r _ _ (fun o' ho hd' => by
      obtain ⟨k', hk', e⟩ := List.getElem_of_mem ho
      have := hu (k' + 1) o' (by rw [List.getElem?_cons_succ, List.getElem?_eq_getElem hk', e]) hd'
      omega), hd, put_same _ _ _ hs, Nat.add_zero]
  | o1 :: r, j, a, k + 1, o, h, hd, hs, hu => by
    unfold lay
    have := lay_at val s r (j + 1) (a.put o1.dst (val j)) k o (by simpa using h) hd (by rw [put_size]; exact hs) (fun k' o' h' hd' => by
      have := hu (k' + 1) o' (by simpa using h') hd'
      omega)
    rw [this]
    congr 2
    omega

/-- What the kernel checks. -/
def allocB (ops : Array Oper) (z n : Nat) (dep : Nat → List Nat) : Bool :=
  decide (ops.size = z + 1) && ops.all (fun o => o.guard.isNone) && (List.range (z + 1)).all (fun i => match ops[i]? with | some o => o.after.all (fun e => decide (e.on < i)) | none => true)
  && Region.lastB .any ops z && (List.range z).all (fun i => (dep i).all (fun k => decide (k = i) || (decide (k < z) && (match ops[i]? with | some o => o.after.any (fun e => Region.binds .any e && (dep e.on).contains k) | none => false))))
  && (List.range z).all (fun i => match ops[i]? with | some o => (match o.dst with | some d => decide (d < n) && (List.range z).all (fun j => match ops[j]? with | some o' => o'.dst != some d || j == i | none => true) | none => true) | none => true)

structure AllocJ (ops : Array Oper) (z : Nat) (dep : Nat → List Nat) (val : Nat → (Nat → Nat) → Value) (obj : Nat → (Nat → Nat) → Option Obj) (a0 : Act) (w0 : World) (listed : Array Bool) (a : Act) (w : World) (blk : Nat → Nat) : Prop where
  cl : Closed .any ops listed
  len : listed.size = ops.size
  dp : ∀ j k, listed.getD j false = true → j ≠ z → k ∈ dep j → listed.getD k false = true
  hz : listed.getD z false = false
  sz : a.tmps.size = a0.tmps.size
  df : a.defers = a0.defers
  hB : ∀ j o d, ops[j]? = some o → j ≠ z → o.dst = some d → listed.getD j false = true → a.tmps[d]? = some (val j blk)
  hC : ∀ s, (∀ j o, ops[j]? = some o → j ≠ z → o.dst = some s → listed.getD j false = false) → a.tmps[s]? = a0.tmps[s]?
  hD : Below w0.heap.size w0 w
  hE : ∀ j ob, listed.getD j false = true → obj j blk = some ob → w0.heap.size ≤ blk j ∧ w.heap[blk j]? = some ob
  hF : ∀ i j, listed.getD i false = true → listed.getD j false = true → i ≠ j → (obj i blk).isSome = true → (obj j blk).isSome = true → blk i ≠ blk j

theorem least_unlisted (listed : Array Bool) : ∀ b, (∀ k, k < b → listed.getD k false = true) ∨ ∃ j0, (j0 < b ∧ listed.getD j0 false = false) ∧ ∀ k, k < j0 → listed.getD k false = true
  | 0 => .inl fun k hk => by omega
  | b + 1 => by
    rcases least_unlisted listed b with h | ⟨j0, h1, h2⟩
    · cases hb' : listed.getD b false with
      | true =>
        refine .inl fun k hk => ?_
        by_cases hkb : k = b
        · subst hkb; exact hb'
        · exact h k (by omega)
      | false => exact .inr ⟨b, ⟨by omega, hb'⟩, h⟩
    · exact .inr ⟨j0, ⟨by omega, h1.2⟩, h2⟩

theorem wp_region_allocs {id : Nat} {a0 : Act} {w0 : World} {l : List Oper} (z n : Nat) (val : Nat → (Nat → Nat) → Value) (obj : Nat → (Nat → Nat) → Option Obj) (dep : Nat → List Nat) (hm : P.follows .mixedOrders = true) (hB : allocB l.toArray z n dep = true) (hn : a0.tmps.size = n)
    (hloc : ∀ j, j < z → ∀ blk blk', (∀ k ∈ dep j, blk k = blk' k) → val j blk = val j blk' ∧ obj j blk = obj j blk')
    (hexec : ∀ i o, l[i]? = some o → i < z → ∀ (blk : Nat → Nat) (a : Act) (w : World), Below w0.heap.size w0 w → blk i = w.heap.size →
      (∀ j oj d, l[j]? = some oj → oj.dst = some d → Region.waitsFor .any l.toArray i j = true → a.eval (.tmp d) = val j blk) → (∀ s, (l.take z).all (fun o => o.dst != some s) = true → a.eval (.tmp s) = a0.eval (.tmp s)) →
      (execOp a.eval o).run P w = .ok (.value (val i blk)) (match obj i blk with | some ob => w.alloc ob | none => w))
    (hend : ∀ oz, l[z]? = some oz → ∀ (blk : Nat → Nat) (w : World), Below w0.heap.size w0 w → (∀ j ob, j < z → obj j blk = some ob → w0.heap.size ≤ blk j ∧ w.heap[blk j]? = some ob) → (∀ i j, i < z → j < z → i ≠ j → (obj i blk).isSome = true → (obj j blk).isSome = true → blk i ≠ blk j) →
      wpList P l.toArray Q [oz] (lay (fun j => val j blk) (l.take z) 0 a0) w) : (Code.region id l.toArray true).wp P Q a0 w0 := by
  simp only [allocB, Bool.and_eq_true, decide_eq_true_eq] at hB
  obtain ⟨⟨⟨⟨⟨hsize, hgd⟩, hdown⟩, hlast⟩, hdep⟩, hdst⟩ := hB
  have hll : l.length = z + 1 := by simpa using hsize
  have hl? : ∀ i, l.toArray[i]? = l[i]? := fun i => List.getElem?_toArray
  have GD : ∀ (i : Nat) (o : Oper), l[i]? = some o → o.guard = none := fun i o ho => by
    have := Array.all_eq_true_iff_forall_mem.1 hgd o (Array.mem_of_getElem? (by rw [hl?]; exact ho))
    simpa using this
  have DN : ∀ (i : Nat) (o : Oper) (e : Edge), l[i]? = some o → e ∈ o.after → e.on < i := fun i o e ho he => by
    have hi : i < z + 1 := by rw [← hll]; exact (List.getElem?_eq_some_iff.1 ho).1
    have := List.all_eq_true.1 hdown i (List.mem_range.2 hi)
    rw [hl?, ho] at this
    have := Array.all_eq_true_iff_forall_mem.1 this e he
    simpa using this
  have DEP : ∀ (i : Nat) (o : Oper) (k : Nat), l[i]? = some o → i < z → k ∈ dep i → k = i ∨ (k < z ∧ ∃ e ∈ o.after, Region.binds .any e = true ∧ k ∈ dep e.on) := fun i o k ho hi hk => by
    have := List.all_eq_true.1 (List.all_eq_true.1 hdep i (List.mem_range.2 hi)) k hk
    rw [hl?, ho] at this
    simp only [Bool.or_eq_true, Bool.and_eq_true, decide_eq_true_eq, Array.any_eq_true', List.contains_iff_mem] at this
    rcases this with h | ⟨h1, e, he, h2, h3⟩
    · exact .inl h
    · exact .inr ⟨h1, e, he, h2, by simpa using h3⟩
  have DST : ∀ (i : Nat) (o : Oper) (d : Nat), l[i]? = some o → i < z → o.dst = some d → d < n ∧ ∀ (j : Nat) (oj : Oper), l[j]? = some oj → j < z → oj.dst = some d → j = i := fun i o d ho hi hd => by
    have := List.all_eq_true.1 hdst i (List.mem_range.2 hi)
    rw [hl?, ho] at this
    simp only [hd, Bool.and_eq_true, decide_eq_true_eq] at this
    refine ⟨this.1, fun j oj hj hjz hjd => ?_⟩
    have h2 := List.all_eq_true.1 this.2 j (List.mem_range.2 hjz)
    rw [hl?, hj] at h2
    simp only [hjd, Bool.or_eq_true, bne_self_eq_false, Bool.false_eq_true, false_or] at h2
    simpa using h2
  have OUT : ∀ {listed : Array Bool} {i : Nat}, listed.size = l.toArray.size → listed.getD i false = true → i < z + 1 := fun {listed i} hls hi => by
    rcases Nat.lt_or_ge i (z + 1) with h | h
    · exact h
    · rw [Array.getD_eq_getD_getElem?, Array.getElem?_eq_none (by rw [hls]; simp; omega)] at hi
      cases hi
  refine wp_region_inv hm (fun listed a w => (∃ blk, AllocJ l.toArray z dep val obj a0 w0 listed a w blk) ∨ (Q .normal a w ∧ Region.ready .any l.toArray listed = [])) (.inl ⟨fun _ => 0, ?_⟩) ?_ ?_
  · refine ⟨Closed.init _, by simp, fun j k h => ?_, getD_replicate_false _ _, rfl, rfl, fun j o d _ _ _ h => ?_, fun s _ => rfl, ⟨rfl, rfl, rfl, Nat.le_refl _, fun _ _ => rfl⟩, fun j ob h => ?_, fun i j h => ?_⟩ <;> (rw [getD_replicate_false] at h; cases h)
  · intro listed a w hJ i hi
    rcases hJ with ⟨blk, J⟩ | ⟨_, hr⟩
    · obtain ⟨hun, o, ho, hall⟩ := mem_ready.1 hi
      have ho' : l[i]? = some o := by rw [← hl?]; exact ho
      have hiz1 : i < z + 1 := by rw [← hll]; exact (List.getElem?_eq_some_iff.1 ho').1
      have hw : Region.wanted o (yielded l.toArray a.tmps) = true := by unfold Region.wanted; rw [GD i o ho']
      by_cases hiz : i = z
      · subst hiz
        have hAll : ∀ j, j < i → listed.getD j false = true := fun j hj => by
          cases hq : listed.getD j false with
          | true => rfl
          | false =>
            -- the least that is not listed would be ready beside z
            exfalso
            obtain ⟨j0, hj0, hmin⟩ : ∃ j0, (j0 < i ∧ listed.getD j0 false = false) ∧ ∀ k, k < j0 → listed.getD k false = true := by
              rcases least_unlisted listed i with h | h
              · rw [h j hj] at hq; cases hq
              · exact h
            have hj0s : j0 < l.length := by omega
            have hj0o : l[j0]? = some l[j0] := List.getElem?_eq_getElem hj0s
            have hrd : j0 ∈ Region.ready .any l.toArray listed := mem_ready.2 ⟨getD_in (by rw [J.len]; simpa using hj0s) hj0.2, l[j0], by rw [hl?]; exact hj0o, fun e he _ => hmin _ (DN j0 _ e hj0o he)⟩
            have := last_waits hlast J.cl hrd hi
            omega
        have hfr : a = lay (fun j => val j blk) (l.take i) 0 a0 := by
          have ht : a.tmps = (lay (fun j => val j blk) (l.take i) 0 a0).tmps := by
            refine Array.ext_getElem? fun s => ?_
            by_cases hs : ∃ j oj, l[j]? = some oj ∧ j < i ∧ oj.dst = some s
            · obtain ⟨j, oj, hj, hji, hd⟩ := hs
              rw [J.hB j oj s (by rw [hl?]; exact hj) (by omega) hd (hAll j hji)]
              have := lay_at (fun j => val j blk) s (l.take i) 0 a0 j oj (by rw [List.getElem?_take_of_lt hji]; exact hj) hd (by rw [hn]; exact (DST j oj s hj hji hd).1) (fun k' o' hk' hd' => by
                have hk'i : k' < i := by have := (List.getElem?_eq_some_iff.1 hk').1; simp at this; omega
                rw [List.getElem?_take_of_lt hk'i] at hk'
                exact (DST j oj s hj hji hd).2 k' o' hk' hk'i hd')
              rw [this, Nat.zero_add]
            · rw [lay_none _ s _ _ _ (fun o' ho' hd' => by
                obtain ⟨k', hk', e⟩ := List.getElem_of_mem ho'
                have hk'i : k' < i := by simp at hk'; omega
                refine hs ⟨k', o', ?_, hk'i, hd'⟩
                rw [← List.getElem?_take_of_lt hk'i, List.getElem?_eq_getElem hk', e])]
              exact J.hC s (fun j oj hj hjz hd => by
                exfalso
                rw [hl?] at hj
                have : j < i + 1 := by rw [← hll]; exact (List.getElem?_eq_some_iff.1 hj).1
                exact hs ⟨j, oj, hj, by omega, hd⟩)
          have hdf : a.defers = (lay (fun j => val j blk) (l.take i) 0 a0).defers := by rw [lay_defers]; exact J.df
          cases a
          cases hlay : lay (fun j => val j blk) (l.take i) 0 a0
          rw [hlay] at ht hdf
          simp at ht hdf
          rw [ht, hdf]
        have he := hend o ho' blk w J.hD (fun j ob hj hob => J.hE j ob (hAll j hj) hob) (fun p q hp hq hpq h1 h2 => J.hF p q (hAll p hp) (hAll q hq) hpq h1 h2)
        rw [← hfr] at he
        have hr0 : Region.ready .any l.toArray (listed.setIfInBounds i true) = [] := by
          refine List.eq_nil_iff_forall_not_mem.2 fun j hj => ?_
          obtain ⟨h1, oj, hoj, _⟩ := mem_ready.1 hj
          have hjl : j < i + 1 := by rw [hl?] at hoj; rw [← hll]; exact (List.getElem?_eq_some_iff.1 hoj).1
          by_cases hji : i = j
          · subst hji
            have : (listed.setIfInBounds i true).getD i true = true := by
              rw [Array.getD_eq_getD_getElem?, Array.getElem?_setIfInBounds_self_of_lt (by rw [J.len]; simp; omega)]; rfl
            rw [this] at h1; cases h1
          · rw [getD_set_ne true hji] at h1
            have h3 := hAll j (by omega)
            rw [getD_both h1] at h3
            cases h3
        unfold wpOp
        rw [ho]
        simp only [hw, if_true]
        unfold wpList at he
        rw [if_pos hw] at he
        rcases he with he | he
        · exact .inl (Oper.wp_mono (fun a' w' h' => .inr ⟨h', hr0⟩) he)
        · exact .inr he
      · have hiz' : i < z := by omega
        have hrun := hexec i o ho' hiz' (fun k => if k = i then w.heap.size else blk k) a w J.hD (by simp) (fun j oj d hj hd hwf => by
          obtain ⟨oi, hoi, e, he, hb, hon⟩ := Region.waitsFor_spec hwf
          obtain rfl : oi = o := Option.some.inj (hoi.symm.trans ho)
          have hL := hall e he hb
          rw [hon] at hL
          have hji : j < i := by rw [← hon]; exact DN i oi e ho' he
          have h1 := J.hB j oj d (by rw [hl?]; exact hj) (by omega) hd hL
          show a.tmps.getD d undef = _
          rw [Array.getD_eq_getD_getElem?, h1]
          have hni : ∀ k ∈ dep j, blk k = (fun k => if k = i then w.heap.size else blk k) k := fun k hk => by
            have : k ≠ i := fun e' => by
              have h9 := J.dp j k hL (by omega) hk
              rw [e', getD_both hun] at h9
              cases h9
            simp [this]
          exact (hloc j (by omega) _ _ hni).1) (fun s hs => by
          have := J.hC s (fun j oj hj hjz hd => by
            exfalso
            rw [hl?] at hj
            have : j < z + 1 := by rw [← hll]; exact (List.getElem?_eq_some_iff.1 hj).1
            have h9 := List.all_eq_true.1 hs oj (List.mem_of_getElem? (i := j) (by rw [List.getElem?_take_of_lt (by omega)]; exact hj))
            rw [hd] at h9
            simp at h9)
          show a.tmps.getD s undef = a0.tmps.getD s undef
          rw [Array.getD_eq_getD_getElem?, this, Array.getD_eq_getD_getElem?])
        unfold wpOp
        rw [ho]
        simp only [hw, if_true]
        refine .inl ?_
        unfold Oper.wp
        rw [hrun]
        simp only [Oper.upon]
        refine .inl ⟨fun k => if k = i then w.heap.size else blk k, ?_⟩
        have hset : ∀ j, j ≠ i → (listed.setIfInBounds i true).getD j false = listed.getD j false := fun j hj => getD_set_ne false (Ne.symm hj)
        have hne : ∀ j, j ≠ i → listed.getD j false = true → j ≠ z → ∀ k ∈ dep j, blk k = (fun k => if k = i then w.heap.size else blk k) k := fun j hj hL hjz k hk => by
          have : k ≠ i := fun e' => by
            have h9 := J.dp j k hL hjz hk
            rw [e', getD_both hun] at h9
            cases h9
          simp [this]
        have hLz : ∀ j, listed.getD j false = true → j ≠ z ∧ j < z := fun j hL => by
          have h1 := OUT J.len hL
          have h2 : j ≠ z := fun e => by rw [e, J.hz] at hL; cases hL
          exact ⟨h2, by omega⟩
        have hEold : ∀ j ob, listed.getD j false = true → obj j (fun k => if k = i then w.heap.size else blk k) = some ob → w0.heap.size ≤ blk j ∧ w.heap[blk j]? = some ob := fun j ob hL hob => by
          obtain ⟨hjz, hjz'⟩ := hLz j hL
          have hji : j ≠ i := fun e => by rw [e, getD_both hun] at hL; cases hL
          rw [← (hloc j hjz' _ _ (hne j hji hL hjz)).2] at hob
          exact J.hE j ob hL hob
        have hsub : ∀ j (x : World), w.heap.size ≤ x.heap.size → (∀ k, k < w.heap.size → x.heap[k]? = w.heap[k]?) → ∀ ob, listed.getD j false = true → obj j (fun k => if k = i then w.heap.size else blk k) = some ob → w0.heap.size ≤ blk j ∧ x.heap[blk j]? = some ob := fun j x hx1 hx2 ob hL hob => by
          obtain ⟨h1, h2⟩ := hEold j ob hL hob
          exact ⟨h1, by rw [hx2 _ (Array.getElem?_eq_some_iff.1 h2).1]; exact h2⟩
        have hw' : Below w0.heap.size w0 (match obj i (fun k => if k = i then w.heap.size else blk k) with | some ob => w.alloc ob | none => w) ∧ (w.heap.size ≤ (match obj i (fun k => if k = i then w.heap.size else blk k) with | some ob => w.alloc ob | none => w).heap.size) ∧ (∀ k, k < w.heap.size → (match obj i (fun k => if k = i then w.heap.size else blk k) with | some ob => w.alloc ob | none => w).heap[k]? = w.heap[k]?) ∧ (∀ ob, obj i (fun k => if k = i then w.heap.size else blk k) = some ob → (match obj i (fun k => if k = i then w.heap.size else blk k) with | some ob => w.alloc ob | none => w).heap[w.heap.size]? = some ob) := by
          cases hobj : obj i (fun k => if k = i then w.heap.size else blk k) with
          | none => exact ⟨J.hD, Nat.le_refl _, fun _ _ => rfl, fun ob h => by cases h⟩
          | some ob => exact ⟨J.hD.alloc J.hD.size _, by simp only [World.size_alloc]; omega, fun k hk => ((Kept.refl (fun _ => False) w).alloc ob).block k hk (fun h => h), fun ob' h => by cases h; exact World.alloc_heap_new w ob⟩
        generalize hW : (match obj i (fun k => if k = i then w.heap.size else blk k) with | some ob => w.alloc ob | none => w) = W at hw' ⊢
        obtain ⟨hw1, hw2, hw3, hw4⟩ := hw'
        refine ⟨J.cl.set hi, by simp [J.len], fun j k hL hjz hk => ?_, ?_, by rw [put_size]; exact J.sz, by rw [put_defers]; exact J.df, fun j oj d hj hjz hd hL => ?_, fun s hs => ?_, hw1, fun j ob hL hob => ?_, fun p q hp hq hpq h1 h2 => ?_⟩
        · by_cases hji : j = i
          · subst hji
            rcases DEP j o k ho' hiz' hk with rfl | ⟨hkz, e, he, hb, hke⟩
            · exact hL
            · have hLe := hall e he hb
              have heon : e.on < j := DN j o e ho' he
              exact getD_set_true (J.dp e.on k hLe (by omega) hke)
          · rw [hset j hji] at hL
            exact getD_set_true (J.dp j k hL hjz hk)
        · rw [hset z (by omega)]; exact J.hz
        · by_cases hji : j = i
          · subst hji
            rw [hl?] at hj
            obtain rfl : oj = o := Option.some.inj (hj.symm.trans ho')
            rw [hd]
            exact put_same _ _ _ (by rw [J.sz, hn]; exact (DST j oj d hj hiz' hd).1)
          · rw [hset j hji] at hL
            rw [hl?] at hj
            obtain ⟨_, hjz'⟩ := hLz j hL
            rw [put_other _ _ _ _ (fun e => hji ((DST i o d ho' hiz' e).2 j oj hj hjz' hd)), J.hB j oj d (by rw [hl?]; exact hj) hjz hd hL]
            rw [(hloc j hjz' _ _ (hne j hji hL hjz)).1]
        · have hd : o.dst ≠ some s := fun e => by
            have := hs i o ho hiz e
            rw [Array.getD_eq_getD_getElem?, Array.getElem?_setIfInBounds_self_of_lt (by rw [J.len]; simp; omega)] at this
            cases this
          rw [put_other _ _ _ _ hd]
          exact J.hC s (fun j oj hj hjz hjd => by
            by_cases hji : j = i
            · subst hji; exact getD_both hun
            · rw [← hset j hji]; exact hs j oj hj hjz hjd)
        · by_cases hji : j = i
          · subst hji
            simp only [if_true]
            exact ⟨J.hD.size, hw4 ob hob⟩
          · rw [hset j hji] at hL
            simp only [if_neg hji]
            exact hsub j W hw2 hw3 ob hL hob
        · by_cases hpi : p = i
          · subst hpi
            have hqi : q ≠ p := fun e => hpq e.symm
            rw [hset q hqi] at hq
            obtain ⟨ob, hob⟩ := Option.isSome_iff_exists.1 h2
            have := (Array.getElem?_eq_some_iff.1 (hEold q ob hq hob).2).1
            simp only [if_true, if_neg hqi]
            omega
          · by_cases hqi : q = i
            · subst hqi
              rw [hset p hpi] at hp
              obtain ⟨ob, hob⟩ := Option.isSome_iff_exists.1 h1
              have := (Array.getElem?_eq_some_iff.1 (hEold p ob hp hob).2).1
              simp only [if_true, if_neg hpi]
              omega
            · rw [hset p hpi] at hp
              rw [hset q hqi] at hq
              obtain ⟨hpz, hpz'⟩ := hLz p hp
              obtain ⟨hqz, hqz'⟩ := hLz q hq
              rw [← (hloc p hpz' _ _ (hne p hpi hp hpz)).2] at h1
              rw [← (hloc q hqz' _ _ (hne q hqi hq hqz)).2] at h2
              simp only [if_neg hpi, if_neg hqi]
              exact J.hF p q hp hq hpq h1 h2
    · rw [hr] at hi; cases hi
  · intro listed a w hJ hr
    rcases hJ with ⟨blk, J⟩ | ⟨h, _⟩
    · exfalso
      -- the least that is not listed is ready
      obtain ⟨j0, hj0, hmin⟩ : ∃ j0, (j0 ≤ z ∧ listed.getD j0 false = false) ∧ ∀ k, k < j0 → listed.getD k false = true := by
        rcases least_unlisted listed z with h | ⟨j0, h1, h2⟩
        · exact ⟨z, ⟨Nat.le_refl _, J.hz⟩, h⟩
        · exact ⟨j0, ⟨by omega, h1.2⟩, h2⟩
      have hj0s : j0 < l.length := by omega
      have hj0o : l[j0]? = some l[j0] := List.getElem?_eq_getElem hj0s
      have hrd : j0 ∈ Region.ready .any l.toArray listed := mem_ready.2 ⟨getD_in (by rw [J.len]; simpa using hj0s) hj0.2, l[j0], by rw [hl?]; exact hj0o, fun e he _ => hmin _ (DN j0 _ e hj0o he)⟩
      rw [hr] at hrd
      cases hrd
    · exact h
end
end Go
