/-
  A REGION THAT DRAWS ITS ORDER, IN WHICH SOME OPERATIONS ACT (calls, allocations): 'nu i' is what operation i yielded; 'Wd L nu w' says what holds of the world once the operations of L are carried out. Each operation that may come up leads from Wd L to Wd with it; 'z', the last, waits for all others and is walked by itself.
-/
import Derived.Test.YbulkdsjeGreatDoorExec
set_option linter.unusedVariables false
namespace Go
open Go.RowKit
section
variable {P : Program} {ops : Array Oper} {Q : Exit → Act → World → Prop}

def actsB (ops : Array Oper) (z n : Nat) : Bool :=
  decide (ops.size = z + 1) && ops.all (fun o => o.guard.isNone) && (List.range (z + 1)).all (fun i => match ops[i]? with | some o => o.after.all (fun e => decide (e.on < i)) | none => true)
  && Region.lastB .any ops z
  && (List.range z).all (fun i => match ops[i]? with | some o => (match o.dst with | some d => decide (d < n) && (List.range z).all (fun j => match ops[j]? with | some o' => o'.dst != some d || j == i | none => true) | none => true) | none => true)
def updL (L : Nat → Bool) (i : Nat) : Nat → Bool := fun k => if k = i then true else L k
def updV (nu : Nat → Value) (i : Nat) (v : Value) : Nat → Value := fun k => if k = i then v else nu k

structure ActsJ (ops : Array Oper) (z : Nat) (Wd : (Nat → Bool) → (Nat → Value) → World → Prop) (a0 : Act) (listed : Array Bool) (a : Act) (w : World) (nu : Nat → Value) : Prop where
  cl : Closed .any ops listed
  len : listed.size = ops.size
  hz : listed.getD z false = false
  sz : a.tmps.size = a0.tmps.size
  df : a.defers = a0.defers
  hB : ∀ j o d, ops[j]? = some o → j ≠ z → o.dst = some d → listed.getD j false = true → a.tmps[d]? = some (nu j)
  hC : ∀ s, (∀ j o, ops[j]? = some o → j ≠ z → o.dst = some s → listed.getD j false = false) → a.tmps[s]? = a0.tmps[s]?
  hD : Wd (fun k => listed.getD k false) nu w

theorem wp_region_acts {id : Nat} {a0 : Act} {w0 : World} {l : List Oper} (z n : Nat) (Wd : (Nat → Bool) → (Nat → Value) → World → Prop) (hm : P.follows .mixedOrders = true) (hB : actsB l.toArray z n = true) (hn : a0.tmps.size = n)
    (h0 : ∀ nu, Wd (fun _ => false) nu w0.drew)
    (hstep : ∀ i o, l[i]? = some o → i < z → ∀ (L : Nat → Bool) (nu : Nat → Value) (a : Act) (w : World), L i = false → (∀ j, Region.waitsFor .any l.toArray i j = true → L j = true) → Wd L nu w →
      (∀ j oj d, l[j]? = some oj → oj.dst = some d → Region.waitsFor .any l.toArray i j = true → a.eval (.tmp d) = nu j) → (∀ s, (l.take z).all (fun o => o.dst != some s) = true → a.eval (.tmp s) = a0.eval (.tmp s)) →
      (∃ v w', (execOp a.eval o).run P w = .ok (.value v) w' ∧ Wd (updL L i) (updV nu i v) w') ∨ (∃ f args, (execOp a.eval o).run P w = .ok (.enter f args) w ∧ Calls P f args w fun e w' => ∃ v, e = .returned v ∧ Wd (updL L i) (updV nu i v) w') ∨ (∃ w', (execOp a.eval o).run P w = .ok .skip w' ∧ Wd (updL L i) (updV nu i undef) w'))
    (hend : ∀ oz, l[z]? = some oz → ∀ (L : Nat → Bool) (nu : Nat → Value) (w : World), (∀ j, j < z → L j = true) → Wd L nu w → wpList P l.toArray Q [oz] (lay nu (l.take z) 0 a0) w) : (Code.region id l.toArray true).wp P Q a0 w0 := by
  simp only [actsB, Bool.and_eq_true, decide_eq_true_eq] at hB
  obtain ⟨⟨⟨⟨hsize, hgd⟩, hdown⟩, hlast⟩, hdst⟩ := hB
  have hll : l.length = z + 1 := by simpa using hsize
  have hl? : ∀ i, l.toArray[i]? = l[i]? := fun i => List.getElem?_toArray
  have GD : ∀ (i : Nat) (o : Oper), l[i]? = some o → o.guard = none := fun i o ho => by
    have := Array.all_eq_true_iff_forall_mem.1 hgd o (Array.mem_of_getElem? (by rw [hl?]; exact ho))
    simpa using this
  have DN : ∀ (i : Nat) (o : Oper) (e : Edge), l[i]? = some o → e ∈ o.after → e.on < i := fun i o e ho he => by
    have hi : i < z + 1 := by rw [← hll]; exact (List.getElem?_eq_some_iff.1 ho).1
    have := List.all_eq_true.1 hdown i (List.mem_range.2 hi)
    rw [hl?, ho] at this
    have := Array.all_eq_true_iff_forall_mem.1 this e he
    simpa using this
  have DST : ∀ (i : Nat) (o : Oper) (d : Nat), l[i]? = some o → i < z → o.dst = some d → d < n ∧ ∀ (j : Nat) (oj : Oper), l[j]? = some oj → j < z → oj.dst = some d → j = i := fun i o d ho hi hd => by
    have := List.all_eq_true.1 hdst i (List.mem_range.2 hi)
    rw [hl?, ho] at this
    simp only [hd, Bool.and_eq_true, decide_eq_true_eq] at this
    refine ⟨this.1, fun j oj hj hjz hjd => ?_⟩
    have h2 := List.all_eq_true.1 this.2 j (List.mem_range.2 hjz)
    rw [hl?, hj] at h2
    simp only [hjd, Bool.or_eq_true, bne_self_eq_false, Bool.false_eq_true, false_or] at h2
    simpa using h2
  have OUT : ∀ {listed : Array Bool} {i : Nat}, listed.size = l.toArray.size → listed.getD i false = true → i < z + 1 := fun {listed i} hls hi => by
    rcases Nat.lt_or_ge i (z + 1) with h | h
    · exact h
    · rw [Array.getD_eq_getD_getElem?, Array.getElem?_eq_none (by rw [hls]; simp; omega)] at hi
      cases hi
  refine wp_region_inv hm (fun listed a w => (∃ nu, ActsJ l.toArray z Wd a0 listed a w nu) ∨ (Q .normal a w ∧ Region.ready .any l.toArray listed = [])) (.inl ⟨fun _ => undef, ?_⟩) ?_ ?_
  · refine ⟨Closed.init _, by simp, getD_replicate_false _ _, rfl, rfl, fun j o d _ _ _ h => (by rw [getD_replicate_false] at h; cases h), fun s _ => rfl, ?_⟩
    have e : (fun k => (Array.replicate l.toArray.size false).getD k false) = fun _ => false := funext fun k => getD_replicate_false _ _
    rw [e]
    exact h0 _
  · intro listed a w hJ i hi
    rcases hJ with ⟨nu, J⟩ | ⟨_, hr⟩
    · obtain ⟨hun, o, ho, hall⟩ := mem_ready.1 hi
      have ho' : l[i]? = some o := by rw [← hl?]; exact ho
      have hiz1 : i < z + 1 := by rw [← hll]; exact (List.getElem?_eq_some_iff.1 ho').1
      have hw : Region.wanted o (yielded l.toArray a.tmps) = true := by unfold Region.wanted; rw [GD i o ho']
      by_cases hiz : i = z
      · subst hiz
        have hAll : ∀ j, j < i → listed.getD j false = true := fun j hj => by
          cases hq : listed.getD j false with
          | true => rfl
          | false =>
            -- the least that is not listed would be ready beside z
            exfalso
            obtain ⟨j0, hj0, hmin⟩ : ∃ j0, (j0 < i ∧ listed.getD j0 false = false) ∧ ∀ k, k < j0 → listed.getD k false = true := by
              rcases least_unlisted listed i with h | h
              · rw [h j hj] at hq; cases hq
              · exact h
            have hj0s : j0 < l.length := by omega
            have hj0o : l[j0]? = some l[j0] := List.getElem?_eq_getElem hj0s
            have hrd : j0 ∈ Region.ready .any l.toArray listed := mem_ready.2 ⟨getD_in (by rw [J.len]; simpa using hj0s) hj0.2, l[j0], by rw [hl?]; exact hj0o, fun e he _ => hmin _ (DN j0 _ e hj0o he)⟩
            have := last_waits hlast J.cl hrd hi
            omega
        have hfr : a = lay nu (l.take i) 0 a0 := by
          have ht : a.tmps = (lay nu (l.take i) 0 a0).tmps := by
            refine Array.ext_getElem? fun s => ?_
            by_cases hs : ∃ j oj, l[j]? = some oj ∧ j < i ∧ oj.dst = some s
            · obtain ⟨j, oj, hj, hji, hd⟩ := hs
              rw [J.hB j oj s (by rw [hl?]; exact hj) (by omega) hd (hAll j hji)]
              have := lay_at nu s (l.take i) 0 a0 j oj (by rw [List.getElem?_take_of_lt hji]; exact hj) hd (by rw [hn]; exact (DST j oj s hj hji hd).1) (fun k' o' hk' hd' => by
                have hk'i : k' < i := by have := (List.getElem?_eq_some_iff.1 hk').1; simp at this; omega
                rw [List.getElem?_take_of_lt hk'i] at hk'
                exact (DST j oj s hj hji hd).2 k' o' hk' hk'i hd')
              rw [this, Nat.zero_add]
            · rw [lay_none _ s _ _ _ (fun o' ho' hd' => by
                obtain ⟨k', hk', e⟩ := List.getElem_of_mem ho'
                have hk'i : k' < i := by simp at hk'; omega
                refine hs ⟨k', o', ?_, hk'i, hd'⟩
                rw [← List.getElem?_take_of_lt hk'i, List.getElem?_eq_getElem hk', e])]
              exact J.hC s (fun j oj hj hjz hd => by
                exfalso
                rw [hl?] at hj
                have : j < i + 1 := by rw [← hll]; exact (List.getElem?_eq_some_iff.1 hj).1
                exact hs ⟨j, oj, hj, by omega, hd⟩)
          have hdf : a.defers = (lay nu (l.take i) 0 a0).defers := by rw [lay_defers]; exact J.df
          cases a
          cases hlay : lay nu (l.take i) 0 a0
          rw [hlay] at ht hdf
          simp at ht hdf
          rw [ht, hdf]
        have he := hend o ho' (fun k => listed.getD k false) nu w hAll J.hD
        rw [← hfr] at he
        have hr0 : Region.ready .any l.toArray (listed.setIfInBounds i true) = [] := by
          refine List.eq_nil_iff_forall_not_mem.2 fun j hj => ?_
          obtain ⟨h1, oj, hoj, _⟩ := mem_ready.1 hj
          have hjl : j < i + 1 := by rw [hl?] at hoj; rw [← hll]; exact (List.getElem?_eq_some_iff.1 hoj).1
          by_cases hji : i = j
          · subst hji
            have : (listed.setIfInBounds i true).getD i true = true := by
              rw [Array.getD_eq_getD_getElem?, Array.getElem?_setIfInBounds_self_of_lt (by rw [J.len]; simp; omega)]; rfl
            rw [this] at h1; cases h1
          · rw [getD_set_ne true hji] at h1
            have h3 := hAll j (by omega)
            rw [getD_both h1] at h3
            cases h3
        unfold wpOp
        rw [ho]
        simp only [hw, if_true]
        unfold wpList at he
        rw [if_pos hw] at he
        rcases he with he | he
        · exact .inl (Oper.wp_mono (fun a' w' h' => .inr ⟨h', hr0⟩) he)
        · exact .inr he
      · have hiz' : i < z := by omega
        have hLset : updL (fun k => listed.getD k false) i = fun k => (listed.setIfInBounds i true).getD k false := funext fun k => by
          unfold updL
          by_cases hk : k = i
          · subst hk
            rw [if_pos rfl, Array.getD_eq_getD_getElem?, Array.getElem?_setIfInBounds_self_of_lt (by rw [J.len]; simp; omega)]; rfl
          · rw [if_neg hk]; exact (getD_set_ne false (Ne.symm hk)).symm
        have hrun := hstep i o ho' hiz' (fun k => listed.getD k false) nu a w (getD_both hun) (fun j hwf => by
          obtain ⟨oi, hoi, e, he, hb, hon⟩ := Region.waitsFor_spec hwf
          obtain rfl : oi = o := Option.some.inj (hoi.symm.trans ho)
          have hL := hall e he hb
          rw [hon] at hL
          exact hL) J.hD (fun j oj d hj hd hwf => by
          obtain ⟨oi, hoi, e, he, hb, hon⟩ := Region.waitsFor_spec hwf
          obtain rfl : oi = o := Option.some.inj (hoi.symm.trans ho)
          have hL := hall e he hb
          rw [hon] at hL
          have hji : j < i := by rw [← hon]; exact DN i oi e ho' he
          have h1 := J.hB j oj d (by rw [hl?]; exact hj) (by omega) hd hL
          show a.tmps.getD d undef = _
          rw [Array.getD_eq_getD_getElem?, h1]
          rfl) (fun s hs => by
          have := J.hC s (fun j oj hj hjz hd => by
            exfalso
            rw [hl?] at hj
            have : j < z + 1 := by rw [← hll]; exact (List.getElem?_eq_some_iff.1 hj).1
            have h9 := List.all_eq_true.1 hs oj (List.mem_of_getElem? (i := j) (by rw [List.getElem?_take_of_lt (by omega)]; exact hj))
            rw [hd] at h9
            simp at h9)
          show a.tmps.getD s undef = a0.tmps.getD s undef
          rw [Array.getD_eq_getD_getElem?, this, Array.getD_eq_getD_getElem?])
        have hset : ∀ j, j ≠ i → (listed.setIfInBounds i true).getD j false = listed.getD j false := fun j hj => getD_set_ne false (Ne.symm hj)
        have hnext : ∀ v w', Wd (updL (fun k => listed.getD k false) i) (updV nu i v) w' → ActsJ l.toArray z Wd a0 (listed.setIfInBounds i true) (a.put o.dst v) w' (updV nu i v) := fun v w' hw' => by
          refine ⟨J.cl.set hi, by simp [J.len], ?_, by rw [put_size]; exact J.sz, by rw [put_defers]; exact J.df, fun j oj d hj hjz hd hL => ?_, fun s hs => ?_, by rw [← hLset]; exact hw'⟩
          · rw [hset z (by omega)]; exact J.hz
          · unfold updV
            by_cases hji : j = i
            · subst hji
              rw [hl?] at hj
              obtain rfl : oj = o := Option.some.inj (hj.symm.trans ho')
              rw [hd, if_pos rfl]
              exact put_same _ _ _ (by rw [J.sz, hn]; exact (DST j oj d hj hiz' hd).1)
            · rw [hset j hji] at hL
              rw [hl?] at hj
              have hjz' : j < z := by have := OUT J.len hL; omega
              rw [if_neg hji, put_other _ _ _ _ (fun e => hji ((DST i o d ho' hiz' e).2 j oj hj hjz' hd)), J.hB j oj d (by rw [hl?]; exact hj) hjz hd hL]
          · have hd : o.dst ≠ some s := fun e => by
              have := hs i o ho hiz e
              rw [Array.getD_eq_getD_getElem?, Array.getElem?_setIfInBounds_self_of_lt (by rw [J.len]; simp; omega)] at this
              cases this
            rw [put_other _ _ _ _ hd]
            exact J.hC s (fun j oj hj hjz hjd => by
              by_cases hji : j = i
              · subst hji; exact getD_both hun
              · rw [← hset j hji]; exact hs j oj hj hjz hjd)
        unfold wpOp
        rw [ho]
        simp only [hw, if_true]
        refine .inl ?_
        unfold Oper.wp
        rcases hrun with ⟨v, w', hr, hw'⟩ | ⟨f, args, hr, hc⟩ | ⟨w', hr, hw'⟩
        · rw [hr]
          simp only [Oper.upon]
          exact .inl ⟨_, hnext v w' hw'⟩
        · rw [hr]
          simp only [Oper.upon]
          refine hc.mono fun e w' he => ?_
          obtain ⟨v, rfl, hw'⟩ := he
          exact .inl ⟨_, hnext v w' hw'⟩
        · rw [hr]
          simp only [Oper.upon]
          exact .inl ⟨_, hnext _ w' hw'⟩
    · rw [hr] at hi; cases hi
  · intro listed a w hJ hr
    rcases hJ with ⟨nu, J⟩ | ⟨h, _⟩
    · exfalso
      -- the least that is not listed is ready
      obtain ⟨j0, hj0, hmin⟩ : ∃ j0, (j0 ≤ z ∧ listed.getD j0 false = false) ∧ ∀ k, k < j0 → listed.getD k false = true := by
        rcases least_unlisted listed z with h | ⟨j0, h1, h2⟩
        · exact ⟨z, ⟨Nat.le_refl _, J.hz⟩, h⟩
        · exact ⟨j0, ⟨by omega, h1.2⟩, h2⟩
      have hj0s : j0 < l.length := by omega
      have hj0o : l[j0]? = some l[j0] := List.getElem?_eq_getElem hj0s
      have hrd : j0 ∈ Region.ready .any l.toArray listed := mem_ready.2 ⟨getD_in (by rw [J.len]; simpa using hj0s) hj0.2, l[j0], by rw [hl?]; exact hj0o, fun e he _ => hmin _ (DN j0 _ e hj0o he)⟩
      rw [hr] at hrd
      cases hrd
    · exact h
end
end Go
