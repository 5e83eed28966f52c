import Derived.Test.YbulkdsicGreatFind
import Derived.MapKept
set_option linter.unusedVariables false
set_option linter.unusedSimpArgs false
namespace Go
open Go.RowKit

/-! ### Maps, laid bare -/
/-- A map with these keys and values (keys: naturals). -/
def MapI (W : World) (b : Nat) (kv : List (Nat × Value)) : Prop := ∃ es c, W.heap[b]? = some (.map es c) ∧ es.toList.map (fun e => (e.key, e.val)) = kv.map (fun p => (Value.int .i64 p.1, p.2))
/-- A map with these keys (strings). -/
def MapS (W : World) (b : Nat) (ks : List ByteArray) : Prop := ∃ es c, W.heap[b]? = some (.map es c) ∧ es.toList.map (·.key) = ks.map Value.string

theorem findNow_int (k : Nat) : ∀ (es : List MapEntry) (kv : List (Nat × Value)) (i : Nat), es.map (fun e => (e.key, e.val)) = kv.map (fun p => (Value.int .i64 p.1, p.2)) →
    Instr.findNow (.int .i64) (.int .i64 (k : Int)) es i = some ((kv.lookup k).map fun v => (i + kv.findIdx (fun p => p.1 == k), v))
  | [], kv, i, h => by
    cases kv with
    | nil => simp [Instr.findNow]
    | cons p kv => simp at h
  | e :: es, kv, i, h => by
    cases kv with
    | nil => simp at h
    | cons p kv =>
      obtain ⟨pk, pv⟩ := p
      simp only [List.map_cons, List.cons.injEq, Prod.mk.injEq] at h
      obtain ⟨⟨h1, h2⟩, h3⟩ := h
      unfold Instr.findNow
      rw [h1]
      by_cases hk : k = pk
      · subst hk
        simp [Instr.sameNow, List.lookup_cons, List.findIdx_cons, h2]
      · have e1 : ((k : Int) == (pk : Int)) = false := by
          have : ¬ ((k : Int) = (pk : Int)) := by omega
          simpa using this
        have e2 : (k == pk) = false := by simpa using hk
        have e3 : (pk == k) = false := by simpa using Ne.symm hk
        simp only [Instr.sameNow, e1, if_true]
        rw [findNow_int k es kv (i + 1) h3]
        simp only [List.lookup_cons, e2, List.findIdx_cons, e3, cond_false]
        cases kv.lookup k <;> simp <;> omega

theorem findNow_str (k : ByteArray) : ∀ (es : List MapEntry) (ks : List ByteArray) (i : Nat), es.map (·.key) = ks.map Value.string → k ∉ ks → Instr.findNow .string (.string k) es i = some none
  | [], ks, i, h, _ => by simp [Instr.findNow]
  | e :: es, ks, i, h, hn => by
    cases ks with
    | nil => simp at h
    | cons p ks =>
      simp only [List.map_cons, List.cons.injEq] at h
      unfold Instr.findNow
      rw [h.1]
      have e1 : (k == p) = false := by
        have : k ≠ p := fun e => hn (by rw [e]; exact List.mem_cons_self ..)
        have hb : (k == p) = (k.data == p.data) := rfl
        rw [hb]
        refine beq_false_of_ne fun he => this ?_
        cases k; cases p; simp at he; rw [he]
      simp only [Instr.sameNow, e1]
      exact findNow_str k es ks (i + 1) h.2 (fun hm => hn (List.mem_cons_of_mem _ hm))

/-- Put a value at a key. -/
def insKV (kv : List (Nat × Value)) (k : Nat) (v : Value) : List (Nat × Value) := if (kv.lookup k).isSome then kv.set (kv.findIdx (fun p => p.1 == k)) (k, v) else kv ++ [(k, v)]

theorem lookup_at : ∀ {kv : List (Nat × Value)} {k : Nat} {v : Value}, kv.lookup k = some v → kv[kv.findIdx (fun p => p.1 == k)]? = some (k, v)
  | [], _, _, h => by simp at h
  | (pk, pv) :: kv, k, v, h => by
    by_cases hk : k = pk
    · subst hk
      simp [List.lookup_cons] at h
      simp [List.findIdx_cons, h]
    · have e2 : (k == pk) = false := by simpa using hk
      have e3 : (pk == k) = false := by simpa using Ne.symm hk
      rw [List.lookup_cons, e2] at h
      simp only [List.findIdx_cons, e3, cond_false, List.getElem?_cons_succ]
      exact lookup_at h

theorem lookup_ins : ∀ (kv : List (Nat × Value)) (k k' : Nat) (v : Value), (insKV kv k v).lookup k' = if k' = k then some v else kv.lookup k'
  | [], k, k', v => by
    by_cases h : k' = k
    · subst h; simp [insKV]
    · have : (k' == k) = false := by simpa using h
      simp [insKV, List.lookup_cons, this, h]
  | (pk, pv) :: kv, k, k', v => by
    have ih := lookup_ins kv k k' v
    by_cases hk : k = pk
    · subst hk
      have e : insKV ((k, pv) :: kv) k v = (k, v) :: kv := by simp [insKV, List.lookup_cons, List.findIdx_cons]
      rw [e]
      by_cases h : k' = k
      · subst h; simp
      · have : (k' == k) = false := by simpa using h
        simp [List.lookup_cons, this, h]
    · have e2 : (k == pk) = false := by simpa using hk
      have e3 : (pk == k) = false := by simpa using Ne.symm hk
      have e : insKV ((pk, pv) :: kv) k v = (pk, pv) :: insKV kv k v := by
        unfold insKV
        rw [List.lookup_cons, e2]
        simp only [List.findIdx_cons, e3, cond_false, List.set_cons_succ]
        split <;> rfl
      rw [e]
      by_cases h : k' = pk
      · subst h
        have : ¬ k' = k := fun h => hk h.symm
        simp [this]
      · have e4 : (k' == pk) = false := by simpa using h
        rw [List.lookup_cons, e4, List.lookup_cons, e4]
        exact ih

section
variable {P : Program} {W : World} {b : Nat}

theorem run_lookup_int {mt e : TypeId} {kv : List (Nat × Value)} (hu : P.underlying mt = some (.map 3 e)) (h3 : P.underlying 3 = some (.int .i64)) (h : MapI W b kv) (k : Nat) (z : Value) (hz : ∀ w, (zeroValue e).run P w = .ok z w) (ok : Bool) :
    (Instr.lookup mt (.map (some b)) (.int .i64 k) ok).run P W = .ok (if ok then .tuple #[(kv.lookup k).getD z, .bool (kv.lookup k).isSome] else (kv.lookup k).getD z) W := by
  obtain ⟨es, c, hb, hkv⟩ := h
  have hu' : ∀ w, (underlying mt).run P w = .ok (.map 3 e) w := fun w => run_underlying hu w
  have h3' : ∀ w, (underlying 3).run P w = .ok (.int .i64) w := fun w => run_underlying h3 w
  have hg : (getObj b).run P W = .ok (.map es c) W := MapKept.run_getObj_map hb
  have hc : (Instr.checkKey es.isEmpty 10000 3 (.int .i64 k)).run P W = .ok () W := by
    unfold Instr.checkKey
    simp [Sem.run_bind, h3', Result.andThen_ok]
  have hf := findNow_int k es.toList kv 0 hkv
  unfold Instr.lookup Instr.findKey
  simp only [Sem.run_bind, hu', Result.andThen_ok, hg, hc, h3', hf, Sem.run_pure]
  cases kv.lookup k with
  | none => simp [hz, Sem.run_bind, Result.andThen_ok]
  | some v => simp [Sem.run_bind, Result.andThen_ok]

theorem run_update_int {mt e : TypeId} {kv : List (Nat × Value)} (hu : P.underlying mt = some (.map 3 e)) (h3 : P.underlying 3 = some (.int .i64)) (h : MapI W b kv) (k : Nat) (v : Value) :
    ∃ o : Obj, (Instr.mapUpdate mt (.map (some b)) (.int .i64 k) v).run P W = .ok () (W.putObj b o) ∧ MapI (W.putObj b o) b (insKV kv k v) := by
  obtain ⟨es, c, hb, hkv⟩ := h
  have hu' : ∀ w, (underlying mt).run P w = .ok (.map 3 e) w := fun w => run_underlying hu w
  have h3' : ∀ w, (underlying 3).run P w = .ok (.int .i64) w := fun w => run_underlying h3 w
  have hg : (getObj b).run P W = .ok (.map es c) W := MapKept.run_getObj_map hb
  have hc : (Instr.checkKey false 10000 3 (.int .i64 k)).run P W = .ok () W := by
    unfold Instr.checkKey
    simp [Sem.run_bind, h3', Result.andThen_ok]
  have hf := findNow_int k es.toList kv 0 hkv
  have hlt : b < W.heap.size := (Array.getElem?_eq_some_iff.1 hb).1
  have hset : ∀ o : Obj, (setObj b o).run P W = .ok () (W.putObj b o) := fun o => MapKept.run_setObj_map o hb
  cases hl : kv.lookup k with
  | none =>
    refine ⟨.map (es.push { key := .int .i64 k, val := v, born := c }) (c + 1), ?_, es.push { key := .int .i64 k, val := v, born := c }, c + 1, ?_, ?_⟩
    · unfold Instr.mapUpdate Instr.findKey
      simp only [Sem.run_bind, hu', Result.andThen_ok, hg, hc, h3', hf, Sem.run_pure, hl, Option.map_none, hset]
    · simp [World.putObj, hlt]
    · simp [insKV, hl, hkv]
  | some v0 =>
    refine ⟨.map (es.modify (0 + kv.findIdx (fun p => p.1 == k)) fun e => { e with key := .int .i64 k, val := v }) c, ?_, es.modify (0 + kv.findIdx (fun p => p.1 == k)) fun e => { e with key := .int .i64 k, val := v }, c, ?_, ?_⟩
    · have hkey : es[0 + kv.findIdx (fun p => p.1 == k)]?.map (·.key) = some (.int .i64 k) := by
        have h1 := lookup_at hl
        have h2 : (es.toList.map (fun e => (e.key, e.val)))[kv.findIdx (fun p => p.1 == k)]? = some (.int .i64 k, v0) := by rw [hkv]; simp [h1]
        rw [List.getElem?_map, Array.getElem?_toList] at h2
        obtain ⟨x, hx, hxe⟩ := Option.map_eq_some_iff.1 h2
        rw [Nat.zero_add, hx]
        simp only [Prod.mk.injEq] at hxe
        simp [hxe.1]
      unfold Instr.mapUpdate Instr.findKey
      simp only [Sem.run_bind, hu', Result.andThen_ok, hg, hc, h3', hf, Sem.run_pure, hl, Option.map_some, hkey, Option.getD_some, Instr.keyThatStays]
      simp [Instr.sameBits, hset, Sem.run_bind, Result.andThen_ok]
    · simp [World.putObj, hlt]
    · have h1 := lookup_at hl
      have hi : kv.findIdx (fun p => p.1 == k) < kv.length := (List.getElem?_eq_some_iff.1 h1).1
      simp only [insKV, hl, Option.isSome_some, if_true, Nat.zero_add]
      apply List.ext_getElem?
      intro j
      have hj := congrArg (fun l => l[j]?) hkv
      simp only [List.getElem?_map, Array.getElem?_toList] at hj
      simp only [List.getElem?_map, Array.getElem?_toList, Array.getElem?_modify, List.getElem?_set]
      by_cases hji : kv.findIdx (fun p => p.1 == k) = j
      · rw [if_pos hji, if_pos hji]
        rw [hji] at h1
        rw [h1] at hj
        rw [if_pos (by omega)]
        cases hes : es[j]? with
        | none => rw [hes] at hj; simp at hj
        | some x => rfl
      · rw [if_neg hji, if_neg hji]
        exact hj

theorem run_lookup_str {mt e : TypeId} {ks : List ByteArray} (hu : P.underlying mt = some (.map 9 e)) (h9 : P.underlying 9 = some .string) (h : MapS W b ks) (k : ByteArray) (hk : k ∉ ks) (z : Value) (hz : ∀ w, (zeroValue e).run P w = .ok z w) :
    (Instr.lookup mt (.map (some b)) (.string k) true).run P W = .ok (.tuple #[z, .bool false]) W := by
  obtain ⟨es, c, hb, hkv⟩ := h
  have hu' : ∀ w, (underlying mt).run P w = .ok (.map 9 e) w := fun w => run_underlying hu w
  have h9' : ∀ w, (underlying 9).run P w = .ok .string w := fun w => run_underlying h9 w
  have hg : (getObj b).run P W = .ok (.map es c) W := MapKept.run_getObj_map hb
  have hc : (Instr.checkKey es.isEmpty 10000 9 (.string k)).run P W = .ok () W := by
    unfold Instr.checkKey
    simp [Sem.run_bind, h9', Result.andThen_ok]
  have hf := findNow_str k es.toList ks 0 hkv hk
  unfold Instr.lookup Instr.findKey
  simp only [Sem.run_bind, hu', Result.andThen_ok, hg, hc, h9', hf, Sem.run_pure]
  simp [hz, Sem.run_bind, Result.andThen_ok]
theorem run_update_str {mt e : TypeId} {ks : List ByteArray} (hu : P.underlying mt = some (.map 9 e)) (h9 : P.underlying 9 = some .string) (h : MapS W b ks) (k : ByteArray) (hk : k ∉ ks) (v : Value) :
    ∃ o : Obj, (Instr.mapUpdate mt (.map (some b)) (.string k) v).run P W = .ok () (W.putObj b o) ∧ MapS (W.putObj b o) b (ks ++ [k]) := by
  obtain ⟨es, c, hb, hkv⟩ := h
  have hu' : ∀ w, (underlying mt).run P w = .ok (.map 9 e) w := fun w => run_underlying hu w
  have h9' : ∀ w, (underlying 9).run P w = .ok .string w := fun w => run_underlying h9 w
  have hg : (getObj b).run P W = .ok (.map es c) W := MapKept.run_getObj_map hb
  have hc : (Instr.checkKey false 10000 9 (.string k)).run P W = .ok () W := by
    unfold Instr.checkKey
    simp [Sem.run_bind, h9', Result.andThen_ok]
  have hf := findNow_str k es.toList ks 0 hkv hk
  have hlt : b < W.heap.size := (Array.getElem?_eq_some_iff.1 hb).1
  have hset : ∀ o : Obj, (setObj b o).run P W = .ok () (W.putObj b o) := fun o => MapKept.run_setObj_map o hb
  refine ⟨.map (es.push { key := .string k, val := v, born := c }) (c + 1), ?_, es.push { key := .string k, val := v, born := c }, c + 1, ?_, ?_⟩
  · unfold Instr.mapUpdate Instr.findKey
    simp only [Sem.run_bind, hu', Result.andThen_ok, hg, hc, h9', hf, Sem.run_pure, hset]
  · simp [World.putObj, hlt]
  · simp [hkv]

theorem MapI.kept {E : Nat → Prop} {W W' : World} {b : Nat} {kv : List (Nat × Value)} (h : MapI W b kv) (k : Kept E W W') (hE : ¬ E b) : MapI W' b kv := by
  obtain ⟨es, c, hb, hkv⟩ := h
  exact ⟨es, c, (k.block b (Array.getElem?_eq_some_iff.1 hb).1 hE).trans hb, hkv⟩
theorem MapS.kept {E : Nat → Prop} {W W' : World} {b : Nat} {ks : List ByteArray} (h : MapS W b ks) (k : Kept E W W') (hE : ¬ E b) : MapS W' b ks := by
  obtain ⟨es, c, hb, hkv⟩ := h
  exact ⟨es, c, (k.block b (Array.getElem?_eq_some_iff.1 hb).1 hE).trans hb, hkv⟩
theorem Kept.putObj {E : Nat → Prop} {a w : World} (h : Kept E a w) {b : Nat} (hb : E b ∨ a.heap.size ≤ b) (o : Obj) : Kept E a (w.putObj b o) :=
  ⟨h.os, h.tape, h.output, by simpa [World.putObj] using h.size, fun i hi hn => by
    have : b ≠ i := fun e => by subst e; rcases hb with hb | hb; exact hn hb; omega
    simpa [World.putObj, this] using h.block i hi hn⟩

/-- A look-up that is known. -/
theorem wpList_lookup_as {ops : Array Oper} {rest : List Oper} {o : Oper} {a : Act} {w : World} {Q : Exit → Act → World → Prop} (hgd : o.guard = none) (t : TypeId) (x y : Operand) (ok : Bool) (ho : o.op = .lookup t x y ok) (m k v : Value) (hm : a.eval x = m) (hk : a.eval y = k)
    (hr : (Instr.lookup t m k ok).run P w = .ok v w) (h : wpList P ops Q rest (a.put o.dst v) w) : wpList P ops Q (o :: rest) a w := by
  refine wpList_plain hgd fun K hK => ?_
  unfold Oper.wp execOp
  simp only [ho, hm, hk, Sem.run_bind, hr, Result.andThen_ok, Sem.run_pure]
  exact hK _ _ h
theorem wpList_update_as {ops : Array Oper} {rest : List Oper} {o : Oper} {a : Act} {w w' : World} {Q : Exit → Act → World → Prop} (hgd : o.guard = none) (t : TypeId) (x y z : Operand) (ho : o.op = .mapUpdate t x y z) (m k v : Value) (hm : a.eval x = m) (hk : a.eval y = k) (hv : a.eval z = v)
    (hr : (Instr.mapUpdate t m k v).run P w = .ok () w') (h : wpList P ops Q rest (a.put o.dst undef) w') : wpList P ops Q (o :: rest) a w := by
  refine wpList_plain hgd fun K hK => ?_
  unfold Oper.wp execOp
  simp only [ho, hm, hk, hv, Sem.run_bind, hr, Result.andThen_ok, Sem.run_pure]
  exact hK _ _ h
/-- 'make([]T, n)'. -/
theorem wpList_make_as {ops : Array Oper} {rest : List Oper} {o : Oper} {a : Act} {w : World} {Q : Exit → Act → World → Prop} (hgd : o.guard = none) (l c : Operand) (t : TypeId) (ho : o.op = .makeSlice t l c) (e : TypeId) (i : TypeInfo) (z : Value) (n : Nat)
    (ht : P.underlying t = some (.slice e)) (hi : P.info? e = some i) (hz : i.zero = some z) (hl : a.eval l = .int .i64 n) (hc : a.eval c = .int .i64 n) (hb : i.bytes * n ≤ 281474976710656) (h63 : n ≤ 9223372036854775807)
    (h : wpList P ops Q rest (a.put o.dst (.slice (some ⟨w.heap.size, 0, none⟩) n n)) (w.alloc (.cells (madeCells z.cells (n * i.size)) e))) : wpList P ops Q (o :: rest) a w := by
  refine wpList_plain hgd fun K hK => ?_
  have hb' : (i.bytes : Int) * (n : Int) ≤ 281474976710656 := by
    have h : ((i.bytes * n : Nat) : Int) ≤ 281474976710656 := by omega
    rwa [Int.natCast_mul] at h
  have hr := run_make (P := P) w t e i z ht hi hz .i64 .i64 n n (by omega) (Int.le_refl _) hb' (by omega)
  simp only [Int.toNat_natCast] at hr
  unfold Oper.wp execOp
  simp only [ho, hl, hc, Sem.run_bind, hr, Result.andThen_ok, Sem.run_pure]
  exact hK _ _ h
theorem made_one (z : Value) (n : Nat) : madeCells #[z] n = Array.replicate n z := by
  apply Array.toList_inj.1
  rw [toList_madeCells_one]
  simp
end
end Go
