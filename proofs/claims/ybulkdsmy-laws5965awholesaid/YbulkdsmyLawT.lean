import Derived.Test.YbulkdsmyLawQ
import Derived.LaidEqlPtr
set_option linter.unusedSimpArgs false
namespace Go
/-- A load of many cells, guarded or not. -/
theorem wpList_loadG {P : Program} {ops : Array Oper} {Q : Exit → Act → World → Prop} {a : Act} {w : World} {o : Oper} {rest : List Oper} (hw : Region.wanted o (yielded ops a.tmps) = true) (ty : TypeId) (x : Operand) (ho : o.op = .load ty x) (b off : Nat) (hx : a.eval x = .pointer (some ⟨b, off, none⟩)) (cs : List Value) (d : TypeDesc)
    (hc : w.rangeAt b off cs) (hu : P.underlying ty = some d) (hd : d.isRow = true) (hi : (P.info? ty).map (·.size) = some cs.length)
    (h : wpList P ops Q rest (a.put o.dst (.agg cs.toArray)) w) : wpList P ops Q (o :: rest) a w :=
  BigFrame.wpList_want hw fun K hK => by
    unfold Oper.wp execOp
    simp only [ho, hx, Instr.loadAt, Instr.sureAddr, Sem.run_bind, Sem.run_pure, Result.andThen_ok, run_loadVar_mid w b off ty cs d hc hu hd hi]
    exact hK _ _ h
/-- A comparison of structs, guarded or not. -/
theorem wpList_cmpG {P : Program} {ops : Array Oper} {rest : List Oper} {o : Oper} {a : Act} {w : World} {Q : Exit → Act → World → Prop} (hw : Region.wanted o (yielded ops a.tmps) = true) (op : BinOp) (x y : Operand) (t u : TypeId) (ho : o.op = .binOp op t x y u) (X Y : Array Value) (hx : a.eval x = .agg X) (hy : a.eval y = .agg Y) (hm : P.eqGuardType P.depth t = false) (v : Value)
    (hr : ∀ w, (binOp op t (.agg X) (.agg Y)).run P w = .ok v w) (h : wpList P ops Q rest (a.put o.dst v) w) : wpList P ops Q (o :: rest) a w :=
  BigFrame.wpList_want hw fun K hK => by
    unfold Oper.wp
    rw [run_cmp op x y t u ho X Y hx hy hm v hr w]
    exact hK _ _ h
end Go
namespace Go.Proofs.Ybulkdsmy
open Go.RowKit
theorem td_ptr {w : World} {T : Nat} {ta : Option Addr} {se : Pr} {td : Option (Pr × Pr)} (h : ToldAt w T (.pointer ta) se td) : ta = none ∨ ta = some ⟨T, 0, none⟩ := by
  cases td with
  | none =>
    have e : Value.pointer ta = .pointer none := h
    cases e
    exact .inl rfl
  | some x =>
    have e := h.1
    cases e
    exact .inr rfl

theorem same_other {w : World} {a b : Nat} {v : Value} {cb : Array Value} {tb : TypeId} (hne : a ≠ b) (ha : w.cell? ⟨a, 0, none⟩ = some v) (hb : w.heap[b]? = some (.cells cb tb)) : (sameAddr ⟨a, 0, none⟩ ⟨b, 0, none⟩).run Yba.prog w = .ok false w := by
  unfold World.cell? at ha
  split at ha
  · rename_i c t f hc
    have hs : c.size ≠ 0 := fun e => by
      simp only [Option.isSome_none, Bool.false_eq_true, if_false] at ha
      have := (Array.getElem?_eq_some_iff.1 ha).1
      omega
    dsimp only at hc
    cases hf : (decide (f.1 ≤ 0) && decide (0 < f.2)) <;> simp [sameAddr, hne, World.frozen?, hc, hb, noView, viewAt, World.shape?, mayBeOne, stringish, hs, hf]
  · cases ha
theorem size42i : ∃ j, Yba.prog.info? 42 = some j ∧ j.size ≠ 0 := by
  have h := size42
  obtain ⟨j, hj, he⟩ := Option.map_eq_some_iff.1 h
  exact ⟨j, hj, by rw [he]; omega⟩
theorem ptr_other {w : World} {a b : Nat} {v : Value} {cb : Array Value} {tb : TypeId} (hne : a ≠ b) (ha : w.cell? ⟨a, 0, none⟩ = some v) (hb : w.heap[b]? = some (.cells cb tb)) : (binOp .eql 39 (.pointer (some ⟨a, 0, none⟩)) (.pointer (some ⟨b, 0, none⟩))).run Yba.prog w = .ok (.bool false) w := by
  obtain ⟨j, hj, hs⟩ := size42i
  have h : ∀ d : Nat, (Op.equalIn (d + 1) 39 (.pointer (some ⟨a, 0, none⟩)) (.pointer (some ⟨b, 0, none⟩))).run Yba.prog w = .ok false w := fun d => by
    simp [Op.equalIn, run_underlying Yba.underlying39, sizeOf, typeInfo, hj, hs, same_other hne ha hb]
  simp only [binOp]
  simp [Op.equal, Op.maxDepth, h 9999]
theorem ptr_same (a : Option Addr) (w : World) : (binOp .neq 39 (.pointer a) (.pointer a)).run Yba.prog w = .ok (.bool false) w := by
  cases a with
  | none => kernel_rfl
  | some a =>
    obtain ⟨j, hj, hs⟩ := size42i
    have h : ∀ d : Nat, (Op.equalIn (d + 1) 39 (.pointer (some a)) (.pointer (some a))).run Yba.prog w = .ok true w := fun d => by
      simp [Op.equalIn, run_underlying Yba.underlying39, sizeOf, typeInfo, hj, run_sameAddr_same]
    simp only [binOp]
    simp [Op.equal, Op.maxDepth, h 9999]
theorem ta39 (a : Addr) (w : World) : (Instr.typeAssert (.iface 39 (.pointer (some a))) 52 39 true).run Yba.prog w = .ok (.tuple #[.pointer (some a), .bool true]) w := by kernel_rfl
theorem ptr_nil (a : Addr) (w : World) : (binOp .eql 39 (.pointer (some a)) (.pointer none)).run Yba.prog w = .ok (.bool false) w := by kernel_rfl
theorem ptr_told {w : World} {a T : Nat} {v : Value} {ta : Option Addr} {se : Pr} {td : Option (Pr × Pr)} (ha : w.cell? ⟨a, 0, none⟩ = some v) (h : ToldAt w T (.pointer ta) se td) (hne : a ≠ T) (hb : ∀ tp' ts', td = some (tp', ts') → w.heap[T]? = some (.cells (plc se ts' tp').toArray 42)) :
    (binOp .eql 39 (.pointer (some ⟨a, 0, none⟩)) (.pointer ta)).run Yba.prog w = .ok (.bool false) w := by
  cases td with
  | none =>
    have e : Value.pointer ta = .pointer none := h
    cases e
    exact ptr_nil ⟨a, 0, none⟩ w
  | some x =>
    obtain ⟨tp', ts'⟩ := x
    have e := h.1
    cases e
    exact ptr_other hne ha (hb tp' ts' rfl)
theorem chc_iff {W : World} {c : Nat} {be la : Pr} {ta tb : Int} : W.rangeAt c 0 (chc be la ta tb) ↔ W.rangeAt c 0 (prc be) ∧ W.rangeAt c 21 (prc ⟨ByteArray.empty, 0⟩) ∧ W.rangeAt c 42 (prc la) ∧ W.rangeAt c 63 (arcc ta tb) ∧ W.rangeAt c 103 (prc ⟨ByteArray.empty, 0⟩) := by
  constructor
  · intro h
    obtain ⟨h0, h⟩ := range_app h
    rw [prc_len] at h
    obtain ⟨h1, h⟩ := range_app h
    rw [prc_len] at h
    obtain ⟨h2, h⟩ := range_app h
    rw [prc_len] at h
    obtain ⟨h3, h⟩ := range_app h
    rw [idc_len] at h
    obtain ⟨h4, h5⟩ := range_app h
    rw [idc_len] at h5
    exact ⟨h0, h1, h2, range_join h3 (by rw [idc_len]; exact h4), h5⟩
  · rintro ⟨h0, h1, h2, h3, h5⟩
    obtain ⟨h3, h4⟩ := range_app h3
    rw [idc_len] at h4
    refine range_join h0 ?_
    rw [prc_len]
    refine range_join h1 ?_
    rw [prc_len]
    refine range_join h2 ?_
    rw [prc_len]
    refine range_join h3 ?_
    rw [idc_len]
    refine range_join h4 ?_
    rw [idc_len]
    exact h5
theorem chc_be {W : World} {c : Nat} {be be' la : Pr} {ta tb : Int} (h : W.rangeAt c 0 (chc be' la ta tb)) (ht : W.there c 0 124) : (W.setCells c 0 (prc be)).rangeAt c 0 (chc be la ta tb) := by
  obtain ⟨h0, h1, h2, h3, h4⟩ := chc_iff.1 h
  exact chc_iff.2 ⟨World.rangeAt_setCells_same _ _ _ _ (by rw [prc_len]; exact there_part ht (by omega) (by omega)), World.rangeAt_setCells_apart h1 _ _ _ (by rw [prc_len, prc_len]; omega), World.rangeAt_setCells_apart h2 _ _ _ (by rw [prc_len, prc_len]; omega), World.rangeAt_setCells_apart h3 _ _ _ (by rw [prc_len]; omega), World.rangeAt_setCells_apart h4 _ _ _ (by rw [prc_len, prc_len]; omega)⟩
theorem chc_la {W : World} {c : Nat} {be la la' : Pr} {ta tb : Int} (h : W.rangeAt c 0 (chc be la' ta tb)) (ht : W.there c 0 124) : (W.setCells c 42 (prc la)).rangeAt c 0 (chc be la ta tb) := by
  obtain ⟨h0, h1, h2, h3, h4⟩ := chc_iff.1 h
  exact chc_iff.2 ⟨World.rangeAt_setCells_apart h0 _ _ _ (by rw [prc_len, prc_len]; omega), World.rangeAt_setCells_apart h1 _ _ _ (by rw [prc_len, prc_len]; omega), World.rangeAt_setCells_same _ _ _ _ (by rw [prc_len]; exact there_part ht (by omega) (by omega)), World.rangeAt_setCells_apart h3 _ _ _ (by rw [prc_len]; omega), World.rangeAt_setCells_apart h4 _ _ _ (by rw [prc_len, prc_len]; omega)⟩
theorem chc_tail {W : World} {c : Nat} {be la : Pr} {ta tb ta' tb' : Int} (h : W.rangeAt c 0 (chc be la ta' tb')) (ht : W.there c 0 124) : (W.setCells c 63 (arcc ta tb)).rangeAt c 0 (chc be la ta tb) := by
  obtain ⟨h0, h1, h2, h3, h4⟩ := chc_iff.1 h
  exact chc_iff.2 ⟨World.rangeAt_setCells_apart h0 _ _ _ (by rw [prc_len, arcc_len]; omega), World.rangeAt_setCells_apart h1 _ _ _ (by rw [prc_len, arcc_len]; omega), World.rangeAt_setCells_apart h2 _ _ _ (by rw [prc_len, arcc_len]; omega), World.rangeAt_setCells_same _ _ _ _ (by rw [arcc_len]; exact there_part ht (by omega) (by omega)), World.rangeAt_setCells_apart h4 _ _ _ (by rw [prc_len, arcc_len]; omega)⟩
/-- What is told of a change, with itself. -/
theorem neqChange (se pr su : Pr) (td : Option (Pr × Pr)) (hpr : pr.ok) (hsu : su.ok) (htd : ∀ tp ts, td = some (tp, ts) → ts.ok) (w : World) : (binOp .neq 56 (.agg (changeFor se pr su td).toArray) (.agg (changeFor se pr su td).toArray)).run Yba.prog w = .ok (.bool false) w := by
  have okz : zp.ok := ⟨by simp [zp], by simp [zp], by simp [zp]⟩
  cases td with
  | none => exact neq56 zp zp 0 0 okz okz (by omega) (by omega) w
  | some x =>
    obtain ⟨tp, ts⟩ := x
    have ht := htd tp ts rfl
    refine neq56 _ _ _ _ ?_ ?_ ?_ ?_ w
    · split
      · exact hpr
      · exact okz
    · split
      · exact hsu
      · exact okz
    · split
      · exact ⟨hsu.1, hsu.2.1⟩
      · omega
    · split
      · exact ⟨ht.1, ht.2.1⟩
      · omega
end Go.Proofs.Ybulkdsmy
