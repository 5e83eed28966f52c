import Derived.Test.YbulkdsicGreatPart1
import Derived.Test.YbulkdsicGreatPart3
import Derived.Test.YbulkdsicGreatSub2
set_option linter.unusedVariables false
set_option linter.unusedSimpArgs false
namespace Go.Proofs.YbulkdsicGreat
open Go.RowKit Go.Shelf

attribute [local go_sem] Oper.semAt_some

theorem Ybaz.info36 : (Ybaz.prog.info? 36).map (fun i => (i.zero, i.size, i.bytes)) = some (some (.float .f64 0), 1, 8) := by kernel_rfl
theorem bx76 (bm om n cm : Nat) (sn : Option Addr) (k cn bf of n' cf p1 p2 p3 p4 p5 m : Nat) (w : World) : Sem.run Ybaz.prog (Instr.box 76 (.agg #[sl bm om n cm, .slice sn k cn, sl bf of n' cf, sl p1 0 m m, sl p2 0 m m, sl p3 0 m m, sl p4 0 m m, sl p5 0 m m, .float .f64 0])) w = .ok (.pointer (some ⟨w.heap.size, 0, none⟩)) (w.alloc (.cells #[sl bm om n cm, .slice sn k cn, sl bf of n' cf, sl p1 0 m m, sl p2 0 m m, sl p3 0 m m, sl p4 0 m m, sl p5 0 m m, .float .f64 0] 76)) := by kernel_rfl
theorem bld76 (bm om n cm : Nat) (sn : Option Addr) (k cn bf of n' cf p1 p2 p3 p4 p5 m : Nat) (w : World) : Sem.run Ybaz.prog (Instr.build 76 #[(0, .agg #[sl bm om n cm, .slice sn k cn, sl bf of n' cf]), (1, sl p1 0 m m), (2, sl p2 0 m m), (3, sl p3 0 m m), (4, sl p4 0 m m), (5, sl p5 0 m m)]) w = .ok (.agg #[sl bm om n cm, .slice sn k cn, sl bf of n' cf, sl p1 0 m m, sl p2 0 m m, sl p3 0 m m, sl p4 0 m m, sl p5 0 m m, .float .f64 0]) w := by kernel_rfl
theorem al72 (w : World) : Sem.run Ybaz.prog (Instr.alloc 72 true (.tuple #[])) w = .ok (.pointer (some ⟨w.heap.size, 0, none⟩)) (w.alloc (.cells #[.pointer none] 72)) := by kernel_rfl

/-- The values and the objects of region 2. -/
def pVal (b0 b1 b2 : Value) (m : Nat) (j : Nat) (blk : Nat → Nat) : Value :=
  match j with
  | 0 => .agg #[b0, b1, b2]
  | 2 => sl (blk 2) 0 m m
  | 4 => sl (blk 4) 0 m m
  | 6 => sl (blk 6) 0 m m
  | 8 => sl (blk 8) 0 m m
  | 10 => sl (blk 10) 0 m m
  | 11 => .agg #[b0, b1, b2, sl (blk 2) 0 m m, sl (blk 4) 0 m m, sl (blk 6) 0 m m, sl (blk 8) 0 m m, sl (blk 10) 0 m m, .float .f64 0]
  | 12 => .pointer (some ⟨blk 12, 0, none⟩)
  | 13 => .pointer (some ⟨blk 13, 0, none⟩)
  | _ => vi m
def pObj (b0 b1 b2 : Value) (m : Nat) (j : Nat) (blk : Nat → Nat) : Option Obj :=
  match j with
  | 2 => some (.cells (Array.replicate m (.slice none 0 0)) 26)
  | 4 => some (.cells (Array.replicate m (.slice none 0 0)) 26)
  | 6 => some (.cells (Array.replicate m (.float .f64 0)) 36)
  | 8 => some (.cells (Array.replicate m (.float .f64 0)) 36)
  | 10 => some (.cells (Array.replicate m (.float .f64 0)) 36)
  | 12 => some (.cells #[b0, b1, b2, sl (blk 2) 0 m m, sl (blk 4) 0 m m, sl (blk 6) 0 m m, sl (blk 8) 0 m m, sl (blk 10) 0 m m, .float .f64 0] 76)
  | 13 => some (.cells #[.pointer none] 72)
  | _ => none
def pDep (j : Nat) : List Nat :=
  match j with
  | 2 => [2] | 4 => [4] | 6 => [6] | 8 => [8] | 10 => [10] | 11 => [2, 4, 6, 8, 10] | 12 => [2, 4, 6, 8, 10, 12] | 13 => [13] | _ => []
theorem pLoc (b0 b1 b2 : Value) (m : Nat) (j : Nat) (blk blk' : Nat → Nat) (h : ∀ k ∈ pDep j, blk k = blk' k) : pVal b0 b1 b2 m j blk = pVal b0 b1 b2 m j blk' ∧ pObj b0 b1 b2 m j blk = pObj b0 b1 b2 m j blk' := by
  match j with
  | 0 | 1 | 3 | 5 | 7 | 9 => exact ⟨rfl, rfl⟩
  | 2 => simp only [pDep, List.forall_mem_cons] at h; simp [pVal, pObj, h]
  | 4 => simp only [pDep, List.forall_mem_cons] at h; simp [pVal, pObj, h]
  | 6 => simp only [pDep, List.forall_mem_cons] at h; simp [pVal, pObj, h]
  | 8 => simp only [pDep, List.forall_mem_cons] at h; simp [pVal, pObj, h]
  | 10 => simp only [pDep, List.forall_mem_cons] at h; simp [pVal, pObj, h]
  | 11 => simp only [pDep, List.forall_mem_cons] at h; simp [pVal, pObj, h]
  | 12 => simp only [pDep, List.forall_mem_cons] at h; simp [pVal, pObj, h]
  | 13 => simp only [pDep, List.forall_mem_cons] at h; simp [pVal, pObj, h]
  | j + 14 => exact ⟨rfl, rfl⟩

theorem made_one_cells (z : Value) (n : Nat) (h : z.cells = #[z]) : madeCells z.cells n = Array.replicate n z := by rw [h]; exact made_one z n
theorem tab_block {W : World} {b n : Nat} {v : Value} {t : TypeId} (h : W.heap[b]? = some (.cells (Array.replicate n v) t)) : Tab W b 0 n (fun _ => v) := fun j hj => by
  have h' : W.heap[b]? = some (.cells (List.replicate n v).toArray t) := by rw [h]; simp
  have h1 := range_of_block h' j v (by simp [hj])
  have h2 := there_of_block h' j (by simpa using hj)
  exact ⟨h1, h2.2⟩

set_option maxRecDepth 100000 in
set_option maxHeartbeats 4000000 in
theorem part_any (l : TBl) (names : Nat → ByteArray) (tm : Nat → Value) (steps : Int) (ks : List ByteArray) (t : Bt) (m : Nat) (mem : Nat → Nat) (pr : Nat → Option Nat) (tt : Nat → Nat) (w : World)
    (hT : TB w l names tm steps ks) (h : Bat w t m mem pr) (h2 : 2 ≤ m) (hm : ∀ i, i < m → mem i < l.n) (hp0 : pr 0 = none) (hp1 : ∀ k, k + 1 < m → pr (k + 1) = some k) (htt : ∀ k, k < m → tm (mem k) = .float .f64 (Flt.nat (tt k)) ∧ tt k ≤ 65535) :
    Calls Ybaz.prog 19 #[.pointer (some ⟨l.T, 0, none⟩), .agg #[sl t.bm t.om m t.cm, .slice t.sn (2 * cnt pr m) t.cn, sl t.bf t.of (m + 1) t.cf]] w fun e w' =>
      (∃ Pb bp bs bt, e = .returned (.pointer (some ⟨Pb, 0, none⟩)) ∧ PartC w' Pb m t.bm t.om t.cm bp m bs m bt m (fun k => Flt.nat (sumT tt k))) ∧ Below w.heap.size w w' := by
  obtain ⟨i26, hi26, hz26, hs26, hb26⟩ := info_parts Ybaz.info26
  obtain ⟨i36, hi36, hz36, hs36, hb36⟩ := info_parts Ybaz.info36
  obtain ⟨i3, hi3, hz3, hs3, hb3⟩ := info_parts Ybaz.info3
  have hfew := h.few
  have H := hid h
  have HT := hid hT
  clear h hT
  refine calls_of_wp_marks Ybaz.func19 rfl ?_
  simp only [Ybaz.ntmps19, List.size_toArray, List.length_cons, List.length_nil, Nat.reduceAdd, Nat.reduceSub, Array.replicate_succ, Array.replicate_zero, List.push_toArray, List.append_toArray, List.nil_append, List.cons_append]
  have c0 : (w.alloc (.cells #[sl t.bm t.om m t.cm, .slice t.sn (2 * cnt pr m) t.cn, sl t.bf t.of (m + 1) t.cf] 53)).cell? ⟨w.heap.size, 0, none⟩ = some (sl t.bm t.om m t.cm) := by simp
  have r0 := range_new w [sl t.bm t.om m t.cm, .slice t.sn (2 * cnt pr m) t.cn, sl t.bf t.of (m + 1) t.cf] 53
  have R0 := hid r0
  clear r0
  go_upto_region 2 with (refine wpList_box_as rfl 53 _ rfl #[sl t.bm t.om m t.cm, .slice t.sn (2 * cnt pr m) t.cn, sl t.bf t.of (m + 1) t.cf] rfl (bx53 _ _ _) ?_)
  obtain ⟨W, hW⟩ : ∃ W, w.alloc (.cells #[sl t.bm t.om m t.cm, .slice t.sn (2 * cnt pr m) t.cn, sl t.bf t.of (m + 1) t.cf] 53) = W := ⟨_, rfl⟩
  have hWs : W.heap.size = w.heap.size + 1 := by rw [← hW, World.size_alloc]
  have B0 := hid ((Below.refl w.heap.size w).alloc (Nat.le_refl _) (.cells #[sl t.bm t.om m t.cm, .slice t.sn (2 * cnt pr m) t.cn, sl t.bf t.of (m + 1) t.cf] 53))
  have hW' : w.alloc (.cells [sl t.bm t.om m t.cm, .slice t.sn (2 * cnt pr m) t.cn, sl t.bf t.of (m + 1) t.cf].toArray 53) = W := hW
  rw [hW'] at R0
  rw [hW] at B0 ⊢
  clear c0
  refine wp_region_allocs 14 221 (pVal (sl t.bm t.om m t.cm) (.slice t.sn (2 * cnt pr m) t.cn) (sl t.bf t.of (m + 1) t.cf) m) (pObj (sl t.bm t.om m t.cm) (.slice t.sn (2 * cnt pr m) t.cn) (sl t.bf t.of (m + 1) t.cf) m) pDep mixed (by kernel_rfl) rfl (fun j _ blk blk' hk => pLoc _ _ _ _ j blk blk' hk) ?_ ?_
  · intro i o ho hi blk a x hb hbi h1 h2'
    match i, ho with
    | 0, ho =>
      cases ho
      exact xload_mid w.heap.size 0 (h2' 3 (by kernel_rfl)) [sl t.bm t.om m t.cm, .slice t.sn (2 * cnt pr m) t.cn, sl t.bf t.of (m + 1) t.cf] _ (range_kept_below hb R0.out) Ybaz.underlying53 rfl (by kernel_rfl)
    | 1, ho => cases ho; exact xmove (h2' 5 (by kernel_rfl))
    | 2, ho =>
      cases ho
      refine (xmake 26 i26 (.slice none 0 0) m m Ybaz.underlying29 hi26 hz26 (h1 1 _ 22 rfl rfl (by kernel_rfl)) (h1 1 _ 22 rfl rfl (by kernel_rfl)) (Nat.le_refl _) (by rw [hb26]; omega) (by omega)).trans ?_
      rw [hs26, Nat.mul_one, made_one_cells (.slice none 0 0) m rfl, ← hbi]
      rfl
    | 4, ho =>
      cases ho
      refine (xmake 26 i26 (.slice none 0 0) m m Ybaz.underlying29 hi26 hz26 (h1 3 _ 24 rfl rfl (by kernel_rfl)) (h1 3 _ 24 rfl rfl (by kernel_rfl)) (Nat.le_refl _) (by rw [hb26]; omega) (by omega)).trans ?_
      rw [hs26, Nat.mul_one, made_one_cells (.slice none 0 0) m rfl, ← hbi]
      rfl
    | 6, ho =>
      cases ho
      refine (xmake 36 i36 (.float .f64 0) m m Ybaz.underlying33 hi36 hz36 (h1 5 _ 26 rfl rfl (by kernel_rfl)) (h1 5 _ 26 rfl rfl (by kernel_rfl)) (Nat.le_refl _) (by rw [hb36]; omega) (by omega)).trans ?_
      rw [hs36, Nat.mul_one, made_one_cells (.float .f64 0) m rfl, ← hbi]
      rfl
    | 8, ho =>
      cases ho
      refine (xmake 36 i36 (.float .f64 0) m m Ybaz.underlying33 hi36 hz36 (h1 7 _ 28 rfl rfl (by kernel_rfl)) (h1 7 _ 28 rfl rfl (by kernel_rfl)) (Nat.le_refl _) (by rw [hb36]; omega) (by omega)).trans ?_
      rw [hs36, Nat.mul_one, made_one_cells (.float .f64 0) m rfl, ← hbi]
      rfl
    | 10, ho =>
      cases ho
      refine (xmake 36 i36 (.float .f64 0) m m Ybaz.underlying33 hi36 hz36 (h1 9 _ 30 rfl rfl (by kernel_rfl)) (h1 9 _ 30 rfl rfl (by kernel_rfl)) (Nat.le_refl _) (by rw [hb36]; omega) (by omega)).trans ?_
      rw [hs36, Nat.mul_one, made_one_cells (.float .f64 0) m rfl, ← hbi]
      rfl
    | 3, ho => cases ho; exact xmove (h2' 5 (by kernel_rfl))
    | 5, ho => cases ho; exact xmove (h2' 5 (by kernel_rfl))
    | 7, ho => cases ho; exact xmove (h2' 5 (by kernel_rfl))
    | 9, ho => cases ho; exact xmove (h2' 5 (by kernel_rfl))
    | 11, ho =>
      cases ho
      refine xbuild (fun w => ?_)
      have e0 := h1 0 _ 21 rfl rfl (by kernel_rfl)
      have e1 := h1 2 _ 23 rfl rfl (by kernel_rfl)
      have e2 := h1 4 _ 25 rfl rfl (by kernel_rfl)
      have e3 := h1 6 _ 27 rfl rfl (by kernel_rfl)
      have e4 := h1 8 _ 29 rfl rfl (by kernel_rfl)
      have e5 := h1 10 _ 31 rfl rfl (by kernel_rfl)
      simp only [List.map_toArray, List.map_cons, List.map_nil, e0, e1, e2, e3, e4, e5]
      exact bld76 _ _ _ _ _ _ _ _ _ _ _ _ _ _ _ _ _ _
    | 12, ho =>
      cases ho
      refine (xbox (h1 11 _ 32 rfl rfl (by kernel_rfl)) (fun w => bx76 _ _ _ _ _ _ _ _ _ _ _ _ _ _ _ _ _ _)).trans ?_
      rw [← hbi]
      rfl
    | 13, ho =>
      cases ho
      refine (xalloc al72).trans ?_
      rw [← hbi]
      rfl
    | i + 14, ho => omega
  · intro oz hoz blk x hb hobj hdis
    cases hoz
    simp only [lay, List.take, Act.put, List.setIfInBounds_toArray, List.set_cons_succ, List.set_cons_zero, pVal]
    have hob : ∀ j ob, pObj (sl t.bm t.om m t.cm) (.slice t.sn (2 * cnt pr m) t.cn) (sl t.bf t.of (m + 1) t.cf) m j blk = some ob → j < 14 → W.heap.size ≤ blk j ∧ x.heap[blk j]? = some ob ∧ blk j < x.heap.size := fun j ob h1 h2 => by
      obtain ⟨h3, h4⟩ := hobj j ob h2 h1
      exact ⟨h3, h4, (Array.getElem?_eq_some_iff.1 h4).1⟩
    have o2 := hob 2 _ rfl (by omega)
    have o4 := hob 4 _ rfl (by omega)
    have o6 := hob 6 _ rfl (by omega)
    have o8 := hob 8 _ rfl (by omega)
    have o10 := hob 10 _ rfl (by omega)
    have o12 := hob 12 _ rfl (by omega)
    have o13 := hob 13 _ rfl (by omega)
    have dis : ∀ p q, p < 14 → q < 14 → p ≠ q → (pObj (sl t.bm t.om m t.cm) (.slice t.sn (2 * cnt pr m) t.cn) (sl t.bf t.of (m + 1) t.cf) m p blk).isSome = true → (pObj (sl t.bm t.om m t.cm) (.slice t.sn (2 * cnt pr m) t.cn) (sl t.bf t.of (m + 1) t.cf) m q blk).isSome = true → blk p ≠ blk q := hdis
    obtain ⟨bp, hbp⟩ : ∃ v, blk 2 = v := ⟨_, rfl⟩
    obtain ⟨bs, hbs⟩ : ∃ v, blk 4 = v := ⟨_, rfl⟩
    obtain ⟨bt, hbt⟩ : ∃ v, blk 6 = v := ⟨_, rfl⟩
    obtain ⟨be, hbe⟩ : ∃ v, blk 8 = v := ⟨_, rfl⟩
    obtain ⟨bl, hbl⟩ : ∃ v, blk 10 = v := ⟨_, rfl⟩
    obtain ⟨Pb, hPb⟩ : ∃ v, blk 12 = v := ⟨_, rfl⟩
    obtain ⟨Pv, hPv⟩ : ∃ v, blk 13 = v := ⟨_, rfl⟩
    have q1 := dis 13 12 (by omega) (by omega) (by omega) rfl rfl
    have q2 := dis 13 2 (by omega) (by omega) (by omega) rfl rfl
    have q3 := dis 13 4 (by omega) (by omega) (by omega) rfl rfl
    have q4 := dis 13 6 (by omega) (by omega) (by omega) rfl rfl
    have q5 := dis 13 8 (by omega) (by omega) (by omega) rfl rfl
    have q6 := dis 13 10 (by omega) (by omega) (by omega) rfl rfl
    have q7 := dis 12 2 (by omega) (by omega) (by omega) rfl rfl
    have q8 := dis 12 4 (by omega) (by omega) (by omega) rfl rfl
    have q9 := dis 12 6 (by omega) (by omega) (by omega) rfl rfl
    have q10 := dis 12 8 (by omega) (by omega) (by omega) rfl rfl
    have q11 := dis 12 10 (by omega) (by omega) (by omega) rfl rfl
    have q12 := dis 2 4 (by omega) (by omega) (by omega) rfl rfl
    have q13 := dis 2 6 (by omega) (by omega) (by omega) rfl rfl
    have q14 := dis 2 8 (by omega) (by omega) (by omega) rfl rfl
    have q15 := dis 2 10 (by omega) (by omega) (by omega) rfl rfl
    have q16 := dis 4 6 (by omega) (by omega) (by omega) rfl rfl
    have q17 := dis 4 8 (by omega) (by omega) (by omega) rfl rfl
    have q18 := dis 4 10 (by omega) (by omega) (by omega) rfl rfl
    have q19 := dis 6 8 (by omega) (by omega) (by omega) rfl rfl
    have q20 := dis 6 10 (by omega) (by omega) (by omega) rfl rfl
    have q21 := dis 8 10 (by omega) (by omega) (by omega) rfl rfl
    simp only [hbp, hbs, hbt, hbe, hbl, hPb, hPv, hWs] at o2 o4 o6 o8 o10 o12 o13 q1 q2 q3 q4 q5 q6 q7 q8 q9 q10 q11 q12 q13 q14 q15 q16 q17 q18 q19 q20 q21 ⊢
    have hc13 : x.heap[Pv]? = some (.cells [Value.pointer none].toArray 72) := o13.2.1
    have hc12 : x.heap[Pb]? = some (.cells (partC m bp bs bt be bl (sl t.bm t.om m t.cm) (.slice t.sn (2 * cnt pr m) t.cn) (sl t.bf t.of (m + 1) t.cf) (.float .f64 0)).toArray 76) := o12.2.1
    have v0 : x.cell? ⟨Pv, 0, none⟩ = some (.pointer none) := by have := range_of_block hc13 0 _ rfl; simpa using this
    have v1 : x.frozen? ⟨Pv, 0, none⟩ = false := by have := (there_of_block hc13 0 (by simp)).2; simpa using this
    have ps0 : PS w (x.setCell ⟨Pv, 0, none⟩ (.pointer (some ⟨Pb, 0, none⟩))) x.heap.size Pb Pv bp bs bt be bl m (sl t.bm t.om m t.cm) (.slice t.sn (2 * cnt pr m) t.cn) (sl t.bf t.of (m + 1) t.cf) (fun _ => .slice none 0 0) (fun _ => .slice none 0 0) (fun _ => .float .f64 0) (fun _ => .float .f64 0) (fun _ => .float .f64 0) (.float .f64 0) := by
      have k1 : Kept (fun b => b = Pv) x (x.setCell ⟨Pv, 0, none⟩ (.pointer (some ⟨Pb, 0, none⟩))) := (Kept.refl (fun b => b = Pv) x).setCell (p := ⟨Pv, 0, none⟩) (.inl rfl) _
      refine ⟨(B0.out.trans (hb.mono (by omega))).setCell (p := ⟨Pv, 0, none⟩) (by simp; omega) _, k1.range (fun (e : w.heap.size = _) => by omega) (range_kept_below hb R0.out), World.cell?_setCell_same' _ _ _ (by rw [v0]; rfl), k1.range (Ne.symm q1) (range_of_block hc12), k1.there (Ne.symm q1) (there_of_block hc12), (tab_block o2.2.1).kept k1 (Ne.symm q2), (tab_block o4.2.1).kept k1 (Ne.symm q3), (tab_block o6.2.1).kept k1 (Ne.symm q4), (tab_block o8.2.1).kept k1 (Ne.symm q5), (tab_block o10.2.1).kept k1 (Ne.symm q6), by omega, o13.2.2, by omega, o12.2.2, by omega, o2.2.2, by omega, o4.2.2, by omega, o6.2.2, by omega, o8.2.2, by omega, o10.2.2, by simp, q1, q2, q3, q4, q5, q6, q7, q8, q9, q10, q11, q12, q13, q14, q15, q16, q17, q18, q19, q20, q21⟩
    have c0 : (x.setCell ⟨Pv, 0, none⟩ (.pointer (some ⟨Pb, 0, none⟩))).cell? ⟨w.heap.size, 0, none⟩ = some (sl t.bm t.om m t.cm) := by have := ps0.bx 0 _ rfl; rwa [Nat.zero_add] at this
    have PS0 := hid ps0
    clear ps0 hob o2 o4 o6 o8 o10 o12 o13 q1 q2 q3 q4 q5 q6 q7 q8 q9 q10 q11 q12 q13 q14 q15 q16 q17 q18 q19 q20 q21 dis hdis hobj hc12 hc13
    go_upto_region 3 with fail
    rename_i K1 hK1 K2 hK2
    have hK1' : ∀ a w', Code.wp Ybaz.prog (dropC 4 (Ybaz.f19.body.getD .skip)) (bodyPostM Fence.wide 3 Ybaz.prog Ybaz.f19 fun e w' => (∃ Pb bp bs bt, e = .returned (.pointer (some ⟨Pb, 0, none⟩)) ∧ PartC w' Pb m t.bm t.om t.cm bp m bs m bt m (fun k => Flt.nat (sumT tt k))) ∧ Below w.heap.size w w') a w' → K1 a w' := hK1
    clear hK1
    go_wp2
    obtain ⟨T0, hT0⟩ : ∃ T0, x.heap.size = T0 := ⟨_, rfl⟩
    rw [hT0] at PS0
    refine wp_as (fun V => PS w V T0 Pb Pv bp bs bt be bl m (sl t.bm t.om m t.cm) (.slice t.sn (2 * cnt pr m) t.cn) (sl t.bf t.of (m + 1) t.cf) (fun _ => .slice none 0 0) (fun _ => .slice none 0 0) (fun _ => .float .f64 0) (fun _ => .float .f64 0) (fun _ => .float .f64 0) (.float .f64 0)) PS0.out ?_
    intro V0 psv
    clear PS0 c0 v0 v1 hb hT0 hbp hbs hbt hbe hbl hPb hPv
    refine wp_loop (fun a' V => ∃ (i : Nat) (Ds : List Nat) (x1 x2 x4 x7 x8 x9 x10 x11 x12 x13 x14 x15 x16 x17 x18 x19 x20 x21 x22 x23 x24 x25 x26 x27 x28 x29 x30 x31 x32 x33 x34 x35 x38 x39 x40 x41 x42 x43 x44 x45 x46 x47 x48 x49 x50 x51 x52 x53 x54 x55 x56 x57 x58 x59 x60 x61 x62 x63 x64 x65 x66 x67 x68 x69 x70 x71 x72 x73 x74 x75 x76 x77 x78 x79 x80 x81 x82 x83 x84 x85 x86 x87 x88 x89 x90 x91 x92 x93 x94 x95 x96 x97 x98 x99 x100 x101 x102 x103 x104 x105 x106 x107 x108 x109 x110 x111 x112 x113 x114 x115 x116 x117 x118 x119 x120 x121 x122 x123 x124 x125 x126 x127 x128 x129 x130 x131 x132 x133 x134 x135 x136 x137 x138 x139 x140 x141 x142 x143 x144 x145 x146 x147 x148 x149 x150 x151 x152 x153 x154 x155 x156 x157 x158 x159 x160 x161 x162 x163 x164 x165 x166 x167 x168 x169 x170 x171 x172 x173 x174 x175 x176 x177 x178 x179 x180 x181 x182 x183 x184 x185 x186 x187 x188 x189 x190 x191 x192 x193 x194 x195 x196 x197 x198 x199 x200 x201 x202 x203 x204 x205 x206 x207 x208 x209 x210 x211 x212 x213 x214 x215 x216 x217 x218 x219 x220 : Value), (i ≤ m ∧ (∃ fp fs, PS w V T0 Pb Pv bp bs bt be bl m (sl t.bm t.om m t.cm) (.slice t.sn (2 * cnt pr m) t.cn) (sl t.bf t.of (m + 1) t.cf) (fp) (fs) (fun _ => .float .f64 0) (fun _ => .float .f64 0) (fun _ => .float .f64 0) (.float .f64 0) ∧ RW V T0 m fp (prC i) ∧ RW V T0 m fs (suC i)) ∧ Marks V w.heap.size Ds) ∧ a' = { tmps := #[.pointer (some ⟨l.T, 0, none⟩), x1, x2, .pointer (some ⟨w.heap.size, 0, none⟩), x4, vi m, .pointer (some ⟨Pv, 0, none⟩), x7, x8, x9, x10, x11, x12, x13, x14, x15, x16, x17, x18, x19, x20, x21, x22, x23, x24, x25, x26, x27, x28, x29, x30, x31, x32, x33, x34, x35, vi m, vi i, x38, x39, x40, x41, x42, x43, x44, x45, x46, x47, x48, x49, x50, x51, x52, x53, x54, x55, x56, x57, x58, x59, x60, x61, x62, x63, x64, x65, x66, x67, x68, x69, x70, x71, x72, x73, x74, x75, x76, x77, x78, x79, x80, x81, x82, x83, x84, x85, x86, x87, x88, x89, x90, x91, x92, x93, x94, x95, x96, x97, x98, x99, x100, x101, x102, x103, x104, x105, x106, x107, x108, x109, x110, x111, x112, x113, x114, x115, x116, x117, x118, x119, x120, x121, x122, x123, x124, x125, x126, x127, x128, x129, x130, x131, x132, x133, x134, x135, x136, x137, x138, x139, x140, x141, x142, x143, x144, x145, x146, x147, x148, x149, x150, x151, x152, x153, x154, x155, x156, x157, x158, x159, x160, x161, x162, x163, x164, x165, x166, x167, x168, x169, x170, x171, x172, x173, x174, x175, x176, x177, x178, x179, x180, x181, x182, x183, x184, x185, x186, x187, x188, x189, x190, x191, x192, x193, x194, x195, x196, x197, x198, x199, x200, x201, x202, x203, x204, x205, x206, x207, x208, x209, x210, x211, x212, x213, x214, x215, x216, x217, x218, x219, x220], defers := Ds.map markOf }) (fun a' _ => m - (intOf (a'.tmps.getD 37 undef)).toNat) ?_ ?_
    · refine ⟨0, [], ?_⟩
      repeat apply Exists.intro
      exact ⟨⟨Nat.zero_le _, ⟨_, _, psv, ⟨fun _ _ _ => rfl, fun k y _ hr => by simp [prC] at hr⟩, ⟨fun _ _ _ => rfl, fun k y _ hr => by simp [suC] at hr⟩⟩, Marks.nil _ _⟩, rfl⟩
    · intro a0 V hinv
      obtain ⟨i, Ds, hinv⟩ := hinv
      obtain ⟨x1, hinv⟩ := hinv
      obtain ⟨x2, hinv⟩ := hinv
      obtain ⟨x4, hinv⟩ := hinv
      obtain ⟨x7, hinv⟩ := hinv
      obtain ⟨x8, hinv⟩ := hinv
      obtain ⟨x9, hinv⟩ := hinv
      obtain ⟨x10, hinv⟩ := hinv
      obtain ⟨x11, hinv⟩ := hinv
      obtain ⟨x12, hinv⟩ := hinv
      obtain ⟨x13, hinv⟩ := hinv
      obtain ⟨x14, hinv⟩ := hinv
      obtain ⟨x15, hinv⟩ := hinv
      obtain ⟨x16, hinv⟩ := hinv
      obtain ⟨x17, hinv⟩ := hinv
      obtain ⟨x18, hinv⟩ := hinv
      obtain ⟨x19, hinv⟩ := hinv
      obtain ⟨x20, hinv⟩ := hinv
      obtain ⟨x21, hinv⟩ := hinv
      obtain ⟨x22, hinv⟩ := hinv
      obtain ⟨x23, hinv⟩ := hinv
      obtain ⟨x24, hinv⟩ := hinv
      obtain ⟨x25, hinv⟩ := hinv
      obtain ⟨x26, hinv⟩ := hinv
      obtain ⟨x27, hinv⟩ := hinv
      obtain ⟨x28, hinv⟩ := hinv
      obtain ⟨x29, hinv⟩ := hinv
      obtain ⟨x30, hinv⟩ := hinv
      obtain ⟨x31, hinv⟩ := hinv
      obtain ⟨x32, hinv⟩ := hinv
      obtain ⟨x33, hinv⟩ := hinv
      obtain ⟨x34, hinv⟩ := hinv
      obtain ⟨x35, hinv⟩ := hinv
      obtain ⟨x38, hinv⟩ := hinv
      obtain ⟨x39, hinv⟩ := hinv
      obtain ⟨x40, hinv⟩ := hinv
      obtain ⟨x41, hinv⟩ := hinv
      obtain ⟨x42, hinv⟩ := hinv
      obtain ⟨x43, hinv⟩ := hinv
      obtain ⟨x44, hinv⟩ := hinv
      obtain ⟨x45, hinv⟩ := hinv
      obtain ⟨x46, hinv⟩ := hinv
      obtain ⟨x47, hinv⟩ := hinv
      obtain ⟨x48, hinv⟩ := hinv
      obtain ⟨x49, hinv⟩ := hinv
      obtain ⟨x50, hinv⟩ := hinv
      obtain ⟨x51, hinv⟩ := hinv
      obtain ⟨x52, hinv⟩ := hinv
      obtain ⟨x53, hinv⟩ := hinv
      obtain ⟨x54, hinv⟩ := hinv
      obtain ⟨x55, hinv⟩ := hinv
      obtain ⟨x56, hinv⟩ := hinv
      obtain ⟨x57, hinv⟩ := hinv
      obtain ⟨x58, hinv⟩ := hinv
      obtain ⟨x59, hinv⟩ := hinv
      obtain ⟨x60, hinv⟩ := hinv
      obtain ⟨x61, hinv⟩ := hinv
      obtain ⟨x62, hinv⟩ := hinv
      obtain ⟨x63, hinv⟩ := hinv
      obtain ⟨x64, hinv⟩ := hinv
      obtain ⟨x65, hinv⟩ := hinv
      obtain ⟨x66, hinv⟩ := hinv
      obtain ⟨x67, hinv⟩ := hinv
      obtain ⟨x68, hinv⟩ := hinv
      obtain ⟨x69, hinv⟩ := hinv
      obtain ⟨x70, hinv⟩ := hinv
      obtain ⟨x71, hinv⟩ := hinv
      obtain ⟨x72, hinv⟩ := hinv
      obtain ⟨x73, hinv⟩ := hinv
      obtain ⟨x74, hinv⟩ := hinv
      obtain ⟨x75, hinv⟩ := hinv
      obtain ⟨x76, hinv⟩ := hinv
      obtain ⟨x77, hinv⟩ := hinv
      obtain ⟨x78, hinv⟩ := hinv
      obtain ⟨x79, hinv⟩ := hinv
      obtain ⟨x80, hinv⟩ := hinv
      obtain ⟨x81, hinv⟩ := hinv
      obtain ⟨x82, hinv⟩ := hinv
      obtain ⟨x83, hinv⟩ := hinv
      obtain ⟨x84, hinv⟩ := hinv
      obtain ⟨x85, hinv⟩ := hinv
      obtain ⟨x86, hinv⟩ := hinv
      obtain ⟨x87, hinv⟩ := hinv
      obtain ⟨x88, hinv⟩ := hinv
      obtain ⟨x89, hinv⟩ := hinv
      obtain ⟨x90, hinv⟩ := hinv
      obtain ⟨x91, hinv⟩ := hinv
      obtain ⟨x92, hinv⟩ := hinv
      obtain ⟨x93, hinv⟩ := hinv
      obtain ⟨x94, hinv⟩ := hinv
      obtain ⟨x95, hinv⟩ := hinv
      obtain ⟨x96, hinv⟩ := hinv
      obtain ⟨x97, hinv⟩ := hinv
      obtain ⟨x98, hinv⟩ := hinv
      obtain ⟨x99, hinv⟩ := hinv
      obtain ⟨x100, hinv⟩ := hinv
      obtain ⟨x101, hinv⟩ := hinv
      obtain ⟨x102, hinv⟩ := hinv
      obtain ⟨x103, hinv⟩ := hinv
      obtain ⟨x104, hinv⟩ := hinv
      obtain ⟨x105, hinv⟩ := hinv
      obtain ⟨x106, hinv⟩ := hinv
      obtain ⟨x107, hinv⟩ := hinv
      obtain ⟨x108, hinv⟩ := hinv
      obtain ⟨x109, hinv⟩ := hinv
      obtain ⟨x110, hinv⟩ := hinv
      obtain ⟨x111, hinv⟩ := hinv
      obtain ⟨x112, hinv⟩ := hinv
      obtain ⟨x113, hinv⟩ := hinv
      obtain ⟨x114, hinv⟩ := hinv
      obtain ⟨x115, hinv⟩ := hinv
      obtain ⟨x116, hinv⟩ := hinv
      obtain ⟨x117, hinv⟩ := hinv
      obtain ⟨x118, hinv⟩ := hinv
      obtain ⟨x119, hinv⟩ := hinv
      obtain ⟨x120, hinv⟩ := hinv
      obtain ⟨x121, hinv⟩ := hinv
      obtain ⟨x122, hinv⟩ := hinv
      obtain ⟨x123, hinv⟩ := hinv
      obtain ⟨x124, hinv⟩ := hinv
      obtain ⟨x125, hinv⟩ := hinv
      obtain ⟨x126, hinv⟩ := hinv
      obtain ⟨x127, hinv⟩ := hinv
      obtain ⟨x128, hinv⟩ := hinv
      obtain ⟨x129, hinv⟩ := hinv
      obtain ⟨x130, hinv⟩ := hinv
      obtain ⟨x131, hinv⟩ := hinv
      obtain ⟨x132, hinv⟩ := hinv
      obtain ⟨x133, hinv⟩ := hinv
      obtain ⟨x134, hinv⟩ := hinv
      obtain ⟨x135, hinv⟩ := hinv
      obtain ⟨x136, hinv⟩ := hinv
      obtain ⟨x137, hinv⟩ := hinv
      obtain ⟨x138, hinv⟩ := hinv
      obtain ⟨x139, hinv⟩ := hinv
      obtain ⟨x140, hinv⟩ := hinv
      obtain ⟨x141, hinv⟩ := hinv
      obtain ⟨x142, hinv⟩ := hinv
      obtain ⟨x143, hinv⟩ := hinv
      obtain ⟨x144, hinv⟩ := hinv
      obtain ⟨x145, hinv⟩ := hinv
      obtain ⟨x146, hinv⟩ := hinv
      obtain ⟨x147, hinv⟩ := hinv
      obtain ⟨x148, hinv⟩ := hinv
      obtain ⟨x149, hinv⟩ := hinv
      obtain ⟨x150, hinv⟩ := hinv
      obtain ⟨x151, hinv⟩ := hinv
      obtain ⟨x152, hinv⟩ := hinv
      obtain ⟨x153, hinv⟩ := hinv
      obtain ⟨x154, hinv⟩ := hinv
      obtain ⟨x155, hinv⟩ := hinv
      obtain ⟨x156, hinv⟩ := hinv
      obtain ⟨x157, hinv⟩ := hinv
      obtain ⟨x158, hinv⟩ := hinv
      obtain ⟨x159, hinv⟩ := hinv
      obtain ⟨x160, hinv⟩ := hinv
      obtain ⟨x161, hinv⟩ := hinv
      obtain ⟨x162, hinv⟩ := hinv
      obtain ⟨x163, hinv⟩ := hinv
      obtain ⟨x164, hinv⟩ := hinv
      obtain ⟨x165, hinv⟩ := hinv
      obtain ⟨x166, hinv⟩ := hinv
      obtain ⟨x167, hinv⟩ := hinv
      obtain ⟨x168, hinv⟩ := hinv
      obtain ⟨x169, hinv⟩ := hinv
      obtain ⟨x170, hinv⟩ := hinv
      obtain ⟨x171, hinv⟩ := hinv
      obtain ⟨x172, hinv⟩ := hinv
      obtain ⟨x173, hinv⟩ := hinv
      obtain ⟨x174, hinv⟩ := hinv
      obtain ⟨x175, hinv⟩ := hinv
      obtain ⟨x176, hinv⟩ := hinv
      obtain ⟨x177, hinv⟩ := hinv
      obtain ⟨x178, hinv⟩ := hinv
      obtain ⟨x179, hinv⟩ := hinv
      obtain ⟨x180, hinv⟩ := hinv
      obtain ⟨x181, hinv⟩ := hinv
      obtain ⟨x182, hinv⟩ := hinv
      obtain ⟨x183, hinv⟩ := hinv
      obtain ⟨x184, hinv⟩ := hinv
      obtain ⟨x185, hinv⟩ := hinv
      obtain ⟨x186, hinv⟩ := hinv
      obtain ⟨x187, hinv⟩ := hinv
      obtain ⟨x188, hinv⟩ := hinv
      obtain ⟨x189, hinv⟩ := hinv
      obtain ⟨x190, hinv⟩ := hinv
      obtain ⟨x191, hinv⟩ := hinv
      obtain ⟨x192, hinv⟩ := hinv
      obtain ⟨x193, hinv⟩ := hinv
      obtain ⟨x194, hinv⟩ := hinv
      obtain ⟨x195, hinv⟩ := hinv
      obtain ⟨x196, hinv⟩ := hinv
      obtain ⟨x197, hinv⟩ := hinv
      obtain ⟨x198, hinv⟩ := hinv
      obtain ⟨x199, hinv⟩ := hinv
      obtain ⟨x200, hinv⟩ := hinv
      obtain ⟨x201, hinv⟩ := hinv
      obtain ⟨x202, hinv⟩ := hinv
      obtain ⟨x203, hinv⟩ := hinv
      obtain ⟨x204, hinv⟩ := hinv
      obtain ⟨x205, hinv⟩ := hinv
      obtain ⟨x206, hinv⟩ := hinv
      obtain ⟨x207, hinv⟩ := hinv
      obtain ⟨x208, hinv⟩ := hinv
      obtain ⟨x209, hinv⟩ := hinv
      obtain ⟨x210, hinv⟩ := hinv
      obtain ⟨x211, hinv⟩ := hinv
      obtain ⟨x212, hinv⟩ := hinv
      obtain ⟨x213, hinv⟩ := hinv
      obtain ⟨x214, hinv⟩ := hinv
      obtain ⟨x215, hinv⟩ := hinv
      obtain ⟨x216, hinv⟩ := hinv
      obtain ⟨x217, hinv⟩ := hinv
      obtain ⟨x218, hinv⟩ := hinv
      obtain ⟨x219, hinv⟩ := hinv
      obtain ⟨x220, hinv⟩ := hinv
      obtain ⟨⟨hi, ⟨fp, fs, ps1, rp, rs⟩, mk⟩, ha0⟩ := hinv
      subst ha0
      dsimp only
      clear psv
      by_cases hlt : i < m
      · have hli : (i : Int) < (m : Int) := by omega
        have b0 : ∀ ob, (V.alloc ob).cell? ⟨w.heap.size, 0, none⟩ = some (sl t.bm t.om m t.cm) := fun ob => cell_old ob (by simpa using ps1.bx 0 _ rfl)
        have b1 : ∀ ob, (V.alloc ob).cell? ⟨w.heap.size, 1, none⟩ = some (.slice t.sn (2 * cnt pr m) t.cn) := fun ob => cell_old ob (by simpa using ps1.bx 1 _ rfl)
        have b2 : ∀ ob, (V.alloc ob).cell? ⟨w.heap.size, 2, none⟩ = some (sl t.bf t.of (m + 1) t.cf) := fun ob => cell_old ob (by simpa using ps1.bx 2 _ rfl)
        have PSI := hid ps1
        have RP := hid rp
        have RS := hid rs
        have MK := hid mk
        clear ps1 rp rs mk
        go_wp2_with (go_at_call 29; refine (needsOf_any _ _ _ i _).mono ?_; rintro e w' ⟨rfl, rfl⟩)
        refine act_as ?_
        intro A hA
        obtain ⟨A1, hA1⟩ : ∃ A1 : Act, A1 = { tmps := ((A.tmps.setIfInBounds 43 (vi (2 * cnt pr i))).setIfInBounds 44 (t.need (2 * cnt pr i))).setIfInBounds 9 (t.need (2 * cnt pr i)), defers := [] } := ⟨_, rfl⟩
        rw [hA] at hA1 ⊢
        simp only [List.setIfInBounds_toArray, List.set_cons_succ, List.set_cons_zero] at hA1
        have hbel := PSI.out.bel
        have BV := hid (H.out.below hbel)
        have S0 : (((V.alloc (.cells #[vi i] 3)).alloc (.cells (t.cells m (2 * cnt pr m)) 53)).alloc (.cells #[vi i] 3)).heap.size = V.heap.size + 3 := by rw [World.size_alloc, World.size_alloc, World.size_alloc]
        have kw : Kept (fun _ => False) V (((V.alloc (.cells #[vi i] 3)).alloc (.cells (t.cells m (2 * cnt pr m)) 53)).alloc (.cells #[vi i] 3)) := (((Kept.refl _ V).alloc _).alloc _).alloc _
        have c00 : (V.alloc (.cells #[vi i] 3)).cell? ⟨V.heap.size, 0, none⟩ = some (vi i) := by simp
        have hbatA : Bat (V.alloc (.cells #[vi i] 3)) t m mem pr := BV.out.below ((Below.refl _ _).alloc (Nat.le_refl _) _)
        have hseq := hbatA.seq hlt
        rw [World.size_alloc] at hseq
        have hT0V := PSI.out.sz
        have hlD : ∀ D ∈ Ds, D < V.heap.size := fun D hD => (Array.getElem?_eq_some_iff.1 (MK.out.at' D hD).2).1
        refine (wpIn_wide (n := 3)).1 ?_
        refine wpIn_rangeFunc_ownH (F := Fence.wide) rfl (by omega) (gf := 46) (lb := #[.pointer (some ⟨V.heap.size + 1, 0, none⟩), .pointer (some ⟨V.heap.size + 1 + 1, 0, none⟩)]) rfl trivial (enters_of Ybaz.func46 (by kernel_rfl) rfl)
          hseq (fun h k => KpL.trans h k) ?hKb (Below.refl _ _) (fun _ => rfl)
          (fun pre U => (∃ fp fs, PS w U T0 Pb Pv bp bs bt be bl m (sl t.bm t.om m t.cm) (.slice t.sn (2 * cnt pr m) t.cn) (sl t.bf t.of (m + 1) t.cf) (fp) (fs) (fun _ => .float .f64 0) (fun _ => .float .f64 0) (fun _ => .float .f64 0) (.float .f64 0) ∧ RW U T0 m fp (prC (if pre = [] then i else i + 1)) ∧ RW U T0 m fs (suC (if pre = [] then i else i + 1))) ∧ Marks U w.heap.size Ds ∧ U.cell? ⟨V.heap.size, 0, none⟩ = some (vi i) ∧ V.heap.size + 3 ≤ U.heap.size) (fun _ _ _ => False) ?hI (fun _ _ _ _ _ hs _ _ => hs) ?h0
          (fun _ a' _ => a' = A1) (fun _ _ _ _ _ _ hs _ _ => hs) ?assign ?body ?done ?stop
        case hKb =>
          intro U l1 o o' hl _ _ _
          refine KpL.putObj (n := V.heap.size + 3) (fun b hb => ?_) U l1 o' (by rw [← S0]; exact hl)
          have hf := World.block_lt_of_cell? _ _ (BV.out.frm 0 (Nat.zero_le _))
          unfold Bt.reads at hb
          have hsn := BV.out.snl
          cases hs : t.sn with
          | none => rw [hs] at hb; simp at hb hf; omega
          | some a => rw [hs] at hb; have := hsn a hs; simp at hb hf; omega
        case h0 =>
          refine ⟨⟨fp, fs, PSI.out.kept kw (fun _ h => h.elim), ?_, ?_⟩, MK.out.kept kw (fun _ h => h.elim), cell_old _ (cell_old _ c00), by simp only [World.size_alloc]; omega⟩
          · rw [if_pos rfl]; exact RP.out.kept kw (fun _ h => h.elim)
          · rw [if_pos rfl]; exact RS.out.kept kw (fun _ h => h.elim)
        case hI =>
          rintro pre U U' row ⟨⟨fp, fs, h1, h2, h3⟩, h4, h5, h6⟩ hg hr
          have kr : Kept (fun b => row = some b) U U' := (Kept.refl (fun b => row = some b) U).grown hg (fun k hk => .inl hk)
          have hS : ∀ b, row = some b → V.heap.size + 3 ≤ b := fun b hb => by have := (hr b hb).1; simp at this; omega
          have hnc : ∀ b, row = some b → ∀ o v, U.cell? ⟨b, o, none⟩ ≠ some v := fun b hb o v hv => by
            obtain ⟨ob, ho, hnot⟩ := (hr b hb).2
            unfold World.cell? at hv
            simp only [ho] at hv
            cases ob <;> simp_all [Obj.isCells]
          exact ⟨⟨fp, fs, h1.kept kr (fun b hb => by have := hS b hb; omega), h2.keptc kr hnc, h3.keptc kr hnc⟩, ⟨h4.nodup, fun D hD => ⟨(h4.at' D hD).1, (kr.block D (Array.getElem?_eq_some_iff.1 (h4.at' D hD).2).1 (fun he => by have := hS D he; have := hlD D hD; omega)).trans (h4.at' D hD).2⟩⟩, kr.cell (p := ⟨V.heap.size, 0, none⟩) (fun (he : row = some V.heap.size) => by have := hS V.heap.size he; omega) h5, Nat.le_trans h6 kr.size⟩
        case assign =>
          rintro l1 pre x U K hi hK
          unfold Bt.enc
          gi_wp2
          exact hK _ _ (KeepsFrom.refl _ _) (KpL.refl _ _) hi hA1.symm
        case body =>
          intro l1 pre x a' U hl hrr hi ha hlen
          have ha' : a' = A1 := ha
          rw [ha', hA1]
          clear ha ha' hA1 hA hseq kw hbatA PSI RP RS MK c00
          have hpe : ∃ j, pr i = some j := by
            cases hp : pr i with
            | none => rw [waits_none hp] at hlen; omega
            | some j => exact ⟨j, rfl⟩
          obtain ⟨j, hp⟩ := hpe
          have hpre : pre = [] := by rw [waits_some hp] at hlen; exact List.eq_nil_of_length_eq_zero (by omega)
          subst hpre
          simp only [if_pos] at hi
          obtain ⟨⟨fp, fs, h1, h2', h3⟩, h4, h5, h6⟩ := hi
          have hij : i = j + 1 := by
            cases i with
            | zero => rw [hp0] at hp; cases hp
            | succ k => rw [hp1 k hlt] at hp; cases hp; rfl
          have hbV := H.out.below h1.bel
          obtain ⟨b, o, hsn, _, c2⟩ := hbV.one i j hlt hp
          simp only [Bt.need_some hsn]
          clear hbV
          have np : fp i = .slice none 0 0 := h2'.nn i hlt (by unfold prC; rw [if_neg (by omega)])
          have ns : fs j = .slice none 0 0 := h3.nn j (by omega) (by unfold suC; rw [if_neg (by omega)])
          have HIJ := hid hij
          clear hij
          let S : World → Prop := fun U' => Kept (fun _ => False) U U'
          have s0 : S U.drew := (Kept.refl _ U).drew
          haveI nS : Nonempty (Wld S) := ⟨⟨U.drew, s0⟩⟩
          have p0 := h1.pv
          have p1 : U.cell? ⟨Pb, 3, none⟩ = some (sl bp 0 m m) := by simpa using h1.ps 3 _ rfl
          have p2 : U.cell? ⟨bp, i, none⟩ = some (.slice none 0 0) := by have := h1.cellp hlt; rwa [np] at this
          have f2 := h1.freep hlt
          have y1 : ∀ x : Wld S, x.w.cell? ⟨Pv, 0, none⟩ = some (.pointer (some ⟨Pb, 0, none⟩)) := fun x => x.h.cell (fun h => h) p0
          have y2 : ∀ x : Wld S, x.w.cell? ⟨Pb, 3, none⟩ = some (sl bp 0 m m) := fun x => x.h.cell (fun h => h) p1
          have y3 : ∀ x : Wld S, x.w.cell? ⟨bp, i, none⟩ = some (.slice none 0 0) := fun x => x.h.cell (fun h => h) p2
          have y4 : ∀ x : Wld S, x.w.cell? ⟨V.heap.size, 0, none⟩ = some (vi i) := fun x => x.h.cell (fun h => h) h5
          gi_wp2
          refine wpIn_region_plan 16 [(true, 0), (true, 1), (true, 2), (true, 3), (true, 4), (true, 5), (true, 6), (true, 7), (true, 8), (true, 9), (true, 10), (true, 11), (true, 12), (false, 13), (false, 14), (true, 15), (false, 16)] (fun w' => ∃ x : Wld S, w' = x.w) (by kernel_rfl) (by rintro ⟨_, _, h⟩; exact h) mixed (by kernel_rfl) (fun _ _ _ _ _ h => h) (inS s0) ?_
          repeat (refine wpPlan_q (by rfl) ?_; dsimp only [List.getElem_toArray, List.getElem_cons_zero, List.getElem_cons_succ]; go_big_quiet_step (fail); refine wpQuiet_nil ?_)
          refine wpPlan_e (by rfl) ?_
          dsimp only [List.getElem_toArray, List.getElem_cons_zero, List.getElem_cons_succ]
          go_wp2
          refine onward_normal (fun _ => inS (show S _ from ((Kept.refl _ U).drew).alloc _)) ?_
          refine wpPlan_e (by rfl) ?_
          dsimp only [List.getElem_toArray, List.getElem_cons_zero, List.getElem_cons_succ]
          refine wpList_append_own_at _ rfl (.tmp 59) (.tmp 61) 26 rfl U.heap.size 3 i3 (.int .i64 0) 1 8 Ybaz.underlying26 hi3 hz3 hs3 hb3 rfl (by decide) (.slice none 0 0) 0 [] rfl ⟨rfl, .inl ⟨rfl, rfl⟩⟩ ⟨U.heap.size, 0, none⟩ 1 1 [vi j] rfl rfl (news1 U.drew (vi j) 3) (by simp [Value.oneCell']) (by unfold maxLen; omega) (by omega) (by simp) ?_
          intro v' w1 own1 grow1 _ mv1
          obtain ⟨g', cap', rfl⟩ := own_slice own1
          refine wpList_done ?_
          simp only [Act.put, List.setIfInBounds_toArray, List.set_cons_succ, List.set_cons_zero]
          have kA : Kept (fun _ => False) U w1 := (((Kept.refl (fun _ => False) U).drew).alloc (.cells #[vi j] 3)).grown grow1 (fun k hk => by cases hk)
          have cA : w1.cell? ⟨g', 0, none⟩ = some (vi j) := by
            obtain ⟨g2, c2', e, hc, _⟩ := own_cell own1 (j := 0) (u := vi j) rfl
            cases e
            exact hc
          have gA : U.heap.size ≤ g' := (own_block own1 (g := g') rfl).1
          clear own1 grow1 mv1
          refine onward_normal (fun _ => inS (show S w1 from kA)) ?_
          refine wpPlan_q (by rfl) ?_
          dsimp only [List.getElem_toArray, List.getElem_cons_zero, List.getElem_cons_succ]
          go_big_quiet_step (fail)
          refine wpQuiet_nil ?_
          refine wpPlan_e (by rfl) ?_
          dsimp only [List.getElem_toArray, List.getElem_cons_zero, List.getElem_cons_succ]
          have p3 : w1.cell? ⟨bp, i, none⟩ = some (.slice none 0 0) := kA.cell (fun h => h) p2
          have f3 : w1.frozen? ⟨bp, i, none⟩ = false := (h1.kept kA (fun _ h => h.elim)).freep hlt
          go_wp2
          refine onward_normal (fun h => by cases h) ?_
          refine wpPlan_nil ?_
          have hT0U : T0 ≤ U.heap.size := h1.sz
          refine q_as (fun X => ∃ fp', PS w X T0 Pb Pv bp bs bt be bl m (sl t.bm t.om m t.cm) (.slice t.sn (2 * cnt pr m) t.cn) (sl t.bf t.of (m + 1) t.cf) (fp') (fs) (fun _ => .float .f64 0) (fun _ => .float .f64 0) (fun _ => .float .f64 0) (.float .f64 0) ∧ RW X T0 m fp' (prC (i + 1)) ∧ RW X T0 m fs (suC i) ∧ Marks X w.heap.size Ds ∧ X.cell? ⟨V.heap.size, 0, none⟩ = some (vi i) ∧ Kept (fun b => b = bp) U X) ?_ ?_
          · have k1 : Kept (fun b => b = bp) U (w1.setCell ⟨bp, i, none⟩ (sl g' 0 (0 + 1) cap')) := (kA.weak (E' := fun b => b = bp) (fun _ _ h => h.elim)).setCell (p := ⟨bp, i, none⟩) (.inl rfl) _
            have hbp' := h1.hbp
            have hlb' := h1.lbp
            refine ⟨_, (h1.kept kA (fun _ h => h.elim)).setp hlt _, ?_, (h3.kept kA (fun _ h => h.elim)).low h1.hbp _, h4.kept k1 (fun b hb => by subst hb; exact notDef_of_cell p2), k1.cell (p := ⟨V.heap.size, 0, none⟩) (fun (e : V.heap.size = bp) => by omega) h5, k1⟩
            refine ((h2'.kept kA (fun _ h => h.elim)).put i j g' cap' (by omega) cA).low h1.hbp _ |>.ext (fun y hy => ?_)
            have hij := HIJ.out
            by_cases e : y = i
            · rw [if_pos e]; unfold prC; rw [if_pos ⟨by omega, by omega⟩]; congr 1; omega
            · rw [if_neg e]
              unfold prC
              have : (0 < y ∧ y < i) = (0 < y ∧ y < i + 1) := by apply propext; omega
              simp only [this]
          rintro X ⟨fp', g1, g2, g3, g4, g5, g6⟩
          clear h1 h2' h3 h4 h5 np f2 kA cA gA p3 f3 y1 y2 y3 y4 nS s0 p0 p1 p2 S
          let S2 : World → Prop := fun U' => Kept (fun _ => False) X U'
          have s0 : S2 X.drew := (Kept.refl _ X).drew
          haveI : Nonempty (Wld S2) := ⟨⟨X.drew, s0⟩⟩
          have hji : j < m := by have := HIJ.out; omega
          have hji' : (j : Int) < (m : Int) := by omega
          have p0 := g1.pv
          have p1 : X.cell? ⟨Pb, 4, none⟩ = some (sl bs 0 m m) := by simpa using g1.ps 4 _ rfl
          have p2 : X.cell? ⟨bs, j, none⟩ = some (.slice none 0 0) := by have := g1.cells hji; rwa [ns] at this
          have y1 : ∀ x : Wld S2, x.w.cell? ⟨Pv, 0, none⟩ = some (.pointer (some ⟨Pb, 0, none⟩)) := fun x => x.h.cell (fun h => h) p0
          have y2 : ∀ x : Wld S2, x.w.cell? ⟨Pb, 4, none⟩ = some (sl bs 0 m m) := fun x => x.h.cell (fun h => h) p1
          have y3 : ∀ x : Wld S2, x.w.cell? ⟨bs, j, none⟩ = some (.slice none 0 0) := fun x => x.h.cell (fun h => h) p2
          have y4 : ∀ x : Wld S2, x.w.cell? ⟨V.heap.size, 0, none⟩ = some (vi i) := fun x => x.h.cell (fun h => h) g5
          gi_wp2
          refine wpIn_region_plan 16 [(true, 0), (true, 1), (true, 2), (true, 3), (true, 4), (true, 5), (true, 6), (true, 7), (true, 8), (true, 9), (true, 10), (true, 11), (true, 12), (false, 13), (false, 14), (true, 15), (false, 16)] (fun w' => ∃ x : Wld S2, w' = x.w) (by kernel_rfl) (by rintro ⟨_, _, h⟩; exact h) mixed (by kernel_rfl) (fun _ _ _ _ _ h => h) (inS s0) ?_
          repeat (refine wpPlan_q (by rfl) ?_; dsimp only [List.getElem_toArray, List.getElem_cons_zero, List.getElem_cons_succ]; go_big_quiet_step (fail); refine wpQuiet_nil ?_)
          refine wpPlan_e (by rfl) ?_
          dsimp only [List.getElem_toArray, List.getElem_cons_zero, List.getElem_cons_succ]
          go_wp2
          refine onward_normal (fun _ => inS (show S2 _ from ((Kept.refl _ X).drew).alloc _)) ?_
          refine wpPlan_e (by rfl) ?_
          dsimp only [List.getElem_toArray, List.getElem_cons_zero, List.getElem_cons_succ]
          refine wpList_append_own_at _ rfl (.tmp 75) (.tmp 77) 26 rfl X.heap.size 3 i3 (.int .i64 0) 1 8 Ybaz.underlying26 hi3 hz3 hs3 hb3 rfl (by decide) (.slice none 0 0) 0 [] rfl ⟨rfl, .inl ⟨rfl, rfl⟩⟩ ⟨X.heap.size, 0, none⟩ 1 1 [vi i] rfl rfl (news1 X.drew (vi i) 3) (by simp [Value.oneCell']) (by unfold maxLen; omega) (by omega) (by simp) ?_
          intro v' w1 own1 grow1 _ mv1
          obtain ⟨g', cap', rfl⟩ := own_slice own1
          refine wpList_done ?_
          simp only [Act.put, List.setIfInBounds_toArray, List.set_cons_succ, List.set_cons_zero]
          have kA : Kept (fun _ => False) X w1 := (((Kept.refl (fun _ => False) X).drew).alloc (.cells #[vi i] 3)).grown grow1 (fun k hk => by cases hk)
          have cA : w1.cell? ⟨g', 0, none⟩ = some (vi i) := by
            obtain ⟨g2, c2', e, hc, _⟩ := own_cell own1 (j := 0) (u := vi i) rfl
            cases e
            exact hc
          have gA : X.heap.size ≤ g' := (own_block own1 (g := g') rfl).1
          clear own1 grow1 mv1
          refine onward_normal (fun _ => inS (show S2 w1 from kA)) ?_
          refine wpPlan_q (by rfl) ?_
          dsimp only [List.getElem_toArray, List.getElem_cons_zero, List.getElem_cons_succ]
          go_big_quiet_step (fail)
          refine wpQuiet_nil ?_
          refine wpPlan_e (by rfl) ?_
          dsimp only [List.getElem_toArray, List.getElem_cons_zero, List.getElem_cons_succ]
          have p3 : w1.cell? ⟨bs, j, none⟩ = some (.slice none 0 0) := kA.cell (fun h => h) p2
          have f3 : w1.frozen? ⟨bs, j, none⟩ = false := (g1.kept kA (fun _ h => h.elim)).frees hji
          go_wp2
          refine onward_normal (fun h => by cases h) ?_
          refine wpPlan_nil ?_
          have hT0X : T0 ≤ X.heap.size := g1.sz
          have hbs' := g1.hbs
          have hlb' := g1.lbs
          have hbp' := g1.hbp
          have hlp' := g1.lbp
          have k1 : Kept (fun b => b = bs) X (w1.setCell ⟨bs, j, none⟩ (sl g' 0 (0 + 1) cap')) := (kA.weak (E' := fun b => b = bs) (fun _ _ h => h.elim)).setCell (p := ⟨bs, j, none⟩) (.inl rfl) _
          have kU : Kept (fun b => b = bp ∨ b = bs) U (w1.setCell ⟨bs, j, none⟩ (sl g' 0 (0 + 1) cap')) := (g6.weak (fun _ _ h => .inl h)).trans (k1.weak (fun _ _ h => .inr h))
          gi_wp2
          refine ⟨keepsFrom_kept kU (fun b hb => by simp only [World.size_alloc]; rcases hb with rfl | rfl <;> omega), KpL.kept kU ?_, ⟨fp', _, (g1.kept kA (fun _ h => h.elim)).sets hji _, ?_, ?_⟩, g4.kept k1 (fun b hb => by subst hb; exact notDef_of_cell p2), k1.cell (p := ⟨V.heap.size, 0, none⟩) (fun (e : V.heap.size = bs) => by omega) g5, Nat.le_trans h6 kU.size⟩
          · intro b' hb'
            have hf := World.block_lt_of_cell? _ _ (H.out.frm 0 (Nat.zero_le _))
            have hsn2 := H.out.snl
            unfold Bt.reads at hb'
            rw [hsn] at hb'
            have h9 := hsn2 _ hsn
            simp at hb' hf h9
            omega
          · rw [if_neg (by simp)]
            exact (g2.kept kA (fun _ h => h.elim)).low g1.hbs _
          · rw [if_neg (by simp)]
            refine ((g3.kept kA (fun _ h => h.elim)).put j i g' cap' (by omega) cA).low g1.hbs _ |>.ext (fun y hy => ?_)
            have hij := HIJ.out
            by_cases e : y = j
            · rw [if_pos e]; unfold suC; rw [if_pos (by omega)]; congr 1; omega
            · rw [if_neg e]
              unfold suC
              have : (y + 1 < i) = (y + 1 < i + 1) := by apply propext; omega
              simp only [this]
        case done =>
          rintro D ys U hD hys ⟨⟨fp, fs, h1, h2', h3⟩, h4, h5, h6⟩ hDm
          have hD' : V.heap.size + 3 ≤ D := by simp at hD; omega
          have psN := h1
          have rpN : RW U T0 m fp (prC (i + 1)) := by
            cases hp : pr i with
            | none =>
              rw [waits_none hp] at hys
              rw [if_pos (by rw [hys]; rfl)] at h2'
              have hi0 : i = 0 := by
                cases i with
                | zero => rfl
                | succ k => rw [hp1 k hlt] at hp; cases hp
              refine h2'.ext (fun y _ => ?_)
              subst hi0
              unfold prC
              rw [if_neg (by omega), if_neg (by omega)]
            | some j =>
              rw [waits_some hp] at hys
              rw [if_neg (by rw [hys]; simp)] at h2'
              exact h2'
          have rsN : RW U T0 m fs (suC (i + 1)) := by
            cases hp : pr i with
            | none =>
              rw [waits_none hp] at hys
              rw [if_pos (by rw [hys]; rfl)] at h3
              have hi0 : i = 0 := by
                cases i with
                | zero => rfl
                | succ k => rw [hp1 k hlt] at hp; cases hp
              refine h3.ext (fun y _ => ?_)
              subst hi0
              unfold suC
              rw [if_neg (by omega), if_neg (by omega)]
            | some j =>
              rw [waits_some hp] at hys
              rw [if_neg (by rw [hys]; simp)] at h3
              exact h3
          have mkN : Marks U w.heap.size (D :: Ds) := h4.cons (fun hm' => by have := hlD D hm'; omega) (by have := PSI.out.lPv; have := PSI.out.hPv; omega) hDm
          have PN := hid psN
          have RPN := hid rpN
          have RSN := hid rsN
          have MN := hid mkN
          clear h1 h2' h3 h4 h5 psN rpN rsN mkN hA1 hA hseq kw hbatA PSI RP RS MK c00
          go_wp2
          refine ⟨⟨i + 1, D :: Ds, ?_⟩, ?_⟩
          · repeat apply Exists.intro
            exact ⟨⟨by omega, ⟨_, _, PN.out, RPN.out, RSN.out⟩, MN.out⟩, rfl⟩
          · simp [intOf]; omega
        case stop =>
          intro D c pre V _ _ h _
          exact h.elim
      · obtain rfl : i = m := by omega
        go_wp2
        exact part_tail l names tm steps ks t i mem pr tt w T0 Pb Pv bp bs bt be bl fp fs V Ds HT H h2 hm htt ps1 rp rs mk
end Go.Proofs.YbulkdsicGreat
