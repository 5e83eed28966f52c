import Derived.Test.YbulkdsmyCmp
set_option linter.unusedSimpArgs false
namespace Go.Proofs.Ybulkdsmy
open Go.RowKit

/-- A silence's cells, as the law's caller gives it. -/
def rsc (s : Sl) : List Value := [.int .u8 s.b, .int .i64 s.n]
def RawP (w : World) (sa : Option Addr) (L : List Pr) : Prop := ∀ i p, L[i]? = some p → ∃ g o, sa = some ⟨g, o, none⟩ ∧ w.rangeAt g (o + i * 2) (rwc p)
def RawS (w : World) (sa : Option Addr) (S : List Sl) : Prop := ∀ i s, S[i]? = some s → ∃ g o, sa = some ⟨g, o, none⟩ ∧ w.rangeAt g (o + i * 2) (rsc s)
/-- What comes in. -/
structure In (w : World) (a1 a2 a3 : Option Addr) (PL OL : List Pr) (Q : List Sl) (se pr su tp ts : Pr) : Prop where
  pl : RawP w a1 PL
  ol : RawP w a2 OL
  q : RawS w a3 Q
  okse : se.ok
  okpr : pr.ok
  oksu : su.ok
  oktp : tp.ok
  okts : ts.ok
  okPL : ∀ p ∈ PL, p.ok
  okQ : ∀ s ∈ Q, (0 ≤ s.b ∧ s.b ≤ 255) ∧ (Lit.int .i64 s.n).wf = true
  few : PL.length + OL.length + Q.length ≤ 4096

theorem range_low {n : Nat} {w w' : World} (h : Below n w w') {b o : Nat} {cs : List Value} (hb : b < n) (hr : w.rangeAt b o cs) : w'.rangeAt b o cs := fun j v hv => by
  rw [h.cell (p := ⟨b, o + j, none⟩) hb]; exact hr j v hv
theorem there_low {n : Nat} {w w' : World} (h : Below n w w') {b o k : Nat} (hb : b < n) (hr : w.there b o k) : w'.there b o k := fun j hj => by
  obtain ⟨h1, h2⟩ := hr j hj
  exact ⟨by rw [h.cell (p := ⟨b, o + j, none⟩) hb]; exact h1, by rw [h.frozen (p := ⟨b, o + j, none⟩) hb]; exact h2⟩
theorem own_low {n : Nat} {w w' : World} {base e size k : Nat} {v : Value} {xs : List Value} (h : w.ownsRow base e size v k xs) (b : Below n w w') (hv : ∀ g, v.ownBlock = some g → g < n) : w'.ownsRow base e size v k xs := by
  refine ⟨h.1, ?_⟩
  rcases h.2 with h0 | ⟨g, cap, cur, rfl, h1, h2, h3, h4, h5, h6⟩
  · exact .inl h0
  · exact .inr ⟨g, cap, cur, rfl, h1, by rw [b.block g (hv g rfl)]; exact h2, h3, h4, h5, h6⟩
theorem range_cell {w : World} {b o : Nat} {cs : List Value} (h : w.rangeAt b o cs) {j : Nat} {v : Value} (hv : cs[j]? = some v) : w.cell? ⟨b, o + j, none⟩ = some v := h j v hv

theorem bx23 (p : Pr) (w : World) : Sem.run Yba.prog (Instr.box 23 (.agg (rwc p).toArray)) w = .ok (.pointer (some ⟨w.heap.size, 0, none⟩)) (w.alloc (.cells (rwc p).toArray 23)) := by kernel_rfl
theorem size23 : (Yba.prog.info? 23).map (·.size) = some 2 := by kernel_rfl
theorem info23 (p : Pr) : (Yba.prog.info? 23).map (·.size) = some (rwc p).length := by
  rw [rwc_len]; exact size23

/-- The law's five boxes: self, pred, succ, toldPred, toldSucc. -/
structure Bx (w W : World) (se pr su tp ts : Pr) : Prop where
  bel : Below w.heap.size w W
  b0 : W.rangeAt w.heap.size 0 (rwc se)
  b1 : W.rangeAt (w.heap.size + 1) 0 (rwc pr)
  b2 : W.rangeAt (w.heap.size + 2) 0 (rwc su)
  b3 : W.rangeAt (w.heap.size + 3) 0 (rwc tp)
  b4 : W.rangeAt (w.heap.size + 4) 0 (rwc ts)
  sz : w.heap.size + 5 ≤ W.heap.size
theorem Bx.on {w W W' : World} {se pr su tp ts : Pr} (h : Bx w W se pr su tp ts) {n : Nat} (b : Below n W W') (hn : w.heap.size + 5 ≤ n) : Bx w W' se pr su tp ts :=
  ⟨h.bel.trans (b.mono (by omega)), range_low b (by omega) h.b0, range_low b (by omega) h.b1, range_low b (by omega) h.b2, range_low b (by omega) h.b3, range_low b (by omega) h.b4, Nat.le_trans h.sz b.size⟩
theorem Bx.make (w : World) (se pr su tp ts : Pr) : Bx w (((((w.alloc (.cells (rwc se).toArray 23)).alloc (.cells (rwc pr).toArray 23)).alloc (.cells (rwc su).toArray 23)).alloc (.cells (rwc tp).toArray 23)).alloc (.cells (rwc ts).toArray 23)) se pr su tp ts := by
  refine ⟨?_, ?_, ?_, ?_, ?_, ?_, by simp⟩
  · exact (((((Below.refl _ _).alloc (Nat.le_refl _) _).alloc (by simp) _).alloc (by simp; omega) _).alloc (by simp; omega) _).alloc (by simp; omega) _
  · exact World.rangeAt_alloc (World.rangeAt_alloc (World.rangeAt_alloc (World.rangeAt_alloc (range_new w (rwc se) 23) _) _) _) _
  · have h := World.rangeAt_alloc (World.rangeAt_alloc (World.rangeAt_alloc (range_new (w.alloc (.cells (rwc se).toArray 23)) (rwc pr) 23) (.cells (rwc su).toArray 23)) (.cells (rwc tp).toArray 23)) (.cells (rwc ts).toArray 23)
    simpa using h
  · have h := World.rangeAt_alloc (World.rangeAt_alloc (range_new ((w.alloc (.cells (rwc se).toArray 23)).alloc (.cells (rwc pr).toArray 23)) (rwc su) 23) (.cells (rwc tp).toArray 23)) (.cells (rwc ts).toArray 23)
    simpa using h
  · have h := World.rangeAt_alloc (range_new (((w.alloc (.cells (rwc se).toArray 23)).alloc (.cells (rwc pr).toArray 23)).alloc (.cells (rwc su).toArray 23)) (rwc tp) 23) (.cells (rwc ts).toArray 23)
    simpa using h
  · have h := range_new ((((w.alloc (.cells (rwc se).toArray 23)).alloc (.cells (rwc pr).toArray 23)).alloc (.cells (rwc su).toArray 23)).alloc (.cells (rwc tp).toArray 23)) (rwc ts) 23
    simpa using h

/-- A row of things of 21 cells, the first m laid. -/
structure Fill (W : World) (G n : Nat) (X : List (List Value)) (m : Nat) : Prop where
  room : W.there G 0 (n * 21)
  at' : ∀ j cs, j < m → X[j]? = some cs → W.rangeAt G (j * 21) cs
theorem Fill.on {W W' : World} {G n m k : Nat} {X : List (List Value)} (h : Fill W G n X m) (b : Below k W W') (hk : G < k) : Fill W' G n X m :=
  ⟨there_low b hk h.room, fun j cs hj hx => range_low b hk (h.at' j cs hj hx)⟩
theorem Fill.step {W : World} {G n m : Nat} {X : List (List Value)} {cs : List Value} (h : Fill W G n X m) (hx : X[m]? = some cs) (hm : m < n) (hl : ∀ c ∈ X, c.length = 21) : Fill (W.setCells G (m * 21) cs) G n X (m + 1) := by
  have l21 := hl cs (List.mem_of_getElem? hx)
  refine ⟨World.there_setCells h.room _ _ _, fun j c hj hc => ?_⟩
  rcases Nat.lt_or_ge j m with h1 | h1
  · exact World.rangeAt_setCells_apart (h.at' j c h1 hc) _ _ _ (.inr (.inl (by rw [hl c (List.mem_of_getElem? hc)]; omega)))
  · obtain rfl : j = m := by omega
    rw [hx] at hc
    obtain rfl := Option.some.inj hc
    exact World.rangeAt_setCells_same _ _ _ _ (there_part h.room (by omega) (by rw [l21]; omega))
theorem there_own {w : World} {base e n g cap : Nat} {xs : List Value} (h : w.ownsRow base e 21 (.slice (some ⟨g, 0, none⟩) n cap) n xs) : w.there g 0 (n * 21) := by
  rcases h.2 with ⟨h0, _⟩ | ⟨g', cap', cur, hv, _, hb, hc, _, hs, _⟩
  · cases h0
  · cases hv
    refine fun j hj => ⟨?_, ?_⟩
    · have : j < cur.size := by rw [hs]; have := Nat.mul_le_mul_right 21 hc; omega
      simp [World.cell?, hb, this]
    · simp [World.frozen?, hb]
theorem block_setCell {w : World} {g o : Nat} {cur : Array Value} {t : TypeId} (h : w.heap[g]? = some (.cells cur t)) (v : Value) : ∃ cur', (w.setCell ⟨g, o, none⟩ v).heap[g]? = some (.cells cur' t) ∧ cur'.size = cur.size := by
  refine ⟨cur.setIfInBounds o v, ?_, by simp⟩
  simp [World.setCell, Array.getElem?_modify, h]
theorem block_setCells {g : Nat} {t : TypeId} : ∀ (vs : List Value) (o : Nat) (w : World) (cur : Array Value), w.heap[g]? = some (.cells cur t) → ∃ cur', (w.setCells g o vs).heap[g]? = some (.cells cur' t) ∧ cur'.size = cur.size
  | [], _, _, cur, h => ⟨cur, h, rfl⟩
  | v :: r, o, w, cur, h => by
    obtain ⟨c1, h1, h2⟩ := block_setCell (o := o) h v
    obtain ⟨c2, h3, h4⟩ := block_setCells r (o + 1) _ c1 h1
    exact ⟨c2, h3, h4.trans h2⟩

/-- Which peer holds a cell of a row. -/
theorem rowc_in : ∀ (L : List Pr) (j : Nat) (u : Value), (rowc L)[j]? = some u → ∃ i p r, L[i]? = some p ∧ (prc p)[r]? = some u ∧ j = i * 21 + r
  | [], j, u, h => by simp [rowc] at h
  | p :: L, j, u, h => by
    have e : rowc (p :: L) = prc p ++ rowc L := by simp [rowc]
    rw [e] at h
    rcases Nat.lt_or_ge j 21 with hj | hj
    · rw [List.getElem?_append_left (by rw [prc_len]; exact hj)] at h
      exact ⟨0, p, j, rfl, h, by omega⟩
    · rw [List.getElem?_append_right (by rw [prc_len]; exact hj), prc_len] at h
      obtain ⟨i, q, r, h1, h2, h3⟩ := rowc_in L (j - 21) u h
      exact ⟨i + 1, q, r, by simpa using h1, h2, by omega⟩
end Go.Proofs.Ybulkdsmy
