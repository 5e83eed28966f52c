import Derived.Test.YbulkdsmyLawN
set_option linter.unusedSimpArgs false
namespace Go.Proofs.Ybulkdsmy
open Go.RowKit

/-- What was told, by the law's mode. -/
def tdOf (M : Int) (pr su tp ts : Pr) : Option (Pr × Pr) := if M = 0 then none else if M = 1 then some (pr, su) else some (tp, ts)

structure S5 (w W : World) (PL : List Pr) (Q : List Sl) (se pr su tp ts : Pr) (n1 G : Nat) (cv : Value) (n2 R n3 qg : Nat) (M : Int) (ta : Option Addr) (T TW top : Nat) : Prop where
  s4 : S4 w W PL Q se pr su tp ts n1 G cv n2 R n3 qg TW
  td : ToldAt W T (.pointer ta) se (tdOf M pr su tp ts)
  was : ∀ tp' ts', tdOf M pr su tp ts = some (tp', ts') → W.rangeAt TW 0 (plc se ts' tp')
  tb : ∀ tp' ts', tdOf M pr su tp ts = some (tp', ts') → W.heap[T]? = some (.cells (plc se ts' tp').toArray 42)
  tl : T < G ∨ qg < T
  tt : T < TW
  wt : TW < top
  sz : top ≤ W.heap.size

theorem ToldAt.on {w w' : World} {T : Nat} {tv : Value} {se : Pr} {td : Option (Pr × Pr)} (h : ToldAt w T tv se td) {k : Nat} (b : Below k w w') (hk : T < k) : ToldAt w' T tv se td := by
  cases td with
  | none => exact h
  | some x => exact ⟨h.1, range_low b hk h.2.1, h.2.2⟩
section
variable {w W W' : World} {PL : List Pr} {Q : List Sl} {se pr su tp ts : Pr} {n1 n2 n3 G R qg T TW top : Nat} {cv : Value} {M : Int} {ta : Option Addr}
theorem S5.on (h : S5 w W PL Q se pr su tp ts n1 G cv n2 R n3 qg M ta T TW top) {k : Nat} (b : Below k W W') (hk : top ≤ k) : S5 w W' PL Q se pr su tp ts n1 G cv n2 R n3 qg M ta T TW top :=
  ⟨h.s4.on b (by have := h.wt; omega), h.td.on b (by have := h.wt; have := h.tt; omega), fun tp' ts' e => range_low b (by have := h.wt; omega) (h.was tp' ts' e), fun tp' ts' e => by rw [b.block T (by have := h.wt; have := h.tt; omega)]; exact h.tb tp' ts' e, h.tl, h.tt, h.wt, Nat.le_trans h.sz b.size⟩
theorem S5.up (h : S5 w W PL Q se pr su tp ts n1 G cv n2 R n3 qg M ta T TW top) {top' : Nat} (h1 : top ≤ top') (h2 : top' ≤ W.heap.size) : S5 w W PL Q se pr su tp ts n1 G cv n2 R n3 qg M ta T TW top' :=
  ⟨h.s4, h.td, h.was, h.tb, h.tl, h.tt, Nat.lt_of_lt_of_le h.wt h1, h2⟩
end

/-- The four blocks ahead of the node: the log's row, the log, the protocol, the host. -/
def pre4 (W : World) (G n1 : Nat) : World :=
  (((W.alloc (.cells #[] 5)).alloc (.cells #[.slice (some ⟨W.heap.size, 0, none⟩) 0 0] 43)).alloc (.cells (proc' G n1 (W.heap.size + 1)).toArray 47)).alloc (.cells (hostc (W.heap.size + 1)).toArray 58)
theorem pre4_size (W : World) (G n1 : Nat) : (pre4 W G n1).heap.size = W.heap.size + 4 := by simp [pre4]
theorem pre4_below (W : World) (G n1 : Nat) : Below W.heap.size W (pre4 W G n1) :=
  ((((Below.refl _ _).alloc (Nat.le_refl _) _).alloc (by simp) _).alloc (by simp; omega) _).alloc (by simp; omega) _

set_option maxHeartbeats 4000000 in
theorem node0 {w W W4 : World} {a1 a2 a3 : Option Addr} {PL OL : List Pr} {Q : List Sl} {se pr su tp ts : Pr} {n1 n2 n3 G R qg T TW : Nat} {cv : Value} {M : Int} {ta : Option Addr} {pg : Bool} (hi : In w a1 a2 a3 PL OL Q se pr su tp ts) (hn1 : n1 = PL.length) (hn2 : n2 = OL.length) (hn3 : n3 = Q.length)
    (h : S5 w W PL Q se pr su tp ts n1 G cv n2 R n3 qg M ta T TW W.heap.size) (b : Below (pre4 W G n1).heap.size (pre4 W G n1) W4) :
    Node0 (W4.alloc (.cells (nodec (W.heap.size + 3) (W.heap.size + 2) qg n3 R n2 ta se pr su pg).toArray 73)) w.heap.size W4.heap.size (W.heap.size + 3) (W.heap.size + 2) (W.heap.size + 1) G qg R T n2 n3 (.slice (some ⟨W.heap.size, 0, none⟩) 0 0) (.pointer ta) se pr su pg PL Q ∧
    S5 w (W4.alloc (.cells (nodec (W.heap.size + 3) (W.heap.size + 2) qg n3 R n2 ta se pr su pg).toArray 73)) PL Q se pr su tp ts n1 G cv n2 R n3 qg M ta T TW W.heap.size := by
  have b5 : Below (W.heap.size + 4) (pre4 W G n1) (W4.alloc (.cells (nodec (W.heap.size + 3) (W.heap.size + 2) qg n3 R n2 ta se pr su pg).toArray 73)) := by
    have := b.alloc b.size (.cells (nodec (W.heap.size + 3) (W.heap.size + 2) qg n3 R n2 ta se pr su pg).toArray 73)
    rwa [pre4_size] at this
  have sN : W.heap.size + 4 ≤ W4.heap.size := by have := b.size; rwa [pre4_size] at this
  have s5 := h.on ((pre4_below W G n1).trans (b5.mono (by omega))) (Nat.le_refl _)
  have rN := range_new W4 (nodec (W.heap.size + 3) (W.heap.size + 2) qg n3 R n2 ta se pr su pg) 73
  have tN := there_new W4 (nodec (W.heap.size + 3) (W.heap.size + 2) qg n3 R n2 ta se pr su pg) 73
  have rP := range_low b5 (b := W.heap.size + 2) (by omega) (o := 0) (cs := proc' G n1 (W.heap.size + 1)) (by
    have := World.rangeAt_alloc (range_new ((W.alloc (.cells #[] 5)).alloc (.cells #[.slice (some ⟨W.heap.size, 0, none⟩) 0 0] 43)) (proc' G n1 (W.heap.size + 1)) 47) (.cells (hostc (W.heap.size + 1)).toArray 58)
    simpa [pre4] using this)
  have rH0 : (pre4 W G n1).rangeAt (W.heap.size + 3) 0 (hostc (W.heap.size + 1)) := by
    have := range_new (((W.alloc (.cells #[] 5)).alloc (.cells #[.slice (some ⟨W.heap.size, 0, none⟩) 0 0] 43)).alloc (.cells (proc' G n1 (W.heap.size + 1)).toArray 47)) (hostc (W.heap.size + 1)) 58
    simpa [pre4] using this
  have rH := range_low b5 (b := W.heap.size + 3) (by omega) rH0
  have tH0 : (pre4 W G n1).there (W.heap.size + 3) 0 128 := by
    have := there_new (((W.alloc (.cells #[] 5)).alloc (.cells #[.slice (some ⟨W.heap.size, 0, none⟩) 0 0] 43)).alloc (.cells (proc' G n1 (W.heap.size + 1)).toArray 47)) (hostc (W.heap.size + 1)) 58
    simpa [pre4, hostc, chc_len] using this
  have tH := there_low b5 (b := W.heap.size + 3) (by omega) tH0
  have b1 : Below (W.heap.size + 1) (W.alloc (.cells #[] 5)) (pre4 W G n1) := (((Below.refl _ _).alloc (by simp) _).alloc (by simp) _).alloc (by simp) _
  have b2 : Below (W.heap.size + 2) ((W.alloc (.cells #[] 5)).alloc (.cells #[.slice (some ⟨W.heap.size, 0, none⟩) 0 0] 43)) (pre4 W G n1) := ((Below.refl _ _).alloc (by simp) _).alloc (by simp) _
  have c0 : ((W.alloc (.cells #[] 5)).alloc (.cells #[.slice (some ⟨W.heap.size, 0, none⟩) 0 0] 43)).rangeAt (W.heap.size + 1) 0 [.slice (some ⟨W.heap.size, 0, none⟩) 0 0] := by
    have := range_new (W.alloc (.cells #[] 5)) [.slice (some ⟨W.heap.size, 0, none⟩) 0 0] 43
    simpa using this
  have t0 : ((W.alloc (.cells #[] 5)).alloc (.cells #[.slice (some ⟨W.heap.size, 0, none⟩) 0 0] 43)).there (W.heap.size + 1) 0 1 := by
    have := there_new (W.alloc (.cells #[] 5)) [.slice (some ⟨W.heap.size, 0, none⟩) 0 0] 43
    simpa using this
  have cL := range_cell (range_low b2 (by omega) c0) (j := 0) rfl
  have fL := ((there_low b2 (by omega) t0) 0 (by omega)).2
  have hL : (pre4 W G n1).heap[W.heap.size]? = some (.cells #[] 5) := by rw [b1.block W.heap.size (by omega)]; exact heap_alloc_last W _
  have few := hi.few
  have g5 := h.s4.s3.s2.g5
  have gt := h.s4.s3.s2.gt
  have rt := h.s4.s3.rt
  have qt := h.s4.qt
  have wt := h.wt
  have tt := h.tt
  have tl := h.tl
  refine ⟨⟨?_, ?_, ?_, ?_, ?_, ?_, ?_, ?_, ?_, ?_, ?_, ?_, ?_, ?_, ?_, ?_, ?_, s5.s4.q, s5.s4.qr, s5.s4.s3.rb, hn3, ?_, ?_, ?_, ?_, hi.okse, hi.okpr, hi.oksu, hi.okPL, fun s hs => (hi.okQ s hs).1, ⟨?_, ?_⟩, ?_, ?_⟩, s5⟩
  · exact range_cell rN (j := 0) rfl
  · exact range_cell rN (j := 1) rfl
  · exact range_cell rN (j := 4) rfl
  · exact range_cell rN (j := 6) rfl
  · exact (range_app (range_app (xs := [.iface 48 (.pointer (some ⟨W.heap.size + 3, 0, none⟩)), .iface 44 (.pointer (some ⟨W.heap.size + 2, 0, none⟩)), .bool false, .int .i64 0, .slice (some ⟨qg, 0, none⟩) n3 n3, .slice none 0 0, .slice (some ⟨R, 0, none⟩) n2 n2,
      .slice none 0 0, .int .u64 0, .int .u64 0, .int .i64 0, .int .i64 0, .pointer none, .int .i64 0]) rN).2).1
  · exact (range_app (range_app (range_app (xs := [.iface 48 (.pointer (some ⟨W.heap.size + 3, 0, none⟩)), .iface 44 (.pointer (some ⟨W.heap.size + 2, 0, none⟩)), .bool false, .int .i64 0, .slice (some ⟨qg, 0, none⟩) n3 n3, .slice none 0 0, .slice (some ⟨R, 0, none⟩) n2 n2,
      .slice none 0 0, .int .u64 0, .int .u64 0, .int .i64 0, .int .i64 0, .pointer none, .int .i64 0]) rN).2).2).1
  · exact (range_app (range_app (range_app (range_app (xs := [.iface 48 (.pointer (some ⟨W.heap.size + 3, 0, none⟩)), .iface 44 (.pointer (some ⟨W.heap.size + 2, 0, none⟩)), .bool false, .int .i64 0, .slice (some ⟨qg, 0, none⟩) n3 n3, .slice none 0 0, .slice (some ⟨R, 0, none⟩) n2 n2,
      .slice none 0 0, .int .u64 0, .int .u64 0, .int .i64 0, .int .i64 0, .pointer none, .int .i64 0]) rN).2).2).2).1
  · exact range_cell rN (j := 78) rfl
  · exact range_cell rN (j := 80) rfl
  · simpa [nodec, prc_len] using tN
  · rw [← hn1]; exact range_cell rP (j := 0) rfl
  · exact range_cell rP (j := 1) rfl
  · exact range_cell rH (j := 1) rfl
  · exact range_cell rH (j := 127) rfl
  · exact tH
  · refine ⟨?_, ?_, ⟨rfl, .inr ⟨W.heap.size, 0, #[], rfl, by omega, ?_, Nat.le_refl _, Nat.zero_le _, rfl, rfl⟩⟩, ?_, ?_, by simp⟩
    · rw [b5.cell (p := ⟨W.heap.size + 1, 0, none⟩) (by dsimp only; omega)]; exact cL
    · rw [b5.frozen (p := ⟨W.heap.size + 1, 0, none⟩) (by dsimp only; omega)]; exact fL
    · rw [b5.block W.heap.size (by omega)]; exact hL
    · intro e
      have e' : W.heap.size = W.heap.size + 1 := Option.some.inj e
      omega
    · simp; omega
  · exact fun i p hp => ⟨G, rfl, s5.s4.s3.s2.pl i p hp⟩
  · simp; omega
  · simp; omega
  · omega
  · omega
  · simp only [List.nodup_cons, List.mem_cons, List.not_mem_nil, or_false, not_or, not_false_eq_true, List.nodup_nil, and_true, true_and]
    refine ⟨⟨?_, ?_, ?_, ?_, ?_, ?_⟩, ⟨?_, ?_, ?_, ?_, ?_⟩, ⟨?_, ?_, ?_, ?_⟩, ⟨?_, ?_, ?_⟩, ⟨?_, ?_⟩, ?_⟩ <;> omega
  · intro x hx e
    have e' : W.heap.size = x := Option.some.inj e
    simp only [List.mem_cons, List.not_mem_nil, or_false] at hx
    rcases hx with h | h | h | h | h | h | h <;> omega
  · intro hx
    simp only [List.mem_cons, List.not_mem_nil, or_false] at hx
    rcases hx with h | h | h | h | h | h | h <;> omega
  · intro e
    have e' : W.heap.size = T := Option.some.inj e
    omega
end Go.Proofs.Ybulkdsmy
