import Derived.Test.YbulkdsmyLawS
set_option linter.unusedSimpArgs false
namespace Go.Proofs.Ybulkdsmy
open Go.RowKit

theorem Yba.info38 : (Yba.prog.info? 38).map (fun i => (i.zero, i.size, i.bytes)) = some (some (.agg (slc ⟨0, 0⟩).toArray), 21, 32) := by kernel_rfl
theorem Yba.info23 : (Yba.prog.info? 23).map (fun i => (i.zero, i.size, i.bytes)) = some (some (.agg (rwc ⟨ByteArray.empty, 0⟩).toArray), 2, 24) := by kernel_rfl
/-- The node's cells, as the law makes it. -/
def nodec (HB PB qg n3 R n2 : Nat) (ta : Option Addr) (se pr su : Pr) (pg : Bool) : List Value :=
  [.iface 48 (.pointer (some ⟨HB, 0, none⟩)), .iface 44 (.pointer (some ⟨PB, 0, none⟩)), .bool false, .int .i64 0, .slice (some ⟨qg, 0, none⟩) n3 n3, .slice none 0 0, .slice (some ⟨R, 0, none⟩) n2 n2,
    .slice none 0 0, .int .u64 0, .int .u64 0, .int .i64 0, .int .i64 0, .pointer none, .int .i64 0] ++ (prc se ++ (prc pr ++ (prc su ++ [.int .i64 0, .pointer ta, .slice none 0 0, .bool pg, .bool false, .slice none 0 0])))
/-- The host's cells. -/
def hostc (lb : Nat) : List Value := [.nilIface, .pointer (some ⟨lb, 0, none⟩), .nilIface] ++ (chc zp zp 0 0 ++ [.int .i64 0])
def proc' (G n1 lb : Nat) : List Value := [.slice (some ⟨G, 0, none⟩) n1 n1, .pointer (some ⟨lb, 0, none⟩)]
theorem bld73 (HB PB qg n3 R n2 : Nat) (ta : Option Addr) (se pr su : Pr) (pg : Bool) (w : World) :
    Sem.run Yba.prog (Instr.build 73 #[(0, .iface 48 (.pointer (some ⟨HB, 0, none⟩))), (1, .iface 44 (.pointer (some ⟨PB, 0, none⟩))), (8, .agg (prc se).toArray), (9, .agg (prc pr).toArray), (10, .agg (prc su).toArray), (14, .bool pg), (6, .slice (some ⟨R, 0, none⟩) n2 n2), (4, .slice (some ⟨qg, 0, none⟩) n3 n3), (12, .pointer ta)]) w = .ok (.agg (nodec HB PB qg n3 R n2 ta se pr su pg).toArray) w := by kernel_rfl
theorem bld58 (lb : Nat) (w : World) : Sem.run Yba.prog (Instr.build 58 #[(1, .pointer (some ⟨lb, 0, none⟩))]) w = .ok (.agg (hostc lb).toArray) w := by kernel_rfl
theorem bld47 (G n1 lb : Nat) (w : World) : Sem.run Yba.prog (Instr.build 47 #[(0, .slice (some ⟨G, 0, none⟩) n1 n1), (1, .pointer (some ⟨lb, 0, none⟩))]) w = .ok (.agg (proc' G n1 lb).toArray) w := by kernel_rfl
theorem bld38 (s : Sl) (w : World) : Sem.run Yba.prog (Instr.build 38 #[(0, .agg (idc s.b).toArray), (1, .int .i64 s.n)]) w = .ok (.agg (slc s).toArray) w := by kernel_rfl
theorem bx73 (cs : List Value) (w : World) : Sem.run Yba.prog (Instr.box 73 (.agg cs.toArray)) w = .ok (.pointer (some ⟨w.heap.size, 0, none⟩)) (w.alloc (.cells cs.toArray 73)) := by rfl
theorem bx58 (cs : List Value) (w : World) : Sem.run Yba.prog (Instr.box 58 (.agg cs.toArray)) w = .ok (.pointer (some ⟨w.heap.size, 0, none⟩)) (w.alloc (.cells cs.toArray 58)) := by rfl
theorem bx47 (cs : List Value) (w : World) : Sem.run Yba.prog (Instr.box 47 (.agg cs.toArray)) w = .ok (.pointer (some ⟨w.heap.size, 0, none⟩)) (w.alloc (.cells cs.toArray 47)) := by rfl
theorem al42 (w : World) : Sem.run Yba.prog (Instr.alloc 42 true (.tuple #[])) w = .ok (.pointer (some ⟨w.heap.size, 0, none⟩)) (w.alloc (.cells (plc zp zp zp).toArray 42)) := by kernel_rfl
theorem peer_raw (p : Pr) (w : World) : Calls Yba.prog 4 #[.agg (rwc p).toArray] w fun e w' => e = .returned (.agg (prc p).toArray) ∧ Below w.heap.size w w' := peer_any p w

/-- What lies in memory ahead of Relink, stage by stage; 'top': above all these blocks. -/
structure S2 (w W : World) (PL : List Pr) (se pr su tp ts : Pr) (n1 G : Nat) (cv : Value) (top : Nat) : Prop where
  bx : Bx w W se pr su tp ts
  pl : ∀ i p, PL[i]? = some p → W.rangeAt G (i * 21) (prc p)
  cl : W.ownsRow (G + 1) 31 21 cv n1 (rowc PL)
  g5 : w.heap.size + 5 ≤ G
  gt : G < top
  ct : ∀ g, cv.ownBlock = some g → g < top
  sz : top ≤ W.heap.size
structure S3 (w W : World) (PL : List Pr) (se pr su tp ts : Pr) (n1 G : Nat) (cv : Value) (n2 R top : Nat) : Prop where
  s2 : S2 w W PL se pr su tp ts n1 G cv R
  rb : ∃ cur, W.heap[R]? = some (.cells cur 31) ∧ cur.size = n2 * 21
  rt : R < top
  sz : top ≤ W.heap.size
structure S4 (w W : World) (PL : List Pr) (Q : List Sl) (se pr su tp ts : Pr) (n1 G : Nat) (cv : Value) (n2 R n3 qg top : Nat) : Prop where
  s3 : S3 w W PL se pr su tp ts n1 G cv n2 R qg
  q : ∀ i s, Q[i]? = some s → W.rangeAt qg (i * 21) (slc s)
  qr : W.there qg 0 (n3 * 21)
  qt : qg < top
  sz : top ≤ W.heap.size

section
variable {w W W' : World} {PL : List Pr} {Q : List Sl} {se pr su tp ts : Pr} {n1 n2 n3 G R qg top : Nat} {cv : Value}
theorem S2.on (h : S2 w W PL se pr su tp ts n1 G cv top) {k : Nat} (b : Below k W W') (hk : top ≤ k) : S2 w W' PL se pr su tp ts n1 G cv top :=
  ⟨h.bx.on b (by have := h.g5; have := h.gt; omega), fun i p hp => range_low b (by have := h.gt; omega) (h.pl i p hp), own_low h.cl b (fun g hg => Nat.lt_of_lt_of_le (h.ct g hg) hk), h.g5, h.gt, h.ct, Nat.le_trans h.sz b.size⟩
theorem S2.up (h : S2 w W PL se pr su tp ts n1 G cv top) {top' : Nat} (h1 : top ≤ top') (h2 : top' ≤ W.heap.size) : S2 w W PL se pr su tp ts n1 G cv top' :=
  ⟨h.bx, h.pl, h.cl, h.g5, Nat.lt_of_lt_of_le h.gt h1, fun g hg => Nat.lt_of_lt_of_le (h.ct g hg) h1, h2⟩
theorem S3.on (h : S3 w W PL se pr su tp ts n1 G cv n2 R top) {k : Nat} (b : Below k W W') (hk : top ≤ k) : S3 w W' PL se pr su tp ts n1 G cv n2 R top :=
  ⟨h.s2.on b (by have := h.rt; omega), by rw [b.block R (by have := h.rt; omega)]; exact h.rb, h.rt, Nat.le_trans h.sz b.size⟩
theorem S3.up (h : S3 w W PL se pr su tp ts n1 G cv n2 R top) {top' : Nat} (h1 : top ≤ top') (h2 : top' ≤ W.heap.size) : S3 w W PL se pr su tp ts n1 G cv n2 R top' :=
  ⟨h.s2, h.rb, Nat.lt_of_lt_of_le h.rt h1, h2⟩
theorem S4.on (h : S4 w W PL Q se pr su tp ts n1 G cv n2 R n3 qg top) {k : Nat} (b : Below k W W') (hk : top ≤ k) : S4 w W' PL Q se pr su tp ts n1 G cv n2 R n3 qg top :=
  ⟨h.s3.on b (by have := h.qt; omega), fun i s hs => range_low b (by have := h.qt; omega) (h.q i s hs), there_low b (by have := h.qt; omega) h.qr, h.qt, Nat.le_trans h.sz b.size⟩
theorem S4.up (h : S4 w W PL Q se pr su tp ts n1 G cv n2 R n3 qg top) {top' : Nat} (h1 : top ≤ top') (h2 : top' ≤ W.heap.size) : S4 w W PL Q se pr su tp ts n1 G cv n2 R n3 qg top' :=
  ⟨h.s3, h.q, h.qr, Nat.lt_of_lt_of_le h.qt h1, h2⟩
end
end Go.Proofs.Ybulkdsmy
