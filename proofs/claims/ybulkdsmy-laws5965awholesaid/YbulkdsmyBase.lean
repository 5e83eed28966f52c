import Derived.Test.YbulkdsmyRows
import Derived.WalkKit
import Derived.ProofKit
import Derived.Below
import Derived.WalkSpells
import Derived.WalkSmall
import Derived.DeepKeys
import Derived.Deep.QuietTactic
import Derived.BigQuiet
import Derived.Deep.RegionWith
import Derived.Deep.RegionHeld3
import Derived.Deep.MidRow
import Derived.Deep.AppendLies
import Derived.Deep.Upon
namespace Go.Proofs.Ybulkdsmy
open Go.RowKit

theorem hid {p : Prop} (h : p) : Hid p := h

/-- An identifier's cells: nineteen zero bytes and one. -/
def idc (b : Int) : List Value := List.replicate 19 (.int .u8 0) ++ [.int .u8 b]
/-- A peer, as the law makes it: its name, and the last byte of its identifier. -/
structure Pr where
  s : ByteArray
  b : Int
def Pr.ok (p : Pr) : Prop := 0 ≤ p.b ∧ p.b ≤ 255 ∧ p.s.size ≤ maxLen
/-- A peer's cells. -/
def prc (p : Pr) : List Value := .string p.s :: idc p.b

theorem idc_len (b : Int) : (idc b).length = 20 := by simp [idc]
theorem prc_len (p : Pr) : (prc p).length = 21 := by simp [prc, idc_len]
theorem idc_inj {a b : Int} (h : idc a = idc b) : a = b := by simpa [idc] using h
theorem prc_inj {p q : Pr} (h : prc p = prc q) : p.s = q.s ∧ p.b = q.b := by
  simp only [prc, List.cons.injEq, Value.string.injEq] at h
  exact ⟨h.1, idc_inj h.2⟩
theorem idc_one (b : Int) : ∀ v ∈ idc b, v.oneCell' = true := by
  intro v hv
  simp only [idc, List.mem_append, List.mem_replicate, List.mem_singleton] at hv
  rcases hv with ⟨_, rfl⟩ | rfl <;> rfl
theorem prc_one (p : Pr) : ∀ v ∈ prc p, v.oneCell' = true := by
  intro v hv
  simp only [prc, List.mem_cons] at hv
  rcases hv with rfl | hv
  · rfl
  · exact idc_one _ v hv

theorem kt29 : Yba.prog.keyTypeAt 2 29 = true := by kernel_rfl
theorem kt31 : Yba.prog.keyTypeAt 3 31 = true := by kernel_rfl
theorem cells5 : Yba.prog.cellsOf 5 = 1 := by kernel_rfl
theorem cells9 : Yba.prog.cellsOf 9 = 1 := by kernel_rfl
theorem cells29 : Yba.prog.cellsOf 29 = 20 := by kernel_rfl
theorem cells31 : Yba.prog.cellsOf 31 = 21 := by kernel_rfl

theorem wf_u8 {b : Int} (h0 : 0 ≤ b) (h1 : b ≤ 255) : (Lit.int .u8 b).wf = true := WalkArith.wf_u8 (by omega)

/-- The literals of an identifier. -/
def idl (b : Int) : List Lit := List.replicate 19 (.int .u8 0) ++ [.int .u8 b]
theorem idl_inj {a b : Int} (h : idl a = idl b) : a = b := by simpa [idl] using h

theorem lits29 (b : Int) (h0 : 0 ≤ b) (h1 : b ≤ 255) (d : Nat) : Yba.prog.keyLits (d + 2) 29 (idc b) = some (idl b) := by
  have wb := wf_u8 h0 h1
  have w0 : (Lit.int .u8 0).wf = true := by decide
  have hu := Yba.underlying29
  have hu5 := Yba.underlying5
  simp [Program.keyLits, hu, hu5, cells29, cells5, idc, idl, List.replicate, wb, w0, List.range, List.range.loop]

theorem keyLits_struct {P : Program} {t : TypeId} {fs : Array Field} {cs : List Value} (d : Nat) (hu : P.underlying t = some (.struct fs)) (hl : cs.length = P.cellsOf t) (hn : fs.all (·.name != "_") = true) :
    P.keyLits (d + 1) t cs = (fs.toList.mapM fun f => P.keyLits d f.type ((cs.drop f.offset).take (P.cellsOf f.type))).map List.flatten := by
  conv => lhs; unfold Program.keyLits
  simp only [hu]
  rw [if_pos ⟨hl, hn⟩]

theorem lits9 (s : ByteArray) (h : s.size ≤ maxLen) (d : Nat) : Yba.prog.keyLits (d + 1) 9 [.string s] = some [.string s.data.toList] := by
  have hu9 := Yba.underlying9
  simp [Program.keyLits, hu9, h]

theorem lits31 (p : Pr) (h : p.ok) (d : Nat) : Yba.prog.keyLits (d + 3) 31 (prc p) = some (.string p.s.data.toList :: idl p.b) := by
  have h29 := lits29 p.b h.1 h.2.1 d
  have h9 := lits9 p.s h.2.2 (d + 1)
  rw [keyLits_struct (d + 2) Yba.underlying31 (by rw [cells31, prc_len]) (by kernel_rfl)]
  have e1 : ((prc p).drop 1).take 20 = idc p.b := List.take_of_length_le (by rw [List.length_drop, prc_len]; omega)
  have e0 : ((prc p).drop 0).take 1 = [.string p.s] := rfl
  simp only [List.mapM_cons, List.mapM_nil, cells9, cells29, e1, e0, h29, h9]
  rfl

theorem formed29 (b : Int) : (Value.agg (idc b).toArray).formed Yba.prog 29 = true := by
  have hu := Yba.underlying29
  simp [Value.formed, hu, cells29, idc_len]
theorem formed31 (p : Pr) : (Value.agg (prc p).toArray).formed Yba.prog 31 = true := by
  have hu := Yba.underlying31
  simp [Value.formed, hu, cells31, prc_len]

/-- '==' on identifiers. -/
theorem eql29 (a b : Int) (ha : 0 ≤ a ∧ a ≤ 255) (hb : 0 ≤ b ∧ b ≤ 255) (w : World) :
    (binOp .eql 29 (.agg (idc a).toArray) (.agg (idc b).toArray)).run Yba.prog w = .ok (.bool (decide (a = b))) w := by
  obtain ⟨r, hr, hiff⟩ := run_equalIn_deep (P := Yba.prog) 9998 2 29 kt29 w 2 2 (.agg (idc a).toArray) (.agg (idc b).toArray) (idl a) (idl b) (formed29 a) (formed29 b) (by simpa [Value.cells] using lits29 a ha.1 ha.2 0) (by simpa [Value.cells] using lits29 b hb.1 hb.2 0)
  rw [run_eql_struct, hr]
  have : r = decide (a = b) := by
    rw [Bool.eq_iff_iff, hiff, decide_eq_true_iff]
    exact ⟨idl_inj, fun h => by rw [h]⟩
  rw [this]; rfl
theorem neq29 (a b : Int) (ha : 0 ≤ a ∧ a ≤ 255) (hb : 0 ≤ b ∧ b ≤ 255) (w : World) :
    (binOp .neq 29 (.agg (idc a).toArray) (.agg (idc b).toArray)).run Yba.prog w = .ok (.bool (!decide (a = b))) w := by
  obtain ⟨r, hr, hiff⟩ := run_equalIn_deep (P := Yba.prog) 9998 2 29 kt29 w 2 2 (.agg (idc a).toArray) (.agg (idc b).toArray) (idl a) (idl b) (formed29 a) (formed29 b) (by simpa [Value.cells] using lits29 a ha.1 ha.2 0) (by simpa [Value.cells] using lits29 b hb.1 hb.2 0)
  rw [run_neq_struct, hr]
  have : r = decide (a = b) := by
    rw [Bool.eq_iff_iff, hiff, decide_eq_true_iff]
    exact ⟨idl_inj, fun h => by rw [h]⟩
  rw [this]; rfl

/-- Are two peers one? -/
def Pr.same (p q : Pr) : Bool := decide (p.s = q.s ∧ p.b = q.b)
theorem same_iff (p q : Pr) : p.same q = true ↔ prc p = prc q := by
  unfold Pr.same
  rw [decide_eq_true_iff]
  exact ⟨fun h => by unfold prc; rw [h.1, h.2], prc_inj⟩
theorem eq_of_data {a b : ByteArray} (h : a.data.toList = b.data.toList) : a = b := by
  cases a; cases b
  simp at h
  rw [h]

theorem eqr31 (p q : Pr) (hp : p.ok) (hq : q.ok) (w : World) : (Op.equalIn 10000 31 (.agg (prc p).toArray) (.agg (prc q).toArray)).run Yba.prog w = .ok (p.same q) w := by
  obtain ⟨r, hr, hiff⟩ := run_equalIn_deep (P := Yba.prog) 9997 3 31 kt31 w 3 3 (.agg (prc p).toArray) (.agg (prc q).toArray) _ _ (formed31 p) (formed31 q) (by simpa [Value.cells] using lits31 p hp 0) (by simpa [Value.cells] using lits31 q hq 0)
  rw [hr]
  have : r = p.same q := by
    rw [Bool.eq_iff_iff, hiff]
    unfold Pr.same
    rw [decide_eq_true_iff]
    constructor
    · intro h
      simp only [List.cons.injEq, Lit.string.injEq] at h
      exact ⟨eq_of_data h.1, idl_inj h.2⟩
    · rintro ⟨h1, h2⟩
      rw [h1, h2]
  rw [this]
theorem eql31 (p q : Pr) (hp : p.ok) (hq : q.ok) (w : World) : (binOp .eql 31 (.agg (prc p).toArray) (.agg (prc q).toArray)).run Yba.prog w = .ok (.bool (p.same q)) w := by
  rw [run_eql_struct, eqr31 p q hp hq]; rfl
theorem neq31 (p q : Pr) (hp : p.ok) (hq : q.ok) (w : World) : (binOp .neq 31 (.agg (prc p).toArray) (.agg (prc q).toArray)).run Yba.prog w = .ok (.bool (!p.same q)) w := by
  rw [run_neq_struct, eqr31 p q hp hq]; rfl

end Go.Proofs.Ybulkdsmy
