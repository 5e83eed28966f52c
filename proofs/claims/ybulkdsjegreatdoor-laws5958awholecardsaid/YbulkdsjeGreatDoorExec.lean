import Derived.Test.YbulkdsjeGreatDoorAllocs
import Derived.Test.YbulkdsjeGreatDoorRoom
set_option linter.unusedVariables false
set_option linter.unusedSimpArgs false
/-! Operations, run by their operands' values. -/
namespace Go
open Go.RowKit
section
variable {P : Program} {ρ : Operand → Value} {d : Option Tmp} {ty : TypeId} {ps : String} {af : Array Edge} {g : Option (Nat × Bool)} {w : World}
theorem xmove {x : Operand} {v : Value} (h : ρ x = v) : (execOp ρ ⟨d, .move x, ty, ps, af, g⟩).run P w = .ok (.value v) w := by
  unfold execOp; simp only [h, Sem.run_pure]
theorem xmake {l c : Operand} {t : TypeId} (e : TypeId) (i : TypeInfo) (z : Value) (n k : Nat) (ht : P.underlying t = some (.slice e)) (hi : P.info? e = some i) (hz : i.zero = some z) (hl : ρ l = .int .i64 n) (hc : ρ c = .int .i64 k) (hnk : n ≤ k) (hb : i.bytes * k ≤ 281474976710656) (h63 : k ≤ 9223372036854775807) :
    (execOp ρ ⟨d, .makeSlice t l c, ty, ps, af, g⟩).run P w = .ok (.value (.slice (some ⟨w.heap.size, 0, none⟩) n k)) (w.alloc (.cells (madeCells z.cells (k * i.size)) e)) := by
  have hb' : (i.bytes : Int) * (k : Int) ≤ 281474976710656 := by
    have h : ((i.bytes * k : Nat) : Int) ≤ 281474976710656 := by omega
    rwa [Int.natCast_mul] at h
  have hr := run_make (P := P) w t e i z ht hi hz .i64 .i64 n k (by omega) (by omega) hb' (by omega)
  simp only [Int.toNat_natCast] at hr
  unfold execOp
  simp only [hl, hc, Sem.run_bind, hr, Result.andThen_ok, Sem.run_pure]
theorem xload_mid {t : TypeId} {x : Operand} (b o : Nat) (hx : ρ x = .pointer (some ⟨b, o, none⟩)) (cs : List Value) (dd : TypeDesc) (hc : w.rangeAt b o cs) (hu : P.underlying t = some dd) (hd : dd.isRow = true) (hi : (P.info? t).map (·.size) = some cs.length) :
    (execOp ρ ⟨d, .load t x, ty, ps, af, g⟩).run P w = .ok (.value (.agg cs.toArray)) w := by
  unfold execOp
  simp only [hx, Instr.loadAt, Instr.sureAddr, Sem.run_bind, Sem.run_pure, Result.andThen_ok, run_loadVar_mid w b o t cs dd hc hu hd hi]
theorem xalloc {t : TypeId} {Z : Array Value} (hz : ∀ w, Sem.run P (Instr.alloc t true (.tuple #[])) w = .ok (.pointer (some ⟨w.heap.size, 0, none⟩)) (w.alloc (.cells Z t))) :
    (execOp ρ ⟨d, .alloc t, ty, ps, af, g⟩).run P w = .ok (.value (.pointer (some ⟨w.heap.size, 0, none⟩))) (w.alloc (.cells Z t)) := by
  unfold execOp
  simp only [Sem.run_bind, hz, Result.andThen_ok, Sem.run_pure]
theorem xbox {t : TypeId} {x : Operand} {Z : Array Value} (hx : ρ x = .agg Z) (hz : ∀ w, Sem.run P (Instr.box t (.agg Z)) w = .ok (.pointer (some ⟨w.heap.size, 0, none⟩)) (w.alloc (.cells Z t))) :
    (execOp ρ ⟨d, .box t x, ty, ps, af, g⟩).run P w = .ok (.value (.pointer (some ⟨w.heap.size, 0, none⟩))) (w.alloc (.cells Z t)) := by
  unfold execOp
  simp only [hx, Sem.run_bind, hz, Result.andThen_ok, Sem.run_pure]
theorem xmap {t : TypeId} (hz : ∀ w, Sem.run P (Instr.makeMap t none) w = .ok (.map (some w.heap.size)) (w.alloc (.map #[] 0))) :
    (execOp ρ ⟨d, .makeMap t none, ty, ps, af, g⟩).run P w = .ok (.value (.map (some w.heap.size))) (w.alloc (.map #[] 0)) := by
  unfold execOp
  simp only [Option.map_none, Sem.run_bind, hz, Result.andThen_ok, Sem.run_pure]
theorem xbuild {t : TypeId} {fs : Array (Nat × Operand)} {v : Value} (hz : ∀ w, Sem.run P (Instr.build t (fs.map fun p => (p.1, ρ p.2))) w = .ok v w) :
    (execOp ρ ⟨d, .build t fs, ty, ps, af, g⟩).run P w = .ok (.value v) w := by
  unfold execOp
  simp only [Sem.run_bind, hz, Result.andThen_ok, Sem.run_pure]
end
end Go
