import Derived.Test.YbulkdsjeGreatDoorSe8
set_option linter.unusedVariables false
set_option linter.unusedSimpArgs false
namespace Go.Proofs.YbulkdsjeGreatDoor
open Go.RowKit

theorem bld42 (rs : Value) (hb rw xff ab na : Nat) (s1 n1 c1 : Nat) (w : World) : Sem.run Ybaz.prog (Instr.build 42 #[(0, .agg #[.slice (some ⟨s1, 0, none⟩) n1 c1, vi hb, .float .f64 xff, vi rw]), (1, sl ab 0 na na)]) w = .ok (.agg #[.slice (some ⟨s1, 0, none⟩) n1 c1, vi hb, .float .f64 xff, vi rw, sl ab 0 na na, .slice none 0 0, vi 0, vi 0, vi 0, vi 0, .float .f64 0, .bool false]) w := by kernel_rfl
theorem info106 : (Ybaz.prog.info? 106).map (fun i => (i.zero, i.size, i.bytes)) = some (some (.agg #[vi 0, vi 0, vi 0, .float .f64 0, vi 0, .slice none 0 0, vi 0, vi 0]), 8, 80) := by kernel_rfl
theorem bld106 (a b c : Int) (x : Nat) (w : World) : Sem.run Ybaz.prog (Instr.build 106 #[(0, ii a), (1, ii b), (2, ii c), (3, .float .f64 x)]) w = .ok (.agg #[ii a, ii b, ii c, .float .f64 x, vi 0, .slice none 0 0, vi 0, vi 0]) w := by kernel_rfl
theorem box42 (Z : Array Value) (w : World) (h : Z.size = 12) : Sem.run Ybaz.prog (Instr.box 42 (.agg Z)) w = .ok (.pointer (some ⟨w.heap.size, 0, none⟩)) (w.alloc (.cells Z 42)) := by kernel_rfl
end Go.Proofs.YbulkdsjeGreatDoor
