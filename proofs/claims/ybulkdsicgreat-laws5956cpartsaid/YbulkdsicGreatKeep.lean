import Derived.Test.YbulkdsicGreatSmall
set_option linter.unusedVariables false
set_option linter.unusedSimpArgs false
namespace Go.Proofs.YbulkdsicGreat
open Go.RowKit Go.Shelf

set_option maxRecDepth 100000 in
set_option maxHeartbeats 1000000 in
/-- appendKept, of no need. -/
theorem keep_none (T : Nat) (nv : Value) (w : World) : Calls Ybaz.prog 8 #[.pointer (some ⟨T, 0, none⟩), nv, .slice none 0 0] w fun e w' => e = .returned nv ∧ w' = w := by
  go_enter Ybaz.func8, Ybaz.ntmps8
  go_wp2
  refine wp_loop_rounds 1 ?_
  rw [rounds_succ]
  go_wp2
  refine wp_loop_rounds 1 ?_
  rw [rounds_succ]
  go_wp2
  refine wp_loop_rounds 1 ?_
  rw [rounds_succ]
  go_wp2
  go_ret
  exact ⟨rfl, rfl⟩
end Go.Proofs.YbulkdsicGreat
