import Derived.Test.YbulkdsjeGreatDoorFin
set_option linter.unusedVariables false
set_option linter.unusedSimpArgs false
namespace Go.Proofs.YbulkdsjeGreatDoor
open Go.RowKit

set_option maxRecDepth 100000 in
set_option maxHeartbeats 4000000 in
theorem bit_of (b : Bool) (w : World) : Calls Ybaz.prog 52 #[.bool b] w fun e w' => e = .returned (.int .u64 (if b then 1 else 0)) ∧ w' = w := by
  cases b
  · go_enter Ybaz.func52, Ybaz.ntmps52
    go_wp2
    go_ret
    exact ⟨rfl, rfl⟩
  · go_enter Ybaz.func52, Ybaz.ntmps52
    go_wp2
    go_ret
    exact ⟨rfl, rfl⟩
/-- Some number of 64 bits. -/
def RU (e : Ending) : Prop := ∃ m : Nat, m < 18446744073709551616 ∧ e = .returned (.int .u64 (m : Int))

set_option maxRecDepth 100000 in
set_option maxHeartbeats 4000000 in
theorem zigzag_any (v : Int) (w : World) : Calls Ybaz.prog 32 #[.int .i64 v] w fun e w' => RU e ∧ w' = w := by
  go_enter Ybaz.func32, Ybaz.ntmps32
  go_wp2
  go_ret
  obtain ⟨m, hm, e⟩ := bits_u64 .xor (IntKind.u64.wrap (wrap64 (v * 2))) (IntKind.u64.wrap (v / 9223372036854775808))
  refine ⟨⟨m, hm, ?_⟩, rfl⟩
  rw [← e]
  rfl

set_option maxRecDepth 100000 in
set_option maxHeartbeats 4000000 in
theorem overlap_any (a b c d : Int) (w : World) (ha : -4611686018427387904 < a ∧ a < 4611686018427387904) (hb : -4611686018427387904 < b ∧ b < 4611686018427387904) (hc : -4611686018427387904 < c ∧ c < 4611686018427387904) (hd : -4611686018427387904 < d ∧ d < 4611686018427387904) : Calls Ybaz.prog 97 #[.int .i64 a, .int .i64 b, .int .i64 c, .int .i64 d] w fun e w' => e = .returned (.int .i64 (max 0 (min b d - max a c))) ∧ w' = w := by
  go_enter Ybaz.func97, Ybaz.ntmps97
  go_wp2
  go_ret
  exact ⟨rfl, rfl⟩
end Go.Proofs.YbulkdsjeGreatDoor
