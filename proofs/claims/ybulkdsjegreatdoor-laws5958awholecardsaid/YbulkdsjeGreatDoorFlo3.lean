import Derived.Test.YbulkdsjeGreatDoorFlo2
import Derived.Test.YbulkdsjeGreatDoorFin
set_option linter.unusedVariables false
set_option linter.unusedSimpArgs false
namespace Go.Proofs.YbulkdsjeGreatDoor
open Go.RowKit

set_option maxRecDepth 100000 in
set_option maxHeartbeats 4000000 in
theorem Ldexp1 (k : Nat) (hk : k ≤ 100) (w : World) : Calls Ybaz.prog 64 #[.float .f64 4607182418800017408, .int .i64 (-1 - (k : Int))] w fun e w' => RF e ∧ Dr w w' := by
  go_enter Ybaz.func64, Ybaz.ntmps64
  go_wp2_with (first | (go_at_call 88; refine (ldexp1 k hk _).mono ?_; rintro e W1 ⟨⟨fr, rfl⟩, hd⟩))
  go_ret
  exact ⟨⟨_, rfl⟩, hd⟩

set_option maxRecDepth 100000 in
set_option maxHeartbeats 4000000 in
theorem scale_any (n : Nat) (hn : n < 18446744073709551616) (w : World) : Calls Ybaz.prog 37 #[vi n] w fun e w' => RF e ∧ Dr w w' := by
  have eN : IntKind.u64.wrap (n : Int) = (n : Int) := by simp [IntKind.wrap, IntKind.bits, IntKind.signed]; omega
  have hl : Lib.bitLen n ≤ 100 := Nat.le_trans (Lib.bitLen_le n 64 (by omega) (by omega)) (by omega)
  go_enter Ybaz.func37, Ybaz.ntmps37
  go_wp2_with (first | (go_at_call 43; refine (Ybaz.bits_Len64 (n : Int) _ (by omega) (by omega)).mono ?_; rintro e W1 ⟨rfl, rfl⟩) | (go_at_call 64; refine (Ldexp1 (Lib.bitLen n) hl _).mono ?_; rintro e W1 ⟨⟨fr, rfl⟩, hd⟩))
  go_ret
  exact ⟨⟨_, rfl⟩, hd⟩

set_option maxRecDepth 100000 in
set_option maxHeartbeats 4000000 in
theorem round_any (x : Nat) (w : World) : Calls Ybaz.prog 83 #[.float .f64 x] w fun e w' => RF e ∧ w' = w := by
  have b7 := f64bits
  have b65 := f64from
  obtain ⟨m, hm, em⟩ := bits_u64 .and ((x : Int) / 4503599627370496) 2047
  by_cases h1 : (m : Int) < 1023
  · by_cases h2 : (m : Int) = 1022
    · go_enter Ybaz.func83, Ybaz.ntmps83
      go_wp2
      go_ret
      exact ⟨⟨_, rfl⟩, rfl⟩
    · go_enter Ybaz.func83, Ybaz.ntmps83
      go_wp2
      go_ret
      exact ⟨⟨_, rfl⟩, rfl⟩
  · by_cases h2 : (m : Int) < 1075
    · go_enter Ybaz.func83, Ybaz.ntmps83
      go_wp2
      go_ret
      exact ⟨⟨_, rfl⟩, rfl⟩
    · go_enter Ybaz.func83, Ybaz.ntmps83
      go_wp2
      go_ret
      exact ⟨⟨_, rfl⟩, rfl⟩
end Go.Proofs.YbulkdsjeGreatDoor
