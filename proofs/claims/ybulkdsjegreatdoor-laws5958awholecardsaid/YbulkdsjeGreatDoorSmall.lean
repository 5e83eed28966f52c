import Derived.Test.YbulkdsjeGreatDoorFin
set_option linter.unusedVariables false
set_option linter.unusedSimpArgs false
namespace Go.Proofs.YbulkdsjeGreatDoor
open Go.RowKit

set_option maxRecDepth 100000 in
set_option maxHeartbeats 4000000 in
theorem isNaNi_any (x : Int) (w : World) : Calls Ybaz.prog 109 #[.int .i64 x] w fun e w' => e = .returned (.bool false) ∧ w' = w := by
  go_enter Ybaz.func109, Ybaz.ntmps109
  go_wp2
  go_ret
  exact ⟨by simp, rfl⟩
/-- The order of two numbers. -/
def cmpI (x y : Int) : Int := if x < y then -1 else if y < x then 1 else 0

set_option maxRecDepth 100000 in
set_option maxHeartbeats 4000000 in
theorem compare_any (x y : Int) (w : World) : Calls Ybaz.prog 92 #[.int .i64 x, .int .i64 y] w fun e w' => e = .returned (.int .i64 (cmpI x y)) ∧ w' = w := by
  unfold cmpI
  by_cases h1 : x < y
  · rw [if_pos h1]
    go_enter Ybaz.func92, Ybaz.ntmps92
    go_wp2_with (go_at_call 109; refine (isNaNi_any _ _).mono ?_; rintro e W1 ⟨rfl, rfl⟩)
    go_ret
    exact ⟨rfl, rfl⟩
  · rw [if_neg h1]
    by_cases h2 : y < x
    · rw [if_pos h2]
      go_enter Ybaz.func92, Ybaz.ntmps92
      go_wp2_with (go_at_call 109; refine (isNaNi_any _ _).mono ?_; rintro e W1 ⟨rfl, rfl⟩)
      go_ret
      exact ⟨rfl, rfl⟩
    · rw [if_neg h2]
      go_enter Ybaz.func92, Ybaz.ntmps92
      go_wp2_with (go_at_call 109; refine (isNaNi_any _ _).mono ?_; rintro e W1 ⟨rfl, rfl⟩)
      go_ret
      exact ⟨rfl, rfl⟩

set_option maxRecDepth 100000 in
set_option maxHeartbeats 4000000 in
theorem millis_any (d : Nat) (w : World) (hd : d < 4611686018427387904) : Calls Ybaz.prog 35 #[vi d] w fun e w' => e = .returned (vi (d / 1000000)) ∧ w' = w := by
  go_enter Ybaz.func35, Ybaz.ntmps35
  go_wp2
  go_ret
  exact ⟨by simp, rfl⟩

set_option maxRecDepth 100000 in
set_option maxHeartbeats 4000000 in
theorem ams_any (d : Nat) (w : World) (hd : d < 4611686018427387904) : Calls Ybaz.prog 22 #[vi d] w fun e w' => e = .returned (.int .u64 ((d / 1000000 : Nat) : Int)) ∧ w' = w := by
  go_enter Ybaz.func22, Ybaz.ntmps22
  go_wp2
  go_ret
  exact ⟨by simp, rfl⟩
/-- The listed variables. -/
structure GL (U : World) : Prop where
  pow : ∀ j, j < 23 → ∃ x, U.cell? ⟨2, j, none⟩ = some (.float .f64 x)
  tab : ∀ j, j < 64 → ∃ k : Nat, k < 64 ∧ U.cell? ⟨3, j, none⟩ = some (.int .u8 (k : Int))
theorem GL.kept {U U' : World} {E : Nat → Prop} (h : GL U) (k : Kept E U U') (h2 : ¬ E 2) (h3 : ¬ E 3) : GL U' :=
  ⟨fun j hj => by obtain ⟨x, hx⟩ := h.pow j hj; exact ⟨x, k.cell (p := ⟨2, j, none⟩) h2 hx⟩, fun j hj => by obtain ⟨x, hx, hc⟩ := h.tab j hj; exact ⟨x, hx, k.cell (p := ⟨3, j, none⟩) h3 hc⟩⟩
def RN (m : Nat) (e : Ending) : Prop := ∃ k : Nat, k ≤ m ∧ e = .returned (vi k)

set_option maxRecDepth 100000 in
set_option maxHeartbeats 4000000 in
theorem trailing_any (x : Nat) (w : World) (hx : x < 18446744073709551616) (g : GL w) : Calls Ybaz.prog 85 #[.int .u64 (x : Int)] w fun e w' => RN 64 e ∧ w' = w := by
  by_cases h0 : x = 0
  · subst h0
    go_enter Ybaz.func85, Ybaz.ntmps85
    go_wp2
    go_ret
    exact ⟨⟨64, by omega, rfl⟩, rfl⟩
  · have G := hid g
    clear g
    have h00 : ¬ (x : Int) = 0 := by omega
    go_enter Ybaz.func85, Ybaz.ntmps85
    go_upto_region 3 with fail
    obtain ⟨j, hj, ej⟩ : ∃ j : Nat, j < 64 ∧ IntKind.u64.wrap (bits BinOp.and IntKind.u64 (x : Int) (IntKind.u64.wrap (-(x : Int))) * 285870213051353865) / 288230376151711744 = (j : Int) := by
      obtain ⟨m, hm, e⟩ := u64_nat (bits BinOp.and IntKind.u64 (x : Int) (IntKind.u64.wrap (-(x : Int))) * 285870213051353865)
      rw [e]
      exact ⟨m / 288230376151711744, by omega, by omega⟩
    obtain ⟨k, hk, ck⟩ := G.out.tab j hj
    go_wp2
    go_ret
    exact ⟨⟨k, by omega, rfl⟩, rfl⟩
end Go.Proofs.YbulkdsjeGreatDoor
