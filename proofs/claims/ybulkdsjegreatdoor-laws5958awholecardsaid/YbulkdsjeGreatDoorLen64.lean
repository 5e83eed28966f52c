/-
  DERIVED: LAID BY THE SHELF's contract.sh OFF ITS TEMPLATE 'math/bits.Len64' FOR THE PROGRAM 'Ybaz' (the function's number there: 43). THE LIBRARY's OWN TEXT IS WALKED: nothing is assumed of it. Behind the contract: ONE FALSE NEIGHBOUR, a contract that says a little too much, REFUTED.
-/
import Derived.Test.YbulkdsjeGreatDoorChecked
import Derived.Lib.Strings
import Derived.Lib.Slices
import Derived.Lib.Small
import Derived.Lib.Walk
import Derived.Lib.BitFns
namespace Go.Proofs

set_option maxHeartbeats 4000000 in
set_option maxRecDepth 100000 in
/-- bits.Len64: "Len64 returns the minimum number of bits required to represent x; the result is 0 for x == 0.": IT RETURNS 'Lib.bitLen x'; the world is as it was. ('h0', 'h1': x is a uint64.) -/
theorem Ybaz.bits_Len64 (x : Int) (w : World) (h0 : 0 ≤ x) (h1 : x ≤ 18446744073709551615) :
    Calls Ybaz.prog 43 #[.int .u64 x] w fun e w' => e = .returned (.int .i64 (Lib.bitLen x.toNat)) ∧ w' = w := by
  go_enter Ybaz.func43, Ybaz.ntmps43
  go_wp2
  all_goals (go_ret; refine ⟨congrArg Ending.returned (congrArg (Value.int IntKind.i64) ?_), rfl⟩)
  all_goals first
    | (rw [Lib.len8_of (x / 4294967296 / 65536 / 256 % 256) (by omega) (by omega)]
       have e : (x / 4294967296 / 65536 / 256 % 256).toNat = x.toNat / 72057594037927936 := by omega
       have l := Lib.bitLen_le8' (x / 4294967296 / 65536 / 256 % 256) (by omega) (by omega)
       have s := Lib.bitLen_shift56 x.toNat (by omega) (by omega)
       rw [e] at l ⊢
       omega)
    | (rw [Lib.len8_of (x / 4294967296 / 65536 % 256) (by omega) (by omega)]
       have e : (x / 4294967296 / 65536 % 256).toNat = x.toNat / 281474976710656 := by omega
       have l := Lib.bitLen_le8' (x / 4294967296 / 65536 % 256) (by omega) (by omega)
       have s := Lib.bitLen_shift48 x.toNat (by omega) (by omega)
       rw [e] at l ⊢
       omega)
    | (rw [Lib.len8_of (x / 4294967296 / 256 % 256) (by omega) (by omega)]
       have e : (x / 4294967296 / 256 % 256).toNat = x.toNat / 1099511627776 := by omega
       have l := Lib.bitLen_le8' (x / 4294967296 / 256 % 256) (by omega) (by omega)
       have s := Lib.bitLen_shift40 x.toNat (by omega) (by omega)
       rw [e] at l ⊢
       omega)
    | (rw [Lib.len8_of (x / 4294967296 % 256) (by omega) (by omega)]
       have e : (x / 4294967296 % 256).toNat = x.toNat / 4294967296 := by omega
       have l := Lib.bitLen_le8' (x / 4294967296 % 256) (by omega) (by omega)
       have s := Lib.bitLen_shift32 x.toNat (by omega) (by omega)
       rw [e] at l ⊢
       omega)
    | (rw [Lib.len8_of (x / 65536 / 256 % 256) (by omega) (by omega)]
       have e : (x / 65536 / 256 % 256).toNat = x.toNat / 16777216 := by omega
       have l := Lib.bitLen_le8' (x / 65536 / 256 % 256) (by omega) (by omega)
       have s := Lib.bitLen_shift24 x.toNat (by omega) (by omega)
       rw [e] at l ⊢
       omega)
    | (rw [Lib.len8_of (x / 65536 % 256) (by omega) (by omega)]
       have e : (x / 65536 % 256).toNat = x.toNat / 65536 := by omega
       have l := Lib.bitLen_le8' (x / 65536 % 256) (by omega) (by omega)
       have s := Lib.bitLen_shift16 x.toNat (by omega) (by omega)
       rw [e] at l ⊢
       omega)
    | (rw [Lib.len8_of (x / 256 % 256) (by omega) (by omega)]
       have e : (x / 256 % 256).toNat = x.toNat / 256 := by omega
       have l := Lib.bitLen_le8' (x / 256 % 256) (by omega) (by omega)
       have s := Lib.bitLen_shift8 x.toNat (by omega) (by omega)
       rw [e] at l ⊢
       omega)
    | (rw [Lib.len8_of (x % 256) (by omega) (by omega)]
       have e : (x % 256).toNat = x.toNat := by omega
       have l := Lib.bitLen_le8' (x % 256) (by omega) (by omega)
       rw [e] at l ⊢
       omega)

/-- A LITTLE TOO MUCH: 'one bit is wanted for 0 too': falls at 0. -/
theorem Ybaz.bits_Len64_not : ¬ ∀ (x : Int) (w : World), 0 ≤ x → x ≤ 18446744073709551615 →
    Calls Ybaz.prog 43 #[.int .u64 x] w fun e w' => e = .returned (.int .i64 (Lib.bitLen x.toNat + (if x = 0 then 1 else 0))) ∧ w' = w := by
  intro h
  have e := Lib.agree (by kernel_rfl) (Ybaz.bits_Len64 0 default (by decide) (by decide)) (h 0 default (by decide) (by decide))
  injection e with _ e
  revert e
  decide

#print axioms Ybaz.bits_Len64
#print axioms Ybaz.bits_Len64_not
end Go.Proofs
