/-
  DERIVED: LAID BY THE SHELF's contract.sh OFF ITS TEMPLATE 'math/bits.LeadingZeros64' FOR THE PROGRAM 'Ybaz' (the function's number there: 84). THE LIBRARY's OWN TEXT IS WALKED: nothing is assumed of it. Behind the contract: ONE FALSE NEIGHBOUR, a contract that says a little too much, REFUTED.
-/
import Derived.Test.YbulkdsjeGreatDoorChecked
import Derived.Lib.Strings
import Derived.Lib.Slices
import Derived.Lib.Small
import Derived.Lib.Walk
import Derived.Lib.BitFns
import Derived.Test.YbulkdsjeGreatDoorLen64
namespace Go.Proofs

theorem Ybaz.bitLen_le64 (x : Int) (h0 : 0 ≤ x) (h1 : x ≤ 18446744073709551615) : Lib.bitLen x.toNat ≤ 64 := Lib.bitLen_le x.toNat 64 (by omega) (by omega)

/-- bits.LeadingZeros64: "LeadingZeros64 returns the number of leading zero bits in x; the result is 64 for x == 0.": IT RETURNS '64 - Lib.bitLen x'; the world is as it was. ITS CALLEE bits.Len64 IS MET BY ITS OWN CONTRACT OFF THE SHELF (lay that first): entered in place it sends the kernel out of memory. -/
theorem Ybaz.bits_LeadingZeros64 (x : Int) (w : World) (h0 : 0 ≤ x) (h1 : x ≤ 18446744073709551615) :
    Calls Ybaz.prog 84 #[.int .u64 x] w fun e w' => e = .returned (.int .i64 (64 - (Lib.bitLen x.toNat : Int))) ∧ w' = w := by
  have l := Ybaz.bitLen_le64 x h0 h1
  have e8 : (64 - (Lib.bitLen x.toNat : Int) + 9223372036854775808) % 18446744073709551616 - 9223372036854775808 = 64 - (Lib.bitLen x.toNat : Int) := by omega
  go_enter Ybaz.func84, Ybaz.ntmps84
  go_wp2_with (go_at_call 43; refine (Ybaz.bits_Len64 x _ h0 h1).mono ?_; rintro e w' ⟨rfl, rfl⟩)
  go_ret
  refine ⟨?_, rfl⟩
  rw [← e8]
  rfl

/-- A LITTLE TOO MUCH: '63 at most': falls at 0. -/
theorem Ybaz.bits_LeadingZeros64_not : ¬ ∀ (x : Int) (w : World), 0 ≤ x → x ≤ 18446744073709551615 →
    Calls Ybaz.prog 84 #[.int .u64 x] w fun e w' => e = .returned (.int .i64 (min 63 (64 - (Lib.bitLen x.toNat : Int)))) ∧ w' = w := by
  intro h
  have e := Lib.agree (by kernel_rfl) (Ybaz.bits_LeadingZeros64 0 default (by decide) (by decide)) (h 0 default (by decide) (by decide))
  injection e with _ e
  revert e
  decide

#print axioms Ybaz.bitLen_le64
#print axioms Ybaz.bits_LeadingZeros64
#print axioms Ybaz.bits_LeadingZeros64_not
end Go.Proofs
