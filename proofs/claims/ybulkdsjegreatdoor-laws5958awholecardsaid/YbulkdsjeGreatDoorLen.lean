/-
  DERIVED: LAID BY THE SHELF's contract.sh OFF ITS TEMPLATE 'math/bits.Len' FOR THE PROGRAM 'Ybaz' (the function's number there: 77). THE LIBRARY's OWN TEXT IS WALKED: nothing is assumed of it. Behind the contract: ONE FALSE NEIGHBOUR, a contract that says a little too much, REFUTED.
-/
import Derived.Test.YbulkdsjeGreatDoorChecked
import Derived.Lib.Strings
import Derived.Lib.Slices
import Derived.Lib.Small
import Derived.Lib.Walk
import Derived.Lib.BitFns
import Derived.Test.YbulkdsjeGreatDoorLen64
namespace Go.Proofs

/-- bits.Len: "Len returns the minimum number of bits required to represent x; the result is 0 for x == 0.": IT RETURNS 'Lib.bitLen x'; the world is as it was. (A uint has 64 bits in the model.) ITS CALLEE bits.Len64 IS MET BY ITS OWN CONTRACT OFF THE SHELF (lay that first). -/
theorem Ybaz.bits_Len (x : Int) (w : World) (h0 : 0 ≤ x) (h1 : x ≤ 18446744073709551615) :
    Calls Ybaz.prog 77 #[.int .u64 x] w fun e w' => e = .returned (.int .i64 (Lib.bitLen x.toNat)) ∧ w' = w := by
  go_enter Ybaz.func77, Ybaz.ntmps77
  go_wp2_with (go_at_call 43; refine (Ybaz.bits_Len64 x _ h0 h1).mono ?_; rintro e w' ⟨rfl, rfl⟩)
  go_ret
  exact ⟨rfl, rfl⟩

/-- A LITTLE TOO MUCH: 'one bit is wanted for 0 too': falls at 0. -/
theorem Ybaz.bits_Len_not : ¬ ∀ (x : Int) (w : World), 0 ≤ x → x ≤ 18446744073709551615 →
    Calls Ybaz.prog 77 #[.int .u64 x] w fun e w' => e = .returned (.int .i64 (Lib.bitLen x.toNat + (if x = 0 then 1 else 0))) ∧ w' = w := by
  intro h
  have e := Lib.agree (by kernel_rfl) (Ybaz.bits_Len 0 default (by decide) (by decide)) (h 0 default (by decide) (by decide))
  injection e with _ e
  revert e
  decide

#print axioms Ybaz.bits_Len
#print axioms Ybaz.bits_Len_not
end Go.Proofs
