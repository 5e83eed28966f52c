/-
  DERIVED: LAID BY THE SHELF's contract.sh OFF ITS TEMPLATE 'bytes.Equal' FOR THE PROGRAM 'Ybaz' (the function's number there: 11). THE LIBRARY's OWN TEXT IS WALKED: nothing is assumed of it. Behind the contract: ONE FALSE NEIGHBOUR, a contract that says a little too much, REFUTED.
-/
import Derived.Test.YbulkdsjeGreatDoorChecked
import Derived.Lib.Strings
import Derived.Lib.Slices
import Derived.Lib.Walk
import Derived.Lib.Bytes
namespace Go.Proofs

set_option maxHeartbeats 1000000 in
/-- bytes.Equal: "Equal reports whether a and b are the same length and contain the same bytes. A nil argument is equivalent to an empty slice.": IT RETURNS 'the bytes of the one == the bytes of the other'; the world is as it was. THE TWO ARGUMENTS COME AS WHATEVER VALUES, each with the one fact that the walk wants of it: what 'string(..)' of it gives: for a slice whose cells you know: 'run_convert_bytes_arg' (Derived/Laws/BytesArg.lean) hands that fact; for a nil one: 'run_convert_bytes_nil' (with xs := []). -/
theorem Ybaz.bytes_Equal (v1 v2 : Value) (xs ys : List Int) (w : World)
    (h1 : (convert 22 9 v1).run Ybaz.prog w = .ok (.string (strOfNums xs)) w) (h2 : (convert 22 9 v2).run Ybaz.prog w = .ok (.string (strOfNums ys)) w) :
    Calls Ybaz.prog 11 #[v1, v2] w fun e w' => e = .returned (.bool (Lib.bytesOf xs == Lib.bytesOf ys)) ∧ w' = w := by
  rw [← Lib.strOfNums_toList, ← Lib.strOfNums_toList]
  go_enter Ybaz.func11, Ybaz.ntmps11
  go_wp2
  go_ret
  exact ⟨rfl, rfl⟩

/-- A LITTLE TOO MUCH: 'equal wherever the lengths are': falls at [7], [8]. -/
theorem Ybaz.bytes_Equal_not : ¬ ∀ (v1 v2 : Value) (xs ys : List Int) (w : World),
    (convert 22 9 v1).run Ybaz.prog w = .ok (.string (strOfNums xs)) w → (convert 22 9 v2).run Ybaz.prog w = .ok (.string (strOfNums ys)) w →
    Calls Ybaz.prog 11 #[v1, v2] w fun e w' => e = .returned (.bool (decide (xs.length = ys.length))) ∧ w' = w := by
  intro h
  let w : World := (default : World).alloc (.cells #[.int .u8 7, .int .u8 8] 5)
  have hc1 : ∀ i, i < 1 → w.cell? ⟨0, 0 + i, none⟩ = some (.int .u8 ([(7 : Int)].getD i 0)) := by
    intro i hi
    have : i = 0 := by omega
    subst this
    rfl
  have hc2 : ∀ i, i < 1 → w.cell? ⟨0, 1 + i, none⟩ = some (.int .u8 ([(8 : Int)].getD i 0)) := by
    intro i hi
    have : i = 0 := by omega
    subst this
    rfl
  have g1 := run_convert_bytes_arg (P := Ybaz.prog) w 22 5 Ybaz.underlying22 Ybaz.underlying5 0 0 1 1 [7] rfl hc1 9 Ybaz.underlying9
  have g2 := run_convert_bytes_arg (P := Ybaz.prog) w 22 5 Ybaz.underlying22 Ybaz.underlying5 0 1 1 1 [8] rfl hc2 9 Ybaz.underlying9
  have e := Lib.agree (by kernel_rfl) (Ybaz.bytes_Equal _ _ [7] [8] w g1 g2) (h _ _ [7] [8] w g1 g2)
  injection e with e
  revert e
  decide

#print axioms Ybaz.bytes_Equal
#print axioms Ybaz.bytes_Equal_not
end Go.Proofs
