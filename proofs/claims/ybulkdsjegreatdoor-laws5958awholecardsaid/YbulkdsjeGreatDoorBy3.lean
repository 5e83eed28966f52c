import Derived.Test.YbulkdsjeGreatDoorBy2
import Derived.Test.YbulkdsjeGreatDoorNs2
import Derived.BigQuiet
import Derived.Deep.QuietTactic
import Derived.Handy
import Derived.Deep.MidRow
set_option linter.unusedVariables false
set_option linter.unusedSimpArgs false
namespace Go.Proofs.YbulkdsjeGreatDoor
open Go.RowKit

attribute [local go_sem] Oper.semAt_some
theorem src_cells (W : World) (bs : List Value) : Src (W.alloc (.cells bs.toArray 5)) (.slice (some ⟨W.heap.size, 0, none⟩) bs.length bs.length) bs := by
  refine ⟨some ⟨W.heap.size, 0, none⟩, bs.length, rfl, fun h => (by cases h), fun ad h => ?_, Nat.le_refl _⟩
  cases h
  exact ⟨_, _, rfl, fun j c hj => by have := range_new W bs 5 j c hj; simpa using this⟩
theorem src_at {W : World} {g k : Nat} (hg : W.heap.size = g) (bs : List Value) (hk : bs.length = k) : Src (W.alloc (.cells bs.toArray 5)) (.slice (some ⟨g, 0, none⟩) k k) bs := by
  subst hg
  subst hk
  exact src_cells W bs

set_option maxRecDepth 100000 in
set_option maxHeartbeats 4000000 in
theorem ms35 (d : Nat) (w : World) (hd : d < 1152921504606846976) : Calls Ybaz.prog 35 #[vi d] w fun e w' => e = .returned (vi (d / 1000000)) ∧ w' = w := by
  have hdi : (d : Int) < 1152921504606846976 := by omega
  go_enter Ybaz.func35, Ybaz.ntmps35
  go_wp2
  go_ret
  exact ⟨rfl, rfl⟩

set_option maxRecDepth 100000 in
set_option maxHeartbeats 4000000 in
theorem ms22 (d : Nat) (w : World) (hd : d < 1152921504606846976) : Calls Ybaz.prog 22 #[vi d] w fun e w' => e = .returned (.int .u64 ((d / 1000000 : Nat) : Int)) ∧ w' = w := by
  have hdi : (d : Int) < 1152921504606846976 := by omega
  go_enter Ybaz.func22, Ybaz.ntmps22
  go_wp2
  go_ret
  exact ⟨rfl, rfl⟩
/-- Eight bytes of a number, the lowest first. -/
def leB (x : Nat) : List Nat := [x % 256, x / 256 % 256, x / 65536 % 256, x / 16777216 % 256, x / 4294967296 % 256, x / 1099511627776 % 256, x / 281474976710656 % 256, x / 72057594037927936]

set_option maxRecDepth 100000 in
set_option maxHeartbeats 4000000 in
theorem le41 (base : Nat) (v : Value) (xs : List Value) (x : Nat) (w : World) (hx : x < 18446744073709551616) (hown : w.ownsRow base 5 1 v xs.length xs) (hl : xs.length ≤ 1099511627776) (hb : base ≤ w.heap.size) : Calls Ybaz.prog 41 #[.agg #[], v, .int .u64 (x : Int)] w fun e w' => ∃ v', e = .returned v' ∧ BB w base v xs w' v' (u8s (leB x)) := by
  have HO := hid hown
  have HL := hid hl
  have HBS := hid hb
  have hxi : (x : Int) < 18446744073709551616 := by omega
  clear hown hl hb
  go_enter Ybaz.func41, Ybaz.ntmps41
  go_wp2_with ((with_reducible (show wpList _ _ _ (⟨some 32, _, _, _, _, _⟩ :: _) _ _)); refine wpList_src rfl _ _ rfl base v xs rfl (own_kept HO.out (((Kept.refl (fun _ => False) w).alloc _).alloc _) (fun _ _ h => h)) _ _ rfl (src_at (by rw [World.size_alloc]) _ rfl) (fun b hb => by simp at hb; rcases hb with h | h | h | h | h | h | h | h <;> (rw [h]; rfl)) (by have := HL.out; simp; omega) (by rw [World.size_alloc, World.size_alloc]; have := HBS.out; omega) ?_; intro v2 W2 bb2; have BB2 := hid (BB.pre (((Kept.refl (fun _ => False) w).alloc _).alloc _) bb2); clear bb2; simp only [Act.put, List.setIfInBounds_toArray, List.set_cons_succ, List.set_cons_zero])
  go_ret
  refine ⟨v2, rfl, ?_⟩
  have b2 := BB2.out
  have e : u8s (leB x) = [.int .u8 ((x : Int) % 256), .int .u8 ((x : Int) / 256 % 256), .int .u8 ((x : Int) / 65536 % 256), .int .u8 ((x : Int) / 16777216 % 256), .int .u8 ((x : Int) / 4294967296 % 256), .int .u8 ((x : Int) / 1099511627776 % 256), .int .u8 ((x : Int) / 281474976710656 % 256), .int .u8 ((x : Int) / 72057594037927936)] := by simp [u8s, leB]
  rw [e]
  exact b2
/-- The archives' bytes. -/
def arB (st nn : Nat → Nat) : Nat → List Nat
  | 0 => []
  | i + 1 => arB st nn i ++ (uvF 10 (st i) ++ uvF 10 (st i * nn i))
/-- The rule's bytes. -/
def ruB (na : Nat) (st nn : Nat → Nat) (hb rw xff : Nat) : List Nat := uvF 10 na ++ (arB st nn na ++ (uvF 10 (hb / 1000000) ++ (leB xff ++ uvF 10 (rw / 1000000))))
theorem arB_len (st nn : Nat → Nat) : ∀ i, (arB st nn i).length ≤ 22 * i
  | 0 => by simp [arB]
  | i + 1 => by
    have := arB_len st nn i
    have := uvF_len 10 (st i)
    have := uvF_len 10 (st i * nn i)
    simp [arB]
    omega
end Go.Proofs.YbulkdsjeGreatDoor
