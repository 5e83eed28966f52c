import Derived.Test.YbulkdsjeGreatDoorBase
set_option linter.unusedVariables false
set_option linter.unusedSimpArgs false
namespace Go.Proofs.YbulkdsjeGreatDoor
open Go.RowKit

/-- A chance that is neither nought nor one. -/
def PrOk (p : Int) : Prop := -2048 < p ∧ p < 2048

set_option maxRecDepth 100000 in
set_option maxHeartbeats 1000000 in
theorem zero_any (p : Int) (h : PrOk p) (w : World) : Calls Ybaz.prog 81 #[.int .i16 p] w fun e w' => e = .returned (.int .u32 (p + 2048)) ∧ w' = w := by
  obtain ⟨h1, h2⟩ := h
  go_enter Ybaz.func81, Ybaz.ntmps81
  go_wp2
  go_ret
  exact ⟨rfl, rfl⟩

set_option maxRecDepth 100000 in
set_option maxHeartbeats 1000000 in
theorem update_any (b o : Nat) (p : Int) (bit : Int) (h : PrOk p) (w : World) (hc : w.cell? ⟨b, o, none⟩ = some (.int .i16 p)) (hf : w.frozen? ⟨b, o, none⟩ = false) :
    Calls Ybaz.prog 82 #[.pointer (some ⟨b, o, none⟩), .int .u64 bit] w fun e w' => e = .returned (.tuple #[]) ∧ ∃ p', PrOk p' ∧ w' = w.setCell ⟨b, o, none⟩ (.int .i16 p') := by
  obtain ⟨h1, h2⟩ := h
  by_cases hb : bit = 0
  · go_enter Ybaz.func82, Ybaz.ntmps82
    go_wp2
    go_end0
    exact ⟨rfl, _, ⟨by omega, by omega⟩, rfl⟩
  · go_enter Ybaz.func82, Ybaz.ntmps82
    go_wp2
    go_end0
    exact ⟨rfl, _, ⟨by omega, by omega⟩, rfl⟩

/-- The encoder in memory: its six cells, and the row that it grows. -/
structure EN (U : World) (Eb base L : Nat) (rg : Nat) (ov : Value) : Prop where
  ex : ∃ (xs : List Value) (low : Nat) (cache : Nat) (pend : Nat) (st : Bool), U.rangeAt Eb 0 [ov, .int .u64 low, .int .u32 rg, .int .u8 cache, vi pend, .bool st] ∧ U.ownsRow base 5 1 ov xs.length xs ∧ xs.length + pend ≤ L ∧ low < 18446744073709551616 ∧ cache < 256
  th : U.there Eb 0 6
  ne : ov.ownBlock ≠ some Eb
  lo : base ≤ U.heap.size
  bd : L ≤ 1099511627776
/-- What a write of the encoder's may turn. -/
def EE (Eb : Nat) (ov : Value) (b : Nat) : Prop := b = Eb ∨ ov.ownBlock = some b
/-- The row is the old one or a new one. -/
def Mv (U : World) (ov ov' : Value) : Prop := ∀ b, ov'.ownBlock = some b → ov.ownBlock = some b ∨ U.heap.size ≤ b
end Go.Proofs.YbulkdsjeGreatDoor
