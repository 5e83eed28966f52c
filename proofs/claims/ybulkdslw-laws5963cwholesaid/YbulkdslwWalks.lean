import Derived.Test.YbulkdslwRows
import Derived.WalkKit
import Derived.ProofKit
import Derived.Below
import Derived.WalkSpells
import Derived.WalkSmall
import Derived.Deep.QuietTactic
import Derived.BigQuiet
import Derived.Deep.RegionWith
import Derived.Laws.AppendOwnNone
import Derived.ArgAppend
namespace Go.Proofs.Ybulkdslw
open Go.RowKit

set_option maxHeartbeats 400000 in
theorem sig_any (size i off adj : Int) (little : Bool) (w : World) (h0 : 0 ≤ i) (h1 : i < size) (h2 : size ≤ 8) :
    Calls Yba.prog 9 #[.agg #[.int .i64 size, .bool little, .int .i64 off, .int .i64 adj], .int .i64 i] w fun e w' => e = .returned (.int .i64 (cond little (size - 1 - i) i)) ∧ w.alloc (.cells #[.int .i64 size, .bool little, .int .i64 off, .int .i64 adj] 25) = w' := by
  cases little
  · go_enter Yba.func9, Yba.ntmps9
    go_wp2
    go_ret
    exact ⟨rfl, rfl⟩
  · go_enter Yba.func9, Yba.ntmps9
    go_wp2
    go_ret
    exact ⟨rfl, rfl⟩

/-- What a slice value shows: n bytes, from its address on. -/
def RowAt (w : World) (ao : Option Addr) (n : Nat) (f : Nat → Int) : Prop :=
  0 < n → ∃ b o, ao = some ⟨b, o, none⟩ ∧ ∀ j, j < n → w.cell? ⟨b, o + j, none⟩ = some (.int .u8 (f j))

set_option maxHeartbeats 400000 in
theorem equal_true (a1 a2 : Option Addr) (n c1 c2 : Nat) (f : Nat → Int) (w : World) (hn : n ≤ 2097152) (h1 : RowAt w a1 n f) (h2 : RowAt w a2 n f) :
    Calls Yba.prog 8 #[.slice a1 n c1, .slice a2 n c2] w fun e w' => e = .returned (.bool true) ∧ ∃ nq, w' = w.drewN nq := by
  have H1 : Hid _ := h1
  have H2 : Hid _ := h2
  clear h1 h2
  go_enter Yba.func8, Yba.ntmps8
  go_wp2
  go_loopw [13, 5] (fun i _ wq => ∃ m nq : Nat, m ≤ n ∧ i = .int .i64 m ∧ wq = w.drewN nq) (fun i _ _ => n - (intOf i).toNat)
  case atStart => exact ⟨0, 0, Nat.zero_le _, rfl, rfl⟩
  case round =>
    obtain ⟨m, nq, hm, rfl, rfl⟩ := hrel
    by_cases hlt : m < n
    · obtain ⟨b1, o1, rfl, hc1⟩ := H1.out (by omega)
      obtain ⟨b2, o2, rfl, hc2⟩ := H2.out (by omega)
      have g1 := hc1 m hlt
      have g2 := hc2 m hlt
      generalize f m = z at g1 g2
      clear hc1 hc2
      have hli : (m : Int) < (n : Int) := by omega
      go_wp2
      go_quiet (fail)
      go_wp2
      go_roundw
      case rel => exact ⟨m + 1, _, by omega, by go_num, rfl⟩
      case measure => simp [intOf]; omega
    · go_wp2
      go_ret
      exact ⟨rfl, _, rfl⟩

end Go.Proofs.Ybulkdslw
