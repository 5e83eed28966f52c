import Derived.Test.YbulkdsmyDoorRows
import Derived.WalkKit
import Derived.ProofKit
import Derived.Below
import Derived.WalkSpells
import Derived.WalkSmall
import Derived.LaidEql
import Derived.Deep.QuietTactic
import Derived.BigQuiet
import Derived.Lib.EndianBits
import Derived.Laws.CopyOwn
import Derived.Stop.LaidErr
namespace Go.Proofs.YbulkdsmyDoor
open Go.RowKit

theorem hid {p : Prop} (h : p) : Hid p := h

/-- What a slice value shows: n bytes, from its address on. -/
def RowAt (w : World) (ao : Option Addr) (n : Nat) (f : Nat → Int) : Prop :=
  0 < n → ∃ b o, ao = some ⟨b, o, none⟩ ∧ ∀ j, j < n → w.cell? ⟨b, o + j, none⟩ = some (.int .u8 (f j))

set_option maxHeartbeats 400000 in
theorem eq_true (a1 a2 : Option Addr) (n c1 c2 : Nat) (f : Nat → Int) (w : World) (hn : n ≤ 2097152) (h1 : RowAt w a1 n f) (h2 : RowAt w a2 n f) :
    Calls Ybad.prog 6 #[.slice a1 n c1, .slice a2 n c2] w fun e w' => e = .returned (.bool true) ∧ ∃ nq, w' = w.drewN nq := by
  have H1 : Hid (RowAt w a1 n f) := h1
  have H2 : Hid (RowAt w a2 n f) := h2
  clear h1 h2
  go_enter Ybad.func6, Ybad.ntmps6
  go_wp2
  go_loopw [5] (fun i wq => ∃ m nq : Nat, m ≤ n ∧ i = .int .i64 m ∧ wq = w.drewN nq) (fun i _ => n - (intOf i).toNat)
  case atStart => exact ⟨0, 0, Nat.zero_le _, rfl, rfl⟩
  case round =>
    obtain ⟨m, nq, hm, rfl, rfl⟩ := hrel
    by_cases hlt : m < n
    · obtain ⟨b1, o1, rfl, hc1⟩ := H1.out (by omega)
      obtain ⟨b2, o2, rfl, hc2⟩ := H2.out (by omega)
      have g1 := hc1 m hlt
      have g2 := hc2 m hlt
      generalize f m = z at g1 g2
      clear hc1 hc2
      have hli : (m : Int) < (n : Int) := by omega
      go_wp2
      go_quiet (fail)
      go_wp2
      go_roundw
      case rel => exact ⟨m + 1, _, by omega, by go_num, rfl⟩
      case measure => simp [intOf]; omega
    · go_wp2
      go_ret
      exact ⟨rfl, _, rfl⟩

/-- The number that the first k bytes spell, the greatest byte first. -/
def spell (f : Nat → Int) : Nat → Int
  | 0 => 0
  | k + 1 => spell f k * 256 + f k

set_option maxHeartbeats 4000000 in
set_option maxRecDepth 100000 in
theorem be64 (b o n c : Nat) (f : Nat → Int) (w : World) (hn : 8 ≤ n) (hf : ∀ j, 0 ≤ f j ∧ f j ≤ 255) (hc : ∀ j, j < 8 → w.cell? ⟨b, o + j, none⟩ = some (.int .u8 (f j))) :
    Calls Ybad.prog 8 #[.agg #[], .slice (some ⟨b, o, none⟩) n c] w fun e w' => e = .returned (.int .u64 (spell f 8)) ∧ Below w.heap.size w w' := by
  have d0 := cell?_alloc_old (.cells #[] 40) (hc 0 (by omega))
  have d1 := cell?_alloc_old (.cells #[] 40) (hc 1 (by omega))
  have d2 := cell?_alloc_old (.cells #[] 40) (hc 2 (by omega))
  have d3 := cell?_alloc_old (.cells #[] 40) (hc 3 (by omega))
  have d4 := cell?_alloc_old (.cells #[] 40) (hc 4 (by omega))
  have d5 := cell?_alloc_old (.cells #[] 40) (hc 5 (by omega))
  have d6 := cell?_alloc_old (.cells #[] 40) (hc 6 (by omega))
  have d7 := cell?_alloc_old (.cells #[] 40) (hc 7 (by omega))
  rw [Nat.add_zero] at d0
  have h0 := hf 0
  have h1 := hf 1
  have h2 := hf 2
  have h3 := hf 3
  have h4 := hf 4
  have h5 := hf 5
  have h6 := hf 6
  have h7 := hf 7
  have HV : Hid (spell f 8 = f 7 + f 6 * 256 + f 5 * 65536 + f 4 * 16777216 + f 3 * 4294967296 + f 2 * 1099511627776 + f 1 * 281474976710656 + f 0 * 72057594037927936) := by
    show spell f 8 = _
    simp only [spell]
    omega
  generalize spell f 8 = R at *
  clear hc hf
  generalize f 0 = z0 at *
  generalize f 1 = z1 at *
  generalize f 2 = z2 at *
  generalize f 3 = z3 at *
  generalize f 4 = z4 at *
  generalize f 5 = z5 at *
  generalize f 6 = z6 at *
  generalize f 7 = z7 at *
  have q0 : 0 < n := by omega
  have q1 : (1 : Int) < (n : Int) := by omega
  have q2 : (2 : Int) < (n : Int) := by omega
  have q3 : (3 : Int) < (n : Int) := by omega
  have q4 : (4 : Int) < (n : Int) := by omega
  have q5 : (5 : Int) < (n : Int) := by omega
  have q6 : (6 : Int) < (n : Int) := by omega
  have q7 : (7 : Int) < (n : Int) := by omega
  go_enter Ybad.func8, Ybad.ntmps8
  go_wp2
  go_quiet (fail)
  go_wp2
  go_ret
  refine ⟨?_, below_drewN ((Below.refl _ w).alloc (Nat.le_refl _) _) _⟩
  simp (disch := omega) only [u64_or8, u64_or16, u64_or24, u64_or32, u64_or40, u64_or48, u64_or56]
  rw [HV.out]
  rfl

end Go.Proofs.YbulkdsmyDoor
