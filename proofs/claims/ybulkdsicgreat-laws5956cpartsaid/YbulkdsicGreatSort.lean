import Derived.Test.YbulkdsicGreatComp
set_option linter.unusedVariables false
set_option linter.unusedSimpArgs false
namespace Go.Proofs.YbulkdsicGreat
open Go.RowKit Go.Shelf

/-- The comparison never says that a later one is less. -/
def LessNo (W0 : World) (N : Nat) (c1 c2 : Value) : Prop := ∀ W, Below W0.heap.size W0 W → ∀ i j, j < i → i < N → Calls Ybaz.prog 55 #[vi i, vi j, c1, c2] W fun e w' => e = .returned (.bool false) ∧ Below W.heap.size W w'
theorem LessNo.on {W0 W1 : World} {N : Nat} {c1 c2 : Value} (h : LessNo W0 N c1 c2) (b : Below W0.heap.size W0 W1) : LessNo W1 N c1 c2 := fun W hW i j hj hi => h W (b.trans (hW.mono b.size)) i j hj hi
abbrev fv (c1 c2 : Value) : Value := .func (.func 55) #[] #[c1, c2]
theorem bx129 (x y : Value) (w : World) : Sem.run Ybaz.prog (Instr.box 129 (.agg #[x, y])) w = .ok (.pointer (some ⟨w.heap.size, 0, none⟩)) (w.alloc (.cells #[x, y] 129)) := by kernel_rfl

set_option maxRecDepth 100000 in
set_option maxHeartbeats 2000000 in
theorem insertion_any (N a b : Nat) (c1 c2 sv : Value) (w : World) (ha : a ≤ 300) (hb : b ≤ N) (hN : N ≤ 300) (h : LessNo w N c1 c2) :
    Calls Ybaz.prog 72 #[.agg #[fv c1 c2, sv], vi a, vi b] w fun e w' => e = .returned (.tuple #[]) ∧ Below w.heap.size w w' := by
  have B0 := hid ((Below.refl w.heap.size w).alloc (Nat.le_refl _) (.cells #[fv c1 c2, sv] 129))
  have L := hid h
  have c0 : (w.alloc (.cells #[fv c1 c2, sv] 129)).cell? ⟨w.heap.size, 0, none⟩ = some (fv c1 c2) := by simp
  have C0 := hid c0
  clear h c0
  go_enter Ybaz.func72, Ybaz.ntmps72
  go_wp2_with (refine wpList_box_as rfl 129 _ rfl #[fv c1 c2, sv] rfl (bx129 _ _) ?_)
  go_loopw [6] (fun x W => ∃ i : Nat, a + 1 ≤ i ∧ x = vi i ∧ Below w.heap.size w W ∧ W.cell? ⟨w.heap.size, 0, none⟩ = some (fv c1 c2)) (fun x _ => b - (intOf x).toNat)
  case atStart => exact ⟨a + 1, by omega, by go_num, B0.out, C0.out⟩
  case round =>
    obtain ⟨i, hai, rfl, hbel, hc⟩ := hrel
    clear B0 C0
    by_cases hlt : i < b
    · have hli : (i : Int) < (b : Int) := by omega
      have hgt : (a : Int) < (i : Int) := by omega
      have hsub : ((i : Int) - 1) = ((i - 1 : Nat) : Int) := by omega
      have hsz : w.heap.size + 1 ≤ wr.heap.size := World.block_lt_of_cell? _ _ hc
      have LI := hid (L.out wr hbel i (i - 1) (by omega) (by omega))
      have BL := hid hbel
      clear hbel
      go_wp2
      refine wp_loop_rounds 1 ?_
      rw [rounds_succ]
      have HC := hid hc
      go_wp2_with (go_at_call 55; refine LI.out.mono ?_; rintro e W2 ⟨rfl, hb2⟩; have B2 := hid hb2; clear hb2 LI)
      go_roundw
      case rel =>
        exact ⟨i + 1, by omega, by go_num, BL.out.trans (B2.out.mono (by omega)), (Kept.ofBelow (E := fun _ => False) B2.out).cell (fun h => h) HC.out⟩
      case measure => simp [intOf]; omega
    · have hli : ¬ ((i : Int) < (b : Int)) := by omega
      have BL := hid hbel
      clear hbel
      go_wp2
      go_end0
      exact ⟨rfl, BL.out⟩

theorem half (i j : Nat) (h : i < j) : ∃ c : Nat, ((i : Int) + (j : Int)) / 2 = (c : Int) ∧ i ≤ c ∧ c < j := ⟨(i + j) / 2, by omega, by omega, by omega⟩

set_option maxRecDepth 100000 in
set_option maxHeartbeats 4000000 in
theorem symmerge_one (N a b : Nat) (c1 c2 sv : Value) (w : World) (hm : a + 1 < b) (hb : b ≤ N) (hN : N ≤ 300) (h : LessNo w N c1 c2) :
    Calls Ybaz.prog 73 #[.agg #[fv c1 c2, sv], vi a, vi (a + 1), vi b] w fun e w' => e = .returned (.tuple #[]) ∧ Below w.heap.size w w' := by
  have B0 := hid ((Below.refl w.heap.size w).alloc (Nat.le_refl _) (.cells #[fv c1 c2, sv] 129))
  have L := hid h
  have c0 : (w.alloc (.cells #[fv c1 c2, sv] 129)).cell? ⟨w.heap.size, 0, none⟩ = some (fv c1 c2) := by simp
  have C0 := hid c0
  have h9 : (a : Int) + 1 - (a : Int) = 1 := by omega
  clear h c0
  go_enter Ybaz.func73, Ybaz.ntmps73
  go_wp2_with (refine wpList_box_as rfl 129 _ rfl #[fv c1 c2, sv] rfl (bx129 _ _) ?_)
  go_loopw [8, 9] (fun x y W => ∃ j : Nat, a + 1 ≤ j ∧ j ≤ b ∧ x = vi (a + 1) ∧ y = vi j ∧ Below w.heap.size w W ∧ W.cell? ⟨w.heap.size, 0, none⟩ = some (fv c1 c2)) (fun _ y _ => (intOf y).toNat)
  case atStart => exact ⟨b, by omega, Nat.le_refl _, rfl, rfl, B0.out, C0.out⟩
  case round =>
    obtain ⟨j, h1, h2, rfl, rfl, hbel, hc⟩ := hrel
    clear B0 C0
    by_cases hlt : a + 1 < j
    · obtain ⟨c, hcd, hc1, hc2⟩ := half (a + 1) j hlt
      have hli : (a : Int) + 1 < (j : Int) := by omega
      rw [Int.natCast_add] at hcd
      have hcd2 : ((a : Int) + 1 + (j : Int)) / 2 = (c : Int) := hcd
      have hsz : w.heap.size + 1 ≤ wr.heap.size := World.block_lt_of_cell? _ _ hc
      have LI := hid (L.out wr hbel c a (by omega) (by omega))
      have BL := hid hbel
      have HC := hid hc
      clear hbel hcd
      go_wp2_with (go_at_call 55; refine LI.out.mono ?_; rintro e W2 ⟨rfl, hb2⟩; have B2 := hid hb2; clear hb2 LI)
      go_roundw
      case rel => exact ⟨c, by omega, by omega, rfl, rfl, BL.out.trans (B2.out.mono (by omega)), (Kept.ofBelow (E := fun _ => False) B2.out).cell (fun h => h) HC.out⟩
      case measure => simp [intOf]; omega
    · obtain rfl : j = a + 1 := by omega
      have hli : ¬ ((a : Int) + 1 < (a : Int) + 1) := by omega
      have BL := hid hbel
      clear hbel
      go_wp2
      refine wp_loop_rounds 1 ?_
      rw [rounds_succ]
      go_wp2
      refine bodyPost_ret (results_none rfl _ _ _) rfl ?_
      exact ⟨rfl, BL.out⟩

set_option maxRecDepth 100000 in
set_option maxHeartbeats 4000000 in
theorem symmerge_last (N a m : Nat) (c1 c2 sv : Value) (w : World) (ham : a + 1 < m) (hb : m + 1 ≤ N) (hN : N ≤ 300) (h : LessNo w N c1 c2) :
    Calls Ybaz.prog 73 #[.agg #[fv c1 c2, sv], vi a, vi m, vi (m + 1)] w fun e w' => e = .returned (.tuple #[]) ∧ Below w.heap.size w w' := by
  have B0 := hid ((Below.refl w.heap.size w).alloc (Nat.le_refl _) (.cells #[fv c1 c2, sv] 129))
  have L := hid h
  have c0 : (w.alloc (.cells #[fv c1 c2, sv] 129)).cell? ⟨w.heap.size, 0, none⟩ = some (fv c1 c2) := by simp
  have C0 := hid c0
  have hne : ((m : Int) - (a : Int) == 1) = false := by
    have : ¬ ((m : Int) - (a : Int) = 1) := by omega
    simpa using this
  have h9 : (m : Int) + 1 - (m : Int) = 1 := by omega
  clear h c0
  go_enter Ybaz.func73, Ybaz.ntmps73
  go_wp2_with (refine wpList_box_as rfl 129 _ rfl #[fv c1 c2, sv] rfl (bx129 _ _) ?_)
  go_loopw [12, 13] (fun x y W => ∃ i : Nat, a ≤ i ∧ i ≤ m ∧ x = vi i ∧ y = vi m ∧ Below w.heap.size w W ∧ W.cell? ⟨w.heap.size, 0, none⟩ = some (fv c1 c2)) (fun x _ _ => m - (intOf x).toNat)
  case atStart => exact ⟨a, Nat.le_refl _, by omega, rfl, rfl, B0.out, C0.out⟩
  case round =>
    obtain ⟨i, h1, h2, rfl, rfl, hbel, hc⟩ := hrel
    clear B0 C0
    by_cases hlt : i < m
    · obtain ⟨c, hcd, hc1, hc2⟩ := half i m hlt
      have hli : (i : Int) < (m : Int) := by omega
      have hsz : w.heap.size + 1 ≤ wr.heap.size := World.block_lt_of_cell? _ _ hc
      have LI := hid (L.out wr hbel m c (by omega) (by omega))
      have BL := hid hbel
      have HC := hid hc
      clear hbel
      go_wp2_with (go_at_call 55; refine LI.out.mono ?_; rintro e W2 ⟨rfl, hb2⟩; have B2 := hid hb2; clear hb2 LI)
      go_roundw
      case rel => exact ⟨c + 1, by omega, by omega, by go_num, rfl, BL.out.trans (B2.out.mono (by omega)), (Kept.ofBelow (E := fun _ => False) B2.out).cell (fun h => h) HC.out⟩
      case measure => simp [intOf]; omega
    · obtain rfl : i = m := by omega
      have hli : ¬ ((i : Int) < (i : Int)) := by omega
      have BL := hid hbel
      clear hbel
      go_wp2
      refine wp_loop_rounds 1 ?_
      rw [rounds_succ]
      go_wp2
      refine bodyPost_ret (results_none rfl _ _ _) rfl ?_
      exact ⟨rfl, BL.out⟩
end Go.Proofs.YbulkdsicGreat
