import Derived.Test.YbulkdslwWalks
import Derived.Deep.Upon
namespace Go.Proofs.Ybulkdslw
open Go.RowKit

/-- Byte number k of v, counted from the least. -/
def byt (v : Int) (k : Nat) : Int := v / 2 ^ (8 * k) % 256

theorem tape_setCells (g : Nat) : ∀ (vs : List Value) (o : Nat) (w : World), (w.setCells g o vs).tape = w.tape ∧ (w.setCells g o vs).heap.size = w.heap.size
  | [], _, _ => ⟨rfl, rfl⟩
  | v :: r, o, w => by
    have h := tape_setCells g r (o + 1) (w.setCell ⟨g, o, none⟩ v)
    refine ⟨h.1.trans rfl, h.2.trans ?_⟩
    simp [World.setCell]

theorem put_post (w : World) (g : Nat) (vs : List Value) (o : Obj) (hc : ∀ j, j < vs.length → (w.cell? ⟨g, j, none⟩).isSome = true) :
    w.grownBy ((w.setCells g 0 vs).alloc o) (some g) ∧ ∀ j (hj : j < vs.length), ((w.setCells g 0 vs).alloc o).cell? ⟨g, j, none⟩ = some vs[j] := by
  have hs : (w.setCells g 0 vs).heap.size = w.heap.size := (tape_setCells g vs 0 w).2
  refine ⟨⟨World.os_setCells _ _ _ _, (tape_setCells g vs 0 w).1, World.output_setCells _ _ _ _, by simp [hs], fun k hk hne => ?_⟩, fun j hj => ?_⟩
  · rw [Below.heap_alloc _ _ _ (by omega)]
    exact World.heap_setCells_other w g 0 vs hk (fun e => hne (by rw [e]))
  · have h := World.cell?_setCells_in g vs 0 w (by simpa using hc) j hj
    rw [Nat.zero_add] at h
    rw [World.cell?_alloc_lt _ _ _ (World.block_lt_of_cell? _ _ h)]
    exact h

theorem put_post8 (w : World) (g : Nat) (a0 a1 a2 a3 a4 a5 a6 a7 : Value) (o : Obj) (hc : ∀ j, j < 8 → (w.cell? ⟨g, j, none⟩).isSome = true) :
    w.grownBy (((((((((w.setCell ⟨g, 0, none⟩ a0).setCell ⟨g, 1, none⟩ a1).setCell ⟨g, 2, none⟩ a2).setCell ⟨g, 3, none⟩ a3).setCell ⟨g, 4, none⟩ a4).setCell ⟨g, 5, none⟩ a5).setCell ⟨g, 6, none⟩ a6).setCell ⟨g, 7, none⟩ a7).alloc o) (some g) ∧
    (((((((((w.setCell ⟨g, 0, none⟩ a0).setCell ⟨g, 1, none⟩ a1).setCell ⟨g, 2, none⟩ a2).setCell ⟨g, 3, none⟩ a3).setCell ⟨g, 4, none⟩ a4).setCell ⟨g, 5, none⟩ a5).setCell ⟨g, 6, none⟩ a6).setCell ⟨g, 7, none⟩ a7).alloc o).cell? ⟨g, 0, none⟩ = some a0 ∧
    (((((((((w.setCell ⟨g, 0, none⟩ a0).setCell ⟨g, 1, none⟩ a1).setCell ⟨g, 2, none⟩ a2).setCell ⟨g, 3, none⟩ a3).setCell ⟨g, 4, none⟩ a4).setCell ⟨g, 5, none⟩ a5).setCell ⟨g, 6, none⟩ a6).setCell ⟨g, 7, none⟩ a7).alloc o).cell? ⟨g, 1, none⟩ = some a1 ∧
    (((((((((w.setCell ⟨g, 0, none⟩ a0).setCell ⟨g, 1, none⟩ a1).setCell ⟨g, 2, none⟩ a2).setCell ⟨g, 3, none⟩ a3).setCell ⟨g, 4, none⟩ a4).setCell ⟨g, 5, none⟩ a5).setCell ⟨g, 6, none⟩ a6).setCell ⟨g, 7, none⟩ a7).alloc o).cell? ⟨g, 2, none⟩ = some a2 ∧
    (((((((((w.setCell ⟨g, 0, none⟩ a0).setCell ⟨g, 1, none⟩ a1).setCell ⟨g, 2, none⟩ a2).setCell ⟨g, 3, none⟩ a3).setCell ⟨g, 4, none⟩ a4).setCell ⟨g, 5, none⟩ a5).setCell ⟨g, 6, none⟩ a6).setCell ⟨g, 7, none⟩ a7).alloc o).cell? ⟨g, 3, none⟩ = some a3 ∧
    (((((((((w.setCell ⟨g, 0, none⟩ a0).setCell ⟨g, 1, none⟩ a1).setCell ⟨g, 2, none⟩ a2).setCell ⟨g, 3, none⟩ a3).setCell ⟨g, 4, none⟩ a4).setCell ⟨g, 5, none⟩ a5).setCell ⟨g, 6, none⟩ a6).setCell ⟨g, 7, none⟩ a7).alloc o).cell? ⟨g, 4, none⟩ = some a4 ∧
    (((((((((w.setCell ⟨g, 0, none⟩ a0).setCell ⟨g, 1, none⟩ a1).setCell ⟨g, 2, none⟩ a2).setCell ⟨g, 3, none⟩ a3).setCell ⟨g, 4, none⟩ a4).setCell ⟨g, 5, none⟩ a5).setCell ⟨g, 6, none⟩ a6).setCell ⟨g, 7, none⟩ a7).alloc o).cell? ⟨g, 5, none⟩ = some a5 ∧
    (((((((((w.setCell ⟨g, 0, none⟩ a0).setCell ⟨g, 1, none⟩ a1).setCell ⟨g, 2, none⟩ a2).setCell ⟨g, 3, none⟩ a3).setCell ⟨g, 4, none⟩ a4).setCell ⟨g, 5, none⟩ a5).setCell ⟨g, 6, none⟩ a6).setCell ⟨g, 7, none⟩ a7).alloc o).cell? ⟨g, 6, none⟩ = some a6 ∧
    (((((((((w.setCell ⟨g, 0, none⟩ a0).setCell ⟨g, 1, none⟩ a1).setCell ⟨g, 2, none⟩ a2).setCell ⟨g, 3, none⟩ a3).setCell ⟨g, 4, none⟩ a4).setCell ⟨g, 5, none⟩ a5).setCell ⟨g, 6, none⟩ a6).setCell ⟨g, 7, none⟩ a7).alloc o).cell? ⟨g, 7, none⟩ = some a7 := by
  have h := put_post w g [a0, a1, a2, a3, a4, a5, a6, a7] o hc
  exact ⟨h.1, h.2 0 (by simp), h.2 1 (by simp), h.2 2 (by simp), h.2 3 (by simp), h.2 4 (by simp), h.2 5 (by simp), h.2 6 (by simp), h.2 7 (by simp)⟩

theorem byt0 (v : Int) : byt v 0 = v % 256 := by simp [byt]
theorem byt1 (v : Int) : byt v 1 = v / 256 % 256 := by
  have e : (2 : Int) ^ (8 * 1) = 256 := by decide
  unfold byt; rw [e]
theorem byt2 (v : Int) : byt v 2 = v / 65536 % 256 := by
  have e : (2 : Int) ^ (8 * 2) = 65536 := by decide
  unfold byt; rw [e]
theorem byt3 (v : Int) : byt v 3 = v / 16777216 % 256 := by
  have e : (2 : Int) ^ (8 * 3) = 16777216 := by decide
  unfold byt; rw [e]
theorem byt4 (v : Int) : byt v 4 = v / 4294967296 % 256 := by
  have e : (2 : Int) ^ (8 * 4) = 4294967296 := by decide
  unfold byt; rw [e]
theorem byt5 (v : Int) : byt v 5 = v / 1099511627776 % 256 := by
  have e : (2 : Int) ^ (8 * 5) = 1099511627776 := by decide
  unfold byt; rw [e]
theorem byt6 (v : Int) : byt v 6 = v / 281474976710656 % 256 := by
  have e : (2 : Int) ^ (8 * 6) = 281474976710656 := by decide
  unfold byt; rw [e]
theorem byt7 (v : Int) (h0 : 0 ≤ v) (h1 : v < 18446744073709551616) : byt v 7 = v / 72057594037927936 := by
  have e : (2 : Int) ^ (8 * 7) = 72057594037927936 := by decide
  unfold byt; rw [e]; omega

set_option maxHeartbeats 1000000 in
theorem put6 (g : Nat) (v : Int) (w : World) (hv0 : 0 ≤ v) (hv1 : v < 18446744073709551616) (hc : ∀ j, j < 8 → ∃ u, w.cell? ⟨g, j, none⟩ = some u) (hf : ∀ j, w.frozen? ⟨g, j, none⟩ = false) :
    Calls Yba.prog 6 #[.agg #[], .slice (some ⟨g, 0, none⟩) 8 8, .int .u64 v] w fun e w' => e = .returned (.tuple #[]) ∧ w.grownBy w' (some g) ∧ ∀ j, j < 8 → w'.cell? ⟨g, j, none⟩ = some (.int .u8 (byt v (7 - j))) := by
  have HC : Hid (∀ j, j < 8 → (w.cell? ⟨g, j, none⟩).isSome = true) := fun j hj => by obtain ⟨u, hu⟩ := hc j hj; rw [hu]; rfl
  obtain ⟨u0, c0⟩ := hc 0 (by omega)
  obtain ⟨u1, c1⟩ := hc 1 (by omega)
  obtain ⟨u2, c2⟩ := hc 2 (by omega)
  obtain ⟨u3, c3⟩ := hc 3 (by omega)
  obtain ⟨u4, c4⟩ := hc 4 (by omega)
  obtain ⟨u5, c5⟩ := hc 5 (by omega)
  obtain ⟨u6, c6⟩ := hc 6 (by omega)
  obtain ⟨u7, c7⟩ := hc 7 (by omega)
  have hg := World.block_lt_of_cell? w _ c0
  simp only at hg
  clear hc
  go_enter Yba.func6, Yba.ntmps6
  go_wp2
  go_end0
  obtain ⟨r, p0, p1, p2, p3, p4, p5, p6, p7⟩ := put_post8 w g (.int .u8 (v / 72057594037927936)) (.int .u8 (v / 281474976710656 % 256)) (.int .u8 (v / 1099511627776 % 256)) (.int .u8 (v / 4294967296 % 256)) (.int .u8 (v / 16777216 % 256)) (.int .u8 (v / 65536 % 256)) (.int .u8 (v / 256 % 256)) (.int .u8 (v % 256)) (.cells #[] 30) HC.out
  refine ⟨rfl, r, fun j hj => ?_⟩
  match j, hj with
  | 0, _ => rw [show 7 - 0 = 7 from rfl, byt7 v hv0 hv1]; exact p0
  | 1, _ => rw [show 7 - 1 = 6 from rfl, byt6]; exact p1
  | 2, _ => rw [show 7 - 2 = 5 from rfl, byt5]; exact p2
  | 3, _ => rw [show 7 - 3 = 4 from rfl, byt4]; exact p3
  | 4, _ => rw [show 7 - 4 = 3 from rfl, byt3]; exact p4
  | 5, _ => rw [show 7 - 5 = 2 from rfl, byt2]; exact p5
  | 6, _ => rw [show 7 - 6 = 1 from rfl, byt1]; exact p6
  | 7, _ => rw [show 7 - 7 = 0 from rfl, byt0]; exact p7

set_option maxHeartbeats 1000000 in
theorem put7 (g : Nat) (v : Int) (w : World) (hv0 : 0 ≤ v) (hv1 : v < 18446744073709551616) (hc : ∀ j, j < 8 → ∃ u, w.cell? ⟨g, j, none⟩ = some u) (hf : ∀ j, w.frozen? ⟨g, j, none⟩ = false) :
    Calls Yba.prog 7 #[.agg #[], .slice (some ⟨g, 0, none⟩) 8 8, .int .u64 v] w fun e w' => e = .returned (.tuple #[]) ∧ w.grownBy w' (some g) ∧ ∀ j, j < 8 → w'.cell? ⟨g, j, none⟩ = some (.int .u8 (byt v (j))) := by
  have HC : Hid (∀ j, j < 8 → (w.cell? ⟨g, j, none⟩).isSome = true) := fun j hj => by obtain ⟨u, hu⟩ := hc j hj; rw [hu]; rfl
  obtain ⟨u0, c0⟩ := hc 0 (by omega)
  obtain ⟨u1, c1⟩ := hc 1 (by omega)
  obtain ⟨u2, c2⟩ := hc 2 (by omega)
  obtain ⟨u3, c3⟩ := hc 3 (by omega)
  obtain ⟨u4, c4⟩ := hc 4 (by omega)
  obtain ⟨u5, c5⟩ := hc 5 (by omega)
  obtain ⟨u6, c6⟩ := hc 6 (by omega)
  obtain ⟨u7, c7⟩ := hc 7 (by omega)
  have hg := World.block_lt_of_cell? w _ c0
  simp only at hg
  clear hc
  go_enter Yba.func7, Yba.ntmps7
  go_wp2
  go_end0
  obtain ⟨r, p0, p1, p2, p3, p4, p5, p6, p7⟩ := put_post8 w g (.int .u8 (v % 256)) (.int .u8 (v / 256 % 256)) (.int .u8 (v / 65536 % 256)) (.int .u8 (v / 16777216 % 256)) (.int .u8 (v / 4294967296 % 256)) (.int .u8 (v / 1099511627776 % 256)) (.int .u8 (v / 281474976710656 % 256)) (.int .u8 (v / 72057594037927936)) (.cells #[] 32) HC.out
  refine ⟨rfl, r, fun j hj => ?_⟩
  match j, hj with
  | 0, _ => rw [byt0]; exact p0
  | 1, _ => rw [byt1]; exact p1
  | 2, _ => rw [byt2]; exact p2
  | 3, _ => rw [byt3]; exact p3
  | 4, _ => rw [byt4]; exact p4
  | 5, _ => rw [byt5]; exact p5
  | 6, _ => rw [byt6]; exact p6
  | 7, _ => rw [byt7 v hv0 hv1]; exact p7

end Go.Proofs.Ybulkdslw
