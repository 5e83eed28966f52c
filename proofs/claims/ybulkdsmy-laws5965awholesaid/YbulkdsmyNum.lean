import Derived.Test.YbulkdsmyPeer
import Derived.Lib.EndianBits
import Derived.WalkSmall
import Derived.Shelf.Spec.BitsCarry
import Derived.Stop.LaidErr
namespace Go.Proofs.Ybulkdsmy
open Go.RowKit

theorem below_drewN {B : Nat} {a w : World} (h : Below B a w) (n : Nat) : Below B a (w.drewN n) := h.trans ⟨rfl, rfl, rfl, Nat.le_refl _, fun _ _ => rfl⟩

/-- The model's own entry, at these numbers. -/
theorem sub64 (x y b : Int) (hx : 0 ≤ x) (hy : 0 ≤ y) (hy1 : y < 18446744073709551616) (hb : b = 0 ∨ b = 1) (w : World) :
    (callFunc 27 #[.int .u64 x, .int .u64 y, .int .u64 b]).run Yba.prog w =
      .ok (.value (.tuple #[.int .u64 ((x - y - b) % 18446744073709551616), .int .u64 (if x < y + b then 1 else 0)])) w := by
  obtain ⟨x, rfl⟩ := Int.eq_ofNat_of_zero_le hx
  obtain ⟨y, rfl⟩ := Int.eq_ofNat_of_zero_le hy
  obtain ⟨b, rfl⟩ := Int.eq_ofNat_of_zero_le (a := b) (by omega)
  rw [run_callFunc_extern Yba.func27 (by kernel_rfl) (by kernel_rfl) (by kernel_rfl) (e := sub64Entry) (by kernel_rfl), run_sub64 x y b (by omega)]
  simp only [Result.andThen]
  have h1 : (((x + 18446744073709551616 - y - b) % 18446744073709551616 : Nat) : Int) = ((x : Int) - y - b) % 18446744073709551616 := by omega
  have h2 : ((if x < y + b then 1 else 0 : Nat) : Int) = if (x : Int) < y + b then 1 else 0 := by split <;> split <;> omega
  rw [h1, h2]

set_option maxHeartbeats 4000000 in
set_option maxRecDepth 100000 in
theorem be64 (b o n c : Nat) (v : Int) (w : World) (hn : 8 ≤ n) (hv : 0 ≤ v ∧ v ≤ 255) (hz : ∀ j, j < 7 → w.cell? ⟨b, o + j, none⟩ = some (.int .u8 0)) (h7 : w.cell? ⟨b, o + 7, none⟩ = some (.int .u8 v)) :
    Calls Yba.prog 26 #[.agg #[], .slice (some ⟨b, o, none⟩) n c] w fun e w' => e = .returned (.int .u64 v) ∧ Below w.heap.size w w' := by
  have d0 := cell?_alloc_old (.cells #[] 97) (hz 0 (by omega))
  have d1 := cell?_alloc_old (.cells #[] 97) (hz 1 (by omega))
  have d2 := cell?_alloc_old (.cells #[] 97) (hz 2 (by omega))
  have d3 := cell?_alloc_old (.cells #[] 97) (hz 3 (by omega))
  have d4 := cell?_alloc_old (.cells #[] 97) (hz 4 (by omega))
  have d5 := cell?_alloc_old (.cells #[] 97) (hz 5 (by omega))
  have d6 := cell?_alloc_old (.cells #[] 97) (hz 6 (by omega))
  have d7 := cell?_alloc_old (.cells #[] 97) h7
  rw [Nat.add_zero] at d0
  clear hz h7
  have q0 : 0 < n := by omega
  have q1 : (1 : Int) < (n : Int) := by omega
  have q2 : (2 : Int) < (n : Int) := by omega
  have q3 : (3 : Int) < (n : Int) := by omega
  have q4 : (4 : Int) < (n : Int) := by omega
  have q5 : (5 : Int) < (n : Int) := by omega
  have q6 : (6 : Int) < (n : Int) := by omega
  have q7 : (7 : Int) < (n : Int) := by omega
  go_enter Yba.func26, Yba.ntmps26
  go_wp2
  go_quiet (fail)
  go_wp2
  go_ret
  refine ⟨?_, below_drewN ((Below.refl _ w).alloc (Nat.le_refl _) _) _⟩
  simp (disch := omega) [u64_or8]
  rfl

set_option maxHeartbeats 4000000 in
set_option maxRecDepth 100000 in
theorem be32 (b o n c : Nat) (w : World) (hn : 4 ≤ n) (hz : ∀ j, j < 4 → w.cell? ⟨b, o + j, none⟩ = some (.int .u8 0)) :
    Calls Yba.prog 25 #[.agg #[], .slice (some ⟨b, o, none⟩) n c] w fun e w' => e = .returned (.int .u32 0) ∧ Below w.heap.size w w' := by
  have d0 := cell?_alloc_old (.cells #[] 97) (hz 0 (by omega))
  have d1 := cell?_alloc_old (.cells #[] 97) (hz 1 (by omega))
  have d2 := cell?_alloc_old (.cells #[] 97) (hz 2 (by omega))
  have d3 := cell?_alloc_old (.cells #[] 97) (hz 3 (by omega))
  rw [Nat.add_zero] at d0
  clear hz
  have q0 : 0 < n := by omega
  have q1 : (1 : Int) < (n : Int) := by omega
  have q2 : (2 : Int) < (n : Int) := by omega
  have q3 : (3 : Int) < (n : Int) := by omega
  go_enter Yba.func25, Yba.ntmps25
  go_wp2
  go_quiet (fail)
  go_wp2
  go_ret
  refine ⟨?_, below_drewN ((Below.refl _ w).alloc (Nat.le_refl _) _) _⟩
  rfl

set_option maxHeartbeats 1000000 in
theorem sub32 (x y b : Int) (hx : x = 0 ∨ x = 4294967295) (hy : y = 0 ∨ y = 4294967295) (hb : b = 0 ∨ b = 1) (w : World) :
    Calls Yba.prog 28 #[.int .u32 x, .int .u32 y, .int .u32 b] w fun e w' => e = .returned (.tuple #[.int .u32 ((x - y - b) % 4294967296), .int .u32 (if x < y + b then 1 else 0)]) ∧ w' = w := by
  rcases hx with rfl | rfl <;> rcases hy with rfl | rfl <;> rcases hb with rfl | rfl
  all_goals
    go_enter Yba.func28, Yba.ntmps28
    go_wp2
    go_ret2
    exact ⟨rfl, rfl⟩

theorem bx29 (b : Int) (w : World) : Sem.run Yba.prog (Instr.box 29 (.agg (idc b).toArray)) w = .ok (.pointer (some ⟨w.heap.size, 0, none⟩)) (w.alloc (.cells (idc b).toArray 29)) := by kernel_rfl
theorem cut4 (n : Nat) (w : World) : Sem.run Yba.prog (Instr.sliceAt 29 (.pointer (some ⟨n, 0, none⟩)) none (some (.int .i64 4)) none) w = .ok (.slice (some ⟨n, 0, none⟩) 4 20) w := by kernel_rfl
theorem cut12 (n : Nat) (w : World) : Sem.run Yba.prog (Instr.sliceAt 29 (.pointer (some ⟨n, 0, none⟩)) (some (.int .i64 4)) (some (.int .i64 12)) none) w = .ok (.slice (some ⟨n, 4, none⟩) 8 16) w := by kernel_rfl
theorem cut20 (n : Nat) (w : World) : Sem.run Yba.prog (Instr.sliceAt 29 (.pointer (some ⟨n, 0, none⟩)) (some (.int .i64 12)) none none) w = .ok (.slice (some ⟨n, 12, none⟩) 8 8) w := by kernel_rfl

/-- A number's cells. -/
def nm (h m l : Int) : Value := .agg #[.int .u32 h, .int .u64 m, .int .u64 l]

theorem idc_at (b : Int) (j : Nat) (h : j < 19) : (idc b)[j]? = some (.int .u8 0) := by
  rw [idc, List.getElem?_append_left (by simpa using h), List.getElem?_replicate, if_pos h]
theorem idc_at19 (b : Int) : (idc b)[19]? = some (.int .u8 b) := rfl

set_option maxHeartbeats 1000000 in
theorem number_any (b : Int) (hb : 0 ≤ b ∧ b ≤ 255) (w : World) :
    Calls Yba.prog 22 #[.agg (idc b).toArray] w fun e w' => e = .returned (nm 0 0 b) ∧ Below w.heap.size w w' := by
  have c4 := cut4
  have c12 := cut12
  have c20 := cut20
  go_enter Yba.func22, Yba.ntmps22
  go_wp2_with (refine wpList_box_as rfl 29 _ rfl (idc b).toArray rfl (bx29 b) ?_)
  have hr : (((w.alloc (.cells (idc b).toArray 29)).alloc (.cells #[.int .u32 0, .int .u64 0, .int .u64 0] 93)).alloc (.cells #[] 97)).rangeAt w.heap.size 0 (idc b) :=
    World.rangeAt_alloc (World.rangeAt_alloc (range_new w (idc b) 29) _) _
  have ht : (((w.alloc (.cells (idc b).toArray 29)).alloc (.cells #[.int .u32 0, .int .u64 0, .int .u64 0] 93)).alloc (.cells #[] 97)).there (w.heap.size + 1) 0 3 := by
    have h := World.there_alloc (there_new (w.alloc (.cells (idc b).toArray 29)) [.int .u32 0, .int .u64 0, .int .u64 0] 93) (.cells #[] 97)
    simpa using h
  have hbel : Below w.heap.size w (((w.alloc (.cells (idc b).toArray 29)).alloc (.cells #[.int .u32 0, .int .u64 0, .int .u64 0] 93)).alloc (.cells #[] 97)) := (((Below.refl _ _).alloc (Nat.le_refl _) _).alloc (by simp) _).alloc (by simp; omega) _
  have hsz : w.heap.size + 2 < (((w.alloc (.cells (idc b).toArray 29)).alloc (.cells #[.int .u32 0, .int .u64 0, .int .u64 0] 93)).alloc (.cells #[] 97)).heap.size := by simp
  generalize ((w.alloc (.cells (idc b).toArray 29)).alloc (.cells #[.int .u32 0, .int .u64 0, .int .u64 0] 93)).alloc (.cells #[] 97) = W at hr ht hbel hsz ⊢
  have rg : ∀ e j v, (idc b)[j]? = some v → (W.extp e).cell? ⟨w.heap.size, j, none⟩ = some v := fun e j v h => by
    have := extp_range hr e j v h
    rwa [Nat.zero_add] at this
  have k1 : ∀ e, Calls Yba.prog 25 #[.agg #[], .slice (some ⟨w.heap.size, 0, none⟩) 4 20] (W.extp e) fun x w' => x = .returned (.int .u32 0) ∧ ∃ e, w' = W.extp e := fun e =>
    calls_ext (be32 _ _ _ _ _ (by omega) (fun j hj => by rw [Nat.zero_add]; exact rg e j _ (idc_at b j (by omega))))
  have k2 : ∀ e, Calls Yba.prog 26 #[.agg #[], .slice (some ⟨w.heap.size, 4, none⟩) 8 16] (W.extp e) fun x w' => x = .returned (.int .u64 0) ∧ ∃ e, w' = W.extp e := fun e =>
    calls_ext (be64 _ _ _ _ _ _ (by omega) (by omega) (fun j hj => rg e _ _ (idc_at b _ (by omega))) (rg e _ _ (idc_at b _ (by omega))))
  have k3 : ∀ e, Calls Yba.prog 26 #[.agg #[], .slice (some ⟨w.heap.size, 12, none⟩) 8 8] (W.extp e) fun x w' => x = .returned (.int .u64 b) ∧ ∃ e, w' = W.extp e := fun e =>
    calls_ext (be64 _ _ _ _ _ _ (by omega) (by omega) (fun j hj => rg e _ _ (idc_at b _ (by omega))) (rg e _ _ (idc_at19 b)))
  have K1 := hid k1
  have K2 := hid k2
  have K3 := hid k3
  have HT := hid ht
  have HB := hid hbel
  clear ht hbel hr k1 k2 k3 rg
  refine wp_region_quiet_tail 10 (fun w' => ∃ e, w' = W.extp e) (by kernel_rfl) (by kernel_rfl) (inExt_drew W) ?_
  dsimp only [List.take, List.drop]
  repeat (go_big_quiet_step (first
    | (go_at_call 25; with_reducible exact K1.out _)
    | (go_at_call 26; first | with_reducible exact K2.out _ | with_reducible exact K3.out _)))
  refine wpQuiet_nil ?_
  rintro _ ⟨e, rfl⟩
  have HE := hid (extp_below W e)
  have HT' := hid (extp_there HT e)
  refine wpList_store_mid rfl 93 _ _ rfl (w.heap.size + 1) 0 #[.int .u32 0, .int .u64 0, .int .u64 b] rfl rfl HT' (by kernel_rfl) (by kernel_rfl) ?_
  go_wp2
  refine bodyPost_ret (v := nm 0 0 b) (results_cell Yba.results22 _ _ _ (b := w.heap.size + 1) (o := 0) rfl ?_) rfl ⟨rfl, ?_⟩
  · refine run_loadVar_mid _ _ _ 93 [.int .u32 0, .int .u64 0, .int .u64 b] _ ?_ Yba.underlying93 rfl (by kernel_rfl)
    exact World.rangeAt_setCells_same _ _ _ _ HT'
  · exact below_setCells (Below.trans HB (Below.mono HE (by omega))) (by omega) _ _

end Go.Proofs.Ybulkdsmy
