import Derived.Test.YbulkdsmyDoorWalks
namespace Go.Proofs.YbulkdsmyDoor
open Go.RowKit

/-- The reader is spoilt already: nothing is read, nothing turns. -/
theorem next_spoilt (R : Nat) (u : Value) (w : World) (h1 : w.cell? ⟨R, 1, none⟩ = some (.iface 35 u)) :
    Calls Ybad.prog 7 #[.pointer (some ⟨R, 0, none⟩), .int .i64 8] w fun e w' => e = .returned (.slice none 0 0) ∧ w = w' := by
  go_enter Ybad.func7, Ybad.ntmps7
  go_wp2
  go_ret
  exact ⟨rfl, rfl⟩

/-- Fewer than eight bytes are left: the error is laid, the buffer is let go. -/
theorem next_short (R n c : Nat) (ao : Option Addr) (ea : Addr) (w : World) (hn : n < 8) (h0 : w.cell? ⟨R, 0, none⟩ = some (.slice ao n c)) (h1 : w.cell? ⟨R, 1, none⟩ = some .nilIface)
    (hg : w.cell? ⟨0, 0, none⟩ = some (.iface 35 (.pointer (some ea)))) (f0 : w.frozen? ⟨R, 0, none⟩ = false) (f1 : w.frozen? ⟨R, 1, none⟩ = false) :
    Calls Ybad.prog 7 #[.pointer (some ⟨R, 0, none⟩), .int .i64 8] w fun e w' => e = .returned (.slice none 0 0) ∧ (w.setCell ⟨R, 1, none⟩ (.iface 35 (.pointer (some ea)))).setCell ⟨R, 0, none⟩ (.slice none 0 0) = w' := by
  go_enter Ybad.func7, Ybad.ntmps7
  go_wp2
  go_ret
  exact ⟨rfl, rfl⟩

/-- Where what is left begins. -/
def restA (b n : Nat) : Addr := if n = 8 then ⟨b, 0, none⟩ else ⟨b, 8, none⟩
theorem Ybad.elem22 : Ybad.prog.elem 22 = 5 := by kernel_rfl
theorem Ybad.info5 : (Ybad.prog.info? 5).map (fun i => (i.zero, i.size, i.bytes)) = some (some (.int .u8 0), 1, 1) := by kernel_rfl
theorem size5 (W : World) : Sem.run Ybad.prog (Go.sizeOf 5) W = .ok 1 W := by
  obtain ⟨i0, hi, _, hz1, _⟩ := info_parts Ybad.info5
  simp [Go.sizeOf, typeInfo, hi, hz1]
theorem cut_to (b n : Nat) (h : 8 ≤ n) (W : World) : Sem.run Ybad.prog (Instr.sliceAt 22 (.slice (some ⟨b, 0, none⟩) n n) none (some (.int .i64 8)) none) W = .ok (.slice (some ⟨b, 0, none⟩) 8 n) W := by
  rw [run_sliceAt_slice W 22 _ _ _ _ Ybad.underlying22, run_slice_h (P := Ybad.prog) W 22 (some ⟨b, 0, none⟩) n n Ybad.underlying22 .i64 8 (by omega) (by omega), Ybad.elem22, size5]
  simp [sliced, Result.andThen, Addr.add]
theorem cut_from (b n : Nat) (h : 8 ≤ n) (W : World) : Sem.run Ybad.prog (Instr.sliceAt 22 (.slice (some ⟨b, 0, none⟩) n n) (some (.int .i64 8)) none none) W = .ok (.slice (some (restA b n)) (n - 8) (n - 8)) W := by
  rw [run_sliceAt_slice W 22 _ _ _ _ Ybad.underlying22, run_slice_l (P := Ybad.prog) W 22 (some ⟨b, 0, none⟩) n n Ybad.underlying22 .i64 8 (by omega) (by omega), Ybad.elem22, size5]
  unfold restA
  by_cases e : n = 8
  · subst e; simp [sliced, Result.andThen]
  · simp [sliced, Result.andThen, Addr.add, e]

/-- Eight bytes or more: the first eight; the reader goes on behind them. -/
theorem next_ok (R b n : Nat) (w : World) (hn : 8 ≤ n) (h0 : w.cell? ⟨R, 0, none⟩ = some (.slice (some ⟨b, 0, none⟩) n n)) (h1 : w.cell? ⟨R, 1, none⟩ = some .nilIface)
    (f0 : w.frozen? ⟨R, 0, none⟩ = false) :
    Calls Ybad.prog 7 #[.pointer (some ⟨R, 0, none⟩), .int .i64 8] w fun e w' => e = .returned (.slice (some ⟨b, 0, none⟩) 8 n) ∧ w.setCell ⟨R, 0, none⟩ (.slice (some (restA b n)) (n - 8) (n - 8)) = w' := by
  have c1 := cut_to b n hn
  have c2 := cut_from b n hn
  go_enter Ybad.func7, Ybad.ntmps7
  go_wp2
  go_ret
  exact ⟨rfl, rfl⟩

theorem read_spoilt (R : Nat) (u : Value) (w : World) (h1 : w.cell? ⟨R, 1, none⟩ = some (.iface 35 u)) :
    Calls Ybad.prog 5 #[.pointer (some ⟨R, 0, none⟩)] w fun e w' => e = .returned (.int .u64 0) ∧ w = w' := by
  have hn := fun wx => run_neq_slice_nil_any (P := Ybad.prog) wx 22 5 none 0 0 0 0 Ybad.underlying22
  go_enter Ybad.func5, Ybad.ntmps5
  go_wp2_with fail
  refine (next_spoilt R u _ h1).mono ?_
  rintro e w1 ⟨rfl, rfl⟩
  go_wp2
  go_ret
  exact ⟨rfl, rfl⟩

theorem read_short (R n c : Nat) (ao : Option Addr) (ea : Addr) (w : World) (hn : n < 8) (h0 : w.cell? ⟨R, 0, none⟩ = some (.slice ao n c)) (h1 : w.cell? ⟨R, 1, none⟩ = some .nilIface)
    (hg : w.cell? ⟨0, 0, none⟩ = some (.iface 35 (.pointer (some ea)))) (f0 : w.frozen? ⟨R, 0, none⟩ = false) (f1 : w.frozen? ⟨R, 1, none⟩ = false) :
    Calls Ybad.prog 5 #[.pointer (some ⟨R, 0, none⟩)] w fun e w' => e = .returned (.int .u64 0) ∧ (w.setCell ⟨R, 1, none⟩ (.iface 35 (.pointer (some ea)))).setCell ⟨R, 0, none⟩ (.slice none 0 0) = w' := by
  have hne := fun wx => run_neq_slice_nil_any (P := Ybad.prog) wx 22 5 none 0 0 0 0 Ybad.underlying22
  have H := hid (next_short R n c ao ea w hn h0 h1 hg f0 f1)
  clear h0 h1 hg f0 f1
  go_enter Ybad.func5, Ybad.ntmps5
  go_wp2_with fail
  refine H.out.mono ?_
  rintro e w1 ⟨rfl, hw⟩
  have HW := hid hw
  clear hw
  go_wp2
  go_ret
  exact ⟨rfl, HW.out⟩

theorem read_ok (R b n : Nat) (f : Nat → Int) (w : World) (hn : 8 ≤ n) (hRb : R ≠ b) (h0 : w.cell? ⟨R, 0, none⟩ = some (.slice (some ⟨b, 0, none⟩) n n)) (h1 : w.cell? ⟨R, 1, none⟩ = some .nilIface)
    (f0 : w.frozen? ⟨R, 0, none⟩ = false) (hf : ∀ j, 0 ≤ f j ∧ f j ≤ 255) (hc : ∀ j, j < n → w.cell? ⟨b, j, none⟩ = some (.int .u8 (f j))) :
    Calls Ybad.prog 5 #[.pointer (some ⟨R, 0, none⟩)] w fun e w' => e = .returned (.int .u64 (spell f 8)) ∧ Below w.heap.size (w.setCell ⟨R, 0, none⟩ (.slice (some (restA b n)) (n - 8) (n - 8))) w' := by
  have hne := fun wx => run_neq_slice_nil_any (P := Ybad.prog) wx 22 5 (some ⟨b, 0, none⟩) 8 n 0 0 Ybad.underlying22
  have H := hid (next_ok R b n w hn h0 h1 f0)
  have HF := hid hf
  have HC : Hid (∀ j, j < 8 → (w.setCell ⟨R, 0, none⟩ (.slice (some (restA b n)) (n - 8) (n - 8))).cell? ⟨b, 0 + j, none⟩ = some (.int .u8 (f j))) := fun j hj => by
    rw [World.cell?_setCell_other _ _ _ _ (fun e => hRb (congrArg Addr.block e)), Nat.zero_add]
    exact hc j (by omega)
  clear h0 h1 f0 hf hc
  go_enter Ybad.func5, Ybad.ntmps5
  go_wp2_with fail
  refine H.out.mono ?_
  rintro e w1 ⟨rfl, rfl⟩
  go_wp2_with fail
  refine (be64 b 0 8 n f _ (Nat.le_refl _) HF.out HC.out).mono ?_
  rintro e w2 ⟨rfl, hb⟩
  have HB := hid hb
  clear hb
  go_wp2
  go_ret
  exact ⟨rfl, HB.out.mono (by simp [World.setCell])⟩

theorem new_any (s : ByteArray) (w : World) :
    Calls Ybad.prog 4 #[.string s] w fun e w' => e = .returned (.iface 35 (.pointer (some ⟨w.heap.size, 0, none⟩))) ∧ w.alloc (.cells #[.string s] 37) = w' := by
  go_enter Ybad.func4, Ybad.ntmps4
  go_wp2
  go_ret
  exact ⟨rfl, rfl⟩

end Go.Proofs.YbulkdsmyDoor
