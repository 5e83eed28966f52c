import Derived.Test.YbulkdsjeGreatDoorFin
set_option linter.unusedVariables false
set_option linter.unusedSimpArgs false
namespace Go.Proofs.YbulkdsjeGreatDoor
open Go.RowKit
theorem wpList_makeN {ops : Array Oper} {rest : List Oper} {o : Oper} {a : Act} {w : World} {Q : Exit → Act → World → Prop} (hgd : o.guard = none) (l c : Operand) (t e : TypeId) (i : TypeInfo) (z : Value) (n k : Nat) (ho : o.op = .makeSlice t l c) (ht : Ybaz.prog.underlying t = some (.slice e)) (hi : Ybaz.prog.info? e = some i) (hz : i.zero = some z) (hl : a.eval l = vi n) (hc : a.eval c = vi k) (hnk : n ≤ k) (hb : i.bytes * k ≤ 281474976710656) (h63 : k ≤ 9223372036854775807)
    (h : wpList Ybaz.prog ops Q rest (a.put o.dst (sl w.heap.size 0 n k)) (w.alloc (.cells (madeCells z.cells (k * i.size)) e))) : wpList Ybaz.prog ops Q (o :: rest) a w := by
  refine wpList_plain hgd fun K hK => ?_
  have hb' : (i.bytes : Int) * (k : Int) ≤ 281474976710656 := by
    have h : ((i.bytes * k : Nat) : Int) ≤ 281474976710656 := by omega
    rwa [Int.natCast_mul] at h
  have hr := run_make (P := Ybaz.prog) w t e i z ht hi hz .i64 .i64 n k (by omega) (by omega) hb' (by omega)
  simp only [Int.toNat_natCast] at hr
  unfold Oper.wp execOp
  simp only [ho, hl, hc, Sem.run_bind, hr, Result.andThen_ok, Sem.run_pure]
  exact hK _ _ h
theorem made_get (z : Value) (cs : Array Value) (m : Nat) (hz : ∀ j, j < cs.size → cs[j]? = some z) (h0 : 0 < cs.size) : ∀ j, j < m → (madeCells cs m)[j]? = some z := fun j hj => by
  unfold madeCells
  have hlt : j % cs.size < cs.size := Nat.mod_lt _ h0
  have := hz _ hlt
  simp [hj]
  rw [Array.getElem?_eq_getElem hlt] at this
  rw [getElem!_pos cs _ hlt]
  injection this
/-- New rows of chances. -/
theorem pa_block {W : World} {b o N : Nat} {arr : Array Value} {t : TypeId} (h : W.heap[b]? = some (.cells arr t)) (hc : ∀ j, j < N → arr[o + j]? = some (.int .i16 0)) : PA W b o N := fun j hj => by
  refine ⟨0, ?_, ⟨by omega, by omega⟩, ?_⟩
  · unfold World.cell?
    simp only [h]
    exact hc j hj
  · unfold World.frozen?
    simp [h]
theorem Ybaz.info121 : (Ybaz.prog.info? 121).map (fun i => (i.zero, i.size, i.bytes)) = some (some (.agg (Array.replicate 128 (.int .i16 0))), 128, 256) := by kernel_rfl
set_option maxRecDepth 1000000
theorem zc125 : Ybaz.zeroCells125 = (Value.slice none 0 0 :: List.replicate 4160 (.int .i16 0)).toArray := by kernel_rfl

set_option maxHeartbeats 1000000 in
theorem newUint_any (C : Nat) (hC : C ≤ 100) (w : World) : Calls Ybaz.prog 42 #[vi C] w fun e w' => e = .returned (.pointer (some ⟨w.heap.size + 1, 0, none⟩)) ∧ UM w' (w.heap.size + 1) w.heap.size C ∧ Kept (fun _ => False) w w' := by
  obtain ⟨i121, hi, hz, hs, hb⟩ := info_parts Ybaz.info121
  obtain ⟨arr, harr⟩ : ∃ arr : Array Value, madeCells (Value.agg (Array.replicate 128 (.int .i16 0))).cells (C * 128) = arr := ⟨_, rfl⟩
  have hget : ∀ j, j < C * 128 → arr[j]? = some (.int .i16 0) := fun j hj => by
    rw [← harr]
    exact made_get (.int .i16 0) _ _ (fun j hj => by
      have : j < 128 := by simpa [Value.cells] using hj
      simp [Value.cells, this]) (by simp [Value.cells]) j hj
  have hzg : ∀ j, j < 4160 → (Ybaz.zeroCells125.setIfInBounds 0 (sl w.heap.size 0 C C))[1 + j]? = some (.int .i16 0) := fun j hj => by
    rw [zc125, Array.getElem?_setIfInBounds_ne (by omega), Nat.add_comm, List.getElem?_toArray, List.getElem?_cons_succ, List.getElem?_replicate, if_pos hj]
  have hz0 : (Ybaz.zeroCells125.setIfInBounds 0 (sl w.heap.size 0 C C))[0]? = some (sl w.heap.size 0 C C) := by
    rw [Array.getElem?_setIfInBounds_self_of_lt (by rw [zc125]; simp)]
  have HG := hid hget
  have HZ := hid hzg
  have HZ0 := hid hz0
  clear hget hzg hz0
  go_enter Ybaz.func42, Ybaz.ntmps42
  go_wp2_with (((with_reducible (show wpList _ _ _ (⟨_, .makeSlice 122 _ _, _, _, _, _⟩ :: _) _ _)); refine wpList_makeN rfl _ _ 122 121 i121 _ C C rfl Ybaz.underlying122 hi hz rfl rfl (Nat.le_refl _) (by rw [hb]; omega) (by omega) ?_; rw [hs, harr]; simp only [Act.put, List.setIfInBounds_toArray, List.set_cons_succ, List.set_cons_zero]))
  go_ret
  obtain ⟨zc, hzc⟩ : ∃ zc, Ybaz.zeroCells125.setIfInBounds 0 (sl w.heap.size 0 C C) = zc := ⟨_, rfl⟩
  rw [hzc] at HZ HZ0 ⊢
  have k1 : Kept (fun _ => False) w (w.alloc (.cells arr 121)) := (Kept.refl _ w).alloc _
  have hb1 : ((w.alloc (.cells arr 121)).alloc (.cells zc 125)).heap[w.heap.size + 1]? = some (.cells zc 125) := by
    have := World.alloc_heap_new (w.alloc (.cells arr 121)) (.cells zc 125)
    rwa [World.size_alloc] at this
  have hb0 : ((w.alloc (.cells arr 121)).alloc (.cells zc 125)).heap[w.heap.size]? = some (.cells arr 121) := by
    rw [((Kept.refl (fun _ => False) (w.alloc (.cells arr 121))).alloc (.cells zc 125)).block w.heap.size (by simp) (fun h => h)]
    exact World.alloc_heap_new w (.cells arr 121)
  refine ⟨rfl, ⟨?_, pa_block hb0 (fun j hj => by rw [Nat.zero_add]; exact HG.out j hj), pa_block hb1 (fun j hj => HZ.out j hj), by omega⟩, k1.alloc _⟩
  unfold World.cell?
  simp only [hb1]
  exact HZ0.out
end Go.Proofs.YbulkdsjeGreatDoor
