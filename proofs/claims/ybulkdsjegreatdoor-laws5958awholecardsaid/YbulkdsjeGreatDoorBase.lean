import Derived.Test.YbulkdsjeGreatDoorExec
import Derived.Deep.Cut
import Derived.Deep.CutBlock
import Derived.Deep.Upon
import Derived.Deep.WholeRow
import Derived.Maps.AppendAt
import Derived.OwnWalk
import Derived.Shelf.Abstract
import Derived.Test.YbulkdsjeGreatDoorActs
set_option linter.unusedVariables false
set_option linter.unusedSimpArgs false
namespace Go
open Go.RowKit
theorem wpList_store_as {P : Program} {ops : Array Oper} {rest : List Oper} {o : Oper} {a : Act} {w w' : World} {Q : Exit → Act → World → Prop} (hgd : o.guard = none) (t : TypeId) (x y : Operand) (ho : o.op = .store t x y) (hd : o.dst = none) (b k : Nat) (v : Value) (hx : a.eval x = .pointer (some ⟨b, k, none⟩)) (hy : a.eval y = v)
    (hr : (Instr.storeAt t (.pointer (some ⟨b, k, none⟩)) v).run P w = .ok () w') (h : wpList P ops Q rest a w') : wpList P ops Q (o :: rest) a w := by
  refine wpList_plain hgd fun K hK => ?_
  unfold Oper.wp execOp
  simp only [ho, hx, hy, Sem.run_bind, hr, Result.andThen_ok, Sem.run_pure]
  exact hK _ _ (by rw [hd]; exact h)
end Go
namespace Go.Proofs.YbulkdsjeGreatDoor
open Go.RowKit
abbrev vi (k : Nat) : Value := .int .i64 k
abbrev ii (k : Int) : Value := .int .i64 k
abbrev sl (b o n c : Nat) : Value := .slice (some ⟨b, o, none⟩) n c
theorem mixed : Ybaz.prog.follows .mixedOrders = true := by kernel_rfl
theorem run_store1 {P : Program} (w : World) (b o : Nat) (v : Value) (hc : (w.cell? ⟨b, o, none⟩).isSome = true) (hf : w.frozen? ⟨b, o, none⟩ = false) (h1 : v.oneCell' = true) : Sem.run P (store ⟨b, o, none⟩ v) w = .ok () (w.setCell ⟨b, o, none⟩ v) := by
  have hst := run_storeCells_cells (P := P) b o [v] 0 w (fun j hj => by obtain rfl : j = 0 := (by simpa using hj); simpa using hc) (fun j hj => by obtain rfl : j = 0 := (by simpa using hj); simpa using hf) (fun u hu => by simp at hu; subst hu; exact h1)
  have hadd : (⟨b, o, none⟩ : Addr).add 0 = ⟨b, o, none⟩ := by unfold Addr.add; simp
  simp only [storeCells, hadd, Nat.add_zero, Sem.run_bind, Sem.run_pure] at hst
  cases hr : Sem.run P (store ⟨b, o, none⟩ v) w with
  | ok x w' => rw [hr] at hst; simp [Result.andThen] at hst; rw [hst]; rfl
  | halt x w' => rw [hr] at hst; simp [Result.andThen] at hst
theorem wpList_bin_as {ops : Array Oper} {rest : List Oper} {o : Oper} {a : Act} {w : World} {Q : Exit → Act → World → Prop} (hgd : o.guard = none) (op : BinOp) (t : TypeId) (x y : Operand) (t' : TypeId) (ho : o.op = .binOp op t x y t') (v1 v2 u : Value) (h1 : a.eval x = v1) (h2 : a.eval y = v2)
    (hk : ∀ w, Sem.run Ybaz.prog (eqGuard op t x y v1 v2) w = .ok () w) (hr : Sem.run Ybaz.prog (binOp op t v1 v2) w = .ok u w) (h : wpList Ybaz.prog ops Q rest (a.put o.dst u) w) : wpList Ybaz.prog ops Q (o :: rest) a w := by
  refine wpList_plain hgd fun K hK => ?_
  unfold Oper.wp execOp
  simp only [ho, h1, h2, Sem.run_bind, hk, hr, Result.andThen_ok, Sem.run_pure]
  exact hK _ _ h
theorem wpList_build_as {ops : Array Oper} {rest : List Oper} {o : Oper} {a : Act} {w : World} {Q : Exit → Act → World → Prop} (hgd : o.guard = none) (t : TypeId) (fs : Array (Nat × Operand)) (ho : o.op = .build t fs) (v : Value) (hr : Sem.run Ybaz.prog (Instr.build t (fs.map fun p => (p.1, a.eval p.2))) w = .ok v w)
    (h : wpList Ybaz.prog ops Q rest (a.put o.dst v) w) : wpList Ybaz.prog ops Q (o :: rest) a w := by
  refine wpList_plain hgd fun K hK => ?_
  unfold Oper.wp execOp
  simp only [ho, Sem.run_bind, hr, Result.andThen_ok, Sem.run_pure]
  exact hK _ _ h
theorem own_cell {w : World} {base e n : Nat} {v : Value} {xs : List Value} (h : w.ownsRow base e 1 v n xs) {j : Nat} {u : Value} (hu : xs[j]? = some u) :
    ∃ g cap, v = sl g 0 n cap ∧ w.cell? ⟨g, j, none⟩ = some u ∧ w.frozen? ⟨g, j, none⟩ = false := by
  have hj : j < n := by have := (List.getElem?_eq_some_iff.1 hu).1; have := h.1; omega
  rcases h.2 with ⟨rfl, h2⟩ | ⟨g, cap, cur, rfl, _, hb, hc, _, hs, ht⟩
  · omega
  · refine ⟨g, cap, rfl, ?_, ?_⟩
    · rw [← ht] at hu
      rw [List.getElem?_take_of_lt (by omega)] at hu
      unfold World.cell?
      simp only [hb]
      simpa using hu
    · unfold World.frozen?
      simp [hb]
theorem own_set {w : World} {base e n g cap : Nat} {xs : List Value} (h : w.ownsRow base e 1 (sl g 0 n cap) n xs) (j : Nat) (hj : j < n) (u : Value) : (w.setCell ⟨g, j, none⟩ u).ownsRow base e 1 (sl g 0 n cap) n (xs.set j u) := by
  refine ⟨by rw [List.length_set]; exact h.1, .inr ?_⟩
  rcases h.2 with ⟨h0, _⟩ | ⟨g', cap', cur, hv, hbase, hb, hc, hm, hs, ht⟩
  · cases h0
  · cases hv
    refine ⟨g, cap, cur.setIfInBounds j u, rfl, hbase, ?_, hc, hm, by simpa using hs, ?_⟩
    · simp [World.setCell, Array.getElem?_modify, hb]
    · rw [Array.toList_setIfInBounds, List.take_set, ht]
theorem own_block {w : World} {base e size n : Nat} {v : Value} {xs : List Value} (h : w.ownsRow base e size v n xs) {g : Nat} (hg : v.ownBlock = some g) : base ≤ g ∧ ∃ cur, w.heap[g]? = some (.cells cur e (0, 0)) := by
  rcases h.2 with ⟨rfl, _⟩ | ⟨g', cap, cur, rfl, hb, hc, _⟩
  · cases hg
  · cases hg; exact ⟨hb, cur, hc⟩

theorem own_form {w : World} {base e n : Nat} {v : Value} {xs : List Value} (h : w.ownsRow base e 1 v n xs) : ∃ sa c, v = .slice sa n c ∧ (∀ a, sa = some a → a.off = 0 ∧ a.spot = none) := by
  rcases h.2 with ⟨rfl, rfl⟩ | ⟨g, cap, cur, rfl, _⟩
  · exact ⟨none, 0, rfl, fun _ h => by cases h⟩
  · exact ⟨some ⟨g, 0, none⟩, cap, rfl, fun a h => by cases h; exact ⟨rfl, rfl⟩⟩
theorem news1 (W : World) (v : Value) (t : TypeId) : ∀ (j : Nat) u, [v][j]? = some u → (W.alloc (.cells #[v] t)).cell? ((⟨W.heap.size, 0, none⟩ : Addr).add j) = some u := fun j u hu => by
  have hadd : (⟨W.heap.size, 0, none⟩ : Addr).add j = ⟨W.heap.size, j, none⟩ := by unfold Addr.add; split <;> simp_all
  rw [hadd]
  have := range_new W [v] t j u hu
  rwa [Nat.zero_add] at this
theorem tab_there {W : World} {b n q : Nat} {f : Nat → Value} (h : Tab W b 0 n f) (hq : q < n) : (W.cell? ⟨b, q, none⟩).isSome = true ∧ W.frozen? ⟨b, q, none⟩ = false := by
  have h1 := h.cell hq
  have h2 := h.free hq
  rw [Nat.zero_add] at h1 h2
  exact ⟨by rw [h1]; rfl, h2⟩
theorem own_new (W : World) (base : Nat) (x : Value) (t : TypeId) (hb : base ≤ W.heap.size) : (W.alloc (.cells #[x] t)).ownsRow base t 1 (sl W.heap.size 0 1 1) 1 [x] :=
  ⟨rfl, .inr ⟨W.heap.size, 1, #[x], rfl, hb, World.alloc_heap_new W _, by omega, by unfold maxLen; omega, rfl, rfl⟩⟩

end Go.Proofs.YbulkdsjeGreatDoor
