import Derived.Test.YbulkdsicGreatNear
set_option linter.unusedVariables false
set_option linter.unusedSimpArgs false
namespace Go.Proofs.YbulkdsicGreat
open Go.RowKit Go.Shelf

/-- nearestMarked's own. -/
structure NS0 (w W : World) (Pb n cp : Nat) (fm : Value) (f : Nat → Value) : Prop where
  bel : Below w.heap.size w W
  p0 : W.cell? ⟨w.heap.size, 0, none⟩ = some (sl Pb 0 n cp)
  p1 : W.cell? ⟨w.heap.size + 1, 0, none⟩ = some fm
  tab : Tab W (w.heap.size + 2) 0 n f
  var : W.cell? ⟨w.heap.size + 3, 0, none⟩ = some (sl (w.heap.size + 2) 0 n n)
  size : w.heap.size + 4 ≤ W.heap.size
theorem NS0.make (w : World) (Pb n cp : Nat) (fm : Value) : NS0 w ((((w.alloc (.cells #[sl Pb 0 n cp] 26)).alloc (.cells #[fm] 84)).alloc (.cells (madeCells #[.int .i64 0] n) 3)).alloc (.cells #[sl (w.heap.size + 2) 0 n n] 26)) Pb n cp fm (fun _ => .int .i64 0) := by
  rw [made_one]
  refine ⟨?_, ?_, ?_, ?_, ?_, ?_⟩
  · exact ((((Below.refl _ w).alloc (Nat.le_refl _) _).alloc (by simp) _).alloc (by simp; omega) _).alloc (by simp; omega) _
  · have c : (w.alloc (.cells #[sl Pb 0 n cp] 26)).cell? ⟨w.heap.size, 0, none⟩ = some (sl Pb 0 n cp) := by simp
    exact cell_old _ (cell_old _ (cell_old _ c))
  · have c := range_new (w.alloc (.cells #[sl Pb 0 n cp] 26)) [fm] 84 0 _ rfl
    rw [World.size_alloc] at c
    exact cell_old _ (cell_old _ c)
  · have := (Tab.new ((w.alloc (.cells #[sl Pb 0 n cp] 26)).alloc (.cells #[fm] 84)) n 3 (.int .i64 0)).alloc (.cells #[sl (w.heap.size + 2) 0 n n] 26)
    rw [World.size_alloc, World.size_alloc] at this
    exact this
  · have := range_new (((w.alloc (.cells #[sl Pb 0 n cp] 26)).alloc (.cells #[fm] 84)).alloc (.cells (Array.replicate n (.int .i64 0)) 3)) [sl (w.heap.size + 2) 0 n n] 26 0 _ rfl
    rw [World.size_alloc, World.size_alloc, World.size_alloc] at this
    exact this
  · rw [World.size_alloc, World.size_alloc, World.size_alloc, World.size_alloc]; omega
theorem NS0.set {w W : World} {Pb n cp : Nat} {fm : Value} {f : Nat → Value} (h : NS0 w W Pb n cp fm f) {j : Nat} (hj : j < n) (v : Value) : NS0 w (W.setCell ⟨w.heap.size + 2, j, none⟩ v) Pb n cp fm (fun k => if k = j then v else f k) := by
  refine ⟨h.bel.setCell (p := ⟨w.heap.size + 2, j, none⟩) (by simp) _, ?_, ?_, ?_, ?_, by simpa using h.size⟩
  · rw [World.cell?_setCell_other _ _ _ _ (fun e => by have := congrArg Addr.block e; simp at this)]; exact h.p0
  · rw [World.cell?_setCell_other _ _ _ _ (fun e => by have := congrArg Addr.block e; simp at this)]; exact h.p1
  · have := h.tab.set hj v
    rwa [Nat.zero_add] at this
  · rw [World.cell?_setCell_other _ _ _ _ (fun e => by have := congrArg Addr.block e; simp at this)]; exact h.var

set_option maxRecDepth 100000 in
set_option maxHeartbeats 1000000 in
theorem nearest_any (Pb n cp : Nat) (Bg : Nat) (hn : n ≤ 300) (w : World) :
    Calls Ybaz.prog 25 #[sl Pb 0 n cp, .func (.func 26) #[] #[.pointer (some ⟨Bg, 0, none⟩)]] w fun e w' => ∃ Bc, e = .returned (.func (.func 45) #[] #[.pointer (some ⟨w.heap.size + 3, 0, none⟩), .pointer (some ⟨Bc, 0, none⟩), .pointer (some ⟨w.heap.size, 0, none⟩), .pointer (some ⟨w.heap.size + 1, 0, none⟩)]) ∧
      NS0 w w' Pb n cp (.func (.func 26) #[] #[.pointer (some ⟨Bg, 0, none⟩)]) (fun _ => .int .i64 (-2)) ∧ w.heap.size + 4 ≤ Bc ∧ w'.cell? ⟨Bc, 0, none⟩ = some (.slice none 0 0) ∧ w'.frozen? ⟨Bc, 0, none⟩ = false := by
  obtain ⟨i3, hi3, hz3, hs3, hb3⟩ := info_parts Ybaz.info3
  have BM := hid (NS0.make w Pb n cp (.func (.func 26) #[] #[.pointer (some ⟨Bg, 0, none⟩)]))
  have c0 : ∀ ob, ((w.alloc (.cells #[sl Pb 0 n cp] 26)).alloc ob).cell? ⟨w.heap.size, 0, none⟩ = some (sl Pb 0 n cp) := fun ob => cell_old ob (by simp)
  go_enter Ybaz.func25, Ybaz.ntmps25
  go_wp2_with (at_make; refine wpList_make_as rfl (.tmp 9) (.tmp 9) 26 rfl 3 i3 (.int .i64 0) n Ybaz.underlying26 hi3 hz3 rfl rfl (by rw [hb3]; omega) (by omega) ?_)
  have e2 : w.heap.size + 1 + 1 = w.heap.size + 2 := rfl
  have e3 : w.heap.size + 2 + 1 = w.heap.size + 3 := rfl
  rw [e2, e3]
  clear e2 e3
  refine wp_as (fun W => NS0 w W Pb n cp (.func (.func 26) #[] #[.pointer (some ⟨Bg, 0, none⟩)]) (fun _ => .int .i64 0)) BM.out ?_
  intro W0 ns0
  clear BM c0
  go_loopw [13] (fun x W => ∃ q : Nat, q ≤ n ∧ x = vi q ∧ NS0 w W Pb n cp (.func (.func 26) #[] #[.pointer (some ⟨Bg, 0, none⟩)]) (fun k => if k < q then .int .i64 (-2) else .int .i64 0)) (fun x _ => n - (intOf x).toNat)
  case atStart => exact ⟨0, Nat.zero_le _, rfl, ⟨ns0.bel, ns0.p0, ns0.p1, ns0.tab.ext (fun k _ => by simp), ns0.var, ns0.size⟩⟩
  case round =>
    obtain ⟨q, hq, rfl, nq⟩ := hrel
    clear ns0
    by_cases hlt : q < n
    · have hli : (q : Int) < (n : Int) := by omega
      have hv := nq.var
      have hc : wr.cell? ⟨w.heap.size + 2, q, none⟩ = some (.int .i64 0) := by simpa using nq.tab.cell hlt
      have hf : wr.frozen? ⟨w.heap.size + 2, q, none⟩ = false := by simpa using nq.tab.free hlt
      have NQ := hid nq
      clear nq
      go_wp2
      go_roundw
      case rel =>
        have st := NQ.out.set hlt (.int .i64 (-2))
        refine ⟨q + 1, by omega, by go_num, ⟨st.bel, st.p0, st.p1, st.tab.ext (fun k hk => ?_), st.var, st.size⟩⟩
        by_cases hx : k = q
        · simp [hx]
        · have : (k < q + 1) = (k < q) := by apply propext; omega
          simp [hx, this]
      case measure => simp [intOf]; omega
    · obtain rfl : q = n := by omega
      have NQ := hid nq
      clear nq
      go_wp2
      go_ret
      have kn : Kept (fun _ => False) wr (wr.alloc (.cells #[.slice none 0 0] 26)) := (Kept.refl _ wr).alloc _
      have N := NQ.out
      refine ⟨wr.heap.size, rfl, ⟨N.bel.alloc N.bel.size _, kn.cell (fun h => h) N.p0, kn.cell (fun h => h) N.p1, (N.tab.ext (fun k hk => by simp [hk])).kept kn (fun h => h), kn.cell (fun h => h) N.var, Nat.le_trans N.size kn.size⟩, N.size, by simp, by simp⟩
end Go.Proofs.YbulkdsicGreat
