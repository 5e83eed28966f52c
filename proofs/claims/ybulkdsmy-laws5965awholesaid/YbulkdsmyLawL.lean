import Derived.Test.YbulkdsmyLawT
import Derived.Lib.SmallJoins
import Derived.Deep.SlicePairs
set_option linter.unusedSimpArgs false
set_option linter.constructorNameAsVariable false
namespace Go.Proofs.Ybulkdsmy
open Go.RowKit

set_option maxHeartbeats 2000000 in
set_option maxRecDepth 40000 in
/-- More than the law looks at. -/
theorem law_long (a1 a2 a3 : Option Addr) (c1 c2 c3 n1 n2 n3 : Nat) (se pr su tp ts : Pr) (pg : Bool) (md : Int) (w : World) (h1 : n1 ≤ 140737488351232) (h2 : n2 ≤ 140737488351232) (h3 : n3 ≤ 140737488351232) (h : 4096 < n1 + n2 + n3) :
    Calls Yba.prog 3 #[.agg (rwc se).toArray, .agg (rwc pr).toArray, .agg (rwc su).toArray, .bool pg, .slice a1 n1 c1, .slice a2 n2 c2, .slice a3 n3 c3, .int .u8 md, .agg (rwc tp).toArray, .agg (rwc ts).toArray] w fun e w' => e = .returned (.bool true) ∧ Below w.heap.size w w' := by
  go_enter Yba.func3, Yba.ntmps3
  go_upto_region 1 with (refine wpList_box_as rfl 23 _ rfl (rwc _).toArray rfl (bx23 _) ?_)
  have B0 := hid (Bx.make w se pr su tp ts)
  generalize hW : (((((w.alloc (.cells (rwc se).toArray 23)).alloc (.cells (rwc pr).toArray 23)).alloc (.cells (rwc su).toArray 23)).alloc (.cells (rwc tp).toArray 23)).alloc (.cells (rwc ts).toArray 23)) = W0 at B0 ⊢
  clear hW
  go_wp2_with fail
  go_ret
  exact ⟨rfl, B0.out.bel⟩

section
open Go.ChangeShapes Go.WideShapes Go.ChangeAt
variable {H : Type} {enc : TypeId × Value → H} {W : World} {base b0 : Nat} {spare : Nat → Bool} {held : Bool}

theorem peer_of {n : Nat} {c0 c1 : Value} {y0 y1 : DataW H × List MemPlace} (h0 : DataW.trod enc Yba.prog W base spare held n 9 [c0] = some y0) (h1 : DataW.trod enc Yba.prog W base spare held n 5 [c1] = some y1) : ∃ q : Pr, c0 = .string q.s ∧ c1 = .int .u8 q.b ∧ q.ok := by
  obtain ⟨s, e0, _, hs⟩ := DataW.trod_string Yba.underlying9 h0
  obtain ⟨b, e1, _, hb⟩ := DataW.trod_int Yba.underlying5 h1
  have hb' := bounds_u8 hb
  exact ⟨⟨s, b⟩, by simpa using e0, by simpa using e1, hb'.1, by have := hb'.2; omega, hs⟩
set_option maxRecDepth 100000 in
theorem open_peer {r : Reach} {v : Value} {d : DataW H} {p : List MemPlace} (hv : Value.okWide Yba.prog W r b0 23 v) (h : DataW.Trod enc Yba.prog W base spare held 23 v d p) : ∃ q : Pr, v = .agg (rwc q).toArray ∧ q.ok := by
  obtain ⟨c0, c1, y0, y1, n, rfl, _, _, h0, h1⟩ := Go.Joins.open_agg2 Yba.underlying23 (by kernel_rfl) (by kernel_rfl) hv h
  obtain ⟨q, rfl, rfl, hq⟩ := peer_of h0 h1
  exact ⟨q, rfl, hq⟩
theorem open_peers {a : Option Addr} {len cap : Nat} {d : DataW H} {p : List MemPlace} (h : DataW.Trod enc Yba.prog W base (fun _ => true) held 24 (.slice a len cap) d p) :
    ∃ L : List Pr, len = L.length ∧ RawP W a L ∧ (∀ q ∈ L, q.ok) ∧ (a = none → len = 0 ∧ cap = 0) ∧ ((len = 0 ∧ d = .nil) ∨ ∃ el sp, d = .slice el sp ∧ el.length = len) := by
  obtain ⟨fuel, hf⟩ := h
  rcases Deep.open_slice_pairs Yba.underlying24 Yba.underlying23 (by kernel_rfl) rfl rfl (by kernel_rfl) (by kernel_rfl) hf with ⟨hcs, hx⟩ | ⟨x, l, c, m, n, V0, V1, D0, D1, P0, P1, hcs, _, hl, _, hm, hx, hc⟩
  · simp [Value.cells] at hcs
    obtain ⟨rfl, rfl, rfl⟩ := hcs
    exact ⟨[], rfl, fun i p hp => by simp at hp, fun q hq => by simp at hq, fun _ => ⟨rfl, rfl⟩, .inl ⟨rfl, (Prod.mk.inj hx).1⟩⟩
  · simp [Value.cells] at hcs
    obtain ⟨rfl, rfl, rfl⟩ := hcs
    have hlm : len ≤ m := by rw [hm]; simpa using hl
    have each : ∀ i, ∃ q : Pr, i < len → V0 i = .string q.s ∧ V1 i = .int .u8 q.b ∧ q.ok := fun i => by
      by_cases hi : i < len
      · obtain ⟨q, e0, e1, ok⟩ := peer_of (hc i (by omega)).2.2.1 (hc i (by omega)).2.2.2
        exact ⟨q, fun _ => ⟨e0, e1, ok⟩⟩
      · exact ⟨zp, fun h => absurd h hi⟩
    refine ⟨(List.range len).map fun i => Classical.choose (each i), by simp, fun i p hp => ?_, fun q hq => ?_, fun e => (by cases e), .inr ⟨_, _, (Prod.mk.inj hx).1, by simp⟩⟩
    · have hi : i < len := by have := (List.getElem?_eq_some_iff.1 hp).1; simpa using this
      have ep : p = Classical.choose (each i) := by
        rw [List.getElem?_map, List.getElem?_range hi] at hp
        simpa using hp.symm
      obtain ⟨e0, e1, _⟩ := Classical.choose_spec (each i) hi
      rw [← ep] at e0 e1
      obtain ⟨c0, c1, _, _⟩ := hc i (by omega)
      obtain ⟨b, off, spt⟩ := x
      have hsp : spt = none := by simpa [Addr.add] using World.cell?_spot (hc 0 (by omega)).1
      subst hsp
      refine ⟨b, off, rfl, fun j v hv => ?_⟩
      rw [add_at] at c0 c1
      have hj : j = 0 ∨ j = 1 := by have := (List.getElem?_eq_some_iff.1 hv).1; rw [rwc_len] at this; omega
      rcases hj with rfl | rfl
      · have : v = .string p.s := by simpa [rwc] using hv.symm
        rw [this, ← e0]; exact c0
      · have : v = .int .u8 p.b := by simpa [rwc] using hv.symm
        rw [this, ← e1, Nat.add_assoc]; exact c1
    · obtain ⟨i, hi, rfl⟩ := List.mem_map.1 hq
      exact (Classical.choose_spec (each i) (by simpa using hi)).2.2
theorem open_quiet {a : Option Addr} {len cap : Nat} {d : DataW H} {p : List MemPlace} (h : DataW.Trod enc Yba.prog W base (fun _ => true) held 25 (.slice a len cap) d p) :
    ∃ L : List Sl, len = L.length ∧ RawS W a L ∧ (∀ s ∈ L, (0 ≤ s.b ∧ s.b ≤ 255) ∧ (Lit.int .i64 s.n).wf = true) ∧ ((len = 0 ∧ d = .nil) ∨ ∃ el sp, d = .slice el sp ∧ el.length = len) := by
  obtain ⟨fuel, hf⟩ := h
  rcases Deep.open_slice_pairs Yba.underlying25 Yba.underlying36 (by kernel_rfl) rfl rfl (by kernel_rfl) (by kernel_rfl) hf with ⟨hcs, hx⟩ | ⟨x, l, c, m, n, V0, V1, D0, D1, P0, P1, hcs, _, hl, _, hm, hx, hc⟩
  · simp [Value.cells] at hcs
    obtain ⟨rfl, rfl, rfl⟩ := hcs
    exact ⟨[], rfl, fun i p hp => by simp at hp, fun q hq => by simp at hq, .inl ⟨rfl, (Prod.mk.inj hx).1⟩⟩
  · simp [Value.cells] at hcs
    obtain ⟨rfl, rfl, rfl⟩ := hcs
    have hlm : len ≤ m := by rw [hm]; simpa using hl
    have each : ∀ i, ∃ q : Sl, i < len → V0 i = .int .u8 q.b ∧ V1 i = .int .i64 q.n ∧ (0 ≤ q.b ∧ q.b ≤ 255) ∧ (Lit.int .i64 q.n).wf = true := fun i => by
      by_cases hi : i < len
      · obtain ⟨b, e0, _, hb⟩ := DataW.trod_int Yba.underlying5 (hc i (by omega)).2.2.1
        obtain ⟨k, e1, _, hk⟩ := DataW.trod_int Yba.underlying3 (hc i (by omega)).2.2.2
        have hb' := bounds_u8 hb
        exact ⟨⟨b, k⟩, fun _ => ⟨by simpa using e0, by simpa using e1, ⟨hb'.1, by have := hb'.2; omega⟩, hk⟩⟩
      · exact ⟨⟨0, 0⟩, fun h => absurd h hi⟩
    refine ⟨(List.range len).map fun i => Classical.choose (each i), by simp, fun i p hp => ?_, fun q hq => ?_, .inr ⟨_, _, (Prod.mk.inj hx).1, by simp⟩⟩
    · have hi : i < len := by have := (List.getElem?_eq_some_iff.1 hp).1; simpa using this
      have ep : p = Classical.choose (each i) := by
        rw [List.getElem?_map, List.getElem?_range hi] at hp
        simpa using hp.symm
      obtain ⟨e0, e1, _⟩ := Classical.choose_spec (each i) hi
      rw [← ep] at e0 e1
      obtain ⟨c0, c1, _, _⟩ := hc i (by omega)
      obtain ⟨b, off, spt⟩ := x
      have hsp : spt = none := by simpa [Addr.add] using World.cell?_spot (hc 0 (by omega)).1
      subst hsp
      refine ⟨b, off, rfl, fun j v hv => ?_⟩
      rw [add_at] at c0 c1
      have hj : j = 0 ∨ j = 1 := by have h2 : (rsc p).length = 2 := rfl; have := (List.getElem?_eq_some_iff.1 hv).1; rw [h2] at this; omega
      rcases hj with rfl | rfl
      · have : v = .int .u8 p.b := by simpa [rsc] using hv.symm
        rw [this, ← e0]; exact c0
      · have : v = .int .i64 p.n := by simpa [rsc] using hv.symm
        rw [this, ← e1, Nat.add_assoc]; exact c1
    · obtain ⟨i, hi, rfl⟩ := List.mem_map.1 hq
      exact (Classical.choose_spec (each i) (by simpa using hi)).2.2
end
end Go.Proofs.Ybulkdsmy
