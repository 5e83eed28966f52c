import Derived.Test.YbulkdsjeGreatDoorPf1
set_option linter.unusedVariables false
set_option linter.unusedSimpArgs false
namespace Go.Proofs.YbulkdsjeGreatDoor
open Go.ChangeShapes Go.WideShapes Go.ChangeAt Go.RowKit
set_option maxRecDepth 100000

/-- The door's own heap meets the condition. -/
theorem door_met (os : Os) (args : Array Value) : laidMetH Ybaz.prog Rows.lawS5958AWholeRow.laid ((World.doorLaid Ybaz.prog 400 os).forCall (fun _ _ => 0) ⟨#[], args, []⟩).memory :=
  laidMetH_of_parts3 (fuel := 8) (laidMet_of_run' 8 (by kernel_rfl) (by kernel_rfl)) (by kernel_rfl) (by kernel_rfl)

/-- The whole law, at whatever came in. -/
theorem walk (pv : Value) (pn : List Nat) (name : ByteArray) (a b c h r x : Nat) (pa : Option Addr) (pb po n pc : Nat) (dt : Nat → Nat) (U : World) (src : Src U pv (u8s pn)) (hp : PT U pa pb po n dt) (g : GL U) (ha : a < 256) (hb : b < 256) (hc : c < 256) (hh : h < 18446744073709551616) (hr : r < 18446744073709551616) (hx : x < 18446744073709551616) (hpn : pn.length ≤ 1000000000000000000) (hnm : name.size ≤ 1000000000000000000) (hn : n ≤ 1000000000000000000) :
    Calls Ybaz.prog 3 #[pv, .string name, .agg #[.int .u8 (a : Int), .int .u8 (b : Int), .int .u8 (c : Int), .int .u64 (h : Int), .int .u64 (r : Int), .float .f64 x], .slice pa n pc] U fun e w' => e = .returned (.bool true) ∧ Below U.heap.size U w' := by
  have h3 : 3 < U.heap.size := by
    obtain ⟨k, _, hk⟩ := g.tab 0 (by omega)
    exact World.block_lt_of_cell? U _ hk
  by_cases big : 65536 < pn.length + name.size + n
  · refine (law_long pv pn name a b c h r x pa n pc U src hpn hnm hn big).mono ?_
    rintro e w' ⟨rfl, k⟩
    exact ⟨rfl, k.toBelow (fun _ _ h => h) (Nat.le_refl _)⟩
  · refine (law_short pv pn name a b c h r x pa pb po n pc dt U src hp g h3 ha hb hc hh hr hx (by omega)).mono ?_
    rintro e w' ⟨rfl, k⟩
    exact ⟨rfl, k.toBelow (fun _ _ h => h) (Nat.le_refl _)⟩
theorem wf_u8 {z : Int} (h : (Lit.int .u8 z).wf = true) : ∃ m : Nat, m < 256 ∧ z = (m : Int) := by
  have := bounds_u8 h
  exact ⟨z.toNat, by omega, by omega⟩
theorem wf_u16 {z : Int} (h : (Lit.int .u16 z).wf = true) : ∃ m : Nat, m < 65536 ∧ z = (m : Int) := by
  have := bounds_u16 h
  exact ⟨z.toNat, by omega, by omega⟩
theorem wf_u64 {z : Int} (h : (Lit.int .u64 z).wf = true) : ∃ m : Nat, m < 18446744073709551616 ∧ z = (m : Int) := by
  have := bounds_u64 h
  exact ⟨z.toNat, by omega, by omega⟩
section
variable {H : Type} {enc : TypeId × Value → H} {W : World}
/-- The six fields of the rule. -/
theorem open_rule {b0 : Nat} {v : Value} {d : DataW H} {p : List MemPlace} (hv : Value.okWide Ybaz.prog W .any b0 26 v) (h : DataW.Trod enc Ybaz.prog W 0 (fun _ => true) true 26 v d p) :
    ∃ a b c q r x : Nat, v = .agg #[.int .u8 (a : Int), .int .u8 (b : Int), .int .u8 (c : Int), .int .u64 (q : Int), .int .u64 (r : Int), .float .f64 x] ∧ a < 256 ∧ b < 256 ∧ c < 256 ∧ q < 18446744073709551616 ∧ r < 18446744073709551616 ∧ x < 18446744073709551616 := by
  obtain ⟨cs, rfl, hsz⟩ := okWide_struct Ybaz.underlying26 hv
  rw [Ybaz.cells26] at hsz
  obtain ⟨l⟩ := cs
  match l, hsz with
  | [c0, c1, c2, c3, c4, c5], _ =>
    obtain ⟨fuel, hf⟩ := h
    obtain ⟨xs, n, _, hx, _, hxl, hall⟩ := DataW.trod_struct Ybaz.underlying26 hf
    have at' : ∀ i, i < 6 → ∃ y, xs[i]? = some y := fun i hi => ⟨xs[i]'(by rw [hxl]; exact hi), List.getElem?_eq_getElem (by rw [hxl]; exact hi)⟩
    have f0 := hall 0 _ rfl
    have f1 := hall 1 _ rfl
    have f2 := hall 2 _ rfl
    have f3 := hall 3 _ rfl
    have f4 := hall 4 _ rfl
    have f5 := hall 5 _ rfl
    obtain ⟨y0, e0⟩ := at' 0 (by omega)
    obtain ⟨y1, e1⟩ := at' 1 (by omega)
    obtain ⟨y2, e2⟩ := at' 2 (by omega)
    obtain ⟨y3, e3⟩ := at' 3 (by omega)
    obtain ⟨y4, e4⟩ := at' 4 (by omega)
    obtain ⟨y5, e5⟩ := at' 5 (by omega)
    rw [e0] at f0
    rw [e1] at f1
    rw [e2] at f2
    rw [e3] at f3
    rw [e4] at f4
    rw [e5] at f5
    obtain ⟨z0, q0, _, w0⟩ := DataW.trod_int Ybaz.underlying5 f0
    obtain ⟨z1, q1, _, w1⟩ := DataW.trod_int Ybaz.underlying5 f1
    obtain ⟨z2, q2, _, w2⟩ := DataW.trod_int Ybaz.underlying5 f2
    obtain ⟨z3, q3, _, w3⟩ := DataW.trod_int Ybaz.underlying23 f3
    obtain ⟨z4, q4, _, w4⟩ := DataW.trod_int Ybaz.underlying23 f4
    obtain ⟨z5, q5, w5⟩ := trod_flt Ybaz.underlying24 f5
    simp [Value.cells, Ybaz.cells5, Ybaz.cells23, Ybaz.cells24] at q0 q1 q2 q3 q4 q5
    obtain ⟨m0, h0, rfl⟩ := wf_u8 w0
    obtain ⟨m1, h1, rfl⟩ := wf_u8 w1
    obtain ⟨m2, h2, rfl⟩ := wf_u8 w2
    obtain ⟨m3, h3, rfl⟩ := wf_u64 w3
    obtain ⟨m4, h4, rfl⟩ := wf_u64 w4
    have h5 : z5 < 18446744073709551616 := by simpa [Lit.wf] using w5
    exact ⟨m0, m1, m2, m3, m4, z5, by rw [q0, q1, q2, q3, q4, q5], h0, h1, h2, h3, h4, h5⟩
/-- The bytes that stand ahead. -/
theorem open_ahead {b0 : Nat} {a0 : Option Addr} {l0 c0 : Nat} {d : DataW H} {p : List MemPlace} (hv : Value.okWide Ybaz.prog W .any b0 22 (.slice a0 l0 c0)) (h : DataW.Trod enc Ybaz.prog W 0 (fun _ => true) true 22 (.slice a0 l0 c0) d p) :
    ∃ pn : List Nat, pn.length = l0 ∧ Src W (.slice a0 l0 c0) (u8s pn) ∧ ((∃ e s, d = .slice e s ∧ e.length = l0) ∨ l0 = 0) := by
  obtain ⟨fuel, hf⟩ := h
  rcases open_ints Ybaz.underlying22 Ybaz.underlying5 Ybaz.cells5 hf with ⟨hcs, _⟩ | ⟨x, l, c, zs, hcs, _, hl, hm, hz, hx, hcell, hwz⟩
  · simp [Value.cells] at hcs
    obtain ⟨rfl, rfl, rfl⟩ := hcs
    exact ⟨[], rfl, ⟨none, 0, rfl, fun _ => ⟨rfl, rfl⟩, fun ad h => (by cases h), Nat.le_refl _⟩, .inr rfl⟩
  · simp [Value.cells] at hcs
    obtain ⟨rfl, rfl, rfl⟩ := hcs
    have hz' : zs.length = c0 := by simpa using hz
    have hd := (Prod.mk.inj hx).1
    have hpl : ((zs.take l0).map Int.toNat).length = l0 := by simp; omega
    refine ⟨(zs.take l0).map Int.toNat, hpl, ⟨some x, c0, by rw [u8s_len, hpl], fun h => (by cases h), fun ad had => ?_, by rw [u8s_len, hpl]; exact hl⟩, .inl ⟨_, _, hd, by simp [lits]; omega⟩⟩
    cases had
    obtain ⟨b, o, sp⟩ := x
    have hsp : sp = none := by
      simp only [Value.okWide, Ybaz.underlying22, Cell.okWide, Cell.ok, World.has] at hv
      exact hv.2.2.2.1
    subst hsp
    refine ⟨b, o, rfl, fun j u hj => ?_⟩
    have hjl : j < l0 := by have := (List.getElem?_eq_some_iff.1 hj).1; rw [u8s_len, hpl] at this; exact this
    have c := hcell j (by omega)
    rw [Addr.add_lit] at c
    rw [c]
    have hjz : j < zs.length := by omega
    have hwj := bounds_u8 (hwz (zs[j]) (List.getElem_mem hjz))
    simp [u8s, List.getElem?_take, hjl, hjz] at hj
    rw [← hj]
    simp [hjz]
    omega
/-- The points. -/
theorem open_points {a3 : Option Addr} {l3 c3 : Nat} {d : DataW H} {p : List MemPlace} (h : DataW.Trod enc Ybaz.prog W 0 (fun _ => true) true 27 (.slice a3 l3 c3) d p) :
    ∃ pb po dt, PT W a3 pb po l3 dt ∧ ((∃ e s, d = .slice e s ∧ e.length = l3) ∨ l3 = 0) := by
  obtain ⟨fuel, hf⟩ := h
  rcases Deep.open_slice_pairs Ybaz.underlying27 Ybaz.underlying62 Ybaz.cells62 rfl rfl Ybaz.cells60 Ybaz.cells24 hf with ⟨hcs, _⟩ | ⟨x, l, c, m, n, V0, V1, D0, D1, P0, P1, hcs, _, hl, hm, hmm, hx, hall⟩
  · simp [Value.cells] at hcs
    obtain ⟨rfl, rfl, rfl⟩ := hcs
    exact ⟨0, 0, fun _ => 0, ⟨fun h => by omega, fun i hi => by omega⟩, .inr rfl⟩
  · simp [Value.cells] at hcs
    obtain ⟨rfl, rfl, rfl⟩ := hcs
    have hm' : m = c3 := by simpa using hmm
    subst hm'
    have hd := (Prod.mk.inj hx).1
    obtain ⟨b, o, sp⟩ := x
    have key : ∀ i, i < l3 → ∃ k : Nat, k < 65536 ∧ W.cell? ⟨b, o + i * 2, none⟩ = some (.int .u16 (k : Int)) ∧ ∃ y, W.cell? ⟨b, o + i * 2 + 1, none⟩ = some (.float .f64 y) := fun i hi => by
      have hsp : sp = none := by simpa [Addr.add] using World.cell?_spot (hall 0 (by omega)).1
      subst hsp
      obtain ⟨g0, g1, t0, t1⟩ := hall i (by omega)
      obtain ⟨z, hz, _, hw⟩ := DataW.trod_int Ybaz.underlying60 t0
      obtain ⟨y, hy, _⟩ := trod_flt Ybaz.underlying24 t1
      obtain ⟨k, hk, rfl⟩ := wf_u16 hw
      rw [Addr.add_lit] at g0 g1
      have e0 : V0 i = .int .u16 (k : Int) := by simpa using hz
      have e1 : V1 i = .float .f64 y := by simpa using hy
      rw [e0] at g0
      rw [e1] at g1
      exact ⟨k, hk, g0, y, by rw [Nat.add_assoc]; exact g1⟩
    refine ⟨b, o, fun i => if hi : i < l3 then Classical.choose (key i hi) else 0, ⟨fun h0 => ?_, fun i hi => ?_⟩, .inl ⟨_, _, hd, by simp⟩⟩
    · have hsp : sp = none := by simpa [Addr.add] using World.cell?_spot (hall 0 (by omega)).1
      rw [hsp]
    · have := Classical.choose_spec (key i hi)
      simpa only [dif_pos hi] using this
end
end Go.Proofs.YbulkdsjeGreatDoor
