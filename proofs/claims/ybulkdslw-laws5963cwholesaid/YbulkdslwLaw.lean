import Derived.Test.YbulkdslwField
namespace Go.Proofs.Ybulkdslw
open Go.RowKit

theorem hid {p : Prop} (h : p) : Hid p := h

/-- What the slice that came in shows. -/
def Came (w : World) (ao : Option Addr) (n cap : Nat) (f : Nat → Int) : Prop :=
  (ao = none ∧ n = 0 ∧ cap = 0) ∨ ∃ x, ao = some x ∧ ∀ j, j < n → w.cell? (x.add j) = some (.int .u8 (f j))

theorem clone_any (ao : Option Addr) (n cap : Nat) (f : Nat → Int) (w : World) (hn : n ≤ 1048576) (h : Came w ao n cap f) :
    Calls Yba.prog 4 #[.slice ao n cap] w fun e w' => ∃ ao' cap', e = .returned (.slice ao' n cap') ∧ w'.ownsRow w.heap.size 5 1 (.slice ao' n cap') n ((List.range n).map fun j => .int .u8 (f j)) ∧ Below w.heap.size w w' := by
  rcases h with ⟨rfl, rfl, rfl⟩ | ⟨x, rfl, hc⟩
  · refine (clone_nil w).mono ?_
    rintro e w' ⟨rfl, rfl⟩
    exact ⟨none, 0, rfl, World.ownsRow_nil _ _ _ _, Below.refl _ _⟩
  · refine (clone_some x n cap f w hn hc).mono ?_
    rintro e w' ⟨g, cap', rfl, h1, h2⟩
    exact ⟨some ⟨g, 0, none⟩, cap', rfl, h1, h2⟩

theorem own_row {w : World} {base : Nat} {ao : Option Addr} {n cap : Nat} {f : Nat → Int} (h : w.ownsRow base 5 1 (.slice ao n cap) n ((List.range n).map fun j => .int .u8 (f j))) : RowAt w ao n f := by
  intro hn
  rcases h.2 with ⟨_, h0⟩ | ⟨g, c, cur, hv, _⟩
  · omega
  · simp only [Value.slice.injEq, true_and] at hv
    obtain ⟨rfl, rfl⟩ := hv
    refine ⟨g, 0, rfl, fun j hj => ?_⟩
    rw [Nat.zero_add, h.cellAt j (by omega)]
    simp [hj]

theorem came_row {w : World} {ao : Option Addr} {n cap : Nat} {f : Nat → Int} (h : Came w ao n cap f) : RowAt w ao n f := by
  intro hn
  rcases h with ⟨_, h0, _⟩ | ⟨x, rfl, hc⟩
  · omega
  · obtain ⟨b, off, sp⟩ := x
    have hsp : sp = none := by simpa [Addr.add] using World.cell?_spot (hc 0 hn)
    subst hsp
    refine ⟨b, off, rfl, fun j hj => ?_⟩
    have := hc j hj
    rwa [Addr.add_lit] at this

theorem row_below {B : Nat} {w w' : World} {ao : Option Addr} {n : Nat} {f : Nat → Int} (h : RowAt w ao n f) (hb : Below B w w') (hB : w.heap.size ≤ B) : RowAt w' ao n f := by
  intro hn
  obtain ⟨b, o, rfl, hc⟩ := h hn
  exact ⟨b, o, rfl, fun j hj => (hb.cell (p := ⟨b, o + j, none⟩) (Nat.lt_of_lt_of_le (World.block_lt_of_cell? w _ (hc j hj)) hB)).trans (hc j hj)⟩

theorem row_grown {w w' : World} {row : Option Nat} {ao : Option Addr} {n : Nat} {f : Nat → Int} (h : RowAt w ao n f) (hg : w.grownBy w' row) (hne : ∀ b o, 0 < n → ao = some ⟨b, o, none⟩ → some b ≠ row) : RowAt w' ao n f := by
  intro hn
  obtain ⟨b, o, rfl, hc⟩ := h hn
  exact ⟨b, o, rfl, fun j hj => hg.cell (hc j hj) (hne b o hn rfl)⟩

/-- Where 'be[8-m:]' begins. -/
def beA (b m : Nat) : Addr := if 8 = 8 - m then ⟨b, 0, none⟩ else ⟨b, 8 - m, none⟩
theorem slice_from (b m : Nat) (hm : m ≤ 8) (W : World) : Sem.run Yba.prog (Instr.sliceAt 28 (.pointer (some ⟨b, 0, none⟩)) (some (.int .i64 (8 - (m : Int)))) none none) W = .ok (.slice (some (beA b m)) m m) W := by
  have h := run_sliceAt_array_l (P := Yba.prog) W 28 ⟨b, 0, none⟩ Yba.underlying28 .i64 (8 - (m : Int)) (by omega) (by rw [Yba.alen28]; omega)
  rw [h, Yba.elem28, size5, Yba.alen28]
  have e1 : (8 - (m : Int)).toNat = 8 - m := by omega
  have e2 : 8 - (8 - m) = m := by omega
  simp only [slicedAt, Result.andThen, e1, e2, beA, Nat.mul_one, Addr.add_lit, Nat.zero_add]
theorem Yba.elem22 : Yba.prog.elem 22 = 5 := by kernel_rfl
theorem row_drewN {w : World} {ao : Option Addr} {n : Nat} {f : Nat → Int} (h : RowAt w ao n f) (k : Nat) : RowAt (w.drewN k) ao n f := h
theorem out_to (o : Option Addr) (n m c : Nat) (h : n + m ≤ c) (W : World) : Sem.run Yba.prog (Instr.sliceAt 22 (.slice o (n + m) c) none (some (.int .i64 (n : Int))) none) W = .ok (.slice o n c) W := by
  rw [run_sliceAt_slice W 22 _ _ _ _ Yba.underlying22, run_slice_h (P := Yba.prog) W 22 o (n + m) c Yba.underlying22 .i64 (n : Int) (by omega) (by omega), Yba.elem22, size5]
  cases o <;> simp [sliced, Result.andThen, Addr.add]
/-- Where 'out[n:]' begins. -/
def outA (o : Option Addr) (n c : Nat) : Option Addr := if c = n then o else o.map (·.add n)
theorem out_from (o : Option Addr) (n m c : Nat) (W : World) : Sem.run Yba.prog (Instr.sliceAt 22 (.slice o (n + m) c) (some (.int .i64 (n : Int))) none none) W = .ok (.slice (outA o n c) m (c - n)) W := by
  rw [run_sliceAt_slice W 22 _ _ _ _ Yba.underlying22, run_slice_l (P := Yba.prog) W 22 o (n + m) c Yba.underlying22 .i64 (n : Int) (by omega) (by omega), Yba.elem22, size5]
  have e1 : (n : Int).toNat = n := by omega
  have e2 : n + m - n = m := by omega
  simp only [sliced, Result.andThen, e1, e2, outA, Nat.mul_one]

theorem out_rows {w3 w6 : World} {o3 : Option Addr} {n m c3 : Nat} {f g : Nat → Int} (hb : Below w3.heap.size w3 w6)
    (h : o3 = none ∧ n + m = 0 ∧ c3 = 0 ∨ ∃ b', o3 = some ⟨b', 0, none⟩ ∧ n + m ≤ c3 ∧ ∀ j, j < n + m → w3.cell? ⟨b', j, none⟩ = some (.int .u8 (if j < n then f j else g (j - n)))) :
    n + m ≤ c3 ∧ RowAt w6 o3 n f ∧ RowAt w6 (outA o3 n c3) m g := by
  rcases h with ⟨_, h0, _⟩ | ⟨b, rfl, hc, hcell⟩
  · exact ⟨by omega, fun h => by omega, fun h => by omega⟩
  · have hcell6 : ∀ j, j < n + m → w6.cell? ⟨b, j, none⟩ = some (.int .u8 (if j < n then f j else g (j - n))) := fun j hj =>
      (hb.cell (p := ⟨b, j, none⟩) (World.block_lt_of_cell? w3 _ (hcell j hj))).trans (hcell j hj)
    refine ⟨hc, fun hn => ⟨b, 0, rfl, fun j hj => ?_⟩, fun hm => ⟨b, n, ?_, fun j hj => ?_⟩⟩
    · rw [Nat.zero_add, hcell6 j (by omega), if_pos hj]
    · unfold outA
      rw [if_neg (by omega)]
      simp [Addr.add_lit]
    · rw [hcell6 (n + j) (by omega), if_neg (by omega), show n + j - n = j from by omega]

theorem want_le {w : World} {b m : Nat} {v : Int} (hm : m ≤ 8) (h : ∀ j, j < 8 → w.cell? ⟨b, j, none⟩ = some (.int .u8 (byt v j))) : RowAt w (some ⟨b, 0, none⟩) m (fv true m v) :=
  fun _ => ⟨b, 0, rfl, fun j hj => by rw [Nat.zero_add]; exact h j (by omega)⟩
theorem want_be {w : World} {b m : Nat} {v : Int} (hm : m ≤ 8) (h : ∀ j, j < 8 → w.cell? ⟨b, j, none⟩ = some (.int .u8 (byt v (7 - j)))) : RowAt w (some (beA b m)) m (fv false m v) := by
  intro h0
  refine ⟨b, 8 - m, ?_, fun j hj => ?_⟩
  · unfold beA; rw [if_neg (by omega)]
  · rw [h (8 - m + j) (by omega), show 7 - (8 - m + j) = m - 1 - j from by omega]
    rfl

theorem came_below {B : Nat} {w w' : World} {ao : Option Addr} {n cap : Nat} {f : Nat → Int} (h : Came w ao n cap f) (hb : Below B w w') (hB : w.heap.size ≤ B) : Came w' ao n cap f := by
  rcases h with h | ⟨x, hx, hc⟩
  · exact .inl h
  · exact .inr ⟨x, hx, fun j hj => (hb.cell (Nat.lt_of_lt_of_le (World.block_lt_of_cell? w _ (hc j hj)) hB)).trans (hc j hj)⟩

set_option maxHeartbeats 1000000 in
theorem law_any (ao : Option Addr) (len cap : Nat) (f : Nat → Int) (v sel off adj : Int) (little : Bool) (w : World) (hlen : len ≤ 1048576) (hs0 : 0 ≤ sel) (hs1 : sel ≤ 255) (hv0 : 0 ≤ v) (hv1 : v < 18446744073709551616) (hcame : Came w ao len cap f) :
    Calls Yba.prog 3 #[.slice ao len cap, .int .u64 v, .int .u8 sel, .bool little, .int .i64 off, .int .i64 adj] w fun e w' => e = .returned (.bool true) ∧ Below w.heap.size w w' := by
  obtain ⟨m, hm⟩ : ∃ m : Nat, sel % 9 = (m : Int) := ⟨(sel % 9).toNat, by omega⟩
  have hm8 : m ≤ 8 := by omega
  have HC : Hid _ := hcame
  have HV : Hid (0 ≤ v ∧ v < 18446744073709551616) := ⟨hv0, hv1⟩
  clear hcame hv0 hv1
  have HC0 : Hid (∀ o, Came (w.alloc o) ao len cap f) := by
    intro o
    rcases HC.out with h | ⟨x, hx, hc⟩
    · exact .inl h
    · exact .inr ⟨x, hx, fun j hj => (World.cell?_alloc_lt _ _ _ (World.block_lt_of_cell? w _ (hc j hj))).trans (hc j hj)⟩
  go_enter Yba.func3, Yba.ntmps3
  go_wp2_with fail
  refine (clone_any ao len cap f _ hlen (HC0.out _)).mono ?_
  rintro e w1 ⟨o1, c1, rfl, own1, bel1⟩
  have HC1 : Hid (Came w1 ao len cap f) := came_below (HC0.out _) bel1 (Nat.le_refl _)
  have HR1 : Hid (RowAt w1 o1 len f) := own_row own1
  have sz1 : w.heap.size < w1.heap.size := by have := bel1.size; simp at this; omega
  have HB1 : Hid (Below w.heap.size w w1) := ((Below.refl _ _).alloc (Nat.le_refl _) _).trans (bel1.mono (by simp))
  have HL1 : Hid (∀ b o, 0 < len → o1 = some ⟨b, o, none⟩ → w.heap.size ≤ b ∧ b < w1.heap.size) := by
    intro b o hl ho
    have := own1.lt b (by rw [ho]; rfl)
    simp at this
    omega
  have b0 : w1.cell? ⟨w.heap.size, 0, none⟩ = some (.int .i64 m) := (bel1.cell (p := ⟨w.heap.size, 0, none⟩) (by simp)).trans (by simp)
  have b1 : w1.cell? ⟨w.heap.size, 1, none⟩ = some (.bool little) := (bel1.cell (p := ⟨w.heap.size, 1, none⟩) (by simp)).trans (by simp)
  have b2 : w1.cell? ⟨w.heap.size, 2, none⟩ = some (.int .i64 off) := (bel1.cell (p := ⟨w.heap.size, 2, none⟩) (by simp)).trans (by simp)
  have b3 : w1.cell? ⟨w.heap.size, 3, none⟩ = some (.int .i64 adj) := (bel1.cell (p := ⟨w.heap.size, 3, none⟩) (by simp)).trans (by simp)
  clear own1 bel1 HC0
  go_wp2_with fail
  refine (clone_any ao len cap f _ hlen HC1.out).mono ?_
  rintro e w2 ⟨o2, c2, rfl, own2, bel2⟩
  have HC2 : Hid (Came w2 ao len cap f) := came_below HC1.out bel2 (Nat.le_refl _)
  have HR2 : Hid (RowAt w2 o1 len f) := row_below HR1.out bel2 (Nat.le_refl _)
  have sz2 : w1.heap.size ≤ w2.heap.size := bel2.size
  have HB2 : Hid (Below w.heap.size w w2) := HB1.out.trans (bel2.mono (by omega))
  have HO2 : Hid (w2.ownsRow w1.heap.size 5 1 (.slice o2 len c2) len ((List.range len).map fun j => .int .u8 (f j))) := own2
  have HL2 : Hid (∀ b o, 0 < len → o2 = some ⟨b, o, none⟩ → w1.heap.size ≤ b ∧ b < w2.heap.size) := fun b o hl ho => own2.lt b (by rw [ho]; rfl)
  have d0 : w2.cell? ⟨w.heap.size, 0, none⟩ = some (.int .i64 m) := (bel2.cell (p := ⟨w.heap.size, 0, none⟩) sz1).trans b0
  have d1 : w2.cell? ⟨w.heap.size, 1, none⟩ = some (.bool little) := (bel2.cell (p := ⟨w.heap.size, 1, none⟩) sz1).trans b1
  have d2 : w2.cell? ⟨w.heap.size, 2, none⟩ = some (.int .i64 off) := (bel2.cell (p := ⟨w.heap.size, 2, none⟩) sz1).trans b2
  have d3 : w2.cell? ⟨w.heap.size, 3, none⟩ = some (.int .i64 adj) := (bel2.cell (p := ⟨w.heap.size, 3, none⟩) sz1).trans b3
  clear own2 bel2 b0 b1 b2 b3 HC1 HR1 HB1
  go_wp2_with fail
  refine (field_any o2 len c2 m w1.heap.size f little off adj v _ hm8 hlen HO2.out).mono ?_
  rintro e w3 ⟨v3, rfl, FP⟩
  obtain ⟨o3, c3, hv3, hout, hin, grow3⟩ := FP
  rw [hv3]
  clear hv3
  have HOut := hid hout
  have HIn := hid hin
  have HG3 := hid grow3
  clear hout hin grow3 d0 d1 d2 d3
  go_wp2
  have f4 : ∀ b j, b = w3.heap.size ∨ b = w3.heap.size + 1 → ((w3.alloc (.cells #[.int .u8 0, .int .u8 0, .int .u8 0, .int .u8 0, .int .u8 0, .int .u8 0, .int .u8 0, .int .u8 0] 28)).alloc (.cells #[.int .u8 0, .int .u8 0, .int .u8 0, .int .u8 0, .int .u8 0, .int .u8 0, .int .u8 0, .int .u8 0] 28)).frozen? ⟨b, j, none⟩ = false := by
    rintro b j (rfl | rfl)
    · rw [World.frozen?_alloc_past _ _ _ (by simp)]; simp
    · simp
  have c4 : ∀ b j, b = w3.heap.size ∨ b = w3.heap.size + 1 → j < 8 → ∃ u, ((w3.alloc (.cells #[.int .u8 0, .int .u8 0, .int .u8 0, .int .u8 0, .int .u8 0, .int .u8 0, .int .u8 0, .int .u8 0] 28)).alloc (.cells #[.int .u8 0, .int .u8 0, .int .u8 0, .int .u8 0, .int .u8 0, .int .u8 0, .int .u8 0, .int .u8 0] 28)).cell? ⟨b, j, none⟩ = some u := by
    intro b j hb hj
    have e : ((w3.alloc (.cells #[.int .u8 0, .int .u8 0, .int .u8 0, .int .u8 0, .int .u8 0, .int .u8 0, .int .u8 0, .int .u8 0] 28)).alloc (.cells #[.int .u8 0, .int .u8 0, .int .u8 0, .int .u8 0, .int .u8 0, .int .u8 0, .int .u8 0, .int .u8 0] 28)).cell? ⟨b, j, none⟩ = (#[Value.int .u8 0, Value.int .u8 0, Value.int .u8 0, Value.int .u8 0, Value.int .u8 0, Value.int .u8 0, Value.int .u8 0, Value.int .u8 0] : Array Value)[j]? := by
      rcases hb with rfl | rfl
      · simp
      · simp
    rw [e]
    exact ⟨_, Array.getElem?_eq_getElem (by simpa using hj)⟩
  have z4 : ((w3.alloc (.cells #[.int .u8 0, .int .u8 0, .int .u8 0, .int .u8 0, .int .u8 0, .int .u8 0, .int .u8 0, .int .u8 0] 28)).alloc (.cells #[.int .u8 0, .int .u8 0, .int .u8 0, .int .u8 0, .int .u8 0, .int .u8 0, .int .u8 0, .int .u8 0] 28)).heap.size = w3.heap.size + 2 := by simp
  have B4 : Below w3.heap.size w3 ((w3.alloc (.cells #[.int .u8 0, .int .u8 0, .int .u8 0, .int .u8 0, .int .u8 0, .int .u8 0, .int .u8 0, .int .u8 0] 28)).alloc (.cells #[.int .u8 0, .int .u8 0, .int .u8 0, .int .u8 0, .int .u8 0, .int .u8 0, .int .u8 0, .int .u8 0] 28)) := ((Below.refl _ _).alloc (Nat.le_refl _) _).alloc (by simp) _
  generalize ((w3.alloc (.cells #[.int .u8 0, .int .u8 0, .int .u8 0, .int .u8 0, .int .u8 0, .int .u8 0, .int .u8 0, .int .u8 0] 28)).alloc (.cells #[.int .u8 0, .int .u8 0, .int .u8 0, .int .u8 0, .int .u8 0, .int .u8 0, .int .u8 0, .int .u8 0] 28)) = W4 at f4 c4 z4 B4 ⊢
  have hP6 := put6 w3.heap.size v W4.drew HV.out.1 HV.out.2 (fun j hj => c4 _ j (.inl rfl) hj) (fun j => f4 _ j (.inl rfl))
  have HP6 := hid hP6
  have HF4 := hid f4
  have HC4 := hid c4
  have HB4 := hid B4
  clear hP6 f4 c4 B4
  go_region_with (go_at_call 6; refine HP6.out.mono ?_; rintro e w5 ⟨rfl, hg5, hc5⟩)
  have e5 : ∀ j, j < 8 → ∃ u, w5.cell? ⟨w3.heap.size + 1, j, none⟩ = some u := fun j hj => by
    obtain ⟨u, hu⟩ := HC4.out _ j (.inr rfl) hj
    exact ⟨u, hg5.cell hu (by simp)⟩
  have f5 : ∀ j, w5.frozen? ⟨w3.heap.size + 1, j, none⟩ = false := fun j =>
    (World.frozen?_of_block (hg5.block (w3.heap.size + 1) (by show _ < W4.heap.size; omega) (by simp))).trans (HF4.out _ j (.inr rfl))
  have HP7 := hid (put7 (w3.heap.size + 1) v w5.drew HV.out.1 HV.out.2 e5 f5)
  have HG5 := hid hg5
  have HC5 := hid hc5
  clear hg5 hc5 e5 f5
  go_wp2
  go_region_with (go_at_call 7; refine HP7.out.mono ?_; rintro e w6 ⟨rfl, hg6, hc6⟩)
  have be6 : ∀ j, j < 8 → w6.cell? ⟨w3.heap.size, j, none⟩ = some (.int .u8 (byt v (7 - j))) := fun j hj => hg6.cell (HC5.out j hj) (by simp)
  have s5 : w3.heap.size + 2 ≤ w5.heap.size := by have := HG5.out.size; rw [← z4]; exact this
  have B6 : Below w3.heap.size w3 w6 := (((HB4.out.drew).grown HG5.out (by show _ ≤ W4.heap.size; omega) (fun k hk => by cases hk; exact Nat.le_refl _)).drew).grown hg6 (by show _ ≤ w5.heap.size; omega) (fun k hk => by cases hk; omega)
  have o2lt : ∀ k, (Value.slice o2 len c2).ownBlock = some k → w1.heap.size ≤ k ∧ k < w2.heap.size := fun k hk => HO2.out.lt k hk
  have BW : Below w.heap.size w w6 := (HB2.out.grown HG3.out (by omega) (fun k hk => by have := (o2lt k hk).1; omega)).trans (B6.mono (by have := HG3.out.size; omega))
  have R1 : RowAt w6 o1 len f := row_below (row_grown HR2.out HG3.out (fun b o hl ho hk => by have h1 := HL1.out b o hl ho; have h2 := o2lt b hk.symm; omega)) B6 (Nat.le_refl _)
  have RD : RowAt w6 ao len f := row_below (row_grown (came_row HC2.out) HG3.out (fun b o hl ho hk => by
    have h2 := (o2lt b hk.symm).1
    obtain ⟨b', o', e', h'⟩ := came_row HC.out hl
    rw [e'] at ho
    simp at ho
    have := World.block_lt_of_cell? w _ (h' 0 hl)
    simp at this
    omega)) B6 (Nat.le_refl _)
  have RI : RowAt w6 o2 len f := row_below (fun hl => by obtain ⟨b, hb, hcb⟩ := HIn.out hl; exact ⟨b, 0, hb, fun j hj => by rw [Nat.zero_add]; exact hcb j hj⟩) B6 (Nat.le_refl _)
  have HR1 := hid R1
  have HRD := hid RD
  have HRI := hid RI
  have HBW := hid BW
  have HB6 := hid B6
  have HC6 := hid hc6
  have HBE := hid be6
  clear R1 RD RI BW B6 hc6 be6 hg6 o2lt HP6 HP7 HB4 HG5 HC5 HF4 HC4 HO2 HB2 HL1 HL2 HR2 HC2 HC HG3 HIn s5
  obtain ⟨hc3, RO, RT⟩ := out_rows HB6.out HOut.out
  have HRO := hid RO
  have HRT := hid RT
  clear RO RT HOut HB6
  have st := out_to o3 len m c3 hc3
  have sf := out_from o3 len m c3
  have sl := slice_to (w3.heap.size + 1) m hm8
  have sb := slice_from w3.heap.size m hm8
  have hne : (((len : Int) + (m : Int)) != (len : Int) + (m : Int)) = false := by simp
  cases little
  · have HW := hid (want_be hm8 HBE.out)
    clear HBE HC6
    go_wp2_with fail
    refine (equal_true o3 o1 len c3 c1 f _ (by omega) HRO.out HR1.out).mono ?_
    rintro e w7 ⟨rfl, q1, rfl⟩
    go_wp2_with fail
    refine (equal_true (outA o3 len c3) (some (beA w3.heap.size m)) m (c3 - len) m _ _ (by omega) (by exact row_drewN HRT.out _) (by exact row_drewN HW.out _)).mono ?_
    rintro e w8 ⟨rfl, q2, rfl⟩
    go_wp2_with fail
    refine (equal_true o2 o1 len c2 c1 f _ (by omega) (by exact HRI.out) (by exact HR1.out)).mono ?_
    rintro e w9 ⟨rfl, q3, rfl⟩
    go_wp2_with fail
    refine (equal_true ao o1 len cap c1 f _ (by omega) (by exact HRD.out) (by exact HR1.out)).mono ?_
    rintro e w10 ⟨rfl, q4, rfl⟩
    go_wp2
    go_ret
    exact ⟨rfl, below_drewN HBW.out _⟩
  · have HW := hid (want_le hm8 HC6.out)
    clear HBE HC6
    go_wp2_with fail
    refine (equal_true o3 o1 len c3 c1 f _ (by omega) HRO.out HR1.out).mono ?_
    rintro e w7 ⟨rfl, q1, rfl⟩
    go_wp2_with fail
    refine (equal_true (outA o3 len c3) (some ⟨w3.heap.size + 1, 0, none⟩) m (c3 - len) 8 _ _ (by omega) (by exact row_drewN HRT.out _) (by exact row_drewN HW.out _)).mono ?_
    rintro e w8 ⟨rfl, q2, rfl⟩
    go_wp2_with fail
    refine (equal_true o2 o1 len c2 c1 f _ (by omega) (by exact HRI.out) (by exact HR1.out)).mono ?_
    rintro e w9 ⟨rfl, q3, rfl⟩
    go_wp2_with fail
    refine (equal_true ao o1 len cap c1 f _ (by omega) (by exact HRD.out) (by exact HR1.out)).mono ?_
    rintro e w10 ⟨rfl, q4, rfl⟩
    go_wp2
    go_ret
    exact ⟨rfl, below_drewN HBW.out _⟩

set_option maxHeartbeats 400000 in
/-- More than 2^20 bytes: nothing is asked. -/
theorem law_long (a : Option Addr) (len cap : Nat) (v sel off adj : Int) (little : Bool) (w : World) (h : 1048576 < len) :
    Calls Yba.prog 3 #[.slice a len cap, .int .u64 v, .int .u8 sel, .bool little, .int .i64 off, .int .i64 adj] w fun e w' => e = .returned (.bool true) ∧ Below w.heap.size w w' := by
  go_enter Yba.func3, Yba.ntmps3
  go_wp2
  go_ret
  exact ⟨rfl, Below.refl _ _⟩

end Go.Proofs.Ybulkdslw
