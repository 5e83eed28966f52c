import Derived.Test.YbulkdsmyDoorRead
import Derived.LaidEqlPtr
namespace Go.Proofs.YbulkdsmyDoor
open Go.RowKit

/-- What the slice that came in shows. -/
def Came (w : World) (ao : Option Addr) (n cap : Nat) (f : Nat → Int) : Prop :=
  (ao = none ∧ n = 0 ∧ cap = 0) ∨ ∃ x, ao = some x ∧ ∀ j, j < n → w.cell? (x.add j) = some (.int .u8 (f j))

theorem came_row {w : World} {ao : Option Addr} {n cap : Nat} {f : Nat → Int} (h : Came w ao n cap f) : RowAt w ao n f := by
  intro hn
  rcases h with ⟨_, h0, _⟩ | ⟨x, rfl, hc⟩
  · omega
  · obtain ⟨b, off, sp⟩ := x
    have hsp : sp = none := by simpa [Addr.add] using World.cell?_spot (hc 0 hn)
    subst hsp
    refine ⟨b, off, rfl, fun j hj => ?_⟩
    have := hc j hj
    rwa [Addr.add_lit] at this

theorem row_below {B : Nat} {w w' : World} {ao : Option Addr} {n : Nat} {f : Nat → Int} (h : RowAt w ao n f) (hb : Below B w w') (hB : w.heap.size ≤ B) : RowAt w' ao n f := by
  intro hn
  obtain ⟨b, o, rfl, hc⟩ := h hn
  exact ⟨b, o, rfl, fun j hj => (hb.cell (p := ⟨b, o + j, none⟩) (Nat.lt_of_lt_of_le (World.block_lt_of_cell? w _ (hc j hj)) hB)).trans (hc j hj)⟩

theorem made_row {w : World} {B n : Nat} {xs : List Value} (h : w.ownsRow B 5 1 (.slice (some ⟨B, 0, none⟩) n n) n xs) : xs.length = n ∧ w.heap[B]? = some (.cells xs.toArray 5 (0, 0)) := by
  have h1 := h.1
  rcases h.2 with ⟨h', _⟩ | ⟨g, c, cur, h', _, hg, _, _, hcs, htake⟩
  · cases h'
  · simp only [Value.slice.injEq, Option.some.injEq, Addr.mk.injEq, and_true, true_and] at h'
    obtain ⟨rfl, rfl⟩ := h'
    refine ⟨by omega, ?_⟩
    rw [List.take_of_length_le (by rw [Array.length_toList, hcs]; exact Nat.le_refl _)] at htake
    rw [hg, ← htake]

theorem comp35 : (Ybad.prog.info? 35).map (·.comparable) = some true := by kernel_rfl
theorem size37 : (Ybad.prog.info? 37).map (·.size) = some 1 := by kernel_rfl
/-- '==' between one and the same error. -/
theorem same_err (a : Addr) (w : World) : (binOp .eql 24 (.iface 35 (.pointer (some a))) (.iface 35 (.pointer (some a)))).run Ybad.prog w = .ok (.bool true) w := by
  obtain ⟨i, hi, hc⟩ := Option.map_eq_some_iff.1 comp35
  obtain ⟨j, hj, _⟩ := Option.map_eq_some_iff.1 size37
  exact run_eql_iface_ptr_same w a Ybad.underlying24 Ybad.underlying35 hi hc hj

theorem size5i : (Ybad.prog.info? 5).map (·.size) = some 1 := by kernel_rfl
/-- '==' between one and the same address. -/
theorem same_ptr (a : Addr) (w : World) : (binOp .eql 33 (.pointer (some a)) (.pointer (some a))).run Ybad.prog w = .ok (.bool true) w := by
  obtain ⟨j, hj, _⟩ := Option.map_eq_some_iff.1 size5i
  exact run_eql_ptr_same w a Ybad.underlying33 hj

theorem copied {w : World} {g n : Nat} {xs cs : List Value} {f : Nat → Int} (hx : xs.length = n) (hcs : cs = (List.range n).map fun j => Value.int .u8 (f j)) (h : w.heap[g]? = some (.cells (splice xs 0 cs).toArray 5 (0, 0))) :
    ∀ j, j < n → w.cell? ⟨g, j, none⟩ = some (.int .u8 (f j)) := by
  intro j hj
  have hl : cs.length = n := by rw [hcs]; simp
  have e : splice xs 0 cs = cs := by
    unfold splice
    rw [List.take_zero, List.nil_append, List.drop_eq_nil_of_le (by omega), List.append_nil]
  rw [cell_of_row w g j _ 5 (0, 0) h, e, hcs]
  simp [hj]

theorem row_alloc {w : World} {ao : Option Addr} {n : Nat} {f : Nat → Int} (h : RowAt w ao n f) (o : Obj) : RowAt (w.alloc o) ao n f := by
  intro hn
  obtain ⟨b, o', rfl, hc⟩ := h hn
  exact ⟨b, o', rfl, fun j hj => (World.cell?_alloc_lt _ _ _ (World.block_lt_of_cell? w _ (hc j hj))).trans (hc j hj)⟩
theorem row_set {w : World} {b o n R i : Nat} {f : Nat → Int} (h : RowAt w (some ⟨b, o, none⟩) n f) (hR : R ≠ b) (v : Value) : RowAt (w.setCell ⟨R, i, none⟩ v) (some ⟨b, o, none⟩) n f := by
  intro hn
  obtain ⟨b', o', e, hc⟩ := h hn
  refine ⟨b', o', e, fun j hj => ?_⟩
  simp at e
  rw [World.cell?_setCell_other _ _ _ _ (fun q => hR ((congrArg Addr.block q).trans e.1.symm))]
  exact hc j hj
theorem row_of {w : World} {b n : Nat} {f : Nat → Int} (h : ∀ j, j < n → w.cell? ⟨b, j, none⟩ = some (.int .u8 (f j))) : RowAt w (some ⟨b, 0, none⟩) n f :=
  fun _ => ⟨b, 0, rfl, fun j hj => by rw [Nat.zero_add]; exact h j hj⟩

theorem spell_bd (f : Nat → Int) (hf : ∀ j, 0 ≤ f j ∧ f j ≤ 255) : ∀ k, 0 ≤ spell f k ∧ spell f k < 256 ^ k
  | 0 => by simp [spell]
  | k + 1 => by
    have h := spell_bd f hf k
    have hz := hf k
    simp only [spell, Int.pow_succ]
    omega
theorem spell_bd7 (f : Nat → Int) (hf : ∀ j, 0 ≤ f j ∧ f j ≤ 255) (k : Nat) (hk : k ≤ 7) : 0 ≤ spell f k ∧ spell f k < 72057594037927936 := by
  have h := spell_bd f hf k
  refine ⟨h.1, Int.lt_of_lt_of_le h.2 ?_⟩
  have h2 : ((256 ^ k : Nat) : Int) ≤ ((256 ^ 7 : Nat) : Int) := Int.ofNat_le.2 (Nat.pow_le_pow_right (by decide) hk)
  have e : ((256 ^ 7 : Nat) : Int) = 72057594037927936 := by decide
  rw [e] at h2
  have e3 : ((256 ^ k : Nat) : Int) = (256 : Int) ^ k := by simp
  rw [e3] at h2
  exact h2
theorem or_low (S z : Int) (h0 : 0 ≤ S) (h1 : S < 72057594037927936) (z0 : 0 ≤ z) (z1 : z ≤ 255) : bits .or .u64 (S * 256) z = S * 256 + z :=
  bits_join .u64 64 (by decide) wraps_u64 8 (S * 256) z (by omega) (by omega) (by omega) z0 (by omega) (by omega)

/-- Where 'b[8:]' begins. -/
def restB (b o cap : Nat) : Addr := if cap = 8 then ⟨b, o, none⟩ else ⟨b, o + 8, none⟩
theorem cut_b (b o n c : Nat) (h : 8 ≤ n) (W : World) : Sem.run Ybad.prog (Instr.sliceAt 22 (.slice (some ⟨b, o, none⟩) n c) (some (.int .i64 8)) none none) W = .ok (.slice (some (restB b o c)) (n - 8) (c - 8)) W := by
  rw [run_sliceAt_slice W 22 _ _ _ _ Ybad.underlying22, run_slice_l (P := Ybad.prog) W 22 (some ⟨b, o, none⟩) n c Ybad.underlying22 .i64 8 (by omega) (by omega), Ybad.elem22, size5]
  unfold restB
  by_cases e : c = 8
  · subst e; simp [sliced, Result.andThen]
  · simp [sliced, Result.andThen, Addr.add, e]
theorem row_restB {w : World} {b o n c : Nat} {f : Nat → Int} (hn : 8 ≤ n) (hc : n ≤ c) (h : ∀ j, j < n → w.cell? ⟨b, o + j, none⟩ = some (.int .u8 (f j))) : RowAt w (some (restB b o c)) (n - 8) (fun j => f (8 + j)) := by
  intro h0
  refine ⟨b, o + 8, by unfold restB; rw [if_neg (by omega)], fun j hj => ?_⟩
  rw [Nat.add_assoc]
  exact h (8 + j) (by omega)
theorem row_restA {w : World} {b n : Nat} {f : Nat → Int} (h : RowAt w (some ⟨b, 0, none⟩) n f) : RowAt w (some (restA b n)) (n - 8) (fun j => f (8 + j)) := by
  intro h0
  obtain ⟨b', o', e, hc⟩ := h (by omega)
  simp at e
  obtain ⟨rfl, rfl⟩ := e
  refine ⟨b, 8, by unfold restA; rw [if_neg (by omega)], fun j hj => ?_⟩
  have := hc (8 + j) (by omega)
  rwa [Nat.zero_add] at this

set_option maxHeartbeats 400000 in
theorem law_pre (ao : Option Addr) (len cap : Nat) (f : Nat → Int) (w : World) (hlen : len ≤ 1048576) (hcame : Came w ao len cap f) :
    Calls Ybad.prog 3 #[.slice ao len cap, .bool true] w fun e w' => e = .returned (.bool true) ∧ Below w.heap.size w w' := by
  obtain ⟨i0, hi, hz0, hz1, hz2⟩ := info_parts Ybad.info5
  have hsz : (Ybad.prog.info? 5).map (·.size) = some 1 := by rw [hi]; simp [hz1]
  have HR := hid (came_row hcame)
  have HC := hid hcame
  clear hcame
  go_enter Ybad.func3, Ybad.ntmps3
  go_wp2_with (at_make; refine wpList_make_full _ rfl (.tmp 15) (.tmp 15) 22 rfl w.heap.size 5 i0 (.int .u8 0) 1 Ybad.underlying22 hi hz0 hz1 _ _ _ _ len rfl rfl rfl rfl (by rw [hz2]; omega) (by unfold maxLen; omega) (Nat.le_refl _) ?_)
  intro w1 own1 grow1
  obtain ⟨xs, hxl, hxg⟩ : ∃ xs : List Value, xs.length = len ∧ w1.heap[w.heap.size]? = some (.cells xs.toArray 5 (0, 0)) := ⟨_, made_row own1⟩
  have bel1 : Below w.heap.size w w1 := (Below.refl _ _).grown grow1 (Nat.le_refl _) (fun k h => by cases h)
  clear own1 grow1
  obtain ⟨cs, hcs⟩ : ∃ cs, cs = (List.range len).map fun j => Value.int .u8 (f j) := ⟨_, rfl⟩
  have hcl : cs.length = len := by rw [hcs]; simp
  have hpos : 0 < cs.length → (some (⟨w.heap.size, 0, none⟩ : Addr)) = some ⟨w.heap.size, 0, none⟩ ∧ ∃ ad, ao = some ad ∧ ∀ j v, cs[j]? = some v → w1.cell? (ad.add j) = some v := by
    intro h0
    refine ⟨rfl, ?_⟩
    rcases HC.out with ⟨_, hz, _⟩ | ⟨x, hx, hc⟩
    · omega
    · refine ⟨x, hx, fun j v hv => ?_⟩
      have hj : j < len := by rw [← hcl]; exact (List.getElem?_eq_some_iff.1 hv).1
      have e : v = .int .u8 (f j) := by rw [hcs] at hv; simpa [hj] using hv.symm
      rw [e, bel1.cell (World.block_lt_of_cell? w _ (hc j hj))]
      exact hc j hj
  have hone : ∀ v ∈ cs, v.oneCell' = true := by
    intro u hu
    rw [hcs] at hu
    obtain ⟨j, _, rfl⟩ := List.mem_map.1 hu
    rfl
  have HXG := hid hxg
  have HB1 := hid bel1
  have HP := hid hpos
  have HO := hid hone
  have HCS := hid hcs
  have HCL := hid hcl
  have HXL := hid hxl
  clear hxg bel1 hpos hone hcs hcl hxl
  go_wp2_with (refine wpList_copy_splice rfl (.tmp 17) (.tmp 18) 22 22 rfl 5 Ybad.underlying22 hsz (some ⟨w.heap.size, 0, none⟩) ao len len len cap rfl rfl w.heap.size 0 xs 5 HXG.out cs (by rw [HCL.out]; simp) HP.out (by rw [HCL.out, HXL.out]; omega) HO.out w.heap.size w HB1.out (Nat.le_refl _) ?_)
  intro w2 HG2 hB2
  have HCP := hid (copied HXL.out HCS.out HG2.out)
  have s2 : w.heap.size < w2.heap.size := by
    have h := HG2.out
    rcases Nat.lt_or_ge w.heap.size w2.heap.size with h' | h'
    · exact h'
    · rw [Array.getElem?_eq_none h'] at h; cases h
  have HR2 := hid (row_below HR.out hB2 (Nat.le_refl _))
  have HB2 := hid hB2
  clear hB2 HG2 HR HC HXG HB1 HP HO HCS HCL HXL hsz
  have HRC := hid (row_of HCP.out)
  have hse := same_err ⟨w2.heap.size, 0, none⟩
  go_wp2_with fail
  refine (new_any _ _).mono ?_
  rintro e w3 ⟨rfl, rfl⟩
  go_wp2_with fail
  refine (read_spoilt (w2.heap.size + 1) (.pointer (some ⟨w2.heap.size, 0, none⟩)) _ (by simp)).mono ?_
  rintro e w4 ⟨rfl, rfl⟩
  go_wp2_with fail
  refine (eq_true (some ⟨w.heap.size, 0, none⟩) ao len len cap f _ (by omega) (by exact row_alloc (row_alloc HRC.out _) _) (by exact row_alloc (row_alloc HR2.out _) _)).mono ?_
  rintro e w5 ⟨rfl, q1, rfl⟩
  go_wp2_with fail
  refine (eq_true (some ⟨w.heap.size, 0, none⟩) ao len len cap f _ (by omega) (by exact row_alloc (row_alloc HRC.out _) _) (by exact row_alloc (row_alloc HR2.out _) _)).mono ?_
  rintro e w6 ⟨rfl, q2, rfl⟩
  go_wp2
  go_ret
  exact ⟨rfl, below_drewN ((HB2.out.alloc (by omega) _).alloc (by simp; omega) _) _⟩

set_option maxHeartbeats 400000 in
theorem law_short (ao : Option Addr) (len cap : Nat) (f : Nat → Int) (ea : Addr) (w : World) (hlen : len ≤ 1048576) (hcame : Came w ao len cap f) (h8 : len < 8) (hg : w.cell? ⟨0, 0, none⟩ = some (.iface 35 (.pointer (some ea)))) :
    Calls Ybad.prog 3 #[.slice ao len cap, .bool false] w fun e w' => e = .returned (.bool true) ∧ Below w.heap.size w w' := by
  obtain ⟨i0, hi, hz0, hz1, hz2⟩ := info_parts Ybad.info5
  have hsz : (Ybad.prog.info? 5).map (·.size) = some 1 := by rw [hi]; simp [hz1]
  have HR := hid (came_row hcame)
  have HC := hid hcame
  clear hcame
  go_enter Ybad.func3, Ybad.ntmps3
  go_wp2_with (at_make; refine wpList_make_full _ rfl (.tmp 15) (.tmp 15) 22 rfl w.heap.size 5 i0 (.int .u8 0) 1 Ybad.underlying22 hi hz0 hz1 _ _ _ _ len rfl rfl rfl rfl (by rw [hz2]; omega) (by unfold maxLen; omega) (Nat.le_refl _) ?_)
  intro w1 own1 grow1
  obtain ⟨xs, hxl, hxg⟩ : ∃ xs : List Value, xs.length = len ∧ w1.heap[w.heap.size]? = some (.cells xs.toArray 5 (0, 0)) := ⟨_, made_row own1⟩
  have bel1 : Below w.heap.size w w1 := (Below.refl _ _).grown grow1 (Nat.le_refl _) (fun k h => by cases h)
  clear own1 grow1
  obtain ⟨cs, hcs⟩ : ∃ cs, cs = (List.range len).map fun j => Value.int .u8 (f j) := ⟨_, rfl⟩
  have hcl : cs.length = len := by rw [hcs]; simp
  have hpos : 0 < cs.length → (some (⟨w.heap.size, 0, none⟩ : Addr)) = some ⟨w.heap.size, 0, none⟩ ∧ ∃ ad, ao = some ad ∧ ∀ j v, cs[j]? = some v → w1.cell? (ad.add j) = some v := by
    intro h0
    refine ⟨rfl, ?_⟩
    rcases HC.out with ⟨_, hz, _⟩ | ⟨x, hx, hc⟩
    · omega
    · refine ⟨x, hx, fun j v hv => ?_⟩
      have hj : j < len := by rw [← hcl]; exact (List.getElem?_eq_some_iff.1 hv).1
      have e : v = .int .u8 (f j) := by rw [hcs] at hv; simpa [hj] using hv.symm
      rw [e, bel1.cell (World.block_lt_of_cell? w _ (hc j hj))]
      exact hc j hj
  have hone : ∀ v ∈ cs, v.oneCell' = true := by
    intro u hu
    rw [hcs] at hu
    obtain ⟨j, _, rfl⟩ := List.mem_map.1 hu
    rfl
  have HXG := hid hxg
  have HB1 := hid bel1
  have HP := hid hpos
  have HO := hid hone
  have HCS := hid hcs
  have HCL := hid hcl
  have HXL := hid hxl
  clear hxg bel1 hpos hone hcs hcl hxl
  go_wp2_with (refine wpList_copy_splice rfl (.tmp 17) (.tmp 18) 22 22 rfl 5 Ybad.underlying22 hsz (some ⟨w.heap.size, 0, none⟩) ao len len len cap rfl rfl w.heap.size 0 xs 5 HXG.out cs (by rw [HCL.out]; simp) HP.out (by rw [HCL.out, HXL.out]; omega) HO.out w.heap.size w HB1.out (Nat.le_refl _) ?_)
  intro w2 HG2 hB2
  have HCP := hid (copied HXL.out HCS.out HG2.out)
  have s2 : w.heap.size < w2.heap.size := by
    have h := HG2.out
    rcases Nat.lt_or_ge w.heap.size w2.heap.size with h' | h'
    · exact h'
    · rw [Array.getElem?_eq_none h'] at h; cases h
  have HR2 := hid (row_below HR.out hB2 (Nat.le_refl _))
  have HB2 := hid hB2
  clear hB2 HG2 HR HC HXG HB1 HP HO HCS HCL HXL hsz
  have HRC := hid (row_of HCP.out)
  have h0w : 0 < w.heap.size := World.block_lt_of_cell? w _ hg
  have hg2 : w2.cell? ⟨0, 0, none⟩ = some (.iface 35 (.pointer (some ea))) := (HB2.out.cell (p := ⟨0, 0, none⟩) h0w).trans hg
  have hg3 : ∀ o, (w2.alloc o).cell? ⟨0, 0, none⟩ = some (.iface 35 (.pointer (some ea))) := fun o => (World.cell?_alloc_lt _ _ _ (World.block_lt_of_cell? w2 _ hg2)).trans hg2
  clear hg hg2
  have hse := same_err ea
  go_wp2_with fail
  refine (read_short w2.heap.size len len (some ⟨w.heap.size, 0, none⟩) ea _ h8 (by simp) (by simp) (hg3 _) (by simp) (by simp)).mono ?_
  rintro e w4 ⟨rfl, hw4⟩
  have e4 : w4 = w2.alloc (.cells #[.slice none 0 0, .iface 35 (.pointer (some ea))] 28) := by
    rw [← hw4, World.setCell_alloc_at _ _ _ _ _ rfl, World.setCell_alloc_at _ _ _ _ _ rfl]
    rfl
  clear hw4
  subst e4
  have hnil := fun wx => Lib.run_eql_slice_nil (P := Ybad.prog) wx 22 5 none 0 0 0 0 Ybad.underlying22
  go_wp2_with fail
  refine (eq_true (some ⟨w.heap.size, 0, none⟩) ao len len cap f _ (by omega) (by exact row_alloc HRC.out _) (by exact row_alloc HR2.out _)).mono ?_
  rintro e w5 ⟨rfl, q1, rfl⟩
  go_wp2
  go_quiet (fail)
  go_wp2
  go_ret
  exact ⟨rfl, below_drewN (below_drewN (HB2.out.alloc (by omega) _) _) _⟩

set_option maxHeartbeats 400000 in
theorem law_ok (ao : Option Addr) (len cap : Nat) (f : Nat → Int) (w : World) (hlen : len ≤ 1048576) (hcame : Came w ao len cap f) (h8 : 8 ≤ len) (hlc : len ≤ cap) (hf : ∀ j, 0 ≤ f j ∧ f j ≤ 255) :
    Calls Ybad.prog 3 #[.slice ao len cap, .bool false] w fun e w' => e = .returned (.bool true) ∧ Below w.heap.size w w' := by
  obtain ⟨b, o, rfl, _⟩ := came_row hcame (by omega)
  obtain ⟨i0, hi, hz0, hz1, hz2⟩ := info_parts Ybad.info5
  have hsz : (Ybad.prog.info? 5).map (·.size) = some 1 := by rw [hi]; simp [hz1]
  have HR := hid (came_row hcame)
  have HC := hid hcame
  clear hcame
  go_enter Ybad.func3, Ybad.ntmps3
  go_wp2_with (at_make; refine wpList_make_full _ rfl (.tmp 15) (.tmp 15) 22 rfl w.heap.size 5 i0 (.int .u8 0) 1 Ybad.underlying22 hi hz0 hz1 _ _ _ _ len rfl rfl rfl rfl (by rw [hz2]; omega) (by unfold maxLen; omega) (Nat.le_refl _) ?_)
  intro w1 own1 grow1
  obtain ⟨xs, hxl, hxg⟩ : ∃ xs : List Value, xs.length = len ∧ w1.heap[w.heap.size]? = some (.cells xs.toArray 5 (0, 0)) := ⟨_, made_row own1⟩
  have bel1 : Below w.heap.size w w1 := (Below.refl _ _).grown grow1 (Nat.le_refl _) (fun k h => by cases h)
  clear own1 grow1
  obtain ⟨cs, hcs⟩ : ∃ cs, cs = (List.range len).map fun j => Value.int .u8 (f j) := ⟨_, rfl⟩
  have hcl : cs.length = len := by rw [hcs]; simp
  have hpos : 0 < cs.length → (some (⟨w.heap.size, 0, none⟩ : Addr)) = some ⟨w.heap.size, 0, none⟩ ∧ ∃ ad, some (⟨b, o, none⟩ : Addr) = some ad ∧ ∀ j v, cs[j]? = some v → w1.cell? (ad.add j) = some v := by
    intro h0
    refine ⟨rfl, ?_⟩
    rcases HC.out with ⟨_, hz, _⟩ | ⟨x, hx, hc⟩
    · omega
    · refine ⟨x, hx, fun j v hv => ?_⟩
      have hj : j < len := by rw [← hcl]; exact (List.getElem?_eq_some_iff.1 hv).1
      have e : v = .int .u8 (f j) := by rw [hcs] at hv; simpa [hj] using hv.symm
      rw [e, bel1.cell (World.block_lt_of_cell? w _ (hc j hj))]
      exact hc j hj
  have hone : ∀ v ∈ cs, v.oneCell' = true := by
    intro u hu
    rw [hcs] at hu
    obtain ⟨j, _, rfl⟩ := List.mem_map.1 hu
    rfl
  have HXG := hid hxg
  have HB1 := hid bel1
  have HP := hid hpos
  have HO := hid hone
  have HCS := hid hcs
  have HCL := hid hcl
  have HXL := hid hxl
  clear hxg bel1 hpos hone hcs hcl hxl
  go_wp2_with (refine wpList_copy_splice rfl (.tmp 17) (.tmp 18) 22 22 rfl 5 Ybad.underlying22 hsz (some ⟨w.heap.size, 0, none⟩) (some ⟨b, o, none⟩) len len len cap rfl rfl w.heap.size 0 xs 5 HXG.out cs (by rw [HCL.out]; simp) HP.out (by rw [HCL.out, HXL.out]; omega) HO.out w.heap.size w HB1.out (Nat.le_refl _) ?_)
  intro w2 HG2 hB2
  have HCP := hid (copied HXL.out HCS.out HG2.out)
  have s2 : w.heap.size < w2.heap.size := by
    have h := HG2.out
    rcases Nat.lt_or_ge w.heap.size w2.heap.size with h' | h'
    · exact h'
    · rw [Array.getElem?_eq_none h'] at h; cases h
  have HR2 := hid (row_below HR.out hB2 (Nat.le_refl _))
  have HB2 := hid hB2
  clear hB2 HG2 HR HC HXG HB1 HP HO HCS HCL HXL hsz
  have HRC := hid (row_of HCP.out)
  have HF := hid hf
  clear hf
  have HCP3 : Hid (∀ o, ∀ j, j < len → (w2.alloc o).cell? ⟨w.heap.size, j, none⟩ = some (.int .u8 (f j))) := fun o j hj =>
    (World.cell?_alloc_lt _ _ _ (World.block_lt_of_cell? w2 _ (HCP.out j hj))).trans (HCP.out j hj)
  go_wp2_with fail
  refine (read_ok w2.heap.size w.heap.size len f _ h8 (by omega) (by simp) (by simp) (by simp) HF.out (HCP3.out _)).mono ?_
  rintro e w4 ⟨rfl, hb4⟩
  rw [World.setCell_alloc_at _ _ _ _ _ rfl] at hb4
  have hr0 : w4.cell? ⟨w2.heap.size, 0, none⟩ = some (.slice (some (restA w.heap.size len)) (len - 8) (len - 8)) := (hb4.cell (p := ⟨w2.heap.size, 0, none⟩) (by simp)).trans (by simp)
  have hr1 : w4.cell? ⟨w2.heap.size, 1, none⟩ = some .nilIface := (hb4.cell (p := ⟨w2.heap.size, 1, none⟩) (by simp)).trans (by simp)
  have RC4 : RowAt w4 (some ⟨w.heap.size, 0, none⟩) len f := row_below (row_alloc HRC.out _) hb4 (by simp)
  have RD4 : RowAt w4 (some ⟨b, o, none⟩) len f := row_below (row_alloc HR2.out _) hb4 (by simp)
  have B4 : Below w.heap.size w w4 := (HB2.out.alloc (by omega) _).trans (hb4.mono (by simp; omega))
  have HRC4 := hid RC4
  have HRD4 := hid RD4
  have HB4 := hid B4
  clear hb4 RC4 RD4 B4 HCP3 HRC HR2 HB2 HCP
  go_wp2_with fail
  refine (eq_true (some ⟨w.heap.size, 0, none⟩) (some ⟨b, o, none⟩) len len cap f _ (by omega) HRC4.out HRD4.out).mono ?_
  rintro e w5 ⟨rfl, q1, hq⟩
  have hs0 : w5.cell? ⟨w2.heap.size, 0, none⟩ = some (.slice (some (restA w.heap.size len)) (len - 8) (len - 8)) := by rw [hq]; exact hr0
  have hs1 : w5.cell? ⟨w2.heap.size, 1, none⟩ = some .nilIface := by rw [hq]; exact hr1
  have HRC5 : Hid (RowAt w5 (some ⟨w.heap.size, 0, none⟩) len f) := by rw [hq]; exact HRC4.out
  have HRD5 : Hid (RowAt w5 (some ⟨b, o, none⟩) len f) := by rw [hq]; exact HRD4.out
  have HB5 : Hid (Below w.heap.size w w5) := by rw [hq]; exact below_drewN HB4.out _
  clear hq hr0 hr1 HRC4 HRD4 HB4
  go_wp2
  obtain ⟨b', o', e', hcb⟩ := HRD5.out (by omega)
  simp only [Option.some.injEq, Addr.mk.injEq, and_true] at e'
  obtain ⟨rfl, rfl⟩ := e'
  have HCB := hid hcb
  clear hcb
  have H8 := hid (rfl : spell f 8 = spell f 8)
  go_loop [9, 10] (fun x i => ∃ k : Nat, k ≤ 8 ∧ i = .int .i64 k ∧ x = .int .u64 (spell f k)) (fun _ i => 8 - (intOf i).toNat)
  case atStart => exact ⟨0, by omega, rfl, rfl⟩
  case round =>
    obtain ⟨k, hk, rfl, rfl⟩ := hrel
    by_cases hlt : k < 8
    · have hcell := HCB.out k (by omega)
      have hS := spell_bd7 f HF.out k (by omega)
      have hz := HF.out k
      have hor := or_low (spell f k) (f k) hS.1 hS.2 hz.1 hz.2
      have HN : Hid (spell f (k + 1) = spell f k * 256 + f k) := rfl
      have hkl : (k : Int) < (len : Int) := by omega
      generalize spell f k = S at *
      generalize f k = z at *
      obtain ⟨hS0, hS1⟩ := hS
      obtain ⟨hz0', hz1'⟩ := hz
      go_wp2
      go_roundw
      case rel => exact ⟨k + 1, by omega, by go_num, by rw [HN.out]⟩
      case measure => simp [intOf]; omega
    · have hk8 : k = 8 := by omega
      subst hk8
      go_wp2
      have hcb := cut_b b o len cap h8
      have HA := hid (row_restA HRC5.out)
      have HBr := hid (row_restB h8 hlc HCB.out)
      go_quiet ((go_at_call 6; exact Calls.quiet_of (eq_true (some (restA w.heap.size len)) (some (restB b o cap)) (len - 8) (len - 8) (cap - 8) (fun j => f (8 + j)) _ (by omega) (by exact HA.out) (by exact HBr.out))))
      go_wp2
      clear HA HBr hcb HCB
      by_cases e8 : len = 8
      · have hd : (((len - 8 : Nat) : Int) == 0) = true := by simp; omega
        clear e8
        go_quiet (fail)
        go_wp2
        go_ret
        exact ⟨rfl, below_drewN (below_drewN HB5.out _) _⟩
      · have hd : (((len - 8 : Nat) : Int) == 0) = false := by simp; omega
        have hra : restA w.heap.size len = ⟨w.heap.size, 8, none⟩ := by unfold restA; rw [if_neg e8]
        have hp := same_ptr ⟨w.heap.size, 8, none⟩
        have q0 : 0 < len - 8 := by omega
        have q8 : (8 : Int) < (len : Int) := by omega
        go_quiet (fail)
        go_wp2
        go_ret
        exact ⟨rfl, below_drewN (below_drewN HB5.out _) _⟩

set_option maxHeartbeats 400000 in
/-- More than 2^20 bytes: nothing is asked. -/
theorem law_long (a : Option Addr) (len cap : Nat) (p : Bool) (w : World) (h : 1048576 < len) :
    Calls Ybad.prog 3 #[.slice a len cap, .bool p] w fun e w' => e = .returned (.bool true) ∧ Below w.heap.size w w' := by
  go_enter Ybad.func3, Ybad.ntmps3
  go_wp2
  go_ret
  exact ⟨rfl, Below.refl _ _⟩

end Go.Proofs.YbulkdsmyDoor
