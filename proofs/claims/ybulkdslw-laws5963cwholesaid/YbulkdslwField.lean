import Derived.Test.YbulkdslwPut
namespace Go.Proofs.Ybulkdslw
open Go.RowKit

theorem Yba.info5 : (Yba.prog.info? 5).map (fun i => (i.zero, i.size, i.bytes)) = some (some (.int .u8 0), 1, 1) := by kernel_rfl

set_option maxHeartbeats 400000 in
theorem clone_nil (w : World) : Calls Yba.prog 4 #[.slice none 0 0] w fun e w' => e = .returned (.slice none 0 0) ∧ w' = w := by
  have he := fun wx => Lib.run_eql_slice_nil (P := Yba.prog) wx 22 5 none 0 0 0 0 Yba.underlying22
  go_enter Yba.func4, Yba.ntmps4
  go_wp2
  go_ret
  exact ⟨rfl, rfl⟩

set_option maxHeartbeats 400000 in
theorem clone_some (x : Addr) (n cap : Nat) (f : Nat → Int) (w : World) (hn : n ≤ 1048576) (hc : ∀ j, j < n → w.cell? (x.add j) = some (.int .u8 (f j))) :
    Calls Yba.prog 4 #[.slice (some x) n cap] w fun e w' => ∃ g cap', e = .returned (.slice (some ⟨g, 0, none⟩) n cap') ∧ w'.ownsRow w.heap.size 5 1 (.slice (some ⟨g, 0, none⟩) n cap') n ((List.range n).map fun j => .int .u8 (f j)) ∧ Below w.heap.size w w' := by
  have he := fun wx => Lib.run_eql_slice_nil (P := Yba.prog) wx 22 5 (some x) n cap 0 0 Yba.underlying22
  obtain ⟨i0, hi, hz0, hz1, hz2⟩ := info_parts Yba.info5
  have HN : Hid (∀ j u, ((List.range n).map fun j => Value.int .u8 (f j))[j]? = some u → (w.alloc (.cells #[] 5)).cell? (x.add j) = some u) := by
    intro j u hu
    have hj : j < n := by
      have := (List.getElem?_eq_some_iff.1 hu).1
      simpa using this
    have : u = .int .u8 (f j) := by simpa [hj] using hu.symm
    rw [this, World.cell?_alloc_lt _ _ _ (World.block_lt_of_cell? _ _ (hc j hj))]
    exact hc j hj
  have HO : Hid (∀ u ∈ (List.range n).map fun j => Value.int .u8 (f j), u.oneCell' = true) := by
    intro u hu
    obtain ⟨j, _, rfl⟩ := List.mem_map.1 hu
    rfl
  clear hc
  go_enter Yba.func4, Yba.ntmps4
  go_wp2_with (at_builtin; refine wpList_append_own _ rfl (.tmp 5) (.tmp 6) 22 rfl w.heap.size 5 i0 (.int .u8 0) 1 1 Yba.underlying22 hi hz0 hz1 hz2 rfl (by decide) _ 0 [] rfl (World.ownsRow_made w #[] 0 (Nat.le_refl _) (by unfold maxLen; omega) rfl) x n cap ((List.range n).map fun j => .int .u8 (f j)) rfl (by simp) HN.out HO.out (by unfold maxLen; omega) (by omega) (by simp) ?_)
  intro v' w1 own1 grow1 hnil
  have hb : Below w.heap.size w w1 := ((Below.refl _ _).alloc (Nat.le_refl _) _).grown grow1 (by simp) (fun k hk => by cases hk; exact Nat.le_refl _)
  have hne : v' ≠ .slice none 0 0 := hnil
  have hex : ∃ g cap', v' = .slice (some ⟨g, 0, none⟩) n cap' := by
    rcases own1.2 with ⟨h, _⟩ | ⟨g, cap', cur, h, _⟩
    · exact absurd h hne
    · exact ⟨g, cap', h⟩
  obtain ⟨g, cap', hv⟩ := hex
  rw [hv] at own1
  rw [hv]
  clear hnil hne grow1
  have HW : Hid _ := own1
  have HB : Hid _ := hb
  clear own1 hb hv
  go_wp2
  go_ret
  exact ⟨g, cap', rfl, HW.out, HB.out⟩

theorem wrap_i64 (n : Int) (h0 : -9223372036854775808 ≤ n) (h1 : n ≤ 9223372036854775807) : IntKind.i64.wrap n = n := by
  have h := IntWalk.wrap64_in n ⟨h0, h1⟩
  unfold wrap64 at h
  simp [IntKind.wrap, IntKind.signed, IntKind.bits]
  omega
theorem shr_run (v : Int) (d : Nat) (hd : d ≤ 7) (W : World) : Sem.run Yba.prog (Op.shift BinOp.shr .u64 v .i64 (8 * (d : Int))) W = .ok (.int .u64 (v / 2 ^ (8 * d))) W := by
  rw [shift_shr .u64 .i64 v (8 * (d : Int)) (by omega) (by simp [IntKind.bits]; omega)]
  have : (8 * (d : Int)).toNat = 8 * d := by omega
  rw [this]; rfl

theorem Yba.alen28 : Yba.prog.arrayLen 28 = 8 := by kernel_rfl
theorem Yba.elem28 : Yba.prog.elem 28 = 5 := by kernel_rfl
theorem size5 (W : World) : Sem.run Yba.prog (Go.sizeOf 5) W = .ok 1 W := by
  obtain ⟨i0, hi, _, hz1, _⟩ := info_parts Yba.info5
  simp [Go.sizeOf, typeInfo, hi, hz1]
theorem slice_to (b m : Nat) (hm : m ≤ 8) (W : World) : Sem.run Yba.prog (Instr.sliceAt 28 (.pointer (some ⟨b, 0, none⟩)) none (some (.int .i64 (m : Int))) none) W = .ok (.slice (some ⟨b, 0, none⟩) m 8) W := by
  have h := run_sliceAt_array_h (P := Yba.prog) W 28 ⟨b, 0, none⟩ Yba.underlying28 .i64 (m : Int) (by omega) (by rw [Yba.alen28]; omega)
  rw [h, Yba.elem28, size5, Yba.alen28]
  simp [slicedAt, Result.andThen, Addr.add]

/-- Where the round number t writes, and what. -/
def spot (little : Bool) (m t : Nat) : Nat := cond little (m - 1 - t) t

theorem spot_ne (little : Bool) (m t k : Nat) (h : t < k) (hk : k < m) : spot little m t ≠ spot little m k := by
  cases little <;> simp [spot] <;> omega

/-- What holds of the eight cells of 'field' (block F) behind k rounds. -/
def Fld (little : Bool) (m : Nat) (v : Int) (F k : Nat) (wr : World) : Prop :=
  (∀ j, j < 8 → ∃ u, wr.cell? ⟨F, j, none⟩ = some u) ∧ (∀ j, wr.frozen? ⟨F, j, none⟩ = false) ∧
    ∀ t, t < k → wr.cell? ⟨F, spot little m t, none⟩ = some (.int .u8 (byt v (m - 1 - t)))

theorem fld_step {little : Bool} {m : Nat} {v : Int} {F k : Nat} {wr : World} (h : Fld little m v F k wr) (hF : F < wr.heap.size) (hm : m ≤ 8) (hk : k < m) (cs : Array Value) (T : TypeId) :
    Fld little m v F (k + 1) ((wr.setCell ⟨F, spot little m k, none⟩ (.int .u8 (byt v (m - 1 - k)))).alloc (.cells cs T)).drew := by
  obtain ⟨h1, h2, h3⟩ := h
  have hs : spot little m k < 8 := by unfold spot; cases little <;> simp <;> omega
  obtain ⟨u, hu⟩ := h1 _ hs
  have hz : (wr.setCell ⟨F, spot little m k, none⟩ (.int .u8 (byt v (m - 1 - k)))).heap.size = wr.heap.size := by simp [World.setCell]
  have hal : ∀ j, ((wr.setCell ⟨F, spot little m k, none⟩ (.int .u8 (byt v (m - 1 - k)))).alloc (.cells cs T)).drew.cell? ⟨F, j, none⟩ = (wr.setCell ⟨F, spot little m k, none⟩ (.int .u8 (byt v (m - 1 - k)))).cell? ⟨F, j, none⟩ := fun j =>
    World.cell?_alloc_lt _ _ ⟨F, j, none⟩ (by rw [hz]; exact hF)
  refine ⟨fun j hj => ?_, fun j => ?_, fun t ht => ?_⟩
  · rw [hal]
    by_cases e : spot little m k = j
    · subst e; exact ⟨_, World.cell?_setCell_same _ _ _ hu⟩
    · obtain ⟨x, hx⟩ := h1 j hj
      exact ⟨x, (World.cell?_setCell_other _ _ _ _ (fun q => e (congrArg Addr.off q))).trans hx⟩
  · show ((wr.setCell _ _).alloc (.cells cs T)).frozen? _ = false
    rw [World.frozen?_alloc_past _ _ _ (by rw [hz]; exact hF), World.frozen?_setCell]
    exact h2 j
  · rw [hal]
    by_cases e : t = k
    · subst e; exact World.cell?_setCell_same _ _ _ hu
    · rw [World.cell?_setCell_other _ _ _ _ (fun q => spot_ne little m t k (by omega) hk (by simpa using q.symm))]
      exact h3 t (by omega)

/-- The bytes that are appended. -/
def fv (little : Bool) (m : Nat) (v : Int) (j : Nat) : Int := byt v (cond little j (m - 1 - j))

theorem fld_end {little : Bool} {m : Nat} {v : Int} {F : Nat} {wr : World} (h : Fld little m v F m wr) (j : Nat) (hj : j < m) : wr.cell? ⟨F, j, none⟩ = some (.int .u8 (fv little m v j)) := by
  cases little
  · have := h.2.2 j hj
    simpa [spot, fv] using this
  · have := h.2.2 (m - 1 - j) (by omega)
    have e : m - 1 - (m - 1 - j) = j := by omega
    simpa [spot, fv, e] using this

/-- What appendField leaves. -/
def FieldPost (ao : Option Addr) (n cap m : Nat) (f g : Nat → Int) (w : World) (v' : Value) (w' : World) : Prop :=
  ∃ ao' cap', v' = .slice ao' (n + m) cap' ∧
    (ao' = none ∧ n + m = 0 ∧ cap' = 0 ∨ ∃ b', ao' = some ⟨b', 0, none⟩ ∧ n + m ≤ cap' ∧ ∀ j, j < n + m → w'.cell? ⟨b', j, none⟩ = some (.int .u8 (if j < n then f j else g (j - n)))) ∧
    (0 < n → ∃ b, ao = some ⟨b, 0, none⟩ ∧ ∀ j, j < n → w'.cell? ⟨b, j, none⟩ = some (.int .u8 (f j))) ∧ w.grownBy w' (Value.slice ao n cap).ownBlock

theorem grown_of_below {w wr w' : World} {row : Option Nat} (hb : Below w.heap.size w wr) (hg : wr.grownBy w' row) : w.grownBy w' row :=
  ⟨hg.os.trans hb.os, hg.tape.trans hb.tape, hg.output.trans hb.output, Nat.le_trans hb.size hg.size, fun k hk hne => (hg.block k (Nat.lt_of_lt_of_le hk hb.size) hne).trans (hb.block k hk)⟩

theorem cells_both (f g : Nat → Int) (n m j : Nat) (hj : j < n + m) :
    (((List.range n).map fun j => Value.int .u8 (f j)) ++ ((List.range m).map fun j => Value.int .u8 (g j)))[j]? = some (.int .u8 (if j < n then f j else g (j - n))) := by
  by_cases h : j < n
  · rw [List.getElem?_append_left (by simpa using h)]; simp [h]
  · rw [List.getElem?_append_right (by simp; omega)]
    have : j - n < m := by omega
    simp [h, this]

/-- A row that is owned, of n + m elements: both parts. -/
theorem post_own {ao : Option Addr} {n cap m : Nat} {f g : Nat → Int} {w w' : World} {base : Nat} {v' : Value}
    (ho : w'.ownsRow base 5 1 v' (n + m) (((List.range n).map fun j => Value.int .u8 (f j)) ++ ((List.range m).map fun j => Value.int .u8 (g j))))
    (hold : 0 < n → ∃ b, ao = some ⟨b, 0, none⟩ ∧ ∀ j, j < n → w'.cell? ⟨b, j, none⟩ = some (.int .u8 (f j))) (hg : w.grownBy w' (Value.slice ao n cap).ownBlock) : FieldPost ao n cap m f g w v' w' := by
  rcases ho.2 with ⟨rfl, h0⟩ | ⟨b, c, cur, rfl, _, _, hnc, _⟩
  · exact ⟨none, 0, by rw [h0], .inl ⟨rfl, h0, rfl⟩, hold, hg⟩
  · refine ⟨some ⟨b, 0, none⟩, c, rfl, .inr ⟨b, rfl, hnc, fun j hj => ?_⟩, hold, hg⟩
    rw [ho.cellAt j (by omega)]
    exact cells_both f g n m j hj

/-- There was room: the row is written behind its length. -/
theorem post_room {b n cap m : Nat} {f g : Nat → Int} {w wr : World} {cur : Array Value} (hb : Below w.heap.size w wr) (hcur : wr.heap[b]? = some (.cells cur 5 (0, 0))) (hsz : cur.size = cap * 1) (htake : cur.toList.take (n * 1) = (List.range n).map fun j => Value.int .u8 (f j))
    (hroom : n + m ≤ cap) : FieldPost (some ⟨b, 0, none⟩) n cap m f g w (.slice (some ⟨b, 0, none⟩) (n + m) cap) (wr.setCells b (0 + n * 1) ((List.range m).map fun j => Value.int .u8 (g j))) := by
  have hc : ∀ j, wr.cell? ⟨b, j, none⟩ = cur[j]? := fun j => by rw [cell_of_row wr b j cur 5 (0, 0) hcur]
  have hlo : ∀ j, j < n → cur[j]? = some (.int .u8 (f j)) := fun j hj => by
    have h1 : (cur.toList.take (n * 1))[j]? = some (Value.int .u8 (f j)) := by rw [htake]; simp [hj]
    rw [List.getElem?_take, if_pos (by omega)] at h1
    simpa using h1
  have hin : ∀ j, j < n → (wr.setCells b (0 + n * 1) ((List.range m).map fun j => Value.int .u8 (g j))).cell? ⟨b, j, none⟩ = some (.int .u8 (f j)) := fun j hj => by
    rw [World.cell?_setCells_out b _ _ _ _ (fun _ _ => .inl (by simp only; omega)), hc]; exact hlo j hj
  refine ⟨some ⟨b, 0, none⟩, cap, rfl, .inr ⟨b, rfl, hroom, fun j hj => ?_⟩, fun _ => ⟨b, rfl, hin⟩, grown_of_below hb ⟨World.os_setCells _ _ _ _, (tape_setCells b _ _ wr).1, World.output_setCells _ _ _ _, by rw [(tape_setCells b _ _ wr).2]; exact Nat.le_refl _, fun k hk hne => World.heap_setCells_other wr b _ _ hk (fun e => hne (by rw [e]; rfl))⟩⟩
  by_cases h : j < n
  · rw [if_pos h]; exact hin j h
  · rw [if_neg h]
    obtain ⟨t, rfl⟩ : ∃ t, j = n + t := ⟨j - n, by omega⟩
    have ht : t < m := by omega
    have hk := World.cell?_setCells_in b ((List.range m).map fun j => Value.int .u8 (g j)) (0 + n * 1) wr (fun j hj => by
      rw [hc]
      have : 0 + n * 1 + j < cur.size := by simp at hj; omega
      rw [Array.getElem?_eq_getElem this]; rfl) t (by simpa using ht)
    have e1 : 0 + n * 1 + t = n + t := by omega
    rw [e1] at hk
    rw [hk]
    have e2 : n + t - n = t := by omega
    simp [e2]

set_option maxHeartbeats 1000000 in
theorem field_any (ao : Option Addr) (n cap m base : Nat) (f : Nat → Int) (little : Bool) (off adj v : Int) (w : World) (hm : m ≤ 8) (hn : n ≤ 1048576) 
    (hown : w.ownsRow base 5 1 (.slice ao n cap) n ((List.range n).map fun j => .int .u8 (f j))) :
    Calls Yba.prog 5 #[.agg #[.int .i64 m, .bool little, .int .i64 off, .int .i64 adj], .slice ao n cap, .int .u64 v] w fun e w' => ∃ v', e = .returned v' ∧ FieldPost ao n cap m f (fv little m v) w v' w' := by
  obtain ⟨i0, hi, hz0, hz1, hz2⟩ := info_parts Yba.info5
  have HO : Hid (w.ownsRow base 5 1 (.slice ao n cap) n ((List.range n).map fun j => .int .u8 (f j))) := hown
  clear hown
  go_enter Yba.func5, Yba.ntmps5
  go_wp2
  go_loopw [11, 8] (fun i _ wr => ∃ k : Nat, k ≤ m ∧ i = .int .i64 k ∧ w.heap.size + 1 < wr.heap.size ∧ Below (w.heap.size + 1) (w.alloc (.cells #[.int .i64 m, .bool little, .int .i64 off, .int .i64 adj] 25)) wr ∧
      Hid (Fld little m v (w.heap.size + 1) k wr)) (fun i _ _ => m - (intOf i).toNat)
  case atStart =>
    refine ⟨0, Nat.zero_le _, rfl, by simp, (Below.refl _ _).alloc (by simp) _, ⟨fun j hj => ?_, fun j => by simp, fun t ht => by omega⟩⟩
    simp only [World.cell?_alloc2_new]
    match j, hj with
    | 0, _ => exact ⟨_, rfl⟩
    | 1, _ => exact ⟨_, rfl⟩
    | 2, _ => exact ⟨_, rfl⟩
    | 3, _ => exact ⟨_, rfl⟩
    | 4, _ => exact ⟨_, rfl⟩
    | 5, _ => exact ⟨_, rfl⟩
    | 6, _ => exact ⟨_, rfl⟩
    | 7, _ => exact ⟨_, rfl⟩
  case round =>
    obtain ⟨k, hk, rfl, hsz, hbel, HR⟩ := hrel
    have c0 : wr.cell? ⟨w.heap.size, 0, none⟩ = some (.int .i64 m) := (hbel.cell (by simp)).trans (by simp)
    have c1 : wr.cell? ⟨w.heap.size, 1, none⟩ = some (.bool little) := (hbel.cell (by simp)).trans (by simp)
    have c2 : wr.cell? ⟨w.heap.size, 2, none⟩ = some (.int .i64 off) := (hbel.cell (by simp)).trans (by simp)
    have c3 : wr.cell? ⟨w.heap.size, 3, none⟩ = some (.int .i64 adj) := (hbel.cell (by simp)).trans (by simp)
    have hsz0 : w.heap.size < wr.heap.size := by omega
    by_cases hlt : k < m
    · have d0 : ∀ o, (wr.alloc o).cell? ⟨w.heap.size, 0, none⟩ = some (.int .i64 m) := fun o => (World.cell?_alloc_lt wr o ⟨w.heap.size, 0, none⟩ hsz0).trans c0
      have HBL : Hid _ := hbel
      clear hbel
      obtain ⟨u, hu⟩ := HR.out.1 (spot little m k) (by unfold spot; cases little <;> simp <;> omega)
      have hf := HR.out.2.1 (spot little m k)
      obtain ⟨d, hd⟩ : ∃ d, m = k + 1 + d := ⟨m - 1 - k, by omega⟩
      have e2 : IntKind.i64.wrap (IntKind.i64.wrap ((m : Int) - 1) - (k : Int)) = (d : Int) := by
        rw [wrap_i64 ((m : Int) - 1) (by omega) (by omega), wrap_i64 ((m : Int) - 1 - k) (by omega) (by omega)]; omega
      have e3 : IntKind.i64.wrap (8 * (d : Int)) = 8 * (d : Int) := wrap_i64 _ (by omega) (by omega)
      have hsh := shr_run v d (by omega)
      have HB : Hid (byt v (m - 1 - k) = v / 2 ^ (8 * d) % 256) := by
        show byt v (m - 1 - k) = _
        rw [show m - 1 - k = d from by omega]; rfl
      have HS := fun cs => fld_step HR.out (by omega) hm hlt cs 25
      rw [HB.out] at HS
      have HD : Hid (m = k + 1 + d) := hd
      have HF : Hid _ := HS
      clear hd HS
      cases little
      · simp only [spot, cond_false] at hu hf
        go_wp2
        go_region_with (go_at_call 9; refine (sig_any _ _ _ _ _ _ (by omega) (by omega) (by omega)).mono ?_; rintro e w' ⟨rfl, rfl⟩)
        all_goals
          go_wp2
          go_roundw
          case rel => exact ⟨k + 1, by omega, by go_num, by simp; omega, ((HBL.out.setCell (Nat.le_refl _) _).alloc (by simp; omega) _).drew, HF.out _⟩
          case measure => simp [intOf]; omega
      · have es : spot true m k = d := by simp [spot]; have := HD.out; omega
        have ei : IntKind.i64.wrap ((m : Int) - 1) - (k : Int) = (d : Int) := by rw [wrap_i64 ((m : Int) - 1) (by omega) (by omega)]; have := HD.out; omega
        have hd7 : (d : Int) < 8 := by have := HD.out; omega
        have et : (m : Int) - 1 - k = d := by have := HD.out; omega
        rw [es] at hu hf
        have HF' : Hid (∀ cs, Fld true m v (w.heap.size + 1) (k + 1) ((wr.setCell ⟨w.heap.size + 1, d, none⟩ (.int .u8 (v / 2 ^ (8 * d) % 256))).alloc (.cells cs 25)).drew) := by have hfo := HF.out; rw [es] at hfo; exact hfo
        clear es HF ei
        go_wp2
        go_region_with (go_at_call 9; refine (sig_any _ _ _ _ _ _ (by omega) (by omega) (by omega)).mono ?_; rintro e w' ⟨rfl, rfl⟩)
        all_goals
          go_wp2
          go_roundw
          case rel => exact ⟨k + 1, by omega, by go_num, by simp; omega, ((HBL.out.setCell (Nat.le_refl _) _).alloc (by simp; omega) _).drew, HF'.out _⟩
          case measure => simp [intOf]; omega
    · have hkm : k = m := by omega
      have HE : Hid (∀ j, j < m → wr.cell? ⟨w.heap.size + 1, j, none⟩ = some (.int .u8 (fv little m v j))) := by
        rw [hkm] at HR
        exact fld_end HR.out
      have HB : Hid (Below w.heap.size w wr) := ((Below.refl _ _).alloc (Nat.le_refl _) _).trans (hbel.mono (by omega))
      clear hkm hbel HR
      have HN : Hid (∀ j u, ((List.range m).map fun j => Value.int .u8 (fv little m v j))[j]? = some u → wr.cell? ((⟨w.heap.size + 1, 0, none⟩ : Addr).add j) = some u) := by
        intro j u hu
        have hj : j < m := by simpa using (List.getElem?_eq_some_iff.1 hu).1
        have : u = .int .u8 (fv little m v j) := by simpa [hj] using hu.symm
        rw [this, Addr.add_lit, Nat.zero_add]
        exact HE.out j hj
      have HU : Hid (∀ u ∈ (List.range m).map fun j => Value.int .u8 (fv little m v j), u.oneCell' = true) := by
        intro u hu
        obtain ⟨j, _, rfl⟩ := List.mem_map.1 hu
        rfl
      have hsl : ∀ W : World, Sem.run Yba.prog (Instr.sliceAt 28 (.pointer (some ⟨w.heap.size + 1, 0, none⟩)) none (some (.int .i64 (m : Int))) none) W = .ok (.slice (some ⟨w.heap.size + 1, 0, none⟩) m 8) W := slice_to (w.heap.size + 1) m hm
      rcases HO.out.2 with ⟨hv, hn0⟩ | ⟨g, cap', cur, hv, hbase, hheap, hnc, hcm, hcs, htake⟩
      · simp only [Value.slice.injEq] at hv
        obtain ⟨rfl, rfl, rfl⟩ := hv
        clear HO hn0
        go_wp2_with (at_builtin; go_must (refine wpList_append_own _ rfl (.tmp 28) (.tmp 31) 22 rfl w.heap.size 5 i0 (.int .u8 0) 1 1 Yba.underlying22 hi hz0 hz1 hz2 rfl (by decide) _ 0 [] rfl (World.ownsRow_nil _ _ _ _) ⟨w.heap.size + 1, 0, none⟩ m 8 ((List.range m).map fun j => .int .u8 (fv little m v j)) rfl (by simp) HN.out HU.out (by unfold maxLen; omega) (by omega) (by omega) ?_))
        intro v' w1 own1 grow1 _
        have FP : FieldPost none 0 0 m f (fv little m v) w v' w1 := post_own (base := w.heap.size) (by simpa using own1) (fun h => by omega) (grown_of_below HB.out grow1)
        have HFP : Hid _ := FP
        clear FP own1 grow1
        go_wp2
        go_ret
        exact ⟨_, rfl, HFP.out⟩
      · simp only [Value.slice.injEq, true_and] at hv
        obtain ⟨rfl, rfl⟩ := hv
        have hgw : g < w.heap.size := by
          rcases Nat.lt_or_ge g w.heap.size with h | h
          · exact h
          · rw [Array.getElem?_eq_none h] at hheap; cases hheap
        have hheap' : wr.heap[g]? = some (.cells cur 5 (0, 0)) := (HB.out.block g hgw).trans hheap
        have hlo : ∀ j, j < n → cur[j]? = some (.int .u8 (f j)) := fun j hj => by
          have h1 : (cur.toList.take (n * 1))[j]? = some (Value.int .u8 (f j)) := by rw [htake]; simp [hj]
          rw [List.getElem?_take, if_pos (by omega)] at h1
          simpa using h1
        have HOL : Hid (∀ j u, ((List.range n).map fun j => Value.int .u8 (f j))[j]? = some u → wr.cell? ⟨g, 0 + j, none⟩ = some u) := by
          intro j u hu
          have hj : j < n := by simpa using (List.getElem?_eq_some_iff.1 hu).1
          have : u = .int .u8 (f j) := by simpa [hj] using hu.symm
          rw [this, Nat.zero_add, cell_of_row wr g j cur 5 (0, 0) hheap']
          exact hlo j hj
        have HSP : Hid (n + m ≤ cap → ∀ j, j < ((List.range m).map fun j => Value.int .u8 (fv little m v j)).length → (wr.cell? ⟨g, 0 + n * 1 + j, none⟩).isSome = true ∧ wr.frozen? ⟨g, 0 + n * 1 + j, none⟩ = false) := by
          intro hr j hj
          refine ⟨?_, frozen_of_row wr g _ cur 5 hheap'⟩
          rw [cell_of_row wr g _ cur 5 (0, 0) hheap', Array.getElem?_eq_getElem (by simp at hj; omega)]
          rfl
        have HRO : Hid (n + m ≤ cap → FieldPost (some ⟨g, 0, none⟩) n cap m f (fv little m v) w (.slice (some ⟨g, 0, none⟩) (n + m) cap) (wr.setCells g (0 + n * 1) ((List.range m).map fun j => Value.int .u8 (fv little m v j)))) := fun hr => post_room HB.out hheap' hcs htake hr
        have HGR : Hid (∀ v' w', w'.ownsRow wr.heap.size 5 1 v' (n + m) (((List.range n).map fun j => Value.int .u8 (f j)) ++ ((List.range m).map fun j => Value.int .u8 (fv little m v j))) → wr.grownBy w' none → FieldPost (some ⟨g, 0, none⟩) n cap m f (fv little m v) w v' w') := by
          intro v' w' ho hg
          refine post_own ho (fun _ => ⟨g, rfl, fun j hj => ?_⟩) ?_
          · rw [World.cell?_of_block (a := ⟨g, j, none⟩) (hg.block g (by omega) (by simp)), cell_of_row wr g j cur 5 (0, 0) hheap']
            exact hlo j hj
          · have h1 := grown_of_below HB.out hg
            exact ⟨h1.os, h1.tape, h1.output, h1.size, fun k hk _ => h1.block k hk (by simp)⟩
        clear HO hheap hheap' hlo htake hcs hcm hbase hgw
        go_wp2_with (at_builtin; refine wpList_append_arg _ rfl (.tmp 28) (.tmp 31) 22 rfl 5 i0 (.int .u8 0) 1 1 Yba.underlying22 hi hz0 hz1 hz2 rfl (by decide) g 0 n cap ((List.range n).map fun j => .int .u8 (f j)) rfl (by simp) HOL.out ⟨w.heap.size + 1, 0, none⟩ m 8 ((List.range m).map fun j => .int .u8 (fv little m v j)) rfl (by simp) HN.out HU.out HSP.out (by unfold maxLen; omega) (by omega) ?_ ?_)
        · intro hr
          have HX : Hid (FieldPost (some ⟨g, 0, none⟩) n cap m f (fv little m v) w (.slice (some ⟨g, 0, none⟩) (n + m) cap) (wr.setCells g n ((List.range m).map fun j => Value.int .u8 (fv little m v j)))) := by
            have hx := HRO.out hr
            rw [show 0 + n * 1 = n from by omega] at hx
            exact hx
          clear HRO HGR HSP HOL
          go_wp2
          go_ret
          exact ⟨_, rfl, HX.out⟩
        · intro hr v' w1 own1 grow1
          have HX : Hid (FieldPost (some ⟨g, 0, none⟩) n cap m f (fv little m v) w v' w1) := HGR.out v' w1 own1 grow1
          clear own1 grow1
          go_wp2
          go_ret
          exact ⟨_, rfl, HX.out⟩

end Go.Proofs.Ybulkdslw
