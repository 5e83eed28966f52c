import Derived.Test.YbulkdsicGreatSorted
set_option linter.unusedVariables false
set_option linter.unusedSimpArgs false
namespace Go.Proofs.YbulkdsicGreat
open Go.RowKit Go.Shelf

/-- What the comparison by start reads. -/
structure StartAt (W : World) (Pb bs cs m : Nat) (st : Nat → Nat) : Prop where
  f5 : W.cell? ⟨Pb, 5, none⟩ = some (sl bs 0 m cs)
  at' : ∀ k, k < m → W.cell? ⟨bs, k, none⟩ = some (.float .f64 (st k))
theorem StartAt.below {W W' : World} {Pb bs cs m : Nat} {st : Nat → Nat} (h : StartAt W Pb bs cs m st) (b : Below W.heap.size W W') : StartAt W' Pb bs cs m st :=
  ⟨(Kept.ofBelow (E := fun _ => False) b).cell (fun h => h) h.f5, fun k hk => (Kept.ofBelow (E := fun _ => False) b).cell (p := ⟨bs, k, none⟩) (fun h => h) (h.at' k hk)⟩

set_option maxRecDepth 100000 in
set_option maxHeartbeats 1000000 in
theorem less_any (B1 B2 Pb Bo co bs cs m i j : Nat) (st : Nat → Nat) (hi : i < m) (hj : j < m) (hm : m ≤ 300) (W : World) (h1 : W.cell? ⟨B1, 0, none⟩ = some (.pointer (some ⟨Pb, 0, none⟩))) (h2 : W.cell? ⟨B2, 0, none⟩ = some (sl Bo 0 m co))
    (h3 : ∀ k, k < m → W.cell? ⟨Bo, k, none⟩ = some (vi k)) (h4 : StartAt W Pb bs cs m st)
    (hnot : ∀ w, Sem.run Ybaz.prog (binOp .lss 36 (.float .f64 (st i)) (.float .f64 (st j))) w = .ok (.bool false) w) :
    Calls Ybaz.prog 55 #[vi i, vi j, .pointer (some ⟨B1, 0, none⟩), .pointer (some ⟨B2, 0, none⟩)] W fun e w' => e = .returned (.bool false) ∧ Below W.heap.size W w' := by
  have f5 := h4.f5
  have oi := h3 i hi
  have oj := h3 j hj
  have si := h4.at' i hi
  have sj := h4.at' j hj
  have hii : (i : Int) < (m : Int) := by omega
  have hjj : (j : Int) < (m : Int) := by omega
  clear h3 h4
  go_enter Ybaz.func55, Ybaz.ntmps55
  go_wp2
  go_quiet (fail)
  go_wp2
  go_ret
  exact ⟨rfl, ⟨rfl, rfl, rfl, Nat.le_refl _, fun _ _ => rfl⟩⟩

/-- byStart's own: the pointer, the order, its variable. -/
structure BS (w W : World) (Pb m : Nat) (f : Nat → Value) : Prop where
  bel : Below w.heap.size w W
  p0 : W.cell? ⟨w.heap.size, 0, none⟩ = some (.pointer (some ⟨Pb, 0, none⟩))
  tab : Tab W (w.heap.size + 1) 0 m f
  var : W.cell? ⟨w.heap.size + 2, 0, none⟩ = some (sl (w.heap.size + 1) 0 m m)
  size : w.heap.size + 3 ≤ W.heap.size
theorem BS.make (w : World) (Pb m : Nat) : BS w (((w.alloc (.cells #[.pointer (some ⟨Pb, 0, none⟩)] 72)).alloc (.cells (madeCells #[.int .i64 0] m) 3)).alloc (.cells #[sl (w.heap.size + 1) 0 m m] 26)) Pb m (fun _ => .int .i64 0) := by
  rw [made_one]
  refine ⟨(((Below.refl _ _).alloc (Nat.le_refl _) _).alloc (by rw [World.size_alloc]; omega) _).alloc (by rw [World.size_alloc, World.size_alloc]; omega) _, ?_, ?_, ?_, ?_⟩
  · have c : (w.alloc (.cells #[.pointer (some ⟨Pb, 0, none⟩)] 72)).cell? ⟨w.heap.size, 0, none⟩ = some (.pointer (some ⟨Pb, 0, none⟩)) := by simp
    exact cell_old _ (cell_old _ c)
  · have := (Tab.new (w.alloc (.cells #[.pointer (some ⟨Pb, 0, none⟩)] 72)) m 3 (.int .i64 0)).alloc (.cells #[sl (w.heap.size + 1) 0 m m] 26)
    rw [World.size_alloc] at this
    exact this
  · have := range_new ((w.alloc (.cells #[.pointer (some ⟨Pb, 0, none⟩)] 72)).alloc (.cells (Array.replicate m (.int .i64 0)) 3)) [sl (w.heap.size + 1) 0 m m] 26 0 _ rfl
    rw [World.size_alloc, World.size_alloc] at this
    exact this
  · rw [World.size_alloc, World.size_alloc, World.size_alloc]; omega
theorem BS.set {w W : World} {Pb m : Nat} {f : Nat → Value} (h : BS w W Pb m f) {j : Nat} (hj : j < m) (v : Value) : BS w (W.setCell ⟨w.heap.size + 1, j, none⟩ v) Pb m (fun k => if k = j then v else f k) := by
  refine ⟨h.bel.setCell (p := ⟨w.heap.size + 1, j, none⟩) (by simp) _, ?_, ?_, ?_, by simpa using h.size⟩
  · rw [World.cell?_setCell_other _ _ _ _ (fun e => by have := congrArg Addr.block e; simp at this)]; exact h.p0
  · have := h.tab.set hj v
    rwa [Nat.zero_add] at this
  · rw [World.cell?_setCell_other _ _ _ _ (fun e => by have := congrArg Addr.block e; simp at this)]; exact h.var
theorem BS.ext {w W : World} {Pb m : Nat} {f g : Nat → Value} (h : BS w W Pb m f) (e : ∀ k, k < m → f k = g k) : BS w W Pb m g := ⟨h.bel, h.p0, h.tab.ext e, h.var, h.size⟩

set_option maxRecDepth 100000 in
set_option maxHeartbeats 2000000 in
theorem byStart_any (Pb bm om cm bs cs m : Nat) (st : Nat → Nat) (h2 : 2 ≤ m) (hm : m ≤ 300) (w : World) (h0 : w.cell? ⟨Pb, 0, none⟩ = some (sl bm om m cm)) (h4 : StartAt w Pb bs cs m st)
    (hnot : ∀ i j, j < i → i < m → ∀ w, Sem.run Ybaz.prog (binOp .lss 36 (.float .f64 (st i)) (.float .f64 (st j))) w = .ok (.bool false) w) :
    Calls Ybaz.prog 38 #[.pointer (some ⟨Pb, 0, none⟩)] w fun e w' => (∃ b, e = .returned (sl b 0 m m) ∧ w.heap.size ≤ b ∧ Tab w' b 0 m (fun k => vi k)) ∧ Below w.heap.size w w' := by
  obtain ⟨i3, hi3, hz3, hs3, hb3⟩ := info_parts Ybaz.info3
  have h0' : ∀ ob, (w.alloc ob).cell? ⟨Pb, 0, none⟩ = some (sl bm om m cm) := fun ob => cell_old ob h0
  have BM := hid (BS.make w Pb m)
  have SA := hid h4
  have HN := hid hnot
  clear h4 hnot
  go_enter Ybaz.func38, Ybaz.ntmps38
  go_wp2_with (at_make; refine wpList_make_as rfl (.tmp 10) (.tmp 10) 26 rfl 3 i3 (.int .i64 0) m Ybaz.underlying26 hi3 hz3 rfl rfl (by rw [hb3]; omega) (by omega) ?_)
  refine wp_as (fun W => BS w W Pb m (fun _ => .int .i64 0)) BM.out ?_
  intro W0 bs0
  have e2 : w.heap.size + 1 + 1 = w.heap.size + 2 := rfl
  rw [e2]
  clear e2 BM
  go_loopw [14] (fun x W => ∃ q : Nat, q ≤ m ∧ x = vi q ∧ BS w W Pb m (fun k => if k < q then vi k else .int .i64 0)) (fun x _ => m - (intOf x).toNat)
  case atStart => exact ⟨0, Nat.zero_le _, rfl, bs0.ext (fun k _ => by simp)⟩
  case round =>
    obtain ⟨q, hq, rfl, bq⟩ := hrel
    clear bs0
    by_cases hlt : q < m
    · have hli : (q : Int) < (m : Int) := by omega
      have hv := bq.var
      have hc : wr.cell? ⟨w.heap.size + 1, q, none⟩ = some (.int .i64 0) := by simpa using bq.tab.cell hlt
      have hf : wr.frozen? ⟨w.heap.size + 1, q, none⟩ = false := by simpa using bq.tab.free hlt
      have BQ := hid bq
      clear bq
      go_wp2
      go_roundw
      case rel =>
        refine ⟨q + 1, by omega, by go_num, (BQ.out.set hlt (vi q)).ext (fun k hk => ?_)⟩
        by_cases hx : k = q
        · simp [hx]
        · have : (k < q + 1) = (k < q) := by apply propext; omega
          simp [hx, this]
      case measure => simp [intOf]; omega
    · obtain rfl : q = m := by omega
      have bm1 : BS w wr Pb q (fun k => vi k) := bq.ext (fun k hk => by simp [hk])
      have hv := bm1.var
      have LN : LessNo wr q (.pointer (some ⟨w.heap.size, 0, none⟩)) (.pointer (some ⟨w.heap.size + 2, 0, none⟩)) := fun W hW i j hj hi => by
        have kp : Kept (fun _ => False) wr W := Kept.ofBelow hW
        exact less_any w.heap.size (w.heap.size + 2) Pb (w.heap.size + 1) q bs cs q i j st hi (by omega) hm W (kp.cell (fun h => h) bm1.p0) (kp.cell (fun h => h) bm1.var)
          (fun k hk => by have := kp.cell (p := ⟨w.heap.size + 1, 0 + k, none⟩) (fun h => h) (bm1.tab.cell hk); rwa [Nat.zero_add] at this) ((SA.out.below bm1.bel).below hW) (HN.out i j hj hi)
      have ST := hid (sliceStable_any (w.heap.size + 1) q q h2 hm _ _ wr LN)
      have BQ := hid bm1
      clear bq bm1 LN
      go_wp2_with (go_at_call 35; refine ST.out.mono ?_; rintro e W2 ⟨rfl, hb2⟩; have hv2 := (Kept.ofBelow (E := fun _ => False) hb2).cell (fun h => h) BQ.out.var; have B2 := hid hb2; clear hb2 ST)
      go_ret
      refine ⟨⟨w.heap.size + 1, rfl, by omega, BQ.out.tab.kept (Kept.ofBelow (E := fun _ => False) B2.out) (fun h => h)⟩, BQ.out.bel.trans (B2.out.mono (by have := BQ.out.size; omega))⟩
end Go.Proofs.YbulkdsicGreat
