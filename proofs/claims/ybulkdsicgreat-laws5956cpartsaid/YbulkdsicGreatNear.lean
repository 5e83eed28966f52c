import Derived.Test.YbulkdsicGreatMark
set_option linter.unusedVariables false
set_option linter.unusedSimpArgs false
namespace Go.Proofs.YbulkdsicGreat
open Go.RowKit Go.Shelf

theorem own_cut0 {w : World} {base e n g c : Nat} {xs : List Value} (h : w.ownsRow base e 1 (sl g 0 n c) n xs) : w.ownsRow base e 1 (sl g 0 0 c) 0 [] := by
  refine ⟨rfl, .inr ?_⟩
  rcases h.2 with ⟨h0, _⟩ | ⟨g', cap', cur, hv, hb, hc, h1, h2, h3, _⟩
  · cases h0
  · cases hv
    exact ⟨g, c, cur, rfl, hb, hc, Nat.zero_le _, h2, h3, by simp⟩
theorem kept_drewN {E : Nat → Prop} {a w : World} (h : Kept E a w) (n : Nat) : Kept E a (w.drewN n) := ⟨h.os, h.tape, h.output, h.size, h.block⟩

set_option maxRecDepth 100000 in
set_option maxHeartbeats 4000000 in
theorem near_at (base Bn Bc Bp Bm Bg Nb Pb n cp Mb o : Nat) (cv : Value) (near : Nat → Int) (kv : List (Nat × Value)) (w : World) (h : NM w base Bn Bc Bp Bm Bg Nb Pb n cp Mb cv near kv) (hn : n ≤ 300) (ho : o < n) (hno : near o = -2) (hbase : base ≤ w.heap.size)
    (l1 : Bn < base) (l2 : Bc < base) (l3 : Bp < base) (l4 : Bm < base) (l5 : Bg < base) (l6 : Nb < base) (l7 : Pb < base) (l8 : Mb < base) (n1 : Bn ≠ Bc) (n3 : Bp ≠ Bc) (n4 : Bm ≠ Bc) (n5 : Bg ≠ Bc) (n6 : Nb ≠ Bc) (n7 : Pb ≠ Bc) (n8 : Mb ≠ Bc) :
    Calls Ybaz.prog 45 #[vi o, .pointer (some ⟨Bn, 0, none⟩), .pointer (some ⟨Bc, 0, none⟩), .pointer (some ⟨Bp, 0, none⟩), .pointer (some ⟨Bm, 0, none⟩)] w fun e w' =>
      e = .returned (.int .i64 (if (kv.lookup o).isSome then (o : Int) else -1)) ∧ Kept (fun b => b = Bc ∨ b = Nb ∨ cv.ownBlock = some b) w w' ∧
      (∃ cv', w'.cell? ⟨Bc, 0, none⟩ = some cv' ∧ w'.frozen? ⟨Bc, 0, none⟩ = false ∧ w'.ownsRow base 3 1 cv' 0 [] ∧ (cv'.ownBlock = cv.ownBlock ∨ ∃ g, cv'.ownBlock = some g ∧ w.heap.size ≤ g)) ∧ Tab w' Nb 0 n (fun k => .int .i64 (if k = o then (if (kv.lookup o).isSome then (o : Int) else -1) else near k)) := by
  obtain ⟨i3, hi3, hz3, hs3, hb3⟩ := info_parts Ybaz.info3
  have v1 := h.v1
  have v2 := h.v2
  have f2 := h.f2
  have v3 := h.v3
  have p0 := h.par o ho
  have t0 : w.cell? ⟨Nb, o, none⟩ = some (.int .i64 (-2)) := by have := h.tab.cell ho; rw [hno] at this; simpa using this
  have hoi : (o : Int) < (n : Int) := by omega
  obtain ⟨sa, c, rfl, _⟩ := own_form h.own
  have hne : ((o : Int) != -1) = true := by
    have : ¬ ((o : Int) = -1) := by omega
    simp
  have H := hid h
  have NE := hid (show Bn ≠ Bc ∧ Bp ≠ Bc ∧ Bm ≠ Bc ∧ Bg ≠ Bc ∧ Nb ≠ Bc ∧ Pb ≠ Bc ∧ Mb ≠ Bc from ⟨n1, n3, n4, n5, n6, n7, n8⟩)
  clear h n1 n3 n4 n5 n6 n7 n8
  have v3' : ∀ ob, (w.alloc ob).cell? ⟨Bp, 0, none⟩ = some (sl Pb 0 n cp) := fun ob => cell_old ob v3
  go_enter Ybaz.func45, Ybaz.ntmps45
  go_wp2
  refine wp_loop_rounds 2 ?_
  rw [rounds_succ]
  go_wp2_with (at_builtin; refine wpList_append_own_at _ rfl (.tmp 20) (.tmp 22) 26 rfl base 3 i3 (.int .i64 0) 1 8 Ybaz.underlying26 hi3 hz3 hs3 hb3 rfl (by decide) (.slice sa 0 c) 0 [] rfl (own_kept H.out.own ((Kept.refl (fun _ => False) w).alloc _) (fun _ _ h => h)) ⟨w.heap.size, 0, none⟩ 1 1 [vi o] rfl rfl (news1 w (vi o) 3) (by simp [Value.oneCell']) (by unfold maxLen; omega) (by omega) (by simp; omega) ?_; intro v' w1 own1 grow1 _ mv1; obtain ⟨g1, c1, rfl⟩ := own_slice own1; have kw : Kept (fun b => (Value.slice sa 0 c).ownBlock = some b) w w1 := (((Kept.refl _ w).alloc (.cells #[vi o] 3)).grown grow1 (fun b hb => .inl hb)); have hlo : ∀ b, b < base → ¬ ((Value.slice sa 0 c).ownBlock = some b) := (fun b hb he => by have := (own_block H.out.own he).1; omega); have w2 := kw.cell (p := ⟨Bc, 0, none⟩) (hlo Bc l2) v2; have w2f : w1.frozen? ⟨Bc, 0, none⟩ = false := (by rw [World.frozen?_of_block (w := w) (kw.block Bc (World.block_lt_of_cell? w _ v2) (hlo Bc l2))]; exact f2); have O1 := hid own1; have KW := hid kw; have HL := hid hlo; have MV : Hid ((sl g1 0 0 c1 : Value).ownBlock = (Value.slice sa 0 c).ownBlock ∨ ∃ g, (sl g1 0 0 c1 : Value).ownBlock = some g ∧ w.heap.size ≤ g) := hid (by rcases mv1 with h | h; exact .inl h; exact .inr ⟨_, h, by simp⟩); clear grow1 mv1; obtain ⟨n1, n3, n4, n5, n6, n7, n8⟩ := NE.out; have hg1 : base ≤ g1 := (own_block own1 (g := g1) rfl).1; obtain ⟨W2, hW2⟩ : ∃ W2, w1.setCell ⟨Bc, 0, none⟩ (sl g1 0 1 c1) = W2 := ⟨_, rfl⟩; have kx : Kept (fun b => b = Bc ∨ (Value.slice sa 0 c).ownBlock = some b) w W2 := (by rw [← hW2]; exact (kw.weak (fun _ _ h => .inr h)).setCell (p := ⟨Bc, 0, none⟩) (.inl (.inl rfl)) _); have nx : ∀ b, b < base → b ≠ Bc → ¬ (b = Bc ∨ (Value.slice sa 0 c).ownBlock = some b) := (fun b hb hn he => by rcases he with h | h; exact hn h; exact hlo b hb h); have a1 := kx.cell (p := ⟨Bp, 0, none⟩) (nx Bp l3 n3) v3; have a2 := kx.cell (p := ⟨Pb, o, none⟩) (nx Pb l7 n7) p0; have a3 : W2.cell? ⟨Bc, 0, none⟩ = some (sl g1 0 1 c1) := (by rw [← hW2]; exact World.cell?_setCell_same' _ _ _ (by rw [w2]; rfl)); have a4 := kx.cell (p := ⟨Bn, 0, none⟩) (nx Bn l1 n1) v1; have a5 := kx.cell (p := ⟨Nb, o, none⟩) (nx Nb l6 n6) t0; have a6 := kx.cell (p := ⟨Bm, 0, none⟩) (nx Bm l4 n4) H.out.v4; have a7 : W2.cell? ⟨g1, 0, none⟩ = some (vi o) := (by rw [← hW2, World.cell?_setCell_other _ _ _ _ (fun he => by have := congrArg Addr.block he; simp at this; omega)]; obtain ⟨g', c', e', x1, _⟩ := own_cell own1 (j := 0) (u := vi o) rfl; cases e'; exact x1); have KX := hid kx; have NX := hid nx; have FZ : W2.frozen? ⟨Bc, 0, none⟩ = false := (by rw [← hW2, World.frozen?_setCell]; exact w2f); clear own1 kw hlo kx nx n1 n3 n4 n5 n6 n7 n8)
  rw [rounds_succ]
  go_wp2
  refine wp_loop_rounds 2 ?_
  rw [rounds_succ]
  go_wp2
  cases hlk : (kv.lookup o).isSome with
  | true =>
    refine wp_region_quiet_tail 5 (fun w' => ∃ nq, w' = W2.drewN nq) mixed (by kernel_rfl) ⟨1, rfl⟩ ?_
    dsimp only [List.take, List.drop]
    repeat go_big_quiet_step (fail)
    refine wpQuiet_nil ?_
    rintro _ ⟨nq, rfl⟩
    have MA := hid (marked_any Bg Mb o kv (W2.drewN nq) (KX.out.cell (p := ⟨Bg, 0, none⟩) (NX.out Bg l5 NE.out.2.2.2.1) H.out.v5) (show MapI W2 Mb kv from H.out.map.kept KX.out (NX.out Mb l8 NE.out.2.2.2.2.2.2)))
    rw [hlk] at MA
    go_wp2_with (go_at_call 26; refine MA.out.mono ?_; rintro e w' ⟨rfl, rfl⟩)
    obtain ⟨W3, hW3⟩ : ∃ W3, W2.drewN nq = W3 := ⟨_, rfl⟩
    have a3' : W3.cell? ⟨Bc, 0, none⟩ = some (sl g1 0 1 c1) := by rw [← hW3]; exact a3
    have a4' : W3.cell? ⟨Bn, 0, none⟩ = some (sl Nb 0 n n) := by rw [← hW3]; exact a4
    have a5' : W3.cell? ⟨Nb, o, none⟩ = some (.int .i64 (-2)) := by rw [← hW3]; exact a5
    have a7' : W3.cell? ⟨g1, 0, none⟩ = some (vi o) := by rw [← hW3]; exact a7
    have tb : Tab W3 Nb 0 n (fun k => .int .i64 (near k)) := by rw [← hW3]; exact (H.out.tab.kept (E := fun b => b = Bc ∨ (Value.slice sa 0 c).ownBlock = some b) KX.out (NX.out Nb l6 NE.out.2.2.2.2.1) : Tab W2 Nb 0 n _)
    have fz5 : W3.frozen? ⟨Nb, o, none⟩ = false := by simpa using tb.free ho
    rw [hW3]
    have TB3 := hid tb
    clear tb
    refine wp_region_quiet_tail 6 (fun w' => ∃ nq, w' = W3.drewN nq) mixed (by kernel_rfl) ⟨1, rfl⟩ ?_
    dsimp only [List.take, List.drop]
    repeat go_big_quiet_step (fail)
    refine wpQuiet_nil ?_
    rintro _ ⟨nr, rfl⟩
    have nBn : Bn ≠ Nb := fun e => by
      have x1 := TB3.out.cell (show 0 < n by omega)
      rw [e] at a4'
      rw [Nat.zero_add, a4'] at x1
      cases x1
    have nBc := NE.out.2.2.2.2.1
    have hg1n : g1 ≠ Nb := fun e => by omega
    obtain ⟨W4, hW4⟩ : ∃ W4, (W3.drewN nr).setCell ⟨Nb, o, none⟩ (.int .i64 o) = W4 := ⟨_, rfl⟩
    have b3 : W4.cell? ⟨Bc, 0, none⟩ = some (sl g1 0 1 c1) := by rw [← hW4, World.cell?_setCell_other _ _ _ _ (fun he => nBc (congrArg Addr.block he))]; exact a3'
    have b3f : W4.frozen? ⟨Bc, 0, none⟩ = false := by rw [← hW4, World.frozen?_setCell, ← hW3]; exact FZ
    have b4 : W4.cell? ⟨Bn, 0, none⟩ = some (sl Nb 0 n n) := by rw [← hW4, World.cell?_setCell_other _ _ _ _ (fun he => nBn (congrArg Addr.block he).symm)]; exact a4'
    have b5 : W4.cell? ⟨Nb, o, none⟩ = some (.int .i64 o) := by rw [← hW4]; exact World.cell?_setCell_same' _ _ _ (by show (W3.cell? _).isSome = true; rw [a5']; rfl)
    obtain ⟨W5, hW5⟩ : ∃ W5, W4.setCell ⟨Bc, 0, none⟩ (sl g1 0 0 c1) = W5 := ⟨_, rfl⟩
    have d4 : W5.cell? ⟨Bn, 0, none⟩ = some (sl Nb 0 n n) := by rw [← hW5, World.cell?_setCell_other _ _ _ _ (fun he => NE.out.1 (congrArg Addr.block he).symm)]; exact b4
    have d5 : W5.cell? ⟨Nb, o, none⟩ = some (.int .i64 o) := by rw [← hW5, World.cell?_setCell_other _ _ _ _ (fun he => nBc (congrArg Addr.block he).symm)]; exact b5
    go_wp2
    rw [rounds_succ]
    go_wp2
    all_goals
      go_ret
      have kf : Kept (fun b => b = Bc ∨ b = Nb ∨ (Value.slice sa 0 c).ownBlock = some b) w W5 := by
        have k2 : Kept (fun b => b = Bc ∨ b = Nb ∨ (Value.slice sa 0 c).ownBlock = some b) w W3 := by
          rw [← hW3]
          have k3 := KX.out.weak (E' := fun b => b = Bc ∨ b = Nb ∨ (Value.slice sa 0 c).ownBlock = some b) (fun b _ hb => by rcases hb with h | h; exact .inl h; exact .inr (.inr h))
          exact ⟨k3.os, k3.tape, k3.output, k3.size, k3.block⟩
        have k4 : Kept (fun b => b = Bc ∨ b = Nb ∨ (Value.slice sa 0 c).ownBlock = some b) w (W3.drewN nr) := ⟨k2.os, k2.tape, k2.output, k2.size, k2.block⟩
        rw [← hW5, ← hW4]
        exact (k4.setCell (p := ⟨Nb, o, none⟩) (.inl (.inr (.inl rfl))) _).setCell (p := ⟨Bc, 0, none⟩) (.inl (.inl rfl)) _
      refine ⟨rfl, kf, ⟨sl g1 0 0 c1, ?_, ?_, ?_, MV.out⟩, ?_⟩
      · rw [← hW5]; exact World.cell?_setCell_same' _ _ _ (by rw [b3]; rfl)
      · rw [← hW5, World.frozen?_setCell]; exact b3f
      · have k5 : Kept (fun b => b = Bc ∨ b = Nb) w1 W5 := by
          rw [← hW5, ← hW4, ← hW3, ← hW2]
          exact ((kept_drewN (kept_drewN ((Kept.refl (fun b => b = Bc ∨ b = Nb) w1).setCell (p := ⟨Bc, 0, none⟩) (.inl (.inl rfl)) _) nq) nr).setCell (p := ⟨Nb, o, none⟩) (.inl (.inr rfl)) _).setCell (p := ⟨Bc, 0, none⟩) (.inl (.inl rfl)) _
        refine own_kept (own_cut0 O1.out) k5 (fun g hg he => ?_)
        cases hg
        rcases he with h | h
        · have h' : g1 = Bc := h
          omega
        · exact hg1n h
      · have t1 : Tab (W3.drewN nr) Nb 0 n (fun k => .int .i64 (near k)) := TB3.out
        have t2 := t1.set ho (.int .i64 o)
        rw [Nat.zero_add, hW4] at t2
        have t3 := t2.other ⟨Bc, 0, none⟩ (sl g1 0 0 c1) (fun e => absurd e.symm nBc)
        rw [hW5] at t3
        exact t3.ext (fun k _ => by by_cases hk : k = o <;> simp [hk])
  | false =>
    refine wp_region_quiet_tail 5 (fun w' => ∃ nq, w' = W2.drewN nq) mixed (by kernel_rfl) ⟨1, rfl⟩ ?_
    dsimp only [List.take, List.drop]
    repeat go_big_quiet_step (fail)
    refine wpQuiet_nil ?_
    rintro _ ⟨nq, rfl⟩
    have MA := hid (marked_any Bg Mb o kv (W2.drewN nq) (KX.out.cell (p := ⟨Bg, 0, none⟩) (NX.out Bg l5 NE.out.2.2.2.1) H.out.v5) (show MapI W2 Mb kv from H.out.map.kept KX.out (NX.out Mb l8 NE.out.2.2.2.2.2.2)))
    rw [hlk] at MA
    go_wp2_with (go_at_call 26; refine MA.out.mono ?_; rintro e w' ⟨rfl, rfl⟩)
    obtain ⟨W3, hW3⟩ : ∃ W3, W2.drewN nq = W3 := ⟨_, rfl⟩
    have a3' : W3.cell? ⟨Bc, 0, none⟩ = some (sl g1 0 1 c1) := by rw [← hW3]; exact a3
    have a4' : W3.cell? ⟨Bn, 0, none⟩ = some (sl Nb 0 n n) := by rw [← hW3]; exact a4
    have a5' : W3.cell? ⟨Nb, o, none⟩ = some (.int .i64 (-2)) := by rw [← hW3]; exact a5
    have a7' : W3.cell? ⟨g1, 0, none⟩ = some (vi o) := by rw [← hW3]; exact a7
    have tb : Tab W3 Nb 0 n (fun k => .int .i64 (near k)) := by rw [← hW3]; exact (H.out.tab.kept (E := fun b => b = Bc ∨ (Value.slice sa 0 c).ownBlock = some b) KX.out (NX.out Nb l6 NE.out.2.2.2.2.1) : Tab W2 Nb 0 n _)
    have fz5 : W3.frozen? ⟨Nb, o, none⟩ = false := by simpa using tb.free ho
    rw [hW3]
    have TB3 := hid tb
    clear tb
    refine wp_region_quiet_tail 6 (fun w' => ∃ nq, w' = W3.drewN nq) mixed (by kernel_rfl) ⟨1, rfl⟩ ?_
    dsimp only [List.take, List.drop]
    repeat go_big_quiet_step (fail)
    refine wpQuiet_nil ?_
    rintro _ ⟨nr, rfl⟩
    have nBn : Bn ≠ Nb := fun e => by
      have x1 := TB3.out.cell (show 0 < n by omega)
      rw [e] at a4'
      rw [Nat.zero_add, a4'] at x1
      cases x1
    have nBc := NE.out.2.2.2.2.1
    have hg1n : g1 ≠ Nb := fun e => by omega
    obtain ⟨W4, hW4⟩ : ∃ W4, (W3.drewN nr).setCell ⟨Nb, o, none⟩ (.int .i64 (-1)) = W4 := ⟨_, rfl⟩
    have b3 : W4.cell? ⟨Bc, 0, none⟩ = some (sl g1 0 1 c1) := by rw [← hW4, World.cell?_setCell_other _ _ _ _ (fun he => nBc (congrArg Addr.block he))]; exact a3'
    have b3f : W4.frozen? ⟨Bc, 0, none⟩ = false := by rw [← hW4, World.frozen?_setCell, ← hW3]; exact FZ
    have b4 : W4.cell? ⟨Bn, 0, none⟩ = some (sl Nb 0 n n) := by rw [← hW4, World.cell?_setCell_other _ _ _ _ (fun he => nBn (congrArg Addr.block he).symm)]; exact a4'
    have b5 : W4.cell? ⟨Nb, o, none⟩ = some (.int .i64 (-1)) := by rw [← hW4]; exact World.cell?_setCell_same' _ _ _ (by show (W3.cell? _).isSome = true; rw [a5']; rfl)
    obtain ⟨W5, hW5⟩ : ∃ W5, W4.setCell ⟨Bc, 0, none⟩ (sl g1 0 0 c1) = W5 := ⟨_, rfl⟩
    have d4 : W5.cell? ⟨Bn, 0, none⟩ = some (sl Nb 0 n n) := by rw [← hW5, World.cell?_setCell_other _ _ _ _ (fun he => NE.out.1 (congrArg Addr.block he).symm)]; exact b4
    have d5 : W5.cell? ⟨Nb, o, none⟩ = some (.int .i64 (-1)) := by rw [← hW5, World.cell?_setCell_other _ _ _ _ (fun he => nBc (congrArg Addr.block he).symm)]; exact b5
    go_wp2
    rw [rounds_succ]
    go_wp2
    all_goals
      go_ret
      have kf : Kept (fun b => b = Bc ∨ b = Nb ∨ (Value.slice sa 0 c).ownBlock = some b) w W5 := by
        have k2 : Kept (fun b => b = Bc ∨ b = Nb ∨ (Value.slice sa 0 c).ownBlock = some b) w W3 := by
          rw [← hW3]
          have k3 := KX.out.weak (E' := fun b => b = Bc ∨ b = Nb ∨ (Value.slice sa 0 c).ownBlock = some b) (fun b _ hb => by rcases hb with h | h; exact .inl h; exact .inr (.inr h))
          exact ⟨k3.os, k3.tape, k3.output, k3.size, k3.block⟩
        have k4 : Kept (fun b => b = Bc ∨ b = Nb ∨ (Value.slice sa 0 c).ownBlock = some b) w (W3.drewN nr) := ⟨k2.os, k2.tape, k2.output, k2.size, k2.block⟩
        rw [← hW5, ← hW4]
        exact (k4.setCell (p := ⟨Nb, o, none⟩) (.inl (.inr (.inl rfl))) _).setCell (p := ⟨Bc, 0, none⟩) (.inl (.inl rfl)) _
      refine ⟨rfl, kf, ⟨sl g1 0 0 c1, ?_, ?_, ?_, MV.out⟩, ?_⟩
      · rw [← hW5]; exact World.cell?_setCell_same' _ _ _ (by rw [b3]; rfl)
      · rw [← hW5, World.frozen?_setCell]; exact b3f
      · have k5 : Kept (fun b => b = Bc ∨ b = Nb) w1 W5 := by
          rw [← hW5, ← hW4, ← hW3, ← hW2]
          exact ((kept_drewN (kept_drewN ((Kept.refl (fun b => b = Bc ∨ b = Nb) w1).setCell (p := ⟨Bc, 0, none⟩) (.inl (.inl rfl)) _) nq) nr).setCell (p := ⟨Nb, o, none⟩) (.inl (.inr rfl)) _).setCell (p := ⟨Bc, 0, none⟩) (.inl (.inl rfl)) _
        refine own_kept (own_cut0 O1.out) k5 (fun g hg he => ?_)
        cases hg
        rcases he with h | h
        · have h' : g1 = Bc := h
          omega
        · exact hg1n h
      · have t1 : Tab (W3.drewN nr) Nb 0 n (fun k => .int .i64 (near k)) := TB3.out
        have t2 := t1.set ho (.int .i64 (-1))
        rw [Nat.zero_add, hW4] at t2
        have t3 := t2.other ⟨Bc, 0, none⟩ (sl g1 0 0 c1) (fun e => absurd e.symm nBc)
        rw [hW5] at t3
        exact t3.ext (fun k _ => by by_cases hk : k = o <;> simp [hk])
end Go.Proofs.YbulkdsicGreat
