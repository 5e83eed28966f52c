import Derived.Test.YbulkdsicGreatSer1
set_option linter.unusedVariables false
set_option linter.unusedSimpArgs false
namespace Go.Proofs.YbulkdsicGreat
open Go.RowKit Go.Shelf

theorem own_base {w : World} {base base' e size n : Nat} {v : Value} {xs : List Value} (h : w.ownsRow base' e size v n xs) (hb : base ≤ base') : w.ownsRow base e size v n xs := by
  refine ⟨h.1, ?_⟩
  rcases h.2 with h0 | ⟨g, cap, cur, rfl, h1, h2⟩
  · exact .inl h0
  · exact .inr ⟨g, cap, cur, rfl, Nat.le_trans hb h1, h2⟩
theorem Ybaz.info4 : (Ybaz.prog.info? 4).map (fun i => (i.zero, i.size, i.bytes)) = some (some (.bool false), 1, 1) := by kernel_rfl
theorem SR.start {w W1 : World} {Ob m : Nat} (bel : Below w.heap.size w W1) (ord : Tab W1 Ob 0 m (fun k => vi k)) (hm : 0 < m) (hO : w.heap.size ≤ Ob) :
    SR w ((((W1.alloc (.cells (Array.replicate m (.bool false)) 4)).alloc (.cells (Array.replicate m (.int .i64 0)) 3)).alloc (.cells (Array.replicate m (.int .i64 0)) 3)).alloc (.cells (Array.replicate m (.int .i64 0)) 3)) (W1.heap.size + 4) Ob W1.heap.size (W1.heap.size + 1) (W1.heap.size + 2) (W1.heap.size + 3) m (fun _ => .bool false) (fun _ => vi 0) (fun _ => vi 0) (fun _ => vi 0) (.slice none 0 0) [] := by
  have hlt := ord.lt hm
  have hb := bel.size
  have t2 := Tab.new (W1.alloc (.cells (Array.replicate m (.bool false)) 4)) m 3 (.int .i64 0)
  have t3 := Tab.new ((W1.alloc (.cells (Array.replicate m (.bool false)) 4)).alloc (.cells (Array.replicate m (.int .i64 0)) 3)) m 3 (.int .i64 0)
  have t4 := Tab.new (((W1.alloc (.cells (Array.replicate m (.bool false)) 4)).alloc (.cells (Array.replicate m (.int .i64 0)) 3)).alloc (.cells (Array.replicate m (.int .i64 0)) 3)) m 3 (.int .i64 0)
  simp only [World.size_alloc] at t2 t3 t4
  refine ⟨(((bel.alloc hb _).alloc (by simp only [World.size_alloc]; omega) _).alloc (by simp only [World.size_alloc]; omega) _).alloc (by simp only [World.size_alloc]; omega) _, (((ord.alloc _).alloc _).alloc _).alloc _, (((Tab.new W1 m 4 (.bool false)).alloc _).alloc _).alloc _, (t2.alloc _).alloc _, t3.alloc _, t4, ⟨[], OR.nil _ _⟩, ?_, ?_, ?_, ?_, ?_, ?_, ?_, ?_, ?_, ?_, ?_, ?_, ?_, ?_, ?_, ?_, ?_, ?_, ?_, ?_, ?_⟩ <;> (try simp only [World.size_alloc]) <;> omega
theorem slice_lo (b o n c lo hi : Nat) (h1 : lo ≤ hi) (h2 : hi ≤ c) (h3 : lo < c) (W : World) : Sem.run Ybaz.prog (Instr.sliceAt 26 (sl b o n c) (some (vi lo)) (some (vi hi)) none) W = .ok (sl b (o + lo) (hi - lo) (c - lo)) W := by
  rw [slice_lh b o n c lo hi h1 h2 W, if_neg (by omega)]
theorem slice_l (b o n c lo : Nat) (h1 : lo ≤ n) (h2 : n ≤ c) (h3 : lo < c) (W : World) : Sem.run Ybaz.prog (Instr.sliceAt 26 (sl b o n c) (some (vi lo)) none none) W = .ok (sl b (o + lo) (n - lo) (c - lo)) W := by
  have e3 : Ybaz.prog.elem 26 = 3 := by kernel_rfl
  have u26 : Ybaz.prog.underlying 26 = some (.slice (Ybaz.prog.elem 26)) := by rw [e3]; exact Ybaz.underlying26
  have s3 : ∀ W, Sem.run Ybaz.prog (Go.sizeOf 3) W = .ok 1 W := fun W => by kernel_rfl
  rw [run_sliceAt_slice W 26 _ _ _ _ u26, run_slice_l (P := Ybaz.prog) W 26 _ n c u26 .i64 lo (by omega) (by omega), e3, s3]
  simp only [sliced, Result.andThen, Int.toNat_natCast, Option.map_some, Addr.add, Nat.mul_one]
  rw [if_neg (by omega)]
  by_cases h9 : lo = 0
  · subst h9; simp
  · rw [if_neg h9]

set_option maxRecDepth 100000 in
set_option maxHeartbeats 4000000 in
theorem series_any (Pb m bm om cm bp cp bs cs bt ct : Nat) (st : Nat → Nat) (h2 : 2 ≤ m) (hm : m ≤ 300) (w : World) (h : PartC w Pb m bm om cm bp cp bs cs bt ct st)
    (hnot : ∀ i j, j < i → i < m → ∀ w, Sem.run Ybaz.prog (binOp .lss 36 (.float .f64 (st i)) (.float .f64 (st j))) w = .ok (.bool false) w) :
    Calls Ybaz.prog 20 #[.pointer (some ⟨Pb, 0, none⟩)] w fun e w' => (∃ v vals base, e = .returned v ∧ w.heap.size ≤ base ∧ OR w' base v vals (ones m)) ∧ Below w.heap.size w w' := by
  obtain ⟨i3, hi3, hz3, hs3, hb3⟩ := info_parts Ybaz.info3
  obtain ⟨i4, hi4, hz4, hs4, hb4⟩ := info_parts Ybaz.info4
  obtain ⟨i26, hi26, hz26, hs26, hb26⟩ := info_parts Ybaz.info26
  have BS := hid (byStart_any Pb bm om cm bt ct m st h2 hm w h.f0 h.st' hnot)
  have c0 := h.f0
  have H := hid h
  clear h hnot
  go_enter Ybaz.func20, Ybaz.ntmps20
  go_upto_region 7 with (first
    | (go_at_call 38; refine BS.out.mono ?_; rintro e W1 ⟨⟨Ob, rfl, hOb, hord⟩, bel1⟩; have OR1 := hid hord; have BEL1 := hid bel1; clear hord bel1 BS)
    | (at_make; refine wpList_make_as rfl (.tmp 35) (.tmp 35) 48 rfl 4 i4 (.bool false) m Ybaz.underlying48 hi4 hz4 rfl rfl (by rw [hb4]; omega) (by omega) ?_)
    | (at_make; refine wpList_make_as rfl (.tmp 37) (.tmp 37) 26 rfl 3 i3 (.int .i64 0) m Ybaz.underlying26 hi3 hz3 rfl rfl (by rw [hb3]; omega) (by omega) ?_)
    | (at_make; refine wpList_make_as rfl (.tmp 39) (.tmp 39) 26 rfl 3 i3 (.int .i64 0) m Ybaz.underlying26 hi3 hz3 rfl rfl (by rw [hb3]; omega) (by omega) ?_)
    | (at_make; refine wpList_make_as rfl (.tmp 41) (.tmp 41) 26 rfl 3 i3 (.int .i64 0) m Ybaz.underlying26 hi3 hz3 rfl rfl (by rw [hb3]; omega) (by omega) ?_))
  simp only [made_one, World.size_alloc]
  obtain ⟨Bb, hBb⟩ : ∃ Bb, W1.heap.size = Bb := ⟨_, rfl⟩
  have SR0 := hid (SR.start BEL1.out OR1.out (by omega) hOb)
  rw [hBb] at SR0 ⊢
  obtain ⟨Fb, hFb⟩ : ∃ Fb, Bb + 1 = Fb := ⟨_, rfl⟩
  obtain ⟨Wb, hWb⟩ : ∃ Wb, Fb + 1 = Wb := ⟨_, rfl⟩
  obtain ⟨Lb, hLb⟩ : ∃ Lb, Wb + 1 = Lb := ⟨_, rfl⟩
  obtain ⟨base, hbase⟩ : ∃ base, Lb + 1 = base := ⟨_, rfl⟩
  simp only [show Bb + 2 = Wb by omega, show Bb + 3 = Lb by omega, show Bb + 4 = base by omega, hFb] at SR0
  simp only [hFb, hWb, hLb]
  refine wp_as (fun V => SR w V base Ob Bb Fb Wb Lb m (fun _ => .bool false) (fun _ => vi 0) (fun _ => vi 0) (fun _ => vi 0) (.slice none 0 0) ([])) SR0.out ?_
  intro V0 sr0
  clear SR0 OR1 BEL1
  have pc0 := H.out.below sr0.bel
  have x0 := pc0.f3
  clear pc0
  go_wp2
  go_loopw [48] (fun x V => ∃ q : Nat, q ≤ m ∧ x = vi q ∧ SR w V base Ob Bb Fb Wb Lb m (fun _ => .bool false) (fun _ => vi 0) (fun y => if 0 < y ∧ y < q then vi 1 else vi 0) (fun _ => vi 0) (.slice none 0 0) ([])) (fun x _ => m - (intOf x).toNat)
  case atStart => exact ⟨0, Nat.zero_le _, rfl, sr0.ext (fun _ _ => rfl) (fun _ _ => rfl) (fun y _ => by rw [if_neg (by omega)]) (fun _ _ => rfl)⟩
  case round =>
    obtain ⟨q, hq, rfl, sr⟩ := hrel
    have pc := H.out.below sr.bel
    by_cases hlt : q < m
    · have hqi : (q : Int) < (m : Int) := by omega
      have y0 := sr.cellw hlt
      have y1 := sr.freew hlt
      have SRI := hid sr
      clear sr0 x0 sr
      rcases Nat.eq_zero_or_pos q with hq0 | hq0
      · subst hq0
        have y2 := pc.p0
        clear pc
        go_wp2
        go_roundw
        case rel =>
          refine ⟨1, by omega, by go_num, (SRI.out.setw (i := 0) (by omega) _).ext (fun _ _ => rfl) (fun _ _ => rfl) (fun y _ => ?_) (fun _ _ => rfl)⟩
          by_cases hy : y = 0
          · subst hy; simp
          · rw [if_neg hy, if_neg (by omega), if_neg (by omega)]
        case measure => simp [intOf]; omega
      · obtain ⟨j, rfl⟩ : ∃ j, q = j + 1 := ⟨q - 1, by omega⟩
        obtain ⟨g, c, y2, y3⟩ := pc.p1 j (by omega)
        clear pc y3
        go_wp2
        go_roundw
        case rel =>
          refine ⟨j + 1 + 1, by omega, by go_num, (SRI.out.setw (i := j + 1) (by omega) _).ext (fun _ _ => rfl) (fun _ _ => rfl) (fun y _ => ?_) (fun _ _ => rfl)⟩
          by_cases hy : y = j + 1
          · subst hy; simp
          · rw [if_neg hy]
            have : (0 < y ∧ y < j + 1) = (0 < y ∧ y < j + 1 + 1) := by apply propext; omega
            simp only [this]
        case measure => simp [intOf]; omega
    · obtain rfl : q = m := by omega
      have SRI := hid (sr.ext (fb' := befF 0) (ff' := folF 0) (fw' := waiF 0) (fl' := frlF 0) (fun y _ => by simp [befF]) (fun y _ => by simp [folF]) (fun y hy => by unfold waiF; by_cases h0 : 0 < y <;> simp [h0, hy]) (fun y _ => by simp [frlF]))
      clear sr0 x0 sr pc
      go_wp2
      obtain ⟨W2, hW2⟩ : ∃ W2, wr = W2 := ⟨_, rfl⟩
      rw [hW2] at SRI ⊢
      clear hW2
      go_loopw [61, 12] (fun x nx V => V = W2 ∧ ∃ k : Nat, k ≤ q ∧ x = vi k ∧ nx = vi (if k = 0 then 0 else 1)) (fun x _ _ => q - (intOf x).toNat)
      case atStart => exact ⟨rfl, 0, Nat.zero_le _, rfl, rfl⟩
      case round =>
        obtain ⟨rfl, k, hk, rfl, rfl⟩ := hrel
        by_cases hlt2 : k < q
        · have hki : (k : Int) < (q : Int) := by omega
          have y0 := SRI.out.cellw hlt2
          rcases Nat.eq_zero_or_pos k with hk0 | hk0
          · subst hk0
            simp only [waiF, Nat.lt_irrefl, if_false] at y0
            go_wp2
            go_roundw
            case rel => exact ⟨trivial, 1, by omega, by go_num, by simp⟩
            case measure => simp [intOf]; omega
          · simp only [waiF, hk0, if_true] at y0
            have hk1 : ¬ k = 0 := by omega
            go_wp2
            go_roundw
            case rel => exact ⟨trivial, k + 1, by omega, by go_num, by simp [hk1]⟩
            case measure => simp [intOf]; omega
        · obtain rfl : k = q := by omega
          have hk1 : ¬ k = 0 := by omega
          simp only [hk1, if_false]
          go_wp2
          go_loopw [17, 16, 15, 11, 12, 13] (fun x fr gv la nx li V => ∃ q : Nat, q + 1 ≤ k ∧ x = vi q ∧ fr = vi q ∧ nx = vi 1 ∧ la = vi (min q 1) ∧ li = vi (min q 1) ∧ SR w V base Ob Bb Fb Wb Lb k (befF q) (folF q) (waiF q) (frlF q) gv (ones q)) (fun x _ _ _ _ _ _ => k - (intOf x).toNat)
          case atStart => exact ⟨0, by omega, rfl, rfl, rfl, rfl, rfl, SRI.out⟩
          case round =>
            obtain ⟨q, hq, rfl, rfl, rfl, rfl, rfl, sr⟩ := hrel
            clear SRI
            by_cases hlt : q + 1 < k
            · have hqi : (q : Int) < (k : Int) - 1 := by omega
              rcases Nat.eq_zero_or_pos q with hq0 | hq0
              · subst hq0
                simp only [Nat.zero_min]
                have a0 := sr.cello (i := 0) (by omega)
                have a1 := sr.cellb (i := 0) (by omega)
                have a2 := sr.freeb (i := 0) (by omega)
                have SRI := hid sr
                clear sr
                go_upto_region 26 with fail
                refine wp_as (fun V => SR w V base Ob Bb Fb Wb Lb k (fun y => if y = 0 then .bool true else befF 0 y) (folF 0) (waiF 0) (frlF 0) u15 (ones 0)) (SRI.out.setb (i := 0) (by omega) (.bool true)) ?_
                intro V1 s1
                have PV1 := hid (H.out.below s1.bel)
                clear SRI a0 a1 a2
                have b0 : V1.cell? ⟨Lb, 0, none⟩ = some (vi 0) := by have := s1.celll (i := 0) (by omega); simpa [frlF] using this
                have b1 := PV1.out.f3
                have b2 := PV1.out.p0
                have b3 := PV1.out.f4
                obtain ⟨g3, c3, b4, b5⟩ := PV1.out.s1 0 (by omega)
                have b6 : V1.cell? ⟨Lb, 0 + 1, none⟩ = some (vi 0) := by have := s1.celll (i := 0 + 1) (by omega); simpa [frlF] using this
                have b7 := s1.freel (i := 0 + 1) (by omega)
                have S1 := hid s1
                clear s1 PV1
                go_wp2
                refine wp_loop_rounds 1 ?_
                rw [rounds_succ]
                go_wp2
                refine wp_loop_rounds 2 ?_
                rw [rounds_succ]
                go_upto_region 47 with fail
                refine wp_as (fun V => SR w V base Ob Bb Fb Wb Lb k (fun y => if y = 0 then .bool true else befF 0 y) (folF 0) (waiF 0) (fun y => if y = 0 + 1 then vi 1 else (frlF 0) y) u15 (ones 0)) (S1.out.setl (i := 0 + 1) (by omega) (vi 1)) ?_
                intro V4 s4
                have PV4 := hid (H.out.below s4.bel)
                clear S1 b3 b4 b5 b6 b7
                have b3 := PV4.out.f4
                obtain ⟨g4, c4, b4, b5⟩ := PV4.out.s1 0 (by omega)
                have b6 : V4.cell? ⟨Wb, 0 + 1, none⟩ = some (vi 1) := by have := s4.cellw (i := 0 + 1) (by omega); simpa [waiF] using this
                have b7 := s4.freew (i := 0 + 1) (by omega)
                have S4 := hid s4
                clear s4 PV4
                go_wp2
                rw [rounds_succ]
                go_wp2
                refine wp_loop_rounds 2 ?_
                rw [rounds_succ]
                go_upto_region 52 with fail
                refine wp_as (fun V => SR w V base Ob Bb Fb Wb Lb k (fun y => if y = 0 then .bool true else befF 0 y) (folF 0) (fun y => if y = 0 + 1 then vi 0 else waiF 0 y) (fun y => if y = 0 + 1 then vi 1 else (frlF 0) y) u15 (ones 0)) (S4.out.setw (i := 0 + 1) (by omega) (vi 0)) ?_
                intro V5 s5
                have PV5 := hid (H.out.below s5.bel)
                clear S4 b3 b4 b5 b6 b7
                have b0 : V5.cell? ⟨Wb, 0 + 1, none⟩ = some (vi 0) := by have := s5.cellw (i := 0 + 1) (by omega); simpa using this
                have b1 : V5.cell? ⟨Lb, 0 + 1, none⟩ = some (vi 1) := by have := s5.celll (i := 0 + 1) (by omega); simpa using this
                have SQ := hid (sorted_one Ob 0 (k - 0) 0 V5 (s5.cello (i := 0) (by omega)))
                have hsl : ∀ W, Sem.run Ybaz.prog (Instr.sliceAt 26 (sl Ob 0 k k) (some (vi 0)) (some (vi (0 + 1))) none) W = .ok (sl Ob 0 1 (k - 0)) W := fun W => by
                  have := slice_lo Ob 0 k k 0 (0 + 1) (by omega) (by omega) (by omega) W
                  simp only [Nat.zero_add, Nat.add_sub_cancel_left, Nat.sub_zero] at this
                  exact this
                obtain ⟨vals, hor⟩ := s5.gr
                have hvl : vals.length = 0 := by rw [hor.len, ones_len]
                obtain ⟨sa, oc0, hgv, _⟩ := own_form hor.out
                rw [hvl] at hgv
                subst hgv
                have OV := hid hor
                have S5 := hid s5
                clear s5 PV5 hor
                go_wp2
                rw [rounds_succ]
                go_wp2_with (first
                  | (go_at_call 39; refine SQ.out.mono ?_; rintro e V6 ⟨⟨v, rfl, ownv⟩, bel6⟩; obtain ⟨g6, cap6, rfl⟩ := own_slice ownv; have ownb := own_base ownv S5.out.sz; have hor6 := OV.out.kept (Kept.ofBelow (E := fun _ => False) bel6) (fun _ h => h.elim); have OWN := hid ownv; have OWB := hid ownb; have BEL6 := hid bel6; have OR6 := hid hor6; clear ownv ownb bel6 hor6 SQ)
                  | (at_builtin; refine wpList_append_own_at _ rfl (.tmp 210) (.tmp 217) 29 rfl base 26 i26 (.slice none 0 0) 1 24 Ybaz.underlying29 hi26 hz26 hs26 hb26 rfl (by decide) (.slice sa 0 oc0) 0 vals rfl (by have := (OR6.out.kept (E := fun _ => False) ((Kept.refl _ _).alloc (.cells #[sl g6 0 (0 + 1) cap6] 26)) (fun _ h => h.elim)).out; rw [hvl] at this; exact this) ⟨V6.heap.size, 0, none⟩ 1 1 [sl g6 0 (0 + 1) cap6] rfl rfl (news1 V6 (sl g6 0 (0 + 1) cap6) 26) (by simp [Value.oneCell']) (by unfold maxLen; omega) (by omega) (by have := S5.out.sz; have := BEL6.out.size; simp; omega) ?_; intro ov' w1 own1 grow1 _ mv1; have OW1 := hid own1; have GR1 := hid grow1; clear own1 grow1 mv1))
                go_roundw
                case rel =>
                  refine ⟨0 + 1, by omega, by go_num, by go_num, by first | rfl | go_num, by first | rfl | (simp; done) | go_num, by first | rfl | (simp; done) | go_num, ?_⟩
                  have kA : Kept (fun b => (Value.slice sa 0 oc0).ownBlock = some b) V6 w1 := ((Kept.refl _ V6).alloc (.cells #[sl g6 0 (0 + 1) cap6] 26)).grown GR1.out (fun b hb => .inl hb)
                  have hsa : ∀ b, (Value.slice sa 0 oc0).ownBlock = some b → base ≤ b := fun b hb => (own_block OR6.out.out hb).1
                  have kB : Kept (fun b => (Value.slice sa 0 oc0).ownBlock = some b) V5 w1 := (Kept.ofBelow BEL6.out).trans kA
                  have og := (OR6.out.kept (E := fun _ => False) ((Kept.refl _ _).alloc (.cells #[sl g6 0 (0 + 1) cap6] 26)) (fun _ h => h.elim)).grow (u := sl g6 0 (0 + 1) cap6) (g := [0]) (own_kept OWB.out ((Kept.refl (fun _ => False) V6).alloc (.cells #[sl g6 0 (0 + 1) cap6] 26)) (fun _ _ h => h)) (fun kk v b hv hb he => by
                    have h1 := own_block OWN.out (g := g6) rfl
                    have h2 : g6 = b := by cases he; rfl
                    have hkk : kk < (ones 0).length := by rw [← OV.out.len]; exact (List.getElem?_eq_some_iff.1 hv).1
                    have h3 := ownBlock_lt (OV.out.own kk v _ hv (List.getElem?_eq_getElem hkk)) hb
                    omega) (by rw [hvl]; exact OW1.out) GR1.out
                  rw [← ones_succ] at og
                  refine (S5.out.kept kB hsa ⟨_, og⟩).ext (fun y hy => ?_) (fun y hy => ?_) (fun y hy => ?_) (fun y hy => ?_)
                  · unfold befF; by_cases h1 : y = 0
                    · subst h1; simp
                    · rw [if_neg h1]; have h2 : (y < 0) = (y < 0 + 1) := by apply propext; omega
                      simp only [h2]
                  · unfold folF; simp
                  · unfold waiF; by_cases h1 : y = 0 + 1
                    · subst h1; simp
                    · rw [if_neg h1]; have h2 : (0 < y) = (0 + 1 < y) := by apply propext; omega
                      simp only [h2]
                  · unfold frlF; by_cases h1 : y = 0 + 1
                    · subst h1; simp
                    · rw [if_neg h1, if_neg (by omega), if_neg (by omega)]
                case measure => simp [intOf]; omega

              · obtain ⟨j, rfl⟩ : ∃ j, q = j + 1 := ⟨q - 1, by omega⟩
                simp only [show min (j + 1) 1 = 1 by omega]
                have a0 := sr.cello (i := (j + 1)) (by omega)
                have a1 := sr.cellb (i := (j + 1)) (by omega)
                have a2 := sr.freeb (i := (j + 1)) (by omega)
                have SRI := hid sr
                clear sr
                go_upto_region 26 with fail
                refine wp_as (fun V => SR w V base Ob Bb Fb Wb Lb k (fun y => if y = (j + 1) then .bool true else befF (j + 1) y) (folF (j + 1)) (waiF (j + 1)) (frlF (j + 1)) u15 (ones (j + 1))) (SRI.out.setb (i := (j + 1)) (by omega) (.bool true)) ?_
                intro V1 s1
                have PV1 := hid (H.out.below s1.bel)
                clear SRI a0 a1 a2
                have b0 : V1.cell? ⟨Lb, (j + 1), none⟩ = some (vi 1) := by have := s1.celll (i := (j + 1)) (by omega); simpa [frlF] using this
                have b1 := PV1.out.f3
                obtain ⟨g, c, b2, b3⟩ := PV1.out.p1 j (by omega)
                have b4 : V1.cell? ⟨Fb, j, none⟩ = some (vi 0) := by have := s1.cellf (i := j) (by omega); simpa [folF] using this
                have b5 := s1.freef (i := j) (by omega)
                have S1 := hid s1
                clear s1 PV1
                go_wp2
                refine wp_loop_rounds 2 ?_
                rw [rounds_succ]
                go_upto_region 32 with fail
                refine wp_as (fun V => SR w V base Ob Bb Fb Wb Lb k (fun y => if y = (j + 1) then .bool true else befF (j + 1) y) (fun y => if y = j then vi 1 else folF (j + 1) y) (waiF (j + 1)) (frlF (j + 1)) u15 (ones (j + 1))) (S1.out.setf (i := j) (by omega) (vi 1)) ?_
                intro V2 s2
                have PV2 := hid (H.out.below s2.bel)
                clear S1 b0 b1 b2 b3 b4 b5
                have b0 : V2.cell? ⟨Fb, j, none⟩ = some (vi 1) := by have := s2.cellf (i := j) (by omega); simpa using this
                have b1 := PV2.out.f4
                obtain ⟨g2, c2, b2, b3⟩ := PV2.out.s1 j (by omega)
                have b4 : V2.cell? ⟨Lb, j + 1, none⟩ = some (vi 1) := by have := s2.celll (i := j + 1) (by omega); simpa [frlF] using this
                have b5 := s2.freel (i := j + 1) (by omega)
                have S2 := hid s2
                clear s2 PV2
                go_wp2
                refine wp_loop_rounds 2 ?_
                rw [rounds_succ]
                go_upto_region 38 with fail
                refine wp_as (fun V => SR w V base Ob Bb Fb Wb Lb k (fun y => if y = (j + 1) then .bool true else befF (j + 1) y) (fun y => if y = j then vi 1 else folF (j + 1) y) (waiF (j + 1)) (fun y => if y = j + 1 then vi 0 else frlF (j + 1) y) u15 (ones (j + 1))) (S2.out.setl (i := j + 1) (by omega) (vi 0)) ?_
                intro V3 s3
                have PV3 := hid (H.out.below s3.bel)
                clear S2 b0 b1 b2 b3 b4 b5
                have b0 : V3.cell? ⟨Bb, j + 1, none⟩ = some (.bool true) := by have := s3.cellb (i := j + 1) (by omega); simpa using this
                have b3 := PV3.out.f4
                obtain ⟨g3, c3, b4, b5⟩ := PV3.out.s1 (j + 1) (by omega)
                have b6 : V3.cell? ⟨Lb, j + 1 + 1, none⟩ = some (vi 0) := by have := s3.celll (i := j + 1 + 1) (by omega); simpa [frlF] using this
                have b7 := s3.freel (i := j + 1 + 1) (by omega)
                have S3 := hid s3
                clear s3 PV3
                go_wp2
                rw [rounds_succ]
                go_wp2
                rw [rounds_succ]
                go_wp2
                refine wp_loop_rounds 2 ?_
                rw [rounds_succ]
                go_upto_region 47 with fail
                refine wp_as (fun V => SR w V base Ob Bb Fb Wb Lb k (fun y => if y = (j + 1) then .bool true else befF (j + 1) y) (fun y => if y = j then vi 1 else folF (j + 1) y) (waiF (j + 1)) (fun y => if y = j + 1 + 1 then vi 1 else if y = j + 1 then vi 0 else frlF (j + 1) y) u15 (ones (j + 1))) (S3.out.setl (i := j + 1 + 1) (by omega) (vi 1)) ?_
                intro V4 s4
                have PV4 := hid (H.out.below s4.bel)
                clear S3 b3 b4 b5 b6 b7
                have b3 := PV4.out.f4
                obtain ⟨g4, c4, b4, b5⟩ := PV4.out.s1 (j + 1) (by omega)
                have b6 : V4.cell? ⟨Wb, j + 1 + 1, none⟩ = some (vi 1) := by have := s4.cellw (i := j + 1 + 1) (by omega); simpa [waiF] using this
                have b7 := s4.freew (i := j + 1 + 1) (by omega)
                have S4 := hid s4
                clear s4 PV4
                go_wp2
                rw [rounds_succ]
                go_wp2
                refine wp_loop_rounds 2 ?_
                rw [rounds_succ]
                go_upto_region 52 with fail
                refine wp_as (fun V => SR w V base Ob Bb Fb Wb Lb k (fun y => if y = (j + 1) then .bool true else befF (j + 1) y) (fun y => if y = j then vi 1 else folF (j + 1) y) (fun y => if y = j + 1 + 1 then vi 0 else waiF (j + 1) y) (fun y => if y = j + 1 + 1 then vi 1 else if y = j + 1 then vi 0 else frlF (j + 1) y) u15 (ones (j + 1))) (S4.out.setw (i := j + 1 + 1) (by omega) (vi 0)) ?_
                intro V5 s5
                have PV5 := hid (H.out.below s5.bel)
                clear S4 b3 b4 b5 b6 b7
                have b0 : V5.cell? ⟨Wb, j + 1 + 1, none⟩ = some (vi 0) := by have := s5.cellw (i := j + 1 + 1) (by omega); simpa using this
                have b1 : V5.cell? ⟨Lb, j + 1 + 1, none⟩ = some (vi 1) := by have := s5.celll (i := j + 1 + 1) (by omega); simpa using this
                have SQ := hid (sorted_one Ob (j + 1) (k - (j + 1)) (j + 1) V5 (s5.cello (i := (j + 1)) (by omega)))
                have hsl : ∀ W, Sem.run Ybaz.prog (Instr.sliceAt 26 (sl Ob 0 k k) (some (vi (j + 1))) (some (vi ((j + 1) + 1))) none) W = .ok (sl Ob (j + 1) 1 (k - (j + 1))) W := fun W => by
                  have := slice_lo Ob 0 k k (j + 1) ((j + 1) + 1) (by omega) (by omega) (by omega) W
                  simp only [Nat.zero_add, Nat.add_sub_cancel_left, Nat.sub_zero] at this
                  exact this
                obtain ⟨vals, hor⟩ := s5.gr
                have hvl : vals.length = (j + 1) := by rw [hor.len, ones_len]
                obtain ⟨sa, oc0, hgv, _⟩ := own_form hor.out
                rw [hvl] at hgv
                subst hgv
                have OV := hid hor
                have S5 := hid s5
                clear s5 PV5 hor
                go_wp2
                rw [rounds_succ]
                go_wp2_with (first
                  | (go_at_call 39; refine SQ.out.mono ?_; rintro e V6 ⟨⟨v, rfl, ownv⟩, bel6⟩; obtain ⟨g6, cap6, rfl⟩ := own_slice ownv; have ownb := own_base ownv S5.out.sz; have hor6 := OV.out.kept (Kept.ofBelow (E := fun _ => False) bel6) (fun _ h => h.elim); have OWN := hid ownv; have OWB := hid ownb; have BEL6 := hid bel6; have OR6 := hid hor6; clear ownv ownb bel6 hor6 SQ)
                  | (at_builtin; refine wpList_append_own_at _ rfl (.tmp 210) (.tmp 217) 29 rfl base 26 i26 (.slice none 0 0) 1 24 Ybaz.underlying29 hi26 hz26 hs26 hb26 rfl (by decide) (.slice sa (j + 1) oc0) (j + 1) vals rfl (by have := (OR6.out.kept (E := fun _ => False) ((Kept.refl _ _).alloc (.cells #[sl g6 0 (0 + 1) cap6] 26)) (fun _ h => h.elim)).out; rw [hvl] at this; exact this) ⟨V6.heap.size, 0, none⟩ 1 1 [sl g6 0 (0 + 1) cap6] rfl rfl (news1 V6 (sl g6 0 (0 + 1) cap6) 26) (by simp [Value.oneCell']) (by unfold maxLen; omega) (by omega) (by have := S5.out.sz; have := BEL6.out.size; simp; omega) ?_; intro ov' w1 own1 grow1 _ mv1; have OW1 := hid own1; have GR1 := hid grow1; clear own1 grow1 mv1))
                go_roundw
                case rel =>
                  refine ⟨j + 1 + 1, by omega, by go_num, by go_num, by first | rfl | go_num, by first | rfl | (simp; done) | go_num, by first | rfl | (simp; done) | go_num, ?_⟩
                  have kA : Kept (fun b => (Value.slice sa (j + 1) oc0).ownBlock = some b) V6 w1 := ((Kept.refl _ V6).alloc (.cells #[sl g6 0 (0 + 1) cap6] 26)).grown GR1.out (fun b hb => .inl hb)
                  have hsa : ∀ b, (Value.slice sa (j + 1) oc0).ownBlock = some b → base ≤ b := fun b hb => (own_block OR6.out.out hb).1
                  have kB : Kept (fun b => (Value.slice sa (j + 1) oc0).ownBlock = some b) V5 w1 := (Kept.ofBelow BEL6.out).trans kA
                  have og := (OR6.out.kept (E := fun _ => False) ((Kept.refl _ _).alloc (.cells #[sl g6 0 (0 + 1) cap6] 26)) (fun _ h => h.elim)).grow (u := sl g6 0 (0 + 1) cap6) (g := [(j + 1)]) (own_kept OWB.out ((Kept.refl (fun _ => False) V6).alloc (.cells #[sl g6 0 (0 + 1) cap6] 26)) (fun _ _ h => h)) (fun kk v b hv hb he => by
                    have h1 := own_block OWN.out (g := g6) rfl
                    have h2 : g6 = b := by cases he; rfl
                    have hkk : kk < (ones (j + 1)).length := by rw [← OV.out.len]; exact (List.getElem?_eq_some_iff.1 hv).1
                    have h3 := ownBlock_lt (OV.out.own kk v _ hv (List.getElem?_eq_getElem hkk)) hb
                    omega) (by rw [hvl]; exact OW1.out) GR1.out
                  rw [← ones_succ] at og
                  refine (S5.out.kept kB hsa ⟨_, og⟩).ext (fun y hy => ?_) (fun y hy => ?_) (fun y hy => ?_) (fun y hy => ?_)
                  · unfold befF; by_cases h1 : y = (j + 1)
                    · subst h1; simp
                    · rw [if_neg h1]; have h2 : (y < (j + 1)) = (y < j + 1 + 1) := by apply propext; omega
                      simp only [h2]
                  · unfold folF; by_cases h1 : y = j
                    · subst h1; simp
                    · rw [if_neg h1]; have h2 : (y + 1 < j + 1) = (y + 1 < j + 1 + 1) := by apply propext; omega
                      simp only [h2]
                  · unfold waiF; by_cases h1 : y = j + 1 + 1
                    · subst h1; simp
                    · rw [if_neg h1]; have h2 : ((j + 1) < y) = (j + 1 + 1 < y) := by apply propext; omega
                      simp only [h2]
                  · unfold frlF; by_cases h1 : y = j + 1 + 1
                    · subst h1; simp
                    · rw [if_neg h1]; by_cases h3 : y = j + 1
                      · rw [if_pos h3, if_neg (by omega)]
                      · rw [if_neg h3, if_neg (by omega), if_neg (by omega)]
                case measure => simp [intOf]; omega

            · obtain ⟨q', rfl⟩ : ∃ q', k = q' + 1 := ⟨k - 1, by omega⟩
              obtain rfl : q = q' := by omega
              have SQ := hid (sorted_one Ob q 1 q wr (sr.cello (i := q) (by omega)))
              have hsl : ∀ W, Sem.run Ybaz.prog (Instr.sliceAt 26 (sl Ob 0 (q + 1) (q + 1)) (some (vi q)) none none) W = .ok (sl Ob q 1 1) W := fun W => by
                have := slice_l Ob 0 (q + 1) (q + 1) q (by omega) (by omega) (by omega) W
                simp only [Nat.zero_add, Nat.add_sub_cancel_left] at this
                exact this
              obtain ⟨vals, hor⟩ := sr.gr
              have hvl : vals.length = q := by rw [hor.len, ones_len]
              obtain ⟨sa, oc0, hgv, _⟩ := own_form hor.out
              rw [hvl] at hgv
              subst hgv
              have OV := hid hor
              have S5 := hid sr
              clear sr hor
              go_wp2_with (first
                | (go_at_call 39; refine SQ.out.mono ?_; rintro e V6 ⟨⟨v, rfl, ownv⟩, bel6⟩; obtain ⟨g6, cap6, rfl⟩ := own_slice ownv; have ownb := own_base ownv S5.out.sz; have hor6 := OV.out.kept (Kept.ofBelow (E := fun _ => False) bel6) (fun _ h => h.elim); have OWN := hid ownv; have OWB := hid ownb; have BEL6 := hid bel6; have OR6 := hid hor6; clear ownv ownb bel6 hor6 SQ)
                | (at_builtin; refine wpList_append_own_at _ rfl (.tmp 221) (.tmp 226) 29 rfl base 26 i26 (.slice none 0 0) 1 24 Ybaz.underlying29 hi26 hz26 hs26 hb26 rfl (by decide) (.slice sa q oc0) q vals rfl (by have := (OR6.out.kept (E := fun _ => False) ((Kept.refl _ _).alloc (.cells #[sl g6 0 (0 + 1) cap6] 26)) (fun _ h => h.elim)).out; rw [hvl] at this; exact this) ⟨V6.heap.size, 0, none⟩ 1 1 [sl g6 0 (0 + 1) cap6] rfl rfl (news1 V6 (sl g6 0 (0 + 1) cap6) 26) (by simp [Value.oneCell']) (by unfold maxLen; omega) (by omega) (by have := S5.out.sz; have := BEL6.out.size; simp; omega) ?_; intro ov' w1 own1 grow1 _ mv1; have OW1 := hid own1; have GR1 := hid grow1; clear own1 grow1 mv1))
              go_ret
              have kA : Kept (fun b => (Value.slice sa q oc0).ownBlock = some b) V6 w1 := ((Kept.refl _ V6).alloc (.cells #[sl g6 0 (0 + 1) cap6] 26)).grown GR1.out (fun b hb => .inl hb)
              have hsa : ∀ b, (Value.slice sa q oc0).ownBlock = some b → base ≤ b := fun b hb => (own_block OR6.out.out hb).1
              have kB : Kept (fun b => (Value.slice sa q oc0).ownBlock = some b) wr w1 := (Kept.ofBelow BEL6.out).trans kA
              have og := (OR6.out.kept (E := fun _ => False) ((Kept.refl _ _).alloc (.cells #[sl g6 0 (0 + 1) cap6] 26)) (fun _ h => h.elim)).grow (u := sl g6 0 (0 + 1) cap6) (g := [q]) (own_kept OWB.out ((Kept.refl (fun _ => False) V6).alloc (.cells #[sl g6 0 (0 + 1) cap6] 26)) (fun _ _ h => h)) (fun kk v b hv hb he => by
                have h1 := own_block OWN.out (g := g6) rfl
                have h2 : g6 = b := by cases he; rfl
                have hkk : kk < (ones q).length := by rw [← OV.out.len]; exact (List.getElem?_eq_some_iff.1 hv).1
                have h3 := ownBlock_lt (OV.out.own kk v _ hv (List.getElem?_eq_getElem hkk)) hb
                omega) (by rw [hvl]; exact OW1.out) GR1.out
              rw [← ones_succ] at og
              have hbl := S5.out.bel
              have hl0 := S5.out.l0
              have hh0 := S5.out.h0
              exact ⟨⟨_, _, base, rfl, by omega, og⟩, hbl.trans (kB.toBelow (fun b hb he => by have := hsa b he; omega) hbl.size)⟩
end Go.Proofs.YbulkdsicGreat
