import Derived.Test.YbulkdsicGreatSub1
set_option linter.unusedVariables false
set_option linter.unusedSimpArgs false
namespace Go.Proofs.YbulkdsicGreat
open Go.RowKit Go.Shelf

attribute [local go_sem] Oper.semAt_some

/-- The batch lies apart from the tree builder's own. -/
structure Off (l : TBl) (t : Bt) : Prop where
  m1 : t.bm ≠ l.T
  m2 : t.bm ≠ l.ba
  f1 : t.bf ≠ l.T
  f2 : t.bf ≠ l.ba
  n1 : ∀ a, t.sn = some a → a.block ≠ l.T
  n2 : ∀ a, t.sn = some a → a.block ≠ l.ba

theorem SB.bat {w W : World} {l : TBl} {steps : Int} {atv : Nat → Int} {t : Bt} {m k m' : Nat} {mem : Nat → Nat} {pr : Nat → Option Nat} (h : SB w W l steps atv t m k) (b : Bat w t m' mem pr) (o : Off l t) : Bat W t m' mem pr :=
  b.kept h.kp (fun e => e.elim o.m1 o.m2) (fun e => e.elim o.f1 o.f2) (fun a ha e => e.elim (o.n1 a ha) (o.n2 a ha))

set_option maxRecDepth 100000 in
set_option maxHeartbeats 4000000 in
theorem sub_any (l : TBl) (names : Nat → ByteArray) (tm : Nat → Value) (steps : Int) (ks : List ByteArray) (t : Bt) (m : Nat) (mem : Nat → Nat) (pr : Nat → Option Nat) (n : Nat) (p : Nat → Nat) (pr' : Nat → Option Nat) (bp op cp : Nat) (w : World)
    (hT : TB w l names tm steps ks) (h : Bat w t m mem pr) (hS : Sub m n p pr pr') (hn : 0 < n) (hm : ∀ i, i < m → mem i < l.n) (hinj : ∀ i j, i < m → j < m → mem i = mem j → i = j) (hP : ∀ k, k < n → w.cell? ⟨bp, op + k, none⟩ = some (vi (p k))) (hO : Off l t) (hp1 : bp ≠ l.T) (hp2 : bp ≠ l.ba) (hn3 : n ≤ 300) :
    Calls Ybaz.prog 30 #[.pointer (some ⟨l.T, 0, none⟩), .agg #[sl t.bm t.om m t.cm, .slice t.sn (2 * cnt pr m) t.cn, sl t.bf t.of (m + 1) t.cf], sl bp op n cp] w fun e w' =>
      ∃ s st', e = .returned (.agg #[sl s 0 n (2 * n + 1 + szF p pr n), sl s (nO n (szF p pr n)) (2 * cnt pr' n) (szF p pr n), sl s n (n + 1) (n + 1 + szF p pr n)]) ∧ w.heap.size ≤ s ∧ s < w'.heap.size ∧ TB w' l names tm st' ks ∧ Bat w' (sbt s n (szF p pr n)) n (fun k => mem (p k)) pr' ∧ Kept (fun b => b = l.T ∨ b = l.ba) w w' := by
  obtain ⟨i3, hi3, hz3, hs3, hb3⟩ := info_parts Ybaz.info3
  have hfew := h.few
  have hln := hT.few
  have hsz := szF_le p pr n
  have hl0 : 0 < l.n := by have := hm _ (hS.lt 0 hn); omega
  have H := hid h
  have HT := hid hT
  clear h hT
  refine calls_of_wp_marks Ybaz.func30 rfl ?_
  simp only [Ybaz.ntmps30, List.size_toArray, List.length_cons, List.length_nil, Nat.reduceAdd, Nat.reduceSub, Array.replicate_succ, Array.replicate_zero, List.push_toArray, List.append_toArray, List.nil_append, List.cons_append]
  go_wp2_with (first
    | (refine wpList_box_as rfl 53 _ rfl #[sl t.bm t.om m t.cm, .slice t.sn (2 * cnt pr m) t.cn, sl t.bf t.of (m + 1) t.cf] rfl (bx53 _ _ _) ?_))
  refine wp_as (fun W => SB w W l steps (fun _ => -1) t m (2 * cnt pr m)) (SB.make w l names tm steps ks HT.out hl0 t m (2 * cnt pr m)) ?_
  intro W0 sb0
  go_loopw [28, 8] (fun i z W => ∃ q : Nat, q ≤ n ∧ i = vi q ∧ z = vi (szF p pr q) ∧ SB w W l steps (atF (fun k => mem (p k)) q) t m (2 * cnt pr m)) (fun i _ _ => n - (intOf i).toNat)
  case atStart => exact ⟨0, Nat.zero_le _, rfl, rfl, sb0⟩
  case round =>
    obtain ⟨q, hq, rfl, rfl, sb⟩ := hrel
    by_cases hlt : q < n
    · have hli : (q : Int) < (n : Int) := by omega
      have hbat := sb.bat H.out hO
      have hpq := hS.lt q hlt
      have x0 := sb.c0
      have x1 : wr.cell? ⟨l.T, 2, none⟩ = some (sl l.ba 0 l.n l.n) := by simpa using sb.st 2 _ rfl
      have x2 : wr.cell? ⟨w.heap.size + 1, 0, none⟩ = some (sl t.bm t.om m t.cm) := by simpa using sb.bx 0 _ rfl
      have x3 : wr.cell? ⟨w.heap.size + 1, 2, none⟩ = some (sl t.bf t.of (m + 1) t.cf) := by simpa using sb.bx 2 _ rfl
      have x4 : wr.cell? ⟨bp, op + q, none⟩ = some (vi (p q)) := sb.kp.cell (p := ⟨bp, op + q, none⟩) (fun e => e.elim hp1 hp2) (hP q hlt)
      have x5 := hbat.mem' (p q) hpq
      have x6 := hbat.frm (p q) (by omega)
      have x7 := hbat.frm (p q + 1) (by omega)
      have x8 := hm (p q) hpq
      have x9 : wr.cell? ⟨l.ba, mem (p q), none⟩ = some (.int .i64 (atF (fun k => mem (p k)) q (mem (p q)))) := by simpa using sb.at'.cell x8
      have x10 : wr.frozen? ⟨l.ba, mem (p q), none⟩ = false := by simpa using sb.at'.free x8
      have SBI := hid sb
      clear sb sb0 hbat
      go_wp2
      refine wp_region_quiet_tail 11 (fun w' => ∃ nq, w' = wr.drewN nq) mixed (by kernel_rfl) ⟨1, rfl⟩ ?_
      dsimp only [List.take, List.drop]
      repeat go_big_quiet_step (fail)
      refine wpQuiet_nil ?_
      rintro _ ⟨nq, rfl⟩
      have x11 : (wr.drewN nq).cell? ⟨l.ba, mem (p q), none⟩ = some (.int .i64 (atF (fun k => mem (p k)) q (mem (p q)))) := x9
      have x12 : (wr.drewN nq).frozen? ⟨l.ba, mem (p q), none⟩ = false := x10
      go_wp2
      have sb1 := (SBI.out.drewN nq).mark x8 (q : Int)
      have y1 : ((wr.drewN nq).setCell ⟨l.ba, mem (p q), none⟩ (.int .i64 q)).cell? ⟨w.heap.size + 1, 2, none⟩ = some (sl t.bf t.of (m + 1) t.cf) := by simpa using sb1.bx 2 _ rfl
      have hbat := sb1.bat H.out hO
      have y2 := hbat.frm (p q) (by omega)
      have y3 := hbat.frm (p q + 1) (by omega)
      have hc := cnt_le pr (p q)
      have hw := waits_le pr (p q)
      have hsq := szF_le p pr q
      have e1 : (2 * cnt pr (p q + 1) : Nat) = 2 * cnt pr (p q) + 2 * waits pr (p q) := by simp only [cnt]; omega
      rw [e1] at y3
      obtain ⟨c, hc'⟩ : ∃ c, 2 * cnt pr (p q) = c := ⟨_, rfl⟩
      obtain ⟨d, hd'⟩ : ∃ d, 2 * waits pr (p q) = d := ⟨_, rfl⟩
      rw [hc'] at y2 y3
      rw [hd'] at y3
      have SB1 := hid sb1
      clear sb1 hbat SBI x0 x1 x2 x3 x4 x5 x6 x7 x9 x10 x11 x12
      obtain ⟨W1, hW1⟩ : ∃ W1, (wr.drewN nq).setCell ⟨l.ba, mem (p q), none⟩ (.int .i64 q) = W1 := ⟨_, rfl⟩
      rw [hW1] at y1 y2 y3 SB1 ⊢
      go_quiet (fail)
      go_wp2
      go_roundw
      case rel =>
        refine ⟨q + 1, by omega, by go_num, ?_, (SB1.out.drewN _).ext (fun x hx => ?_)⟩
        · simp only [szF, hd']
          go_num
        · conv => rhs; unfold atF
      case measure => simp [intOf]; omega
    · obtain rfl : q = n := by omega
      have hsz2 : szF p pr q ≤ 600 := by omega
      have SBI := hid sb
      clear sb sb0
      go_wp2_with (at_make; refine wpList_make_as rfl (.tmp 63) (.tmp 63) 26 rfl 3 i3 (.int .i64 0) (2 * q + 1 + szF p pr q) Ybaz.underlying26 hi3 hz3 rfl rfl (by rw [hb3]; omega) (by omega) ?_)
      rw [made_one]
      obtain ⟨W1, hW1⟩ : ∃ W1, wr.alloc (.cells (Array.replicate (2 * q + 1 + szF p pr q) (.int .i64 0)) 3) = W1 := ⟨_, rfl⟩
      rw [hW1]
      have g1 := slice_h wr.heap.size 0 (2 * q + 1 + szF p pr q) (2 * q + 1 + szF p pr q) q (by omega)
      have g2 := slice_lh wr.heap.size 0 (2 * q + 1 + szF p pr q) (2 * q + 1 + szF p pr q) q (2 * q + 1) (by omega) (by omega)
      have g3 := slice_lh wr.heap.size 0 (2 * q + 1 + szF p pr q) (2 * q + 1 + szF p pr q) (2 * q + 1) (2 * q + 1) (by omega) (by omega)
      rw [if_neg (by omega), Nat.zero_add, show 2 * q + 1 - q = q + 1 by omega, show 2 * q + 1 + szF p pr q - q = q + 1 + szF p pr q by omega] at g2
      rw [Nat.sub_self, Nat.zero_add, Nat.add_sub_cancel_left, show (if 2 * q + 1 + szF p pr q = 2 * q + 1 then 0 else 2 * q + 1) = nO q (szF p pr q) by unfold nO; by_cases hz : szF p pr q = 0 <;> simp [hz]] at g3
      have G1 := hid g1
      have G2 := hid g2
      have G3 := hid g3
      clear g1 g2 g3
      haveI : Nonempty (Wld (fun _ => True)) := ⟨⟨W1, trivial⟩⟩
      refine wp_region_calmplan 19 [(true, 0), (true, 1), (true, 2), (true, 3), (true, 4), (true, 5), (true, 6), (true, 7), (true, 8), (true, 9), (true, 10), (true, 11), (true, 12), (true, 13), (true, 14), (true, 15), (true, 16), (true, 17), (false, 18), (false, 19)] (fun w' => ∃ x : Wld (fun _ => True), w' = x.w) mixed (by kernel_rfl) (inS trivial) ?_
      repeat (refine wpPlan_q (by rfl) ?_; dsimp only [List.getElem_toArray, List.getElem_cons_zero, List.getElem_cons_succ]; (first
        | ((with_reducible (show wpQuiet _ _ _ _ (⟨_, .slice 26 (.tmp 65) _ _ _, _, _, _, _⟩ :: _) _)); refine wpQuiet_run (sl wr.heap.size 0 q (2 * q + 1 + szF p pr q)) rfl (fun w _ => run_opslice G1.out) ?_; simp only [Act.put, List.setIfInBounds_toArray, List.set_cons_succ, List.set_cons_zero])
        | ((with_reducible (show wpQuiet _ _ _ _ (⟨_, .slice 26 (.tmp 68) _ _ _, _, _, _, _⟩ :: _) _)); refine wpQuiet_run (sl wr.heap.size q (q + 1) (q + 1 + szF p pr q)) rfl (fun w _ => run_opslice G2.out) ?_; simp only [Act.put, List.setIfInBounds_toArray, List.set_cons_succ, List.set_cons_zero])
        | ((with_reducible (show wpQuiet _ _ _ _ (⟨_, .slice 26 (.tmp 74) _ _ _, _, _, _, _⟩ :: _) _)); refine wpQuiet_run (sl wr.heap.size (nO q (szF p pr q)) 0 (szF p pr q)) rfl (fun w _ => run_opslice G3.out) ?_; simp only [Act.put, List.setIfInBounds_toArray, List.set_cons_succ, List.set_cons_zero])
        | go_big_quiet_step (fail)); refine wpQuiet_nil ?_)
      refine wpPlan_e (by rfl) ?_
      dsimp only [List.getElem_toArray, List.getElem_cons_zero, List.getElem_cons_succ]
      refine wpList_alloc_as rfl 53 rfl #[.slice none 0 0, .slice none 0 0, .slice none 0 0] al53 ?_
      refine wpList_done ?_
      simp only [Act.put, List.setIfInBounds_toArray, List.set_cons_succ, List.set_cons_zero]
      refine onward_normal (fun _ => inS trivial) ?_
      refine wpPlan_e (by rfl) ?_
      dsimp only [List.getElem_toArray, List.getElem_cons_zero, List.getElem_cons_succ]
      refine wpList_store_mid rfl 53 _ _ rfl W1.drew.heap.size 0 #[sl wr.heap.size 0 q (2 * q + 1 + szF p pr q), sl wr.heap.size (nO q (szF p pr q)) 0 (szF p pr q), sl wr.heap.size q (q + 1) (q + 1 + szF p pr q)] rfl rfl (there_new W1.drew [.slice none 0 0, .slice none 0 0, .slice none 0 0] 53) (by kernel_rfl) (by simp [Value.oneCell']) ?_
      refine wpList_done ?_
      simp only [Act.put, List.setIfInBounds_toArray, List.set_cons_succ, List.set_cons_zero]
      refine onward_normal (fun h => by cases h) ?_
      refine wpPlan_nil ?_
      refine calmQ_normal ?_
      have hws : W1.drew.heap.size = wr.heap.size + 1 := by rw [← hW1]; simp [World.drew]
      rw [hws]
      obtain ⟨s, hs⟩ : ∃ s, wr.heap.size = s := ⟨_, rfl⟩
      rw [hs] at hws ⊢
      have th0 := there_new W1.drew [.slice none 0 0, .slice none 0 0, .slice none 0 0] 53
      rw [hws] at th0
      have sl0 : SL w ((W1.drew.alloc (.cells #[.slice none 0 0, .slice none 0 0, .slice none 0 0] 53)).setCells (s + 1) 0 [sl s 0 q (2 * q + 1 + szF p pr q), sl s (nO q (szF p pr q)) 0 (szF p pr q), sl s q (q + 1) (q + 1 + szF p pr q)]) (s + 2) l steps (atF (fun k => mem (p k)) q) t m (2 * cnt pr m) s q (szF p pr q) (fun k => mem (p k)) pr' 0 0 0 0 [] := by
        have hs3 := SBI.out.size
        have kA : Kept (fun b => b = s + 1) wr ((W1.drew.alloc (.cells #[.slice none 0 0, .slice none 0 0, .slice none 0 0] 53)).setCells (s + 1) 0 [sl s 0 q (2 * q + 1 + szF p pr q), sl s (nO q (szF p pr q)) 0 (szF p pr q), sl s q (q + 1) (q + 1 + szF p pr q)]) := by
          rw [← hW1]
          exact ((((Kept.refl (fun b => b = s + 1) wr).alloc _).drew).alloc _).setCells (.inl rfl) _ _
        refine ⟨SBI.out.kept kA (fun b (hb : b = _) => by omega), BF.start ?_ ?_ ?_, Marks.nil _ _, ?_, by omega, Nat.le_refl _, fun D hD => by cases hD⟩
        · have t0 := (Tab.new wr (2 * q + 1 + szF p pr q) 3 (.int .i64 0))
          rw [hW1, hs] at t0
          have kB : Kept (fun b => b = s + 1) W1 ((W1.drew.alloc (.cells #[.slice none 0 0, .slice none 0 0, .slice none 0 0] 53)).setCells (s + 1) 0 [sl s 0 q (2 * q + 1 + szF p pr q), sl s (nO q (szF p pr q)) 0 (szF p pr q), sl s q (q + 1) (q + 1 + szF p pr q)]) :=
            (((Kept.refl (fun b => b = s + 1) W1).drew).alloc _).setCells (.inl rfl) _ _
          exact t0.kept kB (fun (e : s = _) => by omega)
        · exact World.rangeAt_setCells_same _ _ _ _ th0
        · intro j hj
          exact there_setCells th0 _ _ _ j hj
        · have h9 := ((Kept.refl (fun _ => True) (W1.drew.alloc (.cells #[.slice none 0 0, .slice none 0 0, .slice none 0 0] 53))).setCells (g := s + 1) (.inl trivial) 0 [sl s 0 q (2 * q + 1 + szF p pr q), sl s (nO q (szF p pr q)) 0 (szF p pr q), sl s q (q + 1) (q + 1 + szF p pr q)]).size
          rw [World.size_alloc, hws] at h9
          exact h9
      refine q_as (fun W => SL w W (s + 2) l steps (atF (fun k => mem (p k)) q) t m (2 * cnt pr m) s q (szF p pr q) (fun k => mem (p k)) pr' 0 0 0 0 []) sl0 ?_
      intro W2 sl2
      have y0 := sl2.sb.c0
      have y1 : W2.cell? ⟨l.T, 5, none⟩ = some (.int .i64 steps) := by simpa using sl2.sb.st 5 _ rfl
      have y2 : W2.frozen? ⟨l.T, 5, none⟩ = false := by simpa using (sl2.sb.th 5 (by omega)).2
      have SLI := hid sl2
      clear sl0 sl2 SBI G1 G2 G3 th0 hws hW1
      go_wp2
      refine wp_loop (fun a' W => ∃ (i : Nat) (Ds : List Nat) (st : Int) (x0 x1 x2 x5 x8 x9 x10 x11 x13 x14 x15 x16 x17 x18 x19 x20 x21 x22 x23 x24 x25 x26 x27 x28 x29 x30 x31 x32 x33 x34 x35 x36 x37 x38 x39 x40 x41 x42 x43 x44 x45 x46 x47 x48 x49 x50 x51 x52 x53 x54 x55 x56 x57 x58 x59 x60 x61 x62 x63 x64 x65 x66 x67 x68 x69 x70 x71 x72 x73 x74 x75 x76 x77 x78 x79 x80 x81 x82 x83 x84 x85 x86 x87 x88 x89 x90 x94 x95 x96 x97 x98 x99 x100 x101 x102 x103 x104 x105 x106 x107 x108 x109 x110 x111 x112 x113 x114 x115 x116 x117 x118 x119 x120 x121 x122 x123 x124 x125 x126 x127 x128 x129 x130 x131 x132 x133 x134 x135 x136 x137 x138 x139 x140 x141 x142 x143 x144 x145 x146 x147 x148 x149 x150 x151 x152 x153 x154 x155 x156 x157 x158 x159 x160 x161 x162 x163 x164 x165 x166 x167 x168 x169 x170 x171 x172 x173 x174 x175 x176 x177 x178 x179 x180 x181 x182 x183 x184 x185 x186 x187 x188 x189 : Value), (i ≤ q ∧ SL w W W.heap.size l st (atF (fun k => mem (p k)) q) t m (2 * cnt pr m) s q (szF p pr q) (fun k => mem (p k)) pr' i i i (2 * cnt pr' i) Ds) ∧ a' = { tmps := #[x0, x1, x2, .pointer (some ⟨w.heap.size, 0, none⟩), .pointer (some ⟨w.heap.size + 1, 0, none⟩), x5, .pointer (some ⟨w.heap.size + 2, 0, none⟩), vi q, x8, x9, x10, x11, .pointer (some ⟨s + 1, 0, none⟩), x13, x14, x15, x16, x17, x18, x19, x20, x21, x22, x23, x24, x25, x26, x27, x28, x29, x30, x31, x32, x33, x34, x35, x36, x37, x38, x39, x40, x41, x42, x43, x44, x45, x46, x47, x48, x49, x50, x51, x52, x53, x54, x55, x56, x57, x58, x59, x60, x61, x62, x63, x64, x65, x66, x67, x68, x69, x70, x71, x72, x73, x74, x75, x76, x77, x78, x79, x80, x81, x82, x83, x84, x85, x86, x87, x88, x89, x90, sl bp op q cp, vi q, vi i, x94, x95, x96, x97, x98, x99, x100, x101, x102, x103, x104, x105, x106, x107, x108, x109, x110, x111, x112, x113, x114, x115, x116, x117, x118, x119, x120, x121, x122, x123, x124, x125, x126, x127, x128, x129, x130, x131, x132, x133, x134, x135, x136, x137, x138, x139, x140, x141, x142, x143, x144, x145, x146, x147, x148, x149, x150, x151, x152, x153, x154, x155, x156, x157, x158, x159, x160, x161, x162, x163, x164, x165, x166, x167, x168, x169, x170, x171, x172, x173, x174, x175, x176, x177, x178, x179, x180, x181, x182, x183, x184, x185, x186, x187, x188, x189], defers := Ds.map markOf }) (fun a' _ => q - (intOf (a'.tmps.getD 93 undef)).toNat) ?_ ?_
      · refine ⟨0, [], ?_⟩
        repeat apply Exists.intro
        exact ⟨⟨Nat.zero_le _, (SLI.out.step _).up (by have := SLI.out.sz; simpa using this) (Nat.le_refl _)⟩, rfl⟩
      · intro a0 W hinv
        obtain ⟨i, Ds, st, hinv⟩ := hinv
        obtain ⟨x0, hinv⟩ := hinv
        obtain ⟨x1, hinv⟩ := hinv
        obtain ⟨x2, hinv⟩ := hinv
        obtain ⟨x5, hinv⟩ := hinv
        obtain ⟨x8, hinv⟩ := hinv
        obtain ⟨x9, hinv⟩ := hinv
        obtain ⟨x10, hinv⟩ := hinv
        obtain ⟨x11, hinv⟩ := hinv
        obtain ⟨x13, hinv⟩ := hinv
        obtain ⟨x14, hinv⟩ := hinv
        obtain ⟨x15, hinv⟩ := hinv
        obtain ⟨x16, hinv⟩ := hinv
        obtain ⟨x17, hinv⟩ := hinv
        obtain ⟨x18, hinv⟩ := hinv
        obtain ⟨x19, hinv⟩ := hinv
        obtain ⟨x20, hinv⟩ := hinv
        obtain ⟨x21, hinv⟩ := hinv
        obtain ⟨x22, hinv⟩ := hinv
        obtain ⟨x23, hinv⟩ := hinv
        obtain ⟨x24, hinv⟩ := hinv
        obtain ⟨x25, hinv⟩ := hinv
        obtain ⟨x26, hinv⟩ := hinv
        obtain ⟨x27, hinv⟩ := hinv
        obtain ⟨x28, hinv⟩ := hinv
        obtain ⟨x29, hinv⟩ := hinv
        obtain ⟨x30, hinv⟩ := hinv
        obtain ⟨x31, hinv⟩ := hinv
        obtain ⟨x32, hinv⟩ := hinv
        obtain ⟨x33, hinv⟩ := hinv
        obtain ⟨x34, hinv⟩ := hinv
        obtain ⟨x35, hinv⟩ := hinv
        obtain ⟨x36, hinv⟩ := hinv
        obtain ⟨x37, hinv⟩ := hinv
        obtain ⟨x38, hinv⟩ := hinv
        obtain ⟨x39, hinv⟩ := hinv
        obtain ⟨x40, hinv⟩ := hinv
        obtain ⟨x41, hinv⟩ := hinv
        obtain ⟨x42, hinv⟩ := hinv
        obtain ⟨x43, hinv⟩ := hinv
        obtain ⟨x44, hinv⟩ := hinv
        obtain ⟨x45, hinv⟩ := hinv
        obtain ⟨x46, hinv⟩ := hinv
        obtain ⟨x47, hinv⟩ := hinv
        obtain ⟨x48, hinv⟩ := hinv
        obtain ⟨x49, hinv⟩ := hinv
        obtain ⟨x50, hinv⟩ := hinv
        obtain ⟨x51, hinv⟩ := hinv
        obtain ⟨x52, hinv⟩ := hinv
        obtain ⟨x53, hinv⟩ := hinv
        obtain ⟨x54, hinv⟩ := hinv
        obtain ⟨x55, hinv⟩ := hinv
        obtain ⟨x56, hinv⟩ := hinv
        obtain ⟨x57, hinv⟩ := hinv
        obtain ⟨x58, hinv⟩ := hinv
        obtain ⟨x59, hinv⟩ := hinv
        obtain ⟨x60, hinv⟩ := hinv
        obtain ⟨x61, hinv⟩ := hinv
        obtain ⟨x62, hinv⟩ := hinv
        obtain ⟨x63, hinv⟩ := hinv
        obtain ⟨x64, hinv⟩ := hinv
        obtain ⟨x65, hinv⟩ := hinv
        obtain ⟨x66, hinv⟩ := hinv
        obtain ⟨x67, hinv⟩ := hinv
        obtain ⟨x68, hinv⟩ := hinv
        obtain ⟨x69, hinv⟩ := hinv
        obtain ⟨x70, hinv⟩ := hinv
        obtain ⟨x71, hinv⟩ := hinv
        obtain ⟨x72, hinv⟩ := hinv
        obtain ⟨x73, hinv⟩ := hinv
        obtain ⟨x74, hinv⟩ := hinv
        obtain ⟨x75, hinv⟩ := hinv
        obtain ⟨x76, hinv⟩ := hinv
        obtain ⟨x77, hinv⟩ := hinv
        obtain ⟨x78, hinv⟩ := hinv
        obtain ⟨x79, hinv⟩ := hinv
        obtain ⟨x80, hinv⟩ := hinv
        obtain ⟨x81, hinv⟩ := hinv
        obtain ⟨x82, hinv⟩ := hinv
        obtain ⟨x83, hinv⟩ := hinv
        obtain ⟨x84, hinv⟩ := hinv
        obtain ⟨x85, hinv⟩ := hinv
        obtain ⟨x86, hinv⟩ := hinv
        obtain ⟨x87, hinv⟩ := hinv
        obtain ⟨x88, hinv⟩ := hinv
        obtain ⟨x89, hinv⟩ := hinv
        obtain ⟨x90, hinv⟩ := hinv
        obtain ⟨x94, hinv⟩ := hinv
        obtain ⟨x95, hinv⟩ := hinv
        obtain ⟨x96, hinv⟩ := hinv
        obtain ⟨x97, hinv⟩ := hinv
        obtain ⟨x98, hinv⟩ := hinv
        obtain ⟨x99, hinv⟩ := hinv
        obtain ⟨x100, hinv⟩ := hinv
        obtain ⟨x101, hinv⟩ := hinv
        obtain ⟨x102, hinv⟩ := hinv
        obtain ⟨x103, hinv⟩ := hinv
        obtain ⟨x104, hinv⟩ := hinv
        obtain ⟨x105, hinv⟩ := hinv
        obtain ⟨x106, hinv⟩ := hinv
        obtain ⟨x107, hinv⟩ := hinv
        obtain ⟨x108, hinv⟩ := hinv
        obtain ⟨x109, hinv⟩ := hinv
        obtain ⟨x110, hinv⟩ := hinv
        obtain ⟨x111, hinv⟩ := hinv
        obtain ⟨x112, hinv⟩ := hinv
        obtain ⟨x113, hinv⟩ := hinv
        obtain ⟨x114, hinv⟩ := hinv
        obtain ⟨x115, hinv⟩ := hinv
        obtain ⟨x116, hinv⟩ := hinv
        obtain ⟨x117, hinv⟩ := hinv
        obtain ⟨x118, hinv⟩ := hinv
        obtain ⟨x119, hinv⟩ := hinv
        obtain ⟨x120, hinv⟩ := hinv
        obtain ⟨x121, hinv⟩ := hinv
        obtain ⟨x122, hinv⟩ := hinv
        obtain ⟨x123, hinv⟩ := hinv
        obtain ⟨x124, hinv⟩ := hinv
        obtain ⟨x125, hinv⟩ := hinv
        obtain ⟨x126, hinv⟩ := hinv
        obtain ⟨x127, hinv⟩ := hinv
        obtain ⟨x128, hinv⟩ := hinv
        obtain ⟨x129, hinv⟩ := hinv
        obtain ⟨x130, hinv⟩ := hinv
        obtain ⟨x131, hinv⟩ := hinv
        obtain ⟨x132, hinv⟩ := hinv
        obtain ⟨x133, hinv⟩ := hinv
        obtain ⟨x134, hinv⟩ := hinv
        obtain ⟨x135, hinv⟩ := hinv
        obtain ⟨x136, hinv⟩ := hinv
        obtain ⟨x137, hinv⟩ := hinv
        obtain ⟨x138, hinv⟩ := hinv
        obtain ⟨x139, hinv⟩ := hinv
        obtain ⟨x140, hinv⟩ := hinv
        obtain ⟨x141, hinv⟩ := hinv
        obtain ⟨x142, hinv⟩ := hinv
        obtain ⟨x143, hinv⟩ := hinv
        obtain ⟨x144, hinv⟩ := hinv
        obtain ⟨x145, hinv⟩ := hinv
        obtain ⟨x146, hinv⟩ := hinv
        obtain ⟨x147, hinv⟩ := hinv
        obtain ⟨x148, hinv⟩ := hinv
        obtain ⟨x149, hinv⟩ := hinv
        obtain ⟨x150, hinv⟩ := hinv
        obtain ⟨x151, hinv⟩ := hinv
        obtain ⟨x152, hinv⟩ := hinv
        obtain ⟨x153, hinv⟩ := hinv
        obtain ⟨x154, hinv⟩ := hinv
        obtain ⟨x155, hinv⟩ := hinv
        obtain ⟨x156, hinv⟩ := hinv
        obtain ⟨x157, hinv⟩ := hinv
        obtain ⟨x158, hinv⟩ := hinv
        obtain ⟨x159, hinv⟩ := hinv
        obtain ⟨x160, hinv⟩ := hinv
        obtain ⟨x161, hinv⟩ := hinv
        obtain ⟨x162, hinv⟩ := hinv
        obtain ⟨x163, hinv⟩ := hinv
        obtain ⟨x164, hinv⟩ := hinv
        obtain ⟨x165, hinv⟩ := hinv
        obtain ⟨x166, hinv⟩ := hinv
        obtain ⟨x167, hinv⟩ := hinv
        obtain ⟨x168, hinv⟩ := hinv
        obtain ⟨x169, hinv⟩ := hinv
        obtain ⟨x170, hinv⟩ := hinv
        obtain ⟨x171, hinv⟩ := hinv
        obtain ⟨x172, hinv⟩ := hinv
        obtain ⟨x173, hinv⟩ := hinv
        obtain ⟨x174, hinv⟩ := hinv
        obtain ⟨x175, hinv⟩ := hinv
        obtain ⟨x176, hinv⟩ := hinv
        obtain ⟨x177, hinv⟩ := hinv
        obtain ⟨x178, hinv⟩ := hinv
        obtain ⟨x179, hinv⟩ := hinv
        obtain ⟨x180, hinv⟩ := hinv
        obtain ⟨x181, hinv⟩ := hinv
        obtain ⟨x182, hinv⟩ := hinv
        obtain ⟨x183, hinv⟩ := hinv
        obtain ⟨x184, hinv⟩ := hinv
        obtain ⟨x185, hinv⟩ := hinv
        obtain ⟨x186, hinv⟩ := hinv
        obtain ⟨x187, hinv⟩ := hinv
        obtain ⟨x188, hinv⟩ := hinv
        obtain ⟨x189, hinv⟩ := hinv
        obtain ⟨⟨hi, sl1⟩, ha0⟩ := hinv
        subst ha0
        dsimp only
        clear SLI y0 y1 y2
        by_cases hlt : i < q
        · have hli : (i : Int) < (q : Int) := by omega
          have B := hid (sl1.sb.bat H.out hO)
          have hpi := hS.lt i hlt
          have e0 : W.cell? ⟨bp, op + i, none⟩ = some (vi (p i)) := sl1.sb.kp.cell (p := ⟨bp, op + i, none⟩) (fun e => e.elim hp1 hp2) (hP i hlt)
          have e1 : W.cell? ⟨s + 1, 0, none⟩ = some (sl s 0 q (2 * q + 1 + szF p pr q)) := by simpa using sl1.bf.sv 0 _ rfl
          have e2 : W.cell? ⟨w.heap.size + 1, 0, none⟩ = some (sl t.bm t.om m t.cm) := by simpa using sl1.sb.bx 0 _ rfl
          have e3 := B.out.mem' (p i) hpi
          have e4 := sl1.bf.cellAt (j := i) (by omega)
          obtain ⟨u0, hu0⟩ := isSome_ex e4.1
          have e5 := e4.2
          have SLI := hid sl1
          clear sl1 e4
          go_wp2
          refine wp_region_quiet_tail 9 (fun w' => ∃ nq, w' = W.drewN nq) mixed (by kernel_rfl) ⟨1, rfl⟩ ?_
          dsimp only [List.take, List.drop]
          repeat go_big_quiet_step (fail)
          refine wpQuiet_nil ?_
          rintro _ ⟨nq, rfl⟩
          have e6 : (W.drewN nq).cell? ⟨s, i, none⟩ = some u0 := hu0
          have e7 : (W.drewN nq).frozen? ⟨s, i, none⟩ = false := e5
          have slv : SL w ((W.drewN nq).setCell ⟨s, i, none⟩ (vi (mem (p i)))) ((W.drewN nq).setCell ⟨s, i, none⟩ (vi (mem (p i)))).heap.size l st (atF (fun k => mem (p k)) q) t m (2 * cnt pr m) s q (szF p pr q) (fun k => mem (p k)) pr' (i + 1) i i (2 * cnt pr' i) Ds := ((SLI.out.drewN nq).member hlt).up (by simp) (Nat.le_refl _)
          have e8 : ((W.drewN nq).setCell ⟨s, i, none⟩ (vi (mem (p i)))).cell? ⟨w.heap.size + 1, 0, none⟩ = some (sl t.bm t.om m t.cm) := by simpa using slv.sb.bx 0 _ rfl
          have e9 : ((W.drewN nq).setCell ⟨s, i, none⟩ (vi (mem (p i)))).cell? ⟨w.heap.size + 1, 1, none⟩ = some (.slice t.sn (2 * cnt pr m) t.cn) := by simpa using slv.sb.bx 1 _ rfl
          have e10 : ((W.drewN nq).setCell ⟨s, i, none⟩ (vi (mem (p i)))).cell? ⟨w.heap.size + 1, 2, none⟩ = some (sl t.bf t.of (m + 1) t.cf) := by simpa using slv.sb.bx 2 _ rfl
          have SLV := hid slv
          clear slv e0 e1 e2 e3 e5 SLI B
          go_wp2_with (go_at_call 29; refine (needsOf_any _ _ _ (p i) _).mono ?_; rintro e w' ⟨rfl, rfl⟩)
          obtain ⟨V0, hV0⟩ : ∃ V0, (W.drewN nq).setCell ⟨s, i, none⟩ (vi (mem (p i))) = V0 := ⟨_, rfl⟩
          have hVs : V0.heap.size = W.heap.size := by rw [← hV0]; simp
          rw [hV0] at SLV ⊢
          clear e6 e7 e8 e9 e10 hu0
          refine act_as ?_
          intro A hA
          obtain ⟨A1, hA1⟩ : ∃ A1 : Act, A1 = { tmps := ((A.tmps.setIfInBounds 110 (vi (2 * cnt pr (p i)))).setIfInBounds 111 (t.need (2 * cnt pr (p i)))).setIfInBounds 16 (t.need (2 * cnt pr (p i))), defers := [] } := ⟨_, rfl⟩
          rw [hA] at hA1 ⊢
          simp only [List.setIfInBounds_toArray, List.set_cons_succ, List.set_cons_zero] at hA1
          have BV := hid (SLV.out.sb.bat H.out hO)
          have S0 : ((V0.alloc (.cells (t.cells m (2 * cnt pr m)) 53)).alloc (.cells #[vi (p i)] 3)).heap.size = W.heap.size + 2 := by rw [World.size_alloc, World.size_alloc, hVs]
          have kw : Kept (fun _ => False) V0 ((V0.alloc (.cells (t.cells m (2 * cnt pr m)) 53)).alloc (.cells #[vi (p i)] 3)) := ((Kept.refl _ V0).alloc _).alloc _
          have SL0 := hid ((SLV.out.kept kw (fun _ h => h.elim)).up (S' := W.heap.size + 2) (by rw [hVs]; omega) (by rw [S0]; exact Nat.le_refl _))
          have hseq := BV.out.seq hpi
          rw [hVs] at hseq
          have hcl := SLV.out.s3
          have hSs := SLV.out.sS
          rw [hVs] at hSs
          refine (wpIn_wide (n := 3)).1 ?_
          refine wpIn_rangeFunc_ownH (F := Fence.wide) rfl (by omega) (gf := 46) (lb := #[.pointer (some ⟨W.heap.size, 0, none⟩), .pointer (some ⟨W.heap.size + 1, 0, none⟩)]) rfl trivial (enters_of Ybaz.func46 (by kernel_rfl) rfl)
            hseq (fun h k => KpL.trans h k) ?hKb (Below.refl _ _) (fun _ => rfl)
            (fun pre V => ∃ st', SL w V (W.heap.size + 2) l st' (atF (fun k => mem (p k)) q) t m (2 * cnt pr m) s q (szF p pr q) (fun k => mem (p k)) pr' (i + 1) (if pre = [] then i else i + 1) i (2 * cnt pr' (if pre = [] then i else i + 1)) Ds) (fun _ _ _ => False) ?hI (fun _ _ _ _ _ hs _ _ => hs) (by rw [if_pos rfl]; exact ⟨_, SL0.out⟩)
            (fun _ a' _ => a' = A1) (fun _ _ _ _ _ _ hs _ _ => hs) ?assign ?body ?done ?stop
          case hKb =>
            intro V l o o' hl _ _ _
            refine KpL.putObj (n := W.heap.size + 2) (fun b hb => ?_) V l o' (by rw [← S0]; exact hl)
            have hf := World.block_lt_of_cell? _ _ (BV.out.frm 0 (Nat.zero_le _))
            unfold Bt.reads at hb
            have hsn := BV.out.snl
            rw [hVs] at hf hsn
            cases hs : t.sn with
            | none => rw [hs] at hb; simp at hb hf; omega
            | some a => rw [hs] at hb; have := hsn a hs; simp at hb hf; omega
          case hI =>
            rintro pre V V' row ⟨st', hs⟩ hg hr
            exact ⟨st', hs.kept ((Kept.refl (fun b => row = some b) V).grown hg (fun k hk => .inl hk)) (fun b hb => by have := (hr b hb).1; simp [hVs] at this; omega)⟩
          case assign =>
            rintro l1 pre x V K hi hK
            unfold Bt.enc
            gi_wp2
            exact hK _ _ (KeepsFrom.refl _ _) (KpL.refl _ _) hi hA1.symm
          case body =>
            intro l1 pre x a' V hl hrr hi ha hlen
            have ha' : a' = A1 := ha
            rw [ha', hA1]
            clear ha ha' hA1 hA SL0 hseq kw
            have hpe : ∃ j, pr (p i) = some j := by
              cases hp : pr (p i) with
              | none => rw [waits_none hp] at hlen; omega
              | some j => exact ⟨j, rfl⟩
            obtain ⟨j, hp⟩ := hpe
            have hpre : pre = [] := by rw [waits_some hp] at hlen; exact List.eq_nil_of_length_eq_zero (by omega)
            subst hpre
            simp only [if_pos] at hi
            obtain ⟨st1, hi⟩ := hi
            have hbV := hi.sb.bat H.out hO
            obtain ⟨b, o, hsn, _, c2⟩ := hbV.one (p i) j hpi hp
            simp only [Bt.need_some hsn]
            have hji := hbV.low (p i) j hpi hp
            have hroom := hS.room hlt hp
            have HN := hid (show nO q (szF p pr q) = 2 * q + 1 by unfold nO; rw [if_neg (by omega)])
            have hcn := cnt_le pr' i
            have hqi : ∀ i' j', i' < q → j' < q → mem (p i') = mem (p j') → i' = j' := fun i' j' h1 h2 e => hS.inj i' j' h1 h2 (hinj _ _ (hS.lt i' h1) (hS.lt j' h2) e)
            have a0 := hi.sb.c0
            have a1 : V.cell? ⟨l.T, 5, none⟩ = some (.int .i64 st1) := by simpa using hi.sb.st 5 _ rfl
            have a2 : V.frozen? ⟨l.T, 5, none⟩ = false := by simpa using (hi.sb.th 5 (by omega)).2
            have HI := hid hi
            clear hi hbV
            have KEEP1 := hid (show ∀ b', (b' = l.T ∨ b' = s ∨ b' = s + 1) → b' < ((V0.alloc (.cells #[sl t.bm t.om m t.cm, .slice t.sn (2 * cnt pr m) t.cn, sl t.bf t.of (m + 1) t.cf] 53)).alloc (.cells #[vi (p i)] 3)).heap.size from fun b' hb' => by
              have := HI.out.sb.lT
              rw [World.size_alloc, World.size_alloc, hVs]
              omega)
            have KEEP2 := hid (show ∀ b' ∈ t.reads W.heap.size, b' < V.heap.size ∧ ¬ (b' = l.T ∨ b' = s ∨ b' = s + 1) from fun b' hb' => by
              have hf := World.block_lt_of_cell? _ _ (H.out.frm 0 (Nat.zero_le _))
              have hsz := HI.out.sz
              have hsn2 := H.out.snl
              have hlT := HI.out.sb.lT
              unfold Bt.reads at hb'
              rw [hsn] at hb'
              have h9 := hsn2 _ hsn
              have n1 := hO.n1 _ hsn
              have n3 := hO.f1
              simp at hb' hf h9 n1
              omega)
            -- the steps behind each append
            have APP : ∀ (U : World) (st2 : Int), SL w U (W.heap.size + 2) l st2 (atF (fun k => mem (p k)) q) t m (2 * cnt pr m) s q (szF p pr q) (fun k => mem (p k)) pr' (i + 1) i i (2 * cnt pr' i) Ds → ∀ ob, ((U.alloc ob).cell? ⟨s, nO q (szF p pr q) + 2 * cnt pr' i, none⟩).isSome = true ∧ (U.alloc ob).frozen? ⟨s, nO q (szF p pr q) + 2 * cnt pr' i, none⟩ = false := fun U st2 hu ob => by
              rw [HN.out]
              exact (hu.bf.kept ((Kept.refl (fun _ => False) U).alloc ob) (fun h => h) (fun h => h)).cellAt (by omega)
            have APP4 : ∀ (nq : Nat) (U : World) (st2 : Int), SL w U (W.heap.size + 2) l st2 (atF (fun k => mem (p k)) q) t m (2 * cnt pr m) s q (szF p pr q) (fun k => mem (p k)) pr' (i + 1) i i (2 * cnt pr' i + 1) Ds → ∀ ob, (((U.drewN nq).alloc ob).cell? ⟨s, nO q (szF p pr q) + (2 * cnt pr' i + 1), none⟩).isSome = true ∧ ((U.drewN nq).alloc ob).frozen? ⟨s, nO q (szF p pr q) + (2 * cnt pr' i + 1), none⟩ = false := fun nq U st2 hu ob => by
              rw [HN.out]
              exact (hu.bf.kept ((Kept.drewN (Kept.refl (fun _ => False) U) nq).alloc ob) (fun h => h) (fun h => h)).cellAt (by omega)
            have NX : ∀ (U : World) (st2 : Int), SL w U (W.heap.size + 2) l st2 (atF (fun k => mem (p k)) q) t m (2 * cnt pr m) s q (szF p pr q) (fun k => mem (p k)) pr' (i + 1) i i (2 * cnt pr' i) Ds → Kept (fun b => b = l.T ∨ b = s ∨ b = s + 1) V U → ∀ ob, SL w ((U.alloc ob).setCell ⟨s, nO q (szF p pr q) + 2 * cnt pr' i, none⟩ (vi 1)) (W.heap.size + 2) l st2 (atF (fun k => mem (p k)) q) t m (2 * cnt pr m) s q (szF p pr q) (fun k => mem (p k)) pr' (i + 1) i i (2 * cnt pr' i) Ds ∧ Kept (fun b => b = l.T ∨ b = s ∨ b = s + 1) V ((U.alloc ob).setCell ⟨s, nO q (szF p pr q) + 2 * cnt pr' i, none⟩ (vi 1)) ∧ ((U.alloc ob).setCell ⟨s, nO q (szF p pr q) + 2 * cnt pr' i, none⟩ (vi 1)).cell? ⟨s, 2 * q + 1 + 2 * cnt pr' i, none⟩ = some (vi 1) := fun U st2 hu hk ob => by
              rw [HN.out]
              have hu1 := hu.kept ((Kept.refl (fun _ => False) U).alloc ob) (fun _ h => h.elim)
              refine ⟨hu1.put (by omega) (by omega) (Nat.le_refl _) (by omega) _, (hk.alloc ob).setCell (p := ⟨s, 2 * q + 1 + 2 * cnt pr' i, none⟩) (.inl (.inr (.inl rfl))) _, ?_⟩
              exact World.cell?_setCell_same' _ _ _ (hu1.bf.cellAt (by omega)).1
            have NX4 : ∀ (nq : Nat) {U : World} {st2 : Int}, SL w U (W.heap.size + 2) l st2 (atF (fun k => mem (p k)) q) t m (2 * cnt pr m) s q (szF p pr q) (fun k => mem (p k)) pr' (i + 1) i i (2 * cnt pr' i + 1) Ds → Kept (fun b => b = l.T ∨ b = s ∨ b = s + 1) V U → U.cell? ⟨s, 2 * q + 1 + 2 * cnt pr' i, none⟩ = some (vi 1) → ∀ (v : Value) ob, SL w (((U.drewN nq).alloc ob).setCell ⟨s, nO q (szF p pr q) + (2 * cnt pr' i + 1), none⟩ v) (W.heap.size + 2) l st2 (atF (fun k => mem (p k)) q) t m (2 * cnt pr m) s q (szF p pr q) (fun k => mem (p k)) pr' (i + 1) i i (2 * cnt pr' i + 1) Ds ∧ Kept (fun b => b = l.T ∨ b = s ∨ b = s + 1) V (((U.drewN nq).alloc ob).setCell ⟨s, nO q (szF p pr q) + (2 * cnt pr' i + 1), none⟩ v) ∧ (((U.drewN nq).alloc ob).setCell ⟨s, nO q (szF p pr q) + (2 * cnt pr' i + 1), none⟩ v).cell? ⟨s, 2 * q + 1 + 2 * cnt pr' i, none⟩ = some (vi 1) ∧ (((U.drewN nq).alloc ob).setCell ⟨s, nO q (szF p pr q) + (2 * cnt pr' i + 1), none⟩ v).cell? ⟨s, 2 * q + 1 + (2 * cnt pr' i + 1), none⟩ = some v := fun nq U st2 hu hk hc v ob => by
              rw [HN.out]
              have hka : Kept (fun _ => False) U ((U.drewN nq).alloc ob) := (Kept.drewN (Kept.refl (fun _ => False) U) nq).alloc ob
              have hu1 := hu.kept hka (fun _ h => h.elim)
              refine ⟨hu1.put (by omega) (by omega) (by omega) (by omega) _, ((Kept.drewN hk nq).alloc ob).setCell (p := ⟨s, 2 * q + 1 + (2 * cnt pr' i + 1), none⟩) (.inl (.inr (.inl rfl))) _, ?_, ?_⟩
              · rw [World.cell?_setCell_other _ _ _ _ (fun e => by have := congrArg Addr.off e; simp at this)]
                exact hka.cell (p := ⟨s, 2 * q + 1 + 2 * cnt pr' i, none⟩) (fun h => h) hc
              · exact World.cell?_setCell_same' _ _ _ (hu1.bf.cellAt (by omega)).1
            gi_wp2_with (first
              | ((with_reducible (show wpListIn _ _ _ _ _ (⟨some 121, _, _, _, _, _⟩ :: _) _ _)); refine wpListIn_as (fun U => ∃ st2, SL w U (W.heap.size + 2) l st2 (atF (fun k => mem (p k)) q) t m (2 * cnt pr m) s q (szF p pr q) (fun k => mem (p k)) pr' (i + 1) i i (2 * cnt pr' i) Ds ∧ Kept (fun b => b = l.T ∨ b = s ∨ b = s + 1) V U) ⟨_, HI.out.step _, (Kept.refl _ V).setCell (p := ⟨l.T, 5, none⟩) (.inl (.inl rfl)) _⟩ ?_; rintro U1 ⟨st2, slu1, ku1⟩; have d1 : U1.cell? ⟨s + 1, 1, none⟩ = some (sl s (nO q (szF p pr q)) (2 * cnt pr' i) (szF p pr q)) := by { simpa using slu1.bf.sv 1 _ rfl }; have SLU1 := hid slu1; have KU1 := hid ku1; clear slu1 ku1 HI a0 a1 a2)
              | (gi_at_builtin; refine wpListIn_append_room1 rfl (.tmp 125) (.tmp 128) 26 rfl 3 i3 Ybaz.underlying26 hi3 hs3 s (nO q (szF p pr q)) (2 * cnt pr' i) (szF p pr q) rfl ⟨U1.heap.size, 0, none⟩ 1 (vi 1) rfl (by simp) rfl (by omega) (APP _ _ SLU1.out _).1 (APP _ _ SLU1.out _).2 ?_; refine wpListIn_as (fun U => ∃ st2, SL w U (W.heap.size + 2) l st2 (atF (fun k => mem (p k)) q) t m (2 * cnt pr m) s q (szF p pr q) (fun k => mem (p k)) pr' (i + 1) i i (2 * cnt pr' i) Ds ∧ Kept (fun b => b = l.T ∨ b = s ∨ b = s + 1) V U ∧ U.cell? ⟨s, 2 * q + 1 + 2 * cnt pr' i, none⟩ = some (vi 1)) ⟨_, NX _ _ SLU1.out KU1.out _⟩ ?_; rintro U2 ⟨st3, slu2, ku2, hc2⟩; have d2 : U2.cell? ⟨s + 1, 1, none⟩ = some (sl s (nO q (szF p pr q)) (2 * cnt pr' i) (szF p pr q)) := by { simpa using slu2.bf.sv 1 _ rfl }; have d3 : U2.frozen? ⟨s + 1, 1, none⟩ = false := by { simpa using (slu2.bf.th 1 (by omega)).2 }; have SLU2 := hid slu2; have KU2 := hid ku2; have HC2 := hid hc2; clear slu2 ku2 hc2 APP SLU1 NX d1))
            refine wpIn_as (fun U => ∃ st2, SL w U (W.heap.size + 2) l st2 (atF (fun k => mem (p k)) q) t m (2 * cnt pr m) s q (szF p pr q) (fun k => mem (p k)) pr' (i + 1) i i (2 * cnt pr' i + 1) Ds ∧ Kept (fun b => b = l.T ∨ b = s ∨ b = s + 1) V U ∧ U.cell? ⟨s, 2 * q + 1 + 2 * cnt pr' i, none⟩ = some (vi 1)) ⟨_, SLU2.out.len' _, KU2.out.setCell (p := ⟨s + 1, 1, none⟩) (.inl (.inr (.inr rfl))) _, (by rw [World.cell?_setCell_other _ _ _ _ (fun e => by have := congrArg Addr.block e; simp at this)]; exact HC2.out)⟩ ?_
            rintro U3 ⟨st3, slu3, ku3, hc3⟩
            clear SLU2 KU2 HC2 d2 d3
            have hbU := slu3.sb.bat H.out hO
            obtain ⟨b', o', hsn', _, c3⟩ := hbU.one (p i) j hpi hp
            rw [hsn] at hsn'
            cases hsn'
            have e0 := slu3.sb.c0
            have e1 : U3.cell? ⟨l.T, 2, none⟩ = some (sl l.ba 0 l.n l.n) := by simpa using slu3.sb.st 2 _ rfl
            have e2 : U3.cell? ⟨w.heap.size + 1, 0, none⟩ = some (sl t.bm t.om m t.cm) := by simpa using slu3.sb.bx 0 _ rfl
            have e3 := hbU.mem' j (by omega)
            have e4 : (mem j : Int) < l.n := by have := hm j (by omega); omega
            clear hbU
            refine wpIn_loop_rounds 2 ?_
            rw [roundsIn_succ]
            gi_wp2
            have hji' : (j : Int) < m := by omega
            rcases hS.ss i j hlt hp with ⟨k', hk', hpk, hpr⟩ | ⟨hno, hpr⟩
            · skip
              have hat : atF (fun k => mem (p k)) q (mem j) = k' := (by have := atF_hit (fun k => mem (p k)) q k' (by omega) hqi; rw [hpk] at this; exact this)
              have a3 : U3.cell? ⟨l.ba, mem j, none⟩ = some (vi k') := by have := slu3.sb.at'.cell (hm j (by omega)); rw [Nat.zero_add, hat] at this; exact this
              have SLU3 := hid slu3
              have HC3 := hid hc3
              have KU3 := hid ku3
              clear slu3 ku3 hc3
              refine wpIn_round_quiet_tail 11 (fun w' => ∃ nq, w' = U3.drewN nq) (by kernel_rfl) (by rintro ⟨_, _, h⟩; exact h) mixed (by kernel_rfl) ⟨1, rfl⟩ ?_
              dsimp only [List.take, List.drop]
              repeat go_big_quiet_step (fail)
              refine wpQuiet_nil ?_
              rintro _ ⟨nq, rfl⟩
              have d4 : (U3.drewN nq).cell? ⟨s + 1, 1, none⟩ = some (sl s (nO q (szF p pr q)) (2 * cnt pr' i + 1) (szF p pr q)) := by simpa using SLU3.out.bf.sv 1 _ rfl
              go_wp2
              gi_wp2_with (gi_at_builtin; (refine wpListIn_append_room1 rfl (.tmp 154) (.tmp 156) 26 rfl 3 i3 Ybaz.underlying26 hi3 hs3 s (nO q (szF p pr q)) (2 * cnt pr' i + 1) (szF p pr q) rfl ⟨U3.heap.size, 0, none⟩ 1 (vi k') rfl (new1 _ _ _ _) rfl (by omega) (APP4 nq _ _ SLU3.out _).1 (APP4 nq _ _ SLU3.out _).2 ?_; refine wpListIn_as (fun U => ∃ st2, SL w U (W.heap.size + 2) l st2 (atF (fun k => mem (p k)) q) t m (2 * cnt pr m) s q (szF p pr q) (fun k => mem (p k)) pr' (i + 1) i i (2 * cnt pr' i + 1) Ds ∧ Kept (fun b => b = l.T ∨ b = s ∨ b = s + 1) V U ∧ U.cell? ⟨s, 2 * q + 1 + 2 * cnt pr' i, none⟩ = some (vi 1) ∧ U.cell? ⟨s, 2 * q + 1 + (2 * cnt pr' i + 1), none⟩ = some (vi k')) ⟨_, NX4 nq SLU3.out KU3.out HC3.out (vi k') _⟩ ?_; rintro U4 ⟨st4, slu4, ku4, hc4, hd4⟩; have d5 : U4.cell? ⟨s + 1, 1, none⟩ = some (sl s (nO q (szF p pr q)) (2 * cnt pr' i + 1) (szF p pr q)) := by { simpa using slu4.bf.sv 1 _ rfl }; have d6 : U4.frozen? ⟨s + 1, 1, none⟩ = false := by { simpa using (slu4.bf.th 1 (by omega)).2 }; have SLU4 := hid slu4; have KU4 := hid ku4; have HC4 := hid hc4; have HD4 := hid hd4; clear slu4 ku4 hc4 hd4 APP4 SLU3 NX4))
              rw [roundsIn_succ]
              gi_wp2
              have kp : Kept (fun b => b = l.T ∨ b = s ∨ b = s + 1) V (U4.setCell ⟨s + 1, 1, none⟩ (sl s (nO q (szF p pr q)) (2 * cnt pr' i + 1 + 1) (szF p pr q))) := KU4.out.setCell (p := ⟨s + 1, 1, none⟩) (.inl (.inr (.inr rfl))) _
              refine ⟨keepsFrom_kept kp (KEEP1.out), KpL.kept kp (KEEP2.out), ?_⟩
              refine ⟨st4, ?_⟩
              rw [if_neg (by simp), show 2 * cnt pr' (i + 1) = 2 * cnt pr' i + 1 + 1 by simp only [cnt, waits_some hpr]; omega]
              have sx := SLU4.out.len' (2 * cnt pr' i + 1 + 1)
              exact sx.some' hpr (by omega) (by rw [World.cell?_setCell_other _ _ _ _ (fun e => by have := congrArg Addr.block e; simp at this)]; exact HC4.out) (by rw [World.cell?_setCell_other _ _ _ _ (fun e => by have := congrArg Addr.block e; simp at this)]; exact HD4.out)
            · skip
              have hat : atF (fun k => mem (p k)) q (mem j) = -1 := (atF_none (fun k => mem (p k)) q (mem j) (fun k2 h2 e2 => hno k2 h2 (hinj _ _ (hS.lt k2 h2) (by omega) e2)))
              have a3 : U3.cell? ⟨l.ba, mem j, none⟩ = some (.int .i64 (-1)) := by have := slu3.sb.at'.cell (hm j (by omega)); rw [Nat.zero_add, hat] at this; exact this
              have SLU3 := hid slu3
              have HC3 := hid hc3
              have KU3 := hid ku3
              clear slu3 ku3 hc3
              refine wpIn_round_quiet_tail 11 (fun w' => ∃ nq, w' = U3.drewN nq) (by kernel_rfl) (by rintro ⟨_, _, h⟩; exact h) mixed (by kernel_rfl) ⟨1, rfl⟩ ?_
              dsimp only [List.take, List.drop]
              repeat go_big_quiet_step (fail)
              refine wpQuiet_nil ?_
              rintro _ ⟨nq, rfl⟩
              have d4 : (U3.drewN nq).cell? ⟨s + 1, 1, none⟩ = some (sl s (nO q (szF p pr q)) (2 * cnt pr' i + 1) (szF p pr q)) := by simpa using SLU3.out.bf.sv 1 _ rfl
              go_wp2
              gi_wp2_with (gi_at_builtin; (refine wpListIn_append_room1 rfl (.tmp 154) (.tmp 156) 26 rfl 3 i3 Ybaz.underlying26 hi3 hs3 s (nO q (szF p pr q)) (2 * cnt pr' i + 1) (szF p pr q) rfl ⟨U3.heap.size, 0, none⟩ 1 (.int .i64 (-1)) rfl (new1 _ _ _ _) rfl (by omega) (APP4 nq _ _ SLU3.out _).1 (APP4 nq _ _ SLU3.out _).2 ?_; refine wpListIn_as (fun U => ∃ st2, SL w U (W.heap.size + 2) l st2 (atF (fun k => mem (p k)) q) t m (2 * cnt pr m) s q (szF p pr q) (fun k => mem (p k)) pr' (i + 1) i i (2 * cnt pr' i + 1) Ds ∧ Kept (fun b => b = l.T ∨ b = s ∨ b = s + 1) V U ∧ U.cell? ⟨s, 2 * q + 1 + 2 * cnt pr' i, none⟩ = some (vi 1) ∧ U.cell? ⟨s, 2 * q + 1 + (2 * cnt pr' i + 1), none⟩ = some (.int .i64 (-1))) ⟨_, NX4 nq SLU3.out KU3.out HC3.out (.int .i64 (-1)) _⟩ ?_; rintro U4 ⟨st4, slu4, ku4, hc4, hd4⟩; have d5 : U4.cell? ⟨s + 1, 1, none⟩ = some (sl s (nO q (szF p pr q)) (2 * cnt pr' i + 1) (szF p pr q)) := by { simpa using slu4.bf.sv 1 _ rfl }; have d6 : U4.frozen? ⟨s + 1, 1, none⟩ = false := by { simpa using (slu4.bf.th 1 (by omega)).2 }; have SLU4 := hid slu4; have KU4 := hid ku4; have HC4 := hid hc4; have HD4 := hid hd4; clear slu4 ku4 hc4 hd4 APP4 SLU3 NX4))
              have f7 : (U4.setCell ⟨s + 1, 1, none⟩ (sl s (nO q (szF p pr q)) (2 * cnt pr' i + 1 + 1) (szF p pr q))).cell? ⟨s + 1, 1, none⟩ = some (sl s (nO q (szF p pr q)) (2 * cnt pr' i + 1 + 1) (szF p pr q)) := by simpa using (SLU4.out.len' (2 * cnt pr' i + 1 + 1)).bf.sv 1 _ rfl
              have f8 : (U4.setCell ⟨s + 1, 1, none⟩ (sl s (nO q (szF p pr q)) (2 * cnt pr' i + 1 + 1) (szF p pr q))).frozen? ⟨s + 1, 1, none⟩ = false := by simpa using ((SLU4.out.len' (2 * cnt pr' i + 1 + 1)).bf.th 1 (by omega)).2
              have hsl : ∀ W, Sem.run Ybaz.prog (Instr.sliceAt 26 (sl s (nO q (szF p pr q)) (2 * cnt pr' i + 1 + 1) (szF p pr q)) none (some (.int .i64 (2 * (cnt pr' i : Int)))) none) W = .ok (sl s (nO q (szF p pr q)) (2 * cnt pr' i) (szF p pr q)) W := fun W => by
                have h9 : ((2 * cnt pr' i : Nat) : Int) = 2 * (cnt pr' i : Int) := by omega
                rw [← h9]
                exact slice_h s (nO q (szF p pr q)) (2 * cnt pr' i + 1 + 1) (szF p pr q) (2 * cnt pr' i) (by omega) W
              rw [roundsIn_succ]
              gi_wp2
              have kp : Kept (fun b => b = l.T ∨ b = s ∨ b = s + 1) V ((U4.setCell ⟨s + 1, 1, none⟩ (sl s (nO q (szF p pr q)) (2 * cnt pr' i + 1 + 1) (szF p pr q))).setCell ⟨s + 1, 1, none⟩ (sl s (nO q (szF p pr q)) (2 * cnt pr' i) (szF p pr q))) := (KU4.out.setCell (p := ⟨s + 1, 1, none⟩) (.inl (.inr (.inr rfl))) _).setCell (p := ⟨s + 1, 1, none⟩) (.inl (.inr (.inr rfl))) _
              refine ⟨keepsFrom_kept kp (KEEP1.out), KpL.kept kp (KEEP2.out), ?_⟩
              refine ⟨st4, ?_⟩
              rw [if_neg (by simp), show 2 * cnt pr' (i + 1) = 2 * cnt pr' i by simp only [cnt, waits_none hpr]; omega]
              exact ((SLU4.out.len' (2 * cnt pr' i + 1 + 1)).len' (2 * cnt pr' i)).none' hpr
          case done =>
            rintro D ys V hD hys ⟨st1, hi⟩ hDm
            have slN : SL w V (W.heap.size + 2) l st1 (atF (fun k => mem (p k)) q) t m (2 * cnt pr m) s q (szF p pr q) (fun k => mem (p k)) pr' (i + 1) (i + 1) i (2 * cnt pr' (i + 1)) Ds := by
              cases hp : pr (p i) with
              | none =>
                rw [waits_none hp] at hys
                have hi' := hi
                rw [if_pos (by rw [hys]; rfl)] at hi'
                have hpr := hS.nn i hlt hp
                rw [show 2 * cnt pr' (i + 1) = 2 * cnt pr' i by simp only [cnt, waits_none hpr]; omega]
                exact hi'.none' hpr
              | some j =>
                rw [waits_some hp] at hys
                have hi' := hi
                rw [if_neg (by rw [hys]; simp)] at hi'
                exact hi'
            have slD := slN.cons (D := D) (by simp [hVs] at hD; omega) hDm
            have f0 : V.cell? ⟨s + 1, 1, none⟩ = some (sl s (nO q (szF p pr q)) (2 * cnt pr' (i + 1)) (szF p pr q)) := by simpa using slD.bf.sv 1 _ rfl
            have f1 : V.cell? ⟨s + 1, 2, none⟩ = some (sl s q (q + 1) (q + 1 + szF p pr q)) := by simpa using slD.bf.sv 2 _ rfl
            have f2 := slD.bf.cellAt (j := q + (i + 1)) (by omega)
            obtain ⟨u1, hu1⟩ := isSome_ex f2.1
            have f3 := f2.2
            have SLD := hid slD
            clear hi slN slD f2 hA1 hA SL0 hseq kw SLV BV
            go_wp2
            refine ⟨⟨i + 1, D :: Ds, ?_⟩, ?_⟩
            · repeat apply Exists.intro
              exact ⟨⟨by omega, (SLD.out.fro (by omega) (by omega)).up (by simp) (Nat.le_refl _)⟩, rfl⟩
            · simp [intOf]; omega
          case stop =>
            intro D c pre V _ _ h _
            exact h.elim
        · obtain rfl : i = q := by omega
          have e0 : W.cell? ⟨s + 1, 0, none⟩ = some (sl s 0 i (2 * i + 1 + szF p pr i)) := by simpa using sl1.bf.sv 0 _ rfl
          have SLI := hid (show SL w W W.heap.size l st (rsF (fun k => mem (p k)) i 0) t m (2 * cnt pr m) s i (szF p pr i) (fun k => mem (p k)) pr' i i i (2 * cnt pr' i) Ds from sl1)
          clear sl1
          go_wp2
          go_loopw [178] (fun x V => ∃ k : Nat, k ≤ i ∧ x = vi k ∧ SL w V W.heap.size l st (rsF (fun k => mem (p k)) i k) t m (2 * cnt pr m) s i (szF p pr i) (fun k => mem (p k)) pr' i i i (2 * cnt pr' i) Ds) (fun x _ => i - (intOf x).toNat)
          case atStart => exact ⟨0, Nat.zero_le _, rfl, SLI.out⟩
          case round =>
            obtain ⟨k, hk, rfl, slk⟩ := hrel
            by_cases hlt2 : k < i
            · have hki : (k : Int) < (i : Int) := by omega
              obtain ⟨f, hf, hfm, _⟩ := slk.bf.tab
              have g0 : wr.cell? ⟨s, k, none⟩ = some (vi (mem (p k))) := by have := hf.cell (j := k) (by omega); rw [Nat.zero_add, hfm k hlt2] at this; exact this
              have g1 := slk.sb.c0
              have g2 : wr.cell? ⟨l.T, 2, none⟩ = some (sl l.ba 0 l.n l.n) := by simpa using slk.sb.st 2 _ rfl
              have hx := hm (p k) (hS.lt k hlt2)
              have g3 : wr.cell? ⟨l.ba, mem (p k), none⟩ = some (.int .i64 (rsF (fun k => mem (p k)) i k (mem (p k)))) := by simpa using slk.sb.at'.cell hx
              have g4 : wr.frozen? ⟨l.ba, mem (p k), none⟩ = false := by simpa using slk.sb.at'.free hx
              have hxi : (mem (p k) : Int) < l.n := by omega
              have SLK := hid slk
              clear slk hf hfm SLI
              go_wp2
              go_roundw
              case rel =>
                refine ⟨k + 1, by omega, by go_num, (SLK.out.mark hx (-1)).ext (fun x _ => ?_)⟩
                conv => rhs; unfold rsF
              case measure => simp [intOf]; omega
            · obtain rfl : k = i := by omega
              have R0 := hid slk.bf.sv
              have T0 := hid slk.sb.rs
              have SLK := hid slk
              clear slk SLI
              go_wp2_with (first
                | ((with_reducible (show wpList _ _ _ (⟨_, .load 53 _, _, _, _, _⟩ :: _) _ _)); refine wpList_load_mid rfl 53 _ rfl (s + 1) 0 rfl _ _ R0.out Ybaz.underlying53 rfl (by kernel_rfl) ?_; simp only [Act.put, List.setIfInBounds_toArray, List.set_cons_succ, List.set_cons_zero])
                | ((with_reducible (show wpList _ _ _ (⟨_, .store 53 _ _, _, _, _, _⟩ :: _) _ _)); refine wpList_store_mid rfl 53 _ _ rfl (w.heap.size + 2) 0 #[sl s 0 k (2 * k + 1 + szF p pr k), sl s (nO k (szF p pr k)) (2 * cnt pr' k) (szF p pr k), sl s k (k + 1) (k + 1 + szF p pr k)] rfl rfl T0.out (by kernel_rfl) (by simp [Value.oneCell']) ?_))
              have K1 : Kept (fun b => b = w.heap.size + 2) wr (wr.setCells (w.heap.size + 2) 0 [sl s 0 k (2 * k + 1 + szF p pr k), sl s (nO k (szF p pr k)) (2 * cnt pr' k) (szF p pr k), sl s k (k + 1) (k + 1 + szF p pr k)]) := (Kept.refl (fun b => b = w.heap.size + 2) wr).setCells (g := w.heap.size + 2) (.inl rfl) _ _
              have mk : Marks (wr.setCells (w.heap.size + 2) 0 [sl s 0 k (2 * k + 1 + szF p pr k), sl s (nO k (szF p pr k)) (2 * cnt pr' k) (szF p pr k), sl s k (k + 1) (k + 1 + szF p pr k)]) w.heap.size Ds := SLK.out.mks.kept K1 (fun b hb => by
                subst hb
                obtain ⟨u, hu⟩ := isSome_ex (T0.out 0 (by omega)).1
                exact notDef_of_cell hu)
              have rg := World.rangeAt_setCells_same wr (w.heap.size + 2) 0 [sl s 0 k (2 * k + 1 + szF p pr k), sl s (nO k (szF p pr k)) (2 * cnt pr' k) (szF p pr k), sl s k (k + 1) (k + 1 + szF p pr k)] T0.out
              have ni : ∀ {b o : Nat} {v : Value}, (wr.setCells (w.heap.size + 2) 0 [sl s 0 k (2 * k + 1 + szF p pr k), sl s (nO k (szF p pr k)) (2 * cnt pr' k) (szF p pr k), sl s k (k + 1) (k + 1 + szF p pr k)]).cell? ⟨b, o, none⟩ = some v → b ∉ Ds := fun hc hb => notDef_of_cell hc ⟨_, (mk.at' _ hb).2⟩
              refine leaves_marks (lo := w.heap.size) Ds _ mk (fun W' kp => ⟨_, results_cell Ybaz.results30 _ _ _ (b := w.heap.size + 2) (o := 0) rfl (run_loadVar_mid _ _ _ 53 [sl s 0 k (2 * k + 1 + szF p pr k), sl s (nO k (szF p pr k)) (2 * cnt pr' k) (szF p pr k), sl s k (k + 1) (k + 1 + szF p pr k)] _ (kp.range (ni (rg 0 _ rfl)) rg) Ybaz.underlying53 rfl (by kernel_rfl)), s, st, rfl, ?_⟩)
              have K2 : Kept (fun b => b = w.heap.size + 2 ∨ b ∈ Ds) wr W' := (K1.weak (fun b _ hb => .inl hb)).trans (kp.weak (fun b _ hb => .inr hb))
              have hlo : ∀ b, b < w.heap.size → ¬ (b = w.heap.size + 2 ∨ b ∈ Ds) := fun b hb he => by
                rcases he with he | he
                · omega
                · have := (mk.at' b he).1; omega
              have K3 : Kept (fun b => b = l.T ∨ b = l.ba) w W' := Kept.thn SLK.out.sb.kp K2 (fun b hb he => absurd he (hlo b hb))
              have hs3' := SLK.out.s3
              have hsS' := SLK.out.sS
              have hsz' := SLK.out.sz
              have hK2s := K2.size
              have hnd := HT.out.ne
              simp only [List.nodup_cons, List.mem_cons, List.not_mem_nil, not_or, or_false, not_false_eq_true, List.nodup_nil, and_true] at hnd
              obtain ⟨⟨d1, d2, d3, d4, d5⟩, ⟨d6, d7, d8, d9⟩, ⟨d10, d11, d12⟩, ⟨d13, d14⟩, d15⟩ := hnd
              have hTl := SLK.out.sb.lT
              have hal := SLK.out.sb.la
              refine ⟨by omega, by omega, ⟨K2.range (hlo _ hTl) SLK.out.sb.st, K2.there (hlo _ hTl) SLK.out.sb.th, HT.out.nm.kept K3 (fun e => by omega), HT.out.tt.kept K3 (fun e => by omega), (SLK.out.sb.at'.kept K2 (hlo _ hal)).ext (fun x _ => by rw [rsF_end]), HT.out.al.kept K3 (fun e => by omega), HT.out.mp.kept K3 (fun e => by omega), HT.out.fl, HT.out.few, HT.out.ne⟩, ?_, K3⟩
              obtain ⟨f, hf, _⟩ := SLK.out.bf.tab
              have hcs := K1.cell (p := ⟨s, 0 + 0, none⟩) (fun (e : s = _) => by omega) (hf.cell (j := 0) (by omega))
              have nE : ¬ (s = w.heap.size + 2 ∨ s ∈ Ds) := fun he => by
                rcases he with he | he
                · omega
                · exact ni hcs he
              exact (SLK.out.bf.bat hn3 hS.low (fun x hx => H.out.mlt _ (hS.lt x hx)) (hS.cnt_sz k (Nat.le_refl _)) (by omega)).kept K2 nE nE (fun a ha => by cases ha; exact nE)
end Go.Proofs.YbulkdsicGreat
