import Derived.Test.YbulkdsicGreatLaw1
set_option linter.unusedVariables false
set_option linter.unusedSimpArgs false
namespace Go.Proofs.YbulkdsicGreat
open Go.RowKit Go.Shelf

theorem sz_setCells (b : Nat) : ∀ (vs : List Value) (o : Nat) (w : World), (w.setCells b o vs).heap.size = w.heap.size
  | [], _, _ => rfl
  | v :: vs, o, w => by
    show ((w.setCell ⟨b, o, none⟩ v).setCells b (o + 1) vs).heap.size = _
    rw [sz_setCells b vs]
    simp
/-- Behind regions 29 and 30. -/
structure T2 (w V U : World) (b17 b18 : Nat) (T : PT) (a b c : Value) : Prop where
  bel : Below w.heap.size w U
  bv : Below V.heap.size V U
  r17 : U.rangeAt b17 0 [a, b, c]
  t18 : U.there b18 0 3
  got : ∃ X : World, NodeIs X 3 T a b c ∧ Below X.heap.size X U ∧ X.heap.size ≤ b17
  lo : w.heap.size ≤ b17
  lt : b17 < b18
  sz : b18 < U.heap.size
theorem T2.make {w V W1 : World} {T : PT} {a b c : Value} (hw : Below w.heap.size w V) (hb : Below V.heap.size V W1) (h : NodeHi W1 V.heap.size 3 T a b c) : T2 w V (((W1.alloc (.cells #[.string ⟨#[]⟩, .bool false, .slice none 0 0] 42)).setCells W1.heap.size 0 [a, b, c]).alloc (.cells #[.string ⟨#[]⟩, .bool false, .slice none 0 0] 42)) W1.heap.size (W1.heap.size + 1) T a b c := by
  have h1 := hw.size
  have h2 := hb.size
  have k0 : Kept (fun _ => False) W1 ((W1.alloc (.cells #[.string ⟨#[]⟩, .bool false, .slice none 0 0] 42)).setCells W1.heap.size 0 [a, b, c]) := ((Kept.refl _ W1).alloc _).setCells (.inr (Nat.le_refl _)) _ _
  have s0 : ((W1.alloc (.cells #[.string ⟨#[]⟩, .bool false, .slice none 0 0] 42)).setCells W1.heap.size 0 [a, b, c]).heap.size = W1.heap.size + 1 := by rw [sz_setCells, World.size_alloc]
  have k : Kept (fun _ => False) W1 (((W1.alloc (.cells #[.string ⟨#[]⟩, .bool false, .slice none 0 0] 42)).setCells W1.heap.size 0 [a, b, c]).alloc (.cells #[.string ⟨#[]⟩, .bool false, .slice none 0 0] 42)) := k0.alloc _
  have r : ((W1.alloc (.cells #[.string ⟨#[]⟩, .bool false, .slice none 0 0] 42)).setCells W1.heap.size 0 [a, b, c]).rangeAt W1.heap.size 0 [a, b, c] := World.rangeAt_setCells_same _ _ _ _ (there_new W1 [.string ⟨#[]⟩, .bool false, .slice none 0 0] 42)
  have k1 : Kept (fun _ => False) ((W1.alloc (.cells #[.string ⟨#[]⟩, .bool false, .slice none 0 0] 42)).setCells W1.heap.size 0 [a, b, c]) (((W1.alloc (.cells #[.string ⟨#[]⟩, .bool false, .slice none 0 0] 42)).setCells W1.heap.size 0 [a, b, c]).alloc (.cells #[.string ⟨#[]⟩, .bool false, .slice none 0 0] 42)) := (Kept.refl _ _).alloc _
  have t := there_new ((W1.alloc (.cells #[.string ⟨#[]⟩, .bool false, .slice none 0 0] 42)).setCells W1.heap.size 0 [a, b, c]) [.string ⟨#[]⟩, .bool false, .slice none 0 0] 42
  rw [s0] at t
  have bv : Below V.heap.size V (((W1.alloc (.cells #[.string ⟨#[]⟩, .bool false, .slice none 0 0] 42)).setCells W1.heap.size 0 [a, b, c]).alloc (.cells #[.string ⟨#[]⟩, .bool false, .slice none 0 0] 42)) := hb.trans (k.toBelow (fun _ _ h => h) h2)
  exact ⟨hw.trans (bv.mono h1), bv, k1.range (fun h => h) r, t, ⟨W1, NodeHi.is _ _ _ _ _ h, k.toBelow (fun _ _ h => h) (Nat.le_refl _), Nat.le_refl _⟩, by omega, by omega, by rw [World.size_alloc, s0]; omega⟩
theorem T2.after {w V U W : World} {b17 b18 : Nat} {T : PT} {a b c : Value} (h : T2 w V U b17 b18 T a b c) (hb : Below b17 U W) : NodeIs W 3 T a b c := by
  obtain ⟨X, h1, h2, h3⟩ := h.got
  exact NodeIs.below (h2.trans (hb.mono h3)) _ _ _ _ _ h1
theorem bld42z (w : World) : Sem.run Ybaz.prog (Instr.build 42 #[]) w = .ok (.agg #[.string ⟨#[]⟩, .bool false, .slice none 0 0]) w := by kernel_rfl

set_option maxRecDepth 100000 in
set_option maxHeartbeats 4000000 in
/-- No services. -/
theorem law_tail0 {y0 y1 y2 y3 y4 y5 y6 y10 y11 y12 y13 y14 y15 y16 y17 y18 y19 y20 y21 y22 y23 y24 y25 y26 y27 y28 y29 y30 y31 y32 y33 y34 y35 y36 y37 y38 y39 y40 y41 y42 y43 y44 y45 y46 y47 y48 y49 y50 y51 y52 y53 y54 y55 y56 y57 y58 y59 y60 y61 y62 y63 y64 y65 y66 y67 y68 y69 y70 y71 y72 y73 y74 y75 y76 y77 y78 y79 y80 y81 y82 y83 y84 y85 y86 y87 y88 y89 y90 y91 y92 y93 y94 y95 y96 y97 y98 y99 y100 y101 y102 y103 y104 y105 y106 y107 y108 y109 y110 y111 y112 y113 y114 y115 y116 y117 y118 y119 y120 y121 y122 y123 y124 y125 y126 y127 y128 y129 y130 y131 y132 y133 y134 y135 y136 y137 y138 y139 y140 y141 y142 y143 y144 y145 y146 y147 y148 y149 y150 y151 y152 y153 y154 y155 y156 y157 y158 y159 y160 y161 y162 y163 y164 y165 y166 y167 y168 y169 y170 y171 y172 y173 : Value} (Gb Sb : Nat) (w V : World) (hw : Below w.heap.size w V)
    (tree : Calls Ybaz.prog 4 #[.pointer (some ⟨Gb, 0, none⟩), .pointer (some ⟨Sb, 0, none⟩)] V fun e w' => e = .returned (.agg #[.string ⟨#[]⟩, .bool false, .slice none 0 0]) ∧ Below V.heap.size V w') :
    Code.wp Ybaz.prog (dropC 8 (Ybaz.f3.body.getD .skip)) (bodyPost Ybaz.prog Ybaz.f3 fun e w' => e = .returned (.bool true) ∧ Below w.heap.size w w') ⟨#[y0, y1, y2, y3, y4, y5, y6, vi 0, .pointer (some ⟨Gb, 0, none⟩), .pointer (some ⟨Sb, 0, none⟩), y10, y11, y12, y13, y14, y15, y16, y17, y18, y19, y20, y21, y22, y23, y24, y25, y26, y27, y28, y29, y30, y31, y32, y33, y34, y35, y36, y37, y38, y39, y40, y41, y42, y43, y44, y45, y46, y47, y48, y49, y50, y51, y52, y53, y54, y55, y56, y57, y58, y59, y60, y61, y62, y63, y64, y65, y66, y67, y68, y69, y70, y71, y72, y73, y74, y75, y76, y77, y78, y79, y80, y81, y82, y83, y84, y85, y86, y87, y88, y89, y90, y91, y92, y93, y94, y95, y96, y97, y98, y99, y100, y101, y102, y103, y104, y105, y106, y107, y108, y109, y110, y111, y112, y113, y114, y115, y116, y117, y118, y119, y120, y121, y122, y123, y124, y125, y126, y127, y128, y129, y130, y131, y132, y133, y134, y135, y136, y137, y138, y139, y140, y141, y142, y143, y144, y145, y146, y147, y148, y149, y150, y151, y152, y153, y154, y155, y156, y157, y158, y159, y160, y161, y162, y163, y164, y165, y166, y167, y168, y169, y170, y171, y172, y173], []⟩ V := by
  conv => arg 2; whnf
  dsimp only
  have TR := hid tree
  have HW := hid hw
  clear tree hw
  go_upto_region 31 with (first
    | (go_at_call 4; refine TR.out.mono ?_; rintro e W1 ⟨rfl, b1⟩; have B1 := hid b1; clear b1)
    | ((with_reducible (show wpList _ _ _ (⟨_, .alloc 42, _, _, _, _⟩ :: _) _ _)); refine wpList_alloc_as rfl 42 rfl #[.string ⟨#[]⟩, .bool false, .slice none 0 0] al42 ?_; simp only [Act.put, List.setIfInBounds_toArray, List.set_cons_succ, List.set_cons_zero])
    | ((with_reducible (show wpList _ _ _ (⟨_, .store 42 _ _, _, _, _, _⟩ :: _) _ _)); refine wpList_store_mid rfl 42 _ _ rfl W1.heap.size 0 #[.string ⟨#[]⟩, .bool false, .slice none 0 0] rfl rfl (there_new W1 [.string ⟨#[]⟩, .bool false, .slice none 0 0] 42) (by kernel_rfl) (by simp [Value.oneCell']) ?_; simp only [Act.put, List.setIfInBounds_toArray, List.set_cons_succ, List.set_cons_zero]))
  refine wp_as (fun U => T2 w V U W1.heap.size (W1.heap.size + 1) (.mk ⟨#[]⟩ false none) (.string ⟨#[]⟩) (.bool false) (.slice none 0 0)) (T2.make HW.out B1.out ⟨rfl, rfl, rfl⟩) ?_
  rw [sz_setCells, World.size_alloc]
  intro U t2
  obtain ⟨b17, h17⟩ : ∃ b17, W1.heap.size = b17 := ⟨_, rfl⟩
  rw [h17] at t2 ⊢
  obtain ⟨b18, h18⟩ : ∃ b18, b17 + 1 = b18 := ⟨_, rfl⟩
  rw [h18] at t2 ⊢
  have T0 := hid t2
  clear t2 h17 h18
  have kk : Kept (fun b => b = b18) U (U.setCells b18 0 [.string ⟨#[]⟩, .bool false, .slice none 0 0]) := (Kept.refl (fun b => b = b18) U).setCells (.inl rfl) _ _
  have r17 : Hid ((U.setCells b18 0 [.string ⟨#[]⟩, .bool false, .slice none 0 0]).rangeAt b17 0 [.string ⟨#[]⟩, .bool false, .slice none 0 0]) := hid (kk.range (fun e => by have := T0.out.lt; omega) T0.out.r17)
  have r18 : Hid ((U.setCells b18 0 [.string ⟨#[]⟩, .bool false, .slice none 0 0]).rangeAt b18 0 [.string ⟨#[]⟩, .bool false, .slice none 0 0]) := hid (World.rangeAt_setCells_same _ _ _ _ T0.out.t18)
  have BE : Hid (Below w.heap.size w (U.setCells b18 0 [.string ⟨#[]⟩, .bool false, .slice none 0 0])) := hid (T0.out.bel.trans (kk.toBelow (fun i hi e => by have := T0.out.lt; have := T0.out.lo; omega) T0.out.bel.size))
  go_upto_region 42 with (first
    | ((with_reducible (show wpList _ _ _ (⟨_, .store 42 _ _, _, _, _, _⟩ :: _) _ _)); refine wpList_store_mid rfl 42 _ _ rfl b18 0 #[.string ⟨#[]⟩, .bool false, .slice none 0 0] rfl rfl T0.out.t18 (by kernel_rfl) (by simp [Value.oneCell']) ?_; simp only [Act.put, List.setIfInBounds_toArray, List.set_cons_succ, List.set_cons_zero]))
  go_wp2_with (first
    | ((with_reducible (show wpList _ _ _ (⟨_, .load 42 (.tmp 17), _, _, _, _⟩ :: _) _ _)); refine wpList_load_mid rfl 42 _ rfl b17 0 rfl _ _ r17.out Ybaz.underlying42 rfl (by kernel_rfl) ?_; simp only [Act.put, List.setIfInBounds_toArray, List.set_cons_succ, List.set_cons_zero])
    | ((with_reducible (show wpList _ _ _ (⟨_, .load 42 (.tmp 18), _, _, _, _⟩ :: _) _ _)); refine wpList_load_mid rfl 42 _ rfl b18 0 rfl _ _ r18.out Ybaz.underlying42 rfl (by kernel_rfl) ?_; simp only [Act.put, List.setIfInBounds_toArray, List.set_cons_succ, List.set_cons_zero])
    | (go_at_call 6; refine (eq_any 1 (.mk ⟨#[]⟩ false none) _ _ _ _ _ _ _ ⟨rfl, rfl, rfl⟩ ⟨rfl, rfl, rfl⟩).mono ?_; rintro e W9 ⟨rfl, b9⟩))
  go_ret
  exact ⟨rfl, BE.out.trans (b9.mono (by have := BE.out.size; omega))⟩

/-- The wanted parts, the first q laid. -/
structure PW (w V U : World) (P q : Nat) (nm : Nat → ByteArray) (gs : List (List Nat)) : Prop where
  bel : Below V.heap.size V U
  room : U.there P 0 (gs.length * 3)
  at' : ∀ (k : Nat) L, k < q → gs[k]? = some L → ∃ x y z, U.rangeAt P (k * 3) [x, y, z] ∧ NodeHi U (P + 1) 2 (chT nm L) x y z
  lo : V.heap.size ≤ P
  sz : P < U.heap.size
theorem PW.step {w V U U' : World} {P q : Nat} {nm : Nat → ByteArray} {gs : List (List Nat)} {L : List Nat} {x y z : Value} (h : PW w V U P q nm gs) (hq : q < gs.length) (hL : gs[q]? = some L) (b : Below U.heap.size U U') (nd : NodeHi U' U.heap.size 2 (chT nm L) x y z) : PW w V (U'.setCells P (q * 3) [x, y, z]) P (q + 1) nm gs := by
  have k1 := Kept.ofBelow (E := fun _ => False) b
  have k2 : Kept (fun b => b = P) U' (U'.setCells P (q * 3) [x, y, z]) := (Kept.refl (fun b => b = P) U').setCells (.inl rfl) _ _
  have room : U'.there P 0 (gs.length * 3) := k1.there (fun h => h) h.room
  have hlo := h.lo
  have hsz := h.sz
  refine ⟨(h.bel.trans (k1.toBelow (fun _ _ h => h) h.bel.size)).trans (k2.toBelow (fun i hi e => by omega) (Nat.le_trans h.bel.size b.size)), there_setCells room _ _ _, fun k L' hk hL' => ?_, h.lo, Nat.lt_of_lt_of_le h.sz (Nat.le_trans b.size k2.size)⟩
  rcases Nat.lt_or_ge k q with hkq | hkq
  · obtain ⟨x', y', z', r1, n1⟩ := h.at' k L' hkq hL'
    exact ⟨x', y', z', World.rangeAt_setCells_apart (k1.range (fun h => h) r1) _ _ _ (.inr (.inl (by simp; omega))), NodeHi.kept k2 (fun b hb => by omega) _ _ _ _ _ (NodeHi.kept k1 (fun _ h => h.elim) _ _ _ _ _ n1)⟩
  · obtain rfl : k = q := by omega
    rw [hL] at hL'
    cases hL'
    exact ⟨x, y, z, World.rangeAt_setCells_same _ _ _ _ (there_part room (by omega) (by simp; omega)), NodeHi.mono (by omega) _ _ _ _ _ (NodeHi.kept k2 (fun b hb => by omega) _ _ _ _ _ nd)⟩
theorem bld42p (P n : Nat) (w : World) : Sem.run Ybaz.prog (Instr.build 42 #[(1, .bool true), (2, sl P 0 n n)]) w = .ok (.agg #[.string ⟨#[]⟩, .bool true, sl P 0 n n]) w := by kernel_rfl

set_option maxRecDepth 100000 in
set_option maxHeartbeats 4000000 in
/-- Behind the loop. -/
theorem law_tail {y0 y1 y2 y3 y4 y5 y6 y10 y12 y13 y14 y15 y16 y17 y18 y19 y20 y21 y22 y23 y24 y25 y26 y27 y28 y29 y30 y31 y32 y33 y34 y35 y36 y37 y38 y39 y40 y41 y42 y43 y44 y45 y46 y47 y48 y49 y50 y51 y52 y53 y54 y55 y56 y57 y58 y59 y60 y61 y62 y63 y64 y65 y66 y67 y68 y69 y70 y71 y72 y73 y74 y75 y76 y77 y78 y79 y80 y81 y82 y83 y84 y85 y86 y87 y88 y89 y90 y91 y92 y93 y94 y95 y96 y97 y98 y99 y100 y101 y102 y103 y104 y105 y106 y107 y108 y109 y110 y111 y112 y113 y114 y115 y116 y117 y118 y119 y120 y121 y122 y123 y124 y125 y126 y127 y128 y129 y130 y131 y132 y133 y134 y135 y136 y137 y138 y139 y140 y141 y142 y143 y144 y145 y146 y147 y148 y149 y150 y151 y152 y153 y154 y155 y156 y157 y158 y159 y160 y161 y162 y163 y164 y165 y166 y167 y168 y169 y170 y171 y172 y173 : Value} (Gb Sb n sv og oc : Nat) (nm : Nat → ByteArray) (gs : List (List Nat)) (w V : World) (hw : Below w.heap.size w V) (hn : 0 < n) (hfew : n ≤ 300) (hnm : Names V Gb sv n n nm) (hch : CH V og oc gs) (h0 : 0 < gs.length) (h300 : gs.length ≤ 300)
    (hL : ∀ L ∈ gs, 0 < L.length ∧ L.length ≤ 300 ∧ ∀ j x : Nat, L[j]? = some x → x < n)
    (tree : Calls Ybaz.prog 4 #[.pointer (some ⟨Gb, 0, none⟩), .pointer (some ⟨Sb, 0, none⟩)] V fun e w' => (∃ a b c, e = .returned (.agg #[a, b, c]) ∧ NodeHi w' V.heap.size 3 (trT nm gs) a b c) ∧ Below V.heap.size V w') :
    Code.wp Ybaz.prog (dropC 8 (Ybaz.f3.body.getD .skip)) (bodyPost Ybaz.prog Ybaz.f3 fun e w' => e = .returned (.bool true) ∧ Below w.heap.size w w') ⟨#[y0, y1, y2, y3, y4, y5, y6, vi n, .pointer (some ⟨Gb, 0, none⟩), .pointer (some ⟨Sb, 0, none⟩), y10, sl og 0 gs.length oc, y12, y13, y14, y15, y16, y17, y18, y19, y20, y21, y22, y23, y24, y25, y26, y27, y28, y29, y30, y31, y32, y33, y34, y35, y36, y37, y38, y39, y40, y41, y42, y43, y44, y45, y46, y47, y48, y49, y50, y51, y52, y53, y54, y55, y56, y57, y58, y59, y60, y61, y62, y63, y64, y65, y66, y67, y68, y69, y70, y71, y72, y73, y74, y75, y76, y77, y78, y79, y80, y81, y82, y83, y84, y85, y86, y87, y88, y89, y90, y91, y92, y93, y94, y95, y96, y97, y98, y99, y100, y101, y102, y103, y104, y105, y106, y107, y108, y109, y110, y111, y112, y113, y114, y115, y116, y117, y118, y119, y120, y121, y122, y123, y124, y125, y126, y127, y128, y129, y130, y131, y132, y133, y134, y135, y136, y137, y138, y139, y140, y141, y142, y143, y144, y145, y146, y147, y148, y149, y150, y151, y152, y153, y154, y155, y156, y157, y158, y159, y160, y161, y162, y163, y164, y165, y166, y167, y168, y169, y170, y171, y172, y173], []⟩ V := by
  conv => arg 2; whnf
  dsimp only
  obtain ⟨i42, hi42, hz42, hs42, hb42⟩ := info_parts (show (Ybaz.prog.info? 42).map (fun i => (i.zero, i.size, i.bytes)) = some (some (.agg #[.string ⟨#[]⟩, .bool false, .slice none 0 0]), 3, 48) by kernel_rfl)
  have TR := hid tree
  have HW := hid hw
  have HN := hid hnm
  have HC := hid hch
  have HL := hid hL
  have hn0 : ((n : Int) == 0) = false := by
    have : ¬ ((n : Int) = 0) := by omega
    simpa using this
  clear tree hw hnm hch hL
  go_upto_region 31 with (first
    | (go_at_call 4; refine TR.out.mono ?_; rintro e W1 ⟨⟨a, b, c, rfl, nh⟩, b1⟩; have B1 := hid b1; have NH := hid nh; have ONE := hid (NodeIs.one _ _ _ _ _ (NodeHi.is _ _ _ _ _ nh)); clear b1 nh TR)
    | ((with_reducible (show wpList _ _ _ (⟨_, .alloc 42, _, _, _, _⟩ :: _) _ _)); refine wpList_alloc_as rfl 42 rfl #[.string ⟨#[]⟩, .bool false, .slice none 0 0] al42 ?_; simp only [Act.put, List.setIfInBounds_toArray, List.set_cons_succ, List.set_cons_zero])
    | ((with_reducible (show wpList _ _ _ (⟨_, .store 42 _ _, _, _, _, _⟩ :: _) _ _)); refine wpList_store_mid rfl 42 _ _ rfl W1.heap.size 0 #[a, b, c] rfl rfl (there_new W1 [.string ⟨#[]⟩, .bool false, .slice none 0 0] 42) (by kernel_rfl) (by simp [ONE.out.1, ONE.out.2.1, ONE.out.2.2]) ?_; simp only [Act.put, List.setIfInBounds_toArray, List.set_cons_succ, List.set_cons_zero]))
  refine wp_as (fun U => T2 w V U W1.heap.size (W1.heap.size + 1) (trT nm gs) a b c) (T2.make HW.out B1.out NH.out) ?_
  rw [sz_setCells, World.size_alloc]
  intro U t2
  obtain ⟨b17, h17⟩ : ∃ b17, W1.heap.size = b17 := ⟨_, rfl⟩
  rw [h17] at t2 ⊢
  obtain ⟨b18, h18⟩ : ∃ b18, b17 + 1 = b18 := ⟨_, rfl⟩
  rw [h18] at t2 ⊢
  have T0 := hid t2
  clear t2 h17 h18 B1 NH
  by_cases h1 : gs.length = 1
  · obtain ⟨L, hgs⟩ : ∃ L, gs = [L] := by
      match gs, h1 with
      | [L], _ => exact ⟨L, rfl⟩
    subst hgs
    obtain ⟨g, gc, q1, q2⟩ := (HC.out.below T0.out.bv).at' 0 L rfl
    have CA := hid (chain_any Gb sv n n g 0 gc L nm U hfew (HL.out L (by simp)).1 (HL.out L (by simp)).2.1 (HL.out L (by simp)).2.2 (HN.out.below T0.out.bv) (fun j x hx => by rw [Nat.zero_add]; exact q2 j x hx))
    clear q2
    go_upto_region 42 with (first
      | (go_at_call 5; refine CA.out.mono ?_; rintro e W3 ⟨⟨x, y, z, rfl, nd⟩, b3⟩; have ND := hid nd; have B3 := hid b3; have ON3 := hid (NodeIs.one _ _ _ _ _ (NodeHi.is _ _ _ _ _ nd)); have T18 := hid (there_kept_below b3 T0.out.t18); clear nd b3 CA)
      | ((with_reducible (show wpList _ _ _ (⟨_, .store 42 _ _, _, _, _, _⟩ :: _) _ _)); refine wpList_store_mid rfl 42 _ _ rfl b18 0 #[x, y, z] rfl rfl T18.out (by kernel_rfl) (by simp [ON3.out.1, ON3.out.2.1, ON3.out.2.2]) ?_; simp only [Act.put, List.setIfInBounds_toArray, List.set_cons_succ, List.set_cons_zero]))
    have kk : Kept (fun b => b = b18) W3 (W3.setCells b18 0 [x, y, z]) := (Kept.refl (fun b => b = b18) W3).setCells (.inl rfl) _ _
    have r17 : Hid ((W3.setCells b18 0 [x, y, z]).rangeAt b17 0 [a, b, c]) := hid (kk.range (fun e => by have := T0.out.lt; omega) (range_kept_below B3.out T0.out.r17))
    have r18 : Hid ((W3.setCells b18 0 [x, y, z]).rangeAt b18 0 [x, y, z]) := hid (World.rangeAt_setCells_same _ _ _ _ T18.out)
    have BE : Hid (Below w.heap.size w (W3.setCells b18 0 [x, y, z])) := hid ((T0.out.bel.trans (B3.out.mono T0.out.bel.size)).trans (kk.toBelow (fun i hi e => by have := T0.out.lt; have := T0.out.lo; omega) (Nat.le_trans T0.out.bel.size B3.out.size)))
    have eT : trT nm [L] = chT nm L := by simp [trT]
    have NG : Hid (NodeIs (W3.setCells b18 0 [x, y, z]) 3 (chT nm L) a b c) := hid (by
      have := T0.out.after ((B3.out.mono (by have := T0.out.lt; have := T0.out.sz; omega)).trans (kk.toBelow (fun i hi e => by have := T0.out.lt; omega) (by have := T0.out.lt; have := T0.out.sz; have := B3.out.size; omega)))
      rw [eT] at this
      exact this)
    have NW : Hid (NodeIs (W3.setCells b18 0 [x, y, z]) 3 (chT nm L) x y z) := hid (NodeHi.is _ _ _ _ _ (NodeHi.deep 2 _ _ _ _ (NodeHi.kept kk (fun b hb => by have := T0.out.sz; omega) _ _ _ _ _ ND.out)))
    go_wp2_with (first
      | ((with_reducible (show wpList _ _ _ (⟨_, .load 42 (.tmp 17), _, _, _, _⟩ :: _) _ _)); refine wpList_load_mid rfl 42 _ rfl b17 0 rfl _ _ r17.out Ybaz.underlying42 rfl (by kernel_rfl) ?_; simp only [Act.put, List.setIfInBounds_toArray, List.set_cons_succ, List.set_cons_zero])
      | ((with_reducible (show wpList _ _ _ (⟨_, .load 42 (.tmp 18), _, _, _, _⟩ :: _) _ _)); refine wpList_load_mid rfl 42 _ rfl b18 0 rfl _ _ r18.out Ybaz.underlying42 rfl (by kernel_rfl) ?_; simp only [Act.put, List.setIfInBounds_toArray, List.set_cons_succ, List.set_cons_zero])
      | (go_at_call 6; refine (eq_any 3 _ _ _ _ _ _ _ _ NG.out NW.out).mono ?_; rintro e W9 ⟨rfl, b9⟩))
    go_ret
    exact ⟨rfl, BE.out.trans (b9.mono (by have := BE.out.size; omega))⟩
  · have hk1 : ((gs.length : Int) == 1) = false := by
      have : ¬ ((gs.length : Int) = 1) := by omega
      simpa using this
    go_upto_region 36 with (at_make; refine wpList_make_as rfl (.tmp 152) (.tmp 152) 40 rfl 42 i42 (.agg #[.string ⟨#[]⟩, .bool false, .slice none 0 0]) gs.length Ybaz.underlying40 hi42 hz42 rfl rfl (by rw [hb42]; omega) (by omega) ?_)
    refine wp_as (fun X => PW w U X U.heap.size 0 nm gs) ?_ ?_
    · exact ⟨(Below.refl _ U).alloc (Nat.le_refl _) _, made_there U #[.string ⟨#[]⟩, .bool false, .slice none 0 0] (gs.length * 3) 42, fun k L hk => by omega, Nat.le_refl _, by simp⟩
    intro X0 pw0
    obtain ⟨P, hP⟩ : ∃ P, U.heap.size = P := ⟨_, rfl⟩
    rw [hP] at pw0 ⊢
    have HP := hid hP
    have PW0 := hid pw0
    clear pw0 hP
    go_wp2
    go_loopw [156] (fun v X => ∃ q : Nat, q ≤ gs.length ∧ v = vi q ∧ PW w U X P q nm gs) (fun v _ => gs.length - (intOf v).toNat)
    case atStart => exact ⟨0, Nat.zero_le _, rfl, PW0.out⟩
    case round =>
      obtain ⟨q, hq, rfl, pw⟩ := hrel
      clear PW0
      by_cases hlt : q < gs.length
      · have hli : (q : Int) < (gs.length : Int) := by omega
        obtain ⟨L, hgL⟩ : ∃ L, gs[q]? = some L := ⟨_, List.getElem?_eq_getElem hlt⟩
        have hmem := List.mem_of_getElem? hgL
        obtain ⟨g, gc, q1, q2⟩ := ((HC.out.below T0.out.bv).below pw.bel).at' q L hgL
        have CA := hid (chain_any Gb sv n n g 0 gc L nm wr hfew (HL.out L hmem).1 (HL.out L hmem).2.1 (HL.out L hmem).2.2 ((HN.out.below T0.out.bv).below pw.bel) (fun j x hx => by rw [Nat.zero_add]; exact q2 j x hx))
        have PWQ := hid pw
        clear q2 pw
        go_wp2_with (first
          | (go_at_call 5; refine CA.out.mono ?_; rintro e W3 ⟨⟨x, y, z, rfl, nd⟩, b3⟩; have ND := hid nd; have B3 := hid b3; have ON3 := hid (NodeIs.one _ _ _ _ _ (NodeHi.is _ _ _ _ _ nd)); have TP := hid (there_kept_below b3 PWQ.out.room); clear nd b3 CA)
          | ((with_reducible (show wpList _ _ _ (⟨_, .store 42 _ _, _, _, _, _⟩ :: _) _ _)); refine wpList_store_mid rfl 42 _ _ rfl P (q * 3) #[x, y, z] (by rw [← Nat.zero_add (q * 3)]; rfl) rfl (there_part TP.out (by omega) (by simp; omega)) (by kernel_rfl) (by simp [ON3.out.1, ON3.out.2.1, ON3.out.2.2]) ?_; simp only [Act.put, List.setIfInBounds_toArray, List.set_cons_succ, List.set_cons_zero]))
        go_roundw
        case rel => exact ⟨q + 1, by omega, by go_num, PWQ.out.step hlt hgL B3.out ND.out⟩
        case measure => simp [intOf]; omega
      · obtain rfl : q = gs.length := by omega
        have PWQ := hid pw
        have T18 := hid (there_kept_below pw.bel T0.out.t18)
        clear pw
        go_upto_region 42 with (first
          | ((with_reducible (show wpList _ _ _ (⟨_, .store 42 _ _, _, _, _, _⟩ :: _) _ _)); refine wpList_store_mid rfl 42 _ _ rfl b18 0 #[.string ⟨#[]⟩, .bool true, sl P 0 gs.length gs.length] rfl rfl T18.out (by kernel_rfl) (by simp [Value.oneCell']) ?_; simp only [Act.put, List.setIfInBounds_toArray, List.set_cons_succ, List.set_cons_zero]))
        have kk : Kept (fun b => b = b18) wr (wr.setCells b18 0 [.string ⟨#[]⟩, .bool true, sl P 0 gs.length gs.length]) := (Kept.refl (fun b => b = b18) wr).setCells (.inl rfl) _ _
        have r17 : Hid ((wr.setCells b18 0 [.string ⟨#[]⟩, .bool true, sl P 0 gs.length gs.length]).rangeAt b17 0 [a, b, c]) := hid (kk.range (fun e => by have := T0.out.lt; omega) (range_kept_below PWQ.out.bel T0.out.r17))
        have r18 : Hid ((wr.setCells b18 0 [.string ⟨#[]⟩, .bool true, sl P 0 gs.length gs.length]).rangeAt b18 0 [.string ⟨#[]⟩, .bool true, sl P 0 gs.length gs.length]) := hid (World.rangeAt_setCells_same _ _ _ _ T18.out)
        have BE : Hid (Below w.heap.size w (wr.setCells b18 0 [.string ⟨#[]⟩, .bool true, sl P 0 gs.length gs.length])) := hid ((T0.out.bel.trans (PWQ.out.bel.mono T0.out.bel.size)).trans (kk.toBelow (fun i hi e => by have := T0.out.lt; have := T0.out.lo; omega) (Nat.le_trans T0.out.bel.size PWQ.out.bel.size)))
        have NG : Hid (NodeIs (wr.setCells b18 0 [.string ⟨#[]⟩, .bool true, sl P 0 gs.length gs.length]) 3 (trT nm gs) a b c) := hid (T0.out.after ((PWQ.out.bel.mono (by have := T0.out.lt; have := T0.out.sz; omega)).trans (kk.toBelow (fun i hi e => by have := T0.out.lt; omega) (by have := T0.out.lt; have := T0.out.sz; have := PWQ.out.bel.size; omega))))
        have NW : Hid (NodeIs (wr.setCells b18 0 [.string ⟨#[]⟩, .bool true, sl P 0 gs.length gs.length]) 3 (trT nm gs) (.string ⟨#[]⟩) (.bool true) (sl P 0 gs.length gs.length)) := hid (by
          unfold trT
          rw [if_neg h1]
          refine ⟨rfl, rfl, by simpa using h300, P, 0, gs.length, by simp, fun k t hk => ?_⟩
          rw [List.getElem?_map] at hk
          obtain ⟨L, hkL, rfl⟩ := Option.map_eq_some_iff.1 hk
          obtain ⟨x, y, z, r1, n1⟩ := PWQ.out.at' k L (List.getElem?_eq_some_iff.1 hkL).1 hkL
          have hne : P ≠ b18 := fun e => by have := T0.out.sz; have := PWQ.out.lo; omega
          exact ⟨x, y, z, by rw [Nat.zero_add]; exact kk.range hne r1, NodeHi.is _ _ _ _ _ (NodeHi.kept kk (fun b hb => by have := T0.out.sz; have := PWQ.out.lo; omega) _ _ _ _ _ n1)⟩)
        go_wp2_with (first
          | ((with_reducible (show wpList _ _ _ (⟨_, .load 42 (.tmp 17), _, _, _, _⟩ :: _) _ _)); refine wpList_load_mid rfl 42 _ rfl b17 0 rfl _ _ r17.out Ybaz.underlying42 rfl (by kernel_rfl) ?_; simp only [Act.put, List.setIfInBounds_toArray, List.set_cons_succ, List.set_cons_zero])
          | ((with_reducible (show wpList _ _ _ (⟨_, .load 42 (.tmp 18), _, _, _, _⟩ :: _) _ _)); refine wpList_load_mid rfl 42 _ rfl b18 0 rfl _ _ r18.out Ybaz.underlying42 rfl (by kernel_rfl) ?_; simp only [Act.put, List.setIfInBounds_toArray, List.set_cons_succ, List.set_cons_zero])
          | (go_at_call 6; refine (eq_any 3 _ _ _ _ _ _ _ _ NG.out NW.out).mono ?_; rintro e W9 ⟨rfl, b9⟩))
        go_ret
        exact ⟨rfl, BE.out.trans (b9.mono (by have := BE.out.size; omega))⟩
end Go.Proofs.YbulkdsicGreat
