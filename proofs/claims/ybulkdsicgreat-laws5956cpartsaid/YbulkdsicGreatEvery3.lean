import Derived.Test.YbulkdsicGreatEvery2
set_option linter.unusedVariables false
set_option linter.unusedSimpArgs false
namespace Go.Proofs.YbulkdsicGreat
open Go.RowKit Go.Shelf

set_option maxRecDepth 100000 in
set_option maxHeartbeats 4000000 in
theorem every_mid {y3 y4 y5 y6 y7 y9 y10 y11 y12 y16 y17 y18 y19 y20 y21 y22 y23 y24 y25 y26 y27 y28 y29 y30 y31 y32 y33 y34 y35 y36 y37 y38 y39 y40 y41 y42 y43 y44 y45 y46 y47 y48 y49 y50 y51 y52 y53 y54 y55 y56 y57 y58 y59 y60 y61 y62 y63 y64 y65 y66 y67 y68 y69 y70 y71 y72 y73 y74 y75 y76 y77 y78 y79 y80 y81 y82 y83 y84 y85 y86 y87 y88 y89 y90 y91 y92 y93 y94 y95 y96 y97 y98 y99 y100 y101 y102 y103 y104 y105 y106 y107 y108 y109 y110 y111 y112 y113 y114 y115 y116 y117 y118 y119 y120 y121 y122 y123 y124 y125 y126 y127 y128 y129 y130 y131 y132 y133 y134 y135 y136 y137 y138 y139 y140 y141 y142 y143 y144 y145 y146 y147 y148 y149 y150 y151 y152 y153 y154 y155 y156 y157 y158 y159 y160 y161 y162 y163 y164 y165 y166 y167 y168 y169 y170 y171 y172 y173 y174 y175 y176 y177 y178 y179 y180 y181 y182 y183 y184 y185 y186 y187 y188 y189 y190 y191 y192 y193 y194 y195 y196 y197 y198 y199 y200 y201 y202 y203 y204 y205 y206 y207 y208 y209 y210 y211 y212 y213 y214 y215 y216 y217 y218 : Value} (L M : Int) (hL : 1000 ≤ L) (hM : 1000 ≤ M) (Gb Sb n pb sv sb en : Nat) (nm : Nat → ByteArray) (tm : Nat → Value) (pr : Nat → Option Nat) (base s Bc Bg Mb : Nat) (cv : Value) (near : Nat → Int) (kv0 : List (Nat × Value)) (w V : World) (hn : 0 < n) (hR : RG w Gb Sb n pb sv sb en nm tm pr)
    (nl : NL w base s Bc Bg Mb pb) (h : G3 w V base s Bc Bg pb n Mb cv near kv0 kv0 0 0) (hnil : ∀ k, (kv0.lookup k).isSome = true → kv0.lookup k = some (.slice none 0 0)) (hall : ∀ i j, i < n → pr i = some j → (kv0.lookup j).isSome = true) :
    Code.wp Ybaz.prog (dropC 5 (Ybaz.f12.body.getD .skip)) (bodyPost Ybaz.prog Ybaz.f12 fun e w' => (∃ nb f T0, e = .returned (.tuple #[sl nb 0 n n, .bool true]) ∧ w.heap.size ≤ nb ∧ nb < T0 ∧ Tab w' nb 0 n f ∧ NdR w' T0 n f pr n) ∧ Below w.heap.size w w') ⟨#[.pointer (some ⟨Gb, 0, none⟩), .pointer (some ⟨Sb, 0, none⟩), .int .i64 L, y3, y4, y5, y6, y7, .pointer (some ⟨Bg, 0, none⟩), y9, y10, y11, y12, .func (.func 45) #[] #[.pointer (some ⟨s + 3, 0, none⟩), .pointer (some ⟨Bc, 0, none⟩), .pointer (some ⟨s, 0, none⟩), .pointer (some ⟨s + 1, 0, none⟩)], .int .i64 M, .int .i64 0, y16, y17, y18, y19, y20, y21, y22, y23, y24, y25, y26, y27, y28, y29, y30, y31, y32, y33, y34, y35, y36, y37, y38, y39, y40, y41, y42, y43, y44, y45, y46, y47, y48, y49, y50, y51, y52, y53, y54, y55, y56, y57, y58, y59, y60, y61, y62, y63, y64, y65, y66, y67, y68, y69, y70, y71, y72, y73, y74, y75, y76, y77, y78, y79, y80, y81, y82, y83, y84, y85, y86, y87, y88, y89, y90, y91, y92, y93, y94, y95, y96, y97, y98, y99, y100, y101, y102, y103, y104, y105, y106, y107, y108, y109, y110, y111, y112, y113, y114, y115, y116, y117, y118, y119, y120, y121, y122, y123, y124, y125, y126, y127, y128, y129, y130, y131, y132, y133, y134, y135, y136, y137, y138, y139, y140, y141, y142, y143, y144, y145, y146, y147, y148, y149, y150, y151, y152, y153, y154, y155, y156, y157, y158, y159, y160, y161, y162, y163, y164, y165, y166, y167, y168, y169, y170, y171, y172, y173, y174, y175, y176, y177, y178, y179, y180, y181, y182, y183, y184, y185, y186, y187, y188, y189, y190, y191, y192, y193, y194, y195, y196, y197, y198, y199, y200, y201, y202, y203, y204, y205, y206, y207, y208, y209, y210, y211, y212, y213, y214, y215, y216, y217, y218], []⟩ V := by
  conv => arg 2; whnf
  dsimp only
  obtain ⟨i3, hi3, hz3, hs3, hb3⟩ := info_parts Ybaz.info3
  have hfew := hR.few
  have a3 := (hR.below h.bel).s3
  have HL0 := hid hL
  have HM0 := hid hM
  have HR := hid hR
  have NL0 := hid nl
  have HN := hid hnil
  have HA := hid hall
  have H0 := hid h
  clear hL hM hR nl hnil hall h
  go_upto_region 14 with fail
  rename_i K1 hK1 K2 hK2
  have hK1' : ∀ a w', Code.wp Ybaz.prog (dropC 6 (Ybaz.f12.body.getD .skip)) (bodyPost Ybaz.prog Ybaz.f12 fun e w' => (∃ nb f T0, e = .returned (.tuple #[sl nb 0 n n, .bool true]) ∧ w.heap.size ≤ nb ∧ nb < T0 ∧ Tab w' nb 0 n f ∧ NdR w' T0 n f pr n) ∧ Below w.heap.size w w') a w' → K1 a w' := hK1
  clear hK1
  go_wp2
  go_loopw [80, 15] (fun x z U => ∃ q c : Nat, q ≤ n ∧ c ≤ q ∧ x = vi q ∧ z = vi c ∧ ∃ cv near kv, G3 w U base s Bc Bg pb n Mb cv near kv0 kv q q) (fun x _ _ => n - (intOf x).toNat)
  case atStart => exact ⟨0, 0, Nat.zero_le _, Nat.le_refl _, rfl, rfl, _, _, _, H0.out⟩
  case round =>
    obtain ⟨q, c, hq, hcq, rfl, rfl, cv1, near1, kv1, g0⟩ := hrel
    clear H0 a3
    by_cases hlt : q < n
    · have hli : (q : Int) < (n : Int) := by omega
      have rg := HR.out.below g0.bel
      have b1 := rg.enC q hlt
      have b2 := rg.g2
      obtain ⟨ob, oc, b3, b4⟩ := rg.out q hlt
      have G0 := hid g0
      clear g0 rg
      have hNA : Calls Ybaz.prog 45 #[vi q, .pointer (some ⟨s + 3, 0, none⟩), .pointer (some ⟨Bc, 0, none⟩), .pointer (some ⟨s, 0, none⟩), .pointer (some ⟨s + 1, 0, none⟩)] wr fun e w' =>
          e = .returned (.int .i64 (if (kv0.lookup q).isSome then (q : Int) else -1)) ∧ ∃ cv' near', G3 w w' base s Bc Bg pb n Mb cv' near' kv0 kv1 (q + 1) q := by
        have nl := NL0.out
        have a1 := nl.a1; have a2 := nl.a2; have a3 := nl.a3; have a4 := nl.a4; have a5 := nl.a5; have a6 := nl.a6; have a7 := nl.a7; have a8 := nl.a8
        refine (near_at base (s + 3) Bc s (s + 1) Bg (s + 2) pb n n Mb q cv1 near1 kv1 wr G0.out.nm hfew hlt (G0.out.nr q (Nat.le_refl _) hlt) G0.out.sz (by omega) (by omega) (by omega) (by omega) (by omega) (by omega) (by omega) (by omega) (by omega) (by omega) (by omega) (by omega) (by omega) (by omega) (by omega)).mono ?_
        rintro e w' ⟨rfl, kp, ⟨cv', v2, f2, own, mv⟩, tab⟩
        rw [G0.out.sm q]
        exact ⟨rfl, cv', _, G0.out.asked nl kp v2 f2 own mv _ tab⟩
      have NA := hid hNA
      clear hNA
      cases hmk : (kv0.lookup q).isSome with
      | false =>
        rw [hmk] at NA
        have HMK := hid hmk
        clear hmk
        go_wp2
        refine wp_loop_rounds 2 ?_
        rw [rounds_succ]
        go_wp2_with (go_at_call 45; refine NA.out.mono ?_; rintro e W1 ⟨rfl, cv2, near2, g1⟩; have G1 := hid g1; clear g1 NA)
        refine wp_loop_rounds 1 ?_
        rw [rounds_succ]
        go_wp2
        rw [rounds_succ]
        go_wp2
        go_roundw
        case rel => exact ⟨q + 1, c, by omega, by omega, by go_num, rfl, cv2, near2, kv1, G1.out.skip HMK.out⟩
        case measure => simp [intOf]; omega
      | true =>
        rw [hmk] at NA
        have HMK := hid hmk
        clear hmk
        go_wp2
        refine wp_loop_rounds 2 ?_
        rw [rounds_succ]
        go_wp2_with (go_at_call 45; refine NA.out.mono ?_; rintro e W1 ⟨rfl, cv2, near2, g1⟩; have G1 := hid g1; clear g1 NA)
        have c1 := G1.out.nm.v5
        have l0 : Sem.run Ybaz.prog (Instr.lookup 80 (.map (some Mb)) (vi q) false) W1 = .ok (.slice none 0 0) W1 := by
          have := run_lookup_int Ybaz.underlying80 Ybaz.underlying3 G1.out.nm.map q (.slice none 0 0) zv26 false
          rw [G1.out.old q (Nat.le_refl _), HN.out q HMK.out] at this
          simpa using this
        have hne : ¬ ((q : Int) = -1) := by omega
        refine wp_loop_rounds 2 ?_
        rw [rounds_succ]
        go_upto_region 24 with (refine wpList_lookup_as rfl 80 (.tmp 112) (.tmp 113) false rfl (.map (some Mb)) (vi q) (.slice none 0 0) rfl rfl l0 ?_)
        go_upto_region 25 with fail
        have y1 : ∀ x : Wld (fun U' => Kept (fun _ => False) W1 U'), x.w.cell? ⟨Bg, 0, none⟩ = some (.map (some Mb)) := fun x => x.h.cell (fun h => h) c1
        have s0 : Kept (fun _ => False) W1 W1.drew := (Kept.refl _ W1).drew
        haveI nS : Nonempty (Wld (fun U' => Kept (fun _ => False) W1 U')) := ⟨⟨W1.drew, s0⟩⟩
        refine wp_region_calmplan 6 [(true, 0), (true, 1), (true, 2), (true, 3), (false, 4), (false, 5), (false, 6)] (fun w' => ∃ x : Wld (fun U' => Kept (fun _ => False) W1 U'), w' = x.w) mixed (by kernel_rfl) (inS s0) ?_
        repeat (refine wpPlan_q (by rfl) ?_; dsimp only [List.getElem_toArray, List.getElem_cons_zero, List.getElem_cons_succ]; go_big_quiet_step (fail); refine wpQuiet_nil ?_)
        refine wpPlan_e (by rfl) ?_
        dsimp only [List.getElem_toArray, List.getElem_cons_zero, List.getElem_cons_succ]
        go_wp2
        refine onward_normal (fun _ => inS (((Kept.refl (fun _ => False) W1).drew).alloc _)) ?_
        refine wpPlan_e (by rfl) ?_
        dsimp only [List.getElem_toArray, List.getElem_cons_zero, List.getElem_cons_succ]
        refine wpList_append_own_at _ rfl (.tmp 130) (.tmp 132) 26 rfl W1.heap.size 3 i3 (.int .i64 0) 1 8 Ybaz.underlying26 hi3 hz3 hs3 hb3 rfl (by decide) (.slice none 0 0) 0 [] rfl ⟨rfl, .inl ⟨rfl, rfl⟩⟩ ⟨W1.heap.size, 0, none⟩ 1 1 [vi q] rfl rfl (news1 W1.drew (vi q) 3) (by simp [Value.oneCell']) (by unfold maxLen; omega) (by omega) (by simp) ?_
        intro v' W2 own1 grow1 _ mv1
        obtain ⟨lg, lc, rfl⟩ := own_slice own1
        refine wpList_done ?_
        simp only [Act.put, List.setIfInBounds_toArray, List.set_cons_succ, List.set_cons_zero]
        have kA : Kept (fun _ => False) W1 W2 := (((Kept.refl (fun _ => False) W1).drew).alloc (.cells #[vi q] 3)).grown grow1 (fun k hk => by cases hk)
        have cA : W2.cell? ⟨lg, 0, none⟩ = some (vi q) := by
          obtain ⟨g2, c2', e, hc, _⟩ := own_cell own1 (j := 0) (u := vi q) rfl
          cases e
          exact hc
        have gA : W1.heap.size ≤ lg := (own_block own1 (g := lg) rfl).1
        clear own1 grow1 mv1
        refine onward_normal (fun _ => inS kA) ?_
        refine wpPlan_e (by rfl) ?_
        dsimp only [List.getElem_toArray, List.getElem_cons_zero, List.getElem_cons_succ]
        obtain ⟨o, hup, hmp⟩ := run_update_int Ybaz.underlying80 Ybaz.underlying3 (G1.out.nm.map.kept kA (fun h => h)) q (sl lg 0 1 lc)
        refine wpList_update_as rfl 80 (.tmp 128) (.tmp 129) (.tmp 133) rfl (.map (some Mb)) (vi q) (sl lg 0 1 lc) rfl rfl rfl hup ?_
        refine wpList_done ?_
        simp only [Act.put, List.setIfInBounds_toArray, List.set_cons_succ, List.set_cons_zero]
        refine onward_normal (fun h => by cases h) ?_
        refine wpPlan_nil ?_
        refine calmQ_normal ?_
        have kB : Kept (fun b => b = Mb) W1 (W2.putObj Mb o) := (kA.weak (E' := fun b => b = Mb) (fun _ _ h => h.elim)).putObj (b := Mb) (.inl rfl) o
        have mlt : lg ≠ Mb := fun e => by have := G1.out.nm.map; have := G1.out.sz; have := NL0.out.a4; have := NL0.out.a6; have := NL0.out.a7; omega
        refine q_as (fun X => G3 w X base s Bc Bg pb n Mb cv2 near2 kv0 (insKV kv1 q (sl lg 0 1 lc)) (q + 1) (q + 1)) (G1.out.given NL0.out kB HMK.out hmp gA (((Kept.refl (fun b => b = Mb) W2).putObj (b := Mb) (.inl rfl) o).cell (p := ⟨lg, 0, none⟩) mlt cA)) ?_
        intro X gx
        clear kA cA gA hup hmp kB mlt nS s0 y1 c1 l0
        have d1 := (HR.out.below gx.bel).g1
        have d2 := (HR.out.below gx.bel).par q hlt
        have NN := hid (near_none base (s + 3) Bc s (s + 1) Bg (s + 2) pb n n Mb cv2 near2 (insKV kv1 q (sl lg 0 1 lc)) X gx.nm)
        have GX := hid gx
        have hgt : ¬ (M < (c : Int) + 1) := by have := HM0.out; omega
        clear gx
        go_wp2_with (go_at_call 45; refine NN.out.mono ?_; rintro e X2 ⟨rfl, kp, v2, f2⟩; have GY := hid (GX.out.noned NL0.out kp v2 f2); clear kp v2 f2 NN)
        rw [rounds_succ]
        go_wp2
        rw [rounds_succ]
        go_wp2
        go_roundw
        case rel => exact ⟨q + 1, c + 1, by omega, by omega, by go_num, by go_num, cv2, near2, _, GY.out⟩
        case measure => simp [intOf]; omega
    · obtain rfl : q = n := by omega
      have G0 := hid g0
      clear g0
      go_wp2
      refine every_tail L HL0.out Gb Sb q pb sv sb en nm tm pr Bg Mb kv1 w wr G0.out.bel hn (HR.out.below G0.out.bel) ⟨G0.out.nm.v5, G0.out.nm.map, fun i j hi hp => ?_⟩
      obtain ⟨lg, lc, r1, r2, _, _⟩ := G0.out.row j (by have := HR.out.low i j hi hp; omega) (HA.out i j hi hp)
      exact ⟨lg, lc, r1, r2⟩
end Go.Proofs.YbulkdsicGreat
