import Derived.Test.YbulkdsmyLawB3
import Derived.Deep.CutBlock
set_option linter.unusedSimpArgs false
set_option linter.unusedVariables false
namespace Go.Proofs.Ybulkdsmy
open Go.RowKit

set_option maxHeartbeats 8000000 in
set_option maxRecDepth 100000 in
theorem law_mid {y13 y14 y15 y16 y17 y20 y23 y26 y28 y36 y38 y39 y40 y41 y42 y44 y45 y46 y47 y48 y49 y50 y51 y52 y53 y54 y55 y56 y57 y58 y59 y60 y61 y62 y63 y64 y65 y66 y67 y68 y69 y70 y71 y72 y73 y74 y75 y76 y77 y78 y79 y80 y81 y82 y83 y84 y85 y86 y87 y88 y89 y90 y91 y92 y93 y94 y95 y96 y97 y98 y99 y100 y101 y102 y103 y104 y105 y106 y107 y108 y109 y110 y111 y112 y113 y114 y115 y116 y117 y118 y119 y120 y121 y122 y123 y124 y125 y126 y127 y128 y129 y130 y131 y132 y133 y134 y135 y136 y137 y138 y139 y140 y141 y142 y143 y144 y145 y146 y147 y148 y149 y150 y151 y152 y153 y154 y155 y156 y157 y158 y159 y160 y161 y162 y163 y164 y165 y166 y167 y168 y169 y170 y171 y172 y173 y174 y175 y176 y177 y178 y179 y180 y181 y182 y183 y184 y185 y186 y187 y188 y189 y190 y191 y192 y193 y194 y195 y196 y197 y198 y199 y200 y201 y202 y203 y204 y205 y206 y207 y208 y209 y210 y211 y212 y213 y214 y215 y216 y217 y218 y219 y220 y221 y222 y223 y224 y225 y226 y227 y228 y229 y230 y231 y232 y233 y234 y235 y236 y237 y238 y239 y240 y241 y242 y243 y244 y245 y246 y247 y248 y249 y250 y251 y252 y253 y254 y255 y256 y257 y258 y259 y260 y261 y262 y263 y264 y265 y266 y267 y268 y269 y270 y271 y272 y273 y274 y275 y276 y277 y278 y279 y280 y281 y282 y283 y284 y285 y286 y287 y288 y289 y290 y291 y292 y293 y294 y295 y296 y297 y298 y299 y300 y301 y302 y303 y304 y305 y306 y307 y308 y309 y310 y311 y312 y313 y314 y315 y316 y317 y318 y319 y320 y321 y322 y323 y324 y325 y326 y327 y328 y329 y330 y331 y332 y333 y334 y335 y336 y337 y338 y339 y340 y341 y342 y343 y344 y345 y346 y347 y348 y349 y350 y351 y352 y353 y354 y355 y356 y357 y358 y359 y360 y361 y362 y363 y364 y365 y366 y367 y368 y369 y370 y371 y372 y373 y374 y375 y376 y377 y378 y379 y380 y381 y382 y383 y384 y385 y386 y387 y388 y389 y390 y391 y392 y393 y394 y395 y396 y397 y398 y399 y400 y401 y402 y403 y404 y405 y406 y407 y408 y409 y410 y411 y412 y413 y414 y415 y416 y417 y418 y419 y420 y421 y422 y423 y424 y425 y426 y427 y428 y429 y430 y431 y432 y433 y434 y435 y436 y437 y438 y439 y440 y441 y442 y443 y444 y445 y446 y447 y448 y449 y450 y451 y452 y453 y454 y455 y456 y457 y458 y459 y460 y461 y462 y463 y464 y465 y466 y467 y468 y469 y470 y471 y472 y473 y474 y475 y476 y477 y478 y479 y480 y481 y482 y483 y484 y485 y486 y487 y488 y489 y490 y491 y492 y493 y494 y495 y496 y497 y498 y499 y500 y501 y502 y503 y504 y505 y506 y507 y508 y509 y510 y511 y512 y513 y514 y515 : Value} (a1 a2 a3 : Option Addr) (c1 c2 c3 n1 n2 n3 : Nat) (PL OL : List Pr) (Q : List Sl) (se pr su tp ts : Pr) (pg : Bool) (md : Int) (w : World) (G R qg T TW N x : Nat) (cv : Value) (M : Int) (ta : Option Addr) (L : List Pr) (sw : Option Addr) (nl capw : Nat) (W10 : World) (HI : Hid (In w a1 a2 a3 PL OL Q se pr su tp ts)) (Hn1 : Hid (n1 = PL.length)) (Hn2 : Hid (n2 = OL.length)) (Hn3 : Hid (n3 = Q.length)) (HC1 : Hid (a1 = none → n1 = 0 ∧ c1 = 0)) (hfew : n1 + n2 + n3 ≤ 4096) (hM : 0 ≤ M ∧ M ≤ 2) (F10 : Hid (F7 w W10 PL se pr su tp ts pg n1 G cv n3 qg N (x + 3) (x + 1) M ta T TW x L (Q.filter (keep L)))) (sN : x + 4 ≤ N) (HW10 : Hid (∀ i p, L[i]? = some p → ∃ g, sw = some ⟨g, 0, none⟩ ∧ W10.rangeAt g (i * 2) (rwc p))) (okL : Hid (∀ q ∈ L, q.ok)) (hnl : nl ≤ 5000) (HNL : Hid (nl = L.length)) :
    Code.wp Yba.prog (dropC 29 (Yba.f3.body.getD .skip)) (bodyPost Yba.prog Yba.f3 fun e w' => e = .returned (.bool true) ∧ Below w.heap.size w w') ⟨#[.agg (rwc se).toArray, .agg (rwc pr).toArray, .agg (rwc su).toArray, .bool pg, .slice a1 n1 c1, .slice a2 n2 c2, .slice a3 n3 c3, .int .u8 md, .agg (rwc tp).toArray, .agg (rwc ts).toArray, .pointer (some ⟨w.heap.size, 0, none⟩), .pointer (some ⟨w.heap.size + 1, 0, none⟩), .pointer (some ⟨w.heap.size + 1 + 1, 0, none⟩), y13, y14, y15, y16, y17, .pointer (some ⟨w.heap.size + 1 + 1 + 1, 0, none⟩), .pointer (some ⟨w.heap.size + 1 + 1 + 1 + 1, 0, none⟩), y20, .func (.func 4) #[] #[], .slice (some ⟨G, 0, none⟩) n1 n1, y23, cv, .slice (some ⟨R, 0, none⟩) n2 n2, y26, .slice (some ⟨qg, 0, none⟩) n3 n3, y28, .int .i64 M, .pointer ta, .pointer (some ⟨TW, 0, none⟩), .pointer (some ⟨x + 1, 0, none⟩), .pointer (some ⟨x + 1 + 1, 0, none⟩), .pointer (some ⟨x + 1 + 1 + 1, 0, none⟩), .pointer (some ⟨N, 0, none⟩), y36, .slice sw nl capw, y38, y39, y40, y41, y42, .slice none 0 0, y44, y45, y46, y47, y48, y49, y50, y51, y52, y53, y54, y55, y56, y57, y58, y59, y60, y61, y62, y63, y64, y65, y66, y67, y68, y69, y70, y71, y72, y73, y74, y75, y76, y77, y78, y79, y80, y81, y82, y83, y84, y85, y86, y87, y88, y89, y90, y91, y92, y93, y94, y95, y96, y97, y98, y99, y100, y101, y102, y103, y104, y105, y106, y107, y108, y109, y110, y111, y112, y113, y114, y115, y116, y117, y118, y119, y120, y121, y122, y123, y124, y125, y126, y127, y128, y129, y130, y131, y132, y133, y134, y135, y136, y137, y138, y139, y140, y141, y142, y143, y144, y145, y146, y147, y148, y149, y150, y151, y152, y153, y154, y155, y156, y157, y158, y159, y160, y161, y162, y163, y164, y165, y166, y167, y168, y169, y170, y171, y172, y173, y174, y175, y176, y177, y178, y179, y180, y181, y182, y183, y184, y185, y186, y187, y188, y189, y190, y191, y192, y193, y194, y195, y196, y197, y198, y199, y200, y201, y202, y203, y204, y205, y206, y207, y208, y209, y210, y211, y212, y213, y214, y215, y216, y217, y218, y219, y220, y221, y222, y223, y224, y225, y226, y227, y228, y229, y230, y231, y232, y233, y234, y235, y236, y237, y238, y239, y240, y241, y242, y243, y244, y245, y246, y247, y248, y249, y250, y251, y252, y253, y254, y255, y256, y257, y258, y259, y260, y261, y262, y263, y264, y265, y266, y267, y268, y269, y270, y271, y272, y273, y274, y275, y276, y277, y278, y279, y280, y281, y282, y283, y284, y285, y286, y287, y288, y289, y290, y291, y292, y293, y294, y295, y296, y297, y298, y299, y300, y301, y302, y303, y304, y305, y306, y307, y308, y309, y310, y311, y312, y313, y314, y315, y316, y317, y318, y319, y320, y321, y322, y323, y324, y325, y326, y327, y328, y329, y330, y331, y332, y333, y334, y335, y336, y337, y338, y339, y340, y341, y342, y343, y344, y345, y346, y347, y348, y349, y350, y351, y352, y353, y354, y355, y356, y357, y358, y359, y360, y361, y362, y363, y364, y365, y366, y367, y368, y369, y370, y371, y372, y373, y374, y375, y376, y377, y378, y379, y380, y381, y382, y383, y384, y385, y386, y387, y388, y389, y390, y391, y392, y393, y394, y395, y396, y397, y398, y399, y400, y401, y402, y403, y404, y405, y406, y407, y408, y409, y410, y411, y412, y413, y414, y415, y416, y417, y418, y419, y420, y421, y422, y423, y424, y425, y426, y427, y428, y429, y430, y431, y432, y433, y434, y435, y436, y437, y438, y439, y440, y441, y442, y443, y444, y445, y446, y447, y448, y449, y450, y451, y452, y453, y454, y455, y456, y457, y458, y459, y460, y461, y462, y463, y464, y465, y466, y467, y468, y469, y470, y471, y472, y473, y474, y475, y476, y477, y478, y479, y480, y481, y482, y483, y484, y485, y486, y487, y488, y489, y490, y491, y492, y493, y494, y495, y496, y497, y498, y499, y500, y501, y502, y503, y504, y505, y506, y507, y508, y509, y510, y511, y512, y513, y514, y515], []⟩ W10 := by
  conv => arg 2; whnf
  obtain ⟨i23, hi23, hz23, hs23, hb23⟩ := info_parts Yba.info23
  obtain ⟨i38, hi38, hz38, hs38, hb38⟩ := info_parts Ybulkdsmy.Yba.info38
  have I23 := hid (And.intro hi23 (And.intro hz23 (And.intro hs23 hb23)))
  have I38 := hid (And.intro hi38 (And.intro hz38 (And.intro hs38 hb38)))
  clear hi23 hz23 hs23 hb23 hi38 hz38 hs38 hb38
  go_wp2_with fail
  go_loopw [43, 263] (fun v43 i w' => ∃ m : Nat, m ≤ n3 ∧ i = .int .i64 m ∧ InB W10 w' ∧ w'.ownsRow W10.heap.size 38 21 v43 ((Q.take m).filter (keep L)).length (((Q.take m).filter (keep L)).flatMap slc)) (fun _ i _ => n3 - (intOf i).toNat)
  case atStart => exact ⟨0, Nat.zero_le _, rfl, InB.refl _, own_nil _ _ _ _⟩
  obtain ⟨m, hm, rfl, i11, own43⟩ := hrel
  have O43 := hid own43
  clear own43
  by_cases hlt : m < n3
  · obtain ⟨s, hs⟩ : ∃ s, Q[m]? = some s := ⟨Q[m]'(by have := Hn3.out; omega), List.getElem?_eq_getElem (by have := Hn3.out; omega)⟩
    have hli : (m : Int) < (n3 : Int) := by omega
    obtain ⟨g, o, rfl, hr⟩ := HI.out.q m s hs
    have hgw := World.block_lt_of_cell? w _ (hr 0 _ rfl)
    have HR := hid hr
    have oks := (HI.out.okQ s (List.mem_of_getElem? hs)).1
    have oks1 := oks.1
    have oks2 := oks.2
    have HS := hid hs
    clear hr hs oks
    generalize hwr : wr = WS at i11 O43 ⊢
    clear hwr
    go_wp2_with fail
    go_loopw [45, 268] (fun kp j w' => ∃ k : Nat, k ≤ nl ∧ j = .int .i64 k ∧ kp = .bool false ∧ has (L.take k) s.b = false ∧ InB WS w') (fun _ j _ => nl - (intOf j).toNat)
    case atStart => exact ⟨0, Nat.zero_le _, rfl, rfl, rfl, InB.refl _⟩
    obtain ⟨k, hk, rfl, rfl, hno, iY⟩ := hrel
    have i12 : InB W10 wr := InB.trans i11 iY
    have bel := (F10.out.below i12).bx.bel
    by_cases hkm : k < nl
    · obtain ⟨q, hq⟩ : ∃ q, L[k]? = some q := ⟨L[k]'(by have := HNL.out; omega), List.getElem?_eq_getElem (by have := HNL.out; omega)⟩
      have hki : (k : Int) < (nl : Int) := by omega
      obtain ⟨g2, rfl, hrq⟩ := HW10.out k q hq
      have HQ := hid (range_kept_below i12 hrq)
      have okq := okL.out q (List.mem_of_getElem? hq)
      have okq1 := okq.1
      have okq2 := okq.2.1
      have HQ' := hid hq
      have HG := hid (range_low bel hgw HR.out)
      clear hrq hq okq
      go_upto_region 72 with fail
      by_cases hqb : q.b = s.b
      · have hqq : (q.b == s.b) = true := by simp [hqb]
        let S : World → Prop := fun w' => InB wr w'
        have s0 : S wr.drew := drew_below wr
        haveI : Nonempty (Wld S) := ⟨⟨_, s0⟩⟩

        have x1 : ∀ x : Wld S, x.w.cell? ⟨g2, k * 2 + 1, none⟩ = some (.int .u8 q.b) := fun x => range_cell (range_kept_below x.h HQ.out) (j := 1) rfl
        have x2 : ∀ x : Wld S, x.w.cell? ⟨g, o + m * 2, none⟩ = some (.int .u8 s.b) := fun x => range_cell (range_kept_below x.h HG.out) (j := 0) rfl
        refine wp_region_plan 11 [(true, 0), (true, 1), (true, 2), (true, 3), (true, 4), (true, 5), (true, 6), (true, 7), (true, 8), (true, 9), (true, 10)] (fun w' => ∃ x : Wld S, w' = x.w) (by kernel_rfl) (by kernel_rfl) (fun _ _ d _ _ h => by cases d <;> exact h) (inS s0) ?_
        repeat (refine wpPlan_q (by rfl) ?_; dsimp only [List.getElem_toArray, List.getElem_cons_zero, List.getElem_cons_succ]; (first
          | go_big_quiet_step (fail)); refine wpQuiet_nil ?_)
        refine wpPlan_nil ?_
        go_upto_region 76 with fail
        have hkeep : keep L s = true := by
          have h1 : has (L.take (k + 1)) s.b = true := by rw [has_take_succ HQ'.out, hqb]; simp
          have h2 := has_take_le (show k + 1 ≤ nl by omega) h1
          rwa [has_take_all HNL.out] at h2
        have hfl : ((Q.take m).filter (keep L)).length ≤ 4096 := by have h1 := List.length_filter_le (keep L) (Q.take m); have h2 := List.length_take_le m Q; have h3 := Hn3.out; omega
        clear x1 x2 s0 this
        clear S
        generalize hwd : wr.drew = WD
        have iD : InB WS WD := by rw [← hwd]; exact Below.trans iY ((drew_below wr).mono iY.size)
        have belD : Below w.heap.size w WD := by rw [← hwd]; exact Below.trans bel ((drew_below wr).mono bel.size)
        clear hwd
        have OD := hid (own_low O43.out iD (fun g hg => ownBlock_lt O43.out hg))
        have hsD : W10.heap.size ≤ WD.heap.size := Nat.le_trans i11.size iD.size
        let S : World → Prop := fun w' => Below w.heap.size w w'
        have s0 : S WD.drew := Below.trans belD ((drew_below WD).mono belD.size)
        haveI : Nonempty (Wld S) := ⟨⟨_, s0⟩⟩

        have x1 : ∀ x : Wld S, x.w.cell? ⟨g, o + m * 2, none⟩ = some (.int .u8 s.b) := fun x => range_cell (range_low x.h hgw HR.out) (j := 0) rfl
        have x2 : ∀ x : Wld S, x.w.cell? ⟨g, o + m * 2 + 1, none⟩ = some (.int .i64 s.n) := fun x => range_cell (range_low x.h hgw HR.out) (j := 1) rfl
        refine wp_region_plan 16 [(true, 0), (true, 1), (true, 2), (true, 3), (true, 4), (true, 5), (true, 7), (true, 8), (true, 9), (true, 10), (true, 11), (false, 6), (true, 12), (false, 13), (false, 14), (true, 15)] (fun w' => ∃ x : Wld S, w' = x.w) (by kernel_rfl) (by kernel_rfl) (fun _ _ d _ _ h => by cases d <;> exact h) (inS s0) ?_
        repeat (refine wpPlan_q (by rfl) ?_; dsimp only [List.getElem_toArray, List.getElem_cons_zero, List.getElem_cons_succ]; (first
          | ((with_reducible (show wpQuiet _ _ _ _ (⟨_, .build 38 _, _, _, _, _⟩ :: _) _)); refine wpQuiet_build 38 _ rfl (.agg (slc s).toArray) rfl (fun w => by kernel_rfl) ?_; simp only [Act.put, List.setIfInBounds_toArray, List.set_cons_succ, List.set_cons_zero])
          | go_big_quiet_step (fail)); refine wpQuiet_nil ?_)
        refine wpPlan_e (by rfl) ?_
        dsimp only [List.getElem_toArray, List.getElem_cons_zero, List.getElem_cons_succ]
        go_wp2_with (go_at_call 6; refine (id_any s.b WD.drew).mono ?_; rintro e v6 ⟨rfl, hb6⟩)
        have i6 : InB WD v6 := below_trans (drew_below WD) hb6
        have bel6 : Below w.heap.size w v6 := Below.trans belD (i6.mono belD.size)
        refine onward_normal (fun _ => inS (show S v6 from bel6)) ?_
        repeat (refine wpPlan_q (by rfl) ?_; dsimp only [List.getElem_toArray, List.getElem_cons_zero, List.getElem_cons_succ]; (first
          | ((with_reducible (show wpQuiet _ _ _ _ (⟨_, .build 38 _, _, _, _, _⟩ :: _) _)); refine wpQuiet_build 38 _ rfl (.agg (slc s).toArray) rfl (fun w => by kernel_rfl) ?_; simp only [Act.put, List.setIfInBounds_toArray, List.set_cons_succ, List.set_cons_zero])
          | go_big_quiet_step (fail)); refine wpQuiet_nil ?_)
        refine wpPlan_e (by rfl) ?_
        dsimp only [List.getElem_toArray, List.getElem_cons_zero, List.getElem_cons_succ]
        refine wpList_buildSliceAs rfl 33 1 _ rfl (.slice (some ⟨v6.heap.size, 0, none⟩) 1 1) (v6.alloc (.cells (slc s).toArray 38)) (by kernel_rfl) ?_
        refine wpList_done ?_
        simp only [Act.put, List.setIfInBounds_toArray, List.set_cons_succ, List.set_cons_zero]
        have bel7 : Below w.heap.size w (v6.alloc (.cells (slc s).toArray 38)) := bel6.alloc bel6.size _
        refine onward_normal (fun _ => inS (show S _ from bel7)) ?_
        refine wpPlan_e (by rfl) ?_
        dsimp only [List.getElem_toArray, List.getElem_cons_zero, List.getElem_cons_succ]
        have O6 := own_low OD.out i6 (fun g hg => ownBlock_lt OD.out hg)
        have O7 := own_low O6 ((Below.refl v6.heap.size v6).alloc (Nat.le_refl _) (.cells (slc s).toArray 38)) (fun g hg => ownBlock_lt O6 hg)
        have hs6 : W10.heap.size ≤ v6.heap.size := Nat.le_trans hsD i6.size
        refine wpList_append_own_at _ rfl _ _ 33 rfl W10.heap.size 38 i38 (.agg (slc ⟨0, 0⟩).toArray) 21 32 Yba.underlying33 I38.out.1 I38.out.2.1 I38.out.2.2.1 I38.out.2.2.2 (by simp [Value.cells, slc_len]) (by decide) _ _ _ rfl O7 ⟨v6.heap.size, 0, none⟩ 1 1 (slc s) rfl (by rw [slc_len]) new_news (slc_one s) (by unfold maxLen; omega) (by omega) (by simp; omega) ?_
        intro v43 w43 own1 gr1 _ _
        refine wpList_done ?_
        simp only [Act.put, List.setIfInBounds_toArray, List.set_cons_succ, List.set_cons_zero]
        have b43 : Below W10.heap.size (v6.alloc (.cells (slc s).toArray 38)) w43 := grown_below gr1 (n := W10.heap.size) (fun k hk => own_ge O7 k hk) (by simp; omega)
        have hw10 : w.heap.size ≤ W10.heap.size := F10.out.bx.bel.size
        refine onward_normal (fun _ => inS (show S _ from Below.trans bel7 (b43.mono hw10))) ?_
        repeat (refine wpPlan_q (by rfl) ?_; dsimp only [List.getElem_toArray, List.getElem_cons_zero, List.getElem_cons_succ]; (first
          | ((with_reducible (show wpQuiet _ _ _ _ (⟨_, .build 38 _, _, _, _, _⟩ :: _) _)); refine wpQuiet_build 38 _ rfl (.agg (slc s).toArray) rfl (fun w => by kernel_rfl) ?_; simp only [Act.put, List.setIfInBounds_toArray, List.set_cons_succ, List.set_cons_zero])
          | go_big_quiet_step (fail)); refine wpQuiet_nil ?_)
        refine wpPlan_nil ?_
        go_wp2_with fail
        go_roundw
        case rel =>
          refine ⟨m + 1, by omega, by go_num, ?_, ?_⟩
          · exact Below.trans (Below.trans (InB.trans i11 iD) (i6.mono (InB.trans i11 iD).size)) (Below.trans ((Below.refl W10.heap.size v6).alloc hs6 _) b43)
          · rw [filt_snoc HS.out, if_pos hkeep, List.flatMap_append, List.length_append]
            simpa using own1
        case measure => simp [intOf]; omega
      · have hqq : (q.b == s.b) = false := by simp [hqb]
        let S : World → Prop := fun w' => InB wr w'
        have s0 : S wr.drew := drew_below wr
        haveI : Nonempty (Wld S) := ⟨⟨_, s0⟩⟩

        have x1 : ∀ x : Wld S, x.w.cell? ⟨g2, k * 2 + 1, none⟩ = some (.int .u8 q.b) := fun x => range_cell (range_kept_below x.h HQ.out) (j := 1) rfl
        have x2 : ∀ x : Wld S, x.w.cell? ⟨g, o + m * 2, none⟩ = some (.int .u8 s.b) := fun x => range_cell (range_kept_below x.h HG.out) (j := 0) rfl
        refine wp_region_plan 11 [(true, 0), (true, 1), (true, 2), (true, 3), (true, 4), (true, 5), (true, 6), (true, 7), (true, 8), (true, 9), (true, 10)] (fun w' => ∃ x : Wld S, w' = x.w) (by kernel_rfl) (by kernel_rfl) (fun _ _ d _ _ h => by cases d <;> exact h) (inS s0) ?_
        repeat (refine wpPlan_q (by rfl) ?_; dsimp only [List.getElem_toArray, List.getElem_cons_zero, List.getElem_cons_succ]; (first
          | go_big_quiet_step (fail)); refine wpQuiet_nil ?_)
        refine wpPlan_nil ?_
        go_wp2_with fail
        go_roundw
        case rel => exact ⟨k + 1, by omega, by go_num, rfl, by rw [has_take_succ HQ'.out, hno]; simp [hqb], Below.trans iY ((drew_below wr).mono iY.size)⟩
        case measure => simp [intOf]; omega
    · have hkm' : k = nl := by omega
      have hkeep : keep L s = false := by
        have h2 := hno
        rw [hkm', has_take_all HNL.out] at h2
        exact h2
      have OD := hid (own_low O43.out iY (fun g hg => ownBlock_lt O43.out hg))
      go_wp2_with fail
      go_roundw
      case rel => exact ⟨m + 1, by omega, by go_num, i12, by rw [filt_snoc HS.out, if_neg (by rw [hkeep]; simp)]; exact OD.out⟩
      case measure => simp [intOf]; omega
  go_upto_region 78 with fail
  have hmn : m = n3 := by omega
  obtain ⟨Qf, HQF'⟩ : ∃ Qf, Qf = Q.filter (keep L) := ⟨_, rfl⟩
  have HQF := hid HQF'
  have OQ := hid (show wr.ownsRow W10.heap.size 38 21 u43 Qf.length (Qf.flatMap slc) by
    have h := O43.out
    rw [hmn, Hn3.out, List.take_length, ← HQF'] at h
    exact h)
  have F11' := F10.out.below i11
  rw [← HQF'] at F11'
  have F11 := hid F11'
  clear O43 hlt hm hmn HW10 F10 i11 HQF' F11'
  obtain ⟨s43, cap43, ev, hq43⟩ := own_sils OQ.out
  subst ev
  have HQ43 := hid hq43
  have hqc := F11.out.quiet
  have hnq : Qf.length ≤ 4096 := by have h1 := List.length_filter_le (keep L) Q; have h2 := Hn3.out; have h3 := HQF.out; rw [h3]; omega
  have okQf : Hid (∀ s ∈ Qf, (0 ≤ s.b ∧ s.b ≤ 255) ∧ (Lit.int .i64 s.n).wf = true) := hid (fun s hs => HI.out.okQ s (by rw [HQF.out] at hs; exact (List.mem_filter.1 hs).1))
  clear OQ hq43 HQF
  generalize wr = W11 at F11 HQ43 hqc ⊢
  obtain ⟨nq, HNQ'⟩ : ∃ nq, nq = Qf.length := ⟨_, rfl⟩
  have HNQ := hid HNQ'
  rw [← HNQ'] at hqc hnq ⊢
  clear HNQ'
  go_wp2_with fail
  go_loopw [310] (fun i w' => ∃ m : Nat, m ≤ nq ∧ i = .int .i64 m ∧ InB W11 w') (fun i _ => nq - (intOf i).toNat)
  case atStart => exact ⟨0, Nat.zero_le _, rfl, InB.refl _⟩
  obtain ⟨m, hm, rfl, i13⟩ := hrel
  by_cases hlt : m < nq
  · obtain ⟨s, hs⟩ : ∃ s, Qf[m]? = some s := ⟨Qf[m]'(by have := HNQ.out; omega), List.getElem?_eq_getElem (by have := HNQ.out; omega)⟩
    have hli : (m : Int) < (nq : Int) := by omega
    have hr1 := F11.out.qs m s hs
    obtain ⟨g2, rfl, hr2⟩ := HQ43.out m s hs
    have oks := okQf.out s (List.mem_of_getElem? hs)
    have E1 := hid (neq38 s oks.1 oks.2)
    clear hs oks
    go_upto_region 83 with fail
    let S : World → Prop := fun w' => InB wr w'
    have s0 : S wr.drew := drew_below wr
    haveI : Nonempty (Wld S) := ⟨⟨_, s0⟩⟩

    have x1 : ∀ x : Wld S, x.w.cell? ⟨N, 4, none⟩ = some (.slice (some ⟨qg, 0, none⟩) nq n3) := fun x => (Kept.ofBelow (E := fun _ => False) x.h).cell (fun h => h) ((Kept.ofBelow (E := fun _ => False) i13).cell (fun h => h) hqc)
    have Y1 := hid (show ∀ x : Wld S, x.w.rangeAt qg (m * 21) (slc s) from fun x => range_kept_below x.h (range_kept_below i13 hr1))
    have Y2 := hid (show ∀ x : Wld S, x.w.rangeAt g2 (m * 21) (slc s) from fun x => range_kept_below x.h (range_kept_below i13 hr2))
    refine wp_region_plan 12 [(true, 0), (true, 1), (true, 2), (true, 3), (true, 4), (true, 5), (true, 6), (true, 7), (true, 8), (true, 9), (true, 10), (true, 11)] (fun w' => ∃ x : Wld S, w' = x.w) (by kernel_rfl) (by kernel_rfl) (fun _ _ d _ _ h => by cases d <;> exact h) (inS s0) ?_
    repeat (refine wpPlan_q (by rfl) ?_; dsimp only [List.getElem_toArray, List.getElem_cons_zero, List.getElem_cons_succ]; (first
      | ((with_reducible (show wpQuiet _ _ _ _ (⟨_, .load 38 (.tmp 318), _, _, _, _⟩ :: _) _)); refine wpQuiet_load_mid rfl 38 _ rfl qg (m * 21) rfl (slc s) _ (fun _ ⟨x, hx⟩ => hx ▸ Y1.out x) Yba.underlying38 rfl (info38 _) ?_; simp only [Act.put, List.setIfInBounds_toArray, List.set_cons_succ, List.set_cons_zero])
      | ((with_reducible (show wpQuiet _ _ _ _ (⟨_, .load 38 (.tmp 322), _, _, _, _⟩ :: _) _)); refine wpQuiet_load_mid rfl 38 _ rfl g2 (m * 21) rfl (slc s) _ (fun _ ⟨x, hx⟩ => hx ▸ Y2.out x) Yba.underlying38 rfl (info38 _) ?_; simp only [Act.put, List.setIfInBounds_toArray, List.set_cons_succ, List.set_cons_zero])
      | ((with_reducible (show wpQuiet _ _ _ _ (⟨_, .binOp .neq 38 _ _ _, _, _, _, _⟩ :: _) _)); refine wpQuiet_cmp rfl .neq _ _ 38 _ rfl (slc s).toArray (slc s).toArray rfl rfl eg38 _ E1.out ?_; simp only [Act.put, List.setIfInBounds_toArray, List.set_cons_succ, List.set_cons_zero])
      | go_big_quiet_step (fail)); refine wpQuiet_nil ?_)
    refine wpPlan_nil ?_
    go_wp2_with fail
    go_roundw
    case rel => exact ⟨m + 1, by omega, by go_num, InB.trans i13 (drew_below wr)⟩
    case measure => simp [intOf]; omega
  go_upto_region 86 with fail
  rename_i K86 hK86
  have hK86' : ∀ a w', Code.wp Yba.prog (dropC 33 (Yba.f3.body.getD .skip)) _ a w' → K86 a w' := hK86
  have F12 := hid (F11.out.below i13)
  clear hlt hm F11 HQ43 hqc i13
  generalize wr = W12 at F12 ⊢
  clear HNQ okQf
  go_cut [48] from 326 to 341 (fun b w' => b = .bool (tellOf pr su (tdOf M pr su tp ts)) ∧ w' = W12)
  case first =>
    have hM3 : M = 0 ∨ M = 1 ∨ M = 2 := by omega
    have Z0 := hid F12.out.bx.b0
    have Z1 := hid F12.out.bx.b1
    have Z2 := hid F12.out.bx.b2
    have Z3 := hid F12.out.bx.b3
    have Z4 := hid F12.out.bx.b4
    clear F12 hM
    rcases hM3 with rfl | rfl | rfl
    · go_wp2_with fail
      go_meet
      case rel => exact ⟨by simp [tdOf, tellOf], rfl⟩
    · go_wp2_with fail
      go_meet
      case rel => exact ⟨by simp [tdOf, tellOf, same_self], rfl⟩
    · skip
      have E1 := hid (neq23 pr tp HI.out.okpr HI.out.oktp)
      have E2 := hid (neq23 su ts HI.out.oksu HI.out.okts)
      have TE := hid (show tellOf pr su (tdOf 2 pr su tp ts) = (!pr.same tp || !su.same ts) by simp [tdOf, tellOf])
      rcases Bool.eq_false_or_eq_true (pr.same tp) with h1 | h1
      · rw [h1] at E1 TE
        simp only [Bool.not_true, Bool.not_false] at E1
        generalize su.same ts = b2 at E2 TE
        go_wp2_with (first
          | ((with_reducible (show wpList _ _ _ (⟨some 332, .load 23 (.tmp 11), _, _, _, _⟩ :: _) _ _)); refine wpList_loadG (by kernel_rfl) 23 _ rfl (w.heap.size + 1) 0 rfl (rwc pr) _ Z1.out Yba.underlying23 rfl (info23 _) ?_)
          | ((with_reducible (show wpList _ _ _ (⟨some 333, .load 23 (.tmp 18), _, _, _, _⟩ :: _) _ _)); refine wpList_loadG (by kernel_rfl) 23 _ rfl (w.heap.size + 1 + 1 + 1) 0 rfl (rwc tp) _ Z3.out Yba.underlying23 rfl (info23 _) ?_)
          | ((with_reducible (show wpList _ _ _ (⟨some 336, .load 23 (.tmp 12), _, _, _, _⟩ :: _) _ _)); refine wpList_loadG (by kernel_rfl) 23 _ rfl (w.heap.size + 1 + 1) 0 rfl (rwc su) _ Z2.out Yba.underlying23 rfl (info23 _) ?_)
          | ((with_reducible (show wpList _ _ _ (⟨some 337, .load 23 (.tmp 19), _, _, _, _⟩ :: _) _ _)); refine wpList_loadG (by kernel_rfl) 23 _ rfl (w.heap.size + 1 + 1 + 1 + 1) 0 rfl (rwc ts) _ Z4.out Yba.underlying23 rfl (info23 _) ?_)
          | ((with_reducible (show wpList _ _ _ (⟨_, .binOp .neq 23 (.tmp 332) _ _, _, _, _, _⟩ :: _) _ _)); refine wpList_cmpG (by kernel_rfl) .neq _ _ 23 _ rfl (rwc pr).toArray (rwc tp).toArray rfl rfl eg23 _ E1.out ?_)
          | ((with_reducible (show wpList _ _ _ (⟨_, .binOp .neq 23 (.tmp 336) _ _, _, _, _, _⟩ :: _) _ _)); refine wpList_cmpG (by kernel_rfl) .neq _ _ 23 _ rfl (rwc su).toArray (rwc ts).toArray rfl rfl eg23 _ E2.out ?_))
        go_meet
        case rel => exact ⟨by rw [TE.out]; rfl, rfl⟩
      · rw [h1] at E1 TE
        simp only [Bool.not_true, Bool.not_false] at E1
        go_wp2_with (first
          | ((with_reducible (show wpList _ _ _ (⟨some 332, .load 23 (.tmp 11), _, _, _, _⟩ :: _) _ _)); refine wpList_loadG (by kernel_rfl) 23 _ rfl (w.heap.size + 1) 0 rfl (rwc pr) _ Z1.out Yba.underlying23 rfl (info23 _) ?_)
          | ((with_reducible (show wpList _ _ _ (⟨some 333, .load 23 (.tmp 18), _, _, _, _⟩ :: _) _ _)); refine wpList_loadG (by kernel_rfl) 23 _ rfl (w.heap.size + 1 + 1 + 1) 0 rfl (rwc tp) _ Z3.out Yba.underlying23 rfl (info23 _) ?_)
          | ((with_reducible (show wpList _ _ _ (⟨_, .binOp .neq 23 (.tmp 332) _ _, _, _, _, _⟩ :: _) _ _)); refine wpList_cmpG (by kernel_rfl) .neq _ _ 23 _ rfl (rwc pr).toArray (rwc tp).toArray rfl rfl eg23 _ E1.out ?_))
        go_meet
        case rel => exact ⟨by rw [TE.out]; rfl, rfl⟩

  case rest =>
    obtain ⟨rfl, ew⟩ := hcut
    rw [ew]
    clear ew
    exact hK86' _ _ (law_tail a1 a2 a3 c1 c2 c3 n1 n2 n3 PL OL Q se pr su tp ts pg md w G R qg T TW N x cv M ta L Qf W12 HI Hn1 Hn2 Hn3 HC1 hfew hM F12 sN)

end Go.Proofs.Ybulkdsmy
