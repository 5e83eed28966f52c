import Derived.Test.YbulkdsmyLawC
import Derived.Deep.CutBlock
set_option linter.unusedSimpArgs false
set_option linter.unusedVariables false
namespace Go.Proofs.Ybulkdsmy
open Go.RowKit

set_option maxHeartbeats 8000000 in
set_option maxRecDepth 100000 in
theorem law_tail {y13 y14 y15 y16 y17 y20 y23 y26 y28 y36 y37 y38 y39 y40 y41 y42 y43 y44 y45 y46 y47 y49 y50 y51 y52 y53 y54 y55 y56 y57 y58 y59 y60 y61 y62 y63 y64 y65 y66 y67 y68 y69 y70 y71 y72 y73 y74 y75 y76 y77 y78 y79 y80 y81 y82 y83 y84 y85 y86 y87 y88 y89 y90 y91 y92 y93 y94 y95 y96 y97 y98 y99 y100 y101 y102 y103 y104 y105 y106 y107 y108 y109 y110 y111 y112 y113 y114 y115 y116 y117 y118 y119 y120 y121 y122 y123 y124 y125 y126 y127 y128 y129 y130 y131 y132 y133 y134 y135 y136 y137 y138 y139 y140 y141 y142 y143 y144 y145 y146 y147 y148 y149 y150 y151 y152 y153 y154 y155 y156 y157 y158 y159 y160 y161 y162 y163 y164 y165 y166 y167 y168 y169 y170 y171 y172 y173 y174 y175 y176 y177 y178 y179 y180 y181 y182 y183 y184 y185 y186 y187 y188 y189 y190 y191 y192 y193 y194 y195 y196 y197 y198 y199 y200 y201 y202 y203 y204 y205 y206 y207 y208 y209 y210 y211 y212 y213 y214 y215 y216 y217 y218 y219 y220 y221 y222 y223 y224 y225 y226 y227 y228 y229 y230 y231 y232 y233 y234 y235 y236 y237 y238 y239 y240 y241 y242 y243 y244 y245 y246 y247 y248 y249 y250 y251 y252 y253 y254 y255 y256 y257 y258 y259 y260 y261 y262 y263 y264 y265 y266 y267 y268 y269 y270 y271 y272 y273 y274 y275 y276 y277 y278 y279 y280 y281 y282 y283 y284 y285 y286 y287 y288 y289 y290 y291 y292 y293 y294 y295 y296 y297 y298 y299 y300 y301 y302 y303 y304 y305 y306 y307 y308 y309 y310 y311 y312 y313 y314 y315 y316 y317 y318 y319 y320 y321 y322 y323 y324 y325 y326 y327 y328 y329 y330 y331 y332 y333 y334 y335 y336 y337 y338 y339 y340 y341 y342 y343 y344 y345 y346 y347 y348 y349 y350 y351 y352 y353 y354 y355 y356 y357 y358 y359 y360 y361 y362 y363 y364 y365 y366 y367 y368 y369 y370 y371 y372 y373 y374 y375 y376 y377 y378 y379 y380 y381 y382 y383 y384 y385 y386 y387 y388 y389 y390 y391 y392 y393 y394 y395 y396 y397 y398 y399 y400 y401 y402 y403 y404 y405 y406 y407 y408 y409 y410 y411 y412 y413 y414 y415 y416 y417 y418 y419 y420 y421 y422 y423 y424 y425 y426 y427 y428 y429 y430 y431 y432 y433 y434 y435 y436 y437 y438 y439 y440 y441 y442 y443 y444 y445 y446 y447 y448 y449 y450 y451 y452 y453 y454 y455 y456 y457 y458 y459 y460 y461 y462 y463 y464 y465 y466 y467 y468 y469 y470 y471 y472 y473 y474 y475 y476 y477 y478 y479 y480 y481 y482 y483 y484 y485 y486 y487 y488 y489 y490 y491 y492 y493 y494 y495 y496 y497 y498 y499 y500 y501 y502 y503 y504 y505 y506 y507 y508 y509 y510 y511 y512 y513 y514 y515 : Value} (a1 a2 a3 : Option Addr) (c1 c2 c3 n1 n2 n3 : Nat) (PL OL : List Pr) (Q : List Sl) (se pr su tp ts : Pr) (pg : Bool) (md : Int) (w : World) (G R qg T TW N x : Nat) (cv : Value) (M : Int) (ta : Option Addr) (L : List Pr) (Qf : List Sl) (W12 : World) (HI : Hid (In w a1 a2 a3 PL OL Q se pr su tp ts)) (Hn1 : Hid (n1 = PL.length)) (Hn2 : Hid (n2 = OL.length)) (Hn3 : Hid (n3 = Q.length)) (HC1 : Hid (a1 = none → n1 = 0 ∧ c1 = 0)) (hfew : n1 + n2 + n3 ≤ 4096) (hM : 0 ≤ M ∧ M ≤ 2) (F12 : Hid (F7 w W12 PL se pr su tp ts pg n1 G cv n3 qg N (x + 3) (x + 1) M ta T TW x L Qf)) (sN : x + 4 ≤ N) :
    Code.wp Yba.prog (dropC 33 (Yba.f3.body.getD .skip)) (bodyPost Yba.prog Yba.f3 fun e w' => e = .returned (.bool true) ∧ Below w.heap.size w w') ⟨#[.agg (rwc se).toArray, .agg (rwc pr).toArray, .agg (rwc su).toArray, .bool pg, .slice a1 n1 c1, .slice a2 n2 c2, .slice a3 n3 c3, .int .u8 md, .agg (rwc tp).toArray, .agg (rwc ts).toArray, .pointer (some ⟨w.heap.size, 0, none⟩), .pointer (some ⟨w.heap.size + 1, 0, none⟩), .pointer (some ⟨w.heap.size + 1 + 1, 0, none⟩), y13, y14, y15, y16, y17, .pointer (some ⟨w.heap.size + 1 + 1 + 1, 0, none⟩), .pointer (some ⟨w.heap.size + 1 + 1 + 1 + 1, 0, none⟩), y20, .func (.func 4) #[] #[], .slice (some ⟨G, 0, none⟩) n1 n1, y23, cv, .slice (some ⟨R, 0, none⟩) n2 n2, y26, .slice (some ⟨qg, 0, none⟩) n3 n3, y28, .int .i64 M, .pointer ta, .pointer (some ⟨TW, 0, none⟩), .pointer (some ⟨x + 1, 0, none⟩), .pointer (some ⟨x + 1 + 1, 0, none⟩), .pointer (some ⟨x + 1 + 1 + 1, 0, none⟩), .pointer (some ⟨N, 0, none⟩), y36, y37, y38, y39, y40, y41, y42, y43, y44, y45, y46, y47, .bool (tellOf pr su (tdOf M pr su tp ts)), y49, y50, y51, y52, y53, y54, y55, y56, y57, y58, y59, y60, y61, y62, y63, y64, y65, y66, y67, y68, y69, y70, y71, y72, y73, y74, y75, y76, y77, y78, y79, y80, y81, y82, y83, y84, y85, y86, y87, y88, y89, y90, y91, y92, y93, y94, y95, y96, y97, y98, y99, y100, y101, y102, y103, y104, y105, y106, y107, y108, y109, y110, y111, y112, y113, y114, y115, y116, y117, y118, y119, y120, y121, y122, y123, y124, y125, y126, y127, y128, y129, y130, y131, y132, y133, y134, y135, y136, y137, y138, y139, y140, y141, y142, y143, y144, y145, y146, y147, y148, y149, y150, y151, y152, y153, y154, y155, y156, y157, y158, y159, y160, y161, y162, y163, y164, y165, y166, y167, y168, y169, y170, y171, y172, y173, y174, y175, y176, y177, y178, y179, y180, y181, y182, y183, y184, y185, y186, y187, y188, y189, y190, y191, y192, y193, y194, y195, y196, y197, y198, y199, y200, y201, y202, y203, y204, y205, y206, y207, y208, y209, y210, y211, y212, y213, y214, y215, y216, y217, y218, y219, y220, y221, y222, y223, y224, y225, y226, y227, y228, y229, y230, y231, y232, y233, y234, y235, y236, y237, y238, y239, y240, y241, y242, y243, y244, y245, y246, y247, y248, y249, y250, y251, y252, y253, y254, y255, y256, y257, y258, y259, y260, y261, y262, y263, y264, y265, y266, y267, y268, y269, y270, y271, y272, y273, y274, y275, y276, y277, y278, y279, y280, y281, y282, y283, y284, y285, y286, y287, y288, y289, y290, y291, y292, y293, y294, y295, y296, y297, y298, y299, y300, y301, y302, y303, y304, y305, y306, y307, y308, y309, y310, y311, y312, y313, y314, y315, y316, y317, y318, y319, y320, y321, y322, y323, y324, y325, y326, y327, y328, y329, y330, y331, y332, y333, y334, y335, y336, y337, y338, y339, y340, y341, y342, y343, y344, y345, y346, y347, y348, y349, y350, y351, y352, y353, y354, y355, y356, y357, y358, y359, y360, y361, y362, y363, y364, y365, y366, y367, y368, y369, y370, y371, y372, y373, y374, y375, y376, y377, y378, y379, y380, y381, y382, y383, y384, y385, y386, y387, y388, y389, y390, y391, y392, y393, y394, y395, y396, y397, y398, y399, y400, y401, y402, y403, y404, y405, y406, y407, y408, y409, y410, y411, y412, y413, y414, y415, y416, y417, y418, y419, y420, y421, y422, y423, y424, y425, y426, y427, y428, y429, y430, y431, y432, y433, y434, y435, y436, y437, y438, y439, y440, y441, y442, y443, y444, y445, y446, y447, y448, y449, y450, y451, y452, y453, y454, y455, y456, y457, y458, y459, y460, y461, y462, y463, y464, y465, y466, y467, y468, y469, y470, y471, y472, y473, y474, y475, y476, y477, y478, y479, y480, y481, y482, y483, y484, y485, y486, y487, y488, y489, y490, y491, y492, y493, y494, y495, y496, y497, y498, y499, y500, y501, y502, y503, y504, y505, y506, y507, y508, y509, y510, y511, y512, y513, y514, y515], []⟩ W12 := by
  conv => arg 2; whnf
  go_upto_if 342 with fail
  go_cut [48, 49, 50, 51] from 342 to 466 (fun _ _ _ _ w' => InB W12 w')
  case first =>
    rcases Bool.eq_false_or_eq_true (tellOf pr su (tdOf M pr su tp ts)) with htl | htl
    · rw [htl]
      obtain ⟨gl, capl2, hlog, hlogr⟩ := F12.out.logS htl
      obtain ⟨NP, hNP, hp78, hpr, hh2, hhc, hh127⟩ := F12.out.said htl
      have hcv := log3 W12 gl capl2 hlogr
      have h127 : W12.cell? ⟨x + 1 + 1 + 1, 127, none⟩ = some (.int .i64 1) := hh127
      have h2' : W12.cell? ⟨x + 1 + 1 + 1, 2, none⟩ = some (.iface 39 (.pointer (some ⟨NP, 0, none⟩))) := hh2
      have hq1 := ptr_told (range_cell hpr (j := 0) rfl) F12.out.td (by have := F12.out.tt; omega) F12.out.tb
      have hq2 := ptr_same (some ⟨NP, 0, none⟩) W12
      have hq3 := ta39 ⟨NP, 0, none⟩ W12
      have HPR := hid hpr
      have HHC := hid (show W12.rangeAt (x + 1 + 1 + 1) 3 (changeFor se pr su (tdOf M pr su tp ts)) from hhc)
      have HTL := hid htl
      clear hlogr hpr hhc hh2 hh127 htl
      go_upto_region 93 with fail
      clear hlog hcv h127 h2' hq1 hq2 hq3 hp78
      have E1 := hid (neq42 se su pr HI.out.okse HI.out.oksu HI.out.okpr)
      let S : World → Prop := fun w' => InB W12 w'
      have s0 : S W12.drew := drew_below W12
      haveI : Nonempty (Wld S) := ⟨⟨_, s0⟩⟩

      have Y0 := hid (show ∀ x : Wld S, x.w.rangeAt w.heap.size 0 (rwc se) from fun x => range_kept_below x.h F12.out.bx.b0)
      have Y1 := hid (show ∀ x : Wld S, x.w.rangeAt (w.heap.size + 1) 0 (rwc pr) from fun x => range_kept_below x.h F12.out.bx.b1)
      have Y2 := hid (show ∀ x : Wld S, x.w.rangeAt (w.heap.size + 1 + 1) 0 (rwc su) from fun x => range_kept_below x.h F12.out.bx.b2)
      have Y3 := hid (show ∀ x : Wld S, x.w.rangeAt NP 0 (plc se su pr) from fun x => range_kept_below x.h HPR.out)
      refine wp_region_plan 15 [(true, 0), (true, 1), (true, 2), (true, 3), (true, 4), (true, 6), (true, 7), (true, 9), (true, 10), (false, 5), (false, 8), (false, 11), (true, 12), (true, 13), (true, 14)] (fun w' => ∃ x : Wld S, w' = x.w) (by kernel_rfl) (by kernel_rfl) (fun _ _ d _ _ h => by cases d <;> exact h) (inS s0) ?_
      repeat (refine wpPlan_q (by rfl) ?_; dsimp only [List.getElem_toArray, List.getElem_cons_zero, List.getElem_cons_succ]; (first
        | ((with_reducible (show wpQuiet _ _ _ _ (⟨_, .load 23 (.tmp 10), _, _, _, _⟩ :: _) _)); refine wpQuiet_load_mid rfl 23 _ rfl w.heap.size 0 rfl (rwc se) _ (fun _ ⟨x, hx⟩ => hx ▸ Y0.out x) Yba.underlying23 rfl (info23 _) ?_; simp only [Act.put, List.setIfInBounds_toArray, List.set_cons_succ, List.set_cons_zero])
        | ((with_reducible (show wpQuiet _ _ _ _ (⟨_, .load 23 (.tmp 11), _, _, _, _⟩ :: _) _)); refine wpQuiet_load_mid rfl 23 _ rfl (w.heap.size + 1) 0 rfl (rwc pr) _ (fun _ ⟨x, hx⟩ => hx ▸ Y1.out x) Yba.underlying23 rfl (info23 _) ?_; simp only [Act.put, List.setIfInBounds_toArray, List.set_cons_succ, List.set_cons_zero])
        | ((with_reducible (show wpQuiet _ _ _ _ (⟨_, .load 23 (.tmp 12), _, _, _, _⟩ :: _) _)); refine wpQuiet_load_mid rfl 23 _ rfl (w.heap.size + 1 + 1) 0 rfl (rwc su) _ (fun _ ⟨x, hx⟩ => hx ▸ Y2.out x) Yba.underlying23 rfl (info23 _) ?_; simp only [Act.put, List.setIfInBounds_toArray, List.set_cons_succ, List.set_cons_zero])
        | ((with_reducible (show wpQuiet _ _ _ _ (⟨_, .load 42 (.tmp 381), _, _, _, _⟩ :: _) _)); refine wpQuiet_load_mid rfl 42 _ rfl NP 0 rfl (plc se su pr) _ (fun _ ⟨x, hx⟩ => hx ▸ Y3.out x) Yba.underlying42 rfl (info42 _ _ _) ?_; simp only [Act.put, List.setIfInBounds_toArray, List.set_cons_succ, List.set_cons_zero])
        | ((with_reducible (show wpQuiet _ _ _ _ (⟨_, .build 40 _, _, _, _, _⟩ :: _) _)); refine wpQuiet_build 40 _ rfl (.agg (prc pr).toArray) rfl (fun w => by kernel_rfl) ?_; simp only [Act.put, List.setIfInBounds_toArray, List.set_cons_succ, List.set_cons_zero])
        | ((with_reducible (show wpQuiet _ _ _ _ (⟨_, .build 42 _, _, _, _, _⟩ :: _) _)); refine wpQuiet_build 42 _ rfl (.agg (plc se su pr).toArray) rfl (fun w => by kernel_rfl) ?_; simp only [Act.put, List.setIfInBounds_toArray, List.set_cons_succ, List.set_cons_zero])
        | ((with_reducible (show wpQuiet _ _ _ _ (⟨_, .binOp .neq 42 _ _ _, _, _, _, _⟩ :: _) _)); refine wpQuiet_cmp rfl .neq _ _ 42 _ rfl (plc se su pr).toArray (plc se su pr).toArray rfl rfl eg42 _ E1.out ?_; simp only [Act.put, List.setIfInBounds_toArray, List.set_cons_succ, List.set_cons_zero])
        | go_big_quiet_step (fail)); refine wpQuiet_nil ?_)
      refine wpPlan_e (by rfl) ?_
      dsimp only [List.getElem_toArray, List.getElem_cons_zero, List.getElem_cons_succ]
      go_wp2_with (go_at_call 4; refine (peer_raw se W12.drew).mono ?_; rintro e v1 ⟨rfl, hb_v1⟩)
      have j1 : InB _ v1 := below_trans (drew_below W12) hb_v1
      refine onward_normal (fun _ => inS (show S v1 from j1)) ?_

      refine wpPlan_e (by rfl) ?_
      dsimp only [List.getElem_toArray, List.getElem_cons_zero, List.getElem_cons_succ]
      go_wp2_with (go_at_call 4; refine (peer_raw su v1).mono ?_; rintro e v2 ⟨rfl, hb_v2⟩)
      have j2 : InB _ v2 := below_trans j1 hb_v2
      refine onward_normal (fun _ => inS (show S v2 from j2)) ?_

      refine wpPlan_e (by rfl) ?_
      dsimp only [List.getElem_toArray, List.getElem_cons_zero, List.getElem_cons_succ]
      go_wp2_with (go_at_call 4; refine (peer_raw pr v2).mono ?_; rintro e v3 ⟨rfl, hb_v3⟩)
      have j3 : InB _ v3 := below_trans j2 hb_v3
      refine onward_normal (fun _ => inS (show S v3 from j3)) ?_

      repeat (refine wpPlan_q (by rfl) ?_; dsimp only [List.getElem_toArray, List.getElem_cons_zero, List.getElem_cons_succ]; (first
        | ((with_reducible (show wpQuiet _ _ _ _ (⟨_, .load 23 (.tmp 10), _, _, _, _⟩ :: _) _)); refine wpQuiet_load_mid rfl 23 _ rfl w.heap.size 0 rfl (rwc se) _ (fun _ ⟨x, hx⟩ => hx ▸ Y0.out x) Yba.underlying23 rfl (info23 _) ?_; simp only [Act.put, List.setIfInBounds_toArray, List.set_cons_succ, List.set_cons_zero])
        | ((with_reducible (show wpQuiet _ _ _ _ (⟨_, .load 23 (.tmp 11), _, _, _, _⟩ :: _) _)); refine wpQuiet_load_mid rfl 23 _ rfl (w.heap.size + 1) 0 rfl (rwc pr) _ (fun _ ⟨x, hx⟩ => hx ▸ Y1.out x) Yba.underlying23 rfl (info23 _) ?_; simp only [Act.put, List.setIfInBounds_toArray, List.set_cons_succ, List.set_cons_zero])
        | ((with_reducible (show wpQuiet _ _ _ _ (⟨_, .load 23 (.tmp 12), _, _, _, _⟩ :: _) _)); refine wpQuiet_load_mid rfl 23 _ rfl (w.heap.size + 1 + 1) 0 rfl (rwc su) _ (fun _ ⟨x, hx⟩ => hx ▸ Y2.out x) Yba.underlying23 rfl (info23 _) ?_; simp only [Act.put, List.setIfInBounds_toArray, List.set_cons_succ, List.set_cons_zero])
        | ((with_reducible (show wpQuiet _ _ _ _ (⟨_, .load 42 (.tmp 381), _, _, _, _⟩ :: _) _)); refine wpQuiet_load_mid rfl 42 _ rfl NP 0 rfl (plc se su pr) _ (fun _ ⟨x, hx⟩ => hx ▸ Y3.out x) Yba.underlying42 rfl (info42 _ _ _) ?_; simp only [Act.put, List.setIfInBounds_toArray, List.set_cons_succ, List.set_cons_zero])
        | ((with_reducible (show wpQuiet _ _ _ _ (⟨_, .build 40 _, _, _, _, _⟩ :: _) _)); refine wpQuiet_build 40 _ rfl (.agg (prc pr).toArray) rfl (fun w => by kernel_rfl) ?_; simp only [Act.put, List.setIfInBounds_toArray, List.set_cons_succ, List.set_cons_zero])
        | ((with_reducible (show wpQuiet _ _ _ _ (⟨_, .build 42 _, _, _, _, _⟩ :: _) _)); refine wpQuiet_build 42 _ rfl (.agg (plc se su pr).toArray) rfl (fun w => by kernel_rfl) ?_; simp only [Act.put, List.setIfInBounds_toArray, List.set_cons_succ, List.set_cons_zero])
        | ((with_reducible (show wpQuiet _ _ _ _ (⟨_, .binOp .neq 42 _ _ _, _, _, _, _⟩ :: _) _)); refine wpQuiet_cmp rfl .neq _ _ 42 _ rfl (plc se su pr).toArray (plc se su pr).toArray rfl rfl eg42 _ E1.out ?_; simp only [Act.put, List.setIfInBounds_toArray, List.set_cons_succ, List.set_cons_zero])
        | go_big_quiet_step (fail)); refine wpQuiet_nil ?_)
      refine wpPlan_nil ?_
      clear Y0 Y1 Y2 Y3 E1 s0 this
      clear S
      go_upto_if 396 with ((with_reducible (show wpList _ _ _ (⟨_, .alloc 56, _, _, _, _⟩ :: _) _ _)); refine wpList_alloc_as rfl 56 rfl (chc zp zp 0 0).toArray al56 ?_)
      have iC : InB W12 (v3.alloc (.cells (chc zp zp 0 0).toArray 56)) := below_trans j3 ((Below.refl _ _).alloc (Nat.le_refl _) _)
      have HCH := hid (range_new v3 (chc zp zp 0 0) 56)
      have HCT := hid (show (v3.alloc (.cells (chc zp zp 0 0).toArray 56)).there v3.heap.size 0 124 by have h := there_new v3 (chc zp zp 0 0) 56; rwa [chc_len] at h)
      have hCB : W12.heap.size ≤ v3.heap.size := j3.size
      clear j1 j2 j3 hb_v1 hb_v2 hb_v3
      generalize v3.alloc (.cells (chc zp zp 0 0).toArray 56) = W14 at iC HCH HCT ⊢
      generalize v3.heap.size = CB at HCH HCT hCB ⊢
      go_cut [] from 397 to 442 (fun w' => InB W12 w' ∧ w'.rangeAt CB 0 (changeFor se pr su (tdOf M pr su tp ts)))

      case first =>
        have hM3 : M = 0 ∨ M = 1 ∨ M = 2 := by omega
        have hw12 : w.heap.size + 5 ≤ W12.heap.size := F12.out.bx.sz
        have BX := hid (F12.out.bx.on iC F12.out.bx.sz)
        have BX12 := hid F12.out.bx
        have HTL' := HTL.out
        clear F12 hM HHC HPR HTL
        rcases hM3 with rfl | rfl | rfl
        · clear HTL'
          go_wp2_with fail
          go_meet
          case rel => exact ⟨iC, by simpa [tdOf, changeFor] using HCH.out⟩
        · exfalso
          simp [tdOf, tellOf, same_self] at HTL'
        · clear HTL'
          have hch : changeFor se pr su (tdOf 2 pr su tp ts) = chc (if behind se pr tp then pr else zp) (if between se su ts then su else zp) (if between se su ts then su.b else 0) (if between se su ts then ts.b else 0) := by simp [tdOf, changeFor, changeOf]
          have HCHG := hid hch
          clear hch
          go_upto_region 97 with fail
          go_cut [414] from 397 to 413 (fun b w' => b = .bool (behind se pr tp) ∧ w' = W14)
          case first =>
            have Z0 := hid BX.out.b0
            have Z1 := hid BX.out.b1
            have Z3 := hid BX.out.b3
            have c0 := range_cell BX.out.b0 (j := 1) rfl
            have c1 := range_cell BX.out.b1 (j := 1) rfl
            have c3 := range_cell BX.out.b3 (j := 1) rfl
            rw [Nat.zero_add] at c0 c1 c3
            have c1' : W14.cell? ⟨w.heap.size + 1, 1, none⟩ = some (.int .u8 pr.b) := c1
            have c3' : W14.cell? ⟨w.heap.size + 1 + 1 + 1, 1, none⟩ = some (.int .u8 tp.b) := c3
            have E1 := hid (neq23 pr tp HI.out.okpr HI.out.oktp)
            have E3 := hid (eql23 tp se HI.out.oktp HI.out.okse)
            have KW := hid (within8_any pr.b tp.b se.b ⟨HI.out.okpr.1, HI.out.okpr.2.1⟩ ⟨HI.out.oktp.1, HI.out.oktp.2.1⟩ ⟨HI.out.okse.1, HI.out.okse.2.1⟩)
            have BH := hid (show behind se pr tp = (!pr.same tp && (tp.same se || !within pr.b tp.b se.b)) from rfl)
            clear c1 c3 BX HCHG
            rcases Bool.eq_false_or_eq_true (pr.same tp) with h1 | h1

            · rw [h1] at E1 BH
              simp only [Bool.not_true, Bool.not_false] at E1

              go_wp2_with (first
                | ((with_reducible (show wpList _ _ _ (⟨some 397, .load 23 (.tmp 11), _, _, _, _⟩ :: _) _ _)); refine wpList_loadG (by kernel_rfl) 23 _ rfl (w.heap.size + 1) 0 rfl (rwc pr) _ Z1.out Yba.underlying23 rfl (info23 _) ?_)
                | ((with_reducible (show wpList _ _ _ (⟨some 398, .load 23 (.tmp 18), _, _, _, _⟩ :: _) _ _)); refine wpList_loadG (by kernel_rfl) 23 _ rfl (w.heap.size + 1 + 1 + 1) 0 rfl (rwc tp) _ Z3.out Yba.underlying23 rfl (info23 _) ?_)
                | ((with_reducible (show wpList _ _ _ (⟨_, .binOp .neq 23 (.tmp 397) _ _, _, _, _, _⟩ :: _) _ _)); refine wpList_cmpG (by kernel_rfl) .neq _ _ 23 _ rfl (rwc pr).toArray (rwc tp).toArray rfl rfl eg23 _ E1.out ?_))
              go_meet
              case rel => exact ⟨by rw [BH.out]; rfl, rfl⟩
            · rw [h1] at E1 BH
              simp only [Bool.not_true, Bool.not_false] at E1
              rcases Bool.eq_false_or_eq_true (tp.same se) with h2 | h2
              · rw [h2] at E3 BH

                go_wp2_with (first
                  | ((with_reducible (show wpList _ _ _ (⟨some 397, .load 23 (.tmp 11), _, _, _, _⟩ :: _) _ _)); refine wpList_loadG (by kernel_rfl) 23 _ rfl (w.heap.size + 1) 0 rfl (rwc pr) _ Z1.out Yba.underlying23 rfl (info23 _) ?_)
                  | ((with_reducible (show wpList _ _ _ (⟨some 398, .load 23 (.tmp 18), _, _, _, _⟩ :: _) _ _)); refine wpList_loadG (by kernel_rfl) 23 _ rfl (w.heap.size + 1 + 1 + 1) 0 rfl (rwc tp) _ Z3.out Yba.underlying23 rfl (info23 _) ?_)
                  | ((with_reducible (show wpList _ _ _ (⟨some 401, .load 23 (.tmp 18), _, _, _, _⟩ :: _) _ _)); refine wpList_loadG (by kernel_rfl) 23 _ rfl (w.heap.size + 1 + 1 + 1) 0 rfl (rwc tp) _ Z3.out Yba.underlying23 rfl (info23 _) ?_)
                  | ((with_reducible (show wpList _ _ _ (⟨some 402, .load 23 (.tmp 10), _, _, _, _⟩ :: _) _ _)); refine wpList_loadG (by kernel_rfl) 23 _ rfl w.heap.size 0 rfl (rwc se) _ Z0.out Yba.underlying23 rfl (info23 _) ?_)
                  | ((with_reducible (show wpList _ _ _ (⟨_, .binOp .neq 23 (.tmp 397) _ _, _, _, _, _⟩ :: _) _ _)); refine wpList_cmpG (by kernel_rfl) .neq _ _ 23 _ rfl (rwc pr).toArray (rwc tp).toArray rfl rfl eg23 _ E1.out ?_)
                  | ((with_reducible (show wpList _ _ _ (⟨_, .binOp .eql 23 (.tmp 401) _ _, _, _, _, _⟩ :: _) _ _)); refine wpList_cmpG (by kernel_rfl) .eql _ _ 23 _ rfl (rwc tp).toArray (rwc se).toArray rfl rfl eg23 _ E3.out ?_)
                  | (go_at_call 8; refine (KW.out _).mono ?_; rintro e w8 ⟨rfl, rfl⟩))
                go_meet
                case rel => exact ⟨by rw [BH.out]; rfl, rfl⟩
              · rw [h2] at E3 BH
                generalize within pr.b tp.b se.b = wi at KW BH

                go_wp2_with (first
                  | ((with_reducible (show wpList _ _ _ (⟨some 397, .load 23 (.tmp 11), _, _, _, _⟩ :: _) _ _)); refine wpList_loadG (by kernel_rfl) 23 _ rfl (w.heap.size + 1) 0 rfl (rwc pr) _ Z1.out Yba.underlying23 rfl (info23 _) ?_)
                  | ((with_reducible (show wpList _ _ _ (⟨some 398, .load 23 (.tmp 18), _, _, _, _⟩ :: _) _ _)); refine wpList_loadG (by kernel_rfl) 23 _ rfl (w.heap.size + 1 + 1 + 1) 0 rfl (rwc tp) _ Z3.out Yba.underlying23 rfl (info23 _) ?_)
                  | ((with_reducible (show wpList _ _ _ (⟨some 401, .load 23 (.tmp 18), _, _, _, _⟩ :: _) _ _)); refine wpList_loadG (by kernel_rfl) 23 _ rfl (w.heap.size + 1 + 1 + 1) 0 rfl (rwc tp) _ Z3.out Yba.underlying23 rfl (info23 _) ?_)
                  | ((with_reducible (show wpList _ _ _ (⟨some 402, .load 23 (.tmp 10), _, _, _, _⟩ :: _) _ _)); refine wpList_loadG (by kernel_rfl) 23 _ rfl w.heap.size 0 rfl (rwc se) _ Z0.out Yba.underlying23 rfl (info23 _) ?_)
                  | ((with_reducible (show wpList _ _ _ (⟨_, .binOp .neq 23 (.tmp 397) _ _, _, _, _, _⟩ :: _) _ _)); refine wpList_cmpG (by kernel_rfl) .neq _ _ 23 _ rfl (rwc pr).toArray (rwc tp).toArray rfl rfl eg23 _ E1.out ?_)
                  | ((with_reducible (show wpList _ _ _ (⟨_, .binOp .eql 23 (.tmp 401) _ _, _, _, _, _⟩ :: _) _ _)); refine wpList_cmpG (by kernel_rfl) .eql _ _ 23 _ rfl (rwc tp).toArray (rwc se).toArray rfl rfl eg23 _ E3.out ?_)
                  | (go_at_call 8; refine (KW.out _).mono ?_; rintro e w8 ⟨rfl, rfl⟩))
                go_meet
                case rel => exact ⟨by rw [BH.out]; cases wi <;> rfl, rfl⟩
          case rest =>
            obtain ⟨rfl, ew⟩ := hcut
            rw [ew]
            clear ew
            go_upto_if 414 with fail
            go_cut [414] from 415 to 418 (fun _ w' => InB W12 w' ∧ w'.rangeAt CB 0 (chc (if behind se pr tp then pr else zp) zp 0 0) ∧ w'.there CB 0 124)
            case first =>
              rcases Bool.eq_false_or_eq_true (behind se pr tp) with hbh | hbh
              · have HBH := hid hbh
                rw [hbh]
                clear hbh
                have Z1 := hid BX.out.b1
                go_wp2_with (first
                  | ((with_reducible (show wpList _ _ _ (⟨_, .load 23 (.tmp 11), _, _, _, _⟩ :: _) _ _)); refine wpList_loadG (by kernel_rfl) 23 _ rfl (w.heap.size + 1) 0 rfl (rwc pr) _ Z1.out Yba.underlying23 rfl (info23 _) ?_)
                  | (go_at_call 4; refine (peer_raw pr W14).mono ?_; rintro e w4 ⟨rfl, hb4⟩; have HC4 := hid (range_kept_below hb4 HCH.out); have HT4 := hid (there_kept_below hb4 HCT.out); have HT := hid (show w4.there CB 0 (prc pr).toArray.size by rw [prc_sz]; exact there_part HT4.out (by omega) (by omega)))
                  | ((with_reducible (show wpList _ _ _ (⟨_, .store 31 _ _, _, _, _, _⟩ :: _) _ _)); refine wpList_store_mid rfl 31 _ _ rfl CB 0 (prc pr).toArray rfl rfl HT (info31a _) (one31 _) ?_))
                go_meet
                case rel =>
                  rw [HBH.out]
                  exact ⟨below_setCells (below_trans iC hb4) hCB _ _, chc_be HC4.out HT4.out, World.there_setCells HT4.out _ _ _⟩
              · have HBH := hid hbh
                rw [hbh]
                clear hbh
                go_wp2_with fail
                go_meet
                case rel => rw [HBH.out]; exact ⟨iC, HCH.out, HCT.out⟩
            case rest =>
              obtain ⟨i15, h15, t15⟩ := hcut
              generalize wc = W15 at i15 h15 t15 ⊢
              have HC15 := hid h15
              have HT15 := hid t15
              have BX15 := hid (BX12.out.on i15 BX12.out.sz)
              clear h15 t15 BX HCH HCT iC
              have BX12' := hid BX12.out
              clear BX12
              go_upto_region 99 with fail
              go_cut [430] from 419 to 429 (fun b w' => b = .bool (between se su ts) ∧ w' = W15)
              case first =>
                have Z0 := hid BX15.out.b0
                have Z2 := hid BX15.out.b2
                have Z4 := hid BX15.out.b4
                have c0 := range_cell BX15.out.b0 (j := 1) rfl
                have c2 := range_cell BX15.out.b2 (j := 1) rfl
                have c4 := range_cell BX15.out.b4 (j := 1) rfl
                rw [Nat.zero_add] at c0 c2 c4
                have c2' : W15.cell? ⟨w.heap.size + 1 + 1, 1, none⟩ = some (.int .u8 su.b) := c2
                have c4' : W15.cell? ⟨w.heap.size + 1 + 1 + 1 + 1, 1, none⟩ = some (.int .u8 ts.b) := c4
                have E1 := hid (neq23 su ts HI.out.oksu HI.out.okts)
                have KW := hid (within8_any su.b se.b ts.b ⟨HI.out.oksu.1, HI.out.oksu.2.1⟩ ⟨HI.out.okse.1, HI.out.okse.2.1⟩ ⟨HI.out.okts.1, HI.out.okts.2.1⟩)
                have BT := hid (show between se su ts = (!su.same ts && within su.b se.b ts.b) from rfl)
                clear c2 c4 BX15 HCHG HC15 HT15
                rcases Bool.eq_false_or_eq_true (su.same ts) with h1 | h1
                · rw [h1] at E1 BT
                  simp only [Bool.not_true, Bool.not_false] at E1
                  go_wp2_with (first
                    | ((with_reducible (show wpList _ _ _ (⟨_, .load 23 (.tmp 12), _, _, _, _⟩ :: _) _ _)); refine wpList_loadG (by kernel_rfl) 23 _ rfl (w.heap.size + 1 + 1) 0 rfl (rwc su) _ Z2.out Yba.underlying23 rfl (info23 _) ?_)
                    | ((with_reducible (show wpList _ _ _ (⟨_, .load 23 (.tmp 19), _, _, _, _⟩ :: _) _ _)); refine wpList_loadG (by kernel_rfl) 23 _ rfl (w.heap.size + 1 + 1 + 1 + 1) 0 rfl (rwc ts) _ Z4.out Yba.underlying23 rfl (info23 _) ?_)
                    | ((with_reducible (show wpList _ _ _ (⟨_, .binOp .neq 23 (.tmp 419) _ _, _, _, _, _⟩ :: _) _ _)); refine wpList_cmpG (by kernel_rfl) .neq _ _ 23 _ rfl (rwc su).toArray (rwc ts).toArray rfl rfl eg23 _ E1.out ?_)
                    | (go_at_call 8; refine (KW.out _).mono ?_; rintro e w8 ⟨rfl, rfl⟩))
                  go_meet
                  case rel => exact ⟨by rw [BT.out]; rfl, rfl⟩
                · rw [h1] at E1 BT
                  simp only [Bool.not_true, Bool.not_false] at E1
                  generalize within su.b se.b ts.b = wi at KW BT
                  go_wp2_with (first
                    | ((with_reducible (show wpList _ _ _ (⟨_, .load 23 (.tmp 12), _, _, _, _⟩ :: _) _ _)); refine wpList_loadG (by kernel_rfl) 23 _ rfl (w.heap.size + 1 + 1) 0 rfl (rwc su) _ Z2.out Yba.underlying23 rfl (info23 _) ?_)
                    | ((with_reducible (show wpList _ _ _ (⟨_, .load 23 (.tmp 19), _, _, _, _⟩ :: _) _ _)); refine wpList_loadG (by kernel_rfl) 23 _ rfl (w.heap.size + 1 + 1 + 1 + 1) 0 rfl (rwc ts) _ Z4.out Yba.underlying23 rfl (info23 _) ?_)
                    | ((with_reducible (show wpList _ _ _ (⟨_, .binOp .neq 23 (.tmp 419) _ _, _, _, _, _⟩ :: _) _ _)); refine wpList_cmpG (by kernel_rfl) .neq _ _ 23 _ rfl (rwc su).toArray (rwc ts).toArray rfl rfl eg23 _ E1.out ?_)
                    | (go_at_call 8; refine (KW.out _).mono ?_; rintro e w8 ⟨rfl, rfl⟩))
                  go_meet
                  case rel => exact ⟨by rw [BT.out]; cases wi <;> rfl, rfl⟩
              case rest =>
                obtain ⟨rfl, ew⟩ := hcut
                rw [ew]
                clear ew
                go_upto_if 430 with fail
                rcases Bool.eq_false_or_eq_true (between se su ts) with hbt | hbt
                rotate_left
                · have HBT := hid hbt
                  rw [hbt]
                  clear hbt
                  go_wp2_with fail
                  go_meet
                  case rel => exact ⟨i15, by rw [HCHG.out, HBT.out]; exact HC15.out⟩
                · have HBT := hid hbt
                  rw [hbt]
                  clear hbt
                  have Z2 := hid BX15.out.b2
                  go_upto_region 101 with (first
                    | ((with_reducible (show wpList _ _ _ (⟨_, .load 23 (.tmp 12), _, _, _, _⟩ :: _) _ _)); refine wpList_loadG (by kernel_rfl) 23 _ rfl (w.heap.size + 1 + 1) 0 rfl (rwc su) _ Z2.out Yba.underlying23 rfl (info23 _) ?_)
                    | (go_at_call 4; refine (peer_raw su W15).mono ?_; rintro e w4 ⟨rfl, hb4⟩; have HC4 := hid (range_kept_below hb4 HC15.out); have HT4 := hid (there_kept_below hb4 HT15.out); have HT := hid (show w4.there CB 42 (prc su).toArray.size by rw [prc_sz]; exact there_part HT4.out (by omega) (by omega)))
                    | ((with_reducible (show wpList _ _ _ (⟨_, .store 31 _ _, _, _, _, _⟩ :: _) _ _)); refine wpList_store_mid rfl 31 _ _ rfl CB 42 (prc su).toArray rfl rfl HT (info31a _) (one31 _) ?_))
                  simp only [Act.put, List.setIfInBounds_toArray, List.set_cons_succ, List.set_cons_zero]
                  have i17 : InB W12 (w4.setCells CB 42 (prc su).toArray.toList) := below_setCells (below_trans i15 hb4) hCB _ _
                  have HC17 := hid (chc_la (la := su) HC4.out HT4.out)
                  have HT17 := hid (World.there_setCells HT4.out CB 42 (prc su))
                  have BX17 := hid (BX12'.out.on i17 BX12'.out.sz)
                  clear HC4 HT4 HT hb4 Z2 BX15 HC15 HT15
                  generalize w4.setCells CB 42 (prc su).toArray.toList = W17 at i17 HC17 HT17 BX17 ⊢

                  let S : World → Prop := fun w' => InB W17 w'
                  have s0 : S W17.drew := drew_below W17
                  haveI : Nonempty (Wld S) := ⟨⟨_, s0⟩⟩

                  have x1 : ∀ y : Wld S, y.w.cell? ⟨w.heap.size + 1 + 1, 1, none⟩ = some (.int .u8 su.b) := fun y => by have h := range_cell (range_kept_below y.h BX17.out.b2) (j := 1) rfl; rw [Nat.zero_add] at h; exact h
                  have x3 : ∀ y : Wld S, y.w.cell? ⟨w.heap.size + 2, 1, none⟩ = some (.int .u8 su.b) := fun y => by have h := range_cell (range_kept_below y.h BX17.out.b2) (j := 1) rfl; rw [Nat.zero_add] at h; exact h
                  have x4 : ∀ y : Wld S, y.w.cell? ⟨w.heap.size + 4, 1, none⟩ = some (.int .u8 ts.b) := fun y => by have h := range_cell (range_kept_below y.h BX17.out.b4) (j := 1) rfl; rw [Nat.zero_add] at h; exact h
                  have x2 : ∀ y : Wld S, y.w.cell? ⟨w.heap.size + 1 + 1 + 1 + 1, 1, none⟩ = some (.int .u8 ts.b) := fun y => by have h := range_cell (range_kept_below y.h BX17.out.b4) (j := 1) rfl; rw [Nat.zero_add] at h; exact h
                  refine wp_region_plan 8 [(true, 0), (true, 1), (true, 3), (true, 4), (false, 2), (false, 5), (true, 6), (true, 7), (false, 8)] (fun w' => ∃ x : Wld S, w' = x.w) (by kernel_rfl) (by kernel_rfl) (fun _ _ d _ _ h => by cases d <;> exact h) (inS s0) ?_
                  repeat (refine wpPlan_q (by rfl) ?_; dsimp only [List.getElem_toArray, List.getElem_cons_zero, List.getElem_cons_succ]; (first
                    | ((with_reducible (show wpQuiet _ _ _ _ (⟨_, .build 54 _, _, _, _, _⟩ :: _) _)); refine wpQuiet_build 54 _ rfl (.agg (arcc su.b ts.b).toArray) rfl (fun w => by kernel_rfl) ?_; simp only [Act.put, List.setIfInBounds_toArray, List.set_cons_succ, List.set_cons_zero])
                    | go_big_quiet_step (fail)); refine wpQuiet_nil ?_)
                  refine wpPlan_e (by rfl) ?_
                  dsimp only [List.getElem_toArray, List.getElem_cons_zero, List.getElem_cons_succ]
                  go_wp2_with (go_at_call 6; refine (id_any su.b W17.drew).mono ?_; rintro e u1 ⟨rfl, hbu1⟩)
                  have k1 : InB W17 u1 := below_trans (drew_below W17) hbu1
                  refine onward_normal (fun _ => inS (show S u1 from k1)) ?_
                  refine wpPlan_e (by rfl) ?_
                  dsimp only [List.getElem_toArray, List.getElem_cons_zero, List.getElem_cons_succ]
                  go_wp2_with (go_at_call 6; refine (id_any ts.b u1).mono ?_; rintro e u2 ⟨rfl, hbu2⟩)
                  have k2 : InB W17 u2 := below_trans k1 hbu2
                  refine onward_normal (fun _ => inS (show S u2 from k2)) ?_
                  repeat (refine wpPlan_q (by rfl) ?_; dsimp only [List.getElem_toArray, List.getElem_cons_zero, List.getElem_cons_succ]; (first
                    | ((with_reducible (show wpQuiet _ _ _ _ (⟨_, .build 54 _, _, _, _, _⟩ :: _) _)); refine wpQuiet_build 54 _ rfl (.agg (arcc su.b ts.b).toArray) rfl (fun w => by kernel_rfl) ?_; simp only [Act.put, List.setIfInBounds_toArray, List.set_cons_succ, List.set_cons_zero])
                    | go_big_quiet_step (fail)); refine wpQuiet_nil ?_)
                  refine wpPlan_e (by rfl) ?_
                  dsimp only [List.getElem_toArray, List.getElem_cons_zero, List.getElem_cons_succ]
                  have HC2 := hid (range_kept_below k2 HC17.out)
                  have HT2 := hid (there_kept_below k2 HT17.out)
                  have HT := hid (show u2.there CB 63 (arcc su.b ts.b).toArray.size by rw [arcc_sz]; exact there_part HT2.out (by omega) (by omega))
                  refine wpList_store_mid rfl 54 _ _ rfl CB 63 (arcc su.b ts.b).toArray rfl rfl HT (info54a _ _) (one54 _ _) ?_
                  refine wpList_done ?_
                  simp only [Act.put, List.setIfInBounds_toArray, List.set_cons_succ, List.set_cons_zero]
                  refine onward_normal (fun h => by cases h) ?_
                  refine wpPlan_nil ?_
                  go_wp2_with fail
                  go_meet
                  case rel => exact ⟨below_setCells (below_trans i17 k2) hCB _ _, by rw [HCHG.out, HBT.out]; exact chc_tail HC2.out HT2.out⟩

      case rest =>
        obtain ⟨i16, h16⟩ := hcut
        generalize wc = W16 at i16 h16 ⊢
        have HC16 := hid h16
        have HH16 := hid (range_kept_below i16 HHC.out)
        have E1 := hid (neqChange se pr su (tdOf M pr su tp ts) HI.out.okpr HI.out.oksu (fun tp' ts' e => by
          have h := F12.out.td
          rw [e] at h
          exact h.2.2.2))
        clear h16 HCH HCT
        go_upto_region 102 with fail

        let S : World → Prop := fun w' => InB W16 w'
        have s0 : S W16.drew := drew_below W16
        haveI : Nonempty (Wld S) := ⟨⟨_, s0⟩⟩

        have Y0 := hid (show ∀ y : Wld S, y.w.rangeAt (x + 1 + 1 + 1) 3 (changeFor se pr su (tdOf M pr su tp ts)) from fun y => range_kept_below y.h HH16.out)
        have Y1 := hid (show ∀ y : Wld S, y.w.rangeAt CB 0 (changeFor se pr su (tdOf M pr su tp ts)) from fun y => range_kept_below y.h HC16.out)
        refine wp_region_plan 6 [(true, 0), (true, 1), (true, 2), (true, 3), (true, 4), (true, 5)] (fun w' => ∃ x : Wld S, w' = x.w) (by kernel_rfl) (by kernel_rfl) (fun _ _ d _ _ h => by cases d <;> exact h) (inS s0) ?_
        repeat (refine wpPlan_q (by rfl) ?_; dsimp only [List.getElem_toArray, List.getElem_cons_zero, List.getElem_cons_succ]; (first
          | ((with_reducible (show wpQuiet _ _ _ _ (⟨_, .load 56 (.tmp 445), _, _, _, _⟩ :: _) _)); refine wpQuiet_load_mid rfl 56 _ rfl (x + 1 + 1 + 1) 3 rfl (changeFor se pr su (tdOf M pr su tp ts)) _ (fun _ ⟨x, hx⟩ => hx ▸ Y0.out x) Yba.underlying56 rfl (info56d _ _ _ _) ?_; simp only [Act.put, List.setIfInBounds_toArray, List.set_cons_succ, List.set_cons_zero])
          | ((with_reducible (show wpQuiet _ _ _ _ (⟨_, .load 56 (.tmp 51), _, _, _, _⟩ :: _) _)); refine wpQuiet_load_mid rfl 56 _ rfl CB 0 rfl (changeFor se pr su (tdOf M pr su tp ts)) _ (fun _ ⟨x, hx⟩ => hx ▸ Y1.out x) Yba.underlying56 rfl (info56d _ _ _ _) ?_; simp only [Act.put, List.setIfInBounds_toArray, List.set_cons_succ, List.set_cons_zero])
          | ((with_reducible (show wpQuiet _ _ _ _ (⟨_, .binOp .neq 56 _ _ _, _, _, _, _⟩ :: _) _)); refine wpQuiet_cmp rfl .neq _ _ 56 _ rfl (changeFor se pr su (tdOf M pr su tp ts)).toArray (changeFor se pr su (tdOf M pr su tp ts)).toArray rfl rfl eg56 _ E1.out ?_; simp only [Act.put, List.setIfInBounds_toArray, List.set_cons_succ, List.set_cons_zero])
          | go_big_quiet_step (fail)); refine wpQuiet_nil ?_)
        refine wpPlan_nil ?_
        go_wp2_with fail
        go_meet
        case rel => exact InB.trans i16 (drew_below W16)
    · rw [htl]
      obtain ⟨gl, capl2, hlog, hlogr⟩ := F12.out.logM htl
      obtain ⟨hp78, hh127⟩ := F12.out.mute htl
      have hcv := log2 W12 gl capl2 hlogr
      have h127 : W12.cell? ⟨x + 1 + 1 + 1, 127, none⟩ = some (.int .i64 0) := hh127
      have hq := ptr_same ta W12
      clear hlogr hh127
      go_wp2_with fail
      go_meet
      case rel => exact InB.refl _
  case rest =>
    have F13 := hid (F12.out.below hcut)
    clear F12 hcut
    generalize wc = W13 at F13 ⊢
    go_upto_region 106 with fail
    go_cut [475] from 467 to 474 (fun b w' => b = .bool false ∧ InB W13 w')
    case first =>
      have TD := hid F13.out.td
      have WAS := hid F13.out.was
      clear F13
      generalize hT : tdOf M pr su tp ts = td at TD WAS
      clear hT
      cases td with

      | none =>
        have e : Value.pointer ta = .pointer none := TD.out
        cases e

        let S : World → Prop := fun w' => InB W13 w'
        have s0 : S W13.drew := drew_below W13
        haveI : Nonempty (Wld S) := ⟨⟨_, s0⟩⟩

        refine wp_region_plan 9 [(true, 0), (true, 1), (true, 2), (true, 3), (true, 4), (true, 5), (true, 6), (true, 7), (true, 8)] (fun w' => ∃ x : Wld S, w' = x.w) (by kernel_rfl) (by kernel_rfl) (fun _ _ d _ _ h => by cases d <;> exact h) (inS s0) ?_
        repeat (refine wpPlan_q (by rfl) ?_; dsimp only [List.getElem_toArray, List.getElem_cons_zero, List.getElem_cons_succ]; (first
          | go_big_quiet_step (fail)); refine wpQuiet_nil ?_)
        refine wpPlan_nil ?_
        go_wp2_with fail
        go_meet
        case rel => exact ⟨rfl, drew_below W13⟩

      | some tt =>
        obtain ⟨tp', ts'⟩ := tt
        obtain ⟨e, hr, ok1, ok2⟩ := TD.out
        cases e
        have hw := WAS.out tp' ts' rfl
        have E1 := hid (neq42 se ts' tp' HI.out.okse ok2 ok1)

        let S : World → Prop := fun w' => InB W13 w'
        have s0 : S W13.drew := drew_below W13
        haveI : Nonempty (Wld S) := ⟨⟨_, s0⟩⟩

        have Y0 := hid (show ∀ y : Wld S, y.w.rangeAt T 0 (plc se ts' tp') from fun y => range_kept_below y.h hr)
        have Y1 := hid (show ∀ y : Wld S, y.w.rangeAt TW 0 (plc se ts' tp') from fun y => range_kept_below y.h hw)
        refine wp_region_plan 9 [(true, 0), (true, 1), (true, 2), (true, 3), (true, 4), (true, 5), (true, 6), (true, 7), (true, 8)] (fun w' => ∃ x : Wld S, w' = x.w) (by kernel_rfl) (by kernel_rfl) (fun _ _ d _ _ h => by cases d <;> exact h) (inS s0) ?_
        repeat (refine wpPlan_q (by rfl) ?_; dsimp only [List.getElem_toArray, List.getElem_cons_zero, List.getElem_cons_succ]; (first
          | ((with_reducible (show wpQuiet _ _ _ _ (⟨_, .load 42 (.tmp 471), _, _, _, _⟩ :: _) _)); refine wpQuiet_load_mid (by kernel_rfl) 42 _ rfl T 0 rfl (plc se ts' tp') _ (fun _ ⟨x, hx⟩ => hx ▸ Y0.out x) Yba.underlying42 rfl (info42 _ _ _) ?_; simp only [Act.put, List.setIfInBounds_toArray, List.set_cons_succ, List.set_cons_zero])
          | ((with_reducible (show wpQuiet _ _ _ _ (⟨_, .load 42 (.tmp 31), _, _, _, _⟩ :: _) _)); refine wpQuiet_load_mid (by kernel_rfl) 42 _ rfl TW 0 rfl (plc se ts' tp') _ (fun _ ⟨x, hx⟩ => hx ▸ Y1.out x) Yba.underlying42 rfl (info42 _ _ _) ?_; simp only [Act.put, List.setIfInBounds_toArray, List.set_cons_succ, List.set_cons_zero])
          | ((with_reducible (show wpQuiet _ _ _ _ (⟨_, .binOp .neq 42 _ _ _, _, _, _, _⟩ :: _) _)); refine wpQuiet_cmp (by kernel_rfl) .neq _ _ 42 _ rfl (plc se ts' tp').toArray (plc se ts' tp').toArray rfl rfl eg42 _ E1.out ?_; simp only [Act.put, List.setIfInBounds_toArray, List.set_cons_succ, List.set_cons_zero])
          | go_big_quiet_step (fail)); refine wpQuiet_nil ?_)
        refine wpPlan_nil ?_
        go_wp2_with fail
        go_meet
        case rel => exact ⟨rfl, drew_below W13⟩

    case rest =>
      obtain ⟨rfl, i17⟩ := hcut
      have F14 := hid (F13.out.below i17)
      clear F13 i17
      generalize wc = W14 at F14 ⊢
      obtain ⟨sa, cap, ecv, hcl⟩ := F14.out.cl
      subst ecv
      have K := hid (equal_any PL HI.out.okPL n1 n1 cap (some ⟨G, 0, none⟩) sa W14 Hn1.out (by omega) F14.out.pl hcl)
      go_upto_region 110 with (go_at_call 9; refine K.out.mono ?_; rintro e w9 ⟨rfl, hb9⟩)
      have F15 := hid (F14.out.below hb9)
      have E0 := hid (eql31_self se HI.out.okse)
      have E1 := hid (eql31_self pr HI.out.okpr)
      have E2 := hid (eql31_self su HI.out.oksu)
      clear K F14 hcl hb9
      let S : World → Prop := fun w' => InB w9 w'
      have s0 : S w9.drew := drew_below w9
      haveI : Nonempty (Wld S) := ⟨⟨_, s0⟩⟩

      have Y0 := hid (show ∀ x : Wld S, x.w.rangeAt w.heap.size 0 (rwc se) from fun x => range_kept_below x.h F15.out.bx.b0)
      have Y1 := hid (show ∀ x : Wld S, x.w.rangeAt (w.heap.size + 1) 0 (rwc pr) from fun x => range_kept_below x.h F15.out.bx.b1)
      have Y2 := hid (show ∀ x : Wld S, x.w.rangeAt (w.heap.size + 1 + 1) 0 (rwc su) from fun x => range_kept_below x.h F15.out.bx.b2)
      have Y3 := hid (show ∀ x : Wld S, x.w.rangeAt N 14 (prc se) from fun x => range_kept_below x.h F15.out.self)
      have Y4 := hid (show ∀ x : Wld S, x.w.rangeAt N 35 (prc pr) from fun x => range_kept_below x.h F15.out.pred)
      have Y5 := hid (show ∀ x : Wld S, x.w.rangeAt N 56 (prc su) from fun x => range_kept_below x.h F15.out.succ)
      have x1 : ∀ y : Wld S, y.w.cell? ⟨N, 80, none⟩ = some (.bool pg) := fun y => (Kept.ofBelow (E := fun _ => False) y.h).cell (fun h => h) F15.out.gone
      refine wp_region_plan 37 [(true, 0), (true, 1), (true, 2), (true, 3), (true, 4), (true, 5), (false, 6), (true, 7), (true, 8), (true, 9), (true, 10), (true, 11), (true, 12), (true, 13), (true, 14), (false, 15), (true, 16), (true, 17), (true, 18), (true, 19), (true, 20), (true, 21), (true, 22), (true, 23), (true, 24), (false, 25), (true, 26), (true, 27), (true, 28), (true, 29), (true, 30), (true, 31), (true, 32), (true, 33), (true, 34), (true, 35), (true, 36)] (fun w' => ∃ x : Wld S, w' = x.w) (by kernel_rfl) (by kernel_rfl) (fun _ _ d _ _ h => by cases d <;> exact h) (inS s0) ?_
      repeat (refine wpPlan_q (by rfl) ?_; dsimp only [List.getElem_toArray, List.getElem_cons_zero, List.getElem_cons_succ]; (first
        | ((with_reducible (show wpQuiet _ _ _ _ (⟨_, .load 23 (.tmp 10), _, _, _, _⟩ :: _) _)); refine wpQuiet_load_mid (by kernel_rfl) 23 _ rfl w.heap.size 0 rfl (rwc se) _ (fun _ ⟨x, hx⟩ => hx ▸ Y0.out x) Yba.underlying23 rfl (info23 _) ?_; simp only [Act.put, List.setIfInBounds_toArray, List.set_cons_succ, List.set_cons_zero])
        | ((with_reducible (show wpQuiet _ _ _ _ (⟨_, .load 23 (.tmp 11), _, _, _, _⟩ :: _) _)); refine wpQuiet_load_mid (by kernel_rfl) 23 _ rfl (w.heap.size + 1) 0 rfl (rwc pr) _ (fun _ ⟨x, hx⟩ => hx ▸ Y1.out x) Yba.underlying23 rfl (info23 _) ?_; simp only [Act.put, List.setIfInBounds_toArray, List.set_cons_succ, List.set_cons_zero])
        | ((with_reducible (show wpQuiet _ _ _ _ (⟨_, .load 23 (.tmp 12), _, _, _, _⟩ :: _) _)); refine wpQuiet_load_mid (by kernel_rfl) 23 _ rfl (w.heap.size + 1 + 1) 0 rfl (rwc su) _ (fun _ ⟨x, hx⟩ => hx ▸ Y2.out x) Yba.underlying23 rfl (info23 _) ?_; simp only [Act.put, List.setIfInBounds_toArray, List.set_cons_succ, List.set_cons_zero])
        | ((with_reducible (show wpQuiet _ _ _ _ (⟨_, .load 31 (.tmp 482), _, _, _, _⟩ :: _) _)); refine wpQuiet_load_mid (by kernel_rfl) 31 _ rfl N 14 rfl (prc se) _ (fun _ ⟨x, hx⟩ => hx ▸ Y3.out x) Yba.underlying31 rfl (info31 _) ?_; simp only [Act.put, List.setIfInBounds_toArray, List.set_cons_succ, List.set_cons_zero])
        | ((with_reducible (show wpQuiet _ _ _ _ (⟨_, .load 31 (.tmp 491), _, _, _, _⟩ :: _) _)); refine wpQuiet_load_mid (by kernel_rfl) 31 _ rfl N 35 rfl (prc pr) _ (fun _ ⟨x, hx⟩ => hx ▸ Y4.out x) Yba.underlying31 rfl (info31 _) ?_; simp only [Act.put, List.setIfInBounds_toArray, List.set_cons_succ, List.set_cons_zero])
        | ((with_reducible (show wpQuiet _ _ _ _ (⟨_, .load 31 (.tmp 501), _, _, _, _⟩ :: _) _)); refine wpQuiet_load_mid (by kernel_rfl) 31 _ rfl N 56 rfl (prc su) _ (fun _ ⟨x, hx⟩ => hx ▸ Y5.out x) Yba.underlying31 rfl (info31 _) ?_; simp only [Act.put, List.setIfInBounds_toArray, List.set_cons_succ, List.set_cons_zero])
        | ((with_reducible (show wpQuiet _ _ _ _ (⟨_, .binOp .eql 31 (.tmp 483) _ _, _, _, _, _⟩ :: _) _)); refine wpQuiet_cmp (by kernel_rfl) .eql _ _ 31 _ rfl (prc se).toArray (prc se).toArray rfl rfl eg31 _ E0.out ?_; simp only [Act.put, List.setIfInBounds_toArray, List.set_cons_succ, List.set_cons_zero])
        | ((with_reducible (show wpQuiet _ _ _ _ (⟨_, .binOp .eql 31 (.tmp 492) _ _, _, _, _, _⟩ :: _) _)); refine wpQuiet_cmp (by kernel_rfl) .eql _ _ 31 _ rfl (prc pr).toArray (prc pr).toArray rfl rfl eg31 _ E1.out ?_; simp only [Act.put, List.setIfInBounds_toArray, List.set_cons_succ, List.set_cons_zero])
        | ((with_reducible (show wpQuiet _ _ _ _ (⟨_, .binOp .eql 31 (.tmp 502) _ _, _, _, _, _⟩ :: _) _)); refine wpQuiet_cmp (by kernel_rfl) .eql _ _ 31 _ rfl (prc su).toArray (prc su).toArray rfl rfl eg31 _ E2.out ?_; simp only [Act.put, List.setIfInBounds_toArray, List.set_cons_succ, List.set_cons_zero])
        | go_big_quiet_step (fail)); refine wpQuiet_nil ?_)
      refine wpPlan_e (by rfl) ?_
      dsimp only [List.getElem_toArray, List.getElem_cons_zero, List.getElem_cons_succ]
      go_wp2_with (go_at_call 4; refine (peer_raw se w9.drew).mono ?_; rintro e v1 ⟨rfl, hb_v1⟩)
      have j1 : InB _ v1 := below_trans (drew_below w9) hb_v1
      refine onward_normal (fun _ => inS (show S v1 from j1)) ?_

      repeat (refine wpPlan_q (by rfl) ?_; dsimp only [List.getElem_toArray, List.getElem_cons_zero, List.getElem_cons_succ]; (first
        | ((with_reducible (show wpQuiet _ _ _ _ (⟨_, .load 23 (.tmp 10), _, _, _, _⟩ :: _) _)); refine wpQuiet_load_mid (by kernel_rfl) 23 _ rfl w.heap.size 0 rfl (rwc se) _ (fun _ ⟨x, hx⟩ => hx ▸ Y0.out x) Yba.underlying23 rfl (info23 _) ?_; simp only [Act.put, List.setIfInBounds_toArray, List.set_cons_succ, List.set_cons_zero])
        | ((with_reducible (show wpQuiet _ _ _ _ (⟨_, .load 23 (.tmp 11), _, _, _, _⟩ :: _) _)); refine wpQuiet_load_mid (by kernel_rfl) 23 _ rfl (w.heap.size + 1) 0 rfl (rwc pr) _ (fun _ ⟨x, hx⟩ => hx ▸ Y1.out x) Yba.underlying23 rfl (info23 _) ?_; simp only [Act.put, List.setIfInBounds_toArray, List.set_cons_succ, List.set_cons_zero])
        | ((with_reducible (show wpQuiet _ _ _ _ (⟨_, .load 23 (.tmp 12), _, _, _, _⟩ :: _) _)); refine wpQuiet_load_mid (by kernel_rfl) 23 _ rfl (w.heap.size + 1 + 1) 0 rfl (rwc su) _ (fun _ ⟨x, hx⟩ => hx ▸ Y2.out x) Yba.underlying23 rfl (info23 _) ?_; simp only [Act.put, List.setIfInBounds_toArray, List.set_cons_succ, List.set_cons_zero])
        | ((with_reducible (show wpQuiet _ _ _ _ (⟨_, .load 31 (.tmp 482), _, _, _, _⟩ :: _) _)); refine wpQuiet_load_mid (by kernel_rfl) 31 _ rfl N 14 rfl (prc se) _ (fun _ ⟨x, hx⟩ => hx ▸ Y3.out x) Yba.underlying31 rfl (info31 _) ?_; simp only [Act.put, List.setIfInBounds_toArray, List.set_cons_succ, List.set_cons_zero])
        | ((with_reducible (show wpQuiet _ _ _ _ (⟨_, .load 31 (.tmp 491), _, _, _, _⟩ :: _) _)); refine wpQuiet_load_mid (by kernel_rfl) 31 _ rfl N 35 rfl (prc pr) _ (fun _ ⟨x, hx⟩ => hx ▸ Y4.out x) Yba.underlying31 rfl (info31 _) ?_; simp only [Act.put, List.setIfInBounds_toArray, List.set_cons_succ, List.set_cons_zero])
        | ((with_reducible (show wpQuiet _ _ _ _ (⟨_, .load 31 (.tmp 501), _, _, _, _⟩ :: _) _)); refine wpQuiet_load_mid (by kernel_rfl) 31 _ rfl N 56 rfl (prc su) _ (fun _ ⟨x, hx⟩ => hx ▸ Y5.out x) Yba.underlying31 rfl (info31 _) ?_; simp only [Act.put, List.setIfInBounds_toArray, List.set_cons_succ, List.set_cons_zero])
        | ((with_reducible (show wpQuiet _ _ _ _ (⟨_, .binOp .eql 31 (.tmp 483) _ _, _, _, _, _⟩ :: _) _)); refine wpQuiet_cmp (by kernel_rfl) .eql _ _ 31 _ rfl (prc se).toArray (prc se).toArray rfl rfl eg31 _ E0.out ?_; simp only [Act.put, List.setIfInBounds_toArray, List.set_cons_succ, List.set_cons_zero])
        | ((with_reducible (show wpQuiet _ _ _ _ (⟨_, .binOp .eql 31 (.tmp 492) _ _, _, _, _, _⟩ :: _) _)); refine wpQuiet_cmp (by kernel_rfl) .eql _ _ 31 _ rfl (prc pr).toArray (prc pr).toArray rfl rfl eg31 _ E1.out ?_; simp only [Act.put, List.setIfInBounds_toArray, List.set_cons_succ, List.set_cons_zero])
        | ((with_reducible (show wpQuiet _ _ _ _ (⟨_, .binOp .eql 31 (.tmp 502) _ _, _, _, _, _⟩ :: _) _)); refine wpQuiet_cmp (by kernel_rfl) .eql _ _ 31 _ rfl (prc su).toArray (prc su).toArray rfl rfl eg31 _ E2.out ?_; simp only [Act.put, List.setIfInBounds_toArray, List.set_cons_succ, List.set_cons_zero])
        | go_big_quiet_step (fail)); refine wpQuiet_nil ?_)
      refine wpPlan_e (by rfl) ?_
      dsimp only [List.getElem_toArray, List.getElem_cons_zero, List.getElem_cons_succ]
      go_wp2_with (go_at_call 4; refine (peer_raw pr v1).mono ?_; rintro e v2 ⟨rfl, hb_v2⟩)
      have j2 : InB _ v2 := below_trans j1 hb_v2
      refine onward_normal (fun _ => inS (show S v2 from j2)) ?_

      repeat (refine wpPlan_q (by rfl) ?_; dsimp only [List.getElem_toArray, List.getElem_cons_zero, List.getElem_cons_succ]; (first
        | ((with_reducible (show wpQuiet _ _ _ _ (⟨_, .load 23 (.tmp 10), _, _, _, _⟩ :: _) _)); refine wpQuiet_load_mid (by kernel_rfl) 23 _ rfl w.heap.size 0 rfl (rwc se) _ (fun _ ⟨x, hx⟩ => hx ▸ Y0.out x) Yba.underlying23 rfl (info23 _) ?_; simp only [Act.put, List.setIfInBounds_toArray, List.set_cons_succ, List.set_cons_zero])
        | ((with_reducible (show wpQuiet _ _ _ _ (⟨_, .load 23 (.tmp 11), _, _, _, _⟩ :: _) _)); refine wpQuiet_load_mid (by kernel_rfl) 23 _ rfl (w.heap.size + 1) 0 rfl (rwc pr) _ (fun _ ⟨x, hx⟩ => hx ▸ Y1.out x) Yba.underlying23 rfl (info23 _) ?_; simp only [Act.put, List.setIfInBounds_toArray, List.set_cons_succ, List.set_cons_zero])
        | ((with_reducible (show wpQuiet _ _ _ _ (⟨_, .load 23 (.tmp 12), _, _, _, _⟩ :: _) _)); refine wpQuiet_load_mid (by kernel_rfl) 23 _ rfl (w.heap.size + 1 + 1) 0 rfl (rwc su) _ (fun _ ⟨x, hx⟩ => hx ▸ Y2.out x) Yba.underlying23 rfl (info23 _) ?_; simp only [Act.put, List.setIfInBounds_toArray, List.set_cons_succ, List.set_cons_zero])
        | ((with_reducible (show wpQuiet _ _ _ _ (⟨_, .load 31 (.tmp 482), _, _, _, _⟩ :: _) _)); refine wpQuiet_load_mid (by kernel_rfl) 31 _ rfl N 14 rfl (prc se) _ (fun _ ⟨x, hx⟩ => hx ▸ Y3.out x) Yba.underlying31 rfl (info31 _) ?_; simp only [Act.put, List.setIfInBounds_toArray, List.set_cons_succ, List.set_cons_zero])
        | ((with_reducible (show wpQuiet _ _ _ _ (⟨_, .load 31 (.tmp 491), _, _, _, _⟩ :: _) _)); refine wpQuiet_load_mid (by kernel_rfl) 31 _ rfl N 35 rfl (prc pr) _ (fun _ ⟨x, hx⟩ => hx ▸ Y4.out x) Yba.underlying31 rfl (info31 _) ?_; simp only [Act.put, List.setIfInBounds_toArray, List.set_cons_succ, List.set_cons_zero])
        | ((with_reducible (show wpQuiet _ _ _ _ (⟨_, .load 31 (.tmp 501), _, _, _, _⟩ :: _) _)); refine wpQuiet_load_mid (by kernel_rfl) 31 _ rfl N 56 rfl (prc su) _ (fun _ ⟨x, hx⟩ => hx ▸ Y5.out x) Yba.underlying31 rfl (info31 _) ?_; simp only [Act.put, List.setIfInBounds_toArray, List.set_cons_succ, List.set_cons_zero])
        | ((with_reducible (show wpQuiet _ _ _ _ (⟨_, .binOp .eql 31 (.tmp 483) _ _, _, _, _, _⟩ :: _) _)); refine wpQuiet_cmp (by kernel_rfl) .eql _ _ 31 _ rfl (prc se).toArray (prc se).toArray rfl rfl eg31 _ E0.out ?_; simp only [Act.put, List.setIfInBounds_toArray, List.set_cons_succ, List.set_cons_zero])
        | ((with_reducible (show wpQuiet _ _ _ _ (⟨_, .binOp .eql 31 (.tmp 492) _ _, _, _, _, _⟩ :: _) _)); refine wpQuiet_cmp (by kernel_rfl) .eql _ _ 31 _ rfl (prc pr).toArray (prc pr).toArray rfl rfl eg31 _ E1.out ?_; simp only [Act.put, List.setIfInBounds_toArray, List.set_cons_succ, List.set_cons_zero])
        | ((with_reducible (show wpQuiet _ _ _ _ (⟨_, .binOp .eql 31 (.tmp 502) _ _, _, _, _, _⟩ :: _) _)); refine wpQuiet_cmp (by kernel_rfl) .eql _ _ 31 _ rfl (prc su).toArray (prc su).toArray rfl rfl eg31 _ E2.out ?_; simp only [Act.put, List.setIfInBounds_toArray, List.set_cons_succ, List.set_cons_zero])
        | go_big_quiet_step (fail)); refine wpQuiet_nil ?_)
      refine wpPlan_e (by rfl) ?_
      dsimp only [List.getElem_toArray, List.getElem_cons_zero, List.getElem_cons_succ]
      go_wp2_with (go_at_call 4; refine (peer_raw su v2).mono ?_; rintro e v3 ⟨rfl, hb_v3⟩)
      have j3 : InB _ v3 := below_trans j2 hb_v3
      refine onward_normal (fun _ => inS (show S v3 from j3)) ?_

      repeat (refine wpPlan_q (by rfl) ?_; dsimp only [List.getElem_toArray, List.getElem_cons_zero, List.getElem_cons_succ]; (first
        | ((with_reducible (show wpQuiet _ _ _ _ (⟨_, .load 23 (.tmp 10), _, _, _, _⟩ :: _) _)); refine wpQuiet_load_mid (by kernel_rfl) 23 _ rfl w.heap.size 0 rfl (rwc se) _ (fun _ ⟨x, hx⟩ => hx ▸ Y0.out x) Yba.underlying23 rfl (info23 _) ?_; simp only [Act.put, List.setIfInBounds_toArray, List.set_cons_succ, List.set_cons_zero])
        | ((with_reducible (show wpQuiet _ _ _ _ (⟨_, .load 23 (.tmp 11), _, _, _, _⟩ :: _) _)); refine wpQuiet_load_mid (by kernel_rfl) 23 _ rfl (w.heap.size + 1) 0 rfl (rwc pr) _ (fun _ ⟨x, hx⟩ => hx ▸ Y1.out x) Yba.underlying23 rfl (info23 _) ?_; simp only [Act.put, List.setIfInBounds_toArray, List.set_cons_succ, List.set_cons_zero])
        | ((with_reducible (show wpQuiet _ _ _ _ (⟨_, .load 23 (.tmp 12), _, _, _, _⟩ :: _) _)); refine wpQuiet_load_mid (by kernel_rfl) 23 _ rfl (w.heap.size + 1 + 1) 0 rfl (rwc su) _ (fun _ ⟨x, hx⟩ => hx ▸ Y2.out x) Yba.underlying23 rfl (info23 _) ?_; simp only [Act.put, List.setIfInBounds_toArray, List.set_cons_succ, List.set_cons_zero])
        | ((with_reducible (show wpQuiet _ _ _ _ (⟨_, .load 31 (.tmp 482), _, _, _, _⟩ :: _) _)); refine wpQuiet_load_mid (by kernel_rfl) 31 _ rfl N 14 rfl (prc se) _ (fun _ ⟨x, hx⟩ => hx ▸ Y3.out x) Yba.underlying31 rfl (info31 _) ?_; simp only [Act.put, List.setIfInBounds_toArray, List.set_cons_succ, List.set_cons_zero])
        | ((with_reducible (show wpQuiet _ _ _ _ (⟨_, .load 31 (.tmp 491), _, _, _, _⟩ :: _) _)); refine wpQuiet_load_mid (by kernel_rfl) 31 _ rfl N 35 rfl (prc pr) _ (fun _ ⟨x, hx⟩ => hx ▸ Y4.out x) Yba.underlying31 rfl (info31 _) ?_; simp only [Act.put, List.setIfInBounds_toArray, List.set_cons_succ, List.set_cons_zero])
        | ((with_reducible (show wpQuiet _ _ _ _ (⟨_, .load 31 (.tmp 501), _, _, _, _⟩ :: _) _)); refine wpQuiet_load_mid (by kernel_rfl) 31 _ rfl N 56 rfl (prc su) _ (fun _ ⟨x, hx⟩ => hx ▸ Y5.out x) Yba.underlying31 rfl (info31 _) ?_; simp only [Act.put, List.setIfInBounds_toArray, List.set_cons_succ, List.set_cons_zero])
        | ((with_reducible (show wpQuiet _ _ _ _ (⟨_, .binOp .eql 31 (.tmp 483) _ _, _, _, _, _⟩ :: _) _)); refine wpQuiet_cmp (by kernel_rfl) .eql _ _ 31 _ rfl (prc se).toArray (prc se).toArray rfl rfl eg31 _ E0.out ?_; simp only [Act.put, List.setIfInBounds_toArray, List.set_cons_succ, List.set_cons_zero])
        | ((with_reducible (show wpQuiet _ _ _ _ (⟨_, .binOp .eql 31 (.tmp 492) _ _, _, _, _, _⟩ :: _) _)); refine wpQuiet_cmp (by kernel_rfl) .eql _ _ 31 _ rfl (prc pr).toArray (prc pr).toArray rfl rfl eg31 _ E1.out ?_; simp only [Act.put, List.setIfInBounds_toArray, List.set_cons_succ, List.set_cons_zero])
        | ((with_reducible (show wpQuiet _ _ _ _ (⟨_, .binOp .eql 31 (.tmp 502) _ _, _, _, _, _⟩ :: _) _)); refine wpQuiet_cmp (by kernel_rfl) .eql _ _ 31 _ rfl (prc su).toArray (prc su).toArray rfl rfl eg31 _ E2.out ?_; simp only [Act.put, List.setIfInBounds_toArray, List.set_cons_succ, List.set_cons_zero])
        | go_big_quiet_step (fail)); refine wpQuiet_nil ?_)
      refine wpPlan_nil ?_
      go_wp2_with fail
      go_ret
      exact ⟨by simp, (F15.out.below j3).bx.bel⟩


end Go.Proofs.Ybulkdsmy
