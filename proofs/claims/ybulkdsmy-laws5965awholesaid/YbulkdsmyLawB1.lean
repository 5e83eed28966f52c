import Derived.Test.YbulkdsmyLawB2
import Derived.Deep.CutBlock
set_option linter.unusedSimpArgs false
set_option linter.unusedVariables false
namespace Go.Proofs.Ybulkdsmy
open Go.RowKit

set_option maxHeartbeats 8000000 in
set_option maxRecDepth 100000 in
theorem law_back {y13 y14 y15 y16 y17 y23 y26 y28 y36 y37 y38 y39 y40 y41 y42 y43 y44 y45 y46 y47 y48 y49 y50 y51 y52 y53 y54 y55 y56 y57 y58 y59 y60 y61 y62 y63 y64 y65 y66 y67 y68 y69 y70 y71 y72 y73 y74 y75 y76 y77 y78 y79 y80 y81 y82 y83 y84 y85 y86 y87 y88 y89 y90 y91 y92 y93 y94 y95 y96 y97 y98 y99 y100 y101 y102 y103 y104 y105 y106 y107 y108 y109 y110 y111 y112 y113 y114 y115 y116 y117 y118 y119 y120 y121 y122 y123 y124 y125 y126 y127 y128 y129 y130 y131 y132 y133 y134 y135 y136 y137 y138 y139 y140 y141 y142 y143 y144 y145 y146 y147 y148 y149 y150 y151 y152 y153 y154 y155 y156 y157 y158 y159 y160 y161 y162 y163 y164 y165 y166 y167 y168 y169 y170 y171 y172 y173 y174 y175 y176 y177 y178 y179 y180 y181 y182 y183 y184 y185 y186 y187 y188 y189 y190 y191 y192 y193 y194 y195 y196 y197 y198 y199 y200 y201 y202 y203 y204 y205 y206 y207 y208 y209 y210 y211 y212 y213 y214 y215 y216 y217 y218 y219 y220 y221 y222 y223 y224 y225 y226 y227 y228 y229 y230 y231 y232 y233 y234 y235 y236 y237 y238 y239 y240 y241 y242 y243 y244 y245 y246 y247 y248 y249 y250 y251 y252 y253 y254 y255 y256 y257 y258 y259 y260 y261 y262 y263 y264 y265 y266 y267 y268 y269 y270 y271 y272 y273 y274 y275 y276 y277 y278 y279 y280 y281 y282 y283 y284 y285 y286 y287 y288 y289 y290 y291 y292 y293 y294 y295 y296 y297 y298 y299 y300 y301 y302 y303 y304 y305 y306 y307 y308 y309 y310 y311 y312 y313 y314 y315 y316 y317 y318 y319 y320 y321 y322 y323 y324 y325 y326 y327 y328 y329 y330 y331 y332 y333 y334 y335 y336 y337 y338 y339 y340 y341 y342 y343 y344 y345 y346 y347 y348 y349 y350 y351 y352 y353 y354 y355 y356 y357 y358 y359 y360 y361 y362 y363 y364 y365 y366 y367 y368 y369 y370 y371 y372 y373 y374 y375 y376 y377 y378 y379 y380 y381 y382 y383 y384 y385 y386 y387 y388 y389 y390 y391 y392 y393 y394 y395 y396 y397 y398 y399 y400 y401 y402 y403 y404 y405 y406 y407 y408 y409 y410 y411 y412 y413 y414 y415 y416 y417 y418 y419 y420 y421 y422 y423 y424 y425 y426 y427 y428 y429 y430 y431 y432 y433 y434 y435 y436 y437 y438 y439 y440 y441 y442 y443 y444 y445 y446 y447 y448 y449 y450 y451 y452 y453 y454 y455 y456 y457 y458 y459 y460 y461 y462 y463 y464 y465 y466 y467 y468 y469 y470 y471 y472 y473 y474 y475 y476 y477 y478 y479 y480 y481 y482 y483 y484 y485 y486 y487 y488 y489 y490 y491 y492 y493 y494 y495 y496 y497 y498 y499 y500 y501 y502 y503 y504 y505 y506 y507 y508 y509 y510 y511 y512 y513 y514 y515 : Value} (a1 a2 a3 : Option Addr) (c1 c2 c3 n1 n2 n3 : Nat) (PL OL : List Pr) (Q : List Sl) (se pr su tp ts : Pr) (pg : Bool) (md : Int) (w : World) (G R qg T TW N x : Nat) (cv : Value) (M : Int) (ta : Option Addr) (W7 : World) (HI : Hid (In w a1 a2 a3 PL OL Q se pr su tp ts)) (Hn1 : Hid (n1 = PL.length)) (Hn2 : Hid (n2 = OL.length)) (Hn3 : Hid (n3 = Q.length)) (HC1 : Hid (a1 = none → n1 = 0 ∧ c1 = 0)) (hfew : n1 + n2 + n3 ≤ 4096) (hM : 0 ≤ M ∧ M ≤ 2) (F : Hid (F7 w W7 PL se pr su tp ts pg n1 G cv n3 qg N (x + 3) (x + 1) M ta T TW x (links0 se pr su pg PL) (Q.filter (keep (links0 se pr su pg PL))))) (sN : x + 4 ≤ N) :
    Code.wp Yba.prog (dropC 20 (Yba.f3.body.getD .skip)) (bodyPost Yba.prog Yba.f3 fun e w' => e = .returned (.bool true) ∧ Below w.heap.size w w') ⟨#[.agg (rwc se).toArray, .agg (rwc pr).toArray, .agg (rwc su).toArray, .bool pg, .slice a1 n1 c1, .slice a2 n2 c2, .slice a3 n3 c3, .int .u8 md, .agg (rwc tp).toArray, .agg (rwc ts).toArray, .pointer (some ⟨w.heap.size, 0, none⟩), .pointer (some ⟨w.heap.size + 1, 0, none⟩), .pointer (some ⟨w.heap.size + 1 + 1, 0, none⟩), y13, y14, y15, y16, y17, .pointer (some ⟨w.heap.size + 1 + 1 + 1, 0, none⟩), .pointer (some ⟨w.heap.size + 1 + 1 + 1 + 1, 0, none⟩), .bool false, .func (.func 4) #[] #[], .slice (some ⟨G, 0, none⟩) n1 n1, y23, cv, .slice (some ⟨R, 0, none⟩) n2 n2, y26, .slice (some ⟨qg, 0, none⟩) n3 n3, y28, .int .i64 M, .pointer ta, .pointer (some ⟨TW, 0, none⟩), .pointer (some ⟨x + 1, 0, none⟩), .pointer (some ⟨x + 1 + 1, 0, none⟩), .pointer (some ⟨x + 1 + 1 + 1, 0, none⟩), .pointer (some ⟨N, 0, none⟩), y36, y37, y38, y39, y40, y41, y42, y43, y44, y45, y46, y47, y48, y49, y50, y51, y52, y53, y54, y55, y56, y57, y58, y59, y60, y61, y62, y63, y64, y65, y66, y67, y68, y69, y70, y71, y72, y73, y74, y75, y76, y77, y78, y79, y80, y81, y82, y83, y84, y85, y86, y87, y88, y89, y90, y91, y92, y93, y94, y95, y96, y97, y98, y99, y100, y101, y102, y103, y104, y105, y106, y107, y108, y109, y110, y111, y112, y113, y114, y115, y116, y117, y118, y119, y120, y121, y122, y123, y124, y125, y126, y127, y128, y129, y130, y131, y132, y133, y134, y135, y136, y137, y138, y139, y140, y141, y142, y143, y144, y145, y146, y147, y148, y149, y150, y151, y152, y153, y154, y155, y156, y157, y158, y159, y160, y161, y162, y163, y164, y165, y166, y167, y168, y169, y170, y171, y172, y173, y174, y175, y176, y177, y178, y179, y180, y181, y182, y183, y184, y185, y186, y187, y188, y189, y190, y191, y192, y193, y194, y195, y196, y197, y198, y199, y200, y201, y202, y203, y204, y205, y206, y207, y208, y209, y210, y211, y212, y213, y214, y215, y216, y217, y218, y219, y220, y221, y222, y223, y224, y225, y226, y227, y228, y229, y230, y231, y232, y233, y234, y235, y236, y237, y238, y239, y240, y241, y242, y243, y244, y245, y246, y247, y248, y249, y250, y251, y252, y253, y254, y255, y256, y257, y258, y259, y260, y261, y262, y263, y264, y265, y266, y267, y268, y269, y270, y271, y272, y273, y274, y275, y276, y277, y278, y279, y280, y281, y282, y283, y284, y285, y286, y287, y288, y289, y290, y291, y292, y293, y294, y295, y296, y297, y298, y299, y300, y301, y302, y303, y304, y305, y306, y307, y308, y309, y310, y311, y312, y313, y314, y315, y316, y317, y318, y319, y320, y321, y322, y323, y324, y325, y326, y327, y328, y329, y330, y331, y332, y333, y334, y335, y336, y337, y338, y339, y340, y341, y342, y343, y344, y345, y346, y347, y348, y349, y350, y351, y352, y353, y354, y355, y356, y357, y358, y359, y360, y361, y362, y363, y364, y365, y366, y367, y368, y369, y370, y371, y372, y373, y374, y375, y376, y377, y378, y379, y380, y381, y382, y383, y384, y385, y386, y387, y388, y389, y390, y391, y392, y393, y394, y395, y396, y397, y398, y399, y400, y401, y402, y403, y404, y405, y406, y407, y408, y409, y410, y411, y412, y413, y414, y415, y416, y417, y418, y419, y420, y421, y422, y423, y424, y425, y426, y427, y428, y429, y430, y431, y432, y433, y434, y435, y436, y437, y438, y439, y440, y441, y442, y443, y444, y445, y446, y447, y448, y449, y450, y451, y452, y453, y454, y455, y456, y457, y458, y459, y460, y461, y462, y463, y464, y465, y466, y467, y468, y469, y470, y471, y472, y473, y474, y475, y476, y477, y478, y479, y480, y481, y482, y483, y484, y485, y486, y487, y488, y489, y490, y491, y492, y493, y494, y495, y496, y497, y498, y499, y500, y501, y502, y503, y504, y505, y506, y507, y508, y509, y510, y511, y512, y513, y514, y515], []⟩ W7 := by
  conv => arg 2; whnf
  obtain ⟨i23, hi23, hz23, hs23, hb23⟩ := info_parts Yba.info23
  obtain ⟨i38, hi38, hz38, hs38, hb38⟩ := info_parts Ybulkdsmy.Yba.info38
  have I23 := hid (And.intro hi23 (And.intro hz23 (And.intro hs23 hb23)))
  have I38 := hid (And.intro hi38 (And.intro hz38 (And.intro hs38 hb38)))
  clear hi23 hz23 hs23 hb23 hi38 hz38 hs38 hb38
  have hLE : (links0 se pr su pg PL) = linked se ((if pg then [] else [pr]) ++ [su] ++ PL) := rfl
  have hLL := links0_len se pr su pg PL
  generalize links0 se pr su pg PL = L at F hLE hLL
  go_upto_if 187 with fail
  go_cut [36] from 188 to 191 (fun v36 w' => InB W7 w' ∧ w'.ownsRow W7.heap.size 23 2 v36 (if pg then ([] : List Pr) else [pr]).length (rawc (if pg then [] else [pr])))
  case first =>
    cases pg with
    | true =>
      go_wp2_with fail
      go_meet
      case rel => exact ⟨InB.refl _, own_nil _ _ _ _⟩
    | false =>
      have H1 := hid F.out.bx.b1
      have own0 := own_nil (W7.alloc (.cells (rwc pr).toArray 23)) W7.heap.size 23 2
      go_wp2_with (first
        | ((with_reducible (show wpList _ _ _ (⟨_, .load 23 _, _, _, _, _⟩ :: _) _ _)); refine wpList_load_mid rfl 23 _ rfl (w.heap.size + 1) 0 rfl (rwc pr) _ H1 Yba.underlying23 rfl (info23 _) ?_)
        | ((with_reducible (show wpList _ _ _ (⟨_, .buildSlice 24 1 _, _, _, _, _⟩ :: _) _ _)); refine wpList_buildSliceAs rfl 24 1 _ rfl (.slice (some ⟨W7.heap.size, 0, none⟩) 1 1) (W7.alloc (.cells (rwc pr).toArray 23)) (by kernel_rfl) ?_)
        | (at_builtin; refine wpList_append_own_at _ rfl _ _ 24 rfl W7.heap.size 23 i23 (.agg (rwc ⟨ByteArray.empty, 0⟩).toArray) 2 24 Yba.underlying24 I23.out.1 I23.out.2.1 I23.out.2.2.1 I23.out.2.2.2 (by simp [Value.cells, rwc_len]) (by decide) (.slice none 0 0) 0 [] rfl own0 ⟨W7.heap.size, 0, none⟩ 1 1 (rwc pr) rfl rfl new_news (rwc_one _) (by unfold maxLen; omega) (by omega) (by simp) ?_; intro v36 w36 own1 gr1 _ _))
      go_meet
      case rel => exact ⟨((Below.refl _ _).alloc (Nat.le_refl _) _).grown gr1 (by simp) (fun k hk => by cases hk), own1⟩

  case rest =>
    obtain ⟨i7, own36⟩ := hcut
    have O36 := hid own36
    clear own36
    have H2 := hid (range_kept_below i7 F.out.bx.b2)
    have lpg : (if pg then ([] : List Pr) else [pr]).length ≤ 1 := by cases pg <;> simp
    have own0 := own_low O36.out ((Below.refl wc.heap.size wc).alloc (Nat.le_refl _) (.cells (rwc su).toArray 23)) (fun g hg => ownBlock_lt O36.out hg)
    have O37 := hid own0
    clear own0
    go_upto_region 41 with (first
      | ((with_reducible (show wpList _ _ _ (⟨_, .load 23 _, _, _, _, _⟩ :: _) _ _)); refine wpList_load_mid rfl 23 _ rfl (w.heap.size + 1 + 1) 0 rfl (rwc su) _ H2 Yba.underlying23 rfl (info23 _) ?_)
      | ((with_reducible (show wpList _ _ _ (⟨_, .buildSlice 24 1 _, _, _, _, _⟩ :: _) _ _)); refine wpList_buildSliceAs rfl 24 1 _ rfl (.slice (some ⟨wc.heap.size, 0, none⟩) 1 1) (wc.alloc (.cells (rwc su).toArray 23)) (by kernel_rfl) ?_)
      | (at_builtin; refine wpList_append_own_at _ rfl _ _ 24 rfl W7.heap.size 23 i23 (.agg (rwc ⟨ByteArray.empty, 0⟩).toArray) 2 24 Yba.underlying24 I23.out.1 I23.out.2.1 I23.out.2.2.1 I23.out.2.2.2 (by simp [Value.cells, rwc_len]) (by decide) u36 _ _ rfl O37.out ⟨wc.heap.size, 0, none⟩ 1 1 (rwc su) rfl rfl new_news (rwc_one _) (by unfold maxLen; omega) (by omega) (by have := i7.size; simp; omega) ?_; intro v40 w40 own1 gr1 _ _))
    have i40 : InB W7 w40 := Below.trans i7 (Below.trans ((Below.refl W7.heap.size wc).alloc i7.size _) (grown_below gr1 (n := W7.heap.size) (fun k hk => own_ge O37.out k hk) (by have := i7.size; simp; omega)))
    have O40 := hid (show w40.ownsRow W7.heap.size 23 2 v40 ((if pg then ([] : List Pr) else [pr]) ++ [su]).length (rawc ((if pg then [] else [pr]) ++ [su])) by rw [rawc_snoc, List.length_append]; exact own1)
    clear own1 gr1 O37 O36 H2 i7
    obtain ⟨C, hC⟩ : ∃ C, C = (if pg then [] else [pr]) ++ [su] ++ PL := ⟨_, rfl⟩
    rw [← hC] at hLE
    have hCl : C.length ≤ PL.length + 2 := by rw [hC]; simp only [List.length_append, List.length_cons, List.length_nil]; omega
    go_cut [36] from 196 to 198 (fun v36 w' => InB W7 w' ∧ w'.ownsRow W7.heap.size 23 2 v36 C.length (rawc C))
    case first =>
      cases a1 with
      | none =>
        have H01 := hid (HC1.out rfl)
        have hPL : PL = [] := List.length_eq_zero_iff.1 (Hn1.out.symm.trans H01.out.1)
        have H00 := hid (show Value.slice none n1 c1 = .slice none 0 0 by rw [H01.out.1, H01.out.2])
        go_wp2_with (at_builtin; refine wpList_append_own_none rfl _ _ 24 rfl W7.heap.size 23 i23 2 Yba.underlying24 I23.out.1 v40 _ _ rfl O40.out H00.out ?_)
        go_meet
        case rel => exact ⟨i40, by rw [hC, hPL, List.append_nil]; exact O40.out⟩
      | some ad =>
        have HNW := hid (show ∀ j u, (rawc PL)[j]? = some u → w40.cell? (ad.add j) = some u from fun j u hu => by
          obtain ⟨i, p, r, h1, h2, h3⟩ := rawc_in PL j u hu
          obtain ⟨g, o, e, hr⟩ := HI.out.pl i p h1
          have e' := Option.some.inj e
          have hr' := range_low (F.out.bx.on i40 F.out.bx.sz).bel (World.block_lt_of_cell? w _ (hr r u h2)) hr
          rw [e', add_at, h3, ← Nat.add_assoc]
          exact hr' r u h2)
        have hlpg2 : ((if pg then ([] : List Pr) else [pr]) ++ [su]).length ≤ 2 := by simp only [List.length_append, List.length_cons, List.length_nil]; omega
        go_wp2_with (at_builtin; refine wpList_append_own_at _ rfl _ _ 24 rfl W7.heap.size 23 i23 (.agg (rwc ⟨ByteArray.empty, 0⟩).toArray) 2 24 Yba.underlying24 I23.out.1 I23.out.2.1 I23.out.2.2.1 I23.out.2.2.2 (by simp [Value.cells, rwc_len]) (by decide) v40 _ _ rfl O40.out ad n1 c1 (rawc PL) rfl (by rw [rawc_len, Hn1.out]) HNW.out (rawc_one _) (by unfold maxLen; omega) (by omega) i40.size ?_; intro v41 w41 own1 gr1 _ _)
        go_meet
        case rel => exact ⟨Below.trans i40 (grown_below gr1 (n := W7.heap.size) (fun k hk => own_ge O40.out k hk) i40.size), by rw [hC, rawc_append, List.length_append, ← Hn1.out]; exact own1⟩

    case rest =>
      obtain ⟨i8, own36⟩ := hcut
      clear O40 i40
      obtain ⟨sc, capc, ev, hcs⟩ := own_raw own36
      subst ev
      have HCS := hid hcs
      have F8 := hid (F.out.below i8)
      have hnc : C.length ≤ 5000 := by have := HI.out.few; omega
      have okC : Hid (∀ q ∈ C, q.ok) := hid (by
        intro q hq
        rw [hC] at hq
        rcases List.mem_append.1 hq with h1 | h1
        · rcases List.mem_append.1 h1 with h2 | h2
          · cases pg
            · have : q = pr := by simpa using h2
              rw [this]; exact HI.out.okpr
            · simp at h2
          · have : q = su := by simpa using h2
            rw [this]; exact HI.out.oksu
        · exact HI.out.okPL q h1)
      clear F own36 hcs hC hCl lpg
      generalize hW8 : wc = W8 at i8 HCS F8 ⊢
      clear hW8
      obtain ⟨nc, HNC'⟩ : ∃ nc, nc = C.length := ⟨_, rfl⟩
      have HNC := hid HNC'
      rw [← HNC'] at hnc ⊢
      clear HNC'
      go_wp2_with fail
      go_loopw [37, 38] (fun v37 i w' => ∃ (m : Nat), m ≤ nc ∧ i = .int .i64 m ∧ InB W8 w' ∧ w'.ownsRow W8.heap.size 23 2 v37 (linked se (C.take m)).length (rawc (linked se (C.take m)))) (fun _ i _ => nc - (intOf i).toNat)
      case atStart => exact ⟨0, Nat.zero_le _, rfl, InB.refl _, own_nil _ _ _ _⟩
      obtain ⟨m, hm, rfl, i9, own37⟩ := hrel
      have O37 := hid own37
      clear own37
      by_cases hlt : m < nc
      · obtain ⟨p, hp⟩ : ∃ p, C[m]? = some p := ⟨C[m]'(by have := HNC.out; omega), List.getElem?_eq_getElem (by have := HNC.out; omega)⟩
        have hli : (m : Int) < (nc : Int) := by omega
        obtain ⟨g, rfl, hr⟩ := HCS.out m p hp
        have HR := hid (range_kept_below i9 hr)
        have okp := okC.out p (List.mem_of_getElem? hp)
        have HP := hid hp
        have hTS : C.take (m + 1) = C.take m ++ [p] := by rw [List.take_add_one, hp]; rfl
        clear hr hp
        go_upto_region 47 with (first
          | ((with_reducible (show wpList _ _ _ (⟨_, .load 23 _, _, _, _, _⟩ :: _) _ _)); refine wpList_load_mid rfl 23 _ rfl g (m * 2) rfl (rwc p) _ HR Yba.underlying23 rfl (info23 _) ?_)
          | ((with_reducible (show wpList _ _ _ (⟨_, .alloc 23, _, _, _, _⟩ :: _) _ _)); refine wpList_newvar rfl rfl 23 rfl _ _ rfl (rwc zp).toArray (rwc p).toArray al23z rfl rfl (info23a _) rfl (one23 _) ?_))
        have bX : Below wr.heap.size wr (wr.alloc (.cells (rwc p).toArray 23)) := (Below.refl _ _).alloc (Nat.le_refl _) _
        have iX : InB W8 (wr.alloc (.cells (rwc p).toArray 23)) := Below.trans i9 (bX.mono i9.size)
        have HV := hid (range_new wr (rwc p) 23)
        have c39 := range_cell HV.out (j := 1) rfl
        have cse := range_cell (range_kept_below iX F8.out.bx.b0) (j := 1) rfl
        have OX := hid (own_low O37.out bX (fun g hg => ownBlock_lt O37.out hg))
        rw [Nat.zero_add] at c39 cse
        clear HR O37 bX i9
        generalize wr.alloc (.cells (rwc p).toArray 23) = WX at iX HV c39 cse OX ⊢
        generalize wr.heap.size = D at HV c39 ⊢
        have okb := okp.1
        have okb2 := okp.2.1
        have oks := HI.out.okse.1
        have oks2 := HI.out.okse.2.1
        by_cases hb : p.b = se.b
        · have hbb : (p.b == se.b) = true := by simp [hb]
          go_wp2_with fail
          go_roundw
          case rel => exact ⟨m + 1, by omega, by go_num, iX, by rw [hTS, linked_snoc, if_pos (.inl hb)]; exact OX.out⟩
          case measure => simp [intOf]; omega
        · have hbb : (p.b == se.b) = false := by simp [hb]
          go_wp2_with fail
          go_loopw [40, 41] (fun d j w' => ∃ k : Nat, k ≤ m ∧ j = .int .i64 k ∧ d = .bool false ∧ has (C.take k) p.b = false ∧ InB WX w') (fun _ j _ => m - (intOf j).toNat)
          case atStart => exact ⟨0, Nat.zero_le _, rfl, rfl, rfl, InB.refl _⟩
          obtain ⟨k, hk, rfl, rfl, hno, iY⟩ := hrel
          by_cases hkm : k < m
          · obtain ⟨q, hq⟩ : ∃ q, C[k]? = some q := ⟨C[k]'(by have := HNC.out; omega), List.getElem?_eq_getElem (by have := HNC.out; omega)⟩
            have hki : (k : Int) < (m : Int) := by omega
            have hkn : (k : Int) < (nc : Int) := by omega
            obtain ⟨g', eg', hrq⟩ := HCS.out k q hq
            cases eg'
            have HQ := hid (range_kept_below iY (range_kept_below iX hrq))
            have HD := hid (range_kept_below iY HV.out)
            have okq := okC.out q (List.mem_of_getElem? hq)
            have okq1 := okq.1
            have okq2 := okq.2.1
            have HQ' := hid hq
            clear hrq hq okq
            go_upto_region 52 with fail
            by_cases hqb : q.b = p.b
            · have hqq : (q.b == p.b) = true := by simp [hqb]
              let S : World → Prop := fun w' => InB wr w'
              have s0 : S wr.drew := drew_below wr
              haveI : Nonempty (Wld S) := ⟨⟨_, s0⟩⟩

              have x1 : ∀ x : Wld S, x.w.cell? ⟨g, k * 2 + 1, none⟩ = some (.int .u8 q.b) := fun x => range_cell (range_kept_below x.h HQ.out) (j := 1) rfl
              have x2 : ∀ x : Wld S, x.w.cell? ⟨D, 1, none⟩ = some (.int .u8 p.b) := fun x => by have h := range_cell (range_kept_below x.h HD.out) (j := 1) rfl; rwa [Nat.zero_add] at h
              refine wp_region_plan 8 [(true, 0), (true, 1), (true, 2), (true, 3), (true, 4), (true, 5), (true, 6), (true, 7)] (fun w' => ∃ x : Wld S, w' = x.w) (by kernel_rfl) (by kernel_rfl) (fun _ _ d _ _ h => by cases d <;> exact h) (inS s0) ?_
              repeat (refine wpPlan_q (by rfl) ?_; dsimp only [List.getElem_toArray, List.getElem_cons_zero, List.getElem_cons_succ]; (first
                | go_big_quiet_step (fail)); refine wpQuiet_nil ?_)
              refine wpPlan_nil ?_
              go_wp2_with fail
              go_roundw
              case rel =>
                have hh : has (C.take m) p.b = true := has_take_le (show k + 1 ≤ m by omega) (by rw [has_take_succ HQ'.out, hqb]; simp)
                have bY := Below.trans (InB.trans iX iY) ((drew_below wr).mono (InB.trans iX iY).size)
                exact ⟨m + 1, by omega, by go_num, bY, by rw [hTS, linked_snoc, if_pos (.inr hh)]; exact own_low OX.out (Below.trans iY ((drew_below wr).mono iY.size)) (fun g hg => ownBlock_lt OX.out hg)⟩
              case measure => simp [intOf]; omega
            · have hqq : (q.b == p.b) = false := by simp [hqb]
              let S : World → Prop := fun w' => InB wr w'
              have s0 : S wr.drew := drew_below wr
              haveI : Nonempty (Wld S) := ⟨⟨_, s0⟩⟩

              have x1 : ∀ x : Wld S, x.w.cell? ⟨g, k * 2 + 1, none⟩ = some (.int .u8 q.b) := fun x => range_cell (range_kept_below x.h HQ.out) (j := 1) rfl
              have x2 : ∀ x : Wld S, x.w.cell? ⟨D, 1, none⟩ = some (.int .u8 p.b) := fun x => by have h := range_cell (range_kept_below x.h HD.out) (j := 1) rfl; rwa [Nat.zero_add] at h
              refine wp_region_plan 8 [(true, 0), (true, 1), (true, 2), (true, 3), (true, 4), (true, 5), (true, 6), (true, 7)] (fun w' => ∃ x : Wld S, w' = x.w) (by kernel_rfl) (by kernel_rfl) (fun _ _ d _ _ h => by cases d <;> exact h) (inS s0) ?_
              repeat (refine wpPlan_q (by rfl) ?_; dsimp only [List.getElem_toArray, List.getElem_cons_zero, List.getElem_cons_succ]; (first
                | go_big_quiet_step (fail)); refine wpQuiet_nil ?_)
              refine wpPlan_nil ?_
              go_wp2_with fail
              go_roundw
              case rel => exact ⟨k + 1, by omega, by go_num, rfl, by rw [has_take_succ HQ'.out, hno]; simp [hqb], Below.trans iY ((drew_below wr).mono iY.size)⟩
              case measure => simp [intOf]; omega
          · have hkm' : k = m := by omega
            have hno' : has (C.take m) p.b = false := by rw [← hkm']; exact hno
            have HD := hid (range_kept_below iY HV.out)
            have OY := hid (own_low OX.out iY (fun g hg => ownBlock_lt OX.out hg))
            have OZ := hid (own_low OY.out ((Below.refl wr.heap.size wr).alloc (Nat.le_refl _) (.cells (rwc p).toArray 23)) (fun g hg => ownBlock_lt OY.out hg))
            have hll : (linked se (C.take m)).length ≤ 5000 := by have h1 := linked_len se (C.take m); have h2 := List.length_take_le m C; have h3 := HNC.out; omega
            have hsY : W8.heap.size ≤ wr.heap.size := Nat.le_trans iX.size iY.size
            go_wp2_with (first
              | ((with_reducible (show wpList _ _ _ (⟨_, .load 23 _, _, _, _, _⟩ :: _) _ _)); refine wpList_load_mid rfl 23 _ rfl D 0 rfl (rwc p) _ HD Yba.underlying23 rfl (info23 _) ?_)
              | ((with_reducible (show wpList _ _ _ (⟨_, .buildSlice 24 1 _, _, _, _, _⟩ :: _) _ _)); refine wpList_buildSliceAs rfl 24 1 _ rfl (.slice (some ⟨wr.heap.size, 0, none⟩) 1 1) (wr.alloc (.cells (rwc p).toArray 23)) (by kernel_rfl) ?_)
              | (at_builtin; refine wpList_append_own_at _ rfl _ _ 24 rfl W8.heap.size 23 i23 (.agg (rwc ⟨ByteArray.empty, 0⟩).toArray) 2 24 Yba.underlying24 I23.out.1 I23.out.2.1 I23.out.2.2.1 I23.out.2.2.2 (by simp [Value.cells, rwc_len]) (by decide) _ _ _ rfl OZ.out ⟨wr.heap.size, 0, none⟩ 1 1 (rwc p) rfl rfl new_news (rwc_one _) (by unfold maxLen; omega) (by omega) (by simp; omega) ?_; intro v55 w55 own1 gr1 _ _))
            go_roundw
            case rel =>
              have bZ : Below W8.heap.size wr w55 := Below.trans ((Below.refl W8.heap.size wr).alloc hsY _) (grown_below gr1 (n := W8.heap.size) (fun k hk => own_ge OZ.out k hk) (by simp; omega))
              exact ⟨m + 1, by omega, by go_num, Below.trans (InB.trans iX iY) bZ, by rw [hTS, linked_snoc, if_neg (by intro h; rcases h with h | h; exact hb h; rw [hno'] at h; cases h), rawc_snoc, List.length_append]; exact own1⟩
            case measure => simp [intOf]; omega
      go_upto_region 56 with fail
      have hmn : m = nc := by omega
      have OW := hid (show wr.ownsRow W8.heap.size 23 2 u37 L.length (rawc L) by
        have h := O37.out
        rw [hmn, HNC.out, List.take_length, ← hLE] at h
        exact h)
      clear O37 hlt hm hmn HCS
      obtain ⟨sw, capw, ev, hws⟩ := own_raw OW.out
      subst ev
      have HWS := hid hws
      have F9 := hid (F8.out.below i9)
      have okL : Hid (∀ q ∈ L, q.ok) := hid (fun q hq => okC.out q (linked_sub se C q (hLE ▸ hq)))
      have hnl : L.length ≤ 5000 := by have := HI.out.few; omega
      clear OW hws F8 i9 okC hLE HNC
      generalize wr = W9 at HWS F9 ⊢
      obtain ⟨nl, HNL'⟩ : ∃ nl, nl = L.length := ⟨_, rfl⟩
      have HNL := hid HNL'
      obtain ⟨sl, capl, hlc, hlp⟩ := F9.out.links
      have HLP := hid hlp
      rw [← HNL'] at hnl hlc ⊢
      clear HNL' hlp
      go_wp2_with fail
      go_loopw [243] (fun i w' => ∃ m : Nat, m ≤ nl ∧ i = .int .i64 m ∧ InB W9 w') (fun i _ => nl - (intOf i).toNat)
      case atStart => exact ⟨0, Nat.zero_le _, rfl, InB.refl _⟩
      obtain ⟨m, hm, rfl, i10⟩ := hrel
      by_cases hlt : m < nl
      · obtain ⟨p, hp⟩ : ∃ p, L[m]? = some p := ⟨L[m]'(by have := HNL.out; omega), List.getElem?_eq_getElem (by have := HNL.out; omega)⟩
        have hli : (m : Int) < (nl : Int) := by omega
        obtain ⟨g1, rfl, hr1⟩ := HLP.out m p hp
        obtain ⟨g2, rfl, hr2⟩ := HWS.out m p hp
        have okp := okL.out p (List.mem_of_getElem? hp)
        have E1 := hid (neq31_self p okp)
        clear hp okp
        go_upto_region 61 with fail
        let S : World → Prop := fun w' => InB wr w'
        have s0 : S wr.drew := drew_below wr
        haveI : Nonempty (Wld S) := ⟨⟨_, s0⟩⟩

        have x1 : ∀ x : Wld S, x.w.cell? ⟨N, 6, none⟩ = some (.slice (some ⟨g1, 0, none⟩) nl capl) := fun x => (Kept.ofBelow (E := fun _ => False) x.h).cell (fun h => h) ((Kept.ofBelow (E := fun _ => False) i10).cell (fun h => h) hlc)
        have Y1 := hid (show ∀ x : Wld S, x.w.rangeAt g1 (m * 21) (prc p) from fun x => range_kept_below x.h (range_kept_below i10 hr1))
        have Y2 := hid (show ∀ x : Wld S, x.w.rangeAt g2 (m * 2) (rwc p) from fun x => range_kept_below x.h (range_kept_below i10 hr2))
        refine wp_region_plan 14 [(true, 0), (true, 1), (true, 2), (true, 3), (true, 4), (true, 5), (true, 6), (true, 7), (true, 8), (true, 9), (true, 10), (true, 11), (false, 12), (true, 13)] (fun w' => ∃ x : Wld S, w' = x.w) (by kernel_rfl) (by kernel_rfl) (fun _ _ d _ _ h => by cases d <;> exact h) (inS s0) ?_
        repeat (refine wpPlan_q (by rfl) ?_; dsimp only [List.getElem_toArray, List.getElem_cons_zero, List.getElem_cons_succ]; (first
          | ((with_reducible (show wpQuiet _ _ _ _ (⟨_, .load 31 (.tmp 251), _, _, _, _⟩ :: _) _)); refine wpQuiet_load_mid rfl 31 _ rfl g1 (m * 21) rfl (prc p) _ (fun _ ⟨x, hx⟩ => hx ▸ Y1.out x) Yba.underlying31 rfl (info31 _) ?_; simp only [Act.put, List.setIfInBounds_toArray, List.set_cons_succ, List.set_cons_zero])
          | ((with_reducible (show wpQuiet _ _ _ _ (⟨_, .load 23 (.tmp 256), _, _, _, _⟩ :: _) _)); refine wpQuiet_load_mid rfl 23 _ rfl g2 (m * 2) rfl (rwc p) _ (fun _ ⟨x, hx⟩ => hx ▸ Y2.out x) Yba.underlying23 rfl (info23 _) ?_; simp only [Act.put, List.setIfInBounds_toArray, List.set_cons_succ, List.set_cons_zero])
          | ((with_reducible (show wpQuiet _ _ _ _ (⟨_, .binOp .neq 31 _ _ _, _, _, _, _⟩ :: _) _)); refine wpQuiet_cmp rfl .neq _ _ 31 _ rfl (prc p).toArray (prc p).toArray rfl rfl eg31 _ E1.out ?_; simp only [Act.put, List.setIfInBounds_toArray, List.set_cons_succ, List.set_cons_zero])
          | go_big_quiet_step (fail)); refine wpQuiet_nil ?_)
        refine wpPlan_e (by rfl) ?_
        dsimp only [List.getElem_toArray, List.getElem_cons_zero, List.getElem_cons_succ]
        go_wp2_with (go_at_call 4; refine (peer_raw p wr.drew).mono ?_; rintro e v1 ⟨rfl, hb_v1⟩)
        have j1 : InB _ v1 := below_trans (drew_below wr) hb_v1
        refine onward_normal (fun _ => inS (show S v1 from j1)) ?_

        repeat (refine wpPlan_q (by rfl) ?_; dsimp only [List.getElem_toArray, List.getElem_cons_zero, List.getElem_cons_succ]; (first
          | ((with_reducible (show wpQuiet _ _ _ _ (⟨_, .load 31 (.tmp 251), _, _, _, _⟩ :: _) _)); refine wpQuiet_load_mid rfl 31 _ rfl g1 (m * 21) rfl (prc p) _ (fun _ ⟨x, hx⟩ => hx ▸ Y1.out x) Yba.underlying31 rfl (info31 _) ?_; simp only [Act.put, List.setIfInBounds_toArray, List.set_cons_succ, List.set_cons_zero])
          | ((with_reducible (show wpQuiet _ _ _ _ (⟨_, .load 23 (.tmp 256), _, _, _, _⟩ :: _) _)); refine wpQuiet_load_mid rfl 23 _ rfl g2 (m * 2) rfl (rwc p) _ (fun _ ⟨x, hx⟩ => hx ▸ Y2.out x) Yba.underlying23 rfl (info23 _) ?_; simp only [Act.put, List.setIfInBounds_toArray, List.set_cons_succ, List.set_cons_zero])
          | ((with_reducible (show wpQuiet _ _ _ _ (⟨_, .binOp .neq 31 _ _ _, _, _, _, _⟩ :: _) _)); refine wpQuiet_cmp rfl .neq _ _ 31 _ rfl (prc p).toArray (prc p).toArray rfl rfl eg31 _ E1.out ?_; simp only [Act.put, List.setIfInBounds_toArray, List.set_cons_succ, List.set_cons_zero])
          | go_big_quiet_step (fail)); refine wpQuiet_nil ?_)
        refine wpPlan_nil ?_
        go_wp2_with fail
        go_roundw
        case rel => exact ⟨m + 1, by omega, by go_num, InB.trans i10 j1⟩
        case measure => simp [intOf]; omega
      go_upto_region 64 with fail
      rename_i K64 hK64
      refine wp_later (t := (dropC 29 (Yba.f3.body.getD .skip))) hK64 ?_
      clear hK64
      have F10 := hid (F9.out.below i10)
      have HW10 := hid (show ∀ i p, L[i]? = some p → ∃ g, sw = some ⟨g, 0, none⟩ ∧ wr.rangeAt g (i * 2) (rwc p) from fun i p hp => by
        obtain ⟨g, e, hr⟩ := HWS.out i p hp
        exact ⟨g, e, range_kept_below i10 hr⟩)
      clear hlt hm F9 HWS HLP hlc i10
      generalize wr = W10 at F10 HW10 ⊢
      go_wp2_with fail
      exact law_mid a1 a2 a3 c1 c2 c3 n1 n2 n3 PL OL Q se pr su tp ts pg md w G R qg T TW N x cv M ta L sw nl capw W10 HI Hn1 Hn2 Hn3 HC1 hfew hM F10 sN HW10 okL hnl HNL

end Go.Proofs.Ybulkdsmy
