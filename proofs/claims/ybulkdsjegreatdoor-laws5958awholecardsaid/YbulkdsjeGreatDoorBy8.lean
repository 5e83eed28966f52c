import Derived.Test.YbulkdsjeGreatDoorBy6
import Derived.Test.YbulkdsjeGreatDoorBy7
import Derived.Test.YbulkdsjeGreatDoorRu1
import Derived.Test.YbulkdsjeGreatDoorBd1
import Derived.BigQuiet
import Derived.Deep.QuietTactic
import Derived.Handy
import Derived.Deep.MidRow
set_option linter.unusedVariables false
set_option linter.unusedSimpArgs false
namespace Go.Proofs.YbulkdsjeGreatDoor
open Go.RowKit

attribute [local go_sem] Oper.semAt_some
theorem conv_src {w : World} {u : Value} {xs : List Nat} (h : Src w u (u8s xs)) : (convert 22 9 u).run Ybaz.prog w = .ok (.string (strOfNums (xs.map Int.ofNat))) w := by
  obtain ⟨sa, c, rfl, h1, h2, h3⟩ := h
  cases sa with
  | none =>
    obtain ⟨e1, e2⟩ := h1 rfl
    have e3 : xs = [] := by simpa [u8s] using e1
    subst e3
    exact run_convert_bytes_nil (P := Ybaz.prog) w 22 5 Ybaz.underlying22 Ybaz.underlying5 _ _ 9 Ybaz.underlying9
  | some ad =>
    obtain ⟨g, o, rfl, hc⟩ := h2 ad rfl
    refine run_convert_bytes_arg (P := Ybaz.prog) w 22 5 Ybaz.underlying22 Ybaz.underlying5 g o (u8s xs).length c (xs.map Int.ofNat) (by simp [u8s]) (fun i hi => ?_) 9 Ybaz.underlying9
    have hi' : i < xs.length := by simpa [u8s] using hi
    refine hc i _ ?_
    simp [u8s, hi']
theorem equal_src {w : World} {u v : Value} {xs : List Nat} (h1 : Src w u (u8s xs)) (h2 : Src w v (u8s xs)) : Calls Ybaz.prog 11 #[u, v] w fun e w' => e = .returned (.bool true) ∧ w' = w := by
  refine (Ybaz.bytes_Equal u v _ _ w (conv_src h1) (conv_src h2)).mono ?_
  rintro e w' ⟨rfl, rfl⟩
  exact ⟨by simp, rfl⟩
theorem strCells_u8 (s : ByteArray) : Lib.strCells s = u8s (s.data.toList.map UInt8.toNat) := by simp [Lib.strCells, u8s]
theorem BB.old {w w' : World} {base : Nat} {v v' : Value} {xs ys : List Value} (h : BB w base v xs w' v' ys) (o : w.ownsRow base 5 1 v xs.length xs) : Src w' v xs := by
  rcases o.2 with ⟨rfl, e⟩ | ⟨g, cap, cur, rfl, hb, hg, hn, hc, hs, ht⟩
  · have hy : xs = [] := List.eq_nil_of_length_eq_zero e
    subst hy
    exact ⟨none, 0, rfl, fun _ => ⟨rfl, rfl⟩, fun ad h => (by cases h), Nat.le_refl _⟩
  · refine ⟨some ⟨g, 0, none⟩, cap, rfl, fun h => (by cases h), fun ad hd => ?_, hn⟩
    cases hd
    refine ⟨g, 0, rfl, fun j b hj => ?_⟩
    have hc := o.cells (g := g) rfl j b hj
    rw [Addr.add_lit] at hc
    have hj' : j < xs.length := (List.getElem?_eq_some_iff.1 hj).1
    rw [h.fp.cell g (0 + j) (Array.getElem?_eq_some_iff.1 hg).1 (fun hx => by have := hx.2; omega)]
    exact hc
theorem own_some {W : World} {base : Nat} {v : Value} {xs : List Value} (h : W.ownsRow base 5 1 v xs.length xs) (hn : 0 < xs.length) : ∃ g cap, v = .slice (some ⟨g, 0, none⟩) xs.length cap ∧ xs.length ≤ cap ∧ cap ≤ 9223372036854775807 ∧ (∀ j u, xs[j]? = some u → W.cell? ⟨g, j, none⟩ = some u) ∧ g < W.heap.size := by
  rcases h.2 with ⟨_, e⟩ | ⟨g, cap, cur, rfl, hb, hg, hle, hc, hs, ht⟩
  · omega
  · refine ⟨g, cap, rfl, hle, hc, fun j u hu => ?_, (Array.getElem?_eq_some_iff.1 hg).1⟩
    have := h.cells (g := g) rfl j u hu
    rwa [Addr.add_lit, Nat.zero_add] at this
theorem stOf_fu (a c : Nat) : ∀ i, i < naOf c → 0 < fuOf (stOf a c) i ∧ fuOf (stOf a c) i ≤ 60000 := fun i hi => by
  have h2 : i = 0 ∨ i = 1 := by unfold naOf at hi; omega
  rcases h2 with rfl | rfl
  · simp [fuOf, stOf]
    omega
  · have e : fuOf (stOf a c) 1 = 2 + c % 5 := by
      unfold fuOf stOf
      rw [if_neg (by omega), if_neg (by omega), if_pos rfl]
      exact Nat.mul_div_cancel_left _ (by omega)
    rw [e]
    omega
set_option maxRecDepth 100000 in
set_option maxHeartbeats 4000000 in
theorem law_long (pv : Value) (pn : List Nat) (name : ByteArray) (a b c h r x : Nat) (pa : Option Addr) (n pc : Nat) (U : World) (src : Src U pv (u8s pn)) (hps : pn.length ≤ 1000000000000000000) (hnm : name.size ≤ 1000000000000000000) (hn : n ≤ 1000000000000000000) (big : 65536 < pn.length + name.size + n) : Calls Ybaz.prog 3 #[pv, .string name, .agg #[.int .u8 (a : Int), .int .u8 (b : Int), .int .u8 (c : Int), .int .u64 (h : Int), .int .u64 (r : Int), .float .f64 x], .slice pa n pc] U fun e w' => e = .returned (.bool true) ∧ Kept (fun _ => False) U w' := by
  obtain ⟨sa, ca, rfl, _, _, _⟩ := src
  rw [u8s_len]
  have b1 : 65536 < (pn.length : Int) + (name.size : Int) + (n : Int) := by omega
  have b2 : (pn.length : Int) ≤ 1000000000000000000 := by omega
  have b3 : (name.size : Int) ≤ 1000000000000000000 := by omega
  have b4 : (n : Int) ≤ 1000000000000000000 := by omega
  clear big hps hnm hn
  go_enter Ybaz.func3, Ybaz.ntmps3
  go_wp2
  go_ret
  exact ⟨rfl, (Kept.refl _ U).alloc _⟩

set_option maxRecDepth 100000 in
set_option maxHeartbeats 4000000 in
theorem law_short (pv : Value) (pn : List Nat) (name : ByteArray) (a b c h r x : Nat) (pa : Option Addr) (pb po n pc : Nat) (dt : Nat → Nat) (U : World) (src : Src U pv (u8s pn)) (hp : PT U pa pb po n dt) (g : GL U) (h3 : 3 < U.heap.size) (ha : a < 256) (hb : b < 256) (hc : c < 256) (hh : h < 18446744073709551616) (hr : r < 18446744073709551616) (hx : x < 18446744073709551616) (small : pn.length + name.size + n ≤ 65536) : Calls Ybaz.prog 3 #[pv, .string name, .agg #[.int .u8 (a : Int), .int .u8 (b : Int), .int .u8 (c : Int), .int .u64 (h : Int), .int .u64 (r : Int), .float .f64 x], .slice pa n pc] U fun e w' => e = .returned (.bool true) ∧ Kept (fun _ => False) U w' := by
  have b7 := f64bits
  obtain ⟨ps, hps⟩ : ∃ ps, u8s pn = ps := ⟨_, rfl⟩
  have one : ∀ b ∈ ps, b.oneCell' = true := by rw [← hps]; exact u8s_one pn
  have epl : pn.length = ps.length := by rw [← hps, u8s_len]
  rw [hps] at src
  rw [epl] at small
  have HPS := hid hps
  clear hps epl
  obtain ⟨sa, ca, rfl, src⟩ := (show ∃ sa ca, pv = .slice sa ps.length ca ∧ Src U (.slice sa ps.length ca) ps by obtain ⟨sa, ca, e, q⟩ := src; exact ⟨sa, ca, e, sa, ca, rfl, q⟩)
  have SR0 := hid src
  have ON := hid one
  have HP := hid hp
  have HG := hid g
  have H3 := hid h3
  have HS := hid small
  have s1 : (ps.length : Int) + (name.size : Int) + (n : Int) ≤ 65536 := by omega
  obtain ⟨W, hW⟩ : ∃ W, U.alloc (.cells #[.int .u8 (a : Int), .int .u8 (b : Int), .int .u8 (c : Int), .int .u64 (h : Int), .int .u64 (r : Int), .float .f64 x] 26) = W := ⟨_, rfl⟩
  obtain ⟨B6, hB6⟩ : ∃ B6, U.heap.size = B6 := ⟨_, rfl⟩
  have k0 : Kept (fun _ => False) U W := by rw [← hW]; exact (Kept.refl _ U).alloc _
  have r0 : W.rangeAt B6 0 [.int .u8 (a : Int), .int .u8 (b : Int), .int .u8 (c : Int), .int .u64 (h : Int), .int .u64 (r : Int), .float .f64 x] := by rw [← hW, ← hB6]; exact range_new U [.int .u8 (a : Int), .int .u8 (b : Int), .int .u8 (c : Int), .int .u64 (h : Int), .int .u64 (r : Int), .float .f64 x] 26
  have y0 : W.cell? ⟨B6, 0, none⟩ = some (.int .u8 (a : Int)) := r0 0 _ rfl
  have y1 : W.cell? ⟨B6, 1, none⟩ = some (.int .u8 (b : Int)) := r0 1 _ rfl
  have y2 : W.cell? ⟨B6, 2, none⟩ = some (.int .u8 (c : Int)) := r0 2 _ rfl
  have y3 : W.cell? ⟨B6, 3, none⟩ = some (.int .u64 (h : Int)) := r0 3 _ rfl
  have y4 : W.cell? ⟨B6, 4, none⟩ = some (.int .u64 (r : Int)) := r0 4 _ rfl
  have y5 : W.cell? ⟨B6, 5, none⟩ = some (.float .f64 x) := r0 5 _ rfl
  have K0 := hid k0
  have RL := hid (rule_any a b c h r x W ha hb hc hh hr)
  clear src one hp g h3 small r0 k0 ha hb hc hh hr
  go_enter Ybaz.func3, Ybaz.ntmps3
  go_upto_region 1 with fail
  clear hW hB6
  go_upto_region 3 with fail
  obtain ⟨na, ena⟩ : ∃ na, naOf c = na := ⟨_, rfl⟩
  obtain ⟨st, est⟩ : ∃ st, stOf a c = st := ⟨_, rfl⟩
  obtain ⟨nn, enn⟩ : ∃ nn, nnOf b = nn := ⟨_, rfl⟩
  obtain ⟨hb, ehb⟩ : ∃ hb, h % 1125899906842624 = hb := ⟨_, rfl⟩
  obtain ⟨rw, erw⟩ : ∃ rw, r % 1125899906842624 = rw := ⟨_, rfl⟩
  have HF := hid (stOf_fu a c)
  rw [ena, est] at HF
  rw [ena, est, enn, ehb, erw] at RL
  have HB := hid (show hb < 1125899906842624 ∧ rw < 1125899906842624 from ⟨by omega, by omega⟩)
  clear ena est enn ehb erw
  go_upto_region 4 with (first | (go_at_call 5; refine RL.out.mono ?_; rintro e W1 ⟨rb, ro, rc, rfl, rm, k1⟩; have RM := hid rm; have K1 := hid k1; have ST := hid (run_storeAt_new (P := Ybaz.prog) W1 31 #[.slice none 0 0, .int .i64 0, .float .f64 0, .int .i64 0] #[sl rb ro na rc, vi hb, .float .f64 x, vi rw] (by kernel_rfl) rfl (by simp [Value.oneCell'])); clear rm k1 RL) | ((with_reducible (show wpList _ _ _ (⟨_, .store 31 _ _, _, _, _, _⟩ :: _) _ _)); refine wpList_store_as rfl 31 _ _ rfl rfl W1.heap.size 0 (.agg #[sl rb ro na rc, vi hb, .float .f64 x, vi rw]) rfl rfl ST.out ?_))
  clear y0 y1 y2 y3 y4 y5 ST
  obtain ⟨B9, hB9⟩ : ∃ B9, W1.heap.size = B9 := ⟨_, rfl⟩
  refine wp_as (fun X => Kept (fun _ => False) U X ∧ X.rangeAt B9 0 [sl rb ro na rc, vi hb, .float .f64 x, vi rw] ∧ RuleM X rb ro na st nn ∧ B9 < X.heap.size ∧ U.heap.size ≤ B9) ⟨(K0.out.trans K1.out).alloc _, by rw [← hB9]; exact range_new W1 [sl rb ro na rc, vi hb, .float .f64 x, vi rw] 31, RM.out.kept ((Kept.refl (fun _ => False) W1).alloc _) (fun h => h), by rw [World.size_alloc]; omega, by rw [← hB9]; exact (K0.out.trans K1.out).size⟩ ?_
  rw [hB9]
  clear hB9 K0 K1 RM
  rintro X4 ⟨k4, r4, rm4, b4, b4'⟩
  have y0 : X4.cell? ⟨B9, 0, none⟩ = some (sl rb ro na rc) := r4 0 _ rfl
  have y1 : X4.cell? ⟨B9, 1, none⟩ = some (vi hb) := r4 1 _ rfl
  have y2 : X4.cell? ⟨B9, 2, none⟩ = some (.float .f64 x) := r4 2 _ rfl
  have y3 : X4.cell? ⟨B9, 3, none⟩ = some (vi rw) := r4 3 _ rfl
  have F4 := hid (show Kept (fun _ => False) U X4 ∧ X4.rangeAt B9 0 [sl rb ro na rc, vi hb, .float .f64 x, vi rw] ∧ RuleM X4 rb ro na st nn ∧ B9 < X4.heap.size ∧ U.heap.size ≤ B9 from ⟨k4, r4, rm4, b4, b4'⟩)
  have BL := hid (build_any rb ro rc na st nn hb rw x pa pb po n pc dt X4 rm4 (HP.out.kept k4) (by have := HS.out; omega) HB.out.1 HB.out.2 HF.out)
  clear k4 r4 rm4 b4 b4'
  go_upto_region 5 with (go_at_call 6; refine BL.out.mono ?_; rintro e W5 bp; obtain ⟨sb, ab, tt, rfl, bi⟩ := bp; have BI := hid bi; clear bi BL)
  clear y0 y1 y2 y3
  obtain ⟨SA, Sr, pv, nw, sd, sw, htt, k5, c0, c2, q1, q2, q3, q4⟩ := BI.out
  obtain ⟨d, m, f, hq⟩ := sw.rp
  have z4 := sw.sx.c4
  have z7 := hq.ck.c2
  have hm : m ≤ 65536 := by have := hq.nN; have := HS.out; omega
  have z8 := sw.sx.c8
  have z9 := sw.sx.c9
  obtain ⟨vx, z10⟩ := sw.sx.c10
  have z11 := sw.sx.c11
  have LN := hid (fun q => lenR_any sb 5 m (W5.drewN q) z7)
  have F5 := hid (show SW W5 SA Sr sb ab na st nn (fuOf st) hb rw pv nw sd n ∧ Kept (fun _ => False) U W5 ∧ W5.cell? ⟨sb, 0, none⟩ = some (sl rb ro na rc) ∧ W5.cell? ⟨sb, 2, none⟩ = some (.float .f64 x) ∧ RuleM W5 rb ro na st nn ∧ W5.rangeAt B9 0 [sl rb ro na rc, vi hb, .float .f64 x, vi rw] ∧ U.heap.size ≤ B9 ∧ B9 < W5.heap.size from ⟨sw, F4.out.1.trans k5, c0, c2, F4.out.2.2.1.kept k5 (fun h => h), k5.range (fun h => h) F4.out.2.1, F4.out.2.2.2.2, Nat.lt_of_lt_of_le F4.out.2.2.2.1 k5.size⟩)
  clear sw htt k5 c0 c2 q1 q2 q3 q4 hq BI F4
  go_quiet ((go_at_call 8; refine Calls.quiet_of_same (LN.out _)))
  refine q_as (fun X => Kept (fun _ => False) W5 X) (Kept.drawn (Kept.refl _ W5) nq) ?_
  intro X5 kx
  have F6 := hid (show SW X5 SA Sr sb ab na st nn (fuOf st) hb rw pv nw sd n ∧ Kept (fun _ => False) U X5 ∧ X5.cell? ⟨sb, 0, none⟩ = some (sl rb ro na rc) ∧ X5.cell? ⟨sb, 2, none⟩ = some (.float .f64 x) ∧ RuleM X5 rb ro na st nn ∧ X5.rangeAt B9 0 [sl rb ro na rc, vi hb, .float .f64 x, vi rw] ∧ X5.cell? ⟨sb, 7, none⟩ = some (vi m) ∧ X5.cell? ⟨sb, 10, none⟩ = some (.float .f64 vx) ∧ m ≤ 65536 from by
    obtain ⟨g1, g2, g3, g4, g5, g6, g7, g8⟩ := F5.out
    exact ⟨g1.kept kx, g2.trans kx, kx.cell (p := ⟨sb, 0, none⟩) (fun h => h) g3, kx.cell (p := ⟨sb, 2, none⟩) (fun h => h) g4, g5.kept kx (fun h => h), kx.range (fun h => h) g6, kx.cell (p := ⟨sb, 7, none⟩) (fun h => h) z7, kx.cell (p := ⟨sb, 10, none⟩) (fun h => h) z10, hm⟩)
  have SRK : Hid (∀ Y, Kept (fun _ => False) X5 Y → Src Y (.slice sa ps.length ca) ps) := hid fun Y k => by
    obtain ⟨sa', ca', e, h1, h2, h3⟩ := SR0.out
    have kk := F6.out.2.1.trans k
    refine ⟨sa', ca', e, h1, fun ad had => ?_, h3⟩
    obtain ⟨g', o', e', hc⟩ := h2 ad had
    exact ⟨g', o', e', fun j b hj => kk.cell (p := ⟨g', o' + j, none⟩) (fun h => h) (hc j b hj)⟩
  clear z4 z7 z8 z9 z10 z11 LN F5 kx hm
  -- regions 6, 7: the two copies
  have hpl : ps.length ≤ 65536 := by have := HS.out; omega
  have CL := hid (clone9 (.slice sa ps.length ca) ps X5 (SRK.out X5 (Kept.refl _ _)) ON.out (by omega))
  go_upto_region 7 with (go_at_call 9; refine CL.out.mono ?_; rintro e W6 ⟨v1, rfl, o1, k6⟩; have O1 := hid o1; have K6 := hid k6; clear o1 k6 CL)
  have CL := hid (clone9 (.slice sa ps.length ca) ps W6 (SRK.out W6 K6.out) ON.out (by omega))
  go_upto_region 8 with (go_at_call 9; refine CL.out.mono ?_; rintro e W7 ⟨v2, rfl, o2, k7⟩; have O2 := hid o2; have K7 := hid k7; clear o2 k7 CL)
  -- region 8
  have SE : Hid (Calls Ybaz.prog 10 #[v1, .string name, .pointer (some ⟨sb, 0, none⟩)] W7 fun e w' => ∃ v' code, e = .returned v' ∧ BB W7 X5.heap.size v1 ps w' v' (u8s (uvF 10 name.size) ++ (Lib.strCells name ++ (u8s (ruB na st nn hb rw x) ++ (u8s (uvF 10 code.length) ++ code)))) ∧ code.length ≤ 20000000000) := by
    obtain ⟨g1, g2, g3, g4, g5, g6, g7, g8, g9⟩ := F6.out
    have k := K6.out.trans K7.out
    have h3 := H3.out
    have hz := g2.size
    refine hid (series10 SA Sr sb ab na rb ro rc st nn hb rw x pv nw sd n X5.heap.size X5.heap.size name v1 ps W7 (g1.kept k) (by have := HS.out; omega) (k.cell (p := ⟨sb, 0, none⟩) (fun h => h) g3) (k.cell (p := ⟨sb, 2, none⟩) (fun h => h) g4) (g5.kept k (fun h => h)) HF.out (HG.out.kept (g2.trans k) (fun h => h) (fun h => h)) ⟨g1.sx.lt, g1.sx.isa.lt, ?_, fun i c hi hc => (g1.sx.ar i hi).bl.2.1 c hc, g1.rp.bl.2.1, by omega⟩ hx (own_kept O1.out K7.out (fun _ _ h => h)) (by have := HS.out; omega) k.size (fun c hc => (O1.out.lt c hc).1) k.size)
    have := World.block_lt_of_cell? X5 _ (g5.row 0 (by have := g5.hna; omega)).1
    exact this
  go_upto_region 9 with (go_at_call 10; refine SE.out.mono ?_; rintro e W8 ⟨v3, code, rfl, bb, hcl⟩; have B8 := hid bb; have HCL := hid hcl; clear bb hcl SE)
  -- region 9
  obtain ⟨WT, hWT⟩ : ∃ WT, ps ++ (u8s (uvF 10 name.size) ++ (Lib.strCells name ++ u8s (ruB na st nn hb rw x))) = WT := ⟨_, rfl⟩
  have HWT := hid hWT
  have eL : ps ++ (u8s (uvF 10 name.size) ++ (Lib.strCells name ++ (u8s (ruB na st nn hb rw x) ++ (u8s (uvF 10 code.length) ++ code)))) = WT ++ (u8s (uvF 10 code.length) ++ code) := by rw [← hWT]; simp only [List.append_assoc]
  have K58 := hid (show Kept (fun _ => False) X5 W8 from Kept.thn' (K6.out.trans K7.out) B8.out.kept (fun c hc h => by have := (O1.out.lt c h).1; omega))
  have EQ1 : Hid (Calls Ybaz.prog 11 #[v1, v2] W8 fun e w' => e = .returned (.bool true) ∧ w' = W8) := by
    have s1 := B8.out.old (own_kept O1.out K7.out (fun _ _ h => h))
    have s2 := src_own (own_kept O2.out B8.out.kept (fun c hc h => by have := (O2.out.lt c hc).1; have := (O1.out.lt c h).2; omega))
    rw [← HPS.out] at s1 s2
    exact hid (equal_src s1 s2)
  have ow := B8.out.own
  rw [eL] at ow
  have l1 := uvF_len 10 code.length
  have hpos : 0 < (WT ++ (u8s (uvF 10 code.length) ++ code)).length := by rw [List.length_append, List.length_append, u8s_len]; omega
  obtain ⟨og, oc, rfl, ole, ocm, ocl, olt⟩ := own_some ow hpos
  obtain ⟨NO, hNO⟩ : ∃ NO, (WT ++ (u8s (uvF 10 code.length) ++ code)).length = NO := ⟨_, rfl⟩
  rw [hNO] at ole
  rw [hNO]
  have OC := hid (show (∀ j u, (WT ++ (u8s (uvF 10 code.length) ++ code))[j]? = some u → W8.cell? ⟨og, j, none⟩ = some u) ∧ og < W8.heap.size ∧ (WT ++ (u8s (uvF 10 code.length) ++ code)).length = NO from ⟨ocl, olt, hNO⟩)
  have olei : (NO : Int) ≤ (oc : Int) := by omega
  have ocmi : (oc : Int) ≤ 9223372036854775807 := by omega
  clear ow hWT eL ocl olt hNO hpos ole ocm B8
  go_upto_region 11 with (go_at_call 11; refine EQ1.out.mono ?_; rintro e V8 ⟨rfl, rfl⟩)
  clear EQ1 O1 O2 K6 K7
  -- regions 11 .. 14: what is wanted
  go_upto_region 12 with ((with_reducible (show wpList _ _ _ (⟨some 78, _, _, _, _, _⟩ :: _) _ _)); refine wpList_src rfl _ _ rfl V8.heap.size (.slice none 0 0) [] rfl (World.ownsRow_nil V8 _ 5 1) _ ps rfl (SRK.out V8 K58.out) ON.out (by have := HS.out; simp; omega) (Nat.le_refl _) ?_; intro w1 W9 bb; have C1 := hid bb; clear bb; simp only [Act.put, List.setIfInBounds_toArray, List.set_cons_succ, List.set_cons_zero])
  have U1 := hid (uv12 V8.heap.size w1 ([] ++ ps) name.size W9 (by have := HS.out; omega) C1.out.own (by have := HS.out; simp; omega) C1.out.fp.size)
  have hnsi : (name.size : Int) ≤ 65536 := by have := HS.out; omega
  go_upto_region 13 with (go_at_call 12; refine U1.out.mono ?_; rintro e W10 ⟨w2, rfl, bb⟩; have C2 := hid (C1.out.trans bb); clear bb U1)
  have l2 := uvF_len 10 name.size
  have L2 := hid (show ([] ++ (ps ++ u8s (uvF 10 name.size))).length ≤ 70000 by have := HS.out; simp only [List.nil_append, List.length_append, u8s_len]; omega)
  go_upto_region 14 with ((with_reducible (show wpList _ _ _ (⟨some 86, _, _, _, _, _⟩ :: _) _ _)); refine wpList_str rfl _ _ rfl V8.heap.size w2 ([] ++ (ps ++ u8s (uvF 10 name.size))) rfl C2.out.own name rfl (by have := HS.out; have := L2.out; omega) C2.out.fp.size ?_; intro w3 W11 bb; have C3 := hid (C2.out.trans bb); clear bb; simp only [Act.put, List.setIfInBounds_toArray, List.set_cons_succ, List.set_cons_zero])
  have k11 : Kept (fun _ => False) V8 W11 := C3.out.kept.weak (fun _ _ h => by cases h)
  have r11 := (K58.out.trans k11).range (fun h => h) F6.out.2.2.2.2.2.1
  have y0 : W11.cell? ⟨B9, 0, none⟩ = some (sl rb ro na rc) := r11 0 _ rfl
  have y1 : W11.cell? ⟨B9, 1, none⟩ = some (vi hb) := r11 1 _ rfl
  have y2 : W11.cell? ⟨B9, 2, none⟩ = some (.float .f64 x) := r11 2 _ rfl
  have y3 : W11.cell? ⟨B9, 3, none⟩ = some (vi rw) := r11 3 _ rfl
  have RB : Hid (Calls Ybaz.prog 13 #[w3, .agg #[sl rb ro na rc, vi hb, .float .f64 x, vi rw]] W11 fun e w' => ∃ v', e = .returned v' ∧ BB W11 V8.heap.size w3 ([] ++ (ps ++ u8s (uvF 10 name.size) ++ Lib.strCells name)) w' v' (u8s (ruB na st nn hb rw x))) := by
    have rm := F6.out.2.2.2.2.1
    have hrb := World.block_lt_of_cell? X5 _ (rm.row 0 (by have := rm.hna; omega)).1
    have hsz := K58.out.size
    dsimp only at hrb
    refine hid (rule13 rb ro rc na st nn hb rw x V8.heap.size w3 _ W11 (rm.kept (K58.out.trans k11) (fun h => h)) HB.out.1 HB.out.2 hx C3.out.own (by have := L2.out; have := HS.out; simp only [List.nil_append, List.length_append, u8s_len, Lib.strCells_length] at *; omega) C3.out.fp.size (fun c hc e => ?_))
    rcases C3.out.mv c hc with h | h
    · cases h
    · omega
  clear r11 k11
  go_upto_region 15 with (go_at_call 13; refine RB.out.mono ?_; rintro e W12 ⟨wv, rfl, bb⟩; have C4 := hid (C3.out.trans bb); clear bb RB)
  clear y0 y1 y2 y3 C1 C2 C3 L2
  have ow := C4.out.own
  rw [show [] ++ (ps ++ u8s (uvF 10 name.size) ++ Lib.strCells name ++ u8s (ruB na st nn hb rw x)) = WT by rw [← HWT.out]; simp only [List.nil_append, List.append_assoc]] at ow
  have hpos : 0 < WT.length := by rw [← HWT.out]; simp only [List.length_append, u8s_len]; omega
  obtain ⟨wg, wc, rfl, wle, wcm, wcl, wlt⟩ := own_some ow hpos
  obtain ⟨NW, hNW⟩ : ∃ NW, WT.length = NW := ⟨_, rfl⟩
  have sW := src_own ow
  rw [hNW] at sW wle
  rw [hNW]
  have k12 : Kept (fun _ => False) V8 W12 := C4.out.kept.weak (fun _ _ h => by cases h)
  have K12 := hid (show Kept (fun _ => False) X5 W12 from K58.out.trans k12)
  have OC2 := hid (show (∀ j u, (WT ++ (u8s (uvF 10 code.length) ++ code))[j]? = some u → W12.cell? ⟨og, j, none⟩ = some u) ∧ NW + ((uvF 10 code.length).length + code.length) = NO ∧ WT.length = NW from ⟨fun j u hj => k12.cell (p := ⟨og, j, none⟩) (fun h => h) (OC.out.1 j u hj), by have := OC.out.2.2; simp only [List.length_append, u8s_len] at this; omega, hNW⟩)
  have hNle : (NW : Int) ≤ (NO : Int) := by have := OC2.out.2.1; omega
  have EQ2 : Hid (Calls Ybaz.prog 11 #[.slice (some ⟨og, 0, none⟩) NW oc, .slice (some ⟨wg, 0, none⟩) NW wc] W12 fun e w' => e = .returned (.bool true) ∧ w' = W12) := by
    have eU : WT = u8s (pn ++ (uvF 10 name.size ++ (name.data.toList.map UInt8.toNat ++ ruB na st nn hb rw x))) := by
      rw [← HWT.out, ← HPS.out, strCells_u8]
      simp only [u8s_app]
    have s1 : Src W12 (.slice (some ⟨og, 0, none⟩) NW oc) WT := by
      refine ⟨some ⟨og, 0, none⟩, oc, by rw [hNW], fun h => (by cases h), fun ad hd => ?_, by rw [hNW]; omega⟩
      cases hd
      refine ⟨og, 0, rfl, fun j b hj => ?_⟩
      rw [Nat.zero_add]
      refine OC2.out.1 j b ?_
      rw [List.getElem?_append_left (List.getElem?_eq_some_iff.1 hj).1]
      exact hj
    rw [eU] at s1 sW
    exact hid (equal_src s1 sW)
  have wlei : (NW : Int) ≤ (wc : Int) := by omega
  have wcmi : (wc : Int) ≤ 9223372036854775807 := by omega
  clear ow hpos wle wcm wcl wlt hNW sW k12 OC C4 K58
  go_upto_region 17 with (go_at_call 11; refine EQ2.out.mono ?_; rintro e V12 ⟨rfl, rfl⟩)
  clear EQ2
  go_upto_region 18 with fail
  have l3 := uvF_len 10 code.length
  have hcl := HCL.out
  obtain ⟨KK, hKK⟩ : ∃ KK, (uvF 10 code.length).length = KK := ⟨_, rfl⟩
  obtain ⟨CN, hCN⟩ : ∃ CN, code.length = CN := ⟨_, rfl⟩
  have oc2 := OC2.out
  rw [hKK, hCN] at oc2
  have hne : ¬ oc = NW := by omega
  rw [if_neg hne]
  obtain ⟨C, hC⟩ : ∃ C, oc - NW = C := ⟨_, rfl⟩
  have hT : NO - NW = KK + CN := by omega
  rw [hT, hC]
  have hCi : (KK : Int) + (CN : Int) ≤ (C : Int) := by omega
  have hCm : (C : Int) ≤ 9223372036854775807 := by omega
  have hK1 : 1 ≤ (KK : Int) := by omega
  have hK2 : (KK : Int) ≤ 11 := by omega
  have hCN2 : (CN : Int) ≤ 20000000000 := by omega
  have RC : Hid (∀ j u, (u8s (uvF 10 CN) ++ code)[j]? = some u → V12.cell? ⟨og, NW + j, none⟩ = some u) := hid fun j u hj => by
    rw [← hCN] at hj
    refine OC2.out.1 (NW + j) u ?_
    rw [List.getElem?_append_right (by omega), OC2.out.2.2, Nat.add_sub_cancel_left]
    exact hj
  rw [hCN] at hKK
  have UV : Hid (Calls Ybaz.prog 14 #[.slice (some ⟨og, NW, none⟩) (KK + CN) C] V12 fun e w' => e = .returned (.tuple #[.int .u64 (CN : Int), vi KK]) ∧ w' = V12) := by
    have h := uvar14 og NW C CN code V12 (by omega) RC.out (by omega)
    rw [List.length_append, u8s_len, hKK, hCN] at h
    exact hid h
  have HKK := hid hKK
  clear hne hT hC oc2 l3 hcl hKK hCN
  go_upto_region 21 with (go_at_call 14; refine UV.out.mono ?_; rintro e Y12 ⟨rfl, rfl⟩)
  clear UV
  -- region 21
  have s0 : Kept (fun _ => False) Y12 Y12.drew := (Kept.refl _ Y12).drew
  haveI nS : Nonempty (Wld (fun U' => Kept (fun _ => False) Y12 U')) := ⟨⟨Y12.drew, s0⟩⟩
  have U5 := hid (uv12 Y12.drew.heap.size (.slice none 0 0) [] CN Y12.drew (by omega) (World.ownsRow_nil _ _ 5 1) (by simp) (Nat.le_refl _))
  refine wp_region_calmplan 7 [(true, 0), (true, 1), (true, 2), (true, 3), (false, 4), (false, 5), (true, 6)] (fun w' => ∃ x : Wld (fun U' => Kept (fun _ => False) Y12 U'), w' = x.w) mixed (by kernel_rfl) (inS s0) ?_
  iterate 4 (refine wpPlan_q (by rfl) ?_; dsimp only [List.getElem_toArray, List.getElem_cons_zero, List.getElem_cons_succ]; go_big_quiet_step (fail); refine wpQuiet_nil ?_)
  refine wpPlan_e (by rfl) ?_
  dsimp only [List.getElem_toArray, List.getElem_cons_zero, List.getElem_cons_succ]
  go_wp2_with (go_at_call 12; refine U5.out.mono ?_; rintro e W13 ⟨uu, rfl, bb⟩; have B13 := hid bb; clear bb U5)
  have k13 : Kept (fun _ => False) Y12 W13 := s0.trans (B13.out.kept.weak (fun _ _ h => by cases h))
  have EQ3 : Hid (Calls Ybaz.prog 11 #[.slice (some ⟨og, NW, none⟩) KK C, uu] W13 fun e w' => e = .returned (.bool true) ∧ w' = W13) := by
    have s2 := src_own B13.out.own
    rw [List.nil_append] at s2
    refine hid (equal_src (xs := uvF 10 CN) ⟨some ⟨og, NW, none⟩, C, by rw [u8s_len, HKK.out], fun h => (by cases h), fun ad hd => ?_, by rw [u8s_len, HKK.out]; omega⟩ s2)
    cases hd
    refine ⟨og, NW, rfl, fun j b hj => k13.cell (p := ⟨og, NW + j, none⟩) (fun h => h) (RC.out j b ?_)⟩
    rw [List.getElem?_append_left (List.getElem?_eq_some_iff.1 hj).1]
    exact hj
  refine onward_normal (fun _ => inS k13) ?_
  refine wpPlan_e (by rfl) ?_
  dsimp only [List.getElem_toArray, List.getElem_cons_zero, List.getElem_cons_succ]
  go_wp2_with (go_at_call 11; refine EQ3.out.mono ?_; rintro e Y13 ⟨rfl, rfl⟩)
  refine onward_normal (fun _ => inS k13) ?_
  (refine wpPlan_q (by rfl) ?_; dsimp only [List.getElem_toArray, List.getElem_cons_zero, List.getElem_cons_succ]; go_big_quiet_step (fail); refine wpQuiet_nil ?_)
  refine wpPlan_nil ?_
  refine calmQ_normal ?_
  have K13 := hid (K12.out.trans k13)
  clear nS s0 EQ3 B13 k13 RC
  obtain ⟨g1, g2, g3, g4, g5, g6, g7, g8, g9⟩ := F6.out
  have sw13 := g1.kept K13.out
  have z4 := sw13.sx.c4
  have z7 := K13.out.cell (p := ⟨sb, 7, none⟩) (fun h => h) g7
  have z8 := sw13.sx.c8
  have z9 := sw13.sx.c9
  have z10 := K13.out.cell (p := ⟨sb, 10, none⟩) (fun h => h) g8
  have z11 := sw13.sx.c11
  have LN := hid (lenR_any sb 5 m Y13 z7)
  have G2 := hid (g2.trans K13.out)
  clear g1 g2 g3 g4 g5 g6 g7 g8 g9 sw13
  go_wp2_with (go_at_call 8; refine LN.out.mono ?_; rintro e Y14 ⟨rfl, rfl⟩)
  go_ret
  exact ⟨rfl, G2.out⟩
end Go.Proofs.YbulkdsjeGreatDoor
