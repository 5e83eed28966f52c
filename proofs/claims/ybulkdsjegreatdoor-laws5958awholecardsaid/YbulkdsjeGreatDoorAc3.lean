import Derived.Test.YbulkdsjeGreatDoorAc2
import Derived.BigQuiet
import Derived.Deep.QuietTactic
import Derived.Handy
import Derived.Deep.MidRow
set_option linter.unusedVariables false
set_option linter.unusedSimpArgs false
namespace Go.Proofs.YbulkdsjeGreatDoor
open Go.RowKit

attribute [local go_sem] Oper.semAt_some
theorem act_as {P : Program} {c : Code} {Q : Exit → Act → World → Prop} {a : Act} {w : World} (h : ∀ A, A = a → c.wp P Q A w) : c.wp P Q a w := h a rfl

set_option maxRecDepth 100000 in
set_option maxHeartbeats 4000000 in
theorem code_any (SA : Nat → Nat → Prop) (Sr : Nat → Prop) (sb ab na rb ro rc : Nat) (st nn : Nat → Nat) (hb rw xff pv nw : Nat) (sd : Bool) (N : Nat) (U : World) (h : SW U SA Sr sb ab na st nn (fuOf st) hb rw pv nw sd N) (hN : N ≤ 65536) (c0 : U.cell? ⟨sb, 0, none⟩ = some (sl rb ro na rc)) (c2 : U.cell? ⟨sb, 2, none⟩ = some (.float .f64 xff)) (rm : RuleM U rb ro na st nn) (hfu : ∀ i, i < na → 0 < fuOf st i ∧ fuOf st i ≤ 60000) (g : GL U) (h3 : 3 < U.heap.size) : Calls Ybaz.prog 15 #[.slice none 0 0, .pointer (some ⟨sb, 0, none⟩)] U fun e w' => AcP U e w' := by
  obtain ⟨d, n, f, hq⟩ := h.rp
  have hck := hq.ck
  have hnN := hq.nN
  have HS := hid h
  have HQ := hid hq
  have HG := hid g
  have H3 := hid h3
  have HR := hid (show U.cell? ⟨sb, 0, none⟩ = some (sl rb ro na rc) ∧ U.cell? ⟨sb, 2, none⟩ = some (.float .f64 xff) ∧ RuleM U rb ro na st nn ∧ (∀ i, i < na → 0 < fuOf st i ∧ fuOf st i ≤ 60000) from ⟨c0, c2, rm, hfu⟩)
  have HN := hid (show n ≤ N ∧ N ≤ 65536 from ⟨hnN, hN⟩)
  have hni : (n : Int) ≤ 65536 := by omega
  clear h hN c0 c2 rm hfu g h3 hq hck hnN
  refine calls_of_wp_marks Ybaz.func15 rfl ?_
  simp only [Ybaz.ntmps15, List.size_toArray, List.length_cons, List.length_nil, Nat.reduceAdd, Nat.reduceSub, Array.replicate_succ, Array.replicate_zero, List.push_toArray, List.append_toArray, List.nil_append, List.cons_append]
  go_upto_region 3 with (first | (go_at_call 23; refine (newModel_any _).mono ?_; rintro e W1 nm; obtain ⟨l2, mb, rfl, nm⟩ := nm; have NM := hid nm; clear nm) | (go_at_call 24; refine (newEncoder_any _).mono ?_; rintro e W2 ⟨rfl, es, k2⟩; have ES2 := hid es; have K2 := hid k2; clear es k2))
  have szA : (W1.alloc (.cells #[.pointer (some ⟨mb, 0, none⟩)] 69)).heap.size = W1.heap.size + 1 := by rw [World.size_alloc]
  refine wp_as (fun X => ∃ z : Zs, z.Mb = mb ∧ z.Eb = W1.heap.size + 1 ∧ CB U X z (.slice none 0 0) 0 W1.heap.size W2.heap.size) ?_ ?_
  · obtain ⟨p1, p2, p3, p4, p5⟩ := NM.out
    have kA : Kept (fun _ => False) W1 (W1.alloc (.cells #[.pointer (some ⟨mb, 0, none⟩)] 69)) := (Kept.refl _ _).alloc _
    have kB : Kept (fun _ => False) W2 (W2.alloc (.cells #[.pointer (some ⟨W1.heap.size + 1, 0, none⟩)] 71)) := (Kept.refl _ _).alloc _
    have es := ES2.out
    have k2 := K2.out
    rw [szA] at es
    have k12 : Kept (fun _ => False) W1 W2 := kA.trans k2
    have sz2 := k2.size
    rw [szA] at sz2
    have cd2 : CD W2 ⟨W1.heap.size + 1, mb, U.heap.size + 1, U.heap.size, l2 + 1, l2⟩ (.slice none 0 0) 0 := ⟨es, (p4 _).calm k12, HG.out.kept (p5.trans k12) (fun h => h) (fun h => h), H3.out, by first | omega | (dsimp only; omega)⟩
    have lt2 := cd2.lt
    refine ⟨⟨W1.heap.size + 1, mb, U.heap.size + 1, U.heap.size, l2 + 1, l2⟩, rfl, rfl, cd2.calm kB, (((p5.trans k12).trans kB)).weak (fun _ _ h => h.elim), Nat.le_refl _, kB.cell (p := ⟨W1.heap.size, 0, none⟩) (fun h => h) (k2.cell (p := ⟨W1.heap.size, 0, none⟩) (fun h => h) (range_new W1 [.pointer (some ⟨mb, 0, none⟩)] 69 0 _ rfl)), range_new W2 [.pointer (some ⟨W1.heap.size + 1, 0, none⟩)] 71 0 _ rfl, fun hc => ?_, fun hc => ?_, p5.size, Nat.le_trans p5.size k12.size⟩
    · rcases hc with e | e | e | e | e | e | e <;> first | (cases e; done) | (simp at e; done) | (simp at e; omega)
    · have := lt2 _ hc
      omega
  rintro X ⟨z, rfl, ez, cb⟩
  rw [← ez]
  obtain ⟨Bm, hBm⟩ : ∃ Bm, W1.heap.size = Bm := ⟨_, rfl⟩
  obtain ⟨Be, hBe⟩ : ∃ Be, W2.heap.size = Be := ⟨_, rfl⟩
  rw [hBm, hBe] at cb ⊢
  obtain ⟨ov0, hov0⟩ : ∃ ov0 : Value, Value.slice none 0 0 = ov0 := ⟨_, rfl⟩
  rw [hov0] at cb
  have C0 := hid cb
  clear cb ez hBm hBe NM ES2 K2 szA hov0
  -- region 3
  have swk : ∀ Y, Kept (fun c => U.heap.size ≤ c) U Y → SW Y SA Sr sb ab na st nn (fuOf st) hb rw pv nw sd N ∧ CK Y Sr sb 5 d n f := fun Y k => by
    have b1 := HS.out.sx.lt
    have b2 := HS.out.sx.isa.lt
    have b3 := fun i (hi : i < na) => (HS.out.sx.ar i hi).bl.2.1
    have b4 := HS.out.rp.bl.2.1
    exact ⟨⟨HS.out.sx.keptE k (by omega) (by omega) (fun i c hi hc => by have := b3 i hi c hc; omega), k.cell (p := ⟨sb, 3, none⟩) (show ¬ U.heap.size ≤ sb by omega) HS.out.r3, HS.out.rp.kept k (by omega) (fun c hc => by have := b4 c hc; omega), HS.out.d1, HS.out.d2, HS.out.hrw⟩, HQ.out.ck.kept k (by omega) (fun c hc => by have := b4 c hc; omega)⟩
  have SWK := hid swk
  clear swk
  have ck3 := (SWK.out X C0.out.k).2
  have s0 : Kept (fun _ => False) X X.drew := (Kept.refl _ X).drew
  haveI nS : Nonempty (Wld (fun U' => Kept (fun _ => False) X U')) := ⟨⟨X.drew, s0⟩⟩
  have z1 : ∀ x : Wld (fun U' => Kept (fun _ => False) X U'), x.w.cell? ⟨Be, 0, none⟩ = some (.pointer (some ⟨z.Eb, 0, none⟩)) := fun x => x.h.cell (p := ⟨Be, 0, none⟩) (fun h => h) C0.out.be
  have z2 : ∀ x : Wld (fun U' => Kept (fun _ => False) X U'), x.w.cell? ⟨Bm, 0, none⟩ = some (.pointer (some ⟨z.Mb, 0, none⟩)) := fun x => x.h.cell (p := ⟨Bm, 0, none⟩) (fun h => h) C0.out.bm
  have z3 : ∀ x : Wld (fun U' => Kept (fun _ => False) X U'), x.w.cell? ⟨z.Mb, 0, none⟩ = some (.pointer (some ⟨z.U1, 0, none⟩)) := fun x => x.h.cell (p := ⟨z.Mb, 0, none⟩) (fun h => h) C0.out.cd.md.c0
  have LN := hid (lenR_any sb 5 n X.drew ck3.c2)
  have U1 := hid ((C0.out.cd.calm s0).uint1 (ctx := 0) (v := n) (by omega) (by omega) (by have := HN.out; omega))
  clear ck3
  refine wp_region_calmplan 11 [(true, 0), (true, 1), (true, 2), (true, 3), (true, 4), (true, 5), (true, 6), (true, 7), (true, 8), (false, 9), (true, 10), (false, 11)] (fun w' => ∃ x : Wld (fun U' => Kept (fun _ => False) X U'), w' = x.w) mixed (by kernel_rfl) (inS s0) ?_
  iterate 9 (refine wpPlan_q (by rfl) ?_; dsimp only [List.getElem_toArray, List.getElem_cons_zero, List.getElem_cons_succ]; go_big_quiet_step (fail); refine wpQuiet_nil ?_)
  refine wpPlan_e (by rfl) ?_
  dsimp only [List.getElem_toArray, List.getElem_cons_zero, List.getElem_cons_succ]
  go_wp2_with (go_at_call 8; refine LN.out.mono ?_; rintro e W0 ⟨rfl, rfl⟩)
  refine onward_normal (fun _ => inS s0) ?_
  (refine wpPlan_q (by rfl) ?_; dsimp only [List.getElem_toArray, List.getElem_cons_zero, List.getElem_cons_succ]; go_big_quiet_step (fail); refine wpQuiet_nil ?_)
  refine wpPlan_e (by rfl) ?_
  dsimp only [List.getElem_toArray, List.getElem_cons_zero, List.getElem_cons_succ]
  go_wp2_with (go_at_call 25; refine U1.out.mono ?_; rintro e W3 ⟨rfl, cp⟩; have C1 := hid ((C0.out.calm s0).go cp); clear cp U1)
  refine onward_normal (fun h => by cases h) ?_
  refine wpPlan_nil ?_
  refine calmQ_normal ?_
  clear z1 z2 z3 s0 nS LN C0
  -- region 4
  obtain ⟨ov1, cb1⟩ := C1.out
  have C2 := hid cb1
  clear cb1 C1
  have PL := hid (places_any Sr sb 5 d n f W3.drew ((SWK.out _ C2.out.k).2.kept (Kept.refl (fun _ => False) W3).drew (fun h => h) (fun _ _ h => h)) (by have := HN.out; omega) (C2.out.cd.gl.kept (Kept.refl (fun _ => False) W3).drew (fun h => h) (fun h => h)))
  have s0 : Kept (fun _ => False) W3 W3.drew := (Kept.refl _ W3).drew
  haveI nS : Nonempty (Wld (fun U' => Kept (fun _ => False) W3 U')) := ⟨⟨W3.drew, s0⟩⟩
  have z4 : ∀ x : Wld (fun U' => Kept (fun _ => False) W3 U'), x.w.cell? ⟨Bm, 0, none⟩ = some (.pointer (some ⟨z.Mb, 0, none⟩)) := fun x => x.h.cell (p := ⟨Bm, 0, none⟩) (fun h => h) C2.out.bm
  go_upto_region 4 with fail
  refine wp_region_calmplan 7 [(true, 0), (true, 1), (true, 2), (true, 3), (false, 4), (true, 5), (true, 6), (false, 7)] (fun w' => ∃ x : Wld (fun U' => Kept (fun _ => False) W3 U'), w' = x.w) mixed (by kernel_rfl) (inS s0) ?_
  iterate 4 (refine wpPlan_q (by rfl) ?_; dsimp only [List.getElem_toArray, List.getElem_cons_zero, List.getElem_cons_succ]; go_big_quiet_step (fail); refine wpQuiet_nil ?_)
  refine wpPlan_e (by rfl) ?_
  dsimp only [List.getElem_toArray, List.getElem_cons_zero, List.getElem_cons_succ]
  go_wp2_with (go_at_call 26; refine PL.out.mono ?_; rintro e W4 ⟨⟨pk, hpk, rfl⟩, k4⟩; have K4 := hid (s0.trans k4); clear k4 PL)
  refine onward_normal (fun _ => inS K4.out) ?_
  iterate 2 (refine wpPlan_q (by rfl) ?_; dsimp only [List.getElem_toArray, List.getElem_cons_zero, List.getElem_cons_succ]; go_big_quiet_step (fail); refine wpQuiet_nil ?_)
  refine wpPlan_e (by rfl) ?_
  dsimp only [List.getElem_toArray, List.getElem_cons_zero, List.getElem_cons_succ]
  have cb4 := C2.out.calm K4.out
  obtain ⟨p79, _, y79⟩ := cb4.cd.md.i79
  have f79 := cb4.cd.md.fz 79 (by omega)
  have S4 := hid (cb4.go (CP.set cb4.cd (j := 79) (by omega) (ok79 hpk)))
  clear cb4
  go_wp2
  refine onward_normal (fun h => by cases h) ?_
  refine wpPlan_nil ?_
  refine calmQ_normal ?_
  refine q_as (fun Y => (∃ ov', CB U Y z ov' (0 + 60) Bm Be) ∧ Y.cell? ⟨z.Mb, 79, none⟩ = some (vi pk)) ⟨S4.out, World.cell?_setCell_same' _ _ _ (by rw [y79]; rfl)⟩ ?_
  rintro W5 ⟨⟨ov2, cb5⟩, y5⟩
  have C5 := hid cb5
  have hpki : (pk : Int) < 23 := by omega
  clear cb5 S4 K4 z4 s0 nS y79 f79 C2 hpk
  -- region 5
  have DI := hid ((C5.out.cd.calm (Kept.refl (fun _ => False) W5).drew).direct (n := 5) (v := (pk : Int)) (by omega) (by omega) (by omega))
  have s0 : Kept (fun _ => False) W5 W5.drew := (Kept.refl _ W5).drew
  haveI nS : Nonempty (Wld (fun U' => Kept (fun _ => False) W5 U')) := ⟨⟨W5.drew, s0⟩⟩
  have z5 : ∀ x : Wld (fun U' => Kept (fun _ => False) W5 U'), x.w.cell? ⟨Be, 0, none⟩ = some (.pointer (some ⟨z.Eb, 0, none⟩)) := fun x => x.h.cell (p := ⟨Be, 0, none⟩) (fun h => h) C5.out.be
  have z6 : ∀ x : Wld (fun U' => Kept (fun _ => False) W5 U'), x.w.cell? ⟨Bm, 0, none⟩ = some (.pointer (some ⟨z.Mb, 0, none⟩)) := fun x => x.h.cell (p := ⟨Bm, 0, none⟩) (fun h => h) C5.out.bm
  have z7 : ∀ x : Wld (fun U' => Kept (fun _ => False) W5 U'), x.w.cell? ⟨z.Mb, 79, none⟩ = some (vi pk) := fun x => x.h.cell (p := ⟨z.Mb, 79, none⟩) (fun h => h) y5
  clear y5
  go_upto_region 5 with fail
  refine wp_region_calmplan 6 [(true, 0), (true, 1), (true, 2), (true, 3), (true, 4), (true, 5), (false, 6)] (fun w' => ∃ x : Wld (fun U' => Kept (fun _ => False) W5 U'), w' = x.w) mixed (by kernel_rfl) (inS s0) ?_
  iterate 6 (refine wpPlan_q (by rfl) ?_; dsimp only [List.getElem_toArray, List.getElem_cons_zero, List.getElem_cons_succ]; go_big_quiet_step (fail); refine wpQuiet_nil ?_)
  refine wpPlan_e (by rfl) ?_
  dsimp only [List.getElem_toArray, List.getElem_cons_zero, List.getElem_cons_succ]
  go_wp2_with (go_at_call 27; refine DI.out.mono ?_; rintro e W6 ⟨rfl, cp⟩; have C6 := hid ((C5.out.calm s0).go cp); clear cp DI)
  refine onward_normal (fun h => by cases h) ?_
  refine wpPlan_nil ?_
  refine calmQ_normal ?_
  clear z5 z6 z7 s0 nS C5
  obtain ⟨ov3, cb6⟩ := C6.out
  have C7 := hid cb6
  clear cb6 C6
  -- regions 6, 7
  go_wp2_with (go_at_call 28; refine (values_any sb 5 _).mono ?_; rintro e W7 ⟨rfl, rfl⟩)
  -- the range over the points
  obtain ⟨Bi, hBi⟩ : ∃ Bi, W6.heap.size = Bi := ⟨_, rfl⟩
  have k7 : Kept (fun _ => False) W6 ((W6.alloc (.cells #[.int .i64 0] 3)).alloc (.cells #[.pointer (some ⟨sb, 5, none⟩)] 66)) := ((Kept.refl _ W6).alloc _).alloc _
  have kk : Kept (fun _ => False) (W6.alloc (.cells #[.int .i64 0] 3)) ((W6.alloc (.cells #[.int .i64 0] 3)).alloc (.cells #[.pointer (some ⟨sb, 5, none⟩)] 66)) := (Kept.refl _ _).alloc _
  refine wp_as (fun X => CB U X z ov3 72 Bm Be ∧ X.cell? ⟨Bi, 0, none⟩ = some (vi 0) ∧ X.frozen? ⟨Bi, 0, none⟩ = false ∧ X.cell? ⟨Bi + 1, 0, none⟩ = some (.pointer (some ⟨sb, 5, none⟩)) ∧ X.heap.size = Bi + 2 ∧ U.heap.size ≤ Bi ∧ LB X z ov3 Bm Be Bi ∧ ∀ c, CE z ov3 c → c < Bi) ?_ ?_
  · have c7 := C7.out.calm k7
    have lm := World.block_lt_of_cell? W6 _ C7.out.bm
    have le := World.block_lt_of_cell? W6 _ C7.out.be
    have s7 : ((W6.alloc (.cells #[.int .i64 0] 3)).alloc (.cells #[.pointer (some ⟨sb, 5, none⟩)] 66)).heap.size = Bi + 2 := by rw [World.size_alloc, World.size_alloc, hBi]
    have hU := C7.out.k.size
    have h3 := H3.out
    dsimp only at lm le
    have th := kk.there (fun h => h) (there_new W6 [.int .i64 0] 3)
    refine ⟨c7, ?_, ?_, ?_, s7, by omega, ⟨⟨by omega, C7.out.n1⟩, ⟨by omega, C7.out.n2⟩, ⟨by omega, fun hc => by have := C7.out.cd.lt _ hc; omega⟩, by omega, ⟨by omega, by omega⟩, by omega⟩, fun c hc => by rw [← hBi]; exact C7.out.cd.lt _ hc⟩
    · rw [← hBi]; exact kk.cell (p := ⟨W6.heap.size, 0, none⟩) (fun h => h) (range_new W6 [.int .i64 0] 3 0 _ rfl)
    · rw [← hBi]; exact (th 0 (by simp)).2
    · have := range_new (W6.alloc (.cells #[.int .i64 0] 3)) [.pointer (some ⟨sb, 5, none⟩)] 66 0 _ rfl
      rw [World.size_alloc, hBi] at this
      exact this
  clear k7 kk
  rw [hBi]
  rintro V7 ⟨c7, b7, f7, x7, s7, hUi, lb7, lt7⟩
  clear C7 hBi
  have C7 := hid c7
  have LB7 := hid lb7
  have S7 := hid (show V7.heap.size = Bi + 2 ∧ U.heap.size ≤ Bi from ⟨s7, hUi⟩)
  obtain ⟨sw7, ck7⟩ := SWK.out _ c7.k
  obtain ⟨sv, m, Cb, co, cc, I, cpf, hx7⟩ := ck7
  have hnw : (nw : Int) ≤ 8000000000 := by have := HS.out.sx.hpn.2; omega
  have hf : ∀ p, p < d + n → 1 ≤ f p ∧ f p ≤ 8000000000 := fun p hp => ⟨HQ.out.ps p hp, Int.le_trans (HQ.out.le p hp) hnw⟩
  have hseq := seq_vals hx7 x7 hf
  have bS : ∀ c, Sr c → c < U.heap.size := HS.out.rp.bl.2.1
  have bb : sb < U.heap.size := HS.out.rp.bl.1
  have hUz := c7.lo
  have nCE : ∀ c, (Sr c ∨ c = sb ∨ c = Bi + 1) → c < V7.heap.size ∧ ¬ CE z ov3 c ∧ c ≠ Bi := fun c hc => by
    refine ⟨?_, fun he => ?_, ?_⟩
    · rcases hc with hc | hc | hc
      · have := bS c hc; omega
      · omega
      · omega
    · rcases hc with hc | hc | hc
      · have := bS c hc; have := CE.ge c7.cd c7.lo c he; omega
      · have := CE.ge c7.cd c7.lo c he; omega
      · have := lt7 c he; omega
    · rcases hc with hc | hc | hc
      · have := bS c hc; omega
      · omega
      · omega
  have NCE := hid nCE
  have I0 : LI V7 z ov3 72 Bm Be Bi 0 V7 ∧ 0 ≤ n := ⟨⟨ov3, c7.cd, Kept.refl _ _, Mv.refl _ _, c7.bm, c7.be, b7, f7⟩, Nat.zero_le _⟩
  have h37 : 3 < V7.heap.size := LB7.out.v
  clear c7 lb7 b7 f7 sw7 hx7 hf nCE
  refine act_as ?_
  intro A hA
  refine (wpIn_wide (n := 3)).1 ?_
  refine wpIn_rangeFunc_ownH (F := Fence.wide) rfl (by omega) (gf := 50) (lb := #[.pointer (some ⟨Bi + 1, 0, none⟩)]) (by rw [hA]; rfl) trivial (enters_of Ybaz.func50 (by kernel_rfl) rfl)
    hseq (fun h k => KpS.trans h k) ?hKb (Below.refl _ _) (fun _ => rfl)
    (fun pre V => LI V7 z ov3 72 Bm Be Bi pre.length V ∧ pre.length ≤ n) (fun _ _ _ => False) ?hI (fun _ _ _ _ _ hs _ _ => hs) I0
    (fun x a' V => ∃ B8, a' = { tmps := (A.tmps.setIfInBounds 45 (.agg #[vi x.1.1, .float .f64 x.1.2])).setIfInBounds 8 (.pointer (some ⟨B8, 0, none⟩)), defers := [] } ∧ V7.heap.size ≤ B8 ∧ V.heap[B8]? = some (.cells #[vi x.1.1, .float .f64 x.1.2] 46)) ?hAx ?assign ?body ?done ?stop
  case hKb =>
    intro V l o o' hl _ _ _
    exact KpS.putObj (n := V7.heap.size) (fun c hc => (NCE.out c hc).1) V l o' hl
  case hI =>
    intro pre V V' row hs hg hr
    exact ⟨hs.1.row h37 ((Kept.refl (fun c => row = some c) V).grown hg (fun k hk => .inl hk)) (fun c hc => hr c hc), hs.2⟩
  case hAx =>
    intro x a' _ V V' row hs hg hr
    obtain ⟨B8, e, lo8, o8⟩ := hs
    have k := (Kept.refl (fun c => row = some c) V).grown hg (fun k hk => .inl hk)
    refine ⟨B8, e, lo8, (k.block B8 (Array.getElem?_eq_some_iff.1 o8).1 (fun hc => ?_)).trans o8⟩
    obtain ⟨h1, ob, h2, h3⟩ := hr B8 hc
    rw [o8] at h2
    cases h2
    cases h3
  case assign =>
    rintro l pre x V K hi hK
    have ST := hid (run_storeAt_new (P := Ybaz.prog) V 46 #[.int .i64 0, .float .f64 0] #[vi x.1.1, .float .f64 x.1.2] (by kernel_rfl) rfl (by simp [Value.oneCell']))
    have hsV : V7.heap.size ≤ V.heap.size := hi.1.choose_spec.2.1.size
    have KK := hid (hK { tmps := (A.tmps.setIfInBounds 45 (.agg #[vi x.1.1, .float .f64 x.1.2])).setIfInBounds 8 (.pointer (some ⟨V.heap.size, 0, none⟩)), defers := [] } (V.alloc (.cells #[vi x.1.1, .float .f64 x.1.2] 46)) ((KeepsOthers.alloc _ _).from _) (KpS.kept ((Kept.refl (fun _ => False) V).alloc _) (fun c hc => ⟨Nat.lt_of_lt_of_le (NCE.out c hc).1 hsV, fun h => h⟩)) ⟨hi.1.row h37 ((Kept.refl (fun _ => False) V).alloc _) (fun c h => h.elim), hi.2⟩ ⟨V.heap.size, rfl, hsV, World.alloc_heap_new V _⟩)
    clear hK hi
    subst hA
    dsimp only at KK
    refine wpIn_region_plain (by kernel_rfl) (by rintro ⟨_, _, h⟩; exact h) ?_
    simp only [encP, List.zip_toArray, List.zip_cons_cons, List.zip_nil_right, List.zip_nil_left, List.size_toArray, List.foldl_toArray', List.foldl_cons, List.foldl_nil, List.setIfInBounds_toArray, List.set_cons_succ, List.set_cons_zero] at KK ⊢
    go_wp2_with ((with_reducible (show wpList _ _ _ (⟨_, .store 46 _ _, _, _, _, _⟩ :: _) _ _)); refine wpList_store_as rfl 46 _ _ rfl rfl V.heap.size 0 (.agg #[vi x.1.1, .float .f64 x.1.2]) rfl rfl ST.out ?_)
    exact KK.out
  case body =>
    intro l pre x a' V hl hrr hi ha hlen
    obtain ⟨B8, rfl, lo8, o8⟩ := ha
    subst hA
    obtain ⟨⟨ov8, cd8, kp8, mv8, m8, e8, i8, f8⟩, hpl⟩ := hi
    have lj : LJ V7 z ov3 Bm Be Bi pre.length (72 + 270 * pre.length) V ov8 := ⟨cd8, kp8, mv8, m8, e8, i8, f8⟩
    have n8 : ¬ CE z ov8 B8 := cd8.point (by have := C7.out.cd.lt z.Eb (.inl rfl); omega) o8
    have c1 : V.cell? ⟨B8, 0, none⟩ = some (vi x.1.1) := by simp [World.cell?, o8]
    have c2 : V.cell? ⟨B8, 1, none⟩ = some (.float .f64 x.1.2) := by simp [World.cell?, o8]
    have hpi : (pre.length : Int) < 65536 := by omega
    have TM := hid (time_any pre.length (by omega) (x.1.1 : Int) z ov8 _ V cd8 (by omega))
    have LJ8 := hid lj
    have V8 := hid (show V.cell? ⟨B8, 1, none⟩ = some (.float .f64 x.1.2) ∧ ¬ CE z ov8 B8 ∧ V.heap[B8]? = some (.cells #[vi x.1.1, .float .f64 x.1.2] 46) from ⟨c2, n8, o8⟩)
    have HPL := hid hlen
    clear cd8 kp8 mv8 f8 lj n8 o8 hseq I0 x7 hpl hlen c2
    simp only [List.setIfInBounds_toArray, List.set_cons_succ, List.set_cons_zero]
    gi_wp2_with (first | (refine ⟨trivial, ?_⟩; gi_at_call 29; refine (CallsIn.inRound l (callsIn_wide.2 TM.out)).mono ?_; rintro e W8 ⟨rfl, cp⟩; obtain ⟨⟨ov9, lj⟩, k9⟩ := LJ8.out.go LB7.out cp; have LJ9 := hid lj; have K9 := hid k9; have m9 := lj.bm; have e9 := lj.be; have i9 := lj.bi; have c29 := k9.cell (p := ⟨B8, 1, none⟩) V8.out.2.1 V8.out.1; have VA := hid (value_any x.1.2 z ov9 _ W8 lj.cd (by have := HPL.out; omega)); clear cp TM lj k9 m8 e8 i8) | (refine ⟨trivial, ?_⟩; gi_at_call 30; refine (CallsIn.inRound l (callsIn_wide.2 VA.out)).mono ?_; rintro e W9 ⟨rfl, cp⟩; obtain ⟨⟨ov10, lj⟩, k9⟩ := LJ9.out.go LB7.out cp; have LJ10 := hid lj; have K10 := hid k9; have i10 := lj.bi; have f10 := lj.fi; clear cp VA lj k9 m9 e9 i9 c29))
    have kf : Kept (fun c => CE z ov8 c ∨ CE z ov9 c ∨ c = Bi) V (W9.setCell ⟨Bi, 0, none⟩ (ii ((pre.length : Int) + 1))) := by
      have k1 := K9.out.weak (E' := fun c => CE z ov8 c ∨ CE z ov9 c ∨ c = Bi) (fun _ _ h => .inl h)
      have k2 := K10.out.weak (E' := fun c => CE z ov8 c ∨ CE z ov9 c ∨ c = Bi) (fun _ _ h => .inr (.inl h))
      exact (k1.trans k2).setCell (p := ⟨Bi, 0, none⟩) (.inl (.inr (.inr rfl))) _
    refine ⟨⟨kf.size, fun i o _ hi ho => (kf.block i (Array.getElem?_eq_some_iff.1 hi).1 (fun hx => ?_)).trans hi⟩, KpS.kept kf (fun c hc => ⟨?_, fun hx => ?_⟩), ?_, ?_⟩
    · rcases hx with hx | hx | hx
      · exact LJ8.out.cd.isCells hx hi ho rfl
      · have hi2 : W8.heap[i]? = some o := (K9.out.block i (Array.getElem?_eq_some_iff.1 hi).1 (fun h => LJ8.out.cd.isCells h hi ho rfl)).trans hi
        exact LJ9.out.cd.isCells hx hi2 ho rfl
      · exact (show isC V Bi from ⟨0, by rw [LJ8.out.bi]; rfl⟩).ne hi ho hx.symm
    · exact Nat.lt_of_lt_of_le (NCE.out c hc).1 LJ8.out.kp.size
    · have nc := NCE.out c hc
      rcases hx with hx | hx | hx
      · exact LJ8.out.mv.ce nc.1 nc.2.1 hx
      · exact LJ9.out.mv.ce nc.1 nc.2.1 hx
      · exact nc.2.2 hx
    · rw [List.length_append]
      exact LJ10.out.turn LB7.out (by omega)
    · rw [List.length_append]
      exact HPL.out
  case done =>
    intro D ys V hD _ hi hDm
    simp only [Exit.inBlock]
    subst hA
    dsimp only
    refine q_as (fun X => ∃ ov', CM U X z ov' 20000000 Bm Be D) ?_ ?_
    · obtain ⟨⟨ov', cd, k, mv, c1, c2, c3, f3⟩, hle⟩ := hi
      refine ⟨ov', ⟨cd.mono (by omega), Kept.thn' C7.out.k k (fun c hc he => ?_), hUz, c1, c2, mv.ce LB7.out.m.1 LB7.out.m.2, mv.ce LB7.out.e.1 LB7.out.e.2, C7.out.l1, C7.out.l2⟩, hDm, by have := S7.out; omega⟩
      rcases he with he | he
      · exact CE.ge C7.out.cd C7.out.lo c he
      · have := S7.out.2; omega
    rintro X12 ⟨ov12, cm⟩
    have CM0 := hid cm
    clear cm hi hDm hD C7 LB7 S7 NCE I0 hseq x7 s7 h37 hUi hUz lt7 bS bb V V7
    -- regions 12, 13
    have cbk := CM0.out.cb.k
    have bb := HS.out.rp.bl.1
    have nsb : ¬ U.heap.size ≤ sb := by omega
    have x0 := cbk.cell (p := ⟨sb, 0, none⟩) nsb HR.out.1
    have x1 := cbk.cell (p := ⟨sb, 1, none⟩) nsb HS.out.sx.r1
    have x2 := cbk.cell (p := ⟨sb, 2, none⟩) nsb HR.out.2.1
    have x3 := cbk.cell (p := ⟨sb, 3, none⟩) nsb HS.out.r3
    have NS := hid (newSeries_any rb ro rc na st nn hb rw xff X12 (HR.out.2.2.1.kept cbk (by have := World.block_lt_of_cell? U _ (HR.out.2.2.1.row 0 (by have := HR.out.2.2.1.hna; omega)).1; dsimp only at this; omega)) HS.out.sx.hhb HS.out.hrw HR.out.2.2.2)
    clear cbk bb nsb
    go_upto_region 13 with (go_at_call 16; refine NS.out.mono ?_; rintro e W12 ns; obtain ⟨sb2, ab2, rfl, ns⟩ := ns; have N2 := hid ns; clear ns NS)
    clear x0 x1 x2 x3
    have RE : Hid (Calls Ybaz.prog 31 #[.pointer (some ⟨sb2, 0, none⟩), .pointer (some ⟨sb, 5, none⟩)] W12 fun e w' => e = .returned (.tuple #[]) ∧ RpP W12 (fun _ _ => False) sb2 ab2 na st nn (fuOf st) hb w') := by
      obtain ⟨l1, l2, k12, sw2, _, _⟩ := N2.out
      have k := Kept.thn' CM0.out.cb.k k12 (fun _ _ h => h.elim)
      obtain ⟨sv, m, Cb, co, cc, I, cpf, hx⟩ := (SWK.out _ k).2
      have hU := CM0.out.cb.k.size
      have bS : ∀ c, Sr c → c < U.heap.size := HS.out.rp.bl.2.1
      have bb : sb < U.heap.size := HS.out.rp.bl.1
      exact hid (replay_any (fun _ _ => False) sb2 ab2 na st nn (fuOf st) hb 0 0 false Sr sb 5 d n m Cb co cc f sv I cpf W12 sw2.sx hx (fun p hp => ⟨HQ.out.ps p hp, Int.le_trans (HQ.out.le p hp) hnw⟩) (fun _ _ _ h => h.elim) ⟨fun h => by have := bS _ h; omega, by omega⟩ ⟨fun h => by have := bS _ h; omega, by omega⟩)
    go_upto_region 14 with (go_at_call 31; refine RE.out.mono ?_; rintro e W13 ⟨rfl, rp⟩; have RPP := hid rp; clear rp RE)
    refine wp_as (fun X => ∃ SB pv2 nw2 sd2, CR U X z ov12 20000000 Bm Be D SB sb2 ab2 na st nn (fuOf st) hb pv2 nw2 sd2) ?_ ?_
    · obtain ⟨l1, l2, k12, sw2, _, _⟩ := N2.out
      obtain ⟨SB, pv2, nw2, sd2, sx, sn⟩ := RPP.out
      have k : Kept (fun _ => False) X12 W13 := Kept.thn' k12 (sn.1.kept (E := fun c => c = ab2 ∨ c = sb2) (fun c j _ hx => by
        rcases hx with ⟨_, _, hx⟩ | hx | hx
        · exact hx.elim
        · exact .inl hx
        · exact .inr hx.1)) (fun c hc hx => by omega)
      have lt := CM0.out.cb.cd.lt
      have hk := k12.size
      refine ⟨SB, pv2, nw2, sd2, CM0.out.calm k, sx, fun hc => by have := lt _ hc; omega, fun hc => by have := lt _ hc; omega, fun i c hi hc he => ?_⟩
      rcases sn.2 i c hi hc with h | h
      · exact h
      · have := lt _ he; omega
    rintro X14 ⟨SB, pv2, nw2, sd2, cr⟩
    have CR0 := hid cr
    clear cr RPP N2 CM0
    -- region 14
    have sw14 := (SWK.out _ CR0.out.cm.cb.k).1
    have hpv : (pv : Int) ≤ 8000000000 := by have := sw14.sx.hpn; omega
    have hpv2 : (pv2 : Int) ≤ 8000000000 := by have := CR0.out.sx.hpn; omega
    have s0 : Kept (fun _ => False) X14 X14.drew := (Kept.refl _ X14).drew
    haveI nS : Nonempty (Wld (fun U' => Kept (fun _ => False) X14 U')) := ⟨⟨X14.drew, s0⟩⟩
    have z1 : ∀ x : Wld (fun U' => Kept (fun _ => False) X14 U'), x.w.cell? ⟨Be, 0, none⟩ = some (.pointer (some ⟨z.Eb, 0, none⟩)) := fun x => x.h.cell (p := ⟨Be, 0, none⟩) (fun h => h) CR0.out.cm.cb.be
    have z2 : ∀ x : Wld (fun U' => Kept (fun _ => False) X14 U'), x.w.cell? ⟨Bm, 0, none⟩ = some (.pointer (some ⟨z.Mb, 0, none⟩)) := fun x => x.h.cell (p := ⟨Bm, 0, none⟩) (fun h => h) CR0.out.cm.cb.bm
    have z3 : ∀ x : Wld (fun U' => Kept (fun _ => False) X14 U'), x.w.cell? ⟨z.Mb, 0, none⟩ = some (.pointer (some ⟨z.U1, 0, none⟩)) := fun x => x.h.cell (p := ⟨z.Mb, 0, none⟩) (fun h => h) CR0.out.cm.cb.cd.md.c0
    have z4 : ∀ x : Wld (fun U' => Kept (fun _ => False) X14 U'), x.w.cell? ⟨sb, 8, none⟩ = some (vi pv) := fun x => x.h.cell (p := ⟨sb, 8, none⟩) (fun h => h) sw14.sx.c8
    have z5 : ∀ x : Wld (fun U' => Kept (fun _ => False) X14 U'), x.w.cell? ⟨sb2, 8, none⟩ = some (vi pv2) := fun x => x.h.cell (p := ⟨sb2, 8, none⟩) (fun h => h) CR0.out.sx.c8
    clear sw14
    refine wp_region_calmplan 15 [(true, 0), (true, 1), (true, 2), (true, 3), (true, 4), (true, 5), (true, 6), (true, 7), (true, 8), (true, 9), (true, 10), (true, 11), (true, 12), (true, 13), (false, 14), (false, 15)] (fun w' => ∃ x : Wld (fun U' => Kept (fun _ => False) X14 U'), w' = x.w) mixed (by kernel_rfl) (inS s0) ?_
    iterate 14 (refine wpPlan_q (by rfl) ?_; dsimp only [List.getElem_toArray, List.getElem_cons_zero, List.getElem_cons_succ]; go_big_quiet_step (fail); refine wpQuiet_nil ?_)
    refine wpPlan_e (by rfl) ?_
    dsimp only [List.getElem_toArray, List.getElem_cons_zero, List.getElem_cons_succ]
    go_wp2_with (go_at_call 32; refine (zigzag_any _ _).mono ?_; rintro e W1 ⟨⟨zz, hzz, rfl⟩, rfl⟩)
    refine onward_normal (fun _ => inS s0) ?_
    have U1 := hid ((CR0.out.cm.cb.cd.calm s0).uint1 (ctx := 2) (v := zz) (by omega) (by omega) (by omega))
    refine wpPlan_e (by rfl) ?_
    dsimp only [List.getElem_toArray, List.getElem_cons_zero, List.getElem_cons_succ]
    go_wp2_with (go_at_call 25; refine U1.out.mono ?_; rintro e W15 ⟨rfl, cp⟩; have C15 := hid ((CR0.out.calm s0).go cp); clear cp U1)
    refine onward_normal (fun h => by cases h) ?_
    refine wpPlan_nil ?_
    refine calmQ_normal ?_
    clear z1 z2 z3 z4 z5 s0 nS hzz CR0 hpv hpv2
    -- regions 15 .. 19
    obtain ⟨ov15, cr15⟩ := C15.out
    have CR1 := hid cr15
    clear cr15 C15
    have c4 := (SWK.out _ CR1.out.cm.cb.k).1.sx.c4
    have hna : (na : Int) ≤ 2 := by have := HR.out.2.2.1.hna; omega
    go_wp2
    clear c4
    go_loopw [90] (fun iv X => ∃ (i : Nat) (ov' : Value), iv = vi i ∧ i ≤ na ∧ CR U X z ov' (20000060 + i * 2600000000) Bm Be D SB sb2 ab2 na st nn (fuOf st) hb pv2 nw2 sd2) (fun iv _ => na - (intOf iv).toNat)
    case atStart => exact ⟨0, ov15, rfl, by omega, CR1.out⟩
    case round =>
      clear CR1
      obtain ⟨i, ov16, rfl, hi, cr⟩ := hrel
      have CR2 := hid cr
      have HI := hid hi
      clear cr hi
      by_cases more : (i : Int) < (na : Int)
      · go_upto_region 18 with fail
        have MORE := hid (show i < na by omega)
        have sw18 := (SWK.out _ CR2.out.cm.cb.k).1
        have s0 : Kept (fun _ => False) wr wr.drew := (Kept.refl _ wr).drew
        haveI nS : Nonempty (Wld (fun U' => Kept (fun _ => False) wr U')) := ⟨⟨wr.drew, s0⟩⟩
        have z1 : ∀ x : Wld (fun U' => Kept (fun _ => False) wr U'), x.w.cell? ⟨Be, 0, none⟩ = some (.pointer (some ⟨z.Eb, 0, none⟩)) := fun x => x.h.cell (p := ⟨Be, 0, none⟩) (fun h => h) CR2.out.cm.cb.be
        have z2 : ∀ x : Wld (fun U' => Kept (fun _ => False) wr U'), x.w.cell? ⟨Bm, 0, none⟩ = some (.pointer (some ⟨z.Mb, 0, none⟩)) := fun x => x.h.cell (p := ⟨Bm, 0, none⟩) (fun h => h) CR2.out.cm.cb.bm
        have z3 : ∀ x : Wld (fun U' => Kept (fun _ => False) wr U'), x.w.cell? ⟨sb, 4, none⟩ = some (sl ab 0 na na) := fun x => x.h.cell (p := ⟨sb, 4, none⟩) (fun h => h) sw18.sx.c4
        have z4 : ∀ x : Wld (fun U' => Kept (fun _ => False) wr U'), x.w.cell? ⟨sb2, 4, none⟩ = some (sl ab2 0 na na) := fun x => x.h.cell (p := ⟨sb2, 4, none⟩) (fun h => h) CR2.out.sx.c4
        clear sw18
        refine wp_region_calmplan 14 [(true, 0), (true, 1), (true, 2), (true, 3), (true, 4), (true, 5), (true, 6), (true, 7), (true, 8), (true, 9), (true, 10), (true, 11), (true, 12), (true, 13), (false, 14)] (fun w' => ∃ x : Wld (fun U' => Kept (fun _ => False) wr U'), w' = x.w) mixed (by kernel_rfl) (inS s0) ?_
        iterate 14 (refine wpPlan_q (by rfl) ?_; dsimp only [List.getElem_toArray, List.getElem_cons_zero, List.getElem_cons_succ]; go_big_quiet_step (fail); refine wpQuiet_nil ?_)
        refine wpPlan_e (by rfl) ?_
        dsimp only [List.getElem_toArray, List.getElem_cons_zero, List.getElem_cons_succ]
        have SL : Hid (Calls Ybaz.prog 33 #[.pointer (some ⟨z.Mb, 0, none⟩), .pointer (some ⟨z.Eb, 0, none⟩), .pointer (some ⟨ab, i * 8, none⟩), .pointer (some ⟨ab2, i * 8, none⟩)] wr.drew fun e w' => e = .returned (.tuple #[]) ∧ CP wr.drew z ov16 (20000060 + (i + 1) * 2600000000) w') := by
          have c2 := CR2.out.calm s0
          have sw := (SWK.out _ c2.cm.cb.k).1
          have hi := MORE.out
          have hn2 := HR.out.2.2.1.hna
          have ge := CE.ge c2.cm.cb.cd c2.cm.cb.lo
          have a1 := HS.out.sx.isa.lt
          have a2 := (HS.out.sx.ar i hi).bl.2.1
          obtain ⟨sc, fi, d1, n1, f1, hx1⟩ := sw.sx.ar i hi
          obtain ⟨sc2, fi2, d2, n2, f2, hx2⟩ := c2.sx.ar i hi
          have hfi := hx1.hfi
          refine hid ((slots33 (SA i) ab (i * 8) (st i) (nn i) (fuOf st i) sc fi d1 n1 f1 (SB i) ab2 (i * 8) (st i) (nn i) (fuOf st i) sc2 fi2 d2 n2 f2 z ov16 _ wr.drew c2.cm.cb.cd hx1 hx2 (by omega) (fun hc => by have := ge _ hc; omega) c2.n2 (fun x hx hc => by have := ge _ hc; have := a2 _ hx; omega) (fun x hx => c2.n3 i x hi hx)).mono ?_)
          rintro e w' ⟨rfl, cp⟩
          exact ⟨rfl, cp.mono (by omega)⟩
        go_wp2_with (go_at_call 33; refine SL.out.mono ?_; rintro e W18 ⟨rfl, cp⟩; have C18 := hid ((CR2.out.calm s0).go cp); clear cp SL)
        refine onward_normal (fun h => by cases h) ?_
        refine wpPlan_nil ?_
        refine calmQ_normal ?_
        clear z1 z2 z3 z4 s0 nS CR2
        go_wp2
        go_roundw
        case rel =>
          obtain ⟨ov18, cr⟩ := C18.out
          exact ⟨i + 1, ov18, by simp, MORE.out, cr⟩
        case measure =>
          have := MORE.out
          simp [intOf]
          omega
      · have HM := hid (show i = na by have := HI.out; omega)
        have be := CR2.out.cm.cb.be
        have FN : Hid (Calls Ybaz.prog 34 #[.pointer (some ⟨z.Eb, 0, none⟩)] wr fun e w' => ∃ ov' xs, e = .returned ov' ∧ w'.ownsRow z.Eb 5 1 ov' xs.length xs ∧ xs.length ≤ 20000000000 ∧ Kept (EE z.Eb ov16) wr w' ∧ Mv wr ov16 ov' ∧ ∀ u ∈ xs, u.oneCell' = true) := by
          have hn2 := HR.out.2.2.1.hna
          have hi := HM.out
          have es := CR2.out.cm.cb.cd.es
          refine hid ((finish_any z.Eb z.Eb _ ov16 wr ⟨by
            obtain ⟨xs, low, rg, cache, pend, st, ex, h1, h2, h3, h4, h5⟩ := es.ex
            exact ⟨xs, low, rg, cache, pend, st, ex, h1, h2, h3, by omega, h5⟩⟩ (by omega)).mono ?_)
          rintro e w' ⟨ov', xs, rfl, o1, o2, o3⟩
          exact ⟨ov', xs, rfl, o1, by omega, o3⟩
        go_wp2_with (go_at_call 34; refine FN.out.mono ?_; rintro e W20 ⟨ov20, xs, rfl, o1, o2, o3, o4, o5⟩; have FO := hid (show W20.ownsRow z.Eb 5 1 ov20 xs.length xs ∧ xs.length ≤ 20000000000 ∧ Kept (EE z.Eb ov16) wr W20 ∧ ∀ u ∈ xs, u.oneCell' = true from ⟨o1, o2, o3, o5⟩); clear o1 o2 o3 o4 o5 FN)
        obtain ⟨o1, o2, o3, o5⟩ := FO.out
        have cm := CR2.out.cm
        have kC := o3.weak (E' := CE z ov16) (fun c _ hc => hc.elim .inl (fun h => .inr (.inr (.inr (.inr (.inr (.inr h)))))))
        have mD : W20.heap[D]? = some (.deferred (some [])) := (kC.block D (Array.getElem?_eq_some_iff.1 cm.mrk).1 (fun hc => cm.cb.cd.isCells hc cm.mrk rfl rfl)).trans cm.mrk
        have od := cm.cb.cd.o
        have lo := cm.cb.lo
        refine leaves_marks (lo := U.heap.size) [D] W20 ((Marks.nil _ _).cons (by simp) cm.lo mD) (fun W' kp => ⟨_, results_tmp rfl _ _ _, ?_⟩)
        refine ⟨ov20, xs, rfl, ⟨o1.1, ?_⟩, o2, o5, ?_⟩
        · rcases o1.2 with h | ⟨g, cap, cur, e1, e2, e3, e4⟩
          · exact .inl h
          · refine .inr ⟨g, cap, cur, e1, by omega, (kp.block g (Array.getElem?_eq_some_iff.1 e3).1 (fun hd => ?_)).trans e3, e4⟩
            have e : g = D := by simpa using hd
            subst e
            rw [mD] at e3
            cases e3
        · have k1 := Kept.thn' cm.cb.k kC (fun c _ he => CE.ge cm.cb.cd cm.cb.lo c he)
          have k2 := Kept.thn' k1 kp (fun c _ hd => by
            have e : c = D := by simpa using hd
            subst e
            exact cm.lo)
          exact k2.weak (fun c hc he => absurd hc (Nat.not_lt.2 he))
  case stop =>
    intro D c pre V _ _ hff
    exact hff.elim
end Go.Proofs.YbulkdsjeGreatDoor
