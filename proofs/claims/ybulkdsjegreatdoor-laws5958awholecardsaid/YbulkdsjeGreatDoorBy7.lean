import Derived.Test.YbulkdsjeGreatDoorBy5
import Derived.Handy
import Derived.Deep.MidRow
set_option linter.unusedVariables false
set_option linter.unusedSimpArgs false
namespace Go.Proofs.YbulkdsjeGreatDoor
open Go.RowKit

attribute [local go_sem] Oper.semAt_some
theorem src_own {W : World} {base : Nat} {v : Value} {ys : List Value} (h : W.ownsRow base 5 1 v ys.length ys) : Src W v ys := by
  rcases h.2 with ⟨rfl, e⟩ | ⟨g, cap, cur, rfl, hb, hg, hn, hc, hs, ht⟩
  · have hy : ys = [] := List.eq_nil_of_length_eq_zero e
    subst hy
    exact ⟨none, 0, rfl, fun _ => ⟨rfl, rfl⟩, fun ad h => (by cases h), Nat.le_refl _⟩
  · refine ⟨some ⟨g, 0, none⟩, cap, rfl, fun h => (by cases h), fun ad hd => ?_, hn⟩
    cases hd
    refine ⟨g, 0, rfl, fun j b hj => ?_⟩
    have := h.cells (g := g) rfl j b hj
    rwa [Addr.add_lit] at this
/-- All blocks of a series lie below. -/
structure SBd (SA : Nat → Nat → Prop) (Sr : Nat → Prop) (sb ab na rb B0 : Nat) : Prop where
  s : sb < B0
  a : ab < B0
  r : rb < B0
  i : ∀ i c, i < na → SA i c → c < B0
  p : ∀ c, Sr c → c < B0
  z : 3 < B0
theorem SW.hi {U V : World} {SA : Nat → Nat → Prop} {Sr E : Nat → Prop} {sb ab na rb B0 : Nat} {st nn fu : Nat → Nat} {hb rw pv nw : Nat} {sd : Bool} {N : Nat} (h : SW U SA Sr sb ab na st nn fu hb rw pv nw sd N) (k : Kept E U V) (b : SBd SA Sr sb ab na rb B0) (hE : ∀ c, E c → B0 ≤ c) : SW V SA Sr sb ab na st nn fu hb rw pv nw sd N := by
  have n : ∀ c, c < B0 → ¬ E c := fun c hc he => by have := hE c he; omega
  exact ⟨h.sx.keptE k (n _ b.s) (n _ b.a) (fun i c hi hc => n _ (b.i i c hi hc)), k.cell (p := ⟨sb, 3, none⟩) (n _ b.s) h.r3, h.rp.kept k (n _ b.s) (fun c hc => n _ (b.p c hc)), h.d1, h.d2, h.hrw⟩

set_option maxRecDepth 100000 in
set_option maxHeartbeats 4000000 in
theorem series10 (SA : Nat → Nat → Prop) (Sr : Nat → Prop) (sb ab na rb ro rc : Nat) (st nn : Nat → Nat) (hb rw xff pv nw : Nat) (sd : Bool) (N B0 base : Nat) (name : ByteArray) (v : Value) (xs : List Value) (U : World) (h : SW U SA Sr sb ab na st nn (fuOf st) hb rw pv nw sd N) (hN : N ≤ 65536) (c0 : U.cell? ⟨sb, 0, none⟩ = some (sl rb ro na rc)) (c2 : U.cell? ⟨sb, 2, none⟩ = some (.float .f64 xff)) (rm : RuleM U rb ro na st nn) (hfu : ∀ i, i < na → 0 < fuOf st i ∧ fuOf st i ≤ 60000) (g : GL U) (bd : SBd SA Sr sb ab na rb B0) (hx : xff < 18446744073709551616) (hown : U.ownsRow base 5 1 v xs.length xs) (hl : xs.length + name.size ≤ 1000000) (hbs : base ≤ U.heap.size) (hv : ∀ c, v.ownBlock = some c → B0 ≤ c) (hB0 : B0 ≤ U.heap.size) : Calls Ybaz.prog 10 #[v, .string name, .pointer (some ⟨sb, 0, none⟩)] U fun e w' => ∃ v' code, e = .returned v' ∧ BB U base v xs w' v' (u8s (uvF 10 name.size) ++ (Lib.strCells name ++ (u8s (ruB na st nn hb rw xff) ++ (u8s (uvF 10 code.length) ++ code)))) ∧ code.length ≤ 20000000000 := by
  have fx : ∀ X vv ys, BB U base v xs X vv ys → SW X SA Sr sb ab na st nn (fuOf st) hb rw pv nw sd N ∧ X.cell? ⟨sb, 0, none⟩ = some (sl rb ro na rc) ∧ X.cell? ⟨sb, 2, none⟩ = some (.float .f64 xff) ∧ RuleM X rb ro na st nn ∧ GL X ∧ (∀ c, vv.ownBlock = some c → c ≠ rb) ∧ 3 < X.heap.size := fun X vv ys b => by
    have n : ∀ c, c < B0 → ¬ v.ownBlock = some c := fun c hc he => by have := hv c he; omega
    refine ⟨h.hi b.kept bd hv, b.kept.cell (p := ⟨sb, 0, none⟩) (n _ bd.s) c0, b.kept.cell (p := ⟨sb, 2, none⟩) (n _ bd.s) c2, rm.kept b.kept (n _ bd.r), g.kept b.kept (n _ (by have := bd.z; omega)) (n _ (by have := bd.z; omega)), fun c hc e => ?_, by have := bd.z; have := b.fp.size; omega⟩
    have := bd.r
    rcases b.mv c hc with e2 | e2
    · have := hv c e2; omega
    · omega
  have FX := hid fx
  have HL := hid (show xs.length + name.size ≤ 1000000 ∧ base ≤ U.heap.size from ⟨hl, hbs⟩)
  have HH := hid (show hb < 1125899906842624 ∧ rw < 1125899906842624 ∧ N ≤ 65536 ∧ (∀ i, i < na → 0 < fuOf st i ∧ fuOf st i ≤ 60000) ∧ na ≤ 2 from ⟨h.sx.hhb, h.hrw, hN, hfu, h.sx.hna.2⟩)
  have hns : (name.size : Int) ≤ 1000000 := by omega
  have HO := hid (BB.refl hown)
  have U1 := hid (uv20 base v xs name.size U (by omega) hown (by omega) hbs)
  clear fx hown hl hbs hv hB0 h hN c0 c2 rm hfu g bd
  go_enter Ybaz.func10, Ybaz.ntmps10
  go_upto_region 2 with (go_at_call 20; refine U1.out.mono ?_; rintro e W1 ⟨v1, rfl, bb⟩; have B1 := hid bb; clear bb U1)
  have l1 := uvF_len 10 name.size
  have L1 := hid (show (xs ++ u8s (uvF 10 name.size)).length ≤ 1000020 by rw [List.length_append, u8s_len]; have := HL.out; omega)
  go_upto_region 3 with ((with_reducible (show wpList _ _ _ (⟨some 15, _, _, _, _, _⟩ :: _) _ _)); refine wpList_str rfl _ _ rfl base v1 (xs ++ u8s (uvF 10 name.size)) rfl B1.out.own name rfl (by have := L1.out; have := HL.out; omega) (by have := HL.out.2; have := B1.out.fp.size; omega) ?_; intro v2 W2 bb2; have B2 := hid (B1.out.trans bb2); clear bb2; simp only [Act.put, List.setIfInBounds_toArray, List.set_cons_succ, List.set_cons_zero])
  obtain ⟨sw, x0, x2, rm, gl, nv, _⟩ := FX.out _ _ _ B2.out
  have x1 := sw.sx.r1
  have x3 := sw.r3
  have L2 := hid (show (xs ++ (u8s (uvF 10 name.size) ++ Lib.strCells name)).length ≤ 2000020 by have := L1.out; have := HL.out; simp only [List.length_append, u8s_len, Lib.strCells_length] at *; omega)
  have U2 := hid (rule21 rb ro rc na st nn hb rw xff base v2 (xs ++ (u8s (uvF 10 name.size) ++ Lib.strCells name)) W2 rm HH.out.1 HH.out.2.1 hx B2.out.own (by have := L2.out; omega) (by have := HL.out.2; have := B2.out.fp.size; omega) nv)
  clear sw rm gl nv B1
  go_upto_region 4 with (go_at_call 21; refine U2.out.mono ?_; rintro e W3 ⟨v3, rfl, bb⟩; have B3 := hid (B2.out.trans bb); clear bb U2)
  clear x0 x1 x2 x3 B2
  obtain ⟨R, hR⟩ : ∃ R, ruB na st nn hb rw xff = R := ⟨_, rfl⟩
  have HRL := hid (show R.length ≤ 100 by rw [← hR, ruB]; have := uvF_len 10 na; have := arB_len st nn na; have := uvF_len 10 (hb / 1000000); have := uvF_len 10 (rw / 1000000); have : (leB xff).length = 8 := rfl; have := HH.out.2.2.2.2; simp only [List.length_append]; omega)
  have B3' := B3
  rw [hR] at B3'
  have CA : Hid (Calls Ybaz.prog 15 #[.slice none 0 0, .pointer (some ⟨sb, 0, none⟩)] W3 fun e w' => AcP W3 e w') := by
    obtain ⟨sw, x0, x2, rm, gl, nv, h3⟩ := FX.out _ _ _ B3.out
    exact hid (code_any SA Sr sb ab na rb ro rc st nn hb rw xff pv nw sd N W3 sw HH.out.2.2.1 x0 x2 rm HH.out.2.2.2.1 gl h3)
  have HR := hid hR
  clear B3 hR
  go_upto_region 5 with (go_at_call 15; refine CA.out.mono ?_; rintro e W4 ac; obtain ⟨cv, code, rfl, co, cl, c1, ck⟩ := ac; obtain ⟨ca, cc, rfl, _⟩ := own_form co; have CO := hid (show W4.ownsRow W3.heap.size 5 1 (.slice ca code.length cc) code.length code ∧ code.length ≤ 20000000000 ∧ (∀ u ∈ code, u.oneCell' = true) from ⟨co, cl, c1⟩); have B4 := hid (B3'.out.calm ck); have cli : (code.length : Int) ≤ 20000000000 := (by omega); have V3 := hid (show ∀ c, v3.ownBlock = some c → c < W3.heap.size from fun c hc => (B3'.out.own.lt c hc).2); clear co c1 ck CA)
  have L4 := hid (show (xs ++ (u8s (uvF 10 name.size) ++ Lib.strCells name ++ u8s R)).length ≤ 2000220 by have := L2.out; have := HRL.out; simp only [List.length_append, u8s_len] at *; omega)
  have U4 := hid (uv20 base v3 (xs ++ (u8s (uvF 10 name.size) ++ Lib.strCells name ++ u8s R)) code.length W4 (by omega) B4.out.own (by have := L4.out; omega) (by have := HL.out.2; have := B4.out.fp.size; omega))
  clear B3'
  go_upto_region 6 with (go_at_call 20; refine U4.out.mono ?_; rintro e W5 ⟨v5, rfl, bb⟩; have K5 := hid bb.kept; have B5 := hid (B4.out.trans bb); clear bb U4)
  have SR : Hid (Src W5 (.slice ca code.length cc) code) := hid (by
    have ow := own_kept CO.out.1 K5.out (fun c hc he => by have := (CO.out.1.lt c hc).1; have := V3.out c he; omega)
    exact src_own ow)
  go_wp2_with ((with_reducible (show wpList _ _ _ (⟨some 31, _, _, _, _, _⟩ :: _) _ _)); refine wpList_src rfl _ _ rfl base v5 (xs ++ (u8s (uvF 10 name.size) ++ Lib.strCells name ++ u8s R ++ u8s (uvF 10 code.length))) rfl B5.out.own _ code rfl SR.out CO.out.2.2 (by have := L4.out; have := uvF_len 10 code.length; have := CO.out.2.1; simp only [List.length_append, u8s_len] at *; omega) (by have := HL.out.2; have := B5.out.fp.size; omega) ?_; intro v6 W6 bb2; have B6 := hid (B5.out.trans bb2); clear bb2; simp only [Act.put, List.setIfInBounds_toArray, List.set_cons_succ, List.set_cons_zero])
  go_ret
  refine ⟨v6, code, rfl, ?_, CO.out.2.1⟩
  have b6 := B6.out
  rw [HR.out]
  simp only [List.append_assoc] at b6 ⊢
  exact b6
end Go.Proofs.YbulkdsjeGreatDoor
