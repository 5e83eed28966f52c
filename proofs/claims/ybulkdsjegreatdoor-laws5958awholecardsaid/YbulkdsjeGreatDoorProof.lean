/-
  THE ROW OF LawS5958AWhole AND ITS TIED CARD; the walk of the law is YbulkdsjeGreatDoorBy8.
-/
import Derived.Test.YbulkdsjeGreatDoorPf2
import Derived.Test.YbulkdsjeGreatDoorRows
import Derived.Test.YbulkdsjeGreatDoorTie
import Derived.Test.YbulkdsjeGreatDoorCards
import Derived.SevenTiedAt
namespace Go.Proofs.YbulkdsjeGreatDoor
open Go.ChangeShapes Go.WideShapes Go.ChangeAt Go.RowKit
set_option linter.unusedVariables false

set_option maxRecDepth 100000 in
theorem lifted (os : Os) (started : os.Started) (H : Type) (enc : TypeId × Value → H) :
    ReturnsInHanded {} Ybaz.checked os 3 .any (fun w args => (Rows.lawS5958AWholeSpec.pre enc Ybaz.prog Ybaz.f3 [] false w args ∧ laidMetH Ybaz.prog Rows.lawS5958AWholeRow.laid w) ∧ sizedMet enc Ybaz.prog Ybaz.f3 (OpenSpec.ofChange Rows.lawS5958AWholeSpec) false w args)
      (Rows.lawS5958AWholeSpec.post enc Ybaz.prog Ybaz.f3 false true false false) := by
  refine returnsInHanded_of_change_and (C := Ybaz.checked) (X := fun w _ => laidMetH Ybaz.prog Rows.lawS5958AWholeRow.laid w) (fun _ _ _ hh h => h.of_heap hh) own started (by kernel_rfl) Ybaz.func3
    (ChangeSpec.witness_shaped (enc := enc) (C := Ybaz.checked) (os := os) (X := fun w _ => laidMetH Ybaz.prog Rows.lawS5958AWholeRow.laid w) false (World.doorLaid Ybaz.prog 400 os) #[.slice none 0 0, .string ByteArray.empty, .agg #[.int .u8 0, .int .u8 0, .int .u8 0, .int .u64 0, .int .u64 0, .float .f64 0], .slice none 0 0] 8 rfl (World.shaped_of_RefB (by kernel_rfl) (by kernel_rfl)) (by kernel_rfl) (by kernel_rfl) (by kernel_rfl) (door_met os _)) ?_
  intro W base args ds gs before hval0 hW _ hsz0 hL _
  have hval : ∀ (j : Nat) t v, Ybaz.f3.params[j]? = some t → args[j]? = some v → Value.okWide Ybaz.prog W .any base t v := hval0
  have hW' := hW
  obtain ⟨p, q, hA0, hV0, rfl, hfz, hnd⟩ := hW
  have hA : DataW.TrodAll enc Ybaz.prog W 0 (fun _ => true) true Ybaz.f3.params.toList args.toList ds p := hA0
  have hV : DataW.TrodVars enc Ybaz.prog W (fun _ => true) [vname] gs q := hV0
  have hsz : (DataW.weightsEach Ybaz.prog (Ybaz.f3.params.toList ++ Rows.lawS5958AWholeSpec.plain.varTypes Ybaz.prog) (ds ++ gs)).all (· ≤ reachBytes) = true := hsz0
  rw [Ybaz.params3] at hA hval hsz
  obtain ⟨v0, vs0, d0, ds0, p0, q0, hargs, rfl, rfl, h0, r0⟩ := trodAll_cons hA
  obtain ⟨v1, vs1, d1, ds1, p1, q1, rfl, rfl, rfl, h1, r1⟩ := trodAll_cons r0
  obtain ⟨v2, vs2, d2, ds2, p2, q2, rfl, rfl, rfl, h2, r2⟩ := trodAll_cons r1
  obtain ⟨v3, vs3, d3, ds3, p3, q3, rfl, rfl, rfl, h3, r3⟩ := trodAll_cons r2
  obtain ⟨rfl, rfl, rfl⟩ := trodAll_nil r3
  obtain rfl : args = #[v0, v1, v2, v3] := by cases args; simp_all
  obtain ⟨g, t, cs, fu, dv, pv, rfl, hg, ht, hv, hd, rfl⟩ := trodVars_one hV
  obtain rfl := Option.some.inj (gS.symm.trans hg)
  obtain rfl := Option.some.inj (tS.symm.trans ht)
  have lt0 : ∀ x ∈ p0, x.block < W.heap.size := by obtain ⟨m, hm⟩ := h0; exact DataW.trod_lt m _ _ _ hm
  have lt1 : ∀ x ∈ p1, x.block < W.heap.size := by obtain ⟨m, hm⟩ := h1; exact DataW.trod_lt m _ _ _ hm
  have lt2 : ∀ x ∈ p2, x.block < W.heap.size := by obtain ⟨m, hm⟩ := h2; exact DataW.trod_lt m _ _ _ hm
  have lt3 : ∀ x ∈ p3, x.block < W.heap.size := by obtain ⟨m, hm⟩ := h3; exact DataW.trod_lt m _ _ _ hm
  have ltv : ∀ x ∈ pv, x.block < W.heap.size := DataW.trod_lt fu _ _ _ hd
  have k0 := h0
  have k1 := h1
  have k2 := h2
  have k3 := h3
  have kv : DataW.Trod enc Ybaz.prog W 0 (fun _ => true) true 130 (.agg cs) dv pv := ⟨fu, hd⟩
  have gl := gl_of hL
  obtain ⟨a0, l0, c0, rfl⟩ := okWide_slice Ybaz.underlying22 (hval 0 22 v0 rfl rfl)
  obtain ⟨pn, hpn, src, dpn⟩ := open_ahead (hval 0 22 _ rfl rfl) h0
  obtain ⟨name, rfl, rfl, rfl, _⟩ := Go.ChangeMaps.open_string Ybaz.underlying9 (hval 1 9 v1 rfl rfl) h1
  obtain ⟨a, b, c, h, r, x, rfl, ha, hb, hc, hh, hr, hx⟩ := open_rule (hval 2 26 v2 rfl rfl) h2
  obtain ⟨a3, l3, c3, rfl⟩ := okWide_slice Ybaz.underlying27 (hval 3 27 v3 rfl rfl)
  obtain ⟨pb, po, dt, pt, dpt⟩ := open_points h3
  have hR : reachBytes ≤ 1000000000000000000 := by unfold reachBytes; omega
  have b0 : pn.length ≤ 1000000000000000000 := by
    rcases dpn with ⟨e, s, rfl, he⟩ | he
    · have := sized_slice hsz (j := 0) (t := 22) rfl rfl Ybaz.underlying22
      rw [show Ybaz.prog.bytesOf 5 = 1 by kernel_rfl] at this
      omega
    · omega
  have b1 : name.size ≤ 1000000000000000000 := by
    have := sized_string hsz (j := 1) (t := 9) rfl rfl
    have e1 : name.data.toList.length = name.size := Array.length_toList
    omega
  have b3 : l3 ≤ 1000000000000000000 := by
    rcases dpt with ⟨e, s, rfl, he⟩ | he
    · have := sized_slice hsz (j := 3) (t := 27) rfl rfl Ybaz.underlying27
      rw [show Ybaz.prog.bytesOf 62 = 16 by kernel_rfl] at this
      omega
    · omega
  have hl : W.heap.size > 2 := by
    obtain ⟨k, _, hk⟩ := gl.tab 0 (by omega)
    have := World.block_lt_of_cell? W _ hk
    dsimp only at this
    omega
  clear hA0 hval0 hsz0
  refine (walk (.slice a0 l0 c0) pn name a b c h r x a3 pb po l3 c3 dt W src pt gl ha hb hc hh hr hx b0 b1 b3).mono fun e W' ⟨he, bel⟩ => ?_
  subst he
  have hv' : W'.var? Ybaz.prog vname = some cs := var?_below bel gS hl hv
  obtain ⟨fu', hd'⟩ := Below.trod laidOut (by kernel_rfl) (of_decide_eq_true (by kernel_rfl)) kv bel ltv
  exact ⟨_, rfl, _, _, _, [], _, _, hW', trodAll_mk1 (shut_bool Ybaz.underlying4 _), (trodAll_cons_mk (Below.trod laidOut (by kernel_rfl) (of_decide_eq_true (by kernel_rfl)) k0 bel lt0) (trodAll_cons_mk (Below.trod laidOut (by kernel_rfl) (of_decide_eq_true (by kernel_rfl)) k1 bel lt1) (trodAll_cons_mk (Below.trod laidOut (by kernel_rfl) (of_decide_eq_true (by kernel_rfl)) k2 bel lt2) (trodAll_cons_mk (Below.trod laidOut (by kernel_rfl) (of_decide_eq_true (by kernel_rfl)) k3 bel lt3) trodAll_mk0)))), trodVars_mk1 gS tS hv' hd', bel.frame _, fun h => by cases h⟩

theorem row_holds : Rows.LawS5958AWholeSaid :=
  OpenClaim.holds_of_wide 3 Ybaz.f3 rfl rfl rfl rfl rfl rfl rfl ⟨rfl, rfl, rfl, rfl, rfl⟩ rfl rfl rfl rfl rfl (by kernel_rfl) Ybaz.func3 (by kernel_rfl)
    (of_decide_eq_true (by kernel_rfl)) (by unfold Func.isWrapper; first | (rw [if_pos (by decide +kernel)]; kernel_rfl) | (rw [if_neg (by decide +kernel)]; exact ⟨rfl, rfl⟩))
    (fun os started H enc _ => lifted os started H enc)

theorem card_holds : Rows.LawS5958AWholeCardSaid :=
  Claim7.holds_tied_plain_at .later [] [.data, .data] true Rows.lawS5958AWholeCard.stood.harness false
    row_holds (fun _ h => by cases h) (by kernel_rfl) (fun _ h => by cases h) lawS5958AWhole_row_tie rfl ⟨rfl, rfl⟩ (by kernel_rfl) rfl
    (fun f fn hf hfn => by
      obtain rfl : f = 3 := Option.some.inj ((show Ybaz.prog.funcNamed Rows.lawS5958AWholeRow.func = some 3 by kernel_rfl).symm.trans hf) |>.symm
      obtain rfl : fn = Ybaz.f3 := (Option.some.inj (Ybaz.func3.symm.trans hfn)).symm
      exact ⟨by kernel_rfl, fun j t ht => by
        rw [Ybaz.params3] at ht
        have hm : t ∈ [22, 9, 26, 27] := by simpa using Array.mem_of_getElem? ht
        have hall : ([22, 9, 26, 27].all fun u => !Ybaz.prog.wantsStandIn u) = true := by kernel_rfl
        exact (show Ybaz.prog.wantsStandIn t = false by simpa using List.all_eq_true.1 hall t hm)⟩)
    (by kernel_rfl)
#print axioms card_holds
end Go.Proofs.YbulkdsjeGreatDoor
