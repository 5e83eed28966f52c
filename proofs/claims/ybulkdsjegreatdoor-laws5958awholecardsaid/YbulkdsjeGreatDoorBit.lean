import Derived.Test.YbulkdsjeGreatDoorNorm
set_option linter.unusedVariables false
set_option linter.unusedSimpArgs false
namespace Go.Proofs.YbulkdsjeGreatDoor
open Go.RowKit

/-- A block in which nothing but chances have moved. -/
def PU (Pb : Nat) (U U' : World) : Prop := ∀ o, U'.frozen? ⟨Pb, o, none⟩ = U.frozen? ⟨Pb, o, none⟩ ∧ (U'.cell? ⟨Pb, o, none⟩ = U.cell? ⟨Pb, o, none⟩ ∨ ∃ p p', U.cell? ⟨Pb, o, none⟩ = some (.int .i16 p) ∧ U'.cell? ⟨Pb, o, none⟩ = some (.int .i16 p') ∧ (PrOk p → PrOk p'))
theorem PU.refl (Pb : Nat) (U : World) : PU Pb U U := fun o => ⟨rfl, .inl rfl⟩
theorem PU.trans {Pb : Nat} {U U' U'' : World} (h : PU Pb U U') (k : PU Pb U' U'') : PU Pb U U'' := fun o => by
  refine ⟨(k o).1.trans (h o).1, ?_⟩
  rcases (h o).2 with e | ⟨p, p', a1, a2, a3⟩ <;> rcases (k o).2 with e' | ⟨q, q', b1, b2, b3⟩
  · exact .inl (e'.trans e)
  · exact .inr ⟨q, q', by rw [← e]; exact b1, b2, b3⟩
  · exact .inr ⟨p, p', a1, by rw [e']; exact a2, a3⟩
  · rw [a2] at b1
    cases b1
    exact .inr ⟨p, q', a1, b2, fun x => b3 (a3 x)⟩
theorem PU.kept {E : Nat → Prop} {Pb : Nat} {U U' : World} (k : Kept E U U') (hE : ¬ E Pb) (hb : Pb < U.heap.size) : PU Pb U U' := fun o => by
  have e := k.block Pb hb hE
  exact ⟨World.frozen?_of_block (w := U) (w' := U') e, .inl (World.cell?_of_block (w := U) (w' := U') e)⟩
theorem PU.set {Pb o : Nat} {U : World} {p p' : Int} (hc : U.cell? ⟨Pb, o, none⟩ = some (.int .i16 p)) (h : PrOk p → PrOk p') : PU Pb U (U.setCell ⟨Pb, o, none⟩ (.int .i16 p')) := fun o' => by
  refine ⟨World.frozen?_setCell .., ?_⟩
  by_cases e : o' = o
  · subst e
    exact .inr ⟨p, p', hc, World.cell?_setCell_same' _ _ _ (by rw [hc]; rfl), h⟩
  · exact .inl (World.cell?_setCell_other _ _ _ _ (fun he => e (by have h0 := congrArg Addr.off he; simp at h0; exact h0.symm)))
/-- What a coded bit leaves. -/
def BtP (U : World) (Eb base : Nat) (ov : Value) (L Pb : Nat) (w' : World) : Prop := ∃ ov', ES w' Eb base ov' L 16777216 ∧ Kept (fun b => EE Eb ov b ∨ b = Pb) U w' ∧ Mv U ov ov' ∧ PU Pb U w'

theorem bound_ok (rg : Nat) (p : Int) (h1 : 16777216 ≤ rg) (h2 : rg < 4294967296) (hp : PrOk p) : ∃ B : Nat, ((rg : Int) / 4096 * (p + 2048)) % 4294967296 = (B : Int) ∧ 1 ≤ B ∧ B < rg := by
  obtain ⟨q, hq⟩ : ∃ q : Nat, rg / 4096 = q := ⟨_, rfl⟩
  obtain ⟨z, hz⟩ : ∃ z : Nat, p + 2048 = (z : Int) := ⟨(p + 2048).toNat, by have := hp.1; omega⟩
  have hz1 : 1 ≤ z := by have := hp.1; omega
  have hz2 : z ≤ 4095 := by have := hp.2; omega
  have hq1 : 4096 ≤ q := by omega
  have hq2 : q < 1048576 := by omega
  have hqr : q * 4096 ≤ rg := by omega
  have e1 : (rg : Int) / 4096 = (q : Int) := by omega
  have m1 : q * z ≤ q * 4095 := Nat.mul_le_mul_left q hz2
  have m2 : q * 1 ≤ q * z := Nat.mul_le_mul_left q hz1
  refine ⟨q * z, ?_, by omega, by omega⟩
  rw [e1, hz]
  have : ((q : Int) * (z : Int)) = ((q * z : Nat) : Int) := by simp
  rw [this]
  omega

set_option maxRecDepth 100000 in
set_option maxHeartbeats 4000000 in
theorem bit_any (Eb base L Pb o : Nat) (bit : Int) (p : Int) (ov : Value) (U : World) (h : ES U Eb base ov L 16777216) (hL : L + 4 < 1099511627776) (hp : PrOk p) (hc : U.cell? ⟨Pb, o, none⟩ = some (.int .i16 p)) (hf : U.frozen? ⟨Pb, o, none⟩ = false) (hne : Pb ≠ Eb) (hno : ov.ownBlock ≠ some Pb) :
    Calls Ybaz.prog 51 #[.pointer (some ⟨Eb, 0, none⟩), .pointer (some ⟨Pb, o, none⟩), .int .u64 bit] U fun e w' => e = .returned (.tuple #[]) ∧ BtP U Eb base ov (L + 3) Pb w' := by
  obtain ⟨xs, low, rg, cache, pend, st, ex, h1, h2, h3, h4, h5⟩ := h.ex
  obtain ⟨B, eB, hB1, hB2⟩ := bound_ok rg p h4 h5 hp
  have ZA := hid (fun w => zero_any p hp w)
  have y0 : ∀ x : Wld (fun U' => Kept (fun _ => False) U U'), x.w.cell? ⟨Eb, 2, none⟩ = some (.int .u32 rg) := fun x => x.h.cell (fun h => h) (ex.cell 2 _ rfl)
  have y1 : ∀ x : Wld (fun U' => Kept (fun _ => False) U U'), x.w.cell? ⟨Pb, o, none⟩ = some (.int .i16 p) := fun x => x.h.cell (fun h => h) hc
  have s0 : Kept (fun _ => False) U U.drew := (Kept.refl _ U).drew
  haveI nS : Nonempty (Wld (fun U' => Kept (fun _ => False) U U')) := ⟨⟨U.drew, s0⟩⟩
  have HX := hid ex
  have H1 := hid h1
  have H2 := hid h2
  have H3 := hid h3
  have H5 := hid h5
  have HL := hid hL
  have HP := hid hp
  have HCe := hid hc
  have HFe := hid hf
  have HB := hid (show 1 ≤ B ∧ B < rg from ⟨hB1, hB2⟩)
  have HEB := hid eB
  clear h ex h1 h2 h3 h4 h5 hL hp hc hf hB1 hB2 eB
  go_enter Ybaz.func51, Ybaz.ntmps51
  go_upto_region 0 with fail
  refine wp_region_calmplan 10 [(true, 0), (true, 1), (true, 2), (true, 3), (true, 4), (true, 5), (true, 6), (true, 7), (false, 8), (true, 9), (false, 10)] (fun w' => ∃ x : Wld (fun U' => Kept (fun _ => False) U U'), w' = x.w) mixed (by kernel_rfl) (inS s0) ?_
  iterate 8 (refine wpPlan_q (by rfl) ?_; dsimp only [List.getElem_toArray, List.getElem_cons_zero, List.getElem_cons_succ]; go_big_quiet_step (fail); refine wpQuiet_nil ?_)
  refine wpPlan_e (by rfl) ?_
  dsimp only [List.getElem_toArray, List.getElem_cons_zero, List.getElem_cons_succ]
  go_wp2_with (go_at_call 81; refine (ZA.out _).mono ?_; rintro e W1 ⟨rfl, rfl⟩)
  refine onward_normal (fun _ => inS s0) ?_
  (refine wpPlan_q (by rfl) ?_; dsimp only [List.getElem_toArray, List.getElem_cons_zero, List.getElem_cons_succ]; go_big_quiet_step (fail); refine wpQuiet_nil ?_)
  rw [HEB.out]
  refine wpPlan_e (by rfl) ?_
  dsimp only [List.getElem_toArray, List.getElem_cons_zero, List.getElem_cons_succ]
  go_wp2
  refine onward_normal (fun h => by cases h) ?_
  refine wpPlan_nil ?_
  refine calmQ_normal ?_
  clear y0 y1 nS ZA
  refine q_as (fun X => EX X Eb base ov xs low rg cache pend st ∧ Kept (EE Eb ov) U X ∧ X.cell? ⟨Pb, o, none⟩ = some (.int .i16 p) ∧ X.frozen? ⟨Pb, o, none⟩ = false) ⟨HX.out.kept s0 (fun h => h) (fun _ _ h => h), s0.weak (fun _ _ h => h.elim), HCe.out, HFe.out⟩ ?_
  clear s0 HX
  rintro X ⟨ex, kx, cx, fx⟩
  have c1 := ex.cell 1 _ rfl
  have f1 := ex.free 1 (by omega)
  have c2 := ex.cell 2 _ rfl
  have f2 := ex.free 2 (by omega)
  have HXX := hid ex
  have HKX := hid (show Kept (EE Eb ov) U X ∧ X.cell? ⟨Pb, o, none⟩ = some (.int .i16 p) ∧ X.frozen? ⟨Pb, o, none⟩ = false from ⟨kx, cx, fx⟩)
  clear ex kx cx fx
  by_cases hb : bit = 0
  · subst hb
    go_upto_region 5 with fail
    clear c1 c2 f1 f2
    refine wp_as (fun Y => EX Y Eb base ov xs low B cache pend st ∧ Kept (EE Eb ov) U Y ∧ Y.cell? ⟨Pb, o, none⟩ = some (.int .i16 p) ∧ Y.frozen? ⟨Pb, o, none⟩ = false) ⟨HXX.out.rng B, HKX.out.1.setCell (p := ⟨Eb, 2, none⟩) (.inl (.inl rfl)) _, ?_, ?_⟩ ?_
    · rw [World.cell?_setCell_other _ _ _ _ (fun e => hne (by have h0 := congrArg Addr.block e; simp at h0; exact h0.symm))]; exact HKX.out.2.1
    · rw [World.frozen?_setCell]; exact HKX.out.2.2
    clear HXX HKX
    rintro Y ⟨ex, kx, cx, fx⟩
    have UA := hid (update_any Pb o p 0 HP.out Y cx fx)
    have HY := hid ex
    have KY := hid kx
    have CY := hid cx
    clear ex kx cx fx
    go_upto_region 6 with (go_at_call 82; refine UA.out.mono ?_; rintro e Z ⟨rfl, p', hp', rfl⟩; have HP' := hid hp'; clear hp' UA)
    have es : ∃ xs' low' cache' pend' st', EX (Y.setCell ⟨Pb, o, none⟩ (.int .i16 p')) Eb base ov xs' low' B cache' pend' st' ∧ xs'.length + pend' ≤ L ∧ low' < 18446744073709551616 ∧ cache' < 256 := by
      have kP : Kept (fun b => b = Pb) Y (Y.setCell ⟨Pb, o, none⟩ (.int .i16 p')) := (Kept.refl (fun b => b = Pb) Y).setCell (p := ⟨Pb, o, none⟩) (.inl rfl) _
      exact ⟨_, _, _, _, _, HY.out.kept kP (fun e => hne e.symm) (fun g hg e => hno (by rw [hg, e])), H1.out, H2.out, H3.out⟩
    have kz : Kept (fun b => EE Eb ov b ∨ b = Pb) U (Y.setCell ⟨Pb, o, none⟩ (.int .i16 p')) ∧ PU Pb U (Y.setCell ⟨Pb, o, none⟩ (.int .i16 p')) := by
      have hPb : Pb < U.heap.size := World.block_lt_of_cell? U _ HCe.out
      refine ⟨(KY.out.weak (fun _ _ e => .inl e)).setCell (p := ⟨Pb, o, none⟩) (.inl (.inr rfl)) _, (PU.kept KY.out (fun e => e.elim hne hno) hPb).trans (PU.set CY.out (fun _ => HP'.out))⟩
    obtain ⟨xs', low', cache', pend', st', ez, l1, l2, l3⟩ := es
    have HLS := hid (show xs'.length + pend' ≤ L ∧ low' < 18446744073709551616 ∧ cache' < 256 from ⟨l1, l2, l3⟩)
    clear l1 l2 l3
    refine wp_as (fun Z => EX Z Eb base ov xs' low' B cache' pend' st' ∧ (Kept (fun b => EE Eb ov b ∨ b = Pb) U Z ∧ PU Pb U Z)) ⟨ez, kz⟩ ?_
    clear ez kz HY KY CY
    rintro Z ⟨ez, kz, pz⟩
    have c2 := ez.cell 2 _ rfl
    by_cases hlt : B < 16777216
    · have hli : (B : Int) < 16777216 := by omega
      have NA := hid (normalize_any Eb base L ov Z ⟨xs', low', B, cache', pend', st', ez, HLS.out.1, HLS.out.2.1, HLS.out.2.2, HB.out.1, (by have := HB.out.2; have := H5.out; omega)⟩ HL.out)
      have KZ := hid kz
      have PZ := hid pz
      clear ez kz pz
      go_wp2_with (go_at_call 49; refine NA.out.mono ?_; rintro e W3 ⟨rfl, np⟩)
      go_end0
      obtain ⟨ov2, es2, k2, m2⟩ := np
      have hPz : Pb < Z.heap.size := Nat.lt_of_lt_of_le (World.block_lt_of_cell? U _ HCe.out) KZ.out.size
      exact ⟨rfl, ov2, es2, Kept.thn' KZ.out k2 (fun i hi e => .inl e), fun b hb => (m2 b hb).elim .inl (fun e => .inr (Nat.le_trans KZ.out.size e)), PZ.out.trans (PU.kept k2 (fun e => e.elim hne hno) hPz)⟩
    · have hli : ¬ ((B : Int) < 16777216) := by omega
      have FIN : Hid (BtP U Eb base ov (L + 3) Pb Z) := hid ⟨ov, ⟨xs', low', B, cache', pend', st', ez, by have := HLS.out.1; omega, HLS.out.2.1, HLS.out.2.2, by omega, (by have := HB.out.2; have := H5.out; omega)⟩, kz, Mv.refl _ _, pz⟩
      clear ez kz pz
      go_wp2
      go_end0
      exact ⟨rfl, FIN.out⟩
  · have hbb : (bit == 0) = false := by simpa using hb
    clear hb
    go_upto_region 4 with fail
    obtain ⟨low2, hl2, elow⟩ := u64_nat ((low : Int) + IntKind.u64.wrap (B : Int))
    rw [elow]
    refine wp_as (fun Y => EX Y Eb base ov xs low2 rg cache pend st ∧ Kept (EE Eb ov) U Y ∧ Y.cell? ⟨Pb, o, none⟩ = some (.int .i16 p) ∧ Y.frozen? ⟨Pb, o, none⟩ = false) ⟨HXX.out.low low2, HKX.out.1.setCell (p := ⟨Eb, 1, none⟩) (.inl (.inl rfl)) _, ?_, ?_⟩ ?_
    · rw [World.cell?_setCell_other _ _ _ _ (fun e => hne (by have h0 := congrArg Addr.block e; simp at h0; exact h0.symm))]; exact HKX.out.2.1
    · rw [World.frozen?_setCell]; exact HKX.out.2.2
    have HL2 := hid hl2
    clear HXX HKX c1 c2 f1 f2 hl2 elow
    rintro X2 ⟨ex, kx, cx, fx⟩
    have c2 := ex.cell 2 _ rfl
    have f2 := ex.free 2 (by omega)
    have HXX := hid ex
    have HKX := hid (show Kept (EE Eb ov) U X2 ∧ X2.cell? ⟨Pb, o, none⟩ = some (.int .i16 p) ∧ X2.frozen? ⟨Pb, o, none⟩ = false from ⟨kx, cx, fx⟩)
    clear ex kx cx fx
    go_upto_region 5 with fail
    have e32 : ((rg : Int) - (B : Int)) % 4294967296 = ((rg - B : Nat) : Int) := by
      have := HB.out
      have := H5.out
      omega
    rw [e32]
    clear c2 f2
    refine wp_as (fun Y => EX Y Eb base ov xs low2 (rg - B) cache pend st ∧ Kept (EE Eb ov) U Y ∧ Y.cell? ⟨Pb, o, none⟩ = some (.int .i16 p) ∧ Y.frozen? ⟨Pb, o, none⟩ = false) ⟨HXX.out.rng (rg - B), HKX.out.1.setCell (p := ⟨Eb, 2, none⟩) (.inl (.inl rfl)) _, ?_, ?_⟩ ?_
    · rw [World.cell?_setCell_other _ _ _ _ (fun e => hne (by have h0 := congrArg Addr.block e; simp at h0; exact h0.symm))]; exact HKX.out.2.1
    · rw [World.frozen?_setCell]; exact HKX.out.2.2
    clear HXX HKX
    rintro Y ⟨ex, kx, cx, fx⟩
    have UA := hid (update_any Pb o p bit HP.out Y cx fx)
    have HY := hid ex
    have KY := hid kx
    have CY := hid cx
    clear ex kx cx fx
    go_upto_region 6 with (go_at_call 82; refine UA.out.mono ?_; rintro e Z ⟨rfl, p', hp', rfl⟩; have HP' := hid hp'; clear hp' UA)
    have es : ∃ xs' low' cache' pend' st', EX (Y.setCell ⟨Pb, o, none⟩ (.int .i16 p')) Eb base ov xs' low' (rg - B) cache' pend' st' ∧ xs'.length + pend' ≤ L ∧ low' < 18446744073709551616 ∧ cache' < 256 := by
      have kP : Kept (fun b => b = Pb) Y (Y.setCell ⟨Pb, o, none⟩ (.int .i16 p')) := (Kept.refl (fun b => b = Pb) Y).setCell (p := ⟨Pb, o, none⟩) (.inl rfl) _
      exact ⟨_, _, _, _, _, HY.out.kept kP (fun e => hne e.symm) (fun g hg e => hno (by rw [hg, e])), H1.out, HL2.out, H3.out⟩
    have kz : Kept (fun b => EE Eb ov b ∨ b = Pb) U (Y.setCell ⟨Pb, o, none⟩ (.int .i16 p')) ∧ PU Pb U (Y.setCell ⟨Pb, o, none⟩ (.int .i16 p')) := by
      have hPb : Pb < U.heap.size := World.block_lt_of_cell? U _ HCe.out
      refine ⟨(KY.out.weak (fun _ _ e => .inl e)).setCell (p := ⟨Pb, o, none⟩) (.inl (.inr rfl)) _, (PU.kept KY.out (fun e => e.elim hne hno) hPb).trans (PU.set CY.out (fun _ => HP'.out))⟩
    obtain ⟨xs', low', cache', pend', st', ez, l1, l2, l3⟩ := es
    have HLS := hid (show xs'.length + pend' ≤ L ∧ low' < 18446744073709551616 ∧ cache' < 256 from ⟨l1, l2, l3⟩)
    clear l1 l2 l3
    refine wp_as (fun Z => EX Z Eb base ov xs' low' (rg - B) cache' pend' st' ∧ (Kept (fun b => EE Eb ov b ∨ b = Pb) U Z ∧ PU Pb U Z)) ⟨ez, kz⟩ ?_
    clear ez kz HY KY CY
    rintro Z ⟨ez, kz, pz⟩
    have c2 := ez.cell 2 _ rfl
    by_cases hlt : rg - B < 16777216
    · have hli : ((rg - B : Nat) : Int) < 16777216 := by omega
      have NA := hid (normalize_any Eb base L ov Z ⟨xs', low', rg - B, cache', pend', st', ez, HLS.out.1, HLS.out.2.1, HLS.out.2.2, (by have := HB.out; omega), (by have := H5.out; omega)⟩ HL.out)
      have KZ := hid kz
      have PZ := hid pz
      clear ez kz pz
      go_wp2_with (go_at_call 49; refine NA.out.mono ?_; rintro e W3 ⟨rfl, np⟩)
      go_end0
      obtain ⟨ov2, es2, k2, m2⟩ := np
      have hPz : Pb < Z.heap.size := Nat.lt_of_lt_of_le (World.block_lt_of_cell? U _ HCe.out) KZ.out.size
      exact ⟨rfl, ov2, es2, Kept.thn' KZ.out k2 (fun i hi e => .inl e), fun b hb => (m2 b hb).elim .inl (fun e => .inr (Nat.le_trans KZ.out.size e)), PZ.out.trans (PU.kept k2 (fun e => e.elim hne hno) hPz)⟩
    · have hli : ¬ (((rg - B : Nat) : Int) < 16777216) := by omega
      have FIN : Hid (BtP U Eb base ov (L + 3) Pb Z) := hid ⟨ov, ⟨xs', low', rg - B, cache', pend', st', ez, by have := HLS.out.1; omega, HLS.out.2.1, HLS.out.2.2, by omega, (by have := H5.out; omega)⟩, kz, Mv.refl _ _, pz⟩
      clear ez kz pz
      go_wp2
      go_end0
      exact ⟨rfl, FIN.out⟩
end Go.Proofs.YbulkdsjeGreatDoor
