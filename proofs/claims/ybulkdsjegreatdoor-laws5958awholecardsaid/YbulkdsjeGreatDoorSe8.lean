import Derived.Test.YbulkdsjeGreatDoorSe7
import Derived.BigQuiet
import Derived.Deep.QuietTactic
set_option linter.unusedVariables false
set_option linter.unusedSimpArgs false
namespace Go.Proofs.YbulkdsjeGreatDoor
open Go.RowKit

section
variable {U V W : World} {SA : Nat → Nat → Prop} {sb ab na : Nat} {st nn fu : Nat → Nat} {hb pv nw : Nat} {sd : Bool}
theorem SX.fp2 {X : Nat → Nat → Prop} (h : SX U SA sb ab na st nn fu hb pv nw sd) (k : FP U V X) (h1 : ∀ j, j = 1 ∨ j = 4 ∨ (8 ≤ j ∧ j < 12) → ¬ X sb j) (h2 : ∀ j, ¬ X ab j) (h3 : ∀ i c j, i < na → SA i c → ¬ X c j) : SX V SA sb ab na st nn fu hb pv nw sd := by
  have hl := h.lt
  exact ⟨by rw [k.cell _ _ hl (h1 _ (by omega))]; exact h.r1, by rw [k.cell _ _ hl (h1 _ (by omega))]; exact h.c4, by rw [k.cell _ _ hl (h1 _ (by omega))]; exact h.c8, by rw [k.cell _ _ hl (h1 _ (by omega))]; exact h.c9, by rw [k.cell _ _ hl (h1 _ (by omega))]; exact h.c10, by rw [k.cell _ _ hl (h1 _ (by omega))]; exact h.c11, fun j a b => by rw [k.frz _ _ hl]; exact h.fz j a b, fun i hi => (h.ar i hi).fp k (fun j _ => h2 _) (fun x j hx => h3 i x j hi hx), h.dj, h.ds, h.sab, h.hna, h.hhb, h.hpn⟩
end
theorem RP.fp {U V : World} {S : Nat → Prop} {X : Nat → Nat → Prop} {b o N : Nat} {T : Int} (h : RP U S b o T N) (k : FP U V X) (hb : ∀ j, j < 3 → ¬ X b (o + j)) (hS : ∀ x j, S x → ¬ X x j) : RP V S b o T N := by
  obtain ⟨d, n, f, hq⟩ := h
  exact ⟨d, n, f, hq.ck.fp k hb hS, hq.le, hq.up, hq.nN, hq.ps⟩
theorem RP.bl {U : World} {S : Nat → Prop} {b o N : Nat} {T : Int} (h : RP U S b o T N) : b < U.heap.size ∧ (∀ x, S x → x < U.heap.size) ∧ ¬ S b := by
  obtain ⟨d, n, f, hq⟩ := h
  exact ⟨hq.ck.bl.1, hq.ck.bl.2.2.1, hq.ck.bl.2.2.2⟩
/-- A whole series in memory: its steps and its original points. -/
structure SW (U : World) (SA : Nat → Nat → Prop) (Sr : Nat → Prop) (sb ab na : Nat) (st nn fu : Nat → Nat) (hb rw pv nw : Nat) (sd : Bool) (N : Nat) : Prop where
  sx : SX U SA sb ab na st nn fu hb pv nw sd
  r3 : U.cell? ⟨sb, 3, none⟩ = some (vi rw)
  rp : RP U Sr sb 5 (nw : Int) N
  d1 : ∀ i c, i < na → SA i c → ¬ Sr c
  d2 : ¬ Sr ab
  hrw : rw < 1125899906842624
/-- What a write turns. -/
def WF (SA : Nat → Nat → Prop) (Sr : Nat → Prop) (sb ab na : Nat) : Nat → Nat → Prop := fun c j => (∃ i, i < na ∧ SA i c) ∨ Sr c ∨ c = ab ∨ (c = sb ∧ 5 ≤ j ∧ j < 12)
/-- Behind a write at t. -/
def WrP (U : World) (SA : Nat → Nat → Prop) (Sr : Nat → Prop) (sb ab na : Nat) (st nn fu : Nat → Nat) (hb rw t N : Nat) (w' : World) : Prop := ∃ SA' Sr' pv', SW w' SA' Sr' sb ab na st nn fu hb rw pv' t true N ∧ FP U w' (WF SA Sr sb ab na) ∧ (∀ i c, i < na → SA' i c → SA i c ∨ U.heap.size ≤ c) ∧ (∀ c, Sr' c → Sr c ∨ U.heap.size ≤ c)

set_option maxRecDepth 100000 in
set_option maxHeartbeats 4000000 in
theorem step_any (t v : Nat) (SA : Nat → Nat → Prop) (sb ab na : Nat) (st nn fu : Nat → Nat) (hb pv nw : Nat) (sd : Bool) (U : World) (h : SX U SA sb ab na st nn fu hb pv nw sd) (ht : nw ≤ t ∧ t ≤ 8000000000) (h1 : 1 ≤ t) : Calls Ybaz.prog 40 #[.pointer (some ⟨sb, 0, none⟩), vi t, .float .f64 v] U fun e w' => e = .returned (.tuple #[]) ∧ StP U SA sb ab na st nn fu hb t w' := by
  cases sd with
  | true => exact step_next t v SA sb ab na st nn fu hb pv nw U h ht
  | false => exact step_first t v SA sb ab na st nn fu hb pv nw U h ⟨h1, ht.2⟩

set_option maxRecDepth 100000 in
set_option maxHeartbeats 4000000 in
theorem write_any (t v : Nat) (SA : Nat → Nat → Prop) (Sr : Nat → Prop) (sb ab na : Nat) (st nn fu : Nat → Nat) (hb rw pv nw : Nat) (sd : Bool) (N : Nat) (U : World) (h : SW U SA Sr sb ab na st nn fu hb rw pv nw sd N) (ht : nw ≤ t ∧ t ≤ 8000000000) (h1 : 1 ≤ t) (hN : N < 1073741824) : Calls Ybaz.prog 19 #[.pointer (some ⟨sb, 0, none⟩), vi t, .float .f64 v] U fun e w' => e = .returned (.tuple #[]) ∧ WrP U SA Sr sb ab na st nn fu hb rw t (N + 1) w' := by
  have c11 := h.sx.c11
  have HW := hid h
  have HT := hid (show (nw ≤ t ∧ t ≤ 8000000000) ∧ 1 ≤ t from ⟨ht, h1⟩)
  obtain ⟨old, hold⟩ : ∃ old : Int, (t : Int) - ((rw / 1000000 : Nat) : Int) = old := ⟨_, rfl⟩
  have MI : Hid (∀ W, Calls Ybaz.prog 35 #[vi rw] W fun e w' => e = .returned (vi (rw / 1000000)) ∧ w' = W) := hid fun W => millis_any rw W (by have := h.hrw; omega)
  obtain ⟨m, hm⟩ : ∃ m, rw / 1000000 = m := ⟨_, rfl⟩
  rw [hm] at MI hold
  have b1 : (m : Int) ≤ 1125899906842624 := by have := h.hrw; omega
  have b2 : (t : Int) ≤ 8000000000 := by omega
  have PU := hid (put_any t old nw v Sr sb 5 N U.drew (h.rp.kept (Kept.refl (fun _ => False) U).drew (fun h => h) (fun _ _ h => h)) (by omega) hN (by omega))
  have c9 := h.sx.c9
  have hmx : max (t : Int) (nw : Int) = (t : Int) := by omega
  have HB := hid (show (nw : Int) ≤ 8000000000 by omega)
  clear ht h1 hN hm
  go_enter Ybaz.func19, Ybaz.ntmps19
  go_upto_region 1 with fail
  go_upto_if 11 with fail
  go_cut [6] from 12 to 17 (fun v w' => v = vi t ∧ w' = U)
  case first =>
    cases sd with
    | false =>
      go_wp2
      go_meet
      case rel => exact ⟨rfl, rfl⟩
    | true =>
      go_wp2
      go_meet
      case rel => exact ⟨rfl, rfl⟩
  case rest =>
    obtain ⟨rfl, rfl⟩ := hcut
    clear c11 c9 hmx
    have s0 : Kept (fun _ => False) wc wc.drew := (Kept.refl _ wc).drew
    haveI nS : Nonempty (Wld (fun U' => Kept (fun _ => False) wc U')) := ⟨⟨wc.drew, s0⟩⟩
    have y3 : ∀ x : Wld (fun U' => Kept (fun _ => False) wc U'), x.w.cell? ⟨sb, 3, none⟩ = some (vi rw) := fun x => x.h.cell (p := ⟨sb, 3, none⟩) (fun h => h) HW.out.r3
    clear h
    go_upto_region 3 with fail
    refine wp_region_calmplan 13 [(true, 0), (true, 1), (true, 2), (true, 3), (true, 4), (true, 5), (true, 6), (true, 7), (true, 8), (true, 9), (true, 10), (false, 11), (true, 12), (false, 13)] (fun w' => ∃ x : Wld (fun U' => Kept (fun _ => False) wc U'), w' = x.w) mixed (by kernel_rfl) (inS s0) ?_
    iterate 11 (refine wpPlan_q (by rfl) ?_; dsimp only [List.getElem_toArray, List.getElem_cons_zero, List.getElem_cons_succ]; go_big_quiet_step (fail); refine wpQuiet_nil ?_)
    refine wpPlan_e (by rfl) ?_
    dsimp only [List.getElem_toArray, List.getElem_cons_zero, List.getElem_cons_succ]
    go_wp2_with (go_at_call 35; refine (MI.out _).mono ?_; rintro e W1 ⟨rfl, rfl⟩)
    refine onward_normal (fun _ => inS s0) ?_
    (refine wpPlan_q (by rfl) ?_; dsimp only [List.getElem_toArray, List.getElem_cons_zero, List.getElem_cons_succ]; go_big_quiet_step (fail); refine wpQuiet_nil ?_)
    refine wpPlan_e (by rfl) ?_
    dsimp only [List.getElem_toArray, List.getElem_cons_zero, List.getElem_cons_succ]
    go_wp2_with (go_at_call 39; refine PU.out.mono ?_; rintro e W2 ⟨rfl, pp⟩; have PP := hid pp; clear pp PU)
    refine onward_normal (fun h => by cases h) ?_
    refine wpPlan_nil ?_
    refine calmQ_normal ?_
    obtain ⟨S2, rp2, fp2, mv2⟩ := PP.out
    have nb := HW.out.rp.bl
    have sx2 : SX W2 SA sb ab na st nn fu hb pv nw sd := (HW.out.sx.kept s0).fp2 fp2 (fun j hj hx => hx.elim (fun hx => nb.2.2 hx) (fun hx => by omega)) (fun j hx => hx.elim (fun hx => HW.out.d2 hx) (fun hx => HW.out.sx.sab hx.1.symm)) (fun i c j hi hc hx => hx.elim (fun hx => HW.out.d1 i c hi hc hx) (fun hx => HW.out.sx.ds i c hi hc hx.1))
    have r32 : W2.cell? ⟨sb, 3, none⟩ = some (vi rw) := by
      rw [fp2.cell sb 3 nb.1 (fun hx => hx.elim (fun hx => nb.2.2 hx) (fun hx => by omega))]
      exact HW.out.r3
    have SA2 := hid (step_any t v SA sb ab na st nn fu hb pv nw sd W2 sx2 HT.out.1 HT.out.2)
    have SX2 := hid sx2
    have RP2 := hid rp2
    have FP2 := hid fp2
    have MV2 := hid mv2
    have R32 := hid r32
    have K0 := hid s0
    clear sx2 rp2 fp2 mv2 r32 nb y3 nS s0 PP MI
    go_wp2_with (go_at_call 40; refine SA2.out.mono ?_; rintro e W3 ⟨rfl, sp⟩; have SP := hid sp; clear sp SA2)
    go_end0
    refine ⟨rfl, ?_⟩
    obtain ⟨S3, pv3, sx3, sn3⟩ := SP.out
    have rb := RP2.out.bl
    have sab := SX2.out.sab
    have nX : ∀ c j, S2 c → ¬ ((∃ i, i < na ∧ SA i c) ∨ c = ab ∨ (c = sb ∧ 8 ≤ j ∧ j < 12)) := fun c j hc hx => by
      rcases hx with ⟨i, hi, hx⟩ | hx | hx
      · rcases MV2.out c hc with h | h
        · exact HW.out.d1 i c hi hx h
        · have h1 := (HW.out.sx.ar i hi).bl.2.1 c hx
          have h2 : wc.heap.size ≤ c := h
          omega
      · rcases MV2.out c hc with h | h
        · exact HW.out.d2 (by rw [← hx]; exact h)
        · have h1 := (HW.out.sx.ar 0 (by have := HW.out.sx.hna; omega)).bl.1
          have h2 : wc.heap.size ≤ c := h
          omega
      · exact rb.2.2 (by rw [← hx.1]; exact hc)
    refine ⟨S3, S2, pv3, ⟨sx3, ?_, RP2.out.fp sn3.1 (fun j hj hx => ?_) nX, fun i c hi hc hc2 => ?_, fun hc => ?_, HW.out.hrw⟩, ?_, fun i c hi hc => ?_, fun c hc => ?_⟩
    · rw [sn3.1.cell sb 3 rb.1 (fun hx => ?_)]
      · exact R32.out
      · rcases hx with ⟨i, hi, hx⟩ | hx | hx
        · exact SX2.out.ds i _ hi hx rfl
        · exact sab hx
        · omega
    · rcases hx with ⟨i, hi, hx⟩ | hx | hx
      · exact SX2.out.ds i _ hi hx rfl
      · exact sab hx
      · omega
    · rcases sn3.2 i c hi hc with h | h
      · exact nX c 0 hc2 (.inl ⟨i, hi, h⟩)
      · have := rb.2.1 c hc2
        omega
    · exact nX ab 0 hc (.inr (.inl rfl))
    · refine (((FP.calm K0.out).mono (fun _ _ _ h => h.elim)).thn FP2.out (fun c j _ hx => ?_)).thn sn3.1 (fun c j _ hx => ?_)
      · rcases hx with hx | hx
        · exact .inr (.inl hx)
        · exact .inr (.inr (.inr ⟨hx.1, by omega, by omega⟩))
      · rcases hx with hx | hx | hx
        · exact .inl hx
        · exact .inr (.inr (.inl hx))
        · exact .inr (.inr (.inr ⟨hx.1, by omega, by omega⟩))
    · rcases sn3.2 i c hi hc with h | h
      · exact .inl h
      · exact .inr (Nat.le_trans (Nat.le_trans K0.out.size FP2.out.size) h)
    · rcases MV2.out c hc with h | h
      · exact .inl h
      · exact .inr (Nat.le_trans K0.out.size h)
end Go.Proofs.YbulkdsjeGreatDoor
