import Derived.Test.YbulkdsjeGreatDoorSe2
import Derived.BigQuiet
import Derived.Deep.QuietTactic
set_option linter.unusedVariables false
set_option linter.unusedSimpArgs false
namespace Go.Proofs.YbulkdsjeGreatDoor
open Go.RowKit

/-- A division rounded up. -/
theorem cdiv (t s : Nat) (hs : 1000 ≤ s) (ht : t ≤ 8000000000) : ∃ c : Nat, -((-(t : Int)) / (s : Int)) = (c : Int) ∧ c ≤ 8000001 ∧ t ≤ c * s ∧ c * s < t + s := by
  have h0 : (0 : Int) < s := by omega
  have h1 := Int.mul_ediv_add_emod (-(t : Int)) (s : Int)
  have h2 := Int.emod_nonneg (-(t : Int)) (show (s : Int) ≠ 0 by omega)
  have h3 := Int.emod_lt_of_pos (-(t : Int)) h0
  obtain ⟨q, hq⟩ : ∃ q, (-(t : Int)) / (s : Int) = q := ⟨_, rfl⟩
  rw [hq] at h1 ⊢
  have hq0 : q ≤ 0 := by
    rw [← hq]
    apply Decidable.byContradiction
    intro hc
    have : (s : Int) * 1 ≤ (s : Int) * q := Int.mul_le_mul_of_nonneg_left (by omega) (by omega)
    omega
  obtain ⟨c, hc⟩ : ∃ c : Nat, -q = (c : Int) := ⟨(-q).toNat, by omega⟩
  have e : (s : Int) * q = -((c * s : Nat) : Int) := by
    rw [show q = -(c : Int) by omega, Int.mul_neg, Int.natCast_mul, Int.mul_comm]
  rw [e] at h1
  refine ⟨c, hc, ?_, by omega, by omega⟩
  apply Decidable.byContradiction
  intro hcc
  have : 8000002 * s ≤ c * s := Nat.mul_le_mul_right s (by omega)
  omega
/-- Where a series' archives have moved on to. -/
def SO (U : World) (SA : Nat → Nat → Prop) (sb ab na : Nat) (st nn fu : Nat → Nat) (hb pv nw : Nat) (sd : Bool) (w' : World) : Prop := ∃ SA', SX w' SA' sb ab na st nn fu hb pv nw sd ∧ SM U SA ab na SA' w'
section
variable {U V W : World} {SA : Nat → Nat → Prop} {sb ab na : Nat} {st nn fu : Nat → Nat} {hb pv nw : Nat} {sd : Bool}
theorem SO.refl (h : SX U SA sb ab na st nn fu hb pv nw sd) : SO U SA sb ab na st nn fu hb pv nw sd U := ⟨SA, h, SM.refl _ _ _ _⟩
theorem SO.kept (h : SO U SA sb ab na st nn fu hb pv nw sd V) (k : Kept (fun _ => False) V W) : SO U SA sb ab na st nn fu hb pv nw sd W := by
  obtain ⟨S', sx, sm⟩ := h
  exact ⟨S', sx.kept k, sm.trans (SM.calm k)⟩
/-- One more archive has moved on. -/
theorem SO.turn (h : SX V SA sb ab na st nn fu hb pv nw sd) {i sc fi d n : Nat} {f : Nat → Int} (hi : i < na) {S' : Nat → Prop} (ax : AX W S' ab (i * 8) (st i) (nn i) (fu i) sc fi d n f) (am : AM V (SA i) ab (i * 8) S' W) : SO V SA sb ab na st nn fu hb pv nw sd W := by
  obtain ⟨a, b⟩ := h.turn hi ⟨sc, fi, d, n, f, ax⟩ am
  exact ⟨_, a, b⟩
theorem SO.turn0 (h : SX V SA sb ab na st nn fu hb pv nw sd) {sc fi d n : Nat} {f : Nat → Int} {S' : Nat → Prop} (ax : AX W S' ab 0 (st 0) (nn 0) (fu 0) sc fi d n f) (am : AM V (SA 0) ab 0 S' W) : SO V SA sb ab na st nn fu hb pv nw sd W :=
  SO.turn h (i := 0) (by have := h.hna; omega) (by rw [Nat.zero_mul]; exact ax) (by rw [Nat.zero_mul]; exact am)
theorem SO.trans {S1 : Nat → Nat → Prop} (h : SM U SA ab na S1 V) (k : SO V S1 sb ab na st nn fu hb pv nw sd W) : SO U SA sb ab na st nn fu hb pv nw sd W := by
  obtain ⟨S', sx, sm⟩ := k
  exact ⟨S', sx, h.trans sm⟩
end

set_option maxRecDepth 100000 in
set_option maxHeartbeats 4000000 in
theorem trimS_any (t : Nat) (SA : Nat → Nat → Prop) (sb ab na : Nat) (st nn fu : Nat → Nat) (hb pv nw : Nat) (sd : Bool) (U : World) (h : SX U SA sb ab na st nn fu hb pv nw sd) (ht : t ≤ 8000000000) : Calls Ybaz.prog 73 #[.pointer (some ⟨sb, 0, none⟩), vi t] U fun e w' => e = .returned (.tuple #[]) ∧ SO U SA sb ab na st nn fu hb pv nw sd w' := by
  have F1 := hid (finest_any sb ab na U (by have := h.hna; omega) h.c4)
  obtain ⟨sc, fi, d, n, f, ax⟩ := h.ar 0 (by have := h.hna; omega)
  rw [Nat.zero_mul] at ax
  obtain ⟨s, hs⟩ : ∃ s, st 0 = s := ⟨_, rfl⟩
  obtain ⟨m, hm⟩ : ∃ m, nn 0 = m := ⟨_, rfl⟩
  have hst := ax.hst
  have hnn := ax.hnn
  rw [hs] at hst
  rw [hm] at hnn
  obtain ⟨c, ec, hc, _, _⟩ := cdiv t s hst.1 ht
  have hpn := h.hpn
  obtain ⟨q, hq⟩ : ∃ q, pv / s = q := ⟨_, rfl⟩
  have hq2 : q ≤ 8000000 := by
    rw [← hq]
    have : pv / s ≤ pv / 1000 := Nat.div_le_div_left hst.1 (by omega)
    omega
  have OL := hid (show Calls Ybaz.prog 95 #[.pointer (some ⟨ab, 0, none⟩), vi t] U.drew (fun e w' => e = .returned (ii ((c : Int) - (m : Int) + 1)) ∧ Dr U.drew w') from by
    have := oldest_any t s m ab 0 U.drew (by rw [← hs]; exact ax.s0) (by rw [← hm]; exact ax.s1) hst hnn (by omega)
    rw [ec] at this
    exact this)
  have FD : Hid (∀ W, Calls Ybaz.prog 93 #[vi pv, vi s] W fun e w' => e = .returned (vi q) ∧ w' = W) := hid fun W => by
    have := floorDiv_any pv s W (by omega) (by omega) (by omega)
    rw [← Int.natCast_ediv, hq] at this
    exact this
  obtain ⟨k, hk⟩ : ∃ k : Int, min ((c : Int) - (m : Int) + 1) ((q : Int) + 1) = k := ⟨_, rfl⟩
  have TA : Hid (∀ W, Kept (fun _ => False) U W → Calls Ybaz.prog 94 #[.pointer (some ⟨ab, 0, none⟩), ii k] W fun e w' => e = .returned (.tuple #[]) ∧ TrA W (SA 0) ab 0 (st 0) (nn 0) (fu 0) sc w') := hid fun W kk => trimA_any k (SA 0) ab 0 (st 0) (nn 0) (fu 0) sc fi d n f W (ax.kept kk) (by omega) (by omega)
  have hc1 : (c : Int) ≤ 8000001 := by omega
  have hm1 : (m : Int) ≤ 100 := by omega
  have hq1 : (q : Int) ≤ 8000000 := by omega
  have s0 : Kept (fun _ => False) U U.drew := (Kept.refl _ U).drew
  haveI nS : Nonempty (Wld (fun U' => Kept (fun _ => False) U U')) := ⟨⟨U.drew, s0⟩⟩
  have y8 : ∀ x : Wld (fun U' => Kept (fun _ => False) U U'), x.w.cell? ⟨sb, 8, none⟩ = some (vi pv) := fun x => x.h.cell (p := ⟨sb, 8, none⟩) (fun h => h) h.c8
  have y0 : ∀ x : Wld (fun U' => Kept (fun _ => False) U U'), x.w.cell? ⟨ab, 0, none⟩ = some (vi s) := fun x => x.h.cell (p := ⟨ab, 0, none⟩) (fun h => h) (by rw [← hs]; exact ax.s0)
  have HX := hid h
  have HT := hid ht
  clear h ax hs hm hst hnn ec hc hpn hq hq2 ht
  go_enter Ybaz.func73, Ybaz.ntmps73
  go_upto_region 1 with (go_at_call 71; refine F1.out.mono ?_; rintro e W1 ⟨rfl, rfl⟩)
  refine wp_region_calmplan 15 [(true, 0), (true, 1), (true, 2), (true, 4), (true, 5), (true, 6), (true, 7), (true, 8), (true, 9), (true, 10), (true, 11), (false, 3), (false, 12), (true, 13), (false, 14), (false, 15)] (fun w' => ∃ x : Wld (fun U' => Kept (fun _ => False) W1 U'), w' = x.w) mixed (by kernel_rfl) (inS s0) ?_
  iterate 11 (refine wpPlan_q (by rfl) ?_; dsimp only [List.getElem_toArray, List.getElem_cons_zero, List.getElem_cons_succ]; go_big_quiet_step (fail); refine wpQuiet_nil ?_)
  refine wpPlan_e (by rfl) ?_
  dsimp only [List.getElem_toArray, List.getElem_cons_zero, List.getElem_cons_succ]
  go_wp2_with (go_at_call 95; refine OL.out.mono ?_; rintro e W2 ⟨rfl, hd⟩; have K2 := hid ((Kept.refl (fun _ => False) W1).drew.trans hd.kept); clear hd OL)
  refine onward_normal (fun _ => inS K2.out) ?_
  refine wpPlan_e (by rfl) ?_
  dsimp only [List.getElem_toArray, List.getElem_cons_zero, List.getElem_cons_succ]
  go_wp2_with (go_at_call 93; refine (FD.out _).mono ?_; rintro e W3 ⟨rfl, rfl⟩)
  refine onward_normal (fun _ => inS K2.out) ?_
  (refine wpPlan_q (by rfl) ?_; dsimp only [List.getElem_toArray, List.getElem_cons_zero, List.getElem_cons_succ]; go_big_quiet_step (fail); refine wpQuiet_nil ?_)
  refine wpPlan_e (by rfl) ?_
  dsimp only [List.getElem_toArray, List.getElem_cons_zero, List.getElem_cons_succ]
  go_wp2
  refine onward_normal (fun _ => inS K2.out) ?_
  refine wpPlan_e (by rfl) ?_
  dsimp only [List.getElem_toArray, List.getElem_cons_zero, List.getElem_cons_succ]
  go_wp2_with (go_at_call 94; refine (TA.out _ K2.out).mono ?_; rintro e W4 ⟨rfl, tr⟩; have TR := hid tr; clear tr TA)
  refine onward_normal (fun h => by cases h) ?_
  refine wpPlan_nil ?_
  refine calmQ_normal ?_
  have S4 := hid (show SO W1 SA sb ab na st nn fu hb pv nw sd W4 from by
    obtain ⟨fi4, d4, n4, f4, ax4, am4⟩ := TR.out
    exact SO.trans (SM.calm K2.out) (SO.turn0 (HX.out.kept K2.out) ax4 am4))
  have HN := hid HX.out.hna
  clear TR y8 y0 nS s0 hk hc1 hm1 hq1 FD F1 HX K2
  go_wp2
  go_loopw [5] (fun iv X => ∃ i : Nat, iv = vi i ∧ 1 ≤ i ∧ i ≤ na ∧ SO W1 SA sb ab na st nn fu hb pv nw sd X) (fun iv _ => na - (intOf iv).toNat)
  case atStart => exact ⟨1, rfl, by omega, HN.out.1, S4.out⟩
  case round =>
    clear S4
    obtain ⟨i, rfl, hi1, hi2, S1, sx, sm⟩ := hrel
    have c4 := sx.c4
    have hni : (na : Int) ≤ 2 := by have := HN.out; omega
    have hii : (i : Int) ≤ 2 := by omega
    have SXH := hid sx
    have SMH := hid sm
    have HI := hid (show 1 ≤ i ∧ i ≤ na from ⟨hi1, hi2⟩)
    clear sx sm hi1 hi2
    by_cases more : (i : Int) < (na : Int)
    · have hin : i < na := by omega
      obtain ⟨sc1, fi1, d1, n1, f1, ax1⟩ := SXH.out.ar i hin
      obtain ⟨s, hs⟩ : ∃ s, st i = s := ⟨_, rfl⟩
      obtain ⟨m, hm⟩ : ∃ m, nn i = m := ⟨_, rfl⟩
      have hst := ax1.hst
      have hnn := ax1.hnn
      rw [hs] at hst
      rw [hm] at hnn
      obtain ⟨c, ec, hc, _, _⟩ := cdiv t s hst.1 HT.out
      have OL := hid (show Calls Ybaz.prog 95 #[.pointer (some ⟨ab, i * 8, none⟩), vi t] wr (fun e w' => e = .returned (ii ((c : Int) - (m : Int) + 1)) ∧ Dr wr w') from by
        have := oldest_any t s m ab (i * 8) wr (by rw [← hs]; exact ax1.s0) (by rw [← hm]; exact ax1.s1) hst hnn (by have := HT.out; omega)
        rw [ec] at this
        exact this)
      obtain ⟨k, hk⟩ : ∃ k : Int, (c : Int) - (m : Int) + 1 = k := ⟨_, rfl⟩
      rw [hk] at OL
      have TA : Hid (∀ W, Kept (fun _ => False) wr W → Calls Ybaz.prog 94 #[.pointer (some ⟨ab, i * 8, none⟩), ii k] W fun e w' => e = .returned (.tuple #[]) ∧ TrA W (S1 i) ab (i * 8) (st i) (nn i) (fu i) sc1 w') := hid fun W kk => trimA_any k (S1 i) ab (i * 8) (st i) (nn i) (fu i) sc1 fi1 d1 n1 f1 W (ax1.kept kk) (by omega) (by omega)
      have HIN := hid hin
      clear ax1 hs hm hst hnn ec hc hk hin
      go_wp2_with (first | (go_at_call 95; refine OL.out.mono ?_; rintro e W2 ⟨rfl, hd⟩; have K2 := hid hd.kept; clear hd OL) | (go_at_call 94; refine (TA.out _ K2.out).mono ?_; rintro e W5 ⟨rfl, tr⟩; have TR := hid tr; clear tr TA))
      go_roundw
      case rel =>
        obtain ⟨fi4, d4, n4, f4, ax4, am4⟩ := TR.out
        exact ⟨i + 1, by simp, by omega, HIN.out, SO.trans (SMH.out.trans (SM.calm K2.out)) (SO.turn (SXH.out.kept K2.out) HIN.out ax4 am4)⟩
      case measure =>
        have := HIN.out
        simp [intOf]
        omega
    · go_wp2
      go_end0
      exact ⟨rfl, S1, SXH.out, SMH.out⟩
end Go.Proofs.YbulkdsjeGreatDoor
