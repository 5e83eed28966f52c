import Derived.Test.YbulkdsjeGreatDoorMd1
import Derived.Test.YbulkdsjeGreatDoorArith
import Derived.Test.YbulkdsjeGreatDoorAr1
import Derived.BigQuiet
import Derived.Deep.QuietTactic
set_option linter.unusedVariables false
set_option linter.unusedSimpArgs false
namespace Go.Proofs.YbulkdsjeGreatDoor
open Go.RowKit

/-- One for true, none for false. -/
def bitI (b : Bool) : Int := if b then 1 else 0
theorem bit_ofI (b : Bool) (w : World) : Calls Ybaz.prog 52 #[.bool b] w fun e w' => e = .returned (.int .u64 (bitI b)) ∧ w' = w := bit_of b w
section
variable {U V : World} {z : Zs} {ov : Value} {L : Nat}
theorem MD.i4 (h : MD U z) : ∃ x : Int, U.cell? ⟨z.Mb, 4, none⟩ = some (ii x) := by
  obtain ⟨v, hv, ok⟩ := h.mi 4 (by omega)
  simp [MOk] at ok
  obtain ⟨x, rfl⟩ := ok
  exact ⟨x, hv⟩
theorem MD.i5 (h : MD U z) : ∃ x : Int, U.cell? ⟨z.Mb, 5, none⟩ = some (ii x) := by
  obtain ⟨v, hv, ok⟩ := h.mi 5 (by omega)
  simp [MOk] at ok
  obtain ⟨x, rfl⟩ := ok
  exact ⟨x, hv⟩
theorem MD.i6 (h : MD U z) : ∃ x : Nat, x ≤ 1 ∧ U.cell? ⟨z.Mb, 6, none⟩ = some (.int .u64 (x : Int)) := by
  obtain ⟨v, hv, ok⟩ := h.mi 6 (by omega)
  simp [MOk] at ok
  obtain ⟨x, hx, rfl⟩ := ok
  exact ⟨x, hx, hv⟩
theorem ok4 (x : Int) : MOk 4 (ii x) := by simp [MOk]
theorem ok5 (x : Int) : MOk 5 (ii x) := by simp [MOk]
theorem ok6 (b : Bool) : MOk 6 (.int .u64 (bitI b)) := by
  simp [MOk, bitI]
  cases b
  · exact ⟨0, by omega, rfl⟩
  · exact ⟨1, by omega, rfl⟩
end

set_option maxRecDepth 100000 in
set_option maxHeartbeats 4000000 in
theorem time_0 (x : Int) (z : Zs) (ov : Value) (L : Nat) (U : World) (h : CD U z ov L) (hL : L + 300 < 1099511627776) : Calls Ybaz.prog 29 #[.pointer (some ⟨z.Mb, 0, none⟩), .pointer (some ⟨z.Eb, 0, none⟩), vi 0, ii x] U fun e w' => e = .returned (.tuple #[]) ∧ CP U z ov (L + 70) w' := by
  have c0 := h.md.c0
  obtain ⟨m, hm, em⟩ := u64_nat x
  have UI := hid (show Calls Ybaz.prog 25 #[.pointer (some ⟨z.Eb, 0, none⟩), .pointer (some ⟨z.U1, 0, none⟩), vi 1, .int .u64 (IntKind.u64.wrap x)] U (fun e w' => e = .returned (.tuple #[]) ∧ CP U z ov (L + 60) w') from by rw [em]; exact h.uint1 (by omega) (by omega) (by omega))
  have HC := hid h
  clear h hm em
  go_enter Ybaz.func29, Ybaz.ntmps29
  go_upto_region 11 with (go_at_call 25; refine UI.out.mono ?_; rintro e W1 ⟨rfl, cp⟩; have C1 := hid cp; clear cp UI)
  obtain ⟨ov1, cd1, k1, m1⟩ := C1.out
  obtain ⟨x4, y4⟩ := cd1.md.i4
  have f4 := cd1.md.fz 4 (by omega)
  have S4 := hid (CP.thn k1 m1 (CP.set cd1 (j := 4) (by omega) (ok4 x)))
  clear C1 cd1 k1 m1 c0
  go_wp2
  go_end0
  exact ⟨rfl, S4.out.mono (by omega)⟩

set_option maxRecDepth 100000 in
set_option maxHeartbeats 4000000 in
theorem time_1 (x : Int) (z : Zs) (ov : Value) (L : Nat) (U : World) (h : CD U z ov L) (hL : L + 300 < 1099511627776) : Calls Ybaz.prog 29 #[.pointer (some ⟨z.Mb, 0, none⟩), .pointer (some ⟨z.Eb, 0, none⟩), vi 1, ii x] U fun e w' => e = .returned (.tuple #[]) ∧ CP U z ov (L + 70) w' := by
  obtain ⟨xm, y4⟩ := h.md.i4
  obtain ⟨m, hm, em⟩ := u64_nat (wrap64 (wrap64 (x - xm) - 1))
  have UI := hid (show Calls Ybaz.prog 25 #[.pointer (some ⟨z.Eb, 0, none⟩), .pointer (some ⟨z.U1, 0, none⟩), vi 1, .int .u64 (m : Int)] U.drew (fun e w' => e = .returned (.tuple #[]) ∧ CP U.drew z ov (L + 60) w') from (h.calm (Kept.refl _ _).drew).uint1 (by omega) (by omega) (by omega))
  have s0 : Kept (fun _ => False) U U.drew := (Kept.refl _ U).drew
  haveI nS : Nonempty (Wld (fun U' => Kept (fun _ => False) U U')) := ⟨⟨U.drew, s0⟩⟩
  have y0 : ∀ x : Wld (fun U' => Kept (fun _ => False) U U'), x.w.cell? ⟨z.Mb, 0, none⟩ = some (.pointer (some ⟨z.U1, 0, none⟩)) := fun x => x.h.cell (p := ⟨z.Mb, 0, none⟩) (fun h => h) h.md.c0
  have z4 : ∀ x : Wld (fun U' => Kept (fun _ => False) U U'), x.w.cell? ⟨z.Mb, 4, none⟩ = some (ii xm) := fun x => x.h.cell (p := ⟨z.Mb, 4, none⟩) (fun h => h) y4
  have HC := hid h
  have EM := hid em
  clear h hm em y4
  go_enter Ybaz.func29, Ybaz.ntmps29
  go_upto_region 10 with fail
  refine wp_region_calmplan 13 [(true, 0), (true, 1), (true, 2), (true, 3), (true, 4), (true, 5), (true, 6), (true, 7), (true, 8), (true, 9), (true, 10), (true, 11), (true, 12), (false, 13)] (fun w' => ∃ x : Wld (fun U' => Kept (fun _ => False) U U'), w' = x.w) mixed (by kernel_rfl) (inS s0) ?_
  iterate 13 (refine wpPlan_q (by rfl) ?_; dsimp only [List.getElem_toArray, List.getElem_cons_zero, List.getElem_cons_succ]; go_big_quiet_step (fail); refine wpQuiet_nil ?_)
  rw [EM.out]
  refine wpPlan_e (by rfl) ?_
  dsimp only [List.getElem_toArray, List.getElem_cons_zero, List.getElem_cons_succ]
  go_wp2_with (go_at_call 25; refine UI.out.mono ?_; rintro e W1 ⟨rfl, cp⟩; have C1 := hid cp; clear cp UI)
  refine onward_normal (fun h => by cases h) ?_
  refine wpPlan_nil ?_
  refine calmQ_normal ?_
  obtain ⟨ov1, cd1, k1, m1⟩ := C1.out
  obtain ⟨x4, y4⟩ := cd1.md.i4
  obtain ⟨x5, y5⟩ := cd1.md.i5
  have f4 := cd1.md.fz 4 (by omega)
  have f5 := cd1.md.fz 5 (by omega)
  have kU : Kept (CE z ov) U W1 := Kept.thn' (s0.weak (fun _ _ h => h.elim)) k1 (fun _ _ h => h)
  have C2 := hid (show CD W1 z ov1 (L + 60) ∧ Kept (CE z ov) U W1 ∧ Mv U ov ov1 from ⟨cd1, kU, m1⟩)
  clear C1 cd1 k1 m1 y0 z4 kU nS s0
  go_upto_region 13 with fail
  obtain ⟨q, hq⟩ : ∃ q, wrap64 (x - x4) = q := ⟨_, rfl⟩
  rw [hq]
  have S5 := (C2.out.1.set (j := 5) (by omega) (ok5 q))
  refine wp_as (fun V => CD V z ov1 (L + 60) ∧ Kept (CE z ov1) W1 V) S5 ?_
  rintro V ⟨cdV, kV⟩
  obtain ⟨x44, y44⟩ := cdV.md.i4
  have f44 := cdV.md.fz 4 (by omega)
  have S4 := hid (CP.thn C2.out.2.1 C2.out.2.2 (CP.thn kV (Mv.refl _ _) (CP.set cdV (j := 4) (by omega) (ok4 x))))
  clear cdV kV C2 S5 hq y4 y5 f4 f5
  go_wp2
  go_end0
  exact ⟨rfl, S4.out.mono (by omega)⟩

set_option maxRecDepth 100000 in
set_option maxHeartbeats 4000000 in
theorem time_2 (i : Nat) (hi : 2 ≤ i) (hi2 : i ≤ 1073741824) (x : Int) (z : Zs) (ov : Value) (L : Nat) (U : World) (h : CD U z ov L) (hL : L + 300 < 1099511627776) : Calls Ybaz.prog 29 #[.pointer (some ⟨z.Mb, 0, none⟩), .pointer (some ⟨z.Eb, 0, none⟩), vi i, ii x] U fun e w' => e = .returned (.tuple #[]) ∧ CP U z ov (L + 70) w' := by
  obtain ⟨xm, y4⟩ := h.md.i4
  obtain ⟨xs, y5⟩ := h.md.i5
  have e0 : ((i : Int) == 0) = false := by simp; omega
  have e1 : ((i : Int) == 1) = false := by simp; omega
  have e2 : (0 : Int) < (i : Int) := by omega
  have HC := hid h
  have HL := hid hL
  clear h hL hi hi2
  go_enter Ybaz.func29, Ybaz.ntmps29
  go_upto_region 1 with fail
  go_quiet (fail)
  obtain ⟨ch, hch⟩ : ∃ ch, wrap64 (wrap64 (x - xm) - xs) = ch := ⟨_, rfl⟩
  rw [hch]
  clear hch e0 e1 y4 y5
  have hcW := HC.out.calm (Kept.drawn (Kept.refl (fun _ => False) U) nq)
  have k0 : Kept (CE z ov) U (U.drewN nq) := Kept.drawn (Kept.refl _ U) nq
  obtain ⟨W, hW⟩ : ∃ W, U.drewN nq = W := ⟨_, rfl⟩
  rw [hW] at hcW k0 ⊢
  have HCW := hid hcW
  have K0 := hid k0
  clear hW k0 HC
  obtain ⟨c, hc, y6⟩ := hcW.md.i6
  have hci : (c : Int) < 2 := by omega
  have pac := hcW.md.p1.sub (o' := 1 + c) (N' := 1) (by omega) (by omega)
  have s0 : Kept (fun _ => False) W W.drew := (Kept.refl _ W).drew
  haveI nS : Nonempty (Wld (fun U' => Kept (fun _ => False) W U')) := ⟨⟨W.drew, s0⟩⟩
  have z6 : ∀ x : Wld (fun U' => Kept (fun _ => False) W U'), x.w.cell? ⟨z.Mb, 6, none⟩ = some (.int .u64 (c : Int)) := fun x => x.h.cell (p := ⟨z.Mb, 6, none⟩) (fun h => h) y6
  clear hcW hc y6
  obtain ⟨tb, htb⟩ : ∃ tb, (ch != 0) = tb := ⟨_, rfl⟩
  have BA : Hid (∀ V b, CD V z ov L → PA V z.Mb (1 + c) 1 → Calls Ybaz.prog 51 #[.pointer (some ⟨z.Eb, 0, none⟩), .pointer (some ⟨z.Mb, 1 + c, none⟩), .int .u64 b] V fun e w' => e = .returned (.tuple #[]) ∧ CP V z ov (L + 3) w') := hid fun V b hV hp => hV.bit (by have := HL.out; omega) b hp
  have PAC := hid pac
  clear pac
  go_upto_region 2 with fail
  refine wp_region_calmplan 12 [(true, 0), (true, 1), (true, 2), (true, 3), (true, 4), (true, 5), (true, 6), (true, 7), (true, 8), (true, 9), (true, 10), (false, 11), (false, 12)] (fun w' => ∃ x : Wld (fun U' => Kept (fun _ => False) W U'), w' = x.w) mixed (by kernel_rfl) (inS s0) ?_
  iterate 11 (refine wpPlan_q (by rfl) ?_; dsimp only [List.getElem_toArray, List.getElem_cons_zero, List.getElem_cons_succ]; go_big_quiet_step (fail); refine wpQuiet_nil ?_)
  refine wpPlan_e (by rfl) ?_
  dsimp only [List.getElem_toArray, List.getElem_cons_zero, List.getElem_cons_succ]
  go_wp2_with (go_at_call 52; refine (bit_ofI tb _).mono ?_; rintro e W1 ⟨rfl, rfl⟩)
  refine onward_normal (fun _ => inS s0) ?_
  refine wpPlan_e (by rfl) ?_
  dsimp only [List.getElem_toArray, List.getElem_cons_zero, List.getElem_cons_succ]
  go_wp2_with (go_at_call 51; refine (BA.out _ _ (HCW.out.calm s0) (fun j hj => PAC.out j hj)).mono ?_; rintro e W2 ⟨rfl, cp⟩; have C2 := hid cp; clear cp)
  refine onward_normal (fun h => by cases h) ?_
  refine wpPlan_nil ?_
  refine calmQ_normal ?_
  have C3 := hid (CP.thn (Kept.thn' K0.out s0 (fun _ _ h => h.elim)) (Mv.refl U ov) C2.out)
  clear BA PAC C2 s0 nS z6 HCW hci
  go_upto_region 3 with fail
  go_upto_if 35 with fail
  go_cut [] from 36 to 55 (fun w' => CP U z ov (L + 66) w')
  case first =>
    cases tb with
    | false =>
      go_wp2
      go_meet
      case rel => exact C3.out.mono (by omega)
    | true =>
      obtain ⟨ov1, cd1, k1, m1⟩ := C3.out
      have BA : Hid (∀ V b, CD V z ov1 (L + 3) → Calls Ybaz.prog 51 #[.pointer (some ⟨z.Eb, 0, none⟩), .pointer (some ⟨z.Mb, 3, none⟩), .int .u64 b] V fun e w' => e = .returned (.tuple #[]) ∧ CP V z ov1 (L + 3 + 3) w') := hid fun V b hV => hV.bit (by have := HL.out; omega) b (hV.md.p1.sub (by omega) (by omega))
      have s0 : Kept (fun _ => False) W2 W2.drew := (Kept.refl _ W2).drew
      haveI nS : Nonempty (Wld (fun U' => Kept (fun _ => False) W2 U')) := ⟨⟨W2.drew, s0⟩⟩
      have CD1 := hid (show CD W2 z ov1 (L + 3) ∧ Kept (CE z ov) U W2 ∧ Mv U ov ov1 from ⟨cd1, k1, m1⟩)
      clear cd1 k1 m1 C3 htb
      go_upto_region 4 with fail
      refine wp_region_calmplan 7 [(true, 0), (true, 1), (true, 2), (true, 3), (true, 4), (true, 5), (false, 6), (false, 7)] (fun w' => ∃ x : Wld (fun U' => Kept (fun _ => False) W2 U'), w' = x.w) mixed (by kernel_rfl) (inS s0) ?_
      iterate 6 (refine wpPlan_q (by rfl) ?_; dsimp only [List.getElem_toArray, List.getElem_cons_zero, List.getElem_cons_succ]; go_big_quiet_step (fail); refine wpQuiet_nil ?_)
      refine wpPlan_e (by rfl) ?_
      dsimp only [List.getElem_toArray, List.getElem_cons_zero, List.getElem_cons_succ]
      go_wp2_with (go_at_call 52; refine (bit_ofI _ _).mono ?_; rintro e W3 ⟨rfl, rfl⟩)
      refine onward_normal (fun _ => inS s0) ?_
      refine wpPlan_e (by rfl) ?_
      dsimp only [List.getElem_toArray, List.getElem_cons_zero, List.getElem_cons_succ]
      go_wp2_with (go_at_call 51; refine (BA.out _ _ (CD1.out.1.calm s0)).mono ?_; rintro e W4 ⟨rfl, cp⟩; have C4 := hid cp; clear cp)
      refine onward_normal (fun h => by cases h) ?_
      refine wpPlan_nil ?_
      refine calmQ_normal ?_
      have C5 := hid (CP.thn CD1.out.2.1 CD1.out.2.2 (CP.thn (s0.weak (fun _ _ h => h.elim)) (Mv.refl _ _) C4.out))
      obtain ⟨ov2, cd2, k2, m2⟩ := C5.out
      have y0 := cd2.md.c0
      have UI : Hid (∀ y : Int, Calls Ybaz.prog 25 #[.pointer (some ⟨z.Eb, 0, none⟩), .pointer (some ⟨z.U1, 0, none⟩), vi 1, .int .u64 (IntKind.u64.wrap y)] W4 (fun e w' => e = .returned (.tuple #[]) ∧ CP W4 z ov2 (L + 3 + 3 + 60) w')) := hid fun y => by
        obtain ⟨m, hm, em⟩ := u64_nat y
        rw [em]
        exact cd2.uint1 (by have := HL.out; omega) (by omega) (by omega)
      have C6 := hid (show Kept (CE z ov) U W4 ∧ Mv U ov ov2 from ⟨k2, m2⟩)
      clear cd2 k2 m2 C5 C4 CD1 BA s0 nS
      go_wp2_with (go_at_call 25; refine (UI.out _).mono ?_; rintro e W5 ⟨rfl, cp⟩; have C7 := hid cp; clear cp UI)
      go_meet
      case rel => exact (CP.thn C6.out.1 C6.out.2 C7.out).mono (by omega)
  case rest =>
    obtain ⟨ov1, cd1, k1, m1⟩ := hcut
    obtain ⟨c6, _, y6⟩ := cd1.md.i6
    have f6 := cd1.md.fz 6 (by omega)
    have CD1 := hid (show CD wc z ov1 (L + 66) ∧ Kept (CE z ov) U wc ∧ Mv U ov ov1 from ⟨cd1, k1, m1⟩)
    clear cd1 k1 m1 C3
    go_upto_region 11 with (go_at_call 52; refine (bit_ofI tb _).mono ?_; rintro e W3 ⟨rfl, rfl⟩)
    refine wp_as (fun V => CD V z ov1 (L + 66) ∧ Kept (CE z ov1) W3 V) (CD1.out.1.set (j := 6) (by omega) (ok6 tb)) ?_
    rintro V ⟨cdV, kV⟩
    obtain ⟨x4, y4⟩ := cdV.md.i4
    obtain ⟨x5, y5⟩ := cdV.md.i5
    have f5 := cdV.md.fz 5 (by omega)
    have CDV := hid (show CD V z ov1 (L + 66) ∧ Kept (CE z ov1) W3 V from ⟨cdV, kV⟩)
    clear cdV kV y6 f6 htb
    go_upto_region 13 with fail
    obtain ⟨q, hq⟩ : ∃ q, wrap64 (x - x4) = q := ⟨_, rfl⟩
    rw [hq]
    refine wp_as (fun X => CD X z ov1 (L + 66) ∧ Kept (CE z ov1) V X) (CDV.out.1.set (j := 5) (by omega) (ok5 q)) ?_
    rintro X ⟨cdX, kX⟩
    obtain ⟨x44, y44⟩ := cdX.md.i4
    have f44 := cdX.md.fz 4 (by omega)
    have S4 := hid (CP.thn CD1.out.2.1 CD1.out.2.2 (CP.thn CDV.out.2 (Mv.refl _ _) (CP.thn kX (Mv.refl _ _) (CP.set cdX (j := 4) (by omega) (ok4 x)))))
    clear cdX kX CDV CD1 hq y4 y5 f5
    go_wp2
    go_end0
    exact ⟨rfl, S4.out.mono (by omega)⟩
theorem time_any (i : Nat) (hi : i ≤ 1073741824) (x : Int) (z : Zs) (ov : Value) (L : Nat) (U : World) (h : CD U z ov L) (hL : L + 300 < 1099511627776) : Calls Ybaz.prog 29 #[.pointer (some ⟨z.Mb, 0, none⟩), .pointer (some ⟨z.Eb, 0, none⟩), vi i, ii x] U fun e w' => e = .returned (.tuple #[]) ∧ CP U z ov (L + 70) w' := by
  by_cases h0 : i = 0
  · subst h0; exact time_0 x z ov L U h hL
  · by_cases h1 : i = 1
    · subst h1; exact time_1 x z ov L U h hL
    · exact time_2 i (by omega) hi x z ov L U h hL
end Go.Proofs.YbulkdsjeGreatDoor
