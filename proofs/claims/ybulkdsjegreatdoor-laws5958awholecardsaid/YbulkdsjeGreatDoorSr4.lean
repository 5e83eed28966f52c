import Derived.Test.YbulkdsjeGreatDoorSr3
set_option linter.unusedVariables false
set_option linter.unusedSimpArgs false
namespace Go.Proofs.YbulkdsjeGreatDoor
open Go.RowKit


set_option maxRecDepth 100000 in
set_option maxHeartbeats 4000000 in
theorem bs105_any (ms : Int) (X : Nat → Int) (Mb Kb B o N c : Nat) (I L cp : Nat → Nat) (U : World) (hm : U.cell? ⟨Mb, 0, none⟩ = some (ii ms)) (hk : U.cell? ⟨Kb, 0, none⟩ = some (F91 Mb)) (hN : N ≤ 1099511627776) (he : ∀ q, q < N → (U.cell? ⟨B, o + q * 2, none⟩ = some (sl (I q) 0 (L q) (cp q)) ∧ U.cell? ⟨B, o + q * 2 + 1, none⟩ = some (vi 0)) ∧ (0 < L q ∧ L q ≤ 256) ∧ U.cell? ⟨I q, (L q - 1) * 2, none⟩ = some (ii (X q)) ∧ ∃ v, U.cell? ⟨I q, (L q - 1) * 2 + 1, none⟩ = some (.float .f64 v)) : Calls Ybaz.prog 105 #[sl B o N c, .agg #[], .func (.func 106) #[] #[.pointer (some ⟨Kb, 0, none⟩)]] U fun e w' => BsP U N X ms e w' := by
  have k0 : Kept (fun _ => False) U (U.alloc (.cells #[] 112)) := (Kept.refl _ U).alloc _
  have CT : Hid (∀ W q, q < N → Kept (fun _ => False) U W → ∃ v, (Calls Ybaz.prog 106 #[.agg #[sl (I q) 0 (L q) (cp q), vi 0], .agg #[], .pointer (some ⟨Kb, 0, none⟩)] W fun e w' => e = .returned (ii (cmpI (X q) ms)) ∧ Kept (fun _ => False) W w') ∧ W.cell? ⟨B, o + q * 2, none⟩ = some (sl (I q) 0 (L q) (cp q)) ∧ W.cell? ⟨B, o + q * 2 + 1, none⟩ = some (vi 0)) := hid (fun W q hq kW => by obtain ⟨⟨h1, h2⟩, ⟨l1, l2⟩, h3, v, h4⟩ := he q hq; exact ⟨v, f106_any (X q) ms v Mb Kb (I q) (L q) (cp q) W (kW.cell (p := ⟨Mb, 0, none⟩) (fun h => h) hm) (kW.cell (p := ⟨Kb, 0, none⟩) (fun h => h) hk) l1 l2 (kW.cell (p := ⟨I q, (L q - 1) * 2, none⟩) (fun h => h) h3) (kW.cell (p := ⟨I q, (L q - 1) * 2 + 1, none⟩) (fun h => h) h4), kW.cell (p := ⟨B, o + q * 2, none⟩) (fun h => h) h1, kW.cell (p := ⟨B, o + q * 2 + 1, none⟩) (fun h => h) h2⟩)
  have L0 := hid (show BsL U N X ms 0 N (U.alloc (.cells #[] 112)) from ⟨by omega, Nat.le_refl _, fun t ht _ _ => ⟨by omega, ht⟩, k0⟩)
  obtain ⟨E, hE⟩ : ∃ E, U.heap.size = E := ⟨_, rfl⟩
  have EB : Hid (∀ W, Kept (fun _ => False) (U.alloc (.cells #[] 112)) W → W.heap[E]? = some (.cells #[] 112)) := hid (fun W kW => by
    rw [kW.block E (by rw [World.size_alloc]; omega) (fun h => h), ← hE]
    exact World.alloc_heap_new U (.cells #[] 112))
  have K0 := hid k0
  clear k0 hm hk
  go_enter Ybaz.func105, Ybaz.ntmps105
  go_wp2
  obtain ⟨U1, hU1⟩ : ∃ U1, U.alloc (.cells #[] 112) = U1 := ⟨_, rfl⟩
  rw [hU1] at L0 EB K0
  rw [hU1]
  go_loopw [9, 10] (fun i j W => ∃ a b : Nat, i = vi a ∧ j = vi b ∧ BsL U N X ms a b W ∧ Kept (fun _ => False) U1 W) (fun i j _ => (intOf j - intOf i).toNat)
  case atStart => exact ⟨0, N, rfl, rfl, L0.out, Kept.refl _ _⟩
  case round =>
    obtain ⟨a, b, rfl, rfl, bl, k1⟩ := hrel
    have BL := hid bl
    have K1 := hid k1
    have kU : Kept (fun _ => False) U wr := bl.2.2.2
    clear L0 hU1
    have s0 : KC 0 0 wr wr.drew := (Kept.refl (fun c => 0 < 0 ∧ c = 0) wr).drew
    haveI nS : Nonempty (Wld (KC 0 0 wr)) := ⟨⟨wr.drew, s0⟩⟩
    by_cases hlt : a < b
    · have hli : (a : Int) < (b : Int) := by omega
      obtain ⟨h, eh, hh1, hh2⟩ : ∃ h : Nat, ((a : Int) + (b : Int)) / 2 = (h : Int) ∧ a ≤ h ∧ h < b := ⟨(a + b) / 2, by omega, by omega, by omega⟩
      have hbN : b ≤ N := bl.2.1
      have hhN : (h : Int) < (N : Int) := by omega
      have hb40 : (b : Int) ≤ 1099511627776 := by omega
      obtain ⟨v, ct, cy⟩ := CT.out wr.drew h (by omega) kU.drew
      have CA := hid ct
      have HH := hid (show a ≤ h ∧ h < b ∧ b ≤ N from ⟨hh1, hh2, hbN⟩)
      have CY := hid cy
      clear bl k1 kU ct cy hh1 hh2 hbN
      go_upto_region 5 with fail
      clear eh hb40
      have zA : ∀ x : Wld (KC 0 0 wr), x.w.cell? ⟨B, o + h * 2, none⟩ = some (sl (I h) 0 (L h) (cp h)) := fun x => wat x (show wr.cell? ⟨B, o + h * 2, none⟩ = some (sl (I h) 0 (L h) (cp h)) from CY.out.1)
      have zB : ∀ x : Wld (KC 0 0 wr), x.w.cell? ⟨B, o + h * 2 + 1, none⟩ = some (vi 0) := fun x => wat x (show wr.cell? ⟨B, o + h * 2 + 1, none⟩ = some (vi 0) from CY.out.2)
      refine wp_region_calmplan 8 [(true, 0), (true, 1), (true, 2), (true, 3), (true, 4), (true, 5), (false, 6), (true, 7)] (fun w' => ∃ x : Wld (KC 0 0 wr), w' = x.w) mixed (by kernel_rfl) (inS s0) ?_
      iterate 6 (refine wpPlan_q (by rfl) ?_; dsimp only [List.getElem_toArray, List.getElem_cons_zero, List.getElem_cons_succ]; go_big_quiet_step (fail); refine wpQuiet_nil ?_)

      refine wpPlan_e (by rfl) ?_
      dsimp only [List.getElem_toArray, List.getElem_cons_zero, List.getElem_cons_succ]

      go_wp2_with (go_at_call 106; refine CA.out.mono ?_; rintro e W1 ⟨rfl, k2⟩)
      have s1 : KC 0 0 wr W1 := KC.of (((Kept.refl _ wr).drew).trans k2)
      refine onward_normal (fun _ => inS s1) ?_
      iterate 1 (refine wpPlan_q (by rfl) ?_; dsimp only [List.getElem_toArray, List.getElem_cons_zero, List.getElem_cons_succ]; go_big_quiet_step (fail); refine wpQuiet_nil ?_)

      refine wpPlan_nil ?_
      refine calmQ_normal ?_
      have kW1 : Kept (fun _ => False) wr W1 := wkept ⟨W1, s1⟩
      have KW := hid kW1
      have ecm := cmpI_lt (X h) ms
      clear zA zB s0 nS s1 k2 CA CY kW1
      by_cases hx : X h < ms
      · have hx2 : cmpI (X h) ms < 0 := by rw [ecm]; exact hx
        clear ecm
        have BN := hid (BL.out.left HH.out.1 HH.out.2.1 hx (BL.out.2.2.2.trans KW.out))
        go_wp2
        go_roundw
        case rel => exact ⟨h + 1, b, by simp, rfl, BN.out, K1.out.trans KW.out⟩
        case measure => have := HH.out; simp [intOf]; omega
      · have hx2 : ¬ cmpI (X h) ms < 0 := by rw [ecm]; exact hx
        clear ecm
        have BN := hid (BL.out.right HH.out.1 HH.out.2.1 hx (BL.out.2.2.2.trans KW.out))
        go_wp2
        go_roundw
        case rel => exact ⟨a, h, rfl, rfl, BN.out, K1.out.trans KW.out⟩
        case measure => have := HH.out; simp [intOf]; omega
    · obtain rfl : a = b := by have := bl.1; omega
      have hli : ¬ (a : Int) < (a : Int) := by omega
      go_upto_region 8 with fail
      clear hli
      by_cases hN2 : a < N
      · have hNi : (a : Int) < (N : Int) := by omega
        obtain ⟨v, ct, cy⟩ := CT.out wr.drew a hN2 kU.drew
        have CA := hid ct
        have zA : ∀ x : Wld (KC 0 0 wr), x.w.cell? ⟨B, o + a * 2, none⟩ = some (sl (I a) 0 (L a) (cp a)) := fun x => wat x (show wr.cell? ⟨B, o + a * 2, none⟩ = some (sl (I a) 0 (L a) (cp a)) from cy.1)
        have zB : ∀ x : Wld (KC 0 0 wr), x.w.cell? ⟨B, o + a * 2 + 1, none⟩ = some (vi 0) := fun x => wat x (show wr.cell? ⟨B, o + a * 2 + 1, none⟩ = some (vi 0) from cy.2)
        clear bl k1 kU ct cy
        refine wp_region_calmplan 16 [(true, 0), (true, 1), (true, 2), (true, 3), (true, 4), (true, 5), (true, 6), (true, 7), (true, 8), (true, 9), (true, 10), (false, 11), (true, 12), (true, 13), (true, 14), (true, 15)] (fun w' => ∃ x : Wld (KC 0 0 wr), w' = x.w) mixed (by kernel_rfl) (inS s0) ?_
        iterate 11 (refine wpPlan_q (by rfl) ?_; dsimp only [List.getElem_toArray, List.getElem_cons_zero, List.getElem_cons_succ]; go_big_quiet_step (fail); refine wpQuiet_nil ?_)

        refine wpPlan_e (by rfl) ?_
        dsimp only [List.getElem_toArray, List.getElem_cons_zero, List.getElem_cons_succ]

        go_wp2_with (go_at_call 106; refine CA.out.mono ?_; rintro e W1 ⟨rfl, k2⟩)
        have s1 : KC 0 0 wr W1 := KC.of (((Kept.refl _ wr).drew).trans k2)
        refine onward_normal (fun _ => inS s1) ?_
        iterate 4 (refine wpPlan_q (by rfl) ?_; dsimp only [List.getElem_toArray, List.getElem_cons_zero, List.getElem_cons_succ]; go_big_quiet_step (fail); refine wpQuiet_nil ?_)

        refine wpPlan_nil ?_
        refine calmQ_normal ?_
        have FIN : Hid (BsP U N X ms (.returned (.tuple #[vi a, .bool (cmpI (X a) ms == 0)])) W1) := hid ⟨a, _, rfl, by omega, fun _ => hN2, fun t ht h1 h2 => by have := BL.out.2.2.1 t ht h1 h2; omega, fun _ hx => by rw [cmpI_eq, decide_eq_true hx], BL.out.2.2.2.trans (wkept ⟨W1, s1⟩)⟩
        clear zA zB s0 nS s1 k2 CA hNi
        go_wp2
        go_ret2
        exact FIN.out
      · obtain rfl : a = N := by have := bl.2.1; omega
        have hNi : ¬ (a : Int) < (a : Int) := by omega
        clear bl k1 kU
        refine wp_region_calmplan 16 [(true, 0), (true, 1), (true, 2), (true, 3), (true, 4), (true, 5), (true, 6), (true, 7), (true, 8), (true, 9), (true, 10), (false, 11), (true, 12), (true, 13), (true, 14), (true, 15)] (fun w' => ∃ x : Wld (KC 0 0 wr), w' = x.w) mixed (by kernel_rfl) (inS s0) ?_
        iterate 11 (refine wpPlan_q (by rfl) ?_; dsimp only [List.getElem_toArray, List.getElem_cons_zero, List.getElem_cons_succ]; go_big_quiet_step (fail); refine wpQuiet_nil ?_)

        refine wpPlan_e (by rfl) ?_
        dsimp only [List.getElem_toArray, List.getElem_cons_zero, List.getElem_cons_succ]

        go_wp2
        refine onward_normal (fun _ => inS s0) ?_
        iterate 4 (refine wpPlan_q (by rfl) ?_; dsimp only [List.getElem_toArray, List.getElem_cons_zero, List.getElem_cons_succ]; go_big_quiet_step (fail); refine wpQuiet_nil ?_)

        refine wpPlan_nil ?_
        refine calmQ_normal ?_
        have FIN : Hid (BsP U a X ms (.returned (.tuple #[vi a, .bool false])) wr.drew) := hid ⟨a, _, rfl, by omega, (fun h => by cases h), fun t ht h1 h2 => by have := BL.out.2.2.1 t ht h1 h2; omega, fun h _ => by omega, BL.out.2.2.2.drew⟩
        clear s0 nS hNi
        go_wp2
        go_ret2
        exact FIN.out
end Go.Proofs.YbulkdsjeGreatDoor
