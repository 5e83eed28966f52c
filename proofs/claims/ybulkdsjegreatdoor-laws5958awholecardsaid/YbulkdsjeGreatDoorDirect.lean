import Derived.Test.YbulkdsjeGreatDoorTreeE
set_option linter.unusedVariables false
set_option linter.unusedSimpArgs false
namespace Go.Proofs.YbulkdsjeGreatDoor
open Go.RowKit

theorem store23 (w : World) (b o : Nat) (x : Int) (hc : (w.cell? ⟨b, o, none⟩).isSome = true) (hf : w.frozen? ⟨b, o, none⟩ = false) : Sem.run Ybaz.prog (Instr.storeAt 23 (.pointer (some ⟨b, o, none⟩)) (.int .u64 x)) w = .ok () (w.setCell ⟨b, o, none⟩ (.int .u64 x)) := by
  have hu := Ybaz.underlying23
  obtain ⟨u, hc'⟩ := Option.isSome_iff_exists.1 hc
  have hst := run_store1 (P := Ybaz.prog) w b o (.int .u64 x) hc hf rfl
  go_simp
theorem NrP.thn {U X w' : World} {Eb base L' : Nat} {ov ov1 : Value} (hk : Kept (EE Eb ov) U X) (hm : Mv U ov ov1) (h : NrP X Eb base ov1 L' w') : NrP U Eb base ov L' w' := by
  obtain ⟨ov2, e2, k2, m2⟩ := h
  exact ⟨ov2, e2, EE.trans hk hm k2, hm.trans m2 hk.size⟩

set_option maxRecDepth 100000 in
set_option maxHeartbeats 4000000 in
theorem direct_any (Eb base L n : Nat) (v : Int) (ov : Value) (U : World) (h : ES U Eb base ov L 16777216) (hL : L + 100 < 1099511627776) (hn : n ≤ 64) (hv : 0 ≤ v) :
    Calls Ybaz.prog 27 #[.pointer (some ⟨Eb, 0, none⟩), .int .u64 v, vi n] U fun e w' => e = .returned (.tuple #[]) ∧ NrP U Eb base ov (L + 12) w' := by
  have H := hid h
  have HL := hid hL
  clear h hL
  go_enter Ybaz.func27, Ybaz.ntmps27
  go_wp2
  go_loopw [2] (fun i X => ∃ j x : Nat, i = vi x ∧ j ≤ 4 ∧ x + 16 * j ≤ 80 ∧ (x ≠ 0 → x + 16 * j ≤ 64) ∧ NrP U Eb base ov (L + 3 * j) X) (fun i _ => (intOf i).toNat)
  case atStart => exact ⟨0, n, rfl, by omega, by omega, fun _ => by omega, ov, by simpa using H.out, Kept.refl _ _, Mv.refl _ _⟩
  case round =>
    obtain ⟨j, x, rfl, hj, hx0, hx, np⟩ := hrel
    clear H
    by_cases hlt : 0 < x
    · have hli : (0 : Int) < (x : Int) := by omega
      have hxj := hx (by omega)
      obtain ⟨ov1, es1, k1, m1⟩ := np
      obtain ⟨xs, low, rg, cache, pend, st, ex, h1, h2, h3, h4, h5⟩ := es1.ex
      have c2 := ex.cell 2 _ rfl
      have f2 := ex.free 2 (by omega)
      have HX := hid ex
      have H1 := hid h1
      have H2 := hid h2
      have H3 := hid h3
      have H4 := hid h4
      have H5 := hid h5
      have K1 := hid k1
      have M1 := hid m1
      clear ex h1 h2 h3 h4 h5 k1 m1 es1
      obtain ⟨mn, hm1, hm2, hm3, hm4, emn⟩ : ∃ mn : Nat, 1 ≤ mn ∧ mn ≤ 16 ∧ mn ≤ x ∧ (mn = x ∨ mn = 16) ∧ min (x : Int) 16 = (mn : Int) := ⟨min x 16, by omega, by omega, by omega, by omega, by omega⟩
      have HM4 := hid hm4
      clear hm4
      have hx64 : (x : Int) ≤ 64 := by omega
      go_upto_region 4 with fail
      obtain ⟨rg2, hr1, hr2, erg⟩ : ∃ rg2 : Nat, 1 ≤ rg2 ∧ rg2 < 4294967296 ∧ (rg : Int) / 2 ^ mn = (rg2 : Int) := by
        have h2 : 2 ^ mn ≤ 2 ^ 16 := Nat.pow_le_pow_right (by omega) hm2
        have h3 : 0 < 2 ^ mn := Nat.two_pow_pos mn
        refine ⟨rg / 2 ^ mn, ?_, ?_, by simp⟩
        · rw [Nat.le_div_iff_mul_le h3]
          have := H4.out
          omega
        · have := Nat.div_le_self rg (2 ^ mn)
          have := H5.out
          omega
      rw [erg]
      have ex1 : (x : Int) - (mn : Int) = ((x - mn : Nat) : Int) := by omega
      rw [ex1]
      refine wp_as (fun X => EX X Eb base ov1 xs low rg2 cache pend st ∧ Kept (EE Eb ov1) wr X) ⟨HX.out.rng rg2, (Kept.refl (EE Eb ov1) wr).setCell (p := ⟨Eb, 2, none⟩) (.inl (.inl rfl)) _⟩ ?_
      rintro X ⟨ex, kx⟩
      have y1 : ∀ z : Wld (fun U' => Kept (fun _ => False) X U'), z.w.cell? ⟨Eb, 1, none⟩ = some (.int .u64 low) := fun z => z.h.cell (fun h => h) (ex.cell 1 _ rfl)
      have y2 : ∀ z : Wld (fun U' => Kept (fun _ => False) X U'), z.w.cell? ⟨Eb, 2, none⟩ = some (.int .u32 rg2) := fun z => z.h.cell (fun h => h) (ex.cell 2 _ rfl)
      have s0 : Kept (fun _ => False) X X.drew := (Kept.refl _ X).drew
      haveI nS : Nonempty (Wld (fun U' => Kept (fun _ => False) X U')) := ⟨⟨X.drew, s0⟩⟩
      have HX2 := hid ex
      have KX2 := hid kx
      have HR := hid (show 1 ≤ rg2 ∧ rg2 < 4294967296 from ⟨hr1, hr2⟩)
      have hmi : (mn : Int) ≤ 16 := by omega
      clear ex kx HX c2 f2 hr1 hr2 erg emn
      refine wp_region_calmplan 20 [(true, 0), (true, 1), (true, 2), (true, 3), (true, 4), (true, 5), (true, 6), (true, 7), (true, 8), (true, 9), (true, 10), (true, 11), (true, 12), (true, 13), (true, 14), (true, 15), (true, 16), (true, 17), (true, 18), (true, 19), (false, 20)] (fun w' => ∃ z : Wld (fun U' => Kept (fun _ => False) X U'), w' = z.w) mixed (by kernel_rfl) (inS s0) ?_
      iterate 20 (refine wpPlan_q (by rfl) ?_; dsimp only [List.getElem_toArray, List.getElem_cons_zero, List.getElem_cons_succ]; go_big_quiet_step (fail); refine wpQuiet_nil ?_)
      obtain ⟨low2, hl2, elow⟩ := u64_nat ((low : Int) + IntKind.u64.wrap (IntKind.u64.wrap (rg2 : Int) * bits BinOp.and IntKind.u64 (v / 2 ^ (x - mn)) (IntKind.u64.wrap (IntKind.u64.wrap (2 ^ mn) - 1))))
      rw [elow]
      refine wpPlan_e (by rfl) ?_
      dsimp only [List.getElem_toArray, List.getElem_cons_zero, List.getElem_cons_succ]
      have t1 := HX2.out.th 1 (by omega)
      refine wpList_store_as rfl 23 _ _ rfl rfl Eb 1 (.int .u64 (low2 : Int)) rfl rfl (store23 _ _ _ _ t1.1 t1.2) ?_
      refine wpList_done ?_
      refine onward_normal (fun h => by cases h) ?_
      refine wpPlan_nil ?_
      refine calmQ_normal ?_
      refine q_as (fun Y => EX Y Eb base ov1 xs low2 rg2 cache pend st ∧ Kept (EE Eb ov1) wr Y) ⟨(HX2.out.kept s0 (fun h => h) (fun _ _ h => h)).low low2, (Kept.drew KX2.out).setCell (p := ⟨Eb, 1, none⟩) (.inl (.inl rfl)) _⟩ ?_
      rintro Y ⟨ey, ky⟩
      have NA := hid (normalize_any Eb base (L + 3 * j) ov1 Y ⟨xs, low2, rg2, cache, pend, st, ey, H1.out, hl2, H3.out, HR.out.1, HR.out.2⟩ (by have := HL.out; omega))
      have KY := hid ky
      clear ey ky HX2 KX2 hl2 elow t1 y1 y2 s0 nS
      go_wp2_with (go_at_call 49; refine NA.out.mono ?_; rintro e W3 ⟨rfl, np2⟩; have NP2 := hid np2; clear np2 NA)
      go_roundw
      case rel =>
        have hj3 : j < 4 := by omega
        have hm4 := HM4.out
        refine ⟨j + 1, x - mn, rfl, by omega, by omega, fun _ => by omega, ?_⟩
        have e3 : L + 3 * (j + 1) = L + 3 * j + 3 := by omega
        rw [e3]
        exact NrP.thn (EE.trans K1.out M1.out KY.out) M1.out NP2.out
      case measure => simp [intOf]; omega
    · obtain rfl : x = 0 := by omega
      have NP : Hid (NrP U Eb base ov (L + 12) wr) := hid (by
        obtain ⟨ov1, es1, k1, m1⟩ := np
        obtain ⟨xs, low, rg, cache, pend, st, ex, h1, h2⟩ := es1.ex
        exact ⟨ov1, ⟨xs, low, rg, cache, pend, st, ex, by omega, h2⟩, k1, m1⟩)
      clear np
      go_wp2
      go_end0
      exact ⟨rfl, NP.out⟩
end Go.Proofs.YbulkdsjeGreatDoor
