import Derived.Test.YbulkdsjeGreatDoorAr3
import Derived.BigQuiet
import Derived.Deep.QuietTactic
set_option linter.unusedVariables false
set_option linter.unusedSimpArgs false
namespace Go.Proofs.YbulkdsjeGreatDoor
open Go.RowKit

/-- Behind an archive's trim. -/
def TrA (U : World) (S : Nat → Prop) (b o st nn fu sc : Nat) (w' : World) : Prop := ∃ fi d n f, AX w' S b o st nn fu sc fi d n f ∧ AM U S b o S w'

set_option maxRecDepth 100000 in
set_option maxHeartbeats 4000000 in
theorem trimA_any (k : Int) (S : Nat → Prop) (b o st nn fu sc fi d n : Nat) (f : Nat → Int) (U : World) (h : AX U S b o st nn fu sc fi d n f) (hk : k ≤ 8388608) (hk2 : -1099511627776 ≤ k) : Calls Ybaz.prog 94 #[.pointer (some ⟨b, o, none⟩), ii k] U fun e w' => e = .returned (.tuple #[]) ∧ TrA U S b o st nn fu sc w' := by
  have s4 := h.s4
  have c2 := h.ck.c2
  have hb := h.hfi
  have h1 : (fi : Int) ≤ 8388608 := by omega
  have h2 : (n : Int) ≤ 8388608 := by omega
  have HA := hid h
  clear h hb
  by_cases a1 : k ≤ (fi : Int)
  · go_enter Ybaz.func94, Ybaz.ntmps94
    go_wp2
    refine bodyPost_ret (results_none Ybaz.results94 _ _ _) rfl ?_
    exact ⟨rfl, fi, d, n, f, HA.out, AM.refl _ _ _ _⟩
  · obtain ⟨t, ht⟩ : ∃ t : Nat, k = (fi : Int) + (t : Int) := ⟨(k - fi).toNat, by omega⟩
    have ht2 : k - (fi : Int) = (t : Int) := by omega
    have ht3 : (t : Int) ≤ 8388608 := by omega
    obtain ⟨mk, hmk⟩ : ∃ mk : Nat, min t n = mk := ⟨_, rfl⟩
    have emk : min (t : Int) (n : Int) = (mk : Int) := by omega
    have HM := hid (show min t n = mk ∧ k = (fi : Int) + (t : Int) from ⟨hmk, ht⟩)
    have DS := hid (dropS_any S b (o + 5) d n mk f U.drew (HA.out.kept (Kept.refl (fun _ => False) U).drew).ck (by omega))
    have LN := hid (lenS_any b (o + 5) n U.drew c2)
    have s0 : Kept (fun _ => False) U U.drew := (Kept.refl _ U).drew
    haveI nS : Nonempty (Wld (fun U' => Kept (fun _ => False) U U')) := ⟨⟨U.drew, s0⟩⟩
    have y4 : ∀ x : Wld (fun U' => Kept (fun _ => False) U U'), x.w.cell? ⟨b, o + 4, none⟩ = some (vi fi) := fun x => x.h.cell (p := ⟨b, o + 4, none⟩) (fun h => h) s4
    clear hmk ht
    go_enter Ybaz.func94, Ybaz.ntmps94
    go_upto_region 1 with fail
    clear s4
    refine wp_region_calmplan 14 [(true, 0), (true, 1), (true, 2), (true, 3), (true, 4), (true, 5), (true, 6), (true, 7), (true, 8), (true, 9), (true, 10), (true, 11), (false, 12), (false, 13), (false, 14)] (fun w' => ∃ x : Wld (fun U' => Kept (fun _ => False) U U'), w' = x.w) mixed (by kernel_rfl) (inS s0) ?_
    iterate 12 (refine wpPlan_q (by rfl) ?_; dsimp only [List.getElem_toArray, List.getElem_cons_zero, List.getElem_cons_succ]; go_big_quiet_step (fail); refine wpQuiet_nil ?_)
    refine wpPlan_e (by rfl) ?_
    dsimp only [List.getElem_toArray, List.getElem_cons_zero, List.getElem_cons_succ]
    go_wp2_with (go_at_call 58; refine LN.out.mono ?_; rintro e W1 ⟨rfl, rfl⟩)
    refine onward_normal (fun _ => inS s0) ?_
    refine wpPlan_e (by rfl) ?_
    dsimp only [List.getElem_toArray, List.getElem_cons_zero, List.getElem_cons_succ]
    go_wp2
    refine onward_normal (fun _ => inS s0) ?_
    refine wpPlan_e (by rfl) ?_
    dsimp only [List.getElem_toArray, List.getElem_cons_zero, List.getElem_cons_succ]
    go_wp2_with (go_at_call 110; refine DS.out.mono ?_; rintro e W2 ⟨rfl, dp⟩; have DP := hid dp; clear dp DS)
    refine onward_normal (fun h => by cases h) ?_
    refine wpPlan_nil ?_
    refine calmQ_normal ?_
    obtain ⟨d', n', e, ck, hc, fp⟩ := DP.out
    have hn' : n' ≤ n ∧ fi + t + n' ≤ 8388608 := by
      have := HM.out.1
      have := HM.out.2
      have := HA.out.hfi
      rcases hc with ⟨h, _⟩ | ⟨h, _⟩ <;> omega
    have ax := (HA.out.kept (Kept.refl (fun _ => False) U).drew).slots ck fp (by have := HA.out.hfi; omega)
    have AX2 := hid ax
    have SF := hid (ax.setFirst (k := fi + t) hn'.2)
    have am : AM U S b o S W2 := ⟨((FP.calm (Kept.refl (fun _ => False) U).drew).mono (fun _ _ _ h => h.elim)).thn fp (fun c j _ h => h.elim .inl (fun h => .inr (by omega))), fun _ h => .inl h⟩
    have AMM := hid am
    have s4 := ax.s4
    have fz := ax.fz
    have ek : k = ((fi + t : Nat) : Int) := by have := HM.out.2; omega
    have EK := hid ek
    clear ax am ck fp hc hn' y4 nS s0 LN DP c2 ek
    go_wp2
    go_end0
    refine ⟨rfl, fi + t, d', n', (fun p => f (p + 256 * e)), ?_, ?_⟩
    · rw [EK.out]
      exact SF.out.1
    · rw [EK.out]
      exact AMM.out.trans ⟨SF.out.2, fun _ h => .inl h⟩
end Go.Proofs.YbulkdsjeGreatDoor
