import Derived.Test.YbulkdsjeGreatDoorEs4
import Derived.Test.YbulkdsjeGreatDoorMd7
import Derived.BigQuiet
import Derived.Deep.QuietTactic
import Derived.Deep.MidRow
set_option linter.unusedVariables false
set_option linter.unusedSimpArgs false
namespace Go.Proofs.YbulkdsjeGreatDoor
open Go.RowKit

theorem AX.keptE {W W' : World} {E : Nat → Prop} {S : Nat → Prop} {b o st nn fu sc fi d n : Nat} {f : Nat → Int} (h : AX W S b o st nn fu sc fi d n f) (k : Kept E W W') (hb : ¬ E b) (hS : ∀ x, S x → ¬ E x) : AX W' S b o st nn fu sc fi d n f := by
  have e := k.block b h.ck.bl.1 hb
  have c : ∀ j, W'.cell? ⟨b, j, none⟩ = W.cell? ⟨b, j, none⟩ := fun j => World.cell?_of_block (a := ⟨b, j, none⟩) e
  exact ⟨by rw [c]; exact h.s0, by rw [c]; exact h.s1, by rw [c]; exact h.s2, by rw [c]; exact h.s3, by rw [c]; exact h.s4, by rw [World.frozen?_of_block (a := ⟨b, o + 4, none⟩) e]; exact h.fz, h.ck.kept k hb hS, h.hst, h.hnn, h.hfu, h.hfi⟩

set_option maxRecDepth 100000 in
set_option maxHeartbeats 4000000 in
theorem same_out (j b6 b7 ab ao fi rb ro fi2 n2 : Nat) (U : World) (h6 : U.cell? ⟨b6, 0, none⟩ = some (.pointer (some ⟨ab, ao, none⟩))) (h7 : U.cell? ⟨b7, 0, none⟩ = some (.pointer (some ⟨rb, ro, none⟩))) (s4a : U.cell? ⟨ab, ao + 4, none⟩ = some (vi fi)) (s4r : U.cell? ⟨rb, ro + 4, none⟩ = some (vi fi2)) (c2r : U.cell? ⟨rb, ro + 5 + 2, none⟩ = some (vi n2)) (hfj : fi + j ≤ 8388608) (hfr : fi2 + n2 ≤ 8388608) (hout : fi + j < fi2 ∨ fi2 + n2 ≤ fi + j) :
    Calls Ybaz.prog 59 #[vi j, .pointer (some ⟨b6, 0, none⟩), .pointer (some ⟨b7, 0, none⟩)] U fun e w' => e = .returned (.bool false) ∧ Kept (fun _ => False) U w' := by
  have LA := hid (last_any fi2 n2 rb ro U s4r c2r hfr)
  have h1 : (fi : Int) ≤ 8388608 := by omega
  have h2 : (j : Int) ≤ 8388608 := by omega
  have h3 : (fi2 : Int) ≤ 8388608 := by omega
  have h4 : (n2 : Int) ≤ 8388608 := by omega
  clear hfj hfr c2r
  by_cases a1 : (fi : Int) + (j : Int) < (fi2 : Int)
  · clear hout
    go_enter Ybaz.func59, Ybaz.ntmps59
    go_wp2
    go_ret
    exact ⟨rfl, Kept.refl _ _⟩
  · have a2 : (fi2 : Int) + (n2 : Int) - 1 < (fi : Int) + (j : Int) := by omega
    clear hout
    go_enter Ybaz.func59, Ybaz.ntmps59
    go_wp2_with (go_at_call 60; refine LA.out.mono ?_; rintro e W1 ⟨rfl, hd⟩)
    go_ret
    exact ⟨rfl, hd.kept⟩
/-- Whether two slots are the same is fixed while they lie as they do. -/
theorem same_det (j b6 b7 : Nat) {Sa : Nat → Prop} {ab ao st nn fu sc fi d n : Nat} {f : Nat → Int} {Sb : Nat → Prop} {rb ro st2 nn2 fu2 sc2 fi2 d2 n2 : Nat} {f2 : Nat → Int} {U : World} {E : Nat → Prop} (h6 : U.cell? ⟨b6, 0, none⟩ = some (.pointer (some ⟨ab, ao, none⟩))) (h7 : U.cell? ⟨b7, 0, none⟩ = some (.pointer (some ⟨rb, ro, none⟩))) (ha : AX U Sa ab ao st nn fu sc fi d n f) (hr : AX U Sb rb ro st2 nn2 fu2 sc2 fi2 d2 n2 f2) (hj : j < n) (e6 : ¬ E b6) (e7 : ¬ E b7) (ea : ¬ E ab) (er : ¬ E rb) (eA : ∀ x, Sa x → ¬ E x) (eR : ∀ x, Sb x → ¬ E x) :
    ∃ t : Bool, ∀ W, Kept E U W → Calls Ybaz.prog 59 #[vi j, .pointer (some ⟨b6, 0, none⟩), .pointer (some ⟨b7, 0, none⟩)] W fun e w' => e = .returned (.bool t) ∧ Kept (fun _ => False) W w' := by
  have hfa := ha.hfi
  have hfr := hr.hfi
  by_cases hin : fi2 ≤ fi + j ∧ fi + j < fi2 + n2
  · obtain ⟨i, hi⟩ : ∃ i, fi + j = fi2 + i := ⟨fi + j - fi2, by omega⟩
    obtain ⟨sv, m, Cb, co, cc, I, cp, hx⟩ := ha.ck
    obtain ⟨sv2, m2, Cb2, co2, cc2, I2, cp2, hx2⟩ := hr.ck
    obtain ⟨_, x1, v1⟩ := hx.val (d + j) (by omega)
    obtain ⟨_, x2, v2⟩ := hx2.val (d2 + i) (by omega)
    obtain ⟨p1, _⟩ := hx.place hj
    obtain ⟨p2, _⟩ := hx2.place (show i < n2 by omega)
    refine ⟨(f2 (d2 + i) == f (d + j)) && ((x2 : Int) == (x1 : Int)), fun W k => ?_⟩
    have aW := ha.keptE k ea eA
    have rW := hr.keptE k er eR
    exact same_in j i b6 b7 ab ao fi rb ro fi2 n2 (f (d + j)) (f2 (d2 + i)) x1 x2 W (k.cell (p := ⟨b6, 0, none⟩) e6 h6) (k.cell (p := ⟨b7, 0, none⟩) e7 h7) aW.s4 rW.s4 rW.ck.c2 (by omega) hfr hi (by omega) (fun W' k' => atS_exact Sa ab (ao + 5) d n j m Cb co cc f sv I cp W' ((hx.kept k ea eA).kept k' (fun h => h) (fun _ _ h => h)) hj x1 (k'.cell (p := ⟨I ((d + j) / 256), (d + j) % 256 * 2 + 1, none⟩) (fun h => h) (k.cell (p := ⟨I ((d + j) / 256), (d + j) % 256 * 2 + 1, none⟩) (eA _ (hx.oi _ p1)) v1))) (fun W' k' => atS_exact Sb rb (ro + 5) d2 n2 i m2 Cb2 co2 cc2 f2 sv2 I2 cp2 W' ((hx2.kept k er eR).kept k' (fun h => h) (fun _ _ h => h)) (by omega) x2 (k'.cell (p := ⟨I2 ((d2 + i) / 256), (d2 + i) % 256 * 2 + 1, none⟩) (fun h => h) (k.cell (p := ⟨I2 ((d2 + i) / 256), (d2 + i) % 256 * 2 + 1, none⟩) (eR _ (hx2.oi _ p2)) v2)))
  · refine ⟨false, fun W k => ?_⟩
    have aW := ha.keptE k ea eA
    have rW := hr.keptE k er eR
    exact same_out j b6 b7 ab ao fi rb ro fi2 n2 W (k.cell (p := ⟨b6, 0, none⟩) e6 h6) (k.cell (p := ⟨b7, 0, none⟩) e7 h7) aW.s4 rW.s4 rW.ck.c2 (by omega) hfr (by omega)
end Go.Proofs.YbulkdsjeGreatDoor
