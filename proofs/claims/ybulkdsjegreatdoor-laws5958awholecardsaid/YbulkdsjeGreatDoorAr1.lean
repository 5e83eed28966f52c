import Derived.Test.YbulkdsjeGreatDoorPutR
import Derived.Test.YbulkdsjeGreatDoorDrS
import Derived.Test.YbulkdsjeGreatDoorDiv
import Derived.Test.YbulkdsjeGreatDoorFlo3
import Derived.BigQuiet
import Derived.Deep.QuietTactic
set_option linter.unusedVariables false
set_option linter.unusedSimpArgs false
namespace Go.Proofs.YbulkdsjeGreatDoor
open Go.RowKit

theorem CY.fp {W W' : World} {S : Nat → Prop} {X : Nat → Nat → Prop} {b o d n m Cb co cc : Nat} {f : Nat → Int} {sv : Value} {I cp : Nat → Nat} (h : CY W S b o d n f sv m Cb co cc I cp) (k : FP W W' X) (hb : ∀ j, j < 3 → ¬ X b (o + j)) (hS : ∀ x j, S x → ¬ X x j) : CY W' S b o d n f sv m Cb co cc I cp := by
  have hbl : b < W.heap.size := World.block_lt_of_cell? W _ h.c0
  have cl : ∀ (c j : Nat), S c → W'.cell? ⟨c, j, none⟩ = W.cell? ⟨c, j, none⟩ := fun c j hc => k.cell c j (h.slt c hc) (hS c j hc)
  have fz : ∀ (c j : Nat), S c → W'.frozen? ⟨c, j, none⟩ = W.frozen? ⟨c, j, none⟩ := fun c j hc => k.frz c j (h.slt c hc)
  refine ⟨by rw [k.cell b o hbl (hb 0 (by omega))]; exact h.c0, by rw [k.cell b _ hbl (hb 1 (by omega))]; exact h.c1, by rw [k.cell b _ hbl (hb 2 (by omega))]; exact h.c2, fun j hj => by rw [k.frz b _ hbl]; exact h.fr j hj, h.form, h.mcc, fun hm j hj => ?_, h.hi, h.d256, fun q hq => ?_, fun q hq j hj => ?_, h.cpl, fun p hp => ?_, h.inj, h.ic, h.oc, h.oi, fun x hx => Nat.lt_of_lt_of_le (h.slt x hx) k.size, h.sb, h.bd⟩
  · rw [cl _ _ (h.oc hm), fz _ _ (h.oc hm)]
    exact h.row hm j hj
  · have hm : 0 < m := by omega
    rw [cl _ _ (h.oc hm), cl _ _ (h.oc hm)]
    exact h.ch q hq
  · rw [cl _ _ (h.oi q hq), fz _ _ (h.oi q hq)]
    exact h.it q hq j hj
  · have hq : p / 256 < m := by have := h.hi; omega
    rw [cl _ _ (h.oi _ hq), cl _ _ (h.oi _ hq)]
    exact h.val p hp
theorem CK.fp {W W' : World} {S : Nat → Prop} {X : Nat → Nat → Prop} {b o d n : Nat} {f : Nat → Int} (h : CK W S b o d n f) (k : FP W W' X) (hb : ∀ j, j < 3 → ¬ X b (o + j)) (hS : ∀ x j, S x → ¬ X x j) : CK W' S b o d n f := by
  obtain ⟨sv, m, Cb, co, cc, I, cp, hx⟩ := h
  exact ⟨sv, m, Cb, co, cc, I, cp, hx.toCY.fp k hb hS, hx.lo, hx.z⟩
theorem CK.c2 {W : World} {S : Nat → Prop} {b o d n : Nat} {f : Nat → Int} (h : CK W S b o d n f) : W.cell? ⟨b, o + 2, none⟩ = some (vi n) := by
  obtain ⟨sv, m, Cb, co, cc, I, cp, hx⟩ := h
  exact hx.c2
theorem CK.bl {W : World} {S : Nat → Prop} {b o d n : Nat} {f : Nat → Int} (h : CK W S b o d n f) : b < W.heap.size ∧ d < 256 ∧ (∀ x, S x → x < W.heap.size) ∧ ¬ S b := by
  obtain ⟨sv, m, Cb, co, cc, I, cp, hx⟩ := h
  exact ⟨World.block_lt_of_cell? W _ hx.c0, hx.d256, hx.slt, hx.sb⟩
/-- An archive in memory. -/
structure AX (W : World) (S : Nat → Prop) (b o st nn fu sc fi d n : Nat) (f : Nat → Int) : Prop where
  s0 : W.cell? ⟨b, o, none⟩ = some (vi st)
  s1 : W.cell? ⟨b, o + 1, none⟩ = some (vi nn)
  s2 : W.cell? ⟨b, o + 2, none⟩ = some (vi fu)
  s3 : W.cell? ⟨b, o + 3, none⟩ = some (.float .f64 sc)
  s4 : W.cell? ⟨b, o + 4, none⟩ = some (vi fi)
  fz : W.frozen? ⟨b, o + 4, none⟩ = false
  ck : CK W S b (o + 5) d n f
  hst : 1000 ≤ st ∧ st ≤ 60000
  hnn : nn ≤ 100
  hfu : fu ≤ 60000
  hfi : fi + n ≤ 8388608
theorem AX.fp {W W' : World} {S : Nat → Prop} {X : Nat → Nat → Prop} {b o st nn fu sc fi d n : Nat} {f : Nat → Int} (h : AX W S b o st nn fu sc fi d n f) (k : FP W W' X) (hb : ∀ j, j < 8 → ¬ X b (o + j)) (hS : ∀ x j, S x → ¬ X x j) : AX W' S b o st nn fu sc fi d n f := by
  have hbl := h.ck.bl.1
  exact ⟨by rw [k.cell b o hbl (hb 0 (by omega))]; exact h.s0, by rw [k.cell b _ hbl (hb 1 (by omega))]; exact h.s1, by rw [k.cell b _ hbl (hb 2 (by omega))]; exact h.s2, by rw [k.cell b _ hbl (hb 3 (by omega))]; exact h.s3, by rw [k.cell b _ hbl (hb 4 (by omega))]; exact h.s4, by rw [k.frz b _ hbl]; exact h.fz, h.ck.fp k (fun j hj => by rw [Nat.add_assoc]; exact hb (5 + j) (by omega)) hS, h.hst, h.hnn, h.hfu, h.hfi⟩
theorem AX.kept {W W' : World} {S : Nat → Prop} {b o st nn fu sc fi d n : Nat} {f : Nat → Int} (h : AX W S b o st nn fu sc fi d n f) (k : Kept (fun _ => False) W W') : AX W' S b o st nn fu sc fi d n f := h.fp (FP.calm k) (fun _ _ h => h) (fun _ _ _ h => h)
/-- An archive of a step, a span and a full count, whatever it holds. -/
def AR (W : World) (S : Nat → Prop) (b o st nn fu : Nat) : Prop := ∃ sc fi d n f, AX W S b o st nn fu sc fi d n f
theorem AR.fp {W W' : World} {S : Nat → Prop} {X : Nat → Nat → Prop} {b o st nn fu : Nat} (h : AR W S b o st nn fu) (k : FP W W' X) (hb : ∀ j, j < 8 → ¬ X b (o + j)) (hS : ∀ x j, S x → ¬ X x j) : AR W' S b o st nn fu := by
  obtain ⟨sc, fi, d, n, f, hx⟩ := h
  exact ⟨sc, fi, d, n, f, hx.fp k hb hS⟩
theorem Kept.drawn {E : Nat → Prop} {U W : World} (h : Kept E U W) (n : Nat) : Kept E U (W.drewN n) := ⟨h.os, h.tape, h.output, h.size, h.block⟩

set_option maxRecDepth 100000 in
set_option maxHeartbeats 4000000 in
theorem term_any (v sc b o : Nat) (x : Int) (U : World) (s3 : U.cell? ⟨b, o + 3, none⟩ = some (.float .f64 sc)) : Calls Ybaz.prog 98 #[.pointer (some ⟨b, o, none⟩), .float .f64 v, .int .i64 x] U fun e w' => RF e ∧ Dr U w' := by
  go_enter Ybaz.func98, Ybaz.ntmps98
  go_wp2_with (((with_reducible (show wpList _ _ _ (⟨_, .binOp .mul 24 _ _ _, _, _, _, _⟩ :: _) _ _)); refine wpList_fl rfl .mul rfl 24 _ _ _ rfl _ _ rfl rfl ?_; intro fr fn; simp only [Act.put, List.setIfInBounds_toArray, List.set_cons_succ, List.set_cons_zero]))
  go_ret
  exact ⟨⟨_, rfl⟩, ((Dr.refl _).drewN _).drewN _⟩

set_option maxRecDepth 100000 in
set_option maxHeartbeats 4000000 in
theorem last_any (fi n b o : Nat) (U : World) (s4 : U.cell? ⟨b, o + 4, none⟩ = some (vi fi)) (c2 : U.cell? ⟨b, o + 5 + 2, none⟩ = some (vi n)) (hb : fi + n ≤ 8388608) : Calls Ybaz.prog 60 #[.pointer (some ⟨b, o, none⟩)] U fun e w' => e = .returned (ii ((fi : Int) + (n : Int) - 1)) ∧ Dr U w' := by
  have LN : Hid (∀ q, Calls Ybaz.prog 58 #[.pointer (some ⟨b, o + 5, none⟩)] (U.drewN q) fun e w' => e = .returned (vi n) ∧ w' = U.drewN q) := hid fun q => lenS_any b (o + 5) n (U.drewN q) c2
  have h1 : (fi : Int) ≤ 8388608 := by omega
  have h2 : (n : Int) ≤ 8388608 := by omega
  clear c2 hb
  go_enter Ybaz.func60, Ybaz.ntmps60
  go_upto_region 1 with fail
  go_quiet ((go_at_call 58; refine Calls.quiet_of_same (LN.out _)))
  go_wp2
  go_ret
  exact ⟨rfl, ⟨_, rfl⟩⟩

set_option maxRecDepth 100000 in
set_option maxHeartbeats 4000000 in
theorem oldest_any (t : Int) (st nn b o : Nat) (U : World) (s0 : U.cell? ⟨b, o, none⟩ = some (vi st)) (s1 : U.cell? ⟨b, o + 1, none⟩ = some (vi nn)) (hst : 1000 ≤ st ∧ st ≤ 60000) (hnn : nn ≤ 100) (ht : 0 ≤ t ∧ t ≤ 1099511627776) : Calls Ybaz.prog 95 #[.pointer (some ⟨b, o, none⟩), ii t] U fun e w' => e = .returned (ii (-((-t) / (st : Int)) - (nn : Int) + 1)) ∧ Dr U w' := by
  have CD : Hid (∀ q, Calls Ybaz.prog 72 #[ii t, vi st] (U.drewN q) fun e w' => e = .returned (ii (-((-t) / (st : Int)))) ∧ w' = U.drewN q) := hid fun q => ceilDiv_any t st (U.drewN q) (by omega) (by omega) (by omega)
  obtain ⟨k, hk⟩ : ∃ k, -((-t) / (st : Int)) = k := ⟨_, rfl⟩
  have hk1 : -1099511627776 ≤ k ∧ k ≤ 1099511627776 := by
    have h0 : (0 : Int) < st := by omega
    have h1 := Int.mul_ediv_add_emod (-t) (st : Int)
    have h2 := Int.emod_nonneg (-t) (show (st : Int) ≠ 0 by omega)
    have h3 := Int.emod_lt_of_pos (-t) h0
    rw [← hk]
    obtain ⟨q, hq⟩ : ∃ q, (-t) / (st : Int) = q := ⟨_, rfl⟩
    rw [hq] at h1 ⊢
    constructor
    · have : q ≤ 1099511627776 := by
        apply Decidable.byContradiction
        intro hc
        have : (st : Int) * 1 ≤ (st : Int) * q := Int.mul_le_mul_of_nonneg_left (by omega) (by omega)
        omega
      omega
    · have : -1099511627776 ≤ q := by
        apply Decidable.byContradiction
        intro hc
        have : (st : Int) * q ≤ (st : Int) * (-1099511627777) := Int.mul_le_mul_of_nonneg_left (by omega) (by omega)
        omega
      omega
  rw [hk] at CD ⊢
  have h2 : (nn : Int) ≤ 100 := by omega
  have h3 : -1099511627776 ≤ k := hk1.1
  have h4 : k ≤ 1099511627776 := hk1.2
  clear hk hk1 hst hnn ht
  go_enter Ybaz.func95, Ybaz.ntmps95
  go_upto_region 1 with fail
  go_quiet ((go_at_call 72; refine Calls.quiet_of_same (CD.out _)))
  go_wp2
  go_ret
  exact ⟨rfl, ⟨_, rfl⟩⟩
end Go.Proofs.YbulkdsjeGreatDoor
