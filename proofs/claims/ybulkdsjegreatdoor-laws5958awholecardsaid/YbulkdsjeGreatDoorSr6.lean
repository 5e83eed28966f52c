import Derived.Test.YbulkdsjeGreatDoorSr4
import Derived.Test.YbulkdsjeGreatDoorSr5
set_option linter.unusedVariables false
set_option linter.unusedSimpArgs false
namespace Go.Proofs.YbulkdsjeGreatDoor
open Go.RowKit

/-- What a search gives. -/
def SrP (U : World) (d n : Nat) (f : Nat → Int) (ms : Int) (e : Ending) (w' : World) : Prop := ∃ i fd, e = .returned (.tuple #[vi i, .bool fd]) ∧ i ≤ n ∧ (fd = true → i < n) ∧ ((∀ p, p + 1 < d + n → f p < ms) → f (d + n - 1) = ms → fd = true) ∧ Kept (fun _ => False) U w'

set_option maxRecDepth 100000 in
set_option maxHeartbeats 4000000 in
theorem search_any (ms : Int) (S : Nat → Prop) (b o d n Mb : Nat) (f : Nat → Int) (U : World) (h : CK U S b o d n f) (hn : 0 < n) (hm : U.cell? ⟨Mb, 0, none⟩ = some (ii ms)) : Calls Ybaz.prog 90 #[.pointer (some ⟨b, o, none⟩), F91 Mb] U fun e w' => SrP U d n f ms e w' := by
  obtain ⟨sv, m, Cb, co, cc, I, cp, hx⟩ := h
  have hm0 : 0 < m := by have := hx.hi; omega
  have esv : sv = sl Cb co m cc := by
    rcases hx.form with ⟨h0, _⟩ | ⟨_, h1⟩
    · omega
    · exact h1
  subst esv
  have k0 : Kept (fun _ => False) U (U.alloc (.cells #[F91 Mb] 176)) := (Kept.refl _ U).alloc _
  have ALL := hid (show Kept (fun _ => False) U (U.alloc (.cells #[F91 Mb] 176)) ∧ (U.alloc (.cells #[F91 Mb] 176)).cell? ⟨U.heap.size, 0, none⟩ = some (F91 Mb) from ⟨k0, range_new U [F91 Mb] 176 0 _ rfl⟩)
  have HX := hid hx
  have HM := hid hm
  have HN := hid (show 0 < n ∧ 0 < m from ⟨hn, hm0⟩)
  clear k0 hx hm hn hm0
  go_enter Ybaz.func90, Ybaz.ntmps90
  go_upto_region 1 with fail
  refine wp_as (fun V => Kept (fun _ => False) U V ∧ V.cell? ⟨U.heap.size, 0, none⟩ = some (F91 Mb)) ALL.out ?_
  rintro V ⟨k0, a1⟩
  obtain ⟨Kb, hKb⟩ : ∃ Kb, U.heap.size = Kb := ⟨_, rfl⟩
  rw [hKb] at a1 ⊢
  have HV := hid (HX.out.kept k0 (fun h => h) (fun _ _ h => h))
  have c0 := HV.out.c0
  have B1 := hid (bs105_any ms (fun q => f (256 * q + (min 256 (d + n - 256 * q) - 1))) Mb Kb Cb co m cc I (fun q => min 256 (d + n - 256 * q)) cp V (k0.cell (p := ⟨Mb, 0, none⟩) (fun h => h) HM.out) a1 (by have := HX.out.lo; have := HX.out.bd; omega) (fun q hq => ⟨HV.out.ch q hq, by have := HX.out.lo; omega, by
    have hv := HV.out.val (256 * q + (min 256 (d + n - 256 * q) - 1)) (by have := HX.out.lo; omega)
    rw [show (256 * q + (min 256 (d + n - 256 * q) - 1)) / 256 = q by omega, show (256 * q + (min 256 (d + n - 256 * q) - 1)) % 256 = min 256 (d + n - 256 * q) - 1 by omega] at hv
    exact hv⟩))
  have K0 := hid k0
  have A1 := hid a1
  clear ALL hKb k0 a1
  go_upto_region 2 with (go_at_call 105; refine B1.out.mono ?_; rintro e W1 ⟨k, fd1, rfl, hk1, hk2, hk3, hk4, kW⟩; have HK := hid (show k ≤ m ∧ (∀ t, t ≤ m → (∀ q, q < t → f (256 * q + (min 256 (d + n - 256 * q) - 1)) < ms) → (∀ q, t ≤ q → q < m → ms ≤ f (256 * q + (min 256 (d + n - 256 * q) - 1))) → k = t) from ⟨hk1, hk3⟩); have KW := hid kW; clear hk1 hk2 hk3 hk4 kW B1)
  have EXK : Hid ((∀ p, p + 1 < d + n → f p < ms) → f (d + n - 1) = ms → k + 1 = m) := hid (fun h1 h2 => by
    have hlo := HX.out.lo
    have hhi := HX.out.hi
    have := HN.out
    have := HK.out.2 (m - 1) (by omega) (fun q hq => h1 _ (by omega)) (fun q hq1 hq2 => by
      obtain rfl : q = m - 1 := by omega
      rw [show 256 * (m - 1) + (min 256 (d + n - 256 * (m - 1)) - 1) = d + n - 1 by omega, h2]
      exact Int.le_refl _)
    omega)
  have HW := hid (HV.out.kept KW.out (fun h => h) (fun _ _ h => h))
  have HA := hid (KW.out.cell (p := ⟨Kb, 0, none⟩) (fun h => h) A1.out)
  have HMW := hid (KW.out.cell (p := ⟨Mb, 0, none⟩) (fun h => h) (K0.out.cell (p := ⟨Mb, 0, none⟩) (fun h => h) HM.out))
  have w0 := HW.out.c0
  have w1 := HW.out.c1
  have w2 := HW.out.c2
  have KU := hid (K0.out.trans KW.out)
  clear HV KW K0 A1 c0
  by_cases hkm : k = m
  · subst hkm
    go_wp2
    go_ret2
    exact ⟨n, false, rfl, Nat.le_refl _, (fun h => by cases h), fun h1 h2 => by have := EXK.out h1 h2; omega, KU.out⟩
  · have hkm2 : k < m := by have := HK.out.1; omega
    have hki : (k : Int) < (m : Int) := by omega
    have hkb : ((k : Int) == (m : Int)) = false := by simp; omega
    by_cases hk0 : k = 0
    · subst hk0
      obtain ⟨y0, y1⟩ := HW.out.ch 0 hkm2
      rw [Nat.zero_mul, Nat.add_zero] at y0
      obtain ⟨L, hL⟩ : ∃ L, min 256 (d + n - 256 * 0) = L := ⟨_, rfl⟩
      rw [hL] at y0
      have hcp := HW.out.cpl 0 hkm2
      rw [hL] at hcp
      have hd := HX.out.d256
      have hfl : d < L := by
        have := HX.out.lo
        have := HN.out.1
        omega
      obtain ⟨Ik, hIk⟩ : ∃ Ik, I 0 = Ik := ⟨_, rfl⟩
      obtain ⟨ck, hck⟩ : ∃ ck, cp 0 = ck := ⟨_, rfl⟩
      rw [hIk, hck] at y0
      rw [hck] at hcp
      have hfc : ((d : Nat) : Int) ≤ (ck : Int) := by omega
      have hfL : ((d : Nat) : Int) ≤ (L : Int) := by omega
      have hfne : ¬ ck = d := by omega
      have B2 := hid (bs107_any ms (fun j => f (256 * 0 + (d + j))) Mb Kb Ik (d * 2) (L - d) (ck - d) W1 HMW.out HA.out (by omega) (fun q hq => by
        have hv := HW.out.val (256 * 0 + (d + q)) (by have := HX.out.hi; omega)
        rw [show (256 * 0 + (d + q)) / 256 = 0 by omega, show (256 * 0 + (d + q)) % 256 = d + q by omega, hIk] at hv
        rw [show d * 2 + q * 2 = (d + q) * 2 by omega]
        exact hv))
      have HF := hid (show d < L ∧ min 256 (d + n - 256 * 0) = L ∧ L ≤ ck ∧ d < 256 from ⟨hfl, hL, hcp.1, hd⟩)
      have HKM := hid hkm2
      clear hL hcp hfl hkm hkm2 y1 hIk hck hd
      go_upto_region 8 with (go_at_call 107; refine B2.out.mono ?_; rintro e W2 ⟨j, fd2, rfl, hj1, hj2, hj3, hj4, kW2⟩; have HJ := hid (show j ≤ L - d ∧ (fd2 = true → j < L - d) ∧ (∀ t, t ≤ L - d → (∀ q, q < t → f (256 * 0 + (d + q)) < ms) → (∀ q, t ≤ q → q < L - d → ms ≤ f (256 * 0 + (d + q))) → j = t) ∧ (j < L - d → f (256 * 0 + (d + j)) = ms → fd2 = true) from ⟨hj1, hj2, hj3, hj4⟩); have KW2 := hid kW2; have v1 := kW2.cell (p := ⟨b, o + 1, none⟩) (fun h => h) w1; clear hj1 hj2 hj3 hj4 kW2 B2)
      have hhi := HX.out.hi
      have hbd := HX.out.bd
      have hk1 := HKM.out
      obtain ⟨hf1, hf2, hf3, hf4⟩ := HF.out
      obtain ⟨hj1, hj2, hj3, hj4⟩ := HJ.out
      obtain ⟨i, hi, hi2⟩ : ∃ i : Nat, 256 * 0 + d + j = i + d ∧ i ≤ n := ⟨256 * 0 + d + j - d, by omega, by omega⟩
      have FIN : Hid (SrP U d n f ms (.returned (.tuple #[vi i, .bool fd2])) W2) := hid ⟨i, fd2, rfl, hi2, fun h => by have := hj2 h; omega, fun h1 h2 => by
        have hx1 := EXK.out h1 h2
        have ht := hj3 (L - d - 1) (by omega) (fun q hq => h1 _ (by omega)) (fun q hq1 hq2 => by
          obtain rfl : q = L - d - 1 := by omega
          rw [show 256 * 0 + (d + (L - d - 1)) = d + n - 1 by omega, h2]
          exact Int.le_refl _)
        exact hj4 (by omega) (by rw [show 256 * 0 + (d + j) = d + n - 1 by omega]; exact h2), KU.out.trans KW2.out⟩
      have hsum : (((0 : Nat) : Int) * 256 + ((d : Nat) : Int) + (j : Int) - (d : Int)) = (i : Int) := by omega
      have hj0 : (j : Int) ≤ 256 := by omega
      have hkk : ((0 : Nat) : Int) ≤ 67108864 := by omega
      have hdd : (d : Int) < 256 := by omega
      clear hi hi2 hhi hbd hk1 hf1 hf2 hf3 hf4 hj1 hj2 hj3 hj4 y0 w0 w2 hfc hfL hfne
      go_wp2
      go_ret2
      have e0 : (d : Int) + (j : Int) - (d : Int) = (i : Int) := by omega
      have fin := FIN.out
      rw [show (vi i) = Value.int .i64 ((d : Int) + (j : Int) - (d : Int)) by rw [e0]] at fin
      exact fin

    · have hk00 : ((k : Int) == 0) = false := by simp; omega
      obtain ⟨y0, y1⟩ := HW.out.ch k hkm2
      skip
      obtain ⟨L, hL⟩ : ∃ L, min 256 (d + n - 256 * k) = L := ⟨_, rfl⟩
      rw [hL] at y0
      have hcp := HW.out.cpl k hkm2
      rw [hL] at hcp
      have hd := HX.out.d256
      have hfl : 0 < L := by
        have := HX.out.lo
        have := HN.out.1
        omega
      obtain ⟨Ik, hIk⟩ : ∃ Ik, I k = Ik := ⟨_, rfl⟩
      obtain ⟨ck, hck⟩ : ∃ ck, cp k = ck := ⟨_, rfl⟩
      rw [hIk, hck] at y0
      rw [hck] at hcp
      have hfc : ((0 : Nat) : Int) ≤ (ck : Int) := by omega
      have hfL : ((0 : Nat) : Int) ≤ (L : Int) := by omega
      have hfne : ¬ ck = 0 := by omega
      have B2 := hid (bs107_any ms (fun j => f (256 * k + (0 + j))) Mb Kb Ik (0 * 2) (L - 0) (ck - 0) W1 HMW.out HA.out (by omega) (fun q hq => by
        have hv := HW.out.val (256 * k + (0 + q)) (by have := HX.out.hi; omega)
        rw [show (256 * k + (0 + q)) / 256 = k by omega, show (256 * k + (0 + q)) % 256 = 0 + q by omega, hIk] at hv
        rw [show 0 * 2 + q * 2 = (0 + q) * 2 by omega]
        exact hv))
      have HF := hid (show 0 < L ∧ min 256 (d + n - 256 * k) = L ∧ L ≤ ck ∧ d < 256 from ⟨hfl, hL, hcp.1, hd⟩)
      have HKM := hid hkm2
      clear hL hcp hfl hkm hkm2 y1 hIk hck hd
      go_upto_region 8 with (go_at_call 107; refine B2.out.mono ?_; rintro e W2 ⟨j, fd2, rfl, hj1, hj2, hj3, hj4, kW2⟩; have HJ := hid (show j ≤ L - 0 ∧ (fd2 = true → j < L - 0) ∧ (∀ t, t ≤ L - 0 → (∀ q, q < t → f (256 * k + (0 + q)) < ms) → (∀ q, t ≤ q → q < L - 0 → ms ≤ f (256 * k + (0 + q))) → j = t) ∧ (j < L - 0 → f (256 * k + (0 + j)) = ms → fd2 = true) from ⟨hj1, hj2, hj3, hj4⟩); have KW2 := hid kW2; have v1 := kW2.cell (p := ⟨b, o + 1, none⟩) (fun h => h) w1; clear hj1 hj2 hj3 hj4 kW2 B2)
      have hhi := HX.out.hi
      have hbd := HX.out.bd
      have hk1 := HKM.out
      obtain ⟨hf1, hf2, hf3, hf4⟩ := HF.out
      obtain ⟨hj1, hj2, hj3, hj4⟩ := HJ.out
      obtain ⟨i, hi, hi2⟩ : ∃ i : Nat, 256 * k + 0 + j = i + d ∧ i ≤ n := ⟨256 * k + 0 + j - d, by omega, by omega⟩
      have FIN : Hid (SrP U d n f ms (.returned (.tuple #[vi i, .bool fd2])) W2) := hid ⟨i, fd2, rfl, hi2, fun h => by have := hj2 h; omega, fun h1 h2 => by
        have hx1 := EXK.out h1 h2
        have ht := hj3 (L - 0 - 1) (by omega) (fun q hq => h1 _ (by omega)) (fun q hq1 hq2 => by
          obtain rfl : q = L - 0 - 1 := by omega
          rw [show 256 * k + (0 + (L - 0 - 1)) = d + n - 1 by omega, h2]
          exact Int.le_refl _)
        exact hj4 (by omega) (by rw [show 256 * k + (0 + j) = d + n - 1 by omega]; exact h2), KU.out.trans KW2.out⟩
      have hsum : (((k : Nat) : Int) * 256 + ((0 : Nat) : Int) + (j : Int) - (d : Int)) = (i : Int) := by omega
      have hj0 : (j : Int) ≤ 256 := by omega
      have hkk : ((k : Nat) : Int) ≤ 67108864 := by omega
      have hdd : (d : Int) < 256 := by omega
      clear hi hi2 hhi hbd hk1 hf1 hf2 hf3 hf4 hj1 hj2 hj3 hj4 y0 w0 w2 hfc hfL hfne
      go_wp2
      go_ret2
      have e0 : (k : Int) * 256 + (j : Int) - (d : Int) = (i : Int) := by omega
      have fin := FIN.out
      rw [show (vi i) = Value.int .i64 ((k : Int) * 256 + (j : Int) - (d : Int)) by rw [e0]] at fin
      exact fin


set_option maxRecDepth 100000 in
set_option maxHeartbeats 4000000 in
theorem rsearch_any (ms : Int) (S : Nat → Prop) (b o d n : Nat) (f : Nat → Int) (U : World) (h : CK U S b o d n f) (hn : 0 < n) : Calls Ybaz.prog 67 #[.pointer (some ⟨b, o, none⟩), .int .i64 ms] U fun e w' => SrP U d n f ms e w' := by
  have k0 : Kept (fun _ => False) U (U.alloc (.cells #[.int .i64 ms] 2)) := (Kept.refl _ U).alloc _
  have SA := hid (search_any ms S b o d n U.heap.size f (U.alloc (.cells #[.int .i64 ms] 2)) (h.kept k0 (fun h => h) (fun _ _ h => h)) hn (range_new U [.int .i64 ms] 2 0 _ rfl))
  have K0 := hid k0
  clear k0 h
  go_enter Ybaz.func67, Ybaz.ntmps67
  go_wp2_with (go_at_call 90; refine SA.out.mono ?_; rintro e W1 ⟨i, fd, rfl, h1, h2, h3, h4⟩; have H := hid (show i ≤ n ∧ (fd = true → i < n) ∧ ((∀ p, p + 1 < d + n → f p < ms) → f (d + n - 1) = ms → fd = true) from ⟨h1, h2, h3⟩); have H4 := hid h4; clear h1 h2 h3 h4)
  go_ret2
  exact ⟨i, fd, rfl, H.out.1, H.out.2.1, H.out.2.2, K0.out.trans H4.out⟩
end Go.Proofs.YbulkdsjeGreatDoor
