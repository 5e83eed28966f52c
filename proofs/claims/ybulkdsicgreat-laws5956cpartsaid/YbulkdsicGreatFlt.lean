import Derived.Test.YbulkdsicGreatRows
import Derived.Laws.FloatArith
set_option linter.unusedVariables false
set_option linter.unusedSimpArgs false
/-! Floats that are small naturals: they are exact, and so are their sums. -/
namespace Go.Flt
open Ieee

theorem cut_pow (n g d : Nat) (hd : d ≤ (n * 2 ^ g).log2 + 2) (hg : d ≤ g) : Toward.even.cut false (n * 2 ^ g) d = n * 2 ^ (g - d) := by
  unfold Toward.cut
  have e : 1 <<< min d ((n * 2 ^ g).log2 + 2) = 2 ^ d := by rw [Nat.min_eq_left hd, Nat.one_shiftLeft]
  have hp : n * 2 ^ g = n * 2 ^ (g - d) * 2 ^ d := by rw [Nat.mul_assoc, ← Nat.pow_add]; congr 2; omega
  have hq : n * 2 ^ g / 2 ^ d = n * 2 ^ (g - d) := by rw [hp, Nat.mul_div_cancel _ (Nat.two_pow_pos d)]
  have hr : n * 2 ^ g % 2 ^ d = 0 := by rw [hp, Nat.mul_mod_left]
  simp only [e, hq, hr]
  have h0 : 0 < 2 ^ d := Nat.two_pow_pos d
  simp [Nat.ne_of_gt h0]

/-- The word of a small natural. -/
def nat (n : Nat) : Nat := double.nearest false n 0

theorem log2_mul_pow (n s : Nat) (h : n ≠ 0) : (n * 2 ^ s).log2 = n.log2 + s := by
  have h1 : 2 ^ n.log2 ≤ n := Nat.log2_self_le h
  have h2 : n < 2 ^ (n.log2 + 1) := Nat.lt_log2_self
  have hne : n * 2 ^ s ≠ 0 := Nat.mul_ne_zero h (Nat.ne_of_gt (Nat.two_pow_pos s))
  refine (Nat.log2_eq_iff hne).2 ⟨?_, ?_⟩
  · rw [Nat.pow_add]; exact Nat.mul_le_mul_right _ h1
  · rw [show n.log2 + s + 1 = (n.log2 + 1) + s by omega, Nat.pow_add]; exact Nat.mul_lt_mul_of_pos_right h2 (Nat.two_pow_pos s)
theorem log2_lt {n : Nat} (h : n < 2 ^ 53) : n.log2 < 53 := by
  by_cases h0 : n = 0
  · subst h0; decide
  · exact (Nat.log2_lt h0).2 h

theorem leastPlace_eq : double.leastPlace = -1074 := by decide
theorem binade_eq : double.binade = 2 ^ 52 := rfl
theorem infRung_eq : double.infRung = 2047 * 2 ^ 52 := by decide

/-- A number n written as n * 2^s at the place -s. -/
theorem nearest_at (n s : Nat) (h0 : n ≠ 0) (hn : n < 2 ^ 53) (hs : s ≤ 1074) : double.nearest false (n * 2 ^ s) (-(s : Int)) = (n.log2 + 1022) * 2 ^ 52 + n * 2 ^ (52 - n.log2) := by
  have hL := log2_lt hn
  have hne : n * 2 ^ s ≠ 0 := Nat.mul_ne_zero h0 (Nat.ne_of_gt (Nat.two_pow_pos s))
  have hlg := log2_mul_pow n s h0
  have hk : n * 2 ^ (52 - n.log2) < 2 ^ 53 := by
    have h2 : n < 2 ^ (n.log2 + 1) := Nat.lt_log2_self
    have := Nat.mul_lt_mul_of_pos_right h2 (Nat.two_pow_pos (52 - n.log2))
    rwa [← Nat.pow_add, show n.log2 + 1 + (52 - n.log2) = 53 by omega] at this
  unfold Format.nearest
  rw [if_neg hne, hlg, leastPlace_eq, infRung_eq, binade_eq]
  have hfr : double.fractionBits = 52 := rfl
  have hlast : max (-(s : Int) + ((n.log2 + s : Nat) : Int) - (double.fractionBits : Nat)) (-1074) = (n.log2 : Int) - 52 := by rw [hfr]; omega
  simp only [hlast]
  have hkept : Toward.even.cut false ((n * 2 ^ s) <<< (-(s : Int) - ((n.log2 : Int) - 52)).toNat) (((n.log2 : Int) - 52) - -(s : Int)).toNat = n * 2 ^ (52 - n.log2) := by
    by_cases hc : s ≤ 52 - n.log2
    · have e1 : (-(s : Int) - ((n.log2 : Int) - 52)).toNat = 52 - n.log2 - s := by omega
      have e2 : (((n.log2 : Int) - 52) - -(s : Int)).toNat = 0 := by omega
      rw [e1, e2, Nat.shiftLeft_eq, Nat.mul_assoc, ← Nat.pow_add, show s + (52 - n.log2 - s) = 52 - n.log2 by omega]
      rw [cut_pow _ _ _ (Nat.zero_le _) (Nat.zero_le _), Nat.sub_zero]
    · have e1 : (-(s : Int) - ((n.log2 : Int) - 52)).toNat = 0 := by omega
      have e2 : (((n.log2 : Int) - 52) - -(s : Int)).toNat = n.log2 + s - 52 := by omega
      rw [e1, e2, Nat.shiftLeft_zero, cut_pow _ _ _ (by rw [hlg]; omega) (by omega)]
      congr 2; omega
  rw [hkept]
  have e3 : ((n.log2 : Int) - 52 - -1074).toNat = n.log2 + 1022 := by omega
  rw [e3]
  unfold Format.word
  rw [if_neg (by simp)]
  have h8 : (n.log2 + 1022) * 2 ^ 52 + n * 2 ^ (52 - n.log2) ≤ 2047 * 2 ^ 52 := by omega
  rw [Nat.min_eq_left h8]
theorem nearest_zero (s : Nat) (p : Int) : double.nearest false (0 * 2 ^ s) p = 0 := by
  unfold Format.nearest
  rw [Nat.zero_mul, if_pos rfl]
  rfl
theorem write_at (n s : Nat) (hn : n < 2 ^ 53) (hs : s ≤ 1074) : double.nearest false (n * 2 ^ s) (-(s : Int)) = nat n := by
  by_cases h0 : n = 0
  · subst h0
    rw [nearest_zero]
    have := nearest_zero 0 0
    rw [Nat.zero_mul] at this
    exact this.symm
  · rw [nearest_at n s h0 hn hs]
    have := nearest_at n 0 h0 hn (by omega)
    rw [Nat.pow_zero, Nat.mul_one] at this
    exact this.symm
set_option maxRecDepth 100000 in
theorem read_nat (n : Nat) (hn : n < 2 ^ 53) : ∃ s : Nat, s ≤ 1074 ∧ double.read (nat n) = .number false (n * 2 ^ s) (-(s : Int)) := by
  by_cases h0 : n = 0
  · subst h0
    obtain ⟨s, hs⟩ : ∃ s : Nat, s = 1074 := ⟨_, rfl⟩
    refine ⟨s, by omega, ?_⟩
    have e : nat 0 = 0 := by have := nearest_zero 0 0; rw [Nat.zero_mul] at this; exact this
    rw [Nat.zero_mul, e, hs]
    decide
  · have hL := log2_lt hn
    refine ⟨52 - n.log2, by omega, ?_⟩
    have e := nearest_at n 0 h0 hn (by omega)
    rw [Nat.pow_zero, Nat.mul_one] at e
    have e' : nat n = (n.log2 + 1022) * 2 ^ 52 + n * 2 ^ (52 - n.log2) := e
    have h1 : 2 ^ 52 ≤ n * 2 ^ (52 - n.log2) := by
      have := Nat.mul_le_mul_right (2 ^ (52 - n.log2)) (Nat.log2_self_le h0)
      rwa [← Nat.pow_add, show n.log2 + (52 - n.log2) = 52 by omega] at this
    have hk : n * 2 ^ (52 - n.log2) < 2 ^ 53 := by
      have h2 : n < 2 ^ (n.log2 + 1) := Nat.lt_log2_self
      have := Nat.mul_lt_mul_of_pos_right h2 (Nat.two_pow_pos (52 - n.log2))
      rwa [← Nat.pow_add, show n.log2 + 1 + (52 - n.log2) = 53 by omega] at this
    generalize hK : n * 2 ^ (52 - n.log2) = K at *
    rw [e']
    have hsw : double.signWeight = 2 ^ 63 := rfl
    have hr : ((n.log2 + 1022) * 2 ^ 52 + K) < 1076 * 2 ^ 52 := by omega
    unfold Format.read
    rw [hsw, binade_eq, infRung_eq, leastPlace_eq]
    have d1 : ((n.log2 + 1022) * 2 ^ 52 + K) % 2 ^ 63 = (n.log2 + 1022) * 2 ^ 52 + K := Nat.mod_eq_of_lt (by omega)
    have d2 : ((n.log2 + 1022) * 2 ^ 52 + K) / 2 ^ 63 % 2 = 0 := by rw [Nat.div_eq_of_lt (by omega)]
    simp only [d1, d2]
    rw [if_neg (by omega), if_pos (by omega)]
    have d3 : ((n.log2 + 1022) * 2 ^ 52 + K) % 2 ^ 52 = K - 2 ^ 52 := by omega
    have d4 : ((n.log2 + 1022) * 2 ^ 52 + K) / 2 ^ 52 = n.log2 + 1023 := by omega
    have q1 : 2 ^ 52 + (K - 2 ^ 52) = K := by omega
    have q2 : (-1074 : Int) + ((n.log2 + 1023 - 1 : Nat) : Int) = -((52 - n.log2 : Nat) : Int) := by omega
    rw [d3, d4, q1, q2]
    rfl
theorem signed_at (n s b : Nat) (hb : s ≤ b) : signed false (n * 2 ^ s) (b - s) = ((n * 2 ^ b : Nat) : Int) := by
  unfold signed
  rw [if_neg (by simp), Nat.shiftLeft_eq, Nat.mul_assoc, ← Nat.pow_add, show s + (b - s) = b by omega]
theorem sum_at (a s b t : Nat) : (Datum.number false (a * 2 ^ s) (-(s : Int))).sum (Datum.number false (b * 2 ^ t) (-(t : Int))) = some (.number false ((a + b) * 2 ^ (max s t)) (-((max s t : Nat) : Int))) := by
  unfold Datum.sum
  have hb : min (-(s : Int)) (-(t : Int)) = -((max s t : Nat) : Int) := by omega
  have e1 : (-(s : Int) - -((max s t : Nat) : Int)).toNat = max s t - s := by omega
  have e2 : (-(t : Int) - -((max s t : Nat) : Int)).toNat = max s t - t := by omega
  simp only [hb, e1, e2, signed_at a s (max s t) (by omega), signed_at b t (max s t) (by omega)]
  have e3 : ((a * 2 ^ max s t : Nat) : Int) + ((b * 2 ^ max s t : Nat) : Int) = (((a + b) * 2 ^ max s t : Nat) : Int) := by rw [Nat.add_mul]; omega
  rw [e3, Int.natAbs_natCast]
  congr 2
  by_cases h : (((a + b) * 2 ^ max s t : Nat) : Int) = 0
  · rw [if_pos h]; rfl
  · rw [if_neg h]
    have : ¬ ((((a + b) * 2 ^ max s t : Nat) : Int) < 0) := by omega
    exact (decide_eq_false this).symm ▸ rfl
theorem add_nat (a b : Nat) (h : a + b < 2 ^ 53) : double.add (nat a) (nat b) = some (nat (a + b)) := by
  obtain ⟨s, hs, e1⟩ := read_nat a (by omega)
  obtain ⟨t, ht, e2⟩ := read_nat b (by omega)
  unfold Format.add
  rw [e1, e2, sum_at]
  show some (double.nearest false ((a + b) * 2 ^ max s t) (-((max s t : Nat) : Int))) = _
  rw [write_at _ _ h (by omega)]
theorem order_nat (a b : Nat) (ha : a < 2 ^ 53) (hb : b < 2 ^ 53) : double.order (nat a) (nat b) = some (compare a b) := by
  obtain ⟨s, hs, e1⟩ := read_nat a ha
  obtain ⟨t, ht, e2⟩ := read_nat b hb
  unfold Format.order
  rw [e1, e2]
  unfold Datum.order
  have hbb : min (-(s : Int)) (-(t : Int)) = -((max s t : Nat) : Int) := by omega
  have d1 : (-(s : Int) - -((max s t : Nat) : Int)).toNat = max s t - s := by omega
  have d2 : (-(t : Int) - -((max s t : Nat) : Int)).toNat = max s t - t := by omega
  simp only [hbb, d1, d2, signed_at a s (max s t) (by omega), signed_at b t (max s t) (by omega)]
  have hp := Nat.two_pow_pos (max s t)
  congr 1
  rcases Nat.lt_trichotomy a b with h | h | h
  · have h1 := Nat.mul_lt_mul_of_pos_right h hp
    have h2 : ((a * 2 ^ max s t : Nat) : Int) < ((b * 2 ^ max s t : Nat) : Int) := by omega
    rw [Nat.compare_eq_lt.2 h, Int.compare_eq_lt.2 h2]
  · subst h; simp
  · have h1 := Nat.mul_lt_mul_of_pos_right h hp
    have h2 : ((b * 2 ^ max s t : Nat) : Int) < ((a * 2 ^ max s t : Nat) : Int) := by omega
    rw [Nat.compare_eq_gt.2 h, Int.compare_eq_gt.2 h2]
theorem neg_nat (a : Nat) (ha : a < 2 ^ 53) : (double.read (nat a)).neg = false := by
  obtain ⟨s, _, e⟩ := read_nat a ha
  rw [e]
  rfl
theorem nat_zero : nat 0 = 0 := by have := nearest_zero 0 0; rw [Nat.zero_mul] at this; exact this

/-! ### In the model -/
variable {P : Program} (w : World)
theorem run_add (t : TypeId) (a b : Nat) (h : a + b < 2 ^ 53) : (binOp .add t (.float .f64 (nat a)) (.float .f64 (nat b))).run P w = .ok (.float .f64 (nat (a + b))) w :=
  run_float_arith w .add t .f64 _ _ _ (add_nat a b h)
theorem run_lss (t : TypeId) (a b : Nat) (ha : a < 2 ^ 53) (hb : b < 2 ^ 53) (h : b ≤ a) : (binOp .lss t (.float .f64 (nat a)) (.float .f64 (nat b))).run P w = .ok (.bool false) w := by
  have e : FloatKind.f64.format.order (nat a) (nat b) = some (compare a b) := order_nat a b ha hb
  have hc : compare a b ≠ .lt := fun hc => by have := Nat.compare_eq_lt.1 hc; omega
  simp only [binOp, Op.floatCmp, e]
  cases hcc : compare a b <;> simp_all
theorem run_max (ts : Array TypeId) (t : TypeId) (a b : Nat) (ha : a < 2 ^ 53) (hb : b < 2 ^ 53) : (Builtin.max_ ts t #[.float .f64 (nat a), .float .f64 (nat b)]).run P w = .ok (.float .f64 (nat (max a b))) w := by
  have e : FloatKind.f64.format.order (nat a) (nat b) = some (compare a b) := order_nat a b ha hb
  have hng : (FloatKind.f64.decode (nat a)).neg = false := neg_nat a ha
  rcases Nat.lt_trichotomy a b with h | h | h
  · have hc := Nat.compare_eq_lt.2 h
    simp [Builtin.max_, Builtin.max2, e, hc, show max a b = b by omega]
  · subst h
    simp [Builtin.max_, Builtin.max2, e, hng]
  · have hc := Nat.compare_eq_gt.2 h
    simp [Builtin.max_, Builtin.max2, e, hc, show max a b = a by omega]
end Go.Flt
