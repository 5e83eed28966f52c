import Derived.Test.YbulkdsjeGreatDoorBit
import Derived.Test.YbulkdsjeGreatDoorLen
set_option linter.unusedVariables false
set_option linter.unusedSimpArgs false
namespace Go.Proofs.YbulkdsjeGreatDoor
open Go.RowKit

/-- A row of chances. -/
def PA (U : World) (Pb o N : Nat) : Prop := ∀ j, j < N → ∃ p, U.cell? ⟨Pb, o + j, none⟩ = some (.int .i16 p) ∧ PrOk p ∧ U.frozen? ⟨Pb, o + j, none⟩ = false
theorem PA.pu {U U' : World} {Pb o N : Nat} (h : PA U Pb o N) (k : PU Pb U U') : PA U' Pb o N := fun j hj => by
  obtain ⟨p, h1, h2, h3⟩ := h j hj
  obtain ⟨k1, k2⟩ := k (o + j)
  rcases k2 with e | ⟨q, q', a1, a2, a3⟩
  · exact ⟨p, by rw [e]; exact h1, h2, by rw [k1]; exact h3⟩
  · rw [h1] at a1
    cases a1
    exact ⟨q', a2, a3 h2, by rw [k1]; exact h3⟩
theorem BtP.thn {U X w' : World} {Eb base L' Pb : Nat} {ov ov1 : Value} (hk : Kept (fun b => EE Eb ov b ∨ b = Pb) U X) (hm : Mv U ov ov1) (hp : PU Pb U X) (h : BtP X Eb base ov1 L' Pb w') : BtP U Eb base ov L' Pb w' := by
  obtain ⟨ov2, e2, k2, m2, p2⟩ := h
  refine ⟨ov2, e2, Kept.thn' hk k2 (fun i hi he => ?_), hm.trans m2 hk.size, hp.trans p2⟩
  rcases he with (e | e) | e
  · exact .inl (.inl e)
  · rcases hm i e with e | e
    · exact .inl (.inr e)
    · omega
  · exact .inr e

theorem and1 (x : Int) : ∃ b : Nat, b ≤ 1 ∧ bits .and .u64 x 1 = (b : Int) := by
  refine ⟨((BitVec.ofInt 64 x) &&& (BitVec.ofInt 64 1)).toNat, ?_, ?_⟩
  · rw [BitVec.toNat_and]
    have e : (BitVec.ofInt 64 1).toNat = 1 := by decide
    rw [e]
    exact Nat.and_le_right
  · have hle : ((BitVec.ofInt 64 x) &&& (BitVec.ofInt 64 1)).toNat ≤ 1 := by
      rw [BitVec.toNat_and]
      have e : (BitVec.ofInt 64 1).toNat = 1 := by decide
      rw [e]
      exact Nat.and_le_right
    show IntKind.u64.wrap (((BitVec.ofInt 64 x) &&& (BitVec.ofInt 64 1)).toNat : Int) = _
    obtain ⟨m, hm, e⟩ : ∃ m : Nat, m ≤ 1 ∧ ((BitVec.ofInt 64 x) &&& (BitVec.ofInt 64 1)).toNat = m := ⟨_, hle, rfl⟩
    rw [e]
    simp [IntKind.wrap, IntKind.bits, IntKind.signed]
    omega

set_option maxRecDepth 100000 in
set_option maxHeartbeats 4000000 in
theorem etree_any (Eb base L Pb o n cap : Nat) (v : Int) (ov : Value) (U : World) (h : ES U Eb base ov L 16777216) (hL : L + 100 < 1099511627776) (hn : n ≤ 7) (hpa : PA U Pb o (2 ^ n)) (hne : Pb ≠ Eb) (hno : ov.ownBlock ≠ some Pb) (hv : 0 ≤ v) :
    Calls Ybaz.prog 44 #[.pointer (some ⟨Eb, 0, none⟩), sl Pb o (2 ^ n) cap, .int .u64 v] U fun e w' => e = .returned (.tuple #[]) ∧ BtP U Eb base ov (L + 3 * n) Pb w' := by
  have hN : 2 ^ n ≤ 128 := by
    have : 2 ^ n ≤ 2 ^ 7 := Nat.pow_le_pow_right (by omega) hn
    omega
  have hlen : Lib.bitLen (2 ^ n) = n + 1 := by
    match n, hn with
    | 0, _ | 1, _ | 2, _ | 3, _ | 4, _ | 5, _ | 6, _ | 7, _ => rfl
    | n + 8, hn => omega
  obtain ⟨N, hNe⟩ : ∃ N, 2 ^ n = N := ⟨_, rfl⟩
  rw [hNe] at hpa hN hlen ⊢
  have LE := hid (fun w => Ybaz.bits_Len (N : Int) w (by omega) (by omega))
  rw [Int.toNat_natCast, hlen] at LE
  have H := hid h
  have HL := hid hL
  have HPA := hid hpa
  have HNE := hid hNe
  clear h hL hpa hNe hlen
  go_enter Ybaz.func44, Ybaz.ntmps44
  go_upto_region 2 with (go_at_call 77; refine (LE.out _).mono ?_; rintro e W1 ⟨rfl, e1⟩; rw [e1]; clear e1 W1)
  clear LE
  go_wp2
  go_loopw [7, 8] (fun nd i X => ∃ k m : Nat, k ≤ n ∧ i = .int .i64 ((n : Int) - 1 - (k : Int)) ∧ nd = vi m ∧ 2 ^ k ≤ m ∧ m < 2 ^ (k + 1) ∧ BtP U Eb base ov (L + 3 * k) Pb X) (fun _ i _ => (intOf i + 1).toNat)
  case atStart => exact ⟨0, 1, by omega, by simp, rfl, by simp, by simp, ov, by simpa using H.out, Kept.refl _ _, Mv.refl _ _, PU.refl _ _⟩
  case round =>
    obtain ⟨k, m, hk, rfl, rfl, hm1, hm2, bt⟩ := hrel
    clear H
    by_cases hlt : k < n
    · have hli : (0 : Int) ≤ (n : Int) - 1 - (k : Int) := by omega
      have hpw : 2 ^ (k + 1) ≤ N := by
        rw [← HNE.out]
        exact Nat.pow_le_pow_right (by omega) (by omega)
      have hmN : m < N := by omega
      have hmi : (m : Int) < (N : Int) := by omega
      obtain ⟨ov1, es1, k1, m1, p1⟩ := bt
      obtain ⟨p, c1, hp, f1⟩ := (HPA.out.pu p1) m hmN
      have BA := hid (fun bt => bit_any Eb base (L + 3 * k) Pb (o + m) bt p ov1 wr es1 (by have := HL.out; omega) hp c1 f1 hne (fun e => by
        rcases m1 Pb e with e | e
        · exact hno e
        · have h0 := World.block_lt_of_cell? wr _ c1
          have h1 : Pb < U.heap.size := by
            obtain ⟨q, cq, _⟩ := HPA.out m hmN
            exact World.block_lt_of_cell? U _ cq
          omega))
      have K1 := hid k1
      have M1 := hid m1
      have P1 := hid p1
      have HM := hid (show 2 ^ k ≤ m ∧ m < 2 ^ (k + 1) from ⟨hm1, hm2⟩)
      have HMN := hid hmN
      clear k1 m1 p1 es1 c1 f1 hp hpw hm1 hm2 hmN
      go_upto_region 6 with fail
      obtain ⟨bb, hbb, ebb⟩ := and1 (v / 2 ^ (n - 1 - k))
      rw [ebb]
      clear ebb
      go_upto_region 7 with (go_at_call 51; refine (BA.out _).mono ?_; rintro e W1 ⟨rfl, bt1⟩; have B1 := hid (BtP.thn K1.out M1.out P1.out bt1); clear bt1 BA K1 M1 P1)
      have hbi : (bb : Int) ≤ 1 := by omega
      go_wp2
      have eor : bits .or .i64 ((m : Int) * 2) (bb : Int) = ((2 * m + bb : Nat) : Int) := by
        have hm := HM.out
        have := bits_join .i64 62 (by decide) (fun x h0 h1 => by rw [IntKind.wrap_i64]; omega) 1 ((m : Int) * 2) (bb : Int) (by omega) (by omega) (by omega) (by omega) (by omega) (by omega)
        rw [this]
        omega
      rw [eor]
      refine ⟨⟨k + 1, 2 * m + bb, by omega, by congr 1; omega, rfl, ?_, ?_, ?_⟩, ?_⟩
      · have := HM.out.1; rw [Nat.pow_succ]; omega
      · have := HM.out.2; rw [Nat.pow_succ]; omega
      · have e3 : L + 3 * (k + 1) = L + 3 * k + 3 := by omega
        rw [e3]; exact B1.out
      · simp [intOf]; omega
    · obtain rfl : k = n := by omega
      have hli : ¬ ((0 : Int) ≤ (k : Int) - 1 - (k : Int)) := by omega
      have BT := hid bt
      clear bt
      go_wp2
      go_end0
      exact ⟨rfl, BT.out⟩
end Go.Proofs.YbulkdsjeGreatDoor
