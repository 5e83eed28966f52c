import Derived.Test.YbulkdsjeGreatDoorShift
set_option linter.unusedVariables false
set_option linter.unusedSimpArgs false
namespace Go.Proofs.YbulkdsjeGreatDoor
open Go.RowKit

/-- The encoder between two steps: its range is at least r0 wide; L bounds what it holds. -/
structure ES (U : World) (Eb base : Nat) (ov : Value) (L r0 : Nat) : Prop where
  ex : ∃ xs low rg cache pend st, EX U Eb base ov xs low rg cache pend st ∧ xs.length + pend ≤ L ∧ low < 18446744073709551616 ∧ cache < 256 ∧ r0 ≤ rg ∧ rg < 4294967296
/-- What a step leaves. -/
def EP (U : World) (Eb base : Nat) (ov : Value) (L : Nat) (E : Nat → Prop) (w' : World) : Prop := ∃ ov', ES w' Eb base ov' L 16777216 ∧ Kept (fun b => EE Eb ov b ∨ E b) U w' ∧ Mv U ov ov'

/-- How far the range is from being wide enough. -/
def gapOf (Eb : Nat) (X : World) : Nat := match X.cell? ⟨Eb, 2, none⟩ with | some (.int _ n) => 16777216 - n.toNat | _ => 0
theorem gapOf_eq {Eb : Nat} {X : World} {n : Nat} (h : X.cell? ⟨Eb, 2, none⟩ = some (.int .u32 n)) : gapOf Eb X = 16777216 - n := by
  unfold gapOf; rw [h]; simp
def NrP (U : World) (Eb base : Nat) (ov : Value) (L : Nat) (w' : World) : Prop := ∃ ov', ES w' Eb base ov' L 16777216 ∧ Kept (EE Eb ov) U w' ∧ Mv U ov ov'

set_option maxRecDepth 100000 in
set_option maxHeartbeats 4000000 in
theorem normalize_any (Eb base L : Nat) (ov : Value) (U : World) (h : ES U Eb base ov L 1) (hL : L + 4 < 1099511627776) :
    Calls Ybaz.prog 49 #[.pointer (some ⟨Eb, 0, none⟩)] U fun e w' => e = .returned (.tuple #[]) ∧ NrP U Eb base ov (L + 3) w' := by
  have H := hid h
  have HL := hid hL
  clear h hL
  go_enter Ybaz.func49, Ybaz.ntmps49
  go_wp2
  go_loopw [] (fun X => ∃ (j : Nat) (ov1 : Value), j ≤ 3 ∧ ES X Eb base ov1 (L + j) (256 ^ j) ∧ Kept (EE Eb ov) U X ∧ Mv U ov ov1) (fun X => gapOf Eb X)
  case atStart => exact ⟨0, ov, by omega, by simpa using H.out, Kept.refl _ _, Mv.refl _ _⟩
  case round =>
    obtain ⟨j, ov1, hj, es, kx, mx⟩ := hrel
    clear H
    obtain ⟨xs, low, rg, cache, pend, st, ex, h1, h2, h3, h4, h5⟩ := es.ex
    have c2 := ex.cell 2 _ rfl
    have f2 := ex.free 2 (by omega)
    have gE := gapOf_eq c2
    by_cases hlt : rg < 16777216
    · have hli : (rg : Int) < 16777216 := by omega
      have hj3 : j < 3 := by
        rcases Nat.lt_or_ge j 3 with h | h
        · exact h
        · obtain rfl : j = 3 := by omega
          simp at h4
          omega
      have HX := hid ex
      have H1 := hid h1
      have H2 := hid h2
      have H3 := hid h3
      have H4 := hid h4
      have HK := hid kx
      have HM := hid mx
      have GE := hid gE
      clear ex h1 h2 h3 h4 kx mx gE es h5
      go_upto_region 2 with fail
      have e1 : (rg : Int) * 256 = ((rg * 256 : Nat) : Int) := by omega
      rw [e1]
      refine wp_as (fun X => EX X Eb base ov1 xs low (rg * 256) cache pend st ∧ Kept (EE Eb ov1) wr X) ⟨HX.out.rng (rg * 256), (Kept.refl (EE Eb ov1) wr).setCell (p := ⟨Eb, 2, none⟩) (.inl (.inl rfl)) _⟩ ?_
      rintro X ⟨ex, kx⟩
      have SH := hid (shift_any Eb base low (rg * 256) cache pend ov1 xs st X ex (by have := H1.out; have := HL.out; omega) H2.out H3.out)
      have KX := hid kx
      have HLT := hid hlt
      clear ex kx c2 f2 HX hlt hli e1
      go_wp2_with (go_at_call 62; refine SH.out.mono ?_; rintro e W2 ⟨rfl, sp⟩; have SP := hid sp; clear sp SH)
      have ns : ∃ ov2, ES W2 Eb base ov2 (L + (j + 1)) (256 ^ (j + 1)) ∧ Kept (EE Eb ov) U W2 ∧ Mv U ov ov2 ∧ W2.cell? ⟨Eb, 2, none⟩ = some (.int .u32 ((rg * 256 : Nat) : Int)) := by
        obtain ⟨ov2, xs2, low2, cache2, pend2, st2, ex2, k2, m2, l2, lo2, ca2⟩ := SP.out
        refine ⟨ov2, ⟨xs2, low2, rg * 256, cache2, pend2, st2, ex2, by have := H1.out; omega, lo2, ca2, ?_, by have := HLT.out; omega⟩, EE.trans (EE.trans HK.out HM.out KX.out) HM.out k2, (HM.out.trans m2 (Nat.le_trans HK.out.size KX.out.size)), ex2.cell 2 _ rfl⟩
        rw [Nat.pow_succ]
        exact Nat.mul_le_mul_right 256 H4.out
      obtain ⟨ov2, es2, k2, m2, c2'⟩ := ns
      go_roundw
      case rel => exact ⟨j + 1, ov2, by omega, es2, k2, m2⟩
      case measure =>
        rw [GE.out, gapOf_eq c2']
        have := H4.out
        have : 0 < 256 ^ j := Nat.pow_pos (by omega)
        have := HLT.out
        omega
    · have hli : ¬ ((rg : Int) < 16777216) := by omega
      have ES1 : Hid (NrP U Eb base ov (L + 3) wr) := hid ⟨ov1, ⟨xs, low, rg, cache, pend, st, ex, by omega, h2, h3, by omega, h5⟩, kx, mx⟩
      clear ex h1 h2 h3 h4 kx mx gE es h5
      go_wp2
      go_end0
      exact ⟨rfl, ES1.out⟩
end Go.Proofs.YbulkdsjeGreatDoor
