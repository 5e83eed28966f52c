import Derived.Test.YbulkdsjeGreatDoorSe1
import Derived.BigQuiet
import Derived.Deep.QuietTactic
set_option linter.unusedVariables false
set_option linter.unusedSimpArgs false
namespace Go.Proofs.YbulkdsjeGreatDoor
open Go.RowKit

/-- Some float and some truth. -/
def RFB (e : Ending) : Prop := ∃ (x : Nat) (t : Bool), e = .returned (.tuple #[.float .f64 x, .bool t])
def IF2 (v1 v2 : Value) : Prop := ∃ (x : Int) (y : Nat), v1 = ii x ∧ v2 = .float .f64 y
def BV (v : Value) : Prop := ∃ t, v = .bool t

set_option maxRecDepth 100000 in
set_option maxHeartbeats 4000000 in
theorem finestValue_any (k : Nat) (SA : Nat → Nat → Prop) (sb ab na : Nat) (st nn fu : Nat → Nat) (hb pv nw : Nat) (sd : Bool) (U : World) (h : SX U SA sb ab na st nn fu hb pv nw sd) (hk : k ≤ 8388608) : Calls Ybaz.prog 99 #[.pointer (some ⟨sb, 0, none⟩), vi k] U fun e w' => RFB e ∧ Kept (fun _ => False) U w' := by
  have F1 := hid (finest_any sb ab na U (by have := h.hna; omega) h.c4)
  obtain ⟨sc, fi, d, n, f, ax⟩ := h.ar 0 (by have := h.hna; omega)
  have AT := hid (atA_any k (SA 0) ab 0 (st 0) (nn 0) (fu 0) sc fi d n f U ax (by omega))
  have c9 := h.c9
  have s0 := ax.s0
  obtain ⟨val, c10⟩ := h.c10
  have hst := ax.hst
  have hpn := h.hpn
  have hfu := ax.hfu
  obtain ⟨s, hs⟩ : ∃ s, st 0 = s := ⟨_, rfl⟩
  rw [hs] at s0 hst
  obtain ⟨g, hg⟩ : ∃ g, fu 0 = g := ⟨_, rfl⟩
  have s2 := ax.s2
  rw [hg] at s2 hfu
  obtain ⟨p, hp⟩ : ∃ p, k * s = p := ⟨_, rfl⟩
  have ep : (k : Int) * (s : Int) = (p : Int) := by rw [← hp]; simp
  have hp2 : p ≤ 503316480000 := by
    rw [← hp]
    exact Nat.le_trans (Nat.mul_le_mul hk hst.2) (by omega)
  have b1 : (p : Int) ≤ 503316480000 := by omega
  have b2 : (nw : Int) ≤ 8000000000 := by omega
  have b3 : (pv : Int) ≤ (nw : Int) := by omega
  have b4 : (s : Int) ≤ 60000 := by omega
  have b5 : (g : Int) ≤ 60000 := by omega
  have C := hid (show (U.cell? ⟨sb, 1, none⟩ = some (vi hb) ∧ U.cell? ⟨sb, 8, none⟩ = some (vi pv) ∧ U.cell? ⟨sb, 9, none⟩ = some (vi nw) ∧ U.cell? ⟨sb, 10, none⟩ = some (.float .f64 val)) ∧ U.cell? ⟨ab, 0, none⟩ = some (vi s) ∧ U.cell? ⟨ab, 0 + 2, none⟩ = some (vi g) ∧ U.cell? ⟨ab, 0 + 3, none⟩ = some (.float .f64 sc) from ⟨⟨h.r1, h.c8, h.c9, c10⟩, s0, s2, ax.s3⟩)
  have HB := hid (show hb < 1125899906842624 ∧ (pv ≤ nw ∧ nw ≤ 8000000000) from ⟨h.hhb, h.hpn⟩)
  clear h ax hs hg hp hk hp2 hst hpn hfu s2 c10
  go_enter Ybaz.func99, Ybaz.ntmps99
  by_cases hend : (nw : Int) < (p : Int)
  · go_wp2_with (go_at_call 71; refine F1.out.mono ?_; rintro e W1 ⟨rfl, rfl⟩)
    go_ret2
    exact ⟨⟨_, _, rfl⟩, Kept.refl _ _⟩
  · go_upto_region 6 with (first | (go_at_call 71; refine F1.out.mono ?_; rintro e W1 ⟨rfl, rfl⟩) | (go_at_call 113; refine AT.out.mono ?_; rintro e W2 ⟨⟨x, y, rfl⟩, k2⟩; have K2 := hid k2; clear k2 AT))
    clear c9 s0 hend
    have KN := hid (known_any sb hb pv nw W2 HB.out.1 HB.out.2 (K2.out.cell (p := ⟨sb, 1, none⟩) (fun h => h) C.out.1.1) (K2.out.cell (p := ⟨sb, 8, none⟩) (fun h => h) C.out.1.2.1) (K2.out.cell (p := ⟨sb, 9, none⟩) (fun h => h) C.out.1.2.2.1))
    go_cut [32] from 31 to 32 (fun v w' => BV v ∧ Dr W2 w')
    case first =>
      go_wp2_with (go_at_call 74; refine KN.out.mono ?_; rintro e W3 ⟨⟨t, rfl⟩, hd⟩; have HD := hid hd; clear hd KN)
      go_meet
      case rel => exact ⟨⟨_, rfl⟩, HD.out⟩
    case rest =>
      obtain ⟨⟨t, rfl⟩, hd⟩ := hcut
      have K3 := hid (K2.out.trans hd.kept)
      clear hd KN
      go_upto_if 32 with fail
      go_cut [8, 9, 10] from 33 to 60 (fun v1 v2 v3 w' => IF2 v1 v2 ∧ Kept (fun _ => False) W1 w')
      case first =>
        cases t with
        | false =>
          go_wp2
          go_meet
          case rel => exact ⟨⟨_, _, rfl, rfl⟩, K3.out⟩
        | true =>
          have y8 := K3.out.cell (p := ⟨sb, 8, none⟩) (fun h => h) C.out.1.2.1
          have y9 := K3.out.cell (p := ⟨sb, 9, none⟩) (fun h => h) C.out.1.2.2.1
          have y10 := K3.out.cell (p := ⟨sb, 10, none⟩) (fun h => h) C.out.1.2.2.2
          have y0 := K3.out.cell (p := ⟨ab, 0, none⟩) (fun h => h) C.out.2.1
          have OV : Hid (∀ q, Calls Ybaz.prog 97 #[vi pv, vi nw, ii ((p : Int) - (s : Int)), vi p] (wc.drewN q) fun e w' => e = .returned (ii (max 0 (min (nw : Int) (p : Int) - max (pv : Int) ((p : Int) - (s : Int))))) ∧ w' = wc.drewN q) := hid fun q => overlap_any pv nw ((p : Int) - (s : Int)) p (wc.drewN q) (by omega) (by omega) (by omega) (by omega)
          obtain ⟨ov, hov⟩ : ∃ ov, max 0 (min (nw : Int) (p : Int) - max (pv : Int) ((p : Int) - (s : Int))) = ov := ⟨_, rfl⟩
          rw [hov] at OV
          clear hov
          go_upto_region 7 with fail
          go_quiet ((go_at_call 97; refine Calls.quiet_of_same (OV.out _)))
          clear OV
          have TM := hid (term_any val sc ab 0 ov (wc.drewN nq) (K3.out.cell (p := ⟨ab, 0 + 3, none⟩) (fun h => h) C.out.2.2.2))
          go_wp2_with (first | (go_at_call 98; refine TM.out.mono ?_; rintro e W4 ⟨⟨fr, rfl⟩, hd⟩; have K4 := hid hd.kept; clear hd TM) | ((with_reducible (show wpList _ _ _ (⟨_, .binOp .add 24 _ _ _, _, _, _, _⟩ :: _) _ _)); refine wpList_fl rfl .add rfl 24 _ _ _ rfl _ _ rfl rfl ?_; intro fr fn; simp only [Act.put, List.setIfInBounds_toArray, List.set_cons_succ, List.set_cons_zero]))
          go_meet
          case rel => exact ⟨⟨_, _, rfl, rfl⟩, Kept.drawn (Kept.trans (Kept.drawn K3.out _) K4.out) _⟩
      case rest =>
        obtain ⟨⟨x5, z5, rfl, rfl⟩, k5⟩ := hcut
        have y2 := k5.cell (p := ⟨ab, 0 + 2, none⟩) (fun h => h) C.out.2.2.1
        have y3 := k5.cell (p := ⟨ab, 0 + 3, none⟩) (fun h => h) C.out.2.2.2
        have K5 := hid k5
        have ME := hid (mean_any z5 sc x5 wc)
        obtain ⟨t2, ht2⟩ : ∃ t2, decide (wrap64 (2 * x5) < (g : Int)) = t2 := ⟨_, rfl⟩
        clear k5 K3 K2 C
        cases t2 with
        | true =>
          have ht3 := of_decide_eq_true ht2
          go_wp2
          go_ret2
          exact ⟨⟨_, _, rfl⟩, K5.out⟩
        | false =>
          have ht3 := of_decide_eq_false ht2
          go_wp2_with (go_at_call 114; refine ME.out.mono ?_; rintro e W6 ⟨⟨fr, rfl⟩, hd⟩; have K6 := hid hd.kept; clear hd ME)
          go_ret2
          exact ⟨⟨_, _, rfl⟩, K5.out.trans K6.out⟩
end Go.Proofs.YbulkdsjeGreatDoor
