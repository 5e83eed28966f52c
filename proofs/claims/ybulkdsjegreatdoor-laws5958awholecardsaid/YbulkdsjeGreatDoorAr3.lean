import Derived.Test.YbulkdsjeGreatDoorAr2
import Derived.Test.YbulkdsjeGreatDoorPuS
import Derived.BigQuiet
import Derived.Deep.QuietTactic
set_option linter.unusedVariables false
set_option linter.unusedSimpArgs false
namespace Go.Proofs.YbulkdsjeGreatDoor
open Go.RowKit

def natAt (b j : Nat) (X : World) : Nat := match X.cell? ⟨b, j, none⟩ with | some (.int _ n) => n.toNat | _ => 0
theorem natAt_eq {b j n : Nat} {X : World} (h : X.cell? ⟨b, j, none⟩ = some (vi n)) : natAt b j X = n := by unfold natAt; rw [h]; simp
/-- What an archive's function turns. -/
def AF (S : Nat → Prop) (b o : Nat) : Nat → Nat → Prop := fun c j => S c ∨ (c = b ∧ o + 4 ≤ j ∧ j < o + 8)
/-- An archive that has moved on. -/
def AM (U : World) (S : Nat → Prop) (b o : Nat) (S' : Nat → Prop) (w' : World) : Prop := FP U w' (AF S b o) ∧ ∀ c, S' c → S c ∨ U.heap.size ≤ c
theorem AM.refl (U : World) (S : Nat → Prop) (b o : Nat) : AM U S b o S U := ⟨FP.refl _ _, fun _ h => .inl h⟩
theorem AM.trans {U V W : World} {S S1 S2 : Nat → Prop} {b o : Nat} (h : AM U S b o S1 V) (k : AM V S1 b o S2 W) : AM U S b o S2 W := by
  refine ⟨h.1.thn k.1 (fun c j hc hx => ?_), fun c hc => ?_⟩
  · rcases hx with hx | hx
    · rcases h.2 c hx with h1 | h1
      · exact .inl h1
      · omega
    · exact .inr hx
  · rcases k.2 c hc with h1 | h1
    · exact h.2 c h1
    · exact .inr (Nat.le_trans h.1.size h1)
theorem AM.calm {U V : World} {S : Nat → Prop} {b o : Nat} (k : Kept (fun _ => False) U V) : AM U S b o S V := ⟨(FP.calm k).mono (fun _ _ _ h => h.elim), fun _ h => .inl h⟩
/-- Behind 'slot': no slot, or one that lies at i. -/
def SlP (U : World) (S : Nat → Prop) (b o st nn fu sc : Nat) (e : Ending) (w' : World) : Prop :=
  ∃ S' fi d n f, AX w' S' b o st nn fu sc fi d n f ∧ AM U S b o S' w' ∧ (e = .returned (.pointer none) ∨ ∃ sv m Cb co cc I cp i, CX w' S' b (o + 5) d n f sv m Cb co cc I cp ∧ i < n ∧ e = .returned (.pointer (some ⟨I ((d + i) / 256), (d + i) % 256 * 2, none⟩)))
theorem AX.setFirst {U : World} {S : Nat → Prop} {b o st nn fu sc fi d n : Nat} {f : Nat → Int} (h : AX U S b o st nn fu sc fi d n f) {k : Nat} (hk : k + n ≤ 8388608) : AX (U.setCell ⟨b, o + 4, none⟩ (vi k)) S b o st nn fu sc k d n f ∧ FP U (U.setCell ⟨b, o + 4, none⟩ (vi k)) (AF S b o) := by
  have fp := FP.set (w := U) b (o + 4) (vi k)
  have hbl := h.ck.bl.1
  have same : (U.setCell ⟨b, o + 4, none⟩ (vi k)).cell? ⟨b, o + 4, none⟩ = some (vi k) := World.cell?_setCell_same' _ _ _ (by rw [h.s4]; rfl)
  refine ⟨⟨?_, ?_, ?_, ?_, same, by rw [fp.frz b _ hbl]; exact h.fz, h.ck.fp fp (fun j hj e => by omega) (fun x j hx e => h.ck.bl.2.2.2 (by rw [← e.1]; exact hx)), h.hst, h.hnn, h.hfu, hk⟩, fp.mono (fun c j _ e => .inr ⟨e.1, by omega, by omega⟩)⟩
  · rw [fp.cell b _ hbl (fun e => by omega)]; exact h.s0
  · rw [fp.cell b _ hbl (fun e => by omega)]; exact h.s1
  · rw [fp.cell b _ hbl (fun e => by omega)]; exact h.s2
  · rw [fp.cell b _ hbl (fun e => by omega)]; exact h.s3
/-- An archive whose row of slots has turned. -/
theorem AX.slots {U V : World} {S S' : Nat → Prop} {b o st nn fu sc fi d n d' n' : Nat} {f f' : Nat → Int} (h : AX U S b o st nn fu sc fi d n f) (ck : CK V S' b (o + 5) d' n' f') (fp : FP U V (fun c j => S c ∨ (c = b ∧ o + 5 ≤ j ∧ j < o + 5 + 3))) (hb : fi + n' ≤ 8388608) : AX V S' b o st nn fu sc fi d' n' f' := by
  have hbl := h.ck.bl.1
  have sb := h.ck.bl.2.2.2
  refine ⟨?_, ?_, ?_, ?_, ?_, by rw [fp.frz b _ hbl]; exact h.fz, ck, h.hst, h.hnn, h.hfu, hb⟩
  · rw [fp.cell b _ hbl (fun e => e.elim sb (fun e => by omega))]; exact h.s0
  · rw [fp.cell b _ hbl (fun e => e.elim sb (fun e => by omega))]; exact h.s1
  · rw [fp.cell b _ hbl (fun e => e.elim sb (fun e => by omega))]; exact h.s2
  · rw [fp.cell b _ hbl (fun e => e.elim sb (fun e => by omega))]; exact h.s3
  · rw [fp.cell b _ hbl (fun e => e.elim sb (fun e => by omega))]; exact h.s4

set_option maxRecDepth 100000 in
set_option maxHeartbeats 4000000 in
theorem slot_any (k : Nat) (S : Nat → Prop) (b o st nn fu sc fi d n : Nat) (f : Nat → Int) (U : World) (h : AX U S b o st nn fu sc fi d n f) (hk : k < 8388608) : Calls Ybaz.prog 96 #[.pointer (some ⟨b, o, none⟩), vi k] U fun e w' => SlP U S b o st nn fu sc e w' := by
  have c2 := h.ck.c2
  have LN := hid (lenS_any b (o + 5) n U c2)
  have HA := hid h
  have HK := hid hk
  have fz := h.fz
  have s4 := h.s4
  clear h hk c2
  go_enter Ybaz.func96, Ybaz.ntmps96
  go_upto_region 1 with fail
  go_upto_if 9 with (go_at_call 58; refine LN.out.mono ?_; rintro e W1 ⟨rfl, rfl⟩)
  go_cut [] from 10 to 13 (fun w' => ∃ fi', AX w' S b o st nn fu sc fi' d n f ∧ (n = 0 → fi' = k) ∧ FP W1 w' (AF S b o))
  case first =>
    by_cases hn : n = 0
    · subst hn
      go_wp2
      go_meet
      case rel =>
        obtain ⟨a1, a2⟩ := HA.out.setFirst (k := k) (by have := HK.out; omega)
        exact ⟨k, a1, fun _ => rfl, a2⟩
    · have hni : ((n : Int) == 0) = false := by simp [hn]
      have HN := hid hn
      clear hn
      go_wp2
      go_meet
      case rel => exact ⟨fi, HA.out, fun h => absurd h HN.out, FP.refl _ _⟩
  case rest =>
    obtain ⟨fi', ax, hz, fp⟩ := hcut
    have F0 := hid (show AM W1 S b o S wc from ⟨fp, fun _ h => .inl h⟩)
    have A0 := hid ax
    have HZ := hid hz
    clear hz ax fp HA LN fz s4
    have s4 := A0.out.s4
    by_cases hlt : (k : Int) < (fi' : Int)
    · go_wp2
      go_ret
      exact ⟨S, fi', d, n, f, A0.out, F0.out, .inl rfl⟩
    · go_upto_region 5 with fail
      go_loopw [] (fun X => ∃ (S' : Nat → Prop) (n' : Nat) (f' : Nat → Int), AX X S' b o st nn fu sc fi' d n' f' ∧ AM W1 S b o S' X) (fun X => k + 1 - (fi' + natAt b (o + 5 + 2) X))
      case atStart => exact ⟨S, n, f, A0.out, F0.out⟩
      case round =>
        obtain ⟨S', n', f', ax, am⟩ := hrel
        have LA := hid (last_any fi' n' b o wr ax.s4 ax.ck.c2 ax.hfi)
        have hb := ax.hfi
        have b1 : (fi' : Int) ≤ 8388608 := by omega
        have b2 : (n' : Int) ≤ 8388608 := by omega
        have HAX := hid ax
        have HAM := hid am
        clear ax am hb
        by_cases more : (fi' : Int) + (n' : Int) - 1 < (k : Int)
        · go_upto_region 6 with (go_at_call 60; refine LA.out.mono ?_; rintro e W2 ⟨rfl, hd⟩; have KD := hid hd.kept; clear hd)
          have MORE := hid more
          have PU := hid (pushS_any S' b (o + 5) d n' f' 0 0 W2 (HAX.out.kept KD.out).ck (by have := (HAX.out.ck.bl).2.1; have := HAX.out.hfi; omega))
          clear more
          go_wp2_with (first | (go_at_call 111; refine PU.out.mono ?_; rintro e W3 ⟨rfl, pp⟩; have PP := hid pp; clear pp PU) | ((with_reducible (show wpList _ _ _ (⟨_, .build 143 _, _, _, _, _⟩ :: _) _ _)); refine wpList_as (.agg #[ii 0, .float .f64 0]) (by kernel_rfl) (run_opbuild (fun W => by kernel_rfl)) ?_; simp only [Act.put, List.setIfInBounds_toArray, List.set_cons_succ, List.set_cons_zero]))
          obtain ⟨S3, ck3, fp3, mv3⟩ := PP.out
          have hb1 : fi' + (n' + 1) ≤ 8388608 := by have := MORE.out; have := HK.out; omega
          have ax3 := (HAX.out.kept KD.out).slots ck3 fp3 hb1
          have am3 : AM W1 S b o S3 W3 := (HAM.out.trans (AM.calm KD.out)).trans ⟨fp3.mono (fun c j _ h => h.elim .inl (fun h => .inr (by omega))), mv3⟩
          have ME := hid (show k + 1 - (fi' + natAt b (o + 5 + 2) W3) < k + 1 - (fi' + natAt b (o + 5 + 2) wr) from by
            rw [natAt_eq ck3.c2, natAt_eq HAX.out.ck.c2]
            have := MORE.out
            omega)
          go_roundw
          case rel => exact ⟨S3, n' + 1, _, ax3, am3⟩
          case measure => exact ME.out
        · go_upto_region 7 with (go_at_call 60; refine LA.out.mono ?_; rintro e W2 ⟨rfl, hd⟩; have KD := hid hd.kept; clear hd)
          obtain ⟨i, hi⟩ : ∃ i : Nat, (k : Int) - (fi' : Int) = (i : Int) := ⟨k - fi', by omega⟩
          have hin : i < n' := by omega
          obtain ⟨sv, m, Cb, co, cc, I, cp, hx⟩ := (HAX.out.kept KD.out).ck
          have PT : Hid (∀ q, Calls Ybaz.prog 112 #[.pointer (some ⟨b, o + 5, none⟩), vi i] (W2.drewN q) fun e w' => e = .returned (.pointer (some ⟨I ((d + i) / 256), (d + i) % 256 * 2, none⟩)) ∧ w' = W2.drewN q) := hid fun q => ptrS_any S' b (o + 5) d n' i m Cb co cc f' sv I cp (W2.drewN q) (hx.kept (Kept.drawn (Kept.refl (fun _ => False) W2) q) (fun h => h) (fun _ _ h => h)) hin
          have s4' := (HAX.out.kept KD.out).s4
          have HKI := hid (show (k : Int) ≤ 8388608 by have := HK.out; omega)
          have HX := hid hx
          have HIN := hid hin
          clear hx hin more
          have hk9 := HKI.out
          obtain ⟨pb, hpb⟩ : ∃ pb, I ((d + i) / 256) = pb := ⟨_, rfl⟩
          obtain ⟨po, hpo⟩ : ∃ po, (d + i) % 256 * 2 = po := ⟨_, rfl⟩
          rw [hpb, hpo] at PT
          have HP := hid (show I ((d + i) / 256) = pb ∧ (d + i) % 256 * 2 = po from ⟨hpb, hpo⟩)
          clear hpb hpo
          go_quiet ((go_at_call 112; refine Calls.quiet_of_same (PT.out _)))
          go_wp2
          go_ret
          exact ⟨S', fi', d, n', f', (HAX.out.kept KD.out).kept (Kept.drawn (Kept.refl _ _) _), (HAM.out.trans (AM.calm KD.out)).trans (AM.calm (Kept.drawn (Kept.refl _ _) _)), .inr ⟨sv, m, Cb, co, cc, I, cp, i, HX.out.kept (Kept.drawn (Kept.refl (fun _ => False) _) _) (fun h => h) (fun _ _ h => h), HIN.out, by rw [HP.out.1, HP.out.2]; rfl⟩⟩
end Go.Proofs.YbulkdsjeGreatDoor
