import Derived.Test.YbulkdsjeGreatDoorAr6
import Derived.Test.YbulkdsjeGreatDoorFlo2
import Derived.BigQuiet
import Derived.Deep.QuietTactic
set_option linter.unusedVariables false
set_option linter.unusedSimpArgs false
namespace Go.Proofs.YbulkdsjeGreatDoor
open Go.RowKit

theorem AR.bl {W : World} {S : Nat → Prop} {b o st nn fu : Nat} (h : AR W S b o st nn fu) : b < W.heap.size ∧ (∀ x, S x → x < W.heap.size) ∧ ¬ S b ∧ 1000 ≤ st ∧ st ≤ 60000 ∧ nn ≤ 100 ∧ fu ≤ 60000 := by
  obtain ⟨sc, fi, d, n, f, hx⟩ := h
  exact ⟨hx.ck.bl.1, hx.ck.bl.2.2.1, hx.ck.bl.2.2.2, hx.hst.1, hx.hst.2, hx.hnn, hx.hfu⟩
/-- The steps of a series in memory: its archives, prev, newest, value, started. -/
structure SX (U : World) (SA : Nat → Nat → Prop) (sb ab na : Nat) (st nn fu : Nat → Nat) (hb pv nw : Nat) (sd : Bool) : Prop where
  r1 : U.cell? ⟨sb, 1, none⟩ = some (vi hb)
  c4 : U.cell? ⟨sb, 4, none⟩ = some (sl ab 0 na na)
  c8 : U.cell? ⟨sb, 8, none⟩ = some (vi pv)
  c9 : U.cell? ⟨sb, 9, none⟩ = some (vi nw)
  c10 : ∃ x, U.cell? ⟨sb, 10, none⟩ = some (.float .f64 x)
  c11 : U.cell? ⟨sb, 11, none⟩ = some (.bool sd)
  fz : ∀ j, 8 ≤ j → j < 12 → U.frozen? ⟨sb, j, none⟩ = false
  ar : ∀ i, i < na → AR U (SA i) ab (i * 8) (st i) (nn i) (fu i)
  dj : ∀ i j, i < na → j < na → i ≠ j → ∀ c, SA i c → ¬ SA j c
  ds : ∀ i c, i < na → SA i c → c ≠ sb
  sab : sb ≠ ab
  hna : 1 ≤ na ∧ na ≤ 2
  hhb : hb < 1125899906842624
  hpn : pv ≤ nw ∧ nw ≤ 8000000000
/-- What has turned of a series' archives. -/
def SM (U : World) (SA : Nat → Nat → Prop) (ab na : Nat) (SA' : Nat → Nat → Prop) (w' : World) : Prop := FP U w' (fun c j => (∃ i, i < na ∧ SA i c) ∨ c = ab) ∧ ∀ i c, i < na → SA' i c → SA i c ∨ U.heap.size ≤ c
theorem SM.refl (U : World) (SA : Nat → Nat → Prop) (ab na : Nat) : SM U SA ab na SA U := ⟨FP.refl _ _, fun _ _ _ h => .inl h⟩
theorem SM.calm {U V : World} {SA : Nat → Nat → Prop} {ab na : Nat} (k : Kept (fun _ => False) U V) : SM U SA ab na SA V := ⟨(FP.calm k).mono (fun _ _ _ h => h.elim), fun _ _ _ h => .inl h⟩
theorem SM.trans {U V W : World} {SA S1 S2 : Nat → Nat → Prop} {ab na : Nat} (h : SM U SA ab na S1 V) (k : SM V S1 ab na S2 W) : SM U SA ab na S2 W := by
  refine ⟨h.1.thn k.1 (fun c j hc hx => ?_), fun i c hi hc => ?_⟩
  · rcases hx with ⟨i, hi, hx⟩ | hx
    · rcases h.2 i c hi hx with h1 | h1
      · exact .inl ⟨i, hi, h1⟩
      · omega
    · exact .inr hx
  · rcases k.2 i c hi hc with h1 | h1
    · exact h.2 i c hi h1
    · exact .inr (Nat.le_trans h.1.size h1)
def upS (SA : Nat → Nat → Prop) (i : Nat) (S' : Nat → Prop) : Nat → Nat → Prop := fun j => if j = i then S' else SA j
section
variable {U V : World} {SA : Nat → Nat → Prop} {sb ab na : Nat} {st nn fu : Nat → Nat} {hb pv nw : Nat} {sd : Bool}
theorem SX.lt (h : SX U SA sb ab na st nn fu hb pv nw sd) : sb < U.heap.size := World.block_lt_of_cell? U _ h.c4
/-- Where nothing of the series has turned. -/
theorem SX.fp {X : Nat → Nat → Prop} (h : SX U SA sb ab na st nn fu hb pv nw sd) (k : FP U V X) (h1 : ∀ j, ¬ X sb j) (h2 : ∀ j, ¬ X ab j) (h3 : ∀ i c j, i < na → SA i c → ¬ X c j) : SX V SA sb ab na st nn fu hb pv nw sd := by
  have hl := h.lt
  exact ⟨by rw [k.cell _ _ hl (h1 _)]; exact h.r1, by rw [k.cell _ _ hl (h1 _)]; exact h.c4, by rw [k.cell _ _ hl (h1 _)]; exact h.c8, by rw [k.cell _ _ hl (h1 _)]; exact h.c9, by rw [k.cell _ _ hl (h1 _)]; exact h.c10, by rw [k.cell _ _ hl (h1 _)]; exact h.c11, fun j a b => by rw [k.frz _ _ hl]; exact h.fz j a b, fun i hi => (h.ar i hi).fp k (fun j _ => h2 _) (fun x j hx => h3 i x j hi hx), h.dj, h.ds, h.sab, h.hna, h.hhb, h.hpn⟩
theorem SX.kept (h : SX U SA sb ab na st nn fu hb pv nw sd) (k : Kept (fun _ => False) U V) : SX V SA sb ab na st nn fu hb pv nw sd := h.fp (FP.calm k) (fun _ h => h) (fun _ h => h) (fun _ _ _ _ _ h => h)
/-- One archive has moved on. -/
theorem SX.turn (h : SX U SA sb ab na st nn fu hb pv nw sd) {i : Nat} (hi : i < na) {S' : Nat → Prop} (a' : AR V S' ab (i * 8) (st i) (nn i) (fu i)) (am : AM U (SA i) ab (i * 8) S' V) : SX V (upS SA i S') sb ab na st nn fu hb pv nw sd ∧ SM U SA ab na (upS SA i S') V := by
  have hl := h.lt
  obtain ⟨b1, b2, b3, b4⟩ := (h.ar i hi).bl
  have k := am.1
  have n1 : ∀ j, ¬ AF (SA i) ab (i * 8) sb j := fun j hx => by
    rcases hx with hx | hx
    · exact h.ds i _ hi hx rfl
    · exact h.sab hx.1
  refine ⟨⟨by rw [k.cell _ _ hl (n1 _)]; exact h.r1, by rw [k.cell _ _ hl (n1 _)]; exact h.c4, by rw [k.cell _ _ hl (n1 _)]; exact h.c8, by rw [k.cell _ _ hl (n1 _)]; exact h.c9, by rw [k.cell _ _ hl (n1 _)]; exact h.c10, by rw [k.cell _ _ hl (n1 _)]; exact h.c11, fun j a b => by rw [k.frz _ _ hl]; exact h.fz j a b, fun j hj => ?_, fun j j' hj hj' hne c hc hc' => ?_, fun j c hj hc => ?_, h.sab, h.hna, h.hhb, h.hpn⟩, k.mono (fun c j _ hx => ?_), fun j c hj hc => ?_⟩
  · unfold upS
    by_cases e : j = i
    · subst e; rw [if_pos rfl]; exact a'
    · rw [if_neg e]
      have nb := (h.ar j hj).bl.2.2.1
      refine (h.ar j hj).fp k (fun q hq hx => ?_) (fun x q hx hx' => ?_)
      · rcases hx with hx | hx
        · exact b3 hx
        · omega
      · rcases hx' with hx' | hx'
        · exact h.dj j i hj hi e x hx hx'
        · exact nb (by rw [← hx'.1]; exact hx)
  · unfold upS at hc hc'
    by_cases e : j = i
    · subst e
      rw [if_pos rfl] at hc
      rw [if_neg (fun e => hne e.symm)] at hc'
      rcases am.2 c hc with h1 | h1
      · exact h.dj j j' hj hj' hne c h1 hc'
      · have := (h.ar j' hj').bl.2.1 c hc'
        omega
    · rw [if_neg e] at hc
      by_cases e' : j' = i
      · subst e'
        rw [if_pos rfl] at hc'
        rcases am.2 c hc' with h1 | h1
        · exact h.dj j j' hj hj' hne c hc h1
        · have := (h.ar j hj).bl.2.1 c hc
          omega
      · rw [if_neg e'] at hc'
        exact h.dj j j' hj hj' hne c hc hc'
  · unfold upS at hc
    by_cases e : j = i
    · rw [if_pos e] at hc
      rcases am.2 c hc with h1 | h1
      · exact h.ds i c hi h1
      · omega
    · rw [if_neg e] at hc
      exact h.ds j c hj hc
  · rcases hx with hx | hx
    · exact .inl ⟨i, hi, hx⟩
    · exact .inr hx.1
  · unfold upS at hc
    by_cases e : j = i
    · subst e
      rw [if_pos rfl] at hc
      exact am.2 c hc
    · rw [if_neg e] at hc
      exact .inl hc
end

set_option maxRecDepth 100000 in
set_option maxHeartbeats 4000000 in
theorem finest_any (sb ab na : Nat) (U : World) (hna : 0 < na) (c4 : U.cell? ⟨sb, 4, none⟩ = some (sl ab 0 na na)) : Calls Ybaz.prog 71 #[.pointer (some ⟨sb, 0, none⟩)] U fun e w' => e = .returned (.pointer (some ⟨ab, 0, none⟩)) ∧ w' = U := by
  have h0 : (0 : Int) < (na : Int) := by omega
  go_enter Ybaz.func71, Ybaz.ntmps71
  go_wp2
  go_ret
  exact ⟨rfl, rfl⟩

set_option maxRecDepth 100000 in
set_option maxHeartbeats 4000000 in
theorem known_any (sb hb pv nw : Nat) (U : World) (hhb : hb < 1125899906842624) (hpn : pv ≤ nw ∧ nw ≤ 8000000000) (r1 : U.cell? ⟨sb, 1, none⟩ = some (vi hb)) (c8 : U.cell? ⟨sb, 8, none⟩ = some (vi pv)) (c9 : U.cell? ⟨sb, 9, none⟩ = some (vi nw)) : Calls Ybaz.prog 74 #[.pointer (some ⟨sb, 0, none⟩)] U fun e w' => RB e ∧ Dr U w' := by
  have MI : Hid (∀ q, Calls Ybaz.prog 35 #[vi hb] (U.drewN q) fun e w' => e = .returned (vi (hb / 1000000)) ∧ w' = U.drewN q) := hid fun q => millis_any hb (U.drewN q) (by omega)
  have h1 : (pv : Int) ≤ (nw : Int) := by omega
  have h2 : (nw : Int) ≤ 8000000000 := by omega
  clear hpn hhb
  go_enter Ybaz.func74, Ybaz.ntmps74
  go_upto_region 1 with fail
  go_quiet ((go_at_call 35; refine Calls.quiet_of_same (MI.out _)))
  go_wp2
  go_ret
  exact ⟨⟨_, rfl⟩, ⟨_, rfl⟩⟩
end Go.Proofs.YbulkdsjeGreatDoor
