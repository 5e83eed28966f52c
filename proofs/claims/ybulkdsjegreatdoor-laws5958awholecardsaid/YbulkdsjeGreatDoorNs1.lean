import Derived.Test.YbulkdsjeGreatDoorNs0
import Derived.Test.YbulkdsjeGreatDoorNewU
import Derived.BigQuiet
import Derived.Deep.QuietTactic
import Derived.Deep.MidRow
set_option linter.unusedVariables false
set_option linter.unusedSimpArgs false
namespace Go.Proofs.YbulkdsjeGreatDoor
open Go.RowKit

/-- How much of a slot of archive i is the whole. -/
def fuOf (st : Nat → Nat) (i : Nat) : Nat := if i = 0 then st 0 else st i / st 0
/-- A rule's row of archives in memory: steps of st i, spans of nn i steps (in nanoseconds). -/
structure RuleM (W : World) (rb ro na : Nat) (st nn : Nat → Nat) : Prop where
  row : ∀ i, i < na → W.cell? ⟨rb, ro + i * 2, none⟩ = some (vi (st i * 1000000)) ∧ W.cell? ⟨rb, ro + i * 2 + 1, none⟩ = some (vi (st i * nn i * 1000000))
  bd : ∀ i, i < na → 1000 ≤ st i ∧ st i ≤ 60000 ∧ nn i ≤ 100
  hna : 1 ≤ na ∧ na ≤ 2
theorem RuleM.kept {W W' : World} {E : Nat → Prop} {rb ro na : Nat} {st nn : Nat → Nat} (h : RuleM W rb ro na st nn) (k : Kept E W W') (hr : ¬ E rb) : RuleM W' rb ro na st nn :=
  ⟨fun i hi => ⟨k.cell (p := ⟨rb, ro + i * 2, none⟩) hr (h.row i hi).1, k.cell (p := ⟨rb, ro + i * 2 + 1, none⟩) hr (h.row i hi).2⟩, h.bd, h.hna⟩
/-- No item held. -/
theorem CK.none0 {W : World} {b o : Nat} (c0 : W.cell? ⟨b, o, none⟩ = some (.slice none 0 0)) (c1 : W.cell? ⟨b, o + 1, none⟩ = some (vi 0)) (c2 : W.cell? ⟨b, o + 2, none⟩ = some (vi 0)) (fr : ∀ j, j < 3 → W.frozen? ⟨b, o + j, none⟩ = false) : CK W (fun _ => False) b o 0 0 (fun _ => 0) :=
  ⟨.slice none 0 0, 0, 0, 0, 0, fun _ => 0, fun _ => 0, ⟨c0, c1, c2, fr, .inl ⟨rfl, rfl⟩, Nat.le_refl _, fun h => by omega, by omega, by omega, fun k hk => by omega, fun k hk => by omega, fun k hk => by omega, fun p hp => by omega, fun k k' hk => by omega, fun k hk => by omega, fun h => by omega, fun k hk => by omega, fun x hx => hx.elim, fun h => h, by omega⟩, by omega, fun _ => rfl⟩
/-- The series as it is built: the first i archives stand. -/
structure NI (U : World) (rb ro rc sb ab na : Nat) (st nn : Nat → Nat) (hb rw xff i : Nat) (X : World) : Prop where
  k : Kept (fun _ => False) U X
  s1 : U.heap.size ≤ sb
  s2 : U.heap.size ≤ ab
  ne : sb ≠ ab
  ra : X.rangeAt sb 0 [sl rb ro na rc, vi hb, .float .f64 xff, vi rw, sl ab 0 na na, .slice none 0 0, vi 0, vi 0, vi 0, vi 0, .float .f64 0, .bool false]
  th : X.there sb 0 12
  ta : ∀ j, j < na * 8 → (X.cell? ⟨ab, j, none⟩).isSome = true ∧ X.frozen? ⟨ab, j, none⟩ = false
  ar : ∀ j, j < i → AR X (fun _ => False) ab (j * 8) (st j) (nn j) (fuOf st j)
theorem NI.kept {U X Y : World} {rb ro rc sb ab na : Nat} {st nn : Nat → Nat} {hb rw xff i : Nat} (h : NI U rb ro rc sb ab na st nn hb rw xff i X) (k : Kept (fun _ => False) X Y) (ha : ab < X.heap.size) : NI U rb ro rc sb ab na st nn hb rw xff i Y := by
  have hs : sb < X.heap.size := World.block_lt_of_cell? X ⟨sb, 0 + 0, none⟩ (h.ra 0 _ rfl)
  have e1 := k.block sb hs (fun h => h)
  have e2 := k.block ab ha (fun h => h)
  refine ⟨h.k.trans k, h.s1, h.s2, h.ne, fun j v hv => by rw [World.cell?_of_block (a := ⟨sb, 0 + j, none⟩) e1]; exact h.ra j v hv, fun j hj => by rw [World.cell?_of_block (a := ⟨sb, 0 + j, none⟩) e1, World.frozen?_of_block (a := ⟨sb, 0 + j, none⟩) e1]; exact h.th j hj, fun j hj => by rw [World.cell?_of_block (a := ⟨ab, j, none⟩) e2, World.frozen?_of_block (a := ⟨ab, j, none⟩) e2]; exact h.ta j hj, fun j hj => (h.ar j hj).fp (FP.calm k) (fun _ _ h => h) (fun _ _ _ h => h)⟩
theorem NI.lt {U X : World} {rb ro rc sb ab na : Nat} {st nn : Nat → Nat} {hb rw xff i : Nat} (h : NI U rb ro rc sb ab na st nn hb rw xff i X) (hna : 1 ≤ na) : ab < X.heap.size := by
  obtain ⟨u, hu⟩ := Option.isSome_iff_exists.1 (h.ta 0 (by omega)).1
  exact World.block_lt_of_cell? X _ hu
/-- One more archive is laid. -/
theorem NI.lay {U X : World} {rb ro rc sb ab na : Nat} {st nn : Nat → Nat} {hb rw xff i : Nat} (h : NI U rb ro rc sb ab na st nn hb rw xff i X) (hna : 1 ≤ na) (hi : i < na) (sc : Nat) (hb1 : 1000 ≤ st i ∧ st i ≤ 60000 ∧ nn i ≤ 100) (hfu : fuOf st i ≤ 60000) : NI U rb ro rc sb ab na st nn hb rw xff (i + 1) (X.setCells ab (i * 8) [vi (st i), vi (nn i), vi (fuOf st i), .float .f64 sc, vi 0, .slice none 0 0, vi 0, vi 0]) := by
  have fp := FP.setCells2 ab [vi (st i), vi (nn i), vi (fuOf st i), .float .f64 sc, vi 0, .slice none 0 0, vi 0, vi 0] (i * 8) X
  have hth : X.there ab (i * 8) 8 := fun j hj => h.ta (i * 8 + j) (by omega)
  have rr := World.rangeAt_setCells_same X ab (i * 8) [vi (st i), vi (nn i), vi (fuOf st i), .float .f64 sc, vi 0, .slice none 0 0, vi 0, vi 0] hth
  obtain ⟨Y, hY⟩ : ∃ Y, X.setCells ab (i * 8) [vi (st i), vi (nn i), vi (fuOf st i), .float .f64 sc, vi 0, .slice none 0 0, vi 0, vi 0] = Y := ⟨_, rfl⟩
  rw [hY] at fp rr ⊢
  have hs : sb < X.heap.size := World.block_lt_of_cell? X ⟨sb, 0 + 0, none⟩ (h.ra 0 _ rfl)
  have ha := h.lt hna
  have hl : [vi (st i), vi (nn i), vi (fuOf st i), .float .f64 sc, vi 0, Value.slice none 0 0, vi 0, vi 0].length = 8 := rfl
  rw [hl] at fp
  have cs : ∀ j, Y.cell? ⟨sb, j, none⟩ = X.cell? ⟨sb, j, none⟩ := fun j => fp.cell _ _ hs (fun e => h.ne e.1)
  refine ⟨⟨fp.os.trans h.k.os, fp.tape.trans h.k.tape, fp.output.trans h.k.output, Nat.le_trans h.k.size fp.size, fun c hc hn => (fp.block c (Nat.lt_of_lt_of_le hc h.k.size) (fun j hx => by have := h.s2; omega)).trans (h.k.block c hc hn)⟩, h.s1, h.s2, h.ne, fun j v hv => by rw [cs]; exact h.ra j v hv, fun j hj => by rw [cs, fp.frz _ _ hs]; exact h.th j hj, fun j hj => ?_, fun j hj => ?_⟩
  · refine there_fp fp ha (h.ta j hj) (fun e => ?_)
    have := rr (j - i * 8) _ (List.getElem?_eq_getElem (show j - i * 8 < _ by rw [hl]; omega))
    rw [show i * 8 + (j - i * 8) = j by omega] at this
    rw [this]
    rfl
  · by_cases e : j = i
    · subst e
      exact ⟨sc, 0, 0, 0, fun _ => 0, rr 0 _ rfl, rr 1 _ rfl, rr 2 _ rfl, rr 3 _ rfl, rr 4 _ rfl, by rw [fp.frz _ _ ha]; exact (h.ta _ (by omega)).2, CK.none0 (rr 5 _ rfl) (rr 6 _ rfl) (rr 7 _ rfl) (fun q hq => by rw [fp.frz _ _ ha]; exact (h.ta _ (by omega)).2), ⟨hb1.1, hb1.2.1⟩, hb1.2.2, hfu, by omega⟩
    · exact (h.ar j (by omega)).fp fp (fun q hq hx => by omega) (fun x q hx => hx.elim)
/-- What newSeries leaves. -/
def NsP (U : World) (rb ro rc na : Nat) (st nn : Nat → Nat) (hb rw xff : Nat) (e : Ending) (w' : World) : Prop := ∃ sb ab, e = .returned (.pointer (some ⟨sb, 0, none⟩)) ∧ U.heap.size ≤ sb ∧ U.heap.size ≤ ab ∧ Kept (fun _ => False) U w' ∧ SW w' (fun _ _ => False) (fun _ => False) sb ab na st nn (fuOf st) hb rw 0 0 false 0 ∧ w'.cell? ⟨sb, 0, none⟩ = some (sl rb ro na rc) ∧ w'.cell? ⟨sb, 2, none⟩ = some (.float .f64 xff)
theorem NI.done {U X : World} {rb ro rc sb ab na : Nat} {st nn : Nat → Nat} {hb rw xff : Nat} (h : NI U rb ro rc sb ab na st nn hb rw xff na X) (hna : 1 ≤ na ∧ na ≤ 2) (hhb : hb < 1125899906842624) (hrw : rw < 1125899906842624) : NsP U rb ro rc na st nn hb rw xff (.returned (.pointer (some ⟨sb, 0, none⟩))) X := by
  have g : ∀ j v, ([sl rb ro na rc, vi hb, .float .f64 xff, vi rw, sl ab 0 na na, .slice none 0 0, vi 0, vi 0, vi 0, vi 0, .float .f64 0, .bool false] : List Value)[j]? = some v → X.cell? ⟨sb, j, none⟩ = some v := fun j v hv => by have := h.ra j v hv; rw [Nat.zero_add] at this; exact this
  have fz : ∀ j, j < 12 → X.frozen? ⟨sb, j, none⟩ = false := fun j hj => by have := (h.th j hj).2; rw [Nat.zero_add] at this; exact this
  refine ⟨sb, ab, rfl, h.s1, h.s2, h.k, ⟨⟨g 1 _ rfl, g 4 _ rfl, g 8 _ rfl, g 9 _ rfl, ⟨0, g 10 _ rfl⟩, g 11 _ rfl, fun j _ hj => fz j hj, h.ar, fun _ _ _ _ _ _ hx => hx.elim, fun _ _ _ hx => hx.elim, h.ne, hna, hhb, by omega⟩, g 3 _ rfl, ⟨0, 0, fun _ => 0, CK.none0 (g 5 _ rfl) (g 6 _ rfl) (g 7 _ rfl) (fun j hj => fz _ (by omega)), fun p hp => by omega, fun p hp => by omega, by omega, fun p hp => by omega⟩, fun _ _ _ hx => hx.elim, fun hx => hx, hrw⟩, g 0 _ rfl, g 2 _ rfl⟩

set_option maxRecDepth 100000 in
set_option maxHeartbeats 4000000 in
theorem slots_any (s n : Nat) (hs : 1000 ≤ s ∧ s ≤ 60000) (hn : n ≤ 100) (U : World) : Calls Ybaz.prog 36 #[.agg #[vi (s * 1000000), vi (s * n * 1000000)]] U fun e w' => e = .returned (vi n) ∧ Kept (fun _ => False) U w' := by
  obtain ⟨A, hA⟩ : ∃ A, s * 1000000 = A := ⟨_, rfl⟩
  obtain ⟨B, hB⟩ : ∃ B, s * n * 1000000 = B := ⟨_, rfl⟩
  have hq : (B : Int).tdiv (A : Int) = (n : Int) := by
    rw [← hA, ← hB, ← Int.ofNat_tdiv, show s * n * 1000000 = n * (s * 1000000) by rw [Nat.mul_comm s n, Nat.mul_assoc], Nat.mul_div_cancel _ (by omega)]
  have hA0 : ((A : Int) == 0) = false := by simp; omega
  have hA1 : (A : Int) ≤ 60000000000 := by omega
  have hn1 : (n : Int) ≤ 100 := by omega
  have hA2 : ¬ (A : Int) = 0 := by omega
  rw [hA, hB]
  have k0 : Kept (fun _ => False) U (U.alloc (.cells #[vi A, vi B] 58)) := (Kept.refl _ U).alloc _
  have KK := hid (show Kept (fun _ => False) U (U.alloc (.cells #[vi A, vi B] 58)) ∧ (U.alloc (.cells #[vi A, vi B] 58)).cell? ⟨U.heap.size, 0, none⟩ = some (vi A) ∧ (U.alloc (.cells #[vi A, vi B] 58)).cell? ⟨U.heap.size, 1, none⟩ = some (vi B) from ⟨k0, range_new U [vi A, vi B] 58 0 _ rfl, range_new U [vi A, vi B] 58 1 _ rfl⟩)
  clear hA hB hs hn k0
  go_enter Ybaz.func36, Ybaz.ntmps36
  go_upto_region 1 with fail
  refine wp_as (fun V => Kept (fun _ => False) U V ∧ V.cell? ⟨U.heap.size, 0, none⟩ = some (vi A) ∧ V.cell? ⟨U.heap.size, 1, none⟩ = some (vi B)) KK.out ?_
  rintro V ⟨kV, y0, y1⟩
  have KV := hid kV
  clear KK kV
  go_wp2
  go_ret
  exact ⟨rfl, KV.out⟩
end Go.Proofs.YbulkdsjeGreatDoor
