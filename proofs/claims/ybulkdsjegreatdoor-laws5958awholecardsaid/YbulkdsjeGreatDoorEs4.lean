import Derived.Test.YbulkdsjeGreatDoorEs3
import Derived.BigQuiet
import Derived.Deep.QuietTactic
import Derived.Deep.MidRow
set_option linter.unusedVariables false
set_option linter.unusedSimpArgs false
namespace Go.Proofs.YbulkdsjeGreatDoor
open Go.RowKit

/-- What the operations of the look yield. -/
def ax59 (B rb ro ab ao : Nat) (k : Int) (fi2 i j : Nat) (a1 a2 : Int) (x1 x2 : Nat) (q : Nat) (v : Value) (w : World) : Prop :=
  match q with
  | 0 | 1 | 4 | 5 => v = .pointer (some ⟨rb, ro, none⟩)
  | 2 => v = .pointer (some ⟨rb, ro + 5, none⟩)
  | 3 => v = ii k
  | 6 => v = .pointer (some ⟨rb, ro + 4, none⟩)
  | 7 => v = vi fi2
  | 8 => v = vi i
  | 9 => v = .agg #[ii a2, .float .f64 x2]
  | 14 => v = .agg #[ii a1, .float .f64 x1]
  | 10 | 11 => v = .pointer (some ⟨ab, ao, none⟩)
  | 12 => v = .pointer (some ⟨ab, ao + 5, none⟩)
  | 13 => v = vi j
  | 15 | 16 => ∃ g, v = .pointer (some ⟨g, 0, none⟩) ∧ B ≤ g ∧ TS w g
  | _ => True
theorem ax59.mono {B rb ro ab ao : Nat} {k : Int} {fi2 i j : Nat} {a1 a2 : Int} {x1 x2 : Nat} {q : Nat} {v : Value} {w w' : World} (hw : ax59 B rb ro ab ao k fi2 i j a1 a2 x1 x2 q v w) (h : ∀ g, TS w g → TS w' g) : ax59 B rb ro ab ao k fi2 i j a1 a2 x1 x2 q v w' := by
  unfold ax59 at hw ⊢
  split at hw <;> first | exact hw | (obtain ⟨g, e1, e2, e3⟩ := hw; exact ⟨g, e1, e2, h g e3⟩)
/-- The world in between. -/
def Wd59 (U : World) (B rb ro ab ao : Nat) (k : Int) (fi2 i j : Nat) (a1 a2 : Int) (x1 x2 : Nat) (L : Nat → Bool) (nu : Nat → Value) (w : World) : Prop :=
  Kept (fun _ => False) U w ∧ (∀ q, L q = true → ax59 B rb ro ab ao k fi2 i j a1 a2 x1 x2 q (nu q) w) ∧ (L 15 = true → L 16 = true → nu 15 ≠ nu 16) ∧ (L 17 = true → L 15 = true ∧ ∃ g, nu 15 = .pointer (some ⟨g, 0, none⟩) ∧ TS w g ∧ w.cell? ⟨g, 0, none⟩ = some (ii a2) ∧ w.cell? ⟨g, 1, none⟩ = some (.float .f64 x2))
section
variable {U : World} {B rb ro ab ao : Nat} {k : Int} {fi2 i j : Nat} {a1 a2 : Int} {x1 x2 : Nat} {L : Nat → Bool} {nu : Nat → Value} {w w' : World}
theorem updL_ne {q p : Nat} (h : q ≠ p) : updL L p q = L q := by unfold updL; rw [if_neg h]
theorem updV_ne {q p : Nat} {v : Value} (h : q ≠ p) : updV nu p v q = nu q := by unfold updV; rw [if_neg h]
theorem updV_eq {p : Nat} {v : Value} : updV nu p v p = v := by unfold updV; rw [if_pos rfl]
theorem Wd59.pure (h : Wd59 U B rb ro ab ao k fi2 i j a1 a2 x1 x2 L nu w) {q : Nat} {v : Value} (hq : q < 15) (kk : Kept (fun _ => False) w w') (hv : ax59 B rb ro ab ao k fi2 i j a1 a2 x1 x2 q v w') : Wd59 U B rb ro ab ao k fi2 i j a1 a2 x1 x2 (updL L q) (updV nu q v) w' := by
  refine ⟨h.1.trans kk, fun p hp => ?_, fun e1 e2 => ?_, fun e => ?_⟩
  · by_cases e : p = q
    · subst e; rw [updV_eq]; exact hv
    · rw [updL_ne e] at hp
      rw [updV_ne e]
      exact (h.2.1 p hp).mono (fun g t => t.calm kk)
  · rw [updL_ne (by omega)] at e1 e2
    rw [updV_ne (by omega), updV_ne (by omega)]
    exact h.2.2.1 e1 e2
  · rw [updL_ne (by omega)] at e
    rw [updL_ne (by omega), updV_ne (by omega)]
    obtain ⟨l15, g, e1, ts, c0, c1⟩ := h.2.2.2 e
    exact ⟨l15, g, e1, ts.calm kk, kk.cell (p := ⟨g, 0, none⟩) (fun h => h) c0, kk.cell (p := ⟨g, 1, none⟩) (fun h => h) c1⟩
theorem Wd59.alloc (h : Wd59 U U.heap.size rb ro ab ao k fi2 i j a1 a2 x1 x2 L nu w) {q : Nat} (hq : q = 15 ∨ q = 16) (hLq : L q = false) : Wd59 U U.heap.size rb ro ab ao k fi2 i j a1 a2 x1 x2 (updL L q) (updV nu q (.pointer (some ⟨w.heap.size, 0, none⟩))) (w.alloc (.cells #[.int .i64 0, .float .f64 0] 143)) := by
  have kk : Kept (fun _ => False) w (w.alloc (.cells #[.int .i64 0, .float .f64 0] 143)) := (Kept.refl _ _).alloc _
  have tn : TS (w.alloc (.cells #[.int .i64 0, .float .f64 0] 143)) w.heap.size := ⟨⟨0, range_new w [.int .i64 0, .float .f64 0] 143 0 _ rfl⟩, ⟨0, range_new w [.int .i64 0, .float .f64 0] 143 1 _ rfl⟩, (there_new w [.int .i64 0, .float .f64 0] 143 0 (by simp)).2, (there_new w [.int .i64 0, .float .f64 0] 143 1 (by simp)).2⟩
  have old : ∀ p, (p = 15 ∨ p = 16) → L p = true → nu p ≠ .pointer (some ⟨w.heap.size, 0, none⟩) := fun p hp hLp e => by
    have := h.2.1 p hLp
    rcases hp with rfl | rfl
    · obtain ⟨g, e1, _, ts⟩ := this
      rw [e] at e1
      injection e1 with e1
      injection e1 with e1
      injection e1 with e1
      have := ts.lt
      omega
    · obtain ⟨g, e1, _, ts⟩ := this
      rw [e] at e1
      injection e1 with e1
      injection e1 with e1
      injection e1 with e1
      have := ts.lt
      omega
  refine ⟨h.1.trans kk, fun p hp => ?_, fun e1 e2 => ?_, fun e => ?_⟩
  · by_cases e : p = q
    · subst e
      rw [updV_eq]
      rcases hq with rfl | rfl
      · exact ⟨_, rfl, h.1.size, tn⟩
      · exact ⟨_, rfl, h.1.size, tn⟩
    · rw [updL_ne e] at hp
      rw [updV_ne e]
      exact (h.2.1 p hp).mono (fun g t => t.calm kk)
  · rcases hq with rfl | rfl
    · rw [updL_ne (by omega)] at e2
      rw [updV_eq, updV_ne (by omega)]
      exact fun e => old 16 (.inr rfl) e2 e.symm
    · rw [updL_ne (by omega)] at e1
      rw [updV_eq, updV_ne (by omega)]
      exact old 15 (.inl rfl) e1
  · rw [updL_ne (by omega)] at e
    obtain ⟨l15, g, e1, ts, c0, c1⟩ := h.2.2.2 e
    have hq16 : q = 16 := by
      rcases hq with rfl | rfl
      · rw [l15] at hLq; cases hLq
      · rfl
    subst hq16
    rw [updL_ne (by omega), updV_ne (by omega)]
    exact ⟨l15, g, e1, ts.calm kk, kk.cell (p := ⟨g, 0, none⟩) (fun h => h) c0, kk.cell (p := ⟨g, 1, none⟩) (fun h => h) c1⟩
theorem Wd59.store (h : Wd59 U U.heap.size rb ro ab ao k fi2 i j a1 a2 x1 x2 L nu w) {g : Nat} (l15 : L 15 = true) (e15 : nu 15 = .pointer (some ⟨g, 0, none⟩)) (ts : TS w g) (hg : U.heap.size ≤ g) : Wd59 U U.heap.size rb ro ab ao k fi2 i j a1 a2 x1 x2 (updL L 17) (updV nu 17 undef) (w.setCells g 0 [ii a2, .float .f64 x2]) := by
  have th : w.there g 0 2 := fun j hj => by
    obtain ⟨⟨a, ha⟩, ⟨b, hb⟩, f0, f1⟩ := ts
    rw [Nat.zero_add]
    match j, hj with
    | 0, _ => exact ⟨by rw [ha]; rfl, f0⟩
    | 1, _ => exact ⟨by rw [hb]; rfl, f1⟩
  have rr := World.rangeAt_setCells_same w g 0 [ii a2, .float .f64 x2] th
  refine ⟨Kept.thn' h.1 ((Kept.refl (fun c => c = g) w).setCells (g := g) (.inl rfl) _ _) (fun c hc (he : c = g) => by omega), fun p hp => ?_, fun e1 e2 => ?_, fun _ => ?_⟩
  · by_cases e : p = 17
    · subst e; trivial
    · rw [updL_ne e] at hp
      rw [updV_ne e]
      exact (h.2.1 p hp).mono (fun g' t => t.set ts a2 x2)
  · rw [updL_ne (by omega)] at e1 e2
    rw [updV_ne (by omega), updV_ne (by omega)]
    exact h.2.2.1 e1 e2
  · rw [updL_ne (by omega), updV_ne (by omega)]
    exact ⟨l15, g, e15, ts.set ts a2 x2, rr 0 _ rfl, rr 1 _ rfl⟩
end

set_option maxRecDepth 100000 in
set_option maxHeartbeats 4000000 in
theorem same_in (j i b6 b7 ab ao fi rb ro fi2 n2 : Nat) (a1 a2 : Int) (x1 x2 : Nat) (U : World) (h6 : U.cell? ⟨b6, 0, none⟩ = some (.pointer (some ⟨ab, ao, none⟩))) (h7 : U.cell? ⟨b7, 0, none⟩ = some (.pointer (some ⟨rb, ro, none⟩))) (s4a : U.cell? ⟨ab, ao + 4, none⟩ = some (vi fi)) (s4r : U.cell? ⟨rb, ro + 4, none⟩ = some (vi fi2)) (c2r : U.cell? ⟨rb, ro + 5 + 2, none⟩ = some (vi n2)) (hfj : fi + j ≤ 8388608) (hfr : fi2 + n2 ≤ 8388608) (hi : fi + j = fi2 + i) (hin : i < n2)
    (ata : ∀ W, Kept (fun _ => False) U W → Calls Ybaz.prog 61 #[.pointer (some ⟨ab, ao + 5, none⟩), vi j] W fun e w' => e = .returned (.agg #[ii a1, .float .f64 x1]) ∧ Kept (fun _ => False) W w')
    (atr : ∀ W, Kept (fun _ => False) U W → Calls Ybaz.prog 61 #[.pointer (some ⟨rb, ro + 5, none⟩), vi i] W fun e w' => e = .returned (.agg #[ii a2, .float .f64 x2]) ∧ Kept (fun _ => False) W w') :
    Calls Ybaz.prog 59 #[vi j, .pointer (some ⟨b6, 0, none⟩), .pointer (some ⟨b7, 0, none⟩)] U fun e w' => e = .returned (.bool ((a2 == a1) && ((x2 : Int) == (x1 : Int)))) ∧ Kept (fun _ => False) U w' := by
  have LA := hid (last_any fi2 n2 rb ro U s4r c2r hfr)
  have b7x := f64bits
  have h1 : (fi : Int) ≤ 8388608 := by omega
  have h2 : (j : Int) ≤ 8388608 := by omega
  have h3 : (fi2 : Int) ≤ 8388608 := by omega
  have h4 : (n2 : Int) ≤ 8388608 := by omega
  have H6 := hid h6
  have H7 := hid h7
  have HS := hid (show U.cell? ⟨ab, ao + 4, none⟩ = some (vi fi) ∧ U.cell? ⟨rb, ro + 4, none⟩ = some (vi fi2) from ⟨s4a, s4r⟩)
  have ATA := hid ata
  have ATR := hid atr
  have n1 : ¬ (fi : Int) + (j : Int) < (fi2 : Int) := by omega
  have n3 : ¬ (fi2 : Int) + (n2 : Int) - 1 < (fi : Int) + (j : Int) := by omega
  have HI := hid (show (fi : Int) + (j : Int) - (fi2 : Int) = (i : Int) by omega)
  have HB := hid (show (fi : Int) ≤ 8388608 ∧ (j : Int) ≤ 8388608 ∧ (fi2 : Int) ≤ 8388608 from ⟨h1, h2, h3⟩)
  clear ata atr hfj hfr hi hin c2r
  go_enter Ybaz.func59, Ybaz.ntmps59
  go_upto_region 4 with (go_at_call 60; refine LA.out.mono ?_; rintro e W1 ⟨rfl, hd⟩; have KU := hid hd.kept; clear hd)
  refine wp_region_acts 18 55 (Wd59 W1 W1.heap.size rb ro ab ao ((fi : Int) + (j : Int)) fi2 i j a1 a2 x1 x2) mixed (by kernel_rfl) rfl ?_ ?_ ?_
  · exact fun nu => ⟨(Kept.refl _ W1).drew, fun q h => (by cases h), fun h => (by cases h), fun h => (by cases h)⟩
  · intro q oj ho hq L nu a w hLi hl wd hd hs
    have kUw := KU.out.trans wd.1
    obtain ⟨ρ, hρ⟩ : ∃ ρ, ρ = a.eval := ⟨_, rfl⟩
    rw [← hρ]
    rw [← hρ] at hd hs
    match q, ho with
      | 0, ho =>
        cases ho
        exact .inl ⟨_, _, xload1 (hs 2 (by kernel_rfl)) (load101 _ _ _ _ (kUw.cell (p := ⟨b7, 0, none⟩) (fun h => h) H7.out)), wd.pure (by omega) (Kept.refl _ _) rfl⟩
      | 1, ho =>
        cases ho
        have e0 := hd 0 _ 26 rfl rfl (by kernel_rfl)
        have q0 := wd.2.1 0 (hl 0 (by kernel_rfl))
        exact .inl ⟨_, _, xnil (e0.trans q0), wd.pure (by omega) (Kept.refl _ _) rfl⟩
      | 2, ho =>
        cases ho
        have e0 := hd 1 _ 27 rfl rfl (by kernel_rfl)
        have q0 := wd.2.1 1 (hl 1 (by kernel_rfl))
        exact .inl ⟨_, _, xfield (e0.trans q0) (fa106_5 rb ro), wd.pure (by omega) (Kept.refl _ _) rfl⟩
      | 3, ho =>
        cases ho
        exact .inl ⟨_, _, xmove (hs 5 (by kernel_rfl)), wd.pure (by omega) (Kept.refl _ _) rfl⟩
      | 4, ho =>
        cases ho
        exact .inl ⟨_, _, xload1 (hs 2 (by kernel_rfl)) (load101 _ _ _ _ (kUw.cell (p := ⟨b7, 0, none⟩) (fun h => h) H7.out)), wd.pure (by omega) (Kept.refl _ _) rfl⟩
      | 5, ho =>
        cases ho
        have e0 := hd 4 _ 30 rfl rfl (by kernel_rfl)
        have q0 := wd.2.1 4 (hl 4 (by kernel_rfl))
        exact .inl ⟨_, _, xnil (e0.trans q0), wd.pure (by omega) (Kept.refl _ _) rfl⟩
      | 6, ho =>
        cases ho
        have e0 := hd 5 _ 31 rfl rfl (by kernel_rfl)
        have q0 := wd.2.1 5 (hl 5 (by kernel_rfl))
        exact .inl ⟨_, _, xfield (e0.trans q0) (fa106_4 rb ro), wd.pure (by omega) (Kept.refl _ _) rfl⟩
      | 7, ho =>
        cases ho
        have e0 := hd 6 _ 32 rfl rfl (by kernel_rfl)
        have q0 := wd.2.1 6 (hl 6 (by kernel_rfl))
        exact .inl ⟨_, _, xload1 (e0.trans q0) (load2 _ _ _ _ (kUw.cell (p := ⟨rb, ro + 4, none⟩) (fun h => h) HS.out.2)), wd.pure (by omega) (Kept.refl _ _) rfl⟩
      | 8, ho =>
        cases ho
        have e0 := hd 3 _ 29 rfl rfl (by kernel_rfl)
        have q0 := wd.2.1 3 (hl 3 (by kernel_rfl))
        have e1 := hd 7 _ 33 rfl rfl (by kernel_rfl)
        have q1 := wd.2.1 7 (hl 7 (by kernel_rfl))
        exact .inl ⟨_, _, xbin (e0.trans q0) (e1.trans q1) (fun w => by kernel_rfl) (fun w => sub2 ((fi : Int) + (j : Int)) fi2 w (by have := HB.out; omega)), wd.pure (by omega) (Kept.refl _ _) (by show ii _ = _; rw [HI.out])⟩
      | 9, ho =>
        cases ho
        have e0 := hd 2 _ 28 rfl rfl (by kernel_rfl)
        have q0 := wd.2.1 2 (hl 2 (by kernel_rfl))
        have e1 := hd 8 _ 34 rfl rfl (by kernel_rfl)
        have q1 := wd.2.1 8 (hl 8 (by kernel_rfl))
        refine .inr (.inl ⟨61, _, xcall (by rw [hρ]; rfl) (fun vs => enters_of Ybaz.func61 (by kernel_rfl) rfl vs w), ?_⟩)
        have q0' : nu 2 = .pointer (some ⟨rb, ro + 5, none⟩) := q0
        have q1' : nu 8 = vi i := q1
        simp only [List.map_toArray, List.map_cons, List.map_nil, ← hρ, e0, e1, q0', q1']
        refine (ATR.out w kUw).mono ?_
        rintro e w' ⟨rfl, kk⟩
        exact ⟨_, rfl, wd.pure (by omega) kk rfl⟩
      | 10, ho =>
        cases ho
        exact .inl ⟨_, _, xload1 (hs 1 (by kernel_rfl)) (load101 _ _ _ _ (kUw.cell (p := ⟨b6, 0, none⟩) (fun h => h) H6.out)), wd.pure (by omega) (Kept.refl _ _) rfl⟩
      | 11, ho =>
        cases ho
        have e0 := hd 10 _ 36 rfl rfl (by kernel_rfl)
        have q0 := wd.2.1 10 (hl 10 (by kernel_rfl))
        exact .inl ⟨_, _, xnil (e0.trans q0), wd.pure (by omega) (Kept.refl _ _) rfl⟩
      | 12, ho =>
        cases ho
        have e0 := hd 11 _ 37 rfl rfl (by kernel_rfl)
        have q0 := wd.2.1 11 (hl 11 (by kernel_rfl))
        exact .inl ⟨_, _, xfield (e0.trans q0) (fa106_5 ab ao), wd.pure (by omega) (Kept.refl _ _) rfl⟩
      | 13, ho =>
        cases ho
        exact .inl ⟨_, _, xmove (hs 0 (by kernel_rfl)), wd.pure (by omega) (Kept.refl _ _) rfl⟩
      | 14, ho =>
        cases ho
        have e0 := hd 12 _ 38 rfl rfl (by kernel_rfl)
        have q0 := wd.2.1 12 (hl 12 (by kernel_rfl))
        have e1 := hd 13 _ 39 rfl rfl (by kernel_rfl)
        have q1 := wd.2.1 13 (hl 13 (by kernel_rfl))
        refine .inr (.inl ⟨61, _, xcall (by rw [hρ]; rfl) (fun vs => enters_of Ybaz.func61 (by kernel_rfl) rfl vs w), ?_⟩)
        have q0' : nu 12 = .pointer (some ⟨ab, ao + 5, none⟩) := q0
        have q1' : nu 13 = vi j := q1
        simp only [List.map_toArray, List.map_cons, List.map_nil, ← hρ, e0, e1, q0', q1']
        refine (ATA.out w kUw).mono ?_
        rintro e w' ⟨rfl, kk⟩
        exact ⟨_, rfl, wd.pure (by omega) kk rfl⟩
      | 15, ho =>
        cases ho
        exact .inl ⟨_, _, xalloc al143, wd.alloc (.inl rfl) hLi⟩
      | 16, ho =>
        cases ho
        exact .inl ⟨_, _, xalloc al143, wd.alloc (.inr rfl) hLi⟩
      | 17, ho =>
        cases ho
        have e0 := hd 15 _ 6 rfl rfl (by kernel_rfl)
        have q0 := wd.2.1 15 (hl 15 (by kernel_rfl))
        have e1 := hd 9 _ 35 rfl rfl (by kernel_rfl)
        have q1 := wd.2.1 9 (hl 9 (by kernel_rfl))
        obtain ⟨g, q15, hg, ts⟩ := q0
        exact .inr (.inr ⟨_, xstore143 (e0.trans q15) (e1.trans q1) ts, wd.store (hl 15 (by kernel_rfl)) q15 ts hg⟩)
      | jj + 18, ho => omega
  · intro oz hoz L nu X hL wd
    cases hoz
    obtain ⟨g', q16, hg', ts16⟩ := wd.2.1 16 (hL 16 (by omega))
    have q14 : nu 14 = .agg #[ii a1, .float .f64 x1] := wd.2.1 14 (hL 14 (by omega))
    obtain ⟨_, g, q15, ts15, c0, c1⟩ := wd.2.2.2 (hL 17 (by omega))
    have hne : g ≠ g' := fun e => wd.2.2.1 (hL 15 (by omega)) (hL 16 (by omega)) (by rw [q15, q16, e])
    have kUx := KU.out.trans wd.1
    simp only [lay, List.take, Act.put, List.setIfInBounds_toArray, List.set_cons_succ, List.set_cons_zero, q15, q16, q14]
    have th : X.there g' 0 2 := fun q hq => by
      obtain ⟨⟨a, ha⟩, ⟨b, hb⟩, f0, f1⟩ := ts16
      rw [Nat.zero_add]
      match q, hq with
      | 0, _ => exact ⟨by rw [ha]; rfl, f0⟩
      | 1, _ => exact ⟨by rw [hb]; rfl, f1⟩
    refine wpList_store_mid rfl 143 _ _ rfl g' 0 #[ii a1, .float .f64 x1] rfl rfl th (by kernel_rfl) (by simp [Value.oneCell']) ?_
    have rr := World.rangeAt_setCells_same X g' 0 [ii a1, .float .f64 x1] th
    have fp := FP.setCells2 g' [ii a1, .float .f64 x1] 0 X
    refine list_as (fun Y => Kept (fun _ => False) U Y ∧ Y.cell? ⟨g, 0, none⟩ = some (ii a2) ∧ Y.cell? ⟨g, 1, none⟩ = some (.float .f64 x2) ∧ Y.cell? ⟨g', 0, none⟩ = some (ii a1) ∧ Y.cell? ⟨g', 1, none⟩ = some (.float .f64 x1)) ⟨Kept.thn' kUx ((Kept.refl (fun c => c = g') X).setCells (g := g') (.inl rfl) _ _) (fun c hc (he : c = g') => by have := KU.out.size; omega), by rw [fp.cell _ _ ts15.lt (fun e => hne e.1)]; exact c0, by rw [fp.cell _ _ ts15.lt (fun e => hne e.1)]; exact c1, rr 0 _ rfl, rr 1 _ rfl⟩ ?_
    rintro Y ⟨kY, d1, d2, d3, d4⟩
    have KY := hid kY
    clear kY kUx ts15 ts16 hg' wd q14 q15 q16 KU rr fp th hne c0 c1
    refine wpList_done ?_
    go_upto_region 5 with fail
    obtain ⟨tb, htb⟩ : ∃ tb, (a2 == a1) = tb := ⟨_, rfl⟩
    cases tb with
    | false =>
      go_quiet (fail)
      go_wp2
      go_ret
      exact ⟨by rw [htb]; rfl, Kept.drawn KY.out _⟩
    | true =>
      go_quiet (fail)
      go_wp2
      go_ret
      exact ⟨by rw [htb]; rfl, Kept.drawn KY.out _⟩
end Go.Proofs.YbulkdsjeGreatDoor
