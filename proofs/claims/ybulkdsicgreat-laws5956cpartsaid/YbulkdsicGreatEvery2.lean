import Derived.Test.YbulkdsicGreatEvery
set_option linter.unusedVariables false
set_option linter.unusedSimpArgs false
namespace Go.Proofs.YbulkdsicGreat
open Go.RowKit Go.Shelf

/-- Where the asker's own lies. -/
structure NL (w : World) (base s Bc Bg Mb pb : Nat) : Prop where
  a1 : w.heap.size ≤ Bg
  a2 : w.heap.size ≤ Mb
  a3 : Bg < s
  a4 : Mb < s
  a5 : Mb ≠ Bg
  a6 : s + 4 ≤ Bc
  a7 : Bc < base
  a8 : pb < w.heap.size
/-- Loop 3's state. -/
structure G3 (w U : World) (base s Bc Bg pb n Mb : Nat) (cv : Value) (near : Nat → Int) (kv0 kv : List (Nat × Value)) (r q : Nat) : Prop where
  nm : NM U base (s + 3) Bc s (s + 1) Bg (s + 2) pb n n Mb cv near kv
  nr : ∀ k, r ≤ k → k < n → near k = -2
  bel : Below w.heap.size w U
  sm : ∀ k, (kv.lookup k).isSome = (kv0.lookup k).isSome
  old : ∀ k, q ≤ k → kv.lookup k = kv0.lookup k
  row : ∀ k, k < q → (kv0.lookup k).isSome = true → ∃ lg lc, kv.lookup k = some (sl lg 0 1 lc) ∧ U.cell? ⟨lg, 0, none⟩ = some (vi k) ∧ base ≤ lg ∧ cv.ownBlock ≠ some lg
  sz : base ≤ U.heap.size
theorem NM.after {E : Nat → Prop} {w W W' : World} {base s Bc Bg pb n Mb : Nat} {cv cv' : Value} {near near' : Nat → Int} {kv kv' : List (Nat × Value)} (nl : NL w base s Bc Bg Mb pb) (h : NM W base (s + 3) Bc s (s + 1) Bg (s + 2) pb n n Mb cv near kv) (k : Kept E W W')
    (hE : ∀ b, E b → b = Bc ∨ b = s + 2 ∨ b = Mb ∨ base ≤ b) (hw : w.heap.size ≤ s) (v2 : W'.cell? ⟨Bc, 0, none⟩ = some cv') (f2 : W'.frozen? ⟨Bc, 0, none⟩ = false) (own : W'.ownsRow base 3 1 cv' 0 []) (tab : Tab W' (s + 2) 0 n (fun k => .int .i64 (near' k))) (map : MapI W' Mb kv') :
    NM W' base (s + 3) Bc s (s + 1) Bg (s + 2) pb n n Mb cv' near' kv' := by
  have a1 := nl.a1; have a2 := nl.a2; have a3 := nl.a3; have a4 := nl.a4; have a5 := nl.a5; have a6 := nl.a6; have a7 := nl.a7; have a8 := nl.a8
  exact ⟨k.cell (p := ⟨s + 3, 0, none⟩) (fun he => by have := hE _ he; simp at this; omega) h.v1, v2, f2, k.cell (p := ⟨s, 0, none⟩) (fun he => by have := hE _ he; simp at this; omega) h.v3, k.cell (p := ⟨s + 1, 0, none⟩) (fun he => by have := hE _ he; simp at this; omega) h.v4, k.cell (p := ⟨Bg, 0, none⟩) (fun he => by have := hE _ he; simp at this; omega) h.v5, own, fun i hi => k.cell (p := ⟨pb, i, none⟩) (fun he => by have := hE _ he; simp at this; omega) (h.par i hi), tab, map⟩
/-- One question of loop 3, asked. -/
theorem G3.asked {w U U' : World} {base s Bc Bg pb n Mb q : Nat} {cv cv' : Value} {near : Nat → Int} {kv0 kv : List (Nat × Value)} (nl : NL w base s Bc Bg Mb pb) (h : G3 w U base s Bc Bg pb n Mb cv near kv0 kv q q) (k : Kept (fun b => b = Bc ∨ b = s + 2 ∨ cv.ownBlock = some b) U U')
    (v2 : U'.cell? ⟨Bc, 0, none⟩ = some cv') (f2 : U'.frozen? ⟨Bc, 0, none⟩ = false) (own : U'.ownsRow base 3 1 cv' 0 []) (mv : cv'.ownBlock = cv.ownBlock ∨ ∃ g, cv'.ownBlock = some g ∧ U.heap.size ≤ g) (x : Int) (tab : Tab U' (s + 2) 0 n (fun k => .int .i64 (if k = q then x else near k))) :
    G3 w U' base s Bc Bg pb n Mb cv' (fun k => if k = q then x else near k) kv0 kv (q + 1) q := by
  have a1 := nl.a1; have a2 := nl.a2; have a3 := nl.a3; have a4 := nl.a4; have a5 := nl.a5; have a6 := nl.a6; have a7 := nl.a7; have a8 := nl.a8
  have hob : ∀ b, cv.ownBlock = some b → base ≤ b := fun b hb => (own_block h.nm.own hb).1
  have hs := h.sz
  refine ⟨NM.after nl h.nm k (fun b hb => by rcases hb with e | e | e; exact .inl e; exact .inr (.inl e); exact .inr (.inr (.inr (hob b e)))) (by omega) v2 f2 own tab (h.nm.map.kept k (fun he => by rcases he with e | e | e; omega; omega; have := hob _ e; omega)), fun i hi hn => ?_, h.bel.trans (k.toBelow (fun i hi he => by rcases he with e | e | e; omega; omega; have := hob _ e; omega) h.bel.size), h.sm, h.old, fun i hi hm => ?_, Nat.le_trans h.sz k.size⟩
  · rw [if_neg (by omega)]; exact h.nr i (by omega) hn
  · obtain ⟨lg, lc, r1, r2, r3, r4⟩ := h.row i hi hm
    refine ⟨lg, lc, r1, k.cell (p := ⟨lg, 0, none⟩) (fun he => by rcases he with e | e | e; (simp at e; omega); (simp at e; omega); exact r4 e) r2, r3, fun e => ?_⟩
    rcases mv with m | ⟨g, m, hg⟩
    · exact r4 (m ▸ e)
    · rw [m] at e
      cases e
      have := World.block_lt_of_cell? U _ r2
      simp at this
      omega
theorem G3.skip {w U : World} {base s Bc Bg pb n Mb q r : Nat} {cv : Value} {near : Nat → Int} {kv0 kv : List (Nat × Value)} (h : G3 w U base s Bc Bg pb n Mb cv near kv0 kv r q) (hno : (kv0.lookup q).isSome = false) : G3 w U base s Bc Bg pb n Mb cv near kv0 kv r (q + 1) :=
  ⟨h.nm, h.nr, h.bel, h.sm, fun i hi => h.old i (by omega), fun i hi hm => h.row i (by
    by_cases e : i = q
    · rw [e, hno] at hm; cases hm
    · omega) hm, h.sz⟩
theorem G3.given {w U U' : World} {base s Bc Bg pb n Mb q r lg lc : Nat} {cv : Value} {near : Nat → Int} {kv0 kv : List (Nat × Value)} (nl : NL w base s Bc Bg Mb pb) (h : G3 w U base s Bc Bg pb n Mb cv near kv0 kv r q) (k : Kept (fun b => b = Mb) U U') (hm0 : (kv0.lookup q).isSome = true)
    (map : MapI U' Mb (insKV kv q (sl lg 0 1 lc))) (hg : U.heap.size ≤ lg) (hc : U'.cell? ⟨lg, 0, none⟩ = some (vi q)) : G3 w U' base s Bc Bg pb n Mb cv near kv0 (insKV kv q (sl lg 0 1 lc)) r (q + 1) := by
  have a1 := nl.a1; have a2 := nl.a2; have a3 := nl.a3; have a4 := nl.a4; have a5 := nl.a5; have a6 := nl.a6; have a7 := nl.a7; have a8 := nl.a8
  have hs := h.sz
  have hob : ∀ b, cv.ownBlock = some b → base ≤ b := fun b hb => (own_block h.nm.own hb).1
  have t1 := h.nm.tab.kept k (fun e => by omega)
  have hf : U'.frozen? ⟨Bc, 0, none⟩ = false := by
    rw [World.frozen?_of_block (w := U) (k.block Bc (World.block_lt_of_cell? U _ h.nm.v2) (fun e => by omega))]
    exact h.nm.f2
  refine ⟨NM.after nl h.nm k (fun b hb => .inr (.inr (.inl hb))) (by omega) (k.cell (p := ⟨Bc, 0, none⟩) (fun e => by simp at e; omega) h.nm.v2) hf (own_kept h.nm.own k (fun g hg e => by have := hob g hg; omega)) t1 map, h.nr, h.bel.trans (k.toBelow (fun i hi he => by omega) h.bel.size), fun i => ?_, fun i hi => ?_, fun i hi hm => ?_, Nat.le_trans h.sz k.size⟩
  · rw [lookup_ins]
    by_cases e : i = q
    · rw [if_pos e, e, hm0]; rfl
    · rw [if_neg e]; exact h.sm i
  · rw [lookup_ins, if_neg (by omega)]; exact h.old i (by omega)
  · rw [lookup_ins]
    by_cases e : i = q
    · rw [if_pos e, e]
      exact ⟨lg, lc, rfl, hc, by omega, fun e2 => by
        have := (own_block h.nm.own e2).2
        obtain ⟨cur, hcur⟩ := this
        have := (Array.getElem?_eq_some_iff.1 hcur).1
        omega⟩
    · rw [if_neg e]
      obtain ⟨lg', lc', r1, r2, r3, r4⟩ := h.row i (by omega) hm
      exact ⟨lg', lc', r1, k.cell (p := ⟨lg', 0, none⟩) (fun e => by simp at e; omega) r2, r3, r4⟩
theorem G3.noned {w U U' : World} {base s Bc Bg pb n Mb q r : Nat} {cv : Value} {near : Nat → Int} {kv0 kv : List (Nat × Value)} (nl : NL w base s Bc Bg Mb pb) (h : G3 w U base s Bc Bg pb n Mb cv near kv0 kv r q) (k : Kept (fun b => b = Bc) U U')
    (v2 : U'.cell? ⟨Bc, 0, none⟩ = some cv) (f2 : U'.frozen? ⟨Bc, 0, none⟩ = false) : G3 w U' base s Bc Bg pb n Mb cv near kv0 kv r q := by
  have a1 := nl.a1; have a2 := nl.a2; have a3 := nl.a3; have a4 := nl.a4; have a5 := nl.a5; have a6 := nl.a6; have a7 := nl.a7; have a8 := nl.a8
  have hs := h.sz
  have hob : ∀ b, cv.ownBlock = some b → base ≤ b := fun b hb => (own_block h.nm.own hb).1
  refine ⟨NM.after nl h.nm k (fun b hb => .inl hb) (by omega) v2 f2 (own_kept h.nm.own k (fun g hg e => by have := hob g hg; omega)) (h.nm.tab.kept k (fun e => by omega)) (h.nm.map.kept k (fun e => by omega)), h.nr, h.bel.trans (k.toBelow (fun i hi he => by omega) h.bel.size), h.sm, h.old, fun i hi hm => ?_, Nat.le_trans h.sz k.size⟩
  obtain ⟨lg', lc', r1, r2, r3, r4⟩ := h.row i hi hm
  exact ⟨lg', lc', r1, k.cell (p := ⟨lg', 0, none⟩) (fun e => by simp at e; omega) r2, r3, r4⟩
end Go.Proofs.YbulkdsicGreat
