import Derived.Test.YbulkdsjeGreatDoorAc3
import Derived.Test.YbulkdsjeGreatDoorEqual
import Derived.Lib.AppendStr
import Derived.Laws.AppendOwnNone
set_option linter.unusedVariables false
set_option linter.unusedSimpArgs false
namespace Go.Proofs.YbulkdsjeGreatDoor
open Go.RowKit

attribute [local go_sem] Oper.semAt_some
/-- Bytes appended: v owned xs, v' owns xs ++ ys; below the old length nothing has turned. -/
structure BB (w : World) (base : Nat) (v : Value) (xs : List Value) (w' : World) (v' : Value) (ys : List Value) : Prop where
  own : w'.ownsRow base 5 1 v' (xs ++ ys).length (xs ++ ys)
  fp : FP w w' (fun c j => v.ownBlock = some c ∧ xs.length ≤ j)
  mv : Mv w v v'
theorem BB.refl {w : World} {base : Nat} {v : Value} {xs : List Value} (h : w.ownsRow base 5 1 v xs.length xs) : BB w base v xs w v [] := ⟨by rw [List.append_nil]; exact h, FP.refl _ _, Mv.refl _ _⟩
theorem BB.trans {w w1 w2 : World} {base : Nat} {v v1 v2 : Value} {xs ys zs : List Value} (h : BB w base v xs w1 v1 ys) (k : BB w1 base v1 (xs ++ ys) w2 v2 zs) : BB w base v xs w2 v2 (ys ++ zs) := by
  refine ⟨by rw [← List.append_assoc]; exact k.own, h.fp.thn k.fp (fun c j hc hx => ?_), h.mv.trans k.mv h.fp.size⟩
  obtain ⟨h1, h2⟩ := hx
  rw [List.length_append] at h2
  rcases h.mv c h1 with e | e
  · exact ⟨e, by omega⟩
  · omega
theorem BB.calm {w w1 w2 : World} {base : Nat} {v v1 : Value} {xs ys : List Value} (h : BB w base v xs w1 v1 ys) (k : Kept (fun _ => False) w1 w2) : BB w base v xs w2 v1 ys :=
  ⟨own_kept h.own k (fun _ _ h => h), h.fp.thn (FP.calm k) (fun _ _ _ h => h.elim), h.mv⟩
theorem BB.pre {w w1 w2 : World} {base : Nat} {v v1 : Value} {xs ys : List Value} (k : Kept (fun _ => False) w w1) (h : BB w1 base v xs w2 v1 ys) : BB w base v xs w2 v1 ys :=
  ⟨h.own, ((FP.calm k).mono (fun _ _ _ h => h.elim)).thn h.fp (fun _ _ _ h => h), fun c hc => (h.mv c hc).elim .inl (fun e => .inr (Nat.le_trans k.size e))⟩
/-- A byte slice whose content is ys. -/
def Src (w : World) (u : Value) (ys : List Value) : Prop := ∃ sa c, u = .slice sa ys.length c ∧ (sa = none → ys = [] ∧ c = 0) ∧ (∀ ad, sa = some ad → ∃ g o, ad = ⟨g, o, none⟩ ∧ ∀ j b, ys[j]? = some b → w.cell? ⟨g, o + j, none⟩ = some b) ∧ ys.length ≤ c
theorem fp_row {w w' : World} {g n : Nat} {cur cur' : Array Value} (hg : w.heap[g]? = some (.cells cur 5 (0, 0))) (hg' : w'.heap[g]? = some (.cells cur' 5 (0, 0))) (ht : cur'.toList.take n = cur.toList.take n) (gr : w.grownBy w' (some g)) : FP w w' (fun c j => some g = some c ∧ n ≤ j) := by
  refine ⟨gr.os, gr.tape, gr.output, gr.size, fun c j hc hn => ?_, fun c j hc => ?_, fun c hc hn => gr.block c hc (fun e => hn n ⟨e.symm, Nat.le_refl _⟩)⟩
  · by_cases e : c = g
    · subst e
      have hj : j < n := by
        apply Classical.byContradiction
        intro h
        exact hn ⟨rfl, by omega⟩
      have e1 : cur'.toList[j]? = cur.toList[j]? := by
        have h1 : (cur'.toList.take n)[j]? = (cur.toList.take n)[j]? := by rw [ht]
        rwa [List.getElem?_take_of_lt hj, List.getElem?_take_of_lt hj] at h1
      simp only [World.cell?, hg, hg']
      simpa using e1
    · exact World.cell?_of_block (a := ⟨c, j, none⟩) (gr.block c hc (fun h => e (by cases h; rfl)))
  · by_cases e : c = g
    · subst e
      simp [World.frozen?, hg, hg']
    · exact World.frozen?_of_block (a := ⟨c, j, none⟩) (gr.block c hc (fun h => e (by cases h; rfl)))
theorem run_bytes (w : World) (ty : TypeId) (base : Nat) (v : Value) (xs : List Value) (hown : w.ownsRow base 5 1 v xs.length xs) (a : Addr) (c : Nat) (news : List Value) (hnews : ∀ j u, news[j]? = some u → w.cell? (a.add j) = some u) (h1 : ∀ u ∈ news, u.oneCell' = true) (hl : xs.length + news.length ≤ 10995116277760) (hb : base ≤ w.heap.size) :
    ∃ v' w', (Builtin.append_ #[22, 22] ty #[v, .slice (some a) news.length c]).run Ybaz.prog w = .ok v' w' ∧ BB w base v xs w' v' news := by
  obtain ⟨i5, hi5, hz5, hs5, hb5⟩ := info_parts Ybaz.info5
  obtain ⟨v', w', hr, h2, h3, _, h5⟩ := run_append_own_at (P := Ybaz.prog) w base 22 ty 5 i5 (.int .u8 0) 1 1 Ybaz.underlying22 hi5 hz5 hs5 hb5 rfl (by decide) v xs.length xs hown a news.length c news (by omega) hnews h1 (by unfold maxLen; omega) (by omega) hb
  refine ⟨v', w', hr, ⟨by rw [List.length_append]; exact h2, ?_, fun b hb => ?_⟩⟩
  · rcases hown.2 with ⟨rfl, _⟩ | ⟨g, cap, cur, rfl, hbg, hg, hnc, hcm, hcs, htake⟩
    · exact (FP.calm ((Kept.refl _ w).grown h3 (fun k hk => by cases hk))).mono (fun _ _ _ h => h.elim)
    · by_cases room : xs.length + news.length ≤ cap
      · have hr2 := run_append_room (P := Ybaz.prog) w 22 ty 5 i5 Ybaz.underlying22 hi5 g xs.length cap cur hg a news.length c news (by rw [hs5]; omega) hnews h1 room (by rw [hs5]; omega)
        rw [hr] at hr2
        obtain ⟨ev, ew⟩ := Result.ok.inj hr2
        have hg' := setRow_heap w g cur (List.take (xs.length * i5.size) cur.toList ++ news ++ List.drop (xs.length * i5.size + news.length) cur.toList).toArray 5 (0, 0) hg
        rw [← ew] at hg'
        refine fp_row hg hg' ?_ h3
        simp only [hs5, Nat.mul_one, List.append_assoc]
        rw [List.take_append_of_le_length (by simp; omega), List.take_take, Nat.min_self]
      · have holds : ∀ j u, xs[j]? = some u → w.cell? ((⟨g, 0, none⟩ : Addr).add j) = some u := hown.cells (g := g) rfl
        have hr2 := run_append_grow (P := Ybaz.prog) w 22 ty 5 i5 (.int .u8 0) Ybaz.underlying22 hi5 hz5 ⟨g, 0, none⟩ xs.length cap xs (by rw [hs5]; omega) holds a news.length c news (by rw [hs5]; omega) hnews (by omega) (by omega) (growslice_fits (by omega) (by rw [hb5]; omega))
        rw [hr] at hr2
        obtain ⟨ev, ew⟩ := Result.ok.inj hr2
        rw [ew]
        exact (FP.calm (((Kept.refl _ w).drew).alloc _)).mono (fun _ _ _ h => h.elim)
  · rcases h5 with e | e
    · exact .inl (by rw [← e]; exact hb)
    · rw [e] at hb; cases hb; exact .inr (Nat.le_refl _)
theorem run_bytes_str (w : World) (ty : TypeId) (base : Nat) (v : Value) (xs : List Value) (hown : w.ownsRow base 5 1 v xs.length xs) (s : ByteArray) (hl : xs.length + s.size ≤ 10995116277760) (hb : base ≤ w.heap.size) :
    ∃ v' w', (Builtin.append_ #[22, 9] ty #[v, .string s]).run Ybaz.prog w = .ok v' w' ∧ BB w base v xs w' v' (Lib.strCells s) := by
  obtain ⟨i5, hi5, hz5, hs5, hb5⟩ := info_parts Ybaz.info5
  obtain ⟨v', w', hr, h2, h3, _⟩ := Lib.run_append_own_string (P := Ybaz.prog) w base 22 9 ty 5 i5 Ybaz.underlying22 Ybaz.underlying9 hi5 hz5 hs5 hb5 v xs.length xs hown s (by unfold maxLen; omega) (by omega) hb
  have key : FP w w' (fun c j => v.ownBlock = some c ∧ xs.length ≤ j) ∧ Mv w v v' := by
    rcases hown.2 with ⟨rfl, h0⟩ | ⟨g, cap, cur, rfl, hbg, hg, hnc, hcm, hcs, htake⟩
    · refine ⟨(FP.calm ((Kept.refl _ w).grown h3 (fun k hk => by cases hk))).mono (fun _ _ _ h => h.elim), fun c hc => .inr ?_⟩
      obtain ⟨v2, w2, hr2, k2, _⟩ := Lib.run_append_own_string (P := Ybaz.prog) w w.heap.size 22 9 ty 5 i5 Ybaz.underlying22 Ybaz.underlying9 hi5 hz5 hs5 hb5 (.slice none 0 0) xs.length xs ⟨hown.1, .inl ⟨rfl, h0⟩⟩ s (by unfold maxLen; omega) (by omega) (Nat.le_refl _)
      rw [hr] at hr2
      obtain ⟨ev, ew⟩ := Result.ok.inj hr2
      rw [← ev] at k2
      exact (k2.lt c hc).1
    · by_cases room : xs.length + s.size ≤ cap
      · have hr2 := Lib.run_append_room_string (P := Ybaz.prog) w 22 9 ty 5 i5 Ybaz.underlying22 Ybaz.underlying9 hi5 hs5 g xs.length cap cur hg s room (by omega)
        rw [hr] at hr2
        obtain ⟨ev, ew⟩ := Result.ok.inj hr2
        have hg' := setRow_heap w g cur (List.take xs.length cur.toList ++ Lib.strCells s ++ List.drop (xs.length + s.size) cur.toList).toArray 5 (0, 0) hg
        rw [← ew] at hg'
        refine ⟨fp_row hg hg' ?_ h3, fun c hc => .inl ?_⟩
        · simp only [List.append_assoc]
          rw [List.take_append_of_le_length (by simp; omega), List.take_take, Nat.min_self]
        · rw [ev] at hc; exact hc
      · have holds : ∀ j u, xs[j]? = some u → w.cell? ((⟨g, 0, none⟩ : Addr).add j) = some u := hown.cells (g := g) rfl
        have hr2 := Lib.run_append_grow_string (P := Ybaz.prog) w 22 9 ty 5 i5 (.int .u8 0) Ybaz.underlying22 Ybaz.underlying9 hi5 hz5 ⟨g, 0, none⟩ xs.length cap xs (by rw [hs5]; omega) holds s (by omega) (by omega) (by rw [hb5]; exact growslice_fits (by omega) (by omega))
        rw [hr] at hr2
        obtain ⟨ev, ew⟩ := Result.ok.inj hr2
        refine ⟨?_, fun c hc => .inr ?_⟩
        · rw [ew]
          exact (FP.calm (((Kept.refl _ w).drew).alloc _)).mono (fun _ _ _ h => h.elim)
        · rw [ev] at hc
          cases hc
          exact Nat.le_refl _
  exact ⟨v', w', hr, ⟨by rw [List.length_append, Lib.strCells_length]; exact h2, key.1, key.2⟩⟩
end Go.Proofs.YbulkdsjeGreatDoor
