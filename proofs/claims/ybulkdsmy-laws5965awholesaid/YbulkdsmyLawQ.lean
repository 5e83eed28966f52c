import Derived.Test.YbulkdsmyLawR
import Derived.Laws.AppendOwnNone
import Derived.Laws.IdiomStrings
set_option linter.unusedSimpArgs false
namespace Go.Proofs.Ybulkdsmy
open Go.RowKit

/-- A row of peers, as the law's caller gives them. -/
def rawc (L : List Pr) : List Value := L.flatMap rwc
theorem rawc_len (L : List Pr) : (rawc L).length = L.length * 2 := by
  induction L with
  | nil => rfl
  | cons p L ih => simp only [rawc, List.flatMap_cons, List.length_append, List.length_cons] at *; rw [ih, rwc_len]; omega
theorem rawc_snoc (L : List Pr) (p : Pr) : rawc (L ++ [p]) = rawc L ++ rwc p := by simp [rawc]
theorem rawc_append (L L' : List Pr) : rawc (L ++ L') = rawc L ++ rawc L' := by simp [rawc]
theorem rawc_one (L : List Pr) : ∀ v ∈ rawc L, v.oneCell' = true := by
  intro u hu
  obtain ⟨p, _, hp⟩ := List.mem_flatMap.1 hu
  exact rwc_one p u hp
theorem rawc_in : ∀ (L : List Pr) (j : Nat) (u : Value), (rawc L)[j]? = some u → ∃ i p r, L[i]? = some p ∧ (rwc p)[r]? = some u ∧ j = i * 2 + r
  | [], j, u, h => by simp [rawc] at h
  | p :: L, j, u, h => by
    have e : rawc (p :: L) = rwc p ++ rawc L := by simp [rawc]
    rw [e] at h
    rcases Nat.lt_or_ge j 2 with hj | hj
    · rw [List.getElem?_append_left (by rw [rwc_len]; exact hj)] at h
      exact ⟨0, p, j, rfl, h, by omega⟩
    · rw [List.getElem?_append_right (by rw [rwc_len]; exact hj), rwc_len] at h
      obtain ⟨i, q, r, h1, h2, h3⟩ := rawc_in L (j - 2) u h
      exact ⟨i + 1, q, r, by simpa using h1, h2, by omega⟩
theorem rawc_at : ∀ (L : List Pr) (i : Nat) (p : Pr), L[i]? = some p → ∀ j v, (rwc p)[j]? = some v → (rawc L)[i * 2 + j]? = some v
  | [], i, p, h => by simp at h
  | q :: L, i, p, h => by
    intro j v hv
    have e : rawc (q :: L) = rwc q ++ rawc L := by simp [rawc]
    rw [e]
    have hj : j < 2 := (List.getElem?_eq_some_iff.1 hv).1
    cases i with
    | zero =>
      obtain rfl : q = p := by simpa using h
      rw [List.getElem?_append_left (by rw [rwc_len]; omega)]
      simpa using hv
    | succ i =>
      rw [List.getElem?_append_right (by rw [rwc_len]; omega), rwc_len, show (i + 1) * 2 + j - 2 = i * 2 + j by omega]
      exact rawc_at L i p (by simpa using h) j v hv

/-- A row of its own, read. -/
theorem own_raw {w : World} {base : Nat} {v : Value} {L : List Pr} (h : w.ownsRow base 23 2 v L.length (rawc L)) : ∃ sa cap, v = .slice sa L.length cap ∧ ∀ i p, L[i]? = some p → ∃ g, sa = some ⟨g, 0, none⟩ ∧ w.rangeAt g (i * 2) (rwc p) := by
  rcases h.2 with ⟨rfl, h0⟩ | ⟨g, cap, cur, rfl, _, hb, hc, _, hs, ht⟩
  · refine ⟨none, 0, by rw [h0], fun i p hp => ?_⟩
    have := (List.getElem?_eq_some_iff.1 hp).1
    omega
  · refine ⟨_, cap, rfl, fun i p hp => ⟨g, rfl, fun j v hv => ?_⟩⟩
    have h1 := rawc_at L i p hp j v hv
    rw [← ht] at h1
    have hlt := (List.getElem?_eq_some_iff.1 h1).1
    rw [List.getElem?_take_of_lt (by rw [List.length_take] at hlt; omega)] at h1
    unfold World.cell?
    simp only [hb]
    simpa using h1
theorem own_sils {w : World} {base : Nat} {v : Value} {S : List Sl} (h : w.ownsRow base 38 21 v S.length (S.flatMap slc)) : ∃ sa cap, v = .slice sa S.length cap ∧ ∀ i s, S[i]? = some s → ∃ g, sa = some ⟨g, 0, none⟩ ∧ w.rangeAt g (i * 21) (slc s) := by
  have at' : ∀ (L : List Sl) (i : Nat) (p : Sl), L[i]? = some p → ∀ j v, (slc p)[j]? = some v → (L.flatMap slc)[i * 21 + j]? = some v := by
    intro L
    induction L with
    | nil => intro i p h; simp at h
    | cons q L ih =>
      intro i p h j v hv
      have e : (q :: L).flatMap slc = slc q ++ L.flatMap slc := by simp
      rw [e]
      have hj : j < 21 := by have := (List.getElem?_eq_some_iff.1 hv).1; rwa [slc_len] at this
      cases i with
      | zero =>
        obtain rfl : q = p := by simpa using h
        rw [List.getElem?_append_left (by rw [slc_len]; omega)]
        simpa using hv
      | succ i =>
        rw [List.getElem?_append_right (by rw [slc_len]; omega), slc_len, show (i + 1) * 21 + j - 21 = i * 21 + j by omega]
        exact ih i p (by simpa using h) j v hv
  rcases h.2 with ⟨rfl, h0⟩ | ⟨g, cap, cur, rfl, _, hb, hc, _, hs, ht⟩
  · refine ⟨none, 0, by rw [h0], fun i p hp => ?_⟩
    have := (List.getElem?_eq_some_iff.1 hp).1
    omega
  · refine ⟨_, cap, rfl, fun i p hp => ⟨g, rfl, fun j v hv => ?_⟩⟩
    have h1 := at' S i p hp j v hv
    rw [← ht] at h1
    have hlt := (List.getElem?_eq_some_iff.1 h1).1
    rw [List.getElem?_take_of_lt (by rw [List.length_take] at hlt; omega)] at h1
    unfold World.cell?
    simp only [hb]
    simpa using h1

theorem add_at (g o j : Nat) : (⟨g, o, none⟩ : Addr).add j = ⟨g, o + j, none⟩ := by unfold Addr.add; split <;> simp_all
theorem al23z (w : World) : Sem.run Yba.prog (Instr.alloc 23 true (.tuple #[])) w = .ok (.pointer (some ⟨w.heap.size, 0, none⟩)) (w.alloc (.cells (rwc zp).toArray 23)) := by kernel_rfl
theorem info23a (p : Pr) : (Yba.prog.info? 23).map (·.size) = some (rwc p).toArray.size := by rw [List.size_toArray]; exact info23 p
theorem one23 (p : Pr) : (rwc p).toArray.all (·.oneCell') = true := all_oneCell_toArray (rwc_one p)

/-- The new cell's row, behind 'append'. -/
theorem new_news {w : World} {cs : List Value} {t : TypeId} : ∀ j u, cs[j]? = some u → (w.alloc (.cells cs.toArray t)).cell? ((⟨w.heap.size, 0, none⟩ : Addr).add j) = some u := fun j u hu => by
  rw [add_at]
  exact range_new w cs t j u hu
theorem grown_below {w w' : World} {row : Option Nat} (h : w.grownBy w' row) {n : Nat} (hr : ∀ k, row = some k → n ≤ k) (hn : n ≤ w.heap.size) : Below n w w' :=
  ⟨h.os, h.tape, h.output, h.size, fun k hk => h.block k (by omega) (fun he => by have := hr k he.symm; omega)⟩
theorem own_ge {w : World} {base e size n : Nat} {v : Value} {xs : List Value} (h : w.ownsRow base e size v n xs) : ∀ k, v.ownBlock = some k → base ≤ k := fun k hk => by
  rcases h.2 with ⟨rfl, _⟩ | ⟨g, cap, cur, rfl, h1, _⟩
  · cases hk
  · have e : g = k := Option.some.inj hk
    omega
theorem own_nil (w : World) (base e size : Nat) : w.ownsRow base e size (.slice none 0 0) 0 [] := ⟨by simp, .inl ⟨rfl, rfl⟩⟩
theorem own_base {w : World} {base base' e size n : Nat} {v : Value} {xs : List Value} (h : w.ownsRow base e size v n xs) (hb : ∀ k, v.ownBlock = some k → base' ≤ k) : w.ownsRow base' e size v n xs := by
  refine ⟨h.1, ?_⟩
  rcases h.2 with h0 | ⟨g, cap, cur, rfl, h1, h2⟩
  · exact .inl h0
  · exact .inr ⟨g, cap, cur, rfl, hb g rfl, h2⟩

theorem has_take_succ {C : List Pr} {j : Nat} {q : Pr} (hq : C[j]? = some q) (b : Int) : has (C.take (j + 1)) b = (has (C.take j) b || decide (q.b = b)) := by
  rw [List.take_add_one, hq]
  simp [has]
theorem has_take_le {C : List Pr} {i j : Nat} (h : i ≤ j) {b : Int} (hh : has (C.take i) b = true) : has (C.take j) b = true := by
  unfold has at *
  rw [List.any_eq_true] at *
  obtain ⟨q, hq, hb⟩ := hh
  exact ⟨q, (List.take_subset_take_left _ h) hq, hb⟩

theorem fold_sub (se : Pr) : ∀ (l L : List Pr) (q : Pr), q ∈ l.foldl (addTo se) L → q ∈ L ∨ q ∈ l
  | [], L, q, h => .inl h
  | p :: l, L, q, h => by
    rw [List.foldl_cons] at h
    rcases fold_sub se l (addTo se L p) q h with h1 | h1
    · unfold addTo at h1
      split at h1
      · exact .inl h1
      · rcases List.mem_append.1 h1 with h2 | h2
        · exact .inl h2
        · exact .inr (by simp at h2; simp [h2])
    · exact .inr (by simp [h1])
theorem linked_sub (se : Pr) (l : List Pr) (q : Pr) (h : q ∈ linked se l) : q ∈ l := by
  rcases fold_sub se l [] q h with h1 | h1
  · cases h1
  · exact h1
theorem has_take_all {L : List Pr} {n : Nat} (h : n = L.length) (b : Int) : has (L.take n) b = has L b := by rw [h, List.take_length]
theorem filt_snoc {Q : List Sl} {m : Nat} {s : Sl} (hs : Q[m]? = some s) (f : Sl → Bool) : (Q.take (m + 1)).filter f = if f s then (Q.take m).filter f ++ [s] else (Q.take m).filter f := by
  rw [List.take_add_one, hs, List.filter_append]
  by_cases h : f s = true
  · simp [h]
  · simp [h]
theorem neq31_self (p : Pr) (hp : p.ok) (w : World) : (binOp .neq 31 (.agg (prc p).toArray) (.agg (prc p).toArray)).run Yba.prog w = .ok (.bool false) w := by
  rw [neq31 p p hp hp, same_self]; rfl
theorem eql31_self (p : Pr) (hp : p.ok) (w : World) : (binOp .eql 31 (.agg (prc p).toArray) (.agg (prc p).toArray)).run Yba.prog w = .ok (.bool true) w := by
  rw [eql31 p p hp hp, same_self]

/-- 'string(log)' -/
theorem log3 (w : World) (g cap : Nat) (h : w.rangeAt g 0 [.int .u8 76, .int .u8 82, .int .u8 72]) : (convert 43 9 (.slice (some ⟨g, 0, none⟩) 3 cap)).run Yba.prog w = .ok (.string ⟨#[76, 82, 72]⟩) w :=
  run_convert_bytes_back w 43 9 5 ⟨g, 0, none⟩ cap [76, 82, 72] Yba.underlying43 Yba.underlying5 Yba.underlying9 (fun j hj => by
    rw [add_at]
    have : j = 0 ∨ j = 1 ∨ j = 2 := by simp at hj; omega
    rcases this with rfl | rfl | rfl
    · exact h 0 _ rfl
    · exact h 1 _ rfl
    · exact h 2 _ rfl)
theorem log2 (w : World) (g cap : Nat) (h : w.rangeAt g 0 [.int .u8 76, .int .u8 82]) : (convert 43 9 (.slice (some ⟨g, 0, none⟩) 2 cap)).run Yba.prog w = .ok (.string ⟨#[76, 82]⟩) w :=
  run_convert_bytes_back w 43 9 5 ⟨g, 0, none⟩ cap [76, 82] Yba.underlying43 Yba.underlying5 Yba.underlying9 (fun j hj => by
    rw [add_at]
    have : j = 0 ∨ j = 1 := by simp at hj; omega
    rcases this with rfl | rfl
    · exact h 0 _ rfl
    · exact h 1 _ rfl)
end Go.Proofs.Ybulkdsmy
