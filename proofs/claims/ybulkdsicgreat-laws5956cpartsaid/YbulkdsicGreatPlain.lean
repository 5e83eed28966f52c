import Derived.Test.YbulkdsicGreatBat
set_option linter.unusedVariables false
set_option linter.unusedSimpArgs false
set_option linter.unusedSectionVars false
namespace Go.Proofs.YbulkdsicGreat
open Go.RowKit

/-- Who leads k, when the first i services are joined. -/
def rt (pr : Nat → Option Nat) : Nat → Nat → Nat
  | 0, k => k
  | i + 1, k => if k = i then (match pr i with | some j => rt pr i j | none => i) else rt pr i k
/-- How many of the first i lead. -/
def rk (pr : Nat → Option Nat) : Nat → Nat
  | 0 => 0
  | i + 1 => rk pr i + (if (pr i).isSome then 0 else 1)

def Low (m : Nat) (pr : Nat → Option Nat) : Prop := ∀ i j, i < m → pr i = some j → j < i

section
variable {pr : Nat → Option Nat} {m : Nat}
theorem rt_ge (hl : Low m pr) : ∀ i k, i ≤ k → rt pr i k = k
  | 0, k, _ => rfl
  | i + 1, k, h => by
    unfold rt
    rw [if_neg (by omega)]
    exact rt_ge hl i k (by omega)
theorem rt_le (hl : Low m pr) : ∀ i, i ≤ m → ∀ k, rt pr i k ≤ k
  | 0, _, k => Nat.le_refl _
  | i + 1, h, k => by
    unfold rt
    split
    · rename_i e
      subst e
      cases hp : pr k with
      | none => exact Nat.le_refl _
      | some j => have := rt_le hl k (by omega) j; have := hl k j (by omega) hp; simp; omega
    · exact rt_le hl i (by omega) k
theorem rt_idem (hl : Low m pr) : ∀ i, i ≤ m → ∀ k, rt pr i (rt pr i k) = rt pr i k
  | 0, _, k => rfl
  | i + 1, h, k => by
    have hstep : ∀ x, x ≠ i → rt pr (i + 1) x = rt pr i x := fun x hx => by conv => lhs; unfold rt; rw [if_neg hx]
    by_cases e : k = i
    · subst e
      cases hp : pr k with
      | none =>
        have e1 : rt pr (k + 1) k = k := by conv => lhs; unfold rt; rw [if_pos rfl]; simp only [hp]
        rw [e1, e1]
      | some j =>
        have e1 : rt pr (k + 1) k = rt pr k j := by conv => lhs; unfold rt; rw [if_pos rfl]; simp only [hp]
        have h1 := rt_le hl k (by omega) j
        have h2 := hl k j (by omega) hp
        rw [e1, hstep _ (by omega)]
        exact rt_idem hl k (by omega) j
    · rw [hstep k e]
      by_cases e2 : rt pr i k = i
      · have h1 := rt_le hl i (by omega) k
        have h3 : i < k := by omega
        rw [rt_ge hl i k (by omega)] at e2
        omega
      · rw [hstep _ e2]
        exact rt_idem hl i (by omega) k
theorem rt_more (hl : Low m pr) : ∀ i i' k, k < i → i ≤ i' → rt pr i' k = rt pr i k := by
  intro i i' k hk h
  induction h with
  | refl => rfl
  | @step j h ih =>
    have hne : k ≠ j := by have : i ≤ j := h; omega
    rw [← ih]; conv => lhs; unfold rt; rw [if_neg hne]
theorem rt_root (hl : Low m pr) : ∀ i, i ≤ m → ∀ k, k < i → pr (rt pr i k) = none
  | 0, _, k, h => by omega
  | i + 1, h, k, hk => by
    have hstep : ∀ x, x ≠ i → rt pr (i + 1) x = rt pr i x := fun x hx => by conv => lhs; unfold rt; rw [if_neg hx]
    by_cases e : k = i
    · subst e
      cases hp : pr k with
      | none =>
        have e1 : rt pr (k + 1) k = k := by conv => lhs; unfold rt; rw [if_pos rfl]; simp only [hp]
        rw [e1]; exact hp
      | some j =>
        have e1 : rt pr (k + 1) k = rt pr k j := by conv => lhs; unfold rt; rw [if_pos rfl]; simp only [hp]
        rw [e1]
        exact rt_root hl k (by omega) j (hl k j (by omega) hp)
    · rw [hstep k e]
      exact rt_root hl i (by omega) k (by omega)
end

theorem rk_le (pr : Nat → Option Nat) : ∀ i, rk pr i ≤ i
  | 0 => Nat.le_refl _
  | i + 1 => by have := rk_le pr i; simp only [rk]; split <;> omega
theorem rk_mono (pr : Nat → Option Nat) {i j : Nat} (h : i ≤ j) : rk pr i ≤ rk pr j := by
  induction h with
  | refl => exact Nat.le_refl _
  | step _ ih => simp only [rk]; omega
theorem rk_lt {pr : Nat → Option Nat} {i j : Nat} (h : i < j) (hp : pr i = none) : rk pr i < rk pr j := by
  have := rk_mono pr (show i + 1 ≤ j by omega)
  have e : rk pr (i + 1) = rk pr i + 1 := by simp [rk, hp]
  omega

/-- The k-th group, of the first i services. -/
def row (pr : Nat → Option Nat) (R : Nat → Nat) (i k : Nat) : List Nat := (List.range i).filter (fun x => decide (rk pr (R x) = k))
theorem row_succ (pr : Nat → Option Nat) (R : Nat → Nat) (i k : Nat) : row pr R (i + 1) k = row pr R i k ++ (if rk pr (R i) = k then [i] else []) := by
  unfold row
  rw [List.range_succ, List.filter_append]
  congr 1
  by_cases h : rk pr (R i) = k <;> simp [h]
theorem row_len (pr : Nat → Option Nat) (R : Nat → Nat) (i k : Nat) : (row pr R i k).length ≤ i := by
  unfold row
  have := List.length_filter_le (fun x => decide (rk pr (R x) = k)) (List.range i)
  simpa using this
def groups (pr : Nat → Option Nat) (R : Nat → Nat) (i : Nat) : List (List Nat) := (List.range (rk pr i)).map (row pr R i)

/-! ### Rows that are grown -/
structure OR (W : World) (base : Nat) (ov : Value) (vals : List Value) (gs : List (List Nat)) : Prop where
  out : W.ownsRow base 26 1 ov vals.length vals
  len : vals.length = gs.length
  own : ∀ (k : Nat) v g, vals[k]? = some v → gs[k]? = some g → W.ownsRow base 3 1 v g.length (g.map vi)
  sep : ∀ (k k' : Nat) v v' b, vals[k]? = some v → vals[k']? = some v' → v.ownBlock = some b → v'.ownBlock = some b → k = k'
theorem OR.nil (W : World) (base : Nat) : OR W base (.slice none 0 0) [] [] := ⟨⟨rfl, .inl ⟨rfl, rfl⟩⟩, rfl, fun _ _ _ h => by simp at h, fun _ _ _ _ _ h => by simp at h⟩
theorem OR.kept {E : Nat → Prop} {W W' : World} {base : Nat} {ov : Value} {vals : List Value} {gs : List (List Nat)} (h : OR W base ov vals gs) (k : Kept E W W') (hE : ∀ b, E b → b < base) : OR W' base ov vals gs :=
  ⟨own_kept h.out k (fun g hg he => by have := (own_block h.out hg).1; have := hE g he; omega), h.len, fun k' v g hv hg => own_kept (h.own k' v g hv hg) k (fun b hb he => by have := (own_block (h.own k' v g hv hg) hb).1; have := hE b he; omega), h.sep⟩

/-- The outer row's block is none of the inner ones'. -/
theorem OR.apart {W : World} {base : Nat} {ov : Value} {vals : List Value} {gs : List (List Nat)} (h : OR W base ov vals gs) {k : Nat} {v : Value} {b : Nat} (hv : vals[k]? = some v) (hb : v.ownBlock = some b) : ov.ownBlock ≠ some b := fun ho => by
  have hk : k < gs.length := by rw [← h.len]; exact (List.getElem?_eq_some_iff.1 hv).1
  obtain ⟨_, c1, h1⟩ := own_block h.out ho
  obtain ⟨_, c2, h2⟩ := own_block (h.own k v gs[k] hv (List.getElem?_eq_getElem hk)) hb
  rw [h1] at h2
  cases h2

/-- One row more. -/
theorem OR.grow {W W1 : World} {base : Nat} {ov ov' u : Value} {vals : List Value} {gs : List (List Nat)} {g : List Nat} (h : OR W base ov vals gs) (hu : W.ownsRow base 3 1 u g.length (g.map vi)) (hsep : ∀ (k : Nat) v b, vals[k]? = some v → v.ownBlock = some b → u.ownBlock ≠ some b)
    (own1 : W1.ownsRow base 26 1 ov' (vals.length + 1) (vals ++ [u])) (gr : W.grownBy W1 ov.ownBlock) : OR W1 base ov' (vals ++ [u]) (gs ++ [g]) := by
  have ka : ∀ {v : Value} {n : Nat} {xs : List Value}, W.ownsRow base 3 1 v n xs → W1.ownsRow base 3 1 v n xs := fun {v n xs} hv => by
    refine own_kept hv (((Kept.refl (fun b => ov.ownBlock = some b) W)).grown gr (fun k hk => .inl hk)) (fun b hb ho => ?_)
    obtain ⟨_, c1, h1⟩ := own_block h.out ho
    obtain ⟨_, c2, h2⟩ := own_block hv hb
    rw [h1] at h2
    cases h2
  refine ⟨by simpa using own1, by simp [h.len], fun k v g' hv hg => ?_, fun k k' v v' b hv hv' hb hb' => ?_⟩
  · rcases Nat.lt_or_ge k vals.length with hk | hk
    · rw [List.getElem?_append_left hk] at hv
      rw [List.getElem?_append_left (by rw [← h.len]; exact hk)] at hg
      exact ka (h.own k v g' hv hg)
    · rw [List.getElem?_append_right hk] at hv
      rw [List.getElem?_append_right (by rw [← h.len]; exact hk), ← h.len] at hg
      have hk0 : k - vals.length = 0 := by
        have := (List.getElem?_eq_some_iff.1 hv).1
        simp at this; omega
      rw [hk0] at hv hg
      simp at hv hg
      subst hv; subst hg
      exact ka hu
  · rcases Nat.lt_or_ge k vals.length with hk | hk <;> rcases Nat.lt_or_ge k' vals.length with hk' | hk'
    · rw [List.getElem?_append_left hk] at hv
      rw [List.getElem?_append_left hk'] at hv'
      exact h.sep k k' v v' b hv hv' hb hb'
    · rw [List.getElem?_append_left hk] at hv
      rw [List.getElem?_append_right hk'] at hv'
      have := List.mem_of_getElem? hv'
      simp at this; subst this
      exact absurd hb' (hsep k v b hv hb)
    · rw [List.getElem?_append_right hk] at hv
      rw [List.getElem?_append_left hk'] at hv'
      have := List.mem_of_getElem? hv
      simp at this; subst this
      exact absurd hb (hsep k' v' b hv' hb')
    · have h1 := (List.getElem?_eq_some_iff.1 hv).1
      have h2 := (List.getElem?_eq_some_iff.1 hv').1
      simp at h1 h2
      omega

/-- One element more at the end of row k. -/
theorem OR.push {W W1 : World} {base k x : Nat} {ov v v' : Value} {vals : List Value} {gs : List (List Nat)} {g : List Nat} {og oc : Nat} (h : OR W base ov vals gs) (hov : ov = sl og 0 vals.length oc) (hv : vals[k]? = some v) (hg : gs[k]? = some g)
    (own1 : W1.ownsRow base 3 1 v' (g.length + 1) (g.map vi ++ [vi x])) (gr : W.grownBy W1 v.ownBlock) (mv : v'.ownBlock = v.ownBlock ∨ v'.ownBlock = some W.heap.size) :
    OR (W1.setCell ⟨og, k, none⟩ v') base ov (vals.set k v') (gs.set k (g ++ [x])) ∧ W1.cell? ⟨og, k, none⟩ = some v ∧ W1.frozen? ⟨og, k, none⟩ = false ∧ W1.cell? ⟨og, k, none⟩ = some v := by
  have hk : k < vals.length := (List.getElem?_eq_some_iff.1 hv).1
  have kw : Kept (fun b => v.ownBlock = some b) W W1 := (Kept.refl _ W).grown gr (fun _ hk => .inl hk)
  have hout : W1.ownsRow base 26 1 ov vals.length vals := own_kept h.out kw (fun b hb he => h.apart hv he hb)
  have ogl : og < W.heap.size := by
    have : ov.ownBlock = some og := by rw [hov]; rfl
    exact ownBlock_lt h.out this
  have hcell : W1.cell? ⟨og, k, none⟩ = some v ∧ W1.frozen? ⟨og, k, none⟩ = false := by
    obtain ⟨g', c', e, h1, h2⟩ := own_cell hout hv
    rw [hov] at e
    cases e
    exact ⟨h1, h2⟩
  have kset : Kept (fun b => b = og) W1 (W1.setCell ⟨og, k, none⟩ v') := (Kept.refl (fun b => b = og) W1).setCell (p := ⟨og, k, none⟩) (.inl rfl) _
  have ogo : ov.ownBlock = some og := by rw [hov]; rfl
  refine ⟨⟨?_, by simp [h.len], fun j u gj hu hgj => ?_, fun j j' u u' b hu hu' hb hb' => ?_⟩, hcell.1, hcell.2, hcell.1⟩
  · rw [hov] at hout ⊢
    rw [List.length_set]
    exact own_set hout k hk v'
  · by_cases hj : j = k
    · subst hj
      rw [List.getElem?_set_self hk] at hu
      rw [List.getElem?_set_self (by rw [← h.len]; exact hk)] at hgj
      cases hu; cases hgj
      have := own_kept own1 kset (fun b hb he => by
        rcases mv with e | e
        · rw [e] at hb
          exact h.apart hv hb (by rw [ogo, he])
        · rw [e] at hb
          cases hb
          have := ogl
          omega)
      simpa using this
    · rw [List.getElem?_set_ne (Ne.symm hj)] at hu hgj
      have h0 := h.own j u gj hu hgj
      refine own_kept (own_kept h0 kw (fun b hb he => hj (h.sep j k u v b hu hv hb he))) kset (fun b hb he => ?_)
      exact h.apart hu hb (by rw [ogo, he])
  · have key : ∀ {j : Nat} {u : Value} {b : Nat}, j ≠ k → vals[j]? = some u → u.ownBlock = some b → v'.ownBlock ≠ some b := fun {j u b} hj hu hb he => by
      rcases mv with e | e
      · rw [e] at he
        exact hj (h.sep j k u v b hu hv hb he)
      · rw [e] at he
        cases he
        have hjl : j < gs.length := by rw [← h.len]; exact (List.getElem?_eq_some_iff.1 hu).1
        have := ownBlock_lt (h.own j u gs[j] hu (List.getElem?_eq_getElem hjl)) hb
        omega
    by_cases hj : j = k <;> by_cases hj' : j' = k
    · rw [hj, hj']
    · subst hj
      rw [List.getElem?_set_self hk] at hu
      rw [List.getElem?_set_ne (Ne.symm hj')] at hu'
      cases hu
      exact absurd hb (key hj' hu' hb')
    · subst hj'
      rw [List.getElem?_set_self hk] at hu'
      rw [List.getElem?_set_ne (Ne.symm hj)] at hu
      cases hu'
      exact absurd hb' (key hj hu hb)
    · rw [List.getElem?_set_ne (Ne.symm hj)] at hu
      rw [List.getElem?_set_ne (Ne.symm hj')] at hu'
      exact h.sep j j' u u' b hu hu' hb hb'

section
variable {pr : Nat → Option Nat} {m : Nat}
theorem rt_at (hl : Low m pr) {k : Nat} (hk : k < m) : rt pr m k = match pr k with | some j => rt pr m j | none => k := by
  rw [rt_more hl (k + 1) m k (by omega) (by omega)]
  conv => lhs; unfold rt; rw [if_pos rfl]
  cases hp : pr k with
  | none => rfl
  | some j =>
    have := hl k j hk hp
    show rt pr k j = rt pr m j
    rw [rt_more hl k m j (by omega) (by omega)]
theorem rt_lead (hl : Low m pr) {k : Nat} (hk : k < m) : pr (rt pr m k) = none := rt_root hl m (Nat.le_refl _) k hk
theorem groups_len (hl : Low m pr) (i : Nat) : (groups pr (rt pr m) i).length = rk pr i := by simp [groups]
theorem groups_at (hl : Low m pr) {i k : Nat} (h : k < rk pr i) : (groups pr (rt pr m) i)[k]? = some (row pr (rt pr m) i k) := by simp [groups, h]
/-- A service that waits joins its leader's group. -/
theorem groups_old (hl : Low m pr) {k j : Nat} (hk : k < m) (hp : pr k = some j) : rk pr (rt pr m k) < rk pr k ∧ groups pr (rt pr m) (k + 1) = (groups pr (rt pr m) k).set (rk pr (rt pr m k)) (row pr (rt pr m) k (rk pr (rt pr m k)) ++ [k]) := by
  have e : rk pr (k + 1) = rk pr k := by simp [rk, hp]
  have hR : rt pr m k < k := by
    have h1 := rt_at hl hk
    rw [hp] at h1
    have h2 := rt_le hl m (Nat.le_refl _) j
    have := hl k j hk hp
    simp only at h1
    omega
  refine ⟨rk_lt hR (rt_lead hl hk), ?_⟩
  apply List.ext_getElem?
  intro x
  unfold groups
  rw [e, List.getElem?_set]
  simp only [List.getElem?_map, List.length_map, List.length_range]
  by_cases hx : rk pr (rt pr m k) = x
  · subst hx
    have hlt := rk_lt hR (rt_lead hl hk)
    rw [if_pos rfl, if_pos hlt, List.getElem?_range hlt]
    simp [row_succ]
  · rw [if_neg hx]
    by_cases hlt : x < rk pr k
    · rw [List.getElem?_range hlt]
      simp [row_succ, hx]
    · rw [List.getElem?_eq_none (by simp; omega)]
      rfl
/-- A service that waits for none leads a group of its own. -/
theorem groups_new (hl : Low m pr) {k : Nat} (hk : k < m) (hp : pr k = none) : rt pr m k = k ∧ groups pr (rt pr m) (k + 1) = (groups pr (rt pr m) k ++ [[]]).set (rk pr k) ([] ++ [k]) := by
  have e : rk pr (k + 1) = rk pr k + 1 := by simp [rk, hp]
  have hR : rt pr m k = k := by have h1 := rt_at hl hk; rw [hp] at h1; exact h1
  have hrow : row pr (rt pr m) k (rk pr k) = [] := by
    unfold row
    rw [List.filter_eq_nil_iff]
    intro x hx
    have hx' : x < k := by simpa using hx
    have h1 := rt_le hl m (Nat.le_refl _) x
    have h2 := rk_lt (show rt pr m x < k by omega) (rt_lead hl (k := x) (by omega))
    simp
    omega
  refine ⟨hR, ?_⟩
  apply List.ext_getElem?
  intro x
  unfold groups
  rw [e, List.getElem?_set, List.length_append]
  simp only [List.getElem?_map, List.length_map, List.length_range, List.length_cons, List.length_nil]
  by_cases hx : rk pr k = x
  · subst hx
    rw [if_pos rfl, if_pos (by omega), List.getElem?_range (by omega)]
    simp [row_succ, hR, hrow]
  · rw [if_neg hx]
    by_cases hlt : x < rk pr k
    · rw [List.getElem?_range (by omega), List.getElem?_append_left (by simpa using hlt), List.getElem?_map, List.getElem?_range hlt]
      simp [row_succ, hR, hx]
    · rw [List.getElem?_eq_none (by simp; omega), List.getElem?_append_right (by simp; omega), List.getElem?_eq_none (by simp; omega)]
      rfl
end
theorem own_form {w : World} {base e n : Nat} {v : Value} {xs : List Value} (h : w.ownsRow base e 1 v n xs) : ∃ sa c, v = .slice sa n c ∧ (∀ a, sa = some a → a.off = 0 ∧ a.spot = none) := by
  rcases h.2 with ⟨rfl, rfl⟩ | ⟨g, cap, cur, rfl, _⟩
  · exact ⟨none, 0, rfl, fun _ h => by cases h⟩
  · exact ⟨some ⟨g, 0, none⟩, cap, rfl, fun a h => by cases h; exact ⟨rfl, rfl⟩⟩
theorem OR.cell {W : World} {base og n oc k : Nat} {v : Value} {vals : List Value} {gs : List (List Nat)} (h : OR W base (sl og 0 n oc) vals gs) (hv : vals[k]? = some v) : W.cell? ⟨og, k, none⟩ = some v ∧ W.frozen? ⟨og, k, none⟩ = false := by
  obtain ⟨g', c', e, h1, h2⟩ := own_cell h.out hv
  have : og = g' := by injection e with e1 _ _; injection e1 with e1; injection e1
  subst this
  exact ⟨h1, h2⟩
theorem news1 (W : World) (v : Value) (t : TypeId) : ∀ (j : Nat) u, [v][j]? = some u → (W.alloc (.cells #[v] t)).cell? ((⟨W.heap.size, 0, none⟩ : Addr).add j) = some u := fun j u hu => by
  have hadd : (⟨W.heap.size, 0, none⟩ : Addr).add j = ⟨W.heap.size, j, none⟩ := by unfold Addr.add; split <;> simp_all
  rw [hadd]
  have := range_new W [v] t j u hu
  rwa [Nat.zero_add] at this
theorem OR.ge {W : World} {base k b : Nat} {ov v : Value} {vals : List Value} {gs : List (List Nat)} (h : OR W base ov vals gs) (hv : vals[k]? = some v) (hb : v.ownBlock = some b) : base ≤ b := by
  have hk : k < gs.length := by rw [← h.len]; exact (List.getElem?_eq_some_iff.1 hv).1
  exact (own_block (h.own k v gs[k] hv (List.getElem?_eq_getElem hk)) hb).1
end Go.Proofs.YbulkdsicGreat
