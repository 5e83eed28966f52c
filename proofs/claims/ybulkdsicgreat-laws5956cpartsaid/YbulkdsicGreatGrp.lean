import Derived.Test.YbulkdsicGreatSub1
import Derived.Test.YbulkdsicGreatEq
import Derived.Test.YbulkdsicGreatKey2
set_option linter.unusedVariables false
set_option linter.unusedSimpArgs false
namespace Go.Proofs.YbulkdsicGreat
open Go.RowKit Go.Shelf

/-- A row is a chain: its first waits for none, each other for the one before it. -/
structure IsChain (m : Nat) (pr : Nat → Option Nat) (L : List Nat) : Prop where
  pos : 0 < L.length
  lt : ∀ (j x : Nat), L[j]? = some x → x < m
  hd : ∀ x, L[0]? = some x → pr x = none
  lk : ∀ (j x y : Nat), L[j]? = some x → L[j + 1]? = some y → pr y = some x
  inc : ∀ (i j x y : Nat), i < j → L[i]? = some x → L[j]? = some y → x < y

structure RowOk (m i k : Nat) (pr : Nat → Option Nat) (L : List Nat) : Prop where
  mem : ∀ (j x : Nat), L[j]? = some x → x < i ∧ rk pr (rt pr m x) = k
  hd : ∀ x, L[0]? = some x → pr x = none
  lk : ∀ (j x y : Nat), L[j]? = some x → L[j + 1]? = some y → pr y = some x
  inc : ∀ (i j x y : Nat), i < j → L[i]? = some x → L[j]? = some y → x < y
theorem mem_row {pr : Nat → Option Nat} {R : Nat → Nat} {i k x : Nat} : x ∈ row pr R i k ↔ x < i ∧ rk pr (R x) = k := by
  unfold row
  simp

theorem rows_ok {m : Nat} {pr : Nat → Option Nat} (hl : Low m pr) (hin : ∀ i i' j, i < m → i' < m → pr i = some j → pr i' = some j → i = i') : ∀ i, i ≤ m → ∀ k, RowOk m i k pr (row pr (rt pr m) i k)
  | 0, _, k => ⟨fun j x h => by simp [row] at h, fun x h => by simp [row] at h, fun j x y h => by simp [row] at h, fun i j x y _ h => by simp [row] at h⟩
  | i + 1, hi, k => by
    have ih := rows_ok hl hin i (by omega) k
    rw [row_succ]
    by_cases hk : rk pr (rt pr m i) = k
    · rw [if_pos hk]
      obtain ⟨L, hL⟩ : ∃ L, row pr (rt pr m) i k = L := ⟨_, rfl⟩
      have hmem : ∀ x, x ∈ L ↔ x < i ∧ rk pr (rt pr m x) = k := fun x => by rw [← hL]; exact mem_row
      rw [hL] at ih ⊢
      have hgt : ∀ (j x : Nat), (L ++ [i])[j]? = some x → (L[j]? = some x) ∨ (j = L.length ∧ x = i) := fun j x h => by
        rcases Nat.lt_or_ge j L.length with hj | hj
        · rw [List.getElem?_append_left hj] at h; exact .inl h
        · rw [List.getElem?_append_right hj] at h
          have h0 : j - L.length = 0 := by have := (List.getElem?_eq_some_iff.1 h).1; simp at this; omega
          rw [h0] at h
          simp at h
          exact .inr ⟨by omega, h.symm⟩
      have hinc : ∀ (p q x y : Nat), p < q → (L ++ [i])[p]? = some x → (L ++ [i])[q]? = some y → x < y := fun p q x y hpq hx hy => by
        rcases hgt p x hx with hx1 | ⟨hp, hx2⟩ <;> rcases hgt q y hy with hy1 | ⟨hq, hy2⟩
        · exact ih.inc p q x y hpq hx1 hy1
        · have := (ih.mem p x hx1).1; omega
        · have := (List.getElem?_eq_some_iff.1 hy1).1; omega
        · omega
      have hm' : ∀ (j x : Nat), (L ++ [i])[j]? = some x → x < i + 1 ∧ rk pr (rt pr m x) = k := fun j x h => by
        rcases hgt j x h with h | ⟨_, rfl⟩
        · have := ih.mem j x h; exact ⟨by omega, this.2⟩
        · exact ⟨by omega, hk⟩
      cases hp : pr i with
      | none =>
        have hR : rt pr m i = i := by have h1 := rt_at hl (show i < m by omega); rw [hp] at h1; exact h1
        have hnil : L = [] := by
          rcases List.eq_nil_or_concat L with h | ⟨A, x, h⟩
          · exact h
          · exfalso
            have hx : x ∈ L := by rw [h]; simp
            obtain ⟨h1, h2⟩ := (hmem x).1 hx
            have h3 := rt_le hl m (Nat.le_refl _) x
            have h4 := rk_lt (show rt pr m x < i by omega) (rt_lead hl (k := x) (by omega))
            rw [hR] at hk
            omega
        refine ⟨hm', fun x h => ?_, fun j x y hx hy => ?_, hinc⟩
        · rw [hnil] at h; simp at h; rw [← h]; exact hp
        · rw [hnil] at hy; simp at hy
      | some j0 =>
        have hj0 := hl i j0 (by omega) hp
        have hR : rt pr m i = rt pr m j0 := by have h1 := rt_at hl (show i < m by omega); rw [hp] at h1; exact h1
        have hj0m : j0 ∈ L := (hmem j0).2 ⟨hj0, by rw [← hR]; exact hk⟩
        obtain ⟨a, ha, hae⟩ := List.getElem_of_mem hj0m
        have haL : L[a]? = some j0 := by rw [List.getElem?_eq_getElem ha, hae]
        have hlast : a + 1 = L.length := by
          rcases Nat.lt_or_ge (a + 1) L.length with h | h
          · exfalso
            have hy : L[a + 1]? = some L[a + 1] := List.getElem?_eq_getElem h
            have h1 := ih.lk a j0 _ haL hy
            have h2 := (ih.mem _ _ hy).1
            have := hin _ _ _ (by omega) (by omega) h1 hp
            omega
          · omega
        refine ⟨hm', fun x h => ?_, fun j x y hx hy => ?_, hinc⟩
        · have h0 : 0 < L.length := by omega
          rw [List.getElem?_append_left h0] at h
          exact ih.hd x h
        · rcases hgt (j + 1) y hy with hy | ⟨hq, rfl⟩
          · have hj : j < L.length := by have := (List.getElem?_eq_some_iff.1 hy).1; omega
            rw [List.getElem?_append_left hj] at hx
            exact ih.lk j x y hx hy
          · have hja : j = a := by omega
            subst hja
            rw [List.getElem?_append_left ha, haL] at hx
            cases hx
            exact hp
    · rw [if_neg hk, List.append_nil]
      exact ⟨fun j x h => ⟨by have := (ih.mem j x h).1; omega, (ih.mem j x h).2⟩, ih.hd, ih.lk, ih.inc⟩

theorem groups_chain {m : Nat} {pr : Nat → Option Nat} (hl : Low m pr) (hin : ∀ i i' j, i < m → i' < m → pr i = some j → pr i' = some j → i = i') {k : Nat} {L : List Nat} (h : (groups pr (rt pr m) m)[k]? = some L) : IsChain m pr L ∧ ∀ (j x : Nat), L[j]? = some x → rk pr (rt pr m x) = k := by
  have hk : k < rk pr m := by have := (List.getElem?_eq_some_iff.1 h).1; simpa [groups] using this
  have he : L = row pr (rt pr m) m k := by
    unfold groups at h
    rw [List.getElem?_map, List.getElem?_range hk] at h
    simp at h
    exact h.symm
  have ok := rows_ok hl hin m (Nat.le_refl _) k
  rw [← he] at ok
  refine ⟨⟨?_, fun j x h => (ok.mem j x h).1, ok.hd, ok.lk, ok.inc⟩, fun j x h => (ok.mem j x h).2⟩
  -- somebody leads it
  have : ∀ i, i ≤ m → k < rk pr i → ∃ x, x < i ∧ pr x = none ∧ rk pr x = k := by
    intro i
    induction i with
    | zero => intro _ h; simp [rk] at h
    | succ i ih =>
      intro hi h
      by_cases h1 : k < rk pr i
      · obtain ⟨x, h2, h3, h4⟩ := ih (by omega) h1
        exact ⟨x, by omega, h3, h4⟩
      · simp only [rk] at h
        cases hp : pr i with
        | none => rw [hp] at h; simp at h; exact ⟨i, by omega, hp, by omega⟩
        | some j => rw [hp] at h; simp at h; omega
  obtain ⟨x, hx, hp, hr⟩ := this m (Nat.le_refl _) hk
  have hR : rt pr m x = x := by have h1 := rt_at hl hx; rw [hp] at h1; exact h1
  have hmem : x ∈ L := by rw [he]; exact mem_row.2 ⟨hx, by rw [hR]; exact hr⟩
  exact List.length_pos_of_mem hmem

/-- Who waits for whom in a chain. -/
def chn (j : Nat) : Option Nat := if j = 0 then none else some (j - 1)
theorem chn0 : chn 0 = none := rfl
theorem chn1 (k : Nat) : chn (k + 1) = some k := rfl
theorem IsChain.sub {m : Nat} {pr : Nat → Option Nat} {L : List Nat} (h : IsChain m pr L) : Sub m L.length (fun j => L.getD j 0) pr chn := by
  have hg : ∀ k, k < L.length → L[k]? = some (L.getD k 0) := fun k hk => by rw [List.getD_eq_getElem?_getD, List.getElem?_eq_getElem hk]; rfl
  refine ⟨fun k hk => h.lt k _ (hg k hk), fun k k' hk hk' e => ?_, fun k hk hp => ?_, fun k j hk hp => ?_⟩
  · rcases Nat.lt_trichotomy k k' with h1 | h1 | h1
    · have := h.inc k k' _ _ h1 (hg k hk) (hg k' hk'); omega
    · exact h1
    · have := h.inc k' k _ _ h1 (hg k' hk') (hg k hk); omega
  · cases k with
    | zero => rfl
    | succ k => have := h.lk k _ _ (hg k (by omega)) (hg (k + 1) hk); rw [hp] at this; cases this
  · cases k with
    | zero => have := h.hd _ (hg 0 hk); rw [hp] at this; cases this
    | succ k =>
      have := h.lk k _ _ (hg k (by omega)) (hg (k + 1) hk)
      rw [hp] at this
      cases this
      exact .inl ⟨k, by omega, rfl, rfl⟩

/-! ### Keys -/
def keyB (l : List Nat) : ByteArray := ⟨(l.map UInt8.ofNat).toArray⟩
theorem ofNat_inj {a b : Nat} (ha : a < 256) (hb : b < 256) (h : UInt8.ofNat a = UInt8.ofNat b) : a = b := by
  have := congrArg UInt8.toNat h
  simp at this
  omega
theorem uv_inj {a b : Nat} {X Y : List Nat} (ha : a < 300) (hb : b < 300) (h : keyB (uv a ++ X) = keyB (uv b ++ Y)) : a = b := by
  unfold keyB at h
  have h1 : (uv a ++ X).map UInt8.ofNat = (uv b ++ Y).map UInt8.ofNat := by
    have := congrArg ByteArray.data h
    simpa using this
  unfold uv at h1
  split at h1 <;> split at h1 <;> simp only [List.cons_append, List.nil_append, List.map_cons, List.cons.injEq] at h1
  · exact ofNat_inj (by omega) (by omega) h1.1
  · have := ofNat_inj (by omega) (by omega) h1.1; omega
  · have := ofNat_inj (by omega) (by omega) h1.1; omega
  · have e1 := ofNat_inj (by omega) (by omega) h1.1
    have e2 := ofNat_inj (by omega) (by omega) h1.2.1
    omega
theorem keyL_head (mem : Nat → Nat) (pr : Nat → Option Nat) : ∀ m, 0 < m → ∃ X, keyL mem pr m = uv (mem 0) ++ X
  | 0, h => by omega
  | 1, _ => ⟨_, by simp [keyL, keyAt]; rfl⟩
  | m + 2, _ => by
    obtain ⟨X, hX⟩ := keyL_head mem pr (m + 1) (by omega)
    exact ⟨X ++ keyAt mem pr (m + 1), by rw [keyL, hX, List.append_assoc]⟩

/-! ### Trees whose rows lie behind F -/
def NodeHi (W : World) (F : Nat) : Nat → PT → Value → Value → Value → Prop
  | 0, _, _, _, _ => False
  | d + 1, .mk s p none, a, b, c => a = .string s ∧ b = .bool p ∧ c = .slice none 0 0
  | d + 1, .mk s p (some ks), a, b, c => a = .string s ∧ b = .bool p ∧ ks.length ≤ 300 ∧ ∃ g o cap, F ≤ g ∧ c = .slice (some ⟨g, o, none⟩) ks.length cap ∧ ∀ k t, ks[k]? = some t → ∃ x y z, W.rangeAt g (o + k * 3) [x, y, z] ∧ NodeHi W F d t x y z
theorem NodeHi.is {W : World} {F : Nat} : ∀ (d : Nat) (T : PT) (a b c : Value), NodeHi W F d T a b c → NodeIs W d T a b c
  | 0, _, _, _, _, h => h.elim
  | d + 1, .mk s p none, a, b, c, h => h
  | d + 1, .mk s p (some ks), a, b, c, h => by
    obtain ⟨h1, h2, h3, g, o, cap, _, h4, h5⟩ := h
    exact ⟨h1, h2, h3, g, o, cap, h4, fun k t hk => by
      obtain ⟨x, y, z, h6, h7⟩ := h5 k t hk
      exact ⟨x, y, z, h6, NodeHi.is d t x y z h7⟩⟩
theorem NodeHi.kept {E : Nat → Prop} {W W' : World} {F : Nat} (k : Kept E W W') (hE : ∀ b, E b → b < F) : ∀ (d : Nat) (T : PT) (a b c : Value), NodeHi W F d T a b c → NodeHi W' F d T a b c
  | 0, _, _, _, _, h => h.elim
  | d + 1, .mk s p none, a, b, c, h => h
  | d + 1, .mk s p (some ks), a, b, c, h => by
    obtain ⟨h1, h2, h3, g, o, cap, hF, h4, h5⟩ := h
    exact ⟨h1, h2, h3, g, o, cap, hF, h4, fun k' t hk => by
      obtain ⟨x, y, z, h6, h7⟩ := h5 k' t hk
      exact ⟨x, y, z, k.range (fun he => by have := hE g he; omega) h6, NodeHi.kept k hE d t x y z h7⟩⟩
theorem NodeHi.mono {W : World} {F F' : Nat} (hF : F' ≤ F) : ∀ (d : Nat) (T : PT) (a b c : Value), NodeHi W F d T a b c → NodeHi W F' d T a b c
  | 0, _, _, _, _, h => h.elim
  | d + 1, .mk s p none, a, b, c, h => h
  | d + 1, .mk s p (some ks), a, b, c, h => by
    obtain ⟨h1, h2, h3, g, o, cap, hg, h4, h5⟩ := h
    exact ⟨h1, h2, h3, g, o, cap, Nat.le_trans hF hg, h4, fun k' t hk => by
      obtain ⟨x, y, z, h6, h7⟩ := h5 k' t hk
      exact ⟨x, y, z, h6, NodeHi.mono hF d t x y z h7⟩⟩
/-- The tree of a chain. -/
def chT (nm : Nat → ByteArray) (L : List Nat) : PT := if L.length = 1 then .mk (nm (L.getD 0 0)) false none else .mk ⟨#[]⟩ false (some (L.map fun x => .mk (nm x) false none))
end Go.Proofs.YbulkdsicGreat
