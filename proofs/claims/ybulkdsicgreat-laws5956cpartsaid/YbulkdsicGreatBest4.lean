import Derived.Test.YbulkdsicGreatBest3
set_option linter.unusedVariables false
set_option linter.unusedSimpArgs false
namespace Go.Proofs.YbulkdsicGreat
open Go.RowKit Go.Shelf

theorem NodeHi.deep {W : World} {F : Nat} : ∀ (d : Nat) (T : PT) (a b c : Value), NodeHi W F d T a b c → NodeHi W F (d + 1) T a b c
  | 0, _, _, _, _, h => h.elim
  | d + 1, .mk s p none, a, b, c, h => h
  | d + 1, .mk s p (some ks), a, b, c, h => by
    obtain ⟨h1, h2, h3, g, o, cap, hg, h4, h5⟩ := h
    exact ⟨h1, h2, h3, g, o, cap, hg, h4, fun k' t hk => by
      obtain ⟨x, y, z, h6, h7⟩ := h5 k' t hk
      exact ⟨x, y, z, h6, NodeHi.deep d t x y z h7⟩⟩
theorem cnt_congr {pr pr' : Nat → Option Nat} {m : Nat} (e : ∀ i, i < m → pr i = pr' i) : ∀ i, i ≤ m → cnt pr i = cnt pr' i
  | 0, _ => rfl
  | i + 1, hi => by simp only [cnt, waits, cnt_congr e i (by omega), e i (by omega)]
theorem Bat.congr {W : World} {t : Bt} {m : Nat} {mem : Nat → Nat} {pr pr' : Nat → Option Nat} (h : Bat W t m mem pr) (e : ∀ i, i < m → pr i = pr' i) : Bat W t m mem pr' :=
  ⟨h.few, fun i j hi hp => h.low i j hi (by rw [e i hi]; exact hp), h.mlt, h.mem', fun i hi => by rw [← cnt_congr e i hi]; exact h.frm i hi, fun i j hi hp => by rw [← cnt_congr e i (by omega)]; exact h.one i j hi (by rw [e i hi]; exact hp), by rw [← cnt_congr e m (Nat.le_refl _)]; exact h.cap, h.snl, h.spot, h.nil⟩
/-- The whole tree. -/
def trT (nm : Nat → ByteArray) (gs : List (List Nat)) : PT := if gs.length = 1 then chT nm (gs.getD 0 []) else .mk ⟨#[]⟩ true (some (gs.map (chT nm)))

theorem best_tree (l : TBl) (names : Nat → ByteArray) (tm : Nat → Value) (steps : Int) (t : Bt) (m : Nat) (mem : Nat → Nat) (pr : Nat → Option Nat) (w : World)
    (hT : TB w l names tm steps []) (h : Bat w t m mem pr) (h1 : 0 < m) (hm : ∀ i, i < m → mem i < l.n) (hinj : ∀ i j, i < m → j < m → mem i = mem j → i = j) (hO : Off l t) (htt : ∀ x, x < l.n → ∃ y, y ≤ 65535 ∧ tm x = .float .f64 (Flt.nat y))
    (hin : ∀ i i' j, i < m → i' < m → pr i = some j → pr i' = some j → i = i') :
    Calls Ybaz.prog 10 #[.pointer (some ⟨l.T, 0, none⟩), .agg #[sl t.bm t.om m t.cm, .slice t.sn (2 * cnt pr m) t.cn, sl t.bf t.of (m + 1) t.cf], .float .f64 Flt.inf] w fun e w' =>
      ∃ c0 c1 c2 x y, e = .returned (.agg #[c0, c1, c2, .float .f64 x, .float .f64 y]) ∧ (c0.oneCell' = true ∧ c1.oneCell' = true ∧ c2.oneCell' = true) ∧ NodeHi w' w.heap.size 3 (trT (fun x => names (mem x)) (groups pr (rt pr m) m)) c0 c1 c2 ∧ Kept (fun x => x = l.T ∨ x = l.ba ∨ x = l.mb) w w' := by
  have hlow : Low m pr := h.low
  have hfew := h.few
  have hp0 : pr 0 = none := by
    cases hp : pr 0 with
    | none => rfl
    | some j => have := hlow 0 j h1 hp; omega
  have hrk : 0 < rk pr m := by have := rk_lt (show 0 < m from h1) hp0; omega
  have hgl : (groups pr (rt pr m) m).length = rk pr m := by simp [groups]
  by_cases hK : rk pr m = 1
  · have hall : ∀ x, x < m → rk pr (rt pr m x) = 0 := fun x hx => by
      have h2 := rt_le hlow m (Nat.le_refl _) x
      have := rk_lt (show rt pr m x < m by omega) (rt_lead hlow hx)
      omega
    have hrow : row pr (rt pr m) m 0 = List.range m := by
      unfold row
      rw [List.filter_eq_self]
      intro x hx
      simp [hall x (by simpa using hx)]
    have hg0 : groups pr (rt pr m) m = [List.range m] := by
      unfold groups
      rw [hK]
      show [row pr (rt pr m) m 0] = _
      rw [hrow]
    have hch := (groups_chain hlow hin (k := 0) (L := List.range m) (by rw [hg0]; rfl)).1
    have hpr : ∀ i, i < m → pr i = chn i := fun i hi => by
      cases i with
      | zero => exact hp0
      | succ k => exact hch.lk k k (k + 1) (List.getElem?_range (by omega)) (List.getElem?_range hi)
    obtain ⟨tt, hTT⟩ : ∃ tt : Nat → Nat, ∀ x, x < l.n → tm x = .float .f64 (Flt.nat (tt x)) ∧ tt x ≤ 65535 := ⟨fun x => if h : x < l.n then (htt x h).choose else 0, fun x hx => by
      have := (htt x hx).choose_spec
      simp only [hx, dif_pos]
      exact ⟨this.2, this.1⟩⟩
    rw [cnt_congr hpr m (Nat.le_refl _)]
    refine (best_row l names tm steps [] t m mem (fun k => tt (mem k)) w hT (h.congr hpr) h1 hm hinj hO (fun k hk => hTT _ (hm k hk)) (by simp)).mono ?_
    rintro e w' ⟨c0, c1, c2, x, st', ks', rfl, _, ho, hnd, _, _, kp⟩
    refine ⟨c0, c1, c2, _, _, rfl, ho, ?_, kp⟩
    have e1 : trT (fun x => names (mem x)) (groups pr (rt pr m) m) = chM (fun j => names (mem j)) m := by
      unfold trT
      rw [hg0]
      simp only [List.length_cons, List.length_nil, Nat.zero_add, if_true, List.getD_cons_zero]
      have := chT_eq names mem (List.range m)
      rw [List.length_range] at this
      rw [← this]
      unfold chM
      split
      · rename_i hm1
        subst hm1
        rfl
      · congr 2
        apply List.map_congr_left
        intro j hj
        have hj' : j < m := by simpa using hj
        simp [List.getD_eq_getElem?_getD, hj']
    rw [e1]
    exact NodeHi.deep 2 _ _ _ _ hnd
  · have h2m : 2 ≤ m := by have := rk_le pr m; omega
    refine (best_par l names tm steps t m mem pr w hT h h2m hm hinj hO htt hin (by omega)).mono ?_
    rintro e w' ⟨b, xx, yy, rfl, hb, hnd, kp⟩
    refine ⟨_, _, _, _, _, rfl, ⟨rfl, rfl, rfl⟩, ?_, kp⟩
    unfold trT
    rw [if_neg (by rw [hgl]; exact hK)]
    refine ⟨rfl, rfl, by have := rk_le pr m; simp [hgl]; omega, b, 0, rk pr m, hb, by simp [hgl], fun k T hk => ?_⟩
    rw [List.getElem?_map] at hk
    obtain ⟨L, hL, rfl⟩ := Option.map_eq_some_iff.1 hk
    obtain ⟨c0, c1, c2, h5, h6⟩ := hnd k L hL
    exact ⟨c0, c1, c2, by rw [Nat.zero_add]; exact h5, h6⟩
end Go.Proofs.YbulkdsicGreat
