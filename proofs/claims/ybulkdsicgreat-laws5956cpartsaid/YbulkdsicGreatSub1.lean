import Derived.Test.YbulkdsicGreatRoom
set_option linter.unusedVariables false
set_option linter.unusedSimpArgs false
namespace Go.Proofs.YbulkdsicGreat
open Go.RowKit Go.Shelf

/-! ### The table 'at' -/
def atF (q : Nat → Nat) : Nat → Nat → Int
  | 0, _ => -1
  | k + 1, x => if x = q k then k else atF q k x
theorem atF_none (q : Nat → Nat) : ∀ k x, (∀ k', k' < k → q k' ≠ x) → atF q k x = -1
  | 0, _, _ => rfl
  | k + 1, x, h => by
    unfold atF
    rw [if_neg (fun e => h k (by omega) e.symm)]
    exact atF_none q k x (fun k' h' => h k' (by omega))
theorem atF_hit (q : Nat → Nat) : ∀ n k, k < n → (∀ i j, i < n → j < n → q i = q j → i = j) → atF q n (q k) = k
  | 0, _, h, _ => by omega
  | n + 1, k, h, hi => by
    unfold atF
    by_cases e : k = n
    · subst e; rw [if_pos rfl]
    · rw [if_neg (fun e' => e (hi k n (by omega) (by omega) e'))]
      exact atF_hit q n k (by omega) (fun i j h1 h2 => hi i j (by omega) (by omega))
/-- .. and as it is laid back. -/
def rsF (q : Nat → Nat) (n : Nat) : Nat → Nat → Int
  | 0, x => atF q n x
  | k + 1, x => if x = q k then -1 else rsF q n k x
theorem rsF_none (q : Nat → Nat) (n : Nat) : ∀ k x, (∀ k', k ≤ k' → k' < n → q k' ≠ x) → k ≤ n → rsF q n k x = -1
  | 0, x, h, _ => atF_none q n x (fun k' h' => h k' (by omega) h')
  | k + 1, x, h, hk => by
    unfold rsF
    by_cases e : x = q k
    · rw [if_pos e]
    · rw [if_neg e]
      exact rsF_none q n k x (fun k' h1 h2 => by
        by_cases e' : k' = k
        · subst e'; exact fun h3 => e h3.symm
        · exact h k' (by omega) h2) (by omega)
theorem rsF_end (q : Nat → Nat) (n x : Nat) : rsF q n n x = -1 := rsF_none q n n x (fun _ _ _ => by omega) (Nat.le_refl _)

/-! ### Picks -/
/-- Which of the picks each pick waits for. -/
structure Sub (m n : Nat) (p : Nat → Nat) (pr pr' : Nat → Option Nat) : Prop where
  lt : ∀ k, k < n → p k < m
  inj : ∀ k k', k < n → k' < n → p k = p k' → k = k'
  nn : ∀ k, k < n → pr (p k) = none → pr' k = none
  ss : ∀ k j, k < n → pr (p k) = some j → (∃ k', k' < k ∧ p k' = j ∧ pr' k = some k') ∨ ((∀ k', k' < n → p k' ≠ j) ∧ pr' k = none)
theorem Sub.low {m n : Nat} {p : Nat → Nat} {pr pr' : Nat → Option Nat} (h : Sub m n p pr pr') : Low n pr' := fun k j hk hj => by
  cases hp : pr (p k) with
  | none => rw [h.nn k hk hp] at hj; cases hj
  | some i =>
    rcases h.ss k i hk hp with ⟨k', h1, _, h3⟩ | ⟨_, h2⟩
    · rw [h3] at hj; cases hj; exact h1
    · rw [h2] at hj; cases hj
/-- What the picks' needs weigh. -/
def szF (p : Nat → Nat) (pr : Nat → Option Nat) : Nat → Nat
  | 0 => 0
  | k + 1 => szF p pr k + 2 * waits pr (p k)
theorem szF_le (p : Nat → Nat) (pr : Nat → Option Nat) : ∀ k, szF p pr k ≤ 2 * k
  | 0 => Nat.le_refl _
  | k + 1 => by have := szF_le p pr k; have := waits_le pr (p k); simp only [szF]; omega
theorem szF_mono (p : Nat → Nat) (pr : Nat → Option Nat) {i j : Nat} (h : i ≤ j) : szF p pr i ≤ szF p pr j := by
  induction h with
  | refl => exact Nat.le_refl _
  | step _ ih => simp only [szF]; omega
theorem Sub.cnt_sz {m n : Nat} {p : Nat → Nat} {pr pr' : Nat → Option Nat} (h : Sub m n p pr pr') : ∀ k, k ≤ n → 2 * cnt pr' k ≤ szF p pr k
  | 0, _ => Nat.le_refl _
  | k + 1, hk => by
    have ih := Sub.cnt_sz h k (by omega)
    simp only [cnt, szF]
    cases hp : pr (p k) with
    | none => rw [waits_none (h.nn k (by omega) hp), waits_none hp]; omega
    | some j => rw [waits_some hp]; have := waits_le pr' k; omega
theorem Sub.room {m n : Nat} {p : Nat → Nat} {pr pr' : Nat → Option Nat} (h : Sub m n p pr pr') {k j : Nat} (hk : k < n) (hp : pr (p k) = some j) : 2 * cnt pr' k + 2 ≤ szF p pr n := by
  have h1 := h.cnt_sz k (by omega)
  have h2 := szF_mono p pr (show k + 1 ≤ n by omega)
  simp only [szF, waits_some hp] at h2
  omega

/-! ### What sub keeps -/
/-- The new batch's place. -/
def nO (n z : Nat) : Nat := if z = 0 then 0 else 2 * n + 1
def sbt (s n z : Nat) : Bt := { bm := s, om := 0, cm := 2 * n + 1 + z, bf := s, of := n, cf := n + 1 + z, sn := some ⟨s, nO n z, none⟩, cn := z }
structure SB (w W : World) (l : TBl) (steps : Int) (atv : Nat → Int) (t : Bt) (m k : Nat) : Prop where
  kp : Kept (fun b => b = l.T ∨ b = l.ba) w W
  st : W.rangeAt l.T 0 (l.cells steps)
  th : W.there l.T 0 6
  at' : Tab W l.ba 0 l.n (fun x => .int .i64 (atv x))
  c0 : W.cell? ⟨w.heap.size, 0, none⟩ = some (.pointer (some ⟨l.T, 0, none⟩))
  bx : W.rangeAt (w.heap.size + 1) 0 [sl t.bm t.om m t.cm, .slice t.sn k t.cn, sl t.bf t.of (m + 1) t.cf]
  rs : W.there (w.heap.size + 2) 0 3
  ne : l.T ≠ l.ba
  lT : l.T < w.heap.size
  la : l.ba < w.heap.size
  size : w.heap.size + 3 ≤ W.heap.size
theorem Kept.thn {E E' : Nat → Prop} {a b c : World} (h : Kept E a b) (k : Kept E' b c) (hE : ∀ i, i < a.heap.size → E' i → E i) : Kept E a c :=
  ⟨k.os.trans h.os, k.tape.trans h.tape, k.output.trans h.output, Nat.le_trans h.size k.size, fun i hi hn => (k.block i (Nat.lt_of_lt_of_le hi h.size) (fun he => hn (hE i hi he))).trans (h.block i hi hn)⟩
theorem Kept.drewN {E : Nat → Prop} {a w : World} (h : Kept E a w) (n : Nat) : Kept E a (w.drewN n) := ⟨h.os, h.tape, h.output, h.size, h.block⟩
theorem SB.kept {E : Nat → Prop} {w W W' : World} {l : TBl} {steps : Int} {atv : Nat → Int} {t : Bt} {m k : Nat} (h : SB w W l steps atv t m k) (kp : Kept E W W') (hE : ∀ b, E b → w.heap.size + 3 ≤ b) : SB w W' l steps atv t m k := by
  have n0 : ∀ b, b < w.heap.size + 3 → ¬ E b := fun b hb he => by have := hE b he; omega
  have h1 := h.lT
  have h2 := h.la
  have hsz := h.size
  exact ⟨Kept.thn h.kp kp (fun b hb he => absurd he (n0 b (by omega))), kp.range (n0 _ (by omega)) h.st, kp.there (n0 _ (by omega)) h.th, h.at'.kept kp (n0 _ (by omega)), kp.cell (p := ⟨w.heap.size, 0, none⟩) (n0 w.heap.size (by omega)) h.c0, kp.range (n0 _ (by omega)) h.bx, kp.there (n0 _ (by omega)) h.rs, h.ne, h.lT, h.la, Nat.le_trans h.size kp.size⟩
theorem SB.ext {w W : World} {l : TBl} {steps : Int} {atv atv' : Nat → Int} {t : Bt} {m k : Nat} (h : SB w W l steps atv t m k) (e : ∀ x, x < l.n → atv x = atv' x) : SB w W l steps atv' t m k :=
  ⟨h.kp, h.st, h.th, h.at'.ext (fun x hx => by rw [e x hx]), h.c0, h.bx, h.rs, h.ne, h.lT, h.la, h.size⟩
theorem SB.mark {w W : World} {l : TBl} {steps : Int} {atv : Nat → Int} {t : Bt} {m k : Nat} (h : SB w W l steps atv t m k) {x : Nat} (hx : x < l.n) (v : Int) : SB w (W.setCell ⟨l.ba, x, none⟩ (.int .i64 v)) l steps (fun y => if y = x then v else atv y) t m k := by
  have h1 := h.lT
  have h2 := h.la
  have k1 : Kept (fun b => b = l.ba) W (W.setCell ⟨l.ba, x, none⟩ (.int .i64 v)) := (Kept.refl (fun b => b = l.ba) W).setCell (p := ⟨l.ba, x, none⟩) (.inl rfl) _
  refine ⟨Kept.thn h.kp k1 (fun b _ hb => .inr hb), k1.range h.ne h.st, k1.there h.ne h.th, ?_, k1.cell (p := ⟨w.heap.size, 0, none⟩) (fun (e : w.heap.size = _) => by omega) h.c0, k1.range (fun (e : w.heap.size + 1 = _) => by omega) h.bx, k1.there (fun (e : w.heap.size + 2 = _) => by omega) h.rs, h.ne, h.lT, h.la, Nat.le_trans h.size k1.size⟩
  have := h.at'.set hx (.int .i64 v)
  rw [Nat.zero_add] at this
  exact this.ext (fun y _ => by split <;> rfl)
theorem SB.step {w W : World} {l : TBl} {steps : Int} {atv : Nat → Int} {t : Bt} {m k : Nat} (h : SB w W l steps atv t m k) (v : Int) : SB w (W.setCell ⟨l.T, 5, none⟩ (.int .i64 v)) l v atv t m k := by
  have h1 := h.lT
  have h2 := h.la
  have k1 : Kept (fun b => b = l.T) W (W.setCell ⟨l.T, 5, none⟩ (.int .i64 v)) := (Kept.refl (fun b => b = l.T) W).setCell (p := ⟨l.T, 5, none⟩) (.inl rfl) _
  refine ⟨Kept.thn h.kp k1 (fun b _ hb => .inl hb), ?_, there_setCell h.th _ _, h.at'.kept k1 (Ne.symm h.ne), k1.cell (p := ⟨w.heap.size, 0, none⟩) (fun (e : w.heap.size = _) => by omega) h.c0, k1.range (fun (e : w.heap.size + 1 = _) => by omega) h.bx, k1.there (fun (e : w.heap.size + 2 = _) => by omega) h.rs, h.ne, h.lT, h.la, Nat.le_trans h.size k1.size⟩
  intro j u hu
  rw [Nat.zero_add]
  by_cases e : j = 5
  · subst e
    simp [TBl.cells] at hu
    rw [World.cell?_setCell_same' _ _ _ (by have := (h.th 5 (by omega)).1; simpa using this), hu]
  · rw [World.cell?_setCell_other _ _ _ _ (fun he => e (by have h0 := congrArg Addr.off he; simp at h0; exact h0.symm))]
    have := h.st j u (by
      rw [← hu]
      match j with
      | 0 | 1 | 2 | 3 | 4 => rfl
      | j + 6 => simp [TBl.cells])
    simpa using this
theorem SB.make (w : World) (l : TBl) (names : Nat → ByteArray) (tm : Nat → Value) (steps : Int) (ks : List ByteArray) (h : TB w l names tm steps ks) (hn : 0 < l.n) (t : Bt) (m k : Nat) :
    SB w (((w.alloc (.cells #[.pointer (some ⟨l.T, 0, none⟩)] 47)).alloc (.cells #[sl t.bm t.om m t.cm, .slice t.sn k t.cn, sl t.bf t.of (m + 1) t.cf] 53)).alloc (.cells #[.slice none 0 0, .slice none 0 0, .slice none 0 0] 53)) l steps (fun _ => -1) t m k := by
  have k0 : Kept (fun _ => False) w (((w.alloc (.cells #[.pointer (some ⟨l.T, 0, none⟩)] 47)).alloc (.cells #[sl t.bm t.om m t.cm, .slice t.sn k t.cn, sl t.bf t.of (m + 1) t.cf] 53)).alloc (.cells #[.slice none 0 0, .slice none 0 0, .slice none 0 0] 53)) := (((Kept.refl _ w).alloc _).alloc _).alloc _
  have hne : l.T ≠ l.ba := by have := h.ne; simp at this; omega
  have hT : l.T < w.heap.size := World.block_lt_of_cell? w _ (h.st 0 _ rfl)
  have r1 := range_new (w.alloc (.cells #[.pointer (some ⟨l.T, 0, none⟩)] 47)) [sl t.bm t.om m t.cm, .slice t.sn k t.cn, sl t.bf t.of (m + 1) t.cf] 53
  have t1 := there_new ((w.alloc (.cells #[.pointer (some ⟨l.T, 0, none⟩)] 47)).alloc (.cells #[sl t.bm t.om m t.cm, .slice t.sn k t.cn, sl t.bf t.of (m + 1) t.cf] 53)) [.slice none 0 0, .slice none 0 0, .slice none 0 0] 53
  rw [World.size_alloc] at r1
  rw [World.size_alloc, World.size_alloc] at t1
  refine ⟨k0.weak (fun _ _ h => h.elim), k0.range (fun h => h) h.st, k0.there (fun h => h) h.th, h.at'.kept k0 (fun h => h), ?_, World.rangeAt_alloc r1 _, t1, hne, hT, h.at'.lt hn, by simp only [World.size_alloc]; omega⟩
  exact cell_old _ (cell_old _ (by simp))

theorem SB.drewN {w W : World} {l : TBl} {steps : Int} {atv : Nat → Int} {t : Bt} {m k : Nat} (h : SB w W l steps atv t m k) (n : Nat) : SB w (W.drewN n) l steps atv t m k := h.kept (Kept.drewN (Kept.refl (fun _ => False) W) n) (fun _ h => h.elim)
/-- The new batch in the making. -/
structure BF (W : World) (s n z : Nat) (q : Nat → Nat) (pr : Nat → Option Nat) (km kn kf len : Nat) : Prop where
  tab : ∃ f, Tab W s 0 (2 * n + 1 + z) f ∧ (∀ j, j < km → f j = vi (q j)) ∧ (∀ j, j ≤ kf → f (n + j) = vi (2 * cnt pr j)) ∧ (∀ j i, j < kn → pr j = some i → f (2 * n + 1 + 2 * cnt pr j) = vi 1 ∧ f (2 * n + 1 + (2 * cnt pr j + 1)) = vi i)
  sv : W.rangeAt (s + 1) 0 [sl s 0 n (2 * n + 1 + z), sl s (nO n z) len z, sl s n (n + 1) (n + 1 + z)]
  th : W.there (s + 1) 0 3
section
variable {W W' : World} {s n z : Nat} {q : Nat → Nat} {pr : Nat → Option Nat} {km kn kf len : Nat}
theorem BF.kept {E : Nat → Prop} (h : BF W s n z q pr km kn kf len) (k : Kept E W W') (h1 : ¬ E s) (h2 : ¬ E (s + 1)) : BF W' s n z q pr km kn kf len := by
  obtain ⟨f, hf, h'⟩ := h.tab
  exact ⟨⟨f, hf.kept k h1, h'⟩, k.range h2 h.sv, k.there h2 h.th⟩
theorem BF.cellAt (h : BF W s n z q pr km kn kf len) {j : Nat} (hj : j < 2 * n + 1 + z) : (W.cell? ⟨s, j, none⟩).isSome = true ∧ W.frozen? ⟨s, j, none⟩ = false := by
  obtain ⟨f, hf, _⟩ := h.tab
  have h1 := hf.cell hj
  have h2 := hf.free hj
  rw [Nat.zero_add] at h1 h2
  exact ⟨by rw [h1]; rfl, h2⟩
theorem BF.member (h : BF W s n z q pr km kn kf len) (hk : km < n) : BF (W.setCell ⟨s, km, none⟩ (vi (q km))) s n z q pr (km + 1) kn kf len := by
  obtain ⟨f, hf, h1, h2, h3⟩ := h.tab
  refine ⟨⟨_, by have := hf.set (j := km) (by omega) (vi (q km)); rw [Nat.zero_add] at this; exact this, fun j hj => ?_, fun j hj => ?_, fun j i hj hp => ?_⟩, range_setCell h.sv _ _ (fun e => by simp at e), there_setCell h.th _ _⟩
  · by_cases e : j = km
    · rw [if_pos e, e]
    · rw [if_neg e]; exact h1 j (by omega)
  · rw [if_neg (by omega)]; exact h2 j hj
  · rw [if_neg (by omega), if_neg (by omega)]; exact h3 j i hj hp
theorem BF.fro (h : BF W s n z q pr km kn kf len) (hk : kf < n) (hm : km ≤ n) : BF (W.setCell ⟨s, n + (kf + 1), none⟩ (vi (2 * cnt pr (kf + 1)))) s n z q pr km kn (kf + 1) len := by
  obtain ⟨f, hf, h1, h2, h3⟩ := h.tab
  refine ⟨⟨_, by have := hf.set (j := n + (kf + 1)) (by omega) (vi (2 * cnt pr (kf + 1))); rw [Nat.zero_add] at this; exact this, fun j hj => ?_, fun j hj => ?_, fun j i hj hp => ?_⟩, range_setCell h.sv _ _ (fun e => by simp at e), there_setCell h.th _ _⟩
  · rw [if_neg (by omega)]; exact h1 j hj
  · by_cases e : j = kf + 1
    · rw [if_pos (by rw [e]), e]
    · rw [if_neg (by omega)]; exact h2 j (by omega)
  · rw [if_neg (by omega), if_neg (by omega)]; exact h3 j i hj hp
theorem BF.put (h : BF W s n z q pr km kn kf len) (hm : km ≤ n) (hf' : kf ≤ n) {x : Nat} (hx : 2 * cnt pr kn ≤ x) (hz : x < z) (v : Value) : BF (W.setCell ⟨s, 2 * n + 1 + x, none⟩ v) s n z q pr km kn kf len := by
  obtain ⟨f, hf, h1, h2, h3⟩ := h.tab
  refine ⟨⟨_, by have := hf.set (j := 2 * n + 1 + x) (by omega) v; rw [Nat.zero_add] at this; exact this, fun j hj => ?_, fun j hj => ?_, fun j i hj hp => ?_⟩, range_setCell h.sv _ _ (fun e => by simp at e), there_setCell h.th _ _⟩
  · rw [if_neg (by omega)]; exact h1 j hj
  · rw [if_neg (by omega)]; exact h2 j hj
  · have hc := cnt_mono pr (show j + 1 ≤ kn by omega)
    simp only [cnt, waits_some hp] at hc
    rw [if_neg (by omega), if_neg (by omega)]; exact h3 j i hj hp
theorem BF.len' (h : BF W s n z q pr km kn kf len) (len' : Nat) : BF (W.setCell ⟨s + 1, 1, none⟩ (sl s (nO n z) len' z)) s n z q pr km kn kf len' := by
  obtain ⟨f, hf, h'⟩ := h.tab
  refine ⟨⟨f, hf.kept ((Kept.refl (fun b => b = s + 1) W).setCell (p := ⟨s + 1, 1, none⟩) (.inl rfl) _) (fun (e : s = _) => by omega), h'⟩, ?_, there_setCell h.th _ _⟩
  intro j u hu
  rw [Nat.zero_add]
  by_cases e : j = 1
  · subst e
    simp at hu
    rw [World.cell?_setCell_same' _ _ _ (by have := (h.th 1 (by omega)).1; simpa using this), hu]
  · rw [World.cell?_setCell_other _ _ _ _ (fun he => e (by have h0 := congrArg Addr.off he; simp at h0; exact h0.symm))]
    have := h.sv j u (by
      rw [← hu]
      match j with
      | 0 | 2 => rfl
      | j + 3 => simp)
    simpa using this
theorem BF.none' (h : BF W s n z q pr km kn kf len) (hp : pr kn = none) : BF W s n z q pr km (kn + 1) kf len := by
  obtain ⟨f, hf, h1, h2, h3⟩ := h.tab
  refine ⟨⟨f, hf, h1, h2, fun j i hj hi => ?_⟩, h.sv, h.th⟩
  by_cases e : j = kn
  · rw [e, hp] at hi; cases hi
  · exact h3 j i (by omega) hi
theorem BF.some' (h : BF W s n z q pr km kn kf len) {x : Nat} (hp : pr kn = some x) (hz : 2 * cnt pr kn + 2 ≤ z) (c1 : W.cell? ⟨s, 2 * n + 1 + 2 * cnt pr kn, none⟩ = some (vi 1)) (c2 : W.cell? ⟨s, 2 * n + 1 + (2 * cnt pr kn + 1), none⟩ = some (vi x)) : BF W s n z q pr km (kn + 1) kf len := by
  obtain ⟨f, hf, h1, h2, h3⟩ := h.tab
  refine ⟨⟨f, hf, h1, h2, fun j i hj hi => ?_⟩, h.sv, h.th⟩
  by_cases e : j = kn
  · subst e
    rw [hp] at hi
    cases hi
    have d1 := hf.cell (j := 2 * n + 1 + 2 * cnt pr j) (by omega)
    have d2 := hf.cell (j := 2 * n + 1 + (2 * cnt pr j + 1)) (by omega)
    rw [Nat.zero_add] at d1 d2
    rw [d1] at c1
    rw [d2] at c2
    exact ⟨Option.some.inj c1, Option.some.inj c2⟩
  · exact h3 j i (by omega) hi
theorem BF.start (h : Tab W s 0 (2 * n + 1 + z) (fun _ => .int .i64 0)) (r : W.rangeAt (s + 1) 0 [sl s 0 n (2 * n + 1 + z), sl s (nO n z) 0 z, sl s n (n + 1) (n + 1 + z)]) (th : W.there (s + 1) 0 3) : BF W s n z q pr 0 0 0 0 := by
  refine ⟨⟨fun _ => .int .i64 0, h, fun j hj => by omega, fun j hj => ?_, fun j i hj => by omega⟩, r, th⟩
  obtain rfl : j = 0 := by omega
  rfl
/-- The batch, once it is whole. -/
theorem BF.bat (h : BF W s n z q pr n n n (2 * cnt pr n)) (hfew : n ≤ 300) (hl : Low n pr) (hq : ∀ k, k < n → q k < 300) (hz : 2 * cnt pr n ≤ z) (hs : s < W.heap.size) : Bat W (sbt s n z) n q pr := by
  obtain ⟨f, hf, h1, h2, h3⟩ := h.tab
  have c : ∀ j, j < 2 * n + 1 + z → W.cell? ⟨s, j, none⟩ = some (f j) := fun j hj => by have := hf.cell hj; rw [Nat.zero_add] at this; exact this
  refine ⟨hfew, hl, hq, fun i hi => ?_, fun i hi => ?_, fun i j hi hp => ?_, hz, fun a ha => ?_, fun a ha => ?_, fun h => by cases h⟩
  · show W.cell? ⟨s, 0 + i, none⟩ = _
    rw [Nat.zero_add, c i (by omega), h1 i hi]
  · show W.cell? ⟨s, n + i, none⟩ = _
    rw [c _ (by omega), h2 i hi]
  · have hc := cnt_mono pr (show i + 1 ≤ n by omega)
    simp only [cnt, waits_some hp] at hc
    have hn0 : nO n z = 2 * n + 1 := by unfold nO; rw [if_neg (by omega)]
    obtain ⟨d1, d2⟩ := h3 i j hi hp
    refine ⟨s, nO n z, rfl, ?_, ?_⟩
    · rw [hn0, c _ (by omega), d1]
    · rw [hn0, c _ (by omega), d2]
  · cases ha; exact hs
  · cases ha; rfl
end
/-- .. with the marks, in the loop over the picks: all lie below S. -/
structure SL (w V : World) (S : Nat) (l : TBl) (steps : Int) (atv : Nat → Int) (t : Bt) (m k : Nat) (s n z : Nat) (q : Nat → Nat) (pr : Nat → Option Nat) (km kn kf len : Nat) (Ds : List Nat) : Prop where
  sb : SB w V l steps atv t m k
  bf : BF V s n z q pr km kn kf len
  mks : Marks V w.heap.size Ds
  sz : S ≤ V.heap.size
  s3 : w.heap.size + 3 ≤ s
  sS : s + 2 ≤ S
  lD : ∀ D ∈ Ds, D < S
section
variable {w V V' : World} {S : Nat} {l : TBl} {steps : Int} {atv : Nat → Int} {t : Bt} {m k : Nat} {s n z : Nat} {q : Nat → Nat} {pr : Nat → Option Nat} {km kn kf len : Nat} {Ds : List Nat}
theorem SL.kept {E : Nat → Prop} (h : SL w V S l steps atv t m k s n z q pr km kn kf len Ds) (kp : Kept E V V') (hE : ∀ b, E b → S ≤ b) : SL w V' S l steps atv t m k s n z q pr km kn kf len Ds := by
  have h1 := h.s3
  have h2 := h.sS
  refine ⟨h.sb.kept kp (fun b hb => by have := hE b hb; omega), h.bf.kept kp (fun he => by have := hE s he; omega) (fun he => by have := hE _ he; omega), ⟨h.mks.nodup, fun D hD => ⟨(h.mks.at' D hD).1, ?_⟩⟩, Nat.le_trans h.sz kp.size, h.s3, h.sS, h.lD⟩
  exact (kp.block D (Array.getElem?_eq_some_iff.1 (h.mks.at' D hD).2).1 (fun he => by have := hE D he; have := h.lD D hD; omega)).trans (h.mks.at' D hD).2
theorem SL.drewN (h : SL w V S l steps atv t m k s n z q pr km kn kf len Ds) (c : Nat) : SL w (V.drewN c) S l steps atv t m k s n z q pr km kn kf len Ds := h.kept (Kept.drewN (Kept.refl (fun _ => False) V) c) (fun _ h => h.elim)
/-- A cell is written; the marks stay. -/
theorem SL.marks (h : SL w V S l steps atv t m k s n z q pr km kn kf len Ds) {p : Addr} {u v : Value} (hc : V.cell? p = some u) : Marks (V.setCell p v) w.heap.size Ds :=
  h.mks.kept ((Kept.refl (fun b => b = p.block) V).setCell (p := p) (.inl rfl) _) (fun b hb => by subst hb; exact notDef_of_cell hc)
theorem SL.sbk (h : SL w V S l steps atv t m k s n z q pr km kn kf len Ds) {b o : Nat} (hb : w.heap.size + 3 ≤ b) (v : Value) : SB w (V.setCell ⟨b, o, none⟩ v) l steps atv t m k :=
  h.sb.kept ((Kept.refl (fun x => x = b) V).setCell (p := ⟨b, o, none⟩) (.inl rfl) _) (fun x hx => by subst hx; exact hb)
theorem isSome_ex {o : Option Value} (h : o.isSome = true) : ∃ u, o = some u := Option.isSome_iff_exists.1 h
theorem SL.member (h : SL w V S l steps atv t m k s n z q pr km kn kf len Ds) (hk : km < n) : SL w (V.setCell ⟨s, km, none⟩ (vi (q km))) S l steps atv t m k s n z q pr (km + 1) kn kf len Ds := by
  obtain ⟨u, hu⟩ := isSome_ex (h.bf.cellAt (j := km) (by omega)).1
  exact ⟨h.sbk h.s3 _, h.bf.member hk, h.marks hu, by simpa using h.sz, h.s3, h.sS, h.lD⟩
theorem SL.fro (h : SL w V S l steps atv t m k s n z q pr km kn kf len Ds) (hk : kf < n) (hm : km ≤ n) : SL w (V.setCell ⟨s, n + (kf + 1), none⟩ (vi (2 * cnt pr (kf + 1)))) S l steps atv t m k s n z q pr km kn (kf + 1) len Ds := by
  obtain ⟨u, hu⟩ := isSome_ex (h.bf.cellAt (j := n + (kf + 1)) (by omega)).1
  exact ⟨h.sbk h.s3 _, h.bf.fro hk hm, h.marks hu, by simpa using h.sz, h.s3, h.sS, h.lD⟩
theorem SL.put (h : SL w V S l steps atv t m k s n z q pr km kn kf len Ds) (hm : km ≤ n) (hf : kf ≤ n) {x : Nat} (hx : 2 * cnt pr kn ≤ x) (hz : x < z) (v : Value) : SL w (V.setCell ⟨s, 2 * n + 1 + x, none⟩ v) S l steps atv t m k s n z q pr km kn kf len Ds := by
  obtain ⟨u, hu⟩ := isSome_ex (h.bf.cellAt (j := 2 * n + 1 + x) (by omega)).1
  exact ⟨h.sbk h.s3 _, h.bf.put hm hf hx hz v, h.marks hu, by simpa using h.sz, h.s3, h.sS, h.lD⟩
theorem SL.len' (h : SL w V S l steps atv t m k s n z q pr km kn kf len Ds) (len' : Nat) : SL w (V.setCell ⟨s + 1, 1, none⟩ (sl s (nO n z) len' z)) S l steps atv t m k s n z q pr km kn kf len' Ds := by
  have hu := h.bf.sv 1 _ rfl
  have hs := h.s3
  rw [Nat.zero_add] at hu
  exact ⟨h.sbk (by omega) _, h.bf.len' len', h.marks hu, by simpa using h.sz, h.s3, h.sS, h.lD⟩
theorem SL.step (h : SL w V S l steps atv t m k s n z q pr km kn kf len Ds) (v : Int) : SL w (V.setCell ⟨l.T, 5, none⟩ (.int .i64 v)) S l v atv t m k s n z q pr km kn kf len Ds := by
  have hu := h.sb.st 5 _ rfl
  rw [Nat.zero_add] at hu
  have hs := h.s3
  have hT := h.sb.lT
  exact ⟨h.sb.step v, h.bf.kept ((Kept.refl (fun x => x = l.T) V).setCell (p := ⟨l.T, 5, none⟩) (.inl rfl) _) (fun (e : s = l.T) => by omega) (fun (e : s + 1 = l.T) => by omega), h.marks hu, by simpa using h.sz, h.s3, h.sS, h.lD⟩
theorem SL.mark (h : SL w V S l steps atv t m k s n z q pr km kn kf len Ds) {x : Nat} (hx : x < l.n) (v : Int) : SL w (V.setCell ⟨l.ba, x, none⟩ (.int .i64 v)) S l steps (fun y => if y = x then v else atv y) t m k s n z q pr km kn kf len Ds := by
  have hu := h.sb.at'.cell hx
  rw [Nat.zero_add] at hu
  have hs := h.s3
  have hT := h.sb.la
  exact ⟨h.sb.mark hx v, h.bf.kept ((Kept.refl (fun x => x = l.ba) V).setCell (p := ⟨l.ba, x, none⟩) (.inl rfl) _) (fun (e : s = l.ba) => by omega) (fun (e : s + 1 = l.ba) => by omega), h.marks hu, by simpa using h.sz, h.s3, h.sS, h.lD⟩
theorem SL.ext {atv' : Nat → Int} (h : SL w V S l steps atv t m k s n z q pr km kn kf len Ds) (e : ∀ x, x < l.n → atv x = atv' x) : SL w V S l steps atv' t m k s n z q pr km kn kf len Ds := ⟨h.sb.ext e, h.bf, h.mks, h.sz, h.s3, h.sS, h.lD⟩
theorem SL.none' (h : SL w V S l steps atv t m k s n z q pr km kn kf len Ds) (hp : pr kn = none) : SL w V S l steps atv t m k s n z q pr km (kn + 1) kf len Ds := ⟨h.sb, h.bf.none' hp, h.mks, h.sz, h.s3, h.sS, h.lD⟩
theorem SL.some' (h : SL w V S l steps atv t m k s n z q pr km kn kf len Ds) {x : Nat} (hp : pr kn = some x) (hz : 2 * cnt pr kn + 2 ≤ z) (c1 : V.cell? ⟨s, 2 * n + 1 + 2 * cnt pr kn, none⟩ = some (vi 1)) (c2 : V.cell? ⟨s, 2 * n + 1 + (2 * cnt pr kn + 1), none⟩ = some (vi x)) : SL w V S l steps atv t m k s n z q pr km (kn + 1) kf len Ds := ⟨h.sb, h.bf.some' hp hz c1 c2, h.mks, h.sz, h.s3, h.sS, h.lD⟩
theorem SL.cons (h : SL w V S l steps atv t m k s n z q pr km kn kf len Ds) {D : Nat} (hS : S ≤ D) (hD : V.heap[D]? = some (.deferred (some []))) : SL w V V.heap.size l steps atv t m k s n z q pr km kn kf len (D :: Ds) := by
  have h1 := h.s3
  have h2 := h.sS
  have h3 := h.sz
  have hlt := (Array.getElem?_eq_some_iff.1 hD).1
  exact ⟨h.sb, h.bf, h.mks.cons (fun hm => by have := h.lD D hm; omega) (by omega) hD, Nat.le_refl _, h.s3, by omega, fun X hX => by
    rcases List.mem_cons.1 hX with rfl | hX
    · exact hlt
    · have := h.lD X hX; omega⟩
/-- The bound may be raised. -/
theorem SL.up {S' : Nat} (h : SL w V S l steps atv t m k s n z q pr km kn kf len Ds) (hS : S ≤ S') (hV : S' ≤ V.heap.size) : SL w V S' l steps atv t m k s n z q pr km kn kf len Ds := ⟨h.sb, h.bf, h.mks, hV, h.s3, Nat.le_trans h.sS hS, fun D hD => Nat.lt_of_lt_of_le (h.lD D hD) hS⟩
end
end Go.Proofs.YbulkdsicGreat
