import Derived.Test.YbulkdsjeGreatDoorCk
set_option linter.unusedVariables false
set_option linter.unusedSimpArgs false
namespace Go.Proofs.YbulkdsjeGreatDoor
open Go.RowKit

theorem own_cells {w : World} {base e size n : Nat} {v : Value} {xs : List Value} (h : w.ownsRow base e size v n xs) (hn : 0 < n) :
    ∃ g cap, v = sl g 0 n cap ∧ base ≤ g ∧ g < w.heap.size ∧ n ≤ cap ∧ (∀ j, j < cap * size → (w.cell? ⟨g, j, none⟩).isSome = true ∧ w.frozen? ⟨g, j, none⟩ = false) ∧ ∀ j u, xs[j]? = some u → w.cell? ⟨g, j, none⟩ = some u := by
  rcases h.2 with ⟨_, h0⟩ | ⟨g, cap, cur, rfl, hb, hc, hle, _, hs, ht⟩
  · omega
  · refine ⟨g, cap, rfl, hb, (Array.getElem?_eq_some_iff.1 hc).1, hle, fun j hj => ⟨?_, ?_⟩, fun j u hu => ?_⟩
    · unfold World.cell?
      simp only [hc]
      rw [Array.getElem?_eq_getElem (by rw [hs]; exact hj)]
      rfl
    · unfold World.frozen?
      simp [hc]
    · rw [← ht] at hu
      have hj : j < n * size := by
        have h1 := (List.getElem?_eq_some_iff.1 hu).1
        have h2 := List.length_take_le (n * size) cur.toList
        omega
      rw [List.getElem?_take_of_lt hj] at hu
      unfold World.cell?
      simp only [hc]
      simpa using hu
/-- What an append of one item of two cells leaves. -/
structure Ap2 (w : World) (Cb co m : Nat) (v1 v2 : Value) (Cb' co' cc' : Nat) (w' : World) : Prop where
  room : m + 1 ≤ cc'
  row : ∀ j, j < cc' * 2 → (w'.cell? ⟨Cb', co' + j, none⟩).isSome = true ∧ w'.frozen? ⟨Cb', co' + j, none⟩ = false
  old : ∀ j, j < m * 2 → w'.cell? ⟨Cb', co' + j, none⟩ = w.cell? ⟨Cb, co + j, none⟩
  new1 : w'.cell? ⟨Cb', co' + m * 2, none⟩ = some v1
  new2 : w'.cell? ⟨Cb', co' + m * 2 + 1, none⟩ = some v2
  kept : Kept (fun b => 0 < m ∧ b = Cb) w w'
  mv : (0 < m ∧ Cb' = Cb) ∨ w.heap.size ≤ Cb'
  lt : Cb' < w'.heap.size
  frz : ∀ c j, c < w.heap.size → w'.frozen? ⟨c, j, none⟩ = w.frozen? ⟨c, j, none⟩
theorem wpList_app2 {ops : Array Oper} {rest : List Oper} {o : Oper} {a : Act} {w : World} {Q : Exit → Act → World → Prop} (hgd : o.guard = none) (s x : Operand) (t e : TypeId) (i : TypeInfo) (z : Value) (ho : o.op = .call { callee := .builtin .append, args := #[s, x], argTypes := #[t, t] })
    (ht : Ybaz.prog.underlying t = some (.slice e)) (hi : Ybaz.prog.info? e = some i) (hz : i.zero = some z) (hsz : i.size = 2) (hzs : z.cells.size = 2) (hby : i.bytes ≤ 32)
    (sv : Value) (Cb co m cc : Nat) (hse : a.eval s = sv) (form : (m = 0 ∧ sv = .slice none 0 0) ∨ (0 < m ∧ sv = sl Cb co m cc)) (mcc : m ≤ cc) (row : 0 < m → ∀ j, j < cc * 2 → (w.cell? ⟨Cb, co + j, none⟩).isSome = true ∧ w.frozen? ⟨Cb, co + j, none⟩ = false) (hCb : 0 < m → Cb < w.heap.size)
    (ad : Nat) (v1 v2 : Value) (hx : a.eval x = sl ad 0 1 1) (hv1 : w.cell? ⟨ad, 0, none⟩ = some v1) (hv2 : w.cell? ⟨ad, 1, none⟩ = some v2) (o1 : v1.oneCell' = true) (o2 : v2.oneCell' = true) (hb : m ≤ 1099511627776)
    (h : ∀ Cb' co' cc' w', Ap2 w Cb co m v1 v2 Cb' co' cc' w' → wpList Ybaz.prog ops Q rest (a.put o.dst (sl Cb' co' (m + 1) cc')) w') : wpList Ybaz.prog ops Q (o :: rest) a w := by
  have hnews : ∀ j u, [v1, v2][j]? = some u → w.cell? ((⟨ad, 0, none⟩ : Addr).add j) = some u := fun j u hu => by
    match j, hu with
    | 0, hu => simp at hu; subst hu; simpa [Addr.add] using hv1
    | 1, hu => simp at hu; subst hu; simpa [Addr.add] using hv2
  have hone : ∀ u ∈ [v1, v2], u.oneCell' = true := fun u hu => by
    simp at hu
    rcases hu with rfl | rfl <;> assumption
  have hbb : (m + 1) * i.bytes ≤ 140737488355328 := by
    have := Nat.mul_le_mul_left (m + 1) hby
    omega
  refine wpList_plain hgd fun K hK => ?_
  -- a new row
  have fresh : ∀ v' w' olds, w'.ownsRow w.heap.size e 2 v' (m + 1) (olds ++ [v1, v2]) → olds.length = m * 2 → (∀ j u, olds[j]? = some u → w.cell? ⟨Cb, co + j, none⟩ = some u) → Kept (fun _ => False) w w' → K (a.put o.dst v') w' := fun v' w' olds own hlo holds hk => by
    obtain ⟨g, cap, rfl, hb0, hg, hle, hth, hcs⟩ := own_cells own (by omega)
    refine hK _ _ (h g 0 cap w' ⟨hle, fun j hj => by rw [Nat.zero_add]; exact hth j hj, fun j hj => ?_, ?_, ?_, hk.weak (fun _ _ h => h.elim), .inr hb0, hg, fun c j hc => World.frozen?_of_block (w := w) (w' := w') (hk.block c hc (fun h => h))⟩)
    · have hu : olds[j]? = some olds[j] := List.getElem?_eq_getElem (by omega)
      rw [holds j _ hu, Nat.zero_add]
      exact hcs j _ (by rw [List.getElem?_append_left (by omega)]; exact hu)
    · rw [Nat.zero_add]
      exact hcs _ _ (by rw [List.getElem?_append_right (by omega)]; simp [hlo])
    · rw [Nat.zero_add]
      exact hcs _ _ (by rw [List.getElem?_append_right (by omega)]; simp [hlo])
  unfold Oper.wp execOp
  rcases form with ⟨h0, rfl⟩ | ⟨hm, rfl⟩
  · subst h0
    obtain ⟨v', w', hr, h2, h3, h4, h5⟩ := run_append_own_at (P := Ybaz.prog) w w.heap.size t o.type e i z 2 i.bytes ht hi hz hsz rfl hzs (by omega) (.slice none 0 0) 0 [] ⟨rfl, .inl ⟨rfl, rfl⟩⟩ ⟨ad, 0, none⟩ 1 1 [v1, v2] rfl hnews hone (by unfold maxLen; omega) hbb (Nat.le_refl _)
    simp only [ho, resolve, invoke, builtin, Sem.run_bind, Sem.run_pure, Result.andThen_ok, List.map_toArray, List.map_cons, List.map_nil, hse, hx, hr]
    exact fresh v' w' [] h2 rfl (fun j u hu => by simp at hu) ((Kept.refl _ w).grown h3 (fun b hb => by cases hb))
  · by_cases hroom : m + 1 ≤ cc
    · have hr := run_append_room_cells (P := Ybaz.prog) w t o.type e i ht hi Cb co m cc ⟨ad, 0, none⟩ 1 1 [v1, v2] (by rw [hsz]; rfl) hnews hone hroom (fun j hj => by rw [hsz, Nat.add_assoc]; exact (row hm _ (by simp at hj; omega)).1) (fun j hj => by rw [hsz, Nat.add_assoc]; exact (row hm _ (by simp at hj; omega)).2)
      rw [hsz] at hr
      simp only [ho, resolve, invoke, builtin, Sem.run_bind, Sem.run_pure, Result.andThen_ok, List.map_toArray, List.map_cons, List.map_nil, hse, hx, hr]
      have th2 : w.there Cb (co + m * 2) 2 := fun j hj => by rw [Nat.add_assoc]; exact row hm _ (by omega)
      have hsc : w.setCells Cb (co + m * 2) [v1, v2] = (w.setCell ⟨Cb, co + m * 2, none⟩ v1).setCell ⟨Cb, co + m * 2 + 1, none⟩ v2 := rfl
      rw [hsc]
      have e1 : ∀ (j : Nat), j < cc * 2 → (((w.setCell ⟨Cb, co + m * 2, none⟩ v1).setCell ⟨Cb, co + m * 2 + 1, none⟩ v2).cell? ⟨Cb, co + j, none⟩).isSome = true ∧ ((w.setCell ⟨Cb, co + m * 2, none⟩ v1).setCell ⟨Cb, co + m * 2 + 1, none⟩ v2).frozen? ⟨Cb, co + j, none⟩ = false := fun j hj => by
        have t0 : w.there Cb co (cc * 2) := fun j hj => row hm j hj
        exact there_setCell (there_setCell t0 _ _) _ _ j hj
      refine hK _ _ (h Cb co cc _ ⟨hroom, e1, fun j hj => ?_, ?_, ?_, ((Kept.refl _ w).setCell (p := ⟨Cb, co + m * 2, none⟩) (.inl ⟨hm, rfl⟩) _).setCell (p := ⟨Cb, co + m * 2 + 1, none⟩) (.inl ⟨hm, rfl⟩) _, .inl ⟨hm, rfl⟩, ?_, fun c j hc => by rw [World.frozen?_setCell, World.frozen?_setCell]⟩)
      · rw [World.cell?_setCell_other _ _ _ _ (fun he => by have h0 := congrArg Addr.off he; simp at h0; omega), World.cell?_setCell_other _ _ _ _ (fun he => by have h0 := congrArg Addr.off he; simp at h0; omega)]
      · rw [World.cell?_setCell_other _ _ _ _ (fun he => by have h0 := congrArg Addr.off he; simp at h0), World.cell?_setCell_same' _ _ _ (by have := (th2 0 (by omega)).1; exact this)]
      · rw [World.cell?_setCell_same' _ _ _ (by have := (there_setCell th2 ⟨Cb, co + m * 2, none⟩ v1 1 (by omega)).1; exact this)]
      · have := hCb hm
        simpa [World.setCell] using this
    · have holds : ∀ j u, (List.ofFn (fun j : Fin (m * 2) => (w.cell? ⟨Cb, co + j, none⟩).getD undef))[j]? = some u → w.cell? ⟨Cb, co + j, none⟩ = some u := fun j u hu => by
        have hj : j < m * 2 := by simpa using (List.getElem?_eq_some_iff.1 hu).1
        rw [List.getElem?_ofFn, dif_pos hj] at hu
        simp at hu
        obtain ⟨y, hy⟩ := Option.isSome_iff_exists.1 (row hm j (by omega)).1
        rw [hy] at hu ⊢
        simpa using hu
      obtain ⟨v', w', hr, h2, h3⟩ := run_append_arg_grows (P := Ybaz.prog) w t o.type e i z 2 i.bytes ht hi hz hsz rfl hzs (by omega) ⟨Cb, co, none⟩ m cc (List.ofFn (fun j : Fin (m * 2) => (w.cell? ⟨Cb, co + j, none⟩).getD undef)) (by simp) (fun j u hu => by rw [Addr.add_lit]; exact holds j u hu) ⟨ad, 0, none⟩ 1 1 [v1, v2] rfl hnews (by omega) (by unfold maxLen; omega) hbb
      simp only [ho, resolve, invoke, builtin, Sem.run_bind, Sem.run_pure, Result.andThen_ok, List.map_toArray, List.map_cons, List.map_nil, hse, hx, hr]
      exact fresh v' w' _ h2 (by simp) holds ((Kept.refl _ w).grown h3 (fun b hb => by cases hb))
end Go.Proofs.YbulkdsjeGreatDoor
