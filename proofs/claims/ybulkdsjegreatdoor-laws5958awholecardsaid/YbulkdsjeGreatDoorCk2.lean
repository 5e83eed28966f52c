import Derived.Test.YbulkdsjeGreatDoorApp
set_option linter.unusedVariables false
set_option linter.unusedSimpArgs false
namespace Go.Proofs.YbulkdsjeGreatDoor
open Go.RowKit

theorem there_fp {w w' : World} {X : Nat → Nat → Prop} (k : FP w w' X) {c j : Nat} (hc : c < w.heap.size) (h : (w.cell? ⟨c, j, none⟩).isSome = true ∧ w.frozen? ⟨c, j, none⟩ = false) (hs : X c j → (w'.cell? ⟨c, j, none⟩).isSome = true) : (w'.cell? ⟨c, j, none⟩).isSome = true ∧ w'.frozen? ⟨c, j, none⟩ = false := by
  refine ⟨?_, by rw [k.frz c j hc]; exact h.2⟩
  by_cases hx : X c j
  · exact hs hx
  · rw [k.cell c j hc hx]; exact h.1
/-- One empty chunk more. -/
theorem CY.newChunk {w w' : World} {S : Nat → Prop} {b o d n m Cb co cc : Nat} {f : Nat → Int} {sv : Value} {I cp : Nat → Nat} (h : CY w S b o d n f sv m Cb co cc I cp) (full : d + n = 256 * m) {NB r Cb' co' cc' : Nat} (fp : FP w w' (fun c j => (0 < m ∧ c = Cb) ∨ (c = b ∧ j = o)))
    (h0 : w'.cell? ⟨b, o, none⟩ = some (sl Cb' co' (m + 1) cc')) (room : m + 1 ≤ cc') (row : ∀ j, j < cc' * 2 → (w'.cell? ⟨Cb', co' + j, none⟩).isSome = true ∧ w'.frozen? ⟨Cb', co' + j, none⟩ = false)
    (old : ∀ j, j < m * 2 → w'.cell? ⟨Cb', co' + j, none⟩ = w.cell? ⟨Cb, co + j, none⟩) (n1 : w'.cell? ⟨Cb', co' + m * 2, none⟩ = some (sl NB 0 0 r)) (n2 : w'.cell? ⟨Cb', co' + m * 2 + 1, none⟩ = some (vi 0))
    (hNB : w.heap.size ≤ NB) (hNB2 : NB < w'.heap.size) (th : ∀ j, j < r * 2 → (w'.cell? ⟨NB, j, none⟩).isSome = true ∧ w'.frozen? ⟨NB, j, none⟩ = false) (r0 : 0 < r) (r1 : r ≤ 256) (ne : NB ≠ Cb') (mv : (0 < m ∧ Cb' = Cb) ∨ w.heap.size ≤ Cb') (hC2 : Cb' < w'.heap.size) :
    CY w' (fun c => S c ∨ c = NB ∨ c = Cb') b o d n f (sl Cb' co' (m + 1) cc') (m + 1) Cb' co' cc' (fun k => if k = m then NB else I k) (fun k => if k = m then r else cp k) := by
  have hb : b < w.heap.size := World.block_lt_of_cell? w _ h.c0
  have bC : 0 < m → b ≠ Cb := fun hm e => h.sb (by rw [e]; exact h.oc hm)
  have cI : ∀ k j, k < m → w'.cell? ⟨I k, j, none⟩ = w.cell? ⟨I k, j, none⟩ := fun k j hk => fp.cell _ _ (h.slt _ (h.oi k hk)) (fun e => e.elim (fun e => h.ic k hk e.2) (fun e => h.sb (by rw [← e.1]; exact h.oi k hk)))
  have fI : ∀ k j, k < m → w'.frozen? ⟨I k, j, none⟩ = w.frozen? ⟨I k, j, none⟩ := fun k j hk => fp.frz _ _ (h.slt _ (h.oi k hk))
  have hcb : b ≠ Cb' := fun e => by
    rcases mv with ⟨hm, e1⟩ | e1
    · exact bC hm (by rw [e, e1])
    · omega
  refine ⟨h0, ?_, ?_, fun j hj => by rw [fp.frz _ _ hb]; exact h.fr j hj, .inr ⟨by omega, rfl⟩, room, fun _ j hj => row j hj, by omega, h.d256, fun k hk => ?_, fun k hk j hj => ?_, fun k hk => ?_, fun p hp => ?_, fun k k' hk hk' e => ?_, fun k hk => ?_, fun _ => .inr (.inr rfl), fun k hk => ?_, fun x hx => ?_, fun e => ?_, h.bd⟩
  · rw [fp.cell _ _ hb (fun e => e.elim (fun e => bC e.1 e.2) (fun e => by omega))]; exact h.c1
  · rw [fp.cell _ _ hb (fun e => e.elim (fun e => bC e.1 e.2) (fun e => by omega))]; exact h.c2
  · by_cases e : k = m
    · subst e
      rw [if_pos rfl, if_pos rfl, show min 256 (d + n - 256 * k) = 0 by omega]
      exact ⟨n1, n2⟩
    · have hk2 : k < m := by omega
      rw [if_neg e, if_neg e, Nat.add_assoc co', old _ (by omega), old _ (by omega)]
      rw [← Nat.add_assoc]
      exact h.ch k hk2
  · by_cases e : k = m
    · subst e
      simp only [if_pos] at hj ⊢
      exact th j hj
    · rw [if_neg e] at hj ⊢
      rw [cI _ _ (by omega), fI _ _ (by omega)]
      exact h.it k (by omega) j hj
  · by_cases e : k = m
    · subst e
      rw [if_pos rfl]
      omega
    · rw [if_neg e]
      exact h.cpl k (by omega)
  · have hp2 : p / 256 < m := by omega
    rw [if_neg (by omega), cI _ _ hp2, cI _ _ hp2]
    exact h.val p hp
  · by_cases e1 : k = m <;> by_cases e2 : k' = m
    · omega
    · rw [if_pos e1, if_neg e2] at e
      have := h.slt _ (h.oi k' (by omega))
      omega
    · rw [if_neg e1, if_pos e2] at e
      have := h.slt _ (h.oi k (by omega))
      omega
    · rw [if_neg e1, if_neg e2] at e
      exact h.inj k k' (by omega) (by omega) e
  · by_cases e1 : k = m
    · rw [if_pos e1]; exact ne
    · rw [if_neg e1]
      have h1 := h.slt _ (h.oi k (by omega))
      rcases mv with ⟨hm, e2⟩ | e2
      · rw [e2]; exact h.ic k (by omega)
      · omega
  · by_cases e1 : k = m
    · rw [if_pos e1]; exact .inr (.inl rfl)
    · rw [if_neg e1]; exact .inl (h.oi k (by omega))
  · rcases hx with hx | hx | hx
    · exact Nat.lt_of_lt_of_le (h.slt x hx) fp.size
    · omega
    · omega
  · rcases e with e | e | e
    · exact h.sb e
    · omega
    · exact hcb e
/-- The last chunk in a greater room. -/
theorem CY.regrow {w w' : World} {S : Nat → Prop} {q : Nat} {b o d n Cb co cc : Nat} {f : Nat → Int} {sv : Value} {I cp : Nat → Nat} (h : CY w S b o d n f sv (q + 1) Cb co cc I cp) {NB r : Nat} (fp : FP w w' (fun c j => c = Cb ∧ (j = co + q * 2 ∨ j = co + q * 2 + 1)))
    (n1 : w'.cell? ⟨Cb, co + q * 2, none⟩ = some (sl NB 0 (min 256 (d + n - 256 * q)) r)) (n2 : w'.cell? ⟨Cb, co + q * 2 + 1, none⟩ = some (vi 0))
    (hNB : w.heap.size ≤ NB) (hNB2 : NB < w'.heap.size) (th : ∀ j, j < r * 2 → (w'.cell? ⟨NB, j, none⟩).isSome = true ∧ w'.frozen? ⟨NB, j, none⟩ = false) (old : ∀ j, j < min 256 (d + n - 256 * q) * 2 → w'.cell? ⟨NB, j, none⟩ = w.cell? ⟨I q, j, none⟩) (r0 : 0 < r) (r1 : r ≤ 256) (r2 : min 256 (d + n - 256 * q) ≤ r) :
    CY w' (fun c => S c ∨ c = NB) b o d n f sv (q + 1) Cb co cc (fun k => if k = q then NB else I k) (fun k => if k = q then r else cp k) := by
  have hb : b < w.heap.size := World.block_lt_of_cell? w _ h.c0
  have hC := h.slt _ (h.oc (by omega))
  have bC : b ≠ Cb := fun e => h.sb (by rw [e]; exact h.oc (by omega))
  have cb : ∀ j, w'.cell? ⟨b, j, none⟩ = w.cell? ⟨b, j, none⟩ := fun j => fp.cell _ _ hb (fun e => bC e.1)
  have cI : ∀ k j, k < q + 1 → w'.cell? ⟨I k, j, none⟩ = w.cell? ⟨I k, j, none⟩ := fun k j hk => fp.cell _ _ (h.slt _ (h.oi k hk)) (fun e => h.ic k hk e.1)
  have fI : ∀ k j, k < q + 1 → w'.frozen? ⟨I k, j, none⟩ = w.frozen? ⟨I k, j, none⟩ := fun k j hk => fp.frz _ _ (h.slt _ (h.oi k hk))
  refine ⟨by rw [cb]; exact h.c0, by rw [cb]; exact h.c1, by rw [cb]; exact h.c2, fun j hj => by rw [fp.frz _ _ hb]; exact h.fr j hj, h.form, h.mcc, fun hm j hj => ?_, h.hi, h.d256, fun k hk => ?_, fun k hk j hj => ?_, fun k hk => ?_, fun p hp => ?_, fun k k' hk hk' e => ?_, fun k hk => ?_, fun hm => .inl (h.oc hm), fun k hk => ?_, fun x hx => ?_, fun e => ?_, h.bd⟩
  · refine there_fp fp hC (h.row hm j hj) (fun e => ?_)
    rcases e.2 with e | e
    · rw [e, n1]; rfl
    · rw [e, n2]; rfl
  · by_cases e : k = q
    · subst e
      rw [if_pos rfl, if_pos rfl]
      exact ⟨n1, n2⟩
    · rw [if_neg e, if_neg e, fp.cell _ _ hC (fun x => by omega), fp.cell _ _ hC (fun x => by omega)]
      exact h.ch k hk
  · by_cases e : k = q
    · subst e
      simp only [if_pos] at hj ⊢
      exact th j hj
    · rw [if_neg e] at hj ⊢
      rw [cI _ _ hk, fI _ _ hk]
      exact h.it k hk j hj
  · by_cases e : k = q
    · subst e
      rw [if_pos rfl]
      exact ⟨r2, r1, r0⟩
    · rw [if_neg e]
      exact h.cpl k hk
  · have hp2 : p / 256 < q + 1 := by have := h.hi; omega
    by_cases e : p / 256 = q
    · rw [if_pos e, old _ (by omega), old _ (by omega), ← e]
      exact h.val p hp
    · rw [if_neg e, cI _ _ hp2, cI _ _ hp2]
      exact h.val p hp
  · by_cases e1 : k = q <;> by_cases e2 : k' = q
    · omega
    · rw [if_pos e1, if_neg e2] at e
      have := h.slt _ (h.oi k' hk')
      omega
    · rw [if_neg e1, if_pos e2] at e
      have := h.slt _ (h.oi k hk)
      omega
    · rw [if_neg e1, if_neg e2] at e
      exact h.inj k k' hk hk' e
  · by_cases e1 : k = q
    · rw [if_pos e1]; omega
    · rw [if_neg e1]; exact h.ic k hk
  · by_cases e1 : k = q
    · rw [if_pos e1]; exact .inr rfl
    · rw [if_neg e1]; exact .inl (h.oi k hk)
  · rcases hx with hx | hx
    · exact Nat.lt_of_lt_of_le (h.slt x hx) fp.size
    · omega
  · rcases e with e | e
    · exact h.sb e
    · omega
/-- One item more. -/
theorem CY.put {w w' : World} {S : Nat → Prop} {q : Nat} {b o d n Cb co cc : Nat} {f : Nat → Int} {sv : Value} {I cp : Nat → Nat} (h : CY w S b o d n f sv (q + 1) Cb co cc I cp) {L : Nat} (hL : d + n = 256 * q + L) (hL2 : L < cp q) {x1 : Int} {x2 : Nat} (fp : FP w w' (fun c j => (c = Cb ∧ j = co + q * 2) ∨ (c = I q ∧ (j = L * 2 ∨ j = L * 2 + 1)) ∨ (c = b ∧ j = o + 2)))
    (n1 : w'.cell? ⟨Cb, co + q * 2, none⟩ = some (sl (I q) 0 (L + 1) (cp q))) (n2 : w'.cell? ⟨b, o + 2, none⟩ = some (.int .i64 ((n : Int) + 1))) (v1 : w'.cell? ⟨I q, L * 2, none⟩ = some (ii x1)) (v2 : w'.cell? ⟨I q, L * 2 + 1, none⟩ = some (.float .f64 x2)) (hbd : d + n < 17179869184) :
    CX w' S b o d (n + 1) (fun p => if p = d + n then x1 else f p) sv (q + 1) Cb co cc I cp := by
  have hb : b < w.heap.size := World.block_lt_of_cell? w _ h.c0
  have hC := h.slt _ (h.oc (by omega))
  have bC : b ≠ Cb := fun e => h.sb (by rw [e]; exact h.oc (by omega))
  have bI : ∀ k, k < q + 1 → b ≠ I k := fun k hk e => h.sb (by rw [e]; exact h.oi k hk)
  have hcp := h.cpl q (by omega)
  have hLL : min 256 (d + n - 256 * q) = L := by omega
  have cI : ∀ k j, k < q + 1 → (k = q → j ≠ L * 2 ∧ j ≠ L * 2 + 1) → w'.cell? ⟨I k, j, none⟩ = w.cell? ⟨I k, j, none⟩ := fun k j hk hj => fp.cell _ _ (h.slt _ (h.oi k hk)) (fun e => by
    rcases e with e | e | e
    · exact h.ic k hk e.1
    · have := h.inj k q hk (by omega) e.1
      have := hj this
      omega
    · exact bI k hk e.1.symm)
  refine ⟨⟨?_, ?_, by rw [n2]; rfl, fun j hj => by rw [fp.frz _ _ hb]; exact h.fr j hj, h.form, h.mcc, fun hm j hj => ?_, by omega, h.d256, fun k hk => ?_, fun k hk j hj => ?_, fun k hk => ?_, fun p hp => ?_, h.inj, h.ic, h.oc, h.oi, fun x hx => Nat.lt_of_lt_of_le (h.slt x hx) fp.size, h.sb, by omega⟩, by omega, by omega⟩
  · rw [fp.cell _ _ hb (fun e => by rcases e with e | e | e; exact bC e.1; exact bI q (by omega) e.1; omega)]; exact h.c0
  · rw [fp.cell _ _ hb (fun e => by rcases e with e | e | e; exact bC e.1; exact bI q (by omega) e.1; omega)]; exact h.c1
  · refine there_fp fp hC (h.row hm j hj) (fun e => ?_)
    rcases e with e | e | e
    · rw [e.2, n1]; rfl
    · exact absurd e.1.symm (h.ic q (by omega))
    · exact absurd e.1.symm bC
  · by_cases e : k = q
    · subst e
      rw [n1, show min 256 (d + (n + 1) - 256 * k) = L + 1 by omega]
      refine ⟨rfl, ?_⟩
      rw [fp.cell _ _ hC (fun e => by rcases e with e | e | e; omega; exact absurd e.1.symm (h.ic k (by omega)); exact bC e.1.symm)]
      exact (h.ch k hk).2
    · have nx : ∀ j, j ≠ co + q * 2 → w'.cell? ⟨Cb, j, none⟩ = w.cell? ⟨Cb, j, none⟩ := fun j hj => fp.cell _ _ hC (fun e => by rcases e with e | e | e; omega; exact absurd e.1.symm (h.ic q (by omega)); exact bC e.1.symm)
      rw [nx _ (by omega), nx _ (by omega), show min 256 (d + (n + 1) - 256 * k) = min 256 (d + n - 256 * k) by omega]
      exact h.ch k hk
  · refine there_fp fp (h.slt _ (h.oi k hk)) (h.it k hk j hj) (fun e => ?_)
    rcases e with e | e | e
    · exact absurd e.1 (h.ic k hk)
    · rw [e.1]
      rcases e.2 with e | e
      · rw [e, v1]; rfl
      · rw [e, v2]; rfl
    · exact absurd e.1.symm (bI k hk)
  · have := h.cpl k hk
    by_cases e : k = q
    · subst e
      exact ⟨by omega, this.2⟩
    · exact ⟨by omega, this.2⟩
  · by_cases e : p = d + n
    · subst e
      rw [if_pos rfl, show (d + n) / 256 = q by omega, show (d + n) % 256 = L by omega]
      exact ⟨v1, x2, v2⟩
    · have hp2 : p / 256 < q + 1 := by omega
      rw [if_neg e, cI _ _ hp2 (fun e => by omega), cI _ _ hp2 (fun e => by omega)]
      exact h.val p (by omega)
end Go.Proofs.YbulkdsjeGreatDoor
