import Derived.Test.YbulkdsjeGreatDoorPu
set_option linter.unusedVariables false
set_option linter.unusedSimpArgs false
namespace Go.Proofs.YbulkdsjeGreatDoor
open Go.RowKit

theorem FP.setCells2 (b : Nat) : ∀ (vs : List Value) (o : Nat) (w : World), FP w (w.setCells b o vs) (fun c j => c = b ∧ o ≤ j ∧ j < o + vs.length)
  | [], _, w => FP.refl w _
  | v :: r, o, w => ((FP.set (w := w) b o v).mono (fun _ _ _ h => ⟨h.1, by simp; omega⟩)).trans ((FP.setCells2 b r (o + 1) (w.setCell ⟨b, o, none⟩ v)).mono (fun _ _ _ h => ⟨h.1, by simp at h ⊢; omega⟩))
theorem wpList_clr {ops : Array Oper} {rest : List Oper} {op : Oper} {a : Act} {w : World} {Q : Exit → Act → World → Prop} (hgd : op.guard = none) (x : Operand) (t e : TypeId) (ho : op.op = .call { callee := .builtin .clear, args := #[x], argTypes := #[t] }) (hd : op.dst = none)
    (ht : Ybaz.prog.underlying t = some (.slice e)) (g off n c : Nat) (hx : a.eval x = sl g off n c) (hz : ∀ w, (zeroValue e).run Ybaz.prog w = .ok (.agg #[.slice none 0 0, .int .i64 0]) w)
    (hth : ∀ j, j < n * 2 → (w.cell? ⟨g, off + j, none⟩).isSome = true ∧ w.frozen? ⟨g, off + j, none⟩ = false)
    (h : ∀ w', FP w w' (fun c j => c = g ∧ off ≤ j ∧ j < off + n * 2) → (∀ j, j < n * 2 → (w'.cell? ⟨g, off + j, none⟩).isSome = true) → wpList Ybaz.prog ops Q rest a w') : wpList Ybaz.prog ops Q (op :: rest) a w := by
  refine wpList_plain hgd fun K hK => ?_
  have hu : ∀ w, (underlying t).run Ybaz.prog w = .ok (.slice e) w := fun w => run_underlying ht w
  match n, hx, hth, h with
  | 0, hx, hth, h =>
    have hc : (Builtin.clear_ #[t] op.type #[sl g off 0 c]).run Ybaz.prog w = .ok (.tuple #[]) w := by
      have e0 : (#[t][0]?, #[sl g off 0 c][0]?) = (some t, some (sl g off 0 c)) := rfl
      simp only [Builtin.clear_, e0, Sem.run_bind, hu, Result.andThen_ok, Sem.run_pure]
    unfold Oper.wp execOp
    simp only [ho, resolve, invoke, builtin, Sem.run_bind, Sem.run_pure, Result.andThen_ok, List.map_toArray, List.map_cons, List.map_nil, hx, hc]
    refine hK _ _ ?_
    rw [hd]
    exact h w (FP.refl _ _) (fun j hj => by omega)
  | n + 1, hx, hth, h =>
    obtain ⟨zs, hzs⟩ : ∃ zs, (Builtin.zeroCells (Value.agg #[.slice none 0 0, .int .i64 0]).cells (n + 1)).toList = zs := ⟨_, rfl⟩
    have hl : zs.length = (n + 1) * 2 := by
      rw [← hzs, Array.length_toList, size_zeroCells]
      rfl
    have h1 : ∀ v ∈ zs, v.oneCell' = true := by
      rw [← hzs]
      intro v hv
      simp only [Builtin.zeroCells, Value.cells, Array.toList_map, List.mem_map] at hv
      obtain ⟨i, _, rfl⟩ := hv
      have hlt : i % 2 < 2 := Nat.mod_lt _ (by omega)
      show ((#[Value.slice none 0 0, Value.int .i64 0] : Array Value)[i % 2]!).oneCell' = true
      rcases Nat.mod_two_eq_zero_or_one i with e | e <;> rw [e] <;> rfl
    have hs := run_storeCells_cells (P := Ybaz.prog) g off zs 0 w (fun j hj => by simpa using (hth j (by omega)).1) (fun j hj => by simpa using (hth j (by omega)).2) h1
    rw [Nat.add_zero] at hs
    have hc : (Builtin.clear_ #[t] op.type #[sl g off (n + 1) c]).run Ybaz.prog w = .ok (.tuple #[]) (w.setCells g off zs) := by
      have e0 : (#[t][0]?, #[sl g off (n + 1) c][0]?) = (some t, some (sl g off (n + 1) c)) := rfl
      simp only [Builtin.clear_, e0, Sem.run_bind, hu, Result.andThen_ok, hz, hzs, hs, Sem.run_pure]
    unfold Oper.wp execOp
    simp only [ho, resolve, invoke, builtin, Sem.run_bind, Sem.run_pure, Result.andThen_ok, List.map_toArray, List.map_cons, List.map_nil, hx, hc]
    refine hK _ _ ?_
    rw [hd]
    have th0 : w.there g off ((n + 1) * 2) := hth
    exact h _ (by have := FP.setCells2 g zs off w; rwa [hl] at this) (fun j hj => (there_setCells th0 g off zs j hj).1)
/-- What a drop from the front leaves. -/
def DrP (U : World) (S : Nat → Prop) (b o d n : Nat) (f : Nat → Int) (k : Nat) (w' : World) : Prop := ∃ d' n' e, CK w' S b o d' n' (fun p => f (p + 256 * e)) ∧ ((n' = 0 ∧ d' = 0) ∨ (n' + k = n ∧ d' + n' + 256 * e = d + n)) ∧ FP U w' (fun c j => S c ∨ (c = b ∧ o ≤ j ∧ j < o + 3))
theorem CX.dropped {U w' : World} {S : Nat → Prop} {b o d n m Cb co cc : Nat} {f : Nat → Int} {sv : Value} {I cp : Nat → Nat} (h : CX U S b o d n f sv m Cb co cc I cp) {k e : Nat} (hk : k < n) (he : (d + k) / 256 = e)
    (fp : FP U w' (fun c j => (c = Cb ∧ co ≤ j ∧ j < co + e * 2) ∨ (c = b ∧ o ≤ j ∧ j < o + 3))) (c0 : w'.cell? ⟨b, o, none⟩ = some (sl Cb (co + e * 2) (m - e) (cc - e))) (c1 : w'.cell? ⟨b, o + 1, none⟩ = some (vi ((d + k) % 256))) (c2 : w'.cell? ⟨b, o + 2, none⟩ = some (vi (n - k))) (hth : ∀ j, j < e * 2 → (w'.cell? ⟨Cb, co + j, none⟩).isSome = true) :
    CX w' S b o ((d + k) % 256) (n - k) (fun p => f (p + 256 * e)) (sl Cb (co + e * 2) (m - e) (cc - e)) (m - e) Cb (co + e * 2) (cc - e) (fun k => I (k + e)) (fun k => cp (k + e)) := by
  have hhi := h.hi
  have hlo := h.lo
  have hd := h.d256
  have hmc := h.mcc
  have em : e < m := by omega
  have hm : 0 < m := by omega
  have hb : b < U.heap.size := World.block_lt_of_cell? U _ h.c0
  have hC := h.slt _ (h.oc hm)
  have bC : b ≠ Cb := fun x => h.sb (by rw [x]; exact h.oc hm)
  have bI : ∀ k, k < m → b ≠ I k := fun k hk x => h.sb (by rw [x]; exact h.oi k hk)
  have cC : ∀ j, co + e * 2 ≤ j → w'.cell? ⟨Cb, j, none⟩ = U.cell? ⟨Cb, j, none⟩ := fun j hj => fp.cell _ _ hC (fun x => x.elim (fun x => by omega) (fun x => bC x.1.symm))
  have cI : ∀ k j, k < m → w'.cell? ⟨I k, j, none⟩ = U.cell? ⟨I k, j, none⟩ := fun k j hk => fp.cell _ _ (h.slt _ (h.oi k hk)) (fun x => x.elim (fun x => h.ic k hk x.1) (fun x => bI k hk x.1.symm))
  have fI : ∀ k j, k < m → w'.frozen? ⟨I k, j, none⟩ = U.frozen? ⟨I k, j, none⟩ := fun k j hk => fp.frz _ _ (h.slt _ (h.oi k hk))
  have sum : (d + k) % 256 + (n - k) + 256 * e = d + n := by omega
  refine ⟨⟨c0, c1, c2, fun j hj => by rw [fp.frz _ _ hb]; exact h.fr j hj, .inr ⟨by omega, rfl⟩, by omega, fun _ j hj => ?_, by omega, by omega, fun q hq => ?_, fun q hq j hj => ?_, fun q hq => ?_, fun p hp => ?_, fun q q' hq hq' x => ?_, fun q hq => h.ic _ (by omega), fun _ => h.oc hm, fun q hq => h.oi _ (by omega), fun x hx => Nat.lt_of_lt_of_le (h.slt x hx) fp.size, h.sb, by have := h.bd; omega⟩, by omega, by omega⟩
  · rw [cC _ (by omega), fp.frz _ _ hC, Nat.add_assoc]
    exact h.row hm _ (by omega)
  · have := h.ch (q + e) (by omega)
    rw [cC _ (by omega), cC _ (by omega), show co + e * 2 + q * 2 = co + (q + e) * 2 by omega, show (d + k) % 256 + (n - k) - 256 * q = d + n - 256 * (q + e) by omega]
    exact this
  · rw [cI _ _ (by omega), fI _ _ (by omega)]
    exact h.it (q + e) (by omega) j hj
  · have := h.cpl (q + e) (by omega)
    rw [show (d + k) % 256 + (n - k) - 256 * q = d + n - 256 * (q + e) by omega]
    exact this
  · have := h.val (p + 256 * e) (by omega)
    rw [cI _ _ (by omega), cI _ _ (by omega)]
    rw [show (p + 256 * e) / 256 = p / 256 + e by omega, show (p + 256 * e) % 256 = p % 256 by omega] at this
    exact this
  · have := h.inj _ _ (by omega) (by omega) x
    omega
theorem CX.emptied {U w' : World} {S : Nat → Prop} {b o d n m Cb co cc : Nat} {f : Nat → Int} {sv : Value} {I cp : Nat → Nat} (h : CX U S b o d n f sv m Cb co cc I cp) (fp : FP U w' (fun c j => c = b ∧ o ≤ j ∧ j < o + 3)) (c0 : w'.cell? ⟨b, o, none⟩ = some (.slice none 0 0)) (c1 : w'.cell? ⟨b, o + 1, none⟩ = some (vi 0)) (c2 : w'.cell? ⟨b, o + 2, none⟩ = some (vi 0)) (g : Nat → Int) : CX w' S b o 0 0 g (.slice none 0 0) 0 0 0 0 I cp :=
  ⟨⟨c0, c1, c2, fun j hj => by rw [fp.frz _ _ (World.block_lt_of_cell? U _ h.c0)]; exact h.fr j hj, .inl ⟨rfl, rfl⟩, by omega, fun hm => by omega, by omega, by omega, fun q hq => by omega, fun q hq => by omega, fun q hq => by omega, fun p hp => by omega, fun q q' hq => by omega, fun q hq => by omega, fun hm => by omega, fun q hq => by omega, fun x hx => Nat.lt_of_lt_of_le (h.slt x hx) fp.size, h.sb, by omega⟩, by omega, fun _ => rfl⟩
end Go.Proofs.YbulkdsjeGreatDoor
