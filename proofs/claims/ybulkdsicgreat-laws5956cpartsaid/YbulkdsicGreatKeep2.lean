import Derived.Test.YbulkdsicGreatKeep
set_option linter.unusedVariables false
set_option linter.unusedSimpArgs false
namespace Go.Proofs.YbulkdsicGreat
open Go.RowKit Go.Shelf

theorem news2 (W : World) (u v : Value) (t : TypeId) : ∀ (j : Nat) x, [u, v][j]? = some x → (W.alloc (.cells #[u, v] t)).cell? ((⟨W.heap.size, 0, none⟩ : Addr).add j) = some x := fun j x hx => by
  have hadd : (⟨W.heap.size, 0, none⟩ : Addr).add j = ⟨W.heap.size, j, none⟩ := by unfold Addr.add; split <;> simp_all
  rw [hadd]
  have := range_new W [u, v] t j x hx
  rwa [Nat.zero_add] at this

set_option maxRecDepth 100000 in
set_option maxHeartbeats 4000000 in
/-- appendKept, of one need of one. -/
theorem keep_one (T n bl base k bo oo co bq oq cq p : Nat) (nv : Value) (xs : List Value) (w : World) (hn : n ≤ 300) (hp : p < n) (hk : k ≤ 1000) (hT : w.cell? ⟨T, 3, none⟩ = some (sl bl 0 n n)) (hal : Tab w bl 0 n (fun _ => .bool false)) (hown : w.ownsRow base 3 1 nv k xs) (hb : base ≤ w.heap.size)
    (ho : w.cell? ⟨bo, oo, none⟩ = some (sl bq oq 1 cq)) (hq : w.cell? ⟨bq, oq, none⟩ = some (vi p)) (n1 : T ≠ bl) (n2 : bo ≠ bl) (n3 : bq ≠ bl) (n4 : ∀ b, nv.ownBlock = some b → b ≠ T ∧ b ≠ bl ∧ b ≠ bo ∧ b ≠ bq) :
    Calls Ybaz.prog 8 #[.pointer (some ⟨T, 0, none⟩), nv, sl bo oo 1 co] w fun e w' => (∃ v, e = .returned v ∧ w'.ownsRow base 3 1 v (k + 2) (xs ++ [vi 1, vi p]) ∧ (v.ownBlock = nv.ownBlock ∨ ∃ g, v.ownBlock = some g ∧ w.heap.size ≤ g)) ∧ Kept (fun b => b = bl ∨ nv.ownBlock = some b) w w' ∧ Tab w' bl 0 n (fun _ => .bool false) := by
  obtain ⟨i3, hi3, hz3, hs3, hb3⟩ := info_parts Ybaz.info3
  have a0 : w.cell? ⟨bl, p, none⟩ = some (.bool false) := by simpa using hal.cell hp
  have f0 : w.frozen? ⟨bl, p, none⟩ = false := by simpa using hal.free hp
  have hpi : (p : Int) < (n : Int) := by omega
  have AL := hid hal
  have OW := hid hown
  have N4 := hid n4
  clear hal hown n4
  go_enter Ybaz.func8, Ybaz.ntmps8
  go_wp2
  refine wp_loop_rounds 2 ?_
  rw [rounds_succ]
  go_wp2
  go_quiet (fail)
  go_wp2
  refine wp_region_quiet_tail 7 (fun w' => ∃ nq', w' = w.drewN nq') mixed (by kernel_rfl) ⟨nq + 1, rfl⟩ ?_
  dsimp only [List.take, List.drop]
  repeat go_big_quiet_step (fail)
  refine wpQuiet_nil ?_
  rintro _ ⟨nr, rfl⟩
  obtain ⟨W1, hW1⟩ : ∃ W1, (w.drewN nr).setCell ⟨bl, p, none⟩ (.bool true) = W1 := ⟨_, rfl⟩
  have k1 : Kept (fun b => b = bl) w W1 := by
    rw [← hW1]
    have kq : Kept (fun b => b = bl) w (w.drewN nr) := ⟨rfl, rfl, rfl, Nat.le_refl _, fun _ _ _ => rfl⟩
    exact kq.setCell (p := ⟨bl, p, none⟩) (.inl rfl) _
  have t1 : Tab W1 bl 0 n (fun j => if j = p then .bool true else .bool false) := by
    have t0 : Tab (w.drewN nr) bl 0 n (fun _ => .bool false) := AL.out
    have := t0.set hp (.bool true)
    rw [Nat.zero_add, hW1] at this
    exact this
  have o1 : W1.ownsRow base 3 1 nv k xs := own_kept OW.out k1 (fun g hg he => (N4.out g hg).2.1 he)
  have z1 := k1.cell (p := ⟨T, 3, none⟩) n1 hT
  have z2 := k1.cell (p := ⟨bo, oo, none⟩) n2 ho
  have z3 := k1.cell (p := ⟨bq, oq, none⟩) n3 hq
  have s1 := k1.size
  have O1 := hid o1
  have T1 := hid t1
  have K1 := hid k1
  clear o1 t1 k1 hT ho hq
  go_wp2_with (at_builtin; refine wpList_append_own_at _ rfl (.tmp 45) (.tmp 49) 26 rfl base 3 i3 (.int .i64 0) 1 8 Ybaz.underlying26 hi3 hz3 hs3 hb3 rfl (by decide) nv k xs rfl (own_kept O1.out ((Kept.refl (fun _ => False) W1).alloc _) (fun _ _ h => h)) ⟨W1.heap.size, 0, none⟩ 2 2 [vi 1, vi p] rfl rfl (news2 W1 (vi 1) (vi p) 3) (by simp [Value.oneCell']) (by unfold maxLen; omega) (by omega) (by simp; omega) ?_; intro v' w2 own2 grow2 _ mv2; obtain ⟨g', c', rfl⟩ := own_slice (n := k + 1) own2; have k2 : Kept (fun b => nv.ownBlock = some b) W1 w2 := (((Kept.refl _ W1).alloc (.cells #[vi 1, vi p] 3)).grown grow2 (fun b hb => .inl hb)); have y1 := k2.cell (p := ⟨T, 3, none⟩) (fun he => (N4.out _ he).1 rfl) z1; have y2 := k2.cell (p := ⟨bo, oo, none⟩) (fun he => (N4.out _ he).2.2.1 rfl) z2; have y3 := k2.cell (p := ⟨bq, oq, none⟩) (fun he => (N4.out _ he).2.2.2 rfl) z3; have t2 := T1.out.kept k2 (fun he => (N4.out _ he).2.1 rfl); have y4 : w2.cell? ⟨bl, p, none⟩ = some (.bool true) := (by have := t2.cell hp; simpa using this); have y5 : w2.frozen? ⟨bl, p, none⟩ = false := (by simpa using t2.free hp); have O2 := hid own2; have K2 := hid k2; have T2 := hid t2; have M2 := hid mv2; clear own2 k2 t2 mv2 grow2 z1 z2 z3)
  rw [rounds_succ]
  go_wp2
  refine wp_loop_rounds 2 ?_
  rw [rounds_succ]
  go_wp2
  refine wp_loop_rounds 2 ?_
  rw [rounds_succ]
  go_wp2
  rw [rounds_succ]
  go_wp2
  rw [rounds_succ]
  go_wp2
  refine wp_loop_rounds 2 ?_
  rw [rounds_succ]
  go_wp2
  refine wp_region_quiet_tail 7 (fun w' => ∃ nq', w' = w2.drewN nq') mixed (by kernel_rfl) ⟨1, rfl⟩ ?_
  dsimp only [List.take, List.drop]
  repeat go_big_quiet_step (fail)
  refine wpQuiet_nil ?_
  rintro _ ⟨ns, rfl⟩
  obtain ⟨W5, hW5⟩ : ∃ W5, (w2.drewN ns).setCell ⟨bl, p, none⟩ (.bool false) = W5 := ⟨_, rfl⟩
  go_wp2
  rw [rounds_succ]
  go_wp2
  go_ret
  have k5 : Kept (fun b => b = bl) w2 W5 := by
    rw [← hW5]
    have kq : Kept (fun b => b = bl) w2 (w2.drewN ns) := ⟨rfl, rfl, rfl, Nat.le_refl _, fun _ _ _ => rfl⟩
    exact kq.setCell (p := ⟨bl, p, none⟩) (.inl rfl) _
  have s2 := K2.out.size
  have hg' : g' ≠ bl := fun e => by
    rcases M2.out with h | h
    · exact (N4.out g' h.symm).2.1 e
    · have h9 : g' = (W1.alloc (.cells #[vi 1, vi p] 3)).heap.size := Option.some.inj h
      have hl := AL.out.lt (by omega)
      simp at h9
      omega
  refine ⟨⟨_, rfl, own_kept O2.out k5 (fun g hg he => ?_), ?_⟩, ?_, ?_⟩
  · cases hg
    exact hg' he
  · rcases M2.out with h | h
    · exact .inl h
    · exact .inr ⟨_, h, by simp; omega⟩
  · exact ((K1.out.weak (fun _ _ h => .inl h)).trans (K2.out.weak (fun _ _ h => .inr h))).trans (k5.weak (fun _ _ h => .inl h))
  · have t0 : Tab (w2.drewN ns) bl 0 n (fun j => if j = p then .bool true else .bool false) := T2.out
    have t3 := t0.set hp (.bool false)
    rw [Nat.zero_add, hW5] at t3
    exact t3.ext (fun j _ => by by_cases hj : j = p <;> simp [hj])
end Go.Proofs.YbulkdsicGreat
