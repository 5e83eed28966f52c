import Derived.Test.YbulkdsicGreatSort3
set_option linter.unusedVariables false
set_option linter.unusedSimpArgs false
namespace Go.Proofs.YbulkdsicGreat
open Go.RowKit Go.Shelf

set_option maxRecDepth 100000 in
set_option maxHeartbeats 1000000 in
theorem insOrd_one (b o c : Nat) (w : World) : Calls Ybaz.prog 92 #[sl b o 1 c, .int .i64 0, .int .i64 1] w fun e w' => e = .returned (.tuple #[]) ∧ w' = w := by
  go_enter Ybaz.func92, Ybaz.ntmps92
  go_wp2
  refine wp_loop_rounds 1 ?_
  rw [rounds_succ]
  go_wp2
  go_end0
  exact ⟨rfl, rfl⟩

set_option maxRecDepth 100000 in
set_option maxHeartbeats 1000000 in
theorem pdq_one (b o c : Nat) (k : Int) (w : World) : Calls Ybaz.prog 79 #[sl b o 1 c, .int .i64 0, .int .i64 1, .int .i64 k] w fun e w' => e = .returned (.tuple #[]) ∧ w' = w := by
  have I := hid (insOrd_one b o c w)
  go_enter Ybaz.func79, Ybaz.ntmps79
  go_wp2
  refine wp_loop_rounds 1 ?_
  rw [rounds_succ]
  go_wp2_with (go_at_call 92; refine I.out.mono ?_; rintro e w' ⟨rfl, rfl⟩)
  refine bodyPost_ret (results_none rfl _ _ _) rfl ?_
  exact ⟨rfl, rfl⟩

set_option maxRecDepth 100000 in
set_option maxHeartbeats 1000000 in
theorem len_one (w : World) : Calls Ybaz.prog 76 #[.int .u64 1] w fun e w' => (∃ k, e = .returned (.int .i64 k)) ∧ w' = w := by
  go_enter Ybaz.func76, Ybaz.ntmps76
  go_wp2
  go_ret
  exact ⟨⟨_, rfl⟩, rfl⟩

set_option maxRecDepth 100000 in
set_option maxHeartbeats 1000000 in
theorem sort_one (b o c : Nat) (w : World) : Calls Ybaz.prog 74 #[sl b o 1 c] w fun e w' => e = .returned (.tuple #[]) ∧ w' = w := by
  have I := hid (fun k => pdq_one b o c k w)
  have J := hid (len_one w)
  go_enter Ybaz.func74, Ybaz.ntmps74
  go_wp2_with (first
    | (go_at_call 76; refine J.out.mono ?_; rintro e w' ⟨⟨k, rfl⟩, rfl⟩)
    | (go_at_call 79; refine (I.out _).mono ?_; rintro e w' ⟨rfl, rfl⟩))
  go_end0
  exact ⟨rfl, rfl⟩

set_option maxRecDepth 100000 in
set_option maxHeartbeats 1000000 in
theorem ints_one (b o c : Nat) (w : World) : Calls Ybaz.prog 56 #[sl b o 1 c] w fun e w' => e = .returned (.tuple #[]) ∧ w' = w := by
  have I := hid (sort_one b o c w)
  go_enter Ybaz.func56, Ybaz.ntmps56
  go_wp2_with (go_at_call 74; refine I.out.mono ?_; rintro e w' ⟨rfl, rfl⟩)
  go_end0
  exact ⟨rfl, rfl⟩

set_option maxRecDepth 100000 in
set_option maxHeartbeats 1000000 in
/-- sorted, of one index. -/
theorem sorted_one (b o c x : Nat) (w : World) (h : w.cell? ⟨b, o, none⟩ = some (vi x)) : Calls Ybaz.prog 39 #[sl b o 1 c] w fun e w' => (∃ v, e = .returned v ∧ w'.ownsRow w.heap.size 3 1 v 1 [vi x]) ∧ Below w.heap.size w w' := by
  obtain ⟨i3, hi3, hz3, hs3, hb3⟩ := info_parts Ybaz.info3
  have hcells : ∀ (j : Nat) u, [vi x][j]? = some u → w.cell? ((⟨b, o, none⟩ : Addr).add j) = some u := fun j u hu => by
    have hj : j = 0 := by have := (List.getElem?_eq_some_iff.1 hu).1; simp at this; omega
    subst hj
    have e : (⟨b, o, none⟩ : Addr).add 0 = ⟨b, o, none⟩ := by unfold Addr.add; simp
    rw [e, h]
    simpa using hu
  have HC := hid hcells
  clear hcells
  go_enter Ybaz.func39, Ybaz.ntmps39
  go_wp2_with (first
    | (at_builtin; refine wpList_append_own_at _ rfl (.const (.slice none 0 0)) (.tmp 4) 26 rfl w.heap.size 3 i3 (.int .i64 0) 1 8 Ybaz.underlying26 hi3 hz3 hs3 hb3 rfl (by decide) (.slice none 0 0) 0 [] rfl ⟨rfl, .inl ⟨rfl, rfl⟩⟩ ⟨b, o, none⟩ 1 c [vi x] rfl rfl HC.out (by simp [Value.oneCell']) (by unfold maxLen; omega) (by omega) (Nat.le_refl _) ?_; intro v' w1 own1 grow1 _ _; obtain ⟨g, cp, rfl⟩ := own_slice own1; have O1 := hid own1; have G1 := hid grow1; have I := hid (ints_one g 0 cp w1); clear own1 grow1)
    | (go_at_call 56; refine I.out.mono ?_; rintro e w' ⟨rfl, rfl⟩))
  go_ret
  refine ⟨⟨_, rfl, O1.out⟩, ?_⟩
  exact (Below.refl _ w).grown G1.out (Nat.le_refl _) (fun k hk => by cases hk)
end Go.Proofs.YbulkdsicGreat
