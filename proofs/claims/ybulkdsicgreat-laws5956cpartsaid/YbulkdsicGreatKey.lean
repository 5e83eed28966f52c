import Derived.Test.YbulkdsicGreatSmall
set_option linter.unusedVariables false
set_option linter.unusedSimpArgs false
namespace Go.Proofs.YbulkdsicGreat
open Go.RowKit Go.Shelf

theorem Ybaz.info5 : (Ybaz.prog.info? 5).map (fun i => (i.zero, i.size, i.bytes)) = some (some (.int .u8 0), 1, 1) := by kernel_rfl

/-- A number's bytes. -/
def uv (x : Nat) : List Nat := if x < 128 then [x] else [x % 128 + 128, x / 128]
abbrev vb (x : Nat) : Value := .int .u8 x

theorem or128 : ∀ x : Nat, x < 700 → 128 ≤ x → bits .or .u8 ((x : Int) % 256) 128 = ((x % 128 + 128 : Nat) : Int) := by decide +kernel

set_option maxRecDepth 100000 in
set_option maxHeartbeats 1000000 in
theorem uvarint_any (x : Nat) (hx : x < 700) (base : Nat) (v : Value) (n : Nat) (xs : List Value) (w : World) (hb : base ≤ w.heap.size) (hn : n ≤ 100000) (h : w.ownsRow base 5 1 v n xs) :
    Calls Ybaz.prog 27 #[v, .int .u64 x] w fun e w' => (∃ v', e = .returned v' ∧ w'.ownsRow base 5 1 v' (n + (uv x).length) (xs ++ (uv x).map vb) ∧ w.grownBy w' v.ownBlock) := by
  obtain ⟨i5, hi5, hz5, hs5, hb5⟩ := info_parts Ybaz.info5
  obtain ⟨sa, c, rfl, _⟩ := own_form h
  have HO := hid h
  clear h
  by_cases hlt : x < 128
  · have e1 : uv x = [x] := by simp [uv, hlt]
    have hxi : ¬ ((128 : Int) ≤ (x : Int)) := by omega
    go_enter Ybaz.func27, Ybaz.ntmps27
    go_wp2
    refine wp_loop_rounds 1 ?_
    rw [rounds_succ]
    go_wp2_with (at_builtin; refine wpList_append_own_at _ rfl (.tmp 15) (.tmp 18) 24 rfl base 5 i5 (.int .u8 0) 1 1 Ybaz.underlying24 hi5 hz5 hs5 hb5 rfl (by decide) (.slice sa n c) n xs rfl (own_kept HO.out ((Kept.refl (fun _ => False) w).alloc (.cells #[vb x] 5)) (fun _ _ h => h)) ⟨w.heap.size, 0, none⟩ 1 1 [vb x] rfl rfl (news1 w (vb x) 5) (by simp [Value.oneCell']) (by unfold maxLen; omega) (by omega) (by simp; omega) ?_; intro v' w1 own1 grow1 _ _; have O1 := hid own1; have G1 := hid grow1; clear own1 grow1)
    go_ret
    refine ⟨v', rfl, by rw [e1]; exact O1.out, ?_⟩
    exact ⟨G1.out.os, G1.out.tape, G1.out.output, Nat.le_trans (by simp) G1.out.size, fun k hk hne => (G1.out.block k (by simp; omega) hne).trans (Below.heap_alloc w _ k hk)⟩
  · have e1 : uv x = [x % 128 + 128, x / 128] := by simp [uv, hlt]
    have hxi : (128 : Int) ≤ (x : Int) := by omega
    go_enter Ybaz.func27, Ybaz.ntmps27
    go_wp2
    refine wp_loop_rounds 2 ?_
    rw [rounds_succ]
    have hor := or128 x hx (by omega)
    obtain ⟨y, hy⟩ : ∃ y : Nat, y = x % 128 + 128 := ⟨_, rfl⟩
    rw [← hy] at hor e1
    have hy256 : y < 256 := by omega
    clear hy
    go_wp2_with (first
      | (at_builtin; refine wpList_append_own_at _ rfl (.tmp 7) (.tmp 11) 24 rfl base 5 i5 (.int .u8 0) 1 1 Ybaz.underlying24 hi5 hz5 hs5 hb5 rfl (by decide) (.slice sa n c) n xs rfl (own_kept HO.out ((Kept.refl (fun _ => False) w).alloc _) (fun _ _ h => h)) ⟨w.heap.size, 0, none⟩ 1 1 [vb y] rfl rfl (news1 w (vb y) 5) (by simp [Value.oneCell']) (by unfold maxLen; omega) (by omega) (by simp; omega) ?_; intro v' w1 own1 grow1 _ mv1; obtain ⟨g1, c1, rfl⟩ := own_slice own1; have O1 := hid own1; have G1 := hid grow1; have M1 := hid mv1; clear own1 grow1 mv1))
    obtain ⟨z, hz⟩ : ∃ z : Nat, z = x / 128 := ⟨_, rfl⟩
    rw [show ((x : Int) / 128) = (z : Int) by omega]
    rw [← hz] at e1
    have hz128 : ¬ ((128 : Int) ≤ (z : Int)) := by omega
    have hz256 : z < 128 := by omega
    clear hz
    rw [rounds_succ]
    go_wp2_with (at_builtin; refine wpList_append_own_at _ rfl (.tmp 15) (.tmp 18) 24 rfl base 5 i5 (.int .u8 0) 1 1 Ybaz.underlying24 hi5 hz5 hs5 hb5 rfl (by decide) (sl g1 0 (n + 1) c1) (n + 1) (xs ++ [vb y]) rfl (own_kept O1.out ((Kept.refl (fun _ => False) w1).alloc _) (fun _ _ h => h)) ⟨w1.heap.size, 0, none⟩ 1 1 [vb z] rfl rfl (news1 w1 (vb z) 5) (by simp [Value.oneCell']) (by unfold maxLen; omega) (by omega) (by have := G1.out.size; simp at this; simp; omega) ?_; intro v' w2 own2 grow2 _ _; have O2 := hid own2; have G2 := hid grow2; clear own2 grow2)
    go_ret
    refine ⟨v', rfl, by simpa using O2.out, ?_⟩
    have s1 := G1.out.size
    have s2 := G2.out.size
    simp at s1 s2
    refine ⟨G2.out.os.trans G1.out.os, G2.out.tape.trans G1.out.tape, G2.out.output.trans G1.out.output, by omega, fun k hk hne => ?_⟩
    have hg1 : some k ≠ (sl g1 0 (n + 1) c1).ownBlock := fun he => by
      rcases M1.out with h | h
      · rw [h] at he; exact hne he
      · rw [h] at he
        have := Option.some.inj he
        simp at this
        omega
    rw [G2.out.block k (by simp; omega) hg1, Below.heap_alloc w1 _ k (by omega), G1.out.block k (by simp; omega) hne]
    exact Below.heap_alloc w _ k hk
end Go.Proofs.YbulkdsicGreat
