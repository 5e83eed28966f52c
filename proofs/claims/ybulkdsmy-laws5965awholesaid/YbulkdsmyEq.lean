import Derived.Test.YbulkdsmySince
set_option linter.unusedSimpArgs false
namespace Go.Proofs.Ybulkdsmy
open Go.RowKit

theorem same_self (p : Pr) : p.same p = true := (same_iff p p).2 rfl

set_option maxHeartbeats 1000000 in
theorem equal_any (L : List Pr) (hL : ∀ q ∈ L, q.ok) (n c c' : Nat) (sa sb : Option Addr) (w : World) (hn : n = L.length) (hmax : n ≤ 1048576) (h1 : PeersAt w sa L) (h2 : PeersAt w sb L) :
    Calls Yba.prog 9 #[.slice sa n c, .slice sb n c'] w fun e w' => e = .returned (.bool true) ∧ Below w.heap.size w w' := by
  have H1 := hid h1
  have H2 := hid h2
  have HL := hid hL
  have Hn := hid hn
  clear h1 h2 hL hn
  go_enter Yba.func9, Yba.ntmps9
  go_wp2
  go_loopw [13] (fun i wq => ∃ m : Nat, m ≤ n ∧ i = .int .i64 m ∧ Below w.heap.size w wq) (fun i _ => n - (intOf i).toNat)
  case atStart => exact ⟨0, Nat.zero_le _, rfl, Below.refl _ _⟩
  case round =>
    obtain ⟨m, hm, rfl, hbl⟩ := hrel
    have HBL := hid hbl
    clear hbl
    by_cases hlt : m < n
    · obtain ⟨q, hq⟩ : ∃ q, L[m]? = some q := ⟨L[m]'(by have := Hn.out; omega), List.getElem?_eq_getElem (by have := Hn.out; omega)⟩
      have hli : (m : Int) < (n : Int) := by omega
      obtain ⟨g, rfl, hr⟩ := H1.out m q hq
      obtain ⟨g', rfl, hr'⟩ := H2.out m q hq
      have hok := HL.out q (List.mem_of_getElem? hq)
      have E1 := hid (neq31 q q hok hok)
      rw [same_self] at E1
      simp only [Bool.not_true] at E1
      let S : World → Prop := fun w' => InB wr w'
      have s0 : S wr.drew := drew_below wr
      haveI : Nonempty (Wld S) := ⟨⟨wr.drew, s0⟩⟩
      have Y1 := hid (fun (x : Wld S) => range_kept_below (below_trans HBL.out x.h) hr)
      have Y2 := hid (fun (x : Wld S) => range_kept_below (below_trans HBL.out x.h) hr')
      clear hr hr' hq
      go_wp2
      refine wp_region_plan 9 [(true, 0), (true, 1), (true, 2), (true, 3), (true, 4), (true, 5), (true, 6), (true, 7), (true, 8)] (fun w' => ∃ x : Wld S, w' = x.w) (by kernel_rfl) (by kernel_rfl) (fun _ _ d _ _ h => by cases d <;> exact h) (inS s0) ?_
      repeat (refine wpPlan_q (by rfl) ?_; dsimp only [List.getElem_toArray, List.getElem_cons_zero, List.getElem_cons_succ]; (first
        | (show wpQuiet _ _ _ _ (⟨_, .load 31 (.tmp 18), _, _, _, _⟩ :: _) _; refine wpQuiet_load_mid rfl 31 _ rfl g (m * 21) rfl (prc q) _ (fun _ ⟨x, hx⟩ => hx ▸ Y1.out x) Yba.underlying31 rfl (info31 _) ?_; simp only [Act.put, List.setIfInBounds_toArray, List.set_cons_succ, List.set_cons_zero])
        | (show wpQuiet _ _ _ _ (⟨_, .load 31 (.tmp 22), _, _, _, _⟩ :: _) _; refine wpQuiet_load_mid rfl 31 _ rfl g' (m * 21) rfl (prc q) _ (fun _ ⟨x, hx⟩ => hx ▸ Y2.out x) Yba.underlying31 rfl (info31 _) ?_; simp only [Act.put, List.setIfInBounds_toArray, List.set_cons_succ, List.set_cons_zero])
        | (show wpQuiet _ _ _ _ (⟨_, .binOp .neq 31 _ _ _, _, _, _, _⟩ :: _) _; refine wpQuiet_cmp rfl .neq _ _ 31 _ rfl (prc q).toArray (prc q).toArray rfl rfl eg31 _ E1.out ?_; simp only [Act.put, List.setIfInBounds_toArray, List.set_cons_succ, List.set_cons_zero])
        | go_big_quiet_step (fail)); refine wpQuiet_nil ?_)
      refine wpPlan_nil ?_
      go_wp2
      go_roundw
      case rel => exact ⟨m + 1, by omega, by go_num, below_trans HBL.out (drew_below wr)⟩
      case measure => simp [intOf]; omega
    · go_wp2
      go_ret
      exact ⟨rfl, HBL.out⟩

set_option maxHeartbeats 1000000 in
set_option maxRecDepth 20000 in
/-- slices.Clone of a slice that is not nil. -/
theorem clone_any (L : List Pr) (n c g : Nat) (w : World) (hn : n = L.length) (hmax : n ≤ 1048576) (h1 : ∀ j u, (rowc L)[j]? = some u → w.cell? ⟨g, j, none⟩ = some u) :
    Calls Yba.prog 5 #[.slice (some ⟨g, 0, none⟩) n c] w fun e w' => (∃ v, e = .returned v ∧ w'.ownsRow w.heap.size 31 21 v n (rowc L)) ∧ Below w.heap.size w w' := by
  obtain ⟨i0, hi, hz0, hz1, hz2⟩ := info_parts Yba.info31
  have H1 := hid h1
  have Hn := hid hn
  clear h1 hn
  have own0 : (w.alloc (.cells #[] 31)).ownsRow w.heap.size 31 21 (.slice (some ⟨w.heap.size, 0, none⟩) 0 0) 0 [] :=
    ⟨rfl, .inr ⟨w.heap.size, 0, #[], rfl, Nat.le_refl _, heap_alloc_last w _, Nat.le_refl _, by unfold maxLen; omega, rfl, rfl⟩⟩
  have O0 := hid own0
  clear own0
  have hnil : ∀ w, (binOp .eql 27 (.slice (some ⟨g, 0, none⟩) n c) (.slice none 0 0)).run Yba.prog w = .ok (.bool false) w := fun w => by kernel_rfl
  go_enter Yba.func5, Yba.ntmps5
  go_wp2_with (first
    | (show wpList _ _ _ (⟨_, .buildSlice 27 0 _, _, _, _, _⟩ :: _) _ _; refine wpList_buildSliceAs rfl 27 0 _ rfl (.slice (some ⟨w.heap.size, 0, none⟩) 0 0) (w.alloc (.cells #[] 31)) (by kernel_rfl) ?_)
    | (at_builtin; refine wpList_append_own_at _ rfl (.tmp 5) (.tmp 6) 27 rfl w.heap.size 31 i0 (.agg (prc ⟨ByteArray.empty, 0⟩).toArray) 21 40 Yba.underlying27 hi hz0 hz1 hz2 (by simp [Value.cells, prc_len]) (by decide) _ 0 [] rfl O0.out ⟨g, 0, none⟩ n c (rowc L) rfl (by rw [rowc_len, Hn.out]) ?_ ?_ (by unfold maxLen; omega) (by omega) (by simp) ?_))
  · intro j u hu
    have hadd : (⟨g, 0, none⟩ : Addr).add j = ⟨g, j, none⟩ := by unfold Addr.add; split <;> simp_all
    rw [hadd]
    exact cell?_alloc_old _ (H1.out j u hu)
  · intro u hu
    obtain ⟨p, _, hp⟩ := List.mem_flatMap.1 hu
    exact prc_one p u hp
  intro v' w1 own1 grow1 _ _
  have b1 : Below w.heap.size w w1 := ((Below.refl _ _).alloc (Nat.le_refl _) _).grown grow1 (by simp) (fun k hk => by cases hk; exact Nat.le_refl _)
  have B1 := hid b1
  have O1 := hid own1
  clear b1 own1 grow1
  go_wp2
  go_ret
  refine ⟨⟨_, rfl, ?_⟩, B1.out⟩
  have := O1.out
  simpa using this

end Go.Proofs.Ybulkdsmy
