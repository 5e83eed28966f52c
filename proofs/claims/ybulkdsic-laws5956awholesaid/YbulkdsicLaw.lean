import Derived.Test.YbulkdsicWalks
import Derived.WalkSpells
import Derived.WalkSmall
import Derived.Deep.QuietTactic
import Derived.BigQuiet
namespace Go.Proofs.Ybulkdsic
open Go.RowKit

theorem Yba.info3 : (Yba.prog.info? 3).map (fun i => (i.zero, i.size, i.bytes)) = some (some (.int .i64 0), 1, 8) := by kernel_rfl

theorem bcell {W w1 : World} (hb : Below W.heap.size W w1) : (∀ b o, b < W.heap.size → w1.cell? ⟨b, o, none⟩ = W.cell? ⟨b, o, none⟩) ∧ (∀ b o, b < W.heap.size → w1.frozen? ⟨b, o, none⟩ = W.frozen? ⟨b, o, none⟩) :=
  ⟨fun b o h => hb.cell (p := ⟨b, o, none⟩) h, fun b o h => hb.frozen (p := ⟨b, o, none⟩) h⟩

set_option maxHeartbeats 400000 in
/-- More than 2^20 bytes: nothing is asked. -/
theorem law_long (a : Option Addr) (len cap : Nat) (w : World) (h : 1048576 < len) :
    Calls Yba.prog 3 #[.slice a len cap] w fun e w' => e = .returned (.bool true) ∧ Below w.heap.size w w' := by
  go_enter Yba.func3, Yba.ntmps3
  go_wp2
  go_ret
  exact ⟨rfl, Below.refl _ _⟩

set_option maxHeartbeats 400000 in
theorem law_nil (w : World) :
    Calls Yba.prog 3 #[.slice none 0 0] w fun e w' => e = .returned (.bool true) ∧ Below w.heap.size w w' := by
  have hn := fun wx => run_neq_slice_nil_any (P := Yba.prog) wx 22 5 none 0 0 0 0 Yba.underlying22
  have he := fun wx => Lib.run_eql_slice_nil (P := Yba.prog) wx 23 3 none 0 0 0 0 Yba.underlying23
  go_enter Yba.func3, Yba.ntmps3
  go_wp2_with (first
    | (go_at_call 4; refine (choice_nil _).mono ?_; rintro e w1 ⟨rfl, hb⟩; obtain ⟨hc, hf⟩ := bcell hb)
    | (go_at_call 5; refine (model_nil _).mono ?_; rintro e w2 ⟨rfl, rfl⟩))
  refine wp_loop_rounds 1 ?_
  rw [rounds_succ]
  go_wp2
  go_ret
  exact ⟨rfl, ((Below.refl _ _).alloc (Nat.le_refl _) _).trans (hb.mono (by simp))⟩

/-- One round of the filling: both rows take the number at k. -/
theorem fill_step {wr : World} {B g len k : Nat} {xs ys : List Value} {zs : List Int} (hk : k < len) (hg : B < g) (lx : xs.length = len) (ly : ys.length = len)
    (ox : wr.ownsRow B 3 1 (.slice (some ⟨B, 0, none⟩) len len) len xs) (oy : wr.ownsRow B 3 1 (.slice (some ⟨g, 0, none⟩) len len) len ys)
    (hx : ∀ j, j < k → xs[j]? = some (.int .i64 (zs.getD j 0))) (hy : ∀ j, j < k → ys[j]? = some (.int .i64 (zs.getD j 0))) :
    ((wr.setCell ⟨B, k, none⟩ (.int .i64 (zs.getD k 0))).setCell ⟨g, k, none⟩ (.int .i64 (zs.getD k 0))).ownsRow B 3 1 (.slice (some ⟨B, 0, none⟩) len len) len (xs.set k (.int .i64 (zs.getD k 0))) ∧
    ((wr.setCell ⟨B, k, none⟩ (.int .i64 (zs.getD k 0))).setCell ⟨g, k, none⟩ (.int .i64 (zs.getD k 0))).ownsRow B 3 1 (.slice (some ⟨g, 0, none⟩) len len) len (ys.set k (.int .i64 (zs.getD k 0))) ∧
    (∀ j, j < k + 1 → (xs.set k (.int .i64 (zs.getD k 0)))[j]? = some (.int .i64 (zs.getD j 0))) ∧ (∀ j, j < k + 1 → (ys.set k (.int .i64 (zs.getD k 0)))[j]? = some (.int .i64 (zs.getD j 0))) := by
  obtain ⟨a1, a2⟩ := ox.stored k (.int .i64 (zs.getD k 0))
  have b1 := oy.kept a2 (.inr (by simp [Value.ownBlock]; omega))
  obtain ⟨c1, c2⟩ := b1.stored k (.int .i64 (zs.getD k 0))
  have d1 := a1.kept c2 (.inr (by simp [Value.ownBlock]; omega))
  refine ⟨d1, c1, ?_, ?_⟩
  · intro j hj
    rw [List.getElem?_set]
    by_cases e : k = j
    · subst e; rw [if_pos rfl, if_pos (by omega)]
    · rw [if_neg e]; exact hx j (by omega)
  · intro j hj
    rw [List.getElem?_set]
    by_cases e : k = j
    · subst e; rw [if_pos rfl, if_pos (by omega)]
    · rw [if_neg e]; exact hy j (by omega)

set_option maxHeartbeats 1000000 in
theorem law_some (b off : Nat) (sp : Option Nat) (len cap : Nat) (zs : List Int) (w : World) (hsp : 0 < len → sp = none) (hlen : len ≤ 1048576) (hzl : zs.length = len) (hz : ∀ j, 0 ≤ zs.getD j 0 ∧ zs.getD j 0 ≤ 255)
    (hc : ∀ j, j < len → w.cell? ⟨b, off + j, none⟩ = some (.int .u8 (zs.getD j 0))) :
    Calls Yba.prog 3 #[.slice (some ⟨b, off, sp⟩) len cap] w fun e w' => e = .returned (.bool true) ∧ Below w.heap.size w w' := by
  have hn := fun wx => run_neq_slice_nil_any (P := Yba.prog) wx 22 5 (some ⟨b, off, sp⟩) len cap 0 0 Yba.underlying22
  have he := fun wx bb => Lib.run_eql_slice_nil (P := Yba.prog) wx 23 3 (some ⟨bb, 0, none⟩) len len 0 0 Yba.underlying23
  obtain ⟨i0, hi, hz0, hz1, hz2⟩ := info_parts Yba.info3
  have HZ : Hid (zs.length = len) := hzl
  have HSP : Hid (0 < len → sp = none) := hsp
  clear hzl hsp
  have HC : Hid (∀ j, j < len → w.cell? ⟨b, off + j, none⟩ = some (.int .u8 (zs.getD j 0))) := hc
  have HN : Hid (∀ j, 0 ≤ zs.getD j 0 ∧ zs.getD j 0 ≤ 255) := hz
  clear hc hz
  go_enter Yba.func3, Yba.ntmps3
  go_wp2_with (at_make; refine wpList_make_full _ rfl (.tmp 15) (.tmp 15) 23 rfl w.heap.size 3 i0 (.int .i64 0) 1 Yba.underlying23 hi hz0 hz1 _ _ _ _ len rfl rfl rfl rfl (by rw [hz2]; omega) (by unfold maxLen; omega) (Nat.le_refl _) ?_)
  intro w1 own1 grow1
  have s1 : w.heap.size < w1.heap.size := (own1.lt _ rfl).2
  go_wp2_with (at_make; go_must (refine wpList_make_full _ rfl (.tmp 18) (.tmp 18) 23 rfl w.heap.size 3 i0 (.int .i64 0) 1 Yba.underlying23 hi hz0 hz1 _ _ _ _ len rfl rfl rfl rfl (by rw [hz2]; omega) (by unfold maxLen; omega) (by omega) ?_))
  intro w2 own2 grow2
  have s2 : w1.heap.size < w2.heap.size := (own2.lt _ rfl).2
  have own1' := own1.kept grow2 (.inr (by simp [Value.ownBlock]))
  have bel2 : Below w.heap.size w w2 := ((Below.refl _ _).grown grow1 (Nat.le_refl _) (fun k h => by cases h)).grown grow2 (by omega) (fun k h => by cases h)
  obtain ⟨xs0, lx0, HO1⟩ : ∃ xs : List Value, xs.length = len ∧ Hid (w2.ownsRow w.heap.size 3 1 (.slice (some ⟨w.heap.size, 0, none⟩) len len) len xs) := ⟨_, by simpa using own1'.1, own1'⟩
  obtain ⟨ys0, ly0, HO2⟩ : ∃ xs : List Value, xs.length = len ∧ Hid (w2.ownsRow w.heap.size 3 1 (.slice (some ⟨w1.heap.size, 0, none⟩) len len) len xs) := ⟨_, by simpa using own2.1, own2⟩
  have HB2 : Hid (Below w.heap.size w w2) := bel2
  have HL : Hid (xs0.length = len ∧ ys0.length = len) := ⟨lx0, ly0⟩
  clear own1 grow1 grow2 own1' own2 bel2 lx0 ly0
  go_wp2
  go_loopw [5] (fun i wr => ∃ (k : Nat) (xs ys : List Value), k ≤ len ∧ w1.heap.size < wr.heap.size ∧ i = .int .i64 k ∧ Hid (xs.length = len ∧ ys.length = len ∧
      wr.ownsRow w.heap.size 3 1 (.slice (some ⟨w.heap.size, 0, none⟩) len len) len xs ∧ wr.ownsRow w.heap.size 3 1 (.slice (some ⟨w1.heap.size, 0, none⟩) len len) len ys ∧
      (∀ j, j < k → xs[j]? = some (.int .i64 (zs.getD j 0))) ∧ (∀ j, j < k → ys[j]? = some (.int .i64 (zs.getD j 0))) ∧ Below w.heap.size w wr)) (fun i _ => len - (intOf i).toNat)
  case atStart => exact ⟨0, xs0, ys0, Nat.zero_le _, s2, rfl, HL.out.1, HL.out.2, HO1.out, HO2.out, fun j h => by omega, fun j h => by omega, HB2.out⟩
  case round =>
    clear HL HO1 HO2 HB2
    obtain ⟨k, xs, ys, hk, hsz, rfl, HR⟩ := hrel
    by_cases hlt : k < len
    · obtain rfl : sp = none := HSP.out (by omega)
      obtain ⟨z, hzz⟩ : ∃ z, z = zs.getD k 0 := ⟨_, rfl⟩
      have hz0 : 0 ≤ z := by rw [hzz]; exact (HN.out k).1
      have hz1 : z ≤ 255 := by rw [hzz]; exact (HN.out k).2
      obtain ⟨lx, ly, ox, oy, ex, ey, bel⟩ := HR.out
      have hbb : b < w.heap.size := World.block_lt_of_cell? w _ (HC.out k hlt)
      have hcell : wr.cell? ⟨b, off + k, none⟩ = some (.int .u8 z) := by rw [hzz]; exact (bel.cell (p := ⟨b, off + k, none⟩) hbb).trans (HC.out k hlt)
      obtain ⟨u, hu⟩ : ∃ u, wr.cell? ⟨w.heap.size, k, none⟩ = some u := ⟨xs[k]'(by omega), by rw [ox.cellAt k (by omega)]; exact List.getElem?_eq_getElem _⟩
      obtain ⟨v, hv⟩ : ∃ u, wr.cell? ⟨w1.heap.size, k, none⟩ = some u := ⟨ys[k]'(by omega), by rw [oy.cellAt k (by omega)]; exact List.getElem?_eq_getElem _⟩
      have fu : wr.frozen? ⟨w.heap.size, k, none⟩ = false := ox.frozenAt k
      have fv : wr.frozen? ⟨w1.heap.size, k, none⟩ = false := oy.frozenAt k
      have FS := fill_step (zs := zs) hlt s1 lx ly ox oy ex ey
      rw [← hzz] at FS
      have HF : Hid _ := FS
      have HBB : Hid (Below w.heap.size w wr) := bel
      have HL : Hid (xs.length = len ∧ ys.length = len) := ⟨lx, ly⟩
      clear FS lx ly ox oy ex ey bel HR hzz
      go_wp2
      go_roundw
      case rel =>
        obtain ⟨f1, f2, f3, f4⟩ := HF.out
        exact ⟨k + 1, _, _, by omega, by simpa using hsz, by go_num, by simp [HL.out.1], by simp [HL.out.2], f1, f2, f3, f4, (HBB.out.setCell (Nat.le_refl _) _).setCell (by simp; omega) _⟩
      case measure => simp [intOf]; omega
    · have hkl : k = len := by omega
      subst hkl
      obtain ⟨lx, ly, ox, oy, ex, ey, bel⟩ := HR.out
      have cX : ∀ j, j < k → wr.cell? ⟨w.heap.size, j, none⟩ = some (.int .i64 (zs.getD j 0)) := fun j hj => by rw [ox.cellAt j (by omega)]; exact ex j hj
      have cY : ∀ j, j < k → wr.cell? ⟨w1.heap.size, j, none⟩ = some (.int .i64 (zs.getD j 0)) := fun j hj => by rw [oy.cellAt j (by omega)]; exact ey j hj
      have HX : Hid _ := cX
      have HY : Hid _ := cY
      have HBB : Hid (Below w.heap.size w wr) := bel
      clear lx ly ox oy ex ey bel HR cX cY
      go_wp2_with fail
      refine (choice_any w.heap.size k k zs _ HZ.out hlen HN.out (by simp; omega) (fun j hj => ?_)).mono ?_
      · exact (World.cell?_alloc_lt wr _ ⟨w.heap.size, j, none⟩ (by simp; omega)).trans (HX.out j hj)
      rintro e w3 ⟨rfl, hb3⟩
      have hs3 : wr.heap.size < w3.heap.size := by have := hb3.size; simp at this; omega
      have HX3 : Hid (∀ j, j < k → w3.cell? ⟨w.heap.size, j, none⟩ = some (.int .i64 (zs.getD j 0))) := fun j hj =>
        (hb3.cell (p := ⟨w.heap.size, j, none⟩) (by simp; omega)).trans ((World.cell?_alloc_lt wr _ ⟨w.heap.size, j, none⟩ (by simp; omega)).trans (HX.out j hj))
      have HY3 : Hid (∀ j, j < k → w3.cell? ⟨w1.heap.size, j, none⟩ = some (.int .i64 (zs.getD j 0))) := fun j hj =>
        (hb3.cell (p := ⟨w1.heap.size, j, none⟩) (by simp; omega)).trans ((World.cell?_alloc_lt wr _ ⟨w1.heap.size, j, none⟩ (by simp; omega)).trans (HY.out j hj))
      have hg3 : w3.cell? ⟨wr.heap.size, 1, none⟩ = some (.slice (some ⟨w.heap.size, 0, none⟩) k k) := (hb3.cell (p := ⟨wr.heap.size, 1, none⟩) (by simp)).trans (by simp)
      have HB3 : Hid (Below w.heap.size w w3) := (HBB.out.alloc (by omega) _).trans (hb3.mono (by simp; omega))
      clear hb3 HX HY HBB
      go_wp2_with (go_at_call 5; refine (model_any w1.heap.size k k zs _ HZ.out hlen HN.out HY3.out).mono ?_; rintro e w4 ⟨rfl, rfl⟩)
      clear HC hn he
      go_loopw [8] (fun i wq => ∃ m nq : Nat, m ≤ k ∧ i = .int .i64 m ∧ wq = w4.drewN nq) (fun i _ => k - (intOf i).toNat)
      case atStart => exact ⟨0, 0, Nat.zero_le _, rfl, rfl⟩
      case round =>
        obtain ⟨m, nq, hm, rfl, rfl⟩ := hrel
        by_cases hlt : m < k
        · have cx := HX3.out m hlt
          have cy := HY3.out m hlt
          have hli : (m : Int) < (k : Int) := by omega
          obtain ⟨z, hzz⟩ : ∃ z, z = zs.getD m 0 := ⟨_, rfl⟩
          rw [← hzz] at cx cy
          clear hzz
          go_wp2
          go_quiet (fail)
          go_wp2
          go_roundw
          case rel => exact ⟨m + 1, _, by omega, by go_num, rfl⟩
          case measure => simp [intOf]; omega
        · go_wp2
          go_ret
          exact ⟨rfl, below_drewN HB3.out _⟩

end Go.Proofs.Ybulkdsic
