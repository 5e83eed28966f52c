import Derived.Test.YbulkdsjeGreatDoorMd3
import Derived.Test.YbulkdsjeGreatDoorDr
import Derived.BigQuiet
import Derived.Deep.QuietTactic
import Derived.Laws.CopyOwn
import Derived.Laws.IdiomCopy
import Derived.Deep.MidRow
set_option linter.unusedVariables false
set_option linter.unusedSimpArgs false
namespace Go.Proofs.YbulkdsjeGreatDoor
open Go.RowKit

theorem slice80h (b o k : Nat) (hk : k ≤ 32) (w : World) : Sem.run Ybaz.prog (Instr.sliceAt 80 (.pointer (some ⟨b, o, none⟩)) none (some (.int .i64 (k : Int))) none) w = .ok (sl b o k 32) w := by
  have hl : Ybaz.prog.arrayLen 80 = 32 := by kernel_rfl
  have hu : Ybaz.prog.underlying 80 = some (.array (Ybaz.prog.arrayLen 80) (Ybaz.prog.elem 80)) := by kernel_rfl
  have hs : ∀ W, Sem.run Ybaz.prog (Go.sizeOf (Ybaz.prog.elem 80)) W = .ok 1 W := fun W => by kernel_rfl
  rw [run_sliceAt_array_h w 80 ⟨b, o, none⟩ hu .i64 (k : Int) (by omega) (by rw [hl]; omega), hs, hl]
  simp [Result.andThen, slicedAt, Addr.add]
theorem slice80lh (b o k : Nat) (hk : k + 1 ≤ 32) (w : World) : Sem.run Ybaz.prog (Instr.sliceAt 80 (.pointer (some ⟨b, o, none⟩)) (some (.int .i64 1)) (some (.int .i64 ((k : Int) + 1))) none) w = .ok (sl b (o + 1) k 31) w := by
  have hl : Ybaz.prog.arrayLen 80 = 32 := by kernel_rfl
  have hu : Ybaz.prog.underlying 80 = some (.array (Ybaz.prog.arrayLen 80) (Ybaz.prog.elem 80)) := by kernel_rfl
  have hs : ∀ W, Sem.run Ybaz.prog (Go.sizeOf (Ybaz.prog.elem 80)) W = .ok 1 W := fun W => by kernel_rfl
  rw [run_sliceAt_array_lh w 80 ⟨b, o, none⟩ hu .i64 .i64 1 ((k : Int) + 1) (by omega) (by omega) (by rw [hl]; omega), hs, hl]
  have e : ((k : Int) + 1).toNat = k + 1 := by omega
  simp [Result.andThen, slicedAt, Addr.add, e]
/-- A copy within a row of words. -/
theorem wpList_cpy {w : World} {ops : Array Oper} {rest : List Oper} {o : Oper} {a : Act} {Q : Exit → Act → World → Prop} (hgd : o.guard = none) (d s : Operand)
    (ho : o.op = .call { callee := .builtin .copy, args := #[d, s], argTypes := #[165, 165] }) (b od os k c1 c2 : Nat) (hd : a.eval d = sl b od k c1) (hs : a.eval s = sl b os k c2)
    (src : ∀ j, j < k → ∃ x : Nat, w.cell? ⟨b, os + j, none⟩ = some (.int .u64 (x : Int))) (dst : ∀ j, j < k → (w.cell? ⟨b, od + j, none⟩).isSome = true ∧ w.frozen? ⟨b, od + j, none⟩ = false)
    (h : ∀ cs : List Value, cs.length = k → (∀ v ∈ cs, ∃ x : Nat, v = .int .u64 (x : Int)) → wpList Ybaz.prog ops Q rest (a.put o.dst (vi k)) (w.setCells b od cs)) : wpList Ybaz.prog ops Q (o :: rest) a w := by
  obtain ⟨cs, hlen, hcs⟩ : ∃ cs : List Value, cs.length = k ∧ ∀ j v, cs[j]? = some v → w.cell? ⟨b, os + j, none⟩ = some v ∧ ∃ x : Nat, v = .int .u64 (x : Int) := by
    refine ⟨(List.range k).map (fun j => (w.cell? ⟨b, os + j, none⟩).getD undef), by simp, fun j v hv => ?_⟩
    rw [List.getElem?_map] at hv
    by_cases hj : j < k
    · rw [List.getElem?_range hj] at hv
      obtain ⟨x, hx⟩ := src j hj
      simp [hx] at hv
      exact ⟨by rw [hx, hv], x, hv.symm⟩
    · rw [List.getElem?_eq_none (by simpa using hj)] at hv
      cases hv
  have hw : ∀ v ∈ cs, ∃ x : Nat, v = .int .u64 (x : Int) := fun v hv => by
    obtain ⟨j, hj⟩ := List.mem_iff_getElem?.1 hv
    exact (hcs j v hj).2
  refine wpList_plain hgd fun K hK => ?_
  have hrun := run_copy_cells (P := Ybaz.prog) w 165 165 o.type 23 b od k c1 ⟨b, os, none⟩ k c2 cs (by kernel_rfl) (by kernel_rfl) (by rw [hlen]; simp) (fun j v hv => by rw [Addr.add_mid]; exact (hcs j v hv).1) (fun j hj => (dst j (by omega)).1) (fun j hj => (dst j (by omega)).2) (fun v hv => by obtain ⟨x, rfl⟩ := hw v hv; rfl)
  unfold Oper.wp
  simp [execOp, ho, resolve, invoke, builtin, hd, hs, hrun, Result.andThen]
  rw [hlen]
  exact hK _ _ (h cs hlen hw)
section
variable {U V : World} {z : Zs} {ov : Value} {L : Nat}
theorem MD.rct (h : MD U z) (j : Nat) (hj : j < 32) : ∃ x : Nat, U.cell? ⟨z.Mb, 83 + j, none⟩ = some (.int .u64 (x : Int)) := by
  obtain ⟨v, hv, ok⟩ := h.mi (83 + j) (by omega)
  unfold MOk at ok
  rw [if_neg (by omega), if_neg (by omega), if_neg (by omega), if_neg (by omega), if_neg (by omega)] at ok
  obtain ⟨x, rfl⟩ := ok
  exact ⟨x, hv⟩
theorem MD.i80 (h : MD U z) : ∃ x : Nat, U.cell? ⟨z.Mb, 80, none⟩ = some (.int .u64 (x : Int)) := by
  obtain ⟨v, hv, ok⟩ := h.mi 80 (by omega)
  simp [MOk] at ok
  obtain ⟨x, rfl⟩ := ok
  exact ⟨x, hv⟩
theorem MD.i115 (h : MD U z) : ∃ k : Nat, k ≤ 32 ∧ U.cell? ⟨z.Mb, 115, none⟩ = some (vi k) := by
  obtain ⟨v, hv, ok⟩ := h.mi 115 (by omega)
  simp [MOk] at ok
  obtain ⟨x, hx, rfl⟩ := ok
  exact ⟨x, hx, hv⟩
theorem okr {j : Nat} (hj : j = 80 ∨ (83 ≤ j ∧ j < 115)) (x : Nat) : MOk j (.int .u64 (x : Int)) := by
  unfold MOk
  rw [if_neg (by omega), if_neg (by omega), if_neg (by omega), if_neg (by omega), if_neg (by omega)]
  exact ⟨x, rfl⟩
theorem ok115 {k : Nat} (hk : k ≤ 32) : MOk 115 (vi k) := by
  simp [MOk]
  exact ⟨k, hk, rfl⟩
theorem CD.copy (h : CD U z ov L) (cs : List Value) (hlen : cs.length ≤ 31) (hcs : ∀ v ∈ cs, ∃ x : Nat, v = .int .u64 (x : Int)) : CD (U.setCells z.Mb 84 cs) z ov L ∧ Kept (CE z ov) U (U.setCells z.Mb 84 cs) := by
  have fp := FP.setCells2 z.Mb cs 84 U
  have th : U.there z.Mb 84 cs.length := fun j hj => by
    obtain ⟨x, hx⟩ := h.md.rct (j + 1) (by omega)
    rw [show 83 + (j + 1) = 84 + j by omega] at hx
    exact ⟨by rw [hx]; rfl, h.md.fz _ (by omega)⟩
  have rr := World.rangeAt_setCells_same U z.Mb 84 cs th
  have hl := h.md.lt.1
  refine h.cells ((Kept.refl (fun c => c = z.Mb) U).setCells (g := z.Mb) (.inl rfl) _ _) (fun j => fp.frz _ _ hl) (fun j => ?_)
  by_cases e : 84 ≤ j ∧ j < 84 + cs.length
  · have hj : j - 84 < cs.length := by omega
    have := rr (j - 84) _ (List.getElem?_eq_getElem hj)
    rw [show 84 + (j - 84) = j by omega] at this
    obtain ⟨x, hx⟩ := hcs _ (List.getElem_mem hj)
    exact .inr ⟨by omega, _, this, by rw [hx]; exact okr (by omega) x⟩
  · exact .inl (fp.cell _ _ hl (fun he => e ⟨by omega, by omega⟩))
end
/-- What findRecent gives. -/
def FdR (e : Ending) : Prop := e = .returned (ii (-1)) ∨ ∃ i : Nat, i < 32 ∧ e = .returned (vi i)

set_option maxRecDepth 100000 in
set_option maxHeartbeats 4000000 in
theorem find_any (b : Nat) (z : Zs) (U : World) (h : MD U z) : Calls Ybaz.prog 53 #[.pointer (some ⟨z.Mb, 0, none⟩), .int .u64 (b : Int)] U fun e w' => FdR e ∧ Kept (fun _ => False) U w' := by
  obtain ⟨k, hk, y115⟩ := h.i115
  have HM := hid h
  have hki : (k : Int) ≤ 32 := by omega
  have HK := hid hk
  have s0 : Kept (fun _ => False) U U.drew := (Kept.refl _ U).drew
  haveI nS : Nonempty (Wld (fun U' => Kept (fun _ => False) U U')) := ⟨⟨U.drew, s0⟩⟩
  have y0 : ∀ x : Wld (fun U' => Kept (fun _ => False) U U'), x.w.cell? ⟨z.Mb, 115, none⟩ = some (vi k) := fun x => x.h.cell (p := ⟨z.Mb, 115, none⟩) (fun h => h) y115
  clear h hk y115
  go_enter Ybaz.func53, Ybaz.ntmps53
  go_upto_region 1 with fail
  refine wp_region_calmplan 10 [(true, 0), (true, 1), (true, 2), (true, 3), (true, 4), (true, 5), (true, 6), (true, 7), (true, 9), (false, 8)] (fun w' => ∃ x : Wld (fun U' => Kept (fun _ => False) U U'), w' = x.w) mixed (by kernel_rfl) (inS s0) ?_
  iterate 7 (refine wpPlan_q (by rfl) ?_; dsimp only [List.getElem_toArray, List.getElem_cons_zero, List.getElem_cons_succ]; go_big_quiet_step (fail); refine wpQuiet_nil ?_)
  refine wpPlan_q (by rfl) ?_
  dsimp only [List.getElem_toArray, List.getElem_cons_zero, List.getElem_cons_succ]
  refine wpQuiet_run (sl z.Mb 83 k 32) rfl (fun w _ => run_opslice (fun W => slice80h z.Mb 83 k HK.out W)) ?_
  simp only [Act.put, List.setIfInBounds_toArray, List.set_cons_succ, List.set_cons_zero]
  refine wpQuiet_nil ?_
  (refine wpPlan_q (by rfl) ?_; dsimp only [List.getElem_toArray, List.getElem_cons_zero, List.getElem_cons_succ]; go_big_quiet_step (fail); refine wpQuiet_nil ?_)
  refine wpPlan_e (by rfl) ?_
  dsimp only [List.getElem_toArray, List.getElem_cons_zero, List.getElem_cons_succ]
  go_wp2
  refine onward_normal (fun _ => inS s0) ?_
  refine wpPlan_nil ?_
  refine calmQ_normal ?_
  refine q_as (fun X => Kept (fun _ => False) U X) s0 ?_
  intro W kW
  have KW := hid kW
  have lt := HM.out.lt
  have mW : MD W z := HM.out.pu (PU.kept kW (fun h => h) lt.1) (PU.kept kW (fun h => h) lt.2.1) (PU.kept kW (fun h => h) lt.2.2.1) (PU.kept kW (fun h => h) lt.2.2.2.1) (PU.kept kW (fun h => h) lt.2.2.2.2)
  have MW := hid mW
  clear kW mW lt y0 nS s0
  go_wp2
  go_loopw [16] (fun iv X => ∃ i : Nat, iv = vi i ∧ i ≤ k ∧ X = W) (fun iv _ => k - (intOf iv).toNat)
  case atStart => exact ⟨0, rfl, by omega, rfl⟩
  case round =>
    obtain ⟨i, rfl, hi, ew⟩ := hrel
    rw [ew]
    clear ew
    have hii : (i : Int) ≤ 32 := by omega
    by_cases more : (i : Int) < (k : Int)
    · obtain ⟨x, yx⟩ := MW.out.rct i (by omega)
      obtain ⟨t, ht⟩ : ∃ t, (((x : Int) == (b : Int))) = t := ⟨_, rfl⟩
      have HI := hid (show i < k by omega)
      cases t with
      | true =>
        go_wp2
        go_ret
        exact ⟨.inr ⟨i, by have := HI.out; have := HK.out; omega, rfl⟩, KW.out⟩
      | false =>
        go_wp2
        go_roundw
        case rel => exact ⟨i + 1, by simp, HI.out, by trivial⟩
        case measure =>
          have := HI.out
          simp [intOf]
          omega
    · go_wp2
      go_ret
      exact ⟨.inl rfl, KW.out⟩

set_option maxRecDepth 100000 in
set_option maxHeartbeats 4000000 in
theorem take_any (i : Nat) (hi : i < 32) (z : Zs) (ov : Value) (L : Nat) (U : World) (h : CD U z ov L) : Calls Ybaz.prog 54 #[.pointer (some ⟨z.Mb, 0, none⟩), vi i] U fun e w' => e = .returned (.tuple #[]) ∧ CP U z ov L w' := by
  obtain ⟨x, yx⟩ := h.md.rct i hi
  have hii : (i : Int) < 32 := by omega
  have HC := hid h
  have HI := hid hi
  have s0 : Kept (fun _ => False) U U.drew := (Kept.refl _ U).drew
  haveI nS : Nonempty (Wld (fun U' => Kept (fun _ => False) U U')) := ⟨⟨U.drew, s0⟩⟩
  clear h hi
  go_enter Ybaz.func54, Ybaz.ntmps54
  go_upto_region 1 with fail
  clear yx
  refine wp_region_calmplan 11 [(true, 0), (true, 1), (true, 2), (true, 3), (true, 4), (true, 5), (true, 6), (true, 7), (true, 8), (true, 9), (true, 10), (false, 11)] (fun w' => ∃ x : Wld (fun U' => Kept (fun _ => False) U U'), w' = x.w) mixed (by kernel_rfl) (inS s0) ?_
  iterate 5 (refine wpPlan_q (by rfl) ?_; dsimp only [List.getElem_toArray, List.getElem_cons_zero, List.getElem_cons_succ]; go_big_quiet_step (fail); refine wpQuiet_nil ?_)
  refine wpPlan_q (by rfl) ?_
  dsimp only [List.getElem_toArray, List.getElem_cons_zero, List.getElem_cons_succ]
  refine wpQuiet_run (sl z.Mb 84 i 31) rfl (fun w _ => run_opslice (fun W => slice80lh z.Mb 83 i (by have := HI.out; omega) W)) ?_
  simp only [Act.put, List.setIfInBounds_toArray, List.set_cons_succ, List.set_cons_zero]
  refine wpQuiet_nil ?_
  iterate 4 (refine wpPlan_q (by rfl) ?_; dsimp only [List.getElem_toArray, List.getElem_cons_zero, List.getElem_cons_succ]; go_big_quiet_step (fail); refine wpQuiet_nil ?_)
  refine wpPlan_q (by rfl) ?_
  dsimp only [List.getElem_toArray, List.getElem_cons_zero, List.getElem_cons_succ]
  refine wpQuiet_run (sl z.Mb 83 i 32) rfl (fun w _ => run_opslice (fun W => slice80h z.Mb 83 i (by have := HI.out; omega) W)) ?_
  simp only [Act.put, List.setIfInBounds_toArray, List.set_cons_succ, List.set_cons_zero]
  refine wpQuiet_nil ?_
  refine wpPlan_e (by rfl) ?_
  dsimp only [List.getElem_toArray, List.getElem_cons_zero, List.getElem_cons_succ]
  have cd0 := HC.out.calm s0
  refine wpList_cpy rfl _ _ rfl z.Mb 84 83 i 31 32 rfl rfl (fun j hj => cd0.md.rct j (by have := HI.out; omega)) (fun j hj => by
    obtain ⟨x, hx⟩ := cd0.md.rct (j + 1) (by have := HI.out; omega)
    rw [show 83 + (j + 1) = 84 + j by omega] at hx
    exact ⟨by rw [hx]; rfl, cd0.md.fz _ (by have := HI.out; omega)⟩) ?_
  intro cs hlen hcs
  refine wpList_done ?_
  simp only [Act.put, List.setIfInBounds_toArray, List.set_cons_succ, List.set_cons_zero]
  refine onward_normal (fun h => by cases h) ?_
  refine wpPlan_nil ?_
  refine calmQ_normal ?_
  refine q_as (fun X => CD X z ov L ∧ Kept (CE z ov) U X) ⟨(cd0.copy cs (by have := HI.out; omega) hcs).1, Kept.thn' (s0.weak (fun _ _ h => h.elim)) (cd0.copy cs (by have := HI.out; omega) hcs).2 (fun _ _ h => h)⟩ ?_
  clear cd0 hcs hlen nS s0 HC
  rintro W ⟨cdW, kW⟩
  obtain ⟨xl, y80⟩ := cdW.md.i80
  have f83 := cdW.md.fz 83 (by omega)
  obtain ⟨x83, y83⟩ := cdW.md.rct 0 (by omega)
  rw [Nat.add_zero] at y83
  have s0 : Kept (fun _ => False) W W.drew := (Kept.refl _ W).drew
  haveI nS : Nonempty (Wld (fun U' => Kept (fun _ => False) W U')) := ⟨⟨W.drew, s0⟩⟩
  have z80 : ∀ x : Wld (fun U' => Kept (fun _ => False) W U'), x.w.cell? ⟨z.Mb, 80, none⟩ = some (.int .u64 (xl : Int)) := fun x => x.h.cell (p := ⟨z.Mb, 80, none⟩) (fun h => h) y80
  have CDW := hid (show CD W z ov L ∧ Kept (CE z ov) U W from ⟨cdW, kW⟩)
  clear cdW kW y80
  go_upto_region 2 with fail
  refine wp_region_calmplan 8 [(true, 0), (true, 1), (true, 2), (true, 3), (true, 4), (true, 5), (true, 6), (true, 7), (false, 8)] (fun w' => ∃ x : Wld (fun U' => Kept (fun _ => False) W U'), w' = x.w) mixed (by kernel_rfl) (inS s0) ?_
  iterate 8 (refine wpPlan_q (by rfl) ?_; dsimp only [List.getElem_toArray, List.getElem_cons_zero, List.getElem_cons_succ]; go_big_quiet_step (fail); refine wpQuiet_nil ?_)
  refine wpPlan_e (by rfl) ?_
  dsimp only [List.getElem_toArray, List.getElem_cons_zero, List.getElem_cons_succ]
  refine wpList_store_as rfl 23 _ _ rfl rfl z.Mb 83 (.int .u64 (xl : Int)) rfl rfl (store23 _ _ _ _ (by show (W.cell? _).isSome = true; rw [y83]; rfl) f83) ?_
  refine wpList_done ?_
  refine onward_normal (fun h => by cases h) ?_
  refine wpPlan_nil ?_
  refine calmQ_normal ?_
  have cd1 := CDW.out.1.calm s0
  refine q_as (fun X => CD X z ov L ∧ Kept (CE z ov) U X) ⟨(cd1.set (j := 83) (by omega) (okr (by omega) xl)).1, Kept.thn' (Kept.thn' CDW.out.2 s0 (fun _ _ h => h.elim)) (cd1.set (j := 83) (by omega) (okr (by omega) xl)).2 (fun _ _ h => h)⟩ ?_
  clear cd1 CDW z80 s0 nS f83 y83
  rintro V ⟨cdV, kV⟩
  obtain ⟨xl2, y80⟩ := cdV.md.i80
  have f80 := cdV.md.fz 80 (by omega)
  have S8 := hid (CP.thn kV (Mv.refl _ _) (CP.set cdV (j := 80) (by omega) (okr (by omega) x)))
  clear cdV kV
  go_wp2
  go_end0
  exact ⟨rfl, S8.out⟩

set_option maxRecDepth 100000 in
set_option maxHeartbeats 4000000 in
theorem push_any (z : Zs) (ov : Value) (L : Nat) (U : World) (h : CD U z ov L) : Calls Ybaz.prog 56 #[.pointer (some ⟨z.Mb, 0, none⟩)] U fun e w' => e = .returned (.tuple #[]) ∧ CP U z ov L w' := by
  obtain ⟨n, hn, y115⟩ := h.md.i115
  have hni : (n : Int) ≤ 32 := by omega
  obtain ⟨i, hi⟩ : ∃ i : Nat, min ((n : Int) + 1) 32 = (i : Int) + 1 := ⟨min n 31, by omega⟩
  have hi2 : i + 1 ≤ 32 := by omega
  have f115 := h.md.fz 115 (by omega)
  have HC := hid h
  have HI := hid hi2
  clear h hn hi2
  go_enter Ybaz.func56, Ybaz.ntmps56
  go_upto_region 1 with fail
  refine wp_as (fun V => (CD V z ov L ∧ Kept (CE z ov) U V) ∧ V.cell? ⟨z.Mb, 115, none⟩ = some (ii ((i : Int) + 1))) ⟨HC.out.set (j := 115) (by omega) (ok115 (k := i + 1) HI.out), World.cell?_setCell_same' _ _ _ (by rw [y115]; rfl)⟩ ?_
  rintro V ⟨⟨cdV, kV⟩, yV⟩
  have s0 : Kept (fun _ => False) V V.drew := (Kept.refl _ V).drew
  haveI nS : Nonempty (Wld (fun U' => Kept (fun _ => False) V U')) := ⟨⟨V.drew, s0⟩⟩
  have y9 : ∀ x : Wld (fun U' => Kept (fun _ => False) V U'), x.w.cell? ⟨z.Mb, 115, none⟩ = some (ii ((i : Int) + 1)) := fun x => x.h.cell (p := ⟨z.Mb, 115, none⟩) (fun h => h) yV
  have hi3 : (i : Int) + 1 ≤ 32 := by have := HI.out; omega
  have CDV := hid (show CD V z ov L ∧ Kept (CE z ov) U V from ⟨cdV, kV⟩)
  clear cdV kV yV y115 f115 HC hni hi
  refine wp_region_calmplan 17 [(true, 0), (true, 1), (true, 2), (true, 3), (true, 4), (true, 5), (true, 6), (true, 7), (true, 8), (true, 9), (true, 10), (true, 11), (true, 12), (true, 13), (true, 14), (true, 15), (true, 16), (false, 17)] (fun w' => ∃ x : Wld (fun U' => Kept (fun _ => False) V U'), w' = x.w) mixed (by kernel_rfl) (inS s0) ?_
  iterate 7 (refine wpPlan_q (by rfl) ?_; dsimp only [List.getElem_toArray, List.getElem_cons_zero, List.getElem_cons_succ]; go_big_quiet_step (fail); refine wpQuiet_nil ?_)
  refine wpPlan_q (by rfl) ?_
  dsimp only [List.getElem_toArray, List.getElem_cons_zero, List.getElem_cons_succ]
  refine wpQuiet_run (sl z.Mb 84 i 31) rfl (fun w _ => run_opslice (fun W => slice80lh z.Mb 83 i HI.out W)) ?_
  simp only [Act.put, List.setIfInBounds_toArray, List.set_cons_succ, List.set_cons_zero]
  refine wpQuiet_nil ?_
  iterate 8 (refine wpPlan_q (by rfl) ?_; dsimp only [List.getElem_toArray, List.getElem_cons_zero, List.getElem_cons_succ]; go_big_quiet_step (fail); refine wpQuiet_nil ?_)
  refine wpPlan_q (by rfl) ?_
  dsimp only [List.getElem_toArray, List.getElem_cons_zero, List.getElem_cons_succ]
  refine wpQuiet_run (sl z.Mb 83 i 32) rfl (fun w _ => run_opslice (fun W => slice80h z.Mb 83 i (by have := HI.out; omega) W)) ?_
  simp only [Act.put, List.setIfInBounds_toArray, List.set_cons_succ, List.set_cons_zero]
  refine wpQuiet_nil ?_
  refine wpPlan_e (by rfl) ?_
  dsimp only [List.getElem_toArray, List.getElem_cons_zero, List.getElem_cons_succ]
  have cd0 := CDV.out.1.calm s0
  refine wpList_cpy rfl _ _ rfl z.Mb 84 83 i 31 32 rfl rfl (fun j hj => cd0.md.rct j (by have := HI.out; omega)) (fun j hj => by
    obtain ⟨x, hx⟩ := cd0.md.rct (j + 1) (by have := HI.out; omega)
    rw [show 83 + (j + 1) = 84 + j by omega] at hx
    exact ⟨by rw [hx]; rfl, cd0.md.fz _ (by have := HI.out; omega)⟩) ?_
  intro cs hlen hcs
  refine wpList_done ?_
  simp only [Act.put, List.setIfInBounds_toArray, List.set_cons_succ, List.set_cons_zero]
  refine onward_normal (fun h => by cases h) ?_
  refine wpPlan_nil ?_
  refine calmQ_normal ?_
  refine q_as (fun X => CD X z ov L ∧ Kept (CE z ov) U X) ⟨(cd0.copy cs (by have := HI.out; omega) hcs).1, Kept.thn' (Kept.thn' CDV.out.2 s0 (fun _ _ h => h.elim)) (cd0.copy cs (by have := HI.out; omega) hcs).2 (fun _ _ h => h)⟩ ?_
  clear cd0 hcs hlen nS s0 CDV y9
  rintro W ⟨cdW, kW⟩
  obtain ⟨xl, y80⟩ := cdW.md.i80
  have f83 := cdW.md.fz 83 (by omega)
  obtain ⟨x83, y83⟩ := cdW.md.rct 0 (by omega)
  rw [Nat.add_zero] at y83
  have s0 : Kept (fun _ => False) W W.drew := (Kept.refl _ W).drew
  haveI nS : Nonempty (Wld (fun U' => Kept (fun _ => False) W U')) := ⟨⟨W.drew, s0⟩⟩
  have z80 : ∀ x : Wld (fun U' => Kept (fun _ => False) W U'), x.w.cell? ⟨z.Mb, 80, none⟩ = some (.int .u64 (xl : Int)) := fun x => x.h.cell (p := ⟨z.Mb, 80, none⟩) (fun h => h) y80
  have CDW := hid (show CD W z ov L ∧ Kept (CE z ov) U W from ⟨cdW, kW⟩)
  clear cdW kW y80
  go_upto_region 2 with fail
  refine wp_region_calmplan 8 [(true, 0), (true, 1), (true, 2), (true, 3), (true, 4), (true, 5), (true, 6), (true, 7), (false, 8)] (fun w' => ∃ x : Wld (fun U' => Kept (fun _ => False) W U'), w' = x.w) mixed (by kernel_rfl) (inS s0) ?_
  iterate 8 (refine wpPlan_q (by rfl) ?_; dsimp only [List.getElem_toArray, List.getElem_cons_zero, List.getElem_cons_succ]; go_big_quiet_step (fail); refine wpQuiet_nil ?_)
  refine wpPlan_e (by rfl) ?_
  dsimp only [List.getElem_toArray, List.getElem_cons_zero, List.getElem_cons_succ]
  refine wpList_store_as rfl 23 _ _ rfl rfl z.Mb 83 (.int .u64 (xl : Int)) rfl rfl (store23 _ _ _ _ (by show (W.cell? _).isSome = true; rw [y83]; rfl) f83) ?_
  refine wpList_done ?_
  refine onward_normal (fun h => by cases h) ?_
  refine wpPlan_nil ?_
  refine calmQ_normal ?_
  have cd1 := CDW.out.1.calm s0
  have S8 := hid (show CP U z ov L _ from ⟨ov, (cd1.set (j := 83) (by omega) (okr (by omega) xl)).1, Kept.thn' (Kept.thn' CDW.out.2 s0 (fun _ _ h => h.elim)) (cd1.set (j := 83) (by omega) (okr (by omega) xl)).2 (fun _ _ h => h), Mv.refl _ _⟩)
  clear cd1 CDW z80 nS f83 y83
  go_wp2
  go_end0
  exact ⟨rfl, S8.out⟩
end Go.Proofs.YbulkdsjeGreatDoor
