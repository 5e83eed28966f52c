import Derived.Test.YbulkdsjeGreatDoorUint
set_option linter.unusedVariables false
set_option linter.unusedSimpArgs false
namespace Go.Proofs.YbulkdsjeGreatDoor
open Go.RowKit

theorem bits_u64 (op : BinOp) (a b : Int) : ∃ m : Nat, m < 18446744073709551616 ∧ bits op .u64 a b = (m : Int) := by
  unfold bits
  exact u64_nat _
theorem bld117 (sa : Option Addr) (n c : Nat) (w : World) : Sem.run Ybaz.prog (Instr.build 117 #[(0, .slice sa n c), (2, .int .u32 4294967295)]) w = .ok (.agg #[.slice sa n c, .int .u64 0, .int .u32 4294967295, .int .u8 0, .int .i64 0, .bool false]) w := by kernel_rfl
theorem bx117 (sa : Option Addr) (n c : Nat) (w : World) : Sem.run Ybaz.prog (Instr.box 117 (.agg #[.slice sa n c, .int .u64 0, .int .u32 4294967295, .int .u8 0, .int .i64 0, .bool false])) w = .ok (.pointer (some ⟨w.heap.size, 0, none⟩)) (w.alloc (.cells #[.slice sa n c, .int .u64 0, .int .u32 4294967295, .int .u8 0, .int .i64 0, .bool false] 117)) := by kernel_rfl

set_option maxRecDepth 100000 in
set_option maxHeartbeats 1000000 in
/-- A new encoder. -/
theorem newEncoder_any (w : World) : Calls Ybaz.prog 24 #[.slice none 0 0] w fun e w' => e = .returned (.pointer (some ⟨w.heap.size, 0, none⟩)) ∧ ES w' w.heap.size w.heap.size (.slice none 0 0) 0 16777216 ∧ Kept (fun _ => False) w w' := by
  go_enter Ybaz.func24, Ybaz.ntmps24
  go_wp2_with (first
    | ((with_reducible (show wpList _ _ _ (⟨_, .build 117 _, _, _, _, _⟩ :: _) _ _)); refine wpList_build_as rfl 117 _ rfl (.agg #[.slice none 0 0, .int .u64 0, .int .u32 4294967295, .int .u8 0, .int .i64 0, .bool false]) (bld117 _ _ _ _) ?_; simp only [Act.put, List.setIfInBounds_toArray, List.set_cons_succ, List.set_cons_zero])
    | ((with_reducible (show wpList _ _ _ (⟨_, .box 117 _, _, _, _, _⟩ :: _) _ _)); refine wpList_box_as rfl 117 _ rfl #[.slice none 0 0, .int .u64 0, .int .u32 4294967295, .int .u8 0, .int .i64 0, .bool false] rfl (bx117 _ _ _) ?_; simp only [Act.put, List.setIfInBounds_toArray, List.set_cons_succ, List.set_cons_zero]))
  go_ret
  have k : Kept (fun _ => False) w (w.alloc (.cells #[.slice none 0 0, .int .u64 0, .int .u32 4294967295, .int .u8 0, .int .i64 0, .bool false] 117)) := (Kept.refl _ w).alloc _
  refine ⟨rfl, ⟨[], 0, 4294967295, 0, 0, false, ⟨range_new w [.slice none 0 0, .int .u64 0, .int .u32 4294967295, .int .u8 0, .int .i64 0, .bool false] 117, there_new w [.slice none 0 0, .int .u64 0, .int .u32 4294967295, .int .u8 0, .int .i64 0, .bool false] 117, ⟨rfl, .inl ⟨rfl, rfl⟩⟩, (fun e => by cases e), k.size, (fun u hu => by cases hu)⟩, by simp, by omega, by omega, by omega, by omega⟩, k⟩

set_option maxRecDepth 100000 in
set_option maxHeartbeats 4000000 in
/-- The end of the code. -/
theorem finish_any (Eb base L : Nat) (ov : Value) (U : World) (h : ES U Eb base ov L 1) (hL : L + 10 < 1099511627776) :
    Calls Ybaz.prog 34 #[.pointer (some ⟨Eb, 0, none⟩)] U fun e w' => ∃ ov' xs, e = .returned ov' ∧ w'.ownsRow base 5 1 ov' xs.length xs ∧ xs.length ≤ L + 2 ∧ Kept (EE Eb ov) U w' ∧ Mv U ov ov' ∧ ∀ u ∈ xs, u.oneCell' = true := by
  obtain ⟨xs, low, rg, cache, pend, st, ex, h1, h2, h3, h4, h5⟩ := h.ex
  have c1 := ex.cell 1 _ rfl
  have f1 := ex.free 1 (by omega)
  have HX := hid ex
  have H1 := hid h1
  have H3 := hid h3
  have HL := hid hL
  clear h ex h1 h2 h3 h4 h5 hL
  go_enter Ybaz.func34, Ybaz.ntmps34
  go_upto_region 2 with fail
  obtain ⟨low2, hl2, elow⟩ := bits_u64 .andNot (IntKind.u64.wrap (IntKind.u64.wrap ((low : Int) + 16777216) - 1)) 16777215
  rw [elow]
  refine wp_as (fun X => EX X Eb base ov xs low2 rg cache pend st ∧ Kept (EE Eb ov) U X) ⟨HX.out.low low2, (Kept.refl (EE Eb ov) U).setCell (p := ⟨Eb, 1, none⟩) (.inl (.inl rfl)) _⟩ ?_
  rintro X ⟨ex, kx⟩
  have SA := hid (shift_any Eb base low2 rg cache pend ov xs st X ex (by have := H1.out; have := HL.out; omega) hl2 H3.out)
  have KX := hid kx
  clear ex kx HX c1 f1 elow hl2
  go_upto_region 3 with (go_at_call 62; refine SA.out.mono ?_; rintro e W1 ⟨rfl, sp⟩; have SP := hid sp; clear sp SA)
  obtain ⟨ov1, xs1, low1, cache1, pend1, st1, ex1, k1, m1, l1, lo1, ca1⟩ := SP.out
  have SB := hid (shift_any Eb base low1 rg cache1 pend1 ov1 xs1 st1 W1 ex1 (by have := H1.out; have := HL.out; omega) lo1 ca1)
  have K1 := hid (EE.trans KX.out (Mv.refl U ov) k1)
  have M1 := hid (show Mv U ov ov1 from (Mv.refl U ov).trans m1 KX.out.size)
  have L1 := hid l1
  clear ex1 k1 m1 l1 lo1 ca1 SP KX
  go_upto_region 4 with (go_at_call 62; refine SB.out.mono ?_; rintro e W2 ⟨rfl, sp⟩; have SP := hid sp; clear sp SB)
  obtain ⟨ov2, xs2, low2', cache2, pend2, st2, ex2, k2, m2, l2, lo2, ca2⟩ := SP.out
  obtain ⟨sa, sc, eov, _⟩ := own_form ex2.own
  have c0 := ex2.cell 0 _ rfl
  have FIN : Hid (W2.ownsRow base 5 1 ov2 xs2.length xs2 ∧ xs2.length ≤ L + 2 ∧ Kept (EE Eb ov) U W2 ∧ Mv U ov ov2 ∧ ∀ u ∈ xs2, u.oneCell' = true) := hid ⟨ex2.own, by have := L1.out; have := H1.out; omega, EE.trans K1.out M1.out k2, M1.out.trans m2 K1.out.size, ex2.one⟩
  rw [eov] at c0 FIN
  clear ex2 k2 m2 l2 lo2 ca2 SP eov
  go_wp2
  go_ret
  exact ⟨_, xs2, rfl, FIN.out⟩
end Go.Proofs.YbulkdsjeGreatDoor
