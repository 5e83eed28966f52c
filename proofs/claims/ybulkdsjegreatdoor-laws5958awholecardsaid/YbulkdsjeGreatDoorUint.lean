import Derived.Test.YbulkdsjeGreatDoorDirect
set_option linter.unusedVariables false
set_option linter.unusedSimpArgs false
namespace Go.Proofs.YbulkdsjeGreatDoor
open Go.RowKit

theorem PA.sub {U : World} {Pb o N o' N' : Nat} (h : PA U Pb o N) (h1 : o ≤ o') (h2 : o' + N' ≤ o + N) : PA U Pb o' N' := fun j hj => by
  have := h (o' - o + j) (by omega)
  rwa [show o + (o' - o + j) = o' + j by omega] at this
theorem run_opslice {t : TypeId} {x : Operand} {lo hi : Option Operand} {d : Option Tmp} {ty : TypeId} {ps : String} {af : Array Edge} {ev : Operand → Value} {w : World} {v : Value} (h : ∀ W, Sem.run Ybaz.prog (Instr.sliceAt t (ev x) (lo.map ev) (hi.map ev) none) W = .ok v W) :
    (execOp ev ⟨d, .slice t x lo hi none, ty, ps, af, none⟩).run Ybaz.prog w = .ok (.value v) w := by
  unfold execOp
  simp only [Option.map_none, Sem.run_bind, h w, Result.andThen_ok, Sem.run_pure]
theorem wrap_small (K : Nat) (h : K ≤ 64) : wrap64 (K : Int) = (K : Int) := by unfold wrap64; omega
theorem slice85 (b o k : Nat) (hk : k ≤ 64) (w : World) : Sem.run Ybaz.prog (Instr.sliceAt 85 (.pointer (some ⟨b, o, none⟩)) none (some (.int .i64 (k : Int))) none) w = .ok (sl b o k 64) w := by
  have hl : Ybaz.prog.arrayLen 85 = 64 := by kernel_rfl
  have hu : Ybaz.prog.underlying 85 = some (.array (Ybaz.prog.arrayLen 85) (Ybaz.prog.elem 85)) := by kernel_rfl
  have hs : ∀ W, Sem.run Ybaz.prog (Go.sizeOf (Ybaz.prog.elem 85)) W = .ok 1 W := fun W => by kernel_rfl
  rw [run_sliceAt_array_h w 85 ⟨b, o, none⟩ hu .i64 (k : Int) (by omega) (by rw [hl]; omega), hs, hl]
  simp [Result.andThen, slicedAt, Addr.add]
/-- A model of numbers in memory. -/
structure UM (U : World) (Ub Lb C : Nat) : Prop where
  len : U.cell? ⟨Ub, 0, none⟩ = some (sl Lb 0 C C)
  pl : PA U Lb 0 (C * 128)
  pm : PA U Ub 1 4160
  ne : Ub ≠ Lb
theorem UM.pu {U U' : World} {Ub Lb C : Nat} (h : UM U Ub Lb C) (k : PU Ub U U') (k2 : PU Lb U U') : UM U' Ub Lb C := by
  refine ⟨?_, h.pl.pu k2, h.pm.pu k, h.ne⟩
  rcases (k 0).2 with e | ⟨p, p', a1, _⟩
  · rw [e]; exact h.len
  · rw [h.len] at a1; cases a1
/-- What a coded number leaves. -/
def UtP (U : World) (Eb base : Nat) (ov : Value) (L Ub Lb : Nat) (w' : World) : Prop := ∃ ov', ES w' Eb base ov' L 16777216 ∧ Kept (fun b => EE Eb ov b ∨ b = Ub ∨ b = Lb) U w' ∧ Mv U ov ov' ∧ PU Ub U w' ∧ PU Lb U w'

set_option maxRecDepth 100000 in
set_option maxHeartbeats 4000000 in
theorem uint_any (Eb base L Ub Lb C ctx v : Nat) (ov : Value) (U : World) (h : ES U Eb base ov L 16777216) (hL : L + 200 < 1099511627776) (hu : UM U Ub Lb C) (hc : ctx < C) (hC : C ≤ 100) (hv : v ≤ 18446744073709551615) (n1 : Ub ≠ Eb) (n2 : Lb ≠ Eb) (n3 : ov.ownBlock ≠ some Ub) (n4 : ov.ownBlock ≠ some Lb) :
    Calls Ybaz.prog 25 #[.pointer (some ⟨Eb, 0, none⟩), .pointer (some ⟨Ub, 0, none⟩), vi ctx, .int .u64 v] U fun e w' => e = .returned (.tuple #[]) ∧ UtP U Eb base ov (L + 60) Ub Lb w' := by
  have LN := hid (fun w => Ybaz.bits_Len64 (v : Int) w (by omega) (by omega))
  have hbl : Lib.bitLen v ≤ 64 := Lib.bitLen_le v 64 (by omega) (by omega)
  rw [Int.toNat_natCast] at LN
  obtain ⟨n, hn⟩ : ∃ n, Lib.bitLen v = n := ⟨_, rfl⟩
  rw [hn] at LN hbl
  have c0 := hu.len
  have hci : (ctx : Int) < (C : Int) := by omega
  have TA := hid (etree_any Eb base L Lb (ctx * 128) 7 128 (n : Int) ov U h (by omega) (by omega) (hu.pl.sub (by omega) (by omega)) n2 n4 (by omega))
  have H := hid h
  have HL := hid hL
  have HU := hid hu
  have HV := hid hv
  clear h hL hu hv hn
  go_enter Ybaz.func25, Ybaz.ntmps25
  go_upto_region 1 with (go_at_call 43; refine (LN.out _).mono ?_; rintro e W1 ⟨rfl, e1⟩; rw [e1]; clear e1 W1)
  go_upto_region 2 with (go_at_call 44; refine TA.out.mono ?_; rintro e W1 ⟨rfl, bt⟩; have BT := hid bt; clear bt TA)
  clear LN c0
  have hUb : Hid (Ub < U.heap.size ∧ Lb < U.heap.size) := hid ⟨World.block_lt_of_cell? U _ HU.out.len, by obtain ⟨p, cp, _⟩ := HU.out.pl (ctx * 128) (by omega); exact World.block_lt_of_cell? U _ cp⟩
  have U1 : Hid (UtP U Eb base ov (L + 21) Ub Lb W1) := hid (by
    obtain ⟨ov1, es1, k1, m1, p1⟩ := BT.out
    exact ⟨ov1, es1, k1.weak (fun _ _ e => by rcases e with e | e; exact .inl e; exact .inr (.inr e)), m1, PU.kept k1 (fun e => by rcases e with (e | e) | e; exact n1 e; exact n3 e; exact HU.out.ne e) hUb.out.1, p1⟩)
  clear BT
  by_cases hn1 : n ≤ 1
  · have hni : (n : Int) ≤ 1 := by omega
    go_wp2
    refine bodyPost_ret (results_none Ybaz.results25 _ _ _) rfl ?_
    refine ⟨rfl, ?_⟩
    obtain ⟨ov1, es1, k1, m1, p1, p2⟩ := U1.out
    obtain ⟨xs, low, rg, cache, pend, st, ex, h1, h2⟩ := es1.ex
    exact ⟨ov1, ⟨xs, low, rg, cache, pend, st, ex, by omega, h2⟩, k1, m1, p1, p2⟩
  · have hni : ¬ ((n : Int) ≤ 1) := by omega
    obtain ⟨mk, hk1, hk2, hk3, emk⟩ : ∃ mk : Nat, 1 ≤ mk ∧ mk ≤ 6 ∧ mk ≤ n - 1 ∧ min ((n : Int) - 1) 6 = (mk : Int) := ⟨min (n - 1) 6, by omega, by omega, by omega, by omega⟩
    have hnk : (n : Int) ≤ 64 := by omega
    have hki : (mk : Int) ≤ 6 := by omega
    have hkn : (mk : Int) ≤ (n : Int) - 1 := by omega
    have s0 : Kept (fun _ => False) W1 W1.drew := (Kept.refl _ W1).drew
    haveI nS : Nonempty (Wld (fun _ => True)) := ⟨⟨W1.drew, trivial⟩⟩
    go_upto_region 5 with fail
    refine wp_region_calmplan 15 [(true, 0), (true, 1), (true, 2), (true, 3), (true, 4), (true, 5), (true, 6), (true, 7), (true, 8), (true, 9), (true, 10), (true, 11), (true, 12), (true, 13), (false, 14)] (fun w' => ∃ z : Wld (fun _ => True), w' = z.w) mixed (by kernel_rfl) (inS trivial) ?_
    iterate 8 (refine wpPlan_q (by rfl) ?_; dsimp only [List.getElem_toArray, List.getElem_cons_zero, List.getElem_cons_succ]; go_big_quiet_step (fail); refine wpQuiet_nil ?_)
    have h64 : 2 ^ mk ≤ 64 := by
      have : 2 ^ mk ≤ 2 ^ 6 := Nat.pow_le_pow_right (by omega) hk2
      omega
    have ewr : wrap64 ((2 : Int) ^ mk) = ((2 ^ mk : Nat) : Int) := by
      have e2 : ((2 : Int) ^ mk) = ((2 ^ mk : Nat) : Int) := by simp
      rw [e2]
      exact wrap_small _ h64
    rw [ewr]
    refine wpPlan_q (by rfl) ?_
    dsimp only [List.getElem_toArray, List.getElem_cons_zero, List.getElem_cons_succ]
    refine wpQuiet_run (sl Ub (1 + n * 64) (2 ^ mk) 64) rfl (fun w _ => run_opslice (fun W => slice85 Ub (1 + n * 64) (2 ^ mk) h64 W)) ?_
    simp only [Act.put, List.setIfInBounds_toArray, List.set_cons_succ, List.set_cons_zero]
    refine wpQuiet_nil ?_
    iterate 5 (refine wpPlan_q (by rfl) ?_; dsimp only [List.getElem_toArray, List.getElem_cons_zero, List.getElem_cons_succ]; go_big_quiet_step (fail); refine wpQuiet_nil ?_)
    refine wpPlan_e (by rfl) ?_
    dsimp only [List.getElem_toArray, List.getElem_cons_zero, List.getElem_cons_succ]
    have X1 : Hid (∃ ov1, ES W1.drew Eb base ov1 (L + 21) 16777216 ∧ Kept (fun b => EE Eb ov b ∨ b = Ub ∨ b = Lb) U W1.drew ∧ Mv U ov ov1 ∧ PU Ub U W1.drew ∧ PU Lb U W1.drew) := hid (by
      obtain ⟨ov1, es1, k1, m1, p1, p2⟩ := U1.out
      obtain ⟨xs, low, rg, cache, pend, st, ex, h1⟩ := es1.ex
      exact ⟨ov1, ⟨xs, low, rg, cache, pend, st, ex.kept s0 (fun h => h) (fun _ _ h => h), h1⟩, k1.drew, m1, p1, p2⟩)
    obtain ⟨ov1, x1, x2, x3, x4, x5⟩ := X1.out
    have nU1 : ov1.ownBlock ≠ some Ub := fun e => by rcases x3 Ub e with e | e; exact n3 e; have := hUb.out.1; omega
    have TB := hid (etree_any Eb base (L + 21) Ub (1 + n * 64) mk 64 ((v : Int) / 2 ^ (n - 1 - mk)) ov1 W1.drew x1 (by have := HL.out; omega) (by omega) ((HU.out.pm.pu x4).sub (by omega) (by omega)) n1 nU1 (by
      have : ((v : Int) / 2 ^ (n - 1 - mk)) = ((v / 2 ^ (n - 1 - mk) : Nat) : Int) := by simp
      rw [this]
      exact Int.natCast_nonneg _))
    have X2 := hid x2
    have X3 := hid x3
    have X4 := hid x4
    have X5 := hid x5
    clear x1 x2 x3 x4 x5 X1 U1
    go_wp2_with (go_at_call 44; refine TB.out.mono ?_; rintro e W2 ⟨rfl, bt⟩; have BT := hid bt; clear bt TB)
    refine onward_normal (fun _ => inS trivial) ?_
    refine wpPlan_nil ?_
    refine calmQ_normal ?_
    have U2 : Hid (∃ ov2, ES W2 Eb base ov2 (L + 40) 16777216 ∧ Kept (fun b => EE Eb ov b ∨ b = Ub ∨ b = Lb) U W2 ∧ Mv U ov ov2 ∧ PU Ub U W2 ∧ PU Lb U W2) := hid (by
      obtain ⟨ov2, es2, k2, m2, p2⟩ := BT.out
      obtain ⟨xs, low, rg, cache, pend, st, ex, h1, h2⟩ := es2.ex
      have hLb : Lb < W1.drew.heap.size := Nat.lt_of_lt_of_le hUb.out.2 X2.out.size
      refine ⟨ov2, ⟨xs, low, rg, cache, pend, st, ex, by omega, h2⟩, Kept.thn' X2.out k2 (fun i hi e => ?_), X3.out.trans m2 X2.out.size, X4.out.trans p2, X5.out.trans (PU.kept k2 (fun e => ?_) hLb)⟩
      · rcases e with (e | e) | e
        · exact .inl (.inl e)
        · rcases X3.out i e with e | e
          · exact .inl (.inr e)
          · omega
        · exact .inr (.inl e)
      · rcases e with (e | e) | e
        · exact n2 e
        · rcases X3.out Lb e with e | e
          · exact n4 e
          · have := hUb.out.2; omega
        · exact HU.out.ne e.symm)
    obtain ⟨ov2, x1, x2, x3, x4, x5⟩ := U2.out
    have DA := hid (direct_any Eb base (L + 40) (n - 1 - mk) (v : Int) ov2 W2 x1 (by have := HL.out; omega) (by omega) (by omega))
    have Y2 := hid x2
    have Y3 := hid x3
    have Y4 := hid x4
    have Y5 := hid x5
    have enk : (n : Int) - 1 - (mk : Int) = ((n - 1 - mk : Nat) : Int) := by omega
    clear x1 x2 x3 x4 x5 U2 BT X2 X3 X4 X5 s0 nS
    go_wp2_with (go_at_call 27; refine DA.out.mono ?_; rintro e W3 ⟨rfl, np⟩; have NP := hid np; clear np DA)
    go_end0
    refine ⟨rfl, ?_⟩
    obtain ⟨ov3, es3, k3, m3⟩ := NP.out
    obtain ⟨xs, low, rg, cache, pend, st, ex, h1, h2⟩ := es3.ex
    have hb := hUb.out
    have hs := Y2.out.size
    have w1 : ∀ z, z < U.heap.size → z ≠ Eb → ov.ownBlock ≠ some z → ¬ EE Eb ov2 z := fun z hz a1 a2 e => by
      rcases e with e | e
      · exact a1 e
      · rcases Y3.out z e with e | e
        · exact a2 e
        · omega
    refine ⟨ov3, ⟨xs, low, rg, cache, pend, st, ex, by omega, h2⟩, Kept.thn' Y2.out k3 (fun i hi e => ?_), Y3.out.trans m3 hs, Y4.out.trans (PU.kept k3 (w1 _ hb.1 n1 n3) (by omega)), Y5.out.trans (PU.kept k3 (w1 _ hb.2 n2 n4) (by omega))⟩
    rcases e with e | e
    · exact .inl (.inl e)
    · rcases Y3.out i e with e | e
      · exact .inl (.inr e)
      · omega
end Go.Proofs.YbulkdsjeGreatDoor
