import Derived.Test.YbulkdsjeGreatDoorSr6
set_option linter.unusedVariables false
set_option linter.unusedSimpArgs false
namespace Go.Proofs.YbulkdsjeGreatDoor
open Go.RowKit

/-- The raw points: their times rise to the last, none is behind T; N writes so far. -/
structure RQ (U : World) (S : Nat → Prop) (b o : Nat) (T : Int) (N d n : Nat) (f : Nat → Int) : Prop where
  ck : CK U S b o d n f
  le : ∀ p, p < d + n → f p ≤ T
  up : ∀ p, p + 1 < d + n → f p < f (d + n - 1)
  nN : n ≤ N
  ps : ∀ p, p < d + n → 1 ≤ f p
def RP (U : World) (S : Nat → Prop) (b o : Nat) (T : Int) (N : Nat) : Prop := ∃ d n f, RQ U S b o T N d n f
theorem RQ.kept {U U' : World} {S E : Nat → Prop} {b o N d n : Nat} {T : Int} {f : Nat → Int} (h : RQ U S b o T N d n f) (k : Kept E U U') (hb : ¬ E b) (hS : ∀ x, S x → ¬ E x) : RQ U' S b o T N d n f := ⟨h.ck.kept k hb hS, h.le, h.up, h.nN, h.ps⟩
theorem RP.kept {U U' : World} {S E : Nat → Prop} {b o N : Nat} {T : Int} (h : RP U S b o T N) (k : Kept E U U') (hb : ¬ E b) (hS : ∀ x, S x → ¬ E x) : RP U' S b o T N := by
  obtain ⟨d, n, f, hq⟩ := h
  exact ⟨d, n, f, hq.kept k hb hS⟩
theorem RP.mono {U : World} {S : Nat → Prop} {b o N N' : Nat} {T T' : Int} (h : RP U S b o T N) (hT : T ≤ T') (hN : N ≤ N') : RP U S b o T' N' := by
  obtain ⟨d, n, f, hq⟩ := h
  exact ⟨d, n, f, hq.ck, fun p hp => Int.le_trans (hq.le p hp) hT, hq.up, Nat.le_trans hq.nN hN, hq.ps⟩
/-- A float turned in place. -/
theorem CX.setF {U : World} {S : Nat → Prop} {b o d n m Cb co cc : Nat} {f : Nat → Int} {sv : Value} {I cp : Nat → Nat} (h : CX U S b o d n f sv m Cb co cc I cp) {i : Nat} (hi : i < n) (v : Nat) : CX (U.setCell ⟨I ((d + i) / 256), (d + i) % 256 * 2 + 1, none⟩ (.float .f64 v)) S b o d n f sv m Cb co cc I cp := by
  obtain ⟨p1, p2⟩ := h.place hi
  have fp := FP.set (w := U) (I ((d + i) / 256)) ((d + i) % 256 * 2 + 1) (.float .f64 v)
  obtain ⟨_, x0, hx0⟩ := h.val (d + i) (by omega)
  have same : (U.setCell ⟨I ((d + i) / 256), (d + i) % 256 * 2 + 1, none⟩ (.float .f64 v)).cell? ⟨I ((d + i) / 256), (d + i) % 256 * 2 + 1, none⟩ = some (.float .f64 v) := World.cell?_setCell_same' _ _ _ (by rw [hx0]; rfl)
  obtain ⟨q, hq⟩ : ∃ q, (d + i) / 256 = q := ⟨_, rfl⟩
  rw [hq] at p1 fp same ⊢
  obtain ⟨U', hU'⟩ : ∃ U', U.setCell ⟨I q, (d + i) % 256 * 2 + 1, none⟩ (.float .f64 v) = U' := ⟨_, rfl⟩
  rw [hU'] at fp same ⊢
  have hb : b < U.heap.size := World.block_lt_of_cell? U _ h.c0
  have bI : b ≠ I q := fun e => h.sb (by rw [e]; exact h.oi q p1)
  have cb : ∀ j, U'.cell? ⟨b, j, none⟩ = U.cell? ⟨b, j, none⟩ := fun j => fp.cell _ _ hb (fun e => bI e.1)
  have hm : 0 < m := by omega
  have hC := h.slt _ (h.oc hm)
  have cC : ∀ j, U'.cell? ⟨Cb, j, none⟩ = U.cell? ⟨Cb, j, none⟩ := fun j => fp.cell _ _ hC (fun e => h.ic q p1 e.1.symm)
  refine ⟨⟨by rw [cb]; exact h.c0, by rw [cb]; exact h.c1, by rw [cb]; exact h.c2, fun j hj => by rw [fp.frz _ _ hb]; exact h.fr j hj, h.form, h.mcc, fun hm j hj => by rw [cC, fp.frz _ _ hC]; exact h.row hm j hj, h.hi, h.d256, fun k hk => by rw [cC, cC]; exact h.ch k hk, fun k hk j hj => ?_, h.cpl, fun p hp => ?_, h.inj, h.ic, h.oc, h.oi, fun x hx => Nat.lt_of_lt_of_le (h.slt x hx) fp.size, h.sb, h.bd⟩, h.lo, h.z⟩
  · refine there_fp fp (h.slt _ (h.oi k hk)) (h.it k hk j hj) (fun e => ?_)
    rw [e.1, e.2, same]
    rfl
  · have hp2 : p / 256 < m := by have := h.hi; omega
    obtain ⟨v1, x, v2⟩ := h.val p hp
    refine ⟨by rw [fp.cell _ _ (h.slt _ (h.oi _ hp2)) (fun e => by omega)]; exact v1, ?_⟩
    by_cases e : I (p / 256) = I q ∧ p % 256 * 2 + 1 = (d + i) % 256 * 2 + 1
    · rw [e.1, e.2]
      exact ⟨v, same⟩
    · rw [fp.cell _ _ (h.slt _ (h.oi _ hp2)) e]
      exact ⟨x, v2⟩
theorem fld46 (v1 v2 : Value) (w : World) : Sem.run Ybaz.prog (Instr.field 46 (.agg #[v1, v2]) 0) w = .ok v1 w := by kernel_rfl
theorem wpList_as {ops : Array Oper} {rest : List Oper} {o : Oper} {a : Act} {w : World} {Q : Exit → Act → World → Prop} (v : Value) (hw : Region.wanted o (yielded ops a.tmps) = true) (hr : (execOp a.eval o).run Ybaz.prog w = .ok (.value v) w) (h : wpList Ybaz.prog ops Q rest (a.put o.dst v) w) : wpList Ybaz.prog ops Q (o :: rest) a w := by
  refine wpList_step fun K hK => ?_
  rw [if_pos hw]
  unfold Oper.wp
  rw [hr]
  exact hK _ _ h
theorem run_opfield {t : TypeId} {x : Operand} {i : Nat} {d : Option Tmp} {ty : TypeId} {ps : String} {af : Array Edge} {g : Option (Nat × Bool)} {ev : Operand → Value} {w : World} {v : Value} (h : Sem.run Ybaz.prog (Instr.field t (ev x) i) w = .ok v w) :
    (execOp ev ⟨d, .field t x i, ty, ps, af, g⟩).run Ybaz.prog w = .ok (.value v) w := by
  unfold execOp
  simp only [Sem.run_bind, h, Result.andThen_ok, Sem.run_pure]
theorem store24 (w : World) (b o : Nat) (x : Nat) (hc : (w.cell? ⟨b, o, none⟩).isSome = true) (hf : w.frozen? ⟨b, o, none⟩ = false) : Sem.run Ybaz.prog (Instr.storeAt 24 (.pointer (some ⟨b, o, none⟩)) (.float .f64 x)) w = .ok () (w.setCell ⟨b, o, none⟩ (.float .f64 x)) := by
  have hu := Ybaz.underlying24
  obtain ⟨u, hc'⟩ := Option.isSome_iff_exists.1 hc
  have hst := run_store1 (P := Ybaz.prog) w b o (.float .f64 x) hc hf rfl
  go_simp
/-- Ahead of the trim. -/
def PuS (U : World) (S : Nat → Prop) (b o : Nat) (T : Int) (N : Nat) (w' : World) : Prop := ∃ S' d n f, RQ w' S' b o T N d n f ∧ 0 < n ∧ FP U w' (fun c j => S c ∨ (c = b ∧ o ≤ j ∧ j < o + 3)) ∧ (∀ c, S' c → S c ∨ U.heap.size ≤ c)
/-- Behind a put. -/
def PuD (U : World) (S : Nat → Prop) (b o : Nat) (T : Int) (N : Nat) (w' : World) : Prop := ∃ S', RP w' S' b o T N ∧ FP U w' (fun c j => S c ∨ (c = b ∧ o ≤ j ∧ j < o + 3)) ∧ (∀ c, S' c → S c ∨ U.heap.size ≤ c)

set_option maxRecDepth 100000 in
set_option maxHeartbeats 4000000 in
theorem put_any (ms oldest T : Int) (v : Nat) (S : Nat → Prop) (b o N : Nat) (U : World) (h : RP U S b o T N) (hT : T ≤ ms) (hN : N < 1073741824) (hms : 1 ≤ ms) : Calls Ybaz.prog 39 #[.pointer (some ⟨b, o, none⟩), .int .i64 ms, .float .f64 v, .int .i64 oldest] U fun e w' => e = .returned (.tuple #[]) ∧ PuD U S b o ms (N + 1) w' := by
  obtain ⟨d, n, f, hq⟩ := h
  have HMS := hid hms
  clear hms
  by_cases hold : ms < oldest
  · go_enter Ybaz.func39, Ybaz.ntmps39
    go_wp2
    refine bodyPost_ret (results_none Ybaz.results39 _ _ _) rfl ?_
    exact ⟨rfl, S, RP.mono ⟨d, n, f, hq⟩ hT (by omega), FP.refl _ _, fun c hc => .inl hc⟩
  · have c2 : U.cell? ⟨b, o + 2, none⟩ = some (vi n) := by obtain ⟨sv, m, Cb, co, cc, I, cp, hx⟩ := hq.ck; exact hx.c2
    have hdn : d + n ≤ 17179869184 ∧ d < 256 := by obtain ⟨sv, m, Cb, co, cc, I, cp, hx⟩ := hq.ck; exact ⟨hx.bd, hx.d256⟩
    have LN := hid (lenR_any b o n U c2)
    have HQ := hid hq
    have HT := hid hT
    have HN := hid hN
    have HD := hid hdn
    obtain ⟨B, hB⟩ : ∃ B, decide (n = 0 ∨ f (d + n - 1) < ms) = B := ⟨_, rfl⟩
    have HB := hid hB
    clear hq hT hN hdn c2 hB
    go_enter Ybaz.func39, Ybaz.ntmps39
    go_upto_region 2 with (go_at_call 8; refine LN.out.mono ?_; rintro e W1 ⟨rfl, rfl⟩)
    go_cut [32] from 20 to 32 (fun v w' => v = .bool B ∧ Kept (fun _ => False) W1 w')
    case first =>
      by_cases hn0 : n = 0
      · have hni : ((n : Int) == 0) = true := by simp [hn0]
        have eB : B = true := by rw [← HB.out]; simp [hn0]
        clear hn0
        go_wp2
        go_meet
        case rel => exact ⟨by rw [eB], Kept.refl _ _⟩
      · have hni : ((n : Int) == 0) = false := by simp [hn0]
        obtain ⟨l, hl⟩ : ∃ l, n = l + 1 := ⟨n - 1, by omega⟩
        have el : (n : Int) - 1 = (l : Int) := by omega
        have hlb : (l : Int) ≤ 17179869184 := by have := HD.out; omega
        have AT := hid (atR_any S b o d n l f W1 HQ.out.ck (by omega))
        have HL := hid hl
        obtain ⟨B2, hB2⟩ : ∃ B2, decide (f (d + l) < ms) = B2 := ⟨_, rfl⟩
        have eB : B2 = B := by
          rw [← HB.out, ← hB2, hl, show d + (l + 1) - 1 = d + l by omega]
          simp
        clear hn0 hl
        go_wp2_with (first | (go_at_call 46; refine AT.out.mono ?_; rintro e W2 ⟨x, rfl, k2⟩; have K2 := hid k2; clear k2 AT) | ((with_reducible (show wpList _ _ _ (⟨_, .field 46 _ _, _, _, _, _⟩ :: _) _ _)); refine wpList_as (ii (f (d + l))) (by kernel_rfl) (run_opfield (fld46 _ _ _)) ?_; simp only [Act.put, List.setIfInBounds_toArray, List.set_cons_succ, List.set_cons_zero]))
        go_meet
        case rel => exact ⟨by rw [← eB], K2.out⟩
    case rest =>
      obtain ⟨rfl, kw⟩ := hcut
      have HW := hid (HQ.out.kept kw (fun h => h) (fun _ _ h => h))
      have KW := hid kw
      clear kw LN HQ
      go_upto_if 32 with fail
      go_cut [] from 9 to 62 (fun w' => PuS W1 S b o ms (N + 1) w')
      case first =>
        cases B with
        | true =>
          have PA := hid (pushR_any S b o d n f ms v wc HW.out.ck (by have := HD.out; have := HN.out; have := HW.out.nN; omega))
          go_wp2_with (go_at_call 66; refine PA.out.mono ?_; rintro e W3 ⟨rfl, S', ck', fp', mv'⟩; have CK' := hid ck'; have FP' := hid fp'; have MV' := hid mv'; clear ck' fp' mv' PA)
          go_meet
          case rel =>
            have hB := of_decide_eq_true HB.out
            have hz : n = 0 → d = 0 := fun h0 => by
              obtain ⟨sv, m, Cb, co, cc, I, cp, hx⟩ := HW.out.ck
              have := hx.z h0
              have := hx.hi
              omega
            have hlt : ∀ p, p < d + n → f p < ms := fun p hp => by
              rcases hB with h0 | h0
              · have := hz h0
                omega
              · by_cases e : p + 1 < d + n
                · exact Int.lt_trans (HW.out.up p e) h0
                · rw [show p = d + n - 1 by omega]; exact h0
            refine ⟨S', d, n + 1, _, ⟨CK'.out, fun p hp => ?_, fun p hp => ?_, by have := HW.out.nN; omega, fun p hp => ?_⟩, by omega, ?_, fun c hc => ?_⟩
            · by_cases e : p = d + n
              · simp only [if_pos e]; exact Int.le_refl _
              · simp only [if_neg e]; exact Int.le_of_lt (hlt p (by omega))
            · simp only [if_neg (show ¬ p = d + n by omega), show d + (n + 1) - 1 = d + n by omega, if_true]
              exact hlt p (by omega)
            · by_cases e : p = d + n
              · simp only [if_pos e]; exact HMS.out
              · simp only [if_neg e]; exact HW.out.ps p (by omega)
            · exact ((FP.calm KW.out).mono (fun _ _ _ h => h.elim)).trans FP'.out
            · rcases MV'.out c hc with h | h
              · exact .inl h
              · exact .inr (Nat.le_trans KW.out.size h)
        | false =>
          have hB := of_decide_eq_false HB.out
          have hn0 : 0 < n := by omega
          have hlast : f (d + n - 1) = ms := by
            have h1 := HW.out.le (d + n - 1) (by omega)
            have h2 := HT.out
            omega
          have SA := hid (rsearch_any ms S b o d n f wc HW.out.ck hn0)
          have HL := hid hlast
          have H0 := hid hn0
          clear hB hn0 hlast
          go_upto_region 5 with (go_at_call 67; refine SA.out.mono ?_; rintro e W2 ⟨i, fd, rfl, h1, h2, h3, h4⟩; have HFD := hid (h3 (fun p hp => by rw [← HL.out]; exact HW.out.up p hp) HL.out); have HI := hid h2; have K2 := hid h4; clear h1 h2 h3 h4 SA)
          obtain rfl := HFD.out
          have hi : i < n := HI.out rfl
          obtain ⟨sv, m, Cb, co, cc, I, cp, hx⟩ := HW.out.ck
          have hx2 := hx.kept K2.out (fun h => h) (fun _ _ h => h)
          have PT := hid (ptrR_any S b o d n i m Cb co cc f sv I cp W2 hx2 hi)
          obtain ⟨p1, p2⟩ := hx2.place hi
          obtain ⟨_, x0, hx0⟩ := hx2.val (d + i) (by omega)
          have fz := (hx2.it _ p1 ((d + i) % 256 * 2 + 1) (by have := hx2.cpl _ p1; omega)).2
          have SF := hid (hx2.setF hi v)
          have OI := hid (hx2.oi _ p1)
          obtain ⟨Ik, hIk⟩ : ∃ Ik, I ((d + i) / 256) = Ik := ⟨_, rfl⟩
          obtain ⟨r, hr⟩ : ∃ r, (d + i) % 256 = r := ⟨_, rfl⟩
          rw [hIk, hr] at PT hx0 fz SF
          rw [hIk] at OI
          clear hx hx2 p1 p2 hIk hr HI HFD
          go_wp2_with (first | (go_at_call 68; refine PT.out.mono ?_; rintro e W3 ⟨rfl, rfl⟩) | ((with_reducible (show wpList _ _ _ (⟨_, .store 24 _ _, _, _, _, _⟩ :: _) _ _)); refine wpList_store_as rfl 24 _ _ rfl rfl Ik (r * 2 + 1) (.float .f64 v) rfl rfl (store24 _ _ _ _ (by rw [hx0]; rfl) fz) ?_))
          go_meet
          case rel =>
            have g := FP.set (w := W3) Ik (r * 2 + 1) (.float .f64 v)
            exact ⟨S, d, n, f, ⟨⟨_, _, _, _, _, _, _, SF.out⟩, fun p hp => Int.le_trans (HW.out.le p hp) HT.out, HW.out.up, by have := HW.out.nN; omega, HW.out.ps⟩, H0.out, (((FP.calm KW.out).mono (fun _ _ _ h => h.elim)).trans ((FP.calm K2.out).mono (fun _ _ _ h => h.elim))).trans (g.mono (fun c j _ h => .inl (by rw [h.1]; exact OI.out))), fun c hc => .inl hc⟩
      case rest =>
        obtain ⟨S1, d1, n1, f1, q1, hn1, fp1, mv1⟩ := hcut
        obtain ⟨n0, rfl⟩ : ∃ n0, n1 = n0 + 1 := ⟨n1 - 1, by omega⟩
        obtain ⟨y, hy⟩ : ∃ y, f1 (d1 + 0) = y := ⟨_, rfl⟩
        have AT := hid (show Calls Ybaz.prog 46 #[.pointer (some ⟨b, o, none⟩), vi 0] wc (fun e w' => ∃ x, e = .returned (.agg #[ii y, .float .f64 x]) ∧ Kept (fun _ => False) wc w') from by rw [← hy]; exact atR_any S1 b o d1 (n0 + 1) 0 f1 wc q1.ck (by omega))
        clear hy
        have HQ1 := hid q1
        have F1 := hid fp1
        have M1 := hid mv1
        clear HW KW HB q1 fp1 mv1
        by_cases hol : y < oldest
        · go_upto_region 9 with (first | (go_at_call 46; refine AT.out.mono ?_; rintro e W2 ⟨x, rfl, k2⟩; have K2 := hid k2; clear k2 AT) | ((with_reducible (show wpList _ _ _ (⟨_, .field 46 _ _, _, _, _, _⟩ :: _) _ _)); refine wpList_as (ii y) (by kernel_rfl) (run_opfield (fld46 _ _ _)) ?_; simp only [Act.put, List.setIfInBounds_toArray, List.set_cons_succ, List.set_cons_zero]))
          clear hol
          have HQ2 := hid (HQ1.out.kept K2.out (fun h => h) (fun _ _ h => h))
          have SA := hid (rsearch_any oldest S1 b o d1 (n0 + 1) f1 W2 HQ2.out.ck (by omega))
          go_upto_region 10 with (go_at_call 67; refine SA.out.mono ?_; rintro e W3 ⟨i, fd, rfl, h1, h2, h3, h4⟩; have HI := hid h1; have K3 := hid h4; clear h1 h2 h3 h4 SA)
          have HQ3 := hid (HQ2.out.kept K3.out (fun h => h) (fun _ _ h => h))
          have DA := hid (dropR_any S1 b o d1 (n0 + 1) i f1 W3 HQ3.out.ck (by have := HI.out; have := HQ3.out.nN; have := HN.out; omega))
          go_wp2_with (go_at_call 70; refine DA.out.mono ?_; rintro e W4 ⟨rfl, dp⟩; have DP := hid dp; clear dp DA)
          go_end0
          refine ⟨rfl, ?_⟩
          obtain ⟨d2, n2, e2, ck2, hc2, fp2⟩ := DP.out
          have hq := HQ3.out
          refine ⟨S1, ⟨d2, n2, _, ck2, fun p hp => ?_, fun p hp => ?_, ?_, fun p hp => ?_⟩, ?_, fun c hc => M1.out c hc⟩
          · rcases hc2 with ⟨h1, h2⟩ | ⟨h1, h2⟩
            · omega
            · exact hq.le _ (by omega)
          · rcases hc2 with ⟨h1, h2⟩ | ⟨h1, h2⟩
            · omega
            · have := hq.up (p + 256 * e2) (by omega)
              rw [show d1 + (n0 + 1) - 1 = d2 + n2 - 1 + 256 * e2 by omega] at this
              exact this
          · have := hq.nN
            omega
          · rcases hc2 with ⟨h1, h2⟩ | ⟨h1, h2⟩
            · omega
            · exact hq.ps _ (by omega)
          · refine (F1.out.trans (((FP.calm K2.out).mono (fun _ _ _ h => h.elim)).trans ((FP.calm K3.out).mono (fun _ _ _ h => h.elim)))).thn fp2 (fun c j hc h => ?_)
            rcases h with h | h
            · rcases M1.out c h with h | h
              · exact .inl h
              · omega
            · exact .inr h
        · go_wp2_with (first | (go_at_call 46; refine AT.out.mono ?_; rintro e W2 ⟨x, rfl, k2⟩; have K2 := hid k2; clear k2 AT) | ((with_reducible (show wpList _ _ _ (⟨_, .field 46 _ _, _, _, _, _⟩ :: _) _ _)); refine wpList_as (ii y) (by kernel_rfl) (run_opfield (fld46 _ _ _)) ?_; simp only [Act.put, List.setIfInBounds_toArray, List.set_cons_succ, List.set_cons_zero]))
          go_end0
          exact ⟨rfl, S1, ⟨d1, n0 + 1, f1, HQ1.out.kept K2.out (fun h => h) (fun _ _ h => h)⟩, F1.out.trans ((FP.calm K2.out).mono (fun _ _ _ h => h.elim)), fun c hc => M1.out c hc⟩
end Go.Proofs.YbulkdsjeGreatDoor
