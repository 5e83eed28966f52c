import Derived.Test.YbulkdsicGreatEvery4
import Derived.Test.YbulkdsicGreatBest4
import Derived.Test.YbulkdsicGreatKeep2
import Derived.Test.YbulkdsicGreatFlat
set_option linter.unusedVariables false
set_option linter.unusedSimpArgs false
namespace Go.Proofs.YbulkdsicGreat
open Go.RowKit Go.Shelf

/-- The blocks of 'tree' lie apart. -/
structure SD (w : World) (l : TBl) (R B bm bf nb fl base : Nat) : Prop where
  l_R : w.heap.size ≤ R
  h_R : R < fl
  l_T : w.heap.size ≤ l.T
  h_T : l.T < fl
  l_bn : w.heap.size ≤ l.bn
  h_bn : l.bn < fl
  l_bt : w.heap.size ≤ l.bt
  h_bt : l.bt < fl
  l_ba : w.heap.size ≤ l.ba
  h_ba : l.ba < fl
  l_bl : w.heap.size ≤ l.bl
  h_bl : l.bl < fl
  l_mb : w.heap.size ≤ l.mb
  h_mb : l.mb < fl
  l_B : w.heap.size ≤ B
  h_B : B < fl
  l_bm : w.heap.size ≤ bm
  h_bm : bm < fl
  l_bf : w.heap.size ≤ bf
  h_bf : bf < fl
  n_R_T : R ≠ l.T
  n_R_bn : R ≠ l.bn
  n_R_bt : R ≠ l.bt
  n_R_ba : R ≠ l.ba
  n_R_bl : R ≠ l.bl
  n_R_mb : R ≠ l.mb
  n_R_B : R ≠ B
  n_R_bm : R ≠ bm
  n_R_bf : R ≠ bf
  n_T_R : l.T ≠ R
  n_T_bn : l.T ≠ l.bn
  n_T_bt : l.T ≠ l.bt
  n_T_ba : l.T ≠ l.ba
  n_T_bl : l.T ≠ l.bl
  n_T_mb : l.T ≠ l.mb
  n_T_B : l.T ≠ B
  n_T_bm : l.T ≠ bm
  n_T_bf : l.T ≠ bf
  n_bn_R : l.bn ≠ R
  n_bn_T : l.bn ≠ l.T
  n_bn_bt : l.bn ≠ l.bt
  n_bn_ba : l.bn ≠ l.ba
  n_bn_bl : l.bn ≠ l.bl
  n_bn_mb : l.bn ≠ l.mb
  n_bn_B : l.bn ≠ B
  n_bn_bm : l.bn ≠ bm
  n_bn_bf : l.bn ≠ bf
  n_bt_R : l.bt ≠ R
  n_bt_T : l.bt ≠ l.T
  n_bt_bn : l.bt ≠ l.bn
  n_bt_ba : l.bt ≠ l.ba
  n_bt_bl : l.bt ≠ l.bl
  n_bt_mb : l.bt ≠ l.mb
  n_bt_B : l.bt ≠ B
  n_bt_bm : l.bt ≠ bm
  n_bt_bf : l.bt ≠ bf
  n_ba_R : l.ba ≠ R
  n_ba_T : l.ba ≠ l.T
  n_ba_bn : l.ba ≠ l.bn
  n_ba_bt : l.ba ≠ l.bt
  n_ba_bl : l.ba ≠ l.bl
  n_ba_mb : l.ba ≠ l.mb
  n_ba_B : l.ba ≠ B
  n_ba_bm : l.ba ≠ bm
  n_ba_bf : l.ba ≠ bf
  n_bl_R : l.bl ≠ R
  n_bl_T : l.bl ≠ l.T
  n_bl_bn : l.bl ≠ l.bn
  n_bl_bt : l.bl ≠ l.bt
  n_bl_ba : l.bl ≠ l.ba
  n_bl_mb : l.bl ≠ l.mb
  n_bl_B : l.bl ≠ B
  n_bl_bm : l.bl ≠ bm
  n_bl_bf : l.bl ≠ bf
  n_mb_R : l.mb ≠ R
  n_mb_T : l.mb ≠ l.T
  n_mb_bn : l.mb ≠ l.bn
  n_mb_bt : l.mb ≠ l.bt
  n_mb_ba : l.mb ≠ l.ba
  n_mb_bl : l.mb ≠ l.bl
  n_mb_B : l.mb ≠ B
  n_mb_bm : l.mb ≠ bm
  n_mb_bf : l.mb ≠ bf
  n_B_R : B ≠ R
  n_B_T : B ≠ l.T
  n_B_bn : B ≠ l.bn
  n_B_bt : B ≠ l.bt
  n_B_ba : B ≠ l.ba
  n_B_bl : B ≠ l.bl
  n_B_mb : B ≠ l.mb
  n_B_bm : B ≠ bm
  n_B_bf : B ≠ bf
  n_bm_R : bm ≠ R
  n_bm_T : bm ≠ l.T
  n_bm_bn : bm ≠ l.bn
  n_bm_bt : bm ≠ l.bt
  n_bm_ba : bm ≠ l.ba
  n_bm_bl : bm ≠ l.bl
  n_bm_mb : bm ≠ l.mb
  n_bm_B : bm ≠ B
  n_bm_bf : bm ≠ bf
  n_bf_R : bf ≠ R
  n_bf_T : bf ≠ l.T
  n_bf_bn : bf ≠ l.bn
  n_bf_bt : bf ≠ l.bt
  n_bf_ba : bf ≠ l.ba
  n_bf_bl : bf ≠ l.bl
  n_bf_mb : bf ≠ l.mb
  n_bf_B : bf ≠ B
  n_bf_bm : bf ≠ bm
  nb1 : fl ≤ nb
  nb2 : nb < base
theorem SD.make {w : World} {l : TBl} {R B bm bf nb fl base : Nat} (lo : ∀ b ∈ [R, l.T, l.bn, l.bt, l.ba, l.bl, l.mb, B, bm, bf], w.heap.size ≤ b ∧ b < fl) (nd : [R, l.T, l.bn, l.bt, l.ba, l.bl, l.mb, B, bm, bf].Nodup) (nb1 : fl ≤ nb) (nb2 : nb < base) : SD w l R B bm bf nb fl base := by
  simp only [List.nodup_cons, List.mem_cons, List.not_mem_nil, or_false, not_or, List.nodup_nil, and_true, not_false_eq_true] at nd
  obtain ⟨⟨q0_1, q0_2, q0_3, q0_4, q0_5, q0_6, q0_7, q0_8, q0_9⟩, ⟨q1_2, q1_3, q1_4, q1_5, q1_6, q1_7, q1_8, q1_9⟩, ⟨q2_3, q2_4, q2_5, q2_6, q2_7, q2_8, q2_9⟩, ⟨q3_4, q3_5, q3_6, q3_7, q3_8, q3_9⟩, ⟨q4_5, q4_6, q4_7, q4_8, q4_9⟩, ⟨q5_6, q5_7, q5_8, q5_9⟩, ⟨q6_7, q6_8, q6_9⟩, ⟨q7_8, q7_9⟩, q8_9⟩ := nd
  exact ⟨(lo _ (by simp)).1, (lo _ (by simp)).2, (lo _ (by simp)).1, (lo _ (by simp)).2, (lo _ (by simp)).1, (lo _ (by simp)).2, (lo _ (by simp)).1, (lo _ (by simp)).2, (lo _ (by simp)).1, (lo _ (by simp)).2, (lo _ (by simp)).1, (lo _ (by simp)).2, (lo _ (by simp)).1, (lo _ (by simp)).2, (lo _ (by simp)).1, (lo _ (by simp)).2, (lo _ (by simp)).1, (lo _ (by simp)).2, (lo _ (by simp)).1, (lo _ (by simp)).2, q0_1, q0_2, q0_3, q0_4, q0_5, q0_6, q0_7, q0_8, q0_9, Ne.symm q0_1, q1_2, q1_3, q1_4, q1_5, q1_6, q1_7, q1_8, q1_9, Ne.symm q0_2, Ne.symm q1_2, q2_3, q2_4, q2_5, q2_6, q2_7, q2_8, q2_9, Ne.symm q0_3, Ne.symm q1_3, Ne.symm q2_3, q3_4, q3_5, q3_6, q3_7, q3_8, q3_9, Ne.symm q0_4, Ne.symm q1_4, Ne.symm q2_4, Ne.symm q3_4, q4_5, q4_6, q4_7, q4_8, q4_9, Ne.symm q0_5, Ne.symm q1_5, Ne.symm q2_5, Ne.symm q3_5, Ne.symm q4_5, q5_6, q5_7, q5_8, q5_9, Ne.symm q0_6, Ne.symm q1_6, Ne.symm q2_6, Ne.symm q3_6, Ne.symm q4_6, Ne.symm q5_6, q6_7, q6_8, q6_9, Ne.symm q0_7, Ne.symm q1_7, Ne.symm q2_7, Ne.symm q3_7, Ne.symm q4_7, Ne.symm q5_7, Ne.symm q6_7, q7_8, q7_9, Ne.symm q0_8, Ne.symm q1_8, Ne.symm q2_8, Ne.symm q3_8, Ne.symm q4_8, Ne.symm q5_8, Ne.symm q6_8, Ne.symm q7_8, q8_9, Ne.symm q0_9, Ne.symm q1_9, Ne.symm q2_9, Ne.symm q3_9, Ne.symm q4_9, Ne.symm q5_9, Ne.symm q6_9, Ne.symm q7_9, Ne.symm q8_9, nb1, nb2⟩

/-- The rows of the needs, as the walk reads them. -/
structure NdB (U : World) (fl base nb n : Nat) (f : Nat → Value) (pr : Nat → Option Nat) : Prop where
  tab : Tab U nb 0 n f
  nn : ∀ k, k < n → pr k = none → f k = .slice none 0 0
  ss : ∀ k j, k < n → pr k = some j → ∃ rb c qb d, f k = sl rb 0 1 c ∧ fl ≤ rb ∧ rb < base ∧ U.cell? ⟨rb, 0, none⟩ = some (sl qb 0 1 d) ∧ fl ≤ qb ∧ qb < base ∧ U.cell? ⟨qb, 0, none⟩ = some (vi j)
theorem NdB.kept {E : Nat → Prop} {U U' : World} {fl base nb n : Nat} {f : Nat → Value} {pr : Nat → Option Nat} (h : NdB U fl base nb n f pr) (k : Kept E U U') (hE : ∀ b, fl ≤ b → b < base → ¬ E b) (h1 : fl ≤ nb) (h2 : nb < base) : NdB U' fl base nb n f pr :=
  ⟨h.tab.kept k (hE nb h1 h2), h.nn, fun i j hi hp => by
    obtain ⟨rb, c, qb, d, e, a1, a2, a3, a4, a5, a6⟩ := h.ss i j hi hp
    exact ⟨rb, c, qb, d, e, a1, a2, k.cell (p := ⟨rb, 0, none⟩) (hE rb a1 a2) a3, a4, a5, k.cell (p := ⟨qb, 0, none⟩) (hE qb a4 a5) a6⟩⟩
theorem NdB.make {V : World} {fl T0 nb n : Nat} {f : Nat → Value} {pr : Nat → Option Nat} (tab : Tab V nb 0 n f) (h : NdR V T0 n f pr n) (h1 : fl ≤ nb) (h2 : nb < T0) : NdB V fl V.heap.size nb n f pr :=
  ⟨tab, fun k hk hp => h.nn k hk (.inr hp), fun k j hk hp => by
    obtain ⟨rb, c, qb, d, e, a1, a3, a4, a6⟩ := h.ss k j hk hp
    have b1 : rb < V.heap.size := World.block_lt_of_cell? V _ a3
    have b2 : qb < V.heap.size := World.block_lt_of_cell? V _ a6
    exact ⟨rb, c, qb, d, e, by omega, b1, a3, by omega, b2, a6⟩⟩
theorem own_cap {w : World} {base e n : Nat} {v : Value} {xs : List Value} {sn : Option Addr} {cn : Nat} (h : w.ownsRow base e 1 v n xs) (hv : v = .slice sn n cn) : n ≤ cn := by
  rcases h.2 with ⟨h0, h1⟩ | ⟨g, cap, cur, h0, _, _, hc, _⟩
  · omega
  · rw [h0] at hv; cases hv; exact hc

/-- Loop 2's state: the tables up to r, the needs up to s, their ends up to q. -/
structure TS (w U : World) (l : TBl) (S : Int) (R B bm bf nb fl base : Nat) (nm : Nat → ByteArray) (tm : Nat → Value) (pr : Nat → Option Nat) (f : Nat → Value) (nv : Value) (xs : List Value) (r s q : Nat) : Prop where
  bel : Below w.heap.size w U
  res : U.there R 0 3
  st : U.rangeAt l.T 0 (l.cells S)
  th : U.there l.T 0 6
  nmT : Tab U l.bn 0 l.n (fun k => if k < r then .string (nm k) else .string ⟨#[]⟩)
  tt : Tab U l.bt 0 l.n (fun k => if k < r then tm k else .float .f64 0)
  at' : Tab U l.ba 0 l.n (fun k => if k < r then .int .i64 (-1) else vi 0)
  al : Tab U l.bl 0 l.n (fun _ => .bool false)
  mp : MapS U l.mb []
  b0 : U.rangeAt B 0 [sl bm 0 l.n l.n, nv, sl bf 0 (l.n + 1) (l.n + 1)]
  bth : U.there B 0 3
  bmT : Tab U bm 0 l.n (fun k => if k < r then vi k else vi 0)
  bfT : Tab U bf 0 (l.n + 1) (fun k => if k ≤ q then vi (2 * cnt pr k) else vi 0)
  own : U.ownsRow base 3 1 nv (2 * cnt pr s) xs
  ent : ∀ i j, i < s → pr i = some j → xs[2 * cnt pr i]? = some (vi 1) ∧ xs[2 * cnt pr i + 1]? = some (vi j)
  nd : NdB U fl base nb l.n f pr
  sz : base ≤ U.heap.size

theorem TS.low {w U : World} {l : TBl} {S : Int} {R B bm bf nb fl base : Nat} {nm : Nat → ByteArray} {tm : Nat → Value} {pr : Nat → Option Nat} {f : Nat → Value} {nv : Value} {xs : List Value} {r s q : Nat} {E : Nat → Prop} {U' : World} (sd : SD w l R B bm bf nb fl base) (h : TS w U l S R B bm bf nb fl base nm tm pr f nv xs r s q) (k : Kept E U U') (hE : ∀ b, E b → base ≤ b ∧ nv.ownBlock ≠ some b) : TS w U' l S R B bm bf nb fl base nm tm pr f nv xs r s q := by
  have h1 := sd.nb1
  have h2 := sd.nb2
  have n0 : ∀ z, z < fl → ¬ E z := fun z hz he => by have := (hE z he).1; omega
  have lw := sd.l_R
  have lw2 := sd.h_R
  exact ⟨h.bel.trans (k.toBelow (fun i hi he => by have := (hE i he).1; omega) h.bel.size), k.there (n0 _ sd.h_R) h.res, k.range (n0 _ sd.h_T) h.st, k.there (n0 _ sd.h_T) h.th, h.nmT.kept k (n0 _ sd.h_bn), h.tt.kept k (n0 _ sd.h_bt), h.at'.kept k (n0 _ sd.h_ba), h.al.kept k (n0 _ sd.h_bl), h.mp.kept k (n0 _ sd.h_mb), k.range (n0 _ sd.h_B) h.b0, k.there (n0 _ sd.h_B) h.bth, h.bmT.kept k (n0 _ sd.h_bm), h.bfT.kept k (n0 _ sd.h_bf), own_kept h.own k (fun g hg he => (hE g he).2 hg), h.ent, h.nd.kept k (fun b _ hb he => by have := (hE b he).1; omega) h1 h2, Nat.le_trans h.sz k.size⟩

theorem tab_step {W W' : World} {b n q : Nat} {x y : Nat → Value} (h : Tab W b 0 n (fun k => if k < q then x k else y k)) (hq : q < n) : Tab (W.setCell ⟨b, q, none⟩ (x q)) b 0 n (fun k => if k < q + 1 then x k else y k) := by
  have := h.set hq (x q)
  rw [Nat.zero_add] at this
  refine this.ext fun k hk => ?_
  by_cases e : k = q
  · subst e; simp
  · have : (k < q + 1) = (k < q) := by simp; omega
    simp [e, this]
theorem tab_step' {W W' : World} {b n q : Nat} {x y : Nat → Value} (h : Tab W b 0 n (fun k => if k ≤ q then x k else y k)) (hq : q + 1 < n) : Tab (W.setCell ⟨b, q + 1, none⟩ (x (q + 1))) b 0 n (fun k => if k ≤ q + 1 then x k else y k) := by
  have := h.set hq (x (q + 1))
  rw [Nat.zero_add] at this
  refine this.ext fun k hk => ?_
  by_cases e : k = q + 1
  · subst e; simp
  · have : (k ≤ q + 1) = (k ≤ q) := by simp; omega
    simp [e, this]
theorem range3_1 {V : World} {kb : Nat} {a b c : Value} (h : V.rangeAt kb 0 [a, b, c]) (th : V.there kb 0 3) (v : Value) : (V.setCell ⟨kb, 1, none⟩ v).rangeAt kb 0 [a, v, c] := fun j u hu => by
  rw [Nat.zero_add]
  by_cases ej : j = 1
  · subst ej
    simp at hu
    rw [World.cell?_setCell_same' _ _ _ (by have := (th 1 (by omega)).1; simpa using this), hu]
  · rw [World.cell?_setCell_other _ _ _ _ (fun he => ej (by have h0 := congrArg Addr.off he; simp at h0; exact h0.symm))]
    have := h j u (by
      rw [← hu]
      match j with
      | 0 | 2 => rfl
      | j + 3 => simp)
    simpa using this

theorem TS.wrote {w U : World} {l : TBl} {S : Int} {R B bm bf nb fl base : Nat} {nm : Nat → ByteArray} {tm : Nat → Value} {pr : Nat → Option Nat} {f : Nat → Value} {nv : Value} {xs : List Value} {q : Nat} (sd : SD w l R B bm bf nb fl base) (h : TS w U l S R B bm bf nb fl base nm tm pr f nv xs q q q) (hq : q < l.n) : TS w ((((U.setCell ⟨l.bn, q, none⟩ (.string (nm q))).setCell ⟨l.bt, q, none⟩ (tm q)).setCell ⟨l.ba, q, none⟩ (.int .i64 (-1))).setCell ⟨bm, q, none⟩ (vi q)) l S R B bm bf nb fl base nm tm pr f nv xs (q + 1) q q := by
  have h1 := sd.nb1
  have h2 := sd.nb2
  have b1 := sd.h_bn; have b2 := sd.h_bt; have b3 := sd.h_ba; have b4 := sd.h_bm
  have a1 := sd.l_bn; have a2 := sd.l_bt; have a3 := sd.l_ba; have a4 := sd.l_bm
  have k : Kept (fun b => b = l.bn ∨ b = l.bt ∨ b = l.ba ∨ b = bm) U ((((U.setCell ⟨l.bn, q, none⟩ (.string (nm q))).setCell ⟨l.bt, q, none⟩ (tm q)).setCell ⟨l.ba, q, none⟩ (.int .i64 (-1))).setCell ⟨bm, q, none⟩ (vi q)) :=
    ((((Kept.refl _ U).setCell (p := ⟨l.bn, q, none⟩) (.inl (.inl rfl)) _).setCell (p := ⟨l.bt, q, none⟩) (.inl (.inr (.inl rfl))) _).setCell (p := ⟨l.ba, q, none⟩) (.inl (.inr (.inr (.inl rfl)))) _).setCell (p := ⟨bm, q, none⟩) (.inl (.inr (.inr (.inr rfl)))) _
  have hi : ∀ z, fl ≤ z → ¬ (z = l.bn ∨ z = l.bt ∨ z = l.ba ∨ z = bm) := fun z hz he => by rcases he with e | e | e | e <;> omega
  have t1 := (((tab_step (W' := U) h.nmT hq).other ⟨l.bt, q, none⟩ (tm q) (fun e => absurd e sd.n_bt_bn)).other ⟨l.ba, q, none⟩ (.int .i64 (-1)) (fun e => absurd e sd.n_ba_bn)).other ⟨bm, q, none⟩ (vi q) (fun e => absurd e sd.n_bm_bn)
  have t2 := ((tab_step (W' := U) (h.tt.other ⟨l.bn, q, none⟩ (.string (nm q)) (fun e => absurd e sd.n_bn_bt)) hq).other ⟨l.ba, q, none⟩ (.int .i64 (-1)) (fun e => absurd e sd.n_ba_bt)).other ⟨bm, q, none⟩ (vi q) (fun e => absurd e sd.n_bm_bt)
  have t3 := (tab_step (W' := U) (x := fun _ => .int .i64 (-1)) ((h.at'.other ⟨l.bn, q, none⟩ (.string (nm q)) (fun e => absurd e sd.n_bn_ba)).other ⟨l.bt, q, none⟩ (tm q) (fun e => absurd e sd.n_bt_ba)) hq).other ⟨bm, q, none⟩ (vi q) (fun e => absurd e sd.n_bm_ba)
  have t4 := tab_step (W' := U) (x := vi) (((h.bmT.other ⟨l.bn, q, none⟩ (.string (nm q)) (fun e => absurd e sd.n_bn_bm)).other ⟨l.bt, q, none⟩ (tm q) (fun e => absurd e sd.n_bt_bm)).other ⟨l.ba, q, none⟩ (.int .i64 (-1)) (fun e => absurd e sd.n_ba_bm)) hq
  refine ⟨h.bel.trans (k.toBelow (fun i hi he => by rcases he with e | e | e | e <;> omega) h.bel.size), k.there (fun h => h.elim sd.n_R_bn (fun h => h.elim sd.n_R_bt (fun h => h.elim sd.n_R_ba sd.n_R_bm))) h.res, k.range (fun h => h.elim sd.n_T_bn (fun h => h.elim sd.n_T_bt (fun h => h.elim sd.n_T_ba sd.n_T_bm))) h.st, k.there (fun h => h.elim sd.n_T_bn (fun h => h.elim sd.n_T_bt (fun h => h.elim sd.n_T_ba sd.n_T_bm))) h.th, t1, t2, t3, h.al.kept k (fun h => h.elim sd.n_bl_bn (fun h => h.elim sd.n_bl_bt (fun h => h.elim sd.n_bl_ba sd.n_bl_bm))), h.mp.kept k (fun h => h.elim sd.n_mb_bn (fun h => h.elim sd.n_mb_bt (fun h => h.elim sd.n_mb_ba sd.n_mb_bm))), k.range (fun h => h.elim sd.n_B_bn (fun h => h.elim sd.n_B_bt (fun h => h.elim sd.n_B_ba sd.n_B_bm))) h.b0, k.there (fun h => h.elim sd.n_B_bn (fun h => h.elim sd.n_B_bt (fun h => h.elim sd.n_B_ba sd.n_B_bm))) h.bth, t4, h.bfT.kept k (fun h => h.elim sd.n_bf_bn (fun h => h.elim sd.n_bf_bt (fun h => h.elim sd.n_bf_ba sd.n_bf_bm))), own_kept h.own k (fun g hg he => hi g (by have := (own_block h.own hg).1; omega) he), h.ent, h.nd.kept k (fun b hb _ => hi b hb) h1 h2, Nat.le_trans h.sz k.size⟩

theorem TS.kept_none {w U : World} {l : TBl} {S : Int} {R B bm bf nb fl base : Nat} {nm : Nat → ByteArray} {tm : Nat → Value} {pr : Nat → Option Nat} {f : Nat → Value} {nv : Value} {xs : List Value} {q : Nat} (sd : SD w l R B bm bf nb fl base) (h : TS w U l S R B bm bf nb fl base nm tm pr f nv xs (q + 1) q q) (hp : pr q = none) : TS w (U.setCell ⟨B, 1, none⟩ nv) l S R B bm bf nb fl base nm tm pr f nv xs (q + 1) (q + 1) q := by
  have h1 := sd.nb1
  have h2 := sd.nb2
  have b1 := sd.h_B
  have a1 := sd.l_B
  have hc : cnt pr (q + 1) = cnt pr q := by simp [cnt, waits, hp]
  have k : Kept (fun b => b = B) U (U.setCell ⟨B, 1, none⟩ nv) := (Kept.refl (fun b => b = B) U).setCell (p := ⟨B, 1, none⟩) (.inl rfl) _
  have hi : ∀ z, fl ≤ z → z ≠ B := fun z hz e => by omega
  refine ⟨h.bel.trans (k.toBelow (fun i hi he => by omega) h.bel.size), k.there (fun e => sd.n_R_B e) h.res, k.range (fun e => sd.n_T_B e) h.st, k.there (fun e => sd.n_T_B e) h.th, h.nmT.kept k (fun e => sd.n_bn_B e), h.tt.kept k (fun e => sd.n_bt_B e), h.at'.kept k (fun e => sd.n_ba_B e), h.al.kept k (fun e => sd.n_bl_B e), h.mp.kept k (fun e => sd.n_mb_B e), range3_1 h.b0 h.bth _, there_setCell h.bth _ _, h.bmT.kept k (fun e => sd.n_bm_B e), h.bfT.kept k (fun e => sd.n_bf_B e), by rw [hc]; exact own_kept h.own k (fun g hg he => hi g (by have := (own_block h.own hg).1; omega) he), fun i j hi hpi => ?_, h.nd.kept k (fun b hb _ => hi b hb) h1 h2, Nat.le_trans h.sz k.size⟩
  by_cases e : i = q
  · rw [e, hp] at hpi; cases hpi
  · exact h.ent i j (by omega) hpi

theorem TS.kept_one {w U : World} {l : TBl} {S : Int} {R B bm bf nb fl base : Nat} {nm : Nat → ByteArray} {tm : Nat → Value} {pr : Nat → Option Nat} {f : Nat → Value} {nv : Value} {xs : List Value} {q : Nat} {U' : World} {nv' : Value} {p : Nat} (sd : SD w l R B bm bf nb fl base) (h : TS w U l S R B bm bf nb fl base nm tm pr f nv xs (q + 1) q q) (hp : pr q = some p) (k0 : Kept (fun b => b = l.bl ∨ nv.ownBlock = some b) U U') (al : Tab U' l.bl 0 l.n (fun _ => .bool false)) (own : U'.ownsRow base 3 1 nv' (2 * cnt pr q + 2) (xs ++ [vi 1, vi p])) :
    TS w (U'.setCell ⟨B, 1, none⟩ nv') l S R B bm bf nb fl base nm tm pr f nv' (xs ++ [vi 1, vi p]) (q + 1) (q + 1) q := by
  have h1 := sd.nb1
  have h2 := sd.nb2
  have b1 := sd.h_B; have b2 := sd.h_bl
  have a1 := sd.l_B; have a2 := sd.l_bl
  have hc : cnt pr (q + 1) = cnt pr q + 1 := by simp [cnt, waits, hp]
  have nvn : ∀ z, z < fl → nv.ownBlock ≠ some z := fun z hz e => by have := (own_block h.own e).1; omega
  have nvn' : ∀ z, z < base → nv.ownBlock ≠ some z := fun z hz e => by have := (own_block h.own e).1; omega
  have kB : Kept (fun b => b = B) U' (U'.setCell ⟨B, 1, none⟩ nv') := (Kept.refl (fun b => b = B) U').setCell (p := ⟨B, 1, none⟩) (.inl rfl) _
  have k : Kept (fun b => b = l.bl ∨ nv.ownBlock = some b ∨ b = B) U (U'.setCell ⟨B, 1, none⟩ nv') := (k0.weak (fun i _ he => by rcases he with e | e; exact .inl e; exact .inr (.inl e))).setCell (p := ⟨B, 1, none⟩) (.inl (.inr (.inr rfl))) _
  have rB : U'.rangeAt B 0 [sl bm 0 l.n l.n, nv, sl bf 0 (l.n + 1) (l.n + 1)] := k0.range (fun he => by rcases he with e | e; exact sd.n_B_bl e; exact nvn _ sd.h_B e) h.b0
  have tB : U'.there B 0 3 := k0.there (fun he => by rcases he with e | e; exact sd.n_B_bl e; exact nvn _ sd.h_B e) h.bth
  have hlen : xs.length = 2 * cnt pr q := by have := h.own.1; omega
  refine ⟨h.bel.trans (k.toBelow (fun i hi he => by rcases he with e | e | e; omega; exact nvn' i (by have := sd.l_R; have := sd.h_R; omega) e; omega) h.bel.size), k.there (fun h => h.elim sd.n_R_bl (fun h => h.elim (nvn _ sd.h_R) sd.n_R_B)) h.res, k.range (fun h => h.elim sd.n_T_bl (fun h => h.elim (nvn _ sd.h_T) sd.n_T_B)) h.st, k.there (fun h => h.elim sd.n_T_bl (fun h => h.elim (nvn _ sd.h_T) sd.n_T_B)) h.th, h.nmT.kept k (fun h => h.elim sd.n_bn_bl (fun h => h.elim (nvn _ sd.h_bn) sd.n_bn_B)), h.tt.kept k (fun h => h.elim sd.n_bt_bl (fun h => h.elim (nvn _ sd.h_bt) sd.n_bt_B)), h.at'.kept k (fun h => h.elim sd.n_ba_bl (fun h => h.elim (nvn _ sd.h_ba) sd.n_ba_B)), al.kept kB (fun e => sd.n_bl_B e), h.mp.kept k (fun h => h.elim sd.n_mb_bl (fun h => h.elim (nvn _ sd.h_mb) sd.n_mb_B)), range3_1 rB tB _, there_setCell tB _ _, h.bmT.kept k (fun h => h.elim sd.n_bm_bl (fun h => h.elim (nvn _ sd.h_bm) sd.n_bm_B)), h.bfT.kept k (fun h => h.elim sd.n_bf_bl (fun h => h.elim (nvn _ sd.h_bf) sd.n_bf_B)), by rw [hc]; exact own_kept own kB (fun g hg he => by have := (own_block own hg).1; omega), fun i j hi hpi => ?_, h.nd.kept k (fun b hb hb2 he => by rcases he with e | e | e; omega; exact nvn' b hb2 e; omega) h1 h2, Nat.le_trans h.sz k.size⟩
  by_cases e : i = q
  · subst e
    rw [hp] at hpi
    cases hpi
    rw [← hlen]
    simp
  · obtain ⟨e1, e2⟩ := h.ent i j (by omega) hpi
    exact ⟨by rw [List.getElem?_append_left (List.getElem?_eq_some_iff.1 e1).1]; exact e1, by rw [List.getElem?_append_left (List.getElem?_eq_some_iff.1 e2).1]; exact e2⟩

theorem TS.ended {w U : World} {l : TBl} {S : Int} {R B bm bf nb fl base : Nat} {nm : Nat → ByteArray} {tm : Nat → Value} {pr : Nat → Option Nat} {f : Nat → Value} {nv : Value} {xs : List Value} {q : Nat} (sd : SD w l R B bm bf nb fl base) (h : TS w U l S R B bm bf nb fl base nm tm pr f nv xs (q + 1) (q + 1) q) (hq : q < l.n) : TS w (U.setCell ⟨bf, q + 1, none⟩ (vi (2 * cnt pr (q + 1)))) l S R B bm bf nb fl base nm tm pr f nv xs (q + 1) (q + 1) (q + 1) := by
  have h1 := sd.nb1
  have h2 := sd.nb2
  have b1 := sd.h_bf
  have a1 := sd.l_bf
  have k : Kept (fun b => b = bf) U (U.setCell ⟨bf, q + 1, none⟩ (vi (2 * cnt pr (q + 1)))) := (Kept.refl (fun b => b = bf) U).setCell (p := ⟨bf, q + 1, none⟩) (.inl rfl) _
  have hi : ∀ z, fl ≤ z → z ≠ bf := fun z hz e => by omega
  exact ⟨h.bel.trans (k.toBelow (fun i hi he => by omega) h.bel.size), k.there (fun e => sd.n_R_bf e) h.res, k.range (fun e => sd.n_T_bf e) h.st, k.there (fun e => sd.n_T_bf e) h.th, h.nmT.kept k (fun e => sd.n_bn_bf e), h.tt.kept k (fun e => sd.n_bt_bf e), h.at'.kept k (fun e => sd.n_ba_bf e), h.al.kept k (fun e => sd.n_bl_bf e), h.mp.kept k (fun e => sd.n_mb_bf e), k.range (fun e => sd.n_B_bf e) h.b0, k.there (fun e => sd.n_B_bf e) h.bth, h.bmT.kept k (fun e => sd.n_bm_bf e), tab_step' (W' := U) (x := fun k => vi (2 * cnt pr k)) h.bfT (by omega), own_kept h.own k (fun g hg he => hi g (by have := (own_block h.own hg).1; omega) he), h.ent, h.nd.kept k (fun b hb _ => hi b hb) h1 h2, Nat.le_trans h.sz k.size⟩

/-- The whole batch. -/
theorem TS.tb {w U : World} {l : TBl} {S : Int} {R B bm bf nb fl base : Nat} {nm : Nat → ByteArray} {tm : Nat → Value} {pr : Nat → Option Nat} {f : Nat → Value} {nv : Value} {xs : List Value} (sd : SD w l R B bm bf nb fl base) (h : TS w U l S R B bm bf nb fl base nm tm pr f nv xs l.n l.n l.n) (few : l.n ≤ 300) (low : Low l.n pr) (ft : ∀ k, k < l.n → ∃ x, tm k = .float .f64 x) : TB U l nm tm S [] ∧ ∃ sn cn, nv = .slice sn (2 * cnt pr l.n) cn ∧ (∀ a, sn = some a → base ≤ a.block) ∧ Bat U ⟨bm, 0, l.n, bf, 0, l.n + 1, sn, cn⟩ l.n (fun k => k) pr := by
  refine ⟨⟨h.st, h.th, h.nmT.ext (fun k hk => by simp [hk]), h.tt.ext (fun k hk => by simp [hk]), h.at'.ext (fun k hk => by simp [hk]), h.al, h.mp, ft, few, ?_⟩, ?_⟩
  · simp only [List.nodup_cons, List.mem_cons, List.not_mem_nil, or_false, not_or, List.nodup_nil, and_true, not_false_eq_true]
    exact ⟨⟨sd.n_T_bn, sd.n_T_bt, sd.n_T_ba, sd.n_T_bl, sd.n_T_mb⟩, ⟨sd.n_bn_bt, sd.n_bn_ba, sd.n_bn_bl, sd.n_bn_mb⟩, ⟨sd.n_bt_ba, sd.n_bt_bl, sd.n_bt_mb⟩, ⟨sd.n_ba_bl, sd.n_ba_mb⟩, sd.n_bl_mb⟩
  · obtain ⟨sn, cn, e, hsp⟩ := own_form h.own
    have hblk : ∀ a, sn = some a → nv.ownBlock = some a.block := fun a ha => by rw [e, ha]; rfl
    refine ⟨sn, cn, e, fun a ha => (own_block h.own (hblk a ha)).1, few, low, fun i hi => by omega, fun i hi => ?_, fun i hi => ?_, fun i j hi hp => ?_, ?_, fun a ha => ownBlock_lt h.own (hblk a ha), fun a ha => (hsp a ha).2, fun hs => ?_⟩
    · have := h.bmT.cell hi; rw [if_pos hi] at this; exact this
    · have := h.bfT.cell (show i < l.n + 1 by omega); rw [if_pos hi] at this; exact this
    · obtain ⟨e1, e2⟩ := h.ent i j hi hp
      obtain ⟨g, c, ev, c1, _⟩ := own_cell h.own e1
      obtain ⟨g', c', ev', c2, _⟩ := own_cell h.own e2
      rw [ev] at ev' e
      cases ev'
      cases e
      exact ⟨g, 0, rfl, by rw [Nat.zero_add]; exact c1, by rw [Nat.zero_add]; exact c2⟩
    · exact own_cap h.own e
    · rcases h.own.2 with ⟨h0, h1⟩ | ⟨g, cap, cur, h0, _⟩
      · rw [h0] at e; injection e with _ _ e3; exact e3.symm
      · have hs0 : sn = none := hs
        rw [h0, hs0] at e; injection e with e1; cases e1
end Go.Proofs.YbulkdsicGreat
