/-
  THE ROW OF LawS5965AWhole; the walk is YbulkdsmyLawF.
-/
import Derived.Test.YbulkdsmyRows
import Derived.Test.YbulkdsmyLawF
import Derived.Test.YbulkdsmyLawL
import Derived.WalkKit
import Derived.ProofKit
import Derived.OpenShut
import Derived.ShutString
import Derived.ChangeOld
import Derived.Below
import Derived.HandedShaped
import Derived.SizedLaws
namespace Go.Proofs.Ybulkdsmy.lawS5965AWhole
open Go.ChangeShapes Go.WideShapes Go.ChangeAt Go.RowKit
set_option linter.unusedVariables false

theorem own : ownKnob Yba.prog.godebug = none := by kernel_rfl
theorem laidOut : laidOutB Yba.prog = true := by kernel_rfl
theorem bytes23 : Yba.prog.bytesOf 23 = 24 := by kernel_rfl
theorem bytes36 : Yba.prog.bytesOf 36 = 16 := by kernel_rfl

theorem walk (a1 a2 a3 : Option Addr) (c1 c2 c3 n1 n2 n3 : Nat) (PL OL : List Pr) (Q : List Sl) (se pr su tp ts : Pr) (pg : Bool) (md : Int) (w : World) (hn1 : n1 = PL.length) (hn2 : n2 = OL.length) (hn3 : n3 = Q.length) (hmd : 0 ≤ md ∧ md ≤ 255) (hc1 : a1 = none → n1 = 0 ∧ c1 = 0)
    (b1 : n1 ≤ 140737488351232) (b2 : n2 ≤ 140737488351232) (b3 : n3 ≤ 140737488351232) (pl : RawP w a1 PL) (ol : RawP w a2 OL) (q : RawS w a3 Q) (okse : se.ok) (okpr : pr.ok) (oksu : su.ok) (oktp : tp.ok) (okts : ts.ok) (okPL : ∀ p ∈ PL, p.ok) (okQ : ∀ s ∈ Q, (0 ≤ s.b ∧ s.b ≤ 255) ∧ (Lit.int .i64 s.n).wf = true) :
    Calls Yba.prog 3 #[.agg (rwc se).toArray, .agg (rwc pr).toArray, .agg (rwc su).toArray, .bool pg, .slice a1 n1 c1, .slice a2 n2 c2, .slice a3 n3 c3, .int .u8 md, .agg (rwc tp).toArray, .agg (rwc ts).toArray] w fun e w' => e = .returned (.bool true) ∧ Below w.heap.size w w' := by
  by_cases hl : 4096 < n1 + n2 + n3
  · exact law_long a1 a2 a3 c1 c2 c3 n1 n2 n3 se pr su tp ts pg md w b1 b2 b3 hl
  · exact law_any a1 a2 a3 c1 c2 c3 n1 n2 n3 PL OL Q se pr su tp ts pg md w hn1 hn2 hn3 hmd hc1 ⟨pl, ol, q, okse, okpr, oksu, oktp, okts, okPL, okQ, by omega⟩

set_option maxRecDepth 100000 in
theorem lifted (os : Os) (started : os.Started) (H : Type) (enc : TypeId × Value → H) :
    ReturnsInHanded {} Yba.checked os 3 .any (Rows.lawS5965AWholeSpec.pre6 enc Yba.prog Yba.f3 Rows.lawS5965AWholeRow.domain false) (Rows.lawS5965AWholeSpec.post enc Yba.prog Yba.f3 false true false false) := by
  refine returnsInHanded_of_change_shaped (C := Yba.checked) own started (by kernel_rfl) Yba.func3
    (ChangeSpec.witness6 (enc := enc) (C := Yba.checked) false ⟨#[], #[.agg #[.string ⟨#[]⟩, .int .u8 0], .agg #[.string ⟨#[]⟩, .int .u8 0], .agg #[.string ⟨#[]⟩, .int .u8 0], .bool false, .slice none 0 0, .slice none 0 0, .slice none 0 0, .int .u8 0, .agg #[.string ⟨#[]⟩, .int .u8 0], .agg #[.string ⟨#[]⟩, .int .u8 0]], []⟩ 8 (by kernel_rfl) (by kernel_rfl) (by kernel_rfl) (by kernel_rfl)) ?_
  intro W base args ds gs before hval0 hW hcnd hsz0 _ _
  have hval : ∀ (j : Nat) t v, Yba.f3.params[j]? = some t → args[j]? = some v → Value.okWide Yba.prog W .any base t v := hval0
  have hW' := hW
  obtain ⟨p, q, hA0, hV, rfl, hfz, hnd⟩ := hW
  have hA : DataW.TrodAll enc Yba.prog W 0 (fun _ => true) true Yba.f3.params.toList args.toList ds p := hA0
  have hsz : (DataW.weightsEach Yba.prog (Yba.f3.params.toList ++ Rows.lawS5965AWholeSpec.plain.varTypes Yba.prog) (ds ++ gs)).all (· ≤ reachBytes) = true := hsz0
  rw [Yba.params3] at hA hval hsz
  obtain ⟨v0, vs0, d0, ds0, p0, q0, hargs, rfl, rfl, h0, r0⟩ := trodAll_cons hA
  obtain ⟨v1, vs1, d1, ds1, p1, q1, rfl, rfl, rfl, h1, r1⟩ := trodAll_cons r0
  obtain ⟨v2, vs2, d2, ds2, p2, q2, rfl, rfl, rfl, h2, r2⟩ := trodAll_cons r1
  obtain ⟨v3, vs3, d3, ds3, p3, q3, rfl, rfl, rfl, h3, r3⟩ := trodAll_cons r2
  obtain ⟨v4, vs4, d4, ds4, p4, q4, rfl, rfl, rfl, h4, r4⟩ := trodAll_cons r3
  obtain ⟨v5, vs5, d5, ds5, p5, q5, rfl, rfl, rfl, h5, r5⟩ := trodAll_cons r4
  obtain ⟨v6, vs6, d6, ds6, p6, q6, rfl, rfl, rfl, h6, r6⟩ := trodAll_cons r5
  obtain ⟨v7, vs7, d7, ds7, p7, q7, rfl, rfl, rfl, h7, r7⟩ := trodAll_cons r6
  obtain ⟨v8, vs8, d8, ds8, p8, q8, rfl, rfl, rfl, h8, r8⟩ := trodAll_cons r7
  obtain ⟨v9, vs9, d9, ds9, p9, q9, rfl, rfl, rfl, h9, r9⟩ := trodAll_cons r8
  obtain ⟨rfl, rfl, rfl⟩ := trodAll_nil r9
  obtain rfl : args = #[v0, v1, v2, v3, v4, v5, v6, v7, v8, v9] := by cases args; simp_all
  obtain ⟨rfl, rfl⟩ := trodVars_none hV
  have lt0 : ∀ x ∈ p0, x.block < W.heap.size := by obtain ⟨m, hm⟩ := h0; exact DataW.trod_lt m _ _ _ hm
  have lt1 : ∀ x ∈ p1, x.block < W.heap.size := by obtain ⟨m, hm⟩ := h1; exact DataW.trod_lt m _ _ _ hm
  have lt2 : ∀ x ∈ p2, x.block < W.heap.size := by obtain ⟨m, hm⟩ := h2; exact DataW.trod_lt m _ _ _ hm
  have lt3 : ∀ x ∈ p3, x.block < W.heap.size := by obtain ⟨m, hm⟩ := h3; exact DataW.trod_lt m _ _ _ hm
  have lt4 : ∀ x ∈ p4, x.block < W.heap.size := by obtain ⟨m, hm⟩ := h4; exact DataW.trod_lt m _ _ _ hm
  have lt5 : ∀ x ∈ p5, x.block < W.heap.size := by obtain ⟨m, hm⟩ := h5; exact DataW.trod_lt m _ _ _ hm
  have lt6 : ∀ x ∈ p6, x.block < W.heap.size := by obtain ⟨m, hm⟩ := h6; exact DataW.trod_lt m _ _ _ hm
  have lt7 : ∀ x ∈ p7, x.block < W.heap.size := by obtain ⟨m, hm⟩ := h7; exact DataW.trod_lt m _ _ _ hm
  have lt8 : ∀ x ∈ p8, x.block < W.heap.size := by obtain ⟨m, hm⟩ := h8; exact DataW.trod_lt m _ _ _ hm
  have lt9 : ∀ x ∈ p9, x.block < W.heap.size := by obtain ⟨m, hm⟩ := h9; exact DataW.trod_lt m _ _ _ hm
  have k0 := h0
  have k1 := h1
  have k2 := h2
  have k3 := h3
  have k4 := h4
  have k5 := h5
  have k6 := h6
  have k7 := h7
  have k8 := h8
  have k9 := h9
  obtain ⟨se, rfl, okse⟩ := open_peer (hval 0 23 v0 rfl rfl) h0
  obtain ⟨pr, rfl, okpr⟩ := open_peer (hval 1 23 v1 rfl rfl) h1
  obtain ⟨su, rfl, oksu⟩ := open_peer (hval 2 23 v2 rfl rfl) h2
  obtain ⟨pg, rfl, _, _⟩ := open_bool Yba.underlying4 (hval 3 4 v3 rfl rfl) h3
  obtain ⟨a1, n1, c1, rfl⟩ := okWide_slice Yba.underlying24 (hval 4 24 v4 rfl rfl)
  obtain ⟨a2, n2, c2, rfl⟩ := okWide_slice Yba.underlying24 (hval 5 24 v5 rfl rfl)
  obtain ⟨a3, n3, c3, rfl⟩ := okWide_slice Yba.underlying25 (hval 6 25 v6 rfl rfl)
  obtain ⟨md, rfl, _, _, wmd⟩ := open_int Yba.underlying5 (hval 7 5 v7 rfl rfl) h7
  obtain ⟨tp, rfl, oktp⟩ := open_peer (hval 8 23 v8 rfl rfl) h8
  obtain ⟨ts, rfl, okts⟩ := open_peer (hval 9 23 v9 rfl rfl) h9
  obtain ⟨PL, hn1, pl, okPL, hc1, w1⟩ := open_peers h4
  obtain ⟨OL, hn2, ol, _, _, w2⟩ := open_peers h5
  obtain ⟨Q, hn3, qq, okQ, w3⟩ := open_quiet h6
  have b1 : n1 ≤ 140737488351232 := by
    rcases w1 with ⟨e, _⟩ | ⟨el, sp, e, hl⟩
    · omega
    · have := sized_slice hsz (j := 4) (t := 24) (e := 23) rfl (by rw [e]; rfl) Yba.underlying24
      rw [bytes23] at this
      unfold reachBytes at this
      omega
  have b2 : n2 ≤ 140737488351232 := by
    rcases w2 with ⟨e, _⟩ | ⟨el, sp, e, hl⟩
    · omega
    · have := sized_slice hsz (j := 5) (t := 24) (e := 23) rfl (by rw [e]; rfl) Yba.underlying24
      rw [bytes23] at this
      unfold reachBytes at this
      omega
  have b3 : n3 ≤ 140737488351232 := by
    rcases w3 with ⟨e, _⟩ | ⟨el, sp, e, hl⟩
    · omega
    · have := sized_slice hsz (j := 6) (t := 25) (e := 36) rfl (by rw [e]; rfl) Yba.underlying25
      rw [bytes36] at this
      unfold reachBytes at this
      omega
  have bmd := bounds_u8 wmd
  clear hA0 hval0 hsz0
  refine (walk a1 a2 a3 c1 c2 c3 n1 n2 n3 PL OL Q se pr su tp ts pg md W hn1 hn2 hn3 ⟨bmd.1, by have := bmd.2; omega⟩ hc1 b1 b2 b3 pl ol qq okse okpr oksu oktp okts okPL okQ).mono fun e W' ⟨he, bel⟩ => ?_
  subst he
  exact ⟨_, rfl, _, _, _, [], _, [], hW', trodAll_mk1 (shut_bool Yba.underlying4 _), (trodAll_cons_mk (Below.trod laidOut (by kernel_rfl) (of_decide_eq_true (by kernel_rfl)) k0 bel lt0) (trodAll_cons_mk (Below.trod laidOut (by kernel_rfl) (of_decide_eq_true (by kernel_rfl)) k1 bel lt1) (trodAll_cons_mk (Below.trod laidOut (by kernel_rfl) (of_decide_eq_true (by kernel_rfl)) k2 bel lt2) (trodAll_cons_mk (Below.trod laidOut (by kernel_rfl) (of_decide_eq_true (by kernel_rfl)) k3 bel lt3) (trodAll_cons_mk (Below.trod laidOut (by kernel_rfl) (of_decide_eq_true (by kernel_rfl)) k4 bel lt4) (trodAll_cons_mk (Below.trod laidOut (by kernel_rfl) (of_decide_eq_true (by kernel_rfl)) k5 bel lt5) (trodAll_cons_mk (Below.trod laidOut (by kernel_rfl) (of_decide_eq_true (by kernel_rfl)) k6 bel lt6) (trodAll_cons_mk (Below.trod laidOut (by kernel_rfl) (of_decide_eq_true (by kernel_rfl)) k7 bel lt7) (trodAll_cons_mk (Below.trod laidOut (by kernel_rfl) (of_decide_eq_true (by kernel_rfl)) k8 bel lt8) (trodAll_cons_mk (Below.trod laidOut (by kernel_rfl) (of_decide_eq_true (by kernel_rfl)) k9 bel lt9) (trodAll_mk0))))))))))), rfl, bel.frame _, fun h => by cases h⟩

theorem over : Rows.lawS5965AWholeRow.holds Yba.pinned (OpenSpec.ofChange Rows.lawS5965AWholeSpec) :=
  OpenClaim.holds_of_wide 3 Yba.f3 rfl rfl rfl rfl rfl rfl rfl ⟨rfl, rfl, rfl, rfl, rfl⟩ rfl rfl rfl rfl rfl (by kernel_rfl) Yba.func3 (by kernel_rfl)
    (of_decide_eq_true (by kernel_rfl)) (by unfold Func.isWrapper; first | (rw [if_pos (by decide +kernel)]; kernel_rfl) | (rw [if_neg (by decide +kernel)]; exact ⟨rfl, rfl⟩))
    (fun os started H enc _ => lifted os started H enc)

/-- ████ THE STATEMENT ████ -/
theorem proved : Rows.LawS5965AWholeSaid := over
#print axioms proved
end Go.Proofs.Ybulkdsmy.lawS5965AWhole
