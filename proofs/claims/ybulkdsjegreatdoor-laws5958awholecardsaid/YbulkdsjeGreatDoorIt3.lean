import Derived.Test.YbulkdsjeGreatDoorIt2
import Derived.Handy
set_option linter.unusedVariables false
set_option linter.unusedSimpArgs false
namespace Go.Proofs.YbulkdsjeGreatDoor
open Go.RowKit

attribute [local go_sem] Oper.semAt_some
/-- Behind a step at whatever time. -/
def StQ (U : World) (SA : Nat → Nat → Prop) (sb ab na : Nat) (st nn fu : Nat → Nat) (hb : Nat) (w' : World) : Prop := ∃ SA' pv' nw' sd', SX w' SA' sb ab na st nn fu hb pv' nw' sd' ∧ SN U SA sb ab na SA' w'

set_option maxRecDepth 100000 in
set_option maxHeartbeats 4000000 in
theorem step_late (t v : Nat) (SA : Nat → Nat → Prop) (sb ab na : Nat) (st nn fu : Nat → Nat) (hb pv nw : Nat) (U : World) (h : SX U SA sb ab na st nn fu hb pv nw true) (ht : t < nw) : Calls Ybaz.prog 40 #[.pointer (some ⟨sb, 0, none⟩), vi t, .float .f64 v] U fun e w' => e = .returned (.tuple #[]) ∧ w' = U := by
  have F1 := hid (finest_any sb ab na U (by have := h.hna; omega) h.c4)
  have c11 := h.c11
  have c9 := h.c9
  have hnt : (t : Int) < (nw : Int) := by omega
  clear h ht
  go_enter Ybaz.func40, Ybaz.ntmps40
  go_wp2_with (first | (go_at_call 71; refine F1.out.mono ?_; rintro e W1 ⟨rfl, rfl⟩))
  refine bodyPost_ret (results_none Ybaz.results40 _ _ _) rfl ?_
  exact ⟨rfl, rfl⟩
theorem step_upto (t v : Nat) (SA : Nat → Nat → Prop) (sb ab na : Nat) (st nn fu : Nat → Nat) (hb pv nw : Nat) (sd : Bool) (U : World) (h : SX U SA sb ab na st nn fu hb pv nw sd) (ht : 1 ≤ t ∧ t ≤ 8000000000) : Calls Ybaz.prog 40 #[.pointer (some ⟨sb, 0, none⟩), vi t, .float .f64 v] U fun e w' => e = .returned (.tuple #[]) ∧ StQ U SA sb ab na st nn fu hb w' := by
  by_cases hle : nw ≤ t
  · refine (step_any t v SA sb ab na st nn fu hb pv nw sd U h ⟨hle, ht.2⟩ ht.1).mono ?_
    rintro e w' ⟨rfl, SA', pv', sx, sn⟩
    exact ⟨rfl, SA', pv', t, true, sx, sn⟩
  · cases sd with
    | true =>
      refine (step_late t v SA sb ab na st nn fu hb pv nw U h (by omega)).mono ?_
      rintro e w' ⟨rfl, rfl⟩
      exact ⟨rfl, SA, pv, nw, true, h, SM.n (SM.refl _ _ _ _)⟩
    | false =>
      refine (step_first t v SA sb ab na st nn fu hb pv nw U h ht).mono ?_
      rintro e w' ⟨rfl, SA', pv', sx, sn⟩
      exact ⟨rfl, SA', pv', t, true, sx, sn⟩
/-- Behind a replay. -/
def RpP (U : World) (SA : Nat → Nat → Prop) (sb ab na : Nat) (st nn fu : Nat → Nat) (hb : Nat) (w' : World) : Prop := ∃ SA' pv' nw' sd', SX w' SA' sb ab na st nn fu hb pv' nw' sd' ∧ SN U SA sb ab na SA' w'
/-- Between two rounds of a replay. -/
def RI (U : World) (SA : Nat → Nat → Prop) (sb ab na : Nat) (st nn fu : Nat → Nat) (hb B2 : Nat) (V : World) : Prop := (∃ SA' pv' nw' sd', SX V SA' sb ab na st nn fu hb pv' nw' sd' ∧ (∀ i c, i < na → SA' i c → isC V c) ∧ SN U SA sb ab na SA' V ∧ (∀ i c, i < na → SA' i c → c ≠ B2 ∧ c ≠ B2 + 1)) ∧ V.cell? ⟨B2, 0, none⟩ = some (.pointer (some ⟨sb, 0, none⟩)) ∧ U.heap.size + 2 ≤ V.heap.size
theorem RI.kept {U V V' : World} {SA : Nat → Nat → Prop} {sb ab na : Nat} {st nn fu : Nat → Nat} {hb B2 : Nat} (h : RI U SA sb ab na st nn fu hb B2 V) {E : Nat → Prop} (k : Kept E V V') (hE : ∀ c, E c → U.heap.size ≤ c ∧ ¬ isC V c) : RI U SA sb ab na st nn fu hb B2 V' := by
  obtain ⟨⟨SA', pv', nw', sd', sx, ic, sn, nb⟩, c2, sz⟩ := h
  have n2 : isC V B2 := ⟨0, by rw [c2]; rfl⟩
  refine ⟨⟨SA', pv', nw', sd', sx.keptE k (fun he => (hE _ he).2 sx.isb) (fun he => (hE _ he).2 sx.isa) (fun i c hi hc he => (hE _ he).2 (ic i c hi hc)), fun i c hi hc => (ic i c hi hc).calm k (fun he => (hE _ he).2 (ic i c hi hc)), ⟨sn.1.keptHi k (fun c he => (hE c he).1), sn.2⟩, nb⟩, k.cell (p := ⟨B2, 0, none⟩) (fun he => (hE _ he).2 n2) c2, Nat.le_trans sz k.size⟩
theorem RI.step {U V V' : World} {SA SA' : Nat → Nat → Prop} {sb ab na : Nat} {st nn fu : Nat → Nat} {hb B2 pv nw : Nat} {sd : Bool} (hB : U.heap.size = B2) (sx : SX V SA' sb ab na st nn fu hb pv nw sd) (sn : SN U SA sb ab na SA' V) (nb : ∀ i c, i < na → SA' i c → c ≠ B2 ∧ c ≠ B2 + 1) (c2 : V.cell? ⟨B2, 0, none⟩ = some (.pointer (some ⟨sb, 0, none⟩))) (sz : U.heap.size + 2 ≤ V.heap.size) (hs : sb < U.heap.size) (ha : ab < U.heap.size) (q : StQ V SA' sb ab na st nn fu hb V') : RI U SA sb ab na st nn fu hb B2 V' := by
  obtain ⟨SB, pv', nw', sd', sx', sn'⟩ := q
  have sl := sn.trans sn'
  refine ⟨⟨fun i c => SB i c ∧ isC V' c, pv', nw', sd', sx'.tight, fun i c hi hc => hc.2, ⟨sl.1, fun i c hi hc => sl.2 i c hi hc.1⟩, fun i c hi hc => ?_⟩, ?_, Nat.le_trans sz sn'.1.size⟩
  · rcases sn'.2 i c hi hc.1 with h | h
    · exact nb i c hi h
    · omega
  · rw [sn'.1.cell B2 0 (by omega) (fun hx => ?_)]
    · exact c2
    · rcases hx with ⟨i, hi, hx⟩ | hx | hx
      · exact (nb i _ hi hx).1 rfl
      · omega
      · omega
set_option maxRecDepth 100000 in
set_option maxHeartbeats 4000000 in
theorem replay_any (SA : Nat → Nat → Prop) (sb ab na : Nat) (st nn fu : Nat → Nat) (hb pv nw : Nat) (sd : Bool) (S : Nat → Prop) (b o d n m Cb co cc : Nat) (f : Nat → Int) (sv : Value) (I cp : Nat → Nat) (U : World) (h : SX U SA sb ab na st nn fu hb pv nw sd) (hx : CX U S b o d n f sv m Cb co cc I cp) (hf : ∀ p, p < d + n → 1 ≤ f p ∧ f p ≤ 8000000000)
    (s1 : ∀ i c, i < na → SA i c → ¬ S c ∧ c ≠ b) (s2 : ¬ S sb ∧ sb ≠ b) (s3 : ¬ S ab ∧ ab ≠ b) : Calls Ybaz.prog 31 #[.pointer (some ⟨sb, 0, none⟩), .pointer (some ⟨b, o, none⟩)] U fun e w' => e = .returned (.tuple #[]) ∧ RpP U SA sb ab na st nn fu hb w' := by
  refine calls_of_wp_marks Ybaz.func31 rfl ?_
  simp only [Ybaz.ntmps31, List.size_toArray, List.length_cons, List.length_nil, Nat.reduceAdd, Nat.reduceSub, Array.replicate_succ, Array.replicate_zero, List.push_toArray, List.append_toArray, List.nil_append, List.cons_append]
  go_wp2_with (go_at_call 28; refine (values_any b o _).mono ?_; rintro e W1 ⟨rfl, rfl⟩)
  obtain ⟨B2, hB2⟩ : ∃ B2, U.heap.size = B2 := ⟨_, rfl⟩
  have k0 : Kept (fun _ => False) U ((U.alloc (.cells #[.pointer (some ⟨sb, 0, none⟩)] 33)).alloc (.cells #[.pointer (some ⟨b, o, none⟩)] 66)) := ((Kept.refl _ U).alloc _).alloc _
  have kk : Kept (fun _ => False) (U.alloc (.cells #[.pointer (some ⟨sb, 0, none⟩)] 33)) ((U.alloc (.cells #[.pointer (some ⟨sb, 0, none⟩)] 33)).alloc (.cells #[.pointer (some ⟨b, o, none⟩)] 66)) := (Kept.refl _ _).alloc _
  have q2 : ((U.alloc (.cells #[.pointer (some ⟨sb, 0, none⟩)] 33)).alloc (.cells #[.pointer (some ⟨b, o, none⟩)] 66)).cell? ⟨B2, 0, none⟩ = some (.pointer (some ⟨sb, 0, none⟩)) := by
    rw [← hB2]; exact kk.cell (p := ⟨U.heap.size, 0, none⟩) (fun h => h) (range_new U [.pointer (some ⟨sb, 0, none⟩)] 33 0 _ rfl)
  have q3 : ((U.alloc (.cells #[.pointer (some ⟨sb, 0, none⟩)] 33)).alloc (.cells #[.pointer (some ⟨b, o, none⟩)] 66)).cell? ⟨B2 + 1, 0, none⟩ = some (.pointer (some ⟨b, o, none⟩)) := by
    have := range_new (U.alloc (.cells #[.pointer (some ⟨sb, 0, none⟩)] 33)) [.pointer (some ⟨b, o, none⟩)] 66 0 _ rfl
    rw [World.size_alloc, hB2] at this
    exact this
  have sz0 : ((U.alloc (.cells #[.pointer (some ⟨sb, 0, none⟩)] 33)).alloc (.cells #[.pointer (some ⟨b, o, none⟩)] 66)).heap.size = B2 + 2 := by rw [World.size_alloc, World.size_alloc, hB2]
  rw [hB2]
  obtain ⟨W0, hW0⟩ : ∃ W0, (U.alloc (.cells #[.pointer (some ⟨sb, 0, none⟩)] 33)).alloc (.cells #[.pointer (some ⟨b, o, none⟩)] 66) = W0 := ⟨_, rfl⟩
  rw [hW0] at k0 q2 q3 sz0 ⊢
  have hsl := h.lt
  have hal := h.isa.lt
  have hseq := seq_vals (hx.kept k0 (fun h => h) (fun _ _ h => h)) q3 hf
  have sW := h.kept k0
  have I0 : RI U SA sb ab na st nn fu hb B2 W0 := ⟨⟨fun i c => SA i c ∧ isC W0 c, pv, nw, sd, sW.tight, fun _ _ _ hc => hc.2, ⟨(FP.calm k0).mono (fun _ _ _ h => h.elim), fun _ _ _ hc => .inl hc.1⟩, fun i c hi hc => by have := (h.ar i hi).bl.2.1 c hc.1; omega⟩, q2, by omega⟩
  have bS : ∀ c, S c → c < U.heap.size := hx.slt
  have bb : b < U.heap.size := World.block_lt_of_cell? U _ hx.c0
  refine (wpIn_wide (n := 3)).1 ?_
  refine wpIn_rangeFunc_ownH (F := Fence.wide) rfl (by omega) (gf := 50) (lb := #[.pointer (some ⟨B2 + 1, 0, none⟩)]) rfl trivial (enters_of Ybaz.func50 (by kernel_rfl) rfl)
    hseq (fun h k => KpS.trans h k) ?hKb (Below.refl _ _) (fun _ => rfl)
    (fun _ V => RI U SA sb ab na st nn fu hb B2 V) (fun _ _ _ => False) ?hI (fun _ _ _ _ _ hs _ _ => hs) I0
    (fun x a' V => ∃ B4, a' = { tmps := #[.pointer (some ⟨sb, 0, none⟩), .pointer (some ⟨b, o, none⟩), .pointer (some ⟨B2, 0, none⟩), undef, .pointer (some ⟨B4, 0, none⟩), .pointer (some ⟨b, o, none⟩), .pointer (some ⟨b, o, none⟩), .pointer (some ⟨b, o, none⟩), .func (.func 50) #[] #[.pointer (some ⟨B2 + 1, 0, none⟩)], .agg #[vi x.1.1, .float .f64 x.1.2], undef, undef, undef, undef, undef, undef], defers := [] } ∧ V.cell? ⟨B4, 0, none⟩ = some (vi x.1.1) ∧ V.cell? ⟨B4, 1, none⟩ = some (.float .f64 x.1.2)) ?hAx ?assign ?body ?done ?stop
  case hKb =>
    intro V l o o' hl _ _ _
    refine KpS.putObj (n := W0.heap.size) (fun c hc => ?_) V l o' hl
    rcases hc with hc | hc | hc
    · have := bS c hc; omega
    · omega
    · omega
  case hI =>
    intro pre V V' row hs hg hr
    exact RI.kept hs ((Kept.refl (fun c => row = some c) V).grown hg (fun k hk => .inl hk)) (fun c hc => by
      obtain ⟨h1, ob, h2, h3⟩ := hr c hc
      exact ⟨by omega, fun hic => hic.ne h2 h3 rfl⟩)
  case hAx =>
    intro x a' _ V V' row hs hg hr
    obtain ⟨B4, e, c1, c2⟩ := hs
    have k := (Kept.refl (fun c => row = some c) V).grown hg (fun k hk => .inl hk)
    have nr : ¬ row = some B4 := fun hc => by
      obtain ⟨h1, ob, h2, h3⟩ := hr B4 hc
      exact (show isC V B4 from ⟨0, by rw [c1]; rfl⟩).ne h2 h3 rfl
    exact ⟨B4, e, k.cell (p := ⟨B4, 0, none⟩) nr c1, k.cell (p := ⟨B4, 1, none⟩) nr c2⟩
  case assign =>
    rintro l pre x V K hi hK
    have ST := hid (run_storeAt_new (P := Ybaz.prog) V 46 #[.int .i64 0, .float .f64 0] #[vi x.1.1, .float .f64 x.1.2] (by kernel_rfl) rfl (by simp [Value.oneCell']))
    refine wpIn_region_plain (by kernel_rfl) (by rintro ⟨_, _, h⟩; exact h) ?_
    simp only [encP, List.zip_toArray, List.zip_cons_cons, List.zip_nil_right, List.zip_nil_left, List.size_toArray, List.foldl_toArray', List.foldl_cons, List.foldl_nil, List.setIfInBounds_toArray, List.set_cons_succ, List.set_cons_zero]
    go_wp2_with ((with_reducible (show wpList _ _ _ (⟨_, .store 46 _ _, _, _, _, _⟩ :: _) _ _)); refine wpList_store_as rfl 46 _ _ rfl rfl V.heap.size 0 (.agg #[vi x.1.1, .float .f64 x.1.2]) rfl rfl ST.out ?_)
    refine hK _ _ ((KeepsOthers.alloc _ _).from _) (KpS.kept ((Kept.refl (fun _ => False) V).alloc _) (fun c hc => ⟨?_, fun h => h⟩)) (hi.kept ((Kept.refl (fun _ => False) V).alloc _) (fun c h => h.elim)) ⟨V.heap.size, rfl, range_new V [vi x.1.1, .float .f64 x.1.2] 46 0 _ rfl, range_new V [vi x.1.1, .float .f64 x.1.2] 46 1 _ rfl⟩
    have := hi.2.2
    rcases hc with hc | hc | hc
    · have := bS c hc; omega
    · omega
    · omega
  case body =>
    intro l pre x a' V hl hrr hi ha hlen
    obtain ⟨B4, rfl, c1, c2⟩ := ha
    obtain ⟨⟨SA', pv', nw', sd', sx, ic, sn, nb⟩, c2', sz⟩ := hi
    have SU := hid (step_upto x.1.1 x.1.2 SA' sb ab na st nn fu hb pv' nw' sd' V sx x.2)
    have HI := hid (show SX V SA' sb ab na st nn fu hb pv' nw' sd' ∧ (∀ i c, i < na → SA' i c → isC V c) ∧ SN U SA sb ab na SA' V ∧ (∀ i c, i < na → SA' i c → c ≠ B2 ∧ c ≠ B2 + 1) ∧ V.cell? ⟨B2, 0, none⟩ = some (.pointer (some ⟨sb, 0, none⟩)) ∧ U.heap.size + 2 ≤ V.heap.size from ⟨sx, ic, sn, nb, c2', sz⟩)
    clear sx ic sn nb sz hseq sW I0 hx h hf
    gi_wp2_with (refine ⟨trivial, ?_⟩; gi_at_call 40; refine (CallsIn.inRound l (callsIn_wide.2 SU.out)).mono ?_; rintro e W5 ⟨rfl, sq⟩; have SQ := hid sq; clear sq SU)
    obtain ⟨sx, ic, sn, nb, c2'', sz⟩ := HI.out
    have sq := SQ.out
    obtain ⟨SB, pv2, nw2, sd2, sx2, sn2⟩ := sq
    refine ⟨keepsFrom_fp sn2.1 (fun c j hxx => ?_), fun c hc => sn2.1.block c ?_ (fun j hxx => ?_), RI.step hB2 sx sn nb c2'' sz hsl hal SQ.out⟩
    · rcases hxx with ⟨i, hi, hxx⟩ | hxx | hxx
      · exact ic i c hi hxx
      · rw [hxx]; exact sx.isa
      · rw [hxx.1]; exact sx.isb
    · rcases hc with hc | hc | hc
      · have := bS c hc; omega
      · omega
      · omega
    · rcases hxx with ⟨i, hi, hxx⟩ | hxx | hxx
      · have n1 := nb i c hi hxx
        rcases hc with hc | hc | hc
        · rcases sn.2 i c hi hxx with h | h
          · exact (s1 i c hi h).1 hc
          · have := bS c hc; omega
        · rcases sn.2 i c hi hxx with h | h
          · exact (s1 i c hi h).2 hc
          · omega
        · omega
      · rcases hc with hc | hc | hc
        · exact s3.1 (by rw [← hxx]; exact hc)
        · exact s3.2 (by rw [← hxx]; exact hc)
        · omega
      · rcases hc with hc | hc | hc
        · exact s2.1 (by rw [← hxx.1]; exact hc)
        · exact s2.2 (by rw [← hxx.1]; exact hc)
        · omega
  case done =>
    intro D ys V hD _ hi hDm
    simp only [Exit.inBlock]
    refine leaves_marks (lo := U.heap.size) [D] V ((Marks.nil _ _).cons (by simp) (by omega) hDm) (fun W' kp => ⟨_, results_none rfl _ _ _, rfl, ?_⟩)
    have := hi.kept kp (fun c hc => by
      have e : c = D := by simpa using hc
      subst e
      exact ⟨by omega, fun hic => hic.ne hDm rfl rfl⟩)
    obtain ⟨⟨SA', pv', nw', sd', sx, ic, sn, nb⟩, _⟩ := this
    exact ⟨SA', pv', nw', sd', sx, sn⟩
  case stop =>
    intro D c pre V _ _ hff
    exact hff.elim
end Go.Proofs.YbulkdsjeGreatDoor
