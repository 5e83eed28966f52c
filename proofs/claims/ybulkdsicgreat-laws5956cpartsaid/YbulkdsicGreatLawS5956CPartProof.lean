/-
  THE ROW OF LawS5956CPart; the walk is YbulkdsicGreatLaw3.
-/
import Derived.Test.YbulkdsicGreatRows
import Derived.Test.YbulkdsicGreatLaw3
import Derived.WalkKit
import Derived.ProofKit
import Derived.OpenShut
import Derived.ShutString
import Derived.ChangeOld
import Derived.Below
import Derived.HandedShaped
import Derived.SizedLaws
import Derived.SliceStrings
namespace Go.Proofs.YbulkdsicGreat.lawS5956CPart
open Go.ChangeShapes Go.WideShapes Go.ChangeAt Go.RowKit
set_option linter.unusedVariables false

theorem own : ownKnob Ybaz.prog.godebug = none := by kernel_rfl
theorem laidOut : laidOutB Ybaz.prog = true := by kernel_rfl

/-- A slice of integers that came in. -/
def IsRow (k : IntKind) (w : World) (a : Option Addr) (len cap : Nat) (zs : List Int) : Prop :=
  (a = none ∧ len = 0 ∧ cap = 0 ∧ zs = []) ∨
  ∃ x, a = some x ∧ len ≤ cap ∧ zs.length = cap ∧ (∀ i, i < zs.length → w.cell? (x.add i) = some (.int k (zs.getD i 0))) ∧ ∀ n ∈ zs, (Lit.int k n).wf = true
/-- A slice of strings that came in. -/
def IsStr (w : World) (a : Option Addr) (len cap : Nat) (ss : List ByteArray) : Prop :=
  (a = none ∧ len = 0 ∧ cap = 0 ∧ ss = []) ∨
  ∃ x, a = some x ∧ len ≤ cap ∧ ss.length = cap ∧ (∀ i, i < ss.length → w.cell? (x.add i) = some (.string (ss.getD i ByteArray.empty))) ∧ ∀ s ∈ ss, s.size ≤ reachBytes

theorem IsRow.at' {k : IntKind} {w : World} {a : Option Addr} {len cap : Nat} {zs : List Int} (h : IsRow k w a len cap zs) (m : Nat) (hk : ∀ n, (Lit.int k n).wf = true → 0 ≤ n ∧ n ≤ m) (i : Nat) (hi : i < len) :
    ∃ b o, a = some ⟨b, o, none⟩ ∧ w.cell? ⟨b, o + i, none⟩ = some (.int k (((zs.getD i 0).toNat : Nat) : Int)) ∧ (zs.getD i 0).toNat ≤ m := by
  rcases h with ⟨_, h0, _⟩ | ⟨x, rfl, hlc, hz, hc, hw⟩
  · omega
  · obtain ⟨b, o, sp⟩ := x
    have hsp : sp = none := by simpa [Addr.add] using World.cell?_spot (hc 0 (by omega))
    subst hsp
    have c := hc i (by omega)
    rw [add_plain] at c
    have hiz : i < zs.length := by omega
    have e : zs.getD i 0 = zs[i] := by simp [hiz]
    have hb := hk (zs.getD i 0) (hw _ (by rw [e]; exact List.getElem_mem hiz))
    exact ⟨b, o, rfl, by rw [Int.toNat_of_nonneg hb.1]; exact c, by omega⟩
theorem IsStr.at' {w : World} {a : Option Addr} {len cap : Nat} {ss : List ByteArray} (h : IsStr w a len cap ss) (i : Nat) (hi : i < len) :
    ∃ b o, a = some ⟨b, o, none⟩ ∧ w.cell? ⟨b, o + i, none⟩ = some (.string (ss.getD i ByteArray.empty)) ∧ (ss.getD i ByteArray.empty).size ≤ 140737488355328 := by
  rcases h with ⟨_, h0, _⟩ | ⟨x, rfl, hlc, hz, hc, hw⟩
  · omega
  · obtain ⟨b, o, sp⟩ := x
    have hsp : sp = none := by simpa [Addr.add] using World.cell?_spot (hc 0 (by omega))
    subst hsp
    have c := hc i (by omega)
    rw [add_plain] at c
    have hiz : i < ss.length := by omega
    have e : ss.getD i ByteArray.empty = ss[i] := by simp [hiz]
    have hb := hw (ss.getD i ByteArray.empty) (by rw [e]; exact List.getElem_mem hiz)
    unfold reachBytes at hb
    exact ⟨b, o, rfl, c, by omega⟩

theorem walk (a0 a1 a2 : Option Addr) (n0 c0 n1 c1 n2 c2 : Nat) (ss : List ByteArray) (zs ys : List Int) (w : World) (h0 : IsStr w a0 n0 c0 ss) (h1 : IsRow .u16 w a1 n1 c1 zs) (h2 : IsRow .u8 w a2 n2 c2 ys) :
    Calls Ybaz.prog 3 #[.slice a0 n0 c0, .slice a1 n1 c1, .slice a2 n2 c2] w fun e w' => e = .returned (.bool true) ∧ Below w.heap.size w w' := by
  by_cases hl : 300 < n0
  · exact law_long a0 a1 a2 c0 c1 c2 n0 n1 n2 w hl
  · exact law_any a0 a1 a2 c0 c1 c2 n0 n1 n2 (fun i => ss.getD i ByteArray.empty) (fun i => (zs.getD i 0).toNat) (fun i => (ys.getD i 0).toNat) w (by omega) (fun i hi => h0.at' i hi) (fun i hi => h1.at' 65535 (fun n hn => by have := bounds_u16 hn; omega) i hi) (fun i hi => h2.at' 255 (fun n hn => by have := bounds_u8 hn; omega) i hi)

theorem weights_strs {H : Type} {P : Program} {e : TypeId} : ∀ (L : List ByteArray) (s : ByteArray), s ∈ L → s.data.toList.length ∈ DataW.weightsAll P e (strs (H := H) L)
  | [], s, h => by cases h
  | x :: L, s, h => by
    rcases List.mem_cons.1 h with rfl | h
    · simp [strs, DataW.weightsAll, DataW.weights]
    · have := weights_strs (H := H) (P := P) (e := e) L s h
      simp only [strs, List.map_cons, DataW.weightsAll, List.mem_append]
      exact .inr this
theorem sized_strs {H : Type} {P : Program} {ts : List TypeId} {ds : List (DataW H)} (h : (DataW.weightsEach P ts ds).all (· ≤ reachBytes) = true) {j : Nat} {t e : TypeId} {L M : List ByteArray} (ht : ts[j]? = some t) (hd : ds[j]? = some (.slice (strs L) (strs M))) (hu : P.underlying t = some (.slice e)) (s : ByteArray) (hs : s ∈ L ∨ s ∈ M) : s.size ≤ reachBytes := by
  have hm : s.data.toList.length ∈ DataW.weights P t (.slice (strs (H := H) L) (strs M)) := by
    simp only [DataW.weights, hu, List.mem_cons, List.mem_append]
    rcases hs with h | h
    · exact .inr (.inl (weights_strs L s h))
    · exact .inr (.inr (weights_strs M s h))
  have := List.all_eq_true.1 h _ (DataW.weights_mem_each ht hd _ hm)
  have e1 : s.data.toList.length = s.size := Array.length_toList
  rw [e1] at this
  exact of_decide_eq_true this

set_option maxRecDepth 100000 in
theorem lifted (os : Os) (started : os.Started) (H : Type) (enc : TypeId × Value → H) :
    ReturnsInHanded {} Ybaz.checked os 3 .any (Rows.lawS5956CPartSpec.pre6 enc Ybaz.prog Ybaz.f3 Rows.lawS5956CPartRow.domain false) (Rows.lawS5956CPartSpec.post enc Ybaz.prog Ybaz.f3 false true false false) := by
  refine returnsInHanded_of_change_shaped (C := Ybaz.checked) own started (by kernel_rfl) Ybaz.func3
    (ChangeSpec.witness6 (enc := enc) (C := Ybaz.checked) false ⟨#[], #[.slice none 0 0, .slice none 0 0, .slice none 0 0], []⟩ 8 (by kernel_rfl) (by kernel_rfl) (by kernel_rfl) (by kernel_rfl)) ?_
  intro W base args ds gs before hval0 hW hcnd hsz0 _ _
  have hval : ∀ (j : Nat) t v, Ybaz.f3.params[j]? = some t → args[j]? = some v → Value.okWide Ybaz.prog W .any base t v := hval0
  have hW' := hW
  obtain ⟨p, q, hA0, hV, rfl, hfz, hnd⟩ := hW
  have hA : DataW.TrodAll enc Ybaz.prog W 0 (fun _ => true) true Ybaz.f3.params.toList args.toList ds p := hA0
  have hsz : (DataW.weightsEach Ybaz.prog (Ybaz.f3.params.toList ++ Rows.lawS5956CPartSpec.plain.varTypes Ybaz.prog) (ds ++ gs)).all (· ≤ reachBytes) = true := hsz0
  rw [Ybaz.params3] at hA hval hsz
  obtain ⟨v0, vs0, d0, ds0, p0, q0, hargs, rfl, rfl, h0, r0⟩ := trodAll_cons hA
  obtain ⟨v1, vs1, d1, ds1, p1, q1, rfl, rfl, rfl, h1, r1⟩ := trodAll_cons r0
  obtain ⟨v2, vs2, d2, ds2, p2, q2, rfl, rfl, rfl, h2, r2⟩ := trodAll_cons r1
  obtain ⟨rfl, rfl, rfl⟩ := trodAll_nil r2
  obtain rfl : args = #[v0, v1, v2] := by cases args; simp_all
  obtain ⟨rfl, rfl⟩ := trodVars_none hV
  have lt0 : ∀ x ∈ p0, x.block < W.heap.size := by obtain ⟨m, hm⟩ := h0; exact DataW.trod_lt m _ _ _ hm
  have lt1 : ∀ x ∈ p1, x.block < W.heap.size := by obtain ⟨m, hm⟩ := h1; exact DataW.trod_lt m _ _ _ hm
  have lt2 : ∀ x ∈ p2, x.block < W.heap.size := by obtain ⟨m, hm⟩ := h2; exact DataW.trod_lt m _ _ _ hm
  have k0 := h0
  have k1 := h1
  have k2 := h2
  obtain ⟨a0, n0, c0, rfl⟩ := okWide_slice Ybaz.underlying22 (hval 0 22 v0 rfl rfl)
  obtain ⟨a1, n1, c1, rfl⟩ := okWide_slice Ybaz.underlying23 (hval 1 23 v1 rfl rfl)
  obtain ⟨a2, n2, c2, rfl⟩ := okWide_slice Ybaz.underlying24 (hval 2 24 v2 rfl rfl)
  obtain ⟨ss, w0⟩ : ∃ ss, IsStr W a0 n0 c0 ss := by
    obtain ⟨fuel, hf⟩ := h0
    rcases open_strings Ybaz.underlying22 Ybaz.underlying9 (by kernel_rfl) hf with ⟨hcs, _⟩ | ⟨x, l, c, ss, hcs, _, hl, hm, hz, hx, hcell, _⟩
    · simp [Value.cells] at hcs
      obtain ⟨rfl, rfl, rfl⟩ := hcs
      exact ⟨[], .inl ⟨rfl, rfl, rfl, rfl⟩⟩
    · simp [Value.cells] at hcs
      obtain ⟨rfl, rfl, rfl⟩ := hcs
      have hd := (Prod.mk.inj hx).1
      refine ⟨ss, .inr ⟨_, rfl, hl, by simpa using hz, hcell, fun s hs => ?_⟩⟩
      refine sized_strs hsz (j := 0) (t := 22) (e := 9) (L := ss.take n0) (M := ss.drop n0) rfl (by rw [hd]; rfl) Ybaz.underlying22 s ?_
      rw [← List.take_append_drop n0 ss] at hs
      exact List.mem_append.1 hs
  obtain ⟨zs, w1⟩ : ∃ zs, IsRow .u16 W a1 n1 c1 zs := by
    obtain ⟨fuel, hf⟩ := h1
    rcases open_ints Ybaz.underlying23 Ybaz.underlying37 (by kernel_rfl) hf with ⟨hcs, _⟩ | ⟨x, l, c, zs, hcs, _, hl, hm, hz, _, hcell, hwz⟩
    · simp [Value.cells] at hcs
      obtain ⟨rfl, rfl, rfl⟩ := hcs
      exact ⟨[], .inl ⟨rfl, rfl, rfl, rfl⟩⟩
    · simp [Value.cells] at hcs
      obtain ⟨rfl, rfl, rfl⟩ := hcs
      exact ⟨zs, .inr ⟨_, rfl, hl, by simpa using hz, hcell, hwz⟩⟩
  obtain ⟨ys, w2⟩ : ∃ ys, IsRow .u8 W a2 n2 c2 ys := by
    obtain ⟨fuel, hf⟩ := h2
    rcases open_ints Ybaz.underlying24 Ybaz.underlying5 (by kernel_rfl) hf with ⟨hcs, _⟩ | ⟨x, l, c, zs, hcs, _, hl, hm, hz, _, hcell, hwz⟩
    · simp [Value.cells] at hcs
      obtain ⟨rfl, rfl, rfl⟩ := hcs
      exact ⟨[], .inl ⟨rfl, rfl, rfl, rfl⟩⟩
    · simp [Value.cells] at hcs
      obtain ⟨rfl, rfl, rfl⟩ := hcs
      exact ⟨zs, .inr ⟨_, rfl, hl, by simpa using hz, hcell, hwz⟩⟩
  clear hA0 hval0 hsz0
  refine (walk a0 a1 a2 n0 c0 n1 c1 n2 c2 ss zs ys W w0 w1 w2).mono fun e W' ⟨he, bel⟩ => ?_
  subst he
  exact ⟨_, rfl, _, _, _, [], _, [], hW', trodAll_mk1 (shut_bool Ybaz.underlying4 _), (trodAll_cons_mk (Below.trod laidOut (by kernel_rfl) (of_decide_eq_true (by kernel_rfl)) k0 bel lt0) (trodAll_cons_mk (Below.trod laidOut (by kernel_rfl) (of_decide_eq_true (by kernel_rfl)) k1 bel lt1) (trodAll_cons_mk (Below.trod laidOut (by kernel_rfl) (of_decide_eq_true (by kernel_rfl)) k2 bel lt2) trodAll_mk0))), rfl, bel.frame _, fun h => by cases h⟩

theorem over : Rows.lawS5956CPartRow.holds Ybaz.pinned (OpenSpec.ofChange Rows.lawS5956CPartSpec) :=
  OpenClaim.holds_of_wide 3 Ybaz.f3 rfl rfl rfl rfl rfl rfl rfl ⟨rfl, rfl, rfl, rfl, rfl⟩ rfl rfl rfl rfl rfl (by kernel_rfl) Ybaz.func3 (by kernel_rfl)
    (of_decide_eq_true (by kernel_rfl)) (by unfold Func.isWrapper; first | (rw [if_pos (by decide +kernel)]; kernel_rfl) | (rw [if_neg (by decide +kernel)]; exact ⟨rfl, rfl⟩))
    (fun os started H enc _ => lifted os started H enc)

/-- ████ THE STATEMENT ████ -/
theorem proved : Rows.LawS5956CPartSaid := over
#print axioms proved
end Go.Proofs.YbulkdsicGreat.lawS5956CPart
