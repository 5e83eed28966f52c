/-
  THE ROW OF LawS5965BWhole AND ITS TIED CARD; the walk is YbulkdsmyDoorLaw.
-/
import Derived.Test.YbulkdsmyDoorRows
import Derived.Test.YbulkdsmyDoorTie
import Derived.Test.YbulkdsmyDoorCards
import Derived.Test.YbulkdsmyDoorLaw
import Derived.ProofKit
import Derived.LaidMore
import Derived.OpenShut
import Derived.ShutString
import Derived.ChangeOld
import Derived.ChangeVars
import Derived.Stop.Joined
import Derived.Stop.LaidErr
import Derived.SevenTiedAt
namespace Go.Proofs.YbulkdsmyDoor
open Go.ChangeShapes Go.WideShapes Go.ChangeAt Go.RowKit
set_option linter.unusedVariables false

theorem own : ownKnob Ybad.prog.godebug = none := by kernel_rfl
theorem laidOut : laidOutB Ybad.prog = true := by kernel_rfl

/-- The listed variable's name, off the given specification. -/
def vname : String := Rows.lawS5965BWholeSpec.vars.headD ""
theorem gS : Ybad.prog.globalNamed vname = some 0 := by kernel_rfl
theorem tS : (Ybad.prog.globals[0]?).map (·.type) = some 24 := by kernel_rfl
theorem Ybad.cells37 : Ybad.prog.cellsOf 37 = 1 := by kernel_rfl
theorem Ybad.cells9 : Ybad.prog.cellsOf 9 = 1 := by kernel_rfl

/-- What the condition gives the walk: the variable holds a pointer. -/
theorem of_laid {W : World} (h : laidMetH Ybad.prog Rows.lawS5965BWholeRow.laid W) : ∃ a, W.var? Ybad.prog vname = some #[.iface 35 (.pointer (some a))] := by
  rw [MakeChecks.laidMetH_plain _ _ _ (by kernel_rfl)] at h
  obtain ⟨a, s, hv, _⟩ := laid_sentinel (P := Ybad.prog) (W := W) h gS tS Ybad.underlying24 (fun u hu => typeName_ptr_named (nm := "errors.errorString") (by kernel_rfl) (by kernel_rfl) (by decide) u (hu.trans (by kernel_rfl))) Ybad.underlying35 Ybad.underlying37 rfl rfl Ybad.underlying9 Ybad.cells37 Ybad.cells9
  exact ⟨a, hv⟩

/-- The door's own heap meets the condition. -/
theorem door_met (os : Os) (args : Array Value) : laidMetH Ybad.prog Rows.lawS5965BWholeRow.laid ((World.doorLaid Ybad.prog 400 os).forCall (fun _ _ => 0) ⟨#[], args, []⟩).memory :=
  laidMetH_of_parts3 (fuel := 8) (laidMet_of_run' 8 (by kernel_rfl) (by kernel_rfl)) (by kernel_rfl) (by kernel_rfl)

/-- What the walk is told of the slice that came in. -/
def IsRow (k : IntKind) (w : World) (a : Option Addr) (len cap : Nat) (zs : List Int) : Prop :=
  (a = none ∧ len = 0 ∧ cap = 0 ∧ zs = []) ∨
  ∃ x, a = some x ∧ len ≤ cap ∧ cap ≤ maxLen ∧ zs.length = cap ∧ (∀ i, i < zs.length → w.cell? (x.add i) = some (.int k (zs.getD i 0))) ∧ ∀ n ∈ zs, (Lit.int k n).wf = true

theorem walk (a0 : Option Addr) (len0 cap0 : Nat) (z0 : List Int) (p : Bool) (ea : Addr) (w : World) (w0 : IsRow .u8 w a0 len0 cap0 z0) (hg : w.cell? ⟨0, 0, none⟩ = some (.iface 35 (.pointer (some ea)))) :
    Calls Ybad.prog 3 #[.slice a0 len0 cap0, .bool p] w fun e w' => e = .returned (.bool true) ∧ Below w.heap.size w w' := by
  by_cases hl : 1048576 < len0
  · exact law_long a0 len0 cap0 p w hl
  · have hcame : Came w a0 len0 cap0 (fun j => z0.getD j 0) := by
      rcases w0 with ⟨h1, h2, h3, _⟩ | ⟨x, hx, hlc, hm, hzl, hc, _⟩
      · exact .inl ⟨h1, h2, h3⟩
      · exact .inr ⟨x, hx, fun j hj => hc j (by omega)⟩
    have hf : ∀ j, 0 ≤ z0.getD j 0 ∧ z0.getD j 0 ≤ 255 := by
      intro j
      rcases w0 with ⟨_, _, _, rfl⟩ | ⟨x, hx, hlc, hm, hzl, hc, hwf⟩
      · simp
      · have := range_u8 hwf j
        simpa using this
    have hlc : len0 ≤ cap0 := by
      rcases w0 with ⟨_, h2, h3, _⟩ | ⟨x, hx, hlc, _⟩
      · omega
      · exact hlc
    cases p
    · by_cases h8 : len0 < 8
      · exact law_short a0 len0 cap0 _ ea w (by omega) hcame h8 hg
      · exact law_ok a0 len0 cap0 _ w (by omega) hcame (by omega) hlc hf
    · exact law_pre a0 len0 cap0 _ w (by omega) hcame

set_option maxRecDepth 100000 in
theorem lifted (os : Os) (started : os.Started) (H : Type) (enc : TypeId × Value → H) :
    ReturnsInHanded {} Ybad.checked os 3 .any (fun w args => (Rows.lawS5965BWholeSpec.pre enc Ybad.prog Ybad.f3 [] false w args ∧ laidMetH Ybad.prog Rows.lawS5965BWholeRow.laid w) ∧ sizedMet enc Ybad.prog Ybad.f3 (OpenSpec.ofChange Rows.lawS5965BWholeSpec) false w args)
      (Rows.lawS5965BWholeSpec.post enc Ybad.prog Ybad.f3 false true false false) := by
  refine returnsInHanded_of_change_and (C := Ybad.checked) (X := fun w _ => laidMetH Ybad.prog Rows.lawS5965BWholeRow.laid w) (fun _ _ _ hh h => h.of_heap hh) own started (by kernel_rfl) Ybad.func3
    (ChangeSpec.witness_shaped (enc := enc) (C := Ybad.checked) (os := os) (X := fun w _ => laidMetH Ybad.prog Rows.lawS5965BWholeRow.laid w) false (World.doorLaid Ybad.prog 400 os) #[.slice none 0 0, .bool false] 8 rfl (World.shaped_of_RefB (by kernel_rfl) (by kernel_rfl)) (by kernel_rfl) (by kernel_rfl) (by kernel_rfl) (door_met os _)) ?_
  intro W base args ds gs before hval0 hW _ _ hL _
  have hval : ∀ (j : Nat) t v, Ybad.f3.params[j]? = some t → args[j]? = some v → Value.okWide Ybad.prog W .any base t v := hval0
  have hW' := hW
  obtain ⟨p, q, hA0, hV0, rfl, hfz, hnd⟩ := hW
  have hA : DataW.TrodAll enc Ybad.prog W 0 (fun _ => true) true Ybad.f3.params.toList args.toList ds p := hA0
  have hV : DataW.TrodVars enc Ybad.prog W (fun _ => true) [vname] gs q := hV0
  rw [Ybad.params3] at hA hval
  obtain ⟨v0, v1, d0, d1, p0, p1, rfl, rfl, rfl, h0, h1⟩ := trodAll_two hA
  obtain ⟨g, t, cs, fu, dv, pv, rfl, hg, ht, hv, hd, rfl⟩ := trodVars_one hV
  obtain rfl := Option.some.inj (gS.symm.trans hg)
  obtain rfl := Option.some.inj (tS.symm.trans ht)
  obtain ⟨x, rfl, ix, rfl, rfl, hcx⟩ := token_of gS Ybad.underlying24 hv hd
  obtain ⟨ea, hve⟩ := of_laid hL
  have ex : x = .iface 35 (.pointer (some ea)) := by
    have := Option.some.inj (hv.symm.trans hve)
    simpa using this
  subst ex
  obtain ⟨a0, len0, cap0, rfl⟩ := okWide_slice Ybad.underlying22 (hval 0 22 v0 rfl rfl)
  have k0 := h0
  have lt0 : ∀ x ∈ p0, x.block < W.heap.size := by obtain ⟨m, hm⟩ := k0; exact DataW.trod_lt m _ _ _ hm
  obtain ⟨z0, w0⟩ : ∃ zs, IsRow .u8 W a0 len0 cap0 zs := by
    obtain ⟨fuel, hf⟩ := h0
    rcases open_ints Ybad.underlying22 Ybad.underlying5 (by kernel_rfl) hf with ⟨hcs, _⟩ | ⟨x, l, c, zs, hcs, _, hl, hm, hz, _, hcell, hwz⟩
    · simp [Value.cells] at hcs
      obtain ⟨rfl, rfl, rfl⟩ := hcs
      exact ⟨[], .inl ⟨rfl, rfl, rfl, rfl⟩⟩
    · simp [Value.cells] at hcs
      obtain ⟨rfl, rfl, rfl⟩ := hcs
      exact ⟨zs, .inr ⟨_, rfl, hl, hm, by simpa using hz, hcell, hwz⟩⟩
  obtain ⟨pb, rfl, rfl, rfl⟩ := open_bool Ybad.underlying4 (hval 1 4 v1 rfl rfl) h1
  clear hA0 hval0
  refine (walk a0 len0 cap0 z0 pb ea W w0 hcx).mono fun e W' ⟨he, bel⟩ => ?_
  subst he
  have hv' : W'.var? Ybad.prog vname = some #[.iface 35 (.pointer (some ea))] := var?_below bel gS (World.block_lt_of_cell? W _ hcx) hv
  exact ⟨_, rfl, _, _, _, [], _, [.cell 0 0], hW', trodAll_mk1 (shut_bool Ybad.underlying4 _), trodAll_mk2 (Below.trod laidOut (by kernel_rfl) (of_decide_eq_true (by kernel_rfl)) k0 bel lt0) (shut_bool Ybad.underlying4 _), vars_read1 enc gS tS Ybad.underlying24 hv' ix _, bel.frame _, fun h => by cases h⟩

theorem row_holds : Rows.LawS5965BWholeSaid :=
  OpenClaim.holds_of_wide 3 Ybad.f3 rfl rfl rfl rfl rfl rfl rfl ⟨rfl, rfl, rfl, rfl, rfl⟩ rfl rfl rfl rfl rfl (by kernel_rfl) Ybad.func3 (by kernel_rfl)
    (of_decide_eq_true (by kernel_rfl)) (by unfold Func.isWrapper; first | (rw [if_pos (by decide +kernel)]; kernel_rfl) | (rw [if_neg (by decide +kernel)]; exact ⟨rfl, rfl⟩))
    (fun os started H enc _ => lifted os started H enc)

theorem card_holds : Rows.LawS5965BWholeCardSaid :=
  Claim7.holds_tied_plain_at .later [] [.called] true Rows.lawS5965BWholeCard.stood.harness true
    row_holds (fun _ h => by cases h) (by kernel_rfl) (fun _ h => by cases h) lawS5965BWhole_row_tie rfl ⟨rfl, rfl⟩ (by kernel_rfl) rfl
    (fun f fn hf hfn => by
      obtain rfl : f = 3 := Option.some.inj ((show Ybad.prog.funcNamed Rows.lawS5965BWholeRow.func = some 3 by kernel_rfl).symm.trans hf) |>.symm
      obtain rfl : fn = Ybad.f3 := (Option.some.inj (Ybad.func3.symm.trans hfn)).symm
      exact ⟨by kernel_rfl, fun j t ht => by
        rw [Ybad.params3] at ht
        have hm : t ∈ [22, 4] := by simpa using Array.mem_of_getElem? ht
        have hall : ([22, 4].all fun u => !Ybad.prog.wantsStandIn u) = true := by kernel_rfl
        exact (show Ybad.prog.wantsStandIn t = false by simpa using List.all_eq_true.1 hall t hm)⟩)
    (by kernel_rfl)
#print axioms card_holds
end Go.Proofs.YbulkdsmyDoor
