import Derived.Test.YbulkdsjeGreatDoorDrR
import Derived.Test.YbulkdsjeGreatDoorPuR
set_option linter.unusedVariables false
set_option linter.unusedSimpArgs false
namespace Go.Proofs.YbulkdsjeGreatDoor
open Go.RowKit

abbrev F91 (Mb : Nat) : Value := .func (.func 91) #[] #[.pointer (some ⟨Mb, 0, none⟩)]

set_option maxRecDepth 100000 in
set_option maxHeartbeats 4000000 in
theorem f91_any (x ms : Int) (v Mb : Nat) (U : World) (hm : U.cell? ⟨Mb, 0, none⟩ = some (ii ms)) : Calls Ybaz.prog 91 #[.agg #[ii x, .float .f64 v], .pointer (some ⟨Mb, 0, none⟩)] U fun e w' => e = .returned (ii (cmpI x ms)) ∧ Kept (fun _ => False) U w' := by
  have k0 : Kept (fun _ => False) U (U.alloc (.cells #[ii x, .float .f64 v] 46)) := (Kept.refl _ U).alloc _
  have y0 := k0.cell (p := ⟨Mb, 0, none⟩) (fun h => h) hm
  have K0 := hid k0
  clear k0 hm
  go_enter Ybaz.func91, Ybaz.ntmps91
  go_wp2_with (go_at_call 92; refine (compare_any _ _ _).mono ?_; rintro e W1 ⟨rfl, rfl⟩)
  go_ret
  exact ⟨rfl, K0.out⟩

set_option maxRecDepth 100000 in
set_option maxHeartbeats 4000000 in
theorem f108_any (x ms : Int) (v Mb Kb : Nat) (U : World) (hm : U.cell? ⟨Mb, 0, none⟩ = some (ii ms)) (hk : U.cell? ⟨Kb, 0, none⟩ = some (F91 Mb)) : Calls Ybaz.prog 108 #[.agg #[ii x, .float .f64 v], .agg #[], .pointer (some ⟨Kb, 0, none⟩)] U fun e w' => e = .returned (ii (cmpI x ms)) ∧ Kept (fun _ => False) U w' := by
  have k0 : Kept (fun _ => False) U ((U.alloc (.cells #[ii x, .float .f64 v] 46)).alloc (.cells #[] 112)) := ((Kept.refl _ U).alloc _).alloc _
  have y0 := k0.cell (p := ⟨Kb, 0, none⟩) (fun h => h) hk
  have FA := hid (f91_any x ms v Mb _ (k0.cell (p := ⟨Mb, 0, none⟩) (fun h => h) hm))
  have K0 := hid k0
  clear k0 hm hk
  go_enter Ybaz.func108, Ybaz.ntmps108
  go_wp2_with (go_at_call 91; refine FA.out.mono ?_; rintro e W1 ⟨rfl, k1⟩)
  go_ret
  exact ⟨rfl, K0.out.trans k1⟩
end Go.Proofs.YbulkdsjeGreatDoor
