import Derived.Test.YbulkdsjeGreatDoorMd2
import Derived.Test.YbulkdsjeGreatDoorLead
import Derived.Test.YbulkdsjeGreatDoorUint
import Derived.BigQuiet
import Derived.Deep.QuietTactic
set_option linter.unusedVariables false
set_option linter.unusedSimpArgs false
namespace Go.Proofs.YbulkdsjeGreatDoor
open Go.RowKit

theorem slice85a (b o : Nat) (w : World) : Sem.run Ybaz.prog (Instr.sliceAt 85 (.pointer (some ⟨b, o, none⟩)) none none none) w = .ok (sl b o 64 64) w := by kernel_rfl

set_option maxRecDepth 100000 in
set_option maxHeartbeats 4000000 in
theorem xor_any (x xo : Nat) (hx : x < 18446744073709551616) (z : Zs) (ov : Value) (L : Nat) (U : World) (h : CD U z ov L) (hL : L + 300 < 1099511627776) (hxo : xo = 209 ∨ xo = 338) : Calls Ybaz.prog 57 #[.pointer (some ⟨z.Mb, xo, none⟩), .pointer (some ⟨z.Eb, 0, none⟩), .int .u64 (x : Int)] U fun e w' => e = .returned (.tuple #[]) ∧ CP U z ov (L + 60) w' := by
  obtain ⟨lz, hlz⟩ : ∃ lz, Lib.bitLen x = lz := ⟨_, rfl⟩
  have hl64 : lz ≤ 64 := by rw [← hlz]; exact Lib.bitLen_le x 64 (by omega) (by omega)
  obtain ⟨ld, hld⟩ : ∃ ld : Nat, 64 - (lz : Int) = (ld : Int) := ⟨64 - lz, by omega⟩
  have LZ : Hid (∀ w, Calls Ybaz.prog 84 #[.int .u64 (x : Int)] w fun e w' => e = .returned (vi ld) ∧ w' = w) := hid fun w => by
    have := Ybaz.bits_LeadingZeros64 (x : Int) w (by omega) (by omega)
    rw [Int.toNat_natCast, hlz, hld] at this
    exact this
  have bld : (ld : Int) ≤ 64 := by omega
  have TZ := hid (trailing_any x U hx h.gl)
  have hp1 : ∀ V, MD V z → PA V z.Mb xo (2 ^ 6) ∧ PA V z.Mb (xo + 64) (2 ^ 6) := fun V hV => by
    rcases hxo with rfl | rfl
    · exact ⟨hV.p2.sub (by omega) (by omega), hV.p2.sub (by omega) (by omega)⟩
    · exact ⟨hV.sm.sub (by omega) (by omega), hV.sm.sub (by omega) (by omega)⟩
  have TR1 : Hid (∀ v : Int, 0 ≤ v → Calls Ybaz.prog 44 #[.pointer (some ⟨z.Eb, 0, none⟩), sl z.Mb xo 64 64, .int .u64 v] U fun e w' => e = .returned (.tuple #[]) ∧ CP U z ov (L + 21) w') := hid fun v hv => h.tree (by omega) (n := 6) (by omega) (hp1 U h.md).1 hv
  have HP1 := hid hp1
  have HL := hid hL
  clear h hx hL hp1 hxo hlz hl64 hld
  go_enter Ybaz.func57, Ybaz.ntmps57
  go_upto_region 1 with (first | (go_at_call 84; refine (LZ.out _).mono ?_; rintro e W1 ⟨rfl, rfl⟩) | (go_at_call 85; refine TZ.out.mono ?_; rintro e W2 ⟨⟨tr, htr, rfl⟩, rfl⟩))
  have btr : (tr : Int) ≤ 64 := by omega
  clear htr LZ TZ
  go_upto_region 2 with (first | ((with_reducible (show wpList _ _ _ (⟨_, .slice 85 _ _ _ _, _, _, _, _⟩ :: _) _ _)); refine wpList_as (sl z.Mb _ 64 64) (by kernel_rfl) (run_opslice (fun W => slice85a z.Mb _ W)) ?_; simp only [Act.put, List.setIfInBounds_toArray, List.set_cons_succ, List.set_cons_zero]) | (go_at_call 44; refine (TR1.out _ (by omega)).mono ?_; rintro e W3 ⟨rfl, cp⟩; have C3 := hid cp; clear cp TR1))
  obtain ⟨ov1, cd1, k1, m1⟩ := C3.out
  have TR2 : Hid (∀ v : Int, 0 ≤ v → Calls Ybaz.prog 44 #[.pointer (some ⟨z.Eb, 0, none⟩), sl z.Mb (xo + 64) 64 64, .int .u64 v] W3 fun e w' => e = .returned (.tuple #[]) ∧ CP W3 z ov1 (L + 21 + 21) w') := hid fun v hv => cd1.tree (by have := HL.out; omega) (n := 6) (by omega) (HP1.out W3 cd1.md).2 hv
  have K1 := hid (show Kept (CE z ov) _ W3 ∧ Mv _ ov ov1 from ⟨k1, m1⟩)
  clear cd1 k1 m1 C3
  go_upto_region 3 with (first | ((with_reducible (show wpList _ _ _ (⟨_, .slice 85 _ _ _ _, _, _, _, _⟩ :: _) _ _)); refine wpList_as (sl z.Mb _ 64 64) (by kernel_rfl) (run_opslice (fun W => slice85a z.Mb _ W)) ?_; simp only [Act.put, List.setIfInBounds_toArray, List.set_cons_succ, List.set_cons_zero]) | (go_at_call 44; refine (TR2.out _ (by omega)).mono ?_; rintro e W4 ⟨rfl, cp⟩; have C4 := hid cp; clear cp TR2))
  by_cases hw : (2 : Int) < 64 - (ld : Int) - (tr : Int)
  · obtain ⟨n, hn⟩ : ∃ n : Nat, 64 - (ld : Int) - (tr : Int) - 2 = (n : Int) := ⟨(64 - (ld : Int) - (tr : Int) - 2).toNat, by omega⟩
    obtain ⟨ov2, cd2, k2, m2⟩ := C4.out
    have DI : Hid (∀ v : Int, 0 ≤ v → Calls Ybaz.prog 27 #[.pointer (some ⟨z.Eb, 0, none⟩), .int .u64 v, vi n] W4 fun e w' => e = .returned (.tuple #[]) ∧ CP W4 z ov2 (L + 21 + 21 + 12) w') := hid fun v hv => cd2.direct (by have := HL.out; omega) (by omega) hv
    have K2 := hid (show Kept (CE z ov1) _ W4 ∧ Mv _ ov1 ov2 from ⟨k2, m2⟩)
    clear cd2 k2 m2 C4
    go_wp2_with (go_at_call 27; refine (DI.out _ ?_).mono ?_; (first | exact Int.ediv_nonneg (by omega) (Int.le_of_lt (Int.pow_pos (by omega))) | exact Int.natCast_nonneg _); rintro e W5 ⟨rfl, cp⟩; have C5 := hid cp; clear cp DI)
    go_end0
    exact ⟨rfl, (CP.thn K1.out.1 K1.out.2 (CP.thn K2.out.1 K2.out.2 C5.out)).mono (by omega)⟩
  · go_wp2
    go_end0
    exact ⟨rfl, (CP.thn K1.out.1 K1.out.2 C4.out).mono (by omega)⟩
end Go.Proofs.YbulkdsjeGreatDoor
