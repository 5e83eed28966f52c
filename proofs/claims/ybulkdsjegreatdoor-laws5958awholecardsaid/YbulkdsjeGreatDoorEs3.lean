import Derived.Test.YbulkdsjeGreatDoorEs1
import Derived.Handy
set_option linter.unusedVariables false
set_option linter.unusedSimpArgs false
namespace Go.Proofs.YbulkdsjeGreatDoor
open Go.RowKit


set_option maxRecDepth 100000 in
set_option maxHeartbeats 4000000 in
theorem atS_exact (S : Nat → Prop) (b o d n i m Cb co cc : Nat) (f : Nat → Int) (sv : Value) (I cp : Nat → Nat) (U : World) (hx : CX U S b o d n f sv m Cb co cc I cp) (hi : i < n) (x : Nat) (v2 : U.cell? ⟨I ((d + i) / 256), (d + i) % 256 * 2 + 1, none⟩ = some (.float .f64 x)) : Calls Ybaz.prog 61 #[.pointer (some ⟨b, o, none⟩), vi i] U fun e w' => e = .returned (.agg #[ii (f (d + i)), .float .f64 x]) ∧ Kept (fun _ => False) U w' := by
  obtain ⟨p1, p2⟩ := hx.place hi
  obtain ⟨v1, _⟩ := hx.val (d + i) (by omega)
  have hsv : sv = sl Cb co m cc := by
    rcases hx.form with ⟨h0, _⟩ | ⟨_, h1⟩
    · omega
    · exact h1
  subst hsv
  have k0 : Kept (fun _ => False) U (U.alloc (.cells #[.int .i64 0, .float .f64 0] 143)) := (Kept.refl _ U).alloc _
  have LO := hid (locateS_any b o d n i m Cb co cc (U.alloc (.cells #[.int .i64 0, .float .f64 0] 143)) hi hx.bd p1 (k0.cell (p := ⟨b, o, none⟩) (fun h => h) hx.c0) (k0.cell (p := ⟨b, o + 1, none⟩) (fun h => h) hx.c1))
  have y0 := k0.cell (p := ⟨Cb, co + (d + i) / 256 * 2, none⟩) (fun h => h) (hx.ch _ p1).1
  have y1 := k0.cell (p := ⟨I ((d + i) / 256), (d + i) % 256 * 2, none⟩) (fun h => h) v1
  have y2 := k0.cell (p := ⟨I ((d + i) / 256), (d + i) % 256 * 2 + 1, none⟩) (fun h => h) v2
  obtain ⟨ln, hln⟩ : ∃ ln, min 256 (d + n - 256 * ((d + i) / 256)) = ln := ⟨_, rfl⟩
  rw [hln] at y0 p2
  obtain ⟨Ik, hIk⟩ : ∃ Ik, I ((d + i) / 256) = Ik := ⟨_, rfl⟩
  rw [hIk] at y0 y1 y2
  obtain ⟨ck, hck⟩ : ∃ ck, cp ((d + i) / 256) = ck := ⟨_, rfl⟩
  rw [hck] at y0
  obtain ⟨j, hj⟩ : ∃ j, (d + i) % 256 = j := ⟨_, rfl⟩
  rw [hj] at y1 y2 p2 LO
  obtain ⟨q, hq⟩ : ∃ q, (d + i) / 256 = q := ⟨_, rfl⟩
  rw [hq] at y0 LO
  have hji : (j : Int) < (ln : Int) := by omega
  have ST := hid (run_storeAt_new (P := Ybaz.prog) U 143 #[.int .i64 0, .float .f64 0] #[ii (f (d + i)), .float .f64 x] (by kernel_rfl) rfl (by simp [Value.oneCell']))
  clear hx hIk hck hln hj hq p1 v1 v2 hi
  go_enter Ybaz.func61, Ybaz.ntmps61
  go_upto_region 2 with (go_at_call 86; refine LO.out.mono ?_; rintro e W1 ⟨rfl, rfl⟩)
  go_wp2_with ((with_reducible (show wpList _ _ _ (⟨_, .store 143 _ _, _, _, _, _⟩ :: _) _ _)); refine wpList_store_as rfl 143 _ _ rfl rfl U.heap.size 0 (.agg #[ii (f (d + i)), .float .f64 x]) rfl rfl ST.out ?_; clear y0 y1 y2)
  go_returns
  exact ⟨rfl, (Kept.refl _ U).alloc _⟩
end Go.Proofs.YbulkdsjeGreatDoor
