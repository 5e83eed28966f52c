import Derived.Test.YbulkdsjeGreatDoorCk
import Derived.Handy
set_option linter.unusedVariables false
set_option linter.unusedSimpArgs false
namespace Go.Proofs.YbulkdsjeGreatDoor
open Go.RowKit


set_option maxRecDepth 100000 in
set_option maxHeartbeats 4000000 in
theorem lenR_any (b o n : Nat) (w : World) (hc : w.cell? ⟨b, o + 2, none⟩ = some (vi n)) : Calls Ybaz.prog 8 #[.pointer (some ⟨b, o, none⟩)] w fun e w' => e = .returned (vi n) ∧ w' = w := by
  go_enter Ybaz.func8, Ybaz.ntmps8
  go_wp2
  go_ret
  exact ⟨rfl, rfl⟩

set_option maxRecDepth 100000 in
set_option maxHeartbeats 4000000 in
theorem locateR_any (b o d n i m Cb co cc : Nat) (w : World) (hi : i < n) (hb : d + n ≤ 17179869184) (hm : (d + i) / 256 < m) (c0 : w.cell? ⟨b, o, none⟩ = some (sl Cb co m cc)) (c1 : w.cell? ⟨b, o + 1, none⟩ = some (vi d)) : Calls Ybaz.prog 78 #[.pointer (some ⟨b, o, none⟩), vi i] w fun e w' => e = .returned (.tuple #[.pointer (some ⟨Cb, co + (d + i) / 256 * 2, none⟩), vi ((d + i) % 256)]) ∧ w' = w := by
  obtain ⟨p, hp⟩ : ∃ p, d + i = p := ⟨_, rfl⟩
  rw [hp] at hm ⊢
  have ep : (d : Int) + (i : Int) = (p : Int) := by omega
  have hp2 : p ≤ 17179869184 := by omega
  have hq : ((p / 256 : Nat) : Int) < (m : Int) := by omega
  clear hi hb
  go_enter Ybaz.func78, Ybaz.ntmps78
  go_wp2
  go_ret2
  exact ⟨rfl, rfl⟩

set_option maxRecDepth 100000 in
set_option maxHeartbeats 4000000 in
theorem ownR_any (b o j : Nat) (w : World) (hc : w.cell? ⟨b, o + 1, none⟩ = some (vi 0)) : Calls Ybaz.prog 89 #[.pointer (some ⟨b, o, none⟩), vi j] w fun e w' => e = .returned (.tuple #[]) ∧ w' = w := by
  go_enter Ybaz.func89, Ybaz.ntmps89
  go_wp2
  go_end0
  exact ⟨rfl, rfl⟩
/-- The item that is read. -/
def AtR (U : World) (f : Nat → Int) (p : Nat) (e : Ending) (w' : World) : Prop := ∃ x, e = .returned (.agg #[ii (f p), .float .f64 x]) ∧ Kept (fun _ => False) U w'

set_option maxRecDepth 100000 in
set_option maxHeartbeats 4000000 in
theorem atR_any (S : Nat → Prop) (b o d n i : Nat) (f : Nat → Int) (U : World) (h : CK U S b o d n f) (hi : i < n) : Calls Ybaz.prog 46 #[.pointer (some ⟨b, o, none⟩), vi i] U fun e w' => AtR U f (d + i) e w' := by
  obtain ⟨sv, m, Cb, co, cc, I, cp, hx⟩ := h
  obtain ⟨p1, p2⟩ := hx.place hi
  obtain ⟨v1, x, v2⟩ := hx.val (d + i) (by omega)
  have hsv : sv = sl Cb co m cc := by
    rcases hx.form with ⟨h0, _⟩ | ⟨_, h1⟩
    · omega
    · exact h1
  subst hsv
  have k0 : Kept (fun _ => False) U (U.alloc (.cells #[.int .i64 0, .float .f64 0] 46)) := (Kept.refl _ U).alloc _
  have LO := hid (locateR_any b o d n i m Cb co cc (U.alloc (.cells #[.int .i64 0, .float .f64 0] 46)) hi hx.bd p1 (k0.cell (p := ⟨b, o, none⟩) (fun h => h) hx.c0) (k0.cell (p := ⟨b, o + 1, none⟩) (fun h => h) hx.c1))
  have y0 := k0.cell (p := ⟨Cb, co + (d + i) / 256 * 2, none⟩) (fun h => h) (hx.ch _ p1).1
  have y1 := k0.cell (p := ⟨I ((d + i) / 256), (d + i) % 256 * 2, none⟩) (fun h => h) v1
  have y2 := k0.cell (p := ⟨I ((d + i) / 256), (d + i) % 256 * 2 + 1, none⟩) (fun h => h) v2
  obtain ⟨ln, hln⟩ : ∃ ln, min 256 (d + n - 256 * ((d + i) / 256)) = ln := ⟨_, rfl⟩
  rw [hln] at y0 p2
  obtain ⟨Ik, hIk⟩ : ∃ Ik, I ((d + i) / 256) = Ik := ⟨_, rfl⟩
  rw [hIk] at y0 y1 y2
  obtain ⟨ck, hck⟩ : ∃ ck, cp ((d + i) / 256) = ck := ⟨_, rfl⟩
  rw [hck] at y0
  obtain ⟨j, hj⟩ : ∃ j, (d + i) % 256 = j := ⟨_, rfl⟩
  rw [hj] at y1 y2 p2 LO
  obtain ⟨q, hq⟩ : ∃ q, (d + i) / 256 = q := ⟨_, rfl⟩
  rw [hq] at y0 LO
  have hji : (j : Int) < (ln : Int) := by omega
  have ST := hid (run_storeAt_new (P := Ybaz.prog) U 46 #[.int .i64 0, .float .f64 0] #[ii (f (d + i)), .float .f64 x] (by kernel_rfl) rfl (by simp [Value.oneCell']))
  clear hx hIk hck hln hj hq p1 v1 v2 hi
  go_enter Ybaz.func46, Ybaz.ntmps46
  go_upto_region 2 with (go_at_call 78; refine LO.out.mono ?_; rintro e W1 ⟨rfl, rfl⟩)
  go_wp2_with ((with_reducible (show wpList _ _ _ (⟨_, .store 46 _ _, _, _, _, _⟩ :: _) _ _)); refine wpList_store_as rfl 46 _ _ rfl rfl U.heap.size 0 (.agg #[ii (f (d + i)), .float .f64 x]) rfl rfl ST.out ?_; clear y0 y1 y2)
  go_returns
  exact ⟨x, rfl, (Kept.refl _ U).alloc _⟩

set_option maxRecDepth 100000 in
set_option maxHeartbeats 4000000 in
theorem ptrR_any (S : Nat → Prop) (b o d n i m Cb co cc : Nat) (f : Nat → Int) (sv : Value) (I cp : Nat → Nat) (U : World) (h : CX U S b o d n f sv m Cb co cc I cp) (hi : i < n) : Calls Ybaz.prog 68 #[.pointer (some ⟨b, o, none⟩), vi i] U fun e w' => e = .returned (.pointer (some ⟨I ((d + i) / 256), (d + i) % 256 * 2, none⟩)) ∧ w' = U := by
  obtain ⟨p1, p2⟩ := h.place hi
  have hsv : sv = sl Cb co m cc := by
    rcases h.form with ⟨h0, _⟩ | ⟨_, h1⟩
    · omega
    · exact h1
  subst hsv
  have LO := hid (locateR_any b o d n i m Cb co cc U hi h.bd p1 h.c0 h.c1)
  obtain ⟨y0, y1⟩ := h.ch _ p1
  have OW := hid (ownR_any Cb (co + (d + i) / 256 * 2) ((d + i) % 256) U y1)
  obtain ⟨ln, hln⟩ : ∃ ln, min 256 (d + n - 256 * ((d + i) / 256)) = ln := ⟨_, rfl⟩
  rw [hln] at y0 p2
  obtain ⟨Ik, hIk⟩ : ∃ Ik, I ((d + i) / 256) = Ik := ⟨_, rfl⟩
  rw [hIk] at y0 ⊢
  obtain ⟨ck, hck⟩ : ∃ ck, cp ((d + i) / 256) = ck := ⟨_, rfl⟩
  rw [hck] at y0
  obtain ⟨j, hj⟩ : ∃ j, (d + i) % 256 = j := ⟨_, rfl⟩
  rw [hj] at p2 LO OW ⊢
  obtain ⟨q, hq⟩ : ∃ q, (d + i) / 256 = q := ⟨_, rfl⟩
  rw [hq] at y0 LO OW
  have hji : (j : Int) < (ln : Int) := by omega
  clear h hIk hck hln hj hq p1 hi y1
  go_enter Ybaz.func68, Ybaz.ntmps68
  go_wp2_with (first | (go_at_call 78; refine LO.out.mono ?_; rintro e W1 ⟨rfl, rfl⟩) | (go_at_call 89; refine OW.out.mono ?_; rintro e W1 ⟨rfl, rfl⟩))
  go_ret
  exact ⟨by simp, rfl⟩
end Go.Proofs.YbulkdsjeGreatDoor
