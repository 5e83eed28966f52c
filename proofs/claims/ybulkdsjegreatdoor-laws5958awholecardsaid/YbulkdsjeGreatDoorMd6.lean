import Derived.Test.YbulkdsjeGreatDoorMd5
import Derived.Test.YbulkdsjeGreatDoorPutR
import Derived.BigQuiet
import Derived.Deep.QuietTactic
set_option linter.unusedVariables false
set_option linter.unusedSimpArgs false
namespace Go.Proofs.YbulkdsjeGreatDoor
open Go.RowKit


set_option maxRecDepth 100000 in
set_option maxHeartbeats 4000000 in
theorem placesOf_any (v : Nat) (U : World) (g : GL U) : Calls Ybaz.prog 45 #[.float .f64 v] U fun e w' => RN 23 e ∧ Kept (fun _ => False) U w' := by
  have G := hid g
  clear g
  go_enter Ybaz.func45, Ybaz.ntmps45
  go_wp2
  go_loopw [7] (fun kv X => ∃ k : Nat, kv = vi k ∧ k ≤ 23 ∧ Kept (fun _ => False) U X) (fun kv _ => 23 - (intOf kv).toNat)
  case atStart => exact ⟨0, rfl, by omega, Kept.refl _ _⟩
  case round =>
    obtain ⟨k, rfl, hk, kx⟩ := hrel
    have KX := hid kx
    clear kx
    have hki : (k : Int) ≤ 23 := by omega
    by_cases more : (k : Int) < 23
    · have TD := hid (toDecimal_any v k (by omega) wr (G.out.kept KX.out (fun h => h) (fun h => h)))
      have HK := hid (show k < 23 by omega)
      clear hk
      go_upto_region 5 with (go_at_call 55; refine TD.out.mono ?_; rintro e W1 ⟨⟨d, o, t, rfl⟩, k1⟩; have K1 := hid (KX.out.trans k1); clear k1 TD)
      clear more
      cases t with
      | true =>
        go_wp2
        go_ret
        exact ⟨⟨k, by have := HK.out; omega, rfl⟩, K1.out⟩
      | false =>
        go_wp2
        go_roundw
        case rel => exact ⟨k + 1, by simp, HK.out, K1.out⟩
        case measure =>
          have := HK.out
          simp [intOf]
          omega
    · go_wp2
      go_ret
      exact ⟨⟨23, by omega, rfl⟩, KX.out⟩
/-- The counts by places. -/
def DP (U : World) (F : Nat) (X : World) : Prop := Kept (fun _ => False) U X ∧ U.heap.size ≤ F ∧ ∀ j, j < 24 → (∃ x : Int, X.cell? ⟨F, j, none⟩ = some (ii x)) ∧ X.frozen? ⟨F, j, none⟩ = false
theorem DP.lt {U X : World} {F : Nat} (h : DP U F X) : F < X.heap.size := by
  obtain ⟨⟨x, hx⟩, _⟩ := h.2.2 0 (by omega)
  exact World.block_lt_of_cell? X _ hx
theorem DP.calm {U X Y : World} {F : Nat} (h : DP U F X) (k : Kept (fun _ => False) X Y) : DP U F Y := by
  have e := k.block F h.lt (fun h => h)
  exact ⟨h.1.trans k, h.2.1, fun j hj => by rw [World.cell?_of_block (a := ⟨F, j, none⟩) e, World.frozen?_of_block (a := ⟨F, j, none⟩) e]; exact h.2.2 j hj⟩
theorem DP.set {U X : World} {F : Nat} (h : DP U F X) {i : Nat} (hi : i < 24) (x : Int) : DP U F (X.setCell ⟨F, i, none⟩ (ii x)) := by
  refine ⟨Kept.thn' h.1 ((Kept.refl (fun c => c = F) X).setCell (p := ⟨F, i, none⟩) (.inl rfl) _) (fun c hc (he : c = F) => by have := h.2.1; omega), h.2.1, fun j hj => ?_⟩
  obtain ⟨⟨y, hy⟩, f⟩ := h.2.2 j hj
  refine ⟨?_, by rw [World.frozen?_setCell]; exact f⟩
  by_cases e : i = j
  · subst e
    exact ⟨x, World.cell?_setCell_same' _ _ _ (by rw [hy]; rfl)⟩
  · exact ⟨y, by rw [World.cell?_setCell_other _ _ _ _ (fun he => e (by have h0 := congrArg Addr.off he; simp at h0; exact h0))]; exact hy⟩
theorem fld46b (v1 v2 : Value) (w : World) : Sem.run Ybaz.prog (Instr.field 46 (.agg #[v1, v2]) 1) w = .ok v2 w := by kernel_rfl
def FV2 (v : Value) : Prop := ∃ y, v = .float .f64 y
def RN1 (m : Nat) (e : Ending) : Prop := ∃ k : Nat, k < m ∧ e = .returned (vi k)

set_option maxRecDepth 100000 in
set_option maxHeartbeats 4000000 in
theorem places_any (S : Nat → Prop) (b o d n : Nat) (f : Nat → Int) (U : World) (h : CK U S b o d n f) (hn : n ≤ 1073741824) (g : GL U) : Calls Ybaz.prog 26 #[.pointer (some ⟨b, o, none⟩)] U fun e w' => RN1 23 e ∧ Kept (fun _ => False) U w' := by
  have HC := hid h
  have G := hid g
  have AT : Hid (∀ i, i < n → ∀ W, Kept (fun _ => False) U W → Calls Ybaz.prog 46 #[.pointer (some ⟨b, o, none⟩), vi i] W fun e w' => AtR W f (d + i) e w') := hid fun i hi W k => atR_any S b o d n i f W (h.kept k (fun h => h) (fun _ _ h => h)) hi
  have LN : Hid (∀ W, Kept (fun _ => False) U W → Calls Ybaz.prog 8 #[.pointer (some ⟨b, o, none⟩)] W fun e w' => e = .returned (vi n) ∧ w' = W) := hid fun W k => lenR_any b o n W (k.cell (p := ⟨b, o + 2, none⟩) (fun h => h) h.c2)
  obtain ⟨sd, hsd⟩ : ∃ sd : Nat, max 1 (n / 256) = sd := ⟨_, rfl⟩
  have esd : max (1 : Int) ((n : Int) / 256) = (sd : Int) := by omega
  have hsb : (sd : Int) ≤ 1073741824 := by omega
  have hs1 : 1 ≤ sd := by omega
  have hni : (n : Int) ≤ 1073741824 := by omega
  have HS := hid hs1
  have D0 := hid (show DP U U.heap.size (U.alloc (.cells (Array.replicate 24 (.int .i64 0)) 126)) from ⟨(Kept.refl _ U).alloc _, Nat.le_refl _, fun j hj => by
    have th := there_new U (List.replicate 24 (.int .i64 0)) 126 j (by simpa using hj)
    rw [Nat.zero_add] at th
    have rg := range_new U (List.replicate 24 (.int .i64 0)) 126 j (.int .i64 0) (by rw [List.getElem?_replicate]; simp [hj])
    rw [Nat.zero_add] at rg
    exact ⟨⟨0, rg⟩, th.2⟩⟩)
  clear h g hsd hs1
  go_enter Ybaz.func26, Ybaz.ntmps26
  go_upto_region 2 with fail
  refine wp_as (fun V => DP U U.heap.size V) D0.out ?_
  intro V dp
  obtain ⟨F, hF⟩ : ∃ F, U.heap.size = F := ⟨_, rfl⟩
  rw [hF] at dp ⊢
  have DV := hid dp
  have LNV := hid (LN.out V dp.1)
  clear dp hF D0
  go_wp2_with (go_at_call 8; refine LNV.out.mono ?_; rintro e W1 ⟨rfl, rfl⟩)
  clear LNV
  go_loopw [5, 6] (fun sv iv X => ∃ i : Nat, IV sv ∧ iv = vi i ∧ i ≤ 2147483648 ∧ DP U F X) (fun _ iv _ => n - (intOf iv).toNat)
  case atStart => exact ⟨0, ⟨0, rfl⟩, rfl, by omega, DV.out⟩
  case round =>
    clear DV
    obtain ⟨i, ⟨sp, rfl⟩, rfl, hi, dp⟩ := hrel
    have DX := hid dp
    have LNX := hid (LN.out wr dp.1)
    have hii : (i : Int) ≤ 2147483648 := by omega
    clear dp hi
    by_cases more : (i : Int) < (n : Int)
    · have HI := hid (show i < n by omega)
      have ATX := hid (AT.out i (by omega) wr DX.out.1)
      go_upto_region 7 with (go_at_call 8; refine LNX.out.mono ?_; rintro e W2 ⟨rfl, rfl⟩)
      clear more
      go_upto_region 8 with (first | (go_at_call 46; refine ATX.out.mono ?_; rintro e W3 ⟨fx, rfl, k3⟩; have D3 := hid (DX.out.calm k3); clear k3 ATX; have PO := hid (placesOf_any fx W3 (G.out.kept D3.out.1 (fun h => h) (fun h => h)))) | (go_at_call 45; refine PO.out.mono ?_; rintro e W4 ⟨⟨k, hk, rfl⟩, k4⟩; have D4 := hid (D3.out.calm k4); clear k4 PO; have HK4 := hid (show k < 24 by omega); obtain ⟨⟨xk, yk⟩, fk⟩ := D4.out.2.2 k (by omega); have hk2 : (k : Int) < 24 := (by omega); clear hk) | ((with_reducible (show wpList _ _ _ (⟨_, .field 46 _ _, _, _, _, _⟩ :: _) _ _)); refine wpList_as (.float .f64 fx) (by kernel_rfl) (run_opfield (fld46b _ _ _)) ?_; simp only [Act.put, List.setIfInBounds_toArray, List.set_cons_succ, List.set_cons_zero]))
      obtain ⟨xn, hxn⟩ : ∃ xn, wrap64 (xk + 1) = xn := ⟨_, rfl⟩
      rw [hxn]
      refine wp_as (fun V => DP U F V) (D4.out.set HK4.out xn) ?_
      intro V5 dp5
      have D5 := hid dp5
      clear dp5 hxn yk fk D3 D4 DX
      have hsi : (i : Int) + (sd : Int) ≤ 2147483648 := by have := HI.out; omega
      go_wp2
      go_roundw
      case rel => exact ⟨i + sd, ⟨_, rfl⟩, by simp, by omega, D5.out⟩
      case measure =>
        have := HI.out
        have := HS.out
        simp [intOf]
        omega
    · go_upto_region 9 with (go_at_call 8; refine LNX.out.mono ?_; rintro e W2 ⟨rfl, rfl⟩)
      clear more AT LN LNX hsb esd hni hii
      go_wp2_with (go_at_call 47; refine (inf_any _ _).mono ?_; rintro e W3 ⟨⟨fi, rfl⟩, rfl⟩)
      go_loopw [7, 8, 9, 41] (fun bv cv xv kv X => ∃ k bb : Nat, bv = vi bb ∧ bb < 23 ∧ FV2 cv ∧ IV xv ∧ kv = vi k ∧ k ≤ 23 ∧ DP U F X) (fun _ _ _ kv _ => 23 - (intOf kv).toNat)
      case atStart => exact ⟨0, 0, rfl, by omega, ⟨_, rfl⟩, ⟨0, rfl⟩, rfl, by omega, DX.out⟩
      case round =>
        clear DX
        obtain ⟨k, bb, rfl, hbb, ⟨cc, rfl⟩, ⟨xx, rfl⟩, rfl, hk, dp⟩ := hrel
        have DX := hid dp
        have HB := hid hbb
        have hki : (k : Int) ≤ 23 := by omega
        clear dp hbb
        by_cases more : (k : Int) < 23
        · have HK := hid (show k < 23 by omega)
          obtain ⟨⟨xk, yk⟩, fk⟩ := DX.out.2.2 k (by omega)
          have hk24 : (k : Int) < 24 := by omega
          clear hk
          go_upto_region 15 with fail
          clear yk fk more
          go_cut [11] from 49 to 61 (fun v w' => FV2 v ∧ DP U F w')
          case first =>
            go_wp2_with (first | (go_at_call 48; refine (Log2_10 _).mono ?_; rintro e W5 ⟨⟨fq, rfl⟩, hd⟩; have K5 := hid hd.kept; clear hd) | ((with_reducible (show wpList _ _ _ (⟨_, .binOp .mul 24 _ _ _, _, _, _, _⟩ :: _) _ _)); refine wpList_fl rfl .mul rfl 24 _ _ _ rfl _ _ rfl rfl ?_; intro fr fn; simp only [Act.put, List.setIfInBounds_toArray, List.set_cons_succ, List.set_cons_zero]) | ((with_reducible (show wpList _ _ _ (⟨_, .binOp .add 24 _ _ _, _, _, _, _⟩ :: _) _ _)); refine wpList_fl rfl .add rfl 24 _ _ _ rfl _ _ rfl rfl ?_; intro fr fn; simp only [Act.put, List.setIfInBounds_toArray, List.set_cons_succ, List.set_cons_zero]))
            go_meet
            case rel => exact ⟨⟨_, rfl⟩, DX.out.calm (Kept.drawn (Kept.drawn (Kept.drawn (Kept.trans (Kept.drawn (Kept.refl _ _) _) K5.out) _) _) _)⟩
          case rest =>
            obtain ⟨⟨co, rfl⟩, dp9⟩ := hcut
            have D9 := hid dp9
            clear dp9 DX
            go_upto_region 16 with fail
            go_cut [64] from 62 to 64 (fun v w' => BV v ∧ DP U F w')
            case first =>
              go_wp2_with (((with_reducible (show wpList _ _ _ (⟨_, .binOp .lss 24 _ _ _, _, _, _, _⟩ :: _) _ _)); refine wpList_fcmp rfl .lss rfl 24 _ _ _ rfl _ _ rfl rfl ?_; intro fb; simp only [Act.put, List.setIfInBounds_toArray, List.set_cons_succ, List.set_cons_zero]))
              go_meet
              case rel => exact ⟨⟨_, rfl⟩, D9.out⟩
            case rest =>
              obtain ⟨⟨bt, rfl⟩, dpA⟩ := hcut
              have DA := hid dpA
              clear dpA D9
              cases bt with
              | true =>
                go_wp2
                go_roundw
                case rel => exact ⟨k + 1, k, rfl, HK.out, ⟨_, rfl⟩, ⟨_, rfl⟩, by simp, HK.out, DA.out⟩
                case measure =>
                  have := HK.out
                  simp [intOf]
                  omega
              | false =>
                go_wp2
                go_roundw
                case rel => exact ⟨k + 1, bb, rfl, HB.out, ⟨_, rfl⟩, ⟨_, rfl⟩, by simp, HK.out, DA.out⟩
                case measure =>
                  have := HK.out
                  simp [intOf]
                  omega
        · go_wp2
          go_ret
          exact ⟨⟨bb, HB.out, rfl⟩, DX.out.1⟩
end Go.Proofs.YbulkdsjeGreatDoor
