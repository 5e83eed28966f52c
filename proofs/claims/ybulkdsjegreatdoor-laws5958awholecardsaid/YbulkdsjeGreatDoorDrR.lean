import Derived.Test.YbulkdsjeGreatDoorDr
import Derived.Test.YbulkdsjeGreatDoorCkR
set_option linter.unusedVariables false
set_option linter.unusedSimpArgs false
namespace Go.Proofs.YbulkdsjeGreatDoor
open Go.RowKit

theorem zv134 (w : World) : (zeroValue 134).run Ybaz.prog w = .ok (.agg #[.slice none 0 0, .int .i64 0]) w := by kernel_rfl
theorem bk38 (w : World) : Sem.run Ybaz.prog (Instr.build 38 #[]) w = .ok (.agg #[.slice none 0 0, .int .i64 0, .int .i64 0]) w := by kernel_rfl

set_option maxRecDepth 100000 in
set_option maxHeartbeats 4000000 in
theorem dropR_any (S : Nat → Prop) (b o d n k : Nat) (f : Nat → Int) (U : World) (h : CK U S b o d n f) (hk : k ≤ 17179869184) : Calls Ybaz.prog 70 #[.pointer (some ⟨b, o, none⟩), vi k] U fun e w' => e = .returned (.tuple #[]) ∧ DrP U S b o d n f k w' := by
  obtain ⟨sv, m, Cb, co, cc, I, cp, hx⟩ := h
  have c2 := hx.c2
  have tb : U.there b o 3 := fun j hj => ⟨by
    match j, hj with
    | 0, _ => rw [Nat.add_zero, hx.c0]; rfl
    | 1, _ => rw [hx.c1]; rfl
    | 2, _ => rw [hx.c2]; rfl, hx.fr j hj⟩
  have HX := hid hx
  have TB := hid tb
  by_cases hkn : n ≤ k
  · have hki : (n : Int) ≤ (k : Int) := by omega
    clear hx tb
    go_enter Ybaz.func70, Ybaz.ntmps70
    go_wp2_with (first
      | ((with_reducible (show wpList _ _ _ (⟨_, .build 38 _, _, _, _, _⟩ :: _) _ _)); refine wpList_build_as rfl 38 _ rfl (.agg #[.slice none 0 0, .int .i64 0, .int .i64 0]) (bk38 _) ?_; simp only [Act.put, List.setIfInBounds_toArray, List.set_cons_succ, List.set_cons_zero])
      | ((with_reducible (show wpList _ _ _ (⟨_, .store 38 _ _, _, _, _, _⟩ :: _) _ _)); refine wpList_store_mid rfl 38 _ _ rfl b o #[.slice none 0 0, .int .i64 0, .int .i64 0] rfl rfl TB.out (by kernel_rfl) (by simp [Value.oneCell']) ?_))
    refine bodyPost_ret (results_none Ybaz.results70 _ _ _) rfl ?_
    have rg := World.rangeAt_setCells_same U b o [.slice none 0 0, .int .i64 0, .int .i64 0] TB.out
    have fp : FP U (U.setCells b o [.slice none 0 0, .int .i64 0, .int .i64 0]) (fun c j => c = b ∧ o ≤ j ∧ j < o + 3) := FP.setCells2 b [.slice none 0 0, .int .i64 0, .int .i64 0] o U
    exact ⟨rfl, 0, 0, 0, ⟨_, _, _, _, _, _, _, HX.out.emptied fp (rg 0 _ rfl) (rg 1 _ rfl) (rg 2 _ rfl) _⟩, .inl ⟨rfl, rfl⟩, fp.mono (fun _ _ _ h => .inr h)⟩
  · have hki : ¬ (n : Int) ≤ (k : Int) := by omega
    have hm : 0 < m := by have := hx.hi; omega
    have esv : sv = sl Cb co m cc := by
      rcases hx.form with ⟨h0, _⟩ | ⟨_, h1⟩
      · omega
      · exact h1
    subst esv
    obtain ⟨s, hs⟩ : ∃ s, d + k = s := ⟨_, rfl⟩
    obtain ⟨r, hr⟩ : ∃ r, n - k = r := ⟨_, rfl⟩
    have hslt : s ≤ 17179869184 := by have := hx.bd; omega
    have hbd := hx.bd
    have c0 := hx.c0
    have c1 := hx.c1
    have f1 := hx.fr 1 (by omega)
    have f2 := hx.fr 2 (by omega)
    have e1 : (d : Int) + (k : Int) = (s : Int) := by omega
    have e2 : (n : Int) - (k : Int) = (r : Int) := by omega
    have HS := hid hs
    have HR := hid hr
    clear hx tb hs hr
    go_enter Ybaz.func70, Ybaz.ntmps70
    go_upto_region 5 with fail
    obtain ⟨e, he⟩ : ∃ e : Nat, (s : Int) / 256 = (e : Int) := ⟨s / 256, by omega⟩
    have he2 : s / 256 = e := by omega
    obtain ⟨d', hd'⟩ : ∃ d' : Nat, (s : Int) % 256 = (d' : Int) := ⟨s % 256, by omega⟩
    have hd2 : s % 256 = d' := by omega
    rw [he]
    have g1 := FP.set (w := U) b (o + 2) (.int .i64 (r : Int))
    have g2 := FP.set (w := U.setCell ⟨b, o + 2, none⟩ (.int .i64 (r : Int))) b (o + 1) (.int .i64 (s : Int))
    have bl : b < U.heap.size := World.block_lt_of_cell? U _ c0
    have bl2 := Nat.lt_of_lt_of_le bl g1.size
    refine wp_as (fun W => FP U W (fun c j => c = b ∧ o ≤ j ∧ j < o + 3) ∧ W.cell? ⟨b, o, none⟩ = some (sl Cb co m cc) ∧ W.cell? ⟨b, o + 1, none⟩ = some (vi s) ∧ W.cell? ⟨b, o + 2, none⟩ = some (vi r)) ⟨(g1.mono (fun _ _ _ h => ⟨h.1, by omega, by omega⟩)).trans (g2.mono (fun _ _ _ h => ⟨h.1, by omega, by omega⟩)), ?_, ?_, ?_⟩ ?_
    · rw [g2.cell _ _ bl2 (fun h => by omega), g1.cell _ _ bl (fun h => by omega)]; exact c0
    · rw [World.cell?_setCell_same' _ _ _ (by rw [g1.cell _ _ bl (fun h => by omega), c1]; rfl)]
    · rw [g2.cell _ _ bl2 (fun h => by omega), World.cell?_setCell_same' _ _ _ (by rw [c2]; rfl)]
    clear g1 g2 c0 c1 c2 f1 f2 e1 e2 bl2
    rintro W ⟨fW, c0, c1, c2⟩
    have FW := hid fW
    have hCl : Cb < U.heap.size := HX.out.slt _ (HX.out.oc hm)
    have bC : b ≠ Cb := fun x => HX.out.sb (by rw [x]; exact HX.out.oc hm)
    have em : e < m := by have := HX.out.hi; have := HS.out; omega
    have hmc := HX.out.mcc
    have th : ∀ j, j < e * 2 → (W.cell? ⟨Cb, co + j, none⟩).isSome = true ∧ W.frozen? ⟨Cb, co + j, none⟩ = false := fun j hj => by
      rw [fW.cell _ _ hCl (fun h => bC h.1.symm), fW.frz _ _ hCl]
      exact HX.out.row hm j (by omega)
    have TH := hid th
    have eci : (e : Int) ≤ (cc : Int) := by omega
    have emi : (e : Int) ≤ (m : Int) := by omega
    have HE := hid (show s / 256 = e ∧ s % 256 = d' ∧ e < m ∧ m ≤ cc from ⟨he2, hd2, em, hmc⟩)
    have BC := hid (show b ≠ Cb ∧ Cb < U.heap.size ∧ b < U.heap.size from ⟨bC, hCl, bl⟩)
    clear fW th he he2 hd2 em hmc bC hCl bl
    go_upto_region 6 with ((with_reducible (show wpList _ _ _ (⟨_, .call _, _, _, _, _⟩ :: _) _ _)); refine wpList_clr rfl _ 36 134 rfl rfl Ybaz.underlying36 Cb co e cc rfl zv134 TH.out ?_; intro W2 f2 t2; have F2 := hid f2; have T2 := hid t2; clear f2 t2 TH)
    obtain ⟨bC, hCl, bl⟩ := BC.out
    have blW : b < W.heap.size := Nat.lt_of_lt_of_le bl FW.out.size
    have cW : ∀ j, W2.cell? ⟨b, j, none⟩ = W.cell? ⟨b, j, none⟩ := fun j => F2.out.cell _ _ blW (fun h => bC h.1)
    have fU : ∀ j, W2.frozen? ⟨b, j, none⟩ = U.frozen? ⟨b, j, none⟩ := fun j => by rw [F2.out.frz _ _ blW, FW.out.frz _ _ bl]
    have w0 : W2.cell? ⟨b, o, none⟩ = some (sl Cb co m cc) := by rw [cW]; exact c0
    have w1 : W2.cell? ⟨b, o + 1, none⟩ = some (vi s) := by rw [cW]; exact c1
    have w2 : W2.cell? ⟨b, o + 2, none⟩ = some (vi r) := by rw [cW]; exact c2
    have f0 : W2.frozen? ⟨b, o, none⟩ = false := by rw [fU]; exact HX.out.fr 0 (by omega)
    have f1 : W2.frozen? ⟨b, o + 1, none⟩ = false := by rw [fU]; exact HX.out.fr 1 (by omega)
    clear cW fU c0 c1 c2
    go_upto_region 7 with fail
    have hne : ¬ cc = e := by have := HE.out; omega
    rw [if_neg hne]
    have g1 := FP.set (w := W2) b o (sl Cb (co + e * 2) (m - e) (cc - e))
    have bl2 : b < W2.heap.size := Nat.lt_of_lt_of_le blW F2.out.size
    have fA : FP U (W2.setCell ⟨b, o, none⟩ (sl Cb (co + e * 2) (m - e) (cc - e))) (fun c j => (c = Cb ∧ co ≤ j ∧ j < co + e * 2) ∨ (c = b ∧ o ≤ j ∧ j < o + 3)) := ((FW.out.mono (fun _ _ _ h => .inr h)).trans (F2.out.mono (fun _ _ _ h => .inl h))).trans (g1.mono (fun _ _ _ h => .inr ⟨h.1, by omega, by omega⟩))
    have tA : ∀ j, j < e * 2 → ((W2.setCell ⟨b, o, none⟩ (sl Cb (co + e * 2) (m - e) (cc - e))).cell? ⟨Cb, co + j, none⟩).isSome = true := fun j hj => by
      rw [g1.cell _ _ (Nat.lt_of_lt_of_le hCl (Nat.le_trans FW.out.size F2.out.size)) (fun h => bC h.1.symm)]
      exact T2.out j hj
    have w1' : (W2.setCell ⟨b, o, none⟩ (sl Cb (co + e * 2) (m - e) (cc - e))).cell? ⟨b, o + 1, none⟩ = some (vi s) := by rw [g1.cell _ _ bl2 (fun h => by omega)]; exact w1
    have w2' : (W2.setCell ⟨b, o, none⟩ (sl Cb (co + e * 2) (m - e) (cc - e))).cell? ⟨b, o + 2, none⟩ = some (vi r) := by rw [g1.cell _ _ bl2 (fun h => by omega)]; exact w2
    have w0' : (W2.setCell ⟨b, o, none⟩ (sl Cb (co + e * 2) (m - e) (cc - e))).cell? ⟨b, o, none⟩ = some (sl Cb (co + e * 2) (m - e) (cc - e)) := by rw [World.cell?_setCell_same' _ _ _ (by rw [w0]; rfl)]
    have f1' : (W2.setCell ⟨b, o, none⟩ (sl Cb (co + e * 2) (m - e) (cc - e))).frozen? ⟨b, o + 1, none⟩ = false := by rw [World.frozen?_setCell]; exact f1
    obtain ⟨W3, hW3⟩ : ∃ W3, W2.setCell ⟨b, o, none⟩ (sl Cb (co + e * 2) (m - e) (cc - e)) = W3 := ⟨_, rfl⟩
    rw [hW3] at fA tA w1' w2' w0' f1'
    rw [hW3]
    have l3 : b < W3.heap.size := Nat.lt_of_lt_of_le bl fA.size
    have FA := hid fA
    have TA := hid tA
    have hCl3 : Cb < W3.heap.size := Nat.lt_of_lt_of_le hCl fA.size
    clear hW3 fA tA g1 w0 w1 w2 f0 f1 bl2 FW F2 T2 hne blW eci emi
    go_wp2
    go_end0
    have g4 := FP.set (w := W3) b (o + 1) (.int .i64 (d' : Int))
    obtain ⟨he1, hd1, _⟩ := HE.out
    have hs := HS.out
    have hr := HR.out
    have cx := HX.out.dropped (k := k) (e := e) (by omega) (by rw [hs]; exact he1) (FA.out.trans (g4.mono (fun _ _ _ h => .inr ⟨h.1, by omega, by omega⟩))) (by rw [g4.cell _ _ l3 (fun h => by omega)]; exact w0') (by rw [World.cell?_setCell_same' _ _ _ (by rw [w1']; rfl), hs, hd1]) (by rw [g4.cell _ _ l3 (fun h => by omega), hr]; exact w2') (fun j hj => by rw [g4.cell _ _ hCl3 (fun h => bC h.1.symm)]; exact TA.out j hj)
    refine ⟨rfl, _, _, e, ⟨_, _, _, _, _, _, _, cx⟩, .inr ⟨by omega, by omega⟩, (FA.out.trans (g4.mono (fun _ _ _ h => .inr ⟨h.1, by omega, by omega⟩))).mono (fun c j _ h => ?_)⟩
    rcases h with h | h
    · exact .inl (by rw [h.1]; exact HX.out.oc hm)
    · exact .inr h
end Go.Proofs.YbulkdsjeGreatDoor
