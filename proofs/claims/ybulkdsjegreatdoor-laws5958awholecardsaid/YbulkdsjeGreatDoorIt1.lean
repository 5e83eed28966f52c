import Derived.Test.YbulkdsjeGreatDoorCkR
import Derived.Test.YbulkdsjeGreatDoorSmall
import Derived.Handy
set_option linter.unusedVariables false
set_option linter.unusedSimpArgs false
namespace Go.Proofs.YbulkdsjeGreatDoor
open Go.RowKit

attribute [local go_sem] Oper.semAt_some

set_option maxRecDepth 100000 in
set_option maxHeartbeats 4000000 in
theorem values_any (b o : Nat) (w : World) : Calls Ybaz.prog 28 #[.pointer (some ⟨b, o, none⟩)] w fun e w' => e = .returned (.func (.func 50) #[] #[.pointer (some ⟨w.heap.size, 0, none⟩)]) ∧ w' = w.alloc (.cells #[.pointer (some ⟨b, o, none⟩)] 66) := by
  go_enter Ybaz.func28, Ybaz.ntmps28
  go_wp2
  go_ret
  exact ⟨rfl, rfl⟩
/-- What a round keeps: these blocks. -/
def KpS (P : Nat → Prop) (W W' : World) : Prop := ∀ c, P c → W'.heap[c]? = W.heap[c]?
theorem KpS.trans {P : Nat → Prop} {A B C : World} (h : KpS P A B) (k : KpS P B C) : KpS P A C := fun b hb => (k b hb).trans (h b hb)
theorem KpS.refl (P : Nat → Prop) (A : World) : KpS P A A := fun _ _ => rfl
theorem KpS.cell {P : Nat → Prop} {A B : World} (h : KpS P A B) {p : Addr} {v : Value} (hp : P p.block) (hv : A.cell? p = some v) : B.cell? p = some v := by
  rw [World.cell?_of_block (w := A) (h p.block hp)]; exact hv
theorem KpS.putObj {P : Nat → Prop} {n : Nat} (hL : ∀ b, P b → b < n) (W : World) (l : Nat) (o' : Obj) (hl : n ≤ l) : KpS P W (W.putObj l o') := fun b hb => by
  have : l ≠ b := fun e => by have := hL b hb; omega
  simp [World.putObj, this]
theorem KpS.kept {P E : Nat → Prop} {W W' : World} (k : Kept E W W') (h : ∀ c, P c → c < W.heap.size ∧ ¬ E c) : KpS P W W' := fun c hc => k.block c (h c hc).1 (h c hc).2
theorem CX.same {W W' : World} {S : Nat → Prop} {b o d n m Cb co cc : Nat} {f : Nat → Int} {sv : Value} {I cp : Nat → Nat} (h : CX W S b o d n f sv m Cb co cc I cp) (k : KpS (fun c => S c ∨ c = b) W W') : CX W' S b o d n f sv m Cb co cc I cp := by
  have cl : ∀ (c j : Nat), S c ∨ c = b → W'.cell? ⟨c, j, none⟩ = W.cell? ⟨c, j, none⟩ := fun c j hc => World.cell?_of_block (w := W) (w' := W') (a := ⟨c, j, none⟩) (k c hc)
  have fz : ∀ (c j : Nat), S c ∨ c = b → W'.frozen? ⟨c, j, none⟩ = W.frozen? ⟨c, j, none⟩ := fun c j hc => World.frozen?_of_block (w := W) (w' := W') (a := ⟨c, j, none⟩) (k c hc)
  refine ⟨⟨by rw [cl _ _ (.inr rfl)]; exact h.c0, by rw [cl _ _ (.inr rfl)]; exact h.c1, by rw [cl _ _ (.inr rfl)]; exact h.c2, fun j hj => by rw [fz _ _ (.inr rfl)]; exact h.fr j hj, h.form, h.mcc, fun hm j hj => ?_, h.hi, h.d256, fun q hq => ?_, fun q hq j hj => ?_, h.cpl, fun p hp => ?_, h.inj, h.ic, h.oc, h.oi, fun x hx => ?_, h.sb, h.bd⟩, h.lo, h.z⟩
  · rw [cl _ _ (.inl (h.oc hm)), fz _ _ (.inl (h.oc hm))]
    exact h.row hm j hj
  · have hm : 0 < m := by omega
    rw [cl _ _ (.inl (h.oc hm)), cl _ _ (.inl (h.oc hm))]
    exact h.ch q hq
  · rw [cl _ _ (.inl (h.oi q hq)), fz _ _ (.inl (h.oi q hq))]
    exact h.it q hq j hj
  · have hq : p / 256 < m := by have := h.hi; omega
    rw [cl _ _ (.inl (h.oi _ hq)), cl _ _ (.inl (h.oi _ hq))]
    exact h.val p hp
  · have e := k x (.inl hx)
    have := h.slt x hx
    rw [Array.getElem?_eq_getElem this] at e
    exact (Array.getElem?_eq_some_iff.1 e).1
/-- A point as it comes. -/
abbrev PtA := { p : Nat × Nat // 1 ≤ p.1 ∧ p.1 ≤ 8000000000 }
def encP (x : PtA) : Array Value := #[.agg #[vi x.1.1, .float .f64 x.1.2]]
theorem abides {α : Type} {J : List α → World → Prop} {n : Nat} (hJ : AbidesFrom n J) {W : World} {pre : List α} (h : J pre W) (ob : Obj) : J pre (W.alloc ob) := hJ pre W _ none h (World.grownBy_alloc W ob none) (fun r e => by cases e)

set_option maxRecDepth 100000 in
set_option maxHeartbeats 4000000 in
theorem seq_vals {w : World} {S : Nat → Prop} {b o d n m Cb co cc Bx : Nat} {f : Nat → Int} {sv : Value} {I cp : Nat → Nat} (h : CX w S b o d n f sv m Cb co cc I cp) (hB : w.cell? ⟨Bx, 0, none⟩ = some (.pointer (some ⟨b, o, none⟩))) (hf : ∀ p, p < d + n → 1 ≤ f p ∧ f p ≤ 8000000000) :
    SeqStopsK Fence.wide 2 Ybaz.prog 50 #[.pointer (some ⟨Bx, 0, none⟩)] encP (KpS (fun c => S c ∨ c = b ∨ c = Bx)) (fun _ => True) (fun _ => True) n w := by
  intro l J Jx W hW hJ _ hY h0
  have k : Kept (fun _ => False) w W := Kept.ofBelow hW
  have hxW := h.kept k (fun h => h) (fun _ _ h => h)
  have yB := k.cell (p := ⟨Bx, 0, none⟩) (fun h => h) hB
  have lW : ∀ c, (S c ∨ c = b ∨ c = Bx) → c < W.heap.size := fun c hc => by
    rcases hc with hc | hc | hc
    · exact hxW.slt c hc
    · rw [hc]; exact World.block_lt_of_cell? W _ hxW.c0
    · rw [hc]; exact World.block_lt_of_cell? W _ yB
  have c0 := hxW.c0
  have c1 := hxW.c1
  have HX := hid hxW
  have HF := hid hf
  have HY := hid hY
  have HJ := hid hJ
  have LW := hid lW
  have H0 := hid h0
  have hd := hxW.d256
  have hdi : (d : Int) < 256 := by omega
  have hbd := hxW.bd
  have hmb : (m : Int) ≤ 134217728 := by have := hxW.lo; omega
  clear h hB hf hxW hY hJ lW h0 k hW
  refine callsIn_of_wp Ybaz.func50 rfl trivial ?_ rfl
  refine wpIn_wide.2 ?_
  simp only [Ybaz.ntmps50, List.size_toArray, List.length_cons, List.length_nil, Nat.reduceAdd, Nat.reduceSub, Array.replicate_succ, Array.replicate_zero, List.push_toArray, List.append_toArray, List.nil_append, List.cons_append]
  rcases HX.out.form with ⟨hm0, esv⟩ | ⟨hm0, esv⟩
  · subst esv
    subst hm0
    go_wp2
    go_loopw [3, 17] (fun _ kv X => kv = vi 0 ∧ X = W) (fun _ _ _ => 0)
    case atStart => exact ⟨rfl, rfl⟩
    case round =>
      obtain ⟨rfl, ew⟩ := hrel
      rw [ew]
      go_wp2
      refine bodyPost_end (results_none Ybaz.results50 _ _ _) rfl ?_
      exact ⟨⟨_, rfl⟩, .inl ⟨_, trivial, H0.out⟩⟩
  · subst esv
    go_wp2
    have HM := hid hm0
    have hn0 : 0 < n := by
      rcases Nat.eq_zero_or_pos n with e | e
      · have := HX.out.z e
        omega
      · exact e
    have HN0 := hid hn0
    have HD := hid (show d < 256 ∧ d + n ≤ 17179869184 from ⟨hd, hbd⟩)
    clear c0 c1 yB hn0 hm0 hd hbd
    go_loopw [3, 17] (fun s3 kv X => ∃ (sk k : Nat) (pre : List PtA), s3 = vi sk ∧ (sk = if k = 0 then d else 0) ∧ kv = vi k ∧ k ≤ m ∧ J pre X ∧ (k < m → pre.length = 256 * k - d) ∧ KpS (fun c => S c ∨ c = b ∨ c = Bx) W X) (fun _ kv _ => m - (intOf kv).toNat)
    case atStart => exact ⟨d, 0, [], rfl, by simp, rfl, by omega, H0.out, fun _ => by simp, KpS.refl _ _⟩
    case round =>
      obtain ⟨sk, k, pre, rfl, hsk, rfl, hkm, hJp, hlen, kp⟩ := hrel
      have hki : (k : Int) ≤ (m : Int) := by omega
      have HJP := hid hJp
      have KP := hid kp
      have HSK := hid (show (sk = if k = 0 then d else 0) ∧ k ≤ m ∧ (k < m → pre.length = 256 * k - d) from ⟨hsk, hkm, hlen⟩)
      clear hJp kp hsk hkm hlen
      by_cases more : (k : Int) < (m : Int)
      · have hkm : k < m := by omega
        have hx := HX.out.same (fun c hc => KP.out c (hc.elim .inl (fun h => .inr (.inl h))))
        obtain ⟨y0, y1⟩ := hx.ch k hkm
        obtain ⟨Lk, hLk⟩ : ∃ Lk, min 256 (d + n - 256 * k) = Lk := ⟨_, rfl⟩
        have hcp := hx.cpl k hkm
        rw [hLk] at y0 hcp
        obtain ⟨Ik, hIk⟩ : ∃ Ik, I k = Ik := ⟨_, rfl⟩
        obtain ⟨ck, hck⟩ : ∃ ck, cp k = ck := ⟨_, rfl⟩
        rw [hIk, hck] at y0
        rw [hck] at hcp
        have hskL : sk < Lk := by
          have h1 := HSK.out.1
          have h2 := HX.out.lo
          have h3 := HD.out
          have h4 := HN0.out
          by_cases e : k = 0
          · rw [if_pos e] at h1
            subst e
            omega
          · rw [if_neg e] at h1
            omega
        have g1 : (sk : Int) ≤ (Lk : Int) := by omega
        have g2 : (sk : Int) ≤ (ck : Int) := by omega
        have g3 : ¬ ck = sk := by omega
        have g4 : (Lk : Int) ≤ 256 := by omega
        have g5 : (ck : Int) ≤ 256 := by omega
        have HK := hid (show k < m ∧ min 256 (d + n - 256 * k) = Lk ∧ I k = Ik ∧ sk < Lk ∧ Lk ≤ ck from ⟨hkm, hLk, hIk, hskL, hcp.1⟩)
        have ST := hid (run_storeAt_new (P := Ybaz.prog) wr 134 #[.slice none 0 0, .int .i64 0] #[sl Ik 0 Lk ck, vi 0] (by kernel_rfl) rfl (by simp [Value.oneCell']))
        clear hx hkm hLk hIk hck hskL hcp
        go_upto_region 4 with ((with_reducible (show wpList _ _ _ (⟨_, .store 134 _ _, _, _, _, _⟩ :: _) _ _)); refine wpList_store_as rfl 134 _ _ rfl rfl wr.heap.size 0 (.agg #[sl Ik 0 Lk ck, vi 0]) rfl rfl ST.out ?_)
        clear y0 y1 more
        have lwr : ∀ c, (S c ∨ c = b ∨ c = Bx) → c < wr.heap.size := fun c hc => by
          have e := KP.out c hc
          rw [Array.getElem?_eq_getElem (LW.out c hc)] at e
          exact (Array.getElem?_eq_some_iff.1 e).1
        refine wp_as (fun X => J pre X ∧ KpS (fun c => S c ∨ c = b ∨ c = Bx) W X ∧ X.cell? ⟨wr.heap.size, 0, none⟩ = some (sl Ik 0 Lk ck)) ⟨abides HJ.out HJP.out _, KP.out.trans (KpS.kept ((Kept.refl (fun _ => False) wr).alloc _) (fun c hc => ⟨lwr c hc, fun h => h⟩)), range_new wr [sl Ik 0 Lk ck, vi 0] 134 0 _ rfl⟩ ?_
        rintro X ⟨hJX, kX, cX⟩
        obtain ⟨nb, hnb⟩ : ∃ nb, wr.heap.size = nb := ⟨_, rfl⟩
        rw [hnb] at cX ⊢
        have HJX := hid hJX
        have KX := hid kX
        clear hJX kX hnb lwr ST HJP KP
        go_wp2
        clear cX g3
        obtain ⟨len, hlen⟩ : ∃ len, Lk - sk = len := ⟨_, rfl⟩
        rw [hlen]
        have HLN := hid hlen
        have hleni : (len : Int) ≤ 256 := by omega
        clear hlen
        go_loopw [26] (fun jv X => ∃ (j : Nat) (pre2 : List PtA), jv = vi j ∧ j ≤ len ∧ J pre2 X ∧ pre2.length = 256 * k + sk + j - d ∧ KpS (fun c => S c ∨ c = b ∨ c = Bx) W X) (fun jv _ => len - (intOf jv).toNat)
        case atStart =>
          refine ⟨0, pre, rfl, by omega, HJX.out, ?_, KX.out⟩
          have h1 := HSK.out.1
          rw [HSK.out.2.2 HK.out.1]
          by_cases e : k = 0
          · rw [if_pos e] at h1
            omega
          · rw [if_neg e] at h1
            omega
        case round =>
          clear HJX KX
          obtain ⟨j, pre2, rfl, hj, hJ2, hlen2, k2⟩ := hrel
          have hji : (j : Int) ≤ 256 := by omega
          have HJ2 := hid hJ2
          have K2 := hid k2
          have HQ := hid (show j ≤ len ∧ pre2.length = 256 * k + sk + j - d from ⟨hj, hlen2⟩)
          clear hJ2 k2 hj hlen2
          by_cases m2 : (j : Int) < (len : Int)
          · have hp : 256 * k + sk + j < d + n := by
              have := HK.out
              have := HLN.out
              omega
            have hx := HX.out.same (fun c hc => K2.out c (hc.elim .inl (fun h => .inr (.inl h))))
            obtain ⟨v1, x, v2⟩ := hx.val (256 * k + sk + j) hp
            have hs256 : sk + j < 256 := by
              have := HK.out
              have := HLN.out
              omega
            rw [show (256 * k + sk + j) / 256 = k by omega, show (256 * k + sk + j) % 256 * 2 = sk * 2 + j * 2 by omega, HK.out.2.2.1] at v1 v2
            obtain ⟨t, ht⟩ : ∃ t : Nat, f (256 * k + sk + j) = (t : Int) := ⟨(f (256 * k + sk + j)).toNat, by have := HF.out _ hp; omega⟩
            have htb := HF.out _ hp
            rw [ht] at htb v1
            have HP := hid (show (1 ≤ t ∧ t ≤ 8000000000) ∧ j < len ∧ pre2.length < n from ⟨⟨by omega, by omega⟩, by omega, by have := HQ.out; have := HN0.out; have h9 := HSK.out.1; by_cases e : k = 0 <;> simp [e] at h9 <;> omega⟩)
            have ST := hid (run_storeAt_new (P := Ybaz.prog) wr 46 #[.int .i64 0, .float .f64 0] #[vi t, .float .f64 x] (by kernel_rfl) rfl (by simp [Value.oneCell']))
            clear hx hp hs256 ht htb
            go_upto_region 7 with ((with_reducible (show wpList _ _ _ (⟨_, .store 46 _ _, _, _, _, _⟩ :: _) _ _)); refine wpList_store_as rfl 46 _ _ rfl rfl wr.heap.size 0 (.agg #[vi t, .float .f64 x]) rfl rfl ST.out ?_)
            clear v1 v2 m2
            have lwr : ∀ c, (S c ∨ c = b ∨ c = Bx) → c < wr.heap.size := fun c hc => by
              have e := K2.out c hc
              rw [Array.getElem?_eq_getElem (LW.out c hc)] at e
              exact (Array.getElem?_eq_some_iff.1 e).1
            refine wp_as (fun X => J pre2 X ∧ KpS (fun c => S c ∨ c = b ∨ c = Bx) W X ∧ X.cell? ⟨wr.heap.size, 0, none⟩ = some (vi t) ∧ X.cell? ⟨wr.heap.size, 1, none⟩ = some (.float .f64 x)) ⟨abides HJ.out HJ2.out _, K2.out.trans (KpS.kept ((Kept.refl (fun _ => False) wr).alloc _) (fun c hc => ⟨lwr c hc, fun h => h⟩)), range_new wr [vi t, .float .f64 x] 46 0 _ rfl, range_new wr [vi t, .float .f64 x] 46 1 _ rfl⟩ ?_
            rintro X2 ⟨hJ3, k3, q0, q1⟩
            obtain ⟨nb2, hnb2⟩ : ∃ nb2, wr.heap.size = nb2 := ⟨_, rfl⟩
            rw [hnb2] at q0 q1 ⊢
            obtain ⟨fn, tmps, assign, body, hy, hR⟩ := HY.out pre2 ⟨(t, x), HP.out.1⟩ X2 hJ3 HP.out.2.2
            have K3 := hid k3
            have HRR := hid hR
            clear hJ3 k3 hnb2 lwr ST HJ2 K2 hR
            dsimp only [encP] at hy
            refine (wpIn_wide (n := 2)).1 ?_
            gi_wp2
            refine HRR.out.mono ?_
            rintro e W3 (⟨rfl, hJ4, hk4⟩ | ⟨rfl, hJx4⟩)
            · have HJ4 := hid hJ4
              have K4 := hid (K3.out.trans hk4)
              clear hJ4 hk4 hy HRR K3 q0 q1
              gi_wp2
              go_wp2
              go_roundw
              case rel => exact ⟨j + 1, pre2 ++ [⟨(t, x), HP.out.1⟩], by simp, HP.out.2.1, HJ4.out, by have := HQ.out; simp; have h9 := HSK.out.1; by_cases e : k = 0 <;> simp [e] at h9 <;> omega, K4.out⟩
              case measure =>
                have := HP.out.2.1
                simp [intOf]
                omega
            · have HJX4 := hid hJx4
              clear hJx4 hy HRR K3 q0 q1
              gi_wp2
              go_wp2
              refine bodyPost_ret (results_none Ybaz.results50 _ _ _) rfl ?_
              first | exact ⟨⟨_, rfl⟩, .inr ⟨_, trivial, HJX4.out⟩⟩ | exact ⟨⟨_, rfl⟩, .inr ⟨_, HJX4.out⟩⟩
          · go_wp2
            go_roundw
            case rel =>
              refine ⟨0, k + 1, pre2, rfl, by simp, by simp, HK.out.1, HJ2.out, fun hk1 => ?_, K2.out⟩
              have h1 := HQ.out
              have h2 := HK.out
              have h3 := HLN.out
              have h4 := HX.out.lo
              have h5 := HD.out
              omega
            case measure =>
              have := HK.out.1
              simp [intOf]
              omega
      · go_wp2
        refine bodyPost_end (results_none Ybaz.results50 _ _ _) rfl ?_
        first | exact ⟨⟨_, rfl⟩, .inl ⟨_, trivial, HJP.out⟩⟩ | exact ⟨⟨_, rfl⟩, .inl ⟨_, HJP.out⟩⟩
end Go.Proofs.YbulkdsjeGreatDoor
