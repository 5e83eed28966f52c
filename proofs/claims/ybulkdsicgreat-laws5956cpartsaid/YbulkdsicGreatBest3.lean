import Derived.Test.YbulkdsicGreatPar2
set_option linter.unusedVariables false
set_option linter.unusedSimpArgs false
namespace Go.Proofs.YbulkdsicGreat
open Go.RowKit Go.Shelf

theorem groups_few {pr : Nat → Option Nat} {m k : Nat} {L : List Nat} (h : (groups pr (rt pr m) m)[k]? = some L) : L.length ≤ m := by
  have hk : k < rk pr m := by have := (List.getElem?_eq_some_iff.1 h).1; simpa [groups] using this
  unfold groups at h
  rw [List.getElem?_map, List.getElem?_range hk] at h
  simp at h
  rw [← h]
  exact row_len pr _ m k

set_option maxRecDepth 100000 in
set_option maxHeartbeats 4000000 in
theorem best_par (l : TBl) (names : Nat → ByteArray) (tm : Nat → Value) (steps : Int) (t : Bt) (m : Nat) (mem : Nat → Nat) (pr : Nat → Option Nat) (w : World)
    (hT : TB w l names tm steps []) (h : Bat w t m mem pr) (h2 : 2 ≤ m) (hm : ∀ i, i < m → mem i < l.n) (hinj : ∀ i j, i < m → j < m → mem i = mem j → i = j) (hO : Off l t) (htt : ∀ x, x < l.n → ∃ y, y ≤ 65535 ∧ tm x = .float .f64 (Flt.nat y))
    (hin : ∀ i i' j, i < m → i' < m → pr i = some j → pr i' = some j → i = i') (hK : 2 ≤ rk pr m) :
    Calls Ybaz.prog 10 #[.pointer (some ⟨l.T, 0, none⟩), .agg #[sl t.bm t.om m t.cm, .slice t.sn (2 * cnt pr m) t.cn, sl t.bf t.of (m + 1) t.cf], .float .f64 Flt.inf] w fun e w' =>
      ∃ b xx yy, e = .returned (.agg #[.string ⟨#[]⟩, .bool true, sl b 0 (rk pr m) (rk pr m), .float .f64 (Flt.nat xx), .float .f64 (Flt.nat yy)]) ∧ w.heap.size ≤ b ∧ (∀ (k : Nat) L, (groups pr (rt pr m) m)[k]? = some L → ∃ c0 c1 c2, w'.rangeAt b (k * 3) [c0, c1, c2] ∧ NodeHi w' w.heap.size 2 (chT (fun x => names (mem x)) L) c0 c1 c2) ∧ Kept (fun c => c = l.T ∨ c = l.ba ∨ c = l.mb) w w' := by
  obtain ⟨ks, hksn⟩ : ∃ ks : List ByteArray, ks = [] := ⟨_, rfl⟩
  rw [← hksn] at hT
  have hkey : (⟨((keyL mem pr m).map UInt8.ofNat).toArray⟩ : ByteArray) ∉ ks := by rw [hksn]; simp
  have hgl : (groups pr (rt pr m) m).length = rk pr m := by simp [groups]
  have hfew := h.few
  have hl0 : 0 < l.n := by have := hm 0 (by omega); omega
  have hne1 : ((m : Int) == 1) = false := by
    have : ¬ ((m : Int) = 1) := by omega
    simpa using this
  have hm1 : (1 : Int) < (m : Int) := by omega
  have lT := hT.lt hl0
  obtain ⟨W0, hW0⟩ : ∃ W0, (w.alloc (.cells #[sl t.bm t.om m t.cm, .slice t.sn (2 * cnt pr m) t.cn, sl t.bf t.of (m + 1) t.cf] 53)).alloc (.cells #[.string ⟨#[]⟩, .bool false, .slice none 0 0, .float .f64 0, .float .f64 0] 61) = W0 := ⟨_, rfl⟩
  have hs0 : W0.heap.size = w.heap.size + 2 := by rw [← hW0]; simp only [World.size_alloc]
  have kw0 : Kept (fun _ => False) w W0 := by rw [← hW0]; exact ((Kept.refl _ w).alloc _).alloc _
  have bx0 : W0.rangeAt w.heap.size 0 [sl t.bm t.om m t.cm, .slice t.sn (2 * cnt pr m) t.cn, sl t.bf t.of (m + 1) t.cf] := by rw [← hW0]; exact World.rangeAt_alloc (range_new w [sl t.bm t.om m t.cm, .slice t.sn (2 * cnt pr m) t.cn, sl t.bf t.of (m + 1) t.cf] 53) _
  have rs0 : W0.there (w.heap.size + 1) 0 5 := by
    have := there_new (w.alloc (.cells #[sl t.bm t.om m t.cm, .slice t.sn (2 * cnt pr m) t.cn, sl t.bf t.of (m + 1) t.cf] 53)) [.string ⟨#[]⟩, .bool false, .slice none 0 0, .float .f64 0, .float .f64 0] 61
    rw [World.size_alloc] at this
    rw [← hW0]
    exact this
  have tb0 := hT.kept kw0 (fun _ _ h => h)
  have bat0 : Bat W0 t m mem pr := h.kept kw0 (fun h => h) (fun h => h) (fun _ _ h => h)
  have KEY := hid (key_any t m mem pr W0 bat0 (by omega))
  have z0 : W0.cell? ⟨w.heap.size, 0, none⟩ = some (sl t.bm t.om m t.cm) := by { simpa using (bx0) 0 _ rfl }; have z1 : W0.cell? ⟨w.heap.size, 1, none⟩ = some (.slice t.sn (2 * cnt pr m) t.cn) := by { simpa using (bx0) 1 _ rfl }; have z2 : W0.cell? ⟨w.heap.size, 2, none⟩ = some (sl t.bf t.of (m + 1) t.cf) := by { simpa using (bx0) 2 _ rfl }
  have TB0 := hid tb0
  have BAT0 := hid bat0
  have BX0 := hid bx0
  have RS0 := hid rs0
  have HT := hid hT
  have LT := hid lT
  clear h hT tb0 bat0 bx0 rs0 lT
  go_enter Ybaz.func10, Ybaz.ntmps10
  go_upto_region 1 with (refine wpList_box_as rfl 53 _ rfl #[sl t.bm t.om m t.cm, .slice t.sn (2 * cnt pr m) t.cn, sl t.bf t.of (m + 1) t.cf] rfl (bx53 _ _ _) ?_)
  try rw [hW0]
  clear hW0
  go_upto_region 6 with (first
    | (go_at_call 14; refine KEY.out.mono ?_; rintro e W1 ⟨rfl, bel1⟩; have tb1 := TB0.out.below bel1; have hmp : W1.cell? ⟨l.T, 4, none⟩ = some (.map (some l.mb)) := by { simpa using tb1.st 4 _ rfl }; have hlk := run_lookup_str Ybaz.underlying49 Ybaz.underlying9 tb1.mp (⟨((keyL mem pr m).map UInt8.ofNat).toArray⟩ : ByteArray) hkey (.agg #[.string ⟨#[]⟩, .bool false, .slice none 0 0, .float .f64 0, .float .f64 0]) (fun w => by kernel_rfl); have B1 := hid bel1; clear bel1 tb1 KEY z0 z1 z2)
    | ((with_reducible (show wpList _ _ _ (⟨_, .store 61 _ _, _, _, _, _⟩ :: _) _ _)); refine wpList_store_mid rfl 61 _ _ rfl W1.heap.size 0 #[.string ⟨#[]⟩, .bool false, .slice none 0 0, .float .f64 0, .float .f64 0] rfl rfl (there_new W1 [.string ⟨#[]⟩, .bool false, .slice none 0 0, .float .f64 0, .float .f64 0] 61) (by kernel_rfl) (by simp [Value.oneCell']) ?_))
  go_upto_region 8 with fail
  have hs1 := B1.out.size
  have bg0 : BG w ((W1.alloc (.cells #[.string ⟨#[]⟩, .bool false, .slice none 0 0, .float .f64 0, .float .f64 0] 61)).setCells W1.heap.size 0 [.string ⟨#[]⟩, .bool false, .slice none 0 0, .float .f64 0, .float .f64 0]) l names tm steps ks t m mem pr W1.heap.size := by
    have k1 : Kept (fun c => c = W1.heap.size) W1 ((W1.alloc (.cells #[.string ⟨#[]⟩, .bool false, .slice none 0 0, .float .f64 0, .float .f64 0] 61)).setCells W1.heap.size 0 [.string ⟨#[]⟩, .bool false, .slice none 0 0, .float .f64 0, .float .f64 0]) := ((Kept.refl (fun c => c = W1.heap.size) W1).alloc _).setCells (g := W1.heap.size) (.inl rfl) _ _
    have hlt : ∀ c, c < W1.heap.size → ¬ c = W1.heap.size := fun c hc he => by omega
    have k0 := Kept.ofBelow (E := fun _ => False) B1.out
    refine ⟨⟨k1.range (hlt _ (by omega)) (k0.range (fun h => h) BX0.out), k1.there (hlt _ (by omega)) (k0.there (fun h => h) RS0.out), there_setCells (there_new W1 [.string ⟨#[]⟩, .bool false, .slice none 0 0, .float .f64 0, .float .f64 0] 61) _ _ _⟩, (TB0.out.below B1.out).kept k1 (fun c hc => hlt c (by have := LT.out c hc; omega)), (BAT0.out.below B1.out).kept k1 (fun he => ?_) (fun he => ?_) (fun a ha he => ?_), ?_⟩
    · have := World.block_lt_of_cell? _ _ ((BAT0.out.below B1.out).mem' 0 (by omega)); simp at this; omega
    · have := World.block_lt_of_cell? _ _ ((BAT0.out.below B1.out).frm 0 (by omega)); simp at this; omega
    · have := (BAT0.out.below B1.out).snl a ha; omega
    · have := (Kept.refl (fun _ => False) w).trans kw0
      exact ((this.toBelow (fun _ _ h => h) (Nat.le_refl _)).trans (B1.out.mono (by omega))).trans (k1.toBelow (fun c hc => hlt c (by omega)) (by omega))
  obtain ⟨kv, hkv⟩ : ∃ kv, W1.heap.size = kv := ⟨_, rfl⟩
  rw [hkv] at bg0 ⊢
  have hkvw : w.heap.size + 2 ≤ kv := by omega
  have hkvs : kv < ((W1.alloc (.cells #[.string ⟨#[]⟩, .bool false, .slice none 0 0, .float .f64 0, .float .f64 0] 61)).setCells kv 0 [.string ⟨#[]⟩, .bool false, .slice none 0 0, .float .f64 0, .float .f64 0]).heap.size := by
    have := ((Kept.refl (fun _ => True) (W1.alloc (.cells #[.string ⟨#[]⟩, .bool false, .slice none 0 0, .float .f64 0, .float .f64 0] 61))).setCells (g := kv) (.inl trivial) 0 [.string ⟨#[]⟩, .bool false, .slice none 0 0, .float .f64 0, .float .f64 0]).size
    rw [World.size_alloc, hkv] at this
    omega
  refine wp_as (fun X => BG w X l names tm steps ks t m mem pr kv ∧ kv < X.heap.size) ⟨bg0, hkvs⟩ ?_
  rintro X0 ⟨g, hkx⟩
  clear bg0 hkvs TB0 BAT0 BX0 RS0 B1 hlk hmp hs1 hkv kw0 hs0
  have z0 : X0.cell? ⟨w.heap.size, 0, none⟩ = some (sl t.bm t.om m t.cm) := by { simpa using g.bw.bx 0 _ rfl }; have z1 : X0.cell? ⟨w.heap.size, 1, none⟩ = some (.slice t.sn (2 * cnt pr m) t.cn) := by { simpa using g.bw.bx 1 _ rfl }; have z2 : X0.cell? ⟨w.heap.size, 2, none⟩ = some (sl t.bf t.of (m + 1) t.cf) := by { simpa using g.bw.bx 2 _ rfl }
  have G0 := hid g
  clear g
  have hKi : (1 : Int) < (rk pr m : Int) := by omega
  go_upto_region 20 with (first
    | (go_at_call 15; refine (components_any t m mem pr X0 G0.out.bat (by omega)).mono ?_; rintro e X1 ⟨⟨v, vals, base, rfl, hbase, hor⟩, bel⟩; have hvl : vals.length = rk pr m := by { rw [hor.len, hgl] }; obtain ⟨sa, oc, hv, _⟩ := own_form hor.out; rw [hvl] at hv; subst hv; have g := G0.out.on bel (by omega); have hk1 : kv < X1.heap.size := (by have := bel.size; omega); have HOR := hid hor; have hX0 := G0.out.bel.size; clear z0 z1 z2 hor bel G0; have z0 : X1.cell? ⟨w.heap.size, 0, none⟩ = some (sl t.bm t.om m t.cm) := by { simpa using g.bw.bx 0 _ rfl }; have z1 : X1.cell? ⟨w.heap.size, 1, none⟩ = some (.slice t.sn (2 * cnt pr m) t.cn) := by { simpa using g.bw.bx 1 _ rfl }; have z2 : X1.cell? ⟨w.heap.size, 2, none⟩ = some (sl t.bf t.of (m + 1) t.cf) := by { simpa using g.bw.bx 2 _ rfl }; have G1 := hid g; clear g)
    | (go_at_call 16; refine (parallel_any l names tm steps t m mem pr (groups pr (rt pr m) m) base (.slice sa (rk pr m) oc) vals X1 (by rw [← hksn]; exact G1.out.tb) G1.out.bat (by omega) hm hinj hO htt (by omega) (by have := rk_le pr m; omega) HOR.out (fun k L hL => ⟨(groups_chain G1.out.bat.low hin hL).1, by have := groups_few hL; omega⟩) (fun k k' L L' hL hL' e => by
        obtain ⟨c1, r1⟩ := groups_chain G1.out.bat.low hin hL
        obtain ⟨c2, r2⟩ := groups_chain G1.out.bat.low hin hL'
        have e1 := r1 0 (L.getD 0 0) (by rw [List.getD_eq_getElem?_getD, List.getElem?_eq_getElem c1.pos]; rfl)
        have e2 := r2 0 (L'.getD 0 0) (by rw [List.getD_eq_getElem?_getD, List.getElem?_eq_getElem c2.pos]; rfl)
        rw [e] at e1
        omega) (by have := LT.out l.T (by simp); omega) (by have := LT.out l.ba (by simp); omega) (by have := LT.out l.mb (by simp); omega)).mono ?_; rintro e X5 ⟨b, xx, yy, st', ks', rfl, hbX, hnd, tb5, kp5⟩; rw [hgl]; have bw5 := G1.out.bw.kept kp5 (fun c hc => (by rcases hc with rfl | rfl | rfl; exact LT.out _ (by simp); exact LT.out _ (by simp); exact LT.out _ (by simp))) (by omega); have TH5 := hid bw5.kt; have BW5 := hid bw5; have TB5 := hid tb5; have ND5 := hid hnd; have KP5 := hid (show Kept (fun c => c = l.T ∨ c = l.ba ∨ c = l.mb) w X5 from (Kept.ofBelowW G1.out.bel).trans kp5); have hwX := G1.out.bel.size; clear bw5 tb5 hnd kp5 z0 z1 z2)
    | ((with_reducible (show wpList _ _ _ (⟨_, .store 61 _ _, _, _, _, _⟩ :: _) _ _)); refine wpList_store_mid rfl 61 _ _ rfl kv 0 #[.string ⟨#[]⟩, .bool true, sl b 0 (rk pr m) (rk pr m), .float .f64 (Flt.nat xx), .float .f64 (Flt.nat yy)] rfl rfl TH5.out (by kernel_rfl) (by simp [Value.oneCell']) ?_))
  simp only [Act.put]
  have hT5 := LT.out l.T (by simp)
  have hA5 := LT.out l.ba (by simp)
  have hM5 := LT.out l.mb (by simp)
  refine wp_as (fun Y => Y.rangeAt kv 0 [.string ⟨#[]⟩, .bool true, sl b 0 (rk pr m) (rk pr m), .float .f64 (Flt.nat xx), .float .f64 (Flt.nat yy)] ∧ Y.there (w.heap.size + 1) 0 5 ∧ TB Y l names tm st' ks' ∧ (∀ (k : Nat) L, (groups pr (rt pr m) m)[k]? = some L → ∃ c0 c1 c2, Y.rangeAt b (k * 3) [c0, c1, c2] ∧ NodeHi Y (kv + 1) 2 (chT (fun x => names (mem x)) L) c0 c1 c2) ∧ Kept (fun c => c = l.T ∨ c = l.ba ∨ c = l.mb) w Y) ?_ ?_
  · have k1 : Kept (fun c => c = kv) X5 (X5.setCells kv 0 [.string ⟨#[]⟩, .bool true, sl b 0 (rk pr m) (rk pr m), .float .f64 (Flt.nat xx), .float .f64 (Flt.nat yy)]) := (Kept.refl (fun c => c = kv) X5).setCells (g := kv) (.inl rfl) _ _
    refine ⟨World.rangeAt_setCells_same X5 kv 0 [.string ⟨#[]⟩, .bool true, sl b 0 (rk pr m) (rk pr m), .float .f64 (Flt.nat xx), .float .f64 (Flt.nat yy)] TH5.out, k1.there (fun (e : w.heap.size + 1 = kv) => by omega) BW5.out.rs, TB5.out.kept k1 (fun c hc (he : c = kv) => by have := LT.out c hc; omega), fun k L hL => ?_, Kept.thn KP5.out k1 (fun c hc (he : c = kv) => by omega)⟩
    obtain ⟨c0, c1, c2, h1, h2⟩ := ND5.out k L hL
    exact ⟨c0, c1, c2, k1.range (fun (e : b = kv) => by omega) h1, NodeHi.kept k1 (fun c (hc : c = kv) => by omega) 2 _ _ _ _ (NodeHi.mono (by omega) 2 _ _ _ _ h2)⟩
  rintro Y ⟨rY, tY, tbY, ndY, kpY⟩
  have a0 : Y.cell? ⟨l.T, 5, none⟩ = some (.int .i64 st') := by simpa using tbY.st 5 _ rfl
  have a1 : Y.cell? ⟨l.T, 4, none⟩ = some (.map (some l.mb)) := by simpa using tbY.st 4 _ rfl
  have RY := hid rY
  have TY := hid tY
  have TBY := hid tbY
  have NDY := hid ndY
  have KPY := hid kpY
  clear rY tY tbY ndY kpY TH5 BW5 TB5 ND5 KP5 G1 HOR
  by_cases hst : 0 < st'
  · go_wp2
    refine wp_region_quiet_tail 6 (fun w' => ∃ nq, w' = Y.drewN nq) mixed (by kernel_rfl) ⟨1, rfl⟩ ?_
    dsimp only [List.take, List.drop]
    repeat (first | ((with_reducible (show wpQuiet _ _ _ _ (⟨_, .load 61 _, _, _, _, _⟩ :: _) _)); refine wpQuiet_load_mid rfl 61 _ rfl kv 0 rfl [.string ⟨#[]⟩, .bool true, sl b 0 (rk pr m) (rk pr m), .float .f64 (Flt.nat xx), .float .f64 (Flt.nat yy)] _ (fun _ ⟨nq, hx⟩ => hx ▸ RY.out) Ybaz.underlying61 rfl (by kernel_rfl) ?_; simp only [Act.put, List.setIfInBounds_toArray, List.set_cons_succ, List.set_cons_zero]) | go_big_quiet_step (fail))
    refine wpQuiet_nil ?_
    rintro _ ⟨nq, rfl⟩
    obtain ⟨o, hup⟩ := run_update_str_any Ybaz.underlying49 Ybaz.underlying9 (show MapS (Y.drewN nq) l.mb ks' from TBY.out.mp) (⟨((keyL mem pr m).map UInt8.ofNat).toArray⟩ : ByteArray) (.agg #[.string ⟨#[]⟩, .bool true, sl b 0 (rk pr m) (rk pr m), .float .f64 (Flt.nat xx), .float .f64 (Flt.nat yy)])
    have k2 : Kept (fun c => c = l.mb) Y ((Y.drewN nq).putObj l.mb o) := (Kept.drewN (Kept.refl (fun c => c = l.mb) Y) nq).putObj (.inl rfl) o
    have rZ := k2.range (fun (e : kv = l.mb) => by omega) RY.out
    have tZ := k2.there (fun (e : w.heap.size + 1 = l.mb) => by omega) TY.out
    have RZ := hid rZ
    have TZ := hid tZ
    have K2 := hid k2
    clear rZ tZ k2
    go_wp2_with (first
      | ((with_reducible (show wpList _ _ _ (⟨_, .load 61 _, _, _, _, _⟩ :: _) _ _)); refine wpList_load_mid rfl 61 _ rfl kv 0 rfl _ _ RZ.out Ybaz.underlying61 rfl (by kernel_rfl) ?_; simp only [Act.put, List.setIfInBounds_toArray, List.set_cons_succ, List.set_cons_zero])
      | ((with_reducible (show wpList _ _ _ (⟨_, .store 61 _ _, _, _, _, _⟩ :: _) _ _)); refine wpList_store_mid rfl 61 _ _ rfl (w.heap.size + 1) 0 #[.string ⟨#[]⟩, .bool true, sl b 0 (rk pr m) (rk pr m), .float .f64 (Flt.nat xx), .float .f64 (Flt.nat yy)] rfl rfl TZ.out (by kernel_rfl) (by simp [Value.oneCell']) ?_))
    refine bodyPost_ret (v := .agg #[.string ⟨#[]⟩, .bool true, sl b 0 (rk pr m) (rk pr m), .float .f64 (Flt.nat xx), .float .f64 (Flt.nat yy)]) (results_cell Ybaz.results10 _ _ _ (b := w.heap.size + 1) (o := 0) rfl ?_) rfl ?_
    · exact run_loadVar_mid _ _ _ 61 [.string ⟨#[]⟩, .bool true, sl b 0 (rk pr m) (rk pr m), .float .f64 (Flt.nat xx), .float .f64 (Flt.nat yy)] _ (World.rangeAt_setCells_same _ _ _ _ TZ.out) Ybaz.underlying61 rfl (by kernel_rfl)
    have k3 : Kept (fun c => c = w.heap.size + 1) ((Y.drewN nq).putObj l.mb o) (((Y.drewN nq).putObj l.mb o).setCells (w.heap.size + 1) 0 [.string ⟨#[]⟩, .bool true, sl b 0 (rk pr m) (rk pr m), .float .f64 (Flt.nat xx), .float .f64 (Flt.nat yy)]) := (Kept.refl (fun c => c = w.heap.size + 1) _).setCells (g := w.heap.size + 1) (.inl rfl) _ _
    refine ⟨b, xx, yy, rfl, by omega, fun k L hL => ?_, ?_⟩
    · obtain ⟨c0, c1, c2, h1, h2⟩ := NDY.out k L hL
      exact ⟨c0, c1, c2, k3.range (fun (e : b = w.heap.size + 1) => by omega) (K2.out.range (fun (e : b = l.mb) => by omega) h1), NodeHi.mono (by omega) 2 _ _ _ _ (NodeHi.kept k3 (fun c (hc : c = w.heap.size + 1) => by omega) 2 _ _ _ _ (NodeHi.kept K2.out (fun c (hc : c = l.mb) => by omega) 2 _ _ _ _ h2))⟩
    · exact Kept.thn (Kept.thn KPY.out K2.out (fun c _ h => .inr (.inr h))) k3 (fun c hc (he : c = w.heap.size + 1) => by omega)
  · have hst' : ¬ (st' > 0) := hst
    have hst2 : st' ≤ 0 := by omega
    clear hst hst'
    go_wp2_with (first
      | ((with_reducible (show wpList _ _ _ (⟨_, .load 61 _, _, _, _, _⟩ :: _) _ _)); refine wpList_load_mid rfl 61 _ rfl kv 0 rfl _ _ RY.out Ybaz.underlying61 rfl (by kernel_rfl) ?_; simp only [Act.put, List.setIfInBounds_toArray, List.set_cons_succ, List.set_cons_zero])
      | ((with_reducible (show wpList _ _ _ (⟨_, .store 61 _ _, _, _, _, _⟩ :: _) _ _)); refine wpList_store_mid rfl 61 _ _ rfl (w.heap.size + 1) 0 #[.string ⟨#[]⟩, .bool true, sl b 0 (rk pr m) (rk pr m), .float .f64 (Flt.nat xx), .float .f64 (Flt.nat yy)] rfl rfl TY.out (by kernel_rfl) (by simp [Value.oneCell']) ?_))
    refine bodyPost_ret (v := .agg #[.string ⟨#[]⟩, .bool true, sl b 0 (rk pr m) (rk pr m), .float .f64 (Flt.nat xx), .float .f64 (Flt.nat yy)]) (results_cell Ybaz.results10 _ _ _ (b := w.heap.size + 1) (o := 0) rfl ?_) rfl ?_
    · exact run_loadVar_mid _ _ _ 61 [.string ⟨#[]⟩, .bool true, sl b 0 (rk pr m) (rk pr m), .float .f64 (Flt.nat xx), .float .f64 (Flt.nat yy)] _ (World.rangeAt_setCells_same _ _ _ _ TY.out) Ybaz.underlying61 rfl (by kernel_rfl)
    have k3 : Kept (fun c => c = w.heap.size + 1) Y (Y.setCells (w.heap.size + 1) 0 [.string ⟨#[]⟩, .bool true, sl b 0 (rk pr m) (rk pr m), .float .f64 (Flt.nat xx), .float .f64 (Flt.nat yy)]) := (Kept.refl (fun c => c = w.heap.size + 1) _).setCells (g := w.heap.size + 1) (.inl rfl) _ _
    refine ⟨b, xx, yy, rfl, by omega, fun k L hL => ?_, ?_⟩
    · obtain ⟨c0, c1, c2, h1, h2⟩ := NDY.out k L hL
      exact ⟨c0, c1, c2, k3.range (fun (e : b = w.heap.size + 1) => by omega) h1, NodeHi.mono (by omega) 2 _ _ _ _ (NodeHi.kept k3 (fun c (hc : c = w.heap.size + 1) => by omega) 2 _ _ _ _ h2)⟩
    · exact Kept.thn KPY.out k3 (fun c hc (he : c = w.heap.size + 1) => by omega)
end Go.Proofs.YbulkdsicGreat
