import Derived.Test.YbulkdsicGreatSeq2
import Derived.Test.YbulkdsicGreatPart2
import Derived.Test.YbulkdsicGreatSer2
set_option linter.unusedVariables false
set_option linter.unusedSimpArgs false
namespace Go.Proofs.YbulkdsicGreat
open Go.RowKit Go.Shelf

theorem rk_chain (pr : Nat → Option Nat) (hp0 : pr 0 = none) : ∀ m, (∀ k, k + 1 < m → pr (k + 1) = some k) → 0 < m → rk pr m = 1
  | 0, _, h => by omega
  | 1, _, _ => by simp [rk, hp0]
  | m + 2, h, _ => by
    have ih := rk_chain pr hp0 (m + 1) (fun k hk => h k (by omega)) (by omega)
    simp only [rk] at ih ⊢
    rw [ih, h m (by omega)]
    rfl
theorem Kept.ofBelowW {E : Nat → Prop} {w w' : World} (h : Below w.heap.size w w') : Kept E w w' := ⟨h.os, h.tape, h.output, h.size, fun k hk _ => h.block k hk⟩
/-- best's own: the batch's box, the result's room, the variable k's room. -/
structure BW (w X : World) (b0 b1 b2 : Value) (kv : Nat) : Prop where
  bx : X.rangeAt w.heap.size 0 [b0, b1, b2]
  rs : X.there (w.heap.size + 1) 0 5
  kt : X.there kv 0 5
theorem BW.kept {E : Nat → Prop} {w X X' : World} {b0 b1 b2 : Value} {kv : Nat} (h : BW w X b0 b1 b2 kv) (k : Kept E X X') (hE : ∀ c, E c → c < w.heap.size) (hkv : w.heap.size ≤ kv) : BW w X' b0 b1 b2 kv :=
  ⟨k.range (fun he => by have := hE _ he; omega) h.bx, k.there (fun he => by have := hE _ he; omega) h.rs, k.there (fun he => by have := hE _ he; omega) h.kt⟩

/-- .. with the tree builder and the batch. -/
structure BG (w X : World) (l : TBl) (names : Nat → ByteArray) (tm : Nat → Value) (steps : Int) (ks : List ByteArray) (t : Bt) (m : Nat) (mem : Nat → Nat) (pr : Nat → Option Nat) (kv : Nat) : Prop where
  bw : BW w X (sl t.bm t.om m t.cm) (.slice t.sn (2 * cnt pr m) t.cn) (sl t.bf t.of (m + 1) t.cf) kv
  tb : TB X l names tm steps ks
  bat : Bat X t m mem pr
  bel : Below w.heap.size w X
theorem BG.on {w X X' : World} {l : TBl} {names : Nat → ByteArray} {tm : Nat → Value} {steps : Int} {ks : List ByteArray} {t : Bt} {m : Nat} {mem : Nat → Nat} {pr : Nat → Option Nat} {kv : Nat} (h : BG w X l names tm steps ks t m mem pr kv) (b : Below X.heap.size X X') (hkv : w.heap.size ≤ kv) : BG w X' l names tm steps ks t m mem pr kv :=
  ⟨h.bw.kept (Kept.ofBelow (E := fun _ => False) b) (fun _ h => h.elim) hkv, h.tb.below b, h.bat.below b, h.bel.trans (b.mono h.bel.size)⟩

set_option maxRecDepth 100000 in
set_option maxHeartbeats 4000000 in
theorem best_chain (l : TBl) (names : Nat → ByteArray) (tm : Nat → Value) (steps : Int) (ks : List ByteArray) (t : Bt) (m : Nat) (mem : Nat → Nat) (pr : Nat → Option Nat) (tt : Nat → Nat) (w : World)
    (hT : TB w l names tm steps ks) (h : Bat w t m mem pr) (h2 : 2 ≤ m) (hm : ∀ i, i < m → mem i < l.n) (hinj : ∀ i j, i < m → j < m → mem i = mem j → i = j) (hO : Off l t) (htt : ∀ k, k < m → tm (mem k) = .float .f64 (Flt.nat (tt k)) ∧ tt k ≤ 65535)
    (hp0 : pr 0 = none) (hp1 : ∀ k, k + 1 < m → pr (k + 1) = some k) (hkey : (⟨((keyL mem pr m).map UInt8.ofNat).toArray⟩ : ByteArray) ∉ ks) :
    Calls Ybaz.prog 10 #[.pointer (some ⟨l.T, 0, none⟩), .agg #[sl t.bm t.om m t.cm, .slice t.sn (2 * cnt pr m) t.cn, sl t.bf t.of (m + 1) t.cf], .float .f64 Flt.inf] w fun e w' =>
      ∃ b x st' ks', e = .returned (.agg #[.string ⟨#[]⟩, .bool false, sl b 0 m m, .float .f64 (Flt.nat x), .float .f64 (Flt.nat x)]) ∧ x ≤ 65535 * m ∧ w.heap.size ≤ b ∧ (∀ j, j < m → w'.rangeAt b (j * 3) (leafC (names (mem j)))) ∧ TB w' l names tm st' ks' ∧ (ks' = ks ∨ ks' = ks ++ [(⟨((keyL mem pr m).map UInt8.ofNat).toArray⟩ : ByteArray)]) ∧ Kept (fun x => x = l.T ∨ x = l.ba ∨ x = l.mb) w w' := by
  have hfew := h.few
  have hl0 : 0 < l.n := by have := hm 0 (by omega); omega
  have hne1 : ((m : Int) == 1) = false := by
    have : ¬ ((m : Int) = 1) := by omega
    simpa using this
  have hm1 : (1 : Int) < (m : Int) := by omega
  have lT := hT.lt hl0
  have SB := hid (show ∀ k, k ≤ m → sumT tt k ≤ 65535 * k from fun k hk => sumT_le tt k (fun j hj => (htt j (by omega)).2))
  obtain ⟨W0, hW0⟩ : ∃ W0, (w.alloc (.cells #[sl t.bm t.om m t.cm, .slice t.sn (2 * cnt pr m) t.cn, sl t.bf t.of (m + 1) t.cf] 53)).alloc (.cells #[.string ⟨#[]⟩, .bool false, .slice none 0 0, .float .f64 0, .float .f64 0] 61) = W0 := ⟨_, rfl⟩
  have hs0 : W0.heap.size = w.heap.size + 2 := by rw [← hW0]; simp only [World.size_alloc]
  have kw0 : Kept (fun _ => False) w W0 := by rw [← hW0]; exact ((Kept.refl _ w).alloc _).alloc _
  have bx0 : W0.rangeAt w.heap.size 0 [sl t.bm t.om m t.cm, .slice t.sn (2 * cnt pr m) t.cn, sl t.bf t.of (m + 1) t.cf] := by rw [← hW0]; exact World.rangeAt_alloc (range_new w [sl t.bm t.om m t.cm, .slice t.sn (2 * cnt pr m) t.cn, sl t.bf t.of (m + 1) t.cf] 53) _
  have rs0 : W0.there (w.heap.size + 1) 0 5 := by
    have := there_new (w.alloc (.cells #[sl t.bm t.om m t.cm, .slice t.sn (2 * cnt pr m) t.cn, sl t.bf t.of (m + 1) t.cf] 53)) [.string ⟨#[]⟩, .bool false, .slice none 0 0, .float .f64 0, .float .f64 0] 61
    rw [World.size_alloc] at this
    rw [← hW0]
    exact this
  have tb0 := hT.kept kw0 (fun _ _ h => h)
  have bat0 : Bat W0 t m mem pr := h.kept kw0 (fun h => h) (fun h => h) (fun _ _ h => h)
  have KEY := hid (key_any t m mem pr W0 bat0 (by omega))
  have z0 : W0.cell? ⟨w.heap.size, 0, none⟩ = some (sl t.bm t.om m t.cm) := by { simpa using (bx0) 0 _ rfl }; have z1 : W0.cell? ⟨w.heap.size, 1, none⟩ = some (.slice t.sn (2 * cnt pr m) t.cn) := by { simpa using (bx0) 1 _ rfl }; have z2 : W0.cell? ⟨w.heap.size, 2, none⟩ = some (sl t.bf t.of (m + 1) t.cf) := by { simpa using (bx0) 2 _ rfl }
  have TB0 := hid tb0
  have BAT0 := hid bat0
  have BX0 := hid bx0
  have RS0 := hid rs0
  have HT := hid hT
  have LT := hid lT
  clear h hT tb0 bat0 bx0 rs0 lT
  go_enter Ybaz.func10, Ybaz.ntmps10
  go_upto_region 1 with (refine wpList_box_as rfl 53 _ rfl #[sl t.bm t.om m t.cm, .slice t.sn (2 * cnt pr m) t.cn, sl t.bf t.of (m + 1) t.cf] rfl (bx53 _ _ _) ?_)
  try rw [hW0]
  clear hW0
  go_upto_region 6 with (first
    | (go_at_call 14; refine KEY.out.mono ?_; rintro e W1 ⟨rfl, bel1⟩; have tb1 := TB0.out.below bel1; have hmp : W1.cell? ⟨l.T, 4, none⟩ = some (.map (some l.mb)) := by { simpa using tb1.st 4 _ rfl }; have hlk := run_lookup_str Ybaz.underlying49 Ybaz.underlying9 tb1.mp (⟨((keyL mem pr m).map UInt8.ofNat).toArray⟩ : ByteArray) hkey (.agg #[.string ⟨#[]⟩, .bool false, .slice none 0 0, .float .f64 0, .float .f64 0]) (fun w => by kernel_rfl); have B1 := hid bel1; clear bel1 tb1 KEY z0 z1 z2)
    | ((with_reducible (show wpList _ _ _ (⟨_, .store 61 _ _, _, _, _, _⟩ :: _) _ _)); refine wpList_store_mid rfl 61 _ _ rfl W1.heap.size 0 #[.string ⟨#[]⟩, .bool false, .slice none 0 0, .float .f64 0, .float .f64 0] rfl rfl (there_new W1 [.string ⟨#[]⟩, .bool false, .slice none 0 0, .float .f64 0, .float .f64 0] 61) (by kernel_rfl) (by simp [Value.oneCell']) ?_))
  go_upto_region 8 with fail
  have hs1 := B1.out.size
  have bg0 : BG w ((W1.alloc (.cells #[.string ⟨#[]⟩, .bool false, .slice none 0 0, .float .f64 0, .float .f64 0] 61)).setCells W1.heap.size 0 [.string ⟨#[]⟩, .bool false, .slice none 0 0, .float .f64 0, .float .f64 0]) l names tm steps ks t m mem pr W1.heap.size := by
    have k1 : Kept (fun c => c = W1.heap.size) W1 ((W1.alloc (.cells #[.string ⟨#[]⟩, .bool false, .slice none 0 0, .float .f64 0, .float .f64 0] 61)).setCells W1.heap.size 0 [.string ⟨#[]⟩, .bool false, .slice none 0 0, .float .f64 0, .float .f64 0]) := ((Kept.refl (fun c => c = W1.heap.size) W1).alloc _).setCells (g := W1.heap.size) (.inl rfl) _ _
    have hlt : ∀ c, c < W1.heap.size → ¬ c = W1.heap.size := fun c hc he => by omega
    have k0 := Kept.ofBelow (E := fun _ => False) B1.out
    refine ⟨⟨k1.range (hlt _ (by omega)) (k0.range (fun h => h) BX0.out), k1.there (hlt _ (by omega)) (k0.there (fun h => h) RS0.out), there_setCells (there_new W1 [.string ⟨#[]⟩, .bool false, .slice none 0 0, .float .f64 0, .float .f64 0] 61) _ _ _⟩, (TB0.out.below B1.out).kept k1 (fun c hc => hlt c (by have := LT.out c hc; omega)), (BAT0.out.below B1.out).kept k1 (fun he => ?_) (fun he => ?_) (fun a ha he => ?_), ?_⟩
    · have := World.block_lt_of_cell? _ _ ((BAT0.out.below B1.out).mem' 0 (by omega)); simp at this; omega
    · have := World.block_lt_of_cell? _ _ ((BAT0.out.below B1.out).frm 0 (by omega)); simp at this; omega
    · have := (BAT0.out.below B1.out).snl a ha; omega
    · have := (Kept.refl (fun _ => False) w).trans kw0
      exact ((this.toBelow (fun _ _ h => h) (Nat.le_refl _)).trans (B1.out.mono (by omega))).trans (k1.toBelow (fun c hc => hlt c (by omega)) (by omega))
  obtain ⟨kv, hkv⟩ : ∃ kv, W1.heap.size = kv := ⟨_, rfl⟩
  rw [hkv] at bg0 ⊢
  have hkvw : w.heap.size + 2 ≤ kv := by omega
  have hkvs : kv < ((W1.alloc (.cells #[.string ⟨#[]⟩, .bool false, .slice none 0 0, .float .f64 0, .float .f64 0] 61)).setCells kv 0 [.string ⟨#[]⟩, .bool false, .slice none 0 0, .float .f64 0, .float .f64 0]).heap.size := by
    have := ((Kept.refl (fun _ => True) (W1.alloc (.cells #[.string ⟨#[]⟩, .bool false, .slice none 0 0, .float .f64 0, .float .f64 0] 61))).setCells (g := kv) (.inl trivial) 0 [.string ⟨#[]⟩, .bool false, .slice none 0 0, .float .f64 0, .float .f64 0]).size
    rw [World.size_alloc, hkv] at this
    omega
  refine wp_as (fun X => BG w X l names tm steps ks t m mem pr kv ∧ kv < X.heap.size) ⟨bg0, hkvs⟩ ?_
  rintro X0 ⟨g, hkx⟩
  clear bg0 hkvs TB0 BAT0 BX0 RS0 B1 hlk hmp hs1 hkv kw0 hs0
  have z0 : X0.cell? ⟨w.heap.size, 0, none⟩ = some (sl t.bm t.om m t.cm) := by { simpa using g.bw.bx 0 _ rfl }; have z1 : X0.cell? ⟨w.heap.size, 1, none⟩ = some (.slice t.sn (2 * cnt pr m) t.cn) := by { simpa using g.bw.bx 1 _ rfl }; have z2 : X0.cell? ⟨w.heap.size, 2, none⟩ = some (sl t.bf t.of (m + 1) t.cf) := by { simpa using g.bw.bx 2 _ rfl }
  have G0 := hid g
  clear g
  go_upto_region 20 with (first
    | (go_at_call 15; refine (components_any t m mem pr X0 G0.out.bat (by omega)).mono ?_; rintro e X1 ⟨⟨v, vals, base, rfl, hbase, hor⟩, bel⟩; have hvl : vals.length = 1 := by { rw [hor.len]; simp [groups, rk_chain pr hp0 m hp1 (by omega)] }; obtain ⟨sa, oc, hv, _⟩ := own_form hor.out; rw [hvl] at hv; subst hv; have g := G0.out.on bel (by omega); have hk1 : kv < X1.heap.size := (by have := bel.size; omega); clear z0 z1 z2 hor hbase bel G0; have z0 : X1.cell? ⟨w.heap.size, 0, none⟩ = some (sl t.bm t.om m t.cm) := by { simpa using g.bw.bx 0 _ rfl }; have z1 : X1.cell? ⟨w.heap.size, 1, none⟩ = some (.slice t.sn (2 * cnt pr m) t.cn) := by { simpa using g.bw.bx 1 _ rfl }; have z2 : X1.cell? ⟨w.heap.size, 2, none⟩ = some (sl t.bf t.of (m + 1) t.cf) := by { simpa using g.bw.bx 2 _ rfl }; have G1 := hid g; clear g)
    | (go_at_call 17; refine (choice_any t m mem pr X1 G1.out.bat).mono ?_; rintro e X2 ⟨rfl, bel⟩; have g := G1.out.on bel (by omega); have hk2 : kv < X2.heap.size := (by have := bel.size; omega); clear z0 z1 z2 bel G1; have z0 : X2.cell? ⟨w.heap.size, 0, none⟩ = some (sl t.bm t.om m t.cm) := by { simpa using g.bw.bx 0 _ rfl }; have z1 : X2.cell? ⟨w.heap.size, 1, none⟩ = some (.slice t.sn (2 * cnt pr m) t.cn) := by { simpa using g.bw.bx 1 _ rfl }; have z2 : X2.cell? ⟨w.heap.size, 2, none⟩ = some (sl t.bf t.of (m + 1) t.cf) := by { simpa using g.bw.bx 2 _ rfl }; have G2 := hid g; clear g)
    | (go_at_call 19; refine (part_any l names tm steps ks t m mem pr tt X2 G2.out.tb G2.out.bat h2 hm hp0 hp1 htt).mono ?_; rintro e X3 ⟨⟨Pb, bp, bs, bt, rfl, pc⟩, bel⟩; have g := G2.out.on bel (by omega); have hk3 : kv < X3.heap.size := (by have := bel.size; omega); have PC := hid pc; clear z0 z1 z2 bel G2 pc; have z0 : X3.cell? ⟨w.heap.size, 0, none⟩ = some (sl t.bm t.om m t.cm) := by { simpa using g.bw.bx 0 _ rfl }; have z1 : X3.cell? ⟨w.heap.size, 1, none⟩ = some (.slice t.sn (2 * cnt pr m) t.cn) := by { simpa using g.bw.bx 1 _ rfl }; have z2 : X3.cell? ⟨w.heap.size, 2, none⟩ = some (sl t.bf t.of (m + 1) t.cf) := by { simpa using g.bw.bx 2 _ rfl }; have G3' := hid g; clear g)
    | (go_at_call 20; refine (series_any Pb m t.bm t.om t.cm bp m bs m bt m (fun k => Flt.nat (sumT tt k)) h2 hfew X3 PC.out (fun i j hj hi w => Flt.run_lss w 36 _ _ (by have := SB.out i (by omega); omega) (by have := SB.out j (by omega); omega) (sumT_mono tt (by omega)))).mono ?_; rintro e X4 ⟨⟨v, vals4, base4, rfl, hbase, hor⟩, bel⟩; have hvl : vals4.length = m := by { rw [hor.len, ones_len] }; obtain ⟨sa4, oc4, hv, _⟩ := own_form hor.out; rw [hvl] at hv; subst hv; have g := G3'.out.on bel (by omega); have hk4 : kv < X4.heap.size := (by have := bel.size; omega); have HOR := hid hor; have hb4 := G3'.out.bel.size; clear z0 z1 z2 hor bel G3' PC; have z0 : X4.cell? ⟨w.heap.size, 0, none⟩ = some (sl t.bm t.om m t.cm) := by { simpa using g.bw.bx 0 _ rfl }; have z1 : X4.cell? ⟨w.heap.size, 1, none⟩ = some (.slice t.sn (2 * cnt pr m) t.cn) := by { simpa using g.bw.bx 1 _ rfl }; have z2 : X4.cell? ⟨w.heap.size, 2, none⟩ = some (sl t.bf t.of (m + 1) t.cf) := by { simpa using g.bw.bx 2 _ rfl }; have G4 := hid g; clear g)
    | (go_at_call 21; refine (sequence_any l names tm steps ks t m mem pr tt base4 (.slice sa4 m oc4) vals4 X4 G4.out.tb G4.out.bat h2 hm hinj hO htt HOR.out (by have := LT.out l.T (by simp); omega) (by have := LT.out l.ba (by simp); omega)).mono ?_; rintro e X5 ⟨b, x, st', rfl, hx, hbX, hlv, tb5, kp5⟩; have bw5 := G4.out.bw.kept kp5 (fun c hc => (by rcases hc with rfl | rfl; exact LT.out _ (by simp); exact LT.out _ (by simp))) (by omega); have TH5 := hid bw5.kt; have BW5 := hid bw5; have TB5 := hid tb5; have LV5 := hid hlv; have KP5 := hid (show Kept (fun c => c = l.T ∨ c = l.ba) w X5 from (Kept.ofBelowW G4.out.bel).trans kp5); clear bw5 tb5 hlv kp5 z0 z1 z2)
    | ((with_reducible (show wpList _ _ _ (⟨_, .store 61 _ _, _, _, _, _⟩ :: _) _ _)); refine wpList_store_mid rfl 61 _ _ rfl kv 0 #[.string ⟨#[]⟩, .bool false, sl b 0 m m, .float .f64 (Flt.nat x), .float .f64 (Flt.nat x)] rfl rfl TH5.out (by kernel_rfl) (by simp [Value.oneCell']) ?_))
  simp only [Act.put]
  have hT5 := LT.out l.T (by simp)
  have hA5 := LT.out l.ba (by simp)
  have hM5 := LT.out l.mb (by simp)
  refine wp_as (fun Y => Y.rangeAt kv 0 [.string ⟨#[]⟩, .bool false, sl b 0 m m, .float .f64 (Flt.nat x), .float .f64 (Flt.nat x)] ∧ Y.there (w.heap.size + 1) 0 5 ∧ TB Y l names tm st' ks ∧ (∀ j, j < m → Y.rangeAt b (j * 3) (leafC (names (mem j)))) ∧ Kept (fun c => c = l.T ∨ c = l.ba) w Y) ?_ ?_
  · have k1 : Kept (fun c => c = kv) X5 (X5.setCells kv 0 [.string ⟨#[]⟩, .bool false, sl b 0 m m, .float .f64 (Flt.nat x), .float .f64 (Flt.nat x)]) := (Kept.refl (fun c => c = kv) X5).setCells (g := kv) (.inl rfl) _ _
    exact ⟨World.rangeAt_setCells_same X5 kv 0 [.string ⟨#[]⟩, .bool false, sl b 0 m m, .float .f64 (Flt.nat x), .float .f64 (Flt.nat x)] TH5.out, k1.there (fun (e : w.heap.size + 1 = kv) => by omega) BW5.out.rs, TB5.out.kept k1 (fun c hc (he : c = kv) => by have := LT.out c hc; omega), fun j hj => k1.range (fun (e : b = kv) => by omega) (LV5.out j hj), Kept.thn KP5.out k1 (fun c hc (he : c = kv) => by omega)⟩
  rintro Y ⟨rY, tY, tbY, lvY, kpY⟩
  have a0 : Y.cell? ⟨l.T, 5, none⟩ = some (.int .i64 st') := by simpa using tbY.st 5 _ rfl
  have a1 : Y.cell? ⟨l.T, 4, none⟩ = some (.map (some l.mb)) := by simpa using tbY.st 4 _ rfl
  have RY := hid rY
  have TY := hid tY
  have TBY := hid tbY
  have LVY := hid lvY
  have KPY := hid kpY
  clear rY tY tbY lvY kpY TH5 BW5 TB5 LV5 KP5 G4 HOR
  by_cases hst : 0 < st'
  · go_wp2
    refine wp_region_quiet_tail 6 (fun w' => ∃ nq, w' = Y.drewN nq) mixed (by kernel_rfl) ⟨1, rfl⟩ ?_
    dsimp only [List.take, List.drop]
    repeat (first | ((with_reducible (show wpQuiet _ _ _ _ (⟨_, .load 61 _, _, _, _, _⟩ :: _) _)); refine wpQuiet_load_mid rfl 61 _ rfl kv 0 rfl [.string ⟨#[]⟩, .bool false, sl b 0 m m, .float .f64 (Flt.nat x), .float .f64 (Flt.nat x)] _ (fun _ ⟨nq, hx⟩ => hx ▸ RY.out) Ybaz.underlying61 rfl (by kernel_rfl) ?_; simp only [Act.put, List.setIfInBounds_toArray, List.set_cons_succ, List.set_cons_zero]) | go_big_quiet_step (fail))
    refine wpQuiet_nil ?_
    rintro _ ⟨nq, rfl⟩
    obtain ⟨o, hup, hmp⟩ := run_update_str Ybaz.underlying49 Ybaz.underlying9 (show MapS (Y.drewN nq) l.mb ks from TBY.out.mp) (⟨((keyL mem pr m).map UInt8.ofNat).toArray⟩ : ByteArray) hkey (.agg #[.string ⟨#[]⟩, .bool false, sl b 0 m m, .float .f64 (Flt.nat x), .float .f64 (Flt.nat x)])
    have k2 : Kept (fun c => c = l.mb) Y ((Y.drewN nq).putObj l.mb o) := (Kept.drewN (Kept.refl (fun c => c = l.mb) Y) nq).putObj (.inl rfl) o
    have rZ := k2.range (fun (e : kv = l.mb) => by omega) RY.out
    have tZ := k2.there (fun (e : w.heap.size + 1 = l.mb) => by omega) TY.out
    have RZ := hid rZ
    have TZ := hid tZ
    have HMP := hid hmp
    have K2 := hid k2
    clear rZ tZ hmp k2
    go_wp2_with (first
      | ((with_reducible (show wpList _ _ _ (⟨_, .load 61 _, _, _, _, _⟩ :: _) _ _)); refine wpList_load_mid rfl 61 _ rfl kv 0 rfl _ _ RZ.out Ybaz.underlying61 rfl (by kernel_rfl) ?_; simp only [Act.put, List.setIfInBounds_toArray, List.set_cons_succ, List.set_cons_zero])
      | ((with_reducible (show wpList _ _ _ (⟨_, .store 61 _ _, _, _, _, _⟩ :: _) _ _)); refine wpList_store_mid rfl 61 _ _ rfl (w.heap.size + 1) 0 #[.string ⟨#[]⟩, .bool false, sl b 0 m m, .float .f64 (Flt.nat x), .float .f64 (Flt.nat x)] rfl rfl TZ.out (by kernel_rfl) (by simp [Value.oneCell']) ?_))
    refine bodyPost_ret (v := .agg #[.string ⟨#[]⟩, .bool false, sl b 0 m m, .float .f64 (Flt.nat x), .float .f64 (Flt.nat x)]) (results_cell Ybaz.results10 _ _ _ (b := w.heap.size + 1) (o := 0) rfl ?_) rfl ?_
    · exact run_loadVar_mid _ _ _ 61 [.string ⟨#[]⟩, .bool false, sl b 0 m m, .float .f64 (Flt.nat x), .float .f64 (Flt.nat x)] _ (World.rangeAt_setCells_same _ _ _ _ TZ.out) Ybaz.underlying61 rfl (by kernel_rfl)
    have k3 : Kept (fun c => c = w.heap.size + 1) ((Y.drewN nq).putObj l.mb o) (((Y.drewN nq).putObj l.mb o).setCells (w.heap.size + 1) 0 [.string ⟨#[]⟩, .bool false, sl b 0 m m, .float .f64 (Flt.nat x), .float .f64 (Flt.nat x)]) := (Kept.refl (fun c => c = w.heap.size + 1) _).setCells (g := w.heap.size + 1) (.inl rfl) _ _
    have hnd := HT.out.ne
    simp only [List.nodup_cons, List.mem_cons, List.not_mem_nil, not_or, or_false, not_false_eq_true, List.nodup_nil, and_true] at hnd
    obtain ⟨⟨d1, d2, d3, d4, d5⟩, ⟨d6, d7, d8, d9⟩, ⟨d10, d11, d12⟩, ⟨d13, d14⟩, d15⟩ := hnd
    have tb2 : TB ((Y.drewN nq).putObj l.mb o) l names tm st' (ks ++ [(⟨((keyL mem pr m).map UInt8.ofNat).toArray⟩ : ByteArray)]) := ⟨K2.out.range d5 TBY.out.st, K2.out.there d5 TBY.out.th, TBY.out.nm.kept K2.out d9, TBY.out.tt.kept K2.out d12, TBY.out.at'.kept K2.out d14, TBY.out.al.kept K2.out d15, HMP.out, TBY.out.fl, TBY.out.few, TBY.out.ne⟩
    refine ⟨b, x, st', ks ++ [(⟨((keyL mem pr m).map UInt8.ofNat).toArray⟩ : ByteArray)], rfl, hx, by omega, fun j hj => k3.range (fun (e : b = w.heap.size + 1) => by omega) (K2.out.range (fun (e : b = l.mb) => by omega) (LVY.out j hj)), tb2.kept k3 (fun c hc (he : c = w.heap.size + 1) => by have := LT.out c hc; omega), .inr rfl, ?_⟩
    exact Kept.thn (Kept.thn (KPY.out.weak (E' := fun c => c = l.T ∨ c = l.ba ∨ c = l.mb) (fun c _ h => h.elim .inl (fun h => .inr (.inl h)))) K2.out (fun c _ h => .inr (.inr h))) k3 (fun c hc (he : c = w.heap.size + 1) => by omega)
  · have hst' : ¬ (st' > 0) := hst
    have hst2 : st' ≤ 0 := by omega
    clear hst hst'
    go_wp2_with (first
      | ((with_reducible (show wpList _ _ _ (⟨_, .load 61 _, _, _, _, _⟩ :: _) _ _)); refine wpList_load_mid rfl 61 _ rfl kv 0 rfl _ _ RY.out Ybaz.underlying61 rfl (by kernel_rfl) ?_; simp only [Act.put, List.setIfInBounds_toArray, List.set_cons_succ, List.set_cons_zero])
      | ((with_reducible (show wpList _ _ _ (⟨_, .store 61 _ _, _, _, _, _⟩ :: _) _ _)); refine wpList_store_mid rfl 61 _ _ rfl (w.heap.size + 1) 0 #[.string ⟨#[]⟩, .bool false, sl b 0 m m, .float .f64 (Flt.nat x), .float .f64 (Flt.nat x)] rfl rfl TY.out (by kernel_rfl) (by simp [Value.oneCell']) ?_))
    refine bodyPost_ret (v := .agg #[.string ⟨#[]⟩, .bool false, sl b 0 m m, .float .f64 (Flt.nat x), .float .f64 (Flt.nat x)]) (results_cell Ybaz.results10 _ _ _ (b := w.heap.size + 1) (o := 0) rfl ?_) rfl ?_
    · exact run_loadVar_mid _ _ _ 61 [.string ⟨#[]⟩, .bool false, sl b 0 m m, .float .f64 (Flt.nat x), .float .f64 (Flt.nat x)] _ (World.rangeAt_setCells_same _ _ _ _ TY.out) Ybaz.underlying61 rfl (by kernel_rfl)
    have k3 : Kept (fun c => c = w.heap.size + 1) Y (Y.setCells (w.heap.size + 1) 0 [.string ⟨#[]⟩, .bool false, sl b 0 m m, .float .f64 (Flt.nat x), .float .f64 (Flt.nat x)]) := (Kept.refl (fun c => c = w.heap.size + 1) _).setCells (g := w.heap.size + 1) (.inl rfl) _ _
    refine ⟨b, x, st', ks, rfl, hx, by omega, fun j hj => k3.range (fun (e : b = w.heap.size + 1) => by omega) (LVY.out j hj), TBY.out.kept k3 (fun c hc (he : c = w.heap.size + 1) => by have := LT.out c hc; omega), .inl rfl, ?_⟩
    exact Kept.thn (KPY.out.weak (E' := fun c => c = l.T ∨ c = l.ba ∨ c = l.mb) (fun c _ h => h.elim .inl (fun h => .inr (.inl h)))) k3 (fun c hc (he : c = w.heap.size + 1) => by omega)
end Go.Proofs.YbulkdsicGreat
