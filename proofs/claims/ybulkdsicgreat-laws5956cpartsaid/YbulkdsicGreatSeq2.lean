import Derived.Test.YbulkdsicGreatSeq1
set_option linter.unusedVariables false
set_option linter.unusedSimpArgs false
namespace Go.Proofs.YbulkdsicGreat
open Go.RowKit Go.Shelf

/-- What the operations of region 5 yield. -/
def sqV (l : TBl) (names : Nat → ByteArray) (tm : Nat → Value) (b0 b1 b2 below : Value) (V : World) (mem : Nat → Nat) (i g c kb : Nat) (tk : Value) (k : Nat) (v : Value) (w : World) : Prop :=
  match k with
  | 0 => v = .pointer (some ⟨l.T, 0, none⟩)
  | 1 => v = .pointer (some ⟨l.T, 0, none⟩)
  | 2 => v = .agg #[b0, b1, b2]
  | 3 => v = sl g 0 1 c
  | 4 => ∃ s z c1, v = .agg #[sl s 0 1 (2 * 1 + 1 + z), sl s (nO 1 z) c1 z, sl s 1 (1 + 1) (1 + 1 + z)] ∧ V.heap.size ≤ s ∧ w.cell? ⟨s, 0, none⟩ = some (vi (mem i))
  | 5 => v = below
  | 6 => v = .pointer (some ⟨kb, 0, none⟩)
  | 7 => v = .pointer (some ⟨kb, 3, none⟩)
  | 8 => v = tk
  | 9 => v = below
  | 10 => v = .agg #[.string (names (mem i)), .bool false, .slice none 0 0, tm (mem i), tm (mem i)]
  | 11 => ∃ kc, v = .pointer (some ⟨kc, 0, none⟩) ∧ V.heap.size ≤ kc ∧ w.there kc 0 5
  | _ => True
theorem sqV_kept {E : Nat → Prop} {l : TBl} {names : Nat → ByteArray} {tm : Nat → Value} {b0 b1 b2 below : Value} {V : World} {mem : Nat → Nat} {i g c kb : Nat} {tk : Value} {w w' : World} (kp : Kept E w w') (hE : ∀ b, E b → b < V.heap.size) (k : Nat) (v : Value) (h : sqV l names tm b0 b1 b2 below V mem i g c kb tk k v w) : sqV l names tm b0 b1 b2 below V mem i g c kb tk k v w' := by
  match k, h with
  | 0, h | 1, h | 2, h | 3, h | 5, h | 6, h | 7, h | 8, h | 9, h | 10, h => exact h
  | 4, h =>
    obtain ⟨s, z, c1, h1, h2, h3⟩ := h
    exact ⟨s, z, c1, h1, h2, kp.cell (p := ⟨s, 0, none⟩) (fun he => by have := hE s he; omega) h3⟩
  | 11, h =>
    obtain ⟨kc, h1, h2, h3⟩ := h
    exact ⟨kc, h1, h2, kp.there (fun he => by have := hE kc he; omega) h3⟩
  | k + 12, h => exact trivial

set_option maxRecDepth 100000 in
set_option maxHeartbeats 4000000 in
theorem sequence_any (l : TBl) (names : Nat → ByteArray) (tm : Nat → Value) (steps : Int) (ks : List ByteArray) (t : Bt) (m : Nat) (mem : Nat → Nat) (pr : Nat → Option Nat) (tt : Nat → Nat) (base : Nat) (gv : Value) (vals : List Value) (w : World)
    (hT : TB w l names tm steps ks) (h : Bat w t m mem pr) (h2 : 2 ≤ m) (hm : ∀ i, i < m → mem i < l.n) (hinj : ∀ i j, i < m → j < m → mem i = mem j → i = j) (hO : Off l t) (htt : ∀ k, k < m → tm (mem k) = .float .f64 (Flt.nat (tt k)) ∧ tt k ≤ 65535)
    (hor : OR w base gv vals (ones m)) (hb1 : l.T < base) (hb2 : l.ba < base) :
    Calls Ybaz.prog 21 #[.pointer (some ⟨l.T, 0, none⟩), .agg #[sl t.bm t.om m t.cm, .slice t.sn (2 * cnt pr m) t.cn, sl t.bf t.of (m + 1) t.cf], gv, .float .f64 Flt.inf] w fun e w' =>
      ∃ b x st', e = .returned (.agg #[.string ⟨#[]⟩, .bool false, sl b 0 m m, .float .f64 (Flt.nat x), .float .f64 (Flt.nat x)]) ∧ x ≤ 65535 * m ∧ w.heap.size ≤ b ∧ (∀ j, j < m → w'.rangeAt b (j * 3) (leafC (names (mem j)))) ∧ TB w' l names tm st' ks ∧ Kept (fun x => x = l.T ∨ x = l.ba) w w' := by
  obtain ⟨i42, hi42, hz42, hs42, hb42⟩ := info_parts (show (Ybaz.prog.info? 42).map (fun i => (i.zero, i.size, i.bytes)) = some (some (.agg #[.string ⟨#[]⟩, .bool false, .slice none 0 0]), 3, 48) by kernel_rfl)
  have hfew := h.few
  have hvl : vals.length = m := by rw [hor.len, ones_len]
  obtain ⟨gb, gc, rfl⟩ : ∃ gb gc, gv = .slice (some ⟨gb, 0, none⟩) m gc := by
    obtain ⟨m', rfl⟩ : ∃ m', m = m' + 1 := ⟨m - 1, by omega⟩
    have := hor.out
    rw [hvl] at this
    exact own_slice this
  have hl0 : 0 < l.n := by have := hm 0 (by omega); omega
  have lT : l.T < w.heap.size := World.block_lt_of_cell? w _ (hT.st 0 _ rfl)
  have lA : l.ba < w.heap.size := hT.at'.lt hl0
  have SB := hid (show ∀ k, k ≤ m → sumT tt k ≤ 65535 * k from fun k hk => sumT_le tt k (fun j hj => (htt j (by omega)).2))
  have H := hid h
  have HT := hid hT
  have HOR := hid hor
  clear h hT hor
  obtain ⟨W3, hW3⟩ : ∃ W3, ((w.alloc (.cells #[sl t.bm t.om m t.cm, .slice t.sn (2 * cnt pr m) t.cn, sl t.bf t.of (m + 1) t.cf] 53)).alloc (.cells #[.string ⟨#[]⟩, .bool false, .slice none 0 0, .float .f64 0, .float .f64 0] 61)).alloc (.cells (madeCells #[.string ⟨#[]⟩, .bool false, .slice none 0 0] (m * 3)) 42) = W3 := ⟨_, rfl⟩
  have hs3 : W3.heap.size = w.heap.size + 1 + 1 + 1 := by rw [← hW3]; simp only [World.size_alloc]
  have th3 := there_new W3 [.string ⟨#[]⟩, .bool false, .slice none 0 0, .float .f64 0, .float .f64 0] 61
  rw [hs3] at th3
  have TH3 := hid th3
  clear th3
  go_enter Ybaz.func21, Ybaz.ntmps21
  go_upto_region 2 with (first
    | (refine wpList_box_as rfl 53 _ rfl #[sl t.bm t.om m t.cm, .slice t.sn (2 * cnt pr m) t.cn, sl t.bf t.of (m + 1) t.cf] rfl (bx53 _ _ _) ?_)
    | (at_make; refine wpList_make_as rfl (.tmp 14) (.tmp 14) 40 rfl 42 i42 (.agg #[.string ⟨#[]⟩, .bool false, .slice none 0 0]) m Ybaz.underlying40 hi42 hz42 rfl rfl (by rw [hb42]; omega) (by omega) ?_)
    | ((with_reducible (show wpList _ _ _ (⟨_, .store 61 _ _, _, _, _, _⟩ :: _) _ _)); (try simp only [World.size_alloc]); (try rw [hW3]); refine wpList_store_mid rfl 61 _ _ rfl (w.heap.size + 1 + 1 + 1) 0 #[.string ⟨#[]⟩, .bool false, sl (w.heap.size + 1 + 1) 0 m m, .float .f64 0, .float .f64 0] rfl rfl TH3.out (by kernel_rfl) (by simp [Value.oneCell']) ?_))
  have kn0 : KN w ((W3.alloc (.cells #[.string ⟨#[]⟩, .bool false, .slice none 0 0, .float .f64 0, .float .f64 0] 61)).setCells (w.heap.size + 1 + 1 + 1) 0 [.string ⟨#[]⟩, .bool false, sl (w.heap.size + 1 + 1) 0 m m, .float .f64 0, .float .f64 0]) l (sl t.bm t.om m t.cm) (.slice t.sn (2 * cnt pr m) t.cn) (sl t.bf t.of (m + 1) t.cf) m 0 false (w.heap.size + 1 + 1) (w.heap.size + 1 + 1 + 1) (fun j => leafC (names (mem j))) 0 0 := by
    have k1 : Kept (fun c => c = w.heap.size + 1 + 1 + 1) W3 ((W3.alloc (.cells #[.string ⟨#[]⟩, .bool false, .slice none 0 0, .float .f64 0, .float .f64 0] 61)).setCells (w.heap.size + 1 + 1 + 1) 0 [.string ⟨#[]⟩, .bool false, sl (w.heap.size + 1 + 1) 0 m m, .float .f64 0, .float .f64 0]) := ((Kept.refl (fun c => c = w.heap.size + 1 + 1 + 1) W3).alloc _).setCells (g := w.heap.size + 1 + 1 + 1) (.inl rfl) _ _
    refine ⟨k1.there (fun (e : w.heap.size + 1 + 1 = _) => by omega) ?_, fun j hj => by omega, ?_, there_setCells TH3.out _ _ _, k1.there (fun (e : w.heap.size + 1 = _) => by omega) ?_, k1.range (fun (e : w.heap.size = _) => by omega) ?_, by omega, by omega, by omega⟩
    · rw [← hW3]
      have := made_there ((w.alloc (.cells #[sl t.bm t.om m t.cm, .slice t.sn (2 * cnt pr m) t.cn, sl t.bf t.of (m + 1) t.cf] 53)).alloc (.cells #[.string ⟨#[]⟩, .bool false, .slice none 0 0, .float .f64 0, .float .f64 0] 61)) #[.string ⟨#[]⟩, .bool false, .slice none 0 0] (m * 3) 42
      simp only [World.size_alloc] at this
      exact this
    · rw [Flt.nat_zero]
      exact World.rangeAt_setCells_same _ _ _ _ TH3.out
    · rw [← hW3]
      have := there_new (w.alloc (.cells #[sl t.bm t.om m t.cm, .slice t.sn (2 * cnt pr m) t.cn, sl t.bf t.of (m + 1) t.cf] 53)) [.string ⟨#[]⟩, .bool false, .slice none 0 0, .float .f64 0, .float .f64 0] 61
      rw [World.size_alloc] at this
      exact World.there_alloc this _
    · rw [← hW3]
      exact World.rangeAt_alloc (World.rangeAt_alloc (range_new w [sl t.bm t.om m t.cm, .slice t.sn (2 * cnt pr m) t.cn, sl t.bf t.of (m + 1) t.cf] 53) _) _
  have kp0 : Kept (fun c => c = l.T ∨ c = l.ba) w ((W3.alloc (.cells #[.string ⟨#[]⟩, .bool false, .slice none 0 0, .float .f64 0, .float .f64 0] 61)).setCells (w.heap.size + 1 + 1 + 1) 0 [.string ⟨#[]⟩, .bool false, sl (w.heap.size + 1 + 1) 0 m m, .float .f64 0, .float .f64 0]) := by
    rw [← hW3]
    exact ((((Kept.refl (fun c => c = l.T ∨ c = l.ba) w).alloc _).alloc _).alloc _).alloc _ |>.setCells (g := w.heap.size + 1 + 1 + 1) (.inr (by omega)) _ _
  have tb0 : TB ((W3.alloc (.cells #[.string ⟨#[]⟩, .bool false, .slice none 0 0, .float .f64 0, .float .f64 0] 61)).setCells (w.heap.size + 1 + 1 + 1) 0 [.string ⟨#[]⟩, .bool false, sl (w.heap.size + 1 + 1) 0 m m, .float .f64 0, .float .f64 0]) l names tm steps ks := HT.out.kept (by
    rw [← hW3]
    exact ((((Kept.refl (fun c => w.heap.size ≤ c) w).alloc _).alloc _).alloc _).alloc _ |>.setCells (g := w.heap.size + 1 + 1 + 1) (.inl (by omega)) _ _) (fun c hc he => by have := HT.out.lt hl0 c hc; omega)
  have hsz0 : w.heap.size + 4 ≤ (((W3.alloc (.cells #[.string ⟨#[]⟩, .bool false, .slice none 0 0, .float .f64 0, .float .f64 0] 61)).setCells (w.heap.size + 1 + 1 + 1) 0 [.string ⟨#[]⟩, .bool false, sl (w.heap.size + 1 + 1) 0 m m, .float .f64 0, .float .f64 0])).heap.size := by
    have := ((Kept.refl (fun _ => True) (W3.alloc (.cells #[.string ⟨#[]⟩, .bool false, .slice none 0 0, .float .f64 0, .float .f64 0] 61))).setCells (g := w.heap.size + 1 + 1 + 1) (.inl trivial) 0 [.string ⟨#[]⟩, .bool false, sl (w.heap.size + 1 + 1) 0 m m, .float .f64 0, .float .f64 0]).size
    rw [World.size_alloc, hs3] at this
    omega
  obtain ⟨b, hb⟩ : ∃ b, w.heap.size + 1 + 1 = b := ⟨_, rfl⟩
  obtain ⟨kb, hkb⟩ : ∃ kb, b + 1 = kb := ⟨_, rfl⟩
  rw [hb, hkb] at kn0 kp0 tb0 hsz0 ⊢
  refine wp_as (fun V => KN w V l (sl t.bm t.om m t.cm) (.slice t.sn (2 * cnt pr m) t.cn) (sl t.bf t.of (m + 1) t.cf) m 0 false b kb (fun j => leafC (names (mem j))) 0 0 ∧ Kept (fun c => c = l.T ∨ c = l.ba) w V ∧ TB V l names tm steps ks ∧ w.heap.size + 4 ≤ V.heap.size) ⟨kn0, kp0, tb0, hsz0⟩ ?_
  rintro V0 ⟨kn1, kp1, tb1, sz1⟩
  clear kn0 kp0 tb0 hsz0 hW3 TH3 hs3
  go_wp2
  go_loopw [21] (fun x V => ∃ q : Nat, q ≤ m ∧ x = vi q ∧ KN w V l (sl t.bm t.om m t.cm) (.slice t.sn (2 * cnt pr m) t.cn) (sl t.bf t.of (m + 1) t.cf) m q false b kb (fun j => leafC (names (mem j))) (sumT tt q) (sumT tt q) ∧ Kept (fun c => c = l.T ∨ c = l.ba) w V ∧ (∃ st, TB V l names tm st ks) ∧ w.heap.size + 4 ≤ V.heap.size) (fun x _ => m - (intOf x).toNat)
  case atStart => exact ⟨0, Nat.zero_le _, rfl, kn1, kp1, ⟨_, tb1⟩, sz1⟩
  case round =>
    obtain ⟨q, hq, rfl, kn, kp, ⟨st, tb⟩, sz⟩ := hrel
    clear kn1 kp1 tb1 sz1
    by_cases hlt : q < m
    · have hqi : (q : Int) < (m : Int) := by omega
      have hor := OR.keptn HOR.out kp (fun c hc => .inl (by rcases hc with rfl | rfl <;> assumption))
      have hgq : (ones m)[q]? = some [q] := by simp [ones, hlt]
      obtain ⟨vq, hvq⟩ : ∃ vq, vals[q]? = some vq := ⟨vals[q]'(by omega), List.getElem?_eq_getElem _⟩
      have hoq := hor.own q vq [q] hvq hgq
      obtain ⟨g, c, rfl⟩ := own_slice (n := 0) hoq
      obtain ⟨_, _, hge, hgc, _⟩ := own_cell hoq (j := 0) (u := vi q) rfl
      cases hge
      have hgb := (own_block hoq (g := g) rfl).1
      have hrow := (OR.cell hor hvq).1
      obtain ⟨rfl1, hsz1⟩ : (l.T < wr.heap.size) ∧ (l.ba < wr.heap.size) := by omega
      have KNI := hid kn
      have KPI := hid kp
      have TBI := hid tb
      have GC := hid hgc
      clear kn kp hor tb hoq hgc
      go_wp2
      refine wp_region_acts 12 63 (fun L nu w' => (∀ k, L k = true → sqV l names tm (sl t.bm t.om m t.cm) (.slice t.sn (2 * cnt pr m) t.cn) (sl t.bf t.of (m + 1) t.cf) (.float .f64 Flt.inf) wr mem q g c kb (.float .f64 (Flt.nat (sumT tt q))) k (nu k) w') ∧ (∃ st', TB w' l names tm st' ks) ∧ Kept (fun c => c = l.T ∨ c = l.ba) wr w') mixed (by kernel_rfl) rfl ?_ ?_ ?_
      · exact fun nu => ⟨fun k h => (by cases h), ⟨st, TBI.out.kept ((Kept.refl (fun _ => False) wr).drew) (fun _ _ h => h)⟩, (Kept.refl _ wr).drew⟩
      · intro i o ho hi L nu a x hLi hdep hWd h1 h2'
        obtain ⟨hQ, ⟨st', tbx⟩, kpx⟩ := hWd
        have nE : ∀ c, c = l.T ∨ c = l.ba → c < wr.heap.size := fun c hc => by rcases hc with rfl | rfl <;> assumption
        match i, ho with
        | 0, ho =>
          cases ho
          exact .inl ⟨_, _, xmove (h2' 0 (by kernel_rfl)), upd_ok hQ (fun _ _ h => h) rfl, ⟨st', tbx⟩, kpx⟩
        | 1, ho =>
          cases ho
          exact .inl ⟨_, _, xmove (h2' 0 (by kernel_rfl)), upd_ok hQ (fun _ _ h => h) rfl, ⟨st', tbx⟩, kpx⟩
        | 2, ho =>
          cases ho
          exact .inl ⟨_, _, xload_mid w.heap.size 0 (h2' 5 (by kernel_rfl)) [sl t.bm t.om m t.cm, .slice t.sn (2 * cnt pr m) t.cn, sl t.bf t.of (m + 1) t.cf] _ (kpx.range (fun he => by rcases he with he | he <;> omega) KNI.out.bx) Ybaz.underlying53 rfl (by kernel_rfl), upd_ok hQ (fun _ _ h => h) rfl, ⟨st', tbx⟩, kpx⟩
        | 3, ho =>
          cases ho
          exact .inl ⟨_, _, xmove (h2' 11 (by kernel_rfl)), upd_ok hQ (fun _ _ h => h) rfl, ⟨st', tbx⟩, kpx⟩
        | 4, ho =>
          cases ho
          refine .inr (.inl ⟨30, _, xcall rfl (fun vs => enters_of Ybaz.func30 (by kernel_rfl) rfl vs x), ?_⟩)
          have e1 := h1 1 _ 27 rfl rfl (by kernel_rfl)
          have e2 := h1 2 _ 28 rfl rfl (by kernel_rfl)
          have e3 := h1 3 _ 29 rfl rfl (by kernel_rfl)
          have q1 : nu 1 = .pointer (some ⟨l.T, 0, none⟩) := hQ 1 (hdep 1 (by kernel_rfl))
          have q2 : nu 2 = .agg #[sl t.bm t.om m t.cm, .slice t.sn (2 * cnt pr m) t.cn, sl t.bf t.of (m + 1) t.cf] := hQ 2 (hdep 2 (by kernel_rfl))
          have q3 : nu 3 = sl g 0 1 c := hQ 3 (hdep 3 (by kernel_rfl))
          simp only [List.map_toArray, List.map_cons, List.map_nil, e1, e2, e3, q1, q2, q3]
          have hbx : Bat x t m mem pr := (H.out.kept KPI.out (fun e => e.elim hO.m1 hO.m2) (fun e => e.elim hO.f1 hO.f2) (fun a ha e => e.elim (hO.n1 a ha) (hO.n2 a ha))).kept kpx (fun e => e.elim hO.m1 hO.m2) (fun e => e.elim hO.f1 hO.f2) (fun a ha e => e.elim (hO.n1 a ha) (hO.n2 a ha))
          have hlow := H.out.low
          have hS : Sub m 1 (fun _ => q) pr (fun _ => none) := ⟨fun _ _ => hlt, fun k k' hk hk' _ => by omega, fun _ _ _ => rfl, fun k j hk hp => .inr ⟨fun k' _ e => by have := hlow q j hlt hp; omega, rfl⟩⟩
          refine (sub_any l names tm st' ks t m mem pr 1 (fun _ => q) (fun _ => none) g 0 c x tbx hbx hS (by omega) hm hinj (fun k hk => by obtain rfl : k = 0 := (by omega); exact kpx.cell (p := ⟨g, 0 + 0, none⟩) (fun he => by rcases he with he | he <;> (simp at he; omega)) GC.out) hO (by omega) (by omega) (by omega)).mono ?_
          rintro e x' ⟨s, st2, rfl, hs1, hs2, tb2, bat2, kp2⟩
          refine ⟨_, rfl, upd_ok hQ (fun k v => sqV_kept kp2 nE k v) ⟨s, szF (fun _ => q) pr 1, _, rfl, by have := kpx.size; omega, by have := bat2.mem' 0 (by omega); exact this⟩, ⟨st2, tb2⟩, kpx.trans kp2⟩
        | 5, ho =>
          cases ho
          exact .inl ⟨_, _, xmove (h2' 3 (by kernel_rfl)), upd_ok hQ (fun _ _ h => h) rfl, ⟨st', tbx⟩, kpx⟩
        | 6, ho =>
          cases ho
          exact .inl ⟨_, _, xfield (h2' 9 (by kernel_rfl)) (fa61 kb), upd_ok hQ (fun _ _ h => h) rfl, ⟨st', tbx⟩, kpx⟩
        | 7, ho =>
          cases ho
          have e6 := h1 6 _ 32 rfl rfl (by kernel_rfl)
          have q6 : nu 6 = .pointer (some ⟨kb, 0, none⟩) := hQ 6 (hdep 6 (by kernel_rfl))
          exact .inl ⟨_, _, xfield (e6.trans q6) (fa59 kb), upd_ok hQ (fun _ _ h => h) rfl, ⟨st', tbx⟩, kpx⟩
        | 8, ho =>
          cases ho
          have e7 := h1 7 _ 33 rfl rfl (by kernel_rfl)
          have q7 : nu 7 = .pointer (some ⟨kb, 3, none⟩) := hQ 7 (hdep 7 (by kernel_rfl))
          have hck := range_cell KNI.out.kv (j := 3) rfl
          rw [Nat.zero_add] at hck
          have hgk := KNI.out.gk
          exact .inl ⟨_, _, xload1 (e7.trans q7) (load36 x kb 3 _ (kpx.cell (p := ⟨kb, 3, none⟩) (fun he => by rcases he with he | he <;> (simp at he; omega)) hck)), upd_ok hQ (fun _ _ h => h) rfl, ⟨st', tbx⟩, kpx⟩
        | 9, ho =>
          cases ho
          have e5 := h1 5 _ 31 rfl rfl (by kernel_rfl)
          have q5 : nu 5 = .float .f64 Flt.inf := hQ 5 (hdep 5 (by kernel_rfl))
          have e8 := h1 8 _ 34 rfl rfl (by kernel_rfl)
          have q8 : nu 8 = .float .f64 (Flt.nat (sumT tt q)) := hQ 8 (hdep 8 (by kernel_rfl))
          exact .inl ⟨_, _, xbin (e5.trans q5) (e8.trans q8) (fun w => by kernel_rfl) (fun w => Flt.run_sub_inf w 36 _ (by have := SB.out q (by omega); omega)), upd_ok hQ (fun _ _ h => h) rfl, ⟨st', tbx⟩, kpx⟩
        | 10, ho =>
          cases ho
          refine .inr (.inl ⟨10, _, xcall rfl (fun vs => enters_of Ybaz.func10 (by kernel_rfl) rfl vs x), ?_⟩)
          have e1 := h1 0 _ 26 rfl rfl (by kernel_rfl)
          have e2 := h1 4 _ 30 rfl rfl (by kernel_rfl)
          have e3 := h1 9 _ 35 rfl rfl (by kernel_rfl)
          have q1 : nu 0 = .pointer (some ⟨l.T, 0, none⟩) := hQ 0 (hdep 0 (by kernel_rfl))
          obtain ⟨s, z, c1, q2, hs1, hs2⟩ := hQ 4 (hdep 4 (by kernel_rfl))
          have q3 : nu 9 = .float .f64 Flt.inf := hQ 9 (hdep 9 (by kernel_rfl))
          simp only [List.map_toArray, List.map_cons, List.map_nil, e1, e2, e3, q1, q2, q3]
          refine (best_one l names tm st' ks (sbt s 1 z) (fun _ => mem q) c1 (.float .f64 Flt.inf) x tbx hs2 (hm q hlt)).mono ?_
          rintro e x' ⟨rfl, bel⟩
          have kb' : Kept (fun _ => False) x x' := Kept.ofBelow bel
          exact ⟨_, rfl, upd_ok hQ (fun k v => sqV_kept kb' (fun _ h => h.elim) k v) rfl, ⟨st', tbx.below bel⟩, kpx.trans (Kept.ofBelow bel)⟩
        | 11, ho =>
          cases ho
          have ka : Kept (fun _ => False) x (x.alloc (.cells #[.string ⟨#[]⟩, .bool false, .slice none 0 0, .float .f64 0, .float .f64 0] 61)) := (Kept.refl _ x).alloc _
          exact .inl ⟨_, _, xalloc al61, upd_ok hQ (fun k v => sqV_kept ka (fun _ h => h.elim) k v) ⟨x.heap.size, rfl, kpx.size, there_new x [.string ⟨#[]⟩, .bool false, .slice none 0 0, .float .f64 0, .float .f64 0] 61⟩, ⟨st', tbx.kept ka (fun _ _ h => h)⟩, kpx.alloc _⟩
        | i + 12, ho => omega
      · intro oz hoz L nu x hL hWd
        cases hoz
        obtain ⟨hQ, ⟨st', tbx⟩, kpx⟩ := hWd
        obtain ⟨kc, q11, hkc, hth⟩ := hQ 11 (hL 11 (by omega))
        have q10 : nu 10 = .agg #[.string (names (mem q)), .bool false, .slice none 0 0, tm (mem q), tm (mem q)] := hQ 10 (hL 10 (by omega))
        rw [(htt q hlt).1] at q10
        simp only [lay, List.take, Act.put, List.setIfInBounds_toArray, List.set_cons_succ, List.set_cons_zero, q10, q11]
        refine wpList_store_mid rfl 61 _ _ rfl kc 0 #[.string (names (mem q)), .bool false, .slice none 0 0, .float .f64 (Flt.nat (tt q)), .float .f64 (Flt.nat (tt q))] rfl rfl hth (by kernel_rfl) (by simp [Value.oneCell']) ?_
        refine wpList_as (fun X => X.rangeAt kc 0 [.string (names (mem q)), .bool false, .slice none 0 0, .float .f64 (Flt.nat (tt q)), .float .f64 (Flt.nat (tt q))] ∧ KN w X l (sl t.bm t.om m t.cm) (.slice t.sn (2 * cnt pr m) t.cn) (sl t.bf t.of (m + 1) t.cf) m q false b kb (fun j => leafC (names (mem j))) (sumT tt q) (sumT tt q) ∧ Kept (fun c => c = l.T ∨ c = l.ba) w X ∧ (∃ st, TB X l names tm st ks) ∧ w.heap.size + 4 ≤ X.heap.size) ?_ ?_
        · have kX : Kept (fun c => c = kc) x (x.setCells kc 0 [.string (names (mem q)), .bool false, .slice none 0 0, .float .f64 (Flt.nat (tt q)), .float .f64 (Flt.nat (tt q))]) := (Kept.refl (fun c => c = kc) x).setCells (g := kc) (.inl rfl) _ _
          have kT : Kept (fun c => c = l.T ∨ c = l.ba ∨ c = kc) wr (x.setCells kc 0 [.string (names (mem q)), .bool false, .slice none 0 0, .float .f64 (Flt.nat (tt q)), .float .f64 (Flt.nat (tt q))]) := (kpx.weak (fun c _ h => h.elim .inl (fun h => .inr (.inl h)))).trans (kX.weak (fun c _ h => .inr (.inr h)))
          refine ⟨World.rangeAt_setCells_same x kc 0 [.string (names (mem q)), .bool false, .slice none 0 0, .float .f64 (Flt.nat (tt q)), .float .f64 (Flt.nat (tt q))] hth, KNI.out.kept kT (fun c hc => ?_), Kept.thn KPI.out kT (fun c hc he => ?_), ⟨st', tbx.kept kX (fun c hc (he : c = kc) => by have := HT.out.lt hl0 c hc; omega)⟩, Nat.le_trans sz kT.size⟩
          · rcases hc with rfl | rfl | rfl
            · exact .inl (by assumption)
            · exact .inl (by assumption)
            · exact .inr ⟨by omega, by omega, by omega⟩
          · rcases he with h | h | h
            · exact .inl h
            · exact .inr h
            · omega
        · rintro X ⟨rX, knX, kpX, ⟨stX, tbX⟩, szX⟩
          refine wpList_done ?_
          have hkb2 := range_cell knX.kv (j := 2) rfl
          rw [Nat.zero_add] at hkb2
          have r3 : X.rangeAt kc 0 [.string (names (mem q)), .bool false, .slice none 0 0] := fun j u hu => rX j u (by
            match j, hu with
            | 0, hu | 1, hu | 2, hu => exact hu
            | j + 3, hu => simp at hu)
          have R3 := hid r3
          have RM := hid knX.room
          have FX := hid (show X.rangeAt kc 0 [.string (names (mem q)), .bool false, .slice none 0 0, .float .f64 (Flt.nat (tt q)), .float .f64 (Flt.nat (tt q))] ∧ KN w X l (sl t.bm t.om m t.cm) (.slice t.sn (2 * cnt pr m) t.cn) (sl t.bf t.of (m + 1) t.cf) m q false b kb (fun j => leafC (names (mem j))) (sumT tt q) (sumT tt q) ∧ Kept (fun c => c = l.T ∨ c = l.ba) w X ∧ (∃ st, TB X l names tm st ks) ∧ w.heap.size + 4 ≤ X.heap.size from ⟨rX, knX, kpX, ⟨stX, tbX⟩, szX⟩)
          clear rX knX kpX tbX r3 KNI KPI TBI tbx kpx hth hQ
          go_upto_region 7 with (first
            | ((with_reducible (show wpList _ _ _ (⟨_, .load 42 _, _, _, _, _⟩ :: _) _ _)); refine wpList_load_mid rfl 42 _ rfl kc 0 rfl _ _ R3.out Ybaz.underlying42 rfl (by kernel_rfl) ?_; simp only [Act.put, List.setIfInBounds_toArray, List.set_cons_succ, List.set_cons_zero])
            | ((with_reducible (show wpList _ _ _ (⟨_, .store 42 _ _, _, _, _, _⟩ :: _) _ _)); refine wpList_store_mid rfl 42 _ _ rfl b (q * 3) #[.string (names (mem q)), .bool false, .slice none 0 0] (by rw [← Nat.zero_add (q * 3)]; rfl) rfl (there_part RM.out (by omega) (by simp; omega)) (by kernel_rfl) (by simp [Value.oneCell']) ?_))
          refine wp_as (fun Y => Y.rangeAt kc 0 [.string (names (mem q)), .bool false, .slice none 0 0, .float .f64 (Flt.nat (tt q)), .float .f64 (Flt.nat (tt q))] ∧ KN w Y l (sl t.bm t.om m t.cm) (.slice t.sn (2 * cnt pr m) t.cn) (sl t.bf t.of (m + 1) t.cf) m (q + 1) false b kb (fun j => leafC (names (mem j))) (sumT tt q) (sumT tt q) ∧ Kept (fun c => c = l.T ∨ c = l.ba) w Y ∧ (∃ st, TB Y l names tm st ks) ∧ w.heap.size + 4 ≤ Y.heap.size) ?_ ?_
          · obtain ⟨rX, knX, kpX, ⟨stX, tbX⟩, szX⟩ := FX.out
            have k1 : Kept (fun c => c = b) X (X.setCells b (q * 3) (leafC (names (mem q)))) := (Kept.refl (fun c => c = b) X).setCells (g := b) (.inl rfl) _ _
            refine ⟨k1.range (fun (e : kc = b) => by omega) rX, (knX.node hlt (leafC (names (mem q))) rfl (fun _ _ => rfl)).ext (fun j _ => by by_cases e : j = q <;> simp [e]), Kept.thn kpX k1 (fun c hc (he : c = b) => by omega), ⟨stX, tbX.kept k1 (fun c hc (he : c = b) => by have := HT.out.lt hl0 c hc; omega)⟩, Nat.le_trans szX k1.size⟩
          rintro Y ⟨rY, knY, kpY, ⟨stY, tbY⟩, szY⟩
          clear FX R3 RM hkb2
          have g1 := range_cell knY.kv (j := 3) rfl
          rw [Nat.zero_add] at g1
          have g2 := range_cell rY (j := 3) rfl
          rw [Nat.zero_add] at g2
          have had : ∀ w, Sem.run Ybaz.prog (binOp .add 36 (.float .f64 (Flt.nat (sumT tt q))) (.float .f64 (Flt.nat (tt q)))) w = .ok (.float .f64 (Flt.nat (sumT tt (q + 1)))) w := fun w => Flt.run_add w 36 _ _ (by have h8 := SB.out q (by omega); have h9 := (htt q (by omega)).2; omega)
          have hst := run_store1 (P := Ybaz.prog) Y kb 3 (.float .f64 (Flt.nat (sumT tt (q + 1)))) (by have := (knY.kt 3 (by omega)).1; simpa using this) (by have := (knY.kt 3 (by omega)).2; simpa using this) rfl
          have FY := hid (show Y.rangeAt kc 0 [.string (names (mem q)), .bool false, .slice none 0 0, .float .f64 (Flt.nat (tt q)), .float .f64 (Flt.nat (tt q))] ∧ KN w Y l (sl t.bm t.om m t.cm) (.slice t.sn (2 * cnt pr m) t.cn) (sl t.bf t.of (m + 1) t.cf) m (q + 1) false b kb (fun j => leafC (names (mem j))) (sumT tt q) (sumT tt q) ∧ Kept (fun c => c = l.T ∨ c = l.ba) w Y ∧ (∃ st, TB Y l names tm st ks) ∧ w.heap.size + 4 ≤ Y.heap.size from ⟨rY, knY, kpY, ⟨stY, tbY⟩, szY⟩)
          clear rY knY kpY tbY
          go_upto_region 8 with fail
          refine wp_as (fun Y => Y.rangeAt kc 0 [.string (names (mem q)), .bool false, .slice none 0 0, .float .f64 (Flt.nat (tt q)), .float .f64 (Flt.nat (tt q))] ∧ KN w Y l (sl t.bm t.om m t.cm) (.slice t.sn (2 * cnt pr m) t.cn) (sl t.bf t.of (m + 1) t.cf) m (q + 1) false b kb (fun j => leafC (names (mem j))) (sumT tt (q + 1)) (sumT tt q) ∧ Kept (fun c => c = l.T ∨ c = l.ba) w Y ∧ (∃ st, TB Y l names tm st ks) ∧ w.heap.size + 4 ≤ Y.heap.size) ?_ ?_
          · obtain ⟨rX, knX, kpX, ⟨stX, tbX⟩, szX⟩ := FY.out
            have k1 : Kept (fun c => c = kb) Y (Y.setCell ⟨kb, 3, none⟩ (.float .f64 (Flt.nat (sumT tt (q + 1))))) := (Kept.refl (fun c => c = kb) Y).setCell (p := ⟨kb, 3, none⟩) (.inl rfl) _
            exact ⟨k1.range (fun (e : kc = kb) => by omega) rX, knX.took _, Kept.thn kpX k1 (fun c hc (he : c = kb) => by omega), ⟨stX, tbX.kept k1 (fun c hc (he : c = kb) => by have := HT.out.lt hl0 c hc; omega)⟩, Nat.le_trans szX k1.size⟩
          rintro Z ⟨rZ, knZ, kpZ, ⟨stZ, tbZ⟩, szZ⟩
          clear FY g1 g2 hst
          have g1 := range_cell knZ.kv (j := 4) rfl
          rw [Nat.zero_add] at g1
          have g2 := range_cell rZ (j := 4) rfl
          rw [Nat.zero_add] at g2
          have hst := run_store1 (P := Ybaz.prog) Z kb 4 (.float .f64 (Flt.nat (sumT tt (q + 1)))) (by have := (knZ.kt 4 (by omega)).1; simpa using this) (by have := (knZ.kt 4 (by omega)).2; simpa using this) rfl
          have FZ := hid (show Z.rangeAt kc 0 [.string (names (mem q)), .bool false, .slice none 0 0, .float .f64 (Flt.nat (tt q)), .float .f64 (Flt.nat (tt q))] ∧ KN w Z l (sl t.bm t.om m t.cm) (.slice t.sn (2 * cnt pr m) t.cn) (sl t.bf t.of (m + 1) t.cf) m (q + 1) false b kb (fun j => leafC (names (mem j))) (sumT tt (q + 1)) (sumT tt q) ∧ Kept (fun c => c = l.T ∨ c = l.ba) w Z ∧ (∃ st, TB Z l names tm st ks) ∧ w.heap.size + 4 ≤ Z.heap.size from ⟨rZ, knZ, kpZ, ⟨stZ, tbZ⟩, szZ⟩)
          clear rZ knZ kpZ tbZ
          go_wp2
          go_roundw
          case rel =>
            obtain ⟨rX, knX, kpX, ⟨stX, tbX⟩, szX⟩ := FZ.out
            have k1 : Kept (fun c => c = kb) Z (Z.setCell ⟨kb, 4, none⟩ (.float .f64 (Flt.nat (sumT tt (q + 1))))) := (Kept.refl (fun c => c = kb) Z).setCell (p := ⟨kb, 4, none⟩) (.inl rfl) _
            exact ⟨q + 1, by omega, by go_num, knX.least _, Kept.thn kpX k1 (fun c hc (he : c = kb) => by omega), ⟨stX, tbX.kept k1 (fun c hc (he : c = kb) => by have := HT.out.lt hl0 c hc; omega)⟩, Nat.le_trans szX k1.size⟩
          case measure => simp [intOf]; omega
    · obtain rfl : q = m := by omega
      have RK := hid kn.kv
      have TR := hid kn.rs
      have KNI := hid kn
      have KPI := hid kp
      have TBI := hid tb
      clear kn kp tb
      go_wp2_with (first
        | ((with_reducible (show wpList _ _ _ (⟨_, .load 61 _, _, _, _, _⟩ :: _) _ _)); refine wpList_load_mid rfl 61 _ rfl kb 0 rfl _ _ RK.out Ybaz.underlying61 rfl (by kernel_rfl) ?_; simp only [Act.put, List.setIfInBounds_toArray, List.set_cons_succ, List.set_cons_zero])
        | ((with_reducible (show wpList _ _ _ (⟨_, .store 61 _ _, _, _, _, _⟩ :: _) _ _)); refine wpList_store_mid rfl 61 _ _ rfl (w.heap.size + 1) 0 #[.string ⟨#[]⟩, .bool false, sl b 0 q q, .float .f64 (Flt.nat (sumT tt q)), .float .f64 (Flt.nat (sumT tt q))] rfl rfl TR.out (by kernel_rfl) (by simp [Value.oneCell']) ?_))
      refine bodyPost_ret (v := .agg #[.string ⟨#[]⟩, .bool false, sl b 0 q q, .float .f64 (Flt.nat (sumT tt q)), .float .f64 (Flt.nat (sumT tt q))]) (results_cell Ybaz.results21 _ _ _ (b := w.heap.size + 1) (o := 0) rfl ?_) rfl ⟨b, sumT tt q, st, rfl, SB.out q (Nat.le_refl _), by omega, fun j hj => ?_, ?_, ?_⟩
      · exact run_loadVar_mid _ _ _ 61 [.string ⟨#[]⟩, .bool false, sl b 0 q q, .float .f64 (Flt.nat (sumT tt q)), .float .f64 (Flt.nat (sumT tt q))] _ (World.rangeAt_setCells_same _ _ _ _ TR.out) Ybaz.underlying61 rfl (by kernel_rfl)
      · exact World.rangeAt_setCells_apart (KNI.out.at' j hj) _ _ _ (.inl (by omega))
      · exact TBI.out.kept ((Kept.refl (fun c => c = w.heap.size + 1) wr).setCells (g := w.heap.size + 1) (.inl rfl) _ _) (fun c hc (he : c = w.heap.size + 1) => by have := HT.out.lt hl0 c hc; omega)
      · exact Kept.thn KPI.out ((Kept.refl (fun c => c = w.heap.size + 1) wr).setCells (g := w.heap.size + 1) (.inl rfl) _ _) (fun c hc (he : c = w.heap.size + 1) => by omega)
end Go.Proofs.YbulkdsicGreat
