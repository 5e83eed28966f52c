import Derived.Test.YbulkdsicGreatPar1
set_option linter.unusedVariables false
set_option linter.unusedSimpArgs false
namespace Go.Proofs.YbulkdsicGreat
open Go.RowKit Go.Shelf

theorem one5 {c0 c1 c2 : Value} (h0 : c0.oneCell' = true) (h1 : c1.oneCell' = true) (h2 : c2.oneCell' = true) (x y : Nat) : (#[c0, c1, c2, .float .f64 x, .float .f64 y] : Array Value).all (·.oneCell') = true := by
  refine all_oneCell_toArray (cs := [c0, c1, c2, .float .f64 x, .float .f64 y]) (fun v hv => ?_)
  simp only [List.mem_cons, List.not_mem_nil, or_false] at hv
  rcases hv with rfl | rfl | rfl | rfl | rfl <;> first | assumption | rfl
theorem one3 {c0 c1 c2 : Value} (h0 : c0.oneCell' = true) (h1 : c1.oneCell' = true) (h2 : c2.oneCell' = true) : (#[c0, c1, c2] : Array Value).all (·.oneCell') = true := by
  refine all_oneCell_toArray (cs := [c0, c1, c2]) (fun v hv => ?_)
  simp only [List.mem_cons, List.not_mem_nil, or_false] at hv
  rcases hv with rfl | rfl | rfl <;> assumption
theorem upd_okq {QV : Nat → Value → Prop} {L : Nat → Bool} {nu : Nat → Value} {i : Nat} {v : Value} (h : ∀ k, L k = true → QV k (nu k)) (hv : QV i v) : ∀ k, updL L i k = true → QV k (updV nu i v k) := fun k hk => by
  unfold updL at hk
  unfold updV
  by_cases e : k = i
  · subst e; rw [if_pos rfl]; exact hv
  · rw [if_neg e] at hk ⊢; exact h k hk
/-- What the operations of region 7 yield. -/
def plV (kb kc xx yy cx : Nat) (k : Nat) (v : Value) : Prop :=
  match k with
  | 0 => v = .pointer (some ⟨kb, 0, none⟩)
  | 1 => v = .pointer (some ⟨kb, 3, none⟩)
  | 2 => v = .float .f64 (Flt.nat xx)
  | 3 => v = .pointer (some ⟨kc, 0, none⟩)
  | 4 => v = .pointer (some ⟨kc, 3, none⟩)
  | 5 => v = .float .f64 (Flt.nat cx)
  | 6 => v = .float .f64 (Flt.nat (max xx cx))
  | 7 => v = .pointer (some ⟨kb, 4, none⟩)
  | 8 => v = .float .f64 (Flt.nat yy)
  | 9 => v = .pointer (some ⟨kc, 4, none⟩)
  | 10 => v = .float .f64 (Flt.nat cx)
  | 11 => v = .float .f64 (Flt.nat (max yy cx))
  | 12 => v = .pointer (some ⟨kb, 0, none⟩)
  | 13 => v = .pointer (some ⟨kb, 3, none⟩)
  | 15 => v = .pointer (some ⟨kb, 4, none⟩)
  | _ => True

set_option maxRecDepth 100000 in
set_option maxHeartbeats 4000000 in
theorem parallel_any (l : TBl) (names : Nat → ByteArray) (tm : Nat → Value) (steps : Int) (t : Bt) (m : Nat) (mem : Nat → Nat) (pr : Nat → Option Nat) (gs : List (List Nat)) (base : Nat) (gv : Value) (vals : List Value) (w : World)
    (hT : TB w l names tm steps []) (h : Bat w t m mem pr) (h0 : 0 < m) (hm : ∀ i, i < m → mem i < l.n) (hinj : ∀ i j, i < m → j < m → mem i = mem j → i = j) (hO : Off l t) (htt : ∀ x, x < l.n → ∃ y, y ≤ 65535 ∧ tm x = .float .f64 (Flt.nat y))
    (hK : 2 ≤ gs.length) (hK3 : gs.length ≤ 300) (hor : OR w base gv vals gs) (hgs : ∀ (k : Nat) L, gs[k]? = some L → IsChain m pr L ∧ L.length ≤ 300) (hdis : ∀ (k k' : Nat) L L', gs[k]? = some L → gs[k']? = some L' → L.getD 0 0 = L'.getD 0 0 → k = k')
    (hb1 : l.T < base) (hb2 : l.ba < base) (hb3 : l.mb < base) :
    Calls Ybaz.prog 16 #[.pointer (some ⟨l.T, 0, none⟩), .agg #[sl t.bm t.om m t.cm, .slice t.sn (2 * cnt pr m) t.cn, sl t.bf t.of (m + 1) t.cf], gv, .float .f64 Flt.inf] w fun e w' =>
      ∃ b xx yy st' ks', e = .returned (.agg #[.string ⟨#[]⟩, .bool true, sl b 0 gs.length gs.length, .float .f64 (Flt.nat xx), .float .f64 (Flt.nat yy)]) ∧ w.heap.size ≤ b ∧ (∀ (k : Nat) L, gs[k]? = some L → ∃ c0 c1 c2, w'.rangeAt b (k * 3) [c0, c1, c2] ∧ NodeHi w' w.heap.size 2 (chT (fun x => names (mem x)) L) c0 c1 c2) ∧ TB w' l names tm st' ks' ∧ Kept (fun c => c = l.T ∨ c = l.ba ∨ c = l.mb) w w' := by
  obtain ⟨i42, hi42, hz42, hs42, hb42⟩ := info_parts (show (Ybaz.prog.info? 42).map (fun i => (i.zero, i.size, i.bytes)) = some (some (.agg #[.string ⟨#[]⟩, .bool false, .slice none 0 0]), 3, 48) by kernel_rfl)
  have hfew := h.few
  have hvl : vals.length = gs.length := hor.len
  obtain ⟨gb, gc, rfl⟩ : ∃ gb gc, gv = .slice (some ⟨gb, 0, none⟩) gs.length gc := by
    obtain ⟨m', hm'⟩ : ∃ m', gs.length = m' + 1 := ⟨gs.length - 1, by omega⟩
    have := hor.out
    rw [hvl, hm'] at this
    rw [hm']
    exact own_slice this
  have hl0 : 0 < l.n := by have := hm 0 h0; omega
  obtain ⟨tt, hTT⟩ : ∃ tt : Nat → Nat, ∀ x, x < l.n → tm x = .float .f64 (Flt.nat (tt x)) ∧ tt x ≤ 65535 := ⟨fun x => if h : x < l.n then (htt x h).choose else 0, fun x hx => by
    have := (htt x hx).choose_spec
    simp only [hx, dif_pos]
    exact ⟨this.2, this.1⟩⟩
  clear htt
  have lT := hT.lt hl0
  have hTl := lT l.T (by simp)
  have hAl := lT l.ba (by simp)
  have hMl := lT l.mb (by simp)
  have H := hid h
  have HT := hid hT
  have HOR := hid hor
  have LT := hid lT
  have HG := hid hgs
  have HD := hid hdis
  clear h hT hor lT hgs hdis
  obtain ⟨W3, hW3⟩ : ∃ W3, ((w.alloc (.cells #[sl t.bm t.om m t.cm, .slice t.sn (2 * cnt pr m) t.cn, sl t.bf t.of (m + 1) t.cf] 53)).alloc (.cells #[.string ⟨#[]⟩, .bool false, .slice none 0 0, .float .f64 0, .float .f64 0] 61)).alloc (.cells (madeCells #[.string ⟨#[]⟩, .bool false, .slice none 0 0] (gs.length * 3)) 42) = W3 := ⟨_, rfl⟩
  have hs3 : W3.heap.size = w.heap.size + 1 + 1 + 1 := by rw [← hW3]; simp only [World.size_alloc]
  have th3 := there_new W3 [.string ⟨#[]⟩, .bool false, .slice none 0 0, .float .f64 0, .float .f64 0] 61
  rw [hs3] at th3
  have TH3 := hid th3
  clear th3
  go_enter Ybaz.func16, Ybaz.ntmps16
  go_upto_region 2 with (first
    | (refine wpList_box_as rfl 53 _ rfl #[sl t.bm t.om m t.cm, .slice t.sn (2 * cnt pr m) t.cn, sl t.bf t.of (m + 1) t.cf] rfl (bx53 _ _ _) ?_)
    | (at_make; refine wpList_make_as rfl (.tmp 14) (.tmp 14) 40 rfl 42 i42 (.agg #[.string ⟨#[]⟩, .bool false, .slice none 0 0]) gs.length Ybaz.underlying40 hi42 hz42 rfl rfl (by rw [hb42]; omega) (by omega) ?_)
    | ((with_reducible (show wpList _ _ _ (⟨_, .store 61 _ _, _, _, _, _⟩ :: _) _ _)); (try simp only [World.size_alloc]); (try rw [hW3]); refine wpList_store_mid rfl 61 _ _ rfl (w.heap.size + 1 + 1 + 1) 0 #[.string ⟨#[]⟩, .bool true, sl (w.heap.size + 1 + 1) 0 gs.length gs.length, .float .f64 0, .float .f64 0] rfl rfl TH3.out (by kernel_rfl) (by simp [Value.oneCell']) ?_))
  have kn0 : KN w ((W3.alloc (.cells #[.string ⟨#[]⟩, .bool false, .slice none 0 0, .float .f64 0, .float .f64 0] 61)).setCells (w.heap.size + 1 + 1 + 1) 0 [.string ⟨#[]⟩, .bool true, sl (w.heap.size + 1 + 1) 0 gs.length gs.length, .float .f64 0, .float .f64 0]) l (sl t.bm t.om m t.cm) (.slice t.sn (2 * cnt pr m) t.cn) (sl t.bf t.of (m + 1) t.cf) gs.length 0 true (w.heap.size + 1 + 1) (w.heap.size + 1 + 1 + 1) (fun _ => []) 0 0 := by
    have k1 : Kept (fun c => c = w.heap.size + 1 + 1 + 1) W3 ((W3.alloc (.cells #[.string ⟨#[]⟩, .bool false, .slice none 0 0, .float .f64 0, .float .f64 0] 61)).setCells (w.heap.size + 1 + 1 + 1) 0 [.string ⟨#[]⟩, .bool true, sl (w.heap.size + 1 + 1) 0 gs.length gs.length, .float .f64 0, .float .f64 0]) := ((Kept.refl (fun c => c = w.heap.size + 1 + 1 + 1) W3).alloc _).setCells (g := w.heap.size + 1 + 1 + 1) (.inl rfl) _ _
    refine ⟨k1.there (fun (e : w.heap.size + 1 + 1 = _) => by omega) ?_, fun j hj => by omega, ?_, there_setCells TH3.out _ _ _, k1.there (fun (e : w.heap.size + 1 = _) => by omega) ?_, k1.range (fun (e : w.heap.size = _) => by omega) ?_, by omega, by omega, by omega⟩
    · rw [← hW3]
      have := made_there ((w.alloc (.cells #[sl t.bm t.om m t.cm, .slice t.sn (2 * cnt pr m) t.cn, sl t.bf t.of (m + 1) t.cf] 53)).alloc (.cells #[.string ⟨#[]⟩, .bool false, .slice none 0 0, .float .f64 0, .float .f64 0] 61)) #[.string ⟨#[]⟩, .bool false, .slice none 0 0] (gs.length * 3) 42
      simp only [World.size_alloc] at this
      exact this
    · rw [Flt.nat_zero]
      exact World.rangeAt_setCells_same _ _ _ _ TH3.out
    · rw [← hW3]
      have := there_new (w.alloc (.cells #[sl t.bm t.om m t.cm, .slice t.sn (2 * cnt pr m) t.cn, sl t.bf t.of (m + 1) t.cf] 53)) [.string ⟨#[]⟩, .bool false, .slice none 0 0, .float .f64 0, .float .f64 0] 61
      rw [World.size_alloc] at this
      exact World.there_alloc this _
    · rw [← hW3]
      exact World.rangeAt_alloc (World.rangeAt_alloc (range_new w [sl t.bm t.om m t.cm, .slice t.sn (2 * cnt pr m) t.cn, sl t.bf t.of (m + 1) t.cf] 53) _) _
  have kp0 : Kept (fun c => c = l.T ∨ c = l.ba ∨ c = l.mb) w ((W3.alloc (.cells #[.string ⟨#[]⟩, .bool false, .slice none 0 0, .float .f64 0, .float .f64 0] 61)).setCells (w.heap.size + 1 + 1 + 1) 0 [.string ⟨#[]⟩, .bool true, sl (w.heap.size + 1 + 1) 0 gs.length gs.length, .float .f64 0, .float .f64 0]) := by
    rw [← hW3]
    exact ((((Kept.refl (fun c => c = l.T ∨ c = l.ba ∨ c = l.mb) w).alloc _).alloc _).alloc _).alloc _ |>.setCells (g := w.heap.size + 1 + 1 + 1) (.inr (by omega)) _ _
  have tb0 : TB ((W3.alloc (.cells #[.string ⟨#[]⟩, .bool false, .slice none 0 0, .float .f64 0, .float .f64 0] 61)).setCells (w.heap.size + 1 + 1 + 1) 0 [.string ⟨#[]⟩, .bool true, sl (w.heap.size + 1 + 1) 0 gs.length gs.length, .float .f64 0, .float .f64 0]) l names tm steps [] := HT.out.kept (by
    rw [← hW3]
    exact ((((Kept.refl (fun c => w.heap.size ≤ c) w).alloc _).alloc _).alloc _).alloc _ |>.setCells (g := w.heap.size + 1 + 1 + 1) (.inl (by omega)) _ _) (fun c hc he => by have := LT.out c hc; omega)
  have hsz0 : w.heap.size + 4 ≤ (((W3.alloc (.cells #[.string ⟨#[]⟩, .bool false, .slice none 0 0, .float .f64 0, .float .f64 0] 61)).setCells (w.heap.size + 1 + 1 + 1) 0 [.string ⟨#[]⟩, .bool true, sl (w.heap.size + 1 + 1) 0 gs.length gs.length, .float .f64 0, .float .f64 0])).heap.size := by
    have := ((Kept.refl (fun _ => True) (W3.alloc (.cells #[.string ⟨#[]⟩, .bool false, .slice none 0 0, .float .f64 0, .float .f64 0] 61))).setCells (g := w.heap.size + 1 + 1 + 1) (.inl trivial) 0 [.string ⟨#[]⟩, .bool true, sl (w.heap.size + 1 + 1) 0 gs.length gs.length, .float .f64 0, .float .f64 0]).size
    rw [World.size_alloc, hs3] at this
    omega
  obtain ⟨b, hb⟩ : ∃ b, w.heap.size + 1 + 1 = b := ⟨_, rfl⟩
  obtain ⟨kb, hkb⟩ : ∃ kb, b + 1 = kb := ⟨_, rfl⟩
  rw [hb, hkb] at kn0 kp0 tb0 hsz0 ⊢
  refine wp_as (fun V => ∃ (nd : Nat → Value × Value × Value) (xx yy : Nat) (st : Int) (ks : List ByteArray), KN w V l (sl t.bm t.om m t.cm) (.slice t.sn (2 * cnt pr m) t.cn) (sl t.bf t.of (m + 1) t.cf) gs.length 0 true b kb (fun j => [(nd j).1, (nd j).2.1, (nd j).2.2]) xx yy ∧ (xx ≤ 19660500 ∧ yy ≤ 19660500) ∧ (∀ j L, j < 0 → gs[j]? = some L → NodeHi V (w.heap.size + 4) 2 (chT (fun x => names (mem x)) L) (nd j).1 (nd j).2.1 (nd j).2.2) ∧ TB V l names tm st ks ∧ (∀ key ∈ ks, ∃ (j : Nat) (L X : List Nat), j < 0 ∧ gs[j]? = some L ∧ key = keyB (uv (mem (L.getD 0 0)) ++ X)) ∧ Kept (fun c => c = l.T ∨ c = l.ba ∨ c = l.mb) w V ∧ w.heap.size + 4 ≤ V.heap.size) ⟨fun _ => (undef, undef, undef), 0, 0, steps, [], kn0.ext (fun j hj => by omega), ⟨by omega, by omega⟩, fun j L hj => by omega, tb0, fun key hk => by simp at hk, kp0, hsz0⟩ ?_
  intro V0 inv0
  clear kn0 kp0 tb0 hsz0 hW3 TH3 hs3
  go_wp2
  go_loopw [21] (fun x V => ∃ q : Nat, q ≤ gs.length ∧ x = vi q ∧ ∃ (nd : Nat → Value × Value × Value) (xx yy : Nat) (st : Int) (ks : List ByteArray), KN w V l (sl t.bm t.om m t.cm) (.slice t.sn (2 * cnt pr m) t.cn) (sl t.bf t.of (m + 1) t.cf) gs.length q true b kb (fun j => [(nd j).1, (nd j).2.1, (nd j).2.2]) xx yy ∧ (xx ≤ 19660500 ∧ yy ≤ 19660500) ∧ (∀ j L, j < q → gs[j]? = some L → NodeHi V (w.heap.size + 4) 2 (chT (fun x => names (mem x)) L) (nd j).1 (nd j).2.1 (nd j).2.2) ∧ TB V l names tm st ks ∧ (∀ key ∈ ks, ∃ (j : Nat) (L X : List Nat), j < q ∧ gs[j]? = some L ∧ key = keyB (uv (mem (L.getD 0 0)) ++ X)) ∧ Kept (fun c => c = l.T ∨ c = l.ba ∨ c = l.mb) w V ∧ w.heap.size + 4 ≤ V.heap.size) (fun x _ => gs.length - (intOf x).toNat)
  case atStart => exact ⟨0, Nat.zero_le _, rfl, inv0⟩
  case round =>
    obtain ⟨q, hq, rfl, nd, xx, yy, st, ks, kn, ⟨hxx, hyy⟩, hnode, tb, hks, kp, sz⟩ := hrel
    clear inv0
    by_cases hlt : q < gs.length
    · have hqi : (q : Int) < (gs.length : Int) := by omega
      obtain ⟨L, hLq⟩ : ∃ L, gs[q]? = some L := ⟨gs[q], List.getElem?_eq_getElem hlt⟩
      obtain ⟨vq, hvq⟩ : ∃ vq, vals[q]? = some vq := ⟨vals[q]'(by omega), List.getElem?_eq_getElem _⟩
      have hor := OR.keptn HOR.out kp (fun c hc => .inl (by rcases hc with rfl | rfl | rfl <;> assumption))
      obtain ⟨hch, hLn⟩ := HG.out q L hLq
      have hoq := hor.own q vq L hvq hLq
      obtain ⟨n', hn'⟩ : ∃ n', L.length = n' + 1 := ⟨L.length - 1, by have := hch.pos; omega⟩
      rw [hn'] at hoq
      obtain ⟨g, c, rfl⟩ := own_slice hoq
      rw [← hn'] at hoq
      have hpk : ∀ k, k < L.length → wr.cell? ⟨g, 0 + k, none⟩ = some (vi (L.getD k 0)) := fun k hk => by
        obtain ⟨_, _, hge, hgc, _⟩ := own_cell hoq (j := k) (u := vi (L.getD k 0)) (by rw [List.getElem?_map, List.getElem?_eq_getElem hk]; simp [List.getD_eq_getElem?_getD, List.getElem?_eq_getElem hk])
        cases hge
        rw [Nat.zero_add]
        exact hgc
      have hgb := (own_block hoq (g := g) (by rfl)).1
      have hrow := (OR.cell hor hvq).1
      have batV : Bat wr t m mem pr := H.out.keptM kp hO (World.block_lt_of_cell? _ _ (H.out.mem' 0 h0)) LT.out (HT.out) hl0
      have hS := hch.sub
      have hlow := H.out.low
      have SUB := hid (sub_any l names tm st ks t m mem pr L.length (fun j => L.getD j 0) chn g 0 c wr tb batV hS hch.pos hm hinj hpk hO (by omega) (by omega) hLn)
      have hkey : keyB (keyL (fun k => mem (L.getD k 0)) chn L.length) ∉ ks := fun hk => by
        obtain ⟨j, L', X, hj, hL', he⟩ := hks _ hk
        obtain ⟨Y, hY⟩ := keyL_head (fun k => mem (L.getD k 0)) chn L.length hch.pos
        rw [hY] at he
        have hp0 : L.getD 0 0 < m := hS.lt 0 hch.pos
        have hp1 : L'.getD 0 0 < m := (HG.out j L' hL').1.sub.lt 0 (HG.out j L' hL').1.pos
        have e := uv_inj (by have := hm _ hp0; have := HT.out.few; omega) (by have := hm _ hp1; have := HT.out.few; omega) he
        have := HD.out q j L L' hLq hL' (hinj _ _ hp0 hp1 e)
        omega
      have z0 : wr.cell? ⟨w.heap.size, 0, none⟩ = some (sl t.bm t.om m t.cm) := by simpa using kn.bx 0 _ rfl
      have z1 : wr.cell? ⟨w.heap.size, 1, none⟩ = some (.slice t.sn (2 * cnt pr m) t.cn) := by simpa using kn.bx 1 _ rfl
      have z2 : wr.cell? ⟨w.heap.size, 2, none⟩ = some (sl t.bf t.of (m + 1) t.cf) := by simpa using kn.bx 2 _ rfl
      have KNI := hid kn
      have KPI := hid kp
      have TBI := hid tb
      have NDI := hid hnode
      have HKS := hid hks
      have HCH := hid hch
      have HS := hid hS
      have HKEY := hid hkey
      clear kn kp tb hnode hks hch hS hor hoq hpk batV hkey
      rw [← hn'] at *
      go_upto_region 6 with (first
        | (go_at_call 30; refine SUB.out.mono ?_; rintro e V1 ⟨s, st2, rfl, hs1, hs2, tb1, bat1, kp1⟩; have hsV := kp1.size; have hoff : Off l (sbt s L.length (szF (fun j => L.getD j 0) pr L.length)) := ⟨by { show s ≠ l.T; omega }, by { show s ≠ l.ba; omega }, by { show s ≠ l.T; omega }, by { show s ≠ l.ba; omega }, fun a ha => by { cases ha; show s ≠ l.T; omega }, fun a ha => by { cases ha; show s ≠ l.ba; omega }⟩; have BR := hid (best_row l names tm st2 ks (sbt s L.length (szF (fun j => L.getD j 0) pr L.length)) L.length (fun k => mem (L.getD k 0)) (fun k => tt (mem (L.getD k 0))) V1 tb1 bat1 HCH.out.pos (fun i hi => hm _ (HS.out.lt i hi)) (fun i j hi hj e => HS.out.inj i j hi hj (hinj _ _ (HS.out.lt i hi) (HS.out.lt j hj) e)) hoff (fun k hk => hTT _ (hm _ (HS.out.lt k hk))) HKEY.out); have KP1 := hid kp1; clear kp1 tb1 bat1 hoff SUB z0 z1 z2)
        | (go_at_call 10; refine BR.out.mono ?_; rintro e V2 ⟨c0, c1, c2, cx, st3, ks3, rfl, hcx, ⟨ho0, ho1, ho2⟩, hnd, tb2, hks3, kp2⟩; have ND2 := hid hnd; have TB2 := hid tb2; have KP2 := hid kp2; clear hnd tb2 kp2 BR)
        | ((with_reducible (show wpList _ _ _ (⟨_, .store 61 _ _, _, _, _, _⟩ :: _) _ _)); refine wpList_store_mid rfl 61 _ _ rfl V2.heap.size 0 #[c0, c1, c2, .float .f64 (Flt.nat cx), .float .f64 (Flt.nat cx)] rfl rfl (there_new V2 [.string ⟨#[]⟩, .bool false, .slice none 0 0, .float .f64 0, .float .f64 0] 61) (by kernel_rfl) (one5 ho0 ho1 ho2 _ _) ?_))
      simp only [Act.put]
      have kX : Kept (fun _ => False) V2 ((V2.alloc (.cells #[.string ⟨#[]⟩, .bool false, .slice none 0 0, .float .f64 0, .float .f64 0] 61)).setCells V2.heap.size 0 [c0, c1, c2, .float .f64 (Flt.nat cx), .float .f64 (Flt.nat cx)]) := ((Kept.refl (fun _ => False) V2).alloc _).setCells (g := V2.heap.size) (.inr (Nat.le_refl _)) _ _
      have kW : Kept (fun c => c = l.T ∨ c = l.ba ∨ c = l.mb) wr V2 := (KP1.out.weak (E' := (fun c => c = l.T ∨ c = l.ba ∨ c = l.mb)) (fun c _ h => h.elim .inl (fun h => .inr (.inl h)))).trans KP2.out
      have kWX : Kept (fun c => c = l.T ∨ c = l.ba ∨ c = l.mb) wr ((V2.alloc (.cells #[.string ⟨#[]⟩, .bool false, .slice none 0 0, .float .f64 0, .float .f64 0] 61)).setCells V2.heap.size 0 [c0, c1, c2, .float .f64 (Flt.nat cx), .float .f64 (Flt.nat cx)]) := kW.trans (kX.weak (fun _ _ h => h.elim))
      have hV1 := KP1.out.size
      have hV2 := KP2.out.size
      have rX := World.rangeAt_setCells_same (V2.alloc (.cells #[.string ⟨#[]⟩, .bool false, .slice none 0 0, .float .f64 0, .float .f64 0] 61)) V2.heap.size 0 [c0, c1, c2, .float .f64 (Flt.nat cx), .float .f64 (Flt.nat cx)] (there_new V2 [.string ⟨#[]⟩, .bool false, .slice none 0 0, .float .f64 0, .float .f64 0] 61)
      obtain ⟨kc, hkc⟩ : ∃ kc, V2.heap.size = kc := ⟨_, rfl⟩
      have hkcw : w.heap.size + 4 ≤ kc := by omega
      rw [hkc] at kX kWX rX ⊢
      have hTm : ∀ c, (c = l.T ∨ c = l.ba ∨ c = l.mb) → c < w.heap.size := fun c hc => by rcases hc with rfl | rfl | rfl <;> assumption
      refine wp_as (fun X => X.rangeAt kc 0 [c0, c1, c2, .float .f64 (Flt.nat cx), .float .f64 (Flt.nat cx)] ∧ KN w X l (sl t.bm t.om m t.cm) (.slice t.sn (2 * cnt pr m) t.cn) (sl t.bf t.of (m + 1) t.cf) gs.length q true b kb (fun j => [(nd j).1, (nd j).2.1, (nd j).2.2]) xx yy ∧ (∀ j L, j < q → gs[j]? = some L → NodeHi X (w.heap.size + 4) 2 (chT (fun x => names (mem x)) L) (nd j).1 (nd j).2.1 (nd j).2.2) ∧ NodeHi X (w.heap.size + 4) 2 (chT (fun x => names (mem x)) L) c0 c1 c2 ∧ TB X l names tm st3 ks3 ∧ Kept (fun c => c = l.T ∨ c = l.ba ∨ c = l.mb) w X ∧ w.heap.size + 4 ≤ X.heap.size) ⟨rX, KNI.out.kept kWX (fun c hc => .inl (hTm c hc)), fun j L' hj hL' => NodeHi.kept kWX (fun c hc => by have := hTm c hc; omega) 2 _ _ _ _ (NDI.out j L' hj hL'), NodeHi.mono (F := V1.heap.size) (F' := w.heap.size + 4) (by omega) 2 _ _ _ _ (NodeHi.kept kX (fun _ h => h.elim) 2 _ _ _ _ (by have := ND2.out; rw [chT_eq] at this; exact this)), TB2.out.kept kX (fun _ _ h => h), KPI.out.trans kWX, Nat.le_trans sz kWX.size⟩ ?_
      rintro X ⟨rX1, knX, ndX, nqX, tbX, kpX, szX⟩
      clear kX kW kWX rX KP1 KP2 TB2 ND2 NDI KNI KPI TBI hkc
      have hkb2 := range_cell knX.kv (j := 2) rfl
      rw [Nat.zero_add] at hkb2
      have r3 : X.rangeAt kc 0 [c0, c1, c2] := fun j u hu => rX1 j u (by
        match j, hu with
        | 0, hu | 1, hu | 2, hu => exact hu
        | j + 3, hu => simp at hu)
      have R3 := hid r3
      have RM := hid knX.room
      have RX1 := hid rX1
      have KNX := hid knX
      have NDX := hid ndX
      have NQX := hid nqX
      have TBX := hid tbX
      have KPX := hid kpX
      clear r3 rX1 knX ndX nqX tbX kpX
      go_upto_region 7 with (first
        | ((with_reducible (show wpList _ _ _ (⟨_, .load 42 _, _, _, _, _⟩ :: _) _ _)); refine wpList_load_mid rfl 42 _ rfl kc 0 rfl _ _ R3.out Ybaz.underlying42 rfl (by kernel_rfl) ?_; simp only [Act.put, List.setIfInBounds_toArray, List.set_cons_succ, List.set_cons_zero])
        | ((with_reducible (show wpList _ _ _ (⟨_, .store 42 _ _, _, _, _, _⟩ :: _) _ _)); refine wpList_store_mid rfl 42 _ _ rfl b (q * 3) #[c0, c1, c2] (by rw [← Nat.zero_add (q * 3)]; rfl) rfl (there_part RM.out (by omega) (by simp; omega)) (by kernel_rfl) (one3 ho0 ho1 ho2) ?_))
      refine wp_as (fun Y => Y.rangeAt kc 0 [c0, c1, c2, .float .f64 (Flt.nat cx), .float .f64 (Flt.nat cx)] ∧ KN w Y l (sl t.bm t.om m t.cm) (.slice t.sn (2 * cnt pr m) t.cn) (sl t.bf t.of (m + 1) t.cf) gs.length (q + 1) true b kb (fun j => [((if j = q then (c0, c1, c2) else nd j)).1, ((if j = q then (c0, c1, c2) else nd j)).2.1, ((if j = q then (c0, c1, c2) else nd j)).2.2]) (xx) (yy) ∧ (∀ j L, j < q + 1 → gs[j]? = some L → NodeHi Y (w.heap.size + 4) 2 (chT (fun x => names (mem x)) L) ((if j = q then (c0, c1, c2) else nd j)).1 ((if j = q then (c0, c1, c2) else nd j)).2.1 ((if j = q then (c0, c1, c2) else nd j)).2.2) ∧ TB Y l names tm st3 ks3 ∧ Kept (fun c => c = l.T ∨ c = l.ba ∨ c = l.mb) w Y ∧ w.heap.size + 4 ≤ Y.heap.size) ?_ ?_
      · have k1 : Kept (fun c => c = b) X (X.setCells b (q * 3) [c0, c1, c2]) := (Kept.refl (fun c => c = b) X).setCells (g := b) (.inl rfl) _ _
        refine ⟨k1.range (fun (e : kc = b) => by omega) RX1.out, (KNX.out.node hlt [c0, c1, c2] rfl (fun _ _ => rfl)).ext (fun j _ => by by_cases e : j = q <;> simp [e]), fun j L' hj hL' => ?_, TBX.out.kept k1 (fun c hc (he : c = b) => by have := LT.out c hc; omega), Kept.thn KPX.out k1 (fun c hc (he : c = b) => by omega), Nat.le_trans szX k1.size⟩
        by_cases e : j = q
        · subst e
          rw [hLq] at hL'
          cases hL'
          simp only [if_true]
          exact NodeHi.kept k1 (fun c (hc : c = b) => by omega) 2 _ _ _ _ NQX.out
        · simp only [if_neg e]
          exact NodeHi.kept k1 (fun c (hc : c = b) => by omega) 2 _ _ _ _ (NDX.out j L' (by omega) hL')
      rintro Y ⟨rY, knY, ndY, tbY, kpY, szY⟩
      clear R3 RM RX1 KNX NDX NQX TBX KPX hkb2
      refine wp_region_acts 16 59 (fun La nu U => (∀ k, La k = true → plV kb kc xx yy cx k (nu k)) ∧ U.rangeAt kc 0 [c0, c1, c2, .float .f64 (Flt.nat cx), .float .f64 (Flt.nat cx)] ∧ KN w U l (sl t.bm t.om m t.cm) (.slice t.sn (2 * cnt pr m) t.cn) (sl t.bf t.of (m + 1) t.cf) gs.length (q + 1) true b kb (fun j => [((if j = q then (c0, c1, c2) else nd j)).1, ((if j = q then (c0, c1, c2) else nd j)).2.1, ((if j = q then (c0, c1, c2) else nd j)).2.2]) (bif La 14 then max xx cx else xx) yy ∧ Kept (fun c => c = kb) Y U ∧ (La 14 = true → La 2 = true)) mixed (by kernel_rfl) rfl ?_ ?_ ?_
      · have kd : Kept (fun _ => False) Y Y.drew := (Kept.refl _ Y).drew
        exact fun nu => ⟨fun k h => (by cases h), rY, knY.kept kd (fun _ h => h.elim), (Kept.refl _ Y).drew, fun h => by cases h⟩
      · intro i o ho hi La nu a U hLi hdep hWd h1 h2'
        obtain ⟨hQ, rk, knu, kpu, hc14⟩ := hWd
        match i, ho with
        | 0, ho =>
          cases ho
          exact .inl ⟨_, _, xfield (h2' 9 (by kernel_rfl)) (fa61 kb), upd_okq hQ rfl, rk, knu, kpu, hc14⟩
        | 1, ho =>
          cases ho
          exact .inl ⟨_, _, xfield ((h1 0 _ 42 rfl rfl (by kernel_rfl)).trans (hQ 0 (hdep 0 (by kernel_rfl)))) (fa59 kb), upd_okq hQ rfl, rk, knu, kpu, hc14⟩
        | 2, ho =>
          cases ho
          have h14 : La 14 = false := by
            cases h9 : La 14 with
            | false => rfl
            | true => have := hc14 h9; rw [hLi] at this; cases this
          have hck := range_cell knu.kv (j := 3) rfl
          rw [Nat.zero_add, h14] at hck
          exact .inl ⟨_, _, xload1 ((h1 1 _ 43 rfl rfl (by kernel_rfl)).trans (hQ 1 (hdep 1 (by kernel_rfl)))) (load36 U kb 3 _ hck), upd_okq hQ rfl, rk, knu, kpu, fun _ => rfl⟩
        | 3, ho =>
          cases ho
          exact .inl ⟨_, _, xfield (h2' 12 (by kernel_rfl)) (fa61 kc), upd_okq hQ rfl, rk, knu, kpu, hc14⟩
        | 4, ho =>
          cases ho
          exact .inl ⟨_, _, xfield ((h1 3 _ 45 rfl rfl (by kernel_rfl)).trans (hQ 3 (hdep 3 (by kernel_rfl)))) (fa59 kc), upd_okq hQ rfl, rk, knu, kpu, hc14⟩
        | 5, ho =>
          cases ho
          exact .inl ⟨_, _, xload1 ((h1 4 _ 46 rfl rfl (by kernel_rfl)).trans (hQ 4 (hdep 4 (by kernel_rfl)))) (load36 U kc 3 _ (by have := range_cell rk (j := 3) rfl; rwa [Nat.zero_add] at this)), upd_okq hQ rfl, rk, knu, kpu, hc14⟩
        | 6, ho =>
          cases ho
          exact .inl ⟨_, _, xmax (fun w => by rw [(h1 2 _ 44 rfl rfl (by kernel_rfl)).trans (hQ 2 (hdep 2 (by kernel_rfl))), (h1 5 _ 47 rfl rfl (by kernel_rfl)).trans (hQ 5 (hdep 5 (by kernel_rfl)))]; exact Flt.run_max w _ _ xx cx (by omega) (by omega)), upd_okq hQ rfl, rk, knu, kpu, hc14⟩
        | 7, ho =>
          cases ho
          exact .inl ⟨_, _, xfield (h2' 9 (by kernel_rfl)) (fa61b kb), upd_okq hQ rfl, rk, knu, kpu, hc14⟩
        | 8, ho =>
          cases ho
          exact .inl ⟨_, _, xload1 ((h1 7 _ 49 rfl rfl (by kernel_rfl)).trans (hQ 7 (hdep 7 (by kernel_rfl)))) (load36 U kb 4 _ (by have := range_cell knu.kv (j := 4) rfl; rwa [Nat.zero_add] at this)), upd_okq hQ rfl, rk, knu, kpu, hc14⟩
        | 9, ho =>
          cases ho
          exact .inl ⟨_, _, xfield (h2' 12 (by kernel_rfl)) (fa61b kc), upd_okq hQ rfl, rk, knu, kpu, hc14⟩
        | 10, ho =>
          cases ho
          exact .inl ⟨_, _, xload1 ((h1 9 _ 51 rfl rfl (by kernel_rfl)).trans (hQ 9 (hdep 9 (by kernel_rfl)))) (load36 U kc 4 _ (by have := range_cell rk (j := 4) rfl; rwa [Nat.zero_add] at this)), upd_okq hQ rfl, rk, knu, kpu, hc14⟩
        | 11, ho =>
          cases ho
          exact .inl ⟨_, _, xmax (fun w => by rw [(h1 8 _ 50 rfl rfl (by kernel_rfl)).trans (hQ 8 (hdep 8 (by kernel_rfl))), (h1 10 _ 52 rfl rfl (by kernel_rfl)).trans (hQ 10 (hdep 10 (by kernel_rfl)))]; exact Flt.run_max w _ _ yy cx (by omega) (by omega)), upd_okq hQ rfl, rk, knu, kpu, hc14⟩
        | 12, ho =>
          cases ho
          exact .inl ⟨_, _, xfield (h2' 9 (by kernel_rfl)) (fa61 kb), upd_okq hQ rfl, rk, knu, kpu, hc14⟩
        | 13, ho =>
          cases ho
          exact .inl ⟨_, _, xfield ((h1 12 _ 54 rfl rfl (by kernel_rfl)).trans (hQ 12 (hdep 12 (by kernel_rfl)))) (fa59 kb), upd_okq hQ rfl, rk, knu, kpu, hc14⟩
        | 14, ho =>
          cases ho
          refine .inr (.inr ⟨U.setCell ⟨kb, 3, none⟩ (.float .f64 (Flt.nat (max xx cx))), xstore1 ((h1 13 _ 55 rfl rfl (by kernel_rfl)).trans (hQ 13 (hdep 13 (by kernel_rfl)))) ((h1 6 _ 48 rfl rfl (by kernel_rfl)).trans (hQ 6 (hdep 6 (by kernel_rfl)))) (store36 U kb 3 _ (by have := (knu.kt 3 (by omega)).1; simpa using this) (by have := (knu.kt 3 (by omega)).2; simpa using this)), upd_okq hQ trivial, ?_, knu.took _, kpu.setCell (p := ⟨kb, 3, none⟩) (.inl rfl) _, fun _ => hdep 2 (by kernel_rfl)⟩)
          exact range_setCell rk _ _ (fun (e : kb = kc) => by omega)
        | 15, ho =>
          cases ho
          exact .inl ⟨_, _, xfield (h2' 9 (by kernel_rfl)) (fa61b kb), upd_okq hQ rfl, rk, knu, kpu, hc14⟩
        | i + 16, ho => omega
      · intro oz hoz La nu U hLa hWd
        cases hoz
        obtain ⟨hQ, rk, knu, kpu, hc14⟩ := hWd
        have q15 : nu 15 = .pointer (some ⟨kb, 4, none⟩) := hQ 15 (hLa 15 (by omega))
        have q11 : nu 11 = .float .f64 (Flt.nat (max yy cx)) := hQ 11 (hLa 11 (by omega))
        have h14 := hLa 14 (by omega)
        rw [h14] at knu
        simp only [lay, List.take, Act.put, List.setIfInBounds_toArray, List.set_cons_succ, List.set_cons_zero, q15, q11]
        have hst := run_store1 (P := Ybaz.prog) U kb 4 (.float .f64 (Flt.nat (max yy cx))) (by have := (knu.kt 4 (by omega)).1; simpa using this) (by have := (knu.kt 4 (by omega)).2; simpa using this) rfl
        have k5 : Kept (fun c => c = kb) Y (U.setCell ⟨kb, 4, none⟩ (.float .f64 (Flt.nat (max yy cx)))) := kpu.setCell (p := ⟨kb, 4, none⟩) (.inl rfl) _
        have kn5 := knu.least (max yy cx)
        have K5 := hid k5
        have KN5 := hid kn5
        have NDY := hid ndY
        have TBY := hid tbY
        have KPY := hid kpY
        clear k5 kn5 knu kpu rk hQ hLa ndY tbY kpY knY rY
        go_wp2
        go_roundw
        case rel =>
          refine ⟨q + 1, by omega, by go_num, (fun j => if j = q then (c0, c1, c2) else nd j), max xx cx, max yy cx, st3, ks3, KN5.out, ⟨by omega, by omega⟩, fun j L' hj hL' => NodeHi.kept K5.out (fun c (hc : c = kb) => by omega) 2 _ _ _ _ (NDY.out j L' hj hL'), TBY.out.kept K5.out (fun c hc (he : c = kb) => by have := LT.out c hc; omega), fun key hk => ?_, Kept.thn KPY.out K5.out (fun c hc (he : c = kb) => by omega), Nat.le_trans szY K5.out.size⟩
          have old : key ∈ ks → ∃ (j : Nat) (L X : List Nat), j < q + 1 ∧ gs[j]? = some L ∧ key = keyB (uv (mem (L.getD 0 0)) ++ X) := fun hk => by
            obtain ⟨j, L', X', h1, h2, h3⟩ := HKS.out key hk
            exact ⟨j, L', X', by omega, h2, h3⟩
          rcases hks3 with rfl | rfl
          · exact old hk
          · rcases List.mem_append.1 hk with hk | hk
            · exact old hk
            · obtain ⟨Y', hY'⟩ := keyL_head (fun k => mem (L.getD k 0)) chn L.length HCH.out.pos
              refine ⟨q, L, Y', by omega, hLq, ?_⟩
              rw [← hY']
              simpa using hk
        case measure => simp [intOf]; omega
    · have hqe : q = gs.length := by omega
      have RK := hid kn.kv
      have TR := hid kn.rs
      have KNI := hid kn
      have KPI := hid kp
      have TBI := hid tb
      have NDI := hid hnode
      clear kn kp tb hnode
      go_wp2_with (first
        | ((with_reducible (show wpList _ _ _ (⟨_, .load 61 _, _, _, _, _⟩ :: _) _ _)); refine wpList_load_mid rfl 61 _ rfl kb 0 rfl _ _ RK.out Ybaz.underlying61 rfl (by kernel_rfl) ?_; simp only [Act.put, List.setIfInBounds_toArray, List.set_cons_succ, List.set_cons_zero])
        | ((with_reducible (show wpList _ _ _ (⟨_, .store 61 _ _, _, _, _, _⟩ :: _) _ _)); refine wpList_store_mid rfl 61 _ _ rfl (w.heap.size + 1) 0 #[.string ⟨#[]⟩, .bool true, sl b 0 gs.length gs.length, .float .f64 (Flt.nat xx), .float .f64 (Flt.nat yy)] rfl rfl TR.out (by kernel_rfl) (by simp [Value.oneCell']) ?_))
      have k3 : Kept (fun c => c = w.heap.size + 1) wr (wr.setCells (w.heap.size + 1) 0 [.string ⟨#[]⟩, .bool true, sl b 0 gs.length gs.length, .float .f64 (Flt.nat xx), .float .f64 (Flt.nat yy)]) := (Kept.refl (fun c => c = w.heap.size + 1) wr).setCells (g := w.heap.size + 1) (.inl rfl) _ _
      refine bodyPost_ret (v := .agg #[.string ⟨#[]⟩, .bool true, sl b 0 gs.length gs.length, .float .f64 (Flt.nat xx), .float .f64 (Flt.nat yy)]) (results_cell Ybaz.results16 _ _ _ (b := w.heap.size + 1) (o := 0) rfl ?_) rfl ⟨b, xx, yy, st, ks, rfl, by omega, fun k L hL => ?_, ?_, ?_⟩
      · exact run_loadVar_mid _ _ _ 61 [.string ⟨#[]⟩, .bool true, sl b 0 gs.length gs.length, .float .f64 (Flt.nat xx), .float .f64 (Flt.nat yy)] _ (World.rangeAt_setCells_same _ _ _ _ TR.out) Ybaz.underlying61 rfl (by kernel_rfl)
      · have hk : k < q := by have := (List.getElem?_eq_some_iff.1 hL).1; omega
        exact ⟨_, _, _, k3.range (fun (e : b = w.heap.size + 1) => by omega) (KNI.out.at' k hk), NodeHi.mono (by omega) 2 _ _ _ _ (NodeHi.kept k3 (fun c (hc : c = w.heap.size + 1) => by omega) 2 _ _ _ _ (NDI.out k L hk hL))⟩
      · exact TBI.out.kept k3 (fun c hc (he : c = w.heap.size + 1) => by have := LT.out c hc; omega)
      · exact Kept.thn KPI.out k3 (fun c hc (he : c = w.heap.size + 1) => by omega)
end Go.Proofs.YbulkdsicGreat
