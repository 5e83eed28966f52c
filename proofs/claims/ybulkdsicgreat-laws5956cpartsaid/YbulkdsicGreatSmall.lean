import Derived.Test.YbulkdsicGreatComp
set_option linter.unusedVariables false
set_option linter.unusedSimpArgs false
namespace Go.Proofs.YbulkdsicGreat
open Go.RowKit Go.Shelf

theorem cnt_hit (pr : Nat → Option Nat) : ∀ (m q : Nat), q < cnt pr m → ∃ i j, i < m ∧ cnt pr i = q ∧ pr i = some j
  | 0, q, h => by simp [cnt] at h
  | m + 1, q, h => by
    by_cases hq : q < cnt pr m
    · obtain ⟨i, j, h1, h2, h3⟩ := cnt_hit pr m q hq
      exact ⟨i, j, by omega, h2, h3⟩
    · simp only [cnt] at h
      cases hp : pr m with
      | none => rw [waits_none hp] at h; omega
      | some j => rw [waits_some hp] at h; exact ⟨m, j, by omega, by omega, hp⟩

theorem Bat.ones {W : World} {t : Bt} {m : Nat} {mem : Nat → Nat} {pr : Nat → Option Nat} (h : Bat W t m mem pr) {q : Nat} (hq : q < cnt pr m) : ∃ b o, t.sn = some ⟨b, o, none⟩ ∧ W.cell? ⟨b, o + 2 * q, none⟩ = some (vi 1) := by
  obtain ⟨i, j, h1, h2, h3⟩ := cnt_hit pr m q hq
  obtain ⟨b, o, e, c1, _⟩ := h.one i j h1 h3
  rw [h2] at c1
  exact ⟨b, o, e, c1⟩

set_option maxRecDepth 100000 in
set_option maxHeartbeats 1000000 in
theorem choice_any (t : Bt) (m : Nat) (mem : Nat → Nat) (pr : Nat → Option Nat) (w : World) (h : Bat w t m mem pr) :
    Calls Ybaz.prog 17 #[.agg #[sl t.bm t.om m t.cm, .slice t.sn (2 * cnt pr m) t.cn, sl t.bf t.of (m + 1) t.cf]] w fun e w' => e = .returned (.int .i64 (-1)) ∧ Below w.heap.size w w' := by
  have hb := h.below ((Below.refl _ w).alloc (Nat.le_refl _) (.cells #[sl t.bm t.om m t.cm, .slice t.sn (2 * cnt pr m) t.cn, sl t.bf t.of (m + 1) t.cf] 53))
  have c1 : (w.alloc (.cells #[sl t.bm t.om m t.cm, .slice t.sn (2 * cnt pr m) t.cn, sl t.bf t.of (m + 1) t.cf] 53)).cell? ⟨w.heap.size, 1, none⟩ = some (.slice t.sn (2 * cnt pr m) t.cn) := by simp
  have hfew := h.few
  have hcm := cnt_le pr m
  have HB := hid hb
  clear h hb
  go_enter Ybaz.func17, Ybaz.ntmps17
  go_wp2_with (refine wpList_box_as rfl 53 _ rfl #[sl t.bm t.om m t.cm, .slice t.sn (2 * cnt pr m) t.cn, sl t.bf t.of (m + 1) t.cf] rfl (bx53 _ _ _) ?_)
  obtain ⟨W, hW⟩ : ∃ W, w.alloc (.cells #[sl t.bm t.om m t.cm, .slice t.sn (2 * cnt pr m) t.cn, sl t.bf t.of (m + 1) t.cf] 53) = W := ⟨_, rfl⟩
  have B0 := hid ((Below.refl w.heap.size w).alloc (Nat.le_refl _) (.cells #[sl t.bm t.om m t.cm, .slice t.sn (2 * cnt pr m) t.cn, sl t.bf t.of (m + 1) t.cf] 53))
  rw [hW] at c1 HB B0 ⊢
  go_loop [3] (fun r => ∃ q : Nat, q ≤ cnt pr m ∧ r = vi (2 * q)) (fun r => 2 * cnt pr m - (intOf r).toNat)
  case atStart => exact ⟨0, Nat.zero_le _, rfl⟩
  case round =>
    obtain ⟨q, hq, rfl⟩ := hrel
    by_cases hlt : q < cnt pr m
    · obtain ⟨b, o, hsn, hc⟩ := HB.out.ones hlt
      have hli : 2 * (q : Int) < 2 * (cnt pr m : Int) := by omega
      rw [hsn] at c1
      go_wp2
      go_round
      case rel => exact ⟨q + 1, by omega, by go_num⟩
      case measure => simp [intOf]; omega
    · obtain rfl : q = cnt pr m := by omega
      go_wp2
      go_ret
      exact ⟨rfl, B0.out⟩

/-- The tree builder in memory. -/
structure TBl where
  T : Nat
  n : Nat
  bn : Nat
  bt : Nat
  ba : Nat
  bl : Nat
  mb : Nat
def TBl.cells (l : TBl) (steps : Int) : List Value := [sl l.bn 0 l.n l.n, sl l.bt 0 l.n l.n, sl l.ba 0 l.n l.n, sl l.bl 0 l.n l.n, .map (some l.mb), .int .i64 steps]
structure TB (W : World) (l : TBl) (names : Nat → ByteArray) (tm : Nat → Value) (steps : Int) (ks : List ByteArray) : Prop where
  st : W.rangeAt l.T 0 (l.cells steps)
  th : W.there l.T 0 6
  nm : Tab W l.bn 0 l.n (fun k => .string (names k))
  tt : Tab W l.bt 0 l.n tm
  at' : Tab W l.ba 0 l.n (fun _ => .int .i64 (-1))
  al : Tab W l.bl 0 l.n (fun _ => .bool false)
  mp : MapS W l.mb ks
  fl : ∀ k, k < l.n → ∃ x, tm k = .float .f64 x
  few : l.n ≤ 300
  ne : [l.T, l.bn, l.bt, l.ba, l.bl, l.mb].Nodup

set_option maxRecDepth 100000 in
set_option maxHeartbeats 1000000 in
theorem leaf_any (l : TBl) (names : Nat → ByteArray) (tm : Nat → Value) (steps : Int) (ks : List ByteArray) (s : Nat) (w : World) (h : TB w l names tm steps ks) (hs : s < l.n) :
    Calls Ybaz.prog 13 #[.pointer (some ⟨l.T, 0, none⟩), vi s] w fun e w' => e = .returned (.agg #[.string (names s), .bool false, .slice none 0 0, tm s]) ∧ Below w.heap.size w w' := by
  have k0 : Kept (fun _ => False) w (w.alloc (.cells #[.string ⟨#[]⟩, .bool false, .slice none 0 0, .float .f64 0] 59)) := (Kept.refl _ w).alloc _
  have c0 : (w.alloc (.cells #[.string ⟨#[]⟩, .bool false, .slice none 0 0, .float .f64 0] 59)).cell? ⟨l.T, 0, none⟩ = some (sl l.bn 0 l.n l.n) := by simpa using k0.range (fun h => h) h.st 0 _ rfl
  have c1 : (w.alloc (.cells #[.string ⟨#[]⟩, .bool false, .slice none 0 0, .float .f64 0] 59)).cell? ⟨l.T, 1, none⟩ = some (sl l.bt 0 l.n l.n) := by simpa using k0.range (fun h => h) h.st 1 _ rfl
  have c2 : (w.alloc (.cells #[.string ⟨#[]⟩, .bool false, .slice none 0 0, .float .f64 0] 59)).cell? ⟨l.bn, s, none⟩ = some (.string (names s)) := by simpa using (h.nm.kept k0 (fun h => h)).cell hs
  have c3 : (w.alloc (.cells #[.string ⟨#[]⟩, .bool false, .slice none 0 0, .float .f64 0] 59)).cell? ⟨l.bt, s, none⟩ = some (tm s) := by simpa using (h.tt.kept k0 (fun h => h)).cell hs
  obtain ⟨x, hx⟩ := h.fl s hs
  rw [hx] at c3 ⊢
  have hsi : (s : Int) < (l.n : Int) := by omega
  have hfew := h.few
  have cz : ∀ j, j < 4 → ((w.alloc (.cells #[.string ⟨#[]⟩, .bool false, .slice none 0 0, .float .f64 0] 59)).cell? ⟨w.heap.size, j, none⟩).isSome = true := fun j hj => by
    rw [World.cell?_alloc_new]; simp; omega
  have B0 := hid ((Below.refl w.heap.size w).alloc (Nat.le_refl _) (.cells #[.string ⟨#[]⟩, .bool false, .slice none 0 0, .float .f64 0] 59))
  have th := there_new w [.string ⟨#[]⟩, .bool false, .slice none 0 0, .float .f64 0] 59
  clear h k0 cz
  go_enter Ybaz.func13, Ybaz.ntmps13
  go_wp2
  obtain ⟨W, hW⟩ : ∃ W, w.alloc (.cells #[.string ⟨#[]⟩, .bool false, .slice none 0 0, .float .f64 0] 59) = W := ⟨_, rfl⟩
  have hW' : w.alloc (.cells [Value.string ⟨#[]⟩, .bool false, .slice none 0 0, .float .f64 0].toArray 59) = W := hW
  rw [hW'] at th
  rw [hW] at c0 c1 c2 c3 B0 ⊢
  have TH := hid th
  clear th
  refine wp_region_quiet_tail 16 (fun w' => ∃ nq, w' = W.drewN nq) mixed (by kernel_rfl) ⟨1, rfl⟩ ?_
  dsimp only [List.take, List.drop]
  repeat go_big_quiet_step (fail)
  refine wpQuiet_nil ?_
  rintro _ ⟨nq, rfl⟩
  refine wpList_store_mid rfl 59 _ _ rfl w.heap.size 0 #[.string (names s), .bool false, .slice none 0 0, .float .f64 x] rfl rfl TH.out (by kernel_rfl) (by simp [Value.oneCell']) ?_
  go_wp2
  refine bodyPost_ret (v := .agg #[.string (names s), .bool false, .slice none 0 0, .float .f64 x]) (results_cell Ybaz.results13 _ _ _ (b := w.heap.size) (o := 0) rfl ?_) rfl ⟨rfl, ?_⟩
  · exact run_loadVar_mid _ _ _ 59 [.string (names s), .bool false, .slice none 0 0, .float .f64 x] _ (World.rangeAt_setCells_same _ _ _ _ TH.out) Ybaz.underlying59 rfl (by kernel_rfl)
  · have b1 : Below w.heap.size w (W.drewN nq) := B0.out.trans ⟨rfl, rfl, rfl, Nat.le_refl _, fun _ _ => rfl⟩
    exact below_setCells b1 (Nat.le_refl _) _ _
end Go.Proofs.YbulkdsicGreat
