import Derived.Test.YbulkdsicGreatKey
import Derived.Laws.IdiomStrings
set_option linter.unusedVariables false
set_option linter.unusedSimpArgs false
namespace Go.Proofs.YbulkdsicGreat
open Go.RowKit Go.Shelf

/-- A batch's key. -/
def keyAt (mem : Nat → Nat) (pr : Nat → Option Nat) (i : Nat) : List Nat := uv (mem i) ++ uv (2 * waits pr i) ++ (match pr i with | some j => uv 1 ++ uv j | none => [])
def keyL (mem : Nat → Nat) (pr : Nat → Option Nat) : Nat → List Nat
  | 0 => []
  | i + 1 => keyL mem pr i ++ keyAt mem pr i
theorem uv_len (x : Nat) : (uv x).length ≤ 2 := by unfold uv; split <;> simp
theorem keyAt_len (mem : Nat → Nat) (pr : Nat → Option Nat) (i : Nat) : (keyAt mem pr i).length ≤ 8 := by
  unfold keyAt
  have h1 := uv_len (mem i)
  have h2 := uv_len (2 * waits pr i)
  cases pr i with
  | none => simp; omega
  | some j =>
    have h3 := uv_len 1
    have h4 := uv_len j
    simp; omega
theorem keyL_len (mem : Nat → Nat) (pr : Nat → Option Nat) : ∀ i, (keyL mem pr i).length ≤ 8 * i
  | 0 => by simp [keyL]
  | i + 1 => by have := keyL_len mem pr i; have := keyAt_len mem pr i; simp [keyL]; omega
theorem uv_byte {x b : Nat} (hx : x < 700) (h : b ∈ uv x) : b < 256 := by
  unfold uv at h
  split at h <;> simp at h <;> omega

theorem keyL_byte {mem : Nat → Nat} {pr : Nat → Option Nat} {m : Nat} (hm : ∀ i, i < m → mem i < 300) (hl : ∀ i j, i < m → pr i = some j → j < i) (h3 : m ≤ 300) : ∀ i, i ≤ m → ∀ b ∈ keyL mem pr i, b < 256
  | 0, _, b, h => by simp [keyL] at h
  | i + 1, hi, b, h => by
    simp only [keyL, List.mem_append] at h
    rcases h with h | h
    · exact keyL_byte hm hl h3 i (by omega) b h
    · unfold keyAt at h
      simp only [List.mem_append] at h
      rcases h with (h | h) | h
      · exact uv_byte (by have := hm i (by omega); omega) h
      · exact uv_byte (by have := waits_le pr i; omega) h
      · cases hp : pr i with
        | none => rw [hp] at h; simp at h
        | some j =>
          rw [hp] at h
          simp only [List.mem_append] at h
          rcases h with h | h
          · exact uv_byte (by omega) h
          · exact uv_byte (by have := hl i j (by omega) hp; omega) h
theorem uv_pos (x : Nat) : 0 < (uv x).length := by unfold uv; split <;> simp
/-- What key keeps. -/
structure KS (w W : World) (t : Bt) (m k : Nat) (kv : Value) (L : List Nat) : Prop where
  bel : Below w.heap.size w W
  box : W.rangeAt w.heap.size 0 [sl t.bm t.om m t.cm, .slice t.sn k t.cn, sl t.bf t.of (m + 1) t.cf]
  own : W.ownsRow (w.heap.size + 1) 5 1 kv L.length (L.map vb)
  size : w.heap.size + 1 ≤ W.heap.size
theorem KS.push {w W W' : World} {t : Bt} {m k : Nat} {kv kv' : Value} {L M : List Nat} (h : KS w W t m k kv L) (own1 : W'.ownsRow (w.heap.size + 1) 5 1 kv' (L.length + M.length) (L.map vb ++ M.map vb)) (gr : W.grownBy W' kv.ownBlock) : KS w W' t m k kv' (L ++ M) := by
  have kp : Kept (fun b => kv.ownBlock = some b) W W' := (Kept.refl _ W).grown gr (fun _ hb => .inl hb)
  have hE : ∀ b, kv.ownBlock = some b → w.heap.size + 1 ≤ b := fun b hb => (own_block h.own hb).1
  refine ⟨h.bel.trans (kp.toBelow (fun b hb he => by have := hE b he; omega) h.bel.size), kp.range (fun he => by have := hE _ he; omega) h.box, by simpa using own1, Nat.le_trans h.size kp.size⟩

theorem KS.drewN {w W : World} {t : Bt} {m k : Nat} {kv : Value} {L : List Nat} (h : KS w W t m k kv L) (n : Nat) : KS w (W.drewN n) t m k kv L :=
  ⟨h.bel.trans ⟨rfl, rfl, rfl, Nat.le_refl _, fun _ _ => rfl⟩, h.box, h.own, h.size⟩

set_option maxRecDepth 100000 in
set_option maxHeartbeats 4000000 in
theorem key_any (t : Bt) (m : Nat) (mem : Nat → Nat) (pr : Nat → Option Nat) (w : World) (h : Bat w t m mem pr) (hm : 0 < m) :
    Calls Ybaz.prog 14 #[.agg #[sl t.bm t.om m t.cm, .slice t.sn (2 * cnt pr m) t.cn, sl t.bf t.of (m + 1) t.cf]] w fun e w' =>
      e = .returned (.string ⟨((keyL mem pr m).map UInt8.ofNat).toArray⟩) ∧ Below w.heap.size w w' := by
  obtain ⟨i5, hi5, hz5, hs5, hb5⟩ := info_parts Ybaz.info5
  have hfew := h.few
  have H := hid h
  clear h
  have rng := range_new w [sl t.bm t.om m t.cm, .slice t.sn (2 * cnt pr m) t.cn, sl t.bf t.of (m + 1) t.cf] 53
  have B0 := hid ((Below.refl w.heap.size w).alloc (Nat.le_refl _) (.cells #[sl t.bm t.om m t.cm, .slice t.sn (2 * cnt pr m) t.cn, sl t.bf t.of (m + 1) t.cf] 53))
  have RNG := hid rng
  clear rng
  go_enter Ybaz.func14, Ybaz.ntmps14
  go_wp2_with (first
    | (refine wpList_box_as rfl 53 _ rfl #[sl t.bm t.om m t.cm, .slice t.sn (2 * cnt pr m) t.cn, sl t.bf t.of (m + 1) t.cf] rfl (bx53 _ _ _) ?_)
    | (at_make; refine wpList_make_own _ rfl (.const (.int .i64 0)) (.tmp 11) 24 rfl (w.heap.size + 1) 5 i5 (.int .u8 0) 1 Ybaz.underlying24 hi5 hz5 hs5 .i64 .i64 _ (4 * m) rfl rfl (by omega) (by rw [hb5]; omega) (by unfold maxLen; omega) (by simp) ?_; intro W1 own1 gr1; rw [World.size_alloc] at own1; have ks0 : KS w W1 t m (2 * cnt pr m) (sl (w.heap.size + 1) 0 0 (4 * m)) [] := (by
        have kp : Kept (fun _ => False) (w.alloc (.cells #[sl t.bm t.om m t.cm, .slice t.sn (2 * cnt pr m) t.cn, sl t.bf t.of (m + 1) t.cf] 53)) W1 := (Kept.refl _ _).grown gr1 (fun _ hb => by cases hb)
        exact ⟨B0.out.trans (kp.toBelow (fun _ _ h => h) (by simp)), kp.range (fun h => h) RNG.out, own1, by have := kp.size; simp at this; omega⟩); have hb0 : W1.cell? ⟨w.heap.size, 0, none⟩ = some (sl t.bm t.om m t.cm) := (by simpa using ks0.box 0 _ rfl); have KS0 := hid ks0; clear ks0 own1 gr1 B0 RNG))
  go_loopw [16, 3] (fun x kv W => ∃ i : Nat, i ≤ m ∧ x = vi i ∧ KS w W t m (2 * cnt pr m) kv (keyL mem pr i)) (fun x _ _ => m - (intOf x).toNat)
  case atStart => exact ⟨0, Nat.zero_le _, rfl, KS0.out⟩
  case round =>
    obtain ⟨i, hi, rfl, ks⟩ := hrel
    clear KS0
    by_cases hlt : i < m
    · have hli : (i : Int) < (m : Int) := by omega
      have hbt := H.out.below ks.bel
      have hme := hbt.mem' i hlt
      have hml := hbt.mlt i hlt
      have hkl := keyL_len mem pr i
      have UV := hid (uvarint_any (mem i) (by omega) (w.heap.size + 1) u3 (keyL mem pr i).length ((keyL mem pr i).map vb) wr ks.size (by omega) ks.own)
      have KSI := hid ks
      clear ks
      go_wp2_with (go_at_call 27; refine UV.out.mono ?_; rintro e W2 ⟨kv2, rfl, own2, gr2⟩; have KS2 := hid (KSI.out.push own2 gr2); clear own2 gr2 UV)
      have hb2 := H.out.below KS2.out.bel
      have x1 : W2.cell? ⟨w.heap.size, 1, none⟩ = some (.slice t.sn (2 * cnt pr m) t.cn) := by simpa using KS2.out.box 1 _ rfl
      have x2 : W2.cell? ⟨w.heap.size, 2, none⟩ = some (sl t.bf t.of (m + 1) t.cf) := by simpa using KS2.out.box 2 _ rfl
      have f0 := hb2.frm i (by omega)
      have f1 := hb2.frm (i + 1) (by omega)
      have hl2 : (keyL mem pr i ++ uv (mem i)).length ≤ 8 * i + 2 := by have := uv_len (mem i); simp; omega
      have hcm := cnt_mono pr (show i + 1 ≤ m by omega)
      have hci := cnt_le pr m
      cases hp : pr i with
      | none =>
        have e1 : cnt pr (i + 1) = cnt pr i := by simp [cnt, waits_none hp]
        rw [e1] at f1 hcm
        have hkey : keyL mem pr (i + 1) = keyL mem pr i ++ uv (mem i) ++ uv 0 := by simp [keyL, keyAt, hp, waits_none hp]
        obtain ⟨c, hc⟩ : ∃ c, 2 * cnt pr i = c := ⟨_, rfl⟩
        rw [hc] at f0 f1
        refine wp_region_quiet_tail 14 (fun w' => ∃ nq, w' = W2.drewN nq) mixed (by kernel_rfl) ⟨1, rfl⟩ ?_
        dsimp only [List.take, List.drop]
        repeat go_big_quiet_step (fail)
        refine wpQuiet_nil ?_
        rintro _ ⟨nq, rfl⟩
        have UV2 := hid (uvarint_any 0 (by omega) (w.heap.size + 1) kv2 (keyL mem pr i ++ uv (mem i)).length ((keyL mem pr i ++ uv (mem i)).map vb) (W2.drewN nq) (KS2.out.drewN nq).size (by omega) (KS2.out.drewN nq).own)
        go_wp2_with (go_at_call 27; refine UV2.out.mono ?_; rintro e W3 ⟨kv3, rfl, own3, gr3⟩; have KS3 := hid ((KS2.out.drewN nq).push own3 gr3); clear own3 gr3 UV2)
        have hb3 := H.out.below KS3.out.bel
        have y1 : W3.cell? ⟨w.heap.size, 1, none⟩ = some (.slice t.sn (2 * cnt pr m) t.cn) := by simpa using KS3.out.box 1 _ rfl
        have y2 : W3.cell? ⟨w.heap.size, 2, none⟩ = some (sl t.bf t.of (m + 1) t.cf) := by simpa using KS3.out.box 2 _ rfl
        have g0 := hb3.frm i (by omega)
        have g1 := hb3.frm (i + 1) (by omega)
        rw [e1, hc] at g1
        rw [hc] at g0
        have hcap := hb3.cap
        have hccn : c ≤ t.cn := by omega
        obtain ⟨sv, cv, hsl⟩ : ∃ sv cv, ∀ W, Sem.run Ybaz.prog (Instr.sliceAt 26 (.slice t.sn (2 * cnt pr m) t.cn) (some (vi c)) (some (vi c)) none) W = .ok (.slice sv 0 cv) W := by
          refine ⟨(if t.cn = c then t.sn else t.sn.map (·.add (c * 1))), t.cn - c, fun W => ?_⟩
          have e3 : Ybaz.prog.elem 26 = 3 := by kernel_rfl
          have u26 : Ybaz.prog.underlying 26 = some (.slice (Ybaz.prog.elem 26)) := by rw [e3]; exact Ybaz.underlying26
          have s3 : ∀ W, Sem.run Ybaz.prog (Go.sizeOf 3) W = .ok 1 W := fun W => by kernel_rfl
          rw [run_sliceAt_slice W 26 _ _ _ _ u26, run_slice_lh (P := Ybaz.prog) W 26 t.sn (2 * cnt pr m) t.cn u26 .i64 .i64 c c (by omega) (by omega) (by omega), e3, s3]
          simp [sliced, Result.andThen]
        clear hb2 hb3 x1 x2 f0 f1
        go_quiet (fail)
        go_wp2
        refine wp_loop_rounds 1 ?_
        rw [rounds_succ]
        go_wp2
        go_roundw
        case rel => exact ⟨i + 1, by omega, by go_num, by rw [hkey]; exact KS3.out.drewN _⟩
        case measure => simp [intOf]; omega
      | some j =>
        have e1 : 2 * cnt pr (i + 1) = 2 * cnt pr i + 2 := by simp only [cnt, waits_some hp]; omega
        have hjl := H.out.low i j hlt hp
        rw [e1] at f1
        have hkey : keyL mem pr (i + 1) = keyL mem pr i ++ uv (mem i) ++ uv 2 ++ uv 1 ++ uv j := by simp [keyL, keyAt, hp, waits_some hp]
        obtain ⟨c, hc⟩ : ∃ c, 2 * cnt pr i = c := ⟨_, rfl⟩
        rw [hc] at f0 f1
        refine wp_region_quiet_tail 14 (fun w' => ∃ nq, w' = W2.drewN nq) mixed (by kernel_rfl) ⟨1, rfl⟩ ?_
        dsimp only [List.take, List.drop]
        repeat go_big_quiet_step (fail)
        refine wpQuiet_nil ?_
        rintro _ ⟨nq, rfl⟩
        rw [show ((c : Int) + 2 - (c : Int)) = ((2 : Nat) : Int) by omega]
        have UV2 := hid (uvarint_any 2 (by omega) (w.heap.size + 1) kv2 (keyL mem pr i ++ uv (mem i)).length ((keyL mem pr i ++ uv (mem i)).map vb) (W2.drewN nq) (KS2.out.drewN nq).size (by omega) (KS2.out.drewN nq).own)
        go_wp2_with (go_at_call 27; refine UV2.out.mono ?_; rintro e W3 ⟨kv3, rfl, own3, gr3⟩; have KS3 := hid ((KS2.out.drewN nq).push own3 gr3); clear own3 gr3 UV2)
        have hb3 := H.out.below KS3.out.bel
        have y1 : W3.cell? ⟨w.heap.size, 1, none⟩ = some (.slice t.sn (2 * cnt pr m) t.cn) := by simpa using KS3.out.box 1 _ rfl
        have y2 : W3.cell? ⟨w.heap.size, 2, none⟩ = some (sl t.bf t.of (m + 1) t.cf) := by simpa using KS3.out.box 2 _ rfl
        have g0 := hb3.frm i (by omega)
        have g1 := hb3.frm (i + 1) (by omega)
        rw [e1, hc] at g1
        rw [hc] at g0
        have hcap := hb3.cap
        have hccn : c + 2 ≤ t.cn := by omega
        obtain ⟨b, o, hsn, n1, n2⟩ := hb3.one i j hlt hp
        rw [hc] at n1 n2
        have n2' : W3.cell? ⟨b, o + c + 1, none⟩ = some (vi j) := by rw [Nat.add_assoc]; exact n2
        have hsl : ∀ W, Sem.run Ybaz.prog (Instr.sliceAt 26 (.slice t.sn (2 * cnt pr m) t.cn) (some (vi c)) (some (vi (c + 2))) none) W = .ok (sl b (o + c) 2 (t.cn - c)) W := fun W => by
          have e3 : Ybaz.prog.elem 26 = 3 := by kernel_rfl
          have u26 : Ybaz.prog.underlying 26 = some (.slice (Ybaz.prog.elem 26)) := by rw [e3]; exact Ybaz.underlying26
          have s3 : ∀ W, Sem.run Ybaz.prog (Go.sizeOf 3) W = .ok 1 W := fun W => by kernel_rfl
          rw [run_sliceAt_slice W 26 _ _ _ _ u26, run_slice_lh (P := Ybaz.prog) W 26 t.sn (2 * cnt pr m) t.cn u26 .i64 .i64 c (c + 2 : Nat) (by omega) (by omega) (by omega), e3, s3, hsn]
          have h9 : ¬ t.cn = c := by omega
          simp only [sliced, Result.andThen, Int.toNat_natCast, Option.map_some, Addr.add, if_neg h9, Nat.mul_one]
          rw [show c + 2 - c = 2 by omega]
          by_cases h0 : c = 0
          · subst h0; simp
          · rw [if_neg h0]
        have hl3 : (keyL mem pr i ++ uv (mem i) ++ uv 2).length ≤ 8 * i + 4 := by have := uv_len 2; rw [List.length_append]; omega
        have HSN := hid hsn
        clear hb2 hb3 x1 x2 f0 f1 hsn
        go_quiet (fail)
        go_wp2
        refine wp_loop_rounds 3 ?_
        rw [rounds_succ]
        have n1q : (W3.drewN nq).cell? ⟨b, o + c, none⟩ = some (vi 1) := n1
        have UV3 := hid (uvarint_any 1 (by omega) (w.heap.size + 1) kv3 (keyL mem pr i ++ uv (mem i) ++ uv 2).length ((keyL mem pr i ++ uv (mem i) ++ uv 2).map vb) (W3.drewN nq) (KS3.out.drewN nq).size (by omega) (KS3.out.drewN nq).own)
        go_wp2_with (go_at_call 27; refine UV3.out.mono ?_; rintro e W4 ⟨kv4, rfl, own4, gr4⟩; have KS4 := hid ((KS3.out.drewN nq).push own4 gr4); clear own4 gr4 UV3)
        have n2q : W4.cell? ⟨b, o + c + 1, none⟩ = some (vi j) := by
          obtain ⟨b', o', hsn', _, n2b⟩ := (H.out.below KS4.out.bel).one i j hlt hp
          rw [HSN.out] at hsn'
          cases hsn'
          rw [hc] at n2b
          rw [Nat.add_assoc]; exact n2b
        have hl4 : (keyL mem pr i ++ uv (mem i) ++ uv 2 ++ uv 1).length ≤ 8 * i + 6 := by have := uv_len 1; rw [List.length_append]; omega
        have hjm := H.out.mlt
        rw [rounds_succ]
        have UV4 := hid (uvarint_any j (by omega) (w.heap.size + 1) kv4 (keyL mem pr i ++ uv (mem i) ++ uv 2 ++ uv 1).length ((keyL mem pr i ++ uv (mem i) ++ uv 2 ++ uv 1).map vb) W4 KS4.out.size (by omega) KS4.out.own)
        go_wp2_with (go_at_call 27; refine UV4.out.mono ?_; rintro e W5 ⟨kv5, rfl, own5, gr5⟩; have KS5 := hid (KS4.out.push own5 gr5); clear own5 gr5 UV4)
        rw [rounds_succ]
        go_wp2
        go_roundw
        case rel => exact ⟨i + 1, by omega, by go_num, by rw [hkey]; exact KS5.out⟩
        case measure => simp [intOf]; omega
    · obtain rfl : i = m := by omega
      have hpos : 0 < (keyL mem pr i).length := by
        obtain ⟨k, rfl⟩ : ∃ k, i = k + 1 := ⟨i - 1, by omega⟩
        have := uv_pos (mem k)
        simp [keyL, keyAt]
        omega
      have hby := keyL_byte H.out.mlt H.out.low H.out.few i (Nat.le_refl _)
      have hcv : Sem.run Ybaz.prog (convert 24 9 u3) wr = .ok (.string ⟨((keyL mem pr i).map UInt8.ofNat).toArray⟩) wr := by
        obtain ⟨g, cap, e, _, _⟩ := own_cell ks.own (j := 0) (u := vb ((keyL mem pr i)[0])) (by simp [hpos])
        have := run_convert_bytes_back (P := Ybaz.prog) wr 24 9 5 ⟨g, 0, none⟩ cap ((keyL mem pr i).map UInt8.ofNat) Ybaz.underlying24 Ybaz.underlying5 Ybaz.underlying9 (fun j hj => by
          have hj' : j < (keyL mem pr i).length := by simpa using hj
          obtain ⟨g', cap', e', c1, _⟩ := own_cell ks.own (j := j) (u := vb ((keyL mem pr i)[j])) (by simp [hj'])
          rw [e] at e'
          cases e'
          have hadd : (⟨g, 0, none⟩ : Addr).add j = ⟨g, j, none⟩ := by unfold Addr.add; split <;> simp_all
          rw [hadd, c1]
          have h256 := hby _ (List.getElem_mem hj')
          simp [Nat.mod_eq_of_lt h256])
        rw [List.length_map] at this
        rw [e]
        exact this
      have KSI := hid ks
      clear ks
      go_wp2
      go_ret
      exact ⟨rfl, KSI.out.bel⟩
end Go.Proofs.YbulkdsicGreat
