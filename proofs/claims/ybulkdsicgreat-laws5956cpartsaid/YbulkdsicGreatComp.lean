import Derived.Test.YbulkdsicGreatPlain
import Derived.Laws.EntriesVeiled
import Derived.Shelf.Abstract
set_option linter.unusedVariables false
set_option linter.unusedSimpArgs false
namespace Go.Proofs.YbulkdsicGreat
open Go.RowKit Go.Shelf

attribute [local go_sem] Oper.semAt_some

theorem Ybaz.info3 : (Ybaz.prog.info? 3).map (fun i => (i.zero, i.size, i.bytes)) = some (some (.int .i64 0), 1, 8) := by kernel_rfl
theorem Ybaz.info26 : (Ybaz.prog.info? 26).map (fun i => (i.zero, i.size, i.bytes)) = some (some (.slice none 0 0), 1, 24) := by kernel_rfl

theorem cell_old {W : World} {p : Addr} {v : Value} (ob : Obj) (h : W.cell? p = some v) : (W.alloc ob).cell? p = some v := ((Kept.refl (fun _ => False) W).alloc ob).cell (fun h => h) h
/-- What components keeps: the batch's copy, the roots. -/
structure CS (w W : World) (t : Bt) (m k : Nat) (R : Nat → Nat) : Prop where
  bel : Below w.heap.size w W
  box : W.rangeAt w.heap.size 0 [sl t.bm t.om m t.cm, .slice t.sn k t.cn, sl t.bf t.of (m + 1) t.cf]
  roots : Roots W (w.heap.size + 1) (w.heap.size + 2) m m R
  size : w.heap.size + 3 ≤ W.heap.size
theorem CS.make (w : World) (t : Bt) (m k : Nat) (hm : 0 < m) : CS w (((w.alloc (.cells #[sl t.bm t.om m t.cm, .slice t.sn k t.cn, sl t.bf t.of (m + 1) t.cf] 53)).alloc (.cells (madeCells #[.int .i64 0] m) 3)).alloc (.cells #[sl (w.heap.size + 1) 0 m m] 26)) t m k (fun x => if x < 0 then x else 0) := by
  rw [made_one]
  have b : Below w.heap.size w (((w.alloc (.cells #[sl t.bm t.om m t.cm, .slice t.sn k t.cn, sl t.bf t.of (m + 1) t.cf] 53)).alloc (.cells (Array.replicate m (.int .i64 0)) 3)).alloc (.cells #[sl (w.heap.size + 1) 0 m m] 26)) :=
    (((Below.refl _ _).alloc (Nat.le_refl _) _).alloc (by rw [World.size_alloc]; omega) _).alloc (by rw [World.size_alloc, World.size_alloc]; omega) _
  refine ⟨b, World.rangeAt_alloc (World.rangeAt_alloc (range_new w [sl t.bm t.om m t.cm, .slice t.sn k t.cn, sl t.bf t.of (m + 1) t.cf] 53) _) _, ⟨?_, ?_, ?_, ?_, by omega⟩, ?_⟩
  · have := range_new ((w.alloc (.cells #[sl t.bm t.om m t.cm, .slice t.sn k t.cn, sl t.bf t.of (m + 1) t.cf] 53)).alloc (.cells (Array.replicate m (.int .i64 0)) 3)) [sl (w.heap.size + 1) 0 m m] 26 0 _ rfl
    rw [World.size_alloc, World.size_alloc] at this
    exact this
  · have := (Tab.new (w.alloc (.cells #[sl t.bm t.om m t.cm, .slice t.sn k t.cn, sl t.bf t.of (m + 1) t.cf] 53)) m 3 (.int .i64 0)).alloc (.cells #[sl (w.heap.size + 1) 0 m m] 26)
    rw [World.size_alloc] at this
    exact this.ext (fun j _ => by simp)
  · intro k _; simp; exact hm
  · intro k _; simp
  · rw [World.size_alloc, World.size_alloc, World.size_alloc]; omega
theorem CS.set {w W : World} {t : Bt} {m k : Nat} {R : Nat → Nat} (h : CS w W t m k R) {j x : Nat} (hj : j < m) (hlt : ∀ q, q < m → (if q = j then x else R q) < m) (hid : ∀ q, q < m → (if (if q = j then x else R q) = j then x else R (if q = j then x else R q)) = (if q = j then x else R q)) :
    CS w (W.setCell ⟨w.heap.size + 1, j, none⟩ (vi x)) t m k (fun q => if q = j then x else R q) := by
  refine ⟨h.bel.setCell (p := ⟨w.heap.size + 1, j, none⟩) (by simp) _, range_setCell h.box _ _ (fun e => by simp at e), ⟨?_, ?_, hlt, hid, h.roots.ne⟩, by simpa using h.size⟩
  · rw [World.cell?_setCell_other _ _ _ _ (fun e => by have := congrArg Addr.block e; simp at this)]
    exact h.roots.var
  · have := h.roots.tab.set hj (vi x)
    rw [Nat.zero_add] at this
    exact this.ext (fun q _ => by split <;> rfl)
theorem CS.on {w W W' : World} {t : Bt} {m k : Nat} {R : Nat → Nat} (h : CS w W t m k R) (b : Below W.heap.size W W') : CS w W' t m k R :=
  ⟨h.bel.trans (b.mono h.bel.size), range_kept_below b h.box, ⟨(Kept.ofBelow (E := fun _ => False) b).cell (fun h => h) h.roots.var, h.roots.tab.kept (Kept.ofBelow (E := fun _ => False) b) (fun h => h), h.roots.lt, h.roots.idem, h.roots.ne⟩, Nat.le_trans h.size b.size⟩

theorem CS.ext {w W : World} {t : Bt} {m k : Nat} {R R' : Nat → Nat} (h : CS w W t m k R) (e : ∀ x, x < m → R x = R' x) : CS w W t m k R' :=
  ⟨h.bel, h.box, ⟨h.roots.var, h.roots.tab.ext (fun x hx => by rw [e x hx]), fun x hx => by rw [← e x hx]; exact h.roots.lt x hx, fun x hx => by rw [← e x hx, ← e _ (h.roots.lt x hx)]; exact h.roots.idem x hx, h.roots.ne⟩, h.size⟩
theorem CS.kept {E : Nat → Prop} {w W W' : World} {t : Bt} {m k : Nat} {R : Nat → Nat} (h : CS w W t m k R) (kp : Kept E W W') (hE : ∀ b, E b → w.heap.size + 3 ≤ b) : CS w W' t m k R := by
  have n0 : ∀ b, b < w.heap.size + 3 → ¬ E b := fun b hb he => by have := hE b he; omega
  exact ⟨h.bel.trans (kp.toBelow (fun b hb => n0 b (by omega)) h.bel.size), kp.range (n0 _ (by omega)) h.box, ⟨kp.cell (p := ⟨w.heap.size + 2, 0, none⟩) (n0 (w.heap.size + 2) (by omega)) h.roots.var, h.roots.tab.kept kp (n0 _ (by omega)), h.roots.lt, h.roots.idem, h.roots.ne⟩, Nat.le_trans h.size kp.size⟩

theorem CS.same {w W W' : World} {t : Bt} {m k : Nat} {R : Nat → Nat} (h : CS w W t m k R) (kp : Kept (fun b => b = w.heap.size + 1) W W') (tb : Tab W' (w.heap.size + 1) 0 m (fun k => vi (R k))) : CS w W' t m k R :=
  ⟨h.bel.trans (kp.toBelow (fun b hb (he : b = _) => by omega) h.bel.size), kp.range (fun (e : w.heap.size = _) => by omega) h.box, h.roots.kept kp tb, Nat.le_trans h.size kp.size⟩
theorem keepsFrom_kept {E : Nat → Prop} {B : Nat} {V V' : World} (k : Kept E V V') (hE : ∀ b, E b → b < B) : KeepsFrom B V V' :=
  ⟨k.size, fun i o hB hi _ => (k.block i (Array.getElem?_eq_some_iff.1 hi).1 (fun he => by have := hE i he; omega)).trans hi⟩
theorem KpL.kept {E : Nat → Prop} {L : List Nat} {V V' : World} (k : Kept E V V') (hL : ∀ b ∈ L, b < V.heap.size ∧ ¬ E b) : KpL L V V' := fun b hb => k.block b (hL b hb).1 (hL b hb).2
/-- What the index says of the leaders. -/
def KV (pr : Nat → Option Nat) (i : Nat) (kv : List (Nat × Value)) : Prop := ∀ h, kv.lookup h = if h < i ∧ pr h = none then some (vi (rk pr h)) else none
/-- .. and in the loop that makes the groups. -/
structure CG (w V : World) (base : Nat) (t : Bt) (m k : Nat) (pr : Nat → Option Nat) (F Mb i : Nat) (Ds : List Nat) (gv : Value) : Prop where
  cs : CS w V t m k (rt pr m)
  fn : V.cell? ⟨F, 0, none⟩ = some (.func (.func 28) #[] #[.pointer (some ⟨w.heap.size + 2, 0, none⟩)])
  mks : Marks V w.heap.size Ds
  map : ∃ kv, MapI V Mb kv ∧ KV pr i kv
  rows : ∃ vals, OR V base gv vals (groups pr (rt pr m) i)
  f3 : w.heap.size + 3 ≤ F
  m3 : w.heap.size + 3 ≤ Mb
  fm : F ≠ Mb
  lF : F < base
  lM : Mb < base
  lD : ∀ D ∈ Ds, D < base
  lb : base ≤ V.heap.size
  l3 : w.heap.size + 3 ≤ base
theorem CG.turn {w V V' : World} {base : Nat} {t : Bt} {m k : Nat} {pr : Nat → Option Nat} {F Mb i : Nat} {Ds : List Nat} {gv : Value} (h : CG w V base t m k pr F Mb i Ds gv) (hm : 0 < m) (kp : Kept (fun b => b = w.heap.size + 1) V V') (tb : Tab V' (w.heap.size + 1) 0 m (fun x => vi (rt pr m x))) : CG w V' base t m k pr F Mb i Ds gv := by
  have h1 := h.f3
  have h2 := h.m3
  have h3 := h.l3
  obtain ⟨kv, hkv, hKV⟩ := h.map
  obtain ⟨vals, hor⟩ := h.rows
  exact ⟨h.cs.same kp tb, kp.cell (p := ⟨F, 0, none⟩) (fun (e : F = _) => by omega) h.fn, h.mks.kept kp (fun b hb => by subst hb; exact notDef_of_cell (p := ⟨w.heap.size + 1, 0 + 0, none⟩) (h.cs.roots.tab.cell hm)),
    ⟨kv, hkv.kept kp (fun (e : Mb = _) => by omega), hKV⟩, ⟨vals, hor.kept kp (fun b (hb : b = _) => by omega)⟩, h.f3, h.m3, h.fm, h.lF, h.lM, h.lD, Nat.le_trans h.lb kp.size, h.l3⟩

theorem CG.step {E : Nat → Prop} {w V V' : World} {base : Nat} {t : Bt} {m k : Nat} {pr : Nat → Option Nat} {F Mb i i' : Nat} {Ds : List Nat} {gv gv' : Value} (h : CG w V base t m k pr F Mb i Ds gv) (kp : Kept E V V') (hE : ∀ b, E b → base ≤ b ∨ b = Mb) (hmap : ∃ kv, MapI V' Mb kv ∧ KV pr i' kv) (hrows : ∃ vals, OR V' base gv' vals (groups pr (rt pr m) i')) : CG w V' base t m k pr F Mb i' Ds gv' := by
  have h1 := h.f3
  have h2 := h.m3
  have h3 := h.l3
  have hfm := h.fm
  obtain ⟨kv0, ⟨es, c, hMo, _⟩, _⟩ := h.map
  have n0 : ∀ b, b < base → b ≠ Mb → ¬ E b := fun b hb hn he => by rcases hE b he with h | h <;> omega
  refine ⟨h.cs.kept kp (fun b hb => by rcases hE b hb with h | h <;> omega), kp.cell (p := ⟨F, 0, none⟩) (n0 F h.lF hfm) h.fn, ⟨h.mks.nodup, fun D hD => ⟨(h.mks.at' D hD).1, (kp.block D (Array.getElem?_eq_some_iff.1 (h.mks.at' D hD).2).1 (n0 D (h.lD D hD) (fun e => by
    have := (h.mks.at' D hD).2; rw [e, hMo] at this; cases this))).trans (h.mks.at' D hD).2⟩⟩, hmap, hrows, h.f3, h.m3, h.fm, h.lF, h.lM, h.lD, Nat.le_trans h.lb kp.size, h.l3⟩
/-- .. and in the loop over the services: the closure, the index, the marks. -/
structure CL (w V : World) (S : Nat) (t : Bt) (m k : Nat) (R : Nat → Nat) (F ib i : Nat) (Ds : List Nat) : Prop where
  cs : CS w V t m k R
  fn : V.cell? ⟨F, 0, none⟩ = some (.func (.func 28) #[] #[.pointer (some ⟨w.heap.size + 2, 0, none⟩)])
  ix : V.cell? ⟨ib, 0, none⟩ = some (vi i)
  mks : Marks V w.heap.size Ds
  sz : S ≤ V.heap.size
  f3 : w.heap.size + 3 ≤ F
  i3 : w.heap.size + 3 ≤ ib
  lF : F < S
  li : ib < S
  lD : ∀ D ∈ Ds, D < S
  l3 : w.heap.size + 3 ≤ S
theorem CL.kept {E : Nat → Prop} {w V V' : World} {S : Nat} {t : Bt} {m k : Nat} {R : Nat → Nat} {F ib i : Nat} {Ds : List Nat} (h : CL w V S t m k R F ib i Ds) (kp : Kept E V V') (hE : ∀ b, E b → S ≤ b) : CL w V' S t m k R F ib i Ds := by
  have n0 : ∀ b, b < S → ¬ E b := fun b hb he => by have := hE b he; omega
  have hl3 := h.l3
  exact ⟨h.cs.kept kp (fun b hb => by have := hE b hb; omega), kp.cell (p := ⟨F, 0, none⟩) (n0 F h.lF) h.fn, kp.cell (p := ⟨ib, 0, none⟩) (n0 ib h.li) h.ix,
    ⟨h.mks.nodup, fun D hD => ⟨(h.mks.at' D hD).1, (kp.block D (Array.getElem?_eq_some_iff.1 (h.mks.at' D hD).2).1 (n0 D (h.lD D hD))).trans (h.mks.at' D hD).2⟩⟩, Nat.le_trans h.sz kp.size, h.f3, h.i3, h.lF, h.li, h.lD, h.l3⟩
/-- The roots turn, nothing else. -/
theorem CL.turn {w V V' : World} {S : Nat} {t : Bt} {m k : Nat} {R R' : Nat → Nat} {F ib i : Nat} {Ds : List Nat} (h : CL w V S t m k R F ib i Ds) (hm : 0 < m) (kp : Kept (fun b => b = w.heap.size + 1) V V') (cs' : CS w V' t m k R') : CL w V' S t m k R' F ib i Ds := by
  have hf3 := h.f3
  have hi3 := h.i3
  refine ⟨cs', kp.cell (p := ⟨F, 0, none⟩) (fun (e : F = _) => by omega) h.fn, kp.cell (p := ⟨ib, 0, none⟩) (fun (e : ib = _) => by omega) h.ix, ?_, Nat.le_trans h.sz kp.size, h.f3, h.i3, h.lF, h.li, h.lD, h.l3⟩
  refine h.mks.kept kp (fun b hb => ?_)
  subst hb
  exact notDef_of_cell (p := ⟨w.heap.size + 1, 0 + 0, none⟩) (h.cs.roots.tab.cell hm)

set_option maxRecDepth 100000 in
set_option maxHeartbeats 4000000 in
theorem components_any (t : Bt) (m : Nat) (mem : Nat → Nat) (pr : Nat → Option Nat) (w : World) (h : Bat w t m mem pr) (hm : 0 < m) :
    Calls Ybaz.prog 15 #[.agg #[sl t.bm t.om m t.cm, .slice t.sn (2 * cnt pr m) t.cn, sl t.bf t.of (m + 1) t.cf]] w fun e w' =>
      (∃ v vals base, e = .returned v ∧ w.heap.size ≤ base ∧ OR w' base v vals (groups pr (rt pr m) m)) ∧ Below w.heap.size w w' := by
  obtain ⟨i3, hi3, hz3, hs3, hb3⟩ := info_parts Ybaz.info3
  have hfew := h.few
  have H := hid h
  clear h
  refine calls_of_wp_marks Ybaz.func15 rfl ?_
  simp only [Ybaz.ntmps15, List.size_toArray, List.length_cons, List.length_nil, Nat.reduceAdd, Nat.reduceSub, Array.replicate_succ, Array.replicate_zero, List.push_toArray, List.append_toArray, List.nil_append, List.cons_append]
  go_wp2_with (first
    | (refine wpList_box_as rfl 53 _ rfl #[sl t.bm t.om m t.cm, .slice t.sn (2 * cnt pr m) t.cn, sl t.bf t.of (m + 1) t.cf] rfl (bx53 _ _ _) ?_)
    | (at_make; refine wpList_make_as rfl (.tmp 19) (.tmp 19) 26 rfl 3 i3 (.int .i64 0) m Ybaz.underlying26 hi3 hz3 rfl rfl (by rw [hb3]; omega) (by omega) ?_))
  refine wp_as (fun W => CS w W t m (2 * cnt pr m) (fun x => if x < 0 then x else 0)) (CS.make w t m (2 * cnt pr m) hm) ?_
  intro W0 cs0
  go_loopw [23] (fun i W => ∃ q : Nat, q ≤ m ∧ i = vi q ∧ CS w W t m (2 * cnt pr m) (fun x => if x < q then x else 0)) (fun i _ => m - (intOf i).toNat)
  case atStart => exact ⟨0, Nat.zero_le _, rfl, cs0⟩
  case round =>
    obtain ⟨q, hq, rfl, cs⟩ := hrel
    by_cases hlt : q < m
    · have hli : (q : Int) < (m : Int) := by omega
      have hv := cs.roots.var
      have hc : wr.cell? ⟨w.heap.size + 1, q, none⟩ = some (vi 0) := by
        have := cs.roots.tab.cell hlt
        simpa using this
      have hf : wr.frozen? ⟨w.heap.size + 1, q, none⟩ = false := by simpa using cs.roots.tab.free hlt
      have C := hid cs
      clear cs cs0
      go_wp2
      go_roundw
      case rel =>
        refine ⟨q + 1, by omega, by go_num, ?_⟩
        have := C.out.set (x := q) hlt (fun x hx => by (repeat' split) <;> omega) (fun x hx => by (repeat' split) <;> omega)
        refine ⟨this.bel, this.box, ⟨this.roots.var, this.roots.tab.ext (fun x _ => ?_), fun x hx => by split <;> omega, fun x hx => by (repeat' split) <;> omega, this.roots.ne⟩, this.size⟩
        by_cases hx : x = q
        · simp [hx]
        · have : (x < q + 1) = (x < q) := by apply propext; omega
          simp [hx, this]
      case measure => simp [intOf]; omega
    · obtain rfl : q = m := by omega
      have cs1 : CS w wr t q (2 * cnt pr q) (rt pr 0) := ⟨cs.bel, cs.box, ⟨cs.roots.var, cs.roots.tab.ext (fun x hx => by simp [hx, rt]), fun x hx => hx, fun x hx => rfl, cs.roots.ne⟩, cs.size⟩
      have hbox : wr.cell? ⟨w.heap.size, 0, none⟩ = some (sl t.bm t.om q t.cm) := by simpa using cs.box 0 _ rfl
      have hbox' : ∀ ob, (wr.alloc ob).cell? ⟨w.heap.size, 0, none⟩ = some (sl t.bm t.om q t.cm) := fun ob => cell_old ob hbox
      have C := hid cs1
      clear cs cs1 cs0
      go_wp2
      obtain ⟨F, hF⟩ : ∃ F, wr.heap.size = F := ⟨_, rfl⟩
      rw [hF]
      have e2 : w.heap.size + 1 + 1 = w.heap.size + 2 := rfl
      rw [e2]
      refine wp_as (fun W => CS w W t q (2 * cnt pr q) (rt pr 0) ∧ W.cell? ⟨F, 0, none⟩ = some (.func (.func 28) #[] #[.pointer (some ⟨w.heap.size + 2, 0, none⟩)])) ⟨C.out.on ((Below.refl _ _).alloc (Nat.le_refl _) _), by rw [← hF]; simp⟩ ?_
      rintro W1 ⟨cs1, hfn⟩
      have hFn : w.heap.size + 3 ≤ F := by rw [← hF]; exact C.out.size
      clear C hbox hbox'
      refine wp_loop (fun a' W => ∃ (i : Nat) (Ds : List Nat) (x0 x2 x4 x6 x7 x8 x9 x10 x11 x12 x13 x14 x15 x16 x17 x18 x19 x20 x21 x22 x23 x24 x25 x26 x27 x28 x29 x30 x31 x32 x33 x36 x37 x38 x39 x40 x41 x42 x43 x44 x45 x46 x47 x48 x49 x50 x51 x52 x53 x54 x55 x56 x57 x58 x59 x60 x61 x62 x63 x64 x65 x66 x67 x68 x69 x70 x71 x72 x73 x74 x75 x76 x77 x78 x79 x80 x81 x82 x83 x84 x85 x86 x87 x88 x89 x90 x91 x92 x93 x94 x95 x96 : Value), (i ≤ q ∧ CS w W t q (2 * cnt pr q) (rt pr i) ∧ W.cell? ⟨F, 0, none⟩ = some (.func (.func 28) #[] #[.pointer (some ⟨w.heap.size + 2, 0, none⟩)]) ∧ Marks W w.heap.size Ds) ∧ a' = { tmps := #[x0, .pointer (some ⟨w.heap.size, 0, none⟩), x2, .pointer (some ⟨w.heap.size + 2, 0, none⟩), x4, .pointer (some ⟨F, 0, none⟩), x6, x7, x8, x9, x10, x11, x12, x13, x14, x15, x16, x17, x18, x19, x20, x21, x22, x23, x24, x25, x26, x27, x28, x29, x30, x31, x32, x33, vi q, vi i, x36, x37, x38, x39, x40, x41, x42, x43, x44, x45, x46, x47, x48, x49, x50, x51, x52, x53, x54, x55, x56, x57, x58, x59, x60, x61, x62, x63, x64, x65, x66, x67, x68, x69, x70, x71, x72, x73, x74, x75, x76, x77, x78, x79, x80, x81, x82, x83, x84, x85, x86, x87, x88, x89, x90, x91, x92, x93, x94, x95, x96], defers := Ds.map markOf }) (fun a' _ => q - (intOf (a'.tmps.getD 35 undef)).toNat) ?_ ?_
      · refine ⟨0, [], ?_⟩
        repeat apply Exists.intro
        exact ⟨⟨Nat.zero_le _, cs1, hfn, Marks.nil _ _⟩, rfl⟩
      · intro a0 W hinv
        obtain ⟨i, Ds, hinv⟩ := hinv
        obtain ⟨x0, hinv⟩ := hinv
        obtain ⟨x2, hinv⟩ := hinv
        obtain ⟨x4, hinv⟩ := hinv
        obtain ⟨x6, hinv⟩ := hinv
        obtain ⟨x7, hinv⟩ := hinv
        obtain ⟨x8, hinv⟩ := hinv
        obtain ⟨x9, hinv⟩ := hinv
        obtain ⟨x10, hinv⟩ := hinv
        obtain ⟨x11, hinv⟩ := hinv
        obtain ⟨x12, hinv⟩ := hinv
        obtain ⟨x13, hinv⟩ := hinv
        obtain ⟨x14, hinv⟩ := hinv
        obtain ⟨x15, hinv⟩ := hinv
        obtain ⟨x16, hinv⟩ := hinv
        obtain ⟨x17, hinv⟩ := hinv
        obtain ⟨x18, hinv⟩ := hinv
        obtain ⟨x19, hinv⟩ := hinv
        obtain ⟨x20, hinv⟩ := hinv
        obtain ⟨x21, hinv⟩ := hinv
        obtain ⟨x22, hinv⟩ := hinv
        obtain ⟨x23, hinv⟩ := hinv
        obtain ⟨x24, hinv⟩ := hinv
        obtain ⟨x25, hinv⟩ := hinv
        obtain ⟨x26, hinv⟩ := hinv
        obtain ⟨x27, hinv⟩ := hinv
        obtain ⟨x28, hinv⟩ := hinv
        obtain ⟨x29, hinv⟩ := hinv
        obtain ⟨x30, hinv⟩ := hinv
        obtain ⟨x31, hinv⟩ := hinv
        obtain ⟨x32, hinv⟩ := hinv
        obtain ⟨x33, hinv⟩ := hinv
        obtain ⟨x36, hinv⟩ := hinv
        obtain ⟨x37, hinv⟩ := hinv
        obtain ⟨x38, hinv⟩ := hinv
        obtain ⟨x39, hinv⟩ := hinv
        obtain ⟨x40, hinv⟩ := hinv
        obtain ⟨x41, hinv⟩ := hinv
        obtain ⟨x42, hinv⟩ := hinv
        obtain ⟨x43, hinv⟩ := hinv
        obtain ⟨x44, hinv⟩ := hinv
        obtain ⟨x45, hinv⟩ := hinv
        obtain ⟨x46, hinv⟩ := hinv
        obtain ⟨x47, hinv⟩ := hinv
        obtain ⟨x48, hinv⟩ := hinv
        obtain ⟨x49, hinv⟩ := hinv
        obtain ⟨x50, hinv⟩ := hinv
        obtain ⟨x51, hinv⟩ := hinv
        obtain ⟨x52, hinv⟩ := hinv
        obtain ⟨x53, hinv⟩ := hinv
        obtain ⟨x54, hinv⟩ := hinv
        obtain ⟨x55, hinv⟩ := hinv
        obtain ⟨x56, hinv⟩ := hinv
        obtain ⟨x57, hinv⟩ := hinv
        obtain ⟨x58, hinv⟩ := hinv
        obtain ⟨x59, hinv⟩ := hinv
        obtain ⟨x60, hinv⟩ := hinv
        obtain ⟨x61, hinv⟩ := hinv
        obtain ⟨x62, hinv⟩ := hinv
        obtain ⟨x63, hinv⟩ := hinv
        obtain ⟨x64, hinv⟩ := hinv
        obtain ⟨x65, hinv⟩ := hinv
        obtain ⟨x66, hinv⟩ := hinv
        obtain ⟨x67, hinv⟩ := hinv
        obtain ⟨x68, hinv⟩ := hinv
        obtain ⟨x69, hinv⟩ := hinv
        obtain ⟨x70, hinv⟩ := hinv
        obtain ⟨x71, hinv⟩ := hinv
        obtain ⟨x72, hinv⟩ := hinv
        obtain ⟨x73, hinv⟩ := hinv
        obtain ⟨x74, hinv⟩ := hinv
        obtain ⟨x75, hinv⟩ := hinv
        obtain ⟨x76, hinv⟩ := hinv
        obtain ⟨x77, hinv⟩ := hinv
        obtain ⟨x78, hinv⟩ := hinv
        obtain ⟨x79, hinv⟩ := hinv
        obtain ⟨x80, hinv⟩ := hinv
        obtain ⟨x81, hinv⟩ := hinv
        obtain ⟨x82, hinv⟩ := hinv
        obtain ⟨x83, hinv⟩ := hinv
        obtain ⟨x84, hinv⟩ := hinv
        obtain ⟨x85, hinv⟩ := hinv
        obtain ⟨x86, hinv⟩ := hinv
        obtain ⟨x87, hinv⟩ := hinv
        obtain ⟨x88, hinv⟩ := hinv
        obtain ⟨x89, hinv⟩ := hinv
        obtain ⟨x90, hinv⟩ := hinv
        obtain ⟨x91, hinv⟩ := hinv
        obtain ⟨x92, hinv⟩ := hinv
        obtain ⟨x93, hinv⟩ := hinv
        obtain ⟨x94, hinv⟩ := hinv
        obtain ⟨x95, hinv⟩ := hinv
        obtain ⟨x96, hinv⟩ := hinv
        obtain ⟨⟨hi, cs, hfn1, mk⟩, ha0⟩ := hinv
        subst ha0
        dsimp only
        clear cs1 hfn
        by_cases hlt : i < q
        · have hli : (i : Int) < (q : Int) := by omega
          have B := hid (H.out.below cs.bel)
          have b0 : ∀ ob, (W.alloc ob).cell? ⟨w.heap.size, 0, none⟩ = some (sl t.bm t.om q t.cm) := fun ob => cell_old ob (by simpa using cs.box 0 _ rfl)
          have b1 : ∀ ob, (W.alloc ob).cell? ⟨w.heap.size, 1, none⟩ = some (.slice t.sn (2 * cnt pr q) t.cn) := fun ob => cell_old ob (by simpa using cs.box 1 _ rfl)
          have b2 : ∀ ob, (W.alloc ob).cell? ⟨w.heap.size, 2, none⟩ = some (sl t.bf t.of (q + 1) t.cf) := fun ob => cell_old ob (by simpa using cs.box 2 _ rfl)
          have CSI := hid cs
          have MK := hid mk
          clear cs mk
          go_wp2_with (go_at_call 29; refine (needsOf_any _ _ _ i _).mono ?_; rintro e w' ⟨rfl, rfl⟩)
          have hLF := World.block_lt_of_cell? W _ hfn1
          have hW3 := CSI.out.size
          have S0 : (((W.alloc (.cells #[vi i] 3)).alloc (.cells (t.cells q (2 * cnt pr q)) 53)).alloc (.cells #[vi i] 3)).heap.size = W.heap.size + 3 := by rw [World.size_alloc, World.size_alloc, World.size_alloc]
          have kw : Kept (fun _ => False) W (((W.alloc (.cells #[vi i] 3)).alloc (.cells (t.cells q (2 * cnt pr q)) 53)).alloc (.cells #[vi i] 3)) := (((Kept.refl _ W).alloc _).alloc _).alloc _
          have c00 : (W.alloc (.cells #[vi i] 3)).cell? ⟨W.heap.size, 0, none⟩ = some (vi i) := by simp
          have cl0 : CL w (((W.alloc (.cells #[vi i] 3)).alloc (.cells (t.cells q (2 * cnt pr q)) 53)).alloc (.cells #[vi i] 3)) (W.heap.size + 3) t q (2 * cnt pr q) (rt pr i) F W.heap.size i Ds :=
            ⟨CSI.out.kept kw (fun _ h => h.elim), kw.cell (p := ⟨F, 0, none⟩) (fun h => h) hfn1, cell_old _ (cell_old _ c00), MK.out.kept kw (fun _ h => h.elim), by rw [S0]; exact Nat.le_refl _, hFn, hW3, by have h0 : F < W.heap.size := hLF; omega, by omega,
              fun D hD => by have := (Array.getElem?_eq_some_iff.1 (MK.out.at' D hD).2).1; omega, by omega⟩
          have hbatA : Bat (W.alloc (.cells #[vi i] 3)) t q mem pr := B.out.below ((Below.refl _ _).alloc (Nat.le_refl _) _)
          have hseq := hbatA.seq hlt
          rw [World.size_alloc] at hseq
          have CL0 := hid cl0
          clear cl0
          obtain ⟨A1, hA1⟩ : ∃ A1 : Act, A1 = { tmps := #[x0, .pointer (some ⟨w.heap.size, 0, none⟩), x2, .pointer (some ⟨w.heap.size + 2, 0, none⟩), x4, .pointer (some ⟨F, 0, none⟩), .pointer (some ⟨W.heap.size, 0, none⟩), x7, t.need (2 * cnt pr i), x9, x10, x11, x12, x13, x14, x15, x16, x17, x18, x19, x20, x21, x22, x23, x24, x25, x26, x27, x28, x29, x30, x31, x32, x33, vi q, vi i, .bool true, vi i, .agg #[sl t.bm t.om q t.cm, .slice t.sn (2 * cnt pr q) t.cn, sl t.bf t.of (q + 1) t.cf], vi i, .func (.func 46) #[] #[.pointer (some ⟨W.heap.size + 1, 0, none⟩), .pointer (some ⟨W.heap.size + 1 + 1, 0, none⟩)], vi (2 * cnt pr i), t.need (2 * cnt pr i), x43, x44, x45, x46, x47, x48, x49, x50, x51, x52, x53, x54, x55, x56, x57, x58, x59, x60, x61, x62, x63, x64, x65, x66, x67, x68, x69, x70, x71, x72, x73, x74, x75, x76, x77, x78, x79, x80, x81, x82, x83, x84, x85, x86, x87, x88, x89, x90, x91, x92, x93, x94, x95, x96], defers := [] } := ⟨_, rfl⟩
          dsimp only at hA1
          refine (wpIn_wide (n := 3)).1 ?_
          refine wpIn_rangeFunc_ownH (F := Fence.wide) rfl (by omega) (gf := 46) (lb := #[.pointer (some ⟨W.heap.size + 1, 0, none⟩), .pointer (some ⟨W.heap.size + 1 + 1, 0, none⟩)]) rfl trivial (enters_of Ybaz.func46 (by kernel_rfl) rfl)
            hseq (fun h k => KpL.trans h k) ?hKb (Below.refl _ _) (fun _ => rfl)
            (fun pre V => CL w V (W.heap.size + 3) t q (2 * cnt pr q) (if pre = [] then rt pr i else rt pr (i + 1)) F W.heap.size i Ds) (fun _ _ _ => False) ?hI (fun _ _ _ _ _ hs _ _ => hs) (by rw [if_pos rfl]; exact CL0.out)
            (fun _ a' _ => a' = A1) (fun _ _ _ _ _ _ hs _ _ => hs) ?assign ?body ?done ?stop
          case hKb =>
            intro V l o o' hl _ _ _
            refine KpL.putObj (n := W.heap.size + 3) (fun b hb => ?_) V l o' (by rw [← S0]; exact hl)
            have hf := World.block_lt_of_cell? _ _ (B.out.frm 0 (Nat.zero_le _))
            unfold Bt.reads at hb
            have hsn := B.out.snl
            cases hs : t.sn with
            | none => rw [hs] at hb; simp at hb hf; omega
            | some a => rw [hs] at hb; have := hsn a hs; simp at hb hf; omega
          case hI =>
            intro pre V V' row hs hg hr
            exact hs.kept ((Kept.refl (fun b => row = some b) V).grown hg (fun k hk => .inl hk)) (fun b hb => by have := (hr b hb).1; simp at this; omega)
          case assign =>
            rintro l pre x V K hi hK
            unfold Bt.enc
            gi_wp2
            exact hK _ _ (KeepsFrom.refl _ _) (KpL.refl _ _) hi hA1.symm
          case body =>
            intro l pre x a' V hl hrr hi ha hlen
            have ha' : a' = A1 := ha
            rw [ha', hA1]
            clear ha ha'
            have hpe : ∃ j, pr i = some j := by
              cases hp : pr i with
              | none => rw [waits_none hp] at hlen; omega
              | some j => exact ⟨j, rfl⟩
            obtain ⟨j, hp⟩ := hpe
            have hpre : pre = [] := by rw [waits_some hp] at hlen; exact List.eq_nil_of_length_eq_zero (by omega)
            subst hpre
            rw [if_pos rfl] at hi
            have hbV := H.out.below hi.cs.bel
            obtain ⟨b, o, hsn, _, c2⟩ := hbV.one i j hlt hp
            simp only [Bt.need_some hsn]
            have hji := hbV.low i j hlt hp
            let S : World → Prop := fun V' => Kept (fun b => b = w.heap.size + 1) V V' ∧ Tab V' (w.heap.size + 1) 0 q (fun k => vi (rt pr i k))
            have s0 : S V.drew := ⟨(Kept.refl _ V).drew, hi.cs.roots.tab⟩
            haveI : Nonempty (Wld S) := ⟨⟨V.drew, s0⟩⟩
            have v0 := hi.cs.roots.var
            have f0 := hi.fn
            have i0 := hi.ix
            have hf3 := hi.f3
            have hi3' := hi.i3
            have x1 : ∀ x : Wld S, x.w.cell? ⟨w.heap.size + 2, 0, none⟩ = some (sl (w.heap.size + 1) 0 q q) := fun x => x.h.1.cell (p := ⟨w.heap.size + 2, 0, none⟩) (fun (e : w.heap.size + 2 = _) => by omega) v0
            have x2 : ∀ x : Wld S, x.w.cell? ⟨F, 0, none⟩ = some (.func (.func 28) #[] #[.pointer (some ⟨w.heap.size + 2, 0, none⟩)]) := fun x => x.h.1.cell (p := ⟨F, 0, none⟩) (fun (e : F = _) => by omega) f0
            have x3 : ∀ x : Wld S, x.w.cell? ⟨W.heap.size, 0, none⟩ = some (vi i) := fun x => x.h.1.cell (p := ⟨W.heap.size, 0, none⟩) (fun (e : W.heap.size = _) => by omega) i0
            have rts := hi.cs.roots
            have FC : ∀ (y : Nat), y < q → ∀ (x : Wld S), Calls Ybaz.prog 28 #[vi y, .pointer (some ⟨w.heap.size + 2, 0, none⟩)] x.w fun e w'' => e = .returned (vi (rt pr i y)) ∧ ∃ z : Wld S, w'' = z.w := fun y hy x =>
              (find_any (w.heap.size + 1) (w.heap.size + 2) q q (rt pr i) y hy hfew x.w (rts.kept x.h.1 x.h.2)).mono (fun e w'' ⟨h1, h2, h3⟩ => ⟨h1, ⟨w'', x.h.1.trans h2, h3⟩, rfl⟩)
            have hii : rt pr i i = i := rt_ge H.out.low i i (Nat.le_refl _)
            have fci := FC i hlt
            rw [hii] at fci
            have FCi := hid fci
            have FCj := hid (FC j (by omega))
            clear fci
            have HI := hid hi
            clear hi rts hbV FC B CSI MK CL0 hseq hbatA kw
            gi_wp2
            refine wpIn_loop_rounds 2 ?_
            rw [roundsIn_succ]
            gi_wp2
            refine wpIn_round_quiet_tail 7 (fun w' => ∃ x : Wld S, w' = x.w) (by kernel_rfl) (by rintro ⟨_, _, h⟩; exact h) mixed (by kernel_rfl) (inS s0) ?_
            dsimp only [List.take, List.drop]
            repeat (go_big_quiet_step (first | (go_at_call 28; with_reducible exact FCi.out _) | (go_at_call 28; with_reducible exact FCj.out _)))
            refine wpQuiet_nil ?_
            rintro _ ⟨x, rfl⟩
            have ci : x.w.cell? ⟨w.heap.size + 1, i, none⟩ = some (vi i) := by
              have := x.h.2.cell hlt
              rw [hii] at this
              simpa using this
            have fi : x.w.frozen? ⟨w.heap.size + 1, i, none⟩ = false := by simpa using x.h.2.free hlt
            have XH := hid x.h
            clear x1 x2 x3 FCi FCj
            go_wp2
            gi_wp2
            rw [roundsIn_succ]
            gi_wp2
            have kp : Kept (fun b => b = w.heap.size + 1) V (x.w.setCell ⟨w.heap.size + 1, i, none⟩ (.int .i64 (rt pr i j))) := XH.out.1.setCell (p := ⟨w.heap.size + 1, i, none⟩) (.inl rfl) _
            have hl3 := HI.out.l3
            refine ⟨keepsFrom_kept kp (fun b (hb : b = _) => by simp; omega), KpL.kept kp ?_, ?_⟩
            · intro b' hb'
              have hf := World.block_lt_of_cell? _ _ (H.out.frm 0 (Nat.zero_le _))
              have hsz := HI.out.sz
              have hsn2 := H.out.snl
              unfold Bt.reads at hb'
              rw [hsn] at hb'
              have h9 := hsn2 _ hsn
              simp at hb' hf h9
              refine ⟨by omega, fun (e : b' = _) => by omega⟩
            · show CL _ _ _ _ _ _ (if [] ++ [()] = [] then _ else _) _ _ _ _
              rw [if_neg (by simp)]
              have hrj := rt_le H.out.low i (by omega) j
              have hlow : ∀ y, rt pr (i + 1) y = if y = i then rt pr i j else rt pr i y := fun y => by conv => lhs; unfold rt; simp only [hp]
              have cs2 := (HI.out.cs.same XH.out.1 XH.out.2).set (x := rt pr i j) hlt (fun y hy => by rw [← hlow]; have := rt_le H.out.low (i + 1) (by omega) y; omega) (fun y hy => by rw [← hlow, ← hlow]; exact rt_idem H.out.low (i + 1) (by omega) y)
              exact HI.out.turn hm kp (cs2.ext (fun y _ => (hlow y).symm))
          case done =>
            intro D ys V hD hys hi hDm
            have csN : CS w V t q (2 * cnt pr q) (rt pr (i + 1)) := by
              cases hp : pr i with
              | none =>
                rw [waits_none hp] at hys
                have hi' := hi.cs
                rw [if_pos (by rw [hys]; rfl)] at hi'
                refine hi'.ext (fun y _ => ?_)
                conv => rhs; unfold rt
                by_cases hy : y = i
                · rw [if_pos hy]; simp only [hp]; rw [hy]; exact rt_ge H.out.low i i (Nat.le_refl _)
                · rw [if_neg hy]
              | some j =>
                rw [waits_some hp] at hys
                have hi' := hi.cs
                rw [if_neg (by rw [hys]; simp)] at hi'
                exact hi'
            have FN := hid hi.fn
            have mkN : Marks V w.heap.size (D :: Ds) := hi.mks.cons (fun hm => by have := hi.lD D hm; simp at hD; omega) (by have := hi.l3; simp at hD; omega) hDm
            have CN := hid csN
            have MN := hid mkN
            clear hi csN mkN CL0 hseq hbatA kw B CSI MK
            go_wp2
            refine ⟨⟨i + 1, D :: Ds, ?_⟩, ?_⟩
            · repeat apply Exists.intro
              exact ⟨⟨by omega, CN.out, FN.out, MN.out⟩, rfl⟩
            · simp [intOf]; omega
          case stop =>
            intro D c pre V _ _ h _
            exact h.elim
        · obtain rfl : i = q := by omega
          have b0 : W.cell? ⟨w.heap.size, 0, none⟩ = some (sl t.bm t.om i t.cm) := by simpa using cs.box 0 _ rfl
          have b0' : ∀ ob, (W.alloc ob).cell? ⟨w.heap.size, 0, none⟩ = some (sl t.bm t.om i t.cm) := fun ob => cell_old ob b0
          have CSI := hid cs
          have MK := hid mk
          have FN := hid hfn1
          clear cs mk hfn1
          have hmm := @run_makeMap Ybaz.prog
          go_wp2
          refine wp_as (fun V => CG w V (W.heap.size + 1) t i (2 * cnt pr i) pr F W.heap.size 0 Ds (.slice none 0 0)) ?_ ?_
          · have k0 : Kept (fun _ => False) W (W.alloc (.map #[] 0)) := (Kept.refl _ W).alloc _
            have hLF := World.block_lt_of_cell? W _ FN.out
            exact ⟨CSI.out.kept k0 (fun _ h => h.elim), k0.cell (p := ⟨F, 0, none⟩) (fun h => h) FN.out, MK.out.kept k0 (fun _ h => h.elim), ⟨[], ⟨#[], 0, World.alloc_heap_new W _, rfl⟩, fun h => by rw [if_neg (by omega)]; rfl⟩, ⟨[], OR.nil _ _⟩, hFn, CSI.out.size,
              fun e => by have h0 : F < W.heap.size := hLF; omega, by have h0 : F < W.heap.size := hLF; omega, by omega, fun D hD => by have := (Array.getElem?_eq_some_iff.1 (MK.out.at' D hD).2).1; omega, by simp, by have := CSI.out.size; omega⟩
          intro V0 cg0
          have hFW : F < W.heap.size + 1 := cg0.lF
          obtain ⟨Mb, hMb⟩ : ∃ Mb, W.heap.size = Mb := ⟨_, rfl⟩
          rw [hMb] at cg0 ⊢
          clear CSI MK FN b0 b0'
          go_loopw [63, 11] (fun x gv V => ∃ k : Nat, k ≤ i ∧ x = vi k ∧ CG w V (Mb + 1) t i (2 * cnt pr i) pr F Mb k Ds gv) (fun x _ _ => i - (intOf x).toNat)
          case atStart => exact ⟨0, Nat.zero_le _, rfl, cg0⟩
          case round =>
            obtain ⟨k, hk, rfl, cg⟩ := hrel
            by_cases hlt : k < i
            · have hli : (k : Int) < (i : Int) := by omega
              have hlow : Low i pr := H.out.low
              have hvar := cg.cs.roots.var
              have hfn := cg.fn
              have FA := hid (find_any (w.heap.size + 1) (w.heap.size + 2) i i (rt pr i) k hlt hfew wr cg.cs.roots)
              have CGI := hid cg
              obtain ⟨i26, hi26, hz26, hs26, hb26⟩ := info_parts Ybaz.info26
              clear cg cg0
              cases hp : pr k with
              | some j =>
                obtain ⟨hkk, hgr⟩ := groups_old hlow hlt hp
                obtain ⟨kk, hkkd⟩ : ∃ kk, rk pr (rt pr i k) = kk := ⟨_, rfl⟩
                rw [hkkd] at hkk hgr
                have hR : rt pr i k < k := by
                  have h1 := rt_at hlow hlt
                  rw [hp] at h1
                  simp only at h1
                  have h2 := rt_le hlow i (Nat.le_refl _) j
                  have := hlow k j hlt hp
                  omega
                have LK : Hid (∀ V1, Kept (fun b => b = w.heap.size + 1) wr V1 → Tab V1 (w.heap.size + 1) 0 i (fun x => vi (rt pr i x)) → Sem.run Ybaz.prog (Instr.lookup 89 (.map (some Mb)) (vi (rt pr i k)) true) V1 = .ok (.tuple #[vi kk, .bool true]) V1) := hid fun V1 kp1 tb1 => by
                  obtain ⟨kv, hkv, hKV⟩ := (CGI.out.turn hm kp1 tb1).map
                  have hl := run_lookup_int Ybaz.underlying89 Ybaz.underlying3 hkv (rt pr i k) (.int .i64 0) (fun w => by kernel_rfl) true
                  have hq : kv.lookup (rt pr i k) = some (vi kk) := by rw [hKV (rt pr i k), if_pos ⟨hR, rt_lead hlow hlt⟩, hkkd]
                  rw [hq] at hl
                  exact hl
                obtain ⟨vals, hor⟩ := CGI.out.rows
                have hgk : (groups pr (rt pr i) k)[kk]? = some (row pr (rt pr i) k kk) := groups_at hlow hkk
                obtain ⟨vk, hvk⟩ : ∃ vk, vals[kk]? = some vk := ⟨vals[kk]'(by rw [hor.len, groups_len hlow]; exact hkk), List.getElem?_eq_getElem _⟩
                obtain ⟨og, oc, hgv, _, _⟩ := own_cell hor.out hvk
                have OV := hid hor
                have hvl : vals.length = rk pr k := by rw [hor.len, groups_len hlow]
                rw [hvl] at hgv
                subst hgv
                have hrk := rk_le pr k
                have hki : (kk : Int) < (rk pr k : Int) := by omega
                clear hor
                go_wp2_with (first
                  | (go_at_call 28; refine FA.out.mono ?_; rintro e V1 ⟨rfl, kp1, tb1⟩; have cg1 := CGI.out.turn hm kp1 tb1; have hlk := LK.out V1 kp1 tb1; have hor1 := OV.out.kept kp1 (fun b (hb : b = _) => by have := CGI.out.l3; omega); have hck := (hor1.cell hvk).1; have CG1 := hid cg1; have OR1 := hid hor1; have KP1 := hid kp1; clear cg1 FA hor1 kp1 tb1)
                  | (at_builtin; refine wpList_append_own_at _ rfl (.tmp 90) (.tmp 92) 26 rfl (Mb + 1) 3 i3 (.int .i64 0) 1 8 Ybaz.underlying26 hi3 hz3 hs3 hb3 rfl (by decide) vk (row pr (rt pr i) k kk).length ((row pr (rt pr i) k kk).map vi) rfl ((OR1.out.kept (E := fun _ => False) ((Kept.refl _ _).alloc _) (fun _ h => h.elim)).own kk vk _ hvk hgk) ⟨V1.heap.size, 0, none⟩ 1 1 [vi k] rfl rfl (news1 V1 (vi k) 3) (by simp [Value.oneCell']) (by have := row_len pr (rt pr i) k kk; unfold maxLen; omega) (by have := row_len pr (rt pr i) k kk; omega) (by have := CG1.out.lb; simp; omega) ?_; intro v' w1 own1 grow1 _ mv1; obtain ⟨g', cap', rfl⟩ := own_slice own1; obtain ⟨p1, pc, pf, _⟩ := (OR1.out.kept (E := fun _ => False) ((Kept.refl _ _).alloc (.cells #[vi k] 3)) (fun _ h => h.elim)).push (by rw [hvl]) hvk hgk own1 grow1 mv1; have P1 := hid p1; have GR := hid grow1; clear p1 own1 grow1 mv1 hck))
                go_roundw
                case rel =>
                  refine ⟨k + 1, by omega, by go_num, ?_⟩
                  have kf : Kept (fun b => b = og ∨ vk.ownBlock = some b) V1 (w1.setCell ⟨og, kk, none⟩ (sl g' 0 ((row pr (rt pr i) k kk).length + 1) cap')) :=
                    (((Kept.refl (fun b => b = og ∨ vk.ownBlock = some b) V1).alloc (.cells #[vi k] 3)).grown GR.out (fun b hb => .inl (.inr hb))).setCell (p := ⟨og, kk, none⟩) (.inl (.inl rfl)) _
                  have hog : Mb + 1 ≤ og := (own_block OR1.out.out (g := og) rfl).1
                  have hE : ∀ b, (b = og ∨ vk.ownBlock = some b) → Mb + 1 ≤ b := fun b hb => by
                    rcases hb with rfl | hb
                    · exact hog
                    · exact OR1.out.ge hvk hb
                  refine CG1.out.step kf (fun b hb => .inl (hE b hb)) ?_ ⟨vals.set kk (sl g' 0 ((row pr (rt pr i) k kk).length + 1) cap'), by rw [hgr]; exact P1.out⟩
                  obtain ⟨kv, hkv, hKV⟩ := CG1.out.map
                  refine ⟨kv, hkv.kept kf (fun he => by have := hE Mb he; omega), fun x => ?_⟩
                  rw [hKV x]
                  have : (x < k ∧ pr x = none) = (x < k + 1 ∧ pr x = none) := by
                    apply propext
                    constructor
                    · rintro ⟨h1, h2⟩; exact ⟨by omega, h2⟩
                    · rintro ⟨h1, h2⟩
                      refine ⟨?_, h2⟩
                      rcases Nat.lt_or_ge x k with h | h
                      · exact h
                      · have : x = k := by omega
                        subst this
                        rw [hp] at h2
                        cases h2
                  simp only [this]
                case measure => simp [intOf]; omega
              | none =>
                obtain ⟨hRk, hgr⟩ := groups_new hlow hlt hp
                have FA2 : Hid (Calls Ybaz.prog 28 #[vi k, .pointer (some ⟨w.heap.size + 2, 0, none⟩)] wr fun e w' => e = .returned (vi k) ∧ Kept (fun b => b = w.heap.size + 1) wr w' ∧ Tab w' (w.heap.size + 1) 0 i (fun x => vi (rt pr i x))) := hid (by have := FA.out; rw [hRk] at this; exact this)
                clear FA
                obtain ⟨vals, hor⟩ := CGI.out.rows
                have hvl : vals.length = rk pr k := by rw [hor.len, groups_len hlow]
                obtain ⟨sa, oc0, hgv, _⟩ := own_form hor.out
                rw [hvl] at hgv
                subst hgv
                have OV := hid hor
                have hrk := rk_le pr k
                clear hor
                go_wp2_with (first
                  | (go_at_call 28; refine FA2.out.mono ?_; rintro e V1 ⟨rfl, kp1, tb1⟩; have cg1 := CGI.out.turn hm kp1 tb1; obtain ⟨kv, hkv, hKV⟩ := cg1.map; have hlk : Sem.run Ybaz.prog (Instr.lookup 89 (.map (some Mb)) (vi k) true) V1 = .ok (.tuple #[.int .i64 0, .bool false]) V1 := (by
                      have hl := run_lookup_int Ybaz.underlying89 Ybaz.underlying3 hkv k (.int .i64 0) (fun w => by kernel_rfl) true
                      have hq : kv.lookup k = none := by rw [hKV k, if_neg (by omega)]
                      rw [hq] at hl
                      exact hl); obtain ⟨o, hup, hmp⟩ := run_update_int Ybaz.underlying89 Ybaz.underlying3 hkv k (vi (rk pr k)); have hor1 := (OV.out.kept kp1 (fun b (hb : b = _) => by have := CGI.out.l3; omega)).kept ((Kept.refl (fun b => b = Mb) V1).putObj (.inl rfl) o) (fun b (hb : b = _) => by omega); have CG1 := hid cg1; have OR1 := hid hor1; have HKV := hid hKV; have HMP := hid hmp; clear cg1 FA2 hor1 kp1 tb1 hkv hKV hmp)
                  | (at_builtin; refine wpList_append_own_at _ rfl (.tmp 82) (.tmp 83) 29 rfl (Mb + 1) 26 i26 (.slice none 0 0) 1 24 Ybaz.underlying29 hi26 hz26 hs26 hb26 rfl (by decide) (.slice sa (rk pr k) oc0) (rk pr k) vals rfl (by have := (OR1.out.kept (E := fun _ => False) ((Kept.refl _ _).alloc (.cells #[.slice none 0 0] 26)) (fun _ h => h.elim)).out; rw [hvl] at this; exact this) ⟨V1.heap.size, 0, none⟩ 1 1 [.slice none 0 0] rfl rfl (by have h9 := news1 (V1.putObj Mb o) (.slice none 0 0) 26; rw [show (V1.putObj Mb o).heap.size = V1.heap.size by simp [World.putObj]] at h9; exact h9) (by simp [Value.oneCell']) (by unfold maxLen; omega) (by omega) (by have := CG1.out.lb; simp [World.putObj]; omega) ?_; intro ov' w1 own1 grow1 _ mv1; obtain ⟨og, oc, rfl⟩ := own_slice own1; have hor2 := (OR1.out.kept (E := fun _ => False) ((Kept.refl _ _).alloc (.cells #[.slice none 0 0] 26)) (fun _ h => h.elim)).grow (u := .slice none 0 0) (g := []) ⟨rfl, .inl ⟨rfl, rfl⟩⟩ (fun _ _ _ _ _ h => by cases h) (by rw [hvl]; exact own1) grow1; have hvk2 : (vals ++ [Value.slice none 0 0])[rk pr k]? = some (.slice none 0 0) := (by rw [← hvl]; simp); have hck := (hor2.cell hvk2).1; have OR2 := hid hor2; have GR1 := hid grow1; clear hor2 own1 grow1 mv1)
                  | (at_builtin; refine wpList_append_own_at _ rfl (.tmp 90) (.tmp 92) 26 rfl (Mb + 1) 3 i3 (.int .i64 0) 1 8 Ybaz.underlying26 hi3 hz3 hs3 hb3 rfl (by decide) (.slice none 0 0) 0 [] rfl ⟨rfl, .inl ⟨rfl, rfl⟩⟩ ⟨w1.heap.size, 0, none⟩ 1 1 [vi k] rfl rfl (news1 w1 (vi k) 3) (by simp [Value.oneCell']) (by unfold maxLen; omega) (by omega) (by have := CG1.out.lb; have := GR1.out.size; simp [World.putObj] at this; simp; omega) ?_; intro v2 w2 own2 grow2 _ mv2; obtain ⟨g', cap', rfl⟩ := own_slice own2; obtain ⟨p1, pc, pf, _⟩ := (OR2.out.kept (E := fun _ => False) ((Kept.refl _ _).alloc (.cells #[vi k] 3)) (fun _ h => h.elim)).push (k := rk pr k) (g := []) (by rw [List.length_append, hvl]; rfl) hvk2 (by rw [List.getElem?_append_right (by rw [groups_len hlow]; exact Nat.le_refl _), groups_len hlow]; simp) own2 grow2 mv2; have P1 := hid p1; have GR2 := hid grow2; clear p1 own2 grow2 mv2 hck))
                go_roundw
                case rel =>
                  refine ⟨k + 1, by omega, by go_num, ?_⟩
                  have kf : Kept (fun b => b = Mb ∨ (Value.slice sa (rk pr k) oc0).ownBlock = some b ∨ b = og) V1 (w2.setCell ⟨og, rk pr k, none⟩ (sl g' 0 (0 + 1) cap')) :=
                    ((((((Kept.refl _ V1).putObj (.inl (.inl rfl)) o).alloc (.cells #[.slice none 0 0] 26)).grown GR1.out (fun b hb => .inl (.inr (.inl hb)))).alloc (.cells #[vi k] 3)).grown GR2.out (fun b hb => by cases hb)).setCell (p := ⟨og, rk pr k, none⟩) (.inl (.inr (.inr rfl))) _
                  have hog : Mb + 1 ≤ og := (own_block OR2.out.out (g := og) rfl).1
                  have hsa : ∀ b, (Value.slice sa (rk pr k) oc0).ownBlock = some b → Mb + 1 ≤ b := fun b hb => (own_block OR1.out.out hb).1
                  refine CG1.out.step kf (fun b hb => by rcases hb with h | h | h; exact .inr h; exact .inl (hsa b h); exact .inl (by omega)) ?_ ⟨(vals ++ [Value.slice none 0 0]).set (rk pr k) (sl g' 0 (0 + 1) cap'), by rw [hgr]; exact P1.out⟩
                  refine ⟨insKV kv k (vi (rk pr k)), ?_, fun x => ?_⟩
                  · have kg : Kept (fun b => (Value.slice sa (rk pr k) oc0).ownBlock = some b ∨ b = og) (V1.putObj Mb o) (w2.setCell ⟨og, rk pr k, none⟩ (sl g' 0 (0 + 1) cap')) :=
                      (((((Kept.refl _ (V1.putObj Mb o)).alloc (.cells #[.slice none 0 0] 26)).grown GR1.out (fun b hb => .inl (.inl hb))).alloc (.cells #[vi k] 3)).grown GR2.out (fun b hb => by cases hb)).setCell (p := ⟨og, rk pr k, none⟩) (.inl (.inr rfl)) _
                    exact HMP.out.kept kg (fun he => by rcases he with h | h; have := hsa Mb h; omega; omega)
                  · rw [lookup_ins, HKV.out x]
                    by_cases hx : x = k
                    · subst hx
                      rw [if_pos rfl, if_pos ⟨by omega, hp⟩]
                    · rw [if_neg hx]
                      have : (x < k ∧ pr x = none) = (x < k + 1 ∧ pr x = none) := by
                        apply propext
                        constructor
                        · rintro ⟨h1, h2⟩; exact ⟨by omega, h2⟩
                        · rintro ⟨h1, h2⟩; exact ⟨by omega, h2⟩
                      simp only [this]
                case measure => simp [intOf]; omega
            · obtain rfl : k = i := by omega
              have CGI := hid cg
              clear cg cg0
              go_wp2
              obtain ⟨vals, hor⟩ := CGI.out.rows
              refine leaves_marks (lo := w.heap.size) Ds wr CGI.out.mks (fun W' kp => ⟨_, results_tmp rfl _ _ _, ⟨_, vals, Mb + 1, rfl, by have := CGI.out.l3; omega, hor.kept kp (fun b hb => CGI.out.lD b hb)⟩, ?_⟩)
              exact CGI.out.cs.bel.trans (kp.toBelow (fun b hb he => by have := (CGI.out.mks.at' b he).1; omega) CGI.out.cs.bel.size)
end Go.Proofs.YbulkdsicGreat
