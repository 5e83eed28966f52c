import Derived.Test.YbulkdsmyNum2
import Derived.Test.YbulkdsmyCalm
namespace Go.Proofs.Ybulkdsmy
open Go.RowKit

theorem range_below {B : Nat} {w w' : World} (h : Below B w w') {b o : Nat} {cs : List Value} (hb : b < B) (hr : w.rangeAt b o cs) : w'.rangeAt b o cs := fun j v hv => by
  rw [h.cell (p := ⟨b, o + j, none⟩) hb]; exact hr j v hv
theorem there_below {B : Nat} {w w' : World} (h : Below B w w') {b o n : Nat} (hb : b < B) (hr : w.there b o n) : w'.there b o n := fun j hj => by
  rw [h.cell (p := ⟨b, o + j, none⟩) hb, h.frozen (p := ⟨b, o + j, none⟩) hb]; exact hr j hj

/-- The difference of two bytes, as the numbers reckon it. -/
def dh (x f : Int) : Int := (0 - 0 - bo 0 0 (bo x f 0)) % 4294967296
def dm (x f : Int) : Int := (0 - 0 - bo x f 0) % 18446744073709551616
def dl (x f : Int) : Int := (x - f - 0) % 18446744073709551616

theorem minus8 (x f : Int) (hx : 0 ≤ x ∧ x ≤ 255) (hf : 0 ≤ f ∧ f ≤ 255) (w : World) :
    Calls Yba.prog 23 #[nm 0 0 x, nm 0 0 f] w fun e w' => e = .returned (nm (dh x f) (dm x f) (dl x f)) ∧ Below w.heap.size w w' :=
  minus_any 0 x 0 f ⟨by omega, by omega⟩ ⟨by omega, by omega⟩ ⟨by omega, by omega⟩ ⟨by omega, by omega⟩ w

theorem dl_zero (x f : Int) (hx : 0 ≤ x ∧ x ≤ 255) (hf : 0 ≤ f ∧ f ≤ 255) (h : x ≠ f) : dl x f ≠ 0 := by
  unfold dl; omega
theorem dh_self (f : Int) : dh f f = 0 ∧ dm f f = 0 ∧ dl f f = 0 := by
  unfold dh dm dl bo; simp
theorem d_in (x f : Int) : full32 (dh x f) ∧ in64 (dm x f) ∧ in64 (dl x f) := by
  unfold full32 in64 dh dm dl
  have := bo01 0 0 (bo x f 0)
  omega
theorem less_law (i f t : Int) (hi : 0 ≤ i ∧ i ≤ 255) (hf : 0 ≤ f ∧ f ≤ 255) (ht : 0 ≤ t ∧ t ≤ 255) :
    (bo (dh t f) (dh i f) (bo (dm t f) (dm i f) (bo (dl t f) (dl i f) 0)) != 0) = !(decide (rel i f ≤ rel t f)) := by
  have e : ∀ x, 0 ≤ x ∧ x ≤ 255 → (x < f → dh x f = 4294967295 ∧ dm x f = 18446744073709551615 ∧ dl x f = 18446744073709551616 + x - f ∧ rel x f = x - f + 256) ∧ (f ≤ x → dh x f = 0 ∧ dm x f = 0 ∧ dl x f = x - f ∧ rel x f = x - f) := fun x hx => by
    refine ⟨fun h => ?_, fun h => ?_⟩
    · have b1 : bo x f 0 = 1 := by unfold bo; rw [if_pos (by omega)]
      have b2 : bo 0 0 1 = 1 := by decide
      refine ⟨by unfold dh; rw [b1, b2]; rfl, by unfold dm; rw [b1]; rfl, by unfold dl; omega, by unfold rel; rw [if_pos (by omega)]⟩
    · have b1 : bo x f 0 = 0 := by unfold bo; rw [if_neg (by omega)]
      have b2 : bo 0 0 0 = 0 := by decide
      refine ⟨by unfold dh; rw [b1, b2]; rfl, by unfold dm; rw [b1]; rfl, by unfold dl; omega, by unfold rel; rw [if_neg (by omega)]⟩
  have ei := e i hi
  have et := e t ht
  have key : (bo (dh t f) (dh i f) (bo (dm t f) (dm i f) (bo (dl t f) (dl i f) 0)) = 0) ↔ rel i f ≤ rel t f := by
    rcases Int.lt_or_le i f with h1 | h1 <;> rcases Int.lt_or_le t f with h2 | h2
    · obtain ⟨a1, a2, a3, a4⟩ := ei.1 h1
      obtain ⟨c1, c2, c3, c4⟩ := et.1 h2
      rw [a1, a2, a3, a4, c1, c2, c3, c4]
      unfold bo
      (repeat' split) <;> omega
    · obtain ⟨a1, a2, a3, a4⟩ := ei.1 h1
      obtain ⟨c1, c2, c3, c4⟩ := et.2 h2
      rw [a1, a2, a3, a4, c1, c2, c3, c4]
      unfold bo
      (repeat' split) <;> omega
    · obtain ⟨a1, a2, a3, a4⟩ := ei.2 h1
      obtain ⟨c1, c2, c3, c4⟩ := et.1 h2
      rw [a1, a2, a3, a4, c1, c2, c3, c4]
      unfold bo
      (repeat' split) <;> omega
    · obtain ⟨a1, a2, a3, a4⟩ := ei.2 h1
      obtain ⟨c1, c2, c3, c4⟩ := et.2 h2
      rw [a1, a2, a3, a4, c1, c2, c3, c4]
      unfold bo
      (repeat' split) <;> omega
  by_cases h : rel i f ≤ rel t f
  · simp [h, key.2 h]
  · have h' := mt key.1 h
    simp [h, h']

theorem range_of_block {w : World} {b : Nat} {cs : List Value} {t : TypeId} (h : w.heap[b]? = some (.cells cs.toArray t)) : w.rangeAt b 0 cs := fun j v hv => by
  rw [Nat.zero_add]
  unfold World.cell?
  simp only [h]
  simpa using hv
theorem there_of_block {w : World} {b : Nat} {cs : List Value} {t : TypeId} (h : w.heap[b]? = some (.cells cs.toArray t)) : w.there b 0 cs.length := fun j hj => by
  rw [Nat.zero_add]
  refine ⟨?_, ?_⟩
  · rw [show w.cell? ⟨b, j, none⟩ = cs[j]? from by unfold World.cell?; simp only [h]; simp]
    simp [hj]
  · unfold World.frozen?
    simp [h]

theorem two_stores {W : World} {p q : Nat} (cs ds : List Value) (hpq : p ≠ q) (tp : W.there p 0 cs.length) (tq : W.there q 0 ds.length) :
    ((W.setCells p 0 cs).setCells q 0 ds).rangeAt p 0 cs ∧ ((W.setCells p 0 cs).setCells q 0 ds).rangeAt q 0 ds :=
  ⟨World.rangeAt_setCells_apart (World.rangeAt_setCells_same _ _ _ _ tp) _ _ _ (.inl hpq), World.rangeAt_setCells_same _ _ _ _ (World.there_setCells tq _ _ _)⟩
/-- A world by its facts alone, in the midst of a region. -/
theorem wpList_as {P : Program} {ops : Array Oper} {l : List Oper} {Q : Exit → Act → World → Prop} {a : Act} {w : World} (F : World → Prop) (h : F w) (k : ∀ W, F W → wpList P ops Q l a W) : wpList P ops Q l a w := k w h
theorem range3 {W : World} {b : Nat} {x y z : Value} (h : W.rangeAt b 0 [x, y, z]) : W.cell? ⟨b, 0, none⟩ = some x ∧ W.cell? ⟨b, 1, none⟩ = some y ∧ W.cell? ⟨b, 2, none⟩ = some z :=
  ⟨by simpa using h 0 _ rfl, by simpa using h 1 _ rfl, by simpa using h 2 _ rfl⟩

/-- A world by its facts alone. -/
theorem wp_as {P : Program} {c : Code} {Q : Exit → Act → World → Prop} {a : Act} {w : World} (F : World → Prop) (h : F w) (k : ∀ W, F W → c.wp P Q a W) : c.wp P Q a w := k w h

set_option maxHeartbeats 4000000 in
theorem within_any (i f t : Int) (hi : 0 ≤ i ∧ i ≤ 255) (hf : 0 ≤ f ∧ f ≤ 255) (ht : 0 ≤ t ∧ t ≤ 255) (w : World) :
    Calls Yba.prog 20 #[.agg (idc i).toArray, .agg (idc f).toArray, .agg (idc t).toArray] w fun e w' => e = .returned (.bool (within i f t)) ∧ Below w.heap.size w w' := by
  have N1 := hid (number_any i hi)
  have N2 := hid (number_any f hf)
  have N3 := hid (number_any t ht)
  have D1 := hid (minus8 t f ht hf)
  have D2 := hid (minus8 i f hi hf)
  have al93 : ∀ w, Sem.run Yba.prog (Instr.alloc 93 true (.tuple #[])) w = .ok (ptrTo w.heap.size) (w.alloc (.cells #[.int .u32 0, .int .u64 0, .int .u64 0] 93)) := fun w => by kernel_rfl
  simp only [nm] at N1 N2 N3 D1 D2
  obtain ⟨th, hth⟩ : ∃ x, x = dh t f := ⟨_, rfl⟩
  obtain ⟨tm, htm⟩ : ∃ x, x = dm t f := ⟨_, rfl⟩
  obtain ⟨tl, htl⟩ : ∃ x, x = dl t f := ⟨_, rfl⟩
  obtain ⟨ih, hih⟩ : ∃ x, x = dh i f := ⟨_, rfl⟩
  obtain ⟨im, him⟩ : ∃ x, x = dm i f := ⟨_, rfl⟩
  obtain ⟨il, hil⟩ : ∃ x, x = dl i f := ⟨_, rfl⟩
  rw [← hth, ← htm, ← htl] at D1
  rw [← hih, ← him, ← hil] at D2
  go_enter Yba.func20, Yba.ntmps20
  go_wp2_with (first
    | (refine wpList_box_as rfl 29 _ rfl (idc i).toArray rfl (bx29 i) ?_)
    | (refine wpList_box_as rfl 29 _ rfl (idc f).toArray rfl (bx29 f) ?_)
    | (refine wpList_box_as rfl 29 _ rfl (idc t).toArray rfl (bx29 t) ?_)
    | (refine wpList_load_mid rfl 29 _ rfl (w.heap.size + 1) 0 rfl (idc f) _ ?_ Yba.underlying29 rfl (info29 f) ?_)
    | (go_at_call 22; with_reducible refine (N2.out _).mono ?_; rintro e w' ⟨rfl, hb⟩))
  · have h := World.rangeAt_alloc (range_new (w.alloc (.cells (idc i).toArray 29)) (idc f) 29) (.cells (idc t).toArray 29)
    simpa using h
  have s0 : w.heap.size + 3 ≤ w'.heap.size := by have := hb.size; simpa using this
  have hb' := hb.mono (B' := w.heap.size + 3) (by simp)
  have r1 : w'.rangeAt w.heap.size 0 (idc i) := range_below hb' (by omega) (World.rangeAt_alloc (World.rangeAt_alloc (range_new w (idc i) 29) _) _)
  have r3 : w'.rangeAt (w.heap.size + 2) 0 (idc t) := range_below hb' (by omega) (by
    have h := range_new ((w.alloc (.cells (idc i).toArray 29)).alloc (.cells (idc f).toArray 29)) (idc t) 29
    simpa using h)
  have bl : Below w.heap.size w w' := Below.trans ((((Below.refl _ _).alloc (Nat.le_refl _) _).alloc (by simp) _).alloc (by simp; omega) _) (hb.mono (by simp; omega))
  refine wp_as (fun W => W.heap.size = w'.heap.size + 1 ∧ W.rangeAt w.heap.size 0 (idc i) ∧ W.rangeAt (w.heap.size + 2) 0 (idc t) ∧ Below w.heap.size w W ∧
    W.cell? ⟨w'.heap.size, 0, none⟩ = some (.int .u32 0) ∧ W.cell? ⟨w'.heap.size, 1, none⟩ = some (.int .u64 0) ∧ W.cell? ⟨w'.heap.size, 2, none⟩ = some (.int .u64 f)) 
    ⟨by simp, World.rangeAt_alloc r1 _, World.rangeAt_alloc r3 _, bl.alloc (by omega) _, by simp, by simp, by simp⟩ ?_
  rintro W ⟨hs, h1, h3, hbl, c0, c1, c2⟩
  have s1 : w.heap.size + 3 ≤ W.heap.size - 1 := by omega
  obtain ⟨B, hB⟩ : ∃ B, B = w'.heap.size := ⟨_, rfl⟩
  rw [← hB] at hs c0 c1 c2 s0 ⊢
  clear r1 r3 bl hb hb' hB
  have rf : W.rangeAt B 0 [.int .u32 0, .int .u64 0, .int .u64 f] := fun j v hv => by
    rw [Nat.zero_add]
    match j, hv with
    | 0, hv => cases hv; exact c0
    | 1, hv => cases hv; exact c1
    | 2, hv => cases hv; exact c2
  refine wp_region_calm 8 (by kernel_rfl) (by kernel_rfl) _ _ rfl rfl (t1 := 93) (t2 := 93) (Z1 := #[.int .u32 0, .int .u64 0, .int .u64 0]) (Z2 := #[.int .u32 0, .int .u64 0, .int .u64 0]) ⟨rfl, rfl, al93⟩ ⟨rfl, rfl, al93⟩ (by simp) ?_
  dsimp only [List.take, List.drop]
  refine wpCalm_load rfl 29 _ rfl (w.heap.size + 2) 0 rfl (idc t) _ h3 Yba.underlying29 rfl (info29 t) ?_
  refine wpCalm_call _ 22 #[.agg (idc t).toArray] rfl (fun _ => by kernel_rfl) N3.out ?_
  refine wpCalm_load rfl 93 _ rfl B 0 rfl _ _ rf Yba.underlying93 rfl (by kernel_rfl) ?_
  refine wpCalm_call _ 23 #[.agg #[.int .u32 0, .int .u64 0, .int .u64 t], .agg #[.int .u32 0, .int .u64 0, .int .u64 f]] rfl (fun _ => by kernel_rfl) D1.out ?_
  refine wpCalm_load rfl 29 _ rfl w.heap.size 0 rfl (idc i) _ h1 Yba.underlying29 rfl (info29 i) ?_
  refine wpCalm_call _ 22 #[.agg (idc i).toArray] rfl (fun _ => by kernel_rfl) N1.out ?_
  refine wpCalm_load rfl 93 _ rfl B 0 rfl _ _ rf Yba.underlying93 rfl (by kernel_rfl) ?_
  refine wpCalm_call _ 23 #[.agg #[.int .u32 0, .int .u64 0, .int .u64 i], .agg #[.int .u32 0, .int .u64 0, .int .u64 f]] rfl (fun _ => by kernel_rfl) D2.out ?_
  intro p q W' k hpq hp hq zp zq
  simp only [Act.put, List.setIfInBounds_toArray, List.set_cons_succ, List.set_cons_zero]
  have tp : W'.there p 0 3 := there_of_block (cs := [.int .u32 0, .int .u64 0, .int .u64 0]) zp
  have tq : W'.there q 0 3 := there_of_block (cs := [.int .u32 0, .int .u64 0, .int .u64 0]) zq
  refine wpList_store_mid rfl 93 _ _ rfl p 0 #[.int .u32 th, .int .u64 tm, .int .u64 tl] rfl rfl tp (by kernel_rfl) (by kernel_rfl) ?_
  refine wpList_store_mid rfl 93 _ _ rfl q 0 #[.int .u32 ih, .int .u64 im, .int .u64 il] rfl rfl (World.there_setCells tq _ _ _) (by kernel_rfl) (by kernel_rfl) ?_
  refine wpList_as (fun W => W.rangeAt p 0 [.int .u32 th, .int .u64 tm, .int .u64 tl] ∧ W.rangeAt q 0 [.int .u32 ih, .int .u64 im, .int .u64 il] ∧ Below w.heap.size w W) ?_ ?_
  · have h := two_stores (W := W') [.int .u32 th, .int .u64 tm, .int .u64 tl] [.int .u32 ih, .int .u64 im, .int .u64 il] hpq tp tq
    exact ⟨h.1, h.2, below_setCells (below_setCells (Below.trans hbl (Below.mono k (by omega))) (by omega) _ _) (by omega) _ _⟩
  rintro W2 ⟨rp, rq, bl⟩
  simp only [Act.put, ptrTo]
  obtain ⟨p0, p1, p2⟩ := range3 rp
  obtain ⟨q0, q1, q2⟩ := range3 rq
  have BL := hid bl
  clear rp rq bl zp zq tp tq k h1 h3 hbl c0 c1 c2 rf
  have LS := hid (less_any th tm tl ih im il (by rw [hth]; exact (d_in t f).1) (by rw [htm]; exact (d_in t f).2.1) (by rw [htl]; exact (d_in t f).2.2) (by rw [hih]; exact (d_in i f).1) (by rw [him]; exact (d_in i f).2.1) (by rw [hil]; exact (d_in i f).2.2))
  have lw := less_law i f t hi hf ht
  rw [← hth, ← htm, ← htl, ← hih, ← him, ← hil] at lw
  rw [lw] at LS
  clear lw
  simp only [nm] at LS
  generalize hr3 : decide (rel i f ≤ rel t f) = r3 at LS
  by_cases hft : f = t
  · subst hft
    obtain ⟨z1, z2, z3⟩ := dh_self f
    rw [z1] at hth
    rw [z2] at htm
    rw [z3] at htl
    subst hth htm htl
    have V := hid (show within i f f = true from if_pos rfl)
    clear LS N1 N2 N3 D1 D2 hih him hil hr3
    go_wp2
    go_ret
    exact ⟨by rw [V.out]; rfl, BL⟩
  · have htz : tl ≠ 0 := by rw [htl]; exact dl_zero t f ht hf (Ne.symm hft)
    by_cases hif : i = f
    · obtain ⟨z1, z2, z3⟩ := dh_self f
      rw [hif, z1] at hih
      rw [hif, z2] at him
      rw [hif, z3] at hil
      subst hih him hil
      have V := hid (show within i f t = false by rw [within, if_neg hft, if_pos hif])
      clear LS N1 N2 N3 D1 D2 hth htm htl hr3
      go_wp2
      go_ret
      exact ⟨by rw [V.out]; rfl, BL⟩
    · have hiz : il ≠ 0 := by rw [hil]; exact dl_zero i f hi hf hif
      have V := hid (show within i f t = r3 by rw [within, if_neg hft, if_neg hif, hr3])
      clear N1 N2 N3 D1 D2 hth htm htl hr3 hih him hil
      go_wp2_with (first | (go_at_call 24; with_reducible refine (LS.out _).mono ?_; rintro e w' ⟨rfl, hb⟩))
      go_ret
      exact ⟨by rw [V.out]; rfl, Below.trans BL (Below.mono hb BL.out.size)⟩

end Go.Proofs.Ybulkdsmy
