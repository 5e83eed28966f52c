import Derived.Test.YbulkdsmyDel
import Derived.Maps.AppendAt
namespace Go.Proofs.Ybulkdsmy
open Go.RowKit

theorem Yba.info5 : (Yba.prog.info? 5).map (fun i => (i.zero, i.size, i.bytes)) = some (some (.int .u8 0), 1, 1) := by kernel_rfl

/-- The log: its variable, its slice, its bytes. -/
structure LogAt (w : World) (base lb : Nat) (lv : Value) (xs : List Value) : Prop where
  cell : w.cell? ⟨lb, 0, none⟩ = some lv
  free : w.frozen? ⟨lb, 0, none⟩ = false
  own : w.ownsRow base 5 1 lv xs.length xs
  apart : lv.ownBlock ≠ some lb
  base : base ≤ w.heap.size
  few : xs.length ≤ 1000

/-- Where the slice's own block lies after an append. -/
def Moved (w : World) (v v' : Value) : Prop := v'.ownBlock = v.ownBlock ∨ ∃ g, v'.ownBlock = some g ∧ w.heap.size ≤ g

theorem ownBlock_lt {w : World} {base e size n : Nat} {v : Value} {xs : List Value} (h : w.ownsRow base e size v n xs) {g : Nat} (hg : v.ownBlock = some g) : g < w.heap.size := by
  rcases h.2 with ⟨rfl, _⟩ | ⟨g', cap, cur, rfl, _, hb, _⟩
  · cases hg
  · cases hg
    exact (Array.getElem?_eq_some_iff.1 hb).1

theorem wpList_done {P : Program} {ops : Array Oper} {Q : Exit → Act → World → Prop} {a : Act} {w : World} (h : Q .normal a w) : wpList P ops Q [] a w := h
theorem own_slice {w : World} {base e size n : Nat} {v : Value} {xs : List Value} (h : w.ownsRow base e size v (n + 1) xs) : ∃ g cap, v = .slice (some ⟨g, 0, none⟩) (n + 1) cap := by
  rcases h.2 with ⟨_, h2⟩ | ⟨g, cap, cur, rfl, _⟩
  · omega
  · exact ⟨g, cap, rfl⟩
theorem own_kept {E : Nat → Prop} {w w' : World} {base e size n : Nat} {v : Value} {xs : List Value} (h : w.ownsRow base e size v n xs) (k : Kept E w w') (hE : ∀ g, v.ownBlock = some g → ¬ E g) : w'.ownsRow base e size v n xs := by
  refine ⟨h.1, ?_⟩
  rcases h.2 with ⟨h1, h2⟩ | ⟨g, cap, cur, rfl, hb, hc, h3⟩
  · exact .inl ⟨h1, h2⟩
  · exact .inr ⟨g, cap, cur, rfl, hb, (k.block g (Array.getElem?_eq_some_iff.1 hc).1 (hE g rfl)).trans hc, h3⟩
theorem kept_new (w : World) (o : Obj) : Kept (fun _ => False) w (w.alloc o).drew := ((Kept.refl _ w).alloc o).drew

/-- One byte more. -/
theorem log_push {w w1 : World} {base lb : Nat} {lv v' x : Value} {xs : List Value} (hl : LogAt w base lb lv xs) (own1 : w1.ownsRow base 5 1 v' (xs.length + 1) (xs ++ [x])) (grow : (w.alloc (.cells #[x] 5)).drew.grownBy w1 lv.ownBlock)
    (mv : v'.ownBlock = lv.ownBlock ∨ v'.ownBlock = some (w.alloc (.cells #[x] 5)).drew.heap.size) (hx : xs.length + 1 ≤ 1000) :
    w1.cell? ⟨lb, 0, none⟩ = some lv ∧ w1.frozen? ⟨lb, 0, none⟩ = false ∧ Kept (fun k => lv.ownBlock = some k) w w1 ∧
    LogAt (w1.setCell ⟨lb, 0, none⟩ v') base lb v' (xs ++ [x]) ∧ Moved w lv v' ∧ Kept (fun k => k = lb ∨ lv.ownBlock = some k) w (w1.setCell ⟨lb, 0, none⟩ v') := by
  have k0 := kept_new w (.cells #[x] 5)
  have k1 : Kept (fun k => lv.ownBlock = some k) w w1 := (k0.weak (fun _ _ h => h.elim)).grown grow (fun k hk => .inl hk)
  have hlb : lb < w.heap.size := World.block_lt_of_cell? w _ hl.cell
  have c1 : w1.cell? ⟨lb, 0, none⟩ = some lv := k1.cell (p := ⟨lb, 0, none⟩) hl.apart hl.cell
  have f1 : w1.frozen? ⟨lb, 0, none⟩ = false := by
    rw [World.frozen?_of_block (w := w) (k1.block lb hlb hl.apart)]
    exact hl.free
  have sz : (w.alloc (.cells #[x] 5)).drew.heap.size = w.heap.size + 1 := by simp
  have hap : v'.ownBlock ≠ some lb := by
    rcases mv with h | h
    · rw [h]; exact hl.apart
    · rw [h, sz]
      intro he
      have := Option.some.inj he
      omega
  have k2 : Kept (fun k => k = lb) w1 (w1.setCell ⟨lb, 0, none⟩ v') := (Kept.refl (fun k => k = lb) w1).setCell (p := ⟨lb, 0, none⟩) (.inl rfl) _
  refine ⟨c1, f1, k1, ⟨by first | exact World.cell?_setCell_same _ _ _ c1 | exact World.cell?_setCell_same _ _ c1, by rw [World.frozen?_setCell]; exact f1, ?_, hap, ?_, by simpa using hx⟩, ?_, ?_⟩
  · have := own_kept own1 k2 (fun g hg he => hap (by rw [hg, he]))
    simpa using this
  · have := hl.base
    have := k1.size
    simp
    omega
  · rcases mv with h | h
    · exact .inl h
    · exact .inr ⟨_, h, by rw [sz]; omega⟩
  · exact (k1.weak (fun _ _ h => .inr h)).setCell (.inl (.inl rfl)) _

set_option maxHeartbeats 1000000 in
theorem links_any (PB base lb : Nat) (plv lv : Value) (xs : List Value) (w : World) (h0 : w.cell? ⟨PB, 0, none⟩ = some plv) (h1 : w.cell? ⟨PB, 1, none⟩ = some (.pointer (some ⟨lb, 0, none⟩))) (hl : LogAt w base lb lv xs) (hx : xs.length + 1 ≤ 1000) (hP : lv.ownBlock ≠ some PB) (hPl : PB ≠ lb) :
    Calls Yba.prog 48 #[.pointer (some ⟨PB, 0, none⟩)] w fun e w' => e = .returned plv ∧ ∃ lv', LogAt w' base lb lv' (xs ++ [.int .u8 76]) ∧ Moved w lv lv' ∧ Kept (fun k => k = lb ∨ lv.ownBlock = some k) w w' := by
  obtain ⟨i0, hi, hz0, hz1, hz2⟩ := info_parts Yba.info5
  have HL := hid hl
  have hc := hl.cell
  go_enter Yba.func48, Yba.ntmps48
  go_wp2
  let S : World → Prop := fun w' => w'.cell? ⟨PB, 1, none⟩ = some (.pointer (some ⟨lb, 0, none⟩)) ∧ w'.cell? ⟨lb, 0, none⟩ = some lv
  have s0 : S w.drew := ⟨by simpa using h1, by simpa using hc⟩
  haveI : Nonempty (Wld S) := ⟨⟨w.drew, s0⟩⟩
  have x1 : ∀ x : Wld S, x.w.cell? ⟨PB, 1, none⟩ = some (.pointer (some ⟨lb, 0, none⟩)) := fun x => x.h.1
  have x2 : ∀ x : Wld S, x.w.cell? ⟨lb, 0, none⟩ = some lv := fun x => x.h.2
  refine wp_region_plan 13 [(true, 0), (true, 1), (true, 2), (true, 3), (true, 4), (true, 5), (true, 6), (true, 7), (true, 8), (true, 9), (false, 10), (false, 11), (true, 12), (false, 13)] (fun w' => ∃ x : Wld S, w' = x.w) (by kernel_rfl) (by kernel_rfl) (fun _ _ d _ _ h => by cases d <;> exact h) (inS s0) ?_
  repeat (refine wpPlan_q (by rfl) ?_; dsimp only [List.getElem_toArray, List.getElem_cons_zero, List.getElem_cons_succ]; go_big_quiet_step (fail); refine wpQuiet_nil ?_)
  refine wpPlan_e (by rfl) ?_
  dsimp only [List.getElem_toArray, List.getElem_cons_zero, List.getElem_cons_succ]
  go_wp2
  refine onward_normal (fun _ => inS ⟨by simpa using cell?_alloc_old _ h1, by simpa using cell?_alloc_old _ hc⟩) ?_
  refine wpPlan_e (by rfl) ?_
  dsimp only [List.getElem_toArray, List.getElem_cons_zero, List.getElem_cons_succ]
  refine wpList_append_own_at _ rfl (.tmp 12) (.tmp 13) 43 rfl base 5 i0 (.int .u8 0) 1 1 Yba.underlying43 hi hz0 hz1 hz2 rfl (by decide) lv xs.length xs rfl (own_kept HL.out.own (kept_new w _) (fun _ _ h => h)) ⟨w.heap.size, 0, none⟩ 1 1 [.int .u8 76] rfl rfl ?_ (by simp [Value.oneCell']) (by have := hx; unfold maxLen; omega) (by omega) (by have := HL.out.base; simp; omega) ?_
  · intro j u hu
    match j, hu with
    | 0, hu => cases hu; simp [Addr.add]
  intro v' w1 own1 grow1 _ mv
  obtain ⟨g', cap', rfl⟩ := own_slice own1
  obtain ⟨p1, p2, p3, p4, p5, p6⟩ := log_push HL.out own1 grow1 mv hx
  have q0 := p3.cell (p := ⟨PB, 0, none⟩) hP h0
  have q1 := p3.cell (p := ⟨PB, 1, none⟩) hP h1
  have R := hid p4
  have R2 := hid p5
  have R3 := hid p6
  clear p4 p5 p6 own1 grow1 mv p3
  refine wpList_done ?_
  simp only [Act.put, List.setIfInBounds_toArray, List.set_cons_succ, List.set_cons_zero]
  refine onward_normal (fun _ => inS ⟨q1, p1⟩) ?_
  refine wpPlan_q (by rfl) ?_
  dsimp only [List.getElem_toArray, List.getElem_cons_zero, List.getElem_cons_succ]
  go_big_quiet_step (fail)
  refine wpQuiet_nil ?_
  refine wpPlan_e (by rfl) ?_
  dsimp only [List.getElem_toArray, List.getElem_cons_zero, List.getElem_cons_succ]
  go_wp2
  refine onward_normal (fun h => by cases h) (wpPlan_nil ?_)
  have q0' : (w1.setCell ⟨lb, 0, none⟩ (.slice (some ⟨g', 0, none⟩) (xs.length + 1) cap')).cell? ⟨PB, 0, none⟩ = some plv := by rw [World.cell?_setCell_other _ _ _ _ (fun h => hPl (by cases h; rfl))]; exact q0
  go_wp2
  go_ret
  exact ⟨rfl, _, R, R2, R3⟩

end Go.Proofs.Ybulkdsmy
