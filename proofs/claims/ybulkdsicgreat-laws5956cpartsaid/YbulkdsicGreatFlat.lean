import Derived.Test.YbulkdsicGreatGrp
import Derived.Test.YbulkdsicGreatExec2
import Derived.Test.YbulkdsicGreatPar2
import Derived.OwnWalk
set_option linter.unusedVariables false
set_option linter.unusedSimpArgs false
namespace Go.Proofs.YbulkdsicGreat
open Go.RowKit Go.Shelf

/-- Not the empty name. -/
def Named (s : ByteArray) : Prop := s.toList.isEmpty = false
/-- A tree that flatten leaves as it is. -/
def Flat : Nat → PT → Prop
  | 0, _ => False
  | _ + 1, .mk s p none => Named s
  | d + 1, .mk s p (some ks) => s = ⟨#[]⟩ ∧ (∀ t ∈ ks, Flat d t) ∧ (p = false → ∀ t ∈ ks, ∃ s' p', t = .mk s' p' none ∧ Named s')
theorem NodeIs.one {W : World} : ∀ (d : Nat) (T : PT) (a b c : Value), NodeIs W d T a b c → a.oneCell' = true ∧ b.oneCell' = true ∧ c.oneCell' = true
  | 0, _, _, _, _, h => h.elim
  | d + 1, .mk s p none, a, b, c, h => by obtain ⟨rfl, rfl, rfl⟩ := h; exact ⟨rfl, rfl, rfl⟩
  | d + 1, .mk s p (some ks), a, b, c, h => by obtain ⟨rfl, rfl, _, g, o, cap, rfl, _⟩ := h; exact ⟨rfl, rfl, rfl⟩
theorem al42 (w : World) : Sem.run Ybaz.prog (Instr.alloc 42 true (.tuple #[])) w = .ok (.pointer (some ⟨w.heap.size, 0, none⟩)) (w.alloc (.cells #[.string ⟨#[]⟩, .bool false, .slice none 0 0] 42)) := by kernel_rfl

/-- Region 3's values and objects. -/
def flV (B0 p : Nat → Nat) (bx : Nat) (pb : Bool) (c : Value) (n : Nat) (j : Nat) (blk : Nat → Nat) : Value :=
  match j with
  | 0 => .pointer (some ⟨bx, 1, none⟩)
  | 1 => .bool pb
  | 2 => .pointer (some ⟨bx, 2, none⟩)
  | 3 => c
  | 5 => .slice (some ⟨blk 5, 0, none⟩) 0 n
  | 6 => .agg #[.string ⟨#[]⟩, .bool pb, .slice (some ⟨blk 5, 0, none⟩) 0 n]
  | 7 => .pointer (some ⟨blk 7, 0, none⟩)
  | _ => vi n
def flO (n : Nat) (j : Nat) (blk : Nat → Nat) : Option Obj :=
  match j with
  | 5 => some (.cells (madeCells #[.string ⟨#[]⟩, .bool false, .slice none 0 0] (n * 3)) 42)
  | 7 => some (.cells #[.string ⟨#[]⟩, .bool false, .slice none 0 0] 42)
  | _ => none
def flD (j : Nat) : List Nat := match j with | 5 => [5] | 6 => [5] | 7 => [7] | _ => []
theorem flLoc (bx : Nat) (pb : Bool) (c : Value) (n j : Nat) (blk blk' : Nat → Nat) (h : ∀ k ∈ flD j, blk k = blk' k) : flV id id bx pb c n j blk = flV id id bx pb c n j blk' ∧ flO n j blk = flO n j blk' := by
  match j with
  | 0 | 1 | 2 | 3 | 4 => exact ⟨rfl, rfl⟩
  | 5 => simp only [flD, List.forall_mem_cons] at h; simp [flV, flO, h]
  | 6 => simp only [flD, List.forall_mem_cons] at h; simp [flV, flO, h]
  | 7 => simp only [flD, List.forall_mem_cons] at h; simp [flV, flO, h]
  | j + 8 => exact ⟨rfl, rfl⟩
theorem fa42a (b : Nat) (w : World) : Sem.run Ybaz.prog (Instr.fieldAt 42 (.pointer (some ⟨b, 0, none⟩)) 1) w = .ok (.pointer (some ⟨b, 1, none⟩)) w := by kernel_rfl
theorem fa42b (b : Nat) (w : World) : Sem.run Ybaz.prog (Instr.fieldAt 42 (.pointer (some ⟨b, 0, none⟩)) 2) w = .ok (.pointer (some ⟨b, 2, none⟩)) w := by kernel_rfl
theorem load4 (w : World) (b o : Nat) (v : Value) (h : w.cell? ⟨b, o, none⟩ = some v) : Sem.run Ybaz.prog (loadVar 4 ⟨b, o, none⟩) w = .ok v w := by
  have hu := Ybaz.underlying4
  go_simp
theorem load40 (w : World) (b o : Nat) (v : Value) (h : w.cell? ⟨b, o, none⟩ = some v) : Sem.run Ybaz.prog (loadVar 40 ⟨b, o, none⟩) w = .ok v w := by
  have hu := Ybaz.underlying40
  go_simp
theorem bld42 (pb : Bool) (b n : Nat) (w : World) : Sem.run Ybaz.prog (Instr.build 42 #[(1, .bool pb), (2, .slice (some ⟨b, 0, none⟩) 0 n)]) w = .ok (.agg #[.string ⟨#[]⟩, .bool pb, .slice (some ⟨b, 0, none⟩) 0 n]) w := by kernel_rfl
theorem xlen {ρ : Operand → Value} {d : Option Tmp} {ty : TypeId} {ps : String} {af : Array Edge} {gd : Option (Nat × Bool)} {w : World} {x : Operand} {t : TypeId} {e : TypeId} {a : Option Addr} {n c : Nat} (hu : Ybaz.prog.underlying t = some (.slice e)) (h : ρ x = .slice a n c) :
    (execOp ρ ⟨d, .call { callee := .builtin .len, args := #[x], argTypes := #[t] }, ty, ps, af, gd⟩).run Ybaz.prog w = .ok (.value (vi n)) w := by
  unfold execOp
  simp [resolve, invoke, builtin, h, Builtin.len_, Builtin.lenOf, Result.andThen, run_underlying hu, goInt]

theorem bs40' (d : Option Tmp) (ty : TypeId) (ps : String) (af : Array Edge) (g : Option (Nat × Bool)) (X : World) (x' y' z' : Value) (t : Operand) : (execOp (fun _ => .agg #[x', y', z']) ⟨d, .buildSlice 40 1 #[(0, t)], ty, ps, af, g⟩).run Ybaz.prog X = .ok (.value (.slice (some ⟨X.heap.size, 0, none⟩) 1 1)) (X.alloc (.cells #[x', y', z'] 42)) := by kernel_rfl
theorem news3 (W : World) (x y z : Value) (t : TypeId) : ∀ (j : Nat) u, [x, y, z][j]? = some u → (W.alloc (.cells #[x, y, z] t)).cell? ((⟨W.heap.size, 0, none⟩ : Addr).add j) = some u := fun j u hu => by
  have hadd : (⟨W.heap.size, 0, none⟩ : Addr).add j = ⟨W.heap.size, j, none⟩ := by unfold Addr.add; split <;> simp_all
  rw [hadd]
  have := range_new W [x, y, z] t j u hu
  rwa [Nat.zero_add] at this
theorem bs40 {ρ : Operand → Value} {d : Option Tmp} {ty : TypeId} {ps : String} {af : Array Edge} {g : Option (Nat × Bool)} {X : World} {x' y' z' : Value} (t : Operand) (h : ρ t = .agg #[x', y', z']) : (execOp ρ ⟨d, .buildSlice 40 1 #[(0, t)], ty, ps, af, g⟩).run Ybaz.prog X = .ok (.value (.slice (some ⟨X.heap.size, 0, none⟩) 1 1)) (X.alloc (.cells #[x', y', z'] 42)) := by
  have e : (execOp ρ ⟨d, .buildSlice 40 1 #[(0, t)], ty, ps, af, g⟩).run Ybaz.prog X = (execOp (fun _ => .agg #[x', y', z']) ⟨d, .buildSlice 40 1 #[(0, t)], ty, ps, af, g⟩).run Ybaz.prog X := by
    unfold execOp
    simp only [List.map_toArray, List.map_cons, List.map_nil, h]
  exact e.trans (bs40' d ty ps af g X x' y' z' t)
/-- flatten's own. -/
structure FL (w V : World) (F B Fv : Nat) (p : Bool) (n q : Nat) (a b c : Value) (xs : List Value) : Prop where
  bel : Below w.heap.size w V
  bx : V.rangeAt w.heap.size 0 [a, b, c]
  rs : V.there (w.heap.size + 1) 0 3
  fv : V.rangeAt Fv 0 [.string ⟨#[]⟩, .bool p, .slice (some ⟨B, 0, none⟩) q n]
  ft : V.there Fv 0 3
  own : V.ownsRow w.heap.size 42 3 (.slice (some ⟨B, 0, none⟩) q n) q xs
  gB : w.heap.size + 2 ≤ B
  gF : w.heap.size + 2 ≤ Fv
  hB : B < F
  hF : Fv < F
  ne : B ≠ Fv
  sz : F ≤ V.heap.size
theorem FL.kept {E : Nat → Prop} {w V V' : World} {F B Fv : Nat} {p : Bool} {n q : Nat} {a b c : Value} {xs : List Value} (h : FL w V F B Fv p n q a b c xs) (k : Kept E V V') (hE : ∀ z, E z → F ≤ z) : FL w V' F B Fv p n q a b c xs := by
  have n0 : ∀ z, z < F → ¬ E z := fun z hz he => by have := hE z he; omega
  have h1 := h.gB
  have h2 := h.hB
  exact ⟨h.bel.trans (k.toBelow (fun z hz => n0 z (by omega)) h.bel.size), k.range (n0 _ (by omega)) h.bx, k.there (n0 _ (by omega)) h.rs, k.range (n0 _ h.hF) h.fv, k.there (n0 _ h.hF) h.ft, own_kept h.own k (fun z hz he => by cases hz; exact n0 _ h.hB he), h.gB, h.gF, h.hB, h.hF, h.ne, Nat.le_trans h.sz k.size⟩
theorem range3_2 {V : World} {kb : Nat} {a b c : Value} (h : V.rangeAt kb 0 [a, b, c]) (th : V.there kb 0 3) (v : Value) : (V.setCell ⟨kb, 2, none⟩ v).rangeAt kb 0 [a, b, v] := fun j u hu => by
  rw [Nat.zero_add]
  by_cases ej : j = 2
  · subst ej
    simp at hu
    rw [World.cell?_setCell_same' _ _ _ (by have := (th 2 (by omega)).1; simpa using this), hu]
  · rw [World.cell?_setCell_other _ _ _ _ (fun he => ej (by have h0 := congrArg Addr.off he; simp at h0; exact h0.symm))]
    have := h j u (by
      rw [← hu]
      match j with
      | 0 | 1 => rfl
      | j + 3 => simp)
    simpa using this

set_option maxRecDepth 100000 in
set_option maxHeartbeats 4000000 in
theorem flatten_any : ∀ (d : Nat) (T : PT) (a b c : Value) (w : World), NodeIs w d T a b c → Flat d T →
    Calls Ybaz.prog 9 #[.agg #[a, b, c]] w fun e w' => (∃ a' b' c', e = .returned (.agg #[a', b', c']) ∧ NodeHi w' w.heap.size d T a' b' c') ∧ Below w.heap.size w w'
  | 0, T, a, b, c, w, h, hf => h.elim
  | d + 1, .mk s p none, a, b, c, w, h, hf => by
    obtain ⟨rfl, rfl, rfl⟩ := h
    have hn : s.toList.isEmpty = false := hf
    have B0 := hid (((Below.refl w.heap.size w).alloc (Nat.le_refl _) (.cells #[.string s, .bool p, .slice none 0 0] 42)).alloc (by simp) (.cells #[.string ⟨#[]⟩, .bool false, .slice none 0 0] 42))
    clear hf
    go_enter Ybaz.func9, Ybaz.ntmps9
    go_wp2_with (refine wpList_box_as rfl 42 (.tmp 0) rfl #[.string s, .bool p, .slice none 0 0] rfl (bx42 _ _ _) ?_)
    have r1 := range_new (w.alloc (.cells #[.string s, .bool p, .slice none 0 0] 42)) [.string s, .bool p, .slice none 0 0] 42
    rw [World.size_alloc] at r1
    refine bodyPost_ret (v := .agg #[.string s, .bool p, .slice none 0 0]) (results_cell Ybaz.results9 _ _ _ (b := w.heap.size + 1) (o := 0) rfl ?_) rfl ⟨⟨_, _, _, rfl, rfl, rfl, rfl⟩, ?_⟩
    · exact run_loadVar_mid _ _ _ 42 [.string s, .bool p, .slice none 0 0] _ r1 Ybaz.underlying42 rfl (by kernel_rfl)
    · exact ((Below.refl w.heap.size w).alloc (Nat.le_refl _) _).alloc (by simp) _
  | d + 1, .mk s p (some ks), a, b, c, w, h, hf => by
    obtain ⟨rfl, rfl, hlen, g, o, cap, rfl, hk⟩ := h
    obtain ⟨rfl, hfk, hfs⟩ := hf
    obtain ⟨i42, hi42, hz42, hs42, hb42⟩ := info_parts (show (Ybaz.prog.info? 42).map (fun i => (i.zero, i.size, i.bytes)) = some (some (.agg #[.string ⟨#[]⟩, .bool false, .slice none 0 0]), 3, 48) by kernel_rfl)
    obtain ⟨W0, hW0⟩ : ∃ W0, (w.alloc (.cells #[.string ⟨#[]⟩, .bool p, .slice (some ⟨g, o, none⟩) ks.length cap] 42)).alloc (.cells #[.string ⟨#[]⟩, .bool false, .slice none 0 0] 42) = W0 := ⟨_, rfl⟩
    have hs0 : W0.heap.size = w.heap.size + 2 := by rw [← hW0]; simp only [World.size_alloc]
    have b0 : Below w.heap.size w W0 := by rw [← hW0]; exact ((Below.refl w.heap.size w).alloc (Nat.le_refl _) _).alloc (by simp) _
    have x0 : W0.rangeAt w.heap.size 0 [.string ⟨#[]⟩, .bool p, .slice (some ⟨g, o, none⟩) ks.length cap] := by rw [← hW0]; exact World.rangeAt_alloc (range_new w [.string ⟨#[]⟩, .bool p, .slice (some ⟨g, o, none⟩) ks.length cap] 42) _
    have t0 : W0.there (w.heap.size + 1) 0 3 := by
      have := there_new (w.alloc (.cells #[.string ⟨#[]⟩, .bool p, .slice (some ⟨g, o, none⟩) ks.length cap] 42)) [.string ⟨#[]⟩, .bool false, .slice none 0 0] 42
      rw [World.size_alloc] at this
      rw [← hW0]; exact this
    have c0 : W0.cell? ⟨w.heap.size, 0, none⟩ = some (.string ⟨#[]⟩) := by simpa using x0 0 _ rfl
    have X0 := hid x0
    have T0 := hid t0
    have B0 := hid b0
    have HK := hid hk
    have HFK := hid hfk
    have HFS := hid hfs
    have IH := hid (fun T a b c w => flatten_any d T a b c w)
    clear x0 t0 b0 hk hfk hfs
    go_enter Ybaz.func9, Ybaz.ntmps9
    go_upto_region 1 with (refine wpList_box_as rfl 42 (.tmp 0) rfl #[.string ⟨#[]⟩, .bool p, .slice (some ⟨g, o, none⟩) ks.length cap] rfl (bx42 _ _ _) ?_)
    try rw [hW0]
    clear hW0
    go_upto_region 3 with fail
    clear c0
    refine wp_region_allocs 8 53 (flV id id w.heap.size p (.slice (some ⟨g, o, none⟩) ks.length cap) ks.length) (flO ks.length) flD mixed (by kernel_rfl) rfl (fun j _ blk blk' hk => flLoc _ _ _ _ j blk blk' hk) ?_ ?_
    · intro i o' ho hi blk a x hb hbi h1 h2'
      have rx := range_kept_below hb X0.out
      have x1 : x.cell? ⟨w.heap.size, 1, none⟩ = some (.bool p) := by simpa using rx 1 _ rfl
      have x2 : x.cell? ⟨w.heap.size, 2, none⟩ = some (.slice (some ⟨g, o, none⟩) ks.length cap) := by simpa using rx 2 _ rfl
      match i, ho with
      | 0, ho => cases ho; exact xfield (h2' 1 (by kernel_rfl)) (fa42a _)
      | 1, ho => cases ho; exact xload1 (h1 0 _ 10 rfl rfl (by kernel_rfl)) (load4 x _ _ _ x1)
      | 2, ho => cases ho; exact xfield (h2' 1 (by kernel_rfl)) (fa42b _)
      | 3, ho => cases ho; exact xload1 (h1 2 _ 12 rfl rfl (by kernel_rfl)) (load40 x _ _ _ x2)
      | 4, ho => cases ho; exact xlen Ybaz.underlying40 (h1 3 _ 13 rfl rfl (by kernel_rfl))
      | 5, ho =>
        cases ho
        refine (xmake 42 i42 (.agg #[.string ⟨#[]⟩, .bool false, .slice none 0 0]) 0 ks.length Ybaz.underlying40 hi42 hz42 rfl (h1 4 _ 14 rfl rfl (by kernel_rfl)) (Nat.zero_le _) (by rw [hb42]; omega) (by omega)).trans ?_
        rw [hs42, ← hbi]
        rfl
      | 6, ho =>
        cases ho
        refine xbuild (fun w => ?_)
        have e0 := h1 1 _ 11 rfl rfl (by kernel_rfl)
        have e1 := h1 5 _ 15 rfl rfl (by kernel_rfl)
        simp only [List.map_toArray, List.map_cons, List.map_nil, e0, e1]
        exact bld42 _ _ _ _
      | 7, ho =>
        cases ho
        refine (xalloc al42).trans ?_
        rw [← hbi]
        rfl
      | i + 8, ho => omega
    · intro oz hoz blk x hb hobj hdis
      cases hoz
      simp only [lay, List.take, Act.put, List.setIfInBounds_toArray, List.set_cons_succ, List.set_cons_zero, flV]
      obtain ⟨o5, p5⟩ := hobj 5 _ (by omega) rfl
      obtain ⟨o7, p7⟩ := hobj 7 _ (by omega) rfl
      have hne : blk 5 ≠ blk 7 := hdis 5 7 (by omega) (by omega) (by omega) rfl rfl
      obtain ⟨B, hB⟩ : ∃ B, blk 5 = B := ⟨_, rfl⟩
      obtain ⟨Fv, hFv⟩ : ∃ Fv, blk 7 = Fv := ⟨_, rfl⟩
      rw [hB, hFv] at hne
      rw [hB] at o5 p5
      rw [hFv] at o7 p7
      simp only [hB, hFv]
      rw [hs0] at o5 o7
      have l5 := (Array.getElem?_eq_some_iff.1 p5).1
      have l7 := (Array.getElem?_eq_some_iff.1 p7).1
      have th7 : x.there Fv 0 3 := there_of_block (cs := [.string ⟨#[]⟩, .bool false, .slice none 0 0]) p7
      refine wpList_store_mid rfl 42 _ _ rfl Fv 0 #[.string ⟨#[]⟩, .bool p, .slice (some ⟨B, 0, none⟩) 0 ks.length] rfl rfl th7 (by kernel_rfl) (by simp [Value.oneCell']) ?_
      refine wpList_done ?_
      refine q_as (fun V => FL w V x.heap.size B Fv p ks.length 0 (.string ⟨#[]⟩) (.bool p) (.slice (some ⟨g, o, none⟩) ks.length cap) []) ?_ ?_
      · have k1 : Kept (fun z => z = Fv) x (x.setCells Fv 0 [.string ⟨#[]⟩, .bool p, .slice (some ⟨B, 0, none⟩) 0 ks.length]) := (Kept.refl (fun z => z = Fv) x).setCells (g := Fv) (.inl rfl) _ _
        refine ⟨(B0.out.trans (hb.mono (by omega))).trans (k1.toBelow (fun z hz (he : z = Fv) => by omega) (by have := hb.size; omega)), k1.range (fun (e : w.heap.size = Fv) => by omega) (range_kept_below hb X0.out), k1.there (fun (e : w.heap.size + 1 = Fv) => by omega) (there_kept_below hb T0.out), World.rangeAt_setCells_same _ _ _ _ th7, there_setCells th7 _ _ _, ?_, o5, o7, l5, l7, hne, k1.size⟩
        refine own_kept (w := x) ⟨by simp, .inr ⟨B, ks.length, _, rfl, by omega, p5, Nat.zero_le _, by unfold maxLen; omega, by simp [madeCells], by simp⟩⟩ k1 (fun z hz (he : z = Fv) => by cases hz; exact hne he)
      intro V0 fl0
      obtain ⟨F, hF⟩ : ∃ F, x.heap.size = F := ⟨_, rfl⟩
      rw [hF] at fl0
      have y2 : V0.cell? ⟨w.heap.size, 2, none⟩ = some (.slice (some ⟨g, o, none⟩) ks.length cap) := by simpa using fl0.bx 2 _ rfl
      clear X0 T0 B0 hobj hdis p5 p7 th7 l5 l7 hB hFv hF o5 o7 hb
      go_wp2
      clear y2
      go_loopw [20] (fun i V => ∃ (q : Nat) (xs : List Value), q ≤ ks.length ∧ i = vi q ∧ FL w V F B Fv p ks.length q (.string ⟨#[]⟩) (.bool p) (.slice (some ⟨g, o, none⟩) ks.length cap) xs ∧ (∀ (k : Nat) t, k < q → ks[k]? = some t → ∃ x y z, xs[k * 3]? = some x ∧ xs[k * 3 + 1]? = some y ∧ xs[k * 3 + 2]? = some z ∧ NodeHi V F d t x y z)) (fun i _ => ks.length - (intOf i).toNat)
      case atStart => exact ⟨0, [], Nat.zero_le _, rfl, fl0, fun k t hk => by omega⟩
      case round =>
        obtain ⟨q, xs, hq, rfl, fl, hnd⟩ := hrel
        clear fl0
        by_cases hlt : q < ks.length
        · have hqi : (q : Int) < (ks.length : Int) := by omega
          obtain ⟨t, ht⟩ : ∃ t, ks[q]? = some t := ⟨ks[q], List.getElem?_eq_getElem hlt⟩
          obtain ⟨x, y, z, hr, hn⟩ := HK.out q t ht
          have tmem : t ∈ ks := List.mem_of_getElem? ht
          have kp : Kept (fun _ => False) w wr := ⟨fl.bel.os, fl.bel.tape, fl.bel.output, fl.bel.size, fun i hi _ => fl.bel.block i hi⟩
          have r1 := kp.range (fun h => h) hr
          have d0 : wr.cell? ⟨g, o + q * 3, none⟩ = some x := by simpa using r1 0 _ rfl
          have d1 : wr.cell? ⟨g, o + q * 3 + 1, none⟩ = some y := by simpa using r1 1 _ rfl
          have d2 : wr.cell? ⟨g, o + q * 3 + 2, none⟩ = some z := by simpa using r1 2 _ rfl
          have ox0 := NodeIs.one d t x y z hn
          have FLI := hid fl
          have NDI := hid hnd
          have HN := hid hn
          clear fl hnd hn hr r1 kp
          go_upto_region 7 with ((with_reducible (show wpList _ _ _ (⟨_, .store 42 _ _, _, _, _, _⟩ :: _) _ _)); refine wpList_store_mid rfl 42 _ _ rfl wr.heap.size 0 #[x, y, z] rfl rfl (there_new wr [.string ⟨#[]⟩, .bool false, .slice none 0 0] 42) (by kernel_rfl) (one3 ox0.1 ox0.2.1 ox0.2.2) ?_)
          clear d0 d1 d2
          simp only [Act.put]
          obtain ⟨pv, hpv⟩ : ∃ pv, wr.heap.size = pv := ⟨_, rfl⟩
          refine wp_as (fun V1 => V1.rangeAt pv 0 [x, y, z] ∧ V1.there pv 0 3 ∧ Kept (fun _ => False) wr V1 ∧ pv < V1.heap.size) ?_ ?_
          · rw [hpv]
            have := ((Kept.refl (fun _ => False) wr).alloc (.cells #[.string ⟨#[]⟩, .bool false, .slice none 0 0] 42)).setCells (g := pv) (.inr (by omega)) 0 [x, y, z]
            have hth := there_new wr [.string ⟨#[]⟩, .bool false, .slice none 0 0] 42
            rw [hpv] at hth
            refine ⟨World.rangeAt_setCells_same _ _ _ _ hth, there_setCells hth _ _ _, this, ?_⟩
            have h9 := ((Kept.refl (fun _ => True) (wr.alloc (.cells #[.string ⟨#[]⟩, .bool false, .slice none 0 0] 42))).setCells (g := pv) (.inl trivial) 0 [x, y, z]).size
            rw [World.size_alloc, hpv] at h9
            exact h9
          rintro V1 ⟨rv1, tv1, kv1, lv1⟩
          have hb1 : Below w.heap.size w V1 := FLI.out.bel.trans (kv1.toBelow (fun _ _ h => h) FLI.out.bel.size)
          have IHq := hid (IH.out t x y z V1 (NodeIs.below hb1 d t x y z HN.out) (HFK.out t tmem))
          have RV1 := hid rv1
          have TV1 := hid tv1
          have KV1 := hid kv1
          rw [hpv]
          clear rv1 tv1 kv1 hb1
          go_upto_region 8 with (first
            | ((with_reducible (show wpList _ _ _ (⟨_, .load 42 _, _, _, _, _⟩ :: _) _ _)); refine wpList_load_mid rfl 42 _ rfl pv 0 rfl _ _ RV1.out Ybaz.underlying42 rfl (by kernel_rfl) ?_; simp only [Act.put, List.setIfInBounds_toArray, List.set_cons_succ, List.set_cons_zero])
            | (go_at_call 9; refine IHq.out.mono ?_; rintro e V2 ⟨⟨x', y', z', rfl, hnh⟩, bel2⟩; have NH := hid hnh; have B2 := hid bel2; have ox := NodeIs.one d t x' y' z' (NodeHi.is d t x' y' z' hnh); clear hnh bel2 IHq)
            | ((with_reducible (show wpList _ _ _ (⟨_, .store 42 _ _, _, _, _, _⟩ :: _) _ _)); refine wpList_store_mid rfl 42 _ _ rfl pv 0 #[x', y', z'] rfl rfl (there_kept_below B2.out TV1.out) (by kernel_rfl) (one3 ox.1 ox.2.1 ox.2.2) ?_))
          simp only [Act.put]
          have hFw := FLI.out.sz
          refine wp_as (fun X => X.rangeAt pv 0 [x', y', z'] ∧ FL w X F B Fv p ks.length q (.string ⟨#[]⟩) (.bool p) (.slice (some ⟨g, o, none⟩) ks.length cap) xs ∧ NodeHi X F d t x' y' z' ∧ (∀ (k : Nat) t, k < q → ks[k]? = some t → ∃ x y z, xs[k * 3]? = some x ∧ xs[k * 3 + 1]? = some y ∧ xs[k * 3 + 2]? = some z ∧ NodeHi X F d t x y z)) ?_ ?_
          · have k2 : Kept (fun z => z = pv) V2 (V2.setCells pv 0 [x', y', z']) := (Kept.refl (fun z => z = pv) V2).setCells (g := pv) (.inl rfl) _ _
            have k3 : Kept (fun _ => False) wr (V2.setCells pv 0 [x', y', z']) := Kept.thn (KV1.out.trans (Kept.ofBelow B2.out)) k2 (fun c hc (he : c = pv) => by omega)
            refine ⟨World.rangeAt_setCells_same _ _ _ _ (there_kept_below B2.out TV1.out), FLI.out.kept k3 (fun _ h => h.elim), NodeHi.mono (F := V1.heap.size) (F' := F) (by have := KV1.out.size; omega) d _ _ _ _ (NodeHi.kept k2 (fun c (hc : c = pv) => by omega) d _ _ _ _ NH.out), fun k t' hk ht' => ?_⟩
            obtain ⟨a1, a2, a3, g1, g2, g3, g4⟩ := NDI.out k t' hk ht'
            exact ⟨a1, a2, a3, g1, g2, g3, NodeHi.kept k3 (fun _ h => h.elim) d _ _ _ _ g4⟩
          rintro X ⟨rx, fx, nx, ndx⟩
          have m1 : X.cell? ⟨w.heap.size, 1, none⟩ = some (.bool p) := by simpa using fx.bx 1 _ rfl
          have m2 := range_cell fx.fv (j := 2) rfl
          rw [Nat.zero_add] at m2
          have m3 := range_cell rx (j := 0) rfl
          rw [Nat.zero_add] at m3
          have hxs : p = false → ∃ s', x' = .string s' ∧ s'.toList.isEmpty = false := fun hp => by
            obtain ⟨s', p', rfl, hs'⟩ := HFS.out hp t tmem
            cases d with
            | zero => exact nx.elim
            | succ d => exact ⟨s', nx.1, hs'⟩
          have RX := hid rx
          have FX := hid fx
          have NX := hid nx
          have NDX := hid ndx
          clear rx fx nx ndx FLI NDI NH B2 RV1 TV1 KV1 HN
          cases p
          · obtain ⟨s', hxe, hs'⟩ := hxs rfl
            rw [hxe] at m3
            clear hxs hxe
            go_upto_region 10 with fail
            go_wp2_with (first
              | ((with_reducible (show wpList _ _ _ (⟨_, .load 42 _, _, _, _, _⟩ :: _) _ _)); refine wpList_load_mid rfl 42 _ rfl pv 0 rfl _ _ RX.out Ybaz.underlying42 rfl (by kernel_rfl) ?_; simp only [Act.put, List.setIfInBounds_toArray, List.set_cons_succ, List.set_cons_zero])
              | ((with_reducible (show wpList _ _ _ (⟨_, .buildSlice 40 _ _, _, _, _, _⟩ :: _) _ _)); refine wpList_buildSliceAs rfl 40 1 _ rfl (.slice (some ⟨X.heap.size, 0, none⟩) 1 1) (X.alloc (.cells #[x', y', z'] 42)) (bs40 _ rfl) ?_)
              | (at_builtin; refine wpList_append_fits _ rfl (.tmp 46) (.tmp 48) 40 rfl w.heap.size 42 i42 3 Ybaz.underlying40 hi42 hs42 B q ks.length xs rfl (own_kept FX.out.own ((Kept.refl (fun _ => False) X).alloc _) (fun _ _ h => h)) ⟨X.heap.size, 0, none⟩ 1 1 [x', y', z'] rfl rfl (news3 X x' y' z' 42) (fun u hu => by simp only [List.mem_cons, List.not_mem_nil, or_false] at hu; rcases hu with rfl | rfl | rfl; exact ox.1; exact ox.2.1; exact ox.2.2) (by omega) ?_; intro w1 own1 grow1; have kA : Kept (fun z => z = B) X w1 := ((Kept.refl (fun z => z = B) X).alloc (.cells #[x', y', z'] 42)).grown grow1 (fun k hk => (by cases hk; exact .inl rfl)); have f1 := range_cell (kA.range (Ne.symm FX.out.ne) FX.out.fv) (j := 2) rfl; rw [Nat.zero_add] at f1; have f2 := (kA.there (Ne.symm FX.out.ne) FX.out.ft 2 (by omega)).2; rw [Nat.zero_add] at f2; have OW := hid own1; have KA := hid kA; clear own1 grow1 kA))
            go_roundw
            case rel =>
              have hlx : xs.length = q * 3 := FX.out.own.1
              have hBF := FX.out.hB
              have hFF := FX.out.hF
              have hgB := FX.out.gB
              have hgF := FX.out.gF
              have kB : Kept (fun z => z = B ∨ z = Fv) X (w1.setCell ⟨Fv, 2, none⟩ (.slice (some ⟨B, 0, none⟩) (q + 1) ks.length)) := (KA.out.weak (E' := fun z => z = B ∨ z = Fv) (fun _ _ h => .inl h)).setCell (p := ⟨Fv, 2, none⟩) (.inl (.inr rfl)) _
              have kF : Kept (fun z => z = Fv) w1 (w1.setCell ⟨Fv, 2, none⟩ (.slice (some ⟨B, 0, none⟩) (q + 1) ks.length)) := (Kept.refl (fun z => z = Fv) w1).setCell (p := ⟨Fv, 2, none⟩) (.inl rfl) _
              refine ⟨q + 1, xs ++ [x', y', z'], by omega, by go_num, ⟨FX.out.bel.trans (kB.toBelow (fun z hz he => by rcases he with he | he <;> omega) FX.out.bel.size), kB.range (fun he => by rcases he with he | he <;> omega) FX.out.bx, kB.there (fun he => by rcases he with he | he <;> omega) FX.out.rs, range3_2 (KA.out.range (Ne.symm FX.out.ne) FX.out.fv) (KA.out.there (Ne.symm FX.out.ne) FX.out.ft) _, there_setCell (KA.out.there (Ne.symm FX.out.ne) FX.out.ft) _ _, own_kept OW.out kF (fun z hz (he : z = Fv) => by cases hz; exact FX.out.ne he), FX.out.gB, FX.out.gF, FX.out.hB, FX.out.hF, FX.out.ne, Nat.le_trans FX.out.sz kB.size⟩, fun k t' hk ht' => ?_⟩
              have hE : ∀ z, z = B ∨ z = Fv → z < F := fun z hz => by rcases hz with rfl | rfl <;> assumption
              by_cases e : k = q
              · subst e
                rw [ht] at ht'
                cases ht'
                refine ⟨x', y', z', ?_, ?_, ?_, NodeHi.kept kB hE d _ _ _ _ NX.out⟩
                · rw [List.getElem?_append_right (by omega), hlx, Nat.sub_self]; rfl
                · rw [List.getElem?_append_right (by omega), hlx, Nat.add_sub_cancel_left]; rfl
                · rw [List.getElem?_append_right (by omega), hlx, Nat.add_sub_cancel_left]; rfl
              · obtain ⟨a1, a2, a3, g1, g2, g3, g4⟩ := NDX.out k t' (by omega) ht'
                exact ⟨a1, a2, a3, by rw [List.getElem?_append_left (by omega)]; exact g1, by rw [List.getElem?_append_left (by omega)]; exact g2, by rw [List.getElem?_append_left (by omega)]; exact g3, NodeHi.kept kB hE d _ _ _ _ g4⟩
            case measure => simp [intOf]; omega

          · clear hxs
            go_upto_region 10 with fail
            go_wp2_with (first
              | ((with_reducible (show wpList _ _ _ (⟨_, .load 42 _, _, _, _, _⟩ :: _) _ _)); refine wpList_load_mid rfl 42 _ rfl pv 0 rfl _ _ RX.out Ybaz.underlying42 rfl (by kernel_rfl) ?_; simp only [Act.put, List.setIfInBounds_toArray, List.set_cons_succ, List.set_cons_zero])
              | ((with_reducible (show wpList _ _ _ (⟨_, .buildSlice 40 _ _, _, _, _, _⟩ :: _) _ _)); refine wpList_buildSliceAs rfl 40 1 _ rfl (.slice (some ⟨X.heap.size, 0, none⟩) 1 1) (X.alloc (.cells #[x', y', z'] 42)) (bs40 _ rfl) ?_)
              | (at_builtin; refine wpList_append_fits _ rfl (.tmp 46) (.tmp 48) 40 rfl w.heap.size 42 i42 3 Ybaz.underlying40 hi42 hs42 B q ks.length xs rfl (own_kept FX.out.own ((Kept.refl (fun _ => False) X).alloc _) (fun _ _ h => h)) ⟨X.heap.size, 0, none⟩ 1 1 [x', y', z'] rfl rfl (news3 X x' y' z' 42) (fun u hu => by simp only [List.mem_cons, List.not_mem_nil, or_false] at hu; rcases hu with rfl | rfl | rfl; exact ox.1; exact ox.2.1; exact ox.2.2) (by omega) ?_; intro w1 own1 grow1; have kA : Kept (fun z => z = B) X w1 := ((Kept.refl (fun z => z = B) X).alloc (.cells #[x', y', z'] 42)).grown grow1 (fun k hk => (by cases hk; exact .inl rfl)); have f1 := range_cell (kA.range (Ne.symm FX.out.ne) FX.out.fv) (j := 2) rfl; rw [Nat.zero_add] at f1; have f2 := (kA.there (Ne.symm FX.out.ne) FX.out.ft 2 (by omega)).2; rw [Nat.zero_add] at f2; have OW := hid own1; have KA := hid kA; clear own1 grow1 kA))
            go_roundw
            case rel =>
              have hlx : xs.length = q * 3 := FX.out.own.1
              have hBF := FX.out.hB
              have hFF := FX.out.hF
              have hgB := FX.out.gB
              have hgF := FX.out.gF
              have kB : Kept (fun z => z = B ∨ z = Fv) X (w1.setCell ⟨Fv, 2, none⟩ (.slice (some ⟨B, 0, none⟩) (q + 1) ks.length)) := (KA.out.weak (E' := fun z => z = B ∨ z = Fv) (fun _ _ h => .inl h)).setCell (p := ⟨Fv, 2, none⟩) (.inl (.inr rfl)) _
              have kF : Kept (fun z => z = Fv) w1 (w1.setCell ⟨Fv, 2, none⟩ (.slice (some ⟨B, 0, none⟩) (q + 1) ks.length)) := (Kept.refl (fun z => z = Fv) w1).setCell (p := ⟨Fv, 2, none⟩) (.inl rfl) _
              refine ⟨q + 1, xs ++ [x', y', z'], by omega, by go_num, ⟨FX.out.bel.trans (kB.toBelow (fun z hz he => by rcases he with he | he <;> omega) FX.out.bel.size), kB.range (fun he => by rcases he with he | he <;> omega) FX.out.bx, kB.there (fun he => by rcases he with he | he <;> omega) FX.out.rs, range3_2 (KA.out.range (Ne.symm FX.out.ne) FX.out.fv) (KA.out.there (Ne.symm FX.out.ne) FX.out.ft) _, there_setCell (KA.out.there (Ne.symm FX.out.ne) FX.out.ft) _ _, own_kept OW.out kF (fun z hz (he : z = Fv) => by cases hz; exact FX.out.ne he), FX.out.gB, FX.out.gF, FX.out.hB, FX.out.hF, FX.out.ne, Nat.le_trans FX.out.sz kB.size⟩, fun k t' hk ht' => ?_⟩
              have hE : ∀ z, z = B ∨ z = Fv → z < F := fun z hz => by rcases hz with rfl | rfl <;> assumption
              by_cases e : k = q
              · subst e
                rw [ht] at ht'
                cases ht'
                refine ⟨x', y', z', ?_, ?_, ?_, NodeHi.kept kB hE d _ _ _ _ NX.out⟩
                · rw [List.getElem?_append_right (by omega), hlx, Nat.sub_self]; rfl
                · rw [List.getElem?_append_right (by omega), hlx, Nat.add_sub_cancel_left]; rfl
                · rw [List.getElem?_append_right (by omega), hlx, Nat.add_sub_cancel_left]; rfl
              · obtain ⟨a1, a2, a3, g1, g2, g3, g4⟩ := NDX.out k t' (by omega) ht'
                exact ⟨a1, a2, a3, by rw [List.getElem?_append_left (by omega)]; exact g1, by rw [List.getElem?_append_left (by omega)]; exact g2, by rw [List.getElem?_append_left (by omega)]; exact g3, NodeHi.kept kB hE d _ _ _ _ g4⟩
            case measure => simp [intOf]; omega

        · obtain rfl : q = ks.length := by omega
          have RF := hid fl.fv
          have TR := hid fl.rs
          have FLI := hid fl
          have NDI := hid hnd
          clear fl hnd
          go_wp2_with (first
            | ((with_reducible (show wpList _ _ _ (⟨_, .load 42 _, _, _, _, _⟩ :: _) _ _)); refine wpList_load_mid rfl 42 _ rfl Fv 0 rfl _ _ RF.out Ybaz.underlying42 rfl (by kernel_rfl) ?_; simp only [Act.put, List.setIfInBounds_toArray, List.set_cons_succ, List.set_cons_zero])
            | ((with_reducible (show wpList _ _ _ (⟨_, .store 42 _ _, _, _, _, _⟩ :: _) _ _)); refine wpList_store_mid rfl 42 _ _ rfl (w.heap.size + 1) 0 #[.string ⟨#[]⟩, .bool p, .slice (some ⟨B, 0, none⟩) ks.length ks.length] rfl rfl TR.out (by kernel_rfl) (by simp [Value.oneCell']) ?_))
          have hgB := FLI.out.gB
          have hBF := FLI.out.hB
          have k3 : Kept (fun z => z = w.heap.size + 1) wr (wr.setCells (w.heap.size + 1) 0 [.string ⟨#[]⟩, .bool p, .slice (some ⟨B, 0, none⟩) ks.length ks.length]) := (Kept.refl (fun z => z = w.heap.size + 1) wr).setCells (g := w.heap.size + 1) (.inl rfl) _ _
          refine bodyPost_ret (v := .agg #[.string ⟨#[]⟩, .bool p, .slice (some ⟨B, 0, none⟩) ks.length ks.length]) (results_cell Ybaz.results9 _ _ _ (b := w.heap.size + 1) (o := 0) rfl ?_) rfl ⟨⟨_, _, _, rfl, rfl, rfl, hlen, B, 0, ks.length, by omega, rfl, fun k t hk => ?_⟩, ?_⟩
          · exact run_loadVar_mid _ _ _ 42 [.string ⟨#[]⟩, .bool p, .slice (some ⟨B, 0, none⟩) ks.length ks.length] _ (World.rangeAt_setCells_same _ _ _ _ TR.out) Ybaz.underlying42 rfl (by kernel_rfl)
          · have hkl : k < ks.length := (List.getElem?_eq_some_iff.1 hk).1
            obtain ⟨a1, a2, a3, g1, g2, g3, g4⟩ := NDI.out k t hkl hk
            have hcl : ∀ j u, xs[j]? = some u → wr.cell? ⟨B, j, none⟩ = some u := fun j u hu => by
              have := World.ownsRow.cells FLI.out.own (g := B) rfl j u hu
              have hadd : (⟨B, 0, none⟩ : Addr).add j = ⟨B, j, none⟩ := by unfold Addr.add; split <;> simp_all
              rwa [hadd] at this
            refine ⟨a1, a2, a3, k3.range (fun (e : B = w.heap.size + 1) => by omega) (fun j u hu => ?_), NodeHi.mono (by omega) d _ _ _ _ (NodeHi.kept k3 (fun c (hc : c = w.heap.size + 1) => by omega) d _ _ _ _ g4)⟩
            rw [Nat.zero_add]
            match j, hu with
            | 0, hu => simp at hu; subst hu; exact hcl _ _ g1
            | 1, hu => simp at hu; subst hu; exact hcl _ _ g2
            | 2, hu => simp at hu; subst hu; exact hcl _ _ g3
            | j + 3, hu => simp at hu
          · exact FLI.out.bel.trans (k3.toBelow (fun z hz (he : z = w.heap.size + 1) => by omega) FLI.out.bel.size)
end Go.Proofs.YbulkdsicGreat
