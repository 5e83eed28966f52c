import Derived.Test.YbulkdsicGreatEq
set_option linter.unusedVariables false
set_option linter.unusedSimpArgs false
namespace Go.Proofs.YbulkdsicGreat
open Go.RowKit Go.Shelf

/-- The registry's services, as far as their names are asked. -/
structure Names (W : World) (Gb bs cs n : Nat) (nm : Nat → ByteArray) : Prop where
  f2 : W.cell? ⟨Gb, 2, none⟩ = some (sl bs 0 n cs)
  at' : ∀ k, k < n → W.cell? ⟨bs, k * 4, none⟩ = some (.string (nm k))
theorem Names.below {W W' : World} {Gb bs cs n : Nat} {nm : Nat → ByteArray} (h : Names W Gb bs cs n nm) (b : Below W.heap.size W W') : Names W' Gb bs cs n nm :=
  ⟨(Kept.ofBelow (E := fun _ => False) b).cell (fun h => h) h.f2, fun k hk => (Kept.ofBelow (E := fun _ => False) b).cell (p := ⟨bs, k * 4, none⟩) (fun h => h) (h.at' k hk)⟩
abbrev leafC (s : ByteArray) : List Value := [.string s, .bool false, .slice none 0 0]

set_option maxRecDepth 100000 in
set_option maxHeartbeats 1000000 in
theorem chain_one (Gb bs cs n bi oi ci x : Nat) (nm : Nat → ByteArray) (w : World) (hn : n ≤ 300) (hx : x < n) (h : Names w Gb bs cs n nm) (hi : w.cell? ⟨bi, oi, none⟩ = some (vi x)) :
    Calls Ybaz.prog 5 #[.pointer (some ⟨Gb, 0, none⟩), sl bi oi 1 ci] w fun e w' => e = .returned (.agg #[.string (nm x), .bool false, .slice none 0 0]) ∧ Below w.heap.size w w' := by
  have k0 : Kept (fun _ => False) w (w.alloc (.cells #[.string ⟨#[]⟩, .bool false, .slice none 0 0] 42)) := (Kept.refl _ w).alloc _
  have c0 := k0.cell (fun h => h) h.f2
  have c1 := k0.cell (p := ⟨bs, x * 4, none⟩) (fun h => h) (h.at' x hx)
  have c2 := k0.cell (p := ⟨bi, oi, none⟩) (fun h => h) hi
  have hxi : (x : Int) < (n : Int) := by omega
  have B0 := hid ((Below.refl w.heap.size w).alloc (Nat.le_refl _) (.cells #[.string ⟨#[]⟩, .bool false, .slice none 0 0] 42))
  have th := there_new w [.string ⟨#[]⟩, .bool false, .slice none 0 0] 42
  clear h hi k0
  go_enter Ybaz.func5, Ybaz.ntmps5
  go_wp2
  obtain ⟨W, hW⟩ : ∃ W, w.alloc (.cells #[.string ⟨#[]⟩, .bool false, .slice none 0 0] 42) = W := ⟨_, rfl⟩
  have hW' : w.alloc (.cells [Value.string ⟨#[]⟩, .bool false, .slice none 0 0].toArray 42) = W := hW
  rw [hW'] at th
  rw [hW] at c0 c1 c2 B0 ⊢
  have TH := hid th
  clear th
  refine wp_region_quiet_tail 11 (fun w' => ∃ nq, w' = W.drewN nq) mixed (by kernel_rfl) ⟨1, rfl⟩ ?_
  dsimp only [List.take, List.drop]
  repeat go_big_quiet_step (fail)
  refine wpQuiet_nil ?_
  rintro _ ⟨nq, rfl⟩
  refine wpList_store_mid rfl 42 _ _ rfl w.heap.size 0 #[.string (nm x), .bool false, .slice none 0 0] rfl rfl TH.out (by kernel_rfl) (by simp [Value.oneCell']) ?_
  go_wp2
  refine bodyPost_ret (v := .agg #[.string (nm x), .bool false, .slice none 0 0]) (results_cell Ybaz.results5 _ _ _ (b := w.heap.size) (o := 0) rfl ?_) rfl ⟨rfl, ?_⟩
  · exact run_loadVar_mid _ _ _ 42 [.string (nm x), .bool false, .slice none 0 0] _ (World.rangeAt_setCells_same _ _ _ _ TH.out) Ybaz.underlying42 rfl (by kernel_rfl)
  · have b1 : Below w.heap.size w (W.drewN nq) := B0.out.trans ⟨rfl, rfl, rfl, Nat.le_refl _, fun _ _ => rfl⟩
    exact below_setCells b1 (Nat.le_refl _) _ _

def leafT (s : ByteArray) : PT := .mk s false none
theorem made_there (w : World) (z : Array Value) (n : Nat) (t : TypeId) : (w.alloc (.cells (madeCells z n) t)).there w.heap.size 0 n := fun j hj => by
  rw [Nat.zero_add, World.cell?_alloc_new, World.frozen?_alloc_new]
  refine ⟨?_, rfl⟩
  simp [madeCells, hj]
/-- A row of leaves, the first q laid. -/
structure LF (w W : World) (P m q : Nat) (nm : Nat → ByteArray) : Prop where
  bel : Below w.heap.size w W
  room : W.there P 0 (m * 3)
  at' : ∀ j, j < q → W.rangeAt P (j * 3) (leafC (nm j))
  res : W.there w.heap.size 0 3
  ge : w.heap.size + 1 ≤ P
theorem LF.step {w W : World} {P m q : Nat} {nm : Nat → ByteArray} (h : LF w W P m q nm) (hq : q < m) : LF w (W.setCells P (q * 3) (leafC (nm q))) P m (q + 1) nm := by
  refine ⟨below_setCells h.bel (by have := h.ge; omega) _ _, World.there_setCells h.room _ _ _, fun j hj => ?_, World.there_setCells h.res _ _ _, h.ge⟩
  rcases Nat.lt_or_ge j q with h1 | h1
  · exact World.rangeAt_setCells_apart (h.at' j h1) _ _ _ (.inr (.inl (by simp; omega)))
  · obtain rfl : j = q := by omega
    exact World.rangeAt_setCells_same _ _ _ _ (there_part h.room (by omega) (by simp; omega))

set_option maxRecDepth 100000 in
set_option maxHeartbeats 2000000 in
theorem chain_many (Gb bs cs n bi oi ci m : Nat) (id : Nat → Nat) (nm : Nat → ByteArray) (w : World) (hn : n ≤ 300) (h2 : 2 ≤ m) (hm : m ≤ 300) (hid' : ∀ j, j < m → id j < n) (h : Names w Gb bs cs n nm) (hi : ∀ j, j < m → w.cell? ⟨bi, oi + j, none⟩ = some (vi (id j))) :
    Calls Ybaz.prog 5 #[.pointer (some ⟨Gb, 0, none⟩), sl bi oi m ci] w fun e w' => (∃ b, e = .returned (.agg #[.string ⟨#[]⟩, .bool false, sl b 0 m m]) ∧ ∀ j, j < m → w'.rangeAt b (j * 3) (leafC (nm (id j)))) ∧ Below w.heap.size w w' := by
  obtain ⟨i42, hi42, hz42, hs42, hb42⟩ := info_parts (show (Ybaz.prog.info? 42).map (fun i => (i.zero, i.size, i.bytes)) = some (some (.agg #[.string ⟨#[]⟩, .bool false, .slice none 0 0]), 3, 48) by kernel_rfl)
  have lf0 : LF w ((w.alloc (.cells #[.string ⟨#[]⟩, .bool false, .slice none 0 0] 42)).alloc (.cells (madeCells #[.string ⟨#[]⟩, .bool false, .slice none 0 0] (m * 3)) 42)) (w.heap.size + 1) m 0 (fun j => nm (id j)) := by
    refine ⟨((Below.refl w.heap.size w).alloc (Nat.le_refl _) _).alloc (by simp) _, ?_, fun j hj => by omega, ?_, by omega⟩
    · have := made_there (w.alloc (.cells #[.string ⟨#[]⟩, .bool false, .slice none 0 0] 42)) #[.string ⟨#[]⟩, .bool false, .slice none 0 0] (m * 3) 42
      rwa [World.size_alloc] at this
    · exact World.there_alloc (there_new w [.string ⟨#[]⟩, .bool false, .slice none 0 0] 42) _
  have L0 := hid lf0
  have HN := hid h
  have HI := hid hi
  have HD := hid hid'
  have hne : ((m : Int) == 1) = false := by
    have : ¬ ((m : Int) = 1) := by omega
    simpa using this
  clear lf0 h hi hid'
  go_enter Ybaz.func5, Ybaz.ntmps5
  go_wp2_with (at_make; refine wpList_make_as rfl (.tmp 23) (.tmp 23) 40 rfl 42 i42 (.agg #[.string ⟨#[]⟩, .bool false, .slice none 0 0]) m Ybaz.underlying40 hi42 hz42 rfl rfl (by rw [hb42]; omega) (by omega) ?_)
  refine wp_as (fun W => LF w W (w.heap.size + 1) m 0 (fun j => nm (id j))) L0.out ?_
  intro W0 lf0
  clear L0
  go_loopw [27] (fun x W => ∃ q : Nat, q ≤ m ∧ x = vi q ∧ LF w W (w.heap.size + 1) m q (fun j => nm (id j))) (fun x _ => m - (intOf x).toNat)
  case atStart => exact ⟨0, Nat.zero_le _, rfl, lf0⟩
  case round =>
    obtain ⟨q, hq, rfl, lq⟩ := hrel
    clear lf0
    by_cases hlt : q < m
    · have hli : (q : Int) < (m : Int) := by omega
      have kp : Kept (fun _ => False) w wr := ⟨lq.bel.os, lq.bel.tape, lq.bel.output, lq.bel.size, fun i hi _ => lq.bel.block i hi⟩
      have hx := HD.out q hlt
      have hxi : (id q : Int) < (n : Int) := by omega
      have c0 := kp.cell (fun h => h) HN.out.f2
      have c1 := kp.cell (p := ⟨bs, id q * 4, none⟩) (fun h => h) (HN.out.at' (id q) hx)
      have c2 := kp.cell (p := ⟨bi, oi + q, none⟩) (fun h => h) (HI.out q hlt)
      have LQ := hid lq
      clear lq kp
      go_wp2_with (show wpList _ _ _ (⟨_, .store 42 _ _, _, _, _, _⟩ :: _) _ _; refine wpList_store_mid rfl 42 _ _ rfl (w.heap.size + 1) (q * 3) #[.string (nm (id q)), .bool false, .slice none 0 0] (by rw [← Nat.zero_add (q * 3)]; rfl) rfl (there_part LQ.out.room (by omega) (by simp; omega)) (by kernel_rfl) (by simp [Value.oneCell']) ?_)
      exact ⟨⟨q + 1, by omega, by go_num, LQ.out.step hlt⟩, by simp [intOf]; omega⟩
    · obtain rfl : q = m := by omega
      have LQ := hid lq
      clear lq
      go_wp2_with (show wpList _ _ _ (⟨_, .store 42 _ _, _, _, _, _⟩ :: _) _ _; refine wpList_store_mid rfl 42 _ _ rfl w.heap.size 0 #[.string ⟨#[]⟩, .bool false, sl (w.heap.size + 1) 0 q q] rfl rfl LQ.out.res (by kernel_rfl) (by simp [Value.oneCell']) ?_)
      refine bodyPost_ret (v := .agg #[.string ⟨#[]⟩, .bool false, sl (w.heap.size + 1) 0 q q]) (results_cell Ybaz.results5 _ _ _ (b := w.heap.size) (o := 0) rfl ?_) rfl ⟨⟨w.heap.size + 1, rfl, fun j hj => ?_⟩, ?_⟩
      · exact run_loadVar_mid _ _ _ 42 [.string ⟨#[]⟩, .bool false, sl (w.heap.size + 1) 0 q q] _ (World.rangeAt_setCells_same _ _ _ _ LQ.out.res) Ybaz.underlying42 rfl (by kernel_rfl)
      · exact World.rangeAt_setCells_apart (LQ.out.at' j hj) _ _ _ (.inl (by omega))
      · exact below_setCells LQ.out.bel (Nat.le_refl _) _ _
end Go.Proofs.YbulkdsicGreat
