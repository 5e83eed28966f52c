import Derived.Test.YbulkdsicGreatChain
import Derived.Test.YbulkdsicGreatGrp
set_option linter.unusedVariables false
set_option linter.unusedSimpArgs false
namespace Go.Proofs.YbulkdsicGreat
open Go.RowKit Go.Shelf

set_option maxRecDepth 100000 in
set_option maxHeartbeats 2000000 in
theorem chain_many2 (Gb bs cs n bi oi ci m : Nat) (id : Nat → Nat) (nm : Nat → ByteArray) (w : World) (hn : n ≤ 300) (h2 : 2 ≤ m) (hm : m ≤ 300) (hid' : ∀ j, j < m → id j < n) (h : Names w Gb bs cs n nm) (hi : ∀ j, j < m → w.cell? ⟨bi, oi + j, none⟩ = some (vi (id j))) :
    Calls Ybaz.prog 5 #[.pointer (some ⟨Gb, 0, none⟩), sl bi oi m ci] w fun e w' => (∃ b, e = .returned (.agg #[.string ⟨#[]⟩, .bool false, sl b 0 m m]) ∧ w.heap.size ≤ b ∧ ∀ j, j < m → w'.rangeAt b (j * 3) (leafC (nm (id j)))) ∧ Below w.heap.size w w' := by
  obtain ⟨i42, hi42, hz42, hs42, hb42⟩ := info_parts (show (Ybaz.prog.info? 42).map (fun i => (i.zero, i.size, i.bytes)) = some (some (.agg #[.string ⟨#[]⟩, .bool false, .slice none 0 0]), 3, 48) by kernel_rfl)
  have lf0 : LF w ((w.alloc (.cells #[.string ⟨#[]⟩, .bool false, .slice none 0 0] 42)).alloc (.cells (madeCells #[.string ⟨#[]⟩, .bool false, .slice none 0 0] (m * 3)) 42)) (w.heap.size + 1) m 0 (fun j => nm (id j)) := by
    refine ⟨((Below.refl w.heap.size w).alloc (Nat.le_refl _) _).alloc (by simp) _, ?_, fun j hj => by omega, ?_, by omega⟩
    · have := made_there (w.alloc (.cells #[.string ⟨#[]⟩, .bool false, .slice none 0 0] 42)) #[.string ⟨#[]⟩, .bool false, .slice none 0 0] (m * 3) 42
      rwa [World.size_alloc] at this
    · exact World.there_alloc (there_new w [.string ⟨#[]⟩, .bool false, .slice none 0 0] 42) _
  have L0 := hid lf0
  have HN := hid h
  have HI := hid hi
  have HD := hid hid'
  have hne : ((m : Int) == 1) = false := by
    have : ¬ ((m : Int) = 1) := by omega
    simpa using this
  clear lf0 h hi hid'
  go_enter Ybaz.func5, Ybaz.ntmps5
  go_wp2_with (at_make; refine wpList_make_as rfl (.tmp 23) (.tmp 23) 40 rfl 42 i42 (.agg #[.string ⟨#[]⟩, .bool false, .slice none 0 0]) m Ybaz.underlying40 hi42 hz42 rfl rfl (by rw [hb42]; omega) (by omega) ?_)
  refine wp_as (fun W => LF w W (w.heap.size + 1) m 0 (fun j => nm (id j))) L0.out ?_
  intro W0 lf0
  clear L0
  go_loopw [27] (fun x W => ∃ q : Nat, q ≤ m ∧ x = vi q ∧ LF w W (w.heap.size + 1) m q (fun j => nm (id j))) (fun x _ => m - (intOf x).toNat)
  case atStart => exact ⟨0, Nat.zero_le _, rfl, lf0⟩
  case round =>
    obtain ⟨q, hq, rfl, lq⟩ := hrel
    clear lf0
    by_cases hlt : q < m
    · have hli : (q : Int) < (m : Int) := by omega
      have kp : Kept (fun _ => False) w wr := ⟨lq.bel.os, lq.bel.tape, lq.bel.output, lq.bel.size, fun i hi _ => lq.bel.block i hi⟩
      have hx := HD.out q hlt
      have hxi : (id q : Int) < (n : Int) := by omega
      have c0 := kp.cell (fun h => h) HN.out.f2
      have c1 := kp.cell (p := ⟨bs, id q * 4, none⟩) (fun h => h) (HN.out.at' (id q) hx)
      have c2 := kp.cell (p := ⟨bi, oi + q, none⟩) (fun h => h) (HI.out q hlt)
      have LQ := hid lq
      clear lq kp
      go_wp2_with (show wpList _ _ _ (⟨_, .store 42 _ _, _, _, _, _⟩ :: _) _ _; refine wpList_store_mid rfl 42 _ _ rfl (w.heap.size + 1) (q * 3) #[.string (nm (id q)), .bool false, .slice none 0 0] (by rw [← Nat.zero_add (q * 3)]; rfl) rfl (there_part LQ.out.room (by omega) (by simp; omega)) (by kernel_rfl) (by simp [Value.oneCell']) ?_)
      exact ⟨⟨q + 1, by omega, by go_num, LQ.out.step hlt⟩, by simp [intOf]; omega⟩
    · obtain rfl : q = m := by omega
      have LQ := hid lq
      clear lq
      go_wp2_with (show wpList _ _ _ (⟨_, .store 42 _ _, _, _, _, _⟩ :: _) _ _; refine wpList_store_mid rfl 42 _ _ rfl w.heap.size 0 #[.string ⟨#[]⟩, .bool false, sl (w.heap.size + 1) 0 q q] rfl rfl LQ.out.res (by kernel_rfl) (by simp [Value.oneCell']) ?_)
      refine bodyPost_ret (v := .agg #[.string ⟨#[]⟩, .bool false, sl (w.heap.size + 1) 0 q q]) (results_cell Ybaz.results5 _ _ _ (b := w.heap.size) (o := 0) rfl ?_) rfl ⟨⟨w.heap.size + 1, rfl, by omega, fun j hj => ?_⟩, ?_⟩
      · exact run_loadVar_mid _ _ _ 42 [.string ⟨#[]⟩, .bool false, sl (w.heap.size + 1) 0 q q] _ (World.rangeAt_setCells_same _ _ _ _ LQ.out.res) Ybaz.underlying42 rfl (by kernel_rfl)
      · exact World.rangeAt_setCells_apart (LQ.out.at' j hj) _ _ _ (.inl (by omega))
      · exact below_setCells LQ.out.bel (Nat.le_refl _) _ _

/-- A chain's node. -/
theorem chain_any (Gb bs cs n bi oi ci : Nat) (L : List Nat) (nm : Nat → ByteArray) (w : World) (hn : n ≤ 300) (h1 : 0 < L.length) (hm : L.length ≤ 300) (hL : ∀ j x : Nat, L[j]? = some x → x < n) (h : Names w Gb bs cs n nm) (hi : ∀ j x : Nat, L[j]? = some x → w.cell? ⟨bi, oi + j, none⟩ = some (vi x)) :
    Calls Ybaz.prog 5 #[.pointer (some ⟨Gb, 0, none⟩), sl bi oi L.length ci] w fun e w' => (∃ a b c, e = .returned (.agg #[a, b, c]) ∧ NodeHi w' w.heap.size 2 (chT nm L) a b c) ∧ Below w.heap.size w w' := by
  have hget : ∀ j, j < L.length → L[j]? = some (L.getD j 0) := fun j hj => by
    rw [List.getD_eq_getElem?_getD, List.getElem?_eq_getElem hj]; rfl
  by_cases e : L.length = 1
  · rw [e]
    refine (chain_one Gb bs cs n bi oi ci (L.getD 0 0) nm w hn (hL 0 _ (hget 0 h1)) h (by simpa using hi 0 _ (hget 0 h1))).mono ?_
    rintro e' w' ⟨rfl, hb⟩
    refine ⟨⟨_, _, _, rfl, ?_⟩, hb⟩
    unfold chT
    rw [if_pos e]
    exact ⟨rfl, rfl, rfl⟩
  · refine (chain_many2 Gb bs cs n bi oi ci L.length (fun j => L.getD j 0) nm w hn (by omega) hm (fun j hj => hL j _ (hget j hj)) h (fun j hj => hi j _ (hget j hj))).mono ?_
    rintro e' w' ⟨⟨b, rfl, hb1, hr⟩, hb⟩
    refine ⟨⟨_, _, _, rfl, ?_⟩, hb⟩
    unfold chT
    rw [if_neg e]
    refine ⟨rfl, rfl, by simpa using hm, b, 0, L.length, hb1, by simp, fun k t hk => ?_⟩
    rw [List.getElem?_map] at hk
    obtain ⟨x, hx, rfl⟩ := Option.map_eq_some_iff.1 hk
    have hkl := (List.getElem?_eq_some_iff.1 hx).1
    have := hr k hkl
    rw [hget k hkl] at hx
    cases hx
    exact ⟨_, _, _, by rw [Nat.zero_add]; exact this, rfl, rfl, rfl⟩
end Go.Proofs.YbulkdsicGreat
