import Derived.Test.YbulkdsjeGreatDoorNewU
import Derived.Test.YbulkdsjeGreatDoorSmall
import Derived.Test.YbulkdsjeGreatDoorCk
set_option linter.unusedVariables false
set_option linter.unusedSimpArgs false
namespace Go.Proofs.YbulkdsjeGreatDoor
open Go.RowKit

/-- The blocks of the coder: the encoder, the model, its two models of numbers. -/
structure Zs where
  Eb : Nat
  Mb : Nat
  U1 : Nat
  L1 : Nat
  U2 : Nat
  L2 : Nat
/-- What may lie in a cell of the model that is no chance. -/
def MOk (j : Nat) (v : Value) : Prop :=
  if j = 4 ∨ j = 5 ∨ j = 81 then ∃ x : Int, v = ii x
  else if j = 6 then ∃ x : Nat, x ≤ 1 ∧ v = .int .u64 (x : Int)
  else if j = 79 then ∃ p : Nat, p < 23 ∧ v = vi p
  else if j = 82 then ∃ c : Nat, c < 18 ∧ v = vi c
  else if j = 115 then ∃ k : Nat, k ≤ 32 ∧ v = vi k
  else ∃ x : Nat, v = .int .u64 (x : Int)
theorem MOk.ne {j : Nat} {v : Value} (h : MOk j v) (p : Int) : v ≠ .int .i16 p := by
  unfold MOk at h
  intro e
  subst e
  split at h
  · obtain ⟨x, h⟩ := h; cases h
  · split at h
    · obtain ⟨x, _, h⟩ := h; cases h
    · split at h
      · obtain ⟨x, _, h⟩ := h; cases h
      · split at h
        · obtain ⟨x, _, h⟩ := h; cases h
        · split at h
          · obtain ⟨x, _, h⟩ := h; cases h
          · obtain ⟨x, h⟩ := h; cases h
/-- The model in memory. -/
structure MD (U : World) (z : Zs) : Prop where
  fz : ∀ j, j < 466 → U.frozen? ⟨z.Mb, j, none⟩ = false
  c0 : U.cell? ⟨z.Mb, 0, none⟩ = some (.pointer (some ⟨z.U1, 0, none⟩))
  c180 : U.cell? ⟨z.Mb, 180, none⟩ = some (.pointer (some ⟨z.U2, 0, none⟩))
  p1 : PA U z.Mb 1 3
  kd : PA U z.Mb 7 72
  wh : PA U z.Mb 116 64
  p2 : PA U z.Mb 181 156
  sm : PA U z.Mb 337 129
  mi : ∀ j, (4 ≤ j ∧ j ≤ 6) ∨ (79 ≤ j ∧ j ≤ 115) → ∃ v, U.cell? ⟨z.Mb, j, none⟩ = some v ∧ MOk j v
  um1 : UM U z.U1 z.L1 8
  um2 : UM U z.U2 z.L2 18
/-- The coder: the encoder and its model; L bounds what it has put out. -/
structure CD (U : World) (z : Zs) (ov : Value) (L : Nat) : Prop where
  es : ES U z.Eb z.Eb ov L 16777216
  md : MD U z
  gl : GL U
  lo : 3 < z.L1
  o : z.L1 < z.U1 ∧ z.U1 < z.L2 ∧ z.L2 < z.U2 ∧ z.U2 < z.Mb ∧ z.Mb < z.Eb
/-- The blocks that the coder turns. -/
def CE (z : Zs) (ov : Value) (c : Nat) : Prop := c = z.Eb ∨ c = z.Mb ∨ c = z.U1 ∨ c = z.L1 ∨ c = z.U2 ∨ c = z.L2 ∨ ov.ownBlock = some c
/-- The coder has moved on. -/
def CP (U : World) (z : Zs) (ov : Value) (L : Nat) (w' : World) : Prop := ∃ ov', CD w' z ov' L ∧ Kept (CE z ov) U w' ∧ Mv U ov ov'
section
variable {U V : World} {z : Zs} {ov ov' ov1 : Value} {L L' : Nat}
theorem CD.own (h : CD U z ov L) (g : Nat) (hg : ov.ownBlock = some g) : z.Eb < g := by
  obtain ⟨xs, low, rg, cache, pend, st, ex, _⟩ := h.es.ex
  have h1 := ex.ne
  rcases ex.own.2 with ⟨e, _⟩ | ⟨g', cap, cur, e, hb, _⟩
  · rw [e] at hg; cases hg
  · rw [e] at hg h1
    cases hg
    have : g' ≠ z.Eb := fun e => h1 (by rw [← e]; rfl)
    show z.Eb < g'
    omega
theorem PA.lt {b o n : Nat} (h : PA U b o n) (hn : 0 < n) : b < U.heap.size := by
  obtain ⟨p, hp, _⟩ := h 0 hn
  exact World.block_lt_of_cell? U _ hp
theorem MD.lt (h : MD U z) : z.Mb < U.heap.size ∧ z.U1 < U.heap.size ∧ z.L1 < U.heap.size ∧ z.U2 < U.heap.size ∧ z.L2 < U.heap.size :=
  ⟨World.block_lt_of_cell? U _ h.c0, World.block_lt_of_cell? U _ h.um1.len, h.um1.pl.lt (by omega), World.block_lt_of_cell? U _ h.um2.len, h.um2.pl.lt (by omega)⟩
theorem MD.pu (h : MD U z) (k0 : PU z.Mb U V) (k1 : PU z.U1 U V) (k2 : PU z.L1 U V) (k3 : PU z.U2 U V) (k4 : PU z.L2 U V) : MD V z := by
  refine ⟨fun j hj => by rw [(k0 j).1]; exact h.fz j hj, ?_, ?_, h.p1.pu k0, h.kd.pu k0, h.wh.pu k0, h.p2.pu k0, h.sm.pu k0, fun j hj => ?_, h.um1.pu k1 k2, h.um2.pu k3 k4⟩
  · rcases (k0 0).2 with e | ⟨p, p', a1, _⟩
    · rw [e]; exact h.c0
    · rw [h.c0] at a1; cases a1
  · rcases (k0 180).2 with e | ⟨p, p', a1, _⟩
    · rw [e]; exact h.c180
    · rw [h.c180] at a1; cases a1
  · obtain ⟨v, hv, ok⟩ := h.mi j hj
    rcases (k0 j).2 with e | ⟨p, p', a1, _⟩
    · exact ⟨v, by rw [e]; exact hv, ok⟩
    · rw [hv] at a1
      exact absurd (Option.some.inj a1) (ok.ne p)
/-- A step of the coder. -/
theorem CD.step (h : CD U z ov L) {E : Nat → Prop} (es' : ES V z.Eb z.Eb ov' L' 16777216) (k : Kept E U V) (hE : ∀ c, E c → CE z ov c) (mv : Mv U ov ov') (p : ∀ c, E c → c = z.Mb ∨ c = z.U1 ∨ c = z.L1 ∨ c = z.U2 ∨ c = z.L2 → PU c U V) : CP U z ov L' V := by
  obtain ⟨l1, l2, l3, l4, l5⟩ := h.md.lt
  have q : ∀ c, c < U.heap.size → c = z.Mb ∨ c = z.U1 ∨ c = z.L1 ∨ c = z.U2 ∨ c = z.L2 → PU c U V := fun c hc hx => by
    by_cases e : E c
    · exact p c e hx
    · exact PU.kept k e hc
  have g : ∀ c, c ≤ 3 → ¬ E c := fun c hc he => by
    have od := h.o
    have lo := h.lo
    rcases hE c he with e | e | e | e | e | e | e
    · omega
    · omega
    · omega
    · omega
    · omega
    · omega
    · have := h.own c e; omega
  exact ⟨ov', ⟨es', h.md.pu (q _ l1 (.inl rfl)) (q _ l2 (.inr (.inl rfl))) (q _ l3 (.inr (.inr (.inl rfl)))) (q _ l4 (.inr (.inr (.inr (.inl rfl))))) (q _ l5 (.inr (.inr (.inr (.inr rfl))))), h.gl.kept k (g 2 (by omega)) (g 3 (by omega)), h.lo, h.o⟩, k.weak (fun c _ hc => hE c hc), mv⟩
theorem CP.thn {X w' : World} (k : Kept (CE z ov) U X) (mv : Mv U ov ov1) (h : CP X z ov1 L w') : CP U z ov L w' := by
  obtain ⟨ov2, cd, k2, m2⟩ := h
  refine ⟨ov2, cd, Kept.thn' k k2 (fun c hc he => ?_), mv.trans m2 k.size⟩
  rcases he with e | e | e | e | e | e | e
  · exact .inl e
  · exact .inr (.inl e)
  · exact .inr (.inr (.inl e))
  · exact .inr (.inr (.inr (.inl e)))
  · exact .inr (.inr (.inr (.inr (.inl e))))
  · exact .inr (.inr (.inr (.inr (.inr (.inl e)))))
  · rcases mv c e with e | e
    · exact .inr (.inr (.inr (.inr (.inr (.inr e)))))
    · omega
theorem CP.refl (h : CD U z ov L) : CP U z ov L U := ⟨ov, h, Kept.refl _ _, Mv.refl _ _⟩
theorem ES.mono {Eb base r0 : Nat} (h : ES U Eb base ov L r0) (hL : L ≤ L') : ES U Eb base ov L' r0 := by
  obtain ⟨xs, low, rg, cache, pend, st, ex, h1, h2⟩ := h.ex
  exact ⟨xs, low, rg, cache, pend, st, ex, by omega, h2⟩
theorem CD.mono (h : CD U z ov L) (hL : L ≤ L') : CD U z ov L' := ⟨h.es.mono hL, h.md, h.gl, h.lo, h.o⟩
theorem CP.mono {w' : World} (h : CP U z ov L w') (hL : L ≤ L') : CP U z ov L' w' := by
  obtain ⟨ov2, cd, k⟩ := h
  exact ⟨ov2, cd.mono hL, k⟩
/-- Where nothing of the coder has turned. -/
theorem CD.kept {E : Nat → Prop} (h : CD U z ov L) (k : Kept E U V) (hE : ∀ c, CE z ov c → ¬ E c) (hg : ∀ c, c ≤ 3 → ¬ E c) : CD V z ov L := by
  obtain ⟨l1, l2, l3, l4, l5⟩ := h.md.lt
  have n : ∀ c, c = z.Mb ∨ c = z.U1 ∨ c = z.L1 ∨ c = z.U2 ∨ c = z.L2 → ¬ E c := fun c hc => hE c (by rcases hc with e | e | e | e | e <;> simp [CE, e])
  refine ⟨?_, h.md.pu (PU.kept k (n _ (.inl rfl)) l1) (PU.kept k (n _ (.inr (.inl rfl))) l2) (PU.kept k (n _ (.inr (.inr (.inl rfl)))) l3) (PU.kept k (n _ (.inr (.inr (.inr (.inl rfl))))) l4) (PU.kept k (n _ (.inr (.inr (.inr (.inr rfl))))) l5), h.gl.kept k (hg 2 (by omega)) (hg 3 (by omega)), h.lo, h.o⟩
  obtain ⟨xs, low, rg, cache, pend, st, ex, h1⟩ := h.es.ex
  exact ⟨xs, low, rg, cache, pend, st, ex.kept k (hE _ (.inl rfl)) (fun g hg => hE g (by simp [CE, hg])), h1⟩
theorem CD.calm (h : CD U z ov L) (k : Kept (fun _ => False) U V) : CD V z ov L := h.kept k (fun _ _ h => h) (fun _ _ h => h)
/-- The model's own cells turned. -/
theorem CD.cells (h : CD U z ov L) (k : Kept (fun c => c = z.Mb) U V) (hf : ∀ j, V.frozen? ⟨z.Mb, j, none⟩ = U.frozen? ⟨z.Mb, j, none⟩) (hc : ∀ j, V.cell? ⟨z.Mb, j, none⟩ = U.cell? ⟨z.Mb, j, none⟩ ∨ (((4 ≤ j ∧ j ≤ 6) ∨ (79 ≤ j ∧ j ≤ 115)) ∧ ∃ v, V.cell? ⟨z.Mb, j, none⟩ = some v ∧ MOk j v)) : CD V z ov L ∧ Kept (CE z ov) U V := by
  obtain ⟨l1, l2, l3, l4, l5⟩ := h.md.lt
  have od := h.o
  have pa : ∀ o n, PA U z.Mb o n → (∀ j, j < n → ¬ ((4 ≤ o + j ∧ o + j ≤ 6) ∨ (79 ≤ o + j ∧ o + j ≤ 115))) → PA V z.Mb o n := fun o n hp hn j hj => by
    obtain ⟨p, a, b, c⟩ := hp j hj
    rcases hc (o + j) with e | e
    · exact ⟨p, by rw [e]; exact a, b, by rw [hf]; exact c⟩
    · exact absurd e.1 (hn j hj)
  have un : ∀ (x y n : Nat), UM U x y n → x ≠ z.Mb → y ≠ z.Mb → 0 < n → UM V x y n := fun x y n hu hx hy hn => hu.pu (PU.kept k hx (World.block_lt_of_cell? U _ hu.len)) (PU.kept k hy (hu.pl.lt (by omega)))
  refine ⟨⟨?_, ⟨fun j hj => by rw [hf]; exact h.md.fz j hj, ?_, ?_, pa _ _ h.md.p1 (fun j hj => by omega), pa _ _ h.md.kd (fun j hj => by omega), pa _ _ h.md.wh (fun j hj => by omega), pa _ _ h.md.p2 (fun j hj => by omega), pa _ _ h.md.sm (fun j hj => by omega), fun j hj => ?_, un _ _ _ h.md.um1 (by omega) (by omega) (by omega), un _ _ _ h.md.um2 (by omega) (by omega) (by omega)⟩, h.gl.kept k (by have := h.lo; omega) (by have := h.lo; omega), h.lo, h.o⟩, k.weak (fun c _ hc => .inr (.inl hc))⟩
  · obtain ⟨xs, low, rg, cache, pend, st, ex, h1⟩ := h.es.ex
    exact ⟨xs, low, rg, cache, pend, st, ex.kept k (by omega) (fun g hg => by have := h.own g hg; omega), h1⟩
  · rcases hc 0 with e | e
    · rw [e]; exact h.md.c0
    · omega
  · rcases hc 180 with e | e
    · rw [e]; exact h.md.c180
    · omega
  · rcases hc j with e | e
    · rw [e]; exact h.md.mi j hj
    · exact e.2
/-- One cell of the model set. -/
theorem CD.set (h : CD U z ov L) {j : Nat} (hj : (4 ≤ j ∧ j ≤ 6) ∨ (79 ≤ j ∧ j ≤ 115)) {v : Value} (hv : MOk j v) : CD (U.setCell ⟨z.Mb, j, none⟩ v) z ov L ∧ Kept (CE z ov) U (U.setCell ⟨z.Mb, j, none⟩ v) := by
  obtain ⟨u, hu, _⟩ := h.md.mi j hj
  refine h.cells ((Kept.refl (fun c => c = z.Mb) U).setCell (p := ⟨z.Mb, j, none⟩) (.inl rfl) _) (fun _ => World.frozen?_setCell ..) (fun i => ?_)
  by_cases e : i = j
  · subst e
    exact .inr ⟨hj, v, World.cell?_setCell_same' _ _ _ (by rw [hu]; rfl), hv⟩
  · exact .inl (World.cell?_setCell_other _ _ _ _ (fun he => e (by have h0 := congrArg Addr.off he; simp at h0; exact h0.symm)))
theorem CP.set (h : CD U z ov L) {j : Nat} (hj : (4 ≤ j ∧ j ≤ 6) ∨ (79 ≤ j ∧ j ≤ 115)) {v : Value} (hv : MOk j v) : CP U z ov L (U.setCell ⟨z.Mb, j, none⟩ v) := ⟨ov, (h.set hj hv).1, (h.set hj hv).2, Mv.refl _ _⟩
theorem CD.uint1 (h : CD U z ov L) (hL : L + 200 < 1099511627776) {ctx v : Nat} (hc : ctx < 8) (hv : v ≤ 18446744073709551615) : Calls Ybaz.prog 25 #[.pointer (some ⟨z.Eb, 0, none⟩), .pointer (some ⟨z.U1, 0, none⟩), vi ctx, .int .u64 v] U fun e w' => e = .returned (.tuple #[]) ∧ CP U z ov (L + 60) w' := by
  have od := h.o
  refine (uint_any z.Eb z.Eb L z.U1 z.L1 8 ctx v ov U h.es hL h.md.um1 hc (by omega) hv (by omega) (by omega) (fun e => by have := h.own _ e; omega) (fun e => by have := h.own _ e; omega)).mono ?_
  rintro e w' ⟨rfl, ov', es', k, mv, p1, p2⟩
  refine ⟨rfl, h.step es' k (fun c hc => ?_) mv (fun c hc hx => ?_)⟩
  · rcases hc with (e | e) | e | e <;> simp [CE, e]
  · rcases hc with (e | e) | e | e
    · omega
    · have := h.own _ e; omega
    · rw [e]; exact p1
    · rw [e]; exact p2
theorem CD.uint2 (h : CD U z ov L) (hL : L + 200 < 1099511627776) {ctx v : Nat} (hc : ctx < 18) (hv : v ≤ 18446744073709551615) : Calls Ybaz.prog 25 #[.pointer (some ⟨z.Eb, 0, none⟩), .pointer (some ⟨z.U2, 0, none⟩), vi ctx, .int .u64 v] U fun e w' => e = .returned (.tuple #[]) ∧ CP U z ov (L + 60) w' := by
  have od := h.o
  refine (uint_any z.Eb z.Eb L z.U2 z.L2 18 ctx v ov U h.es hL h.md.um2 hc (by omega) hv (by omega) (by omega) (fun e => by have := h.own _ e; omega) (fun e => by have := h.own _ e; omega)).mono ?_
  rintro e w' ⟨rfl, ov', es', k, mv, p1, p2⟩
  refine ⟨rfl, h.step es' k (fun c hc => ?_) mv (fun c hc hx => ?_)⟩
  · rcases hc with (e | e) | e | e <;> simp [CE, e]
  · rcases hc with (e | e) | e | e
    · omega
    · have := h.own _ e; omega
    · rw [e]; exact p1
    · rw [e]; exact p2
theorem CP.bt {w' : World} (h : CD U z ov L) (b : BtP U z.Eb z.Eb ov L' z.Mb w') : CP U z ov L' w' := by
  have od := h.o
  obtain ⟨ov', es', k, mv, p⟩ := b
  refine h.step es' k (fun c hc => ?_) mv (fun c hc hx => ?_)
  · rcases hc with (e | e) | e <;> simp [CE, e]
  · rcases hc with (e | e) | e
    · omega
    · have := h.own _ e; omega
    · rw [e]; exact p
theorem CD.bit (h : CD U z ov L) (hL : L + 4 < 1099511627776) {o : Nat} (bit : Int) (hp : PA U z.Mb o 1) : Calls Ybaz.prog 51 #[.pointer (some ⟨z.Eb, 0, none⟩), .pointer (some ⟨z.Mb, o, none⟩), .int .u64 bit] U fun e w' => e = .returned (.tuple #[]) ∧ CP U z ov (L + 3) w' := by
  have od := h.o
  obtain ⟨p, c, ok, f⟩ := hp 0 (by omega)
  rw [Nat.add_zero] at c f
  refine (bit_any z.Eb z.Eb L z.Mb o bit p ov U h.es hL ok c f (by omega) (fun e => by have := h.own _ e; omega)).mono ?_
  rintro e w' ⟨rfl, b⟩
  exact ⟨rfl, CP.bt h b⟩
theorem CD.tree (h : CD U z ov L) (hL : L + 100 < 1099511627776) {o n cap : Nat} {v : Int} (hn : n ≤ 7) (hp : PA U z.Mb o (2 ^ n)) (hv : 0 ≤ v) : Calls Ybaz.prog 44 #[.pointer (some ⟨z.Eb, 0, none⟩), sl z.Mb o (2 ^ n) cap, .int .u64 v] U fun e w' => e = .returned (.tuple #[]) ∧ CP U z ov (L + 21) w' := by
  have od := h.o
  refine (etree_any z.Eb z.Eb L z.Mb o n cap v ov U h.es hL hn hp (by omega) (fun e => by have := h.own _ e; omega) hv).mono ?_
  rintro e w' ⟨rfl, b⟩
  exact ⟨rfl, (CP.bt h b).mono (by omega)⟩
theorem CD.direct (h : CD U z ov L) (hL : L + 100 < 1099511627776) {n : Nat} {v : Int} (hn : n ≤ 64) (hv : 0 ≤ v) : Calls Ybaz.prog 27 #[.pointer (some ⟨z.Eb, 0, none⟩), .int .u64 v, vi n] U fun e w' => e = .returned (.tuple #[]) ∧ CP U z ov (L + 12) w' := by
  have od := h.o
  refine (direct_any z.Eb z.Eb L n v ov U h.es hL hn hv).mono ?_
  rintro e w' ⟨rfl, ov', es', k, mv⟩
  refine ⟨rfl, h.step es' k (fun c hc => ?_) mv (fun c hc hx => ?_)⟩
  · rcases hc with e | e <;> simp [CE, e]
  · rcases hc with e | e
    · omega
    · have := h.own _ e; omega
end
end Go.Proofs.YbulkdsjeGreatDoor
