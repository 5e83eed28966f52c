import Derived.Test.YbulkdsicGreatMaps
set_option linter.unusedVariables false
set_option linter.unusedSimpArgs false
namespace Go.Proofs.YbulkdsicGreat
open Go.RowKit

/-- How many of the first i services wait. -/
def waits (pr : Nat → Option Nat) (i : Nat) : Nat := if (pr i).isSome then 1 else 0
def cnt (pr : Nat → Option Nat) : Nat → Nat
  | 0 => 0
  | i + 1 => cnt pr i + waits pr i
theorem waits_le (pr : Nat → Option Nat) (i : Nat) : waits pr i ≤ 1 := by unfold waits; split <;> omega
theorem cnt_le (pr : Nat → Option Nat) : ∀ i, cnt pr i ≤ i
  | 0 => Nat.le_refl _
  | i + 1 => by have := cnt_le pr i; have := waits_le pr i; simp only [cnt]; omega
theorem cnt_mono (pr : Nat → Option Nat) {i j : Nat} (h : i ≤ j) : cnt pr i ≤ cnt pr j := by
  induction h with
  | refl => exact Nat.le_refl _
  | step _ ih => simp only [cnt]; omega
theorem waits_some {pr : Nat → Option Nat} {i j : Nat} (h : pr i = some j) : waits pr i = 1 := by simp [waits, h]
theorem waits_none {pr : Nat → Option Nat} {i : Nat} (h : pr i = none) : waits pr i = 0 := by simp [waits, h]

/-- Where a batch's slices lie. -/
structure Bt where
  bm : Nat
  om : Nat
  cm : Nat
  bf : Nat
  of : Nat
  cf : Nat
  sn : Option Addr
  cn : Nat
def Bt.mv (t : Bt) (m : Nat) : Value := sl t.bm t.om m t.cm
def Bt.nv (t : Bt) (k : Nat) : Value := .slice t.sn k t.cn
def Bt.fv (t : Bt) (m : Nat) : Value := sl t.bf t.of (m + 1) t.cf
def Bt.cells (t : Bt) (m k : Nat) : Array Value := #[t.mv m, t.nv k, t.fv m]

/-- A batch: m services, their places, and the one that each waits for. -/
structure Bat (W : World) (t : Bt) (m : Nat) (mem : Nat → Nat) (pr : Nat → Option Nat) : Prop where
  few : m ≤ 300
  low : ∀ i j, i < m → pr i = some j → j < i
  mlt : ∀ i, i < m → mem i < 300
  mem' : ∀ i, i < m → W.cell? ⟨t.bm, t.om + i, none⟩ = some (vi (mem i))
  frm : ∀ i, i ≤ m → W.cell? ⟨t.bf, t.of + i, none⟩ = some (vi (2 * cnt pr i))
  one : ∀ i j, i < m → pr i = some j → ∃ b o, t.sn = some ⟨b, o, none⟩ ∧ W.cell? ⟨b, o + 2 * cnt pr i, none⟩ = some (vi 1) ∧ W.cell? ⟨b, o + (2 * cnt pr i + 1), none⟩ = some (vi j)
  cap : 2 * cnt pr m ≤ t.cn
  snl : ∀ a, t.sn = some a → a.block < W.heap.size
  spot : ∀ a, t.sn = some a → a.spot = none
  nil : t.sn = none → t.cn = 0
theorem Bat.kept {E : Nat → Prop} {W W' : World} {t : Bt} {m : Nat} {mem : Nat → Nat} {pr : Nat → Option Nat} (h : Bat W t m mem pr) (k : Kept E W W') (h1 : ¬ E t.bm) (h2 : ¬ E t.bf) (h3 : ∀ a, t.sn = some a → ¬ E a.block) : Bat W' t m mem pr :=
  ⟨h.few, h.low, h.mlt, fun i hi => k.cell (p := ⟨t.bm, t.om + i, none⟩) h1 (h.mem' i hi), fun i hi => k.cell (p := ⟨t.bf, t.of + i, none⟩) h2 (h.frm i hi), fun i j hi hj => by
    obtain ⟨b, o, e, c1, c2⟩ := h.one i j hi hj
    exact ⟨b, o, e, k.cell (p := ⟨b, o + 2 * cnt pr i, none⟩) (h3 ⟨b, o, none⟩ e) c1, k.cell (p := ⟨b, o + (2 * cnt pr i + 1), none⟩) (h3 ⟨b, o, none⟩ e) c2⟩, h.cap, fun a ha => Nat.lt_of_lt_of_le (h.snl a ha) k.size, h.spot, h.nil⟩
theorem Bat.below {W W' : World} {t : Bt} {m : Nat} {mem : Nat → Nat} {pr : Nat → Option Nat} (h : Bat W t m mem pr) (k : Below W.heap.size W W') : Bat W' t m mem pr :=
  h.kept (Kept.ofBelow (E := fun _ => False) k) (fun h => h) (fun h => h) (fun _ _ h => h)

/-- What the iterator hands over. -/
def Bt.need (t : Bt) (c : Nat) : Value := match t.sn with | some a => .slice (some ⟨a.block, a.off + (c + 1), none⟩) 1 (t.cn - (c + 1)) | none => .slice none 0 0
def Bt.enc (t : Bt) (c : Nat) : Unit → Array Value := fun _ => #[vi c, t.need c]
theorem Bt.need_some {t : Bt} {b o : Nat} (h : t.sn = some ⟨b, o, none⟩) (c : Nat) : t.need c = sl b (o + (c + 1)) 1 (t.cn - (c + 1)) := by unfold Bt.need; rw [h]
/-- What the iterator reads. -/
def Bt.reads (t : Bt) (n : Nat) : List Nat := n :: (n + 1) :: t.bf :: (match t.sn with | some a => [a.block] | none => [])

theorem Bat.seq {W : World} {t : Bt} {m : Nat} {mem : Nat → Nat} {pr : Nat → Option Nat} (h : Bat W t m mem pr) {i : Nat} (hi : i < m) :
    SeqStopsK Fence.wide 2 Ybaz.prog 46 #[.pointer (some ⟨W.heap.size, 0, none⟩), .pointer (some ⟨W.heap.size + 1, 0, none⟩)] (t.enc (2 * cnt pr i)) (KpL (t.reads W.heap.size)) (fun ys => ys = List.replicate (waits pr i) ()) (fun _ => True) (waits pr i)
      ((W.alloc (.cells (t.cells m (2 * cnt pr m)) 53)).alloc (.cells #[vi i] 3)) := by
  have k : Kept (fun _ => False) W ((W.alloc (.cells (t.cells m (2 * cnt pr m)) 53)).alloc (.cells #[vi i] 3)) := ((Kept.refl _ W).alloc _).alloc _
  have h1 : ((W.alloc (.cells (t.cells m (2 * cnt pr m)) 53)).alloc (.cells #[vi i] 3)).rangeAt W.heap.size 0 [t.mv m, t.nv (2 * cnt pr m), t.fv m] :=
    World.rangeAt_alloc (range_new W [t.mv m, t.nv (2 * cnt pr m), t.fv m] 53) _
  have h2 : ((W.alloc (.cells (t.cells m (2 * cnt pr m)) 53)).alloc (.cells #[vi i] 3)).cell? ⟨W.heap.size + 1, 0, none⟩ = some (vi i) := by
    simp
  have f0 := k.cell (p := ⟨t.bf, t.of + i, none⟩) (fun h => h) (h.frm i (by omega))
  have f1 := k.cell (p := ⟨t.bf, t.of + (i + 1), none⟩) (fun h => h) (h.frm (i + 1) (by omega))
  have hc := cnt_le pr i
  have hfew := h.few
  cases hp : pr i with
  | none =>
    have e : cnt pr (i + 1) = cnt pr i := by simp [cnt, waits_none hp]
    rw [e] at f1
    rw [waits_none hp]
    exact seq_none _ _ _ _ i t.bf t.of (2 * cnt pr i) m t.cf _ _ _ hi h.few h1 h2 f0 f1
  | some j =>
    have e : 2 * cnt pr (i + 1) = 2 * cnt pr i + 2 := by simp only [cnt, waits_some hp]; omega
    rw [e] at f1
    rw [waits_some hp]
    obtain ⟨b, o, hsn, c1, _⟩ := h.one i j hi hp
    have g1 := k.cell (p := ⟨b, o + 2 * cnt pr i, none⟩) (fun h => h) c1
    have hle : 2 * cnt pr i + 2 ≤ 2 * cnt pr m := by rw [← e]; exact Nat.mul_le_mul_left 2 (cnt_mono pr (by omega))
    have hcap := h.cap
    have := seq_one W.heap.size (W.heap.size + 1) i t.bf t.of b o (2 * cnt pr i) (2 * cnt pr m) t.cn m t.cf (t.mv m) _ hi h.few (by omega) hle (by omega) (by rw [Bt.nv, hsn] at h1; exact h1) h2 f0 f1 g1
    have e1 : t.enc (2 * cnt pr i) = fun _ => #[vi (2 * cnt pr i), sl b (o + (2 * cnt pr i + 1)) 1 (t.cn - (2 * cnt pr i + 1))] := by unfold Bt.enc; rw [Bt.need_some hsn]
    have e2 : t.reads W.heap.size = [W.heap.size, W.heap.size + 1, t.bf, b] := by unfold Bt.reads; rw [hsn]
    rw [e1, e2]
    exact this

/-! ### Rows of a table of rows -/
theorem own_cell {w : World} {base e n : Nat} {v : Value} {xs : List Value} (h : w.ownsRow base e 1 v n xs) {j : Nat} {u : Value} (hu : xs[j]? = some u) :
    ∃ g cap, v = sl g 0 n cap ∧ w.cell? ⟨g, j, none⟩ = some u ∧ w.frozen? ⟨g, j, none⟩ = false := by
  have hj : j < n := by have := (List.getElem?_eq_some_iff.1 hu).1; have := h.1; omega
  rcases h.2 with ⟨rfl, h2⟩ | ⟨g, cap, cur, rfl, _, hb, hc, _, hs, ht⟩
  · omega
  · refine ⟨g, cap, rfl, ?_, ?_⟩
    · rw [← ht] at hu
      rw [List.getElem?_take_of_lt (by omega)] at hu
      unfold World.cell?
      simp only [hb]
      simpa using hu
    · unfold World.frozen?
      simp [hb]
theorem own_set {w : World} {base e n g cap : Nat} {xs : List Value} (h : w.ownsRow base e 1 (sl g 0 n cap) n xs) (j : Nat) (hj : j < n) (u : Value) : (w.setCell ⟨g, j, none⟩ u).ownsRow base e 1 (sl g 0 n cap) n (xs.set j u) := by
  refine ⟨by rw [List.length_set]; exact h.1, .inr ?_⟩
  rcases h.2 with ⟨h0, _⟩ | ⟨g', cap', cur, hv, hbase, hb, hc, hm, hs, ht⟩
  · cases h0
  · cases hv
    refine ⟨g, cap, cur.setIfInBounds j u, rfl, hbase, ?_, hc, hm, by simpa using hs, ?_⟩
    · simp [World.setCell, Array.getElem?_modify, hb]
    · rw [Array.toList_setIfInBounds, List.take_set, ht]
theorem own_block {w : World} {base e size n : Nat} {v : Value} {xs : List Value} (h : w.ownsRow base e size v n xs) {g : Nat} (hg : v.ownBlock = some g) : base ≤ g ∧ ∃ cur, w.heap[g]? = some (.cells cur e (0, 0)) := by
  rcases h.2 with ⟨rfl, _⟩ | ⟨g', cap, cur, rfl, hb, hc, _⟩
  · cases hg
  · cases hg; exact ⟨hb, cur, hc⟩
end Go.Proofs.YbulkdsicGreat
