import Derived.Test.YbulkdsmyWithin
import Derived.Test.YbulkdsmyPlan
namespace Go
theorem run_cmp {P : Program} {o : Oper} {ρ : Operand → Value} (op : BinOp) (x y : Operand) (t u : TypeId) (ho : o.op = .binOp op t x y u) (X Y : Array Value) (hx : ρ x = .agg X) (hy : ρ y = .agg Y) (hm : P.eqGuardType P.depth t = false) (v : Value)
    (hr : ∀ w, (binOp op t (.agg X) (.agg Y)).run P w = .ok v w) (w : World) : (execOp ρ o).run P w = .ok (.value v) w := by
  unfold execOp
  simp only [ho, hx, hy, Sem.run_bind, run_eqGuard_agg w op t x y X Y hm, Result.andThen_ok, hr, Sem.run_pure]
theorem wpList_cmp {P : Program} {ops : Array Oper} {rest : List Oper} {o : Oper} {a : Act} {w : World} {Q : Exit → Act → World → Prop} (hgd : o.guard = none) (op : BinOp) (x y : Operand) (t u : TypeId) (ho : o.op = .binOp op t x y u) (X Y : Array Value) (hx : a.eval x = .agg X) (hy : a.eval y = .agg Y) (hm : P.eqGuardType P.depth t = false) (v : Value)
    (hr : ∀ w, (binOp op t (.agg X) (.agg Y)).run P w = .ok v w) (h : wpList P ops Q rest (a.put o.dst v) w) : wpList P ops Q (o :: rest) a w := by
  refine wpList_plain hgd fun K hK => ?_
  unfold Oper.wp
  rw [run_cmp op x y t u ho X Y hx hy hm v hr w]
  exact hK _ _ h
theorem wpQuiet_cmp {P : Program} {ops : Array Oper} {rest : List Oper} {o : Oper} {a : Act} {C : World → Prop} {Q : Act → Prop} (hw : Region.wanted o (yielded ops a.tmps) = true) (op : BinOp) (x y : Operand) (t u : TypeId) (ho : o.op = .binOp op t x y u) (X Y : Array Value) (hx : a.eval x = .agg X) (hy : a.eval y = .agg Y) (hm : P.eqGuardType P.depth t = false) (v : Value)
    (hr : ∀ w, (binOp op t (.agg X) (.agg Y)).run P w = .ok v w) (h : wpQuiet P ops C Q rest (a.put o.dst v)) : wpQuiet P ops C Q (o :: rest) a :=
  wpQuiet_run v hw (fun w _ => run_cmp op x y t u ho X Y hx hy hm v hr w) h
end Go
namespace Go.Proofs.Ybulkdsmy
open Go.RowKit

theorem bx31 (p : Pr) (w : World) : Sem.run Yba.prog (Instr.box 31 (.agg (prc p).toArray)) w = .ok (.pointer (some ⟨w.heap.size, 0, none⟩)) (w.alloc (.cells (prc p).toArray 31)) := by kernel_rfl
theorem eg29 : Yba.prog.eqGuardType Yba.prog.depth 29 = false := by kernel_rfl
theorem eg31 : Yba.prog.eqGuardType Yba.prog.depth 31 = false := by kernel_rfl

/-- The identifier within a peer's cells. -/
theorem range_id {w : World} {b o : Nat} {p : Pr} (h : w.rangeAt b o (prc p)) : w.rangeAt b (o + 1) (idc p.b) := fun j v hv => by
  have := h (j + 1) v (by simpa [prc] using hv)
  rwa [show o + (j + 1) = o + 1 + j by omega] at this

set_option maxHeartbeats 1000000 in
theorem sameId_any (p q : Pr) (hp : 0 ≤ p.b ∧ p.b ≤ 255) (hq : 0 ≤ q.b ∧ q.b ≤ 255) (B : Nat) (w : World) (hB : w.rangeAt B 0 (prc p)) :
    Calls Yba.prog 18 #[.agg (prc q).toArray, .pointer (some ⟨B, 0, none⟩)] w fun e w' => e = .returned (.bool (decide (q.b = p.b))) ∧ Below w.heap.size w w' := by
  have R1 := hid (range_id (World.rangeAt_alloc hB (.cells (prc q).toArray 31)))
  have R2 := hid (range_id (range_new w (prc q) 31))
  go_enter Yba.func18, Yba.ntmps18
  go_wp2_with (first
    | (refine wpList_box_as rfl 31 _ rfl (prc q).toArray rfl (bx31 q) ?_)
    | (refine wpList_load_mid rfl 29 _ rfl B 1 rfl (idc p.b) _ R1 Yba.underlying29 rfl (info29 _) ?_)
    | (refine wpList_load_mid rfl 29 _ rfl w.heap.size 1 rfl (idc q.b) _ R2 Yba.underlying29 rfl (info29 _) ?_)
    | (refine wpList_cmp rfl .eql _ _ 29 _ rfl (idc q.b).toArray (idc p.b).toArray rfl rfl eg29 _ (eql29 _ _ hq hp) ?_))
  go_ret
  exact ⟨rfl, (Below.refl _ _).alloc (Nat.le_refl _) _⟩

/-- The peers that a slice shows. -/
def PeersAt (w : World) (sa : Option Addr) (L : List Pr) : Prop := ∀ i p, L[i]? = some p → ∃ g, sa = some ⟨g, 0, none⟩ ∧ w.rangeAt g (i * 21) (prc p)
theorem peers_below {w w' : World} {sa : Option Addr} {L : List Pr} (h : PeersAt w sa L) (hb : Below w.heap.size w w') : PeersAt w' sa L := fun i p hp => by
  obtain ⟨g, hg, hr⟩ := h i p hp
  refine ⟨g, hg, fun j v hv => ?_⟩
  have h1 := hr j v hv
  rw [hb.cell (p := ⟨g, i * 21 + j, none⟩) (World.block_lt_of_cell? w _ h1)]
  exact h1
/-- Is there a peer of this identifier? -/
def has (L : List Pr) (b : Int) : Bool := L.any fun q => decide (q.b = b)

set_option maxHeartbeats 1000000 in
theorem find_any (p : Pr) (L : List Pr) (hp : 0 ≤ p.b ∧ p.b ≤ 255) (hL : ∀ q ∈ L, 0 ≤ q.b ∧ q.b ≤ 255) (n cap B : Nat) (sa : Option Addr) (w : World) (hn : n = L.length) (hmax : n ≤ 1048576) (hB : w.rangeAt B 0 (prc p)) (hS : PeersAt w sa L) :
    Calls Yba.prog 21 #[.slice sa n cap, .func (.func 18) #[] #[.pointer (some ⟨B, 0, none⟩)]] w fun e w' => (∃ r : Int, e = .returned (.int .i64 r) ∧ decide (0 ≤ r) = has L p.b) ∧ Below w.heap.size w w' := by
  have HB := hid hB
  have HS := hid hS
  have HL := hid hL
  have Hn := hid hn
  clear hB hS hL hn
  go_enter Yba.func21, Yba.ntmps21
  go_wp2
  go_loopw [8] (fun i wq => ∃ m : Nat, m ≤ n ∧ i = .int .i64 m ∧ Below w.heap.size w wq ∧ (L.take m).any (fun q => decide (q.b = p.b)) = false) (fun i _ => n - (intOf i).toNat)
  case atStart => exact ⟨0, Nat.zero_le _, rfl, Below.refl _ _, rfl⟩
  case round =>
    obtain ⟨m, hm, rfl, hbl, hno⟩ := hrel
    by_cases hlt : m < n
    · obtain ⟨q, hq⟩ : ∃ q, L[m]? = some q := ⟨L[m]'(by have := Hn.out; omega), List.getElem?_eq_getElem (by have := Hn.out; omega)⟩
      have hli : (m : Int) < (n : Int) := by omega
      obtain ⟨g, rfl, hr⟩ := HS.out m q hq
      have HR := hid (show wr.rangeAt g (m * 21) (prc q) from fun j v hv => by
        have h1 := hr j v hv
        rw [hbl.cell (p := ⟨g, m * 21 + j, none⟩) (World.block_lt_of_cell? w _ h1)]
        exact h1)
      have HB' := hid (show wr.rangeAt B 0 (prc p) from fun j v hv => by
        have h1 := HB.out j v hv
        rw [hbl.cell (p := ⟨B, 0 + j, none⟩) (World.block_lt_of_cell? w _ h1)]
        exact h1)
      have HN := hid hno
      have HBL := hid hbl
      clear hr hno hbl
      have hq255 := HL.out q (List.mem_of_getElem? hq)
      by_cases hqp : q.b = p.b
      · have hd : decide (q.b = p.b) = true := by simpa using hqp
        have K := hid (sameId_any p q hp hq255 B wr HB')
        rw [hd] at K
        clear hd
        have HF := hid (show has L p.b = true from List.any_eq_true.2 ⟨q, List.mem_of_getElem? hq, by simpa using hqp⟩)
        go_wp2_with (first
          | (refine wpList_load_mid rfl 31 _ rfl g (m * 21) rfl (prc q) _ HR Yba.underlying31 rfl (info31 _) ?_)
          | (go_at_call 18; refine K.out.mono ?_; rintro e w' ⟨rfl, hb⟩))
        go_ret
        exact ⟨⟨m, rfl, by rw [HF.out]; simp⟩, Below.trans HBL (Below.mono hb HBL.out.size)⟩
      · have hd : decide (q.b = p.b) = false := by simpa using hqp
        have K := hid (sameId_any p q hp hq255 B wr HB')
        rw [hd] at K
        clear hd
        have HF := hid (show (L.take (m + 1)).any (fun q => decide (q.b = p.b)) = false by
          rw [List.take_add_one, hq, List.any_append, HN.out]
          simpa using hqp)
        go_wp2_with (first
          | (refine wpList_load_mid rfl 31 _ rfl g (m * 21) rfl (prc q) _ HR Yba.underlying31 rfl (info31 _) ?_)
          | (go_at_call 18; refine K.out.mono ?_; rintro e w' ⟨rfl, hb⟩))
        go_roundw
        case rel => exact ⟨m + 1, by omega, by go_num, Below.trans HBL (Below.mono hb HBL.out.size), HF⟩
        case measure => simp [intOf]; omega
    · have HF := hid (show has L p.b = false by
        have : L.take m = L := List.take_of_length_le (by have := Hn.out; omega)
        rw [this] at hno
        exact hno)
      clear hno
      go_wp2
      go_ret
      exact ⟨⟨-1, rfl, by rw [HF.out]; rfl⟩, hbl⟩

set_option maxHeartbeats 1000000 in
theorem contains_any (p : Pr) (L : List Pr) (hp : 0 ≤ p.b ∧ p.b ≤ 255) (hL : ∀ q ∈ L, 0 ≤ q.b ∧ q.b ≤ 255) (n cap B : Nat) (sa : Option Addr) (w : World) (hn : n = L.length) (hmax : n ≤ 1048576) (hB : w.rangeAt B 0 (prc p)) (hS : PeersAt w sa L) :
    Calls Yba.prog 17 #[.slice sa n cap, .func (.func 18) #[] #[.pointer (some ⟨B, 0, none⟩)]] w fun e w' => e = .returned (.bool (has L p.b)) ∧ Below w.heap.size w w' := by
  have K := hid (find_any p L hp hL n cap B sa w hn hmax hB hS)
  clear hB hS hL hn
  go_enter Yba.func17, Yba.ntmps17
  go_wp2_with (first
    | (go_at_call 21; refine K.out.mono ?_; rintro e w' ⟨⟨r, rfl, hr⟩, hb⟩))
  go_ret
  exact ⟨by rw [← hr]; rfl, hb⟩

/-- The node's field of links, and what they are. -/
structure Links (w : World) (N : Nat) (sa : Option Addr) (cap : Nat) (L : List Pr) : Prop where
  field : w.cell? ⟨N, 6, none⟩ = some (.slice sa L.length cap)
  peers : PeersAt w sa L
  few : L.length ≤ 1048576
  ok : ∀ q ∈ L, 0 ≤ q.b ∧ q.b ≤ 255

set_option maxHeartbeats 1000000 in
theorem linksTo_any (p : Pr) (L : List Pr) (hp : 0 ≤ p.b ∧ p.b ≤ 255) (N cap : Nat) (sa : Option Addr) (w : World) (h : Links w N sa cap L) :
    Calls Yba.prog 11 #[.pointer (some ⟨N, 0, none⟩), .agg (prc p).toArray] w fun e w' => e = .returned (.bool (has L p.b)) ∧ Below w.heap.size w w' := by
  have hf := h.field
  have hN : N < w.heap.size := World.block_lt_of_cell? w _ hf
  have hf' : (w.alloc (.cells (prc p).toArray 31)).cell? ⟨N, 6, none⟩ = some (.slice sa L.length cap) := cell?_alloc_old _ hf
  have K := hid (contains_any p L hp h.ok L.length cap w.heap.size sa (w.alloc (.cells (prc p).toArray 31)) rfl h.few (range_new w (prc p) 31) (peers_below h.peers ((Below.refl _ _).alloc (Nat.le_refl _) _)))
  clear h
  go_enter Yba.func11, Yba.ntmps11
  go_wp2_with (first
    | (refine wpList_box_as rfl 31 _ rfl (prc p).toArray rfl (bx31 p) ?_)
    | (go_at_call 17; refine K.out.mono ?_; rintro e w' ⟨rfl, hb⟩))
  go_ret
  refine ⟨rfl, Below.trans ((Below.refl _ _).alloc (Nat.le_refl _) (.cells (prc p).toArray 31)) (hb.mono (by simp))⟩

end Go.Proofs.Ybulkdsmy
