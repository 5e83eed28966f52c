import Derived.Test.YbulkdsjeGreatDoorEx2
import Derived.BigQuiet
import Derived.Deep.QuietTactic
import Derived.Deep.MidRow
set_option linter.unusedVariables false
set_option linter.unusedSimpArgs false
namespace Go.Proofs.YbulkdsjeGreatDoor
open Go.RowKit

/-- Some whole number and some float. -/
def RIF (e : Ending) : Prop := ∃ (x : Int) (y : Nat), e = .returned (.tuple #[ii x, .float .f64 y])
theorem fa106_4 (b o : Nat) (w : World) : Sem.run Ybaz.prog (Instr.fieldAt 106 (.pointer (some ⟨b, o, none⟩)) 4) w = .ok (.pointer (some ⟨b, o + 4, none⟩)) w := by kernel_rfl
theorem fa106_5 (b o : Nat) (w : World) : Sem.run Ybaz.prog (Instr.fieldAt 106 (.pointer (some ⟨b, o, none⟩)) 5) w = .ok (.pointer (some ⟨b, o + 5, none⟩)) w := by kernel_rfl
theorem al143 (w : World) : Sem.run Ybaz.prog (Instr.alloc 143 true (.tuple #[])) w = .ok (.pointer (some ⟨w.heap.size, 0, none⟩)) (w.alloc (.cells #[.int .i64 0, .float .f64 0] 143)) := by kernel_rfl
theorem sub2 (x y : Int) (w : World) (h : -4611686018427387904 ≤ x - y ∧ x - y ≤ 4611686018427387904) : Sem.run Ybaz.prog (binOp .sub 2 (ii x) (ii y)) w = .ok (ii (x - y)) w := by
  have e : IntKind.i64.wrap (x - y) = x - y := by simp [IntKind.wrap, IntKind.bits, IntKind.signed]; omega
  go_simp
/-- A new block that holds a slot. -/
def NB143 (U w : World) (v : Value) : Prop := ∃ g, v = .pointer (some ⟨g, 0, none⟩) ∧ U.heap.size ≤ g ∧ g < w.heap.size ∧ w.there g 0 2
theorem NB143.kept {U w w' : World} {v : Value} (h : NB143 U w v) (k : Kept (fun _ => False) w w') : NB143 U w' v := by
  obtain ⟨g, e, h1, h2, h3⟩ := h
  refine ⟨g, e, h1, Nat.lt_of_lt_of_le h2 k.size, fun j hj => ?_⟩
  have := h3 j hj
  have eb := k.block g h2 (fun h => h)
  rw [World.cell?_of_block (a := ⟨g, 0 + j, none⟩) eb, World.frozen?_of_block (a := ⟨g, 0 + j, none⟩) eb]
  exact this
/-- What the operations of the read yield. -/
def at113 (U : World) (b o : Nat) (k : Int) (fi i : Nat) (y : Int) (j : Nat) (v : Value) (w : World) : Prop :=
  match j with
  | 0 | 1 | 4 | 5 => v = .pointer (some ⟨b, o, none⟩)
  | 2 => v = .pointer (some ⟨b, o + 5, none⟩)
  | 3 => v = ii k
  | 6 => v = .pointer (some ⟨b, o + 4, none⟩)
  | 7 => v = vi fi
  | 8 => v = vi i
  | 9 => ∃ x, v = .agg #[ii y, .float .f64 x]
  | 10 => NB143 U w v
  | _ => True

set_option maxRecDepth 100000 in
set_option maxHeartbeats 4000000 in
theorem atA_any (k : Int) (S : Nat → Prop) (b o st nn fu sc fi d n : Nat) (f : Nat → Int) (U : World) (h : AX U S b o st nn fu sc fi d n f) (hk : -1099511627776 ≤ k ∧ k ≤ 1099511627776) : Calls Ybaz.prog 113 #[.pointer (some ⟨b, o, none⟩), ii k] U fun e w' => RIF e ∧ Kept (fun _ => False) U w' := by
  have s4 := h.s4
  have hfn := h.hfi
  have LA := hid (last_any fi n b o U h.s4 h.ck.c2 h.hfi)
  have h1 : (fi : Int) ≤ 8388608 := by omega
  have h2 : (n : Int) ≤ 8388608 := by omega
  have h3 : -1099511627776 ≤ k := hk.1
  have h4 : k ≤ 1099511627776 := hk.2
  have HA := hid h
  clear h hk hfn
  by_cases a1 : k < (fi : Int)
  · go_enter Ybaz.func113, Ybaz.ntmps113
    go_wp2
    go_ret2
    exact ⟨⟨_, _, rfl⟩, Kept.refl _ _⟩
  · by_cases a2 : (fi : Int) + (n : Int) - 1 < k
    · go_enter Ybaz.func113, Ybaz.ntmps113
      go_wp2_with (go_at_call 60; refine LA.out.mono ?_; rintro e W1 ⟨rfl, hd⟩)
      go_ret2
      exact ⟨⟨_, _, rfl⟩, hd.kept⟩
    · obtain ⟨i, hi⟩ : ∃ i : Nat, k - (fi : Int) = (i : Int) := ⟨(k - fi).toNat, by omega⟩
      have hin : i < n := by omega
      have HI := hid hi
      have HB := hid (show -1099511627776 ≤ k ∧ k ≤ 1099511627776 ∧ (fi : Int) ≤ 8388608 from ⟨h3, h4, h1⟩)
      have AT : Hid (∀ W, Kept (fun _ => False) U W → Calls Ybaz.prog 61 #[.pointer (some ⟨b, o + 5, none⟩), vi i] W fun e w' => AtS W f (d + i) e w') := hid fun W k => atS_any S b (o + 5) d n i f W (HA.out.kept k).ck hin
      clear hin hi
      go_enter Ybaz.func113, Ybaz.ntmps113
      go_upto_region 3 with (go_at_call 60; refine LA.out.mono ?_; rintro e W1 ⟨rfl, hd⟩; have KU := hid hd.kept; clear hd)
      refine wp_region_calls 11 33 (at113 U b o k fi i (f (d + i))) ?_ (by kernel_rfl) rfl ?_ ?_
      · intro i v w w' hw kk
        unfold at113 at hw ⊢
        split at hw <;> simp_all
        exact hw.kept kk
      · intro j oj ho hj nu ρ w kw _ a hρ hd hs
        have kUw := KU.out.trans kw
        match j, ho with
        | 0, ho => cases ho; exact .inl ⟨_, _, xmove (hs 0 (by kernel_rfl)), Kept.refl _ _, rfl⟩
        | 1, ho =>
          cases ho
          obtain ⟨e0, q0⟩ := hd 0 _ 19 rfl rfl (by kernel_rfl)
          exact .inl ⟨_, _, xnil (e0.trans q0), Kept.refl _ _, rfl⟩
        | 2, ho =>
          cases ho
          obtain ⟨e0, q0⟩ := hd 1 _ 20 rfl rfl (by kernel_rfl)
          exact .inl ⟨_, _, xfield (e0.trans q0) (fa106_5 b o), Kept.refl _ _, rfl⟩
        | 3, ho => cases ho; exact .inl ⟨_, _, xmove (hs 1 (by kernel_rfl)), Kept.refl _ _, rfl⟩
        | 4, ho => cases ho; exact .inl ⟨_, _, xmove (hs 0 (by kernel_rfl)), Kept.refl _ _, rfl⟩
        | 5, ho =>
          cases ho
          obtain ⟨e0, q0⟩ := hd 4 _ 23 rfl rfl (by kernel_rfl)
          exact .inl ⟨_, _, xnil (e0.trans q0), Kept.refl _ _, rfl⟩
        | 6, ho =>
          cases ho
          obtain ⟨e0, q0⟩ := hd 5 _ 24 rfl rfl (by kernel_rfl)
          exact .inl ⟨_, _, xfield (e0.trans q0) (fa106_4 b o), Kept.refl _ _, rfl⟩
        | 7, ho =>
          cases ho
          obtain ⟨e0, q0⟩ := hd 6 _ 25 rfl rfl (by kernel_rfl)
          exact .inl ⟨_, _, xload1 (e0.trans q0) (load2 _ _ _ _ (kUw.cell (p := ⟨b, o + 4, none⟩) (fun h => h) HA.out.s4)), Kept.refl _ _, rfl⟩
        | 8, ho =>
          cases ho
          obtain ⟨e0, q0⟩ := hd 3 _ 22 rfl rfl (by kernel_rfl)
          obtain ⟨e1, q1⟩ := hd 7 _ 26 rfl rfl (by kernel_rfl)
          exact .inl ⟨_, _, xbin (e0.trans q0) (e1.trans q1) (fun w => by kernel_rfl) (fun w => sub2 k fi w (by have := HB.out; omega)), Kept.refl _ _, by show ii _ = _; rw [HI.out]⟩
        | 9, ho =>
          cases ho
          refine .inr ⟨61, _, xcall (by rw [hρ]; rfl) (fun vs => enters_of Ybaz.func61 (by kernel_rfl) rfl vs w), ?_⟩
          obtain ⟨e0, q0⟩ := hd 2 _ 21 rfl rfl (by kernel_rfl)
          obtain ⟨e1, q1⟩ := hd 8 _ 27 rfl rfl (by kernel_rfl)
          have q0' : nu 2 = .pointer (some ⟨b, o + 5, none⟩) := q0
          have q1' : nu 8 = vi i := q1
          simp only [List.map_toArray, List.map_cons, List.map_nil, e0, e1, q0', q1']
          refine (AT.out w kUw).mono ?_
          rintro e w' ⟨x, rfl, kk⟩
          exact ⟨_, rfl, kk, x, rfl⟩
        | 10, ho =>
          cases ho
          exact .inl ⟨_, _, xalloc al143, (Kept.refl _ _).alloc _, w.heap.size, rfl, kUw.size, by rw [World.size_alloc]; omega, there_new w [.int .i64 0, .float .f64 0] 143⟩
        | j + 11, ho => omega
      · intro oz hoz nu X kx hR
        cases hoz
        obtain ⟨g, q10, hg, hgx, hth⟩ := hR 10 (by omega)
        obtain ⟨y, q9⟩ := hR 9 (by omega)
        have kUx := KU.out.trans kx
        clear hR
        simp only [lay, List.take, Act.put, List.setIfInBounds_toArray, List.set_cons_succ, List.set_cons_zero, q10, q9]
        refine wpList_store_mid rfl 143 _ _ rfl g 0 #[ii (f (d + i)), .float .f64 y] rfl rfl hth (by kernel_rfl) (by simp [Value.oneCell']) ?_
        refine list_as (fun Y => Kept (fun _ => False) U Y ∧ Y.cell? ⟨g, 0, none⟩ = some (ii (f (d + i))) ∧ Y.cell? ⟨g, 1, none⟩ = some (.float .f64 y)) ?_ ?_
        · have rr := World.rangeAt_setCells_same X g 0 [ii (f (d + i)), .float .f64 y] hth
          have kX : Kept (fun c => c = g) X (X.setCells g 0 [ii (f (d + i)), .float .f64 y]) := (Kept.refl (fun c => c = g) X).setCells (g := g) (.inl rfl) _ _
          exact ⟨Kept.thn' kUx kX (fun c hc (he : c = g) => by omega), rr 0 _ rfl, rr 1 _ rfl⟩
        · rintro Y ⟨kY, y0, y1⟩
          have KY := hid kY
          clear kY kUx hth hgx hg kx KU
          refine wpList_done ?_
          go_upto_region 4 with fail
          go_quiet (fail)
          go_wp2
          go_ret2
          exact ⟨⟨_, _, rfl⟩, Kept.drawn KY.out _⟩
end Go.Proofs.YbulkdsjeGreatDoor
