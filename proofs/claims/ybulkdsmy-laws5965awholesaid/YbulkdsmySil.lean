import Derived.Test.YbulkdsmyFind
namespace Go
open Go.RowKit
/-- All blocks but those of E are as they were. -/
structure Kept (E : Nat → Prop) (w w' : World) : Prop where
  os : w'.os = w.os
  tape : w'.tape = w.tape
  output : w'.output = w.output
  size : w.heap.size ≤ w'.heap.size
  block : ∀ k, k < w.heap.size → ¬ E k → w'.heap[k]? = w.heap[k]?
namespace Kept
variable {E E' : Nat → Prop} {a b c w w' : World}
theorem refl (E : Nat → Prop) (w : World) : Kept E w w := ⟨rfl, rfl, rfl, Nat.le_refl _, fun _ _ _ => rfl⟩
theorem trans (h : Kept E a b) (k : Kept E b c) : Kept E a c :=
  ⟨k.os.trans h.os, k.tape.trans h.tape, k.output.trans h.output, Nat.le_trans h.size k.size, fun i hi hE => (k.block i (Nat.lt_of_lt_of_le hi h.size) hE).trans (h.block i hi hE)⟩
theorem weak (h : Kept E a b) (hE : ∀ i, i < a.heap.size → E i → E' i) : Kept E' a b := ⟨h.os, h.tape, h.output, h.size, fun i hi hn => h.block i hi fun he => hn (hE i hi he)⟩
theorem ofBelow (h : Below w.heap.size w w') : Kept E w w' := ⟨h.os, h.tape, h.output, h.size, fun i hi _ => h.block i hi⟩
theorem toBelow {B : Nat} (h : Kept E w w') (hE : ∀ i, i < B → ¬ E i) (hB : B ≤ w.heap.size) : Below B w w' := ⟨h.os, h.tape, h.output, h.size, fun i hi => h.block i (by omega) (hE i hi)⟩
theorem alloc (h : Kept E a w) (o : Obj) : Kept E a (w.alloc o) := h.trans (ofBelow ((Below.refl _ _).alloc (Nat.le_refl _) _))
theorem drew (h : Kept E a w) : Kept E a w.drew := ⟨h.os, h.tape, h.output, h.size, h.block⟩
theorem setCell (h : Kept E a w) {p : Addr} (hp : E p.block ∨ a.heap.size ≤ p.block) (u : Value) : Kept E a (w.setCell p u) :=
  ⟨h.os, h.tape, h.output, by simpa using h.size, fun i hi hn => by
    rw [Below.heap_setCell w p u i (fun he => by subst he; rcases hp with hp | hp; exact hn hp; omega)]
    exact h.block i hi hn⟩
theorem setCells (h : Kept E a w) {g : Nat} (hg : E g ∨ a.heap.size ≤ g) (o : Nat) (vs : List Value) : Kept E a (w.setCells g o vs) := by
  induction vs generalizing o w with
  | nil => exact h
  | cons v r ih => exact ih (h.setCell (p := ⟨g, o, none⟩) hg v) (o + 1)
theorem grown {row : Option Nat} (h : Kept E a w) (hg : w.grownBy w' row) (hr : ∀ k, row = some k → E k ∨ a.heap.size ≤ k) : Kept E a w' :=
  ⟨hg.os.trans h.os, hg.tape.trans h.tape, hg.output.trans h.output, Nat.le_trans h.size hg.size, fun i hi hn => by
    rw [hg.block i (Nat.lt_of_lt_of_le hi h.size) (fun he => by rcases hr i he.symm with h1 | h1; exact hn h1; omega)]
    exact h.block i hi hn⟩
theorem cell (h : Kept E w w') {p : Addr} {v : Value} (hp : ¬ E p.block) (hv : w.cell? p = some v) : w'.cell? p = some v := by
  rw [World.cell?_of_block (w := w) (h.block p.block (World.block_lt_of_cell? w _ hv) hp)]; exact hv
theorem range (h : Kept E w w') {b o : Nat} {cs : List Value} (hb : ¬ E b) (hr : w.rangeAt b o cs) : w'.rangeAt b o cs := fun j v hv => h.cell (p := ⟨b, o + j, none⟩) hb (hr j v hv)
theorem there (h : Kept E w w') {b o n : Nat} (hb : ¬ E b) (hr : w.there b o n) : w'.there b o n := fun j hj => by
  obtain ⟨h1, h2⟩ := hr j hj
  obtain ⟨u, hu⟩ := Option.isSome_iff_exists.1 h1
  have hlt := World.block_lt_of_cell? w _ hu
  refine ⟨by rw [h.cell (p := ⟨b, o + j, none⟩) hb hu]; rfl, ?_⟩
  rw [World.frozen?_of_block (w := w) (h.block b hlt hb)]
  exact h2
end Kept
theorem range_kept_below {w w' : World} (h : Below w.heap.size w w') {b o : Nat} {cs : List Value} (hr : w.rangeAt b o cs) : w'.rangeAt b o cs := (Kept.ofBelow (E := fun _ => False) h).range (fun h => h) hr
theorem there_kept_below {w w' : World} (h : Below w.heap.size w w') {b o n : Nat} (hr : w.there b o n) : w'.there b o n := (Kept.ofBelow (E := fun _ => False) h).there (fun h => h) hr

/-- 'clear(s)' of a slice that shows something. -/
theorem wpList_clear {P : Program} {ops : Array Oper} {rest : List Oper} {o : Oper} {a : Act} {w : World} {Q : Exit → Act → World → Prop} (hgd : o.guard = none) (x : Operand) (t e : TypeId) (ho : o.op = .call { callee := .builtin .clear, args := #[x], argTypes := #[t] })
    (ht : P.underlying t = some (.slice e)) (g off n c : Nat) (hx : a.eval x = .slice (some ⟨g, off, none⟩) (n + 1) c) (z : Value) (hz : ∀ w, (zeroValue e).run P w = .ok z w) (h1 : ∀ v ∈ (Builtin.zeroCells z.cells (n + 1)).toList, v.oneCell' = true)
    (hth : w.there g off (Builtin.zeroCells z.cells (n + 1)).toList.length)
    (h : wpList P ops Q rest (a.put o.dst (.tuple #[])) (w.setCells g off (Builtin.zeroCells z.cells (n + 1)).toList)) : wpList P ops Q (o :: rest) a w := by
  refine wpList_plain hgd fun K hK => ?_
  have hs := run_storeCells_cells (P := P) g off (Builtin.zeroCells z.cells (n + 1)).toList 0 w (fun j hj => by simpa using (hth j hj).1) (fun j hj => by simpa using (hth j hj).2) h1
  rw [Nat.add_zero] at hs
  have hu : ∀ w, (underlying t).run P w = .ok (.slice e) w := fun w => run_underlying ht w
  have hc : (Builtin.clear_ #[t] o.type #[.slice (some ⟨g, off, none⟩) (n + 1) c]).run P w = .ok (.tuple #[]) (w.setCells g off (Builtin.zeroCells z.cells (n + 1)).toList) := by
    have e0 : (#[t][0]?, #[Value.slice (some ⟨g, off, none⟩) (n + 1) c][0]?) = (some t, some (Value.slice (some ⟨g, off, none⟩) (n + 1) c)) := rfl
    simp only [Builtin.clear_, e0, Sem.run_bind, hu, Result.andThen_ok, hz, hs, Sem.run_pure]
    rfl
  unfold Oper.wp execOp
  simp only [ho, resolve, invoke, builtin, Sem.run_bind, Sem.run_pure, Result.andThen_ok, List.map_toArray, List.map_cons, List.map_nil, hx, hc]
  exact hK _ _ h
end Go
namespace Go.Proofs.Ybulkdsmy
open Go.RowKit

/-- A silence: the last byte of its identifier, and its periods. -/
structure Sl where
  b : Int
  n : Int
def slc (s : Sl) : List Value := idc s.b ++ [.int .i64 s.n]
theorem slc_len (s : Sl) : (slc s).length = 21 := by simp [slc, idc_len]
theorem slc_sz (s : Sl) : (slc s).toArray.size = 21 := by simp [slc_len]
theorem size38 : (Yba.prog.info? 38).map (·.size) = some 21 := by kernel_rfl
theorem info38 (s : Sl) : (Yba.prog.info? 38).map (·.size) = some (slc s).length := by rw [slc_len]; exact size38
theorem info38a (s : Sl) : (Yba.prog.info? 38).map (·.size) = some (slc s).toArray.size := by rw [slc_sz]; exact size38
theorem slc_one (s : Sl) : ∀ v ∈ slc s, v.oneCell' = true := by
  intro v hv
  simp only [slc, List.mem_append, List.mem_singleton] at hv
  rcases hv with hv | rfl
  · exact idc_one _ v hv
  · rfl
theorem one38 (s : Sl) : (slc s).toArray.all (·.oneCell') = true := all_oneCell_toArray (slc_one s)
theorem bx38 (s : Sl) (w : World) : Sem.run Yba.prog (Instr.box 38 (.agg (slc s).toArray)) w = .ok (.pointer (some ⟨w.heap.size, 0, none⟩)) (w.alloc (.cells (slc s).toArray 38)) := by kernel_rfl
theorem al38 (w : World) : Sem.run Yba.prog (Instr.alloc 38 true (.tuple #[])) w = .ok (.pointer (some ⟨w.heap.size, 0, none⟩)) (w.alloc (.cells (slc ⟨0, 0⟩).toArray 38)) := by kernel_rfl
theorem range_slid {w : World} {b o : Nat} {s : Sl} (h : w.rangeAt b o (slc s)) : w.rangeAt b o (idc s.b) := fun j v hv => h j v (by
  rw [slc, List.getElem?_append_left (by rw [idc_len]; have := (List.getElem?_eq_some_iff.1 hv).1; rwa [idc_len] at this)]; exact hv)

set_option maxHeartbeats 1000000 in
theorem unlinked_any (s : Sl) (L : List Pr) (hs : 0 ≤ s.b ∧ s.b ≤ 255) (B N cap : Nat) (sa : Option Addr) (w : World) (hB : w.cell? ⟨B, 0, none⟩ = some (.pointer (some ⟨N, 0, none⟩))) (h : Links w N sa cap L) :
    Calls Yba.prog 13 #[.agg (slc s).toArray, .pointer (some ⟨B, 0, none⟩)] w fun e w' => e = .returned (.bool (!has L s.b)) ∧ Below w.heap.size w w' := by
  have hB' := cell?_alloc_old (.cells (slc s).toArray 38) hB
  have R := hid (range_slid (range_new w (slc s) 38))
  have bl : Below w.heap.size w (w.alloc (.cells (slc s).toArray 38)) := (Below.refl _ _).alloc (Nat.le_refl _) _
  have K := hid (linksTo_any ⟨ByteArray.empty, s.b⟩ L hs N cap sa (w.alloc (.cells (slc s).toArray 38)) ⟨cell?_alloc_old _ h.field, peers_below h.peers bl, h.few, h.ok⟩)
  clear h
  go_enter Yba.func13, Yba.ntmps13
  go_wp2_with (first
    | (refine wpList_box_as rfl 38 _ rfl (slc s).toArray rfl (bx38 s) ?_)
    | (refine wpList_load_mid rfl 29 _ rfl w.heap.size 0 rfl (idc s.b) _ R Yba.underlying29 rfl (info29 _) ?_)
    | (refine wpList_buildAs rfl 31 _ rfl (.agg (prc ⟨ByteArray.empty, s.b⟩).toArray) (fun w => by kernel_rfl) ?_)
    | (go_at_call 11; refine K.out.mono ?_; rintro e w' ⟨rfl, hb⟩))
  go_ret
  exact ⟨rfl, Below.trans bl (hb.mono (by simp))⟩

/-- The silences that a slice shows. -/
def SilsAt (w : World) (sa : Option Addr) (S : List Sl) : Prop := ∀ i s, S[i]? = some s → ∃ g, sa = some ⟨g, 0, none⟩ ∧ w.rangeAt g (i * 21) (slc s)

/-- What 'n.LinksTo' asks of memory. -/
structure Road (w : World) (B N : Nat) (sl : Option Addr) (cap : Nat) (L : List Pr) : Prop where
  box : w.cell? ⟨B, 0, none⟩ = some (.pointer (some ⟨N, 0, none⟩))
  links : Links w N sl cap L
theorem Road.below {w w' : World} {B N : Nat} {sl : Option Addr} {cap : Nat} {L : List Pr} (h : Road w B N sl cap L) (hb : Below w.heap.size w w') : Road w' B N sl cap L :=
  ⟨(Kept.ofBelow (E := fun _ => False) hb).cell (fun h => h) h.box, (Kept.ofBelow (E := fun _ => False) hb).cell (fun h => h) h.links.field, peers_below h.links.peers hb, h.links.few, h.links.ok⟩
theorem Road.kept {E : Nat → Prop} {w w' : World} {B N : Nat} {sl : Option Addr} {cap : Nat} {L : List Pr} (h : Road w B N sl cap L) (hb : Kept E w w') (h1 : ¬ E B) (h2 : ¬ E N) (h3 : ∀ g, sl = some ⟨g, 0, none⟩ → ¬ E g) : Road w' B N sl cap L :=
  ⟨hb.cell h1 h.box, hb.cell h2 h.links.field, fun i p hp => by
    obtain ⟨g, hg, hr⟩ := h.links.peers i p hp
    exact ⟨g, hg, hb.range (h3 g hg) hr⟩, h.links.few, h.links.ok⟩

set_option maxHeartbeats 1000000 in
theorem index_any (S : List Sl) (L : List Pr) (hS : ∀ s ∈ S, 0 ≤ s.b ∧ s.b ≤ 255) (n c B N cap : Nat) (sa sl : Option Addr) (w : World) (hn : n = S.length) (hmax : n ≤ 1048576) (hR : Road w B N sl cap L) (hs : SilsAt w sa S) :
    Calls Yba.prog 19 #[.slice sa n c, .func (.func 13) #[] #[.pointer (some ⟨B, 0, none⟩)]] w fun e w' =>
      ((e = .returned (.int .i64 (-1)) ∧ ∀ s ∈ S, has L s.b = true) ∨ ∃ k : Nat, k < n ∧ e = .returned (.int .i64 k) ∧ (∀ s ∈ S.take k, has L s.b = true) ∧ ∃ s, S[k]? = some s ∧ has L s.b = false) ∧ Below w.heap.size w w' := by
  have HR := hid hR
  have Hs := hid hs
  have HS := hid hS
  have Hn := hid hn
  clear hR hs hS hn
  go_enter Yba.func19, Yba.ntmps19
  go_wp2
  go_loopw [8] (fun i wq => ∃ m : Nat, m ≤ n ∧ i = .int .i64 m ∧ Below w.heap.size w wq ∧ ∀ s ∈ S.take m, has L s.b = true) (fun i _ => n - (intOf i).toNat)
  case atStart => exact ⟨0, Nat.zero_le _, rfl, Below.refl _ _, by simp⟩
  case round =>
    obtain ⟨m, hm, rfl, hbl, hno⟩ := hrel
    have HN := hid hno
    have HBL := hid hbl
    clear hno hbl
    by_cases hlt : m < n
    · obtain ⟨q, hq⟩ : ∃ q, S[m]? = some q := ⟨S[m]'(by have := Hn.out; omega), List.getElem?_eq_getElem (by have := Hn.out; omega)⟩
      have hli : (m : Int) < (n : Int) := by omega
      obtain ⟨g, rfl, hr⟩ := Hs.out m q hq
      have HR' := hid (range_kept_below HBL.out hr)
      have hq255 := HS.out q (List.mem_of_getElem? hq)
      have Rd := HR.out.below HBL.out
      have K := hid (unlinked_any q L hq255 B N cap sl wr Rd.box Rd.links)
      clear hr Rd
      cases hh : has L q.b with
      | false =>
        rw [hh] at K
        have HF := hid (show ∃ s, S[m]? = some s ∧ has L s.b = false from ⟨q, hq, hh⟩)
        clear hh
        go_wp2_with (first
          | (refine wpList_load_mid rfl 38 _ rfl g (m * 21) rfl (slc q) _ HR' Yba.underlying38 rfl (info38 _) ?_)
          | (go_at_call 13; refine K.out.mono ?_; rintro e w' ⟨rfl, hb⟩))
        go_ret
        exact ⟨.inr ⟨m, hlt, rfl, HN.out, HF.out⟩, Below.trans HBL (Below.mono hb HBL.out.size)⟩
      | true =>
        rw [hh] at K
        have HF := hid (show ∀ s ∈ S.take (m + 1), has L s.b = true by
          intro s hs
          rw [List.take_add_one, hq, List.mem_append] at hs
          rcases hs with hs | hs
          · exact HN.out s hs
          · have : s = q := by simpa using hs
            rw [this]; exact hh)
        clear hh
        go_wp2_with (first
          | (refine wpList_load_mid rfl 38 _ rfl g (m * 21) rfl (slc q) _ HR' Yba.underlying38 rfl (info38 _) ?_)
          | (go_at_call 13; refine K.out.mono ?_; rintro e w' ⟨rfl, hb⟩))
        go_roundw
        case rel => exact ⟨m + 1, by omega, by go_num, Below.trans HBL (Below.mono hb HBL.out.size), HF⟩
        case measure => simp [intOf]; omega
    · have HF := hid (show ∀ s ∈ S, has L s.b = true by
        have : S.take m = S := List.take_of_length_le (by have := Hn.out; omega)
        rw [this] at HN
        exact HN.out)
      go_wp2
      go_ret
      exact ⟨.inl ⟨rfl, HF.out⟩, HBL.out⟩

end Go.Proofs.Ybulkdsmy
