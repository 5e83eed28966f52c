import Derived.Test.YbulkdsmySil
import Derived.Deep.WholeRow
namespace Go
open Go.RowKit
/-- 'v := x', v a new variable of many cells. -/
theorem wpList_newvar {P : Program} {ops : Array Oper} {rest : List Oper} {o1 o2 : Oper} {a : Act} {w : World} {Q : Exit → Act → World → Prop} (hg1 : o1.guard = none) (hg2 : o2.guard = none) (ty : TypeId) (ho1 : o1.op = .alloc ty) (x y : Operand) (ho2 : o2.op = .store ty x y) (Z cs : Array Value)
    (hz : ∀ w, Sem.run P (Instr.alloc ty true (.tuple #[])) w = .ok (.pointer (some ⟨w.heap.size, 0, none⟩)) (w.alloc (.cells Z ty)))
    (hx : (a.put o1.dst (.pointer (some ⟨w.heap.size, 0, none⟩))).eval x = .pointer (some ⟨w.heap.size, 0, none⟩)) (hy : (a.put o1.dst (.pointer (some ⟨w.heap.size, 0, none⟩))).eval y = .agg cs)
    (hi : (P.info? ty).map (·.size) = some cs.size) (hs : Z.size = cs.size) (h1 : cs.all (·.oneCell') = true)
    (h : wpList P ops Q rest ((a.put o1.dst (.pointer (some ⟨w.heap.size, 0, none⟩))).put o2.dst undef) (w.alloc (.cells cs ty))) : wpList P ops Q (o1 :: o2 :: rest) a w := by
  refine wpList_plain hg1 fun K hK => ?_
  unfold Oper.wp execOp
  simp only [ho1, Sem.run_bind, hz, Result.andThen_ok, Sem.run_pure]
  refine hK _ _ (wpList_plain hg2 fun K hK => ?_)
  unfold Oper.wp execOp
  simp only [ho2, hx, hy, Sem.run_bind, run_storeAt_new w ty Z cs hi hs h1, Result.andThen_ok, Sem.run_pure]
  exact hK _ _ h
end Go
namespace Go.Proofs.Ybulkdsmy
open Go.RowKit

theorem elem33 : Yba.prog.elem 33 = 38 := by kernel_rfl
theorem elem27 : Yba.prog.elem 27 = 31 := by kernel_rfl
theorem u33 : Yba.prog.underlying 33 = some (.slice (Yba.prog.elem 33)) := by rw [elem33]; exact Yba.underlying33
theorem u27 : Yba.prog.underlying 27 = some (.slice (Yba.prog.elem 27)) := by rw [elem27]; exact Yba.underlying27
theorem sizeOf38 (W : World) : Sem.run Yba.prog (Go.sizeOf 38) W = .ok 21 W := by kernel_rfl
theorem sizeOf31 (W : World) : Sem.run Yba.prog (Go.sizeOf 31) W = .ok 21 W := by kernel_rfl
theorem zv38 (w : World) : (zeroValue 38).run Yba.prog w = .ok (.agg (slc ⟨0, 0⟩).toArray) w := by kernel_rfl
theorem cutTo33 (g n c i : Nat) (h : i ≤ c) (W : World) : Sem.run Yba.prog (Instr.sliceAt 33 (.slice (some ⟨g, 0, none⟩) n c) none (some (.int .i64 i)) none) W = .ok (.slice (some ⟨g, 0, none⟩) i c) W := by
  rw [run_sliceAt_slice W 33 _ _ _ _ u33, run_slice_h (P := Yba.prog) W 33 (some ⟨g, 0, none⟩) n c u33 .i64 i (by omega) (by omega), elem33, sizeOf38]
  simp [sliced, Result.andThen, Addr.add]
theorem cutFrom33 (g n c i : Nat) (h : i < n) (hc : n ≤ c) (W : World) : Sem.run Yba.prog (Instr.sliceAt 33 (.slice (some ⟨g, 0, none⟩) n c) (some (.int .i64 i)) none none) W = .ok (.slice (some ⟨g, i * 21, none⟩) (n - i) (c - i)) W := by
  rw [run_sliceAt_slice W 33 _ _ _ _ u33, run_slice_l (P := Yba.prog) W 33 (some ⟨g, 0, none⟩) n c u33 .i64 i (by omega) (by omega), elem33, sizeOf38]
  have h1 : c ≠ i := by omega
  simp only [sliced, Result.andThen, Addr.add, Int.toNat_natCast, Option.map_some, Nat.zero_add]
  rw [if_neg (by omega)]
  by_cases h0 : i * 21 = 0
  · rw [if_pos h0, h0]
  · rw [if_neg h0]

def keep (L : List Pr) (s : Sl) : Bool := has L s.b
theorem zeros_len (n : Nat) : (Builtin.zeroCells (Value.agg (slc ⟨0, 0⟩).toArray).cells n).toList.length = n * 21 := by
  simp [Builtin.zeroCells, Value.cells, slc_len]
theorem zeros_one (n : Nat) : ∀ v ∈ (Builtin.zeroCells (Value.agg (slc ⟨0, 0⟩).toArray).cells n).toList, v.oneCell' = true := by
  intro v hv
  simp only [Builtin.zeroCells, Value.cells, Array.toList_map, List.mem_map] at hv
  obtain ⟨i, _, rfl⟩ := hv
  have hlt : i % (slc ⟨0, 0⟩).toArray.size < (slc ⟨0, 0⟩).toArray.size := Nat.mod_lt _ (by rw [slc_sz]; omega)
  rw [getElem!_pos (slc ⟨0, 0⟩).toArray _ hlt]
  exact slc_one ⟨0, 0⟩ _ (by simp)

/-- What the loop of DeleteFunc keeps. -/
structure Mid (w wq : World) (g n : Nat) (S : List Sl) (L : List Pr) (a b : Nat) : Prop where
  lt : a < b
  le : b ≤ n
  cnt : a = ((S.take b).filter (keep L)).length
  pre : ∀ i s, ((S.take b).filter (keep L))[i]? = some s → wq.rangeAt g (i * 21) (slc s)
  rest : ∀ i s, b ≤ i → S[i]? = some s → wq.rangeAt g (i * 21) (slc s)
  room : wq.there g 0 (n * 21)
  kept : Kept (fun k => k = g) w wq

theorem Mid.skip {w wq w' : World} {g n a b : Nat} {S : List Sl} {L : List Pr} {q : Sl} (M : Mid w wq g n S L a b) (hb : Below wq.heap.size wq w') (hq : S[b]? = some q) (hk : has L q.b = false) (hlt : b < n) : Mid w w' g n S L a (b + 1) := by
  have t : (S.take (b + 1)).filter (keep L) = (S.take b).filter (keep L) := by
    rw [List.take_add_one, hq, List.filter_append]
    simp [keep, hk]
  exact ⟨by have := M.lt; omega, by omega, by rw [t]; exact M.cnt, fun i s h => by rw [t] at h; exact range_kept_below hb (M.pre i s h), fun i s hi h => range_kept_below hb (M.rest i s (by omega) h), there_kept_below hb M.room, M.kept.trans (Kept.ofBelow hb)⟩
theorem there_part {w : World} {g o n o' n' : Nat} (h : w.there g o n) (h1 : o ≤ o') (h2 : o' + n' ≤ o + n) : w.there g o' n' := fun j hj => by
  have := h (o' - o + j) (by omega)
  rwa [show o + (o' - o + j) = o' + j by omega] at this
theorem Mid.take {w wq w' : World} {g n a b : Nat} {S : List Sl} {L : List Pr} {q : Sl} (M : Mid w wq g n S L a b) (hb : Below wq.heap.size wq w') (hq : S[b]? = some q) (hk : has L q.b = true) (hlt : b < n) : Mid w (w'.setCells g (a * 21) (slc q)) g n S L (a + 1) (b + 1) := by
  have t : (S.take (b + 1)).filter (keep L) = (S.take b).filter (keep L) ++ [q] := by
    rw [List.take_add_one, hq, List.filter_append]
    simp [keep, hk]
  have hlt' := M.lt
  have hc := M.cnt
  have room := there_kept_below hb M.room
  refine ⟨by omega, by omega, by rw [t, List.length_append, ← hc]; rfl, fun i s h => ?_, fun i s hi h => ?_, World.there_setCells room _ _ _, (M.kept.trans (Kept.ofBelow hb)).setCells (.inl rfl) _ _⟩
  · rw [t] at h
    rcases Nat.lt_or_ge i a with hi | hi
    · rw [List.getElem?_append_left (by omega)] at h
      exact World.rangeAt_setCells_apart (range_kept_below hb (M.pre i s h)) _ _ _ (by rw [slc_len]; omega)
    · have hi' : i = a := by
        have := (List.getElem?_eq_some_iff.1 h).1
        rw [List.length_append, ← hc] at this
        simp at this
        omega
      subst hi'
      rw [List.getElem?_append_right (by omega), ← hc, Nat.sub_self] at h
      obtain rfl : q = s := by simpa using h
      exact World.rangeAt_setCells_same _ _ _ _ (there_part room (by omega) (by rw [slc_len]; omega))
  · exact World.rangeAt_setCells_apart (range_kept_below hb (M.rest i s (by omega) h)) _ _ _ (by rw [slc_len, slc_len]; omega)

set_option maxHeartbeats 4000000 in
theorem delete_any (S : List Sl) (L : List Pr) (hS : ∀ s ∈ S, 0 ≤ s.b ∧ s.b ≤ 255) (n c B N cap g : Nat) (sl : Option Addr) (w : World) (hn : n = S.length) (hnc : n ≤ c) (hmax : n ≤ 1048576) (hR : Road w B N sl cap L)
    (hs : ∀ i s, S[i]? = some s → w.rangeAt g (i * 21) (slc s)) (hroom : w.there g 0 (n * 21)) (hgB : g ≠ B) (hgN : g ≠ N) (hgl : ∀ x, sl = some ⟨x, 0, none⟩ → g ≠ x) :
    Calls Yba.prog 12 #[.slice (some ⟨g, 0, none⟩) n c, .func (.func 13) #[] #[.pointer (some ⟨B, 0, none⟩)]] w fun e w' =>
      e = .returned (.slice (some ⟨g, 0, none⟩) (S.filter (keep L)).length c) ∧ (∀ i s, (S.filter (keep L))[i]? = some s → w'.rangeAt g (i * 21) (slc s)) ∧ Kept (fun k => k = g) w w' ∧ w'.there g 0 (n * 21) := by
  have K := hid (index_any S L hS n c B N cap (some ⟨g, 0, none⟩) sl w hn hmax hR (fun i s h => ⟨g, rfl, hs i s h⟩))
  have HR := hid hR
  have Hs := hid hs
  have HS := hid hS
  have Hn := hid hn
  have Hroom := hid hroom
  have Hgl := hid hgl
  clear hR hs hS hn hroom hgl
  go_enter Yba.func12, Yba.ntmps12
  go_wp2_with (go_at_call 19; refine K.out.mono ?_; rintro e w1 ⟨(⟨rfl, hall⟩ | ⟨k, hk, rfl, hall, hbad⟩), hb⟩)
  · have he : S.filter (keep L) = S := List.filter_eq_self.2 hall
    have HF := hid (show (S.filter (keep L)).length = n ∧ (∀ i s, (S.filter (keep L))[i]? = some s → w1.rangeAt g (i * 21) (slc s)) from ⟨by rw [he]; exact Hn.out.symm, fun i s h => by rw [he] at h; exact range_kept_below hb (Hs.out i s h)⟩)
    go_wp2
    go_ret
    exact ⟨by rw [HF.out.1]; rfl, HF.out.2, Kept.ofBelow hb, there_kept_below hb Hroom.out⟩
  · obtain ⟨sb, hsb, hbad⟩ := hbad
    have t1 : (S.take k).filter (keep L) = S.take k := List.filter_eq_self.2 hall
    have t2 : (S.take (k + 1)).filter (keep L) = S.take k := by
      rw [List.take_add_one, hsb, List.filter_append, t1]
      simp [keep, hbad]
    have M0 := hid (show Mid w w1 g n S L k (k + 1) from ⟨by omega, by omega, by rw [t2, List.length_take]; have := Hn.out; omega,
      fun i s h => by
        rw [t2] at h
        have hi : i < k := by have := (List.getElem?_eq_some_iff.1 h).1; rw [List.length_take] at this; omega
        rw [List.getElem?_take_of_lt hi] at h
        exact range_kept_below hb (Hs.out i s h),
      fun i s _ h => range_kept_below hb (Hs.out i s h), there_kept_below hb Hroom.out, Kept.ofBelow hb⟩)
    clear hall hb hsb hbad t1 t2
    go_wp2
    have hk1 : ((k : Int) == -1) = false := by rw [beq_eq_false_iff_ne]; omega
    simp only [hk1]
    clear hk1
    go_loopw [5, 6] (fun i j wq => ∃ a b : Nat, i = .int .i64 a ∧ j = .int .i64 b ∧ Mid w wq g n S L a b) (fun _ j _ => n - (intOf j).toNat)
    case atStart => exact ⟨k, k + 1, rfl, by go_num, M0⟩
    case round =>
      obtain ⟨a, b, rfl, rfl, M⟩ := hrel
      have HM := hid M
      have hab := M.lt
      have hbn := M.le
      clear M M0
      by_cases hlt : b < n
      · obtain ⟨q, hq⟩ : ∃ q, S[b]? = some q := ⟨S[b]'(by have := Hn.out; omega), List.getElem?_eq_getElem (by have := Hn.out; omega)⟩
        have hli : (b : Int) < (n : Int) := by omega
        have HQ := hid (HM.out.rest b q (Nat.le_refl _) hq)
        have hq255 := HS.out q (List.mem_of_getElem? hq)
        have bl : Below wr.heap.size wr (wr.alloc (.cells (slc q).toArray 38)) := (Below.refl _ _).alloc (Nat.le_refl _) _
        have Rd := (HR.out.kept HM.out.kept (Ne.symm hgB) (Ne.symm hgN) (fun x hx => Ne.symm (Hgl.out x hx))).below bl
        have K := hid (unlinked_any q L hq255 B N cap sl _ Rd.box Rd.links)
        have HV := hid (range_new wr (slc q) 38)
        have BL := hid bl
        clear Rd bl
        cases hh : has L q.b with
        | false =>
          rw [hh] at K
          have HH := hid hh
          have HQ' := hid hq
          clear hh hq
          go_wp2_with (first
            | (show wpList _ _ _ (⟨_, .load 38 _, _, _, _, _⟩ :: _) _ _; refine wpList_load_mid rfl 38 _ rfl g (b * 21) rfl (slc q) _ HQ Yba.underlying38 rfl (info38 _) ?_)
            | (show wpList _ _ _ (⟨_, .alloc 38, _, _, _, _⟩ :: _) _ _; refine wpList_newvar rfl rfl 38 rfl _ _ rfl (slc ⟨0, 0⟩).toArray (slc q).toArray al38 rfl rfl (info38a _) (by rw [slc_sz, slc_sz]) (one38 _) ?_)
            | (show wpList _ _ _ (⟨_, .load 38 _, _, _, _, _⟩ :: _) _ _; refine wpList_load_mid rfl 38 _ rfl wr.heap.size 0 rfl (slc q) _ HV Yba.underlying38 rfl (info38 _) ?_)
            | (go_at_call 13; refine K.out.mono ?_; rintro e w' ⟨rfl, hb⟩))
          go_roundw
          case rel => exact ⟨a, b + 1, rfl, by go_num, HM.out.skip (Below.trans BL (Below.mono hb BL.out.size)) HQ'.out HH.out hlt⟩
          case measure => simp [intOf]; omega
        | true =>
          rw [hh] at K
          have HH := hid hh
          have HQ' := hid hq
          clear hh hq
          go_wp2_with (first
            | (show wpList _ _ _ (⟨_, .load 38 _, _, _, _, _⟩ :: _) _ _; refine wpList_load_mid rfl 38 _ rfl g (b * 21) rfl (slc q) _ HQ Yba.underlying38 rfl (info38 _) ?_; clear HQ)
            | (show wpList _ _ _ (⟨_, .alloc 38, _, _, _, _⟩ :: _) _ _; refine wpList_newvar rfl rfl 38 rfl _ _ rfl (slc ⟨0, 0⟩).toArray (slc q).toArray al38 rfl rfl (info38a _) (by rw [slc_sz, slc_sz]) (one38 _) ?_)
            | (show wpList _ _ _ (⟨_, .load 38 _, _, _, _, _⟩ :: _) _ _; refine wpList_load_mid rfl 38 _ rfl wr.heap.size 0 rfl (slc q) _ HV Yba.underlying38 rfl (info38 _) ?_)
            | (show wpList _ _ _ (⟨_, .load 38 _, _, _, _, _⟩ :: _) _ _; refine wpList_load_mid rfl 38 _ rfl wr.heap.size 0 rfl (slc q) _ HV' Yba.underlying38 rfl (info38 _) ?_)
            | (show wpList _ _ _ (⟨_, .store 38 _ _, _, _, _, _⟩ :: _) _ _; refine wpList_store_mid rfl 38 _ _ rfl g (a * 21) (slc q).toArray rfl rfl HT (info38a _) (one38 _) ?_)
            | (go_at_call 13; refine K.out.mono ?_; rintro e w' ⟨rfl, hb⟩; have HV' := hid (range_kept_below hb HV.out); have HT := hid (show w'.there g (a * 21) (slc q).toArray.size by rw [slc_sz]; exact there_part (there_kept_below (Below.trans BL (Below.mono hb BL.out.size)) HM.out.room) (by omega) (by omega)); clear HV))
          go_roundw
          case rel => exact ⟨a + 1, b + 1, by go_num, by go_num, HM.out.take (Below.trans BL (Below.mono hb BL.out.size)) HQ'.out HH.out hlt⟩
          case measure => simp [intOf]; omega
      · have hbe : b = n := by omega
        have c1 := cutFrom33 g n c a (by omega) hnc
        have c2 := cutTo33 g n c a (by omega)
        have HF := hid (show a = (S.filter (keep L)).length ∧ ∀ i s, (S.filter (keep L))[i]? = some s → wr.rangeAt g (i * 21) (slc s) by
          have : S.take b = S := List.take_of_length_le (by have := Hn.out; omega)
          have h1 := HM.out.cnt
          have h2 := HM.out.pre
          rw [this] at h1 h2
          exact ⟨h1, h2⟩)
        obtain ⟨d, hd⟩ : ∃ d, n - a = d + 1 := ⟨n - a - 1, by omega⟩
        rw [hd] at c1
        have HT := hid (show wr.there g (a * 21) (Builtin.zeroCells (Value.agg (slc ⟨0, 0⟩).toArray).cells (d + 1)).toList.length by rw [zeros_len]; exact there_part HM.out.room (by omega) (by omega))
        go_wp2_with (first
          | (refine wpList_clear rfl _ 33 38 rfl Yba.underlying33 g (a * 21) d (c - a) rfl _ zv38 (zeros_one _) HT ?_))
        go_ret
        refine ⟨by rw [← HF.out.1]; rfl, fun i s h => ?_, HM.out.kept.setCells (.inl rfl) _ _, World.there_setCells HM.out.room _ _ _⟩
        have hi := (List.getElem?_eq_some_iff.1 h).1
        rw [← HF.out.1] at hi
        exact World.rangeAt_setCells_apart (HF.out.2 i s h) _ _ _ (by rw [slc_len]; omega)
end Go.Proofs.Ybulkdsmy
