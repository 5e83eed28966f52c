import Derived.Test.YbulkdsicGreatComp
set_option linter.unusedVariables false
set_option linter.unusedSimpArgs false
namespace Go.Proofs.YbulkdsicGreat
open Go.RowKit Go.Shelf

/-- A plan's tree. -/
structure PT where
  mk ::
  s : ByteArray
  par : Bool
  kids : Option (List PT)

/-- A node's three cells say the tree T. -/
def NodeIs (W : World) : Nat → PT → Value → Value → Value → Prop
  | 0, _, _, _, _ => False
  | d + 1, .mk s p none, a, b, c => a = .string s ∧ b = .bool p ∧ c = .slice none 0 0
  | d + 1, .mk s p (some ks), a, b, c => a = .string s ∧ b = .bool p ∧ ks.length ≤ 300 ∧ ∃ g o cap, c = .slice (some ⟨g, o, none⟩) ks.length cap ∧ ∀ k t, ks[k]? = some t → ∃ x y z, W.rangeAt g (o + k * 3) [x, y, z] ∧ NodeIs W d t x y z

theorem NodeIs.below {W W' : World} (hb : Below W.heap.size W W') : ∀ (d : Nat) (T : PT) (a b c : Value), NodeIs W d T a b c → NodeIs W' d T a b c
  | 0, _, _, _, _, h => h.elim
  | d + 1, .mk s p none, a, b, c, h => h
  | d + 1, .mk s p (some ks), a, b, c, h => by
    obtain ⟨h1, h2, h3, g, o, cap, h4, h5⟩ := h
    refine ⟨h1, h2, h3, g, o, cap, h4, fun k t ht => ?_⟩
    obtain ⟨x, y, z, hr, hn⟩ := h5 k t ht
    exact ⟨x, y, z, range_kept_below hb hr, NodeIs.below hb d t x y z hn⟩

theorem bx42 (x y z : Value) (w : World) : Sem.run Ybaz.prog (Instr.box 42 (.agg #[x, y, z])) w = .ok (.pointer (some ⟨w.heap.size, 0, none⟩)) (w.alloc (.cells #[x, y, z] 42)) := by kernel_rfl

set_option maxRecDepth 100000 in
set_option maxHeartbeats 4000000 in
theorem eq_any : ∀ (d : Nat) (T : PT) (a b c a' b' c' : Value) (w : World), NodeIs w d T a b c → NodeIs w d T a' b' c' →
    Calls Ybaz.prog 6 #[.agg #[a, b, c], .agg #[a', b', c']] w fun e w' => e = .returned (.bool true) ∧ Below w.heap.size w w'
  | 0, T, a, b, c, a', b', c', w, h, h' => h.elim
  | d + 1, .mk s p none, a, b, c, a', b', c', w, h, h' => by
    obtain ⟨rfl, rfl, rfl⟩ := h
    obtain ⟨rfl, rfl, rfl⟩ := h'
    have B0 := hid (((Below.refl w.heap.size w).alloc (Nat.le_refl _) (.cells #[.string s, .bool p, .slice none 0 0] 42)).alloc (by simp) (.cells #[.string s, .bool p, .slice none 0 0] 42))
    have hnil : ∀ w, Sem.run Ybaz.prog (binOp .eql 40 (.slice none 0 0) (.slice none 0 0)) w = .ok (.bool true) w := fun w => by kernel_rfl
    go_enter Ybaz.func6, Ybaz.ntmps6
    go_wp2_with (refine wpList_box_as rfl 42 _ rfl #[.string s, .bool p, .slice none 0 0] rfl (bx42 _ _ _) ?_)
    refine wp_loop_rounds 1 ?_
    rw [rounds_succ]
    go_wp2
    go_ret
    exact ⟨rfl, B0.out⟩
  | d + 1, .mk s p (some ks), a, b, c, a', b', c', w, h, h' => by
    obtain ⟨rfl, rfl, hlen, g, o, cap, rfl, hk⟩ := h
    obtain ⟨rfl, rfl, _, g', o', cap', rfl, hk'⟩ := h'
    have hnil : ∀ (g o n c : Nat) w, Sem.run Ybaz.prog (binOp .eql 40 (.slice (some ⟨g, o, none⟩) n c) (.slice none 0 0)) w = .ok (.bool false) w := fun g o n c w => by kernel_rfl
    obtain ⟨W0, hW0⟩ : ∃ W0, (w.alloc (.cells #[.string s, .bool p, .slice (some ⟨g, o, none⟩) ks.length cap] 42)).alloc (.cells #[.string s, .bool p, .slice (some ⟨g', o', none⟩) ks.length cap'] 42) = W0 := ⟨_, rfl⟩
    have b0 : Below w.heap.size w W0 := by rw [← hW0]; exact ((Below.refl w.heap.size w).alloc (Nat.le_refl _) _).alloc (by simp) _
    have q0 : W0.cell? ⟨w.heap.size, 2, none⟩ = some (.slice (some ⟨g, o, none⟩) ks.length cap) := by
      rw [← hW0]; exact cell_old _ (by simp)
    have q1 : W0.cell? ⟨w.heap.size + 1, 2, none⟩ = some (.slice (some ⟨g', o', none⟩) ks.length cap') := by
      rw [← hW0]; simp
    have s0 : w.heap.size + 2 ≤ W0.heap.size := by rw [← hW0]; simp
    have q2 : W0.cell? ⟨w.heap.size, 0, none⟩ = some (.string s) := by rw [← hW0]; exact cell_old _ (by simp)
    have q3 : W0.cell? ⟨w.heap.size, 1, none⟩ = some (.bool p) := by rw [← hW0]; exact cell_old _ (by simp)
    have q4 : W0.cell? ⟨w.heap.size + 1, 0, none⟩ = some (.string s) := by rw [← hW0]; simp
    have q5 : W0.cell? ⟨w.heap.size + 1, 1, none⟩ = some (.bool p) := by rw [← hW0]; simp
    have R0 := hid (show Below w.heap.size w W0 ∧ W0.cell? ⟨w.heap.size, 2, none⟩ = some (.slice (some ⟨g, o, none⟩) ks.length cap) ∧ W0.cell? ⟨w.heap.size + 1, 2, none⟩ = some (.slice (some ⟨g', o', none⟩) ks.length cap') ∧ w.heap.size + 2 ≤ W0.heap.size from ⟨b0, q0, q1, s0⟩)
    have HK := hid hk
    have HK' := hid hk'
    have IH := hid (fun T a b c a' b' c' w => eq_any d T a b c a' b' c' w)
    clear hk hk' b0 s0
    go_enter Ybaz.func6, Ybaz.ntmps6
    go_wp2_with (first
      | (refine wpList_box_as rfl 42 (.tmp 0) rfl #[.string s, .bool p, .slice (some ⟨g, o, none⟩) ks.length cap] rfl (bx42 _ _ _) ?_)
      | (refine wpList_box_as rfl 42 (.tmp 1) rfl #[.string s, .bool p, .slice (some ⟨g', o', none⟩) ks.length cap'] rfl (bx42 _ _ _) ?_))
    clear q0 q1 q2 q3 q4 q5
    go_loopw [39] (fun x W => ∃ k : Nat, k ≤ ks.length ∧ x = vi k ∧ Below w.heap.size w W ∧ W.cell? ⟨w.heap.size, 2, none⟩ = some (.slice (some ⟨g, o, none⟩) ks.length cap) ∧ W.cell? ⟨w.heap.size + 1, 2, none⟩ = some (.slice (some ⟨g', o', none⟩) ks.length cap') ∧ w.heap.size + 2 ≤ W.heap.size) (fun x _ => ks.length - (intOf x).toNat)
    case atStart => exact ⟨0, Nat.zero_le _, rfl, R0.out⟩
    case round =>
      obtain ⟨k, hkl, rfl, hb, c0, c1, hsz⟩ := hrel
      clear R0
      by_cases hlt : k < ks.length
      · have hli : (k : Int) < (ks.length : Int) := by omega
        obtain ⟨t, ht⟩ : ∃ t, ks[k]? = some t := ⟨ks[k], List.getElem?_eq_getElem hlt⟩
        obtain ⟨x, y, z, hr, hn⟩ := HK.out k t ht
        obtain ⟨x', y', z', hr', hn'⟩ := HK'.out k t ht
        have kp : Kept (fun _ => False) w wr := ⟨hb.os, hb.tape, hb.output, hb.size, fun i hi _ => hb.block i hi⟩
        have r1 := kp.range (fun h => h) hr
        have r2 := kp.range (fun h => h) hr'
        have d0 : wr.cell? ⟨g, o + k * 3, none⟩ = some x := by simpa using r1 0 _ rfl
        have d1 : wr.cell? ⟨g, o + k * 3 + 1, none⟩ = some y := by simpa using r1 1 _ rfl
        have d2 : wr.cell? ⟨g, o + k * 3 + 2, none⟩ = some z := by simpa using r1 2 _ rfl
        have e0 : wr.cell? ⟨g', o' + k * 3, none⟩ = some x' := by simpa using r2 0 _ rfl
        have e1 : wr.cell? ⟨g', o' + k * 3 + 1, none⟩ = some y' := by simpa using r2 1 _ rfl
        have e2 : wr.cell? ⟨g', o' + k * 3 + 2, none⟩ = some z' := by simpa using r2 2 _ rfl
        have EQ : Hid (∀ nq, Calls Ybaz.prog 6 #[.agg #[x, y, z], .agg #[x', y', z']] (wr.drewN nq) fun e w' => e = .returned (.bool true) ∧ Below (wr.drewN nq).heap.size (wr.drewN nq) w') := hid fun nq => IH.out t x y z x' y' z' _ (NodeIs.below (W' := wr.drewN nq) ⟨hb.os, hb.tape, hb.output, hb.size, fun i hi => hb.block i hi⟩ d t x y z hn) (NodeIs.below (W' := wr.drewN nq) ⟨hb.os, hb.tape, hb.output, hb.size, fun i hi => hb.block i hi⟩ d t x' y' z' hn')
        have R1 := hid (show Below w.heap.size w wr ∧ wr.cell? ⟨w.heap.size, 2, none⟩ = some (.slice (some ⟨g, o, none⟩) ks.length cap) ∧ wr.cell? ⟨w.heap.size + 1, 2, none⟩ = some (.slice (some ⟨g', o', none⟩) ks.length cap') ∧ w.heap.size + 2 ≤ wr.heap.size from ⟨hb, c0, c1, hsz⟩)
        clear hn hn' hr hr' r1 r2 kp hb IH ht
        go_wp2
        refine wp_region_quiet_tail 10 (fun w' => ∃ nq, w' = wr.drewN nq) mixed (by kernel_rfl) ⟨1, rfl⟩ ?_
        dsimp only [List.take, List.drop]
        repeat go_big_quiet_step (fail)
        refine wpQuiet_nil ?_
        rintro _ ⟨nq, rfl⟩
        go_wp2_with (go_at_call 6; refine (EQ.out nq).mono ?_; rintro e W2 ⟨rfl, hb2⟩; have B2 := hid hb2; clear hb2 EQ)
        go_roundw
        case rel =>
          obtain ⟨u1, u2, u3, u4⟩ := R1.out
          have bq : Below wr.heap.size wr W2 := ⟨B2.out.os, B2.out.tape, B2.out.output, B2.out.size, fun i hi => B2.out.block i hi⟩
          have kq : Kept (fun _ => False) wr W2 := Kept.ofBelow bq
          exact ⟨k + 1, by omega, by go_num, u1.trans (bq.mono u1.size), kq.cell (fun h => h) u2, kq.cell (fun h => h) u3, Nat.le_trans u4 bq.size⟩
        case measure => simp [intOf]; omega
      · obtain rfl : k = ks.length := by omega
        have B1 := hid hb
        clear hb
        go_wp2
        go_ret
        exact ⟨rfl, B1.out⟩
end Go.Proofs.YbulkdsicGreat
