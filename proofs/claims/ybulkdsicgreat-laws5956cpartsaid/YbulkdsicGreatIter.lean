import Derived.Test.YbulkdsicGreatKit
namespace Go.Proofs.YbulkdsicGreat
open Go.RowKit

attribute [local go_sem] Oper.semAt_some

abbrev vi (k : Nat) : Value := .int .i64 k
abbrev sl (b o n c : Nat) : Value := .slice (some ⟨b, o, none⟩) n c

theorem bx53 (x y z : Value) (w : World) : Sem.run Ybaz.prog (Instr.box 53 (.agg #[x, y, z])) w = .ok (.pointer (some ⟨w.heap.size, 0, none⟩)) (w.alloc (.cells #[x, y, z] 53)) := by kernel_rfl

set_option maxHeartbeats 1000000 in
theorem needsOf_any (mv nv fv : Value) (i : Nat) (w : World) :
    Calls Ybaz.prog 29 #[.agg #[mv, nv, fv], vi i] w fun e w' => e = .returned (.func (.func 46) #[] #[.pointer (some ⟨w.heap.size, 0, none⟩), .pointer (some ⟨w.heap.size + 1, 0, none⟩)]) ∧
      w' = (w.alloc (.cells #[mv, nv, fv] 53)).alloc (.cells #[vi i] 3) := by
  go_enter Ybaz.func29, Ybaz.ntmps29
  go_wp2_with (refine wpList_box_as rfl 53 _ rfl #[mv, nv, fv] rfl (bx53 mv nv fv) ?_)
  go_ret
  exact ⟨rfl, rfl⟩

theorem grownBy_drewN (W : World) (n : Nat) : W.grownBy (W.drewN n) none := ⟨rfl, rfl, rfl, Nat.le_refl _, fun _ _ _ => rfl⟩
/-- What a round keeps: these blocks. -/
def KpL (L : List Nat) (W W' : World) : Prop := ∀ b ∈ L, W'.heap[b]? = W.heap[b]?
theorem KpL.trans {L : List Nat} {A B C : World} (h : KpL L A B) (k : KpL L B C) : KpL L A C := fun b hb => (k b hb).trans (h b hb)
theorem KpL.refl (L : List Nat) (A : World) : KpL L A A := fun _ _ => rfl
theorem KpL.cell {L : List Nat} {A B : World} (h : KpL L A B) {p : Addr} {v : Value} (hp : p.block ∈ L) (hv : A.cell? p = some v) : B.cell? p = some v := by
  rw [World.cell?_of_block (w := A) (h p.block hp)]; exact hv
theorem KpL.putObj {L : List Nat} {n : Nat} (hL : ∀ b ∈ L, b < n) (W : World) (l : Nat) (o' : Obj) (hl : n ≤ l) : KpL L W (W.putObj l o') := fun b hb => by
  have : l ≠ b := fun e => by have := hL b hb; omega
  simp [World.putObj, this]

set_option maxRecDepth 100000 in
set_option maxHeartbeats 2000000 in
/-- The iterator at a service that waits for none. -/
theorem seq_none (encs : Unit → Array Value) (Kp : World → World → Prop) (B1 B2 i bf of c m cf : Nat) (mv nv : Value) (w : World) (him : i < m) (hm : m ≤ 300)
    (h1 : w.rangeAt B1 0 [mv, nv, sl bf of (m + 1) cf]) (h2 : w.cell? ⟨B2, 0, none⟩ = some (vi i)) (hf0 : w.cell? ⟨bf, of + i, none⟩ = some (vi c)) (hf1 : w.cell? ⟨bf, of + (i + 1), none⟩ = some (vi c))  :
    SeqStopsK Fence.wide 2 Ybaz.prog 46 #[.pointer (some ⟨B1, 0, none⟩), .pointer (some ⟨B2, 0, none⟩)] encs Kp (fun ys => ys = []) (fun _ => True) 0 w := by
  intro l J Jx W hW _ _ hY h0
  have k : Kept (fun _ => False) w W := Kept.ofBelow hW
  have g1 := k.range (fun h => h) h1
  have c2 : W.cell? ⟨B1, 2, none⟩ = some (sl bf of (m + 1) cf) := by simpa using g1 2 _ rfl
  have d2 := k.cell (fun h => h) h2
  have e0 := k.cell (p := ⟨bf, of + i, none⟩) (fun h => h) hf0
  have e1 := k.cell (p := ⟨bf, of + (i + 1), none⟩) (fun h => h) hf1
  refine callsIn_of_wp Ybaz.func46 rfl trivial ?_ rfl
  simp only [Ybaz.ntmps46, List.size_toArray, List.length_cons, List.length_nil, Nat.reduceAdd, Nat.reduceSub, Array.replicate_succ, Array.replicate_zero, List.push_toArray, List.append_toArray, List.nil_append, List.cons_append]
  gi_wp2
  refine wpIn_loop_rounds 1 ?_
  rw [roundsIn_succ]
  gi_wp2
  go_end0
  exact ⟨⟨_, rfl⟩, .inl ⟨_, rfl, h0⟩⟩

set_option maxRecDepth 100000 in
set_option maxHeartbeats 2000000 in
/-- The iterator at a service that waits for one. -/
theorem seq_one (B1 B2 i bf of bn on c nl cn m cf : Nat) (mv : Value) (w : World) (him : i < m) (hm : m ≤ 300) (hcn : c + 2 ≤ cn) (hnl : c + 2 ≤ nl) (hc : c ≤ 600)
    (h1 : w.rangeAt B1 0 [mv, sl bn on nl cn, sl bf of (m + 1) cf]) (h2 : w.cell? ⟨B2, 0, none⟩ = some (vi i)) (hf0 : w.cell? ⟨bf, of + i, none⟩ = some (vi c)) (hf1 : w.cell? ⟨bf, of + (i + 1), none⟩ = some (vi (c + 2)))
    (hn : w.cell? ⟨bn, on + c, none⟩ = some (vi 1)) :
    SeqStopsK Fence.wide 2 Ybaz.prog 46 #[.pointer (some ⟨B1, 0, none⟩), .pointer (some ⟨B2, 0, none⟩)] (fun _ : Unit => #[vi c, sl bn (on + (c + 1)) 1 (cn - (c + 1))]) (KpL [B1, B2, bf, bn]) (fun ys => ys = [()]) (fun _ => True) 1 w := by
  intro l J Jx W hW hJ _ hY h0
  have k : Kept (fun _ => False) w W := Kept.ofBelow hW
  have g1 := k.range (fun h => h) h1
  have c1 : W.cell? ⟨B1, 1, none⟩ = some (sl bn on nl cn) := by simpa using g1 1 _ rfl
  have c2 : W.cell? ⟨B1, 2, none⟩ = some (sl bf of (m + 1) cf) := by simpa using g1 2 _ rfl
  have d2 := k.cell (fun h => h) h2
  have e0 := k.cell (p := ⟨bf, of + i, none⟩) (fun h => h) hf0
  have e1 := k.cell (p := ⟨bf, of + (i + 1), none⟩) (fun h => h) hf1
  have en := k.cell (p := ⟨bn, on + c, none⟩) (fun h => h) hn
  have hm' : Ybaz.prog.follows .mixedOrders = true := by kernel_rfl
  refine callsIn_of_wp Ybaz.func46 rfl trivial ?_ rfl
  simp only [Ybaz.ntmps46, List.size_toArray, List.length_cons, List.length_nil, Nat.reduceAdd, Nat.reduceSub, Array.replicate_succ, Array.replicate_zero, List.push_toArray, List.append_toArray, List.nil_append, List.cons_append]
  gi_wp2
  refine wpIn_loop_rounds 2 ?_
  rw [roundsIn_succ]
  gi_wp2
  refine wpIn_region_quiet_tail 15 (fun w' => ∃ nq, w' = W.drewN nq) hm' (by kernel_rfl) ⟨1, rfl⟩ ?_
  dsimp only [List.take, List.drop]
  repeat go_big_quiet_step (fail)
  refine wpQuiet_nil ?_
  rintro _ ⟨nq, rfl⟩
  have hJ1 : J [] (W.drewN nq) := hJ [] W _ none h0 (grownBy_drewN W nq) (fun r e => by cases e)
  obtain ⟨fn, tmps, assign, body, hy, hR⟩ := hY [] () (W.drewN nq) hJ1 (by simp)
  rw [show c + 1 + 1 - (c + 1) = 1 by omega]
  gi_wp2
  refine hR.mono ?_
  rintro e W3 (⟨rfl, hJ3, hk3⟩ | ⟨rfl, hJx3⟩)
  · have c1' : W3.cell? ⟨B1, 1, none⟩ = some (sl bn on nl cn) := hk3.cell (p := ⟨B1, 1, none⟩) (by simp) c1
    have c2' : W3.cell? ⟨B1, 2, none⟩ = some (sl bf of (m + 1) cf) := hk3.cell (p := ⟨B1, 2, none⟩) (by simp) c2
    have d2' := hk3.cell (p := ⟨B2, 0, none⟩) (by simp) d2
    have e1' := hk3.cell (p := ⟨bf, of + (i + 1), none⟩) (by simp) e1
    have en' := hk3.cell (p := ⟨bn, on + c, none⟩) (by simp) en
    clear hy hR hY hk3 hJ1
    gi_wp2
    rw [roundsIn_succ]
    gi_wp2
    go_end0
    exact ⟨⟨_, rfl⟩, .inl ⟨_, rfl, hJ3⟩⟩
  · gi_wp2
    refine bodyPost_ret (results_none rfl _ _ _) rfl ?_
    exact ⟨⟨_, rfl⟩, .inr ⟨_, trivial, hJx3⟩⟩
end Go.Proofs.YbulkdsicGreat
