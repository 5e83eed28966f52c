import Derived.Test.YbulkdsicGreatComp
set_option linter.unusedVariables false
set_option linter.unusedSimpArgs false
namespace Go.Proofs.YbulkdsicGreat
open Go.RowKit Go.Shelf

theorem zv26 (w : World) : (zeroValue 26).run Ybaz.prog w = .ok (.slice none 0 0) w := by kernel_rfl

set_option maxRecDepth 100000 in
set_option maxHeartbeats 1000000 in
/-- 'func(u int) bool { _, ok := givers[u]; return ok }'. -/
theorem marked_any (B Mb u : Nat) (kv : List (Nat × Value)) (w : World) (h0 : w.cell? ⟨B, 0, none⟩ = some (.map (some Mb))) (h : MapI w Mb kv) :
    Calls Ybaz.prog 26 #[vi u, .pointer (some ⟨B, 0, none⟩)] w fun e w' => e = .returned (.bool (kv.lookup u).isSome) ∧ w' = w := by
  have hl := run_lookup_int Ybaz.underlying80 Ybaz.underlying3 h u (.slice none 0 0) zv26 true
  simp only [if_true] at hl
  obtain ⟨r, hr⟩ : ∃ r, (kv.lookup u).getD (.slice none 0 0) = r := ⟨_, rfl⟩
  obtain ⟨b, hb⟩ : ∃ b, (kv.lookup u).isSome = b := ⟨_, rfl⟩
  rw [hr, hb] at hl
  rw [hb]
  clear h hr hb
  go_enter Ybaz.func26, Ybaz.ntmps26
  go_wp2
  go_ret
  exact ⟨rfl, rfl⟩

set_option maxRecDepth 100000 in
set_option maxHeartbeats 1000000 in
theorem inf_any (w : World) : Calls Ybaz.prog 11 #[.int .i64 1] w fun e w' => e = .returned (.float .f64 9218868437227405312) ∧ w' = w := by
  have hx : ∀ w, Sem.run Ybaz.prog (callFunc 24 #[.int .u64 9218868437227405312]) w = .ok (.value (.float .f64 9218868437227405312)) w := fun w => by kernel_rfl
  go_enter Ybaz.func11, Ybaz.ntmps11
  go_wp2
  go_ret
  exact ⟨rfl, rfl⟩

/-- The closure of nearestMarked: its four variables. -/
structure NM (W : World) (base Bn Bc Bp Bm Bg Nb Pb n cp Mb : Nat) (cv : Value) (near : Nat → Int) (kv : List (Nat × Value)) : Prop where
  v1 : W.cell? ⟨Bn, 0, none⟩ = some (sl Nb 0 n n)
  v2 : W.cell? ⟨Bc, 0, none⟩ = some cv
  f2 : W.frozen? ⟨Bc, 0, none⟩ = false
  v3 : W.cell? ⟨Bp, 0, none⟩ = some (sl Pb 0 n cp)
  v4 : W.cell? ⟨Bm, 0, none⟩ = some (.func (.func 26) #[] #[.pointer (some ⟨Bg, 0, none⟩)])
  v5 : W.cell? ⟨Bg, 0, none⟩ = some (.map (some Mb))
  own : W.ownsRow base 3 1 cv 0 []
  par : ∀ k, k < n → W.cell? ⟨Pb, k, none⟩ = some (.int .i64 (-1))
  tab : Tab W Nb 0 n (fun k => .int .i64 (near k))
  map : MapI W Mb kv

set_option maxRecDepth 100000 in
set_option maxHeartbeats 1000000 in
/-- .. at noParent. -/
theorem near_none (base Bn Bc Bp Bm Bg Nb Pb n cp Mb : Nat) (cv : Value) (near : Nat → Int) (kv : List (Nat × Value)) (w : World) (h : NM w base Bn Bc Bp Bm Bg Nb Pb n cp Mb cv near kv) :
    Calls Ybaz.prog 45 #[.int .i64 (-1), .pointer (some ⟨Bn, 0, none⟩), .pointer (some ⟨Bc, 0, none⟩), .pointer (some ⟨Bp, 0, none⟩), .pointer (some ⟨Bm, 0, none⟩)] w fun e w' => e = .returned (.int .i64 (-1)) ∧ Kept (fun b => b = Bc) w w' ∧ w'.cell? ⟨Bc, 0, none⟩ = some cv ∧ w'.frozen? ⟨Bc, 0, none⟩ = false := by
  have v2 := h.v2
  have f2 := h.f2
  obtain ⟨sa, c, rfl, _⟩ := own_form h.own
  have e3 : Ybaz.prog.elem 26 = 3 := by kernel_rfl
  have u26 : Ybaz.prog.underlying 26 = some (.slice (Ybaz.prog.elem 26)) := by rw [e3]; exact Ybaz.underlying26
  have s3 : ∀ W, Sem.run Ybaz.prog (Go.sizeOf 3) W = .ok 1 W := fun W => by kernel_rfl
  have hsl : ∀ W, Sem.run Ybaz.prog (Instr.sliceAt 26 (.slice sa 0 c) none (some (.int .i64 0)) none) W = .ok (.slice sa 0 c) W := fun W => by
    rw [run_sliceAt_slice W 26 _ _ _ _ u26, run_slice_h (P := Ybaz.prog) W 26 sa 0 c u26 .i64 0 (by omega) (by omega), e3, s3]
    cases sa <;> simp [sliced, Result.andThen, Addr.add]
  clear h e3 u26 s3
  go_enter Ybaz.func45, Ybaz.ntmps45
  go_wp2
  refine wp_loop_rounds 1 ?_
  rw [rounds_succ]
  go_wp2
  refine wp_loop_rounds 1 ?_
  rw [rounds_succ]
  go_wp2
  go_ret
  refine ⟨rfl, (Kept.refl (fun b => b = Bc) w).setCell (p := ⟨Bc, 0, none⟩) (.inl rfl) _, ?_, ?_⟩
  · exact World.cell?_setCell_same' _ _ _ (by rw [v2]; rfl)
  · rw [World.frozen?_setCell]; exact f2
end Go.Proofs.YbulkdsicGreat
