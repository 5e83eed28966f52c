import Derived.Test.YbulkdsicGreatKey2
import Derived.Test.YbulkdsicGreatRoom
import Derived.Deep.Cut
set_option linter.unusedVariables false
set_option linter.unusedSimpArgs false
namespace Go.Proofs.YbulkdsicGreat
open Go.RowKit Go.Shelf

theorem TB.kept {E : Nat → Prop} {W W' : World} {l : TBl} {names : Nat → ByteArray} {tm : Nat → Value} {steps : Int} {ks : List ByteArray} (h : TB W l names tm steps ks) (k : Kept E W W') (hE : ∀ b ∈ [l.T, l.bn, l.bt, l.ba, l.bl, l.mb], ¬ E b) : TB W' l names tm steps ks :=
  ⟨k.range (hE _ (by simp)) h.st, k.there (hE _ (by simp)) h.th, h.nm.kept k (hE _ (by simp)), h.tt.kept k (hE _ (by simp)), h.at'.kept k (hE _ (by simp)), h.al.kept k (hE _ (by simp)), h.mp.kept k (hE _ (by simp)), h.fl, h.few, h.ne⟩
theorem TB.below {W W' : World} {l : TBl} {names : Nat → ByteArray} {tm : Nat → Value} {steps : Int} {ks : List ByteArray} (h : TB W l names tm steps ks) (b : Below W.heap.size W W') : TB W' l names tm steps ks :=
  h.kept (Kept.ofBelow (E := fun _ => False) b) (fun _ _ h => h)

theorem al61 (w : World) : Sem.run Ybaz.prog (Instr.alloc 61 true (.tuple #[])) w = .ok (.pointer (some ⟨w.heap.size, 0, none⟩)) (w.alloc (.cells #[.string ⟨#[]⟩, .bool false, .slice none 0 0, .float .f64 0, .float .f64 0] 61)) := by kernel_rfl
theorem al59 (w : World) : Sem.run Ybaz.prog (Instr.alloc 59 true (.tuple #[])) w = .ok (.pointer (some ⟨w.heap.size, 0, none⟩)) (w.alloc (.cells #[.string ⟨#[]⟩, .bool false, .slice none 0 0, .float .f64 0] 59)) := by kernel_rfl

set_option maxRecDepth 100000 in
set_option maxHeartbeats 2000000 in
theorem best_one (l : TBl) (names : Nat → ByteArray) (tm : Nat → Value) (steps : Int) (ks : List ByteArray) (t : Bt) (mem : Nat → Nat) (k : Nat) (below : Value) (w : World)
    (hT : TB w l names tm steps ks) (hc : w.cell? ⟨t.bm, t.om, none⟩ = some (vi (mem 0))) (hm : mem 0 < l.n) :
    Calls Ybaz.prog 10 #[.pointer (some ⟨l.T, 0, none⟩), .agg #[sl t.bm t.om 1 t.cm, .slice t.sn k t.cn, sl t.bf t.of 2 t.cf], below] w fun e w' =>
      e = .returned (.agg #[.string (names (mem 0)), .bool false, .slice none 0 0, tm (mem 0), tm (mem 0)]) ∧ Below w.heap.size w w' := by
  obtain ⟨x, hx⟩ := hT.fl (mem 0) hm
  rw [hx]
  have B0 := hid (((Below.refl w.heap.size w).alloc (Nat.le_refl _) (.cells #[sl t.bm t.om 1 t.cm, .slice t.sn k t.cn, sl t.bf t.of 2 t.cf] 53)).alloc (by simp) (.cells #[.string ⟨#[]⟩, .bool false, .slice none 0 0, .float .f64 0, .float .f64 0] 61))
  have r0 : ((w.alloc (.cells #[sl t.bm t.om 1 t.cm, .slice t.sn k t.cn, sl t.bf t.of 2 t.cf] 53)).alloc (.cells #[.string ⟨#[]⟩, .bool false, .slice none 0 0, .float .f64 0, .float .f64 0] 61)).cell? ⟨w.heap.size, 0, none⟩ = some (sl t.bm t.om 1 t.cm) := cell_old _ (by simp)
  have th0 := there_new (w.alloc (.cells #[sl t.bm t.om 1 t.cm, .slice t.sn k t.cn, sl t.bf t.of 2 t.cf] 53)) [.string ⟨#[]⟩, .bool false, .slice none 0 0, .float .f64 0, .float .f64 0] 61
  rw [World.size_alloc] at th0
  have HT := hid hT
  have TH := hid th0
  clear hT th0
  go_enter Ybaz.func10, Ybaz.ntmps10
  go_upto_region 1 with (refine wpList_box_as rfl 53 _ rfl #[sl t.bm t.om 1 t.cm, .slice t.sn k t.cn, sl t.bf t.of 2 t.cf] rfl (bx53 _ _ _) ?_)
  obtain ⟨W, hW⟩ : ∃ W, (w.alloc (.cells #[sl t.bm t.om 1 t.cm, .slice t.sn k t.cn, sl t.bf t.of 2 t.cf] 53)).alloc (.cells #[.string ⟨#[]⟩, .bool false, .slice none 0 0, .float .f64 0, .float .f64 0] 61) = W := ⟨_, rfl⟩
  have hW' : (w.alloc (.cells #[sl t.bm t.om 1 t.cm, .slice t.sn k t.cn, sl t.bf t.of 2 t.cf] 53)).alloc (.cells [Value.string ⟨#[]⟩, .bool false, .slice none 0 0, .float .f64 0, .float .f64 0].toArray 61) = W := hW
  rw [hW'] at TH
  rw [hW] at B0 r0 ⊢
  have hWs : W.heap.size = w.heap.size + 2 := by rw [← hW]; simp only [World.size_alloc]
  have kw : Kept (fun _ => False) w W := by rw [← hW]; exact ((Kept.refl _ w).alloc _).alloc _
  have c1 := kw.cell (p := ⟨t.bm, t.om, none⟩) (fun h => h) hc
  have LF := hid (leaf_any l names tm steps ks (mem 0) W (HT.out.kept kw (fun _ _ h => h)) hm)
  rw [hx] at LF
  clear hW hW' kw
  go_wp2_with (first
    | (go_at_call 13; refine LF.out.mono ?_; rintro e W1 ⟨rfl, bel1⟩; have B1 := hid bel1; clear bel1 LF)
    | ((with_reducible (show wpList _ _ _ (⟨_, .alloc 59, _, _, _, _⟩ :: _) _ _)); refine wpList_alloc_as rfl 59 rfl #[.string ⟨#[]⟩, .bool false, .slice none 0 0, .float .f64 0] al59 ?_)
    | ((with_reducible (show wpList _ _ _ (⟨_, .store 59 _ _, _, _, _, _⟩ :: _) _ _)); refine wpList_store_mid rfl 59 _ _ rfl W1.heap.size 0 #[.string (names (mem 0)), .bool false, .slice none 0 0, .float .f64 x] rfl rfl (there_new W1 [.string ⟨#[]⟩, .bool false, .slice none 0 0, .float .f64 0] 59) (by kernel_rfl) (by simp [Value.oneCell']) ?_; refine wpList_as (fun X => X.rangeAt W1.heap.size 0 [.string (names (mem 0)), .bool false, .slice none 0 0, .float .f64 x] ∧ Below W1.heap.size W1 X) ⟨World.rangeAt_setCells_same _ _ _ _ (there_new W1 [.string ⟨#[]⟩, .bool false, .slice none 0 0, .float .f64 0] 59), below_setCells ((Below.refl _ W1).alloc (Nat.le_refl _) _) (Nat.le_refl _) _ _⟩ ?_; rintro X ⟨rx, bx⟩; have c2 : X.cell? ⟨W1.heap.size, 3, none⟩ = some (.float .f64 x) := by { simpa using rx 3 _ rfl }; have RX := hid rx; have BX := hid bx; have thx : X.there (w.heap.size + 1) 0 5 := there_kept_below bx (there_kept_below B1.out TH.out); have THX := hid thx; clear thx rx bx)
    | ((with_reducible (show wpList _ _ _ (⟨_, .load 59 _, _, _, _, _⟩ :: _) _ _)); refine wpList_load_mid rfl 59 _ rfl W1.heap.size 0 rfl _ _ RX.out Ybaz.underlying59 rfl (by kernel_rfl) ?_; simp only [Act.put, List.setIfInBounds_toArray, List.set_cons_succ, List.set_cons_zero])
    | ((with_reducible (show wpList _ _ _ (⟨_, .store 61 _ _, _, _, _, _⟩ :: _) _ _)); refine wpList_store_mid rfl 61 _ _ rfl (w.heap.size + 1) 0 #[.string (names (mem 0)), .bool false, .slice none 0 0, .float .f64 x, .float .f64 x] rfl rfl THX.out (by kernel_rfl) (by simp [Value.oneCell']) ?_))
  refine bodyPost_ret (v := .agg #[.string (names (mem 0)), .bool false, .slice none 0 0, .float .f64 x, .float .f64 x]) (results_cell Ybaz.results10 _ _ _ (b := w.heap.size + 1) (o := 0) rfl ?_) rfl ⟨rfl, ?_⟩
  · exact run_loadVar_mid _ _ _ 61 [.string (names (mem 0)), .bool false, .slice none 0 0, .float .f64 x, .float .f64 x] _ (World.rangeAt_setCells_same _ _ _ _ THX.out) Ybaz.underlying61 rfl (by kernel_rfl)
  · exact below_setCells (B0.out.trans ((B1.out.trans (BX.out.mono B1.out.size)).mono (by omega))) (by omega) _ _
end Go.Proofs.YbulkdsicGreat
