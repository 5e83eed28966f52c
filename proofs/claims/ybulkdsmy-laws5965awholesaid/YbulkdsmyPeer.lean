import Derived.Test.YbulkdsmyBase
import Derived.Test.YbulkdsmyQT
namespace Go.Proofs.Ybulkdsmy
open Go.RowKit

theorem size29 : (Yba.prog.info? 29).map (·.size) = some 20 := by kernel_rfl
theorem size31 : (Yba.prog.info? 31).map (·.size) = some 21 := by kernel_rfl
theorem al29 (w : World) : Sem.run Yba.prog (Instr.alloc 29 true (.tuple #[])) w = .ok (.pointer (some ⟨w.heap.size, 0, none⟩)) (w.alloc (.cells (idc 0).toArray 29)) := by kernel_rfl
theorem al31 (w : World) : Sem.run Yba.prog (Instr.alloc 31 true (.tuple #[])) w = .ok (.pointer (some ⟨w.heap.size, 0, none⟩)) (w.alloc (.cells (prc ⟨ByteArray.empty, 0⟩).toArray 31)) := by kernel_rfl
theorem idc19 (b : Int) : (idc b).toArray[19]? = some (.int .u8 b) := rfl
theorem idcset (a b : Int) : (idc a).toArray.setIfInBounds 19 (.int .u8 b) = (idc b).toArray := by
  rw [← Array.toList_inj]; simp [idc]

theorem range_new (w : World) (cs : List Value) (t : TypeId) : (w.alloc (.cells cs.toArray t)).rangeAt w.heap.size 0 cs := fun j v hv => by
  rw [Nat.zero_add, World.cell?_alloc_new]
  simpa using hv
theorem there_new (w : World) (cs : List Value) (t : TypeId) : (w.alloc (.cells cs.toArray t)).there w.heap.size 0 cs.length := fun j hj => by
  refine ⟨?_, ?_⟩
  · rw [Nat.zero_add, World.cell?_alloc_new]
    simp [hj]
  · rw [Nat.zero_add, World.frozen?_alloc_new]

theorem results_cell {fn : Func} {p : Tmp} {ty : TypeId} (h : fn.results = #[.cell p ty]) (tmps : Array Value) (P : Program) (w : World) {b o : Nat} {v : Value} (hp : tmps.getD p undef = .pointer (some ⟨b, o, none⟩))
    (hl : (loadVar ty ⟨b, o, none⟩).run P w = .ok v w) : (results fn tmps).run P w = .ok v w := by
  have h1 : (results fn tmps).run P w = ((asAddr (tmps.getD p undef)).run P w).andThen fun a w₁ => (loadVar ty a).run P w₁ := by
    simp only [results, h]
    simp [Sem.run_bind, Result.andThen]
  rw [h1, hp]
  simp [asAddr, Result.andThen, hl]

/-- A new variable, its zero cells given whole. -/
theorem wpList_alloc_as {P : Program} {w : World} {ops : Array Oper} {rest : List Oper} {o : Oper} {a : Act} {Q : Exit → Act → World → Prop} (hgd : o.guard = none) (ty : TypeId) (ho : o.op = .alloc ty) (Z : Array Value)
    (hz : ∀ w, Sem.run P (Instr.alloc ty true (.tuple #[])) w = .ok (.pointer (some ⟨w.heap.size, 0, none⟩)) (w.alloc (.cells Z ty)))
    (h : wpList P ops Q rest (a.put o.dst (.pointer (some ⟨w.heap.size, 0, none⟩))) (w.alloc (.cells Z ty))) : wpList P ops Q (o :: rest) a w := by
  refine wpList_plain hgd fun K hK => ?_
  unfold Oper.wp execOp
  simp only [ho, Sem.run_bind, hz, Result.andThen_ok, Sem.run_pure]
  exact hK _ _ h
/-- A value laid into a block of its own. -/
theorem wpList_box_as {P : Program} {w : World} {ops : Array Oper} {rest : List Oper} {o : Oper} {a : Act} {Q : Exit → Act → World → Prop} (hgd : o.guard = none) (ty : TypeId) (x : Operand) (ho : o.op = .box ty x) (Z : Array Value) (hx : a.eval x = .agg Z)
    (hz : ∀ w, Sem.run P (Instr.box ty (.agg Z)) w = .ok (.pointer (some ⟨w.heap.size, 0, none⟩)) (w.alloc (.cells Z ty)))
    (h : wpList P ops Q rest (a.put o.dst (.pointer (some ⟨w.heap.size, 0, none⟩))) (w.alloc (.cells Z ty))) : wpList P ops Q (o :: rest) a w := by
  refine wpList_plain hgd fun K hK => ?_
  unfold Oper.wp execOp
  simp only [ho, hx, Sem.run_bind, hz, Result.andThen_ok, Sem.run_pure]
  exact hK _ _ h

theorem below_setCells {B : Nat} {a w : World} (h : Below B a w) {g : Nat} (hg : B ≤ g) (o : Nat) (vs : List Value) : Below B a (w.setCells g o vs) := by
  induction vs generalizing o w with
  | nil => exact h
  | cons v r ih => exact ih (h.setCell (p := ⟨g, o, none⟩) hg v) (o + 1)
theorem idc_sz (b : Int) : (idc b).toArray.size = 20 := by simp [idc_len]
theorem prc_sz (p : Pr) : (prc p).toArray.size = 21 := by simp [prc_len]
theorem info29 (b : Int) : (Yba.prog.info? 29).map (·.size) = some (idc b).length := by rw [idc_len]; exact size29
theorem info29a (b : Int) : (Yba.prog.info? 29).map (·.size) = some (idc b).toArray.size := by rw [idc_sz]; exact size29
theorem info31 (p : Pr) : (Yba.prog.info? 31).map (·.size) = some (prc p).length := by rw [prc_len]; exact size31
theorem info31a (p : Pr) : (Yba.prog.info? 31).map (·.size) = some (prc p).toArray.size := by rw [prc_sz]; exact size31
theorem one29 (b : Int) : (idc b).toArray.all (·.oneCell') = true := all_oneCell_toArray (idc_one b)
theorem one31 (p : Pr) : (prc p).toArray.all (·.oneCell') = true := all_oneCell_toArray (prc_one p)

set_option maxHeartbeats 1000000 in
theorem id_any (b : Int) (w : World) :
    Calls Yba.prog 6 #[.int .u8 b] w fun e w' => e = .returned (.agg (idc b).toArray) ∧ Below w.heap.size w w' := by
  have h19 := idc19
  have hset := idcset
  go_enter Yba.func6, Yba.ntmps6
  go_wp2_with (first
    | (refine wpList_alloc_as rfl 29 rfl (idc 0).toArray al29 ?_)
    | (refine wpList_load_mid rfl 29 _ rfl (w.heap.size + 1) 0 rfl (idc b) _ (by have h := range_new (w.alloc (.cells (idc 0).toArray 29)) (idc b) 29; simpa using h) Yba.underlying29 rfl (info29 b) ?_)
    | (refine wpList_store_mid rfl 29 _ _ rfl w.heap.size 0 (idc b).toArray rfl rfl (by have h := World.there_alloc (there_new w (idc 0) 29) (.cells (idc b).toArray 29); rw [idc_len] at h; rw [idc_sz]; exact h) (info29a b) (one29 b) ?_))
  refine bodyPost_ret (v := .agg (idc b).toArray) (results_cell Yba.results6 _ _ _ (b := w.heap.size) (o := 0) rfl ?_) rfl ⟨rfl, ?_⟩
  · refine run_loadVar_mid _ _ _ 29 (idc b) _ ?_ Yba.underlying29 rfl (info29 b)
    refine World.rangeAt_setCells_same _ _ _ _ ?_
    have h := World.there_alloc (there_new w (idc 0) 29) (.cells (idc b).toArray 29)
    rw [idc_len] at h ⊢
    exact h
  · exact below_setCells (((Below.refl _ _).alloc (Nat.le_refl _) _).alloc (by simp) _) (Nat.le_refl _) _ _

theorem al23 (s : ByteArray) (b : Int) (w : World) : Sem.run Yba.prog (Instr.box 23 (.agg #[.string s, .int .u8 b])) w = .ok (.pointer (some ⟨w.heap.size, 0, none⟩)) (w.alloc (.cells #[.string s, .int .u8 b] 23)) := by kernel_rfl

set_option maxHeartbeats 1000000 in
theorem peer_any (p : Pr) (w : World) :
    Calls Yba.prog 4 #[.agg #[.string p.s, .int .u8 p.b]] w fun e w' => e = .returned (.agg (prc p).toArray) ∧ Below w.heap.size w w' := by
  obtain ⟨s, b⟩ := p
  go_enter Yba.func4, Yba.ntmps4
  go_wp2_with (refine wpList_alloc_as rfl 31 rfl (prc ⟨ByteArray.empty, 0⟩).toArray al31 ?_)
  simp only [Act.put, List.setIfInBounds_toArray, List.set_cons_succ, List.set_cons_zero, World.size_alloc]
  have hb0 : ((w.alloc (.cells #[.string s, .int .u8 b] 23)).alloc (.cells (prc ⟨ByteArray.empty, 0⟩).toArray 31)).cell? ⟨w.heap.size, 0, none⟩ = some (.string s) := by simp
  have hb1 : ((w.alloc (.cells #[.string s, .int .u8 b] 23)).alloc (.cells (prc ⟨ByteArray.empty, 0⟩).toArray 31)).cell? ⟨w.heap.size, 1, none⟩ = some (.int .u8 b) := by simp
  have ht : ((w.alloc (.cells #[.string s, .int .u8 b] 23)).alloc (.cells (prc ⟨ByteArray.empty, 0⟩).toArray 31)).there (w.heap.size + 1) 0 21 := by
    have h := there_new (w.alloc (.cells #[.string s, .int .u8 b] 23)) (prc ⟨ByteArray.empty, 0⟩) 31
    rw [prc_len] at h
    simpa using h
  have hbel : Below w.heap.size w ((w.alloc (.cells #[.string s, .int .u8 b] 23)).alloc (.cells (prc ⟨ByteArray.empty, 0⟩).toArray 31)) := ((Below.refl _ _).alloc (Nat.le_refl _) _).alloc (by simp) _
  have hsz : w.heap.size + 1 < ((w.alloc (.cells #[.string s, .int .u8 b] 23)).alloc (.cells (prc ⟨ByteArray.empty, 0⟩).toArray 31)).heap.size := by simp
  generalize (w.alloc (.cells #[.string s, .int .u8 b] 23)).alloc (.cells (prc ⟨ByteArray.empty, 0⟩).toArray 31) = W at hb0 hb1 ht hbel hsz ⊢
  have HT := hid ht
  have HB := hid hbel
  clear ht hbel
  have hsz0 : w.heap.size < W.heap.size := by omega
  have hc0 := extp_cell hb0
  have hc1 := extp_cell hb1
  refine wp_region_quiet_tail 6 (fun w' => ∃ e, w' = W.extp e) (by kernel_rfl) (by kernel_rfl) (inExt_drew W) ?_
  dsimp only [List.take, List.drop]
  repeat (first
    | (refine wpQuiet_build 31 _ rfl (.agg (prc ⟨s, b⟩).toArray) rfl (fun w => by kernel_rfl) ?_)
    | go_big_quiet_step ((go_at_call 6; exact calls_ext (id_any _ _))))
  refine wpQuiet_nil ?_
  rintro _ ⟨e, rfl⟩
  have HE := hid (extp_below W e)
  have HT' := hid (extp_there HT e)
  refine wpList_store_mid rfl 31 _ _ rfl (w.heap.size + 1) 0 (prc ⟨s, b⟩).toArray rfl rfl (by rw [prc_sz]; exact HT') (info31a _) (one31 _) ?_
  go_wp2
  refine bodyPost_ret (v := .agg (prc ⟨s, b⟩).toArray) (results_cell Yba.results4 _ _ _ (b := w.heap.size + 1) (o := 0) rfl ?_) rfl ⟨rfl, ?_⟩
  · refine run_loadVar_mid _ _ _ 31 (prc ⟨s, b⟩) _ ?_ Yba.underlying31 rfl (info31 _)
    exact World.rangeAt_setCells_same _ _ _ _ (by rw [prc_len]; exact HT')
  · exact below_setCells (Below.trans HB (Below.mono HE (by omega))) (by omega) _ _

end Go.Proofs.Ybulkdsmy
