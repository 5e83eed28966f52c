import Derived.Test.YbulkdsicGreatLaw2
import Derived.Deep.CutBlock
set_option linter.unusedVariables false
set_option linter.unusedSimpArgs false
namespace Go.Proofs.YbulkdsicGreat
open Go.RowKit Go.Shelf
theorem Ybaz.info39 : (Ybaz.prog.info? 39).map (fun i => (i.zero, i.size, i.bytes)) = some (some (Value.agg #[.string ⟨#[]⟩, .slice none 0 0, .slice none 0 0, .float .f64 0]), 4, 72) := by kernel_rfl
theorem bld31 (p1 p3 p5 p6 n : Nat) (w : World) : Sem.run Ybaz.prog (Instr.build 31 #[(0, sl p1 0 n n), (1, sl p3 0 n n), (2, sl p5 0 n n), (6, .map (some p6))]) w = .ok (.agg #[sl p1 0 n n, sl p3 0 n n, sl p5 0 n n, .slice none 0 0, .slice none 0 0, .slice none 0 0, .map (some p6)]) w := by kernel_rfl
theorem bx31 (p1 p3 p5 p6 n : Nat) (w : World) : Sem.run Ybaz.prog (Instr.box 31 (.agg #[sl p1 0 n n, sl p3 0 n n, sl p5 0 n n, .slice none 0 0, .slice none 0 0, .slice none 0 0, .map (some p6)])) w = .ok (.pointer (some ⟨w.heap.size, 0, none⟩)) (w.alloc (.cells #[sl p1 0 n n, sl p3 0 n n, sl p5 0 n n, .slice none 0 0, .slice none 0 0, .slice none 0 0, .map (some p6)] 31)) := by kernel_rfl
theorem bld35 (p1 p3 n : Nat) (w : World) : Sem.run Ybaz.prog (Instr.build 35 #[(1, sl p1 0 n n), (3, sl p3 0 n n)]) w = .ok (.agg #[.slice none 0 0, sl p1 0 n n, .slice none 0 0, sl p3 0 n n]) w := by kernel_rfl
theorem bx35 (p1 p3 n : Nat) (w : World) : Sem.run Ybaz.prog (Instr.box 35 (.agg #[.slice none 0 0, sl p1 0 n n, .slice none 0 0, sl p3 0 n n])) w = .ok (.pointer (some ⟨w.heap.size, 0, none⟩)) (w.alloc (.cells #[.slice none 0 0, sl p1 0 n n, .slice none 0 0, sl p3 0 n n] 35)) := by kernel_rfl
def laV (n : Nat) (j : Nat) (blk : Nat → Nat) : Value :=
  match j with
  | 0 => vi n
  | 1 => sl (blk 1) 0 (n) (n)
  | 2 => vi n
  | 3 => sl (blk 3) 0 (n) (n)
  | 4 => vi n
  | 5 => sl (blk 5) 0 (n) (n)
  | 6 => .map (some (blk 6))
  | 7 => .agg #[sl (blk 1) 0 n n, sl (blk 3) 0 n n, sl (blk 5) 0 n n, .slice none 0 0, .slice none 0 0, .slice none 0 0, .map (some (blk 6))]
  | 8 => .pointer (some ⟨blk 8, 0, none⟩)
  | _ => undef
def laO (n : Nat) (j : Nat) (blk : Nat → Nat) : Option Obj :=
  match j with
  | 1 => some (.cells (Array.replicate (n) (.string ⟨#[]⟩)) 9)
  | 3 => some (.cells (Array.replicate (n) (.int .i64 0)) 3)
  | 5 => some (.cells (madeCells (Value.agg #[.string ⟨#[]⟩, .slice none 0 0, .slice none 0 0, .float .f64 0]).cells ((n) * 4)) 39)
  | 6 => some (.map #[] 0)
  | 8 => some (.cells #[sl (blk 1) 0 n n, sl (blk 3) 0 n n, sl (blk 5) 0 n n, .slice none 0 0, .slice none 0 0, .slice none 0 0, .map (some (blk 6))] 31)
  | _ => none
def laD (j : Nat) : List Nat :=
  match j with
  | 1 => [1]
  | 3 => [3]
  | 5 => [5]
  | 6 => [6]
  | 7 => [1, 3, 5, 6]
  | 8 => [1, 3, 5, 6, 8]
  | _ => []
theorem laL (n : Nat) (j : Nat) (blk blk' : Nat → Nat) (h : ∀ k ∈ laD j, blk k = blk' k) : laV n j blk = laV n j blk' ∧ laO n j blk = laO n j blk' := by
  match j with
  | 0 => exact ⟨rfl, rfl⟩
  | 1 => simp only [laD, List.forall_mem_cons] at h; simp [laV, laO, h]
  | 2 => exact ⟨rfl, rfl⟩
  | 3 => simp only [laD, List.forall_mem_cons] at h; simp [laV, laO, h]
  | 4 => exact ⟨rfl, rfl⟩
  | 5 => simp only [laD, List.forall_mem_cons] at h; simp [laV, laO, h]
  | 6 => simp only [laD, List.forall_mem_cons] at h; simp [laV, laO, h]
  | 7 => simp only [laD, List.forall_mem_cons] at h; simp [laV, laO, h]
  | 8 => simp only [laD, List.forall_mem_cons] at h; simp [laV, laO, h]
  | j + 9 => exact ⟨rfl, rfl⟩

def lcV (n : Nat) (j : Nat) (blk : Nat → Nat) : Value :=
  match j with
  | 0 => vi n
  | 1 => sl (blk 1) 0 (n) (n)
  | 2 => vi n
  | 3 => sl (blk 3) 0 (n) (n)
  | 4 => .agg #[.slice none 0 0, sl (blk 1) 0 n n, .slice none 0 0, sl (blk 3) 0 n n]
  | 5 => .pointer (some ⟨blk 5, 0, none⟩)
  | _ => undef
def lcO (n : Nat) (j : Nat) (blk : Nat → Nat) : Option Obj :=
  match j with
  | 1 => some (.cells (Array.replicate (n) (.int .i64 0)) 3)
  | 3 => some (.cells (Array.replicate (n) (.int .i64 0)) 3)
  | 5 => some (.cells #[.slice none 0 0, sl (blk 1) 0 n n, .slice none 0 0, sl (blk 3) 0 n n] 35)
  | _ => none
def lcD (j : Nat) : List Nat :=
  match j with
  | 1 => [1]
  | 3 => [3]
  | 4 => [1, 3]
  | 5 => [1, 3, 5]
  | _ => []
theorem lcL (n : Nat) (j : Nat) (blk blk' : Nat → Nat) (h : ∀ k ∈ lcD j, blk k = blk' k) : lcV n j blk = lcV n j blk' ∧ lcO n j blk = lcO n j blk' := by
  match j with
  | 0 => exact ⟨rfl, rfl⟩
  | 1 => simp only [lcD, List.forall_mem_cons] at h; simp [lcV, lcO, h]
  | 2 => exact ⟨rfl, rfl⟩
  | 3 => simp only [lcD, List.forall_mem_cons] at h; simp [lcV, lcO, h]
  | 4 => simp only [lcD, List.forall_mem_cons] at h; simp [lcV, lcO, h]
  | 5 => simp only [lcD, List.forall_mem_cons] at h; simp [lcV, lcO, h]
  | j + 6 => exact ⟨rfl, rfl⟩


theorem there_arr {W : World} {b : Nat} {arr : Array Value} {t : TypeId} (h : W.heap[b]? = some (.cells arr t)) : W.there b 0 arr.size := by
  have h' : W.heap[b]? = some (.cells arr.toList.toArray t) := by rw [h]
  have := there_of_block h'
  simpa using this
/-- Behind region 4. -/
structure G4 (w U : World) (n Gb pb sv : Nat) : Prop where
  bel : Below w.heap.size w U
  g1 : U.cell? ⟨Gb, 1, none⟩ = some (sl pb 0 n n)
  g2 : U.cell? ⟨Gb, 2, none⟩ = some (sl sv 0 n n)
  par : Tab U pb 0 n (fun _ => vi 0)
  svT : U.there sv 0 (n * 4)
  l1 : w.heap.size ≤ Gb
  l2 : w.heap.size ≤ pb
  l3 : w.heap.size ≤ sv
  u1 : Gb < U.heap.size
  u2 : pb < U.heap.size
  u3 : sv < U.heap.size
  n1 : Gb ≠ pb
  n2 : Gb ≠ sv
  n3 : pb ≠ sv
theorem G4.lw {w U x : World} {n Gb pb sv Sb sb en : Nat} {nm : Nat → ByteArray} {tm : Nat → Value} {d : Nat → Nat} (h : G4 w U n Gb pb sv) (b : Below U.heap.size U x) (h1 : U.heap.size ≤ Sb) (h2 : U.heap.size ≤ sb) (h3 : U.heap.size ≤ en) (u1 : Sb < x.heap.size) (u2 : sb < x.heap.size) (u3 : en < x.heap.size) (n1 : Sb ≠ sb) (n2 : Sb ≠ en) (n3 : sb ≠ en)
    (s1 : x.cell? ⟨Sb, 1, none⟩ = some (sl sb 0 n n)) (s3 : x.cell? ⟨Sb, 3, none⟩ = some (sl en 0 n n)) (t1 : Tab x sb 0 n (fun _ => vi 0)) (t2 : Tab x en 0 n (fun _ => vi 0)) :
    LD w x.heap.size Gb Sb pb sv sb en ∧ LW w x x.heap.size Gb Sb pb sv sb en n x.heap.size nm tm d 0 0 0 0 (.slice none 0 0) (.slice none 0 0) [] := by
  have k := Kept.ofBelow (E := fun _ => False) b
  have a1 := h.l1; have a2 := h.l2; have a3 := h.l3; have b1 := h.u1; have b2 := h.u2; have b3 := h.u3
  have hs := h.bel.size
  have hs2 := b.size
  refine ⟨⟨a1, by omega, by omega, u1, a2, by omega, a3, by omega, by omega, u2, by omega, u3, h.n1, h.n2, by omega, by omega, by omega, by omega, n1, n2, h.n3, by omega, by omega, by omega, by omega, n3⟩,
    ⟨h.bel.trans (b.mono hs), k.cell (fun h => h) h.g1, k.cell (fun h => h) h.g2, s1, s3, (h.par.kept k (fun h => h)).ext (fun _ _ => by simp), t1.ext (fun _ _ => by simp), t2.ext (fun _ _ => by simp), k.there (fun h => h) h.svT, fun i hi => by omega, ⟨rfl, .inl ⟨rfl, rfl⟩⟩, OR.nil _ _, (fun v hv => by cases hv), Nat.le_refl _, Nat.le_refl _⟩⟩

theorem wpList_bin_as {ops : Array Oper} {rest : List Oper} {o : Oper} {a : Act} {w : World} {Q : Exit → Act → World → Prop} (hgd : o.guard = none) (op : BinOp) (t : TypeId) (x y : Operand) (t' : TypeId) (ho : o.op = .binOp op t x y t') (v1 v2 u : Value) (h1 : a.eval x = v1) (h2 : a.eval y = v2)
    (hk : ∀ w, Sem.run Ybaz.prog (eqGuard op t x y v1 v2) w = .ok () w) (hr : Sem.run Ybaz.prog (binOp op t v1 v2) w = .ok u w) (h : wpList Ybaz.prog ops Q rest (a.put o.dst u) w) : wpList Ybaz.prog ops Q (o :: rest) a w := by
  refine wpList_plain hgd fun K hK => ?_
  unfold Oper.wp execOp
  simp only [ho, h1, h2, Sem.run_bind, hk, hr, Result.andThen_ok, Sem.run_pure]
  exact hK _ _ h
theorem wpList_build_as {ops : Array Oper} {rest : List Oper} {o : Oper} {a : Act} {w : World} {Q : Exit → Act → World → Prop} (hgd : o.guard = none) (t : TypeId) (fs : Array (Nat × Operand)) (ho : o.op = .build t fs) (v : Value) (hr : Sem.run Ybaz.prog (Instr.build t (fs.map fun p => (p.1, a.eval p.2))) w = .ok v w)
    (h : wpList Ybaz.prog ops Q rest (a.put o.dst v) w) : wpList Ybaz.prog ops Q (o :: rest) a w := by
  refine wpList_plain hgd fun K hK => ?_
  unfold Oper.wp execOp
  simp only [ho, Sem.run_bind, hr, Result.andThen_ok, Sem.run_pure]
  exact hK _ _ h
theorem addx (s : ByteArray) (h : s.size ≤ 140737488355328) (w : World) : Sem.run Ybaz.prog (binOp .add 9 (.string ⟨#[120]⟩) (.string s)) w = .ok (.string (⟨#[120]⟩ ++ s)) w := by
  have e := run_string_add_sum (P := Ybaz.prog) w ⟨#[120]⟩ s (by have : (⟨#[120]⟩ : ByteArray).size = 1 := rfl; omega)
  have e2 : binOp .add 9 (.string ⟨#[120]⟩) (.string s) = Op.stringOp .add ⟨#[120]⟩ s := by simp [binOp]
  rw [e2]; exact e
theorem bld39 (s : ByteArray) (ob x : Nat) (w : World) : Sem.run Ybaz.prog (Instr.build 39 #[(0, .string s), (2, sl ob 0 1 1), (3, .float .f64 x)]) w = .ok (.agg #[.string s, .slice none 0 0, sl ob 0 1 1, .float .f64 x]) w := by kernel_rfl
theorem own_new (W : World) (base : Nat) (x : Value) (t : TypeId) (hb : base ≤ W.heap.size) : (W.alloc (.cells #[x] t)).ownsRow base t 1 (sl W.heap.size 0 1 1) 1 [x] :=
  ⟨rfl, .inr ⟨W.heap.size, 1, #[x], rfl, hb, World.alloc_heap_new W _, by omega, by unfold maxLen; omega, rfl, rfl⟩⟩

theorem named_x (s : ByteArray) : Named (⟨#[120]⟩ ++ s) := by
  unfold Named
  have e : (⟨#[120]⟩ ++ s : ByteArray) = ⟨#[120] ++ s.data⟩ := by apply ByteArray.ext; simp [ByteArray.data_append]
  rw [e]
  simp [ByteArray.toList_eq]
/-- The service that is being made. -/
structure SV (U : World) (F ob b16 k : Nat) (nm : Nat → ByteArray) (tm : Nat → Value) (iv tv cv : Value) (vals : List Value) : Prop where
  r16 : U.rangeAt b16 0 [.string (nm k), iv, sl ob 0 1 1, tm k]
  t16 : U.there b16 0 4
  co : U.cell? ⟨ob, 0, none⟩ = some (vi k)
  ao : Aside tv cv vals ob
  a16 : Aside tv cv vals b16
  fo : F ≤ ob
  f16 : F ≤ b16
  uo : ob < U.heap.size
  u16 : b16 < U.heap.size
  ne : ob ≠ b16
theorem SV.kept {E : Nat → Prop} {U U' : World} {F ob b16 k : Nat} {nm : Nat → ByteArray} {tm : Nat → Value} {iv tv cv tv' cv' : Value} {vals vals' : List Value} (h : SV U F ob b16 k nm tm iv tv cv vals) (kk : Kept E U U') (h1 : ¬ E ob) (h2 : ¬ E b16) (a1 : Aside tv' cv' vals' ob) (a2 : Aside tv' cv' vals' b16) : SV U' F ob b16 k nm tm iv tv' cv' vals' :=
  ⟨kk.range h2 h.r16, kk.there h2 h.t16, kk.cell (p := ⟨ob, 0, none⟩) h1 h.co, a1, a2, h.fo, h.f16, Nat.lt_of_lt_of_le h.uo kk.size, Nat.lt_of_lt_of_le h.u16 kk.size, h.ne⟩
theorem LW.made {w U : World} {base Gb Sb pb sv sb en n F : Nat} {nm : Nat → ByteArray} {tm : Nat → Value} {d : Nat → Nat} {m t c r k tq : Nat} {tv cv : Value} {vals : List Value} (ld : LD w base Gb Sb pb sv sb en) (h : LW w U base Gb Sb pb sv sb en n F nm tm d m t c r tv cv vals) (htq : tm k = .float .f64 tq) :
    LW w (((U.alloc (.cells #[vi k] 3)).alloc (.cells #[.string ⟨#[]⟩, .slice none 0 0, .slice none 0 0, .float .f64 0] 39)).setCells (U.alloc (.cells #[vi k] 3)).heap.size 0 [.string (nm k), .slice none 0 0, sl U.heap.size 0 1 1, .float .f64 tq]) base Gb Sb pb sv sb en n F nm tm d m t c r tv cv vals ∧
    SV (((U.alloc (.cells #[vi k] 3)).alloc (.cells #[.string ⟨#[]⟩, .slice none 0 0, .slice none 0 0, .float .f64 0] 39)).setCells (U.alloc (.cells #[vi k] 3)).heap.size 0 [.string (nm k), .slice none 0 0, sl U.heap.size 0 1 1, .float .f64 tq]) F U.heap.size (U.alloc (.cells #[vi k] 3)).heap.size k nm tm (.slice none 0 0) tv cv vals := by
  have e : (U.alloc (.cells #[vi k] 3)).heap.size = U.heap.size + 1 := World.size_alloc ..
  have hsz := h.sz
  rw [e]
  have kk : Kept (fun _ => False) U (((U.alloc (.cells #[vi k] 3)).alloc (.cells #[.string ⟨#[]⟩, .slice none 0 0, .slice none 0 0, .float .f64 0] 39)).setCells (U.heap.size + 1) 0 [.string (nm k), .slice none 0 0, sl U.heap.size 0 1 1, .float .f64 tq]) := (((Kept.refl _ U).alloc _).alloc _).setCells (.inr (by omega)) _ _
  have th := there_new (U.alloc (.cells #[vi k] 3)) [.string ⟨#[]⟩, .slice none 0 0, .slice none 0 0, .float .f64 0] 39
  rw [e] at th
  have rs : (((U.alloc (.cells #[vi k] 3)).alloc (.cells #[.string ⟨#[]⟩, .slice none 0 0, .slice none 0 0, .float .f64 0] 39)).setCells (U.heap.size + 1) 0 [.string (nm k), .slice none 0 0, sl U.heap.size 0 1 1, .float .f64 tq]).rangeAt (U.heap.size + 1) 0 [.string (nm k), .slice none 0 0, sl U.heap.size 0 1 1, .float .f64 tq] := World.rangeAt_setCells_same _ _ _ _ th
  have co := range_new U [vi k] 3 0 _ rfl
  have k2 : Kept (fun b => b = U.heap.size + 1) (U.alloc (.cells #[vi k] 3)) (((U.alloc (.cells #[vi k] 3)).alloc (.cells #[.string ⟨#[]⟩, .slice none 0 0, .slice none 0 0, .float .f64 0] 39)).setCells (U.heap.size + 1) 0 [.string (nm k), .slice none 0 0, sl U.heap.size 0 1 1, .float .f64 tq]) := ((Kept.refl (fun b => b = U.heap.size + 1) _).alloc _).setCells (.inl rfl) _ _
  have sz : (((U.alloc (.cells #[vi k] 3)).alloc (.cells #[.string ⟨#[]⟩, .slice none 0 0, .slice none 0 0, .float .f64 0] 39)).setCells (U.heap.size + 1) 0 [.string (nm k), .slice none 0 0, sl U.heap.size 0 1 1, .float .f64 tq]).heap.size = U.heap.size + 2 := by rw [sz_setCells, World.size_alloc, World.size_alloc]
  refine ⟨h.aside ld kk (fun _ h => h.elim), ⟨by rw [htq]; exact rs, there_setCells th _ _ _, k2.cell (p := ⟨U.heap.size, 0, none⟩) (fun e' => by simp at e') co, h.fresh (Nat.le_refl _), h.fresh (by omega), hsz, by omega, by rw [sz]; omega, by rw [sz]; omega, by omega⟩⟩
theorem range4_1 {V : World} {kb : Nat} {a b c e : Value} (h : V.rangeAt kb 0 [a, b, c, e]) (th : V.there kb 0 4) (v : Value) : (V.setCell ⟨kb, 1, none⟩ v).rangeAt kb 0 [a, v, c, e] := fun j u hu => by
  rw [Nat.zero_add]
  by_cases ej : j = 1
  · subst ej
    simp at hu
    rw [World.cell?_setCell_same' _ _ _ (by have := (th 1 (by omega)).1; simpa using this), hu]
  · rw [World.cell?_setCell_other _ _ _ _ (fun he => ej (by have h0 := congrArg Addr.off he; simp at h0; exact h0.symm))]
    have := h j u (by
      rw [← hu]
      match j with
      | 0 | 2 | 3 => rfl
      | j + 4 => simp)
    simpa using this
/-- Region 25. -/
theorem LW.input {w U : World} {base Gb Sb pb sv sb en n F : Nat} {nm : Nat → ByteArray} {tm : Nat → Value} {d : Nat → Nat} {m t c r k ob b16 : Nat} {tv cv : Value} {vals : List Value} (ld : LD w base Gb Sb pb sv sb en) (h : LW w U base Gb Sb pb sv sb en n F nm tm d m t c r tv cv vals) (s : SV U F ob b16 k nm tm (.slice none 0 0) tv cv vals) (j : Nat) :
    LW w ((U.alloc (.cells #[vi j] 3)).setCell ⟨b16, 1, none⟩ (sl U.heap.size 0 1 1)) base Gb Sb pb sv sb en n F nm tm d m t c r tv cv vals ∧ SV ((U.alloc (.cells #[vi j] 3)).setCell ⟨b16, 1, none⟩ (sl U.heap.size 0 1 1)) F ob b16 k nm tm (sl U.heap.size 0 1 1) tv cv vals ∧
    ((U.alloc (.cells #[vi j] 3)).setCell ⟨b16, 1, none⟩ (sl U.heap.size 0 1 1)).cell? ⟨U.heap.size, 0, none⟩ = some (vi j) ∧ Aside tv cv vals U.heap.size ∧ U.heap.size < ((U.alloc (.cells #[vi j] 3)).setCell ⟨b16, 1, none⟩ (sl U.heap.size 0 1 1)).heap.size := by
  have kA : Kept (fun _ => False) U (U.alloc (.cells #[vi j] 3)) := (Kept.refl _ U).alloc _
  have k1 : Kept (fun b => b = b16) U ((U.alloc (.cells #[vi j] 3)).setCell ⟨b16, 1, none⟩ (sl U.heap.size 0 1 1)) := ((Kept.refl (fun b => b = b16) U).alloc _).setCell (p := ⟨b16, 1, none⟩) (.inl rfl) _
  have kB : Kept (fun b => b = b16) (U.alloc (.cells #[vi j] 3)) ((U.alloc (.cells #[vi j] 3)).setCell ⟨b16, 1, none⟩ (sl U.heap.size 0 1 1)) := (Kept.refl (fun b => b = b16) _).setCell (p := ⟨b16, 1, none⟩) (.inl rfl) _
  have th := kA.there (fun h => h) s.t16
  have u16 := s.u16
  have sz : ((U.alloc (.cells #[vi j] 3)).setCell ⟨b16, 1, none⟩ (sl U.heap.size 0 1 1)).heap.size = U.heap.size + 1 := by simp
  refine ⟨h.aside ld k1 (fun b hb => by rw [hb]; exact ⟨s.f16, s.a16⟩), ⟨range4_1 (kA.range (fun h => h) s.r16) th _, there_setCell th _ _, k1.cell (p := ⟨ob, 0, none⟩) s.ne s.co, s.ao, s.a16, s.fo, s.f16, Nat.lt_of_lt_of_le s.uo k1.size, Nat.lt_of_lt_of_le s.u16 k1.size, s.ne⟩, kB.cell (p := ⟨U.heap.size, 0, none⟩) (fun e => by simp at e; omega) (range_new U [vi j] 3 0 _ rfl), h.fresh (Nat.le_refl _), by rw [sz]; omega⟩

set_option maxRecDepth 100000 in
set_option maxHeartbeats 1000000 in
/-- Too many services. -/
theorem law_long (a0 a1 a2 : Option Addr) (c0 c1 c2 n n1 n2 : Nat) (w : World) (hn : 300 < n) : Calls Ybaz.prog 3 #[.slice a0 n c0, .slice a1 n1 c1, .slice a2 n2 c2] w fun e w' => e = .returned (.bool true) ∧ Below w.heap.size w w' := by
  have hgt : (300 : Int) < (n : Int) := by omega
  go_enter Ybaz.func3, Ybaz.ntmps3
  go_wp2
  go_ret
  exact ⟨rfl, Below.refl _ _⟩

set_option maxRecDepth 100000 in
set_option maxHeartbeats 4000000 in
theorem law_any (a0 a1 a2 : Option Addr) (c0 c1 c2 n n1 n2 : Nat) (ns : Nat → ByteArray) (tt dd : Nat → Nat) (w : World) (hfew : n ≤ 300)
    (h0 : ∀ i, i < n → ∃ b o, a0 = some ⟨b, o, none⟩ ∧ w.cell? ⟨b, o + i, none⟩ = some (.string (ns i)) ∧ (ns i).size ≤ 140737488355328)
    (h1 : ∀ i, i < n1 → ∃ b o, a1 = some ⟨b, o, none⟩ ∧ w.cell? ⟨b, o + i, none⟩ = some (.int .u16 (tt i)) ∧ tt i ≤ 65535)
    (h2 : ∀ i, i < n2 → ∃ b o, a2 = some ⟨b, o, none⟩ ∧ w.cell? ⟨b, o + i, none⟩ = some (.int .u8 (dd i)) ∧ dd i ≤ 255) :
    Calls Ybaz.prog 3 #[.slice a0 n c0, .slice a1 n1 c1, .slice a2 n2 c2] w fun e w' => e = .returned (.bool true) ∧ Below w.heap.size w w' := by
  obtain ⟨i3, hi3, hz3, hs3, hb3⟩ := info_parts Ybaz.info3
  obtain ⟨i9, hi9, hz9, hs9, hb9⟩ := info_parts Ybaz.info9
  obtain ⟨i26, hi26, hz26, hs26, hb26⟩ := info_parts Ybaz.info26
  obtain ⟨i39, hi39, hz39, hs39, hb39⟩ := info_parts Ybaz.info39
  have hgt : ¬ ((300 : Int) < (n : Int)) := by omega
  have H0 := hid h0
  have H1 := hid h1
  have H2 := hid h2
  clear h0 h1 h2
  go_enter Ybaz.func3, Ybaz.ntmps3
  go_upto_region 4 with fail
  refine wp_region_allocs 9 174 (laV n) (laO n) laD mixed (by kernel_rfl) rfl (fun j _ blk blk' hk => laL n j blk blk' hk) ?_ ?_
  · intro i o ho hi blk a x hb hbi h1 h2'
    match i, ho with
    | 0, ho => cases ho; exact xmove (h2' 7 (by kernel_rfl))
    | 1, ho =>
      cases ho
      refine (xmake 9 i9 (.string ⟨#[]⟩) (n) (n) Ybaz.underlying22 hi9 hz9 (h1 0 _ 25 rfl rfl (by kernel_rfl)) (h1 0 _ 25 rfl rfl (by kernel_rfl)) (Nat.le_refl _) (by rw [hb9]; omega) (by omega)).trans ?_
      rw [hs9, Nat.mul_one, made_one_cells (.string ⟨#[]⟩) (n) rfl, ← hbi]
      rfl
    | 2, ho => cases ho; exact xmove (h2' 7 (by kernel_rfl))
    | 3, ho =>
      cases ho
      refine (xmake 3 i3 (.int .i64 0) (n) (n) Ybaz.underlying26 hi3 hz3 (h1 2 _ 27 rfl rfl (by kernel_rfl)) (h1 2 _ 27 rfl rfl (by kernel_rfl)) (Nat.le_refl _) (by rw [hb3]; omega) (by omega)).trans ?_
      rw [hs3, Nat.mul_one, made_one_cells (.int .i64 0) (n) rfl, ← hbi]
      rfl
    | 4, ho => cases ho; exact xmove (h2' 7 (by kernel_rfl))
    | 5, ho =>
      cases ho
      refine (xmake 39 i39 (Value.agg #[.string ⟨#[]⟩, .slice none 0 0, .slice none 0 0, .float .f64 0]) (n) (n) Ybaz.underlying27 hi39 hz39 (h1 4 _ 29 rfl rfl (by kernel_rfl)) (h1 4 _ 29 rfl rfl (by kernel_rfl)) (Nat.le_refl _) (by rw [hb39]; omega) (by omega)).trans ?_
      rw [hs39, ← hbi]
      rfl
    | 6, ho =>
      cases ho
      refine (xmap (fun w => run_makeMap 28 w)).trans ?_
      rw [← hbi]
      rfl
    | 7, ho =>
      cases ho
      refine xbuild (fun w => ?_)
      have e0 := h1 1 _ 26 rfl rfl (by kernel_rfl)
      have e1 := h1 3 _ 28 rfl rfl (by kernel_rfl)
      have e2 := h1 5 _ 30 rfl rfl (by kernel_rfl)
      have e3 := h1 6 _ 31 rfl rfl (by kernel_rfl)
      simp only [List.map_toArray, List.map_cons, List.map_nil, e0, e1, e2, e3]
      exact bld31 _ _ _ _ _ _
    | 8, ho =>
      cases ho
      refine (xbox (h1 7 _ 32 rfl rfl (by kernel_rfl)) (fun w => bx31 _ _ _ _ _ _)).trans ?_
      rw [← hbi]
      rfl
    | i + 9, ho => omega
  intro oz hoz blk x hb hobj hdis
  cases hoz
  simp only [lay, List.take, Act.put, List.setIfInBounds_toArray, List.set_cons_succ, List.set_cons_zero, laV]
  have g4 : G4 w x n (blk 8) (blk 3) (blk 5) := by
    have o3 := hobj 3 _ (by omega) rfl
    have o5 := hobj 5 _ (by omega) rfl
    have o8 := hobj 8 _ (by omega) rfl
    have hlt : ∀ {b : Nat} {ob : Obj}, x.heap[b]? = some ob → b < x.heap.size := fun h => (Array.getElem?_eq_some_iff.1 h).1
    have r8 : x.heap[blk 8]? = some (.cells [sl (blk 1) 0 n n, sl (blk 3) 0 n n, sl (blk 5) 0 n n, .slice none 0 0, .slice none 0 0, .slice none 0 0, .map (some (blk 6))].toArray 31) := o8.2
    have rr := range_of_block r8
    have t5 := there_arr o5.2
    refine ⟨hb, by simpa using rr 1 _ rfl, by simpa using rr 2 _ rfl, tab_block o3.2, by simpa [madeCells] using t5, o8.1, o3.1, o5.1, hlt o8.2, hlt o3.2, hlt o5.2, hdis 8 3 (by omega) (by omega) (by omega) rfl rfl, hdis 8 5 (by omega) (by omega) (by omega) rfl rfl, hdis 3 5 (by omega) (by omega) (by omega) rfl rfl⟩
  obtain ⟨Gb, hGb⟩ : ∃ Gb, blk 8 = Gb := ⟨_, rfl⟩
  obtain ⟨pb, hpb⟩ : ∃ pb, blk 3 = pb := ⟨_, rfl⟩
  obtain ⟨sv, hsv⟩ : ∃ sv, blk 5 = sv := ⟨_, rfl⟩
  rw [hGb, hpb, hsv] at g4
  rw [hGb]
  have G40 := hid g4
  clear g4 hobj hdis hb hGb hpb hsv
  go_upto_region 5 with fail
  refine wp_region_allocs 6 174 (lcV n) (lcO n) lcD mixed (by kernel_rfl) rfl (fun j _ blk blk' hk => lcL n j blk blk' hk) ?_ ?_
  · intro i o ho hi blk a x hb hbi h1 h2'
    match i, ho with
    | 0, ho => cases ho; exact xmove (h2' 7 (by kernel_rfl))
    | 1, ho =>
      cases ho
      refine (xmake 3 i3 (.int .i64 0) (n) (n) Ybaz.underlying26 hi3 hz3 (h1 0 _ 34 rfl rfl (by kernel_rfl)) (h1 0 _ 34 rfl rfl (by kernel_rfl)) (Nat.le_refl _) (by rw [hb3]; omega) (by omega)).trans ?_
      rw [hs3, Nat.mul_one, made_one_cells (.int .i64 0) (n) rfl, ← hbi]
      rfl
    | 2, ho => cases ho; exact xmove (h2' 7 (by kernel_rfl))
    | 3, ho =>
      cases ho
      refine (xmake 3 i3 (.int .i64 0) (n) (n) Ybaz.underlying26 hi3 hz3 (h1 2 _ 36 rfl rfl (by kernel_rfl)) (h1 2 _ 36 rfl rfl (by kernel_rfl)) (Nat.le_refl _) (by rw [hb3]; omega) (by omega)).trans ?_
      rw [hs3, Nat.mul_one, made_one_cells (.int .i64 0) (n) rfl, ← hbi]
      rfl
    | 4, ho =>
      cases ho
      refine xbuild (fun w => ?_)
      have e0 := h1 1 _ 35 rfl rfl (by kernel_rfl)
      have e1 := h1 3 _ 37 rfl rfl (by kernel_rfl)
      simp only [List.map_toArray, List.map_cons, List.map_nil, e0, e1]
      exact bld35 _ _ _ _
    | 5, ho =>
      cases ho
      refine (xbox (h1 4 _ 38 rfl rfl (by kernel_rfl)) (fun w => bx35 _ _ _ _)).trans ?_
      rw [← hbi]
      rfl
    | i + 6, ho => omega
  intro oz hoz blk y hb hobj hdis
  cases hoz
  simp only [lay, List.take, Act.put, List.setIfInBounds_toArray, List.set_cons_succ, List.set_cons_zero, lcV]
  have lw0 : LD w y.heap.size Gb (blk 5) pb sv (blk 1) (blk 3) ∧ LW w y y.heap.size Gb (blk 5) pb sv (blk 1) (blk 3) n y.heap.size (fun i => ⟨#[120]⟩ ++ ns i) (fun i => .float .f64 (Flt.nat (if i < n1 then tt i else 0))) (fun i => if i < n2 then dd i else 0) 0 0 0 0 (.slice none 0 0) (.slice none 0 0) [] := by
    have o1 := hobj 1 _ (by omega) rfl
    have o3 := hobj 3 _ (by omega) rfl
    have o5 := hobj 5 _ (by omega) rfl
    have hlt : ∀ {b : Nat} {ob : Obj}, y.heap[b]? = some ob → b < y.heap.size := fun h => (Array.getElem?_eq_some_iff.1 h).1
    have r5 : y.heap[blk 5]? = some (.cells [.slice none 0 0, sl (blk 1) 0 n n, .slice none 0 0, sl (blk 3) 0 n n].toArray 35) := o5.2
    have rr := range_of_block r5
    exact G40.out.lw hb o5.1 o1.1 o3.1 (hlt o5.2) (hlt o1.2) (hlt o3.2) (hdis 5 1 (by omega) (by omega) (by omega) rfl rfl) (hdis 5 3 (by omega) (by omega) (by omega) rfl rfl) (hdis 1 3 (by omega) (by omega) (by omega) rfl rfl) (by simpa using rr 1 _ rfl) (by simpa using rr 3 _ rfl) (tab_block o1.2) (tab_block o3.2)
  obtain ⟨Sb, hSb⟩ : ∃ Sb, blk 5 = Sb := ⟨_, rfl⟩
  obtain ⟨sb, hsb⟩ : ∃ sb, blk 1 = sb := ⟨_, rfl⟩
  obtain ⟨en, hen⟩ : ∃ en, blk 3 = en := ⟨_, rfl⟩
  obtain ⟨base, hbase⟩ : ∃ base, y.heap.size = base := ⟨_, rfl⟩
  rw [hSb, hsb, hen, hbase] at lw0
  rw [hSb]
  obtain ⟨nm, hnm⟩ : ∃ nm : Nat → ByteArray, nm = fun i => ⟨#[120]⟩ ++ ns i := ⟨_, rfl⟩
  obtain ⟨tm, htm⟩ : ∃ tm : Nat → Value, tm = fun i => .float .f64 (Flt.nat (if i < n1 then tt i else 0)) := ⟨_, rfl⟩
  obtain ⟨d, hd⟩ : ∃ d : Nat → Nat, d = fun i => if i < n2 then dd i else 0 := ⟨_, rfl⟩
  rw [← hnm, ← htm, ← hd] at lw0
  have HNM := hid hnm
  have HTM := hid htm
  have HD := hid hd
  have LD0 := hid lw0.1
  have LW0 := hid lw0.2
  clear lw0 hobj hdis hb hSb hsb hen hbase hnm htm hd G40
  go_upto_region 8 with fail
  rename_i K1 hK1 K2 hK2
  have hK1' : ∀ a w', Code.wp Ybaz.prog (dropC 8 (Ybaz.f3.body.getD .skip)) (bodyPost Ybaz.prog Ybaz.f3 fun e w' => e = .returned (.bool true) ∧ Below w.heap.size w w') a w' → K1 a w' := hK1
  clear hK1
  go_wp2
  go_loopw [10, 11, 12] (fun tv cv v U => ∃ k : Nat, k ≤ n ∧ v = vi k ∧ ∃ F vals, LW w U base Gb Sb pb sv sb en n F nm tm d k k k k tv cv vals) (fun _ _ v _ => n - (intOf v).toNat)
  case atStart => exact ⟨0, Nat.zero_le _, rfl, _, _, LW0.out⟩
  case round =>
    obtain ⟨k, hk, rfl, F, vals, lw⟩ := hrel
    clear LW0
    have lw := lw.raise
    by_cases hlt : k < n
    · have hli : (k : Int) < (n : Int) := by omega
      have e0 := lw.g1
      have e1 := tab_there lw.par hlt
      obtain ⟨_, e2⟩ := Option.isSome_iff_exists.1 e1.1
      have e3 := e1.2
      have k1 : Kept (fun b => b = pb) wr (wr.setCell ⟨pb, k, none⟩ (.int .i64 (-1))) := (Kept.refl (fun b => b = pb) wr).setCell (p := ⟨pb, k, none⟩) (.inl rfl) _
      have e4 := k1.cell (p := ⟨Sb, 1, none⟩) LD0.out.n5 lw.s1
      have e5 := tab_there (lw.byT.kept k1 (Ne.symm LD0.out.n10)) hlt
      obtain ⟨_, e6⟩ := Option.isSome_iff_exists.1 e5.1
      have e7 := e5.2
      have k2 : Kept (fun b => b = pb ∨ b = sb) wr ((wr.setCell ⟨pb, k, none⟩ (.int .i64 (-1))).setCell ⟨sb, k, none⟩ (vi k)) := (k1.weak (E' := fun b => b = pb ∨ b = sb) (fun _ _ e => .inl e)).setCell (p := ⟨sb, k, none⟩) (.inl (.inr rfl)) _
      have e8 := k2.cell (p := ⟨Sb, 3, none⟩) (fun h => h.elim LD0.out.n5 LD0.out.n7) lw.s3
      have e9 := tab_there (lw.enT.kept k2 (fun h => h.elim (Ne.symm LD0.out.n11) (Ne.symm LD0.out.n14))) hlt
      obtain ⟨_, e10⟩ := Option.isSome_iff_exists.1 e9.1
      have e11 := e9.2
      have LM := hid (lw.mark LD0.out hlt)
      clear e1 e5 e9 k1 k2 lw
      go_upto_region 14 with fail
      clear e0 e2 e3 e4 e6 e7 e8 e10 e11
      refine wp_as (fun U => LW w U base Gb Sb pb sv sb en n wr.heap.size nm tm d (k + 1) k k k u10 u11 vals) LM.out ?_
      intro U1 lm
      obtain ⟨F1, hF1⟩ : ∃ F1, wr.heap.size = F1 := ⟨_, rfl⟩
      rw [hF1] at lm
      have lm := lm.raise
      clear LM hF1
      have L1 := hid lm
      clear lm
      go_upto_if 68 with fail
      go_cut [13] from 68 to 73 (fun v w' => v = tm k ∧ w' = U1)
      case first =>
        by_cases hk1 : k < n1
        · obtain ⟨b, o, rfl, c1, c2⟩ := H1.out k hk1
          have c3 := (Kept.ofBelow (E := fun _ => False) L1.out.bel).cell (fun h => h) c1
          have hk1i : (k : Int) < (n1 : Int) := by omega
          go_wp2
          go_meet
          case rel =>
            refine ⟨?_, rfl⟩
            rw [HTM.out]
            simp only [hk1, if_true]
            rfl
        · have hk1i : ¬ ((k : Int) < (n1 : Int)) := by omega
          go_wp2
          go_meet
          case rel =>
            refine ⟨?_, rfl⟩
            rw [HTM.out]
            simp only [hk1, if_false, Flt.nat_zero]
      case rest =>
        obtain ⟨rfl, ew⟩ := hcut
        rw [ew]
        clear ew
        go_upto_if 77 with fail
        go_cut [14] from 77 to 82 (fun v w' => v = vi (d k) ∧ w' = U1)
        case first =>
          by_cases hk1 : k < n2
          · obtain ⟨b, o, rfl, c1, c2⟩ := H2.out k hk1
            have c3 := (Kept.ofBelow (E := fun _ => False) L1.out.bel).cell (fun h => h) c1
            have hk1i : (k : Int) < (n2 : Int) := by omega
            go_wp2
            go_meet
            case rel =>
              refine ⟨?_, rfl⟩
              rw [HD.out]
              simp only [hk1, if_true]
          · have hk1i : ¬ ((k : Int) < (n2 : Int)) := by omega
            go_wp2
            go_meet
            case rel =>
              refine ⟨?_, rfl⟩
              rw [HD.out]
              simp only [hk1, if_false]
              rfl
        case rest =>
          obtain ⟨rfl, ew⟩ := hcut
          rw [ew]
          clear ew
          have hn0 := L1.out.tls
          obtain ⟨sa, tc, etv, _⟩ := own_form hn0
          subst etv
          clear hn0
          have htl : (tl d k).length ≤ 300 := by
            have := (tl_inv d n k hk).1
            have := rk_le (prd d) k
            omega
          obtain ⟨tn, htn⟩ : ∃ tn, (tl d k).length = tn := ⟨_, rfl⟩
          rw [htn] at htl L1 ⊢
          have HZ1 : Hid (wrap64 ((tn : Int) + 1) = (tn : Int) + 1) := hid (by unfold wrap64; omega)
          have hz0 : ¬ (wrap64 ((tn : Int) + 1) = 0) := by rw [HZ1.out]; omega
          have HTL := hid htl
          have HTN := hid htn
          clear htl htn
          obtain ⟨b, o, ea0, c1, c2⟩ := H0.out k hlt
          subst ea0
          have c3 := (Kept.ofBelow (E := fun _ => False) L1.out.bel).cell (fun h => h) c1
          have HSZ := hid c2
          clear c2 c1
          go_upto_region 21 with fail
          clear hz0
          have hcm : ((d k : Int) % ((tn : Int) + 1)) = ((d k % (tn + 1) : Nat) : Int) := by simp
          obtain ⟨c, hc⟩ : ∃ c, d k % (tn + 1) = c := ⟨_, rfl⟩
          rw [HZ1.out, hcm, hc]
          clear hcm
          have HC := hid hc
          clear hc
          obtain ⟨tq, htq⟩ : ∃ tq, tm k = .float .f64 tq := by rw [HTM.out]; exact ⟨_, rfl⟩
          rw [htq]
          have HTQ := hid htq
          have hnk : nm k = ⟨#[120]⟩ ++ ns k := by rw [HNM.out]
          have HNK := hid hnk
          have ADD := hid (addx (ns k) HSZ.out)
          rw [← hnk] at ADD
          clear htq hnk
          go_upto_region 22 with (first
            | ((with_reducible (show wpList _ _ _ (⟨_, .binOp .add 9 _ _ _, _, _, _, _⟩ :: _) _ _)); refine wpList_bin_as rfl .add 9 _ _ 9 rfl (.string ⟨#[120]⟩) (.string (ns k)) (.string (nm k)) rfl rfl (fun w => by kernel_rfl) (ADD.out _) ?_; simp only [Act.put, List.setIfInBounds_toArray, List.set_cons_succ, List.set_cons_zero])
            | ((with_reducible (show wpList _ _ _ (⟨_, .build 39 _, _, _, _, _⟩ :: _) _ _)); refine wpList_build_as rfl 39 _ rfl (.agg #[.string (nm k), .slice none 0 0, sl U1.heap.size 0 1 1, .float .f64 tq]) (bld39 _ _ _ _) ?_; simp only [Act.put, List.setIfInBounds_toArray, List.set_cons_succ, List.set_cons_zero])
            | ((with_reducible (show wpList _ _ _ (⟨_, .alloc 39, _, _, _, _⟩ :: _) _ _)); refine wpList_alloc_as rfl 39 rfl #[.string ⟨#[]⟩, .slice none 0 0, .slice none 0 0, .float .f64 0] al39 ?_; simp only [Act.put, List.setIfInBounds_toArray, List.set_cons_succ, List.set_cons_zero])
            | ((with_reducible (show wpList _ _ _ (⟨_, .store 39 _ _, _, _, _, _⟩ :: _) _ _)); refine wpList_store_mid rfl 39 _ _ rfl (U1.alloc (.cells #[vi k] 3)).heap.size 0 #[.string (nm k), .slice none 0 0, sl U1.heap.size 0 1 1, .float .f64 tq] rfl rfl (there_new (U1.alloc (.cells #[vi k] 3)) [.string ⟨#[]⟩, .slice none 0 0, .slice none 0 0, .float .f64 0] 39) (by kernel_rfl) (by simp [Value.oneCell']) ?_; simp only [Act.put, List.setIfInBounds_toArray, List.set_cons_succ, List.set_cons_zero]))
          have HM := hid (L1.out.made (k := k) LD0.out HTQ.out)
          refine wp_as (fun U => LW w U base Gb Sb pb sv sb en n U1.heap.size nm tm d (k + 1) k k k (.slice sa tn tc) u11 vals ∧ SV U U1.heap.size U1.heap.size (U1.alloc (.cells #[vi k] 3)).heap.size k nm tm (.slice none 0 0) (.slice sa tn tc) u11 vals) HM.out ?_
          rintro U2 ⟨l2, v2⟩
          clear HM
          obtain ⟨b16, h16⟩ : ∃ b16, (U1.alloc (.cells #[vi k] 3)).heap.size = b16 := ⟨_, rfl⟩
          obtain ⟨ob, hob⟩ : ∃ ob, U1.heap.size = ob := ⟨_, rfl⟩
          rw [h16, hob] at v2
          rw [hob] at l2
          rw [h16, hob]
          clear h16 hob c3
          have L2 := hid l2
          have V2 := hid v2
          clear l2 v2 L1
          by_cases hcn : c = tn
          · obtain rfl : tn = c := hcn.symm
            have HC' : Hid (d k % ((tl d k).length + 1) = (tl d k).length) := hid (by rw [HTN.out]; exact HC.out)
            have hbe : ((tn : Int) == (tn : Int)) = true := by simp
            go_upto_region 24 with ((with_reducible (show wpList _ _ _ (⟨some 104, _, _, _, _, _⟩ :: _) _ _)); refine wpList_append_own_at _ rfl (.tmp 101) (.tmp 103) 26 rfl base 3 i3 (.int .i64 0) 1 8 Ybaz.underlying26 hi3 hz3 hs3 hb3 rfl (by decide) (.slice sa tn tc) tn ((tl d k).map vi) rfl (own_kept (by have := L2.out.tls; rw [HTN.out] at this; exact this) ((Kept.refl (fun _ => False) U2).alloc _) (fun _ _ h => h)) ⟨U2.heap.size, 0, none⟩ 1 1 [vi k] rfl rfl (news1 U2 (vi k) 3) (by simp [Value.oneCell']) (by have := HTL.out; unfold maxLen; omega) (by have := HTL.out; omega) (by have := L2.out.bF; have := L2.out.sz; simp; omega) ?_; intro tv' U3 own3 gr3 _ mv3; simp only [Act.put, List.setIfInBounds_toArray, List.set_cons_succ, List.set_cons_zero])
            have l3 : LW w U3 base Gb Sb pb sv sb en n ob nm tm d (k + 1) (k + 1) k k tv' u11 vals ∧ SV U3 ob ob b16 k nm tm (.slice none 0 0) tv' u11 vals := by
              have k3 : Kept (fun b => (Value.slice sa tn tc).ownBlock = some b) U2 U3 := ((Kept.refl _ U2).alloc _).grown gr3 (fun b hb => .inl hb)
              have mv' : ∀ b, tv'.ownBlock = some b → (Value.slice sa tn tc).ownBlock = some b ∨ U2.heap.size ≤ b := fun b hb => by
                rcases mv3 with e | e
                · rw [e] at hb; exact .inl hb
                · rw [e] at hb; cases hb; exact .inr (by simp)
              have et : tl d (k + 1) = tl d k ++ [k] := by conv => lhs; unfold tl; rw [if_pos HC'.out]
              have own3' : U3.ownsRow base 3 1 tv' (tl d (k + 1)).length ((tl d (k + 1)).map vi) := by
                rw [et]
                simp only [List.length_append, List.length_cons, List.length_nil, Nat.zero_add, List.map_append, List.map_cons, List.map_nil, HTN.out]
                exact own3
              exact ⟨L2.out.tails LD0.out k3 own3' mv', V2.out.kept k3 V2.out.ao.t V2.out.a16.t (V2.out.ao.tails V2.out.uo mv') (V2.out.a16.tails V2.out.u16 mv')⟩
            obtain ⟨ca, cc, ecv, _⟩ := own_form l3.1.ch.out
            subst ecv
            have HVL : Hid (vals.length ≤ 300) := hid (by
              have e1 := l3.1.ch.len
              have e2 := groups_len (prd_low d n) (m := n) k
              have := rk_le (prd d) k
              omega)
            have L3 := hid l3.1
            have V3 := hid l3.2
            clear l3 own3 gr3 mv3 L2 V2 hbe
            have PA1 : Hid (((U3.alloc (.cells #[vi k] 3)).alloc (.cells #[sl U3.heap.size 0 1 1] 26)).ownsRow base 26 1 (.slice ca vals.length cc) vals.length vals) := hid (own_kept L3.out.ch.out (((Kept.refl (fun _ => False) U3).alloc (.cells #[vi k] 3)).alloc (.cells #[sl U3.heap.size 0 1 1] 26)) (fun _ _ h => h))
            have pa4 := news1 (U3.alloc (.cells #[vi k] 3)) (sl U3.heap.size 0 1 1) 26
            rw [World.size_alloc] at pa4
            have PA4 := hid pa4
            clear pa4
            have PA5 : Hid (∀ u ∈ [sl U3.heap.size 0 1 1], u.oneCell' = true) := hid (fun u hu => by simp at hu; subst hu; rfl)
            have PA6 : Hid (vals.length + 1 ≤ maxLen) := hid (by have := HVL.out; unfold maxLen; omega)
            have PA7 : Hid ((vals.length + 1) * 24 ≤ 140737488355328) := hid (by have := HVL.out; omega)
            have PA8 : Hid (base ≤ ((U3.alloc (.cells #[vi k] 3)).alloc (.cells #[sl U3.heap.size 0 1 1] 26)).heap.size) := hid (by have := L3.out.bF; have := L3.out.sz; rw [World.size_alloc, World.size_alloc]; omega)
            go_upto_region 28 with ((with_reducible (show wpList _ _ _ (⟨some 109, _, _, _, _, _⟩ :: _) _ _)); refine wpList_append_own_at _ rfl (.tmp 105) (.tmp 108) 29 rfl base 26 i26 (.slice none 0 0) 1 24 Ybaz.underlying29 hi26 hz26 hs26 hb26 rfl (by decide) (.slice ca vals.length cc) vals.length vals rfl PA1.out ⟨U3.heap.size + 1, 0, none⟩ 1 1 [sl U3.heap.size 0 1 1] rfl rfl PA4.out PA5.out PA6.out PA7.out PA8.out ?_; intro cv' U4 own4 gr4 _ mv4; simp only [Act.put, List.setIfInBounds_toArray, List.set_cons_succ, List.set_cons_zero])
            clear PA1 PA4 PA5 PA6 PA7 PA8
            have l5 : LW w U4 base Gb Sb pb sv sb en n ob nm tm d (k + 1) (k + 1) (k + 1) k tv' cv' (vals ++ [sl U3.heap.size 0 1 1]) ∧ SV U4 ob ob b16 k nm tm (.slice none 0 0) tv' cv' (vals ++ [sl U3.heap.size 0 1 1]) := by
              have hb3 : base ≤ U3.heap.size := Nat.le_trans L3.out.bF L3.out.sz
              have ka : Kept (fun _ => False) U3 ((U3.alloc (.cells #[vi k] 3)).alloc (.cells #[sl U3.heap.size 0 1 1] 26)) := ((Kept.refl (fun _ => False) U3).alloc _).alloc _
              have orb := L3.out.ch.keptO ka (fun _ h => h.elim)
              have hu : ((U3.alloc (.cells #[vi k] 3)).alloc (.cells #[sl U3.heap.size 0 1 1] 26)).ownsRow base 3 1 (sl U3.heap.size 0 1 1) [k].length ([k].map vi) := own_kept (own_new U3 base (vi k) 3 hb3) ((Kept.refl (fun _ => False) _).alloc _) (fun _ _ h => h)
              have og := orb.grow (u := sl U3.heap.size 0 1 1) (g := [k]) hu (fun kk v b hv hb he => by
                have e1 : U3.heap.size = b := Option.some.inj he
                have := (L3.out.ch.block (List.mem_of_getElem? hv) hb).2
                omega) own4 gr4
              rw [← chains_new hlt HC'.out] at og
              have k4 : Kept (fun b => (Value.slice ca vals.length cc).ownBlock = some b ∨ ∃ v ∈ vals, v.ownBlock = some b) U3 U4 := (ka.weak (fun _ _ h => h.elim)).grown gr4 (fun b hb => .inl (.inl hb))
              have mc : ∀ b, cv'.ownBlock = some b → (Value.slice ca vals.length cc).ownBlock = some b ∨ U3.heap.size ≤ b := fun b hb => by
                rcases mv4 with e | e
                · rw [e] at hb; exact .inl hb
                · rw [e] at hb; cases hb; exact .inr (by simp; omega)
              have mv : ∀ v ∈ vals ++ [sl U3.heap.size 0 1 1], ∀ b, v.ownBlock = some b → (∃ v ∈ vals, v.ownBlock = some b) ∨ U3.heap.size ≤ b := fun v hv b hb => by
                rcases List.mem_append.1 hv with hv | hv
                · exact .inl ⟨v, hv, hb⟩
                · simp at hv; rw [hv] at hb; cases hb; exact .inr (Nat.le_refl _)
              have no : ∀ z, Aside tv' (Value.slice ca vals.length cc) vals z → ¬ ((Value.slice ca vals.length cc).ownBlock = some z ∨ ∃ v ∈ vals, v.ownBlock = some z) := fun z ha he => he.elim ha.c (fun ⟨v, hv, e⟩ => ha.v v hv e)
              exact ⟨L3.out.chains LD0.out k4 og mc mv, V3.out.kept k4 (no _ V3.out.ao) (no _ V3.out.a16) (V3.out.ao.chains V3.out.uo mc mv) (V3.out.a16.chains V3.out.u16 mc mv)⟩
            obtain ⟨l5, v5⟩ := l5
            clear own4 gr4 mv4 L3 V3
            have z0 : ∀ x : Wld (fun U' => Kept (fun _ => False) U4 U'), x.w.cell? ⟨Gb, 2, none⟩ = some (sl sv 0 n n) := fun x => x.h.cell (fun h => h) l5.g2
            have s0 : Kept (fun _ => False) U4 U4.drew := (Kept.refl _ U4).drew
            haveI nS : Nonempty (Wld (fun U' => Kept (fun _ => False) U4 U')) := ⟨⟨U4.drew, s0⟩⟩
            have L5 := hid l5
            have S5 := hid v5
            clear l5 v5
            refine wp_region_calmplan 7 [(true, 0), (true, 1), (true, 2), (true, 3), (true, 4), (true, 5), (true, 6), (false, 7)] (fun w' => ∃ x : Wld (fun U' => Kept (fun _ => False) U4 U'), w' = x.w) mixed (by kernel_rfl) (inS s0) ?_
            iterate 5 (refine wpPlan_q (by rfl) ?_; dsimp only [List.getElem_toArray, List.getElem_cons_zero, List.getElem_cons_succ]; go_big_quiet_step (fail); refine wpQuiet_nil ?_)
            refine wpPlan_q (by rfl) ?_
            dsimp only [List.getElem_toArray, List.getElem_cons_zero, List.getElem_cons_succ]
            refine wpQuiet_run (.agg #[.string (nm k), (.slice none 0 0), sl ob 0 1 1, .float .f64 tq]) rfl (fun w hw => by obtain ⟨x, rfl⟩ := hw; exact xload_mid b16 0 rfl [.string (nm k), (.slice none 0 0), sl ob 0 1 1, .float .f64 tq] _ (x.h.range (fun h => h) (by have := S5.out.r16; rw [HTQ.out] at this; exact this)) Ybaz.underlying39 rfl (by kernel_rfl)) ?_
            simp only [Act.put, List.setIfInBounds_toArray, List.set_cons_succ, List.set_cons_zero]
            refine wpQuiet_nil ?_
            (refine wpPlan_q (by rfl) ?_; dsimp only [List.getElem_toArray, List.getElem_cons_zero, List.getElem_cons_succ]; go_big_quiet_step (fail); refine wpQuiet_nil ?_)
            refine wpPlan_e (by rfl) ?_
            dsimp only [List.getElem_toArray, List.getElem_cons_zero, List.getElem_cons_succ]
            have T28 : Hid (U4.drew.there sv (k * 4) 4) := hid (there_part (there_drew L5.out.svT) (by omega) (by omega))
            refine wpList_store_mid rfl 39 _ _ rfl sv (k * 4) #[.string (nm k), (.slice none 0 0), sl ob 0 1 1, .float .f64 tq] (by rw [← Nat.zero_add (k * 4)]; rfl) rfl T28.out (by kernel_rfl) (by simp [Value.oneCell']) ?_
            refine wpList_done ?_
            simp only [Act.put, List.setIfInBounds_toArray, List.set_cons_succ, List.set_cons_zero]
            refine onward_normal (fun h => by cases h) ?_
            refine wpPlan_nil ?_
            refine calmQ_normal ?_
            have l6 : LW w (U4.drew.setCells sv (k * 4) [.string (nm k), (.slice none 0 0), sl ob 0 1 1, .float .f64 tq]) base Gb Sb pb sv sb en n U4.drew.heap.size nm tm d (k + 1) (k + 1) (k + 1) (k + 1) tv' cv' (vals ++ [sl U3.heap.size 0 1 1]) := by
              have ld := L5.out.aside LD0.out s0 (fun _ h => h.elim)
              have v6 := S5.out.kept s0 (fun h => h) (fun h => h) S5.out.ao S5.out.a16
              have := ld.serve (iv := (.slice none 0 0)) (ob := ob) (oc := 1) LD0.out hlt (Nat.le_trans L5.out.bF v6.fo) v6.uo v6.ao v6.co (fun _ => rfl) (fun j hj => by rw [prd_new HC'.out] at hj; cases hj)
              rw [HTQ.out] at this
              exact this
            have L6 := hid l6
            clear l6 z0 nS s0 T28
            go_wp2
            go_roundw
            case rel => exact ⟨k + 1, by omega, by go_num, _, _, L6.out⟩
            case measure => simp [intOf]; omega
          · have HC0 : Hid (¬ d k % ((tl d k).length + 1) = (tl d k).length) := hid (by rw [HTN.out, HC.out]; exact hcn)
            have hclt : c < tn := by
              have := Nat.mod_lt (d k) (show tn + 1 > 0 by omega)
              have := HC.out
              omega
            obtain ⟨j, hp, ht⟩ := prd_old HC0.out
            rw [HTN.out, HC.out] at ht
            have HPJ := hid hp
            have HTJ := hid ht
            have own2 : U2.ownsRow base 3 1 (.slice sa tn tc) tn ((tl d k).map vi) := by have := L2.out.tls; rw [HTN.out] at this; exact this
            have hmc : ((tl d k).map vi)[c]? = some (vi j) := by rw [List.getElem?_map, ht]; rfl
            obtain ⟨tg, tcap, etv, q1, q2⟩ := own_cell own2 hmc
            obtain ⟨rfl, rfl⟩ : sa = some ⟨tg, 0, none⟩ ∧ tc = tcap := by
              injection etv with e1 e2 e3
              exact ⟨e1, e3⟩
            have HOW := hid own2
            have hbe : ((c : Int) == (tn : Int)) = false := by
              have : ¬ ((c : Int) = (tn : Int)) := by omega
              simpa using this
            have hci : (c : Int) < (tn : Int) := by omega
            have th := ((Kept.refl (fun _ => False) U2).alloc (.cells #[vi j] 3)).there (fun h => h) V2.out.t16 1 (by omega)
            rw [Nat.zero_add] at th
            obtain ⟨_, th1⟩ := Option.isSome_iff_exists.1 th.1
            have th2 := th.2
            clear own2 hmc ht hp th etv
            go_upto_region 26 with fail
            clear th1 th2 q2 hbe
            refine wp_as (fun U => LW w U base Gb Sb pb sv sb en n ob nm tm d (k + 1) k k k (sl tg 0 tn tc) u11 vals ∧ SV U ob ob b16 k nm tm (sl U2.heap.size 0 1 1) (sl tg 0 tn tc) u11 vals ∧ U.cell? ⟨U2.heap.size, 0, none⟩ = some (vi j) ∧ Aside (sl tg 0 tn tc) u11 vals U2.heap.size ∧ U2.heap.size < U.heap.size) (L2.out.input LD0.out V2.out j) ?_
            have hib : Hid (base ≤ U2.heap.size) := hid (Nat.le_trans L2.out.bF L2.out.sz)
            obtain ⟨ib, hibe⟩ : ∃ ib, U2.heap.size = ib := ⟨_, rfl⟩
            rw [hibe] at hib ⊢
            clear q1 HOW L2 V2 hibe
            rintro U3 ⟨l3, v3, i3c, i3a, i3l⟩
            have own3 : U3.ownsRow base 3 1 (sl tg 0 tn tc) tn ((tl d k).map vi) := by have := l3.tls; rw [HTN.out] at this; exact this
            obtain ⟨_, _, etv, q1, q2⟩ := own_cell own3 (show ((tl d k).map vi)[c]? = some (vi j) by rw [List.getElem?_map, HTJ.out]; rfl)
            cases etv
            have O3 := hid own3
            have L3 := hid l3
            have V3 := hid v3
            have I3 := hid (show U3.cell? ⟨ib, 0, none⟩ = some (vi j) ∧ Aside (sl tg 0 tn tc) u11 vals ib ∧ ib < U3.heap.size from ⟨i3c, i3a, i3l⟩)
            clear own3 l3 v3 i3c i3a i3l
            go_upto_region 27 with fail
            clear q1 q2
            have l4 : LW w (U3.setCell ⟨tg, c, none⟩ (vi k)) base Gb Sb pb sv sb en n ob nm tm d (k + 1) (k + 1) k k (sl tg 0 tn tc) u11 vals ∧ SV (U3.setCell ⟨tg, c, none⟩ (vi k)) ob ob b16 k nm tm (sl ib 0 1 1) (sl tg 0 tn tc) u11 vals ∧ (U3.setCell ⟨tg, c, none⟩ (vi k)).cell? ⟨ib, 0, none⟩ = some (vi j) ∧ Aside (sl tg 0 tn tc) u11 vals ib ∧ ib < (U3.setCell ⟨tg, c, none⟩ (vi k)).heap.size := by
              have k4 : Kept (fun b => (sl tg 0 tn tc).ownBlock = some b) U3 (U3.setCell ⟨tg, c, none⟩ (vi k)) := (Kept.refl (fun b => (sl tg 0 tn tc).ownBlock = some b) U3).setCell (p := ⟨tg, c, none⟩) (.inl rfl) _
              have et : tl d (k + 1) = (tl d k).set c k := by
                conv => lhs; unfold tl; rw [if_neg HC0.out]
                rw [HTN.out, HC.out]
              have own4 := own_set O3.out c hclt (vi k)
              refine ⟨L3.out.tails LD0.out k4 ?_ (fun b hb => .inl hb), V3.out.kept k4 V3.out.ao.t V3.out.a16.t V3.out.ao V3.out.a16, k4.cell (p := ⟨ib, 0, none⟩) I3.out.2.1.t I3.out.1, I3.out.2.1, Nat.lt_of_lt_of_le I3.out.2.2 k4.size⟩
              rw [et, List.length_set, HTN.out, List.map_set]
              exact own4
            obtain ⟨g, hgk, hgr⟩ := chains_old (m := n) hlt HC0.out
            rw [HTN.out, HC.out] at hgk hgr
            have HGK := hid hgk
            have HGR := hid hgr
            have hvk : c < vals.length := by
              rw [l4.1.ch.len]
              exact (List.getElem?_eq_some_iff.1 hgk).1
            obtain ⟨vk, hvk'⟩ : ∃ vk, vals[c]? = some vk := ⟨_, List.getElem?_eq_getElem hvk⟩
            obtain ⟨og, oc, ecv, _, _⟩ := own_cell l4.1.ch.out hvk'
            subst ecv
            refine wp_as (fun U => LW w U base Gb Sb pb sv sb en n ob nm tm d (k + 1) (k + 1) k k (sl tg 0 tn tc) (sl og 0 vals.length oc) vals ∧ SV U ob ob b16 k nm tm (sl ib 0 1 1) (sl tg 0 tn tc) (sl og 0 vals.length oc) vals ∧ U.cell? ⟨ib, 0, none⟩ = some (vi j) ∧ Aside (sl tg 0 tn tc) (sl og 0 vals.length oc) vals ib ∧ ib < U.heap.size) l4 ?_
            clear l4
            rintro U4 ⟨l4, v4, i4c, i4a, i4l⟩
            have hck := (l4.ch.cell hvk').1
            have hgl : Hid (g.length ≤ 300) := hid (by
              have hm := List.mem_of_getElem? hgk
              unfold groups at hm
              obtain ⟨q, _, rfl⟩ := List.mem_map.1 hm
              have := row_len (prd d) (rt (prd d) n) k q
              omega)
            have hvli : (c : Int) < (vals.length : Int) := by omega
            have HVK := hid hvk'
            have L4 := hid l4
            have V4 := hid v4
            have I4 := hid (show U4.cell? ⟨ib, 0, none⟩ = some (vi j) ∧ Aside (sl tg 0 tn tc) (sl og 0 vals.length oc) vals ib ∧ ib < U4.heap.size from ⟨i4c, i4a, i4l⟩)
            have ORA : Hid (OR (U4.alloc (.cells #[vi k] 3)) base (sl og 0 vals.length oc) vals (groups (prd d) (rt (prd d) n) k)) := hid (l4.ch.keptO (E := fun _ => False) ((Kept.refl _ U4).alloc _) (fun _ h => h.elim))
            have PA1 := hid (ORA.out.own c vk g hvk' hgk)
            have PA4 := hid (news1 U4 (vi k) 3)
            have PA6 : Hid (g.length + 1 ≤ maxLen) := hid (by have := hgl.out; unfold maxLen; omega)
            have PA7 : Hid ((g.length + 1) * 8 ≤ 140737488355328) := hid (by have := hgl.out; omega)
            have PA8 : Hid (base ≤ (U4.alloc (.cells #[vi k] 3)).heap.size) := hid (by have := l4.bF; have := l4.sz; rw [World.size_alloc]; omega)
            clear l4 v4 i4c i4a i4l hgk hgr hvk' hvk L3 V3 I3 O3
            go_upto_region 28 with ((with_reducible (show wpList _ _ _ (⟨some 128, _, _, _, _, _⟩ :: _) _ _)); refine wpList_append_own_at _ rfl (.tmp 125) (.tmp 127) 26 rfl base 3 i3 (.int .i64 0) 1 8 Ybaz.underlying26 hi3 hz3 hs3 hb3 rfl (by decide) vk g.length (g.map vi) rfl PA1.out ⟨U4.heap.size, 0, none⟩ 1 1 [vi k] rfl rfl PA4.out (by simp [Value.oneCell']) PA6.out PA7.out PA8.out ?_; intro v' U5 own5 gr5 _ mv5; obtain ⟨g', cap', rfl⟩ := own_slice own5; obtain ⟨p1, pc, pf, _⟩ := ORA.out.push rfl HVK.out HGK.out own5 gr5 mv5; have P1 := hid p1; have GR := hid gr5; have MV := hid mv5; clear p1 own5 gr5 mv5 hck; simp only [Act.put, List.setIfInBounds_toArray, List.set_cons_succ, List.set_cons_zero])
            clear pc pf
            have l5 : LW w (U5.setCell ⟨og, c, none⟩ (sl g' 0 (g.length + 1) cap')) base Gb Sb pb sv sb en n ob nm tm d (k + 1) (k + 1) (k + 1) k (sl tg 0 tn tc) (sl og 0 vals.length oc) (vals.set c (sl g' 0 (g.length + 1) cap')) ∧ SV (U5.setCell ⟨og, c, none⟩ (sl g' 0 (g.length + 1) cap')) ob ob b16 k nm tm (sl ib 0 1 1) (sl tg 0 tn tc) (sl og 0 vals.length oc) (vals.set c (sl g' 0 (g.length + 1) cap')) ∧ (U5.setCell ⟨og, c, none⟩ (sl g' 0 (g.length + 1) cap')).cell? ⟨ib, 0, none⟩ = some (vi j) ∧ Aside (sl tg 0 tn tc) (sl og 0 vals.length oc) (vals.set c (sl g' 0 (g.length + 1) cap')) ib ∧ ib < (U5.setCell ⟨og, c, none⟩ (sl g' 0 (g.length + 1) cap')).heap.size := by
              have hmem := List.mem_of_getElem? HVK.out
              have k5 : Kept (fun b => (sl og 0 vals.length oc).ownBlock = some b ∨ ∃ v ∈ vals, v.ownBlock = some b) U4 (U5.setCell ⟨og, c, none⟩ (sl g' 0 (g.length + 1) cap')) := (((Kept.refl _ U4).alloc _).grown GR.out (fun b hb => .inl (.inr ⟨vk, hmem, hb⟩))).setCell (p := ⟨og, c, none⟩) (.inl (.inl rfl)) _
              have mc : ∀ b, (sl og 0 vals.length oc).ownBlock = some b → (sl og 0 vals.length oc).ownBlock = some b ∨ U4.heap.size ≤ b := fun b hb => .inl hb
              have mv : ∀ v ∈ vals.set c (sl g' 0 (g.length + 1) cap'), ∀ b, v.ownBlock = some b → (∃ v ∈ vals, v.ownBlock = some b) ∨ U4.heap.size ≤ b := fun v hv b hb => by
                rcases List.mem_or_eq_of_mem_set hv with hv | hv
                · exact .inl ⟨v, hv, hb⟩
                · rw [hv] at hb
                  rcases MV.out with e | e
                  · rw [e] at hb; exact .inl ⟨vk, hmem, hb⟩
                  · rw [e] at hb
                    have e1 := Option.some.inj hb
                    rw [World.size_alloc] at e1
                    exact .inr (by omega)
              have no : ∀ z, Aside (sl tg 0 tn tc) (sl og 0 vals.length oc) vals z → ¬ ((sl og 0 vals.length oc).ownBlock = some z ∨ ∃ v ∈ vals, v.ownBlock = some z) := fun z ha he => he.elim ha.c (fun ⟨v, hv, e⟩ => ha.v v hv e)
              have orx := P1.out
              rw [← HGR.out] at orx
              exact ⟨L4.out.chains LD0.out k5 orx mc mv, V4.out.kept k5 (no _ V4.out.ao) (no _ V4.out.a16) (V4.out.ao.chains V4.out.uo mc mv) (V4.out.a16.chains V4.out.u16 mc mv), k5.cell (p := ⟨ib, 0, none⟩) (no _ I4.out.2.1) I4.out.1, I4.out.2.1.chains I4.out.2.2 mc mv, Nat.lt_of_lt_of_le I4.out.2.2 k5.size⟩
            clear L4 V4 I4 ORA PA1 PA4 PA6 PA7 PA8 P1 GR MV
            refine wp_as (fun U => LW w U base Gb Sb pb sv sb en n ob nm tm d (k + 1) (k + 1) (k + 1) k (sl tg 0 tn tc) (sl og 0 vals.length oc) (vals.set c (sl g' 0 (g.length + 1) cap')) ∧ SV U ob ob b16 k nm tm (sl ib 0 1 1) (sl tg 0 tn tc) (sl og 0 vals.length oc) (vals.set c (sl g' 0 (g.length + 1) cap')) ∧ U.cell? ⟨ib, 0, none⟩ = some (vi j) ∧ Aside (sl tg 0 tn tc) (sl og 0 vals.length oc) (vals.set c (sl g' 0 (g.length + 1) cap')) ib ∧ ib < U.heap.size) l5 ?_
            clear l5
            rintro U6 ⟨l5, v5, i5c, i5a, i5l⟩
            have I5 := hid (show U6.cell? ⟨ib, 0, none⟩ = some (vi j) ∧ Aside (sl tg 0 tn tc) (sl og 0 vals.length oc) (vals.set c (sl g' 0 (g.length + 1) cap')) ib ∧ ib < U6.heap.size from ⟨i5c, i5a, i5l⟩)
            clear i5c i5a i5l
            have z0 : ∀ x : Wld (fun U' => Kept (fun _ => False) U6 U'), x.w.cell? ⟨Gb, 2, none⟩ = some (sl sv 0 n n) := fun x => x.h.cell (fun h => h) l5.g2
            have s0 : Kept (fun _ => False) U6 U6.drew := (Kept.refl _ U6).drew
            haveI nS : Nonempty (Wld (fun U' => Kept (fun _ => False) U6 U')) := ⟨⟨U6.drew, s0⟩⟩
            have L5 := hid l5
            have S5 := hid v5
            clear l5 v5
            refine wp_region_calmplan 7 [(true, 0), (true, 1), (true, 2), (true, 3), (true, 4), (true, 5), (true, 6), (false, 7)] (fun w' => ∃ x : Wld (fun U' => Kept (fun _ => False) U6 U'), w' = x.w) mixed (by kernel_rfl) (inS s0) ?_
            iterate 5 (refine wpPlan_q (by rfl) ?_; dsimp only [List.getElem_toArray, List.getElem_cons_zero, List.getElem_cons_succ]; go_big_quiet_step (fail); refine wpQuiet_nil ?_)
            refine wpPlan_q (by rfl) ?_
            dsimp only [List.getElem_toArray, List.getElem_cons_zero, List.getElem_cons_succ]
            refine wpQuiet_run (.agg #[.string (nm k), (sl ib 0 1 1), sl ob 0 1 1, .float .f64 tq]) rfl (fun w hw => by obtain ⟨x, rfl⟩ := hw; exact xload_mid b16 0 rfl [.string (nm k), (sl ib 0 1 1), sl ob 0 1 1, .float .f64 tq] _ (x.h.range (fun h => h) (by have := S5.out.r16; rw [HTQ.out] at this; exact this)) Ybaz.underlying39 rfl (by kernel_rfl)) ?_
            simp only [Act.put, List.setIfInBounds_toArray, List.set_cons_succ, List.set_cons_zero]
            refine wpQuiet_nil ?_
            (refine wpPlan_q (by rfl) ?_; dsimp only [List.getElem_toArray, List.getElem_cons_zero, List.getElem_cons_succ]; go_big_quiet_step (fail); refine wpQuiet_nil ?_)
            refine wpPlan_e (by rfl) ?_
            dsimp only [List.getElem_toArray, List.getElem_cons_zero, List.getElem_cons_succ]
            have T28 : Hid (U6.drew.there sv (k * 4) 4) := hid (there_part (there_drew L5.out.svT) (by omega) (by omega))
            refine wpList_store_mid rfl 39 _ _ rfl sv (k * 4) #[.string (nm k), (sl ib 0 1 1), sl ob 0 1 1, .float .f64 tq] (by rw [← Nat.zero_add (k * 4)]; rfl) rfl T28.out (by kernel_rfl) (by simp [Value.oneCell']) ?_
            refine wpList_done ?_
            simp only [Act.put, List.setIfInBounds_toArray, List.set_cons_succ, List.set_cons_zero]
            refine onward_normal (fun h => by cases h) ?_
            refine wpPlan_nil ?_
            refine calmQ_normal ?_
            have l6 : LW w (U6.drew.setCells sv (k * 4) [.string (nm k), (sl ib 0 1 1), sl ob 0 1 1, .float .f64 tq]) base Gb Sb pb sv sb en n U6.drew.heap.size nm tm d (k + 1) (k + 1) (k + 1) (k + 1) (sl tg 0 tn tc) (sl og 0 vals.length oc) (vals.set c (sl g' 0 (g.length + 1) cap')) := by
              have ld := L5.out.aside LD0.out s0 (fun _ h => h.elim)
              have v6 := S5.out.kept s0 (fun h => h) (fun h => h) S5.out.ao S5.out.a16
              have := ld.serve (iv := (sl ib 0 1 1)) (ob := ob) (oc := 1) LD0.out hlt (Nat.le_trans L5.out.bF v6.fo) v6.uo v6.ao v6.co (fun h => by rw [HPJ.out] at h; cases h) (fun j' hj => by rw [HPJ.out] at hj; cases hj; exact ⟨ib, 1, rfl, hib.out, I5.out.2.2, I5.out.2.1, I5.out.1⟩)
              rw [HTQ.out] at this
              exact this
            have L6 := hid l6
            clear l6 z0 nS s0 T28
            go_wp2
            go_roundw
            case rel => exact ⟨k + 1, by omega, by go_num, _, _, L6.out⟩
            case measure => simp [intOf]; omega
    · obtain rfl : n = k := by omega
      have LE := hid lw
      have HTT : Hid (∀ x, x < n → ∃ y, y ≤ 65535 ∧ tm x = .float .f64 (Flt.nat y)) := hid (fun x hx => by
        rw [HTM.out]
        by_cases h1 : x < n1
        · obtain ⟨_, _, _, _, h3⟩ := H1.out x h1
          exact ⟨tt x, h3, by simp [h1]⟩
        · exact ⟨0, by omega, by simp [h1]⟩)
      have HNN : Hid (∀ x, x < n → Named (nm x)) := hid (fun x hx => by
        rw [HNM.out]
        exact named_x (ns x))
      clear lw
      go_wp2
      by_cases hn0 : n = 0
      · subst hn0
        exact law_tail0 Gb Sb w wr LE.out.bel (tree_zero Gb Sb en 0 wr LE.out.s3)
      · have hn : 0 < n := by omega
        have hlow := prd_low d n
        have hin := prd_inj d n
        have hp0 : prd d 0 = none := by
          cases hp : prd d 0 with
          | none => rfl
          | some j => have := hlow 0 j hn hp; omega
        have hgl := groups_len hlow (m := n) n
        have hrk : 0 < rk (prd d) n := by have := rk_lt (show 0 < n from hn) hp0; omega
        have hL : ∀ L ∈ groups (prd d) (rt (prd d) n) n, 0 < L.length ∧ L.length ≤ 300 ∧ ∀ j x : Nat, L[j]? = some x → x < n := fun L hm => by
          obtain ⟨q, hq⟩ := List.getElem?_of_mem hm
          have hc := (groups_chain hlow hin hq).1
          refine ⟨hc.pos, ?_, hc.lt⟩
          unfold groups at hm
          obtain ⟨q', _, rfl⟩ := List.mem_map.1 hm
          have := row_len (prd d) (rt (prd d) n) n q'
          omega
        obtain ⟨og, oc, ecv, hch⟩ := LE.out.ch.chs (by omega) (fun L hm => (hL L hm).1)
        subst ecv
        have rg := LE.out.rg hfew
        exact law_tail Gb Sb n sv og oc nm (groups (prd d) (rt (prd d) n) n) w wr LE.out.bel hn hfew ⟨rg.g2, rg.nmC⟩ hch (by omega) (by have := rk_le (prd d) n; omega) hL (tree_any Gb Sb n pb sv sb en nm tm (prd d) wr hn rg HTT.out hin HNN.out)
end Go.Proofs.YbulkdsicGreat
