import Derived.Test.YbulkdsjeGreatDoorCk2
import Derived.Test.YbulkdsjeGreatDoorNewU
import Derived.Test.YbulkdsjeGreatDoorFlo
import Derived.Handy
set_option linter.unusedVariables false
set_option linter.unusedSimpArgs false
namespace Go.Proofs.YbulkdsjeGreatDoor
open Go.RowKit

theorem storeSl (t e : TypeId) (hu : Ybaz.prog.underlying t = some (.slice e)) (hsz : ∀ w, Sem.run Ybaz.prog (Go.sizeOf t) w = .ok 1 w) (w : World) (b o : Nat) (sa : Option Addr) (n c : Nat) (hc : (w.cell? ⟨b, o, none⟩).isSome = true) (hf : w.frozen? ⟨b, o, none⟩ = false) : Sem.run Ybaz.prog (Instr.storeAt t (.pointer (some ⟨b, o, none⟩)) (.slice sa n c)) w = .ok () (w.setCell ⟨b, o, none⟩ (.slice sa n c)) := by
  obtain ⟨u, hc'⟩ := Option.isSome_iff_exists.1 hc
  have hst := run_store1 (P := Ybaz.prog) w b o (.slice sa n c) hc hf rfl
  have h1 := hsz w
  go_simp
theorem run_opbuild {t : TypeId} {fs : Array (Nat × Operand)} {d : Option Tmp} {ty : TypeId} {ps : String} {af : Array Edge} {ev : Operand → Value} {w : World} {v : Value} (h : ∀ W, Sem.run Ybaz.prog (Instr.build t (fs.map fun p => (p.1, ev p.2))) W = .ok v W) :
    (execOp ev ⟨d, .build t fs, ty, ps, af, none⟩).run Ybaz.prog w = .ok (.value v) w := by
  unfold execOp
  simp only [Sem.run_bind, h w, Result.andThen_ok, Sem.run_pure]
theorem made_size (cs : Array Value) (m : Nat) : (madeCells cs m).size = m := by
  unfold madeCells
  simp
/-- A new row of cells is there. -/
theorem th_block {W : World} {b N : Nat} {arr : Array Value} {t : TypeId} (h : W.heap[b]? = some (.cells arr t)) (hs : arr.size = N) : ∀ j, j < N → (W.cell? ⟨b, j, none⟩).isSome = true ∧ W.frozen? ⟨b, j, none⟩ = false := fun j hj => by
  constructor
  · unfold World.cell?
    simp only [h]
    rw [Array.getElem?_eq_getElem (by omega)]
    rfl
  · unfold World.frozen?
    simp [h]
theorem list_as {ops : Array Oper} {Q : Exit → Act → World → Prop} {l : List Oper} {a : Act} {w : World} (F : World → Prop) (h : F w) (k : ∀ W, F W → wpList Ybaz.prog ops Q l a W) : wpList Ybaz.prog ops Q l a w := k w h
theorem plan_as {ops : Array Oper} {C : World → Prop} {z : Nat} {Q : Exit → Act → World → Prop} {l : List (Bool × Nat)} {a : Act} {w : World} (F : World → Prop) (h : F w) (k : ∀ W, F W → wpPlan Ybaz.prog ops C z Q l a W) : wpPlan Ybaz.prog ops C z Q l a w := k w h
def KC (m Cb : Nat) (V W : World) : Prop := Kept (fun c => 0 < m ∧ c = Cb) V W
theorem FP.setCells (b : Nat) : ∀ (vs : List Value) (o : Nat) (w : World), FP w (w.setCells b o vs) (fun c _ => c = b)
  | [], _, w => FP.refl w _
  | v :: r, o, w => ((FP.set (w := w) b o v).mono (fun _ _ _ h => h.1)).trans (FP.setCells b r (o + 1) (w.setCell ⟨b, o, none⟩ v))
theorem wpList_appN {ops : Array Oper} {rest : List Oper} {op : Oper} {a : Act} {w : World} {Q : Exit → Act → World → Prop} (hgd : op.guard = none) (s x : Operand) (t e : TypeId) (i : TypeInfo) (ho : op.op = .call { callee := .builtin .append, args := #[s, x], argTypes := #[t, t] })
    (ht : Ybaz.prog.underlying t = some (.slice e)) (hi : Ybaz.prog.info? e = some i) (hsz : i.size = 2) (NB r Iq L c : Nat) (hs : a.eval s = sl NB 0 0 r) (hx : a.eval x = sl Iq 0 L c) (hL : L ≤ r) (th : ∀ j, j < r * 2 → (w.cell? ⟨NB, j, none⟩).isSome = true ∧ w.frozen? ⟨NB, j, none⟩ = false) (src : ∀ j, j < L * 2 → ∃ u, w.cell? ⟨Iq, j, none⟩ = some u ∧ u.oneCell' = true)
    (h : ∀ w', FP w w' (fun c _ => c = NB) → (∀ j, j < L * 2 → w'.cell? ⟨NB, j, none⟩ = w.cell? ⟨Iq, j, none⟩) → (∀ j, j < r * 2 → (w'.cell? ⟨NB, j, none⟩).isSome = true ∧ w'.frozen? ⟨NB, j, none⟩ = false) → wpList Ybaz.prog ops Q rest (a.put op.dst (sl NB 0 L r)) w') : wpList Ybaz.prog ops Q (op :: rest) a w := by
  obtain ⟨news, hnews⟩ : ∃ news, List.ofFn (fun j : Fin (L * 2) => (w.cell? ⟨Iq, j, none⟩).getD undef) = news := ⟨_, rfl⟩
  have hlen : news.length = L * 2 := by rw [← hnews]; simp
  have hget : ∀ j u, news[j]? = some u → w.cell? ⟨Iq, j, none⟩ = some u ∧ u.oneCell' = true := fun j u hu => by
    have hj : j < L * 2 := by rw [← hlen]; exact (List.getElem?_eq_some_iff.1 hu).1
    rw [← hnews, List.getElem?_ofFn, dif_pos hj] at hu
    simp at hu
    obtain ⟨y, hy, o1⟩ := src j hj
    rw [hy] at hu ⊢
    simp at hu
    subst hu
    exact ⟨rfl, o1⟩
  have hr := run_append_room_cells (P := Ybaz.prog) w t op.type e i ht hi NB 0 0 r ⟨Iq, 0, none⟩ L c news (by rw [hsz, hlen]) (fun j u hu => by rw [Addr.add_lit, Nat.zero_add]; exact (hget j u hu).1) (fun u hu => by obtain ⟨j, hj, e⟩ := List.getElem_of_mem hu; exact (hget j u (by rw [List.getElem?_eq_getElem hj, e])).2) (by omega) (fun j hj => by rw [Nat.zero_mul, Nat.zero_add]; exact (th _ (by omega)).1) (fun j hj => by rw [Nat.zero_mul, Nat.zero_add]; exact (th _ (by omega)).2)
  rw [Nat.zero_mul, Nat.zero_add, Nat.zero_add] at hr
  have th0 : w.there NB 0 (r * 2) := fun j hj => by rw [Nat.zero_add]; exact th j hj
  refine wpList_plain hgd fun K hK => ?_
  unfold Oper.wp execOp
  simp only [ho, resolve, invoke, builtin, Sem.run_bind, Sem.run_pure, Result.andThen_ok, List.map_toArray, List.map_cons, List.map_nil, hs, hx, hr]
  refine hK _ _ (h _ (FP.setCells NB news 0 w) (fun j hj => ?_) (fun j hj => ?_))
  · have := World.cell?_setCells_in NB news 0 w (fun i hi => (th0 i (by omega)).1) j (by omega)
    rw [Nat.zero_add] at this
    rw [this]
    exact (hget j _ (List.getElem?_eq_getElem (by omega))).1.symm
  · have := there_setCells th0 NB 0 news j hj
    rwa [Nat.zero_add] at this
theorem wpList_app2r {ops : Array Oper} {rest : List Oper} {op : Oper} {a : Act} {w : World} {Q : Exit → Act → World → Prop} (hgd : op.guard = none) (s x : Operand) (t e : TypeId) (i : TypeInfo) (ho : op.op = .call { callee := .builtin .append, args := #[s, x], argTypes := #[t, t] })
    (ht : Ybaz.prog.underlying t = some (.slice e)) (hi : Ybaz.prog.info? e = some i) (hsz : i.size = 2) (g n cap : Nat) (hs : a.eval s = sl g 0 n cap) (ad : Nat) (v1 v2 : Value) (hx : a.eval x = sl ad 0 1 1) (hv1 : w.cell? ⟨ad, 0, none⟩ = some v1) (hv2 : w.cell? ⟨ad, 1, none⟩ = some v2) (o1 : v1.oneCell' = true) (o2 : v2.oneCell' = true) (hroom : n + 1 ≤ cap)
    (th : ∀ j, j < cap * 2 → (w.cell? ⟨g, j, none⟩).isSome = true ∧ w.frozen? ⟨g, j, none⟩ = false)
    (h : wpList Ybaz.prog ops Q rest (a.put op.dst (sl g 0 (n + 1) cap)) ((w.setCell ⟨g, n * 2, none⟩ v1).setCell ⟨g, n * 2 + 1, none⟩ v2)) : wpList Ybaz.prog ops Q (op :: rest) a w := by
  have hnews : ∀ j u, [v1, v2][j]? = some u → w.cell? ((⟨ad, 0, none⟩ : Addr).add j) = some u := fun j u hu => by
    match j, hu with
    | 0, hu => simp at hu; subst hu; simpa [Addr.add] using hv1
    | 1, hu => simp at hu; subst hu; simpa [Addr.add] using hv2
  have hone : ∀ u ∈ [v1, v2], u.oneCell' = true := fun u hu => by
    simp at hu
    rcases hu with rfl | rfl <;> assumption
  have hr := run_append_room_cells (P := Ybaz.prog) w t op.type e i ht hi g 0 n cap ⟨ad, 0, none⟩ 1 1 [v1, v2] (by rw [hsz]; rfl) hnews hone hroom (fun j hj => by rw [hsz, Nat.zero_add]; exact (th _ (by simp at hj; omega)).1) (fun j hj => by rw [hsz, Nat.zero_add]; exact (th _ (by simp at hj; omega)).2)
  rw [hsz, Nat.zero_add] at hr
  refine wpList_plain hgd fun K hK => ?_
  unfold Oper.wp execOp
  simp only [ho, resolve, invoke, builtin, Sem.run_bind, Sem.run_pure, Result.andThen_ok, List.map_toArray, List.map_cons, List.map_nil, hs, hx, hr]
  exact hK _ _ h
/-- Behind the first half of a push. -/
def PuQ (V : World) (S : Nat → Prop) (b o d n : Nat) (f : Nat → Int) (q : Nat) (w' : World) : Prop := ∃ S' sv' Cb co cc I cp, CY w' S' b o d n f sv' (q + 1) Cb co cc I cp ∧ d + n < 256 * (q + 1) ∧ 256 * q ≤ d + n ∧ FP V w' (fun c j => S c ∨ (c = b ∧ j = o)) ∧ (∀ c, S' c → S c ∨ V.heap.size ≤ c)
theorem PuQ.bo {V V2 V3 : World} {S : Nat → Prop} {b o d n m Cb co cc : Nat} {f : Nat → Int} {sv : Value} {I cp : Nat → Nat} (hx : CX V S b o d n f sv m Cb co cc I cp) (K2 : Kept (fun _ => False) V V2) {v1 v2 : Value} {Cb' co' cc' : Nat} (ap : Ap2 V2 Cb co m v1 v2 Cb' co' cc' V3) : V3.cell? ⟨b, o, none⟩ = some sv ∧ V3.frozen? ⟨b, o, none⟩ = false := by
  have bV : b < V.heap.size := World.block_lt_of_cell? V _ hx.c0
  have fp3 : FP V V3 (fun c _ => 0 < m ∧ c = Cb) := ((FP.calm K2).mono (fun _ _ _ h => h.elim)).trans (FP.ofKept ap.kept ap.frz)
  exact ⟨by rw [fp3.cell _ _ bV (fun e => hx.sb (by rw [e.2]; exact hx.oc e.1))]; exact hx.c0, by rw [fp3.frz _ _ bV]; exact hx.fr 0 (by omega)⟩
theorem PuQ.make {V V2 V3 : World} {S : Nat → Prop} {b o d n m Cb co cc : Nat} {f : Nat → Int} {sv : Value} {I cp : Nat → Nat} (hx : CX V S b o d n f sv m Cb co cc I cp) (full : d + n = 256 * m) (K2 : Kept (fun _ => False) V V2) {NB r : Nat} (hNB : V.heap.size = NB) (hN2 : NB < V2.heap.size)
    (th2 : ∀ j, j < r * 2 → (V2.cell? ⟨NB, j, none⟩).isSome = true ∧ V2.frozen? ⟨NB, j, none⟩ = false) (r0 : 0 < r) (r1 : r ≤ 256) {Cb' co' cc' : Nat} (ap : Ap2 V2 Cb co m (sl NB 0 0 r) (vi 0) Cb' co' cc' V3) : PuQ V S b o d n f m (V3.setCell ⟨b, o, none⟩ (sl Cb' co' (m + 1) cc')) := by
  have bV : b < V.heap.size := World.block_lt_of_cell? V _ hx.c0
  have hCV : 0 < m → Cb < V.heap.size := fun hm => hx.slt _ (hx.oc hm)
  have fp3 : FP V V3 (fun c _ => 0 < m ∧ c = Cb) := ((FP.calm K2).mono (fun _ _ _ h => h.elim)).trans (FP.ofKept ap.kept ap.frz)
  have hcb : b ≠ Cb' := fun e => by
    rcases ap.mv with ⟨hm, e1⟩ | e1
    · exact hx.sb (by rw [e, e1]; exact hx.oc hm)
    · have := K2.size
      omega
  have hnc : NB ≠ Cb' := fun e => by
    rcases ap.mv with ⟨hm, e1⟩ | e1
    · have := hCV hm
      omega
    · omega
  have fpS := FP.set (w := V3) b o (sl Cb' co' (m + 1) cc')
  have fp4 : FP V (V3.setCell ⟨b, o, none⟩ (sl Cb' co' (m + 1) cc')) (fun c j => (0 < m ∧ c = Cb) ∨ (c = b ∧ j = o)) := (fp3.mono (fun _ _ _ h => .inl h)).trans (fpS.mono (fun _ _ _ h => .inr h))
  have c4 : ∀ c j, c ≠ b → c < V3.heap.size → (V3.setCell ⟨b, o, none⟩ (sl Cb' co' (m + 1) cc')).cell? ⟨c, j, none⟩ = V3.cell? ⟨c, j, none⟩ := fun c j hc hl => fpS.cell c j hl (fun e => hc e.1)
  have f4 : ∀ c j, c < V3.heap.size → (V3.setCell ⟨b, o, none⟩ (sl Cb' co' (m + 1) cc')).frozen? ⟨c, j, none⟩ = V3.frozen? ⟨c, j, none⟩ := fun c j hl => fpS.frz c j hl
  have s3 := ap.kept.size
  refine ⟨_, _, _, _, _, _, _, hx.toCY.newChunk (NB := NB) (r := r) (Cb' := Cb') (co' := co') (cc' := cc') full fp4 ?_ ap.room (fun j hj => ?_) (fun j hj => ?_) ?_ ?_ (by omega) (Nat.lt_of_lt_of_le (by omega : NB < V3.heap.size) fpS.size) (fun j hj => ?_) r0 r1 hnc ?_ (Nat.lt_of_lt_of_le ap.lt fpS.size), by omega, by omega, fp4.mono (fun c j _ e => ?_), fun c hc => ?_⟩
  · rw [World.cell?_setCell_same' _ _ _ (by rw [(PuQ.bo hx K2 ap).1]; rfl)]
  · rw [c4 _ _ hcb.symm ap.lt, f4 _ _ ap.lt]
    exact ap.row j hj
  · rw [c4 _ _ hcb.symm ap.lt, ap.old j hj]
    have hm : 0 < m := by omega
    exact World.cell?_of_block (a := ⟨Cb, co + j, none⟩) (K2.block Cb (hCV hm) (fun h => h))
  · rw [c4 _ _ hcb.symm ap.lt]; exact ap.new1
  · rw [c4 _ _ hcb.symm ap.lt]; exact ap.new2
  · have e := ap.kept.block NB hN2 (fun e => by have := hCV e.1; omega)
    rw [c4 _ _ (by omega) (by omega), f4 _ _ (by omega), World.cell?_of_block (a := ⟨NB, j, none⟩) e, World.frozen?_of_block (a := ⟨NB, j, none⟩) e]
    exact th2 j hj
  · rcases ap.mv with e | e
    · exact .inl e
    · have := K2.size
      exact .inr (by omega)
  · rcases e with e | e
    · exact .inl (by rw [e.2]; exact hx.oc e.1)
    · exact .inr e
  · rcases hc with e | e | e
    · exact .inl e
    · exact .inr (by omega)
    · rcases ap.mv with e1 | e1
      · exact .inl (by rw [e, e1.2]; exact hx.oc e1.1)
      · have := K2.size
        exact .inr (by omega)
/-- Ahead of the append. -/
def PuT (V : World) (S : Nat → Prop) (b o d n : Nat) (f : Nat → Int) (q Cb co cc : Nat) (sv' : Value) (w' : World) : Prop := ∃ S' I cp, CY w' S' b o d n f sv' (q + 1) Cb co cc I cp ∧ d + n - 256 * q < cp q ∧ FP V w' (fun c j => S c ∨ (c = b ∧ j = o)) ∧ (∀ c, S' c → S c ∨ V.heap.size ≤ c)
/-- Behind a push. -/
def PuP (U : World) (S : Nat → Prop) (b o d n : Nat) (f : Nat → Int) (x1 : Int) (w' : World) : Prop := ∃ S', CK w' S' b o d (n + 1) (fun p => if p = d + n then x1 else f p) ∧ FP U w' (fun c j => S c ∨ (c = b ∧ o ≤ j ∧ j < o + 3)) ∧ (∀ c, S' c → S c ∨ U.heap.size ≤ c)
theorem FP.thn {a b c : World} {X Y : Nat → Nat → Prop} (h : FP a b X) (k : FP b c Y) (hY : ∀ q j, q < a.heap.size → Y q j → X q j) : FP a c X :=
  ⟨k.os.trans h.os, k.tape.trans h.tape, k.output.trans h.output, Nat.le_trans h.size k.size, fun q j hq hn => (k.cell q j (Nat.lt_of_lt_of_le hq h.size) (fun hy => hn (hY q j hq hy))).trans (h.cell q j hq hn), fun q j hq => (k.frz q j (Nat.lt_of_lt_of_le hq h.size)).trans (h.frz q j hq), fun q hq hn => (k.block q (Nat.lt_of_lt_of_le hq h.size) (fun j hy => hn j (hY q j hq hy))).trans (h.block q hq hn)⟩
theorem PuT.regrow {V X X2 : World} {S S1 : Nat → Prop} {b o d n q Cb co cc NB r L : Nat} {f : Nat → Int} {sv : Value} {I cp : Nat → Nat} (hy : CY X S1 b o d n f sv (q + 1) Cb co cc I cp) (fV : FP V X (fun c j => S c ∨ (c = b ∧ j = o))) (hS : ∀ c, S1 c → S c ∨ V.heap.size ≤ c) (hL : d + n = 256 * q + L) (hL2 : L < 256)
    (k2 : Kept (fun _ => False) X X2) (hNB : X.heap.size ≤ NB) (hNB2 : NB < X2.heap.size) (th : ∀ j, j < r * 2 → (X2.cell? ⟨NB, j, none⟩).isSome = true ∧ X2.frozen? ⟨NB, j, none⟩ = false) (old : ∀ j, j < L * 2 → X2.cell? ⟨NB, j, none⟩ = X.cell? ⟨I q, j, none⟩) (r0 : L < r) (r1 : r ≤ 256) :
    PuT V S b o d n f q Cb co cc sv ((X2.setCell ⟨Cb, co + q * 2, none⟩ (sl NB 0 L r)).setCell ⟨Cb, co + q * 2 + 1, none⟩ (vi 0)) := by
  have hC := hy.slt _ (hy.oc (by omega))
  have hC2 : Cb < X2.heap.size := Nat.lt_of_lt_of_le hC k2.size
  have f1 := FP.set (w := X2) Cb (co + q * 2) (sl NB 0 L r)
  have f2 := FP.set (w := X2.setCell ⟨Cb, co + q * 2, none⟩ (sl NB 0 L r)) Cb (co + q * 2 + 1) (vi 0)
  have fx : FP X ((X2.setCell ⟨Cb, co + q * 2, none⟩ (sl NB 0 L r)).setCell ⟨Cb, co + q * 2 + 1, none⟩ (vi 0)) (fun c j => c = Cb ∧ (j = co + q * 2 ∨ j = co + q * 2 + 1)) := (((FP.calm k2).mono (fun _ _ _ h => h.elim)).trans (f1.mono (fun _ _ _ h => ⟨h.1, .inl h.2⟩))).trans (f2.mono (fun _ _ _ h => ⟨h.1, .inr h.2⟩))
  have hm : min 256 (d + n - 256 * q) = L := by omega
  have tr : X2.there Cb (co + q * 2) 2 := fun j hj => by
    have := hy.row (by omega) (q * 2 + j) (by have := hy.mcc; omega)
    have e := k2.block Cb hC (fun h => h)
    rw [Nat.add_assoc, World.cell?_of_block (a := ⟨Cb, co + (q * 2 + j), none⟩) e, World.frozen?_of_block (a := ⟨Cb, co + (q * 2 + j), none⟩) e]
    exact this
  have cN : ∀ j, ((X2.setCell ⟨Cb, co + q * 2, none⟩ (sl NB 0 L r)).setCell ⟨Cb, co + q * 2 + 1, none⟩ (vi 0)).cell? ⟨NB, j, none⟩ = X2.cell? ⟨NB, j, none⟩ := fun j => by
    rw [f2.cell _ _ (Nat.lt_of_lt_of_le hNB2 f1.size) (fun e => by omega), f1.cell _ _ hNB2 (fun e => by omega)]
  have fN : ∀ j, ((X2.setCell ⟨Cb, co + q * 2, none⟩ (sl NB 0 L r)).setCell ⟨Cb, co + q * 2 + 1, none⟩ (vi 0)).frozen? ⟨NB, j, none⟩ = X2.frozen? ⟨NB, j, none⟩ := fun j => by
    rw [f2.frz _ _ (Nat.lt_of_lt_of_le hNB2 f1.size), f1.frz _ _ hNB2]
  refine ⟨_, _, _, hy.regrow (NB := NB) (r := r) fx ?_ ?_ hNB (Nat.lt_of_lt_of_le hNB2 (Nat.le_trans f1.size f2.size)) (fun j hj => ?_) (fun j hj => ?_) (by omega) r1 (by omega), ?_, fV.thn fx (fun c j hc e => ?_), fun c hc => ?_⟩
  · rw [f2.cell _ _ (Nat.lt_of_lt_of_le hC2 f1.size) (fun e => by omega), World.cell?_setCell_same' _ _ _ (by have := (tr 0 (by omega)).1; exact this), hm]
  · rw [World.cell?_setCell_same' _ _ _ (by have := (there_setCell tr ⟨Cb, co + q * 2, none⟩ (sl NB 0 L r) 1 (by omega)).1; exact this)]
  · rw [cN, fN]; exact th j hj
  · rw [hm] at hj
    rw [cN]; exact old j hj
  · rw [if_pos rfl]; omega
  · rcases hS Cb (hy.oc (by omega)) with h | h
    · exact .inl (by rw [e.1]; exact h)
    · omega
  · rcases hc with e | e
    · exact hS c e
    · exact .inr (by have := fV.size; omega)
theorem PuP.make {U V X X6 : World} {S S1 : Nat → Prop} {b o d n q Cb co cc L : Nat} {f : Nat → Int} {sv : Value} {I cp : Nat → Nat} (kV : Kept (fun _ => False) U V) (hU : ∀ x, S x → x < U.heap.size) (hy : CY X S1 b o d n f sv (q + 1) Cb co cc I cp) (fV : FP V X (fun c j => S c ∨ (c = b ∧ j = o))) (hS : ∀ c, S1 c → S c ∨ V.heap.size ≤ c) (hL : d + n = 256 * q + L) (hL2 : L < cp q) (hbd : d + n < 17179869184)
    (k6 : Kept (fun _ => False) X X6) (x1 : Int) (x2 : Nat) :
    PuP U S b o d n f x1 (((((X6.setCell ⟨I q, L * 2, none⟩ (ii x1)).setCell ⟨I q, L * 2 + 1, none⟩ (.float .f64 x2)).setCell ⟨Cb, co + q * 2, none⟩ (sl (I q) 0 (L + 1) (cp q)))).setCell ⟨b, o + 2, none⟩ (.int .i64 ((n : Int) + 1))) ∧
    ((((X6.setCell ⟨I q, L * 2, none⟩ (ii x1)).setCell ⟨I q, L * 2 + 1, none⟩ (.float .f64 x2)).setCell ⟨Cb, co + q * 2, none⟩ (sl (I q) 0 (L + 1) (cp q)))).cell? ⟨b, o + 2, none⟩ = some (vi n) ∧
    ((((X6.setCell ⟨I q, L * 2, none⟩ (ii x1)).setCell ⟨I q, L * 2 + 1, none⟩ (.float .f64 x2)).setCell ⟨Cb, co + q * 2, none⟩ (sl (I q) 0 (L + 1) (cp q)))).frozen? ⟨b, o + 2, none⟩ = false := by
  have hb : b < X.heap.size := World.block_lt_of_cell? X _ hy.c0
  have hC := hy.slt _ (hy.oc (by omega))
  have hI := hy.slt _ (hy.oi q (by omega))
  have bC : b ≠ Cb := fun e => hy.sb (by rw [e]; exact hy.oc (by omega))
  have bI : b ≠ I q := fun e => hy.sb (by rw [e]; exact hy.oi q (by omega))
  have IC := hy.ic q (by omega)
  have g1 := FP.set (w := X6) (I q) (L * 2) (ii x1)
  obtain ⟨A, hA⟩ : ∃ A, X6.setCell ⟨I q, L * 2, none⟩ (ii x1) = A := ⟨_, rfl⟩
  have g2 := FP.set (w := A) (I q) (L * 2 + 1) (.float .f64 x2)
  obtain ⟨B, hB⟩ : ∃ B, A.setCell ⟨I q, L * 2 + 1, none⟩ (.float .f64 x2) = B := ⟨_, rfl⟩
  have g3 := FP.set (w := B) Cb (co + q * 2) (sl (I q) 0 (L + 1) (cp q))
  obtain ⟨C, hC'⟩ : ∃ C, B.setCell ⟨Cb, co + q * 2, none⟩ (sl (I q) 0 (L + 1) (cp q)) = C := ⟨_, rfl⟩
  have g4 := FP.set (w := C) b (o + 2) (.int .i64 ((n : Int) + 1))
  obtain ⟨D, hD⟩ : ∃ D, C.setCell ⟨b, o + 2, none⟩ (.int .i64 ((n : Int) + 1)) = D := ⟨_, rfl⟩
  have tI : X6.there (I q) (L * 2) 2 := fun j hj => by
    have := hy.it q (by omega) (L * 2 + j) (by omega)
    have e := k6.block (I q) hI (fun h => h)
    rw [World.cell?_of_block (a := ⟨I q, L * 2 + j, none⟩) e, World.frozen?_of_block (a := ⟨I q, L * 2 + j, none⟩) e]
    exact this
  have tC : X6.there Cb (co + q * 2) 1 := fun j hj => by
    have := hy.row (by omega) (q * 2 + j) (by have := hy.mcc; omega)
    have e := k6.block Cb hC (fun h => h)
    rw [Nat.add_assoc, World.cell?_of_block (a := ⟨Cb, co + (q * 2 + j), none⟩) e, World.frozen?_of_block (a := ⟨Cb, co + (q * 2 + j), none⟩) e]
    exact this
  have aA : A.cell? ⟨I q, L * 2, none⟩ = some (ii x1) := by rw [← hA, World.cell?_setCell_same' _ _ _ (by have := (tI 0 (by omega)).1; exact this)]
  have aB : B.cell? ⟨I q, L * 2 + 1, none⟩ = some (.float .f64 x2) := by
    have tA := there_setCell tI ⟨I q, L * 2, none⟩ (ii x1)
    rw [hA] at tA
    rw [← hB, World.cell?_setCell_same' _ _ _ (by have := (tA 1 (by omega)).1; exact this)]
  have aC : C.cell? ⟨Cb, co + q * 2, none⟩ = some (sl (I q) 0 (L + 1) (cp q)) := by
    have tB := there_setCell (there_setCell tC ⟨I q, L * 2, none⟩ (ii x1)) ⟨I q, L * 2 + 1, none⟩ (.float .f64 x2)
    rw [hA, hB] at tB
    rw [← hC', World.cell?_setCell_same' _ _ _ (by have := (tB 0 (by omega)).1; exact this)]
  rw [hA, hB, hC', hD]
  rw [hA] at g1
  rw [hB] at g2
  rw [hC'] at g3
  rw [hD] at g4
  have l6 := k6.size
  have l1 := g1.size
  have l2 := g2.size
  have l3 := g3.size
  have l4 := g4.size
  have fx3 : FP X C (fun c j => (c = Cb ∧ j = co + q * 2) ∨ (c = I q ∧ (j = L * 2 ∨ j = L * 2 + 1)) ∨ (c = b ∧ j = o + 2)) := ((((FP.calm k6).mono (fun _ _ _ h => h.elim)).trans (g1.mono (fun _ _ _ h => .inr (.inl ⟨h.1, .inl h.2⟩)))).trans (g2.mono (fun _ _ _ h => .inr (.inl ⟨h.1, .inr h.2⟩)))).trans (g3.mono (fun _ _ _ h => .inl h))
  have fx : FP X D (fun c j => (c = Cb ∧ j = co + q * 2) ∨ (c = I q ∧ (j = L * 2 ∨ j = L * 2 + 1)) ∨ (c = b ∧ j = o + 2)) := fx3.trans (g4.mono (fun _ _ _ h => .inr (.inr h)))
  have cC2 : C.cell? ⟨b, o + 2, none⟩ = some (vi n) := by
    rw [g3.cell _ _ (by omega) (fun e => bC e.1), g2.cell _ _ (by omega) (fun e => bI e.1), g1.cell _ _ (by omega) (fun e => bI e.1), World.cell?_of_block (a := ⟨b, o + 2, none⟩) (k6.block b hb (fun h => h))]
    exact hy.c2
  refine ⟨⟨S1, ⟨_, _, _, _, _, _, _, hy.put hL hL2 (x1 := x1) (x2 := x2) fx ?_ ?_ ?_ ?_ hbd⟩, ?_, fun c hc => ?_⟩, cC2, ?_⟩
  · rw [g4.cell _ _ (by omega) (fun e => bC e.1.symm)]; exact aC
  · rw [← hD, World.cell?_setCell_same' _ _ _ (by rw [cC2]; rfl)]
  · rw [g4.cell _ _ (by omega) (fun e => bI e.1.symm), g3.cell _ _ (by omega) (fun e => IC e.1), g2.cell _ _ (by omega) (fun e => by omega)]; exact aA
  · rw [g4.cell _ _ (by omega) (fun e => bI e.1.symm), g3.cell _ _ (by omega) (fun e => IC e.1)]; exact aB
  · have fUV : FP U V (fun c j => S c ∨ (c = b ∧ o ≤ j ∧ j < o + 3)) := (FP.calm kV).mono (fun _ _ _ h => h.elim)
    have fUX := fUV.thn fV (fun c j _ e => by
      rcases e with e | e
      · exact .inl e
      · exact .inr ⟨e.1, by omega, by omega⟩)
    refine fUX.thn fx (fun c j hc e => ?_)
    rcases e with e | e | e
    · rcases hS Cb (hy.oc (by omega)) with h | h
      · exact .inl (by rw [e.1]; exact h)
      · have := kV.size
        omega
    · rcases hS (I q) (hy.oi q (by omega)) with h | h
      · exact .inl (by rw [e.1]; exact h)
      · have := kV.size
        omega
    · exact .inr ⟨e.1, by omega, by omega⟩
  · rcases hS c hc with h | h
    · exact .inl h
    · exact .inr (by have := kV.size; omega)
  · rw [g3.frz _ _ (by omega), g2.frz _ _ (by omega), g1.frz _ _ (by omega), World.frozen?_of_block (a := ⟨b, o + 2, none⟩) (k6.block b hb (fun h => h))]
    exact hy.fr 2 (by omega)
end Go.Proofs.YbulkdsjeGreatDoor
