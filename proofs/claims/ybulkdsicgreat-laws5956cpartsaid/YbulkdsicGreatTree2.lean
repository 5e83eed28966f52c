import Derived.Test.YbulkdsicGreatTree1
set_option linter.unusedVariables false
set_option linter.unusedSimpArgs false
namespace Go
open Go.RowKit
theorem wpList_store_as {P : Program} {ops : Array Oper} {rest : List Oper} {o : Oper} {a : Act} {w w' : World} {Q : Exit → Act → World → Prop} (hgd : o.guard = none) (t : TypeId) (x y : Operand) (ho : o.op = .store t x y) (hd : o.dst = none) (b k : Nat) (v : Value) (hx : a.eval x = .pointer (some ⟨b, k, none⟩)) (hy : a.eval y = v)
    (hr : (Instr.storeAt t (.pointer (some ⟨b, k, none⟩)) v).run P w = .ok () w') (h : wpList P ops Q rest a w') : wpList P ops Q (o :: rest) a w := by
  refine wpList_plain hgd fun K hK => ?_
  unfold Oper.wp execOp
  simp only [ho, hx, hy, Sem.run_bind, hr, Result.andThen_ok, Sem.run_pure]
  exact hK _ _ (by rw [hd]; exact h)
end Go
namespace Go.Proofs.YbulkdsicGreat
open Go.RowKit Go.Shelf
theorem store9 (w : World) (b o : Nat) (s : ByteArray) (hc : (w.cell? ⟨b, o, none⟩).isSome = true) (hf : w.frozen? ⟨b, o, none⟩ = false) : Sem.run Ybaz.prog (Instr.storeAt 9 (.pointer (some ⟨b, o, none⟩)) (.string s)) w = .ok () (w.setCell ⟨b, o, none⟩ (.string s)) := by
  have hu := Ybaz.underlying9
  obtain ⟨u, hc'⟩ := Option.isSome_iff_exists.1 hc
  have hst := run_store1 (P := Ybaz.prog) w b o (.string s) hc hf rfl
  go_simp
theorem store3 (w : World) (b o : Nat) (x : Int) (hc : (w.cell? ⟨b, o, none⟩).isSome = true) (hf : w.frozen? ⟨b, o, none⟩ = false) : Sem.run Ybaz.prog (Instr.storeAt 3 (.pointer (some ⟨b, o, none⟩)) (.int .i64 x)) w = .ok () (w.setCell ⟨b, o, none⟩ (.int .i64 x)) := by
  have hu := Ybaz.underlying3
  obtain ⟨u, hc'⟩ := Option.isSome_iff_exists.1 hc
  have hst := run_store1 (P := Ybaz.prog) w b o (.int .i64 x) hc hf rfl
  go_simp
theorem store26 (w : World) (b o : Nat) (sa : Option Addr) (n c : Nat) (hc : (w.cell? ⟨b, o, none⟩).isSome = true) (hf : w.frozen? ⟨b, o, none⟩ = false) : Sem.run Ybaz.prog (Instr.storeAt 26 (.pointer (some ⟨b, o, none⟩)) (.slice sa n c)) w = .ok () (w.setCell ⟨b, o, none⟩ (.slice sa n c)) := by
  have hu := Ybaz.underlying26
  obtain ⟨u, hc'⟩ := Option.isSome_iff_exists.1 hc
  have hst := run_store1 (P := Ybaz.prog) w b o (.slice sa n c) hc hf rfl
  go_simp
theorem set_there {W : World} {p : Addr} {v : Value} {b k : Nat} (h1 : (W.cell? ⟨b, k, none⟩).isSome = true) (h2 : W.frozen? ⟨b, k, none⟩ = false) : ((W.setCell p v).cell? ⟨b, k, none⟩).isSome = true ∧ (W.setCell p v).frozen? ⟨b, k, none⟩ = false := by
  have := there_setCell (w := W) (b := b) (o := k) (n := 1) (fun j hj => (by have e : j = 0 := (by omega); rw [e]; exact ⟨h1, h2⟩)) p v
  exact this 0 (by omega)

theorem RG.serv {W : World} {Gb Sb n pb sv sb en : Nat} {nm : Nat → ByteArray} {tm : Nat → Value} {pr : Nat → Option Nat} (h : RG W Gb Sb n pb sv sb en nm tm pr) (k : Nat) (hk : k < n) : ∃ iv ov, iv.oneCell' = true ∧ ov.oneCell' = true ∧ W.rangeAt sv (k * 4) [.string (nm k), iv, ov, tm k] := by
  have hi : ∃ iv : Value, iv.oneCell' = true ∧ W.cell? ⟨sv, k * 4 + 1, none⟩ = some iv := by
    cases hp : pr k with
    | none => exact ⟨_, rfl, h.inN k hk hp⟩
    | some j => obtain ⟨ib, c, h1, _⟩ := h.inS k j hk hp; exact ⟨_, rfl, h1⟩
  obtain ⟨iv, hiv, ci⟩ := hi
  obtain ⟨ob, c, co, _⟩ := h.out k hk
  refine ⟨iv, sl ob 0 1 c, hiv, rfl, fun j u hu => ?_⟩
  match j with
  | 0 => cases hu; exact h.nmC k hk
  | 1 => cases hu; exact ci
  | 2 => cases hu; exact co
  | 3 => cases hu; exact h.tmC k hk
  | j + 4 => simp at hu
theorem four_T {w : World} {l : TBl} {R B bm bf nb fl base : Nat} (sd : SD w l R B bm bf nb fl base) : ¬ (l.T = l.bn ∨ l.T = l.bt ∨ l.T = l.ba ∨ l.T = bm) := fun h => h.elim sd.n_T_bn (fun h => h.elim sd.n_T_bt (fun h => h.elim sd.n_T_ba sd.n_T_bm))
theorem four_B {w : World} {l : TBl} {R B bm bf nb fl base : Nat} (sd : SD w l R B bm bf nb fl base) : ¬ (B = l.bn ∨ B = l.bt ∨ B = l.ba ∨ B = bm) := fun h => h.elim sd.n_B_bn (fun h => h.elim sd.n_B_bt (fun h => h.elim sd.n_B_ba sd.n_B_bm))
theorem four_hi {w : World} {l : TBl} {R B bm bf nb fl base x : Nat} (sd : SD w l R B bm bf nb fl base) (hx : fl ≤ x) : ¬ (x = l.bn ∨ x = l.bt ∨ x = l.ba ∨ x = bm) := fun h => by
  have := sd.h_bn; have := sd.h_bt; have := sd.h_ba; have := sd.h_bm
  rcases h with e | e | e | e <;> omega
theorem tab_there {W : World} {b n q : Nat} {f : Nat → Value} (h : Tab W b 0 n f) (hq : q < n) : (W.cell? ⟨b, q, none⟩).isSome = true ∧ W.frozen? ⟨b, q, none⟩ = false := by
  have h1 := h.cell hq
  have h2 := h.free hq
  rw [Nat.zero_add] at h1 h2
  exact ⟨by rw [h1]; rfl, h2⟩
theorem there_drew {W : World} {b o n : Nat} (h : W.there b o n) : W.drew.there b o n := h
theorem fld61' (d : Option Tmp) (ty : TypeId) (ps : String) (af : Array Edge) (g : Option (Nat × Bool)) (X : World) (c0 c1 c2 x y : Value) (t : Operand) : (execOp (fun _ => .agg #[c0, c1, c2, x, y]) ⟨d, .field 61 t 0, ty, ps, af, g⟩).run Ybaz.prog X = .ok (.value (.agg #[c0, c1, c2, x])) X := by kernel_rfl
theorem fld59' (d : Option Tmp) (ty : TypeId) (ps : String) (af : Array Edge) (g : Option (Nat × Bool)) (X : World) (c0 c1 c2 x : Value) (t : Operand) : (execOp (fun _ => .agg #[c0, c1, c2, x]) ⟨d, .field 59 t 0, ty, ps, af, g⟩).run Ybaz.prog X = .ok (.value (.agg #[c0, c1, c2])) X := by kernel_rfl
theorem fld61 {ρ : Operand → Value} {d : Option Tmp} {ty : TypeId} {ps : String} {af : Array Edge} {g : Option (Nat × Bool)} {X : World} {c0 c1 c2 x y : Value} {t : Operand} (h : ρ t = .agg #[c0, c1, c2, x, y]) : (execOp ρ ⟨d, .field 61 t 0, ty, ps, af, g⟩).run Ybaz.prog X = .ok (.value (.agg #[c0, c1, c2, x])) X := by
  have e : (execOp ρ ⟨d, .field 61 t 0, ty, ps, af, g⟩).run Ybaz.prog X = (execOp (fun _ => .agg #[c0, c1, c2, x, y]) ⟨d, .field 61 t 0, ty, ps, af, g⟩).run Ybaz.prog X := by
    unfold execOp
    simp only [h]
  exact e.trans (fld61' _ _ _ _ _ _ _ _ _ _ _ _)
theorem fld59 {ρ : Operand → Value} {d : Option Tmp} {ty : TypeId} {ps : String} {af : Array Edge} {g : Option (Nat × Bool)} {X : World} {c0 c1 c2 x : Value} {t : Operand} (h : ρ t = .agg #[c0, c1, c2, x]) : (execOp ρ ⟨d, .field 59 t 0, ty, ps, af, g⟩).run Ybaz.prog X = .ok (.value (.agg #[c0, c1, c2])) X := by
  have e : (execOp ρ ⟨d, .field 59 t 0, ty, ps, af, g⟩).run Ybaz.prog X = (execOp (fun _ => .agg #[c0, c1, c2, x]) ⟨d, .field 59 t 0, ty, ps, af, g⟩).run Ybaz.prog X := by
    unfold execOp
    simp only [h]
  exact e.trans (fld59' _ _ _ _ _ _ _ _ _ _ _)
theorem TB.keptF {W W' : World} {l : TBl} {names : Nat → ByteArray} {tm : Nat → Value} {steps : Int} {ks : List ByteArray} (h : TB W l names tm steps ks) (k : Kept (fun _ => False) W W') : TB W' l names tm steps ks :=
  ⟨k.range (fun h => h) h.st, k.there (fun h => h) h.th, h.nm.kept k (fun h => h), h.tt.kept k (fun h => h), h.at'.kept k (fun h => h), h.al.kept k (fun h => h), h.mp.kept k (fun h => h), h.fl, h.few, h.ne⟩
theorem chT_flat (nm : Nat → ByteArray) (d : Nat) (L : List Nat) (h0 : 0 < L.length) (hn : ∀ x ∈ L, Named (nm x)) : Flat (d + 2) (chT nm L) := by
  unfold chT
  split
  · refine hn _ ?_
    rw [List.getD_eq_getElem?_getD, List.getElem?_eq_getElem h0]
    exact List.getElem_mem h0
  · refine ⟨rfl, fun t ht => ?_, fun _ t ht => ?_⟩
    · obtain ⟨x, hx, rfl⟩ := List.mem_map.1 ht
      exact hn x hx
    · obtain ⟨x, hx, rfl⟩ := List.mem_map.1 ht
      exact ⟨_, _, rfl, hn x hx⟩
theorem trT_flat (nm : Nat → ByteArray) {n : Nat} {pr : Nat → Option Nat} (hl : Low n pr) (hin : ∀ i i' j, i < n → i' < n → pr i = some j → pr i' = some j → i = i') (hn : ∀ k, k < n → Named (nm k)) : Flat 3 (trT nm (groups pr (rt pr n) n)) := by
  have hch : ∀ L ∈ groups pr (rt pr n) n, 0 < L.length ∧ ∀ x ∈ L, Named (nm x) := fun L hL => by
    obtain ⟨k, hk⟩ := List.getElem?_of_mem hL
    have hc := (groups_chain hl hin hk).1
    refine ⟨hc.pos, fun x hx => ?_⟩
    obtain ⟨j, hj⟩ := List.getElem?_of_mem hx
    exact hn x (hc.lt j x hj)
  unfold trT
  split
  · rename_i h1
    have hmem : (groups pr (rt pr n) n).getD 0 [] ∈ groups pr (rt pr n) n := by
      rw [List.getD_eq_getElem?_getD, List.getElem?_eq_getElem (by omega)]
      exact List.getElem_mem _
    exact chT_flat nm 1 _ (hch _ hmem).1 (hch _ hmem).2
  · refine ⟨rfl, fun t ht => ?_, fun h => by cases h⟩
    obtain ⟨L, hL, rfl⟩ := List.mem_map.1 ht
    exact chT_flat nm 0 L (hch L hL).1 (hch L hL).2
theorem al39 (w : World) : Sem.run Ybaz.prog (Instr.alloc 39 true (.tuple #[])) w = .ok (.pointer (some ⟨w.heap.size, 0, none⟩)) (w.alloc (.cells #[.string ⟨#[]⟩, .slice none 0 0, .slice none 0 0, .float .f64 0] 39)) := by kernel_rfl

set_option maxRecDepth 100000 in
set_option maxHeartbeats 4000000 in
theorem tree_tail {y2 y3 y5 y6 y7 y12 y13 y14 y15 y16 y17 y18 y19 y20 y21 y22 y23 y24 y25 y26 y27 y28 y29 y30 y31 y32 y33 y34 y35 y36 y37 y38 y39 y40 y41 y42 y43 y44 y45 y46 y47 y48 y49 y50 y51 y52 y53 y54 y55 y56 y57 y58 y59 y60 y61 y62 y63 y64 y65 y66 y67 y68 y69 y70 y71 y72 y73 y74 y75 y76 y77 y78 y79 y80 y81 y82 y83 y84 y85 y86 y87 y88 y89 y90 y91 y92 y93 y94 y95 y96 y97 y98 y99 y100 y101 y102 y103 y104 y105 y106 y107 y108 y109 y110 y111 y112 y113 y114 y115 y116 y117 y118 y119 y120 y121 y122 y123 y124 y125 y126 y127 y128 y129 y130 y131 y132 y133 y134 y135 y136 y137 : Value} (Gb Sb pb sv sb en : Nat) (nm : Nat → ByteArray) (tm : Nat → Value) (pr : Nat → Option Nat) (l : TBl) (S : Int) (R B bm bf nb fl base : Nat) (f : Nat → Value) (w V : World) (hn : 0 < l.n) (hR : RG w Gb Sb l.n pb sv sb en nm tm pr) (sd : SD w l R B bm bf nb fl base)
    (h : TS w V l S R B bm bf nb fl base nm tm pr f (.slice none 0 0) [] 0 0 0) (hT : ∀ x, x < l.n → ∃ y, y ≤ 65535 ∧ tm x = .float .f64 (Flt.nat y)) (hin : ∀ i i' j, i < l.n → i' < l.n → pr i = some j → pr i' = some j → i = i') (hnm : ∀ k, k < l.n → Named (nm k)) :
    Code.wp Ybaz.prog (dropC 8 (Ybaz.f4.body.getD .skip)) (bodyPost Ybaz.prog Ybaz.f4 fun e w' => (∃ a b c, e = .returned (.agg #[a, b, c]) ∧ NodeHi w' w.heap.size 3 (trT nm (groups pr (rt pr l.n) l.n)) a b c) ∧ Below w.heap.size w w') ⟨#[.pointer (some ⟨Gb, 0, none⟩), .pointer (some ⟨Sb, 0, none⟩), y2, y3, .pointer (some ⟨R, 0, none⟩), y5, y6, y7, vi l.n, .pointer (some ⟨l.T, 0, none⟩), .pointer (some ⟨B, 0, none⟩), sl nb 0 l.n l.n, y12, y13, y14, y15, y16, y17, y18, y19, y20, y21, y22, y23, y24, y25, y26, y27, y28, y29, y30, y31, y32, y33, y34, y35, y36, y37, y38, y39, y40, y41, y42, y43, y44, y45, y46, y47, y48, y49, y50, y51, y52, y53, y54, y55, y56, y57, y58, y59, y60, y61, y62, y63, y64, y65, y66, y67, y68, y69, y70, y71, y72, y73, y74, y75, y76, y77, y78, y79, y80, y81, y82, y83, y84, y85, y86, y87, y88, y89, y90, y91, y92, y93, y94, y95, y96, y97, y98, y99, y100, y101, y102, y103, y104, y105, y106, y107, y108, y109, y110, y111, y112, y113, y114, y115, y116, y117, y118, y119, y120, y121, y122, y123, y124, y125, y126, y127, y128, y129, y130, y131, y132, y133, y134, y135, y136, y137], []⟩ V := by
  conv => arg 2; whnf
  dsimp only
  have hfew := hR.few
  have a3 := (hR.below h.bel).s3
  have HR := hid hR
  have SD0 := hid sd
  have H0 := hid h
  have HT := hid hT
  have HI := hid hin
  have HN := hid hnm
  clear hR sd h hT hin hnm
  go_upto_region 13 with fail
  go_wp2
  clear a3
  go_loopw [74] (fun x U => ∃ q : Nat, q ≤ l.n ∧ x = vi q ∧ ∃ nv xs, TS w U l S R B bm bf nb fl base nm tm pr f nv xs q q q) (fun x _ => l.n - (intOf x).toNat)
  case atStart => exact ⟨0, Nat.zero_le _, rfl, _, _, H0.out⟩
  case round =>
    obtain ⟨q, hq, rfl, nv, xs, t0⟩ := hrel
    clear H0
    by_cases hlt : q < l.n
    · have hli : (q : Int) < (l.n : Int) := by omega
      have rg := HR.out.below t0.bel
      have b1 := rg.enC q hlt
      have b2 := rg.g2
      obtain ⟨iv, ov, hiv, hov, hrow⟩ := rg.serv q hlt
      obtain ⟨ty, hty, ety⟩ := HT.out q hlt
      rw [ety] at hrow
      have HW := hid hrow
      have T0 := hid t0
      clear rg hrow t0
      go_upto_region 17 with (first
        | ((with_reducible (show wpList _ _ _ (⟨_, .load 39 _, _, _, _, _⟩ :: _) _ _)); refine wpList_load_mid rfl 39 _ rfl sv (q * 4) rfl _ _ HW.out Ybaz.underlying39 rfl (by kernel_rfl) ?_; simp only [Act.put, List.setIfInBounds_toArray, List.set_cons_succ, List.set_cons_zero])
        | ((with_reducible (show wpList _ _ _ (⟨_, .alloc 39, _, _, _, _⟩ :: _) _ _)); refine wpList_alloc_as rfl 39 rfl #[.string ⟨#[]⟩, .slice none 0 0, .slice none 0 0, .float .f64 0] al39 ?_; simp only [Act.put, List.setIfInBounds_toArray, List.set_cons_succ, List.set_cons_zero])
        | ((with_reducible (show wpList _ _ _ (⟨_, .store 39 _ _, _, _, _, _⟩ :: _) _ _)); refine wpList_store_mid rfl 39 _ _ rfl wr.heap.size 0 #[.string (nm q), iv, ov, .float .f64 (Flt.nat ty)] rfl rfl (there_new wr [.string ⟨#[]⟩, .slice none 0 0, .slice none 0 0, .float .f64 0] 39) (by kernel_rfl) (by simp [Value.oneCell']; exact ⟨hiv, hov⟩) ?_; simp only [Act.put, List.setIfInBounds_toArray, List.set_cons_succ, List.set_cons_zero]))
      have hbs := T0.out.sz
      have L1 : Hid (wr.heap.size ≤ wr.heap.size) := hid (Nat.le_refl _)
      refine wp_as (fun X => TS w X l S R B bm bf nb fl base nm tm pr f nv xs q q q ∧ X.rangeAt wr.heap.size 0 [.string (nm q), iv, ov, .float .f64 (Flt.nat ty)]) ?_ ?_
      · have kk : Kept (fun _ => False) wr ((wr.alloc (.cells #[.string ⟨#[]⟩, .slice none 0 0, .slice none 0 0, .float .f64 0] 39)).setCells wr.heap.size 0 [.string (nm q), iv, ov, .float .f64 (Flt.nat ty)]) := ((Kept.refl _ wr).alloc _).setCells (.inr (Nat.le_refl _)) _ _
        exact ⟨T0.out.low SD0.out kk (fun _ h => h.elim), World.rangeAt_setCells_same _ _ _ _ (there_new wr [.string ⟨#[]⟩, .slice none 0 0, .slice none 0 0, .float .f64 0] 39)⟩
      obtain ⟨b14, hb14⟩ : ∃ b14, wr.heap.size = b14 := ⟨_, rfl⟩
      rw [hb14] at hbs ⊢
      rintro W1 ⟨t1, r14⟩
      clear T0 L1
      have T1 := hid t1
      have hfl : Hid (fl ≤ b14) := hid (by have := SD0.out.nb1; have := SD0.out.nb2; omega)
      have y0 : ∀ x : Wld (fun U' => Kept (fun b => b = l.bn ∨ b = l.bt ∨ b = l.ba ∨ b = bm) W1 U'), x.w.cell? ⟨l.T, 0, none⟩ = some (sl l.bn 0 l.n l.n) := fun x => by simpa using x.h.cell (p := ⟨l.T, 0, none⟩) (four_T SD0.out) (t1.st 0 _ rfl)
      have y1 : ∀ x : Wld (fun U' => Kept (fun b => b = l.bn ∨ b = l.bt ∨ b = l.ba ∨ b = bm) W1 U'), x.w.cell? ⟨l.T, 1, none⟩ = some (sl l.bt 0 l.n l.n) := fun x => by simpa using x.h.cell (p := ⟨l.T, 1, none⟩) (four_T SD0.out) (t1.st 1 _ rfl)
      have y2 : ∀ x : Wld (fun U' => Kept (fun b => b = l.bn ∨ b = l.bt ∨ b = l.ba ∨ b = bm) W1 U'), x.w.cell? ⟨l.T, 2, none⟩ = some (sl l.ba 0 l.n l.n) := fun x => by simpa using x.h.cell (p := ⟨l.T, 2, none⟩) (four_T SD0.out) (t1.st 2 _ rfl)
      have y3 : ∀ x : Wld (fun U' => Kept (fun b => b = l.bn ∨ b = l.bt ∨ b = l.ba ∨ b = bm) W1 U'), x.w.cell? ⟨B, 0, none⟩ = some (sl bm 0 l.n l.n) := fun x => by simpa using x.h.cell (p := ⟨B, 0, none⟩) (four_B SD0.out) (t1.b0 0 _ rfl)
      have y4 : ∀ x : Wld (fun U' => Kept (fun b => b = l.bn ∨ b = l.bt ∨ b = l.ba ∨ b = bm) W1 U'), x.w.cell? ⟨b14, 0, none⟩ = some (.string (nm q)) := fun x => by simpa using x.h.cell (p := ⟨b14, 0, none⟩) (four_hi SD0.out hfl.out) (r14 0 _ rfl)
      have y5 : ∀ x : Wld (fun U' => Kept (fun b => b = l.bn ∨ b = l.bt ∨ b = l.ba ∨ b = bm) W1 U'), x.w.cell? ⟨b14, 3, none⟩ = some (.float .f64 (Flt.nat ty)) := fun x => by simpa using x.h.cell (p := ⟨b14, 3, none⟩) (four_hi SD0.out hfl.out) (r14 3 _ rfl)
      have s0 : Kept (fun b => b = l.bn ∨ b = l.bt ∨ b = l.ba ∨ b = bm) W1 W1.drew := (Kept.refl _ W1).drew
      haveI nS : Nonempty (Wld (fun U' => Kept (fun b => b = l.bn ∨ b = l.bt ∨ b = l.ba ∨ b = bm) W1 U')) := ⟨⟨W1.drew, s0⟩⟩
      clear t1 r14
      refine wp_region_calmplan 30 [(true, 0), (true, 1), (true, 2), (true, 3), (true, 4), (true, 5), (true, 6), (true, 7), (true, 8), (true, 9), (true, 10), (true, 11), (true, 12), (true, 13), (true, 14), (true, 15), (true, 16), (true, 17), (true, 18), (true, 19), (true, 20), (true, 21), (true, 22), (true, 23), (false, 24), (true, 25), (false, 26), (true, 27), (false, 28), (true, 29), (false, 30)] (fun w' => ∃ x : Wld (fun U' => Kept (fun b => b = l.bn ∨ b = l.bt ∨ b = l.ba ∨ b = bm) W1 U'), w' = x.w) mixed (by kernel_rfl) (inS s0) ?_
      repeat (refine wpPlan_q (by rfl) ?_; dsimp only [List.getElem_toArray, List.getElem_cons_zero, List.getElem_cons_succ]; go_big_quiet_step (fail); refine wpQuiet_nil ?_)
      have e24 : (W1.drew.cell? ⟨l.bn, q, none⟩).isSome = true ∧ W1.drew.frozen? ⟨l.bn, q, none⟩ = false := tab_there T1.out.nmT.drew hlt
      have e26 : (W1.drew.cell? ⟨l.bt, q, none⟩).isSome = true ∧ W1.drew.frozen? ⟨l.bt, q, none⟩ = false := tab_there T1.out.tt.drew hlt
      have e28 : (W1.drew.cell? ⟨l.ba, q, none⟩).isSome = true ∧ W1.drew.frozen? ⟨l.ba, q, none⟩ = false := tab_there T1.out.at'.drew hlt
      have e30 : (W1.drew.cell? ⟨bm, q, none⟩).isSome = true ∧ W1.drew.frozen? ⟨bm, q, none⟩ = false := tab_there T1.out.bmT.drew hlt
      have k24 := s0.setCell (p := ⟨l.bn, q, none⟩) (.inl (.inl rfl)) (.string (nm q))
      have k26 := k24.setCell (p := ⟨l.bt, q, none⟩) (.inl (.inr (.inl rfl))) (.float .f64 (Flt.nat ty))
      have k28 := k26.setCell (p := ⟨l.ba, q, none⟩) (.inl (.inr (.inr (.inl rfl)))) (.int .i64 (-1))
      refine wpPlan_e (by rfl) ?_
      dsimp only [List.getElem_toArray, List.getElem_cons_zero, List.getElem_cons_succ]
      refine wpList_store_as rfl 9 _ _ rfl rfl l.bn q (.string (nm q)) rfl rfl (store9 _ _ _ _ e24.1 e24.2) ?_
      refine wpList_done ?_
      refine onward_normal (fun _ => inS k24) ?_
      (refine wpPlan_q (by rfl) ?_; dsimp only [List.getElem_toArray, List.getElem_cons_zero, List.getElem_cons_succ]; go_big_quiet_step (fail); refine wpQuiet_nil ?_)
      have g26 := set_there (p := ⟨l.bn, q, none⟩) (v := .string (nm q)) e26.1 e26.2
      refine wpPlan_e (by rfl) ?_
      dsimp only [List.getElem_toArray, List.getElem_cons_zero, List.getElem_cons_succ]
      refine wpList_store_as rfl 36 _ _ rfl rfl l.bt q (.float .f64 (Flt.nat ty)) rfl rfl (store36 _ _ _ _ g26.1 g26.2) ?_
      refine wpList_done ?_
      refine onward_normal (fun _ => inS k26) ?_
      (refine wpPlan_q (by rfl) ?_; dsimp only [List.getElem_toArray, List.getElem_cons_zero, List.getElem_cons_succ]; go_big_quiet_step (fail); refine wpQuiet_nil ?_)
      have g28 := set_there (p := ⟨l.bn, q, none⟩) (v := .string (nm q)) e28.1 e28.2
      have g28' := set_there (p := ⟨l.bt, q, none⟩) (v := .float .f64 (Flt.nat ty)) g28.1 g28.2
      refine wpPlan_e (by rfl) ?_
      dsimp only [List.getElem_toArray, List.getElem_cons_zero, List.getElem_cons_succ]
      refine wpList_store_as rfl 3 _ _ rfl rfl l.ba q (.int .i64 (-1)) rfl rfl (store3 _ _ _ _ g28'.1 g28'.2) ?_
      refine wpList_done ?_
      refine onward_normal (fun _ => inS k28) ?_
      (refine wpPlan_q (by rfl) ?_; dsimp only [List.getElem_toArray, List.getElem_cons_zero, List.getElem_cons_succ]; go_big_quiet_step (fail); refine wpQuiet_nil ?_)
      have g30 := set_there (p := ⟨l.bn, q, none⟩) (v := .string (nm q)) e30.1 e30.2
      have g30' := set_there (p := ⟨l.bt, q, none⟩) (v := .float .f64 (Flt.nat ty)) g30.1 g30.2
      have g30'' := set_there (p := ⟨l.ba, q, none⟩) (v := .int .i64 (-1)) g30'.1 g30'.2
      refine wpPlan_e (by rfl) ?_
      dsimp only [List.getElem_toArray, List.getElem_cons_zero, List.getElem_cons_succ]
      refine wpList_store_as rfl 3 _ _ rfl rfl bm q (vi q) rfl rfl (store3 _ _ _ _ g30''.1 g30''.2) ?_
      refine wpList_done ?_
      refine onward_normal (fun h => by cases h) ?_
      refine wpPlan_nil ?_
      refine calmQ_normal ?_
      have tw := (T1.out.low SD0.out ((Kept.refl (fun _ => False) W1).drew) (fun _ h => h.elim)).wrote SD0.out hlt
      rw [ety] at tw
      refine q_as (fun X => TS w X l S R B bm bf nb fl base nm tm pr f nv xs (q + 1) q q) tw ?_
      clear tw g30 g30' g30'' g28 g28' g26 k24 k26 k28 e24 e26 e28 e30 y0 y1 y2 y3 y4 y5 nS s0 T1
      intro W2 t2
      obtain ⟨sn, cn, env, hsp⟩ := own_form t2.own
      subst env
      have nB : ¬ (B = l.bl ∨ (Value.slice sn (2 * cnt pr q) cn).ownBlock = some B) := fun h => h.elim SD0.out.n_B_bl (fun e => by have := (own_block t2.own e).1; have := SD0.out.h_B; have := SD0.out.nb1; have := SD0.out.nb2; omega)
      have nN : ¬ (nb = l.bl ∨ (Value.slice sn (2 * cnt pr q) cn).ownBlock = some nb) := fun h => h.elim (fun e => by have := SD0.out.h_bl; have := SD0.out.nb1; omega) (fun e => by have := (own_block t2.own e).1; have := SD0.out.nb2; omega)
      cases hp : pr q with
      | none =>
        have efq := t2.nd.nn q hlt hp

        have y0 : ∀ x : Wld (fun U' => Kept (fun b => b = l.bl ∨ (Value.slice sn (2 * cnt pr q) cn).ownBlock = some b) W2 U'), x.w.cell? ⟨B, 1, none⟩ = some (.slice sn (2 * cnt pr q) cn) := fun x => by simpa using x.h.cell (p := ⟨B, 1, none⟩) nB (t2.b0 1 _ rfl)
        have y1 : ∀ x : Wld (fun U' => Kept (fun b => b = l.bl ∨ (Value.slice sn (2 * cnt pr q) cn).ownBlock = some b) W2 U'), x.w.cell? ⟨nb, q, none⟩ = some (.slice none 0 0) := fun x => by have := x.h.cell (p := ⟨nb, 0 + q, none⟩) nN (t2.nd.tab.cell hlt); rw [Nat.zero_add, efq] at this; exact this
        have s0 : Kept (fun b => b = l.bl ∨ (Value.slice sn (2 * cnt pr q) cn).ownBlock = some b) W2 W2.drew := (Kept.refl _ W2).drew
        haveI nS : Nonempty (Wld (fun U' => Kept (fun b => b = l.bl ∨ (Value.slice sn (2 * cnt pr q) cn).ownBlock = some b) W2 U')) := ⟨⟨W2.drew, s0⟩⟩
        have T2 := hid t2
        clear t2
        go_upto_region 18 with fail
        refine wp_region_calmplan 9 [(true, 0), (true, 1), (true, 2), (true, 3), (true, 4), (true, 5), (true, 6), (false, 7), (true, 8), (false, 9)] (fun w' => ∃ x : Wld (fun U' => Kept (fun b => b = l.bl ∨ (Value.slice sn (2 * cnt pr q) cn).ownBlock = some b) W2 U'), w' = x.w) mixed (by kernel_rfl) (inS s0) ?_
        iterate 7 (refine wpPlan_q (by rfl) ?_; dsimp only [List.getElem_toArray, List.getElem_cons_zero, List.getElem_cons_succ]; go_big_quiet_step (fail); refine wpQuiet_nil ?_)
        refine wpPlan_e (by rfl) ?_
        dsimp only [List.getElem_toArray, List.getElem_cons_zero, List.getElem_cons_succ]
        go_wp2_with (go_at_call 8; refine (keep_none l.T _ _).mono ?_; rintro e W3 ⟨rfl, rfl⟩)
        refine onward_normal (fun _ => inS s0) ?_
        (refine wpPlan_q (by rfl) ?_; dsimp only [List.getElem_toArray, List.getElem_cons_zero, List.getElem_cons_succ]; go_big_quiet_step (fail); refine wpQuiet_nil ?_)
        refine wpPlan_e (by rfl) ?_
        dsimp only [List.getElem_toArray, List.getElem_cons_zero, List.getElem_cons_succ]
        refine wpList_store_as rfl 26 _ _ rfl rfl B 1 (.slice sn (2 * cnt pr q) cn) rfl rfl (store26 _ _ _ _ _ _ ((there_drew T2.out.bth) 1 (by omega)).1 ((there_drew T2.out.bth) 1 (by omega)).2) ?_
        refine wpList_done ?_
        refine onward_normal (fun h => by cases h) ?_
        refine wpPlan_nil ?_
        refine calmQ_normal ?_
        have tw := (T2.out.low SD0.out ((Kept.refl (fun _ => False) W2).drew) (fun _ h => h.elim)).kept_none SD0.out hp
        have hc : 2 * cnt pr q = 2 * cnt pr (q + 1) := by simp [cnt, waits, hp]
        rw [hc] at tw ⊢
        refine q_as (fun X => TS w X l S R B bm bf nb fl base nm tm pr f (.slice sn (2 * cnt pr (q + 1)) cn) xs (q + 1) (q + 1) q) tw ?_
        clear tw hc
        clear y0 y1 s0 nS T2 efq nB nN
        intro W3 t3
        obtain ⟨m, hm⟩ : ∃ m, 2 * cnt pr (q + 1) = m := ⟨_, rfl⟩
        rw [hm] at t3
        have z0 : W3.cell? ⟨B, 2, none⟩ = some (sl bf 0 (l.n + 1) (l.n + 1)) := by simpa using t3.b0 2 _ rfl
        have z1 : W3.cell? ⟨B, 1, none⟩ = some (.slice sn m cn) := by simpa using t3.b0 1 _ rfl
        have z2 := tab_there t3.bfT (show q + 1 < l.n + 1 by omega)
        obtain ⟨u, z3⟩ := Option.isSome_iff_exists.1 z2.1
        have z4 := z2.2
        have hl2 : (q : Int) + 1 < (l.n : Int) + 1 := by omega
        have T3 := hid t3
        have HM := hid hm
        clear t3 z2 hm
        go_wp2
        go_roundw
        case rel =>
          refine ⟨q + 1, by omega, by go_num, .slice sn m cn, xs, ?_⟩
          have := T3.out
          rw [← HM.out] at this
          have := this.ended SD0.out hlt
          rw [HM.out] at this
          exact this
        case measure => simp [intOf]; omega
      | some p =>
        obtain ⟨rb, rc, qb, qd, efq, g1, g2, g3, g4, g5, g6⟩ := t2.nd.ss q p hlt hp
        have hpq := HR.out.low q p hlt hp
        have KO := hid (keep_one l.T l.n l.bl base (2 * cnt pr q) rb 0 rc qb 0 qd p (.slice sn (2 * cnt pr q) cn) xs W2.drew hfew (by omega) (by have := cnt_le pr q; omega) (by simpa using t2.st 3 _ rfl) t2.al.drew t2.own (by have := t2.sz; exact this) g3 g6 SD0.out.n_T_bl (fun e => by have := SD0.out.h_bl; omega) (fun e => by have := SD0.out.h_bl; omega) (fun b hb => by
          have := (own_block t2.own hb).1; have := SD0.out.h_T; have := SD0.out.h_bl; have := SD0.out.nb1; have := SD0.out.nb2
          exact ⟨by omega, by omega, by omega, by omega⟩))
        have y0 : ∀ x : Wld (fun U' => Kept (fun b => b = l.bl ∨ (Value.slice sn (2 * cnt pr q) cn).ownBlock = some b) W2 U'), x.w.cell? ⟨B, 1, none⟩ = some (.slice sn (2 * cnt pr q) cn) := fun x => by simpa using x.h.cell (p := ⟨B, 1, none⟩) nB (t2.b0 1 _ rfl)
        have y1 : ∀ x : Wld (fun U' => Kept (fun b => b = l.bl ∨ (Value.slice sn (2 * cnt pr q) cn).ownBlock = some b) W2 U'), x.w.cell? ⟨nb, q, none⟩ = some (sl rb 0 1 rc) := fun x => by have := x.h.cell (p := ⟨nb, 0 + q, none⟩) nN (t2.nd.tab.cell hlt); rw [Nat.zero_add, efq] at this; exact this
        have s0 : Kept (fun b => b = l.bl ∨ (Value.slice sn (2 * cnt pr q) cn).ownBlock = some b) W2 W2.drew := (Kept.refl _ W2).drew
        haveI nS : Nonempty (Wld (fun U' => Kept (fun b => b = l.bl ∨ (Value.slice sn (2 * cnt pr q) cn).ownBlock = some b) W2 U')) := ⟨⟨W2.drew, s0⟩⟩
        have T2 := hid t2
        clear t2 g1 g2 g3 g4 g5 g6
        go_upto_region 18 with fail
        refine wp_region_calmplan 9 [(true, 0), (true, 1), (true, 2), (true, 3), (true, 4), (true, 5), (true, 6), (false, 7), (true, 8), (false, 9)] (fun w' => ∃ x : Wld (fun U' => Kept (fun b => b = l.bl ∨ (Value.slice sn (2 * cnt pr q) cn).ownBlock = some b) W2 U'), w' = x.w) mixed (by kernel_rfl) (inS s0) ?_
        iterate 7 (refine wpPlan_q (by rfl) ?_; dsimp only [List.getElem_toArray, List.getElem_cons_zero, List.getElem_cons_succ]; go_big_quiet_step (fail); refine wpQuiet_nil ?_)
        refine wpPlan_e (by rfl) ?_
        dsimp only [List.getElem_toArray, List.getElem_cons_zero, List.getElem_cons_succ]
        go_wp2_with (go_at_call 8; refine KO.out.mono ?_; rintro e W2' ⟨⟨nv', rfl, ko1, ko2⟩, ko3, ko4⟩)
        obtain ⟨sn', cn', rfl, hsp'⟩ := own_form ko1
        have sK : Kept (fun b => b = l.bl ∨ (Value.slice sn (2 * cnt pr q) cn).ownBlock = some b) W2 W2' := s0.trans ko3
        refine onward_normal (fun _ => inS sK) ?_
        (refine wpPlan_q (by rfl) ?_; dsimp only [List.getElem_toArray, List.getElem_cons_zero, List.getElem_cons_succ]; go_big_quiet_step (fail); refine wpQuiet_nil ?_)
        have bB := sK.there nB T2.out.bth
        refine wpPlan_e (by rfl) ?_
        dsimp only [List.getElem_toArray, List.getElem_cons_zero, List.getElem_cons_succ]
        refine wpList_store_as rfl 26 _ _ rfl rfl B 1 (.slice sn' (2 * cnt pr q + 2) cn') rfl rfl (store26 _ _ _ _ _ _ (bB 1 (by omega)).1 (bB 1 (by omega)).2) ?_
        refine wpList_done ?_
        refine onward_normal (fun h => by cases h) ?_
        refine wpPlan_nil ?_
        refine calmQ_normal ?_
        have tw := T2.out.kept_one SD0.out hp sK ko4 ko1
        have hc : 2 * cnt pr q + 2 = 2 * cnt pr (q + 1) := by simp [cnt, waits, hp]; omega
        rw [hc] at tw ⊢
        refine q_as (fun X => TS w X l S R B bm bf nb fl base nm tm pr f (.slice sn' (2 * cnt pr (q + 1)) cn') (xs ++ [vi 1, vi p]) (q + 1) (q + 1) q) tw ?_
        clear tw ko1 ko2 ko3 ko4 sK bB hc KO
        clear y0 y1 s0 nS T2 efq nB nN
        intro W3 t3
        obtain ⟨m, hm⟩ : ∃ m, 2 * cnt pr (q + 1) = m := ⟨_, rfl⟩
        rw [hm] at t3
        have z0 : W3.cell? ⟨B, 2, none⟩ = some (sl bf 0 (l.n + 1) (l.n + 1)) := by simpa using t3.b0 2 _ rfl
        have z1 : W3.cell? ⟨B, 1, none⟩ = some (.slice sn' m cn') := by simpa using t3.b0 1 _ rfl
        have z2 := tab_there t3.bfT (show q + 1 < l.n + 1 by omega)
        obtain ⟨u, z3⟩ := Option.isSome_iff_exists.1 z2.1
        have z4 := z2.2
        have hl2 : (q : Int) + 1 < (l.n : Int) + 1 := by omega
        have T3 := hid t3
        have HM := hid hm
        clear t3 z2 hm
        go_wp2
        go_roundw
        case rel =>
          refine ⟨q + 1, by omega, by go_num, .slice sn' m cn', xs ++ [vi 1, vi p], ?_⟩
          have := T3.out
          rw [← HM.out] at this
          have := this.ended SD0.out hlt
          rw [HM.out] at this
          exact this
        case measure => simp [intOf]; omega
    · obtain rfl : q = l.n := by omega
      obtain ⟨hTB, sn, cn, rfl, hsn, hBat⟩ := t0.tb SD0.out hfew HR.out.low (fun k hk => by obtain ⟨y, _, e⟩ := HT.out k hk; exact ⟨_, e⟩)
      have nB : ¬ (B = l.T ∨ B = l.ba ∨ B = l.mb) := fun h => h.elim SD0.out.n_B_T (fun h => h.elim SD0.out.n_B_ba SD0.out.n_B_mb)
      have nR : ¬ (R = l.T ∨ R = l.ba ∨ R = l.mb) := fun h => h.elim SD0.out.n_R_T (fun h => h.elim SD0.out.n_R_ba SD0.out.n_R_mb)
      have k00 : Kept (fun _ => False) wr wr.drew := (Kept.refl _ wr).drew
      have BT := hid (best_tree l nm tm S ⟨bm, 0, l.n, bf, 0, l.n + 1, sn, cn⟩ l.n (fun k => k) pr wr.drew (hTB.keptF k00) (hBat.kept k00 (fun h => h) (fun h => h) (fun _ _ h => h)) hn (fun i hi => hi) (fun i j _ _ e => e) ⟨SD0.out.n_bm_T, SD0.out.n_bm_ba, SD0.out.n_bf_T, SD0.out.n_bf_ba, fun a ha => by have := hsn a ha; have := SD0.out.h_T; have := SD0.out.nb1; have := SD0.out.nb2; omega, fun a ha => by have := hsn a ha; have := SD0.out.h_ba; have := SD0.out.nb1; have := SD0.out.nb2; omega⟩ HT.out HI.out)
      have FT := hid (trT_flat nm HR.out.low HI.out HN.out)
      have s0 : Kept (fun x => x = l.T ∨ x = l.ba ∨ x = l.mb) wr wr.drew := (Kept.refl _ wr).drew
      haveI nS : Nonempty (Wld (fun U' => Kept (fun x => x = l.T ∨ x = l.ba ∨ x = l.mb) wr U')) := ⟨⟨wr.drew, s0⟩⟩
      have T0 := hid t0
      clear t0 hTB hBat
      go_wp2
      refine wp_region_calmplan 7 [(true, 0), (true, 1), (false, 2), (false, 3), (true, 4), (true, 5), (false, 6), (false, 7)] (fun w' => ∃ x : Wld (fun U' => Kept (fun x => x = l.T ∨ x = l.ba ∨ x = l.mb) wr U'), w' = x.w) mixed (by kernel_rfl) (inS s0) ?_
      (refine wpPlan_q (by rfl) ?_; dsimp only [List.getElem_toArray, List.getElem_cons_zero, List.getElem_cons_succ]; go_big_quiet_step (fail); refine wpQuiet_nil ?_)
      refine wpPlan_q (by rfl) ?_
      dsimp only [List.getElem_toArray, List.getElem_cons_zero, List.getElem_cons_succ]
      refine wpQuiet_run (.agg #[sl bm 0 l.n l.n, .slice sn (2 * cnt pr l.n) cn, sl bf 0 (l.n + 1) (l.n + 1)]) rfl (fun w hw => by obtain ⟨x, rfl⟩ := hw; exact xload_mid B 0 rfl [sl bm 0 l.n l.n, .slice sn (2 * cnt pr l.n) cn, sl bf 0 (l.n + 1) (l.n + 1)] _ (x.h.range nB T0.out.b0) Ybaz.underlying53 rfl (by kernel_rfl)) ?_
      simp only [Act.put, List.setIfInBounds_toArray, List.set_cons_succ, List.set_cons_zero]
      refine wpQuiet_nil ?_
      refine wpPlan_e (by rfl) ?_
      dsimp only [List.getElem_toArray, List.getElem_cons_zero, List.getElem_cons_succ]
      go_wp2_with (go_at_call 11; refine (inf_any _).mono ?_; rintro e W3 ⟨rfl, rfl⟩)
      refine onward_normal (fun _ => inS s0) ?_
      refine wpPlan_e (by rfl) ?_
      dsimp only [List.getElem_toArray, List.getElem_cons_zero, List.getElem_cons_succ]
      go_wp2_with (go_at_call 10; refine BT.out.mono ?_; rintro e W3 ⟨c0, c1, c2, fx, fy, rfl, ⟨o0, o1, o2⟩, nh, kp⟩)
      have sK : Kept (fun x => x = l.T ∨ x = l.ba ∨ x = l.mb) wr W3 := s0.trans kp
      refine onward_normal (fun _ => inS sK) ?_
      refine wpPlan_q (by rfl) ?_
      dsimp only [List.getElem_toArray, List.getElem_cons_zero, List.getElem_cons_succ]
      refine wpQuiet_run (.agg #[c0, c1, c2, .float .f64 fx]) rfl (fun w _ => fld61 rfl) ?_
      simp only [Act.put, List.setIfInBounds_toArray, List.set_cons_succ, List.set_cons_zero]
      refine wpQuiet_nil ?_
      refine wpPlan_q (by rfl) ?_
      dsimp only [List.getElem_toArray, List.getElem_cons_zero, List.getElem_cons_succ]
      refine wpQuiet_run (.agg #[c0, c1, c2]) rfl (fun w _ => fld59 rfl) ?_
      simp only [Act.put, List.setIfInBounds_toArray, List.set_cons_succ, List.set_cons_zero]
      refine wpQuiet_nil ?_
      refine wpPlan_e (by rfl) ?_
      dsimp only [List.getElem_toArray, List.getElem_cons_zero, List.getElem_cons_succ]
      have FL := hid (flatten_any 3 _ c0 c1 c2 W3 (NodeHi.is _ _ _ _ _ nh) FT.out)
      have SK := hid sK
      clear BT nh kp sK
      go_wp2_with (go_at_call 9; refine FL.out.mono ?_; rintro e W4 ⟨⟨a', b', c', rfl, nh2⟩, bl4⟩)
      have hsz : base ≤ W3.heap.size := Nat.le_trans T0.out.sz SK.out.size
      have sK4 : Kept (fun x => x = l.T ∨ x = l.ba ∨ x = l.mb) wr W4 := SK.out.trans (Kept.ofBelow bl4)
      refine onward_normal (fun _ => inS sK4) ?_
      refine wpPlan_e (by rfl) ?_
      dsimp only [List.getElem_toArray, List.getElem_cons_zero, List.getElem_cons_succ]
      have tR := sK4.there nR T0.out.res
      obtain ⟨o0', o1', o2'⟩ := NodeIs.one _ _ _ _ _ (NodeHi.is _ _ _ _ _ nh2)
      refine wpList_store_mid rfl 42 _ _ rfl R 0 #[a', b', c'] rfl rfl tR (by kernel_rfl) (by simp [o0', o1', o2']) ?_
      refine wpList_done ?_
      simp only [Act.put, List.setIfInBounds_toArray, List.set_cons_succ, List.set_cons_zero]
      refine onward_normal (fun h => by cases h) ?_
      refine wpPlan_nil ?_
      refine calmQ_normal ?_
      have hRl := SD0.out.l_R
      have hRh := SD0.out.h_R
      have hx1 := SD0.out.nb1
      have hx2 := SD0.out.nb2
      have kR : Kept (fun b => b = R) W4 (W4.setCells R 0 [a', b', c']) := (Kept.refl (fun b => b = R) W4).setCells (.inl rfl) _ _
      have nh3 := NodeHi.mono (F' := w.heap.size) (by omega) _ _ _ _ _ (NodeHi.kept kR (fun b hb => by omega) _ _ _ _ _ nh2)
      have bw : Below w.heap.size w (W4.setCells R 0 [a', b', c']) := (T0.out.bel.trans (sK4.toBelow (fun i hi he => by
        have := SD0.out.l_T; have := SD0.out.l_ba; have := SD0.out.l_mb
        rcases he with e | e | e <;> omega) T0.out.bel.size)).trans (kR.toBelow (fun i hi he => by omega) (by have := T0.out.bel.size; have := sK4.size; omega))
      have rR : (W4.setCells R 0 [a', b', c']).rangeAt R 0 [a', b', c'] := World.rangeAt_setCells_same _ _ _ _ tR
      go_wp2
      refine bodyPost_ret (v := .agg #[a', b', c']) (results_cell Ybaz.results4 _ _ _ (b := R) (o := 0) rfl ?_) rfl ⟨⟨a', b', c', rfl, nh3⟩, bw⟩
      exact run_loadVar_mid _ _ _ 42 [a', b', c'] _ rR Ybaz.underlying42 rfl (by kernel_rfl)
end Go.Proofs.YbulkdsicGreat
