import Derived.Test.YbulkdsicGreatTree2
set_option linter.unusedVariables false
set_option linter.unusedSimpArgs false
namespace Go.Proofs.YbulkdsicGreat
open Go.RowKit Go.Shelf
theorem Ybaz.info9 : (Ybaz.prog.info? 9).map (fun i => (i.zero, i.size, i.bytes)) = some (some (.string ⟨#[]⟩), 1, 16) := by kernel_rfl
theorem bld51 (p1 p2 p3 p4 p5 n : Nat) (w : World) : Sem.run Ybaz.prog (Instr.build 51 #[(0, sl p1 0 n n), (1, sl p2 0 n n), (2, sl p3 0 n n), (3, sl p4 0 n n), (4, .map (some p5)), (5, .int .i64 1048576)]) w = .ok (.agg #[sl p1 0 n n, sl p2 0 n n, sl p3 0 n n, sl p4 0 n n, .map (some p5), .int .i64 1048576]) w := by kernel_rfl
theorem bx51 (p1 p2 p3 p4 p5 n : Nat) (w : World) : Sem.run Ybaz.prog (Instr.box 51 (.agg #[sl p1 0 n n, sl p2 0 n n, sl p3 0 n n, sl p4 0 n n, .map (some p5), .int .i64 1048576])) w = .ok (.pointer (some ⟨w.heap.size, 0, none⟩)) (w.alloc (.cells #[sl p1 0 n n, sl p2 0 n n, sl p3 0 n n, sl p4 0 n n, .map (some p5), .int .i64 1048576] 51)) := by kernel_rfl
theorem bld53 (p1 p2 n : Nat) (w : World) : Sem.run Ybaz.prog (Instr.build 53 #[(0, sl p1 0 n n), (2, sl p2 0 (n + 1) (n + 1))]) w = .ok (.agg #[sl p1 0 n n, .slice none 0 0, sl p2 0 (n + 1) (n + 1)]) w := by kernel_rfl
theorem add1 (n : Nat) (h : n ≤ 300) (w : World) : Sem.run Ybaz.prog (binOp .add 3 (vi n) (.int .i64 1)) w = .ok (vi (n + 1)) w := by
  have hu := Ybaz.underlying3
  have e : wrap64 ((n : Int) + 1) = (n : Int) + 1 := by unfold wrap64; omega
  go_simp
  simp [IntKind.wrap, IntKind.bits, IntKind.signed]
  omega
def taV (n : Nat) (j : Nat) (blk : Nat → Nat) : Value :=
  match j with
  | 0 => vi n
  | 1 => sl (blk 1) 0 (n) (n)
  | 2 => vi n
  | 3 => sl (blk 3) 0 (n) (n)
  | 4 => vi n
  | 5 => sl (blk 5) 0 (n) (n)
  | 6 => vi n
  | 7 => sl (blk 7) 0 (n) (n)
  | 8 => .map (some (blk 8))
  | 9 => .agg #[sl (blk 1) 0 n n, sl (blk 3) 0 n n, sl (blk 5) 0 n n, sl (blk 7) 0 n n, .map (some (blk 8)), .int .i64 1048576]
  | 10 => .pointer (some ⟨blk 10, 0, none⟩)
  | _ => undef
def taO (n : Nat) (j : Nat) (blk : Nat → Nat) : Option Obj :=
  match j with
  | 1 => some (.cells (Array.replicate (n) (.string ⟨#[]⟩)) 9)
  | 3 => some (.cells (Array.replicate (n) (.float .f64 0)) 36)
  | 5 => some (.cells (Array.replicate (n) (.int .i64 0)) 3)
  | 7 => some (.cells (Array.replicate (n) (.bool false)) 4)
  | 8 => some (.map #[] 0)
  | 10 => some (.cells #[sl (blk 1) 0 n n, sl (blk 3) 0 n n, sl (blk 5) 0 n n, sl (blk 7) 0 n n, .map (some (blk 8)), .int .i64 1048576] 51)
  | _ => none
def taD (j : Nat) : List Nat :=
  match j with
  | 1 => [1]
  | 3 => [3]
  | 5 => [5]
  | 7 => [7]
  | 8 => [8]
  | 9 => [1, 3, 5, 7, 8]
  | 10 => [1, 3, 5, 7, 8, 10]
  | _ => []
theorem taL (n : Nat) (j : Nat) (blk blk' : Nat → Nat) (h : ∀ k ∈ taD j, blk k = blk' k) : taV n j blk = taV n j blk' ∧ taO n j blk = taO n j blk' := by
  match j with
  | 0 => exact ⟨rfl, rfl⟩
  | 1 => simp only [taD, List.forall_mem_cons] at h; simp [taV, taO, h]
  | 2 => exact ⟨rfl, rfl⟩
  | 3 => simp only [taD, List.forall_mem_cons] at h; simp [taV, taO, h]
  | 4 => exact ⟨rfl, rfl⟩
  | 5 => simp only [taD, List.forall_mem_cons] at h; simp [taV, taO, h]
  | 6 => exact ⟨rfl, rfl⟩
  | 7 => simp only [taD, List.forall_mem_cons] at h; simp [taV, taO, h]
  | 8 => simp only [taD, List.forall_mem_cons] at h; simp [taV, taO, h]
  | 9 => simp only [taD, List.forall_mem_cons] at h; simp [taV, taO, h]
  | 10 => simp only [taD, List.forall_mem_cons] at h; simp [taV, taO, h]
  | j + 11 => exact ⟨rfl, rfl⟩

def tcV (n : Nat) (j : Nat) (blk : Nat → Nat) : Value :=
  match j with
  | 0 => vi n
  | 1 => sl (blk 1) 0 (n) (n)
  | 2 => vi n
  | 3 => vi (n + 1)
  | 4 => sl (blk 4) 0 (n + 1) (n + 1)
  | 5 => .agg #[sl (blk 1) 0 n n, .slice none 0 0, sl (blk 4) 0 (n + 1) (n + 1)]
  | 6 => .pointer (some ⟨blk 6, 0, none⟩)
  | _ => undef
def tcO (n : Nat) (j : Nat) (blk : Nat → Nat) : Option Obj :=
  match j with
  | 1 => some (.cells (Array.replicate (n) (.int .i64 0)) 3)
  | 4 => some (.cells (Array.replicate (n + 1) (.int .i64 0)) 3)
  | 6 => some (.cells #[.slice none 0 0, .slice none 0 0, .slice none 0 0] 53)
  | _ => none
def tcD (j : Nat) : List Nat :=
  match j with
  | 1 => [1]
  | 4 => [4]
  | 5 => [1, 4]
  | 6 => [6]
  | _ => []
theorem tcL (n : Nat) (j : Nat) (blk blk' : Nat → Nat) (h : ∀ k ∈ tcD j, blk k = blk' k) : tcV n j blk = tcV n j blk' ∧ tcO n j blk = tcO n j blk' := by
  match j with
  | 0 => exact ⟨rfl, rfl⟩
  | 1 => simp only [tcD, List.forall_mem_cons] at h; simp [tcV, tcO, h]
  | 2 => exact ⟨rfl, rfl⟩
  | 3 => exact ⟨rfl, rfl⟩
  | 4 => simp only [tcD, List.forall_mem_cons] at h; simp [tcV, tcO, h]
  | 5 => simp only [tcD, List.forall_mem_cons] at h; simp [tcV, tcO, h]
  | 6 => simp only [tcD, List.forall_mem_cons] at h; simp [tcV, tcO, h]
  | j + 7 => exact ⟨rfl, rfl⟩


/-- The front's own: the result's cell. -/
structure PL (w U : World) : Prop where
  bel : Below w.heap.size w U
  res : U.there w.heap.size 0 3
  sz : w.heap.size + 1 ≤ U.heap.size
structure P1 (w U : World) (Pb n : Nat) : Prop where
  bel : Below w.heap.size w U
  res : U.there w.heap.size 0 3
  tab : ∃ g, Tab U Pb 0 n g
  lo : w.heap.size + 1 ≤ Pb

/-- Behind region 10. -/
structure A10 (w U : World) (l : TBl) : Prop where
  bel : Below w.heap.size w U
  res : U.there w.heap.size 0 3
  lo : ∀ b ∈ [l.T, l.bn, l.bt, l.ba, l.bl, l.mb], w.heap.size + 1 ≤ b ∧ b < U.heap.size
  nd : [l.T, l.bn, l.bt, l.ba, l.bl, l.mb].Nodup
  st : U.rangeAt l.T 0 (l.cells 1048576)
  th : U.there l.T 0 6
  nmT : Tab U l.bn 0 l.n (fun _ => .string ⟨#[]⟩)
  tt : Tab U l.bt 0 l.n (fun _ => .float .f64 0)
  at' : Tab U l.ba 0 l.n (fun _ => vi 0)
  al : Tab U l.bl 0 l.n (fun _ => .bool false)
  mp : MapS U l.mb []
theorem A10.below {w U U' : World} {l : TBl} (h : A10 w U l) (b : Below U.heap.size U U') : A10 w U' l := by
  have k := Kept.ofBelow (E := fun _ => False) b
  exact ⟨h.bel.trans (k.toBelow (fun _ _ h => h) h.bel.size), k.there (fun h => h) h.res, fun x hx => ⟨(h.lo x hx).1, Nat.lt_of_lt_of_le (h.lo x hx).2 k.size⟩, h.nd, k.range (fun h => h) h.st, k.there (fun h => h) h.th, h.nmT.kept k (fun h => h), h.tt.kept k (fun h => h), h.at'.kept k (fun h => h), h.al.kept k (fun h => h), h.mp.kept k (fun h => h)⟩
/-- Behind region 11. -/
structure A11 (w U : World) (l : TBl) (B bm bf : Nat) : Prop where
  a : A10 w U l
  up : ∀ b ∈ [l.T, l.bn, l.bt, l.ba, l.bl, l.mb], b < B ∧ b < bm ∧ b < bf
  lo : ∀ b ∈ [B, bm, bf], w.heap.size + 1 ≤ b ∧ b < U.heap.size
  n1 : B ≠ bm
  n2 : B ≠ bf
  n3 : bm ≠ bf
  b0 : U.rangeAt B 0 [sl bm 0 l.n l.n, .slice none 0 0, sl bf 0 (l.n + 1) (l.n + 1)]
  bth : U.there B 0 3
  bmT : Tab U bm 0 l.n (fun _ => vi 0)
  bfT : Tab U bf 0 (l.n + 1) (fun _ => vi 0)
theorem A11.sd {w U : World} {l : TBl} {B bm bf nb base : Nat} (h : A11 w U l B bm bf) (h1 : U.heap.size ≤ nb) (h2 : nb < base) : SD w l w.heap.size B bm bf nb U.heap.size base := by
  refine SD.make (fun b hb => ?_) ?_ h1 h2
  · rcases List.mem_cons.1 hb with e | hb
    · subst e
      have := h.lo B (by simp)
      omega
    · have hb' : b ∈ [l.T, l.bn, l.bt, l.ba, l.bl, l.mb] ++ [B, bm, bf] := hb
      rcases List.mem_append.1 hb' with hb | hb
      · have := h.a.lo b hb; omega
      · have := h.lo b hb; omega
  · show (w.heap.size :: ([l.T, l.bn, l.bt, l.ba, l.bl, l.mb] ++ [B, bm, bf])).Nodup
    rw [List.nodup_cons]
    refine ⟨fun hb => ?_, List.nodup_append.2 ⟨h.a.nd, ?_, fun x hx y hy e => ?_⟩⟩
    · rcases List.mem_append.1 hb with hb | hb
      · have := h.a.lo _ hb; omega
      · have := h.lo _ hb; omega
    · simp only [List.nodup_cons, List.mem_cons, List.not_mem_nil, or_false, not_or, List.nodup_nil, and_true, not_false_eq_true]
      exact ⟨⟨h.n1, h.n2⟩, h.n3⟩
    · have := h.up x hx
      simp only [List.mem_cons, List.not_mem_nil, or_false] at hy
      rcases hy with e' | e' | e' <;> omega
theorem A11.ts {w U V : World} {l : TBl} {B bm bf nb T0 : Nat} {nm : Nat → ByteArray} {tm : Nat → Value} {pr : Nat → Option Nat} {f : Nat → Value} (h : A11 w U l B bm bf) (b : Below U.heap.size U V) (h1 : U.heap.size ≤ nb) (h2 : nb < T0) (tab : Tab V nb 0 l.n f) (nd : NdR V T0 l.n f pr l.n) :
    TS w V l 1048576 w.heap.size B bm bf nb U.heap.size V.heap.size nm tm pr f (.slice none 0 0) [] 0 0 0 := by
  have k := Kept.ofBelow (E := fun _ => False) b
  have a := h.a.below b
  refine ⟨a.bel, a.res, a.st, a.th, a.nmT.ext (fun _ _ => by simp), a.tt.ext (fun _ _ => by simp), a.at'.ext (fun _ _ => by simp), a.al, a.mp, k.range (fun h => h) h.b0, k.there (fun h => h) h.bth, (h.bmT.kept k (fun h => h)).ext (fun _ _ => by simp), (h.bfT.kept k (fun h => h)).ext (fun j _ => ?_), ⟨rfl, .inl ⟨rfl, rfl⟩⟩, fun i j hi => by omega, NdB.make tab nd h1 h2, Nat.le_refl _⟩
  by_cases e : j = 0
  · subst e; rfl
  · rw [if_neg (by omega)]
set_option maxRecDepth 100000 in
set_option maxHeartbeats 1000000 in
theorem tree_zero (Gb Sb en c : Nat) (w : World) (h : w.cell? ⟨Sb, 3, none⟩ = some (sl en 0 0 c)) :
    Calls Ybaz.prog 4 #[.pointer (some ⟨Gb, 0, none⟩), .pointer (some ⟨Sb, 0, none⟩)] w fun e w' => e = .returned (.agg #[.string ⟨#[]⟩, .bool false, .slice none 0 0]) ∧ Below w.heap.size w w' := by
  have k0 : Kept (fun _ => False) w (w.alloc (.cells #[.string ⟨#[]⟩, .bool false, .slice none 0 0] 42)) := (Kept.refl _ w).alloc _
  have c0 := k0.cell (p := ⟨Sb, 3, none⟩) (fun h => h) h
  have B0 := hid ((Below.refl w.heap.size w).alloc (Nat.le_refl _) (.cells #[.string ⟨#[]⟩, .bool false, .slice none 0 0] 42))
  have th := hid (there_new w [.string ⟨#[]⟩, .bool false, .slice none 0 0] 42)
  clear k0 h
  go_enter Ybaz.func4, Ybaz.ntmps4
  go_wp2_with (first
    | ((with_reducible (show wpList _ _ _ (⟨_, .alloc 42, _, _, _, _⟩ :: _) _ _)); refine wpList_alloc_as rfl 42 rfl #[.string ⟨#[]⟩, .bool false, .slice none 0 0] al42 ?_; simp only [Act.put, List.setIfInBounds_toArray, List.set_cons_succ, List.set_cons_zero])
    | ((with_reducible (show wpList _ _ _ (⟨_, .store 42 _ _, _, _, _, _⟩ :: _) _ _)); refine wpList_store_mid rfl 42 _ _ rfl w.heap.size 0 #[.string ⟨#[]⟩, .bool false, .slice none 0 0] rfl rfl th.out (by kernel_rfl) (by simp [Value.oneCell']) ?_; simp only [Act.put, List.setIfInBounds_toArray, List.set_cons_succ, List.set_cons_zero]))
  refine bodyPost_ret (v := .agg #[.string ⟨#[]⟩, .bool false, .slice none 0 0]) (results_cell Ybaz.results4 _ _ _ (b := w.heap.size) (o := 0) rfl ?_) rfl ⟨rfl, below_setCells B0.out (Nat.le_refl _) _ _⟩
  exact run_loadVar_mid _ _ _ 42 [.string ⟨#[]⟩, .bool false, .slice none 0 0] _ (World.rangeAt_setCells_same _ _ _ _ th.out) Ybaz.underlying42 rfl (by kernel_rfl)

set_option maxRecDepth 100000 in
set_option maxHeartbeats 4000000 in
theorem tree_any (Gb Sb n pb sv sb en : Nat) (nm : Nat → ByteArray) (tm : Nat → Value) (pr : Nat → Option Nat) (w : World) (hn : 0 < n) (hR : RG w Gb Sb n pb sv sb en nm tm pr)
    (hT : ∀ x, x < n → ∃ y, y ≤ 65535 ∧ tm x = .float .f64 (Flt.nat y)) (hin : ∀ i i' j, i < n → i' < n → pr i = some j → pr i' = some j → i = i') (hnm : ∀ k, k < n → Named (nm k)) :
    Calls Ybaz.prog 4 #[.pointer (some ⟨Gb, 0, none⟩), .pointer (some ⟨Sb, 0, none⟩)] w fun e w' => (∃ a b c, e = .returned (.agg #[a, b, c]) ∧ NodeHi w' w.heap.size 3 (trT nm (groups pr (rt pr n) n)) a b c) ∧ Below w.heap.size w w' := by
  obtain ⟨i3, hi3, hz3, hs3, hb3⟩ := info_parts Ybaz.info3
  obtain ⟨i4, hi4, hz4, hs4, hb4⟩ := info_parts Ybaz.info4
  obtain ⟨i9, hi9, hz9, hs9, hb9⟩ := info_parts Ybaz.info9
  obtain ⟨i36, hi36, hz36, hs36, hb36⟩ := info_parts Ybaz.info36
  have hfew := hR.few
  have HR := hid hR
  have HT := hid hT
  have HI := hid hin
  have HN := hid hnm
  have pl0 : PL w (w.alloc (.cells #[.string ⟨#[]⟩, .bool false, .slice none 0 0] 42)) := ⟨(Below.refl _ w).alloc (Nat.le_refl _) _, there_new w [.string ⟨#[]⟩, .bool false, .slice none 0 0] 42, by simp⟩
  have PL0 := hid pl0
  have c0 := (hR.below pl0.bel).s3
  have c1 := (hR.below pl0.bel).g2
  have hn0 : ((n : Int) == 0) = false := by
    have : ¬ ((n : Int) = 0) := by omega
    simpa using this
  clear hR hT hin hnm pl0
  go_enter Ybaz.func4, Ybaz.ntmps4
  go_upto_region 3 with (refine wpList_alloc_as rfl 42 rfl #[.string ⟨#[]⟩, .bool false, .slice none 0 0] al42 ?_)
  obtain ⟨W0, hW0⟩ : ∃ W0, w.alloc (.cells #[.string ⟨#[]⟩, .bool false, .slice none 0 0] 42) = W0 := ⟨_, rfl⟩
  rw [hW0] at PL0 c0 c1 ⊢
  clear hW0
  go_upto_region 4 with (at_make; refine wpList_make_as rfl (.tmp 26) (.tmp 26) 26 rfl 3 i3 (.int .i64 0) n Ybaz.underlying26 hi3 hz3 rfl rfl (by rw [hb3]; omega) (by omega) ?_)
  have p1 : P1 w (W0.alloc (.cells (madeCells #[.int .i64 0] n) 3)) W0.heap.size n := by
    rw [made_one]
    have k : Kept (fun _ => False) W0 (W0.alloc (.cells (Array.replicate n (.int .i64 0)) 3)) := (Kept.refl _ W0).alloc _
    exact ⟨PL0.out.bel.trans (k.toBelow (fun _ _ h => h) PL0.out.bel.size), k.there (fun h => h) PL0.out.res, ⟨_, Tab.new W0 n 3 (.int .i64 0)⟩, PL0.out.sz⟩
  refine wp_as (fun U => P1 w U W0.heap.size n) p1 ?_
  clear p1 c0 c1
  obtain ⟨Pb, hPb⟩ : ∃ Pb, W0.heap.size = Pb := ⟨_, rfl⟩
  rw [hPb]
  clear hPb PL0
  intro W1 p1
  have c0 := (HR.out.below p1.bel).s3
  have P10 := hid p1
  clear p1
  go_wp2
  clear c0
  go_loopw [33] (fun x U => ∃ q : Nat, q ≤ n ∧ x = vi q ∧ P1 w U Pb n) (fun x _ => n - (intOf x).toNat)
  case atStart => exact ⟨0, Nat.zero_le _, rfl, P10.out⟩
  case round =>
    obtain ⟨q, hq, rfl, p1⟩ := hrel
    clear P10
    by_cases hlt : q < n
    · have hli : (q : Int) < (n : Int) := by omega
      have b1 := (HR.out.below p1.bel).enC q hlt
      obtain ⟨g, hg⟩ := p1.tab
      have b2 := hg.cell hlt
      have b3 := hg.free hlt
      rw [Nat.zero_add] at b2 b3
      have HG := hid hg
      have P1' := hid p1
      clear p1 hg
      go_wp2
      go_roundw
      case rel =>
        have := HG.out.set hlt (vi q)
        rw [Nat.zero_add] at this
        refine ⟨q + 1, by omega, by go_num, P1'.out.bel.setCell (p := ⟨Pb, q, none⟩) (by have := P1'.out.lo; simp; omega) _, there_setCell P1'.out.res _ _, ⟨_, this⟩, P1'.out.lo⟩
      case measure => simp [intOf]; omega
    · obtain rfl : n = q := by omega
      have c0 := (HR.out.below p1.bel).s3
      have P10 := hid p1
      clear p1
      go_upto_region 10 with fail
      clear c0
      rename_i K1 hK1 K2 hK2
      refine wp_region_allocs 11 138 (taV n) (taO n) taD mixed (by kernel_rfl) rfl (fun j _ blk blk' hk => taL n j blk blk' hk) ?_ ?_
      · intro i o ho hi blk a x hb hbi h1 h2'
        match i, ho with
        | 0, ho => cases ho; exact xmove (h2' 8 (by kernel_rfl))
        | 1, ho =>
          cases ho
          refine (xmake 9 i9 (.string ⟨#[]⟩) (n) (n) Ybaz.underlying22 hi9 hz9 (h1 0 _ 48 rfl rfl (by kernel_rfl)) (h1 0 _ 48 rfl rfl (by kernel_rfl)) (Nat.le_refl _) (by rw [hb9]; omega) (by omega)).trans ?_
          rw [hs9, Nat.mul_one, made_one_cells (.string ⟨#[]⟩) (n) rfl, ← hbi]
          rfl
        | 2, ho => cases ho; exact xmove (h2' 8 (by kernel_rfl))
        | 3, ho =>
          cases ho
          refine (xmake 36 i36 (.float .f64 0) (n) (n) Ybaz.underlying33 hi36 hz36 (h1 2 _ 50 rfl rfl (by kernel_rfl)) (h1 2 _ 50 rfl rfl (by kernel_rfl)) (Nat.le_refl _) (by rw [hb36]; omega) (by omega)).trans ?_
          rw [hs36, Nat.mul_one, made_one_cells (.float .f64 0) (n) rfl, ← hbi]
          rfl
        | 4, ho => cases ho; exact xmove (h2' 8 (by kernel_rfl))
        | 5, ho =>
          cases ho
          refine (xmake 3 i3 (.int .i64 0) (n) (n) Ybaz.underlying26 hi3 hz3 (h1 4 _ 52 rfl rfl (by kernel_rfl)) (h1 4 _ 52 rfl rfl (by kernel_rfl)) (Nat.le_refl _) (by rw [hb3]; omega) (by omega)).trans ?_
          rw [hs3, Nat.mul_one, made_one_cells (.int .i64 0) (n) rfl, ← hbi]
          rfl
        | 6, ho => cases ho; exact xmove (h2' 8 (by kernel_rfl))
        | 7, ho =>
          cases ho
          refine (xmake 4 i4 (.bool false) (n) (n) Ybaz.underlying48 hi4 hz4 (h1 6 _ 54 rfl rfl (by kernel_rfl)) (h1 6 _ 54 rfl rfl (by kernel_rfl)) (Nat.le_refl _) (by rw [hb4]; omega) (by omega)).trans ?_
          rw [hs4, Nat.mul_one, made_one_cells (.bool false) (n) rfl, ← hbi]
          rfl
        | 8, ho =>
          cases ho
          refine (xmap (fun w => run_makeMap 49 w)).trans ?_
          rw [← hbi]
          rfl
        | 9, ho =>
          cases ho
          refine xbuild (fun w => ?_)
          have e0 := h1 1 _ 49 rfl rfl (by kernel_rfl)
          have e1 := h1 3 _ 51 rfl rfl (by kernel_rfl)
          have e2 := h1 5 _ 53 rfl rfl (by kernel_rfl)
          have e3 := h1 7 _ 55 rfl rfl (by kernel_rfl)
          have e4 := h1 8 _ 56 rfl rfl (by kernel_rfl)
          simp only [List.map_toArray, List.map_cons, List.map_nil, e0, e1, e2, e3, e4]
          exact bld51 _ _ _ _ _ _ _
        | 10, ho =>
          cases ho
          refine (xbox (h1 9 _ 57 rfl rfl (by kernel_rfl)) (fun w => bx51 _ _ _ _ _ _ _)).trans ?_
          rw [← hbi]
          rfl
        | i + 11, ho => omega
      intro oz hoz blk x hb hobj hdis
      cases hoz
      simp only [lay, List.take, Act.put, List.setIfInBounds_toArray, List.set_cons_succ, List.set_cons_zero, taV]
      have a10 : A10 w x ⟨blk 10, n, blk 1, blk 3, blk 5, blk 7, blk 8⟩ := by
        have o1 := hobj 1 _ (by omega) rfl
        have o3 := hobj 3 _ (by omega) rfl
        have o5 := hobj 5 _ (by omega) rfl
        have o7 := hobj 7 _ (by omega) rfl
        have o8 := hobj 8 _ (by omega) rfl
        have o10 := hobj 10 _ (by omega) rfl
        have hlt : ∀ {b : Nat} {ob : Obj}, x.heap[b]? = some ob → b < x.heap.size := fun h => (Array.getElem?_eq_some_iff.1 h).1
        have hwr : w.heap.size + 1 ≤ wr.heap.size := by
          obtain ⟨g, hg⟩ := P10.out.tab
          have := hg.lt hn
          have := P10.out.lo
          omega
        have r10 : x.heap[blk 10]? = some (.cells [sl (blk 1) 0 n n, sl (blk 3) 0 n n, sl (blk 5) 0 n n, sl (blk 7) 0 n n, .map (some (blk 8)), .int .i64 1048576].toArray 51) := o10.2
        refine ⟨P10.out.bel.trans (hb.mono (by omega)), there_kept_below hb P10.out.res, ?_, ?_, range_of_block r10, there_of_block r10, tab_block o1.2, tab_block o3.2, tab_block o5.2, tab_block o7.2, ⟨#[], 0, o8.2, rfl⟩⟩
        · intro b hb'
          simp only [List.mem_cons, List.not_mem_nil, or_false] at hb'
          rcases hb' with e | e | e | e | e | e
          · rw [e]; exact ⟨Nat.le_trans hwr o10.1, hlt o10.2⟩
          · rw [e]; exact ⟨Nat.le_trans hwr o1.1, hlt o1.2⟩
          · rw [e]; exact ⟨Nat.le_trans hwr o3.1, hlt o3.2⟩
          · rw [e]; exact ⟨Nat.le_trans hwr o5.1, hlt o5.2⟩
          · rw [e]; exact ⟨Nat.le_trans hwr o7.1, hlt o7.2⟩
          · rw [e]; exact ⟨Nat.le_trans hwr o8.1, hlt o8.2⟩
        · simp only [List.nodup_cons, List.mem_cons, List.not_mem_nil, or_false, not_or, List.nodup_nil, and_true, not_false_eq_true]
          exact ⟨⟨hdis 10 1 (by omega) (by omega) (by omega) rfl rfl, hdis 10 3 (by omega) (by omega) (by omega) rfl rfl, hdis 10 5 (by omega) (by omega) (by omega) rfl rfl, hdis 10 7 (by omega) (by omega) (by omega) rfl rfl, hdis 10 8 (by omega) (by omega) (by omega) rfl rfl⟩, ⟨hdis 1 3 (by omega) (by omega) (by omega) rfl rfl, hdis 1 5 (by omega) (by omega) (by omega) rfl rfl, hdis 1 7 (by omega) (by omega) (by omega) rfl rfl, hdis 1 8 (by omega) (by omega) (by omega) rfl rfl⟩, ⟨hdis 3 5 (by omega) (by omega) (by omega) rfl rfl, hdis 3 7 (by omega) (by omega) (by omega) rfl rfl, hdis 3 8 (by omega) (by omega) (by omega) rfl rfl⟩, ⟨hdis 5 7 (by omega) (by omega) (by omega) rfl rfl, hdis 5 8 (by omega) (by omega) (by omega) rfl rfl⟩, hdis 7 8 (by omega) (by omega) (by omega) rfl rfl⟩
      obtain ⟨l, hl⟩ : ∃ l : TBl, l = ⟨blk 10, n, blk 1, blk 3, blk 5, blk 7, blk 8⟩ := ⟨_, rfl⟩
      have e10 : blk 10 = l.T := by rw [hl]
      have hnn : n = l.n := by rw [hl]
      rw [← hl] at a10
      rw [e10]
      have A0 := hid a10
      clear a10 hobj hdis hb e10 hl P10
      subst hnn
      go_upto_region 11 with fail
      clear hK1 K1
      rename_i K3 hK3
      refine wp_region_allocs 7 138 (tcV l.n) (tcO l.n) tcD mixed (by kernel_rfl) rfl (fun j _ blk blk' hk => tcL l.n j blk blk' hk) ?_ ?_
      · intro i o ho hi blk a x hb hbi h1 h2'
        match i, ho with
        | 0, ho => cases ho; exact xmove (h2' 8 (by kernel_rfl))
        | 1, ho =>
          cases ho
          refine (xmake 3 i3 (.int .i64 0) (l.n) (l.n) Ybaz.underlying26 hi3 hz3 (h1 0 _ 59 rfl rfl (by kernel_rfl)) (h1 0 _ 59 rfl rfl (by kernel_rfl)) (Nat.le_refl _) (by rw [hb3]; omega) (by omega)).trans ?_
          rw [hs3, Nat.mul_one, made_one_cells (.int .i64 0) (l.n) rfl, ← hbi]
          rfl
        | 2, ho => cases ho; exact xmove (h2' 8 (by kernel_rfl))
        | 3, ho => cases ho; exact xbin (h1 2 _ 61 rfl rfl (by kernel_rfl)) rfl (fun w => by kernel_rfl) (fun w => add1 l.n hfew w)
        | 4, ho =>
          cases ho
          refine (xmake 3 i3 (.int .i64 0) (l.n + 1) (l.n + 1) Ybaz.underlying26 hi3 hz3 (h1 3 _ 62 rfl rfl (by kernel_rfl)) (h1 3 _ 62 rfl rfl (by kernel_rfl)) (Nat.le_refl _) (by rw [hb3]; omega) (by omega)).trans ?_
          rw [hs3, Nat.mul_one, made_one_cells (.int .i64 0) (l.n + 1) rfl, ← hbi]
          rfl
        | 5, ho =>
          cases ho
          refine xbuild (fun w => ?_)
          have e0 := h1 1 _ 60 rfl rfl (by kernel_rfl)
          have e1 := h1 4 _ 63 rfl rfl (by kernel_rfl)
          simp only [List.map_toArray, List.map_cons, List.map_nil, e0, e1]
          exact bld53 _ _ _ _
        | 6, ho =>
          cases ho
          refine (xalloc al53).trans ?_
          rw [← hbi]
          rfl
        | i + 7, ho => omega
      intro oz hoz blk y hb hobj hdis
      cases hoz
      simp only [lay, List.take, Act.put, List.setIfInBounds_toArray, List.set_cons_succ, List.set_cons_zero, tcV]
      have o1 := hobj 1 _ (by omega) rfl
      have o4 := hobj 4 _ (by omega) rfl
      have o6 := hobj 6 _ (by omega) rfl
      have d1 : blk 6 ≠ blk 1 := hdis 6 1 (by omega) (by omega) (by omega) rfl rfl
      have d2 : blk 6 ≠ blk 4 := hdis 6 4 (by omega) (by omega) (by omega) rfl rfl
      have d3 : blk 1 ≠ blk 4 := hdis 1 4 (by omega) (by omega) (by omega) rfl rfl
      obtain ⟨B, hB⟩ : ∃ B, blk 6 = B := ⟨_, rfl⟩
      obtain ⟨bm, hbm⟩ : ∃ bm, blk 1 = bm := ⟨_, rfl⟩
      obtain ⟨bf, hbf⟩ : ∃ bf, blk 4 = bf := ⟨_, rfl⟩
      rw [hB] at o6 d1 d2
      rw [hbm] at o1 d1 d3
      rw [hbf] at o4 d2 d3
      simp only [hB, hbm, hbf]
      have r6 : y.heap[B]? = some (.cells [Value.slice none 0 0, Value.slice none 0 0, Value.slice none 0 0].toArray 53) := o6.2
      have th := there_of_block r6
      refine wpList_store_mid rfl 53 _ _ rfl B 0 #[sl bm 0 l.n l.n, .slice none 0 0, sl bf 0 (l.n + 1) (l.n + 1)] rfl rfl th (by kernel_rfl) (by simp [Value.oneCell']) ?_
      refine wpList_done ?_
      have kB : Kept (fun z => z = B) y (y.setCells B 0 [sl bm 0 l.n l.n, .slice none 0 0, sl bf 0 (l.n + 1) (l.n + 1)]) := (Kept.refl (fun z => z = B) y).setCells (g := B) (.inl rfl) _ _
      refine q_as (fun U => A11 w U l B bm bf) ?_ ?_
      · have hlt : ∀ {b : Nat} {ob : Obj}, y.heap[b]? = some ob → b < y.heap.size := fun h => (Array.getElem?_eq_some_iff.1 h).1
        have kA : Kept (fun _ => False) x (y.setCells B 0 [sl bm 0 l.n l.n, .slice none 0 0, sl bf 0 (l.n + 1) (l.n + 1)]) := (Kept.ofBelow hb).setCells (.inr o6.1) _ _
        have hx : w.heap.size + 1 ≤ x.heap.size := by have := A0.out.lo l.T (by simp); omega
        refine ⟨A0.out.below (kA.toBelow (fun _ _ h => h) (Nat.le_refl _)), fun b hb' => ?_, fun b hb' => ?_, d1, d2, d3, World.rangeAt_setCells_same _ _ _ _ th, there_setCells th _ _ _, (tab_block o1.2).kept kB (Ne.symm d1), (tab_block o4.2).kept kB (Ne.symm d2)⟩
        · have := (A0.out.lo b hb').2
          have := o6.1
          have := o1.1
          have := o4.1
          exact ⟨by omega, by omega, by omega⟩
        · simp only [List.mem_cons, List.not_mem_nil, or_false] at hb'
          rcases hb' with e | e | e
          · rw [e]; have := o6.1; exact ⟨by omega, Nat.lt_of_lt_of_le (hlt o6.2) kB.size⟩
          · rw [e]; have := o1.1; exact ⟨by omega, Nat.lt_of_lt_of_le (hlt o1.2) kB.size⟩
          · rw [e]; have := o4.1; exact ⟨by omega, Nat.lt_of_lt_of_le (hlt o4.2) kB.size⟩
      intro U a11
      clear kB th r6 o1 o4 o6 d1 d2 d3 hB hbm hbf hobj hdis hb A0
      have NA := hid (needs_any 1048576 (by omega) (by omega) (sl Pb 0 l.n l.n) Gb Sb l.n pb sv sb en nm tm pr U hn (HR.out.below a11.a.bel))
      have A1 := hid a11
      clear a11
      go_upto_region 12 with fail
      rename_i K5 hK5
      have hK5' : ∀ a w', Code.wp Ybaz.prog (dropC 8 (Ybaz.f4.body.getD .skip)) (bodyPost Ybaz.prog Ybaz.f4 fun e w' => (∃ a b c, e = .returned (.agg #[a, b, c]) ∧ NodeHi w' w.heap.size 3 (trT nm (groups pr (rt pr l.n) l.n)) a b c) ∧ Below w.heap.size w w') a w' → K5 a w' := hK5
      clear hK5
      go_wp2_with (go_at_call 7; refine NA.out.mono ?_; rintro e V ⟨⟨nb, f, T0, rfl, r1, r2, r3, r4⟩, r5⟩)
      have hnb : nb < V.heap.size := r3.lt hn
      exact tree_tail Gb Sb pb sv sb en nm tm pr l 1048576 w.heap.size B bm bf nb U.heap.size V.heap.size f w V hn HR.out (A1.out.sd r1 hnb) (A1.out.ts r5 r1 r2 r3 r4) HT.out HI.out HN.out
end Go.Proofs.YbulkdsicGreat
