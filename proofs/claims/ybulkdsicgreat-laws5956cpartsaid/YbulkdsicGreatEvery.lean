import Derived.Test.YbulkdsicGreatPart3
import Derived.Test.YbulkdsicGreatNear2
set_option linter.unusedVariables false
set_option linter.unusedSimpArgs false
namespace Go.Proofs.YbulkdsicGreat
open Go.RowKit Go.Shelf

/-- The registry and the schedule in memory. -/
structure RG (W : World) (Gb Sb n pb sv sb en : Nat) (nm : Nat → ByteArray) (tm : Nat → Value) (pr : Nat → Option Nat) : Prop where
  g1 : W.cell? ⟨Gb, 1, none⟩ = some (sl pb 0 n n)
  g2 : W.cell? ⟨Gb, 2, none⟩ = some (sl sv 0 n n)
  par : ∀ k, k < n → W.cell? ⟨pb, k, none⟩ = some (.int .i64 (-1))
  nmC : ∀ k, k < n → W.cell? ⟨sv, k * 4, none⟩ = some (.string (nm k))
  inN : ∀ k, k < n → pr k = none → W.cell? ⟨sv, k * 4 + 1, none⟩ = some (.slice none 0 0)
  inS : ∀ k j, k < n → pr k = some j → ∃ ib c, W.cell? ⟨sv, k * 4 + 1, none⟩ = some (sl ib 0 1 c) ∧ W.cell? ⟨ib, 0, none⟩ = some (vi j)
  out : ∀ k, k < n → ∃ ob c, W.cell? ⟨sv, k * 4 + 2, none⟩ = some (sl ob 0 1 c) ∧ W.cell? ⟨ob, 0, none⟩ = some (vi k)
  tmC : ∀ k, k < n → W.cell? ⟨sv, k * 4 + 3, none⟩ = some (tm k)
  s1 : W.cell? ⟨Sb, 1, none⟩ = some (sl sb 0 n n)
  s3 : W.cell? ⟨Sb, 3, none⟩ = some (sl en 0 n n)
  byC : ∀ k, k < n → W.cell? ⟨sb, k, none⟩ = some (vi k)
  enC : ∀ k, k < n → W.cell? ⟨en, k, none⟩ = some (vi k)
  few : n ≤ 300
  low : Low n pr
theorem RG.keptc {W W' : World} {Gb Sb n pb sv sb en : Nat} {nm : Nat → ByteArray} {tm : Nat → Value} {pr : Nat → Option Nat} (h : RG W Gb Sb n pb sv sb en nm tm pr) (k : ∀ {p : Addr} {v : Value}, W.cell? p = some v → W'.cell? p = some v) : RG W' Gb Sb n pb sv sb en nm tm pr :=
  ⟨k h.g1, k h.g2, fun i hi => k (h.par i hi), fun i hi => k (h.nmC i hi), fun i hi hp => k (h.inN i hi hp), fun i j hi hp => by
    obtain ⟨ib, c, h1, h2⟩ := h.inS i j hi hp
    exact ⟨ib, c, k h1, k h2⟩, fun i hi => by
    obtain ⟨ob, c, h1, h2⟩ := h.out i hi
    exact ⟨ob, c, k h1, k h2⟩, fun i hi => k (h.tmC i hi), k h.s1, k h.s3, fun i hi => k (h.byC i hi), fun i hi => k (h.enC i hi), h.few, h.low⟩
theorem RG.below {W W' : World} {Gb Sb n pb sv sb en : Nat} {nm : Nat → ByteArray} {tm : Nat → Value} {pr : Nat → Option Nat} (h : RG W Gb Sb n pb sv sb en nm tm pr) (b : Below W.heap.size W W') : RG W' Gb Sb n pb sv sb en nm tm pr :=
  h.keptc (fun {p v} hv => (Kept.ofBelow (E := fun _ => False) b).cell (fun h => h) hv)

/-- The needs: a row of one row each. -/
structure NdR (U : World) (T0 n : Nat) (f : Nat → Value) (pr : Nat → Option Nat) (q : Nat) : Prop where
  nn : ∀ k, k < n → (q ≤ k ∨ pr k = none) → f k = .slice none 0 0
  ss : ∀ k j, k < q → pr k = some j → ∃ rb c qb d, f k = sl rb 0 1 c ∧ T0 ≤ rb ∧ U.cell? ⟨rb, 0, none⟩ = some (sl qb 0 1 d) ∧ T0 ≤ qb ∧ U.cell? ⟨qb, 0, none⟩ = some (vi j)
theorem NdR.kept {E : Nat → Prop} {U U' : World} {T0 n : Nat} {f : Nat → Value} {pr : Nat → Option Nat} {q : Nat} (h : NdR U T0 n f pr q) (k : Kept E U U') (hE : ∀ b, E b → b < T0) : NdR U' T0 n f pr q :=
  ⟨h.nn, fun x j hx hp => by
    obtain ⟨rb, c, qb, d, h1, h2, h3, h4, h5⟩ := h.ss x j hx hp
    exact ⟨rb, c, qb, d, h1, h2, k.cell (p := ⟨rb, 0, none⟩) (fun he => by have := hE rb he; omega) h3, h4, k.cell (p := ⟨qb, 0, none⟩) (fun he => by have := hE qb he; omega) h5⟩⟩
/-- What the givers hold, once all have been asked. -/
structure GvR (V : World) (Bg Mb n : Nat) (pr : Nat → Option Nat) (kv : List (Nat × Value)) : Prop where
  bg : V.cell? ⟨Bg, 0, none⟩ = some (.map (some Mb))
  mp : MapI V Mb kv
  row : ∀ i j, i < n → pr i = some j → ∃ lg lc, kv.lookup j = some (sl lg 0 1 lc) ∧ V.cell? ⟨lg, 0, none⟩ = some (vi j)
theorem GvR.below {V V' : World} {Bg Mb n : Nat} {pr : Nat → Option Nat} {kv : List (Nat × Value)} (h : GvR V Bg Mb n pr kv) (b : Below V.heap.size V V') : GvR V' Bg Mb n pr kv := by
  have k := Kept.ofBelow (E := fun _ => False) b
  exact ⟨k.cell (fun h => h) h.bg, h.mp.kept k (fun h => h), fun i j hi hp => by
    obtain ⟨lg, lc, h1, h2⟩ := h.row i j hi hp
    exact ⟨lg, lc, h1, k.cell (fun h => h) h2⟩⟩
/-- Loop 6's own. -/
structure EL (V U : World) (T0 nb Gb Sb n pb sv sb en : Nat) (nm : Nat → ByteArray) (tm : Nat → Value) (pr : Nat → Option Nat) (Bg Mb : Nat) (kv : List (Nat × Value)) (q : Nat) (f : Nat → Value) : Prop where
  bel : Below V.heap.size V U
  tab : Tab U nb 0 n f
  nd : NdR U T0 n f pr q
  lo : V.heap.size ≤ nb
  hi : nb < T0
  sz : T0 ≤ U.heap.size

theorem el_len {V U : World} {T0 nb Gb Sb n pb sv sb en : Nat} {nm : Nat → ByteArray} {tm : Nat → Value} {pr : Nat → Option Nat} {Bg Mb : Nat} {kv : List (Nat × Value)} {q : Nat} {f : Nat → Value} (h : EL V U T0 nb Gb Sb n pb sv sb en nm tm pr Bg Mb kv q f) : V.heap.size < U.heap.size := by
  have := h.lo; have := h.hi; have := h.sz; omega
/-- 'make([]int, 0, 1)'. -/
theorem wpList_make01 {ops : Array Oper} {rest : List Oper} {o : Oper} {a : Act} {w : World} {Q : Exit → Act → World → Prop} (hgd : o.guard = none) (c : Operand) (ho : o.op = .makeSlice 26 (.const (.int .i64 0)) c) (hc : a.eval c = vi 1)
    (h : wpList Ybaz.prog ops Q rest (a.put o.dst (sl w.heap.size 0 0 1)) (w.alloc (.cells (Array.replicate 1 (vi 0)) 3))) : wpList Ybaz.prog ops Q (o :: rest) a w := by
  refine wpList_plain hgd fun K hK => ?_
  obtain ⟨i3, hi3, hz3, hs3, hb3⟩ := info_parts Ybaz.info3
  have hr := run_make (P := Ybaz.prog) w 26 3 i3 (.int .i64 0) Ybaz.underlying26 hi3 hz3 .i64 .i64 0 1 (by omega) (by omega) (by rw [hb3]; omega) (by omega)
  have e0 : a.eval (.const (.int .i64 0)) = .int .i64 0 := rfl
  have e1 : (vi 1 : Value) = .int .i64 1 := rfl
  unfold Oper.wp execOp
  simp only [ho, hc, e0, e1, Sem.run_bind, hr, Result.andThen_ok, Sem.run_pure]
  rw [hs3, show madeCells (Value.int IntKind.i64 0).cells (Int.toNat 1 * 1) = Array.replicate 1 (vi 0) from made_one (vi 0) 1]
  exact hK _ _ h

set_option maxRecDepth 100000 in
set_option maxHeartbeats 4000000 in
theorem every_tail {y3 y4 y5 y6 y7 y9 y10 y11 y12 y13 y14 y15 y16 y17 y18 y19 y20 y21 y22 y23 y24 y25 y26 y27 y28 y29 y30 y31 y32 y33 y34 y35 y36 y37 y38 y39 y40 y41 y42 y43 y44 y45 y46 y47 y48 y49 y50 y51 y52 y53 y54 y55 y56 y57 y58 y59 y60 y61 y62 y63 y64 y65 y66 y67 y68 y69 y70 y71 y72 y73 y74 y75 y76 y77 y78 y79 y80 y81 y82 y83 y84 y85 y86 y87 y88 y89 y90 y91 y92 y93 y94 y95 y96 y97 y98 y99 y100 y101 y102 y103 y104 y105 y106 y107 y108 y109 y110 y111 y112 y113 y114 y115 y116 y117 y118 y119 y120 y121 y122 y123 y124 y125 y126 y127 y128 y129 y130 y131 y132 y133 y134 y135 y136 y137 y138 y139 y140 y141 y142 y143 y144 y145 y146 y147 y148 y149 y150 y151 y152 y153 y154 y155 y156 y157 y158 y159 y160 y161 y162 y163 y164 y165 y166 y167 y168 y169 y170 y171 y172 y173 y174 y175 y176 y177 y178 y179 y180 y181 y182 y183 y184 y185 y186 y187 y188 y189 y190 y191 y192 y193 y194 y195 y196 y197 y198 y199 y200 y201 y202 y203 y204 y205 y206 y207 y208 y209 y210 y211 y212 y213 y214 y215 y216 y217 y218 : Value} (L : Int) (hL : 1000 ≤ L) (Gb Sb n pb sv sb en : Nat) (nm : Nat → ByteArray) (tm : Nat → Value) (pr : Nat → Option Nat) (Bg Mb : Nat) (kv : List (Nat × Value)) (w V : World) (hw : Below w.heap.size w V) (hn : 0 < n) (hR : RG V Gb Sb n pb sv sb en nm tm pr) (hG : GvR V Bg Mb n pr kv) :
    Code.wp Ybaz.prog (dropC 6 (Ybaz.f12.body.getD .skip)) (bodyPost Ybaz.prog Ybaz.f12 fun e w' => (∃ nb f T0, e = .returned (.tuple #[sl nb 0 n n, .bool true]) ∧ w.heap.size ≤ nb ∧ nb < T0 ∧ Tab w' nb 0 n f ∧ NdR w' T0 n f pr n) ∧ Below w.heap.size w w') ⟨#[.pointer (some ⟨Gb, 0, none⟩), .pointer (some ⟨Sb, 0, none⟩), .int .i64 L, y3, y4, y5, y6, y7, .pointer (some ⟨Bg, 0, none⟩), y9, y10, y11, y12, y13, y14, y15, y16, y17, y18, y19, y20, y21, y22, y23, y24, y25, y26, y27, y28, y29, y30, y31, y32, y33, y34, y35, y36, y37, y38, y39, y40, y41, y42, y43, y44, y45, y46, y47, y48, y49, y50, y51, y52, y53, y54, y55, y56, y57, y58, y59, y60, y61, y62, y63, y64, y65, y66, y67, y68, y69, y70, y71, y72, y73, y74, y75, y76, y77, y78, y79, y80, y81, y82, y83, y84, y85, y86, y87, y88, y89, y90, y91, y92, y93, y94, y95, y96, y97, y98, y99, y100, y101, y102, y103, y104, y105, y106, y107, y108, y109, y110, y111, y112, y113, y114, y115, y116, y117, y118, y119, y120, y121, y122, y123, y124, y125, y126, y127, y128, y129, y130, y131, y132, y133, y134, y135, y136, y137, y138, y139, y140, y141, y142, y143, y144, y145, y146, y147, y148, y149, y150, y151, y152, y153, y154, y155, y156, y157, y158, y159, y160, y161, y162, y163, y164, y165, y166, y167, y168, y169, y170, y171, y172, y173, y174, y175, y176, y177, y178, y179, y180, y181, y182, y183, y184, y185, y186, y187, y188, y189, y190, y191, y192, y193, y194, y195, y196, y197, y198, y199, y200, y201, y202, y203, y204, y205, y206, y207, y208, y209, y210, y211, y212, y213, y214, y215, y216, y217, y218], []⟩ V := by
  conv => arg 2; whnf
  dsimp only
  obtain ⟨i3, hi3, hz3, hs3, hb3⟩ := info_parts Ybaz.info3
  obtain ⟨i26, hi26, hz26, hs26, hb26⟩ := info_parts Ybaz.info26
  obtain ⟨i29, hi29, hz29, hs29, hb29⟩ := info_parts (show (Ybaz.prog.info? 29).map (fun i => (i.zero, i.size, i.bytes)) = some (some (.slice none 0 0), 1, 24) by kernel_rfl)
  have hfew := hR.few
  have a3 := hR.s3
  have a3' : ∀ ob, (V.alloc ob).cell? ⟨Sb, 3, none⟩ = some (sl en 0 n n) := fun ob => cell_old ob a3
  have HL0 := hid hL
  clear hL
  have HR := hid hR
  have HG := hid hG
  clear hR hG
  go_wp2_with (at_make; refine wpList_make_as rfl (.tmp 145) (.tmp 145) 54 rfl 29 i29 (.slice none 0 0) n Ybaz.underlying54 hi29 hz29 rfl rfl (by rw [hb29]; omega) (by omega) ?_)
  have EL0 : EL V (V.alloc (.cells (madeCells #[.slice none 0 0] n) 29)) (V.heap.size + 1) V.heap.size Gb Sb n pb sv sb en nm tm pr Bg Mb kv 0 (fun _ => .slice none 0 0) :=
    ⟨(Below.refl _ _).alloc (Nat.le_refl _) _, by rw [made_one]; exact Tab.new V n 29 _, ⟨fun _ _ _ => rfl, fun k j hk => by omega⟩, Nat.le_refl _, by omega, by simp⟩
  have HE0 := hid EL0
  clear EL0
  go_loopw [152, 15] (fun x z U => ∃ q : Nat, q ≤ n ∧ x = vi q ∧ z = vi (cnt pr q) ∧ ∃ f, EL V U (V.heap.size + 1) V.heap.size Gb Sb n pb sv sb en nm tm pr Bg Mb kv q f) (fun x _ _ => n - (intOf x).toNat)
  case atStart => exact ⟨0, Nat.zero_le _, rfl, rfl, _, HE0.out⟩
  case round =>
    obtain ⟨q, hq, rfl, rfl, f, el⟩ := hrel
    clear HE0 a3 a3'
    by_cases hlt : q < n
    · have hli : (q : Int) < (n : Int) := by omega
      have rg := HR.out.below el.bel
      have gv := HG.out.below el.bel
      have b1 := rg.enC q hlt
      have b2 := rg.g2
      have hcq := cnt_le pr q
      cases hp : pr q with
      | none =>
        have b3 := rg.inN q hlt hp
        have HRG := hid rg
        have HGV := hid gv
        have HEL := hid el
        have e1 : cnt pr (q + 1) = cnt pr q := by simp [cnt, waits_none hp]
        have HP := hid hp
        have E1 := hid e1
        clear rg gv el hp e1
        go_wp2
        refine wp_loop_rounds 1 ?_
        rw [rounds_succ]
        go_wp2
        go_roundw
        case rel =>
          refine ⟨q + 1, by omega, by go_num, by rw [E1.out], f, HEL.out.bel, HEL.out.tab, ⟨fun k hk h => HEL.out.nd.nn k hk ?_, fun k j hk hpk => ?_⟩, HEL.out.lo, HEL.out.hi, HEL.out.sz⟩
          · rcases h with h | h
            · exact .inl (by omega)
            · exact .inr h
          · by_cases hkq : k = q
            · rw [hkq, HP.out] at hpk; cases hpk
            · exact HEL.out.nd.ss k j (by omega) hpk
        case measure => simp [intOf]; omega
      | some j =>
        obtain ⟨ib, ic, b3, b4⟩ := rg.inS q j hlt hp
        have hjq : j < q := rg.low q j hlt hp
        have hqi : (j : Int) < (n : Int) := by omega
        have b5 := rg.s1
        have b6 := rg.byC j (by omega)
        obtain ⟨lg, lc, l1, l2⟩ := gv.row q j hlt hp
        have b7 := gv.bg
        have hl : ∀ U, MapI U Mb kv → Sem.run Ybaz.prog (Instr.lookup 80 (.map (some Mb)) (vi j) false) U = .ok (sl lg 0 1 lc) U := fun U hU => by
          have := run_lookup_int Ybaz.underlying80 Ybaz.underlying3 hU j (.slice none 0 0) zv26 false
          rw [l1] at this
          simpa using this
        have l3 := hl _ gv.mp
        have m1 := gv.mp
        have HRG := hid rg
        have HGV := hid gv
        have HEL := hid el
        have e1 : cnt pr (q + 1) = cnt pr q + 1 := by simp [cnt, waits_some hp]
        have HP := hid hp
        have E1 := hid e1
        have HL := hid hl
        have M1 := hid m1
        clear rg gv el hp e1 hl m1 l1
        go_wp2
        refine wp_loop_rounds 2 ?_
        rw [rounds_succ]
        obtain ⟨c0, hc0⟩ : ∃ c0, cnt pr q = c0 := ⟨_, rfl⟩
        have HC := hid hc0
        rw [hc0] at hcq ⊢
        clear hc0
        have hne : ¬ ((j : Int) = (q : Int)) := by omega
        have hlen := el_len HEL.out
        have hgt : ¬ (L < (c0 : Int) + 1) := by have := HL0.out; omega
        go_wp2_with (first
          | refine wpList_lookup_as rfl 80 (.tmp 178) (.tmp 179) false rfl (.map (some Mb)) (vi j) (sl lg 0 1 lc) rfl rfl l3 ?_
          | refine wpList_lookup_as rfl 80 (.tmp 183) (.tmp 184) false rfl (.map (some Mb)) (vi j) (sl lg 0 1 lc) rfl rfl l4 ?_
          | (at_make; refine wpList_make01 rfl (.tmp 181) rfl rfl ?_; refine wpList_as (fun W => Kept (fun _ => False) wr W ∧ Tab W wr.heap.size 0 1 (fun _ => vi 0) ∧ W.heap.size = wr.heap.size + 1) ⟨(Kept.refl _ _).alloc _, Tab.new wr 1 3 (vi 0), by simp⟩ ?_; rintro W2 ⟨k2, t2, s2⟩; have l4 := HL.out W2 (M1.out.kept k2 (fun h => h)); have c7 := k2.cell (p := ⟨Bg, 0, none⟩) (fun h => h) b7; have c2 := k2.cell (p := ⟨lg, 0, none⟩) (fun h => h) l2; have K2 := hid k2; have T2 := hid t2; have S2 := hid s2; clear k2 t2 s2))
        refine wp_loop_rounds 2 ?_
        rw [rounds_succ]
        go_upto_region 44 with fail
        go_wp2_with (at_builtin; refine wpList_append_room1 rfl (.tmp 194) (.tmp 196) 26 rfl 3 i3 Ybaz.underlying26 hi3 hs3 wr.heap.size 0 0 1 rfl ⟨W2.heap.size, 0, none⟩ 1 (vi j) rfl (news1 W2 (vi j) 3 0 _ rfl) rfl (by omega) (by have := (T2.out.alloc (.cells #[vi j] 3)).cell (j := 0) (by omega); simp at this ⊢; rw [this]; rfl) (by simpa using (T2.out.alloc (.cells #[vi j] 3)).free (j := 0) (by omega)) ?_; refine wpList_as (fun W => Kept (fun _ => False) wr W ∧ W.cell? ⟨wr.heap.size, 0, none⟩ = some (vi j) ∧ W.heap.size = wr.heap.size + 2) ⟨((K2.out.alloc _).setCell (.inr (Nat.le_refl _)) _), (by have := ((T2.out.alloc (.cells #[vi j] 3)).set (j := 0) (by omega) (vi j)).cell (j := 0) (by omega); simpa using this), by simp [S2.out]⟩ ?_; rintro W3 ⟨k3, d1, s3⟩; have t3 := HEL.out.tab.kept k3 (fun h => h); have d2 : W3.cell? ⟨V.heap.size, q, none⟩ = some (.slice none 0 0) := (by have := t3.cell hlt; rw [HEL.out.nd.nn q hlt (.inl (Nat.le_refl _))] at this; simpa using this); have K3 := hid k3; have T3 := hid t3; have D1 := hid d1; have S3 := hid s3; clear k3 t3 d1 s3)
        rw [rounds_succ]
        go_upto_region 46 with fail
        go_wp2_with (at_builtin; refine wpList_append_own_at _ rfl (.tmp 211) (.tmp 213) 29 rfl W3.heap.size 26 i26 (.slice none 0 0) 1 24 Ybaz.underlying29 hi26 hz26 hs26 hb26 rfl (by decide) (.slice none 0 0) 0 [] rfl ⟨rfl, .inl ⟨rfl, rfl⟩⟩ ⟨W3.heap.size, 0, none⟩ 1 1 [sl wr.heap.size 0 1 1] rfl rfl (news1 W3 (sl wr.heap.size 0 1 1) 26) (by simp [Value.oneCell']) (by unfold maxLen; omega) (by omega) (by simp) ?_; intro ov W4 own4 grow4 _ mv4; obtain ⟨og, oc, rfl, d4, g4⟩ := own_cell own4 (j := 0) rfl; have hog : W3.heap.size ≤ og := (by rcases own4.2 with ⟨h, _⟩ | ⟨g, cap, cur, h, hg, _⟩ <;> cases h <;> exact hg); have k4 : Kept (fun _ => False) W3 W4 := (((Kept.refl _ W3).alloc (.cells #[sl wr.heap.size 0 1 1] 26)).grown grow4 (fun b hb => by cases hb)); have t4 := T3.out.kept k4 (fun h => h); have d5 : W4.cell? ⟨V.heap.size, q, none⟩ = some (.slice none 0 0) := k4.cell (fun h => h) d2; have d6 : W4.frozen? ⟨V.heap.size, q, none⟩ = false := (by simpa using t4.free hlt); have D4 := hid d4; have G4 := hid g4; have K4 := hid k4; have T4 := hid t4; clear own4 grow4 mv4 d4 g4 k4 t4)
        rw [rounds_succ]
        go_wp2
        go_roundw
        case rel =>
          have k5 : Kept (fun b => b = V.heap.size) W4 (W4.setCell ⟨V.heap.size, q, none⟩ (sl og 0 1 oc)) := (Kept.refl (fun b => b = V.heap.size) W4).setCell (p := ⟨V.heap.size, q, none⟩) (.inl rfl) _
          have k6 : Kept (fun b => b = V.heap.size) wr (W4.setCell ⟨V.heap.size, q, none⟩ (sl og 0 1 oc)) := ((K3.out.trans K4.out).weak (fun _ _ h => h.elim)).trans k5
          have z3 := S3.out
          refine ⟨q + 1, by omega, by go_num, by rw [E1.out, HC.out]; go_num, fun k => if k = q then sl og 0 1 oc else f k, HEL.out.bel.trans (k6.toBelow (fun i hi he => by omega) HEL.out.bel.size), ?_, ⟨fun k hk h => ?_, fun k j' hk hpk => ?_⟩, HEL.out.lo, HEL.out.hi, Nat.le_trans HEL.out.sz k6.size⟩
          · have := T4.out.set hlt (sl og 0 1 oc)
            rw [Nat.zero_add] at this
            exact this
          · by_cases hkq : k = q
            · rcases h with h | h
              · omega
              · rw [hkq, HP.out] at h; cases h
            · simp only [hkq, if_false]
              exact HEL.out.nd.nn k hk (by rcases h with h | h; exact .inl (by omega); exact .inr h)
          · by_cases hkq : k = q
            · rw [hkq, HP.out] at hpk
              cases hpk
              simp only [hkq, if_true]
              exact ⟨og, oc, wr.heap.size, 1, rfl, by omega, k5.cell (p := ⟨og, 0, none⟩) (fun he => by simp at he; omega) D4.out, by omega, k5.cell (p := ⟨wr.heap.size, 0, none⟩) (fun he => by simp at he; omega) (K4.out.cell (fun h => h) D1.out)⟩
            · simp only [hkq, if_false]
              exact (HEL.out.nd.kept k6 (fun b hb => by omega)).ss k j' (by omega) hpk
        case measure => simp [intOf]; omega
    · obtain rfl : q = n := by omega
      have HEL := hid el
      clear el
      go_wp2
      refine bodyPost_ret (results_tmp2 Ybaz.results12 _ _ _) rfl ?_
      exact ⟨⟨_, f, _, rfl, Nat.le_trans hw.size HEL.out.lo, HEL.out.hi, HEL.out.tab, HEL.out.nd⟩, below_trans hw HEL.out.bel⟩
end Go.Proofs.YbulkdsicGreat
