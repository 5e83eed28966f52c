import Derived.Test.YbulkdsicGreatEvery3
set_option linter.unusedVariables false
set_option linter.unusedSimpArgs false
namespace Go.Proofs.YbulkdsicGreat
open Go.RowKit Go.Shelf

/-- Loop 1's state: who is asked for. -/
structure F1 (w U : World) (n : Nat) (pr : Nat → Option Nat) (kv : List (Nat × Value)) (q : Nat) : Prop where
  bel : Below w.heap.size w U
  bg : U.cell? ⟨w.heap.size + 1, 0, none⟩ = some (.map (some w.heap.size))
  map : MapI U w.heap.size kv
  yes : ∀ i j, i < q → pr i = some j → (kv.lookup j).isSome = true
  nil : ∀ k, (kv.lookup k).isSome = true → kv.lookup k = some (.slice none 0 0)
  sz : w.heap.size + 2 ≤ U.heap.size
  few : kv.length ≤ q
theorem F1.skip {w U : World} {n : Nat} {pr : Nat → Option Nat} {kv : List (Nat × Value)} {q : Nat} (h : F1 w U n pr kv q) (hp : pr q = none) : F1 w U n pr kv (q + 1) :=
  ⟨h.bel, h.bg, h.map, fun i j hi hpi => by
    by_cases e : i = q
    · rw [e, hp] at hpi; cases hpi
    · exact h.yes i j (by omega) hpi, h.nil, h.sz, by have := h.few; omega⟩
theorem F1.put {w U U' : World} {n : Nat} {pr : Nat → Option Nat} {kv : List (Nat × Value)} {q j : Nat} (h : F1 w U n pr kv q) (hp : pr q = some j) (k : Kept (fun b => b = w.heap.size) U U') (hm : MapI U' w.heap.size (insKV kv j (.slice none 0 0))) (hl : (insKV kv j (.slice none 0 0)).length ≤ kv.length + 1) : F1 w U' n pr (insKV kv j (.slice none 0 0)) (q + 1) := by
  refine ⟨h.bel.trans (k.toBelow (fun i hi e => by omega) h.bel.size), k.cell (p := ⟨w.heap.size + 1, 0, none⟩) (fun e => by simp at e) h.bg, hm, fun i j' hi hpi => ?_, fun i hi => ?_, Nat.le_trans h.sz k.size, by have := h.few; omega⟩
  · rw [lookup_ins]
    by_cases e : j' = j
    · rw [if_pos e]; rfl
    · rw [if_neg e]
      by_cases e2 : i = q
      · rw [e2, hp] at hpi; cases hpi; exact absurd rfl e
      · exact h.yes i j' (by omega) hpi
  · rw [lookup_ins] at hi ⊢
    by_cases e : i = j
    · rw [if_pos e]
    · rw [if_neg e] at hi ⊢; exact h.nil i hi
theorem run_len_mapI {t k e ty : TypeId} (ht : Ybaz.prog.underlying t = some (.map k e)) {b : Nat} {kv : List (Nat × Value)} {w : World} (h : MapI w b kv) :
    (Builtin.len_ #[t] ty #[.map (some b)]).run Ybaz.prog w = .ok (.int .i64 kv.length) w := by
  obtain ⟨es, c, hb, hkv⟩ := h
  have hl : es.size = kv.length := by
    have := congrArg List.length hkv
    simpa using this
  simp [Builtin.len_, run_underlying ht, MapKept.run_getObj_map hb, goInt, hl]
theorem insKV_len (kv : List (Nat × Value)) (k : Nat) (v : Value) : (insKV kv k v).length ≤ kv.length + 1 := by
  unfold insKV
  split <;> simp
theorem f1_g3 {w wr W1 : World} {n pb Bc : Nat} {pr : Nat → Option Nat} {kv : List (Nat × Value)} (f : F1 w wr n pr kv n) (d2 : ∀ k, k < n → wr.cell? ⟨pb, k, none⟩ = some (.int .i64 (-1)))
    (ns : NS0 wr W1 pb n n (.func (.func 26) #[] #[.pointer (some ⟨w.heap.size + 1, 0, none⟩)]) (fun _ => .int .i64 (-2))) (h4 : wr.heap.size + 4 ≤ Bc) (h5 : W1.cell? ⟨Bc, 0, none⟩ = some (.slice none 0 0)) (h6 : W1.frozen? ⟨Bc, 0, none⟩ = false) :
    G3 w W1 W1.heap.size wr.heap.size Bc (w.heap.size + 1) pb n w.heap.size (.slice none 0 0) (fun _ => -2) kv kv 0 0 ∧ Below wr.heap.size wr W1 ∧ wr.heap.size + 4 ≤ Bc ∧ Bc < W1.heap.size := by
  have k := Kept.ofBelow (E := fun _ => False) ns.bel
  have hb : Bc < W1.heap.size := World.block_lt_of_cell? W1 _ h5
  exact ⟨⟨⟨ns.var, h5, h6, ns.p0, ns.p1, k.cell (p := ⟨w.heap.size + 1, 0, none⟩) (fun h => h) f.bg, ⟨rfl, .inl ⟨rfl, rfl⟩⟩, fun i hi => k.cell (p := ⟨pb, i, none⟩) (fun h => h) (d2 i hi), ns.tab, f.map.kept k (fun h => h)⟩, fun _ _ _ => rfl, f.bel.trans (k.toBelow (fun i hi e => e) f.bel.size), fun _ => rfl, fun _ _ => rfl, fun i hi => by omega, Nat.le_refl _⟩, ns.bel, h4, hb⟩

set_option maxRecDepth 100000 in
set_option maxHeartbeats 4000000 in
theorem every_any (L : Int) (hL : 1000 ≤ L) (hL2 : L ≤ 2000000000) (Gb Sb n pb sv sb en : Nat) (nm : Nat → ByteArray) (tm : Nat → Value) (pr : Nat → Option Nat) (w : World) (hn : 0 < n) (hR : RG w Gb Sb n pb sv sb en nm tm pr) :
    Calls Ybaz.prog 12 #[.pointer (some ⟨Gb, 0, none⟩), .pointer (some ⟨Sb, 0, none⟩), .int .i64 L] w fun e w' => (∃ nb f T0, e = .returned (.tuple #[sl nb 0 n n, .bool true]) ∧ w.heap.size ≤ nb ∧ nb < T0 ∧ Tab w' nb 0 n f ∧ NdR w' T0 n f pr n) ∧ Below w.heap.size w w' := by
  have hfew := hR.few
  have hlow := hR.low
  have hpb : pb < w.heap.size := World.block_lt_of_cell? w _ (hR.par 0 hn)
  have HL0 := hid hL
  have HL2 := hid hL2
  have HR := hid hR
  have HP := hid hpb
  clear hL hL2 hR hpb
  have hmm := @run_makeMap Ybaz.prog
  go_enter Ybaz.func12, Ybaz.ntmps12
  go_upto_region 2 with fail
  refine wp_as (fun W => F1 w W n pr [] 0) ?_ ?_
  · have k0 : Kept (fun _ => False) w (w.alloc (.map #[] 0)) := (Kept.refl _ w).alloc _
    have k1 : Kept (fun _ => False) (w.alloc (.map #[] 0)) ((w.alloc (.map #[] 0)).alloc (.cells #[.map (some w.heap.size)] 80)) := (Kept.refl _ _).alloc _
    have c := range_new (w.alloc (.map #[] 0)) [.map (some w.heap.size)] 80 0 _ rfl
    rw [World.size_alloc] at c
    have m0 : MapI (w.alloc (.map #[] 0)) w.heap.size [] := ⟨#[], 0, World.alloc_heap_new w _, rfl⟩
    exact ⟨((Below.refl _ w).alloc (Nat.le_refl _) _).alloc (by simp) _, c, m0.kept k1 (fun h => h), fun i j hi => by omega, fun k hk => by simp at hk, by simp, by simp⟩
  intro W0 f0
  have a3 := (HR.out.below f0.bel).s3
  have F0 := hid f0
  clear f0
  go_wp2
  clear a3
  go_loopw [36] (fun x U => ∃ q : Nat, q ≤ n ∧ x = vi q ∧ ∃ kv, F1 w U n pr kv q) (fun x _ => n - (intOf x).toNat)
  case atStart => exact ⟨0, Nat.zero_le _, rfl, [], F0.out⟩
  case round =>
    obtain ⟨q, hq, rfl, kv, f1⟩ := hrel
    clear F0
    by_cases hlt : q < n
    · have hli : (q : Int) < (n : Int) := by omega
      have rg := HR.out.below f1.bel
      have b1 := rg.enC q hlt
      have b2 := rg.g2
      have b3 := rg.s1
      cases hp : pr q with
      | none =>
        have b4 := rg.inN q hlt hp
        have FA := hid (f1.skip hp)
        clear f1 rg
        go_wp2
        refine wp_loop_rounds 1 ?_
        rw [rounds_succ]
        go_wp2
        go_roundw
        case rel => exact ⟨q + 1, by omega, by go_num, kv, FA.out⟩
        case measure => simp [intOf]; omega
      | some j =>
        obtain ⟨ib, ic, b4, b5⟩ := rg.inS q j hlt hp
        have hjq := hlow q j hlt hp
        have hjn : (j : Int) < (n : Int) := by omega
        have b6 := rg.byC j (by omega)
        have b7 := f1.bg
        have FA := hid f1
        clear f1 rg
        obtain ⟨o, hup, hmp⟩ := run_update_int Ybaz.underlying80 Ybaz.underlying3 FA.out.map j (.slice none 0 0)
        go_wp2
        refine wp_loop_rounds 2 ?_
        rw [rounds_succ]
        go_wp2_with (refine wpList_update_as rfl 80 (.tmp 61) (.tmp 62) (.const (.slice none 0 0)) rfl (.map (some w.heap.size)) (vi j) (.slice none 0 0) rfl rfl rfl hup ?_)
        rw [rounds_succ]
        go_wp2
        go_roundw
        case rel => exact ⟨q + 1, by omega, by go_num, _, FA.out.put hp ((Kept.refl _ _).putObj (E := fun b => b = w.heap.size) (b := w.heap.size) (.inl rfl) o) hmp (insKV_len _ _ _)⟩
        case measure => simp [intOf]; omega
    · obtain rfl : q = n := by omega
      have FA := hid f1
      clear f1
      go_upto_region 12 with fail
      have rg := HR.out.below FA.out.bel
      have d1 := rg.g1
      have d2 := rg.par
      clear rg
      have hNE := hid (nearest_any pb q q (w.heap.size + 1) hfew wr)
      go_upto_region 13 with (go_at_call 25; refine hNE.out.mono ?_; rintro e W1 ⟨Bc, rfl, ns, h4, h5, h6⟩; have g0 : Hid (G3 w W1 W1.heap.size wr.heap.size Bc (w.heap.size + 1) pb q w.heap.size (.slice none 0 0) (fun _ => -2) kv kv 0 0 ∧ Below wr.heap.size wr W1 ∧ wr.heap.size + 4 ≤ Bc ∧ Bc < W1.heap.size) := hid (f1_g3 FA.out d2 ns h4 h5 h6); clear ns h4 h5 h6 hNE)
      rename_i K1 hK1 K2 hK2
      have hK2' : ∀ a w', Code.wp Ybaz.prog (dropC 5 (Ybaz.f12.body.getD .skip)) (bodyPost Ybaz.prog Ybaz.f12 fun e w' => (∃ nb f T0, e = .returned (.tuple #[sl nb 0 q q, .bool true]) ∧ w.heap.size ≤ nb ∧ nb < T0 ∧ Tab w' nb 0 q f ∧ NdR w' T0 q f pr q) ∧ Below w.heap.size w w') a w' → K2 a w' := hK2
      clear hK2
      have e1 := g0.out.1.nm.v5
      have hrun := run_len_mapI (ty := 3) Ybaz.underlying80 g0.out.1.nm.map
      go_wp2
      have hwr : wrap64 (L + (kv.length : Int)) = L + (kv.length : Int) := by
        have := FA.out.few
        have := HL0.out
        have := HL2.out
        unfold wrap64; omega
      rw [hwr]
      refine every_mid L (L + kv.length) HL0.out ?_ Gb Sb q pb sv sb en nm tm pr W1.heap.size wr.heap.size Bc (w.heap.size + 1) w.heap.size (.slice none 0 0) (fun _ => -2) kv w W1 hn HR.out ?_ g0.out.1 FA.out.nil FA.out.yes
      · have := HL0.out; omega
      · have := FA.out.sz
        have := HP.out
        obtain ⟨_, _, h1, h2⟩ := g0.out
        exact ⟨by omega, by omega, by omega, by omega, by omega, by omega, by omega, by omega⟩

set_option maxRecDepth 100000 in
set_option maxHeartbeats 4000000 in
/-- What each service waits for. -/
theorem needs_any (L : Int) (hL : 1000 ≤ L) (hL2 : L ≤ 2000000000) (pv : Value) (Gb Sb n pb sv sb en : Nat) (nm : Nat → ByteArray) (tm : Nat → Value) (pr : Nat → Option Nat) (w : World) (hn : 0 < n) (hR : RG w Gb Sb n pb sv sb en nm tm pr) :
    Calls Ybaz.prog 7 #[.pointer (some ⟨Gb, 0, none⟩), .pointer (some ⟨Sb, 0, none⟩), pv, .int .i64 L] w fun e w' => (∃ nb f T0, e = .returned (sl nb 0 n n) ∧ w.heap.size ≤ nb ∧ nb < T0 ∧ Tab w' nb 0 n f ∧ NdR w' T0 n f pr n) ∧ Below w.heap.size w w' := by
  have EV := hid (every_any L hL hL2 Gb Sb n pb sv sb en nm tm pr w hn hR)
  clear hL hL2 hR
  go_enter Ybaz.func7, Ybaz.ntmps7
  go_wp2_with (go_at_call 12; refine EV.out.mono ?_; rintro e W1 ⟨⟨nb, f, T0, rfl, r1, r2, r3, r4⟩, r5⟩)
  go_ret
  exact ⟨⟨nb, f, T0, rfl, r1, r2, r3, r4⟩, r5⟩
end Go.Proofs.YbulkdsicGreat
