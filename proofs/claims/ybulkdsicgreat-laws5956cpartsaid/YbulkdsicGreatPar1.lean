import Derived.Test.YbulkdsicGreatBest2
import Derived.Test.YbulkdsicGreatGrp
set_option linter.unusedVariables false
set_option linter.unusedSimpArgs false
namespace Go
open Go.RowKit
theorem bytes_beq (k : ByteArray) : (k == k) = true := by show (k.data == k.data) = true; simp
theorem findNow_str_any (k : ByteArray) : ∀ (es : List MapEntry) (ks : List ByteArray) (i : Nat), es.map (·.key) = ks.map Value.string → ∃ r, Instr.findNow .string (.string k) es i = some r ∧ ∀ j v, r = some (j, v) → i ≤ j ∧ ∃ e, es[j - i]? = some e ∧ e.key = .string k
  | [], ks, i, h => ⟨none, by simp [Instr.findNow], fun _ _ h => by cases h⟩
  | e :: es, ks, i, h => by
    cases ks with
    | nil => simp at h
    | cons p ks =>
      simp only [List.map_cons, List.cons.injEq] at h
      unfold Instr.findNow
      rw [h.1]
      by_cases hk : k = p
      · subst hk
        refine ⟨some (i, e.val), by simp [Instr.sameNow, bytes_beq], fun j v hj => ?_⟩
        cases hj
        exact ⟨Nat.le_refl _, e, by simp, h.1⟩
      · have e1 : (k == p) = false := by
          have hb : (k == p) = (k.data == p.data) := rfl
          rw [hb]
          refine beq_false_of_ne fun he => hk ?_
          cases k; cases p; simp at he; rw [he]
        obtain ⟨r, h1, h2⟩ := findNow_str_any k es ks (i + 1) h.2
        refine ⟨r, by simp only [Instr.sameNow, e1]; exact h1, fun j v hj => ?_⟩
        obtain ⟨h3, e', h4, h5⟩ := h2 j v hj
        refine ⟨by omega, e', ?_, h5⟩
        rw [show j - i = (j - (i + 1)) + 1 by omega, List.getElem?_cons_succ]
        exact h4
theorem run_update_str_any {P : Program} {W : World} {b : Nat} {mt e : TypeId} {ks : List ByteArray} (hu : P.underlying mt = some (.map 9 e)) (h9 : P.underlying 9 = some .string) (h : MapS W b ks) (k : ByteArray) (v : Value) :
    ∃ o : Obj, (Instr.mapUpdate mt (.map (some b)) (.string k) v).run P W = .ok () (W.putObj b o) := by
  obtain ⟨es, c, hb, hkv⟩ := h
  have hu' : ∀ w, (underlying mt).run P w = .ok (.map 9 e) w := fun w => run_underlying hu w
  have h9' : ∀ w, (underlying 9).run P w = .ok .string w := fun w => run_underlying h9 w
  have hg : (getObj b).run P W = .ok (.map es c) W := MapKept.run_getObj_map hb
  have hc : (Instr.checkKey false 10000 9 (.string k)).run P W = .ok () W := by
    unfold Instr.checkKey
    simp [Sem.run_bind, h9', Result.andThen_ok]
  obtain ⟨r, hf, hr⟩ := findNow_str_any k es.toList ks 0 hkv
  have hset : ∀ o : Obj, (setObj b o).run P W = .ok () (W.putObj b o) := fun o => MapKept.run_setObj_map o hb
  cases r with
  | none =>
    refine ⟨.map (es.push { key := .string k, val := v, born := c }) (c + 1), ?_⟩
    unfold Instr.mapUpdate Instr.findKey
    simp only [Sem.run_bind, hu', Result.andThen_ok, hg, hc, h9', hf, Sem.run_pure, hset]
  | some jv =>
    obtain ⟨j, v0⟩ := jv
    obtain ⟨_, e', he, hek⟩ := hr j v0 rfl
    refine ⟨.map (es.modify j fun e => { e with key := .string k, val := v }) c, ?_⟩
    have hkey : es[j]?.map (·.key) = some (.string k) := by
      rw [Nat.sub_zero, Array.getElem?_toList] at he
      rw [he]
      simp [hek]
    unfold Instr.mapUpdate Instr.findKey
    simp only [Sem.run_bind, hu', Result.andThen_ok, hg, hc, h9', hf, Sem.run_pure, hkey, Option.getD_some, Instr.keyThatStays]
    simp [Instr.sameBits, bytes_beq, hset, Sem.run_bind, Result.andThen_ok]
end Go
namespace Go.Proofs.YbulkdsicGreat
open Go.RowKit Go.Shelf

/-- A batch that lies apart from T, at and the map stays. -/
theorem Bat.keptM {w V : World} {l : TBl} {t : Bt} {m : Nat} {mem : Nat → Nat} {pr : Nat → Option Nat} {names : Nat → ByteArray} {tm : Nat → Value} {steps : Int} {ks : List ByteArray} (h : Bat w t m mem pr) (k : Kept (fun c => c = l.T ∨ c = l.ba ∨ c = l.mb) w V) (hO : Off l t) (hbm : t.bm < w.heap.size) (lT : ∀ b ∈ [l.T, l.bn, l.bt, l.ba, l.bl, l.mb], b < w.heap.size) (hT : TB w l names tm steps ks) (hn : 0 < l.n) : Bat V t m mem pr := by
  obtain ⟨es, c, hmp, _⟩ := hT.mp
  have nm : ∀ {p : Addr} {v : Value}, w.cell? p = some v → p.block ≠ l.mb := fun {p v} hc e => by
    unfold World.cell? at hc
    rw [e] at hc
    simp only [hmp] at hc
    cases hc
  refine ⟨h.few, h.low, h.mlt, fun i hi => ?_, fun i hi => ?_, fun i j hi hj => ?_, h.cap, fun a ha => Nat.lt_of_lt_of_le (h.snl a ha) k.size, h.spot, h.nil⟩
  · have hc := h.mem' i hi
    exact k.cell (p := ⟨t.bm, t.om + i, none⟩) (fun e => by rcases e with e | e | e; exact hO.m1 e; exact hO.m2 e; exact nm hc e) hc
  · have hc := h.frm i hi
    exact k.cell (p := ⟨t.bf, t.of + i, none⟩) (fun e => by rcases e with e | e | e; exact hO.f1 e; exact hO.f2 e; exact nm hc e) hc
  · obtain ⟨b, o, e, c1, c2⟩ := h.one i j hi hj
    exact ⟨b, o, e, k.cell (p := ⟨b, o + 2 * cnt pr i, none⟩) (fun he => by rcases he with he | he | he; exact hO.n1 _ e he; exact hO.n2 _ e he; exact nm c1 he) c1, k.cell (p := ⟨b, o + (2 * cnt pr i + 1), none⟩) (fun he => by rcases he with he | he | he; exact hO.n1 _ e he; exact hO.n2 _ e he; exact nm c2 he) c2⟩
/-- The tree of a batch that is a chain. -/
def chM (nm : Nat → ByteArray) (n : Nat) : PT := if n = 1 then .mk (nm 0) false none else .mk ⟨#[]⟩ false (some ((List.range n).map fun j => .mk (nm j) false none))
theorem best_row (l : TBl) (names : Nat → ByteArray) (tm : Nat → Value) (steps : Int) (ks : List ByteArray) (t : Bt) (n : Nat) (mem : Nat → Nat) (tt : Nat → Nat) (w : World)
    (hT : TB w l names tm steps ks) (h : Bat w t n mem chn) (hn : 0 < n) (hm : ∀ i, i < n → mem i < l.n) (hinj : ∀ i j, i < n → j < n → mem i = mem j → i = j) (hO : Off l t) (htt : ∀ k, k < n → tm (mem k) = .float .f64 (Flt.nat (tt k)) ∧ tt k ≤ 65535)
    (hkey : keyB (keyL mem chn n) ∉ ks) :
    Calls Ybaz.prog 10 #[.pointer (some ⟨l.T, 0, none⟩), .agg #[sl t.bm t.om n t.cm, .slice t.sn (2 * cnt chn n) t.cn, sl t.bf t.of (n + 1) t.cf], .float .f64 Flt.inf] w fun e w' =>
      ∃ c0 c1 c2 x st' ks', e = .returned (.agg #[c0, c1, c2, .float .f64 (Flt.nat x), .float .f64 (Flt.nat x)]) ∧ x ≤ 19660500 ∧ (c0.oneCell' = true ∧ c1.oneCell' = true ∧ c2.oneCell' = true) ∧ NodeHi w' w.heap.size 2 (chM (fun j => names (mem j)) n) c0 c1 c2 ∧ TB w' l names tm st' ks' ∧ (ks' = ks ∨ ks' = ks ++ [keyB (keyL mem chn n)]) ∧ Kept (fun x => x = l.T ∨ x = l.ba ∨ x = l.mb) w w' := by
  have hfew := h.few
  by_cases h1 : n = 1
  · subst h1
    have hc := h.mem' 0 (by omega)
    rw [Nat.add_zero] at hc
    refine (best_one l names tm steps ks t mem _ _ w hT hc (hm 0 (by omega))).mono ?_
    rintro e w' ⟨rfl, bel⟩
    refine ⟨_, _, _, tt 0, steps, ks, by rw [(htt 0 (by omega)).1], by have := (htt 0 (by omega)).2; omega, ⟨rfl, rfl, rfl⟩, ?_, hT.below bel, .inl rfl, Kept.ofBelowW bel⟩
    unfold chM
    rw [if_pos rfl]
    exact ⟨rfl, rfl, rfl⟩
  · refine (best_chain l names tm steps ks t n mem chn tt w hT h (by omega) hm hinj hO htt rfl (fun k _ => chn1 k) hkey).mono ?_
    rintro e w' ⟨b, x, st', ks', rfl, hx, hb, hlv, tb, hks, kp⟩
    refine ⟨_, _, _, x, st', ks', rfl, by omega, ⟨rfl, rfl, rfl⟩, ?_, tb, hks, kp⟩
    unfold chM
    rw [if_neg h1]
    refine ⟨rfl, rfl, by simpa using hfew, b, 0, n, hb, by simp, fun k T hk => ?_⟩
    rw [List.getElem?_map] at hk
    have hkn : k < n := by
      rcases Nat.lt_or_ge k n with h | h
      · exact h
      · rw [List.getElem?_eq_none (by simpa using h)] at hk; cases hk
    rw [List.getElem?_range hkn] at hk
    simp at hk
    subst hk
    exact ⟨_, _, _, by rw [Nat.zero_add]; exact hlv k hkn, rfl, rfl, rfl⟩
theorem chT_eq (nm : Nat → ByteArray) (mem : Nat → Nat) (L : List Nat) : chM (fun j => nm (mem (L.getD j 0))) L.length = chT (fun x => nm (mem x)) L := by
  unfold chM chT
  split
  · rfl
  · congr 2
    apply List.ext_getElem?
    intro j
    rw [List.getElem?_map, List.getElem?_map]
    rcases Nat.lt_or_ge j L.length with h | h
    · rw [List.getElem?_range h, List.getElem?_eq_getElem h]
      simp [List.getD_eq_getElem?_getD, List.getElem?_eq_getElem h]
    · rw [List.getElem?_eq_none (by simpa using h), List.getElem?_eq_none h]
      rfl
end Go.Proofs.YbulkdsicGreat
