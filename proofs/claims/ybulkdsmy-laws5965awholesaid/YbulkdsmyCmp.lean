import Derived.Test.YbulkdsmyRel3
set_option linter.unusedSimpArgs false
namespace Go.Proofs.Ybulkdsmy
open Go.RowKit

/-- A peer's cells, as the law's caller gives it. -/
def rwc (p : Pr) : List Value := [.string p.s, .int .u8 p.b]
theorem rwc_len (p : Pr) : (rwc p).length = 2 := rfl
theorem rwc_one (p : Pr) : ∀ v ∈ rwc p, v.oneCell' = true := by
  intro v hv
  simp only [rwc, List.mem_cons, List.not_mem_nil, or_false] at hv
  rcases hv with rfl | rfl <;> rfl
theorem kt23 : Yba.prog.keyTypeAt 2 23 = true := by kernel_rfl
theorem kt38 : Yba.prog.keyTypeAt 3 38 = true := by kernel_rfl
theorem kt42 : Yba.prog.keyTypeAt 5 42 = true := by kernel_rfl
theorem kt56 : Yba.prog.keyTypeAt 5 56 = true := by kernel_rfl
theorem cells23 : Yba.prog.cellsOf 23 = 2 := by kernel_rfl
theorem cells3 : Yba.prog.cellsOf 3 = 1 := by kernel_rfl
theorem cells38 : Yba.prog.cellsOf 38 = 21 := by kernel_rfl
theorem cells40 : Yba.prog.cellsOf 40 = 21 := by kernel_rfl
theorem cells42 : Yba.prog.cellsOf 42 = 63 := by kernel_rfl
theorem cells54 : Yba.prog.cellsOf 54 = 40 := by kernel_rfl
theorem cells56 : Yba.prog.cellsOf 56 = 124 := by kernel_rfl
theorem eg23 : Yba.prog.eqGuardType Yba.prog.depth 23 = false := by kernel_rfl
theorem eg38 : Yba.prog.eqGuardType Yba.prog.depth 38 = false := by kernel_rfl
theorem eg42 : Yba.prog.eqGuardType Yba.prog.depth 42 = false := by kernel_rfl
theorem eg56 : Yba.prog.eqGuardType Yba.prog.depth 56 = false := by kernel_rfl

theorem lits23 (p : Pr) (h : p.ok) (d : Nat) : Yba.prog.keyLits (d + 2) 23 (rwc p) = some [.string p.s.data.toList, .int .u8 p.b] := by
  have wb := wf_u8 h.1 h.2.1
  have hu5 := Yba.underlying5
  have h9 := lits9 p.s h.2.2 d
  have h5 : Yba.prog.keyLits (d + 1) 5 [.int .u8 p.b] = some [.int .u8 p.b] := by simp [Program.keyLits, hu5, wb]
  rw [keyLits_struct (d + 1) Yba.underlying23 (by rw [cells23]; rfl) (by kernel_rfl)]
  have e1 : ((rwc p).drop 1).take 1 = [.int .u8 p.b] := rfl
  have e0 : ((rwc p).drop 0).take 1 = [.string p.s] := rfl
  simp only [List.mapM_cons, List.mapM_nil, cells9, cells5, e1, e0, h5, h9]
  rfl
theorem formed23 (p : Pr) : (Value.agg (rwc p).toArray).formed Yba.prog 23 = true := by
  have hu := Yba.underlying23
  simp [Value.formed, hu, cells23, rwc_len]
theorem eqr23 (p q : Pr) (hp : p.ok) (hq : q.ok) (w : World) : (Op.equalIn 10000 23 (.agg (rwc p).toArray) (.agg (rwc q).toArray)).run Yba.prog w = .ok (p.same q) w := by
  obtain ⟨r, hr, hiff⟩ := run_equalIn_deep (P := Yba.prog) 9998 2 23 kt23 w 2 2 (.agg (rwc p).toArray) (.agg (rwc q).toArray) _ _ (formed23 p) (formed23 q) (by simpa [Value.cells] using lits23 p hp 0) (by simpa [Value.cells] using lits23 q hq 0)
  rw [hr]
  have : r = p.same q := by
    rw [Bool.eq_iff_iff, hiff]
    unfold Pr.same
    rw [decide_eq_true_iff]
    constructor
    · intro h
      simp only [List.cons.injEq, Lit.string.injEq, Lit.int.injEq, and_true, true_and] at h
      exact ⟨eq_of_data h.1, h.2⟩
    · rintro ⟨h1, h2⟩
      rw [h1, h2]
  rw [this]
theorem eql23 (p q : Pr) (hp : p.ok) (hq : q.ok) (w : World) : (binOp .eql 23 (.agg (rwc p).toArray) (.agg (rwc q).toArray)).run Yba.prog w = .ok (.bool (p.same q)) w := by
  rw [run_eql_struct, eqr23 p q hp hq]; rfl
theorem neq23 (p q : Pr) (hp : p.ok) (hq : q.ok) (w : World) : (binOp .neq 23 (.agg (rwc p).toArray) (.agg (rwc q).toArray)).run Yba.prog w = .ok (.bool (!p.same q)) w := by
  rw [run_neq_struct, eqr23 p q hp hq]; rfl

/-- '!=' of a thing with itself. -/
theorem neq_self {t : TypeId} (d m : Nat) (hd : d + m = 10000) (kt : Yba.prog.keyTypeAt m t = true) {cs : List Value} (n : Nat) {l : List Lit} (hf : (Value.agg cs.toArray).formed Yba.prog t = true) (hl : Yba.prog.keyLits n t cs = some l) (w : World) :
    (binOp .neq t (.agg cs.toArray) (.agg cs.toArray)).run Yba.prog w = .ok (.bool false) w := by
  obtain ⟨r, hr, hiff⟩ := run_equalIn_deep (P := Yba.prog) d m t kt w n n (.agg cs.toArray) (.agg cs.toArray) l l hf hf (by simpa [Value.cells] using hl) (by simpa [Value.cells] using hl)
  rw [hd] at hr
  rw [run_neq_struct, hr]
  rw [hiff.2 rfl]; rfl

theorem lits38 (s : Sl) (hb : 0 ≤ s.b ∧ s.b ≤ 255) (hn : (Lit.int .i64 s.n).wf = true) : Yba.prog.keyLits 3 38 (slc s) = some (idl s.b ++ [.int .i64 s.n]) := by
  have h29 := lits29 s.b hb.1 hb.2 0
  have hu3 := Yba.underlying3
  have h3 : Yba.prog.keyLits 2 3 [.int .i64 s.n] = some [.int .i64 s.n] := by simp [Program.keyLits, hu3, hn]
  rw [keyLits_struct 2 Yba.underlying38 (by rw [cells38, slc_len]) (by kernel_rfl)]
  have e1 : ((slc s).drop 20).take 1 = [.int .i64 s.n] := by simp [slc, idc_len]
  have e0 : ((slc s).drop 0).take 20 = idc s.b := by simp [slc, idc_len]
  simp only [List.mapM_cons, List.mapM_nil, cells3, cells29, e1, e0, h3, h29]
  rfl
theorem neq38 (s : Sl) (hb : 0 ≤ s.b ∧ s.b ≤ 255) (hn : (Lit.int .i64 s.n).wf = true) (w : World) : (binOp .neq 38 (.agg (slc s).toArray) (.agg (slc s).toArray)).run Yba.prog w = .ok (.bool false) w :=
  neq_self 9997 3 rfl kt38 3 (by have hu := Yba.underlying38; simp [Value.formed, hu, cells38, slc_len]) (lits38 s hb hn) w

theorem lits40 (p : Pr) (h : p.ok) : Yba.prog.keyLits 4 40 (prc p) = some (.string p.s.data.toList :: idl p.b) := by
  have h31 := lits31 p h 0
  have e : List.take 21 (prc p) = prc p := List.take_of_length_le (by rw [prc_len]; omega)
  conv => lhs; unfold Program.keyLits
  have hu := Yba.underlying40
  simp [hu, cells31, cells40, prc_len, List.range, List.range.loop, h31, e]
theorem lits42 (se su pr : Pr) (h1 : se.ok) (h2 : su.ok) (h3 : pr.ok) : ∃ l, Yba.prog.keyLits 5 42 (plc se su pr) = some l := by
  have a := lits31 se h1 1
  have b := lits31 su h2 1
  have c := lits40 pr h3
  rw [keyLits_struct 4 Yba.underlying42 (by rw [cells42, plc_len]) (by kernel_rfl)]
  have e0 : ((plc se su pr).drop 0).take 21 = prc se := rfl
  have e1 : ((plc se su pr).drop 21).take 21 = prc su := rfl
  have e2 : ((plc se su pr).drop 42).take 21 = prc pr := rfl
  simp only [List.mapM_cons, List.mapM_nil, cells31, cells40, e0, e1, e2, a, b, c]
  exact ⟨_, rfl⟩
theorem neq42 (se su pr : Pr) (h1 : se.ok) (h2 : su.ok) (h3 : pr.ok) (w : World) : (binOp .neq 42 (.agg (plc se su pr).toArray) (.agg (plc se su pr).toArray)).run Yba.prog w = .ok (.bool false) w := by
  obtain ⟨l, hl⟩ := lits42 se su pr h1 h2 h3
  exact neq_self 9995 5 rfl kt42 5 (by have hu := Yba.underlying42; simp [Value.formed, hu, cells42, plc_len]) hl w

theorem lits54 (a b : Int) (ha : 0 ≤ a ∧ a ≤ 255) (hb : 0 ≤ b ∧ b ≤ 255) : Yba.prog.keyLits 4 54 (idc a ++ idc b) = some (idl a ++ idl b) := by
  have h1 := lits29 a ha.1 ha.2 1
  have h2 := lits29 b hb.1 hb.2 1
  rw [keyLits_struct 3 Yba.underlying54 (by rw [cells54]; simp [idc_len]) (by kernel_rfl)]
  have e0 : ((idc a ++ idc b).drop 0).take 20 = idc a := rfl
  have e1 : ((idc a ++ idc b).drop 20).take 20 = idc b := rfl
  simp only [List.mapM_cons, List.mapM_nil, cells29, e0, e1, h1, h2]
  simp
theorem lits56 (be la : Pr) (ta tb : Int) (h1 : be.ok) (h2 : la.ok) (ha : 0 ≤ ta ∧ ta ≤ 255) (hb : 0 ≤ tb ∧ tb ≤ 255) : ∃ l, Yba.prog.keyLits 5 56 (chc be la ta tb) = some l := by
  have a := lits31 be h1 1
  have b := lits31 ⟨ByteArray.empty, 0⟩ ⟨by simp, by simp, by simp⟩ 1
  have c := lits31 la h2 1
  have t := lits54 ta tb ha hb
  rw [keyLits_struct 4 Yba.underlying56 (by rw [cells56, chc_len]) (by kernel_rfl)]
  have e0 : ((chc be la ta tb).drop 0).take 21 = prc be := rfl
  have e1 : ((chc be la ta tb).drop 21).take 21 = prc ⟨ByteArray.empty, 0⟩ := rfl
  have e2 : ((chc be la ta tb).drop 42).take 21 = prc la := rfl
  have e3 : ((chc be la ta tb).drop 63).take 40 = idc ta ++ idc tb := rfl
  have e4 : ((chc be la ta tb).drop 103).take 21 = prc ⟨ByteArray.empty, 0⟩ := rfl
  simp only [List.mapM_cons, List.mapM_nil, cells31, cells54, e0, e1, e2, e3, e4, a, b, c, t]
  exact ⟨_, rfl⟩
theorem neq56 (be la : Pr) (ta tb : Int) (h1 : be.ok) (h2 : la.ok) (ha : 0 ≤ ta ∧ ta ≤ 255) (hb : 0 ≤ tb ∧ tb ≤ 255) (w : World) : (binOp .neq 56 (.agg (chc be la ta tb).toArray) (.agg (chc be la ta tb).toArray)).run Yba.prog w = .ok (.bool false) w := by
  obtain ⟨l, hl⟩ := lits56 be la ta tb h1 h2 ha hb
  exact neq_self 9995 5 rfl kt56 5 (by have hu := Yba.underlying56; simp [Value.formed, hu, cells56, chc_len]) hl w

/-! The links, as the law reckons them. -/
theorem has_addTo (se : Pr) (L : List Pr) (p : Pr) (b : Int) : has (addTo se L p) b = (has L b || decide (p.b = b ∧ p.b ≠ se.b)) := by
  unfold addTo
  by_cases h1 : p.b = se.b
  · rw [if_pos (.inl h1)]
    have : decide (p.b = b ∧ p.b ≠ se.b) = false := decide_eq_false (fun h => h.2 h1)
    rw [this, Bool.or_false]
  · by_cases h2 : has L p.b = true
    · rw [if_pos (.inr h2)]
      by_cases h3 : p.b = b
      · rw [← h3, h2]; rfl
      · have : decide (p.b = b ∧ p.b ≠ se.b) = false := decide_eq_false (fun h => h3 h.1)
        rw [this, Bool.or_false]
    · rw [if_neg (by intro h; exact h.elim h1 h2)]
      unfold has
      rw [List.any_append]
      simp [h1]
theorem has_fold (se : Pr) (b : Int) : ∀ (l L : List Pr), has (l.foldl (addTo se) L) b = (has L b || (has l b && decide (b ≠ se.b)))
  | [], L => by simp [has]
  | p :: l, L => by
    rw [List.foldl_cons, has_fold se b l (addTo se L p), has_addTo]
    have : has (p :: l) b = (decide (p.b = b) || has l b) := by simp [has]
    rw [this]
    by_cases h : p.b = b
    · subst h
      by_cases h2 : p.b = se.b <;> simp [h2]
    · simp [h]
theorem has_linked (se : Pr) (l : List Pr) (b : Int) : has (linked se l) b = (has l b && decide (b ≠ se.b)) := by
  unfold linked
  rw [has_fold]
  simp [has]
/-- One candidate more. -/
theorem linked_snoc (se : Pr) (l : List Pr) (p : Pr) : linked se (l ++ [p]) = if p.b = se.b ∨ has l p.b = true then linked se l else linked se l ++ [p] := by
  have : linked se (l ++ [p]) = addTo se (linked se l) p := by simp [linked]
  rw [this]
  unfold addTo
  rw [has_linked]
  by_cases h1 : p.b = se.b
  · rw [if_pos (.inl h1), if_pos (.inl h1)]
  · by_cases h2 : has l p.b = true
    · rw [if_pos (.inr (by rw [h2]; simp [h1])), if_pos (.inr h2)]
    · rw [if_neg (by intro h; rcases h with h | h; exact h1 h; simp [h2] at h), if_neg (by intro h; exact h.elim h1 h2)]

end Go.Proofs.Ybulkdsmy
