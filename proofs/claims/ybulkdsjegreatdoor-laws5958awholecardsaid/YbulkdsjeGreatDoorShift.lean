import Derived.Test.YbulkdsjeGreatDoorProb
import Derived.Maps.AppendAt
set_option linter.unusedVariables false
set_option linter.unusedSimpArgs false
namespace Go.Proofs.YbulkdsjeGreatDoor
open Go.RowKit
theorem Ybaz.info5 : (Ybaz.prog.info? 5).map (fun i => (i.zero, i.size, i.bytes)) = some (some (.int .u8 0), 1, 1) := by kernel_rfl
theorem range_set {V : World} {b : Nat} {cs : List Value} (h : V.rangeAt b 0 cs) {i : Nat} (hi : i < cs.length) (th : V.there b 0 cs.length) (v : Value) : (V.setCell ⟨b, i, none⟩ v).rangeAt b 0 (cs.set i v) := fun j u hu => by
  rw [Nat.zero_add]
  by_cases ej : j = i
  · subst ej
    rw [List.getElem?_set_self hi] at hu
    rw [World.cell?_setCell_same' _ _ _ (by have := (th j hi).1; rw [Nat.zero_add] at this; exact this), hu]
  · rw [List.getElem?_set_ne (Ne.symm ej)] at hu
    rw [World.cell?_setCell_other _ _ _ _ (fun he => ej (by have h0 := congrArg Addr.off he; simp at h0; exact h0.symm))]
    have := h j u hu
    rwa [Nat.zero_add] at this

/-- The encoder, laid bare. -/
structure EX (U : World) (Eb base : Nat) (ov : Value) (xs : List Value) (low rg cache pend : Nat) (st : Bool) : Prop where
  rs : U.rangeAt Eb 0 [ov, .int .u64 low, .int .u32 rg, .int .u8 cache, vi pend, .bool st]
  th : U.there Eb 0 6
  own : U.ownsRow base 5 1 ov xs.length xs
  ne : ov.ownBlock ≠ some Eb
  lo : base ≤ U.heap.size
  one : ∀ u ∈ xs, u.oneCell' = true
theorem EX.cell {U : World} {Eb base low rg cache pend : Nat} {ov : Value} {xs : List Value} {st : Bool} (h : EX U Eb base ov xs low rg cache pend st) (j : Nat) (v : Value) (hv : [ov, .int .u64 low, .int .u32 rg, .int .u8 cache, vi pend, .bool st][j]? = some v) : U.cell? ⟨Eb, j, none⟩ = some v := by
  have := h.rs j v hv
  rwa [Nat.zero_add] at this
theorem EX.free {U : World} {Eb base low rg cache pend : Nat} {ov : Value} {xs : List Value} {st : Bool} (h : EX U Eb base ov xs low rg cache pend st) (j : Nat) (hj : j < 6) : U.frozen? ⟨Eb, j, none⟩ = false := by
  have := (h.th j hj).2
  rwa [Nat.zero_add] at this
theorem EX.kept {U : World} {Eb base low rg cache pend : Nat} {ov : Value} {xs : List Value} {st : Bool} {E : Nat → Prop} {U' : World} (h : EX U Eb base ov xs low rg cache pend st) (k : Kept E U U') (h1 : ¬ E Eb) (h2 : ∀ g, ov.ownBlock = some g → ¬ E g) : EX U' Eb base ov xs low rg cache pend st :=
  ⟨k.range h1 h.rs, k.there h1 h.th, own_kept h.own k h2, h.ne, Nat.le_trans h.lo k.size, h.one⟩
theorem EX.low {U : World} {Eb base low rg cache pend : Nat} {ov : Value} {xs : List Value} {st : Bool} (h : EX U Eb base ov xs low rg cache pend st) (low' : Nat) : EX (U.setCell ⟨Eb, 1, none⟩ (.int .u64 low')) Eb base ov xs low' rg cache pend st := by
  have k : Kept (fun b => b = Eb) U (U.setCell ⟨Eb, 1, none⟩ (.int .u64 low')) := (Kept.refl (fun b => b = Eb) U).setCell (p := ⟨Eb, 1, none⟩) (.inl rfl) _
  exact ⟨by have := range_set h.rs (i := 1) (by simp) h.th (.int .u64 low'); simpa using this, there_setCell h.th _ _, own_kept h.own k (fun g hg e => h.ne (by rw [hg, e])), h.ne, Nat.le_trans h.lo k.size, h.one⟩
theorem EX.rng {U : World} {Eb base low rg cache pend : Nat} {ov : Value} {xs : List Value} {st : Bool} (h : EX U Eb base ov xs low rg cache pend st) (rg' : Nat) : EX (U.setCell ⟨Eb, 2, none⟩ (.int .u32 rg')) Eb base ov xs low rg' cache pend st := by
  have k : Kept (fun b => b = Eb) U (U.setCell ⟨Eb, 2, none⟩ (.int .u32 rg')) := (Kept.refl (fun b => b = Eb) U).setCell (p := ⟨Eb, 2, none⟩) (.inl rfl) _
  exact ⟨by have := range_set h.rs (i := 2) (by simp) h.th (.int .u32 rg'); simpa using this, there_setCell h.th _ _, own_kept h.own k (fun g hg e => h.ne (by rw [hg, e])), h.ne, Nat.le_trans h.lo k.size, h.one⟩
theorem EX.cache {U : World} {Eb base low rg cache pend : Nat} {ov : Value} {xs : List Value} {st : Bool} (h : EX U Eb base ov xs low rg cache pend st) (cache' : Nat) : EX (U.setCell ⟨Eb, 3, none⟩ (.int .u8 cache')) Eb base ov xs low rg cache' pend st := by
  have k : Kept (fun b => b = Eb) U (U.setCell ⟨Eb, 3, none⟩ (.int .u8 cache')) := (Kept.refl (fun b => b = Eb) U).setCell (p := ⟨Eb, 3, none⟩) (.inl rfl) _
  exact ⟨by have := range_set h.rs (i := 3) (by simp) h.th (.int .u8 cache'); simpa using this, there_setCell h.th _ _, own_kept h.own k (fun g hg e => h.ne (by rw [hg, e])), h.ne, Nat.le_trans h.lo k.size, h.one⟩
theorem EX.pend {U : World} {Eb base low rg cache pend : Nat} {ov : Value} {xs : List Value} {st : Bool} (h : EX U Eb base ov xs low rg cache pend st) (pend' : Nat) : EX (U.setCell ⟨Eb, 4, none⟩ (vi pend')) Eb base ov xs low rg cache pend' st := by
  have k : Kept (fun b => b = Eb) U (U.setCell ⟨Eb, 4, none⟩ (vi pend')) := (Kept.refl (fun b => b = Eb) U).setCell (p := ⟨Eb, 4, none⟩) (.inl rfl) _
  exact ⟨by have := range_set h.rs (i := 4) (by simp) h.th (vi pend'); simpa using this, there_setCell h.th _ _, own_kept h.own k (fun g hg e => h.ne (by rw [hg, e])), h.ne, Nat.le_trans h.lo k.size, h.one⟩
theorem EX.st {U : World} {Eb base low rg cache pend : Nat} {ov : Value} {xs : List Value} {st : Bool} (h : EX U Eb base ov xs low rg cache pend st) (st' : Bool) : EX (U.setCell ⟨Eb, 5, none⟩ (.bool st')) Eb base ov xs low rg cache pend st' := by
  have k : Kept (fun b => b = Eb) U (U.setCell ⟨Eb, 5, none⟩ (.bool st')) := (Kept.refl (fun b => b = Eb) U).setCell (p := ⟨Eb, 5, none⟩) (.inl rfl) _
  exact ⟨by have := range_set h.rs (i := 5) (by simp) h.th (.bool st'); simpa using this, there_setCell h.th _ _, own_kept h.own k (fun g hg e => h.ne (by rw [hg, e])), h.ne, Nat.le_trans h.lo k.size, h.one⟩

/-- One byte more. -/
theorem EX.byte {U : World} {Eb base low rg cache pend : Nat} {ov : Value} {xs : List Value} {st : Bool} {U' : World} {ov' v : Value} (h : EX U Eb base ov xs low rg cache pend st) (own : U'.ownsRow base 5 1 ov' (xs.length + 1) (xs ++ [v])) (k : Kept (fun b => ov.ownBlock = some b) U U') (mv : Mv U ov ov') (h1 : v.oneCell' = true) : EX (U'.setCell ⟨Eb, 0, none⟩ ov') Eb base ov' (xs ++ [v]) low rg cache pend st := by
  have hE : Eb < U.heap.size := World.block_lt_of_cell? U _ (h.cell 0 _ rfl)
  have hne : ov'.ownBlock ≠ some Eb := fun e => by
    rcases mv Eb e with e | e
    · exact h.ne e
    · omega
  have kE : Kept (fun b => b = Eb) U' (U'.setCell ⟨Eb, 0, none⟩ ov') := (Kept.refl (fun b => b = Eb) U').setCell (p := ⟨Eb, 0, none⟩) (.inl rfl) _
  have rs : U'.rangeAt Eb 0 [ov, .int .u64 low, .int .u32 rg, .int .u8 cache, vi pend, .bool st] := k.range h.ne h.rs
  have th : U'.there Eb 0 6 := k.there h.ne h.th
  exact ⟨by have := range_set rs (i := 0) (by simp) th ov'; simpa using this, there_setCell th _ _, by have := own_kept own kE (fun g hg e => hne (by rw [hg, e])); simpa using this, hne, Nat.le_trans h.lo (Nat.le_trans k.size kE.size), fun u hu => by
    rcases List.mem_append.1 hu with e | e
    · exact h.one u e
    · simp at e; rw [e]; exact h1⟩
theorem Mv.trans {U U' : World} {a b c : Value} (h : Mv U a b) (k : Mv U' b c) (hs : U.heap.size ≤ U'.heap.size) : Mv U a c := fun x hx => by
  rcases k x hx with e | e
  · exact h x e
  · exact .inr (by omega)
theorem Mv.refl (U : World) (a : Value) : Mv U a a := fun _ h => .inl h
theorem Kept.thn' {E E' : Nat → Prop} {a b c : World} (h : Kept E a b) (k : Kept E' b c) (hE : ∀ i, i < a.heap.size → E' i → E i) : Kept E a c :=
  ⟨k.os.trans h.os, k.tape.trans h.tape, k.output.trans h.output, Nat.le_trans h.size k.size, fun i hi hn => (k.block i (Nat.lt_of_lt_of_le hi h.size) (fun he => hn (hE i hi he))).trans (h.block i hi hn)⟩
theorem EE.trans {Eb : Nat} {a b : Value} {U U' U'' : World} (h : Kept (EE Eb a) U U') (mv : Mv U a b) (k : Kept (EE Eb b) U' U'') : Kept (EE Eb a) U U'' :=
  Kept.thn' h k (fun i hi he => by
    rcases he with e | e
    · exact .inl e
    · rcases mv i e with e | e
      · exact .inr e
      · omega)
theorem wpList_byte {ops : Array Oper} {rest : List Oper} {o : Oper} {a : Act} {w : World} {Q : Exit → Act → World → Prop} (hgd : o.guard = none) (s x : Operand) (ho : o.op = .call { callee := .builtin .append, args := #[s, x], argTypes := #[22, 22] }) (base : Nat) (ov v : Value) (xs : List Value) (hs : a.eval s = ov) (hown : w.ownsRow base 5 1 ov xs.length xs)
    (g : Nat) (hx : a.eval x = sl g 0 1 1) (hv : w.cell? ⟨g, 0, none⟩ = some v) (h1 : v.oneCell' = true) (hl : xs.length ≤ 1099511627776) (hb : base ≤ w.heap.size)
    (h : ∀ ov' w', w'.ownsRow base 5 1 ov' (xs.length + 1) (xs ++ [v]) → Kept (fun b => ov.ownBlock = some b) w w' → Mv w ov ov' → ov'.oneCell' = true → wpList Ybaz.prog ops Q rest (a.put o.dst ov') w') : wpList Ybaz.prog ops Q (o :: rest) a w := by
  obtain ⟨i5, hi5, hz5, hs5, hb5⟩ := info_parts Ybaz.info5
  refine wpList_append_own_at _ hgd s x 22 ho base 5 i5 (.int .u8 0) 1 1 Ybaz.underlying22 hi5 hz5 hs5 hb5 rfl (by decide) ov xs.length xs hs hown ⟨g, 0, none⟩ 1 1 [v] hx rfl (fun j u hu => ?_) (fun u hu => by simp at hu; rw [hu]; exact h1) (by unfold maxLen; omega) (by omega) hb ?_
  · match j, hu with
    | 0, hu => simp at hu; subst hu; simpa [Addr.add] using hv
  · intro ov' w' own gr _ mv
    obtain ⟨g', c', rfl⟩ := own_slice own
    refine h _ w' own ((Kept.refl _ w).grown gr (fun b hb => .inl hb)) (fun b hb => ?_) rfl
    rcases mv with e | e
    · exact .inl (by rw [← e]; exact hb)
    · rw [e] at hb; cases hb; exact .inr (Nat.le_refl _)

theorem store22 (w : World) (b o : Nat) (sa : Option Addr) (n c : Nat) (hc : (w.cell? ⟨b, o, none⟩).isSome = true) (hf : w.frozen? ⟨b, o, none⟩ = false) : Sem.run Ybaz.prog (Instr.storeAt 22 (.pointer (some ⟨b, o, none⟩)) (.slice sa n c)) w = .ok () (w.setCell ⟨b, o, none⟩ (.slice sa n c)) := by
  have hu := Ybaz.underlying22
  obtain ⟨u, hc'⟩ := Option.isSome_iff_exists.1 hc
  have hst := run_store1 (P := Ybaz.prog) w b o (.slice sa n c) hc hf rfl
  go_simp
theorem u64_nat (n : Int) : ∃ m : Nat, m < 18446744073709551616 ∧ IntKind.u64.wrap n = (m : Int) := by
  have e : IntKind.u64.wrap n = n % 18446744073709551616 := by simp [IntKind.wrap, IntKind.bits, IntKind.signed]
  exact ⟨(n % 18446744073709551616).toNat, by omega, by rw [e]; omega⟩
theorem u8_nat (n : Int) : ∃ m : Nat, m < 256 ∧ IntKind.u8.wrap n = (m : Int) := by
  have e : IntKind.u8.wrap n = n % 256 := by simp [IntKind.wrap, IntKind.bits, IntKind.signed]
  exact ⟨(n % 256).toNat, by omega, by rw [e]; omega⟩
/-- Behind a shift. -/
def ShP (U : World) (Eb base rg : Nat) (ov : Value) (L : Nat) (w' : World) : Prop := ∃ ov' xs' low' cache' pend' st', EX w' Eb base ov' xs' low' rg cache' pend' st' ∧ Kept (EE Eb ov) U w' ∧ Mv U ov ov' ∧ xs'.length + pend' ≤ L ∧ low' < 18446744073709551616 ∧ cache' < 256
/-- Ahead of the last statement. -/
def ShQ (U : World) (Eb base low rg : Nat) (ov : Value) (L : Nat) (w' : World) : Prop := ∃ ov' xs' cache' pend' st', EX w' Eb base ov' xs' low rg cache' pend' st' ∧ Kept (EE Eb ov) U w' ∧ Mv U ov ov' ∧ xs'.length + pend' ≤ L ∧ cache' < 256
theorem ShQ.done {U X : World} {Eb base low rg : Nat} {ov : Value} {L : Nat} (h : ShQ U Eb base low rg ov L X) (n : Int) : ShP U Eb base rg ov L (X.setCell ⟨Eb, 1, none⟩ (.int .u64 (IntKind.u64.wrap n))) := by
  obtain ⟨ov', xs', cache', pend', st', h1, h2, h3, h4, h5⟩ := h
  obtain ⟨m, hm, e⟩ := u64_nat n
  rw [e]
  exact ⟨ov', xs', m, cache', pend', st', h1.low m, h2.setCell (p := ⟨Eb, 1, none⟩) (.inl (.inl rfl)) _, h3, h4, hm, h5⟩
theorem ShQ.cell {U X : World} {Eb base low rg : Nat} {ov : Value} {L : Nat} (h : ShQ U Eb base low rg ov L X) : X.cell? ⟨Eb, 1, none⟩ = some (.int .u64 low) ∧ X.frozen? ⟨Eb, 1, none⟩ = false := by
  obtain ⟨ov', xs', cache', pend', st', h1, _⟩ := h
  exact ⟨h1.cell 1 _ rfl, h1.free 1 (by omega)⟩
/-- The loop over what is pending. -/
def ShR (U : World) (Eb base low rg cache p : Nat) (ov : Value) (L : Nat) (st : Bool) (w' : World) : Prop := ∃ ov' xs', EX w' Eb base ov' xs' low rg cache p st ∧ Kept (EE Eb ov) U w' ∧ Mv U ov ov' ∧ xs'.length + p ≤ L

def pendOf (Eb : Nat) (X : World) : Nat := match X.cell? ⟨Eb, 4, none⟩ with | some (.int _ n) => n.toNat | _ => 0

set_option maxRecDepth 100000 in
set_option maxHeartbeats 4000000 in
theorem shift_any (Eb base low rg cache pend : Nat) (ov : Value) (xs : List Value) (st : Bool) (U : World) (h : EX U Eb base ov xs low rg cache pend st) (hL : xs.length + pend < 1099511627776) (hlow : low < 18446744073709551616) (hca : cache < 256) :
    Calls Ybaz.prog 62 #[.pointer (some ⟨Eb, 0, none⟩)] U fun e w' => e = .returned (.tuple #[]) ∧ ShP U Eb base rg ov (xs.length + pend + 1) w' := by
  have c1 := h.cell 1 _ rfl
  have c4 := h.cell 4 _ rfl
  have f4 := h.free 4 (by omega)
  have H := hid h
  have HL := hid hL
  have HC := hid hca
  clear h hL hlow hca
  by_cases hb : (low : Int) < 4278190080 ∨ (4294967296 : Int) ≤ (low : Int)
  · have c5 := H.out.cell 5 _ rfl
    clear c4 f4
    go_enter Ybaz.func62, Ybaz.ntmps62
    go_upto_region 0 with fail
    go_cut [14] from 3 to 14 (fun v w' => v = .bool true ∧ w' = U)
    case first =>
      by_cases hb1 : (low : Int) < 4278190080
      · go_wp2
        go_meet
        case rel => exact ⟨rfl, rfl⟩
      · have hb2 : (4294967296 : Int) ≤ (low : Int) := by omega
        go_wp2
        go_meet
        case rel => exact ⟨rfl, rfl⟩
    case rest =>
      obtain ⟨rfl, ew⟩ := hcut
      rw [ew]
      clear ew hb
      go_upto_if 24 with fail
      clear c1 c5
      go_cut [] from 25 to 39 (fun w' => ShR U Eb base low rg cache pend ov (xs.length + pend + 1) st w')
      case first =>
        cases st with
        | false =>
          go_wp2
          go_meet
          case rel => exact ⟨ov, xs, H.out, Kept.refl _ _, Mv.refl _ _, by omega⟩
        | true =>
          obtain ⟨sa, sc, eov, _⟩ := own_form H.out.own
          subst eov
          have y0 : ∀ x : Wld (fun U' => Kept (fun b => (Value.slice sa xs.length sc).ownBlock = some b) U U'), x.w.cell? ⟨Eb, 0, none⟩ = some (.slice sa xs.length sc) := fun x => x.h.cell (p := ⟨Eb, 0, none⟩) H.out.ne (H.out.cell 0 _ rfl)
          have y3 : ∀ x : Wld (fun U' => Kept (fun b => (Value.slice sa xs.length sc).ownBlock = some b) U U'), x.w.cell? ⟨Eb, 3, none⟩ = some (.int .u8 cache) := fun x => x.h.cell (p := ⟨Eb, 3, none⟩) H.out.ne (H.out.cell 3 _ rfl)
          have s0 : Kept (fun b => (Value.slice sa xs.length sc).ownBlock = some b) U U.drew := (Kept.refl _ U).drew
          haveI nS : Nonempty (Wld (fun U' => Kept (fun b => (Value.slice sa xs.length sc).ownBlock = some b) U U')) := ⟨⟨U.drew, s0⟩⟩
          go_upto_region 3 with fail
          refine wp_region_calmplan 15 [(true, 0), (true, 1), (true, 2), (true, 3), (true, 4), (true, 5), (true, 6), (true, 7), (true, 8), (true, 9), (true, 10), (false, 11), (false, 12), (true, 13), (true, 14), (false, 15)] (fun w' => ∃ x : Wld (fun U' => Kept (fun b => (Value.slice sa xs.length sc).ownBlock = some b) U U'), w' = x.w) mixed (by kernel_rfl) (inS s0) ?_
          iterate 11 (refine wpPlan_q (by rfl) ?_; dsimp only [List.getElem_toArray, List.getElem_cons_zero, List.getElem_cons_succ]; go_big_quiet_step (fail); refine wpQuiet_nil ?_)
          refine wpPlan_e (by rfl) ?_
          dsimp only [List.getElem_toArray, List.getElem_cons_zero, List.getElem_cons_succ]
          go_wp2
          refine onward_normal (fun _ => inS (s0.alloc _)) ?_
          refine wpPlan_e (by rfl) ?_
          dsimp only [List.getElem_toArray, List.getElem_cons_zero, List.getElem_cons_succ]
          have k1 : Kept (fun _ => False) U ((U.alloc (.cells #[.int .u8 (((cache : Int) + (low : Int) / 4294967296) % 256)] 5)).drew) := ((Kept.refl _ U).alloc _).drew
          have E1 := hid (H.out.kept k1 (fun h => h) (fun _ _ h => h))
          have HV : Hid (((U.alloc (.cells #[.int .u8 (((cache : Int) + (low : Int) / 4294967296) % 256)] 5)).drew).cell? ⟨U.heap.size, 0, none⟩ = some (.int .u8 (((cache : Int) + (low : Int) / 4294967296) % 256))) := hid (range_new U [.int .u8 (((cache : Int) + (low : Int) / 4294967296) % 256)] 5 0 _ rfl)
          refine wpList_byte rfl (.tmp 29) (.tmp 36) rfl base (.slice sa xs.length sc) (.int .u8 (((cache : Int) + (low : Int) / 4294967296) % 256)) xs rfl E1.out.own U.heap.size rfl HV.out rfl (by have := HL.out; omega) E1.out.lo ?_
          intro ov2 W2 own2 k2 mv2 one2
          obtain ⟨g2, c2, rfl⟩ := own_slice own2
          refine wpList_done ?_
          simp only [Act.put, List.setIfInBounds_toArray, List.set_cons_succ, List.set_cons_zero]
          have k12 : Kept (fun b => (Value.slice sa xs.length sc).ownBlock = some b) U W2 := (k1.weak (fun _ _ h => h.elim)).trans k2
          refine onward_normal (fun _ => inS k12) ?_
          iterate 2 (refine wpPlan_q (by rfl) ?_; dsimp only [List.getElem_toArray, List.getElem_cons_zero, List.getElem_cons_succ]; go_big_quiet_step (fail); refine wpQuiet_nil ?_)
          refine wpPlan_e (by rfl) ?_
          dsimp only [List.getElem_toArray, List.getElem_cons_zero, List.getElem_cons_succ]
          have t0 := k12.there H.out.ne H.out.th 0 (by omega)
          refine wpList_store_as rfl 22 _ _ rfl rfl Eb 0 (sl g2 0 (xs.length + 1) c2) rfl rfl (store22 _ _ _ _ _ _ t0.1 t0.2) ?_
          refine wpList_done ?_
          refine onward_normal (fun h => by cases h) ?_
          refine wpPlan_nil ?_
          refine calmQ_normal ?_
          have sr : ShR U Eb base low rg cache pend (.slice sa xs.length sc) (xs.length + pend + 1) true (W2.setCell ⟨Eb, 0, none⟩ (sl g2 0 (xs.length + 1) c2)) :=
            ⟨_, _, E1.out.byte own2 k2 mv2 rfl, (k12.weak (fun _ _ e => .inr e)).setCell (p := ⟨Eb, 0, none⟩) (.inl (.inl rfl)) _, fun b hb => (by rcases mv2 b hb with e | e; exact .inl e; exact .inr (Nat.le_trans k1.size e)), by simp; omega⟩
          refine q_as (fun X => ShR U Eb base low rg cache pend (.slice sa xs.length sc) (xs.length + pend + 1) true X) sr ?_
          intro X sx
          have SX := hid sx
          clear sx sr t0 k12 own2 k2 mv2 one2 E1 HV k1 y0 y3 s0 nS
          go_wp2
          go_meet
          case rel => exact SX.out
      case rest =>
        have SC := hid hcut
        clear hcut H
        go_wp2
        go_loopw [] (fun X => ∃ p : Nat, p ≤ pend ∧ ShR U Eb base low rg cache p ov (xs.length + pend + 1) st X) (fun X => pendOf Eb X)
        case atStart => exact ⟨pend, Nat.le_refl _, SC.out⟩
        case round =>
          obtain ⟨p, hp, ov1, xs1, ex, kx, mvx, hl⟩ := hrel
          clear SC
          have c4 := ex.cell 4 _ rfl
          have mE : pendOf Eb wr = p := by unfold pendOf; rw [c4]; simp
          by_cases hp0 : 0 < p
          · have hpi : (0 : Int) < (p : Int) := by omega
            obtain ⟨sa, sc, eov, _⟩ := own_form ex.own
            subst eov
            have c0 := ex.cell 0 _ rfl
            have k1 : Kept (fun _ => False) wr (wr.alloc (.cells #[.int .u8 ((255 + (low : Int) / 4294967296) % 256)] 5)) := (Kept.refl _ wr).alloc _
            have HX := hid ex
            have HK := hid kx
            have HM := hid mvx
            have HLL := hid hl
            clear ex kx mvx hl
            have HV : Hid ((wr.alloc (.cells #[.int .u8 ((255 + (low : Int) / 4294967296) % 256)] 5)).cell? ⟨wr.heap.size, 0, none⟩ = some (.int .u8 ((255 + (low : Int) / 4294967296) % 256))) := hid (range_new wr [.int .u8 ((255 + (low : Int) / 4294967296) % 256)] 5 0 _ rfl)
            have E1 := hid (HX.out.kept k1 (fun h => h) (fun _ _ h => h))
            go_upto_region 5 with ((with_reducible (show wpList _ _ _ (⟨some 60, _, _, _, _, _⟩ :: _) _ _)); refine wpList_byte rfl (.tmp 56) (.tmp 59) rfl base (.slice sa xs1.length sc) (.int .u8 ((255 + (low : Int) / 4294967296) % 256)) xs1 rfl E1.out.own wr.heap.size rfl HV.out rfl (by have := HLL.out; have := HL.out; omega) E1.out.lo ?_; intro ov2 W2 own2 k2 mv2 one2; obtain ⟨g2, c2, rfl⟩ := own_slice own2; have t0 := (k2.there E1.out.ne E1.out.th 0 (by omega)); rw [Nat.zero_add] at t0; obtain ⟨_, t1⟩ := Option.isSome_iff_exists.1 t0.1; have t2 := t0.2; have O2 := hid own2; have K2 := hid k2; have M2 := hid mv2; clear own2 k2 mv2 t0; simp only [Act.put, List.setIfInBounds_toArray, List.set_cons_succ, List.set_cons_zero])
            have sr : EX (W2.setCell ⟨Eb, 0, none⟩ (sl g2 0 (xs1.length + 1) c2)) Eb base (sl g2 0 (xs1.length + 1) c2) (xs1 ++ [.int .u8 ((255 + (low : Int) / 4294967296) % 256)]) low rg cache p st ∧ Kept (EE Eb ov) U (W2.setCell ⟨Eb, 0, none⟩ (sl g2 0 (xs1.length + 1) c2)) ∧ Mv U ov (sl g2 0 (xs1.length + 1) c2) := by
              have kk : Kept (EE Eb (.slice sa xs1.length sc)) wr (W2.setCell ⟨Eb, 0, none⟩ (sl g2 0 (xs1.length + 1) c2)) := (((k1.weak (fun _ _ h => h.elim)).trans K2.out).weak (fun _ _ e => .inr e)).setCell (p := ⟨Eb, 0, none⟩) (.inl (.inl rfl)) _
              exact ⟨E1.out.byte O2.out K2.out M2.out rfl, EE.trans HK.out HM.out kk, HM.out.trans M2.out (Nat.le_trans HK.out.size k1.size)⟩
            refine wp_as (fun X => EX X Eb base (sl g2 0 (xs1.length + 1) c2) (xs1 ++ [.int .u8 ((255 + (low : Int) / 4294967296) % 256)]) low rg cache p st ∧ Kept (EE Eb ov) U X ∧ Mv U ov (sl g2 0 (xs1.length + 1) c2)) sr ?_
            clear sr t1 t2 O2 K2 M2 E1 HV k1 HX HK HM c0 c4
            rintro X ⟨ex, kx, mx⟩
            have d4 := ex.cell 4 _ rfl
            have d5 := ex.free 4 (by omega)
            have HX := hid ex
            have HK := hid kx
            have HM := hid mx
            have hpz : p ≤ 1099511627776 := by have := HL.out; omega
            clear ex kx mx
            go_wp2
            go_roundw
            case rel =>
              obtain ⟨p', rfl⟩ : ∃ p', p = p' + 1 := ⟨p - 1, by omega⟩
              have e2 : ((p' + 1 : Nat) : Int) - 1 = (p' : Int) := by omega
              rw [e2]
              exact ⟨p', by omega, _, _, HX.out.pend p', HK.out.setCell (p := ⟨Eb, 4, none⟩) (.inl (.inl rfl)) _, HM.out, by have := HLL.out; simp; omega⟩
            case measure =>
              rw [mE]
              have hcell : (X.setCell ⟨Eb, 4, none⟩ (.int .i64 ((p : Int) - 1))).cell? ⟨Eb, 4, none⟩ = some (.int .i64 ((p : Int) - 1)) := World.cell?_setCell_same' _ _ _ (by rw [d4]; rfl)
              unfold pendOf
              rw [hcell]
              simp
              omega
          · obtain rfl : p = 0 := by omega
            have f3 := ex.free 3 (by omega)
            have c3 := ex.cell 3 _ rfl
            have c1 := ex.cell 1 _ rfl
            have HX := hid ex
            have HK := hid kx
            have HM := hid mvx
            have HLL := hid hl
            clear ex kx mvx hl
            go_upto_region 8 with fail
            obtain ⟨ca2, hca2, eca⟩ : ∃ m : Nat, m < 256 ∧ (low : Int) / 16777216 % 256 = (m : Int) := ⟨((low : Int) / 16777216 % 256).toNat, by omega, by omega⟩
            rw [eca]
            refine wp_as (fun X => EX X Eb base ov1 xs1 low rg ca2 0 st ∧ Kept (EE Eb ov) U X) ⟨HX.out.cache ca2, HK.out.setCell (p := ⟨Eb, 3, none⟩) (.inl (.inl rfl)) _⟩ ?_
            rintro X ⟨ex, kx⟩
            have f5 := ex.free 5 (by omega)
            have c5 := ex.cell 5 _ rfl
            have HX2 := hid ex
            have HK2 := hid kx
            clear ex kx HX HK c1 c3 c4 f3
            go_upto_region 10 with fail
            refine wp_as (fun X => ShQ U Eb base low rg ov (xs.length + pend + 1) X) ⟨ov1, xs1, ca2, 0, true, HX2.out.st true, HK2.out.setCell (p := ⟨Eb, 5, none⟩) (.inl (.inl rfl)) _, HM.out, HLL.out, hca2⟩ ?_
            intro Y sx
            obtain ⟨d1, d2⟩ := sx.cell
            have SX := hid sx
            clear sx c5 f5
            go_wp2
            go_end0
            exact ⟨rfl, SX.out.done _⟩
  · have hb1 : ¬ ((low : Int) < 4278190080) := fun e => hb (.inl e)
    have hb2 : ¬ ((4294967296 : Int) ≤ (low : Int)) := fun e => hb (.inr e)
    have hb3 : (low : Int) < 4294967296 := by omega
    clear hb
    go_enter Ybaz.func62, Ybaz.ntmps62
    go_upto_region 10 with fail
    have e1 : wrap64 ((pend : Int) + 1) = ((pend + 1 : Nat) : Int) := by have := HL.out; unfold wrap64; omega
    rw [e1]
    refine wp_as (fun X => ShQ U Eb base low rg ov (xs.length + pend + 1) X) ⟨ov, xs, cache, pend + 1, st, H.out.pend (pend + 1), (Kept.refl (EE Eb ov) U).setCell (p := ⟨Eb, 4, none⟩) (.inl (.inl rfl)) _, Mv.refl _ _, by omega, HC.out⟩ ?_
    intro X sx
    obtain ⟨d1, d2⟩ := sx.cell
    have SX := hid sx
    clear sx c1 c4 f4
    go_wp2
    go_end0
    exact ⟨rfl, SX.out.done _⟩
end Go.Proofs.YbulkdsjeGreatDoor
