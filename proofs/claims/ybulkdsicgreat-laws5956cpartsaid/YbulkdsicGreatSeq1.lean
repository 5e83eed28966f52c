import Derived.Test.YbulkdsicGreatBest1
import Derived.Test.YbulkdsicGreatSub2
import Derived.Test.YbulkdsicGreatActs
import Derived.Test.YbulkdsicGreatChain
import Derived.Test.YbulkdsicGreatSer1
import Derived.Test.YbulkdsicGreatPart3
import Derived.Test.YbulkdsicGreatExec2
set_option linter.unusedVariables false
set_option linter.unusedSimpArgs false
namespace Go.Flt
open Ieee
def inf : Nat := 9218868437227405312
theorem read_inf : double.read inf = .infinity false := by decide +kernel
theorem sub_inf (a : Nat) (ha : a < 2 ^ 53) : double.sub inf (nat a) = some inf := by
  obtain ⟨s, _, e⟩ := read_nat a ha
  unfold Format.sub
  rw [read_inf, e]
  rfl
theorem run_sub_inf {P : Program} (w : World) (t : TypeId) (a : Nat) (h : a < 2 ^ 53) : (binOp .sub t (.float .f64 inf) (.float .f64 (nat a))).run P w = .ok (.float .f64 inf) w :=
  run_float_arith w .sub t .f64 _ _ _ (sub_inf a h)
end Go.Flt
namespace Go.Proofs.YbulkdsicGreat
open Go.RowKit Go.Shelf

theorem upd_ok {QV : Nat → Value → World → Prop} {w w' : World} {L : Nat → Bool} {nu : Nat → Value} {i : Nat} {v : Value} (h : ∀ k, L k = true → QV k (nu k) w) (mono : ∀ k u, QV k u w → QV k u w') (hv : QV i v w') : ∀ k, updL L i k = true → QV k (updV nu i v k) w' := fun k hk => by
  unfold updL at hk
  unfold updV
  by_cases e : k = i
  · subst e; rw [if_pos rfl]; exact hv
  · rw [if_neg e] at hk ⊢; exact mono _ _ (h k hk)
theorem xcall {ρ : Operand → Value} {d : Option Tmp} {ty : TypeId} {ps : String} {af : Array Edge} {g : Option (Nat × Bool)} {w : World} {f : Nat} {args : Array Operand} {tys : Array TypeId} (hρ : ρ (.func f) = .func (.func f) #[] #[]) (hb : ∀ vs : Array Value, (callFunc f vs).run Ybaz.prog w = .ok (.enter f vs) w) :
    (execOp ρ ⟨d, .call { callee := .value (.func f), args := args, argTypes := tys }, ty, ps, af, g⟩).run Ybaz.prog w = .ok (.enter f (args.map ρ)) w := by
  unfold execOp
  simp [resolve, invoke, hρ, Deferred.ofValue, Result.andThen, hb]

theorem range5_3 {V : World} {kb : Nat} {a b c d e : Value} (h : V.rangeAt kb 0 [a, b, c, d, e]) (th : V.there kb 0 5) (v : Value) : (V.setCell ⟨kb, 3, none⟩ v).rangeAt kb 0 [a, b, c, v, e] := fun j u hu => by
  rw [Nat.zero_add]
  by_cases ej : j = 3
  · subst ej
    simp at hu
    rw [World.cell?_setCell_same' _ _ _ (by have := (th 3 (by omega)).1; simpa using this), hu]
  · rw [World.cell?_setCell_other _ _ _ _ (fun he => ej (by have h0 := congrArg Addr.off he; simp at h0; exact h0.symm))]
    have := h j u (by
      rw [← hu]
      match j with
      | 0 | 1 | 2 | 4 => rfl
      | j + 5 => simp)
    simpa using this
theorem range5_4 {V : World} {kb : Nat} {a b c d e : Value} (h : V.rangeAt kb 0 [a, b, c, d, e]) (th : V.there kb 0 5) (v : Value) : (V.setCell ⟨kb, 4, none⟩ v).rangeAt kb 0 [a, b, c, d, v] := fun j u hu => by
  rw [Nat.zero_add]
  by_cases ej : j = 4
  · subst ej
    simp at hu
    rw [World.cell?_setCell_same' _ _ _ (by have := (th 4 (by omega)).1; simpa using this), hu]
  · rw [World.cell?_setCell_other _ _ _ _ (fun he => ej (by have h0 := congrArg Addr.off he; simp at h0; exact h0.symm))]
    have := h j u (by
      rw [← hu]
      match j with
      | 0 | 1 | 2 | 3 => rfl
      | j + 5 => simp)
    simpa using this
theorem OR.keptn {E : Nat → Prop} {W W' : World} {base : Nat} {ov : Value} {vals : List Value} {gs : List (List Nat)} (h : OR W base ov vals gs) (k : Kept E W W') (hE : ∀ b, E b → b < base ∨ W.heap.size ≤ b) : OR W' base ov vals gs :=
  ⟨own_kept h.out k (fun g hg he => by have h1 := (own_block h.out hg).1; have h2 := ownBlock_lt h.out hg; rcases hE g he with h | h <;> omega), h.len, fun k' v g hv hg => own_kept (h.own k' v g hv hg) k (fun b hb he => by have h1 := (own_block (h.own k' v g hv hg) hb).1; have h2 := ownBlock_lt (h.own k' v g hv hg) hb; rcases hE b he with h | h <;> omega), h.sep⟩
theorem TB.lt {W : World} {l : TBl} {names : Nat → ByteArray} {tm : Nat → Value} {steps : Int} {ks : List ByteArray} (h : TB W l names tm steps ks) (hn : 0 < l.n) : ∀ b ∈ [l.T, l.bn, l.bt, l.ba, l.bl, l.mb], b < W.heap.size := fun b hb => by
  simp only [List.mem_cons, List.not_mem_nil, or_false] at hb
  rcases hb with rfl | rfl | rfl | rfl | rfl | rfl
  · exact World.block_lt_of_cell? W _ (h.st 0 _ rfl)
  · exact h.nm.lt hn
  · exact h.tt.lt hn
  · exact h.at'.lt hn
  · exact h.al.lt hn
  · obtain ⟨es, c, he, _⟩ := h.mp
    exact (Array.getElem?_eq_some_iff.1 he).1
/-- A 'known' in the making: its parts' row, its own cells. -/
structure KN (w V : World) (l : TBl) (b0 b1 b2 : Value) (n q : Nat) (par : Bool) (b kb : Nat) (nodes : Nat → List Value) (x y : Nat) : Prop where
  room : V.there b 0 (n * 3)
  at' : ∀ j, j < q → V.rangeAt b (j * 3) (nodes j)
  kv : V.rangeAt kb 0 [.string ⟨#[]⟩, .bool par, sl b 0 n n, .float .f64 (Flt.nat x), .float .f64 (Flt.nat y)]
  kt : V.there kb 0 5
  rs : V.there (w.heap.size + 1) 0 5
  bx : V.rangeAt w.heap.size 0 [b0, b1, b2]
  gb : w.heap.size + 2 ≤ b
  gk : w.heap.size + 2 ≤ kb
  ne : b ≠ kb
section
variable {w V V' : World} {l : TBl} {b0 b1 b2 : Value} {n q : Nat} {par : Bool} {b kb : Nat} {nodes : Nat → List Value} {x y : Nat}
theorem KN.kept {E : Nat → Prop} (h : KN w V l b0 b1 b2 n q par b kb nodes x y) (k : Kept E V V') (hE : ∀ c, E c → c < w.heap.size ∨ (c ≠ b ∧ c ≠ kb ∧ w.heap.size + 2 ≤ c)) : KN w V' l b0 b1 b2 n q par b kb nodes x y := by
  have h1 := h.gb
  have h2 := h.gk
  have nb : ¬ E b := fun he => by rcases hE b he with h | h <;> omega
  have nk : ¬ E kb := fun he => by rcases hE kb he with h | h <;> omega
  have n0 : ¬ E w.heap.size := fun he => by rcases hE _ he with h | h <;> omega
  have n1 : ¬ E (w.heap.size + 1) := fun he => by rcases hE _ he with h | h <;> omega
  exact ⟨k.there nb h.room, fun j hj => k.range nb (h.at' j hj), k.range nk h.kv, k.there nk h.kt, k.there n1 h.rs, k.range n0 h.bx, h.gb, h.gk, h.ne⟩
theorem KN.node (h : KN w V l b0 b1 b2 n q par b kb nodes x y) (hq : q < n) (c : List Value) (hc : c.length = 3) (he : ∀ j, j < q → (nodes j).length = 3) : KN w (V.setCells b (q * 3) c) l b0 b1 b2 n (q + 1) par b kb (fun j => if j = q then c else nodes j) x y := by
  have h1 := h.gb
  have k1 : Kept (fun z => z = b) V (V.setCells b (q * 3) c) := (Kept.refl (fun z => z = b) V).setCells (.inl rfl) _ _
  refine ⟨there_setCells h.room _ _ _, fun j hj => ?_, k1.range (Ne.symm h.ne) h.kv, k1.there (Ne.symm h.ne) h.kt, k1.there (fun (e : w.heap.size + 1 = b) => by omega) h.rs, k1.range (fun (e : w.heap.size = b) => by omega) h.bx, h.gb, h.gk, h.ne⟩
  by_cases e : j = q
  · subst e
    rw [if_pos rfl]
    exact World.rangeAt_setCells_same _ _ _ _ (there_part h.room (by omega) (by rw [hc]; omega))
  · rw [if_neg e]
    exact World.rangeAt_setCells_apart (h.at' j (by omega)) _ _ _ (.inr (.inl (by rw [he j (by omega)]; omega)))
theorem KN.ext {nodes' : Nat → List Value} (h : KN w V l b0 b1 b2 n q par b kb nodes x y) (e : ∀ j, j < q → nodes j = nodes' j) : KN w V l b0 b1 b2 n q par b kb nodes' x y :=
  ⟨h.room, fun j hj => by rw [← e j hj]; exact h.at' j hj, h.kv, h.kt, h.rs, h.bx, h.gb, h.gk, h.ne⟩
theorem KN.took (h : KN w V l b0 b1 b2 n q par b kb nodes x y) (x' : Nat) : KN w (V.setCell ⟨kb, 3, none⟩ (.float .f64 (Flt.nat x'))) l b0 b1 b2 n q par b kb nodes x' y := by
  have h2 := h.gk
  have k1 : Kept (fun z => z = kb) V (V.setCell ⟨kb, 3, none⟩ (.float .f64 (Flt.nat x'))) := (Kept.refl (fun z => z = kb) V).setCell (p := ⟨kb, 3, none⟩) (.inl rfl) _
  refine ⟨k1.there h.ne h.room, fun j hj => k1.range h.ne (h.at' j hj), range5_3 h.kv h.kt _, there_setCell h.kt _ _, k1.there (fun (e : w.heap.size + 1 = kb) => by omega) h.rs, k1.range (fun (e : w.heap.size = kb) => by omega) h.bx, h.gb, h.gk, h.ne⟩
theorem KN.least (h : KN w V l b0 b1 b2 n q par b kb nodes x y) (y' : Nat) : KN w (V.setCell ⟨kb, 4, none⟩ (.float .f64 (Flt.nat y'))) l b0 b1 b2 n q par b kb nodes x y' := by
  have h2 := h.gk
  have k1 : Kept (fun z => z = kb) V (V.setCell ⟨kb, 4, none⟩ (.float .f64 (Flt.nat y'))) := (Kept.refl (fun z => z = kb) V).setCell (p := ⟨kb, 4, none⟩) (.inl rfl) _
  refine ⟨k1.there h.ne h.room, fun j hj => k1.range h.ne (h.at' j hj), range5_4 h.kv h.kt _, there_setCell h.kt _ _, k1.there (fun (e : w.heap.size + 1 = kb) => by omega) h.rs, k1.range (fun (e : w.heap.size = kb) => by omega) h.bx, h.gb, h.gk, h.ne⟩
end
end Go.Proofs.YbulkdsicGreat
