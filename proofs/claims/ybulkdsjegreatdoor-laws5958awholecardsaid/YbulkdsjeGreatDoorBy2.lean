import Derived.Test.YbulkdsjeGreatDoorBy1
set_option linter.unusedVariables false
set_option linter.unusedSimpArgs false
namespace Go.Proofs.YbulkdsjeGreatDoor
open Go.RowKit

attribute [local go_sem] Oper.semAt_some
theorem wpList_src {ops : Array Oper} {rest : List Oper} {o : Oper} {a : Act} {w : World} {Q : Exit → Act → World → Prop} (hgd : o.guard = none) (s x : Operand) (ho : o.op = .call { callee := .builtin .append, args := #[s, x], argTypes := #[22, 22] }) (base : Nat) (v : Value) (xs : List Value) (hs : a.eval s = v) (hown : w.ownsRow base 5 1 v xs.length xs)
    (u : Value) (ys : List Value) (hx : a.eval x = u) (hsrc : Src w u ys) (h1 : ∀ b ∈ ys, b.oneCell' = true) (hl : xs.length + ys.length ≤ 10995116277760) (hb : base ≤ w.heap.size)
    (h : ∀ v' w', BB w base v xs w' v' ys → wpList Ybaz.prog ops Q rest (a.put o.dst v') w') : wpList Ybaz.prog ops Q (o :: rest) a w := by
  obtain ⟨sa, c, rfl, hnone, hsome, hle⟩ := hsrc
  cases sa with
  | none =>
    obtain ⟨e1, e2⟩ := hnone rfl
    subst e1
    subst e2
    obtain ⟨i5, hi5, hz5, hs5, hb5⟩ := info_parts Ybaz.info5
    exact wpList_append_own_none hgd s x 22 ho base 5 i5 1 Ybaz.underlying22 hi5 v xs.length xs hs hown hx (h v w (BB.refl hown))
  | some ad =>
    obtain ⟨g, o', rfl, hc⟩ := hsome ad rfl
    obtain ⟨v', w', hr, bb⟩ := run_bytes w o.type base v xs hown ⟨g, o', none⟩ c ys (fun j b hj => by rw [Addr.add_lit]; exact hc j b hj) h1 hl hb
    refine wpList_plain hgd fun K hK => ?_
    unfold Oper.wp execOp
    simp only [ho, resolve, invoke, builtin, Sem.run_bind, Sem.run_pure, Result.andThen_ok, List.map_toArray, List.map_cons, List.map_nil, hs, hx, hr]
    exact hK _ _ (h v' w' bb)
theorem wpList_str {ops : Array Oper} {rest : List Oper} {o : Oper} {a : Act} {w : World} {Q : Exit → Act → World → Prop} (hgd : o.guard = none) (s x : Operand) (ho : o.op = .call { callee := .builtin .append, args := #[s, x], argTypes := #[22, 9] }) (base : Nat) (v : Value) (xs : List Value) (hs : a.eval s = v) (hown : w.ownsRow base 5 1 v xs.length xs)
    (u : ByteArray) (hx : a.eval x = .string u) (hl : xs.length + u.size ≤ 10995116277760) (hb : base ≤ w.heap.size)
    (h : ∀ v' w', BB w base v xs w' v' (Lib.strCells u) → wpList Ybaz.prog ops Q rest (a.put o.dst v') w') : wpList Ybaz.prog ops Q (o :: rest) a w := by
  obtain ⟨v', w', hr, bb⟩ := run_bytes_str w o.type base v xs hown u hl hb
  refine wpList_plain hgd fun K hK => ?_
  unfold Oper.wp execOp
  simp only [ho, resolve, invoke, builtin, Sem.run_bind, Sem.run_pure, Result.andThen_ok, List.map_toArray, List.map_cons, List.map_nil, hs, hx, hr]
  exact hK _ _ (h v' w' bb)
/-- Bytes as values. -/
def u8s (xs : List Nat) : List Value := xs.map (fun b : Nat => Value.int .u8 (b : Int))
theorem u8s_len (xs : List Nat) : (u8s xs).length = xs.length := by simp [u8s]
theorem u8s_app (xs ys : List Nat) : u8s (xs ++ ys) = u8s xs ++ u8s ys := by simp [u8s]
theorem u8s_one (xs : List Nat) : ∀ b ∈ u8s xs, b.oneCell' = true := fun b hb => by
  obtain ⟨x, _, rfl⟩ := List.mem_map.1 hb
  rfl
theorem src_new {W : World} (xs : List Nat) : Src (W.alloc (.cells (u8s xs).toArray 5)) (sl W.heap.size 0 xs.length xs.length) (u8s xs) := by
  refine ⟨some ⟨W.heap.size, 0, none⟩, xs.length, by rw [u8s_len], fun h => (by cases h), fun ad h => ?_, (by rw [u8s_len]; exact Nat.le_refl _)⟩
  cases h
  exact ⟨_, _, rfl, fun j b hj => by have := range_new W (u8s xs) 5 j b hj; simpa using this⟩
/-- A number in groups of seven bits, the lowest first. -/
def uvF : Nat → Nat → List Nat
  | 0, x => [x]
  | k + 1, x => if x < 128 then [x] else (x % 128 + 128) :: uvF k (x / 128)
theorem uvF_len : ∀ k x, 1 ≤ (uvF k x).length ∧ (uvF k x).length ≤ k + 1
  | 0, x => by simp [uvF]
  | k + 1, x => by
    have := uvF_len k (x / 128)
    unfold uvF
    split
    · simp
    · simp; omega
theorem src_one (W : World) (b : Value) : Src (W.alloc (.cells #[b] 5)) (.slice (some ⟨W.heap.size, 0, none⟩) 1 1) [b] := by
  refine ⟨some ⟨W.heap.size, 0, none⟩, 1, rfl, fun h => (by cases h), fun ad h => ?_, Nat.le_refl _⟩
  cases h
  exact ⟨_, _, rfl, fun j c hj => by have := range_new W [b] 5 j c hj; simpa using this⟩
set_option maxRecDepth 100000 in
theorem or128 (m : Nat) : bits .or .u8 ((m : Int) % 256) 128 = ((m % 128 + 128 : Nat) : Int) := by
  have h : ∀ a, a < 256 → a ||| 128 = a % 128 + 128 := by decide
  have e := (bits_nat .u8 8 (by decide) wraps_u8 (m % 256) 128 (by omega) (by omega)).2
  rw [h (m % 256) (by omega)] at e
  rw [show ((m : Int) % 256) = ((m % 256 : Nat) : Int) by omega, show (128 : Int) = ((128 : Nat) : Int) by rfl, e]
  congr 1
  omega

set_option maxRecDepth 100000 in
set_option maxHeartbeats 4000000 in
theorem uv20 (base : Nat) (v : Value) (xs : List Value) (x : Nat) (w : World) (hx : x < 18446744073709551616) (hown : w.ownsRow base 5 1 v xs.length xs) (hl : xs.length ≤ 1099511627776) (hb : base ≤ w.heap.size) : Calls Ybaz.prog 20 #[v, .int .u64 (x : Int)] w fun e w' => ∃ v', e = .returned v' ∧ BB w base v xs w' v' (u8s (uvF 10 x)) := by
  have HB := hid (BB.refl hown)
  have HL := hid hl
  have HBS := hid hb
  clear hown hl hb
  go_enter Ybaz.func20, Ybaz.ntmps20
  go_wp2
  go_loopw [0, 1] (fun vv xv X => ∃ (k m : Nat) (ys : List Nat), xv = .int .u64 (m : Int) ∧ m < 128 ^ k ∧ m < 18446744073709551616 ∧ k + ys.length = 10 ∧ uvF 10 x = ys ++ uvF k m ∧ BB w base v xs X vv (u8s ys)) (fun _ xv _ => (intOf xv).toNat)
  case atStart => exact ⟨10, x, [], rfl, by omega, hx, rfl, rfl, HB.out⟩
  case round =>
    clear HB
    obtain ⟨k, m, ys, rfl, hm, hm2, hk, hu, bb⟩ := hrel
    have BBH := hid bb
    have HK := hid (show m < 128 ^ k ∧ k + ys.length = 10 ∧ uvF 10 x = ys ++ uvF k m from ⟨hm, hk, hu⟩)
    clear bb hm hk hu
    have hmi : (m : Int) < 18446744073709551616 := by omega
    by_cases more : (128 : Int) ≤ (m : Int)
    · go_wp2_with ((with_reducible (show wpList _ _ _ (⟨some 12, _, _, _, _, _⟩ :: _) _ _)); refine wpList_src rfl _ _ rfl base u0 (xs ++ u8s ys) rfl (own_kept BBH.out.own ((Kept.refl (fun _ => False) wr).alloc _) (fun _ _ h => h)) _ _ rfl (src_one _ _) (fun b hb => by simp at hb; rw [hb]; rfl) (by have := HL.out; have := HK.out.2.1; simp [u8s_len]; omega) (by rw [World.size_alloc]; have := BBH.out.fp.size; have := HBS.out; omega) ?_; intro v2 W2 bb2; have BB2 := hid (BBH.out.trans (BB.pre ((Kept.refl (fun _ => False) wr).alloc _) bb2)); clear bb2 BBH; simp only [Act.put, List.setIfInBounds_toArray, List.set_cons_succ, List.set_cons_zero])
      go_roundw
      case rel =>
        obtain ⟨h1, h2, h3⟩ := HK.out
        have b2 := BB2.out
        rw [or128] at b2
        match k, h1, h2, h3 with
        | 0, h1, _, _ => omega
        | k + 1, h1, h2, h3 =>
          rw [Nat.pow_succ] at h1
          refine ⟨k, m / 128, ys ++ [m % 128 + 128], by simp, by omega, by omega, by simp; omega, ?_, by rw [u8s_app]; exact b2⟩
          rw [h3, uvF, if_neg (by omega)]
          simp
      case measure =>
        simp [intOf]
        omega
    · go_wp2_with ((with_reducible (show wpList _ _ _ (⟨some 19, _, _, _, _, _⟩ :: _) _ _)); refine wpList_src rfl _ _ rfl base u0 (xs ++ u8s ys) rfl (own_kept BBH.out.own ((Kept.refl (fun _ => False) wr).alloc _) (fun _ _ h => h)) _ _ rfl (src_one _ _) (fun b hb => by simp at hb; rw [hb]; rfl) (by have := HL.out; have := HK.out.2.1; simp [u8s_len]; omega) (by rw [World.size_alloc]; have := BBH.out.fp.size; have := HBS.out; omega) ?_; intro v2 W2 bb2; have BB2 := hid (BBH.out.trans (BB.pre ((Kept.refl (fun _ => False) wr).alloc _) bb2)); clear bb2 BBH; simp only [Act.put, List.setIfInBounds_toArray, List.set_cons_succ, List.set_cons_zero])
      go_ret
      refine ⟨v2, rfl, ?_⟩
      obtain ⟨h1, h2, h3⟩ := HK.out
      rw [h3, u8s_app]
      have e : uvF k m = [m] := by
        match k with
        | 0 => rfl
        | k + 1 => rw [uvF, if_pos (by omega)]
      rw [e]
      exact BB2.out

set_option maxRecDepth 100000 in
set_option maxHeartbeats 4000000 in
theorem uv12 (base : Nat) (v : Value) (xs : List Value) (x : Nat) (w : World) (hx : x < 18446744073709551616) (hown : w.ownsRow base 5 1 v xs.length xs) (hl : xs.length ≤ 1099511627776) (hb : base ≤ w.heap.size) : Calls Ybaz.prog 12 #[v, .int .u64 (x : Int)] w fun e w' => ∃ v', e = .returned v' ∧ BB w base v xs w' v' (u8s (uvF 10 x)) := by
  have HB := hid (BB.refl hown)
  have HL := hid hl
  have HBS := hid hb
  clear hown hl hb
  go_enter Ybaz.func12, Ybaz.ntmps12
  go_wp2
  go_loopw [0, 1] (fun vv xv X => ∃ (k m : Nat) (ys : List Nat), xv = .int .u64 (m : Int) ∧ m < 128 ^ k ∧ m < 18446744073709551616 ∧ k + ys.length = 10 ∧ uvF 10 x = ys ++ uvF k m ∧ BB w base v xs X vv (u8s ys)) (fun _ xv _ => (intOf xv).toNat)
  case atStart => exact ⟨10, x, [], rfl, by omega, hx, rfl, rfl, HB.out⟩
  case round =>
    clear HB
    obtain ⟨k, m, ys, rfl, hm, hm2, hk, hu, bb⟩ := hrel
    have BBH := hid bb
    have HK := hid (show m < 128 ^ k ∧ k + ys.length = 10 ∧ uvF 10 x = ys ++ uvF k m from ⟨hm, hk, hu⟩)
    clear bb hm hk hu
    have hmi : (m : Int) < 18446744073709551616 := by omega
    by_cases more : (128 : Int) ≤ (m : Int)
    · go_wp2_with ((with_reducible (show wpList _ _ _ (⟨some 12, _, _, _, _, _⟩ :: _) _ _)); refine wpList_src rfl _ _ rfl base u0 (xs ++ u8s ys) rfl (own_kept BBH.out.own ((Kept.refl (fun _ => False) wr).alloc _) (fun _ _ h => h)) _ _ rfl (src_one _ _) (fun b hb => by simp at hb; rw [hb]; rfl) (by have := HL.out; have := HK.out.2.1; simp [u8s_len]; omega) (by rw [World.size_alloc]; have := BBH.out.fp.size; have := HBS.out; omega) ?_; intro v2 W2 bb2; have BB2 := hid (BBH.out.trans (BB.pre ((Kept.refl (fun _ => False) wr).alloc _) bb2)); clear bb2 BBH; simp only [Act.put, List.setIfInBounds_toArray, List.set_cons_succ, List.set_cons_zero])
      go_roundw
      case rel =>
        obtain ⟨h1, h2, h3⟩ := HK.out
        have b2 := BB2.out
        rw [or128] at b2
        match k, h1, h2, h3 with
        | 0, h1, _, _ => omega
        | k + 1, h1, h2, h3 =>
          rw [Nat.pow_succ] at h1
          refine ⟨k, m / 128, ys ++ [m % 128 + 128], by simp, by omega, by omega, by simp; omega, ?_, by rw [u8s_app]; exact b2⟩
          rw [h3, uvF, if_neg (by omega)]
          simp
      case measure =>
        simp [intOf]
        omega
    · go_wp2_with ((with_reducible (show wpList _ _ _ (⟨some 19, _, _, _, _, _⟩ :: _) _ _)); refine wpList_src rfl _ _ rfl base u0 (xs ++ u8s ys) rfl (own_kept BBH.out.own ((Kept.refl (fun _ => False) wr).alloc _) (fun _ _ h => h)) _ _ rfl (src_one _ _) (fun b hb => by simp at hb; rw [hb]; rfl) (by have := HL.out; have := HK.out.2.1; simp [u8s_len]; omega) (by rw [World.size_alloc]; have := BBH.out.fp.size; have := HBS.out; omega) ?_; intro v2 W2 bb2; have BB2 := hid (BBH.out.trans (BB.pre ((Kept.refl (fun _ => False) wr).alloc _) bb2)); clear bb2 BBH; simp only [Act.put, List.setIfInBounds_toArray, List.set_cons_succ, List.set_cons_zero])
      go_ret
      refine ⟨v2, rfl, ?_⟩
      obtain ⟨h1, h2, h3⟩ := HK.out
      rw [h3, u8s_app]
      have e : uvF k m = [m] := by
        match k with
        | 0 => rfl
        | k + 1 => rw [uvF, if_pos (by omega)]
      rw [e]
      exact BB2.out
end Go.Proofs.YbulkdsjeGreatDoor
