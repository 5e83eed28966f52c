import Derived.Test.YbulkdsjeGreatDoorBy5
import Derived.Handy
import Derived.Deep.MidRow
import Derived.Lib.EndianBits
set_option linter.unusedVariables false
set_option linter.unusedSimpArgs false
namespace Go.Proofs.YbulkdsjeGreatDoor
open Go.RowKit

attribute [local go_sem] Oper.semAt_some
theorem eq22t (w : World) : Sem.run Ybaz.prog (binOp .eql 22 (.slice none 0 0) (.slice none 0 0)) w = .ok (.bool true) w := by kernel_rfl
theorem eq22f (a : Addr) (n c : Nat) (w : World) : Sem.run Ybaz.prog (binOp .eql 22 (.slice (some a) n c) (.slice none 0 0)) w = .ok (.bool false) w := by kernel_rfl
theorem eqg22t (w : World) : Sem.run Ybaz.prog (eqGuard .eql 22 (.tmp 3) (.const (.slice none 0 0)) (.slice none 0 0) (.slice none 0 0)) w = .ok () w := by kernel_rfl
theorem eqg22f (a : Addr) (n c : Nat) (w : World) : Sem.run Ybaz.prog (eqGuard .eql 22 (.tmp 3) (.const (.slice none 0 0)) (.slice (some a) n c) (.slice none 0 0)) w = .ok () w := by kernel_rfl

set_option maxRecDepth 100000 in
set_option maxHeartbeats 4000000 in
theorem clone9 (u : Value) (ys : List Value) (w : World) (src : Src w u ys) (one : ∀ b ∈ ys, b.oneCell' = true) (hl : ys.length ≤ 1000000) : Calls Ybaz.prog 9 #[u] w fun e w' => ∃ v', e = .returned v' ∧ w'.ownsRow w.heap.size 5 1 v' ys.length ys ∧ Kept (fun _ => False) w w' := by
  obtain ⟨sa, c, rfl, h1, h2, h3⟩ := src
  cases sa with
  | none =>
    obtain ⟨e1, e2⟩ := h1 rfl
    subst e1
    subst e2
    go_enter Ybaz.func9, Ybaz.ntmps9
    go_wp2_with ((with_reducible (show wpList _ _ _ (⟨some 4, _, _, _, _, _⟩ :: _) _ _)); refine wpList_bin_as rfl .eql 22 _ _ _ rfl (.slice none 0 0) (.slice none 0 0) (.bool true) rfl rfl (fun w => eqg22t w) (eq22t _) ?_; simp only [Act.put, List.setIfInBounds_toArray, List.set_cons_succ, List.set_cons_zero])
    go_ret
    exact ⟨_, rfl, World.ownsRow_nil w _ 5 1, Kept.refl _ _⟩
  | some ad =>
    obtain ⟨g, o, rfl, hc⟩ := h2 ad rfl
    have k0 : Kept (fun _ => False) w (w.alloc (.cells #[] 5)) := (Kept.refl _ w).alloc _
    have SR := hid (show Src (w.alloc (.cells #[] 5)) (.slice (some ⟨g, o, none⟩) ys.length c) ys from ⟨_, _, rfl, h1, fun ad h => ⟨g, o, (by cases h; rfl), fun j b hj => k0.cell (p := ⟨g, o + j, none⟩) (fun h => h) (hc j b hj)⟩, h3⟩)
    have OW := hid (show (w.alloc (.cells #[] 5)).ownsRow w.heap.size 5 1 (.slice (some ⟨w.heap.size, 0, none⟩) 0 0) ([] : List Value).length [] from ⟨rfl, .inr ⟨w.heap.size, 0, #[], rfl, Nat.le_refl _, World.alloc_heap_new w _, Nat.le_refl _, by unfold maxLen; omega, rfl, rfl⟩⟩)
    have ON := hid one
    have HL := hid hl
    have K0 := hid k0
    clear one hl k0 hc h1 h2 h3
    go_enter Ybaz.func9, Ybaz.ntmps9
    go_wp2_with (first | ((with_reducible (show wpList _ _ _ (⟨some 4, _, _, _, _, _⟩ :: _) _ _)); refine wpList_bin_as rfl .eql 22 _ _ _ rfl (.slice (some ⟨g, o, none⟩) ys.length c) (.slice none 0 0) (.bool false) rfl rfl (fun w => eqg22f _ _ _ w) (eq22f _ _ _ _) ?_; simp only [Act.put, List.setIfInBounds_toArray, List.set_cons_succ, List.set_cons_zero]) | ((with_reducible (show wpList _ _ _ (⟨some 7, _, _, _, _, _⟩ :: _) _ _)); refine wpList_src rfl _ _ rfl w.heap.size (.slice (some ⟨w.heap.size, 0, none⟩) 0 0) [] rfl OW.out _ ys rfl SR.out ON.out (by have := HL.out; simp; omega) (by rw [World.size_alloc]; omega) ?_; intro v2 W2 bb2; have BB2 := hid bb2; clear bb2; simp only [Act.put, List.setIfInBounds_toArray, List.set_cons_succ, List.set_cons_zero]))
    go_ret
    refine ⟨v2, rfl, by have := BB2.out.own; simpa using this, Kept.thn' K0.out BB2.out.kept (fun c hc h => ?_)⟩
    cases h
    exact absurd hc (Nat.lt_irrefl _)
theorem or_low (i a b : Nat) (ha : a < 2 ^ i) (hb : b % 2 ^ i = 0) (hs : a < 9223372036854775808 ∧ b < 9223372036854775808) : bits .or .u64 (a : Int) (b : Int) = ((a + b : Nat) : Int) := by
  have := bits_join_low .u64 63 (by decide) (fun x h0 h1 => by simp [IntKind.wrap, IntKind.bits, IntKind.signed]; omega) i (a : Int) (b : Int) (by omega) (by exact_mod_cast ha) (by omega) (by omega) (by exact_mod_cast hb) (by omega)
  rw [this]
  omega
theorem shl23 (m s P : Nat) (hs : s ≤ 64) (hP : 2 ^ s = P) (hm : m * P < 18446744073709551616) (w : World) : Sem.run Ybaz.prog (binOp .shl 23 (.int .u64 (m : Int)) (.int .u64 (s : Int))) w = .ok (.int .u64 ((m * P : Nat) : Int)) w := by
  rw [binOp_shl, shift_shl .u64 .u64 _ _ (by omega) (by simp [IntKind.bits]; omega)]
  have e : IntKind.u64.wrap ((m : Int) * 2 ^ (s : Int).toNat) = ((m * P : Nat) : Int) := by
    have e1 : ((m : Int) * 2 ^ (s : Int).toNat) = ((m * P : Nat) : Int) := by
      rw [← hP]
      simp
    rw [e1]
    have e2 : IntKind.u64.wrap ((m * P : Nat) : Int) = ((m * P : Nat) : Int) % 18446744073709551616 := by simp [IntKind.wrap, IntKind.bits, IntKind.signed]
    rw [e2]
    omega
  rw [e]
  rfl
theorem or23 {a b r : Int} (h : bits .or .u64 a b = r) (w : World) : Sem.run Ybaz.prog (binOp .or 23 (.int .u64 a) (.int .u64 b)) w = .ok (.int .u64 r) w := by
  rw [← h]
  kernel_rfl
theorem and5 {a b r : Int} (h : bits .and .u8 a b = r) (w : World) : Sem.run Ybaz.prog (binOp .and 5 (.int .u8 a) (.int .u8 b)) w = .ok (.int .u8 r) w := by
  rw [← h]
  kernel_rfl
theorem eqg_or (x y : Operand) (u v : Value) (w : World) : Sem.run Ybaz.prog (eqGuard .or 23 x y u v) w = .ok () w := by rfl
theorem eqg_and (x y : Operand) (u v : Value) (w : World) : Sem.run Ybaz.prog (eqGuard .and 5 x y u v) w = .ok () w := by rfl
theorem and127 (q : Nat) (hq : q < 256) : bits .and .u8 (q : Int) 127 = ((q % 128 : Nat) : Int) := by
  have := bits_mask .u8 8 (by decide) wraps_u8 7 (by omega) (q : Int) (by omega) (by omega)
  simpa using this

set_option maxRecDepth 100000 in
set_option maxHeartbeats 4000000 in
theorem uvar14 (g o c n : Nat) (more : List Value) (w : World) (hn0 : n < 34359738368) (hc : ∀ j b, (u8s (uvF 10 n) ++ more)[j]? = some b → w.cell? ⟨g, o + j, none⟩ = some b) (hlen : more.length ≤ 1000000000000) : Calls Ybaz.prog 14 #[.slice (some ⟨g, o, none⟩) (u8s (uvF 10 n) ++ more).length c] w fun e w' => e = .returned (.tuple #[.int .u64 (n : Int), vi (uvF 10 n).length]) ∧ w' = w := by
  have HC := hid hc
  obtain ⟨T, hT⟩ : ∃ T, (u8s (uvF 10 n) ++ more).length = T := ⟨_, rfl⟩
  have HT := hid hT
  have hTi : (T : Int) ≤ 2000000000000 := by rw [← hT, List.length_append, u8s_len]; have := uvF_len 10 n; omega
  rw [hT]
  clear hc hT
  go_enter Ybaz.func14, Ybaz.ntmps14
  go_wp2
  go_loopw [4, 5, 10] (fun xv sv iv X => X = w ∧ ∃ (i k m acc : Nat) (pre : List Nat), iv = vi i ∧ sv = .int .u64 ((7 * i : Nat) : Int) ∧ xv = .int .u64 (acc : Int) ∧ i + k = 10 ∧ uvF 10 n = pre ++ uvF k m ∧ pre.length = i ∧ n = acc + m * 128 ^ i ∧ acc < 128 ^ i ∧ (i = 0 ∨ 1 ≤ m)) (fun _ _ iv _ => 10 - (intOf iv).toNat)
  case atStart => exact ⟨rfl, 0, 10, n, 0, [], rfl, rfl, rfl, rfl, rfl, rfl, by omega, by omega, .inl rfl⟩
  case round =>
    obtain ⟨rfl, i, k, m, acc, pre, rfl, rfl, rfl, hik, hu, hl, hn, hacc, hm⟩ := hrel
    have hi : i ≤ 4 := by
      apply Classical.byContradiction
      intro h
      have h5 : 128 ^ 5 ≤ 128 ^ i := Nat.pow_le_pow_right (by omega) (by omega)
      have : 128 ^ i ≤ m * 128 ^ i := Nat.le_mul_of_pos_left _ (by omega)
      have : (128 : Nat) ^ 5 = 34359738368 := by decide
      omega
    have hTT : i < T := by
      rw [← HT.out, List.length_append, u8s_len, hu, List.length_append]
      have := uvF_len k m
      omega
    have hTTi : (i : Int) < (T : Int) := by omega
    obtain rfl | rfl | rfl | rfl | rfl : i = 0 ∨ i = 1 ∨ i = 2 ∨ i = 3 ∨ i = 4 := by omega
    · -- round 0
      have hk : k = 10 := by omega
      subst hk
      have ef : uvF 10 m = if m < 128 then [m] else (m % 128 + 128) :: uvF 9 (m / 128) := rfl
      by_cases last : m < 128
      · rw [if_pos last] at ef
        have y0 : wr.cell? ⟨g, o, none⟩ = some (.int .u8 (m : Int)) := by
          have := HC.out 0 (.int .u8 ((m : Nat) : Int)) (by rw [hu, ef, u8s_app, List.append_assoc, List.getElem?_append_right (by rw [u8s_len]; omega), u8s_len, hl]; rfl)
          exact this
        have hmi : (m : Int) < 128 := by omega
        have HE := hid (show n = acc + m * 1 ∧ acc < 1 ∧ m < 128 ∧ uvF 10 n = pre ++ [m] ∧ pre.length = 0 from ⟨by omega, by omega, last, by rw [hu, ef], hl⟩)
        clear hu ef hn hacc hl last
        have OR : Hid (bits .or .u64 (acc : Int) ((m * 1 : Nat) : Int) = ((n : Nat) : Int)) := hid (by
          obtain ⟨h1, h2, h3, _⟩ := HE.out
          rw [or_low 0 acc (m * 1) (by omega) (by omega) (by omega)]
          omega)
        go_wp2_with (first | ((with_reducible (show wpList _ _ _ (⟨some 35, _, _, _, _, _⟩ :: _) _ _)); refine wpList_bin_as rfl .shl 23 _ _ _ rfl (.int .u64 (m : Int)) (.int .u64 0) (.int .u64 ((m * 1 : Nat) : Int)) rfl rfl (fun w => by rw [eqGuard_shl]; rfl) (shl23 m 0 1 (by omega) rfl (by have := HE.out.2.2.1; omega) _) ?_; simp only [Act.put, List.setIfInBounds_toArray, List.set_cons_succ, List.set_cons_zero]) | ((with_reducible (show wpList _ _ _ (⟨some 36, _, _, _, _, _⟩ :: _) _ _)); refine wpList_bin_as rfl .or 23 _ _ _ rfl (.int .u64 (acc : Int)) (.int .u64 ((m * 1 : Nat) : Int)) (.int .u64 (n : Int)) rfl rfl (fun w => eqg_or _ _ _ _ _) (or23 OR.out _) ?_; simp only [Act.put, List.setIfInBounds_toArray, List.set_cons_succ, List.set_cons_zero]))
        refine bodyPost_ret (results_tmp2 Ybaz.results14 _ _ _) rfl ?_
        refine ⟨?_, rfl⟩
        rw [HE.out.2.2.2.1, List.length_append, HE.out.2.2.2.2]
        rfl
      · rw [if_neg last] at ef
        have y0 : wr.cell? ⟨g, o, none⟩ = some (.int .u8 ((m % 128 + 128 : Nat) : Int)) := by
          have := HC.out 0 (.int .u8 ((m % 128 + 128 : Nat) : Int)) (by rw [hu, ef, u8s_app, List.append_assoc, List.getElem?_append_right (by rw [u8s_len]; omega), u8s_len, hl]; rfl)
          exact this
        obtain ⟨q, hq⟩ : ∃ q, m % 128 + 128 = q := ⟨_, rfl⟩
        rw [hq] at y0
        have hqi : 128 ≤ (q : Int) ∧ (q : Int) < 256 := by omega
        have HE := hid (show n = acc + m * 1 ∧ acc < 1 ∧ ¬ m < 128 ∧ uvF 10 n = (pre ++ [m % 128 + 128]) ++ uvF 9 (m / 128) ∧ pre.length = 0 ∧ m % 128 + 128 = q from ⟨by omega, by omega, last, by rw [hu, ef]; simp, hl, hq⟩)
        clear hu ef hn hacc hl last hq
        have AN : Hid (bits .and .u8 (q : Int) 127 = ((m % 128 : Nat) : Int)) := hid (by
          obtain ⟨_, _, _, _, _, h6⟩ := HE.out
          rw [and127 q (by omega)]
          omega)
        have OR : Hid (bits .or .u64 (acc : Int) ((m % 128 * 1 : Nat) : Int) = ((acc + m % 128 * 1 : Nat) : Int)) := hid (by
          obtain ⟨h1, h2, h3, _⟩ := HE.out
          rw [or_low 0 acc (m % 128 * 1) (by omega) (by omega) (by omega)])
        go_wp2_with (first | ((with_reducible (show wpList _ _ _ (⟨some 41, _, _, _, _, _⟩ :: _) _ _)); refine wpList_bin_as rfl .and 5 _ _ _ rfl (.int .u8 (q : Int)) (.int .u8 127) (.int .u8 ((m % 128 : Nat) : Int)) rfl rfl (fun w => eqg_and _ _ _ _ _) (and5 AN.out _) ?_; simp only [Act.put, List.setIfInBounds_toArray, List.set_cons_succ, List.set_cons_zero]) | ((with_reducible (show wpList _ _ _ (⟨some 44, _, _, _, _, _⟩ :: _) _ _)); refine wpList_bin_as rfl .shl 23 _ _ _ rfl (.int .u64 ((m % 128 : Nat) : Int)) (.int .u64 0) (.int .u64 ((m % 128 * 1 : Nat) : Int)) rfl rfl (fun w => by rw [eqGuard_shl]; rfl) (shl23 (m % 128) 0 1 (by omega) rfl (by omega) _) ?_; simp only [Act.put, List.setIfInBounds_toArray, List.set_cons_succ, List.set_cons_zero]) | ((with_reducible (show wpList _ _ _ (⟨some 45, _, _, _, _, _⟩ :: _) _ _)); refine wpList_bin_as rfl .or 23 _ _ _ rfl (.int .u64 (acc : Int)) (.int .u64 ((m % 128 * 1 : Nat) : Int)) (.int .u64 ((acc + m % 128 * 1 : Nat) : Int)) rfl rfl (fun w => eqg_or _ _ _ _ _) (or23 OR.out _) ?_; simp only [Act.put, List.setIfInBounds_toArray, List.set_cons_succ, List.set_cons_zero]))
        go_roundw
        case rel =>
          obtain ⟨h1, h2, h3, h4, h5, h6⟩ := HE.out
          exact ⟨trivial, 1, 9, m / 128, acc + m % 128 * 1, pre ++ [m % 128 + 128], rfl, rfl, rfl, rfl, h4, by rw [List.length_append, h5]; rfl, by omega, by omega, .inr (by omega)⟩
        case measure => simp [intOf]
    · -- round 1
      have hk : k = 9 := by omega
      subst hk
      have ef : uvF 9 m = if m < 128 then [m] else (m % 128 + 128) :: uvF 8 (m / 128) := rfl
      by_cases last : m < 128
      · rw [if_pos last] at ef
        have y0 : wr.cell? ⟨g, o + 1, none⟩ = some (.int .u8 (m : Int)) := by
          have := HC.out 1 (.int .u8 ((m : Nat) : Int)) (by rw [hu, ef, u8s_app, List.append_assoc, List.getElem?_append_right (by rw [u8s_len]; omega), u8s_len, hl]; rfl)
          exact this
        have hmi : (m : Int) < 128 := by omega
        have HE := hid (show n = acc + m * 128 ∧ acc < 128 ∧ m < 128 ∧ uvF 10 n = pre ++ [m] ∧ pre.length = 1 from ⟨by omega, by omega, last, by rw [hu, ef], hl⟩)
        clear hu ef hn hacc hl last
        have OR : Hid (bits .or .u64 (acc : Int) ((m * 128 : Nat) : Int) = ((n : Nat) : Int)) := hid (by
          obtain ⟨h1, h2, h3, _⟩ := HE.out
          rw [or_low 7 acc (m * 128) (by omega) (by omega) (by omega)]
          omega)
        go_wp2_with (first | ((with_reducible (show wpList _ _ _ (⟨some 35, _, _, _, _, _⟩ :: _) _ _)); refine wpList_bin_as rfl .shl 23 _ _ _ rfl (.int .u64 (m : Int)) (.int .u64 7) (.int .u64 ((m * 128 : Nat) : Int)) rfl rfl (fun w => by rw [eqGuard_shl]; rfl) (shl23 m 7 128 (by omega) rfl (by have := HE.out.2.2.1; omega) _) ?_; simp only [Act.put, List.setIfInBounds_toArray, List.set_cons_succ, List.set_cons_zero]) | ((with_reducible (show wpList _ _ _ (⟨some 36, _, _, _, _, _⟩ :: _) _ _)); refine wpList_bin_as rfl .or 23 _ _ _ rfl (.int .u64 (acc : Int)) (.int .u64 ((m * 128 : Nat) : Int)) (.int .u64 (n : Int)) rfl rfl (fun w => eqg_or _ _ _ _ _) (or23 OR.out _) ?_; simp only [Act.put, List.setIfInBounds_toArray, List.set_cons_succ, List.set_cons_zero]))
        refine bodyPost_ret (results_tmp2 Ybaz.results14 _ _ _) rfl ?_
        refine ⟨?_, rfl⟩
        rw [HE.out.2.2.2.1, List.length_append, HE.out.2.2.2.2]
        rfl
      · rw [if_neg last] at ef
        have y0 : wr.cell? ⟨g, o + 1, none⟩ = some (.int .u8 ((m % 128 + 128 : Nat) : Int)) := by
          have := HC.out 1 (.int .u8 ((m % 128 + 128 : Nat) : Int)) (by rw [hu, ef, u8s_app, List.append_assoc, List.getElem?_append_right (by rw [u8s_len]; omega), u8s_len, hl]; rfl)
          exact this
        obtain ⟨q, hq⟩ : ∃ q, m % 128 + 128 = q := ⟨_, rfl⟩
        rw [hq] at y0
        have hqi : 128 ≤ (q : Int) ∧ (q : Int) < 256 := by omega
        have HE := hid (show n = acc + m * 128 ∧ acc < 128 ∧ ¬ m < 128 ∧ uvF 10 n = (pre ++ [m % 128 + 128]) ++ uvF 8 (m / 128) ∧ pre.length = 1 ∧ m % 128 + 128 = q from ⟨by omega, by omega, last, by rw [hu, ef]; simp, hl, hq⟩)
        clear hu ef hn hacc hl last hq
        have AN : Hid (bits .and .u8 (q : Int) 127 = ((m % 128 : Nat) : Int)) := hid (by
          obtain ⟨_, _, _, _, _, h6⟩ := HE.out
          rw [and127 q (by omega)]
          omega)
        have OR : Hid (bits .or .u64 (acc : Int) ((m % 128 * 128 : Nat) : Int) = ((acc + m % 128 * 128 : Nat) : Int)) := hid (by
          obtain ⟨h1, h2, h3, _⟩ := HE.out
          rw [or_low 7 acc (m % 128 * 128) (by omega) (by omega) (by omega)])
        go_wp2_with (first | ((with_reducible (show wpList _ _ _ (⟨some 41, _, _, _, _, _⟩ :: _) _ _)); refine wpList_bin_as rfl .and 5 _ _ _ rfl (.int .u8 (q : Int)) (.int .u8 127) (.int .u8 ((m % 128 : Nat) : Int)) rfl rfl (fun w => eqg_and _ _ _ _ _) (and5 AN.out _) ?_; simp only [Act.put, List.setIfInBounds_toArray, List.set_cons_succ, List.set_cons_zero]) | ((with_reducible (show wpList _ _ _ (⟨some 44, _, _, _, _, _⟩ :: _) _ _)); refine wpList_bin_as rfl .shl 23 _ _ _ rfl (.int .u64 ((m % 128 : Nat) : Int)) (.int .u64 7) (.int .u64 ((m % 128 * 128 : Nat) : Int)) rfl rfl (fun w => by rw [eqGuard_shl]; rfl) (shl23 (m % 128) 7 128 (by omega) rfl (by omega) _) ?_; simp only [Act.put, List.setIfInBounds_toArray, List.set_cons_succ, List.set_cons_zero]) | ((with_reducible (show wpList _ _ _ (⟨some 45, _, _, _, _, _⟩ :: _) _ _)); refine wpList_bin_as rfl .or 23 _ _ _ rfl (.int .u64 (acc : Int)) (.int .u64 ((m % 128 * 128 : Nat) : Int)) (.int .u64 ((acc + m % 128 * 128 : Nat) : Int)) rfl rfl (fun w => eqg_or _ _ _ _ _) (or23 OR.out _) ?_; simp only [Act.put, List.setIfInBounds_toArray, List.set_cons_succ, List.set_cons_zero]))
        go_roundw
        case rel =>
          obtain ⟨h1, h2, h3, h4, h5, h6⟩ := HE.out
          exact ⟨trivial, 2, 8, m / 128, acc + m % 128 * 128, pre ++ [m % 128 + 128], rfl, rfl, rfl, rfl, h4, by rw [List.length_append, h5]; rfl, by omega, by omega, .inr (by omega)⟩
        case measure => simp [intOf]
    · -- round 2
      have hk : k = 8 := by omega
      subst hk
      have ef : uvF 8 m = if m < 128 then [m] else (m % 128 + 128) :: uvF 7 (m / 128) := rfl
      by_cases last : m < 128
      · rw [if_pos last] at ef
        have y0 : wr.cell? ⟨g, o + 2, none⟩ = some (.int .u8 (m : Int)) := by
          have := HC.out 2 (.int .u8 ((m : Nat) : Int)) (by rw [hu, ef, u8s_app, List.append_assoc, List.getElem?_append_right (by rw [u8s_len]; omega), u8s_len, hl]; rfl)
          exact this
        have hmi : (m : Int) < 128 := by omega
        have HE := hid (show n = acc + m * 16384 ∧ acc < 16384 ∧ m < 128 ∧ uvF 10 n = pre ++ [m] ∧ pre.length = 2 from ⟨by omega, by omega, last, by rw [hu, ef], hl⟩)
        clear hu ef hn hacc hl last
        have OR : Hid (bits .or .u64 (acc : Int) ((m * 16384 : Nat) : Int) = ((n : Nat) : Int)) := hid (by
          obtain ⟨h1, h2, h3, _⟩ := HE.out
          rw [or_low 14 acc (m * 16384) (by omega) (by omega) (by omega)]
          omega)
        go_wp2_with (first | ((with_reducible (show wpList _ _ _ (⟨some 35, _, _, _, _, _⟩ :: _) _ _)); refine wpList_bin_as rfl .shl 23 _ _ _ rfl (.int .u64 (m : Int)) (.int .u64 14) (.int .u64 ((m * 16384 : Nat) : Int)) rfl rfl (fun w => by rw [eqGuard_shl]; rfl) (shl23 m 14 16384 (by omega) rfl (by have := HE.out.2.2.1; omega) _) ?_; simp only [Act.put, List.setIfInBounds_toArray, List.set_cons_succ, List.set_cons_zero]) | ((with_reducible (show wpList _ _ _ (⟨some 36, _, _, _, _, _⟩ :: _) _ _)); refine wpList_bin_as rfl .or 23 _ _ _ rfl (.int .u64 (acc : Int)) (.int .u64 ((m * 16384 : Nat) : Int)) (.int .u64 (n : Int)) rfl rfl (fun w => eqg_or _ _ _ _ _) (or23 OR.out _) ?_; simp only [Act.put, List.setIfInBounds_toArray, List.set_cons_succ, List.set_cons_zero]))
        refine bodyPost_ret (results_tmp2 Ybaz.results14 _ _ _) rfl ?_
        refine ⟨?_, rfl⟩
        rw [HE.out.2.2.2.1, List.length_append, HE.out.2.2.2.2]
        rfl
      · rw [if_neg last] at ef
        have y0 : wr.cell? ⟨g, o + 2, none⟩ = some (.int .u8 ((m % 128 + 128 : Nat) : Int)) := by
          have := HC.out 2 (.int .u8 ((m % 128 + 128 : Nat) : Int)) (by rw [hu, ef, u8s_app, List.append_assoc, List.getElem?_append_right (by rw [u8s_len]; omega), u8s_len, hl]; rfl)
          exact this
        obtain ⟨q, hq⟩ : ∃ q, m % 128 + 128 = q := ⟨_, rfl⟩
        rw [hq] at y0
        have hqi : 128 ≤ (q : Int) ∧ (q : Int) < 256 := by omega
        have HE := hid (show n = acc + m * 16384 ∧ acc < 16384 ∧ ¬ m < 128 ∧ uvF 10 n = (pre ++ [m % 128 + 128]) ++ uvF 7 (m / 128) ∧ pre.length = 2 ∧ m % 128 + 128 = q from ⟨by omega, by omega, last, by rw [hu, ef]; simp, hl, hq⟩)
        clear hu ef hn hacc hl last hq
        have AN : Hid (bits .and .u8 (q : Int) 127 = ((m % 128 : Nat) : Int)) := hid (by
          obtain ⟨_, _, _, _, _, h6⟩ := HE.out
          rw [and127 q (by omega)]
          omega)
        have OR : Hid (bits .or .u64 (acc : Int) ((m % 128 * 16384 : Nat) : Int) = ((acc + m % 128 * 16384 : Nat) : Int)) := hid (by
          obtain ⟨h1, h2, h3, _⟩ := HE.out
          rw [or_low 14 acc (m % 128 * 16384) (by omega) (by omega) (by omega)])
        go_wp2_with (first | ((with_reducible (show wpList _ _ _ (⟨some 41, _, _, _, _, _⟩ :: _) _ _)); refine wpList_bin_as rfl .and 5 _ _ _ rfl (.int .u8 (q : Int)) (.int .u8 127) (.int .u8 ((m % 128 : Nat) : Int)) rfl rfl (fun w => eqg_and _ _ _ _ _) (and5 AN.out _) ?_; simp only [Act.put, List.setIfInBounds_toArray, List.set_cons_succ, List.set_cons_zero]) | ((with_reducible (show wpList _ _ _ (⟨some 44, _, _, _, _, _⟩ :: _) _ _)); refine wpList_bin_as rfl .shl 23 _ _ _ rfl (.int .u64 ((m % 128 : Nat) : Int)) (.int .u64 14) (.int .u64 ((m % 128 * 16384 : Nat) : Int)) rfl rfl (fun w => by rw [eqGuard_shl]; rfl) (shl23 (m % 128) 14 16384 (by omega) rfl (by omega) _) ?_; simp only [Act.put, List.setIfInBounds_toArray, List.set_cons_succ, List.set_cons_zero]) | ((with_reducible (show wpList _ _ _ (⟨some 45, _, _, _, _, _⟩ :: _) _ _)); refine wpList_bin_as rfl .or 23 _ _ _ rfl (.int .u64 (acc : Int)) (.int .u64 ((m % 128 * 16384 : Nat) : Int)) (.int .u64 ((acc + m % 128 * 16384 : Nat) : Int)) rfl rfl (fun w => eqg_or _ _ _ _ _) (or23 OR.out _) ?_; simp only [Act.put, List.setIfInBounds_toArray, List.set_cons_succ, List.set_cons_zero]))
        go_roundw
        case rel =>
          obtain ⟨h1, h2, h3, h4, h5, h6⟩ := HE.out
          exact ⟨trivial, 3, 7, m / 128, acc + m % 128 * 16384, pre ++ [m % 128 + 128], rfl, rfl, rfl, rfl, h4, by rw [List.length_append, h5]; rfl, by omega, by omega, .inr (by omega)⟩
        case measure => simp [intOf]
    · -- round 3
      have hk : k = 7 := by omega
      subst hk
      have ef : uvF 7 m = if m < 128 then [m] else (m % 128 + 128) :: uvF 6 (m / 128) := rfl
      by_cases last : m < 128
      · rw [if_pos last] at ef
        have y0 : wr.cell? ⟨g, o + 3, none⟩ = some (.int .u8 (m : Int)) := by
          have := HC.out 3 (.int .u8 ((m : Nat) : Int)) (by rw [hu, ef, u8s_app, List.append_assoc, List.getElem?_append_right (by rw [u8s_len]; omega), u8s_len, hl]; rfl)
          exact this
        have hmi : (m : Int) < 128 := by omega
        have HE := hid (show n = acc + m * 2097152 ∧ acc < 2097152 ∧ m < 128 ∧ uvF 10 n = pre ++ [m] ∧ pre.length = 3 from ⟨by omega, by omega, last, by rw [hu, ef], hl⟩)
        clear hu ef hn hacc hl last
        have OR : Hid (bits .or .u64 (acc : Int) ((m * 2097152 : Nat) : Int) = ((n : Nat) : Int)) := hid (by
          obtain ⟨h1, h2, h3, _⟩ := HE.out
          rw [or_low 21 acc (m * 2097152) (by omega) (by omega) (by omega)]
          omega)
        go_wp2_with (first | ((with_reducible (show wpList _ _ _ (⟨some 35, _, _, _, _, _⟩ :: _) _ _)); refine wpList_bin_as rfl .shl 23 _ _ _ rfl (.int .u64 (m : Int)) (.int .u64 21) (.int .u64 ((m * 2097152 : Nat) : Int)) rfl rfl (fun w => by rw [eqGuard_shl]; rfl) (shl23 m 21 2097152 (by omega) rfl (by have := HE.out.2.2.1; omega) _) ?_; simp only [Act.put, List.setIfInBounds_toArray, List.set_cons_succ, List.set_cons_zero]) | ((with_reducible (show wpList _ _ _ (⟨some 36, _, _, _, _, _⟩ :: _) _ _)); refine wpList_bin_as rfl .or 23 _ _ _ rfl (.int .u64 (acc : Int)) (.int .u64 ((m * 2097152 : Nat) : Int)) (.int .u64 (n : Int)) rfl rfl (fun w => eqg_or _ _ _ _ _) (or23 OR.out _) ?_; simp only [Act.put, List.setIfInBounds_toArray, List.set_cons_succ, List.set_cons_zero]))
        refine bodyPost_ret (results_tmp2 Ybaz.results14 _ _ _) rfl ?_
        refine ⟨?_, rfl⟩
        rw [HE.out.2.2.2.1, List.length_append, HE.out.2.2.2.2]
        rfl
      · rw [if_neg last] at ef
        have y0 : wr.cell? ⟨g, o + 3, none⟩ = some (.int .u8 ((m % 128 + 128 : Nat) : Int)) := by
          have := HC.out 3 (.int .u8 ((m % 128 + 128 : Nat) : Int)) (by rw [hu, ef, u8s_app, List.append_assoc, List.getElem?_append_right (by rw [u8s_len]; omega), u8s_len, hl]; rfl)
          exact this
        obtain ⟨q, hq⟩ : ∃ q, m % 128 + 128 = q := ⟨_, rfl⟩
        rw [hq] at y0
        have hqi : 128 ≤ (q : Int) ∧ (q : Int) < 256 := by omega
        have HE := hid (show n = acc + m * 2097152 ∧ acc < 2097152 ∧ ¬ m < 128 ∧ uvF 10 n = (pre ++ [m % 128 + 128]) ++ uvF 6 (m / 128) ∧ pre.length = 3 ∧ m % 128 + 128 = q from ⟨by omega, by omega, last, by rw [hu, ef]; simp, hl, hq⟩)
        clear hu ef hn hacc hl last hq
        have AN : Hid (bits .and .u8 (q : Int) 127 = ((m % 128 : Nat) : Int)) := hid (by
          obtain ⟨_, _, _, _, _, h6⟩ := HE.out
          rw [and127 q (by omega)]
          omega)
        have OR : Hid (bits .or .u64 (acc : Int) ((m % 128 * 2097152 : Nat) : Int) = ((acc + m % 128 * 2097152 : Nat) : Int)) := hid (by
          obtain ⟨h1, h2, h3, _⟩ := HE.out
          rw [or_low 21 acc (m % 128 * 2097152) (by omega) (by omega) (by omega)])
        go_wp2_with (first | ((with_reducible (show wpList _ _ _ (⟨some 41, _, _, _, _, _⟩ :: _) _ _)); refine wpList_bin_as rfl .and 5 _ _ _ rfl (.int .u8 (q : Int)) (.int .u8 127) (.int .u8 ((m % 128 : Nat) : Int)) rfl rfl (fun w => eqg_and _ _ _ _ _) (and5 AN.out _) ?_; simp only [Act.put, List.setIfInBounds_toArray, List.set_cons_succ, List.set_cons_zero]) | ((with_reducible (show wpList _ _ _ (⟨some 44, _, _, _, _, _⟩ :: _) _ _)); refine wpList_bin_as rfl .shl 23 _ _ _ rfl (.int .u64 ((m % 128 : Nat) : Int)) (.int .u64 21) (.int .u64 ((m % 128 * 2097152 : Nat) : Int)) rfl rfl (fun w => by rw [eqGuard_shl]; rfl) (shl23 (m % 128) 21 2097152 (by omega) rfl (by omega) _) ?_; simp only [Act.put, List.setIfInBounds_toArray, List.set_cons_succ, List.set_cons_zero]) | ((with_reducible (show wpList _ _ _ (⟨some 45, _, _, _, _, _⟩ :: _) _ _)); refine wpList_bin_as rfl .or 23 _ _ _ rfl (.int .u64 (acc : Int)) (.int .u64 ((m % 128 * 2097152 : Nat) : Int)) (.int .u64 ((acc + m % 128 * 2097152 : Nat) : Int)) rfl rfl (fun w => eqg_or _ _ _ _ _) (or23 OR.out _) ?_; simp only [Act.put, List.setIfInBounds_toArray, List.set_cons_succ, List.set_cons_zero]))
        go_roundw
        case rel =>
          obtain ⟨h1, h2, h3, h4, h5, h6⟩ := HE.out
          exact ⟨trivial, 4, 6, m / 128, acc + m % 128 * 2097152, pre ++ [m % 128 + 128], rfl, rfl, rfl, rfl, h4, by rw [List.length_append, h5]; rfl, by omega, by omega, .inr (by omega)⟩
        case measure => simp [intOf]
    · -- round 4
      have hk : k = 6 := by omega
      subst hk
      have ef : uvF 6 m = if m < 128 then [m] else (m % 128 + 128) :: uvF 5 (m / 128) := rfl
      by_cases last : m < 128
      · rw [if_pos last] at ef
        have y0 : wr.cell? ⟨g, o + 4, none⟩ = some (.int .u8 (m : Int)) := by
          have := HC.out 4 (.int .u8 ((m : Nat) : Int)) (by rw [hu, ef, u8s_app, List.append_assoc, List.getElem?_append_right (by rw [u8s_len]; omega), u8s_len, hl]; rfl)
          exact this
        have hmi : (m : Int) < 128 := by omega
        have HE := hid (show n = acc + m * 268435456 ∧ acc < 268435456 ∧ m < 128 ∧ uvF 10 n = pre ++ [m] ∧ pre.length = 4 from ⟨by omega, by omega, last, by rw [hu, ef], hl⟩)
        clear hu ef hn hacc hl last
        have OR : Hid (bits .or .u64 (acc : Int) ((m * 268435456 : Nat) : Int) = ((n : Nat) : Int)) := hid (by
          obtain ⟨h1, h2, h3, _⟩ := HE.out
          rw [or_low 28 acc (m * 268435456) (by omega) (by omega) (by omega)]
          omega)
        go_wp2_with (first | ((with_reducible (show wpList _ _ _ (⟨some 35, _, _, _, _, _⟩ :: _) _ _)); refine wpList_bin_as rfl .shl 23 _ _ _ rfl (.int .u64 (m : Int)) (.int .u64 28) (.int .u64 ((m * 268435456 : Nat) : Int)) rfl rfl (fun w => by rw [eqGuard_shl]; rfl) (shl23 m 28 268435456 (by omega) rfl (by have := HE.out.2.2.1; omega) _) ?_; simp only [Act.put, List.setIfInBounds_toArray, List.set_cons_succ, List.set_cons_zero]) | ((with_reducible (show wpList _ _ _ (⟨some 36, _, _, _, _, _⟩ :: _) _ _)); refine wpList_bin_as rfl .or 23 _ _ _ rfl (.int .u64 (acc : Int)) (.int .u64 ((m * 268435456 : Nat) : Int)) (.int .u64 (n : Int)) rfl rfl (fun w => eqg_or _ _ _ _ _) (or23 OR.out _) ?_; simp only [Act.put, List.setIfInBounds_toArray, List.set_cons_succ, List.set_cons_zero]))
        refine bodyPost_ret (results_tmp2 Ybaz.results14 _ _ _) rfl ?_
        refine ⟨?_, rfl⟩
        rw [HE.out.2.2.2.1, List.length_append, HE.out.2.2.2.2]
        rfl
      · rw [if_neg last] at ef
        have y0 : wr.cell? ⟨g, o + 4, none⟩ = some (.int .u8 ((m % 128 + 128 : Nat) : Int)) := by
          have := HC.out 4 (.int .u8 ((m % 128 + 128 : Nat) : Int)) (by rw [hu, ef, u8s_app, List.append_assoc, List.getElem?_append_right (by rw [u8s_len]; omega), u8s_len, hl]; rfl)
          exact this
        obtain ⟨q, hq⟩ : ∃ q, m % 128 + 128 = q := ⟨_, rfl⟩
        rw [hq] at y0
        have hqi : 128 ≤ (q : Int) ∧ (q : Int) < 256 := by omega
        have HE := hid (show n = acc + m * 268435456 ∧ acc < 268435456 ∧ ¬ m < 128 ∧ uvF 10 n = (pre ++ [m % 128 + 128]) ++ uvF 5 (m / 128) ∧ pre.length = 4 ∧ m % 128 + 128 = q from ⟨by omega, by omega, last, by rw [hu, ef]; simp, hl, hq⟩)
        clear hu ef hn hacc hl last hq
        have AN : Hid (bits .and .u8 (q : Int) 127 = ((m % 128 : Nat) : Int)) := hid (by
          obtain ⟨_, _, _, _, _, h6⟩ := HE.out
          rw [and127 q (by omega)]
          omega)
        have OR : Hid (bits .or .u64 (acc : Int) ((m % 128 * 268435456 : Nat) : Int) = ((acc + m % 128 * 268435456 : Nat) : Int)) := hid (by
          obtain ⟨h1, h2, h3, _⟩ := HE.out
          rw [or_low 28 acc (m % 128 * 268435456) (by omega) (by omega) (by omega)])
        go_wp2_with (first | ((with_reducible (show wpList _ _ _ (⟨some 41, _, _, _, _, _⟩ :: _) _ _)); refine wpList_bin_as rfl .and 5 _ _ _ rfl (.int .u8 (q : Int)) (.int .u8 127) (.int .u8 ((m % 128 : Nat) : Int)) rfl rfl (fun w => eqg_and _ _ _ _ _) (and5 AN.out _) ?_; simp only [Act.put, List.setIfInBounds_toArray, List.set_cons_succ, List.set_cons_zero]) | ((with_reducible (show wpList _ _ _ (⟨some 44, _, _, _, _, _⟩ :: _) _ _)); refine wpList_bin_as rfl .shl 23 _ _ _ rfl (.int .u64 ((m % 128 : Nat) : Int)) (.int .u64 28) (.int .u64 ((m % 128 * 268435456 : Nat) : Int)) rfl rfl (fun w => by rw [eqGuard_shl]; rfl) (shl23 (m % 128) 28 268435456 (by omega) rfl (by omega) _) ?_; simp only [Act.put, List.setIfInBounds_toArray, List.set_cons_succ, List.set_cons_zero]) | ((with_reducible (show wpList _ _ _ (⟨some 45, _, _, _, _, _⟩ :: _) _ _)); refine wpList_bin_as rfl .or 23 _ _ _ rfl (.int .u64 (acc : Int)) (.int .u64 ((m % 128 * 268435456 : Nat) : Int)) (.int .u64 ((acc + m % 128 * 268435456 : Nat) : Int)) rfl rfl (fun w => eqg_or _ _ _ _ _) (or23 OR.out _) ?_; simp only [Act.put, List.setIfInBounds_toArray, List.set_cons_succ, List.set_cons_zero]))
        go_roundw
        case rel =>
          obtain ⟨h1, h2, h3, h4, h5, h6⟩ := HE.out
          exact ⟨trivial, 5, 5, m / 128, acc + m % 128 * 268435456, pre ++ [m % 128 + 128], rfl, rfl, rfl, rfl, h4, by rw [List.length_append, h5]; rfl, by omega, by omega, .inr (by omega)⟩
        case measure => simp [intOf]
end Go.Proofs.YbulkdsjeGreatDoor
