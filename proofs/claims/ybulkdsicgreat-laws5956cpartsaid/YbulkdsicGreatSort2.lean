import Derived.Test.YbulkdsicGreatSort
set_option linter.unusedVariables false
set_option linter.unusedSimpArgs false
namespace Go.Proofs.YbulkdsicGreat
open Go.RowKit Go.Shelf

/-- What symMerge says. -/
def SymOk (N : Nat) (c1 c2 sv : Value) (k : Nat) : Prop := ∀ a m b w, b - a ≤ k → a < m → m < b → b ≤ N → LessNo w N c1 c2 →
    Calls Ybaz.prog 73 #[.agg #[fv c1 c2, sv], vi a, vi m, vi b] w fun e w' => e = .returned (.tuple #[]) ∧ Below w.heap.size w w'

set_option maxRecDepth 100000 in
set_option maxHeartbeats 4000000 in
theorem symmerge_hi (N a m b mid k : Nat) (c1 c2 sv : Value) (w : World) (ham : a + 1 < m) (hmb : m + 1 < b) (hb : b ≤ N) (hN : N ≤ 300) (hmid : ((a : Int) + (b : Int)) / 2 = (mid : Int)) (hgt : mid < m) (h : LessNo w N c1 c2) (ih : SymOk N c1 c2 sv k) (hk : b - mid ≤ k) :
    Calls Ybaz.prog 73 #[.agg #[fv c1 c2, sv], vi a, vi m, vi b] w fun e w' => e = .returned (.tuple #[]) ∧ Below w.heap.size w w' := by
  have B0 := hid ((Below.refl w.heap.size w).alloc (Nat.le_refl _) (.cells #[fv c1 c2, sv] 129))
  have L := hid h
  have c0 : (w.alloc (.cells #[fv c1 c2, sv] 129)).cell? ⟨w.heap.size, 0, none⟩ = some (fv c1 c2) := by simp
  have c0' : (w.alloc (.cells #[fv c1 c2, sv] 129)).cell? ⟨w.heap.size, 1, none⟩ = some sv := by simp
  have C0 := hid c0
  have C1 := hid c0'
  have e1 : ((m : Int) - (a : Int) == 1) = false := by
    have : ¬ ((m : Int) - (a : Int) = 1) := by omega
    simpa using this
  have e2 : ((b : Int) - (m : Int) == 1) = false := by
    have : ¬ ((b : Int) - (m : Int) = 1) := by omega
    simpa using this
  obtain ⟨s0, hs0, hs0a⟩ : ∃ s0 : Nat, (mid : Int) + (m : Int) - (b : Int) = (s0 : Int) ∧ s0 + b = mid + m := ⟨mid + m - b, by omega, by omega⟩
  have e3 : (mid : Int) < (m : Int) := by omega
  have IH := hid ih
  clear h c0 c0' ih
  go_enter Ybaz.func73, Ybaz.ntmps73
  go_wp2_with (refine wpList_box_as rfl 129 _ rfl #[fv c1 c2, sv] rfl (bx129 _ _) ?_)
  go_loopw [18, 19] (fun x y W => ∃ s : Nat, s0 ≤ s ∧ s ≤ mid ∧ x = vi s ∧ y = vi mid ∧ Below w.heap.size w W ∧ W.cell? ⟨w.heap.size, 0, none⟩ = some (fv c1 c2) ∧ W.cell? ⟨w.heap.size, 1, none⟩ = some sv) (fun x _ _ => mid - (intOf x).toNat)
  case atStart => exact ⟨s0, Nat.le_refl _, by omega, rfl, rfl, B0.out, C0.out, C1.out⟩
  case round =>
    obtain ⟨s, h1, h2, rfl, rfl, hbel, hc, hc'⟩ := hrel
    clear B0 C0 C1
    have hsz : w.heap.size + 1 ≤ wr.heap.size := World.block_lt_of_cell? _ _ hc
    by_cases hlt : s < mid
    · obtain ⟨c, hcd, hc1, hc2⟩ := half s mid hlt
      have hli : (s : Int) < (mid : Int) := by omega
      obtain ⟨q, hq, hqa⟩ : ∃ q : Nat, (mid : Int) + (m : Int) - 1 - (c : Int) = (q : Int) ∧ q + c + 1 = mid + m := ⟨mid + m - 1 - c, by omega, by omega⟩
      have LI := hid (L.out wr hbel q c (by omega) (by omega))
      have BL := hid hbel
      have HC := hid hc
      have HC' := hid hc'
      clear hbel hc'
      go_wp2_with (go_at_call 55; refine LI.out.mono ?_; rintro e W2 ⟨rfl, hb2⟩; have B2 := hid hb2; clear hb2 LI)
      go_roundw
      case rel => exact ⟨c + 1, by omega, by omega, by go_num, rfl, BL.out.trans (B2.out.mono (by omega)), (Kept.ofBelow (E := fun _ => False) B2.out).cell (fun h => h) HC.out, (Kept.ofBelow (E := fun _ => False) B2.out).cell (fun h => h) HC'.out⟩
      case measure => simp [intOf]; omega
    · obtain rfl : s = mid := by omega
      have hli : ¬ ((s : Int) < (s : Int)) := by omega
      have h9 : (s : Int) + (m : Int) - (s : Int) = (m : Int) := by omega
      have h8 : (a : Int) < (s : Int) := by omega
      have h7 : (m : Int) < (b : Int) := by omega
      have h6 : ¬ ((m : Int) < (m : Int)) := by omega
      have SI := hid (IH.out s m b wr hk (by omega) (by omega) hb (L.out.on hbel))
      have BL := hid hbel
      clear hbel
      go_wp2_with (go_at_call 73; refine SI.out.mono ?_; rintro e W2 ⟨rfl, hb2⟩; have B2 := hid hb2; clear hb2 SI)
      go_end0
      exact ⟨rfl, BL.out.trans (B2.out.mono (by omega))⟩
set_option maxRecDepth 100000 in
set_option maxHeartbeats 4000000 in
theorem symmerge_lo (N a m b mid k : Nat) (c1 c2 sv : Value) (w : World) (ham : a + 1 < m) (hmb : m + 1 < b) (hb : b ≤ N) (hN : N ≤ 300) (hmid : ((a : Int) + (b : Int)) / 2 = (mid : Int)) (hle : m ≤ mid) (h : LessNo w N c1 c2) (ih : SymOk N c1 c2 sv k) (hk : mid - a ≤ k) :
    Calls Ybaz.prog 73 #[.agg #[fv c1 c2, sv], vi a, vi m, vi b] w fun e w' => e = .returned (.tuple #[]) ∧ Below w.heap.size w w' := by
  have B0 := hid ((Below.refl w.heap.size w).alloc (Nat.le_refl _) (.cells #[fv c1 c2, sv] 129))
  have L := hid h
  have c0 : (w.alloc (.cells #[fv c1 c2, sv] 129)).cell? ⟨w.heap.size, 0, none⟩ = some (fv c1 c2) := by simp
  have c0' : (w.alloc (.cells #[fv c1 c2, sv] 129)).cell? ⟨w.heap.size, 1, none⟩ = some sv := by simp
  have C0 := hid c0
  have C1 := hid c0'
  have e1 : ((m : Int) - (a : Int) == 1) = false := by
    have : ¬ ((m : Int) - (a : Int) = 1) := by omega
    simpa using this
  have e2 : ((b : Int) - (m : Int) == 1) = false := by
    have : ¬ ((b : Int) - (m : Int) = 1) := by omega
    simpa using this
  have e3 : ¬ ((mid : Int) < (m : Int)) := by omega
  have IH := hid ih
  clear h c0 c0' ih
  go_enter Ybaz.func73, Ybaz.ntmps73
  go_wp2_with (refine wpList_box_as rfl 129 _ rfl #[fv c1 c2, sv] rfl (bx129 _ _) ?_)
  go_loopw [18, 19] (fun x y W => ∃ s : Nat, a ≤ s ∧ s ≤ m ∧ x = vi s ∧ y = vi m ∧ Below w.heap.size w W ∧ W.cell? ⟨w.heap.size, 0, none⟩ = some (fv c1 c2) ∧ W.cell? ⟨w.heap.size, 1, none⟩ = some sv) (fun x _ _ => m - (intOf x).toNat)
  case atStart => exact ⟨a, Nat.le_refl _, by omega, rfl, rfl, B0.out, C0.out, C1.out⟩
  case round =>
    obtain ⟨s, h1, h2, rfl, rfl, hbel, hc, hc'⟩ := hrel
    clear B0 C0 C1
    have hsz : w.heap.size + 1 ≤ wr.heap.size := World.block_lt_of_cell? _ _ hc
    by_cases hlt : s < m
    · obtain ⟨c, hcd, hc1, hc2⟩ := half s m hlt
      have hli : (s : Int) < (m : Int) := by omega
      obtain ⟨q, hq, hqa⟩ : ∃ q : Nat, (mid : Int) + (m : Int) - 1 - (c : Int) = (q : Int) ∧ q + c + 1 = mid + m := ⟨mid + m - 1 - c, by omega, by omega⟩
      have LI := hid (L.out wr hbel q c (by omega) (by omega))
      have BL := hid hbel
      have HC := hid hc
      have HC' := hid hc'
      clear hbel hc'
      go_wp2_with (go_at_call 55; refine LI.out.mono ?_; rintro e W2 ⟨rfl, hb2⟩; have B2 := hid hb2; clear hb2 LI)
      go_roundw
      case rel => exact ⟨c + 1, by omega, by omega, by go_num, rfl, BL.out.trans (B2.out.mono (by omega)), (Kept.ofBelow (E := fun _ => False) B2.out).cell (fun h => h) HC.out, (Kept.ofBelow (E := fun _ => False) B2.out).cell (fun h => h) HC'.out⟩
      case measure => simp [intOf]; omega
    · obtain rfl : s = m := by omega
      have hli : ¬ ((s : Int) < (s : Int)) := by omega
      have h9 : (mid : Int) + (s : Int) - (s : Int) = (mid : Int) := by omega
      have h8 : (a : Int) < (s : Int) := by omega
      have h6 : ¬ ((mid : Int) < (mid : Int)) := by omega
      have BL := hid hbel
      by_cases hsm : s < mid
      · have h7 : (s : Int) < (mid : Int) := by omega
        have SI := hid (IH.out a s mid wr hk (by omega) (by omega) (by omega) (L.out.on hbel))
        clear hbel
        go_wp2_with (go_at_call 73; refine SI.out.mono ?_; rintro e W2 ⟨rfl, hb2⟩; have B2 := hid hb2; clear hb2 SI)
        go_end0
        exact ⟨rfl, BL.out.trans (B2.out.mono (by omega))⟩
      · have h7 : ¬ ((s : Int) < (mid : Int)) := by omega
        clear hbel
        go_wp2
        go_end0
        exact ⟨rfl, BL.out⟩

theorem symmerge_any (N : Nat) (c1 c2 sv : Value) (hN : N ≤ 300) : ∀ k, SymOk N c1 c2 sv k
  | 0 => fun a m b w h1 h2 h3 _ _ => by omega
  | k + 1 => fun a m b w h1 h2 h3 h4 h5 => by
    by_cases ha : m = a + 1
    · subst ha; exact symmerge_one N a b c1 c2 sv w h3 h4 hN h5
    · by_cases hb : b = m + 1
      · subst hb; exact symmerge_last N a m c1 c2 sv w (by omega) h4 hN h5
      · obtain ⟨mid, hmid, hm1, hm2⟩ := half a b (by omega)
        by_cases hg : mid < m
        · exact symmerge_hi N a m b mid k c1 c2 sv w (by omega) (by omega) h4 hN hmid hg h5 (symmerge_any N c1 c2 sv hN k) (by omega)
        · exact symmerge_lo N a m b mid k c1 c2 sv w (by omega) (by omega) h4 hN hmid (by omega) h5 (symmerge_any N c1 c2 sv hN k) (by omega)

set_option maxRecDepth 100000 in
set_option maxHeartbeats 4000000 in
theorem stable_any (N : Nat) (c1 c2 sv : Value) (w : World) (hN : N ≤ 300) (h : LessNo w N c1 c2) :
    Calls Ybaz.prog 53 #[.agg #[fv c1 c2, sv], vi N] w fun e w' => e = .returned (.tuple #[]) ∧ Below w.heap.size w w' := by
  have B0 := hid ((Below.refl w.heap.size w).alloc (Nat.le_refl _) (.cells #[fv c1 c2, sv] 129))
  have L := hid h
  have c0 : (w.alloc (.cells #[fv c1 c2, sv] 129)).cell? ⟨w.heap.size, 0, none⟩ = some (fv c1 c2) := by simp
  have c0' : (w.alloc (.cells #[fv c1 c2, sv] 129)).cell? ⟨w.heap.size, 1, none⟩ = some sv := by simp
  have C0 := hid c0
  have C1 := hid c0'
  clear h c0 c0'
  go_enter Ybaz.func53, Ybaz.ntmps53
  go_wp2_with (refine wpList_box_as rfl 129 _ rfl #[fv c1 c2, sv] rfl (bx129 _ _) ?_)
  go_loopw [5, 6] (fun x y W => ∃ a : Nat, a ≤ N ∧ x = vi a ∧ y = vi (a + 20) ∧ Below w.heap.size w W ∧ W.cell? ⟨w.heap.size, 0, none⟩ = some (fv c1 c2) ∧ W.cell? ⟨w.heap.size, 1, none⟩ = some sv) (fun x _ _ => N + 20 - (intOf x).toNat)
  case atStart => exact ⟨0, Nat.zero_le _, rfl, rfl, B0.out, C0.out, C1.out⟩
  case round =>
    obtain ⟨a, h1, rfl, rfl, hbel, hc, hc'⟩ := hrel
    clear B0 C0 C1
    have hsz : w.heap.size + 1 ≤ wr.heap.size := World.block_lt_of_cell? _ _ hc
    by_cases hlt : a + 20 ≤ N
    · have hli : (a : Int) + 20 ≤ (N : Int) := by omega
      have II := hid (insertion_any N a (a + 20) c1 c2 sv wr (by omega) hlt hN (L.out.on hbel))
      have BL := hid hbel
      have HC := hid hc
      have HC' := hid hc'
      clear hbel
      go_wp2_with (go_at_call 72; refine II.out.mono ?_; rintro e W2 ⟨rfl, hb2⟩; have B2 := hid hb2; clear hb2 II)
      go_roundw
      case rel => exact ⟨a + 20, by omega, rfl, by go_num, BL.out.trans (B2.out.mono (by omega)), (Kept.ofBelow (E := fun _ => False) B2.out).cell (fun h => h) HC.out, (Kept.ofBelow (E := fun _ => False) B2.out).cell (fun h => h) HC'.out⟩
      case measure => simp [intOf]; omega
    · have hli : ¬ ((a : Int) + 20 ≤ (N : Int)) := by omega
      have II := hid (insertion_any N a N c1 c2 sv wr (by omega) (Nat.le_refl _) hN (L.out.on hbel))
      have BL := hid hbel
      have HC := hid hc
      have HC' := hid hc'
      clear hbel
      go_wp2_with (go_at_call 72; refine II.out.mono ?_; rintro e W2 ⟨rfl, hb2⟩; have B2 := hid hb2; clear hb2 II)
      have b2 := BL.out.trans (B2.out.mono (by omega : w.heap.size ≤ wr.heap.size))
      have d0 := (Kept.ofBelow (E := fun _ => False) B2.out).cell (fun h => h) HC.out
      have d1 := (Kept.ofBelow (E := fun _ => False) B2.out).cell (fun h => h) HC'.out
      have R0 := hid (show Below w.heap.size w W2 ∧ W2.cell? ⟨w.heap.size, 0, none⟩ = some (fv c1 c2) ∧ W2.cell? ⟨w.heap.size, 1, none⟩ = some sv from ⟨b2, d0, d1⟩)
      clear b2 d0 d1 BL B2 HC HC' hc hc' hsz
      go_loopw [4] (fun x W => ∃ bs : Nat, 20 ≤ bs ∧ bs ≤ 600 ∧ x = vi bs ∧ Below w.heap.size w W ∧ W.cell? ⟨w.heap.size, 0, none⟩ = some (fv c1 c2) ∧ W.cell? ⟨w.heap.size, 1, none⟩ = some sv) (fun x _ => N - (intOf x).toNat)
      case atStart => exact ⟨20, by omega, by omega, rfl, R0.out⟩
      case round =>
        obtain ⟨bs, g1, g2, rfl, hbel, hc, hc'⟩ := hrel
        clear R0
        have hsz : w.heap.size + 1 ≤ wr.heap.size := World.block_lt_of_cell? _ _ hc
        by_cases hbs : bs < N
        · have hbi : (bs : Int) < (N : Int) := by omega
          have R1 := hid (show Below w.heap.size w wr ∧ wr.cell? ⟨w.heap.size, 0, none⟩ = some (fv c1 c2) ∧ wr.cell? ⟨w.heap.size, 1, none⟩ = some sv from ⟨hbel, hc, hc'⟩)
          clear hbel hc hc'
          go_wp2
          go_loopw [5, 6] (fun x y W => ∃ a : Nat, a ≤ N ∧ x = vi a ∧ y = vi (a + 2 * bs) ∧ Below w.heap.size w W ∧ W.cell? ⟨w.heap.size, 0, none⟩ = some (fv c1 c2) ∧ W.cell? ⟨w.heap.size, 1, none⟩ = some sv) (fun x _ _ => N + 1 - (intOf x).toNat)
          case atStart => exact ⟨0, Nat.zero_le _, rfl, by go_num, R1.out⟩
          case round =>
            obtain ⟨a', k1, rfl, rfl, hbel, hc, hc'⟩ := hrel
            clear R1 hsz
            have hsz : w.heap.size + 1 ≤ wr.heap.size := World.block_lt_of_cell? _ _ hc
            by_cases hle : a' + 2 * bs ≤ N
            · have hlei : (a' : Int) + 2 * (bs : Int) ≤ (N : Int) := by omega
              have SI := hid (symmerge_any N c1 c2 sv hN N a' (a' + bs) (a' + 2 * bs) wr (by omega) (by omega) (by omega) hle (L.out.on hbel))
              have BL := hid hbel
              have HC := hid hc
              have HC' := hid hc'
              clear hbel
              go_wp2_with (go_at_call 73; refine SI.out.mono ?_; rintro e W2 ⟨rfl, hb2⟩; have B2 := hid hb2; clear hb2 SI)
              go_roundw
              case rel => exact ⟨a' + 2 * bs, by omega, rfl, by go_num, BL.out.trans (B2.out.mono (by omega)), (Kept.ofBelow (E := fun _ => False) B2.out).cell (fun h => h) HC.out, (Kept.ofBelow (E := fun _ => False) B2.out).cell (fun h => h) HC'.out⟩
              case measure => simp [intOf]; omega
            · have hlei : ¬ ((a' : Int) + 2 * (bs : Int) ≤ (N : Int)) := by omega
              have BL := hid hbel
              have HC := hid hc
              have HC' := hid hc'
              by_cases hmn : a' + bs < N
              · have hmi : (a' : Int) + (bs : Int) < (N : Int) := by omega
                have SI := hid (symmerge_any N c1 c2 sv hN N a' (a' + bs) N wr (by omega) (by omega) hmn (Nat.le_refl _) (L.out.on hbel))
                clear hbel
                go_wp2_with (go_at_call 73; refine SI.out.mono ?_; rintro e W2 ⟨rfl, hb2⟩; have B2 := hid hb2; clear hb2 SI)
                go_roundw
                case rel => exact ⟨bs * 2, by omega, by omega, by go_num, BL.out.trans (B2.out.mono (by omega)), (Kept.ofBelow (E := fun _ => False) B2.out).cell (fun h => h) HC.out, (Kept.ofBelow (E := fun _ => False) B2.out).cell (fun h => h) HC'.out⟩
                case measure => simp [intOf]; omega
              · have hmi : ¬ ((a' : Int) + (bs : Int) < (N : Int)) := by omega
                clear hbel
                go_wp2
                go_roundw
                case rel => exact ⟨bs * 2, by omega, by omega, by go_num, BL.out, HC.out, HC'.out⟩
                case measure => simp [intOf]; omega
        · have hbi : ¬ ((bs : Int) < (N : Int)) := by omega
          have BL := hid hbel
          clear hbel
          go_wp2
          go_end0
          exact ⟨rfl, BL.out⟩
end Go.Proofs.YbulkdsicGreat
