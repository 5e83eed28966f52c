import Derived.Test.YbulkdsmyNum
namespace Go.Proofs.Ybulkdsmy
open Go.RowKit

/-- The borrow. -/
def bo (x y b : Int) : Int := if x < y + b then 1 else 0
theorem bo01 (x y b : Int) : bo x y b = 0 ∨ bo x y b = 1 := by unfold bo; split <;> simp

/-- A word that is all zeros or all ones. -/
def full32 (h : Int) : Prop := h = 0 ∨ h = 4294967295
def in64 (l : Int) : Prop := 0 ≤ l ∧ l < 18446744073709551616

theorem sub32b (x y b : Int) (hx : full32 x) (hy : full32 y) (hb : b = 0 ∨ b = 1) (w : World) :
    Calls Yba.prog 28 #[.int .u32 x, .int .u32 y, .int .u32 b] w fun e w' => e = .returned (.tuple #[.int .u32 ((x - y - b) % 4294967296), .int .u32 (bo x y b)]) ∧ w' = w :=
  sub32 x y b hx hy hb w

set_option maxHeartbeats 1000000 in
theorem minus_any (m l m' l' : Int) (hm : in64 m) (hl : in64 l) (hm' : in64 m') (hl' : in64 l') (w : World) :
    Calls Yba.prog 23 #[nm 0 m l, nm 0 m' l'] w fun e w' =>
      e = .returned (nm ((0 - 0 - bo m m' (bo l l' 0)) % 4294967296) ((m - m' - bo l l' 0) % 18446744073709551616) ((l - l' - 0) % 18446744073709551616)) ∧ Below w.heap.size w w' := by
  have s1 := sub64 l l' 0 hl.1 hl'.1 hl'.2 (.inl rfl)
  have s2 := sub64 m m' (bo l l' 0) hm.1 hm'.1 hm'.2 (bo01 _ _ _)
  have e1 : ∀ b, (if l < l' + b then (1 : Int) else 0) = bo l l' b := fun _ => rfl
  have e2 : ∀ b, (if m < m' + b then (1 : Int) else 0) = bo m m' b := fun _ => rfl
  simp only [e1] at s1
  simp only [e2] at s2
  have S3 := hid (sub32b 0 0 (bo m m' (bo l l' 0)) (.inl rfl) (.inl rfl) (bo01 _ _ _))
  have b01 := bo01 m m' (bo l l' 0)
  generalize bo m m' (bo l l' 0) = c2 at *
  generalize bo l l' 0 = c1 at *
  have hw : IntKind.u32.wrap c2 = c2 := u32_wrap_id _ (by omega) (by omega)
  generalize (m - m' - c1) % 18446744073709551616 = M at *
  generalize (l - l' - 0) % 18446744073709551616 = L at *
  generalize (0 - 0 - c2) % 4294967296 = H at *
  generalize bo 0 0 c2 = c3 at *
  unfold nm
  go_enter Yba.func23, Yba.ntmps23
  go_wp2_with (first | (go_at_call 28; refine (S3.out _).mono ?_; rintro e w' ⟨rfl, rfl⟩))
  refine bodyPost_ret (v := nm H M L) (results_cell Yba.results23 _ _ _ (b := w.heap.size + 2) (o := 0) rfl ?_) rfl ⟨rfl, ?_⟩
  · refine run_loadVar_mid _ _ _ 93 [.int .u32 H, .int .u64 M, .int .u64 L] _ ?_ Yba.underlying93 rfl (by kernel_rfl)
    have h := range_new ((w.alloc (.cells #[.int .u32 0, .int .u64 m, .int .u64 l] 93)).alloc (.cells #[.int .u32 0, .int .u64 m', .int .u64 l'] 93)) [.int .u32 H, .int .u64 M, .int .u64 L] 93
    simpa using h
  · exact (((Below.refl _ _).alloc (Nat.le_refl _) _).alloc (by simp) _).alloc (by simp; omega) _

set_option maxHeartbeats 1000000 in
theorem less_any (h m l h' m' l' : Int) (hh : full32 h) (hm : in64 m) (hl : in64 l) (hh' : full32 h') (hm' : in64 m') (hl' : in64 l') (w : World) :
    Calls Yba.prog 24 #[nm h m l, nm h' m' l'] w fun e w' =>
      e = .returned (.bool (bo h h' (bo m m' (bo l l' 0)) != 0)) ∧ Below w.heap.size w w' := by
  have s1 := sub64 l l' 0 hl.1 hl'.1 hl'.2 (.inl rfl)
  have s2 := sub64 m m' (bo l l' 0) hm.1 hm'.1 hm'.2 (bo01 _ _ _)
  have e1 : ∀ b, (if l < l' + b then (1 : Int) else 0) = bo l l' b := fun _ => rfl
  have e2 : ∀ b, (if m < m' + b then (1 : Int) else 0) = bo m m' b := fun _ => rfl
  simp only [e1] at s1
  simp only [e2] at s2
  have S3 := hid (sub32b h h' (bo m m' (bo l l' 0)) hh hh' (bo01 _ _ _))
  have b01 := bo01 m m' (bo l l' 0)
  generalize bo m m' (bo l l' 0) = c2 at *
  generalize bo l l' 0 = c1 at *
  have hw : IntKind.u32.wrap c2 = c2 := u32_wrap_id _ (by omega) (by omega)
  generalize (m - m' - c1) % 18446744073709551616 = M at *
  generalize (l - l' - 0) % 18446744073709551616 = L at *
  generalize (h - h' - c2) % 4294967296 = H at *
  generalize bo h h' c2 = c3 at *
  unfold nm
  go_enter Yba.func24, Yba.ntmps24
  go_wp2_with (first | (go_at_call 28; refine (S3.out _).mono ?_; rintro e w' ⟨rfl, rfl⟩))
  go_ret
  refine ⟨rfl, ?_⟩
  exact ((Below.refl _ _).alloc (Nat.le_refl _) _).alloc (by simp) _

/-- The way round from f to x, of bytes. -/
def rel (x f : Int) : Int := if x - f < 0 then x - f + 256 else x - f

theorem rel_any (x f : Int) (hx : 0 ≤ x ∧ x ≤ 255) (hf : 0 ≤ f ∧ f ≤ 255) (w : World) :
    Calls Yba.prog 16 #[.int .u8 x, .int .u8 f] w fun e w' => e = .returned (.int .i64 (rel x f)) ∧ w' = w := by
  go_enter Yba.func16, Yba.ntmps16
  by_cases h : x - f < 0
  · go_wp2
    go_ret
    exact ⟨by rw [rel, if_pos h]; rfl, rfl⟩
  · go_wp2
    go_ret
    exact ⟨by rw [rel, if_neg (by omega)]; rfl, rfl⟩

/-- Whether the byte i lies on the arc past f up to t. -/
def within (i f t : Int) : Bool := if f = t then true else if i = f then false else decide (rel i f ≤ rel t f)

theorem within8_any (i f t : Int) (hi : 0 ≤ i ∧ i ≤ 255) (hf : 0 ≤ f ∧ f ≤ 255) (ht : 0 ≤ t ∧ t ≤ 255) (w : World) :
    Calls Yba.prog 8 #[.int .u8 i, .int .u8 f, .int .u8 t] w fun e w' => e = .returned (.bool (within i f t)) ∧ w' = w := by
  have R1 := hid (rel_any i f hi hf)
  have R2 := hid (rel_any t f ht hf)
  have v1 : f = t → within i f t = true := fun h => if_pos h
  have v2 : f ≠ t → i = f → within i f t = false := fun h h' => by rw [within, if_neg h, if_pos h']
  have v3 : f ≠ t → i ≠ f → within i f t = decide (rel i f ≤ rel t f) := fun h h' => by rw [within, if_neg h, if_neg h']
  generalize within i f t = r at *
  generalize rel i f = a at *
  generalize rel t f = b at *
  go_enter Yba.func8, Yba.ntmps8
  by_cases h1 : f = t
  · subst h1
    rw [v1 rfl]
    clear v1 v2 v3
    go_wp2
    go_ret
    exact ⟨rfl, rfl⟩
  · by_cases h2 : i = f
    · subst h2
      rw [v2 h1 rfl]
      clear v1 v2 v3
      go_wp2
      go_ret
      exact ⟨rfl, rfl⟩
    · rw [v3 h1 h2]
      clear v1 v2 v3
      go_wp2_with (first
        | (go_at_call 16; with_reducible refine (R1.out _).mono ?_; rintro e w' ⟨rfl, rfl⟩)
        | (go_at_call 16; with_reducible refine (R2.out _).mono ?_; rintro e w' ⟨rfl, rfl⟩))
      go_ret
      exact ⟨rfl, rfl⟩

end Go.Proofs.Ybulkdsmy
