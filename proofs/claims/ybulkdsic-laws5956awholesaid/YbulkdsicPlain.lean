/-
  THE PLAIN LAW: the first need start whose count exceeds one, as a function of the list alone. No Go in sight.
-/
namespace Go.Proofs.Ybulkdsic

/-- 's' places are still to be skipped; 'p' is the place of the list's head. -/
def md : List Int → Nat → Nat → Int
  | [], _, _ => -1
  | _ :: xs, s + 1, p => md xs s (p + 1)
  | x :: xs, 0, p => if 1 < x then (p : Int) else md xs x.toNat (p + 1)

theorem md_skip (l : List Int) : ∀ (s p : Nat), md l s p = md (l.drop s) 0 (p + s) := by
  induction l with
  | nil => intro s p; simp [md]
  | cons x xs ih =>
    intro s p
    cases s with
    | zero => simp
    | succ s => rw [md, ih s (p + 1)]; simp; congr 1; omega

theorem drop_cons (zs : List Int) (p : Nat) (h : p < zs.length) : zs.drop p = zs.getD p 0 :: zs.drop (p + 1) := by
  rw [List.drop_eq_getElem_cons h]; simp [h]

theorem md_end (zs : List Int) (s p : Nat) (h : zs.length ≤ p) : md (zs.drop p) s p = -1 := by
  rw [List.drop_eq_nil_of_le h]; rfl

theorem md_hit (zs : List Int) (p : Nat) (h : p < zs.length) (hx : 1 < zs.getD p 0) : md (zs.drop p) 0 p = p := by
  rw [drop_cons zs p h, md, if_pos hx]

theorem md_step (zs : List Int) (p : Nat) (h : p < zs.length) (hx : ¬ 1 < zs.getD p 0) : md (zs.drop p) 0 p = md (zs.drop (p + 1)) (zs.getD p 0).toNat (p + 1) := by
  rw [drop_cons zs p h, md, if_neg hx]

theorem md_jump (zs : List Int) (p : Nat) (h : p < zs.length) (hx : ¬ 1 < zs.getD p 0) :
    md (zs.drop p) 0 p = md (zs.drop (p + 1 + (zs.getD p 0).toNat)) 0 (p + 1 + (zs.getD p 0).toNat) := by
  rw [md_step zs p h hx, md_skip, List.drop_drop]

theorem md_wait (zs : List Int) (s p : Nat) (h : p < zs.length) : md (zs.drop p) (s + 1) p = md (zs.drop (p + 1)) s (p + 1) := by
  rw [drop_cons zs p h, md]

end Go.Proofs.Ybulkdsic
