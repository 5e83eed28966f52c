import Derived.Test.YbulkdsmyRel1
import Derived.Deep.Cut
set_option linter.unusedSimpArgs false
namespace Go.Proofs.Ybulkdsmy
open Go.RowKit

/-- The links that the law expects. -/
def linked (se : Pr) (l : List Pr) : List Pr := l.foldl (addTo se) []

set_option maxHeartbeats 2000000 in
theorem Node0.start {w : World} {base N HB PB lb G qg R T nR nQ : Nat} {lv tv : Value} {se pr su : Pr} {pg : Bool} {PL : List Pr} {Qs : List Sl} (h : Node0 w base N HB PB lb G qg R T nR nQ lv tv se pr su pg PL Qs) :
    RS w (((w.alloc (.cells #[.pointer (some ⟨N, 0, none⟩)] 59)).setCell ⟨N, 6, none⟩ (.slice (some ⟨R, 0, none⟩) 0 nR)).drew) base N w.heap.size HB PB lb G qg R nQ lv tv (.slice (some ⟨R, 0, none⟩) 0 nR) lv se pr su pg PL Qs [] [] := by
  have nd := h.ap.nodup
  simp only [List.nodup_cons, List.mem_cons, List.not_mem_nil, or_false, not_or] at nd
  have al := h.ap.log
  simp only [List.mem_cons, List.not_mem_nil, or_false, forall_eq_or_imp, forall_eq] at al
  obtain ⟨⟨n1, n2, n3, n4, n5, n6⟩, _⟩ := nd
  have hN : N < w.heap.size := World.block_lt_of_cell? w _ h.host
  have hHB : HB < w.heap.size := World.block_lt_of_cell? w _ h.hlog
  have hPB : PB < w.heap.size := World.block_lt_of_cell? w _ h.plog
  have hlb : lb < w.heap.size := World.block_lt_of_cell? w _ h.log.cell
  obtain ⟨cur, hcur, hsz⟩ := h.rblk
  have hR : R < w.heap.size := (Array.getElem?_eq_some_iff.1 hcur).1
  have b0 : Below w.heap.size w (w.alloc (.cells #[.pointer (some ⟨N, 0, none⟩)] 59)) := (Below.refl _ _).alloc (Nat.le_refl _) _
  have k1 : Kept (fun k => k = N) w (((w.alloc (.cells #[.pointer (some ⟨N, 0, none⟩)] 59)).setCell ⟨N, 6, none⟩ (.slice (some ⟨R, 0, none⟩) 0 nR)).drew) := (((Kept.refl (fun k => k = N) w).alloc _).setCell (p := ⟨N, 6, none⟩) (.inl rfl) _).drew
  have nk : NodeKept N (fun o => o = 6) w (((w.alloc (.cells #[.pointer (some ⟨N, 0, none⟩)] 59)).setCell ⟨N, 6, none⟩ (.slice (some ⟨R, 0, none⟩) 0 nR)).drew) := fun o v ho hv => by
    rw [World.cell?_drew, World.cell?_setCell_other _ _ _ _ (fun he => ho (by cases he; rfl))]
    exact cell?_alloc_old _ hv
  have rm : (((w.alloc (.cells #[.pointer (some ⟨N, 0, none⟩)] 59)).setCell ⟨N, 6, none⟩ (.slice (some ⟨R, 0, none⟩) 0 nR)).drew).there N 0 83 := there_kept_below (drew_below _) (there_setCell (there_kept_below b0 h.room) _ _)
  have c6 := cell?_alloc_old (.cells #[.pointer (some ⟨N, 0, none⟩)] 59) h.links
  have RB : R ≠ w.heap.size := by omega
  have NB : N ≠ w.heap.size := by omega
  have ns : NS (((w.alloc (.cells #[.pointer (some ⟨N, 0, none⟩)] 59)).setCell ⟨N, 6, none⟩ (.slice (some ⟨R, 0, none⟩) 0 nR)).drew) base N w.heap.size se (.slice (some ⟨R, 0, none⟩) 0 nR) [] := by
    refine ⟨?_, ?_, rm, ⟨rfl, .inr ⟨R, nR, cur, rfl, h.low, (k1.block R hR (Ne.symm n6)).trans hcur, Nat.zero_le _, by unfold maxLen; have := h.few; omega, hsz, rfl⟩⟩, by simp, by simp, range_node nk h.self (fun j _ => by omega), ?_, ?_, NB, ?_⟩
    · rw [World.cell?_drew, World.cell?_setCell_other _ _ _ _ (fun he => by cases he)]
      simp
    · rw [World.cell?_drew]
      first | exact World.cell?_setCell_same _ _ _ c6 | exact World.cell?_setCell_same _ _ c6
    · exact fun he => n6 (Option.some.inj he).symm
    · exact fun he => RB (Option.some.inj he)
    · have := h.low
      have := k1.size
      omega
  have nHB : ¬ HB = N := fun e => n1 e.symm
  have nPB : ¬ PB = N := fun e => n2 e.symm
  have nlb : ¬ lb = N := fun e => n3 e.symm
  have nG : ¬ G = N := fun e => n4 e.symm
  have nq : ¬ qg = N := fun e => n5 e.symm
  refine ⟨ns, nk 0 _ (by omega) h.host, nk 1 _ (by omega) h.proto, (by have e := nk 4 _ (by omega) h.quiet; rw [← h.nq]; exact e), range_node nk h.pred (fun j _ => by omega), range_node nk h.succ (fun j _ => by omega), nk 78 _ (by omega) h.told, nk 80 _ (by omega) h.gone, k1.cell nPB h.plinks, k1.cell nPB h.plog, k1.cell nHB h.hlog, k1.cell nHB h.hcalls, k1.there nHB h.hroom,
    log_kept h.log k1 nlb (fun g hg he => al.1 (by rw [hg, he])), peers_kept h.pls k1 nG, fun i s hs => k1.range nq (h.qs i s hs), k1.there nq h.qroom, k1.weak (fun _ _ e => .inl e), .inl rfl, .inl rfl, ?_, Nat.le_refl _, fun he => ?_⟩
  · simp only [List.mem_cons, List.not_mem_nil, or_false, forall_eq_or_imp, forall_eq]
    exact ⟨hN, hHB, hPB, hlb, h.oldG, h.oldq, hR⟩
  · have := ownBlock_lt h.log.own he
    omega

end Go.Proofs.Ybulkdsmy
