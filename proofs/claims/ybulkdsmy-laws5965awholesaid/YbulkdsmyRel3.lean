import Derived.Test.YbulkdsmyRelK
import Derived.Deep.Cut
set_option linter.unusedSimpArgs false
namespace Go.Proofs.Ybulkdsmy
open Go.RowKit

theorem m_links (v : Value) (w : World) : Sem.run Yba.prog (method 248 44 v "Links") w = .ok (48, v) w := by kernel_rfl
theorem m_relinked (v : Value) (w : World) : Sem.run Yba.prog (method 248 44 v "Relinked") w = .ok (49, v) w := by kernel_rfl
theorem m_changed (v : Value) (w : World) : Sem.run Yba.prog (method 248 48 v "HoldersChanged") w = .ok (50, v) w := by kernel_rfl
theorem addTo_len (se : Pr) (L : List Pr) (p : Pr) : (addTo se L p).length ≤ L.length + 1 := by
  unfold addTo
  split
  · omega
  · simp
theorem fold_len (se : Pr) : ∀ (l L : List Pr), (l.foldl (addTo se) L).length ≤ L.length + l.length
  | [], L => by simp
  | p :: l, L => by
    have h1 := fold_len se l (addTo se L p)
    have h2 := addTo_len se L p
    simp only [List.foldl_cons, List.length_cons]
    omega
theorem linked_len (se : Pr) (l : List Pr) : (linked se l).length ≤ l.length := by
  have := fold_len se l []
  simpa [linked] using this

/-- The links that Relink makes. -/
def links0 (se pr su : Pr) (pg : Bool) (PL : List Pr) : List Pr := linked se ((if pg then [] else [pr]) ++ [su] ++ PL)
theorem changeFor_len (se pr su : Pr) (td : Option (Pr × Pr)) : (changeFor se pr su td).length = 124 := by cases td <;> exact chc_len _ _ _ _
theorem changeFor_one (se pr su : Pr) (td : Option (Pr × Pr)) : ∀ v ∈ changeFor se pr su td, v.oneCell' = true := by cases td <;> exact chc_one _ _ _ _
theorem info56c (se pr su : Pr) (td : Option (Pr × Pr)) : (Yba.prog.info? 56).map (·.size) = some (changeFor se pr su td).toArray.size := by rw [List.size_toArray, changeFor_len]; exact size56
theorem info56d (se pr su : Pr) (td : Option (Pr × Pr)) : (Yba.prog.info? 56).map (·.size) = some (changeFor se pr su td).length := by rw [changeFor_len]; exact size56
theorem one56c (se pr su : Pr) (td : Option (Pr × Pr)) : (changeFor se pr su td).toArray.all (·.oneCell') = true := all_oneCell_toArray (changeFor_one _ _ _ _)
theorem links0_len (se pr su : Pr) (pg : Bool) (PL : List Pr) : (links0 se pr su pg PL).length ≤ PL.length + 2 := by
  have h1 := linked_len se ((if pg then [] else [pr]) ++ [su] ++ PL)
  have h2 : (if pg then ([] : List Pr) else [pr]).length ≤ 1 := by cases pg <;> simp
  unfold links0
  simp only [List.length_append, List.length_cons, List.length_nil] at h1
  omega

set_option maxHeartbeats 4000000 in
set_option maxRecDepth 20000 in
theorem relink_any (base N HB PB lb G qg R T nR nQ : Nat) (lv tv : Value) (se pr su : Pr) (pg : Bool) (PL : List Pr) (Qs : List Sl) (td : Option (Pr × Pr)) (w : World) (h : Node0 w base N HB PB lb G qg R T nR nQ lv tv se pr su pg PL Qs) (htd : ToldAt w T tv se td) :
    Calls Yba.prog 7 #[.pointer (some ⟨N, 0, none⟩)] w fun e w' => e = .returned (.tuple #[]) ∧ Rel w w' base N HB lb qg R nQ lv tv se pr su pg (Qs.filter (keep (links0 se pr su pg PL))) (links0 se pr su pg PL) td := by
  have H0 := hid h
  have HTD := hid htd
  clear htd
  have RS0 := hid h.start
  have AP := hid h.ap
  have cl := cell?_alloc_old (.cells #[.pointer (some ⟨N, 0, none⟩)] 59) h.links
  have fr : (w.alloc (.cells #[.pointer (some ⟨N, 0, none⟩)] 59)).frozen? ⟨N, 6, none⟩ = false := by
    have := (there_kept_below ((Below.refl w.heap.size w).alloc (Nat.le_refl _) (.cells #[.pointer (some ⟨N, 0, none⟩)] 59)) h.room 6 (by omega)).2
    simpa using this
  have cz := cutZero27 R nR nR
  clear h
  go_enter Yba.func7, Yba.ntmps7
  go_wp2
  let S : World → Prop := fun w' => w'.cell? ⟨w.heap.size, 0, none⟩ = some (.pointer (some ⟨N, 0, none⟩)) ∧ w'.cell? ⟨N, 6, none⟩ = some (.slice (some ⟨R, 0, none⟩) nR nR)
  have s0 : S (w.alloc (.cells #[.pointer (some ⟨N, 0, none⟩)] 59)).drew := ⟨by simp, by simpa using cl⟩
  haveI : Nonempty (Wld S) := ⟨⟨_, s0⟩⟩
  have x1 : ∀ x : Wld S, x.w.cell? ⟨w.heap.size, 0, none⟩ = some (.pointer (some ⟨N, 0, none⟩)) := fun x => x.h.1
  have x2 : ∀ x : Wld S, x.w.cell? ⟨N, 6, none⟩ = some (.slice (some ⟨R, 0, none⟩) nR nR) := fun x => x.h.2
  refine wp_region_plan 8 [(true, 0), (true, 1), (true, 2), (true, 3), (true, 4), (true, 5), (true, 6), (true, 7), (false, 8)] (fun w' => ∃ x : Wld S, w' = x.w) (by kernel_rfl) (by kernel_rfl) (fun _ _ d _ _ h => by cases d <;> exact h) (inS s0) ?_
  repeat (refine wpPlan_q (by rfl) ?_; dsimp only [List.getElem_toArray, List.getElem_cons_zero, List.getElem_cons_succ]; (first
    | go_big_quiet_step (fail)); refine wpQuiet_nil ?_)
  refine wpPlan_e (by rfl) ?_
  dsimp only [List.getElem_toArray, List.getElem_cons_zero, List.getElem_cons_succ]
  go_wp2
  refine onward_normal (fun h => by cases h) (wpPlan_nil ?_)
  clear cl fr cz x1 x2 this s0
  generalize ((w.alloc (.cells #[.pointer (some ⟨N, 0, none⟩)] 59)).setCell ⟨N, 6, none⟩ (.slice (some ⟨R, 0, none⟩) 0 nR)).drew = W1 at RS0 ⊢
  have hbox := RS0.out.ns.box
  have hgone := RS0.out.gone
  go_upto_if 20 with fail
  go_cut [] from 7 (fun w' => ∃ kv, RS w w' base N w.heap.size HB PB lb G qg R nQ lv tv kv lv se pr su pg PL Qs (linked se (if pg then [] else [pr])) [])
  case first =>
    cases pg with
    | true =>
      go_wp2_with fail
      go_meet
      case rel => exact ⟨_, RS0.out⟩
    | false =>
      have K := hid (add_any pr se ⟨H0.out.okpr.1, H0.out.okpr.2.1⟩ ⟨H0.out.okse.1, H0.out.okse.2.1⟩ base N w.heap.size _ [] W1 RS0.out.ns (by simp))
      have HP := hid RS0.out.pred
      go_wp2_with (first
        | (show wpList _ _ _ (⟨_, .load 31 _, _, _, _, _⟩ :: _) _ _; refine wpList_load_mid rfl 31 _ rfl N 35 rfl (prc pr) _ HP Yba.underlying31 rfl (info31 _) ?_)
        | (go_at_call 10; refine K.out.mono ?_; rintro e w2 ⟨rfl, kv2, h1, h2, h3, h4⟩))
      go_meet
      case rel => exact ⟨kv2, RS0.out.added AP.out h1 h2 h3 h4⟩
  case rest =>
    obtain ⟨kv, rs⟩ := hcut
    have hl1 : (linked se (if pg then [] else [pr])).length + 1 ≤ 1000000 := by
      have h1 := linked_len se (if pg then [] else [pr])
      have h2 : (if pg then ([] : List Pr) else [pr]).length ≤ 1 := by cases pg <;> simp
      omega
    have K := hid (add_any su se ⟨H0.out.oksu.1, H0.out.oksu.2.1⟩ ⟨H0.out.okse.1, H0.out.okse.2.1⟩ base N w.heap.size kv _ wc rs.ns hl1)
    have HP := hid rs.succ
    have hbox := rs.ns.box
    have RS1 := hid rs
    clear rs RS0 hl1
    go_upto_region 6 with (first
      | (show wpList _ _ _ (⟨_, .load 31 _, _, _, _, _⟩ :: _) _ _; refine wpList_load_mid rfl 31 _ rfl N 56 rfl (prc su) _ HP Yba.underlying31 rfl (info31 _) ?_)
      | (go_at_call 10; refine K.out.mono ?_; rintro e w2 ⟨rfl, kv2, h1, h2, h3, h4⟩))
    have RS2 := hid (RS1.out.added AP.out h1 h2 h3 h4)
    clear h1 h2 h3 h4 K HP RS1 hbox
    have e2 : addTo se (linked se (if pg then [] else [pr])) su = (linked se ((if pg then [] else [pr]) ++ [su])) := by simp [linked]
    rw [e2] at RS2
    clear e2
    have hbox := RS2.out.ns.box
    have hpro := RS2.out.proto
    have nd := AP.out.nodup
    have K := hid (links_any PB base lb _ lv [] w2 RS2.out.plinks RS2.out.plog RS2.out.log (by simp) (AP.out.log PB (by simp)) (fun e => by rw [e] at nd; simp at nd))
    have ml := m_links
    go_wp2_with (first
      | (go_at_call 48; refine K.out.mono ?_; rintro e w3 ⟨rfl, gv3, h1, h2, h3⟩))
    have RS3 := hid (RS2.out.logged AP.out h1 h2 h3)
    clear h1 h2 h3 K RS2 hbox hpro nd
    obtain ⟨n, Hn'⟩ : ∃ n, n = PL.length := ⟨_, rfl⟩
    have Hn := hid Hn'
    rw [← Hn']
    clear Hn'
    have hn4 : n ≤ 4096 := by have h5 := H0.out.few; have h6 := Hn.out; omega
    have L2 := hid (rfl : linked se ((if pg then [] else [pr]) ++ [su]) = linked se ((if pg then [] else [pr]) ++ [su]))
    go_loopw [39] (fun i w' => ∃ (m : Nat) (kv gv : Value), m ≤ n ∧ i = .int .i64 m ∧ RS w w' base N w.heap.size HB PB lb G qg R nQ lv tv kv gv se pr su pg PL Qs ((PL.take m).foldl (addTo se) (linked se ((if pg then [] else [pr]) ++ [su]))) [.int .u8 76]) (fun i _ => n - (intOf i).toNat)
    case atStart => exact ⟨0, _, _, Nat.zero_le _, rfl, by simpa using RS3.out⟩
    case round =>
      obtain ⟨m, kv, gv, hm, rfl, rs⟩ := hrel
      have RS4 := hid rs
      clear rs RS3
      by_cases hlt : m < n
      · obtain ⟨p, hp⟩ : ∃ p, PL[m]? = some p := ⟨PL[m]'(by have := Hn.out; omega), List.getElem?_eq_getElem (by have := Hn.out; omega)⟩
        have hli : (m : Int) < (n : Int) := by omega
        obtain ⟨g, eg, hr⟩ := RS4.out.pls m p hp
        cases eg
        have HQ := hid hr
        have HV := hid (range_new wr (prc p) 31)
        have okp := H0.out.okPL p (List.mem_of_getElem? hp)
        have bl : Below wr.heap.size wr (wr.alloc (.cells (prc p).toArray 31)) := (Below.refl _ _).alloc (Nat.le_refl _) _
        have RS5 := hid (RS4.out.below bl)
        have hlen : ((PL.take m).foldl (addTo se) (linked se ((if pg then [] else [pr]) ++ [su]))).length + 1 ≤ 1000000 := by
          have h1 := fold_len se (PL.take m) (linked se ((if pg then [] else [pr]) ++ [su]))
          have h2 := linked_len se ((if pg then [] else [pr]) ++ [su])
          have h3 : (if pg then ([] : List Pr) else [pr]).length ≤ 1 := by cases pg <;> simp
          have h4 := List.length_take_le m PL
          have h5 := H0.out.few
          have h6 := Hn.out
          simp only [List.length_append, List.length_cons, List.length_nil] at h2
          omega
        have K := hid (add_any p se ⟨okp.1, okp.2.1⟩ ⟨H0.out.okse.1, H0.out.okse.2.1⟩ base N w.heap.size kv _ _ RS5.out.ns hlen)
        have HP := hid hp
        clear bl hr hp okp hlen RS4
        go_wp2_with (first
          | (show wpList _ _ _ (⟨_, .load 31 (.tmp 41), _, _, _, _⟩ :: _) _ _; refine wpList_load_mid rfl 31 _ rfl G (m * 21) rfl (prc p) _ HQ Yba.underlying31 rfl (info31 _) ?_)
          | (show wpList _ _ _ (⟨_, .alloc 31, _, _, _, _⟩ :: _) _ _; refine wpList_newvar rfl rfl 31 rfl _ _ rfl (prc zp).toArray (prc p).toArray al31 rfl rfl (info31a _) (by rw [prc_sz, prc_sz]) (one31 _) ?_)
          | (show wpList _ _ _ (⟨_, .load 31 (.tmp 4), _, _, _, _⟩ :: _) _ _; refine wpList_load_mid rfl 31 _ rfl wr.heap.size 0 rfl (prc p) _ HV Yba.underlying31 rfl (info31 _) ?_)
          | (go_at_call 10; refine K.out.mono ?_; rintro e w5 ⟨rfl, kv5, h1, h2, h3, h4⟩))
        go_roundw
        case rel =>
          refine ⟨m + 1, kv5, gv, by omega, by go_num, ?_⟩
          have := RS5.out.added AP.out h1 h2 h3 h4
          rw [List.take_add_one, HP.out, List.foldl_append]
          exact this
        case measure => simp [intOf]; omega
      · have hmn : m = n := by omega
        have RS5 := hid (show RS w wr base N w.heap.size HB PB lb G qg R nQ lv tv kv gv se pr su pg PL Qs (links0 se pr su pg PL) [.int .u8 76] by
          have h := RS4.out
          rw [hmn, Hn.out, List.take_length] at h
          simpa [links0, linked] using h)
        clear RS4
        go_upto_region 11 with fail
        obtain ⟨sa, cap, hkv, hlinks, hsa⟩ := (RS5.out.below (drew_below wr)).ns.links
        have K := hid (delete_any Qs (links0 se pr su pg PL) H0.out.okQ Qs.length nQ w.heap.size N cap qg sa wr.drew rfl (by have := H0.out.nq; omega) (by have := H0.out.nq; have := H0.out.few; omega) ⟨(RS5.out.below (drew_below wr)).ns.box, hlinks⟩ (RS5.out.below (drew_below wr)).qs (by rw [← H0.out.nq]; exact (RS5.out.below (drew_below wr)).qroom)
          (by have := H0.out.oldq; omega) (fun e => by have nd := AP.out.nodup; rw [e] at nd; simp at nd) (fun x hx e => RS5.out.kat.ne (y := qg) H0.out.oldq (fun e2 => by have := Option.some.inj e2; have nd := AP.out.nodup; rw [this] at nd; simp at nd) (by rw [hsa x hx, e])))
        have nBq : w.heap.size ≠ qg := by have := H0.out.oldq; omega
        have nNq : N ≠ qg := fun e => by have nd := AP.out.nodup; rw [e] at nd; simp at nd
        clear hkv hlinks hsa
        let S : World → Prop := fun w' => w'.cell? ⟨w.heap.size, 0, none⟩ = some (.pointer (some ⟨N, 0, none⟩)) ∧ w'.cell? ⟨N, 4, none⟩ = some (.slice (some ⟨qg, 0, none⟩) Qs.length nQ)
        have s0 : S wr.drew := ⟨by simpa using RS5.out.ns.box, by simpa using RS5.out.quiet⟩
        haveI : Nonempty (Wld S) := ⟨⟨_, s0⟩⟩
        have x1 : ∀ x : Wld S, x.w.cell? ⟨w.heap.size, 0, none⟩ = some (.pointer (some ⟨N, 0, none⟩)) := fun x => x.h.1
        have x2 : ∀ x : Wld S, x.w.cell? ⟨N, 4, none⟩ = some (.slice (some ⟨qg, 0, none⟩) Qs.length nQ) := fun x => x.h.2
        refine wp_region_plan 9 [(true, 0), (true, 1), (true, 2), (true, 3), (true, 4), (true, 5), (false, 6), (true, 7), (true, 8), (false, 9)] (fun w' => ∃ x : Wld S, w' = x.w) (by kernel_rfl) (by kernel_rfl) (fun _ _ d _ _ h => by cases d <;> exact h) (inS s0) ?_
        repeat (refine wpPlan_q (by rfl) ?_; dsimp only [List.getElem_toArray, List.getElem_cons_zero, List.getElem_cons_succ]; (first
          | go_big_quiet_step (fail)); refine wpQuiet_nil ?_)
        refine wpPlan_e (by rfl) ?_
        dsimp only [List.getElem_toArray, List.getElem_cons_zero, List.getElem_cons_succ]
        go_wp2_with (go_at_call 12; refine K.out.mono ?_; rintro e w6 ⟨rfl, hq6, hk6, hr6⟩)
        refine onward_normal (fun _ => inS (show S w6 from ⟨hk6.cell nBq s0.1, hk6.cell nNq s0.2⟩)) ?_
        have RS6 := hid ((RS5.out.below (drew_below wr)).cleared AP.out hq6 hk6 (by have := H0.out.nq; rw [this]; exact hr6))
        have c6 := hk6.cell nNq s0.2
        have f6 : w6.frozen? ⟨N, 4, none⟩ = false := by
          have := (hk6.there nNq (RS5.out.below (drew_below wr)).ns.room 4 (by omega)).2
          simpa using this
        repeat (refine wpPlan_q (by rfl) ?_; dsimp only [List.getElem_toArray, List.getElem_cons_zero, List.getElem_cons_succ]; (first
          | go_big_quiet_step (fail)); refine wpQuiet_nil ?_)
        refine wpPlan_e (by rfl) ?_
        dsimp only [List.getElem_toArray, List.getElem_cons_zero, List.getElem_cons_succ]
        go_wp2
        refine onward_normal (fun h => by cases h) (wpPlan_nil ?_)
        clear x1 x2 s0 this K hq6 hk6 hr6 c6 f6 RS5 nBq
        generalize w6.setCell ⟨N, 4, none⟩ (.slice (some ⟨qg, 0, none⟩) (Qs.filter (keep (links0 se pr su pg PL))).length nQ) = W6 at RS6 ⊢
        have hbox := RS6.out.ns.box
        have hpro := RS6.out.proto
        have hPB : gv.ownBlock ≠ some PB := RS6.out.gat.ne (RS6.out.old PB (by simp)) (AP.out.log PB (by simp))
        have K := hid (relinked_any PB base lb gv _ W6 RS6.out.plog RS6.out.log (by simp) hPB)
        have ml := m_relinked
        go_upto_region 13 with (first
          | (go_at_call 49; refine K.out.mono ?_; rintro e w7 ⟨rfl, gv7, h1, h2, h3⟩))
        have RS7 := hid (RS6.out.logged AP.out h1 h2 h3)
        clear h1 h2 h3 K RS6 hbox hpro hPB ml
        have hTR : ¬ RE N R lb qg HB lv T := fun he => by
          have ht := H0.out.tap
          simp only [List.mem_cons, List.not_mem_nil, or_false, not_or] at ht
          obtain ⟨t1, t2, t3, t4, t5, t6, t7⟩ := ht
          rcases he with e | e | e | e | e | e
          · exact t1 e
          · exact t7 e
          · exact t4 e
          · exact t6 e
          · exact t2 e
          · exact H0.out.ltap e
        go_cut [94] from 61 (fun b w' => b = .bool (tellOf pr su td) ∧ RS w w' base N w.heap.size HB PB lb G qg R nQ lv tv kv gv7 se pr su pg PL (Qs.filter (keep (links0 se pr su pg PL))) (links0 se pr su pg PL) [.int .u8 76, .int .u8 82])
        case first =>
          let S : World → Prop := fun w' => InB w7 w'
          have s0 : S w7.drew := drew_below w7
          haveI : Nonempty (Wld S) := ⟨⟨_, s0⟩⟩
          have x1 : ∀ x : Wld S, x.w.cell? ⟨w.heap.size, 0, none⟩ = some (.pointer (some ⟨N, 0, none⟩)) := fun x => (RS7.out.below x.h).ns.box
          have x2 : ∀ x : Wld S, x.w.cell? ⟨N, 78, none⟩ = some tv := fun x => (RS7.out.below x.h).told
          have Y1 := hid (fun (x : Wld S) => (RS7.out.below x.h).pred)
          have Y2 := hid (fun (x : Wld S) => (RS7.out.below x.h).succ)
          cases td with
          | none =>
            have e : tv = .pointer none := HTD.out
            subst e
            refine wp_region_plan 34 [(true, 0), (true, 1), (true, 2), (true, 3), (true, 4), (true, 5), (true, 6), (true, 7), (true, 8), (true, 9), (true, 10), (true, 11), (true, 12), (true, 13), (true, 14), (true, 15), (true, 16), (true, 17), (true, 18), (true, 19), (true, 20), (true, 21), (true, 22), (true, 23), (true, 24), (true, 25), (true, 26), (true, 27), (true, 28), (true, 29), (true, 30), (true, 31), (true, 32), (true, 33)] (fun w' => ∃ x : Wld S, w' = x.w) (by kernel_rfl) (by kernel_rfl) (fun _ _ d _ _ h => by cases d <;> exact h) (inS s0) ?_
            repeat (refine wpPlan_q (by rfl) ?_; dsimp only [List.getElem_toArray, List.getElem_cons_zero, List.getElem_cons_succ]; (first
              | go_big_quiet_step (fail)); refine wpQuiet_nil ?_)
            refine wpPlan_nil ?_
            go_wp2_with fail
            go_meet
            case rel => exact ⟨rfl, RS7.out.below s0⟩
          | some tt =>
            obtain ⟨tp, ts⟩ := tt
            obtain ⟨e, hT, okp, oks⟩ := HTD.out
            subst e
            have Y3 := hid (fun (x : Wld S) => (plc_parts ((RS7.out.below x.h).kept.range hTR hT)).2.2)
            have Y4 := hid (fun (x : Wld S) => (plc_parts ((RS7.out.below x.h).kept.range hTR hT)).2.1)
            have E1 := hid (neq31 pr tp H0.out.okpr okp)
            have E2 := hid (neq31 su ts H0.out.oksu oks)
            have TE := hid (show tellOf pr su (some (tp, ts)) = (!pr.same tp || !su.same ts) from rfl)
            clear hT okp oks
            cases h1 : pr.same tp with
            | false =>
              rw [h1] at E1 TE
              simp only [Bool.not_true, Bool.not_false] at E1
              clear h1
              refine wp_region_plan 34 [(true, 0), (true, 1), (true, 2), (true, 3), (true, 4), (true, 5), (true, 6), (true, 7), (true, 8), (true, 9), (true, 10), (true, 11), (true, 12), (true, 13), (true, 14), (true, 15), (true, 16), (true, 17), (true, 18), (true, 19), (true, 20), (true, 21), (true, 22), (true, 23), (true, 24), (true, 25), (true, 26), (true, 27), (true, 28), (true, 29), (true, 30), (true, 31), (true, 32), (true, 33)] (fun w' => ∃ x : Wld S, w' = x.w) (by kernel_rfl) (by kernel_rfl) (fun _ _ d _ _ h => by cases d <;> exact h) (inS s0) ?_
              repeat (refine wpPlan_q (by rfl) ?_; dsimp only [List.getElem_toArray, List.getElem_cons_zero, List.getElem_cons_succ]; (first
                | (show wpQuiet _ _ _ _ (⟨_, .load 31 (.tmp 69), _, _, _, _⟩ :: _) _; refine wpQuiet_load_mid rfl 31 _ rfl N 35 rfl (prc pr) _ (fun _ ⟨x, hx⟩ => hx ▸ Y1.out x) Yba.underlying31 rfl (info31 _) ?_; simp only [Act.put, List.setIfInBounds_toArray, List.set_cons_succ, List.set_cons_zero])
                | (show wpQuiet _ _ _ _ (⟨_, .load 31 (.tmp 77), _, _, _, _⟩ :: _) _; refine wpQuiet_load_mid rfl 31 _ rfl T 42 rfl (prc tp) _ (fun _ ⟨x, hx⟩ => hx ▸ Y3.out x) Yba.underlying31 rfl (info31 _) ?_; simp only [Act.put, List.setIfInBounds_toArray, List.set_cons_succ, List.set_cons_zero])
                | (show wpQuiet _ _ _ _ (⟨_, .load 31 (.tmp 84), _, _, _, _⟩ :: _) _; refine wpQuiet_load_mid rfl 31 _ rfl N 56 rfl (prc su) _ (fun _ ⟨x, hx⟩ => hx ▸ Y2.out x) Yba.underlying31 rfl (info31 _) ?_; simp only [Act.put, List.setIfInBounds_toArray, List.set_cons_succ, List.set_cons_zero])
                | (show wpQuiet _ _ _ _ (⟨_, .load 31 (.tmp 91), _, _, _, _⟩ :: _) _; refine wpQuiet_load_mid rfl 31 _ rfl T 21 rfl (prc ts) _ (fun _ ⟨x, hx⟩ => hx ▸ Y4.out x) Yba.underlying31 rfl (info31 _) ?_; simp only [Act.put, List.setIfInBounds_toArray, List.set_cons_succ, List.set_cons_zero])
                | (show wpQuiet _ _ _ _ (⟨_, .binOp .neq 31 (.tmp 70) _ _, _, _, _, _⟩ :: _) _; refine wpQuiet_cmp rfl .neq _ _ 31 _ rfl (prc pr).toArray (prc tp).toArray rfl rfl eg31 _ E1.out ?_; simp only [Act.put, List.setIfInBounds_toArray, List.set_cons_succ, List.set_cons_zero])
                | (show wpQuiet _ _ _ _ (⟨_, .binOp .neq 31 (.tmp 85) _ _, _, _, _, _⟩ :: _) _; refine wpQuiet_cmp rfl .neq _ _ 31 _ rfl (prc su).toArray (prc ts).toArray rfl rfl eg31 _ E2.out ?_; simp only [Act.put, List.setIfInBounds_toArray, List.set_cons_succ, List.set_cons_zero])
                | go_big_quiet_step (fail)); refine wpQuiet_nil ?_)
              refine wpPlan_nil ?_
              go_wp2_with fail
              go_meet
              case rel => exact ⟨by rw [TE.out]; rfl, RS7.out.below s0⟩
            | true =>
              rw [h1] at E1 TE
              simp only [Bool.not_true, Bool.not_false] at E1
              clear h1
              generalize su.same ts = b2 at E2 TE
              refine wp_region_plan 34 [(true, 0), (true, 1), (true, 2), (true, 3), (true, 4), (true, 5), (true, 6), (true, 7), (true, 8), (true, 9), (true, 10), (true, 11), (true, 12), (true, 13), (true, 14), (true, 15), (true, 16), (true, 17), (true, 18), (true, 19), (true, 20), (true, 21), (true, 22), (true, 23), (true, 24), (true, 25), (true, 26), (true, 27), (true, 28), (true, 29), (true, 30), (true, 31), (true, 32), (true, 33)] (fun w' => ∃ x : Wld S, w' = x.w) (by kernel_rfl) (by kernel_rfl) (fun _ _ d _ _ h => by cases d <;> exact h) (inS s0) ?_
              repeat (refine wpPlan_q (by rfl) ?_; dsimp only [List.getElem_toArray, List.getElem_cons_zero, List.getElem_cons_succ]; (first
                | (show wpQuiet _ _ _ _ (⟨_, .load 31 (.tmp 69), _, _, _, _⟩ :: _) _; refine wpQuiet_load_mid rfl 31 _ rfl N 35 rfl (prc pr) _ (fun _ ⟨x, hx⟩ => hx ▸ Y1.out x) Yba.underlying31 rfl (info31 _) ?_; simp only [Act.put, List.setIfInBounds_toArray, List.set_cons_succ, List.set_cons_zero])
                | (show wpQuiet _ _ _ _ (⟨_, .load 31 (.tmp 77), _, _, _, _⟩ :: _) _; refine wpQuiet_load_mid rfl 31 _ rfl T 42 rfl (prc tp) _ (fun _ ⟨x, hx⟩ => hx ▸ Y3.out x) Yba.underlying31 rfl (info31 _) ?_; simp only [Act.put, List.setIfInBounds_toArray, List.set_cons_succ, List.set_cons_zero])
                | (show wpQuiet _ _ _ _ (⟨_, .load 31 (.tmp 84), _, _, _, _⟩ :: _) _; refine wpQuiet_load_mid rfl 31 _ rfl N 56 rfl (prc su) _ (fun _ ⟨x, hx⟩ => hx ▸ Y2.out x) Yba.underlying31 rfl (info31 _) ?_; simp only [Act.put, List.setIfInBounds_toArray, List.set_cons_succ, List.set_cons_zero])
                | (show wpQuiet _ _ _ _ (⟨_, .load 31 (.tmp 91), _, _, _, _⟩ :: _) _; refine wpQuiet_load_mid rfl 31 _ rfl T 21 rfl (prc ts) _ (fun _ ⟨x, hx⟩ => hx ▸ Y4.out x) Yba.underlying31 rfl (info31 _) ?_; simp only [Act.put, List.setIfInBounds_toArray, List.set_cons_succ, List.set_cons_zero])
                | (show wpQuiet _ _ _ _ (⟨_, .binOp .neq 31 (.tmp 70) _ _, _, _, _, _⟩ :: _) _; refine wpQuiet_cmp rfl .neq _ _ 31 _ rfl (prc pr).toArray (prc tp).toArray rfl rfl eg31 _ E1.out ?_; simp only [Act.put, List.setIfInBounds_toArray, List.set_cons_succ, List.set_cons_zero])
                | (show wpQuiet _ _ _ _ (⟨_, .binOp .neq 31 (.tmp 85) _ _, _, _, _, _⟩ :: _) _; refine wpQuiet_cmp rfl .neq _ _ 31 _ rfl (prc su).toArray (prc ts).toArray rfl rfl eg31 _ E2.out ?_; simp only [Act.put, List.setIfInBounds_toArray, List.set_cons_succ, List.set_cons_zero])
                | go_big_quiet_step (fail)); refine wpQuiet_nil ?_)
              refine wpPlan_nil ?_
              go_wp2_with fail
              go_meet
              case rel => exact ⟨by rw [TE.out]; rfl, RS7.out.below s0⟩
        case rest =>
          obtain ⟨rfl, rs8⟩ := hcut
          have RS8 := hid rs8
          have hgv : gv7.ownBlock ≠ some (wc.heap.size + 3) := fun e => by
            have := ownBlock_lt rs8.log.own e
            omega
          clear rs8 RS7
          rcases Bool.eq_false_or_eq_true (tellOf pr su td) with htl | htl
          rotate_left
          · rw [htl]
            go_wp2_with fail
            refine bodyPost_end (results_none rfl _ _ _) rfl ?_
            exact ⟨rfl, RS8.out.mute htl⟩
          · rw [htl]
            go_upto_region 14 with fail
            let S : World → Prop := fun w' => InB wc w'
            have s0 : S wc.drew := drew_below wc
            haveI : Nonempty (Wld S) := ⟨⟨_, s0⟩⟩
            have x1 : ∀ x : Wld S, x.w.cell? ⟨w.heap.size, 0, none⟩ = some (.pointer (some ⟨N, 0, none⟩)) := fun x => (RS8.out.below x.h).ns.box
            have Y1 := hid (fun (x : Wld S) => (RS8.out.below x.h).ns.self)
            have Y2 := hid (fun (x : Wld S) => (RS8.out.below x.h).pred)
            have Y3 := hid (fun (x : Wld S) => (RS8.out.below x.h).succ)
            have K := hid (place_any se pr su wc.drew)
            refine wp_region_plan 14 [(true, 0), (true, 1), (true, 2), (true, 3), (true, 4), (true, 5), (true, 6), (true, 7), (true, 8), (true, 9), (true, 10), (true, 11), (false, 12), (true, 13)] (fun w' => ∃ x : Wld S, w' = x.w) (by kernel_rfl) (by kernel_rfl) (fun _ _ d _ _ h => by cases d <;> exact h) (inS s0) ?_
            repeat (refine wpPlan_q (by rfl) ?_; dsimp only [List.getElem_toArray, List.getElem_cons_zero, List.getElem_cons_succ]; (first
              | (show wpQuiet _ _ _ _ (⟨_, .load 31 (.tmp 97), _, _, _, _⟩ :: _) _; refine wpQuiet_load_mid rfl 31 _ rfl N 14 rfl (prc se) _ (fun _ ⟨x, hx⟩ => hx ▸ Y1.out x) Yba.underlying31 rfl (info31 _) ?_; simp only [Act.put, List.setIfInBounds_toArray, List.set_cons_succ, List.set_cons_zero])
              | (show wpQuiet _ _ _ _ (⟨_, .load 31 (.tmp 101), _, _, _, _⟩ :: _) _; refine wpQuiet_load_mid rfl 31 _ rfl N 35 rfl (prc pr) _ (fun _ ⟨x, hx⟩ => hx ▸ Y2.out x) Yba.underlying31 rfl (info31 _) ?_; simp only [Act.put, List.setIfInBounds_toArray, List.set_cons_succ, List.set_cons_zero])
              | (show wpQuiet _ _ _ _ (⟨_, .load 31 (.tmp 105), _, _, _, _⟩ :: _) _; refine wpQuiet_load_mid rfl 31 _ rfl N 56 rfl (prc su) _ (fun _ ⟨x, hx⟩ => hx ▸ Y3.out x) Yba.underlying31 rfl (info31 _) ?_; simp only [Act.put, List.setIfInBounds_toArray, List.set_cons_succ, List.set_cons_zero])
              | go_big_quiet_step (fail)); refine wpQuiet_nil ?_)
            refine wpPlan_e (by rfl) ?_
            dsimp only [List.getElem_toArray, List.getElem_cons_zero, List.getElem_cons_succ]
            go_wp2_with (go_at_call 14; refine K.out.mono ?_; rintro e w9 ⟨rfl, hp9, ht9, hb9⟩)
            have b9 : Below wc.heap.size wc w9 := below_trans (drew_below wc) hb9
            refine onward_normal (fun _ => inS (show S w9 from b9)) ?_
            repeat (refine wpPlan_q (by rfl) ?_; dsimp only [List.getElem_toArray, List.getElem_cons_zero, List.getElem_cons_succ]; (first
              | go_big_quiet_step (fail)); refine wpQuiet_nil ?_)
            refine wpPlan_nil ?_
            have RS9 := hid (RS8.out.below b9)
            have HP9 := hid (show w9.rangeAt (wc.heap.size + 3) 0 (plc se su pr) from hp9)
            have hNP : w.heap.size ≤ wc.heap.size + 3 := by have h2 := RS8.out.kept.size; omega
            clear x1 Y1 Y2 Y3 K s0 this b9 hb9 hp9 ht9 RS8
            generalize wc.heap.size + 3 = NP at HP9 hgv hNP ⊢
            have hbox := RS9.out.ns.box
            have htold := RS9.out.told
            have K : Hid (Calls Yba.prog 15 #[.pointer (some ⟨NP, 0, none⟩), tv] w9 fun e w' => e = .returned (.agg (changeFor se pr su td).toArray) ∧ Below w9.heap.size w9 w') := by
              refine hid ?_
              cases td with
              | none =>
                have e : tv = .pointer none := HTD.out
                subst e
                exact since_nil _ w9
              | some tt =>
                obtain ⟨tp, ts⟩ := tt
                obtain ⟨e, hT, okp, oks⟩ := HTD.out
                subst e
                exact since_any NP T se su pr se ts tp H0.out.okse H0.out.oksu H0.out.okpr oks okp w9 HP9.out (RS9.out.kept.range hTR hT)
            have al56' := al56
            go_upto_region 16 with (first
              | (go_at_call 15; refine K.out.mono ?_; rintro e w10 ⟨rfl, hb10⟩)
              | (show wpList _ _ _ (⟨_, .alloc 56, _, _, _, _⟩ :: _) _ _; refine wpList_newvar rfl rfl 56 rfl _ _ rfl (chc zp zp 0 0).toArray (changeFor se pr su td).toArray al56' rfl rfl (info56c _ _ _ _) (by rw [chc_sz, List.size_toArray, changeFor_len]) (one56c _ _ _ _) ?_))
            have b10 : Below w9.heap.size w9 (w10.alloc (.cells (changeFor se pr su td).toArray 56)) := below_trans hb10 ((Below.refl _ _).alloc (Nat.le_refl _) _)
            have RS10 := hid (RS9.out.below b10)
            have HC := hid (range_new w10 (changeFor se pr su td) 56)
            have HP10 := hid (range_kept_below b10 HP9.out)
            have hN10 : N < w10.heap.size := Nat.lt_of_lt_of_le (World.block_lt_of_cell? w9 _ RS9.out.host) hb10.size
            have hNW : N < w.heap.size := RS9.out.old N (by simp)
            have hbox := RS10.out.ns.box
            have htold := RS10.out.told
            have hfr : (w10.alloc (.cells (changeFor se pr su td).toArray 56)).frozen? ⟨N, 78, none⟩ = false := by
              have := (RS10.out.ns.room 78 (by omega)).2
              simpa using this
            have hgCB : gv7.ownBlock ≠ some w10.heap.size := fun e => by
              have h1 := ownBlock_lt RS9.out.log.own e
              have h2 := hb10.size
              omega
            have hwCB : w.heap.size ≤ w10.heap.size := Nat.le_trans RS9.out.kept.size hb10.size
            clear K al56' RS9 HP9 hb10 b10
            generalize hcb : w10.heap.size = CB at HC hN10 hgCB hwCB ⊢
            clear hcb
            generalize w10.alloc (.cells (changeFor se pr su td).toArray 56) = W10 at RS10 HC HP10 hbox htold hfr ⊢
            go_upto_region 17 with fail
            have RS11 := hid (RS10.out.telling AP.out (.pointer (some ⟨NP, 0, none⟩)))
            have HC11 := hid (range_setCell HC.out ⟨N, 78, none⟩ (.pointer (some ⟨NP, 0, none⟩)) (fun e => absurd e (by dsimp only; omega)))
            have HP11 := hid (range_setCell HP10.out ⟨N, 78, none⟩ (.pointer (some ⟨NP, 0, none⟩)) (fun e => absurd e (by dsimp only; omega)))
            clear HC HP10 RS10 hbox htold hfr
            generalize W10.setCell ⟨N, 78, none⟩ (.pointer (some ⟨NP, 0, none⟩)) = W11 at RS11 HC11 HP11 ⊢
            let S : World → Prop := fun w' => w'.cell? ⟨w.heap.size, 0, none⟩ = some (.pointer (some ⟨N, 0, none⟩)) ∧ w'.cell? ⟨N, 0, none⟩ = some (.iface 48 (.pointer (some ⟨HB, 0, none⟩))) ∧ w'.rangeAt CB 0 (changeFor se pr su td)
            have s0 : S W11.drew := ⟨(RS11.out.below (drew_below W11)).ns.box, (RS11.out.below (drew_below W11)).host, range_kept_below (drew_below W11) HC11.out⟩
            haveI : Nonempty (Wld S) := ⟨⟨_, s0⟩⟩
            have x1 : ∀ x : Wld S, x.w.cell? ⟨w.heap.size, 0, none⟩ = some (.pointer (some ⟨N, 0, none⟩)) := fun x => x.h.1
            have x2 : ∀ x : Wld S, x.w.cell? ⟨N, 0, none⟩ = some (.iface 48 (.pointer (some ⟨HB, 0, none⟩))) := fun x => x.h.2.1
            have Y1 := hid (fun (x : Wld S) => x.h.2.2)
            have RS12 := hid (RS11.out.below (drew_below W11))
            have mc := m_changed
            have K := hid (changed_any HB base lb gv7 (.iface 39 (.pointer (some ⟨NP, 0, none⟩))) 0 (changeFor se pr su td) [.int .u8 76, .int .u8 82] W11.drew (changeFor_len _ _ _ _) (changeFor_one _ _ _ _) 39 ⟨NP, 0, none⟩ rfl (by omega) RS12.out.hlog RS12.out.hcalls RS12.out.hroom RS12.out.log (by simp)
              (RS12.out.gat.ne (RS12.out.old HB (by simp)) (AP.out.log HB (by simp))) (fun e => by have nd := AP.out.nodup; rw [e] at nd; simp at nd))
            refine wp_region_plan 8 [(true, 0), (true, 1), (true, 2), (true, 3), (true, 4), (true, 5), (true, 6), (false, 7)] (fun w' => ∃ x : Wld S, w' = x.w) (by kernel_rfl) (by kernel_rfl) (fun _ _ d _ _ h => by cases d <;> exact h) (inS s0) ?_
            repeat (refine wpPlan_q (by rfl) ?_; dsimp only [List.getElem_toArray, List.getElem_cons_zero, List.getElem_cons_succ]; (first
              | (show wpQuiet _ _ _ _ (⟨_, .load 56 (.tmp 6), _, _, _, _⟩ :: _) _; refine wpQuiet_load_mid rfl 56 _ rfl CB 0 rfl (changeFor se pr su td) _ (fun _ ⟨x, hx⟩ => hx ▸ Y1.out x) Yba.underlying56 rfl (info56d _ _ _ _) ?_; simp only [Act.put, List.setIfInBounds_toArray, List.set_cons_succ, List.set_cons_zero])
              | go_big_quiet_step (fail)); refine wpQuiet_nil ?_)
            refine wpPlan_e (by rfl) ?_
            dsimp only [List.getElem_toArray, List.getElem_cons_zero, List.getElem_cons_succ]
            go_wp2_with (go_at_call 50; refine K.out.mono ?_; rintro e w13 ⟨rfl, ⟨gv13, hl13, hm13⟩, hc2, hc3, hc127, hk13⟩)
            have oH : HB < w.heap.size := RS12.out.old HB (by simp)
            have ol : lb < w.heap.size := RS12.out.old lb (by simp)
            have nNk : ¬ (N = HB ∨ N = lb ∨ gv7.ownBlock = some N) := fun he => by
              rcases he with e | e | e
              · have nd := AP.out.nodup; rw [e] at nd; simp at nd
              · have nd := AP.out.nodup; rw [e] at nd; simp at nd
              · exact RS12.out.gat.ne hNW (AP.out.log N (by simp)) e
            have nBk : ¬ (w.heap.size = HB ∨ w.heap.size = lb ∨ gv7.ownBlock = some w.heap.size) := fun he => by
              rcases he with e | e | e
              · omega
              · omega
              · exact RS12.out.gB e
            have nCk : ¬ (CB = HB ∨ CB = lb ∨ gv7.ownBlock = some CB) := fun he => by
              rcases he with e | e | e
              · omega
              · omega
              · exact hgCB e
            refine onward_normal (fun _ => inS (show S w13 from ⟨hk13.cell nBk s0.1, hk13.cell nNk s0.2.1, hk13.range nCk s0.2.2⟩)) (wpPlan_nil ?_)
            go_wp2_with fail
            refine bodyPost_end (results_none rfl _ _ _) rfl ?_
            exact ⟨rfl, RS12.out.said AP.out htl hNP HP11.out hgv hl13 hc2 hc3 hc127 hk13⟩

end Go.Proofs.Ybulkdsmy
