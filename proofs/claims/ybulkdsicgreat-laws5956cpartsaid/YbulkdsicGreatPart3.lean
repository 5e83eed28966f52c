import Derived.Test.YbulkdsicGreatPart1
import Derived.Test.YbulkdsicGreatExec
import Derived.Test.YbulkdsicGreatSub1
set_option linter.unusedVariables false
set_option linter.unusedSimpArgs false
namespace Go.Proofs.YbulkdsicGreat
open Go.RowKit Go.Shelf

/-- The code behind the first k statements. -/
def dropC : Nat → Code → Code
  | 0, c => c
  | n + 1, .seq _ b => dropC n b
  | _, c => c
/-- What follows, by its name. -/
theorem wp_later {P : Program} {c t : Code} {Q : Exit → Act → World → Prop} {K : Act → World → Prop} {a : Act} {w : World} (hK : ∀ a w, Code.wp P t Q a w → K a w) (h : Code.wp P c (Exit.then (fun a w => Code.wp P t Q a w) Q) a w) : Code.wp P c (Exit.then K Q) a w :=
  wp_mono h fun e a w he => by
    cases e with
    | normal => exact hK _ _ he
    | _ => exact he
theorem run_store1 {P : Program} (w : World) (b o : Nat) (v : Value) (hc : (w.cell? ⟨b, o, none⟩).isSome = true) (hf : w.frozen? ⟨b, o, none⟩ = false) (h1 : v.oneCell' = true) : Sem.run P (store ⟨b, o, none⟩ v) w = .ok () (w.setCell ⟨b, o, none⟩ v) := by
  have hst := run_storeCells_cells (P := P) b o [v] 0 w (fun j hj => by obtain rfl : j = 0 := (by simpa using hj); simpa using hc) (fun j hj => by obtain rfl : j = 0 := (by simpa using hj); simpa using hf) (fun u hu => by simp at hu; subst hu; exact h1)
  have hadd : (⟨b, o, none⟩ : Addr).add 0 = ⟨b, o, none⟩ := by unfold Addr.add; simp
  simp only [storeCells, hadd, Nat.add_zero, Sem.run_bind, Sem.run_pure] at hst
  cases hr : Sem.run P (store ⟨b, o, none⟩ v) w with
  | ok x w' => rw [hr] at hst; simp [Result.andThen] at hst; rw [hst]; rfl
  | halt x w' => rw [hr] at hst; simp [Result.andThen] at hst
def ftF (tt : Nat → Nat) (q k : Nat) : Value := if k < q then .float .f64 (Flt.nat (sumT tt k)) else .float .f64 0
def feF (tt : Nat → Nat) (q k : Nat) : Value := if k < q then .float .f64 (Flt.nat (sumT tt (k + 1))) else .float .f64 0
theorem xmax {ρ : Operand → Value} {d : Option Tmp} {ty : TypeId} {ps : String} {af : Array Edge} {g : Option (Nat × Bool)} {w : World} {x y : Operand} {v : Value} {t : TypeId} (h : ∀ w, Sem.run Ybaz.prog (Builtin.max_ #[t, t] ty #[ρ x, ρ y]) w = .ok v w) :
    (execOp ρ ⟨d, .call { callee := .builtin .max, args := #[x, y], argTypes := #[t, t] }, ty, ps, af, g⟩).run Ybaz.prog w = .ok (.value v) w := by
  unfold execOp
  simp only [resolve, invoke, builtin, Sem.run_bind, Sem.run_pure, Result.andThen_ok, List.map_toArray, List.map_cons, List.map_nil, h]
theorem Kept.toC {B : Nat} {w w' : World} (h : Below B w w') : Kept (fun b => ¬ b < B) w w' := ⟨h.os, h.tape, h.output, h.size, fun k _ hk => h.block k (Decidable.not_not.1 hk)⟩

set_option maxRecDepth 100000 in
set_option maxHeartbeats 4000000 in
theorem part_tail {y1 y2 y4 y7 y8 y9 y10 y11 y12 y13 y14 y15 y16 y17 y18 y19 y20 y21 y22 y23 y24 y25 y26 y27 y28 y29 y30 y31 y32 y33 y34 y35 y36 y37 y38 y39 y40 y41 y42 y43 y44 y45 y46 y47 y48 y49 y50 y51 y52 y53 y54 y55 y56 y57 y58 y59 y60 y61 y62 y63 y64 y65 y66 y67 y68 y69 y70 y71 y72 y73 y74 y75 y76 y77 y78 y79 y80 y81 y82 y83 y84 y85 y86 y87 y88 y89 y90 y91 y92 y93 y94 y95 y96 y97 y98 y99 y100 y101 y102 y103 y104 y105 y106 y107 y108 y109 y110 y111 y112 y113 y114 y115 y116 y117 y118 y119 y120 y121 y122 y123 y124 y125 y126 y127 y128 y129 y130 y131 y132 y133 y134 y135 y136 y137 y138 y139 y140 y141 y142 y143 y144 y145 y146 y147 y148 y149 y150 y151 y152 y153 y154 y155 y156 y157 y158 y159 y160 y161 y162 y163 y164 y165 y166 y167 y168 y169 y170 y171 y172 y173 y174 y175 y176 y177 y178 y179 y180 y181 y182 y183 y184 y185 y186 y187 y188 y189 y190 y191 y192 y193 y194 y195 y196 y197 y198 y199 y200 y201 y202 y203 y204 y205 y206 y207 y208 y209 y210 y211 y212 y213 y214 y215 y216 y217 y218 y219 y220 : Value} (l : TBl) (names : Nat → ByteArray) (tm : Nat → Value) (steps : Int) (ks : List ByteArray) (t : Bt) (m : Nat) (mem : Nat → Nat) (pr : Nat → Option Nat) (tt : Nat → Nat) (w : World) (T0 Pb Pv bp bs bt be bl : Nat) (fp fs : Nat → Value) (V : World) (Ds : List Nat)
    (HT : Hid (TB w l names tm steps ks)) (H : Hid (Bat w t m mem pr)) (h2 : 2 ≤ m) (hm : ∀ i, i < m → mem i < l.n) (htt : ∀ k, k < m → tm (mem k) = .float .f64 (Flt.nat (tt k)) ∧ tt k ≤ 65535) (ps1 : PS w V T0 Pb Pv bp bs bt be bl m (sl t.bm t.om m t.cm) (.slice t.sn (2 * cnt pr m) t.cn) (sl t.bf t.of (m + 1) t.cf) (fp) (fs) (fun _ => .float .f64 0) (fun _ => .float .f64 0) (fun _ => .float .f64 0) (.float .f64 0)) (rp : RW V T0 m fp (prC m)) (rs : RW V T0 m fs (suC m)) (mk : Marks V w.heap.size Ds) :
    Code.wp Ybaz.prog (dropC 4 (Ybaz.f19.body.getD .skip)) (bodyPostM Fence.wide 3 Ybaz.prog Ybaz.f19 fun e w' => (∃ Pb bp bs bt, e = .returned (.pointer (some ⟨Pb, 0, none⟩)) ∧ PartC w' Pb m t.bm t.om t.cm bp m bs m bt m (fun k => Flt.nat (sumT tt k))) ∧ Below w.heap.size w w') ⟨#[.pointer (some ⟨l.T, 0, none⟩), y1, y2, .pointer (some ⟨w.heap.size, 0, none⟩), y4, vi m, .pointer (some ⟨Pv, 0, none⟩), y7, y8, y9, y10, y11, y12, y13, y14, y15, y16, y17, y18, y19, y20, y21, y22, y23, y24, y25, y26, y27, y28, y29, y30, y31, y32, y33, y34, y35, y36, y37, y38, y39, y40, y41, y42, y43, y44, y45, y46, y47, y48, y49, y50, y51, y52, y53, y54, y55, y56, y57, y58, y59, y60, y61, y62, y63, y64, y65, y66, y67, y68, y69, y70, y71, y72, y73, y74, y75, y76, y77, y78, y79, y80, y81, y82, y83, y84, y85, y86, y87, y88, y89, y90, y91, y92, y93, y94, y95, y96, y97, y98, y99, y100, y101, y102, y103, y104, y105, y106, y107, y108, y109, y110, y111, y112, y113, y114, y115, y116, y117, y118, y119, y120, y121, y122, y123, y124, y125, y126, y127, y128, y129, y130, y131, y132, y133, y134, y135, y136, y137, y138, y139, y140, y141, y142, y143, y144, y145, y146, y147, y148, y149, y150, y151, y152, y153, y154, y155, y156, y157, y158, y159, y160, y161, y162, y163, y164, y165, y166, y167, y168, y169, y170, y171, y172, y173, y174, y175, y176, y177, y178, y179, y180, y181, y182, y183, y184, y185, y186, y187, y188, y189, y190, y191, y192, y193, y194, y195, y196, y197, y198, y199, y200, y201, y202, y203, y204, y205, y206, y207, y208, y209, y210, y211, y212, y213, y214, y215, y216, y217, y218, y219, y220], Ds.map markOf⟩ V := by
  conv => arg 2; whnf
  dsimp only
  have hfew := H.out.few
  have SB := hid (show ∀ k, k ≤ m → sumT tt k ≤ 19660500 from fun k hk => by have := sumT_le tt k (fun j hj => (htt j (by omega)).2); omega)
  have ps2 := ps1.ext (ft' := ftF tt 0) (fe' := feF tt 0) (fun _ _ => rfl) (fun _ _ => rfl) (fun y _ => by simp [ftF]) (fun y _ => by simp [feF]) (fun _ _ => rfl)
  have PS2 := hid ps2
  have RP := hid rp
  have RS := hid rs
  have MK := hid mk
  have hbm : V.cell? ⟨w.heap.size, 0, none⟩ = some (sl t.bm t.om m t.cm) := by simpa using ps1.bx 0 _ rfl
  clear ps1 ps2 rp rs mk
  go_wp2
  clear hbm
  go_loopw [84] (fun x U => ∃ q : Nat, q ≤ m ∧ x = vi q ∧ PS w U T0 Pb Pv bp bs bt be bl m (sl t.bm t.om m t.cm) (.slice t.sn (2 * cnt pr m) t.cn) (sl t.bf t.of (m + 1) t.cf) (fp) (fs) (ftF tt q) (feF tt q) (fun _ => .float .f64 0) (.float .f64 (Flt.nat (sumT tt q))) ∧ RW U T0 m fp (prC m) ∧ RW U T0 m fs (suC m) ∧ Marks U w.heap.size Ds) (fun x _ => m - (intOf x).toNat)
  case atStart => exact ⟨0, Nat.zero_le _, rfl, by rw [show (.float .f64 (Flt.nat (sumT tt 0)) : Value) = .float .f64 0 by simp [sumT, Flt.nat_zero]]; exact PS2.out, RP.out, RS.out, MK.out⟩
  case round =>
    obtain ⟨q, hq, rfl, ps, rp, rs, mk⟩ := hrel
    clear PS2 RP RS MK
    by_cases hlt2 : q < m
    · have hqi : (q : Int) < (m : Int) := by omega
      have hbV := H.out.below ps.bel
      rcases Nat.eq_zero_or_pos q with hq0 | hq0
      · subst hq0
        have p0 := ps.pv
        have p3 : wr.cell? ⟨Pb, 3, none⟩ = some (sl bp 0 m m) := by simpa using ps.ps 3 _ rfl
        have e0 := hbV.mem' 0 (by omega)
        rw [Nat.add_zero] at e0
        have e1 : wr.cell? ⟨bp, 0, none⟩ = some (.slice none 0 0) := by have := ps.cellp (i := 0) (by omega); rwa [rp.nn 0 (by omega) rfl] at this
        have PSI := hid (ps.ext (ft' := fun y => if y = 0 then .float .f64 (Flt.nat (sumT tt 0)) else ftF tt 0 y) (fun _ _ => rfl) (fun _ _ => rfl) (fun y _ => by by_cases hy : y = 0 <;> simp [hy, ftF, sumT, Flt.nat_zero]) (fun _ _ => rfl) (fun _ _ => rfl))
        have RP := hid rp
        have RS := hid rs
        have MK := hid mk
        clear ps rp rs mk hbV
        go_wp2
        refine wp_loop_rounds 1 ?_
        rw [rounds_succ]
        go_wp2
        refine wp_as (fun X => PS w X T0 Pb Pv bp bs bt be bl m (sl t.bm t.om m t.cm) (.slice t.sn (2 * cnt pr m) t.cn) (sl t.bf t.of (m + 1) t.cf) (fp) (fs) (fun y => if y = 0 then .float .f64 (Flt.nat (sumT tt 0)) else ftF tt 0 y) (feF tt 0) (fun _ => .float .f64 0) (.float .f64 (Flt.nat (sumT tt 0))) ∧ RW X T0 m fp (prC m) ∧ RW X T0 m fs (suC m) ∧ Marks X w.heap.size Ds) ⟨PSI.out, RP.out, RS.out, MK.out⟩ ?_
        rintro X ⟨px, rpx, rsx, mkx⟩
        clear PSI RP RS MK e0 e1 p0 p3
        have TX := hid (HT.out)
        have q0 := px.pv
        have q5 : X.cell? ⟨Pb, 5, none⟩ = some (sl bt 0 m m) := by simpa using px.ps 5 _ rfl
        have q6 : X.cell? ⟨Pb, 6, none⟩ = some (sl be 0 m m) := by simpa using px.ps 6 _ rfl
        have q1 : X.cell? ⟨bt, 0, none⟩ = some (.float .f64 (Flt.nat (sumT tt 0))) := by have := px.cellt (i := 0) (by omega); simpa using this
        have q2 := px.celle (i := 0) (by omega)
        have q3 := px.freee (i := 0) (by omega)
        have t1 : X.cell? ⟨l.T, 1, none⟩ = some (sl l.bt 0 l.n l.n) := (Kept.toC px.bel).cell (p := ⟨l.T, 1, none⟩) (fun hn => hn (World.block_lt_of_cell? w _ (HT.out.st 1 _ rfl))) (by simpa using HT.out.st 1 _ rfl)
        have t2 : X.cell? ⟨l.bt, mem 0, none⟩ = some (.float .f64 (Flt.nat (tt 0))) := (Kept.toC px.bel).cell (p := ⟨l.bt, mem 0, none⟩) (fun hn => hn (HT.out.tt.lt (by have := hm 0 (by omega); omega))) (by have := HT.out.tt.cell (hm 0 (by omega)); rw [Nat.zero_add, (htt 0 (by omega)).1] at this; exact this)
        have t3 : (mem 0 : Int) < l.n := by have := hm 0 (by omega); omega
        have had : ∀ w, Sem.run Ybaz.prog (binOp .add 36 (.float .f64 (Flt.nat (sumT tt 0))) (.float .f64 (Flt.nat (tt 0)))) w = .ok (.float .f64 (Flt.nat (sumT tt (0 + 1)))) w := fun w => Flt.run_add w 36 _ _ (by have h8 := SB.out 0 (by omega); have h9 := (htt 0 (by omega)).2; omega)
        have PX := hid px
        have RX := hid rpx
        have SX := hid rsx
        have MX := hid mkx
        clear px rpx rsx mkx TX
        refine wp_region_quiet_tail 20 (fun w' => ∃ nq, w' = X.drewN nq) mixed (by kernel_rfl) ⟨1, rfl⟩ ?_
        dsimp only [List.take, List.drop]
        repeat go_big_quiet_step (fail)
        refine wpQuiet_nil ?_
        rintro _ ⟨nq, rfl⟩
        have e6 : (X.drewN nq).cell? ⟨be, 0, none⟩ = some (feF tt 0 0) := q2
        have e7 : (X.drewN nq).frozen? ⟨be, 0, none⟩ = false := q3
        have hst := run_store1 (P := Ybaz.prog) (X.drewN nq) be 0 (.float .f64 (Flt.nat (sumT tt (0 + 1)))) (by rw [e6]; rfl) e7 rfl
        go_wp2
        refine wp_as (fun X => PS w X T0 Pb Pv bp bs bt be bl m (sl t.bm t.om m t.cm) (.slice t.sn (2 * cnt pr m) t.cn) (sl t.bf t.of (m + 1) t.cf) (fp) (fs) (fun y => if y = 0 then .float .f64 (Flt.nat (sumT tt 0)) else ftF tt 0 y) (fun y => if y = 0 then .float .f64 (Flt.nat (sumT tt (0 + 1))) else feF tt 0 y) (fun _ => .float .f64 0) (.float .f64 (Flt.nat (sumT tt 0))) ∧ RW X T0 m fp (prC m) ∧ RW X T0 m fs (suC m) ∧ Marks X w.heap.size Ds) ⟨(PX.out.drewN nq).sete (i := 0) (by omega) _, (RX.out.drewN nq).low PX.out.hbe _, (SX.out.drewN nq).low PX.out.hbe _, MX.out.kept ((Kept.drewN (Kept.refl (fun b => b = be) X) nq).setCell (p := ⟨be, 0, none⟩) (.inl rfl) _) (fun b hb => by subst hb; exact notDef_of_cell q2)⟩ ?_
        rintro Y ⟨py, rpy, rsy, mky⟩
        clear PX RX SX MX q0 q5 q6 q1 q2 q3 t1 t2 e6 e7
        have q0 := py.pv
        have q6 : Y.cell? ⟨Pb, 6, none⟩ = some (sl be 0 m m) := by simpa using py.ps 6 _ rfl
        have q8 : Y.cell? ⟨Pb, 8, none⟩ = some (.float .f64 (Flt.nat (sumT tt 0))) := by simpa using py.ps 8 _ rfl
        have q9 : Y.frozen? ⟨Pb, 8, none⟩ = false := by simpa using (py.th 8 (by omega)).2
        have q1 : Y.cell? ⟨be, 0, none⟩ = some (.float .f64 (Flt.nat (sumT tt (0 + 1)))) := by have := py.celle (i := 0) (by omega); simpa using this
        have hmx : ∀ w, Sem.run Ybaz.prog (Builtin.max_ #[36, 36] 36 #[.float .f64 (Flt.nat (sumT tt 0)), .float .f64 (Flt.nat (sumT tt (0 + 1)))]) w = .ok (.float .f64 (Flt.nat (sumT tt (0 + 1)))) w := fun w => by have h8 := SB.out 0 (by omega); have h9 := SB.out (0 + 1) (by omega); have hmo := sumT_mono tt (Nat.le_succ 0); have := Flt.run_max (P := Ybaz.prog) w #[36, 36] 36 (sumT tt 0) (sumT tt (0 + 1)) (by omega) (by omega); rwa [Nat.max_eq_right hmo] at this
        have PY := hid py
        have RY := hid rpy
        have SY := hid rsy
        have MY := hid mky
        clear py rpy rsy mky
        refine wp_region_quiet_tail 13 (fun w' => ∃ nq, w' = Y.drewN nq) mixed (by kernel_rfl) ⟨1, rfl⟩ ?_
        dsimp only [List.take, List.drop]
        repeat (first | (with_reducible (show wpQuiet _ _ _ _ (⟨_, .call _, _, _, _, _⟩ :: _) _); refine wpQuiet_run (.float .f64 (Flt.nat (sumT tt (0 + 1)))) rfl (fun w _ => xmax hmx) ?_; simp only [Act.put, List.setIfInBounds_toArray, List.set_cons_succ, List.set_cons_zero]) | go_big_quiet_step (fail))
        refine wpQuiet_nil ?_
        rintro _ ⟨nq, rfl⟩
        have e6 : (Y.drewN nq).cell? ⟨Pb, 8, none⟩ = some (.float .f64 (Flt.nat (sumT tt 0))) := q8
        have e7 : (Y.drewN nq).frozen? ⟨Pb, 8, none⟩ = false := q9
        have hst := run_store1 (P := Ybaz.prog) (Y.drewN nq) Pb 8 (.float .f64 (Flt.nat (sumT tt (0 + 1)))) (by rw [e6]; rfl) e7 rfl
        go_wp2
        go_roundw
        case rel =>
          refine ⟨0 + 1, by omega, by go_num, ((PY.out.drewN nq).setL _).ext (fun _ _ => rfl) (fun _ _ => rfl) (fun y _ => ?_) (fun y _ => ?_) (fun _ _ => rfl), (RY.out.drewN nq).low PY.out.hPb _, (SY.out.drewN nq).low PY.out.hPb _, MY.out.kept ((Kept.drewN (Kept.refl (fun b => b = Pb) Y) nq).setCell (p := ⟨Pb, 8, none⟩) (.inl rfl) _) (fun b hb => by subst hb; exact notDef_of_cell q8)⟩
          · by_cases hy : y = 0
            · subst hy; simp [ftF]
            · rw [if_neg hy]; unfold ftF; have : (y < 0) = (y < 0 + 1) := by apply propext; omega
              simp only [this]
          · by_cases hy : y = 0
            · subst hy; simp [feF]
            · rw [if_neg hy]; unfold feF; have : (y < 0) = (y < 0 + 1) := by apply propext; omega
              simp only [this]
        case measure => simp [intOf]; omega
      · obtain ⟨j, rfl⟩ : ∃ j, q = j + 1 := ⟨q - 1, by omega⟩
        have p0 := ps.pv
        have p3 : wr.cell? ⟨Pb, 3, none⟩ = some (sl bp 0 m m) := by simpa using ps.ps 3 _ rfl
        have e0 := hbV.mem' (j + 1) (by omega)
        obtain ⟨g, c, hfg, hgT, e2⟩ := rp.ss (j + 1) j (by omega) (prC_at (by omega))
        have e1 : wr.cell? ⟨bp, j + 1, none⟩ = some (sl g 0 1 c) := by have := ps.cellp (i := j + 1) (by omega); rwa [hfg] at this
        have p5 : wr.cell? ⟨Pb, 5, none⟩ = some (sl bt 0 m m) := by simpa using ps.ps 5 _ rfl
        have p6 : wr.cell? ⟨Pb, 6, none⟩ = some (sl be 0 m m) := by simpa using ps.ps 6 _ rfl
        have e3 : wr.cell? ⟨bt, j + 1, none⟩ = some (.float .f64 (Flt.nat 0)) := by have := ps.cellt (i := j + 1) (by omega); simp only [ftF, Nat.lt_irrefl, if_false] at this; rw [Flt.nat_zero]; exact this
        have e4 : wr.cell? ⟨be, j, none⟩ = some (.float .f64 (Flt.nat (sumT tt (j + 1)))) := by have := ps.celle (i := j) (by omega); simp only [feF, Nat.lt_succ_self, if_true] at this; exact this
        have e5 := ps.freet (i := j + 1) (by omega)
        have hmx : ∀ w, Sem.run Ybaz.prog (Builtin.max_ #[36, 36] 36 #[.float .f64 (Flt.nat 0), .float .f64 (Flt.nat (sumT tt (j + 1)))]) w = .ok (.float .f64 (Flt.nat (sumT tt (j + 1)))) w := fun w => by have := Flt.run_max (P := Ybaz.prog) w #[36, 36] 36 0 (sumT tt (j + 1)) (by omega) (by have := SB.out (j + 1) (by omega); omega); rwa [Nat.zero_max] at this
        have hjm : (j : Int) < (m : Int) := by omega
        have PSI := hid ps
        have RP := hid rp
        have RS := hid rs
        have MK := hid mk
        clear ps rp rs mk hbV
        go_wp2
        refine wp_loop_rounds 2 ?_
        rw [rounds_succ]
        go_wp2
        refine wp_region_quiet_tail 20 (fun w' => ∃ nq, w' = wr.drewN nq) mixed (by kernel_rfl) ⟨1, rfl⟩ ?_
        dsimp only [List.take, List.drop]
        repeat (first | (with_reducible (show wpQuiet _ _ _ _ (⟨_, .call _, _, _, _, _⟩ :: _) _); refine wpQuiet_run (.float .f64 (Flt.nat (sumT tt (j + 1)))) rfl (fun w _ => xmax hmx) ?_; simp only [Act.put, List.setIfInBounds_toArray, List.set_cons_succ, List.set_cons_zero]) | go_big_quiet_step (fail))
        refine wpQuiet_nil ?_
        rintro _ ⟨nq, rfl⟩
        have e6 : (wr.drewN nq).cell? ⟨bt, j + 1, none⟩ = some (.float .f64 (Flt.nat 0)) := e3
        have e7 : (wr.drewN nq).frozen? ⟨bt, j + 1, none⟩ = false := e5
        have hst := run_store1 (P := Ybaz.prog) (wr.drewN nq) bt (j + 1) (.float .f64 (Flt.nat (sumT tt (j + 1)))) (by rw [e6]; rfl) e7 rfl
        go_wp2
        rw [rounds_succ]
        go_wp2
        refine wp_as (fun X => PS w X T0 Pb Pv bp bs bt be bl m (sl t.bm t.om m t.cm) (.slice t.sn (2 * cnt pr m) t.cn) (sl t.bf t.of (m + 1) t.cf) (fp) (fs) (fun y => if y = (j + 1) then .float .f64 (Flt.nat (sumT tt (j + 1))) else ftF tt (j + 1) y) (feF tt (j + 1)) (fun _ => .float .f64 0) (.float .f64 (Flt.nat (sumT tt (j + 1)))) ∧ RW X T0 m fp (prC m) ∧ RW X T0 m fs (suC m) ∧ Marks X w.heap.size Ds) ⟨(PSI.out.drewN nq).sett (i := j + 1) (by omega) (.float .f64 (Flt.nat (sumT tt (j + 1)))), (RP.out.drewN nq).low PSI.out.hbt _, (RS.out.drewN nq).low PSI.out.hbt _, MK.out.kept ((Kept.drewN (Kept.refl (fun b => b = bt) wr) nq).setCell (p := ⟨bt, j + 1, none⟩) (.inl rfl) _) (fun b hb => by subst hb; exact notDef_of_cell e3)⟩ ?_
        rintro X ⟨px, rpx, rsx, mkx⟩
        clear PSI RP RS MK e0 e1 p0 p3
        have TX := hid (HT.out)
        have q0 := px.pv
        have q5 : X.cell? ⟨Pb, 5, none⟩ = some (sl bt 0 m m) := by simpa using px.ps 5 _ rfl
        have q6 : X.cell? ⟨Pb, 6, none⟩ = some (sl be 0 m m) := by simpa using px.ps 6 _ rfl
        have q1 : X.cell? ⟨bt, (j + 1), none⟩ = some (.float .f64 (Flt.nat (sumT tt (j + 1)))) := by have := px.cellt (i := (j + 1)) (by omega); simpa using this
        have q2 := px.celle (i := (j + 1)) (by omega)
        have q3 := px.freee (i := (j + 1)) (by omega)
        have t1 : X.cell? ⟨l.T, 1, none⟩ = some (sl l.bt 0 l.n l.n) := (Kept.toC px.bel).cell (p := ⟨l.T, 1, none⟩) (fun hn => hn (World.block_lt_of_cell? w _ (HT.out.st 1 _ rfl))) (by simpa using HT.out.st 1 _ rfl)
        have t2 : X.cell? ⟨l.bt, mem (j + 1), none⟩ = some (.float .f64 (Flt.nat (tt (j + 1)))) := (Kept.toC px.bel).cell (p := ⟨l.bt, mem (j + 1), none⟩) (fun hn => hn (HT.out.tt.lt (by have := hm (j + 1) (by omega); omega))) (by have := HT.out.tt.cell (hm (j + 1) (by omega)); rw [Nat.zero_add, (htt (j + 1) (by omega)).1] at this; exact this)
        have t3 : (mem (j + 1) : Int) < l.n := by have := hm (j + 1) (by omega); omega
        have had : ∀ w, Sem.run Ybaz.prog (binOp .add 36 (.float .f64 (Flt.nat (sumT tt (j + 1)))) (.float .f64 (Flt.nat (tt (j + 1))))) w = .ok (.float .f64 (Flt.nat (sumT tt ((j + 1) + 1)))) w := fun w => Flt.run_add w 36 _ _ (by have h8 := SB.out (j + 1) (by omega); have h9 := (htt (j + 1) (by omega)).2; omega)
        have PX := hid px
        have RX := hid rpx
        have SX := hid rsx
        have MX := hid mkx
        clear px rpx rsx mkx TX
        refine wp_region_quiet_tail 20 (fun w' => ∃ nq, w' = X.drewN nq) mixed (by kernel_rfl) ⟨1, rfl⟩ ?_
        dsimp only [List.take, List.drop]
        repeat go_big_quiet_step (fail)
        refine wpQuiet_nil ?_
        rintro _ ⟨nq, rfl⟩
        have e6 : (X.drewN nq).cell? ⟨be, (j + 1), none⟩ = some (feF tt (j + 1) (j + 1)) := q2
        have e7 : (X.drewN nq).frozen? ⟨be, (j + 1), none⟩ = false := q3
        have hst := run_store1 (P := Ybaz.prog) (X.drewN nq) be (j + 1) (.float .f64 (Flt.nat (sumT tt ((j + 1) + 1)))) (by rw [e6]; rfl) e7 rfl
        go_wp2
        refine wp_as (fun X => PS w X T0 Pb Pv bp bs bt be bl m (sl t.bm t.om m t.cm) (.slice t.sn (2 * cnt pr m) t.cn) (sl t.bf t.of (m + 1) t.cf) (fp) (fs) (fun y => if y = (j + 1) then .float .f64 (Flt.nat (sumT tt (j + 1))) else ftF tt (j + 1) y) (fun y => if y = (j + 1) then .float .f64 (Flt.nat (sumT tt ((j + 1) + 1))) else feF tt (j + 1) y) (fun _ => .float .f64 0) (.float .f64 (Flt.nat (sumT tt (j + 1)))) ∧ RW X T0 m fp (prC m) ∧ RW X T0 m fs (suC m) ∧ Marks X w.heap.size Ds) ⟨(PX.out.drewN nq).sete (i := (j + 1)) (by omega) _, (RX.out.drewN nq).low PX.out.hbe _, (SX.out.drewN nq).low PX.out.hbe _, MX.out.kept ((Kept.drewN (Kept.refl (fun b => b = be) X) nq).setCell (p := ⟨be, (j + 1), none⟩) (.inl rfl) _) (fun b hb => by subst hb; exact notDef_of_cell q2)⟩ ?_
        rintro Y ⟨py, rpy, rsy, mky⟩
        clear PX RX SX MX q0 q5 q6 q1 q2 q3 t1 t2 e6 e7
        have q0 := py.pv
        have q6 : Y.cell? ⟨Pb, 6, none⟩ = some (sl be 0 m m) := by simpa using py.ps 6 _ rfl
        have q8 : Y.cell? ⟨Pb, 8, none⟩ = some (.float .f64 (Flt.nat (sumT tt (j + 1)))) := by simpa using py.ps 8 _ rfl
        have q9 : Y.frozen? ⟨Pb, 8, none⟩ = false := by simpa using (py.th 8 (by omega)).2
        have q1 : Y.cell? ⟨be, (j + 1), none⟩ = some (.float .f64 (Flt.nat (sumT tt ((j + 1) + 1)))) := by have := py.celle (i := (j + 1)) (by omega); simpa using this
        have hmx : ∀ w, Sem.run Ybaz.prog (Builtin.max_ #[36, 36] 36 #[.float .f64 (Flt.nat (sumT tt (j + 1))), .float .f64 (Flt.nat (sumT tt ((j + 1) + 1)))]) w = .ok (.float .f64 (Flt.nat (sumT tt ((j + 1) + 1)))) w := fun w => by have h8 := SB.out (j + 1) (by omega); have h9 := SB.out ((j + 1) + 1) (by omega); have hmo := sumT_mono tt (Nat.le_succ (j + 1)); have := Flt.run_max (P := Ybaz.prog) w #[36, 36] 36 (sumT tt (j + 1)) (sumT tt ((j + 1) + 1)) (by omega) (by omega); rwa [Nat.max_eq_right hmo] at this
        have PY := hid py
        have RY := hid rpy
        have SY := hid rsy
        have MY := hid mky
        clear py rpy rsy mky
        refine wp_region_quiet_tail 13 (fun w' => ∃ nq, w' = Y.drewN nq) mixed (by kernel_rfl) ⟨1, rfl⟩ ?_
        dsimp only [List.take, List.drop]
        repeat (first | (with_reducible (show wpQuiet _ _ _ _ (⟨_, .call _, _, _, _, _⟩ :: _) _); refine wpQuiet_run (.float .f64 (Flt.nat (sumT tt ((j + 1) + 1)))) rfl (fun w _ => xmax hmx) ?_; simp only [Act.put, List.setIfInBounds_toArray, List.set_cons_succ, List.set_cons_zero]) | go_big_quiet_step (fail))
        refine wpQuiet_nil ?_
        rintro _ ⟨nq, rfl⟩
        have e6 : (Y.drewN nq).cell? ⟨Pb, 8, none⟩ = some (.float .f64 (Flt.nat (sumT tt (j + 1)))) := q8
        have e7 : (Y.drewN nq).frozen? ⟨Pb, 8, none⟩ = false := q9
        have hst := run_store1 (P := Ybaz.prog) (Y.drewN nq) Pb 8 (.float .f64 (Flt.nat (sumT tt ((j + 1) + 1)))) (by rw [e6]; rfl) e7 rfl
        go_wp2
        go_roundw
        case rel =>
          refine ⟨(j + 1) + 1, by omega, by go_num, ((PY.out.drewN nq).setL _).ext (fun _ _ => rfl) (fun _ _ => rfl) (fun y _ => ?_) (fun y _ => ?_) (fun _ _ => rfl), (RY.out.drewN nq).low PY.out.hPb _, (SY.out.drewN nq).low PY.out.hPb _, MY.out.kept ((Kept.drewN (Kept.refl (fun b => b = Pb) Y) nq).setCell (p := ⟨Pb, 8, none⟩) (.inl rfl) _) (fun b hb => by subst hb; exact notDef_of_cell q8)⟩
          · by_cases hy : y = (j + 1)
            · subst hy; simp [ftF]
            · rw [if_neg hy]; unfold ftF; have : (y < (j + 1)) = (y < (j + 1) + 1) := by apply propext; omega
              simp only [this]
          · by_cases hy : y = (j + 1)
            · subst hy; simp [feF]
            · rw [if_neg hy]; unfold feF; have : (y < (j + 1)) = (y < (j + 1) + 1) := by apply propext; omega
              simp only [this]
        case measure => simp [intOf]; omega
    · skip
      have e : m = q := by omega
      subst e
      have PSI := hid (ps.ext (fl' := fun _ => .float .f64 (Flt.nat 0)) (fun _ _ => rfl) (fun _ _ => rfl) (fun _ _ => rfl) (fun _ _ => rfl) (fun _ _ => by rw [Flt.nat_zero]))
      have RP := hid rp
      have RS := hid rs
      have MK := hid mk
      clear ps rp rs mk hlt2
      go_wp2
      go_loopw [15] (fun x U => ∃ r : Nat, r ≤ m ∧ x = .int .i64 ((r : Int) - 1) ∧ ∃ xs : Nat → Nat, (∀ k, xs k ≤ 65535 * (m - k)) ∧ (∀ k, k < r → xs k = 0) ∧ PS w U T0 Pb Pv bp bs bt be bl m (sl t.bm t.om m t.cm) (.slice t.sn (2 * cnt pr m) t.cn) (sl t.bf t.of (m + 1) t.cf) (fp) (fs) (ftF tt m) (feF tt m) (fun k => .float .f64 (Flt.nat (xs k))) (.float .f64 (Flt.nat (sumT tt m))) ∧ RW U T0 m fp (prC m) ∧ RW U T0 m fs (suC m) ∧ Marks U w.heap.size Ds) (fun x _ => (intOf x + 1).toNat)
      case atStart => exact ⟨m, Nat.le_refl _, rfl, fun _ => 0, fun _ => Nat.zero_le _, fun _ _ => rfl, PSI.out, RP.out, RS.out, MK.out⟩
      case round =>
        obtain ⟨r, hr, rfl, xs, hxb, hx0, ps, rp, rs, mk⟩ := hrel
        clear PSI RP RS MK
        rcases Nat.eq_zero_or_pos r with hr0 | hr0
        · subst hr0
          have p0 := ps.pv
          have PSI := hid ps
          have RP := hid rp
          have RS := hid rs
          have MK := hid mk
          clear ps rp rs mk
          go_wp2
          refine leaves_marks (lo := w.heap.size) Ds wr MK.out (fun W' kp => ⟨_, results_tmp rfl _ _ _, ⟨Pb, bp, bs, bt, rfl, ?_⟩, ?_⟩)
          · have ni : ∀ {b o : Nat} {v : Value}, wr.cell? ⟨b, o, none⟩ = some v → W'.cell? ⟨b, o, none⟩ = some v := fun {b o v} hc => kp.cell (p := ⟨b, o, none⟩) (fun hb => notDef_of_cell hc ⟨_, (MK.out.at' _ hb).2⟩) hc
            refine ⟨ni (by simpa using PSI.out.ps 0 _ rfl), ni (by simpa using PSI.out.ps 3 _ rfl), ni (by simpa using PSI.out.ps 4 _ rfl), ?_, fun i hi => ?_, fun i hi => ?_, ⟨ni (by simpa using PSI.out.ps 5 _ rfl), fun k hk => ?_⟩⟩
            · have := PSI.out.cellp (i := 0) (by omega)
              rw [RP.out.nn 0 (by omega) rfl] at this
              exact ni this
            · obtain ⟨g, c, h1, _, h3⟩ := RP.out.ss (i + 1) i hi (prC_at hi)
              have := PSI.out.cellp (i := i + 1) hi
              rw [h1] at this
              exact ⟨g, c, ni this, ni h3⟩
            · obtain ⟨g, c, h1, _, h3⟩ := RS.out.ss i (i + 1) (by omega) (suC_at hi)
              have := PSI.out.cells (i := i) (by omega)
              rw [h1] at this
              exact ⟨g, c, ni this, ni h3⟩
            · have := PSI.out.cellt hk
              simp only [ftF, hk, if_true] at this
              exact ni this
          · exact PSI.out.bel.trans (kp.toBelow (fun b hb he => by have := (MK.out.at' b he).1; omega) PSI.out.bel.size)
        · obtain ⟨i, rfl⟩ : ∃ i, r = i + 1 := ⟨r - 1, by omega⟩
          have hxi : ((i + 1 : Nat) : Int) - 1 = (i : Int) := by omega
          rw [hxi]
          have p0 := ps.pv
          have p4 : wr.cell? ⟨Pb, 4, none⟩ = some (sl bs 0 m m) := by simpa using ps.ps 4 _ rfl
          have hii : (i : Int) < (m : Int) := by omega
          clear hxi
          by_cases hsu : i + 1 < m
          · skip
            obtain ⟨g, c, hfg, hgT, e2⟩ := rs.ss i (i + 1) (by omega) (suC_at (by omega))
            have e1 : wr.cell? ⟨bs, i, none⟩ = some (sl g 0 1 c) := by have := ps.cells (i := i) (by omega); rwa [hfg] at this
            have p7 : wr.cell? ⟨Pb, 7, none⟩ = some (sl bl 0 m m) := by simpa using ps.ps 7 _ rfl
            have e3 : wr.cell? ⟨bl, i, none⟩ = some (.float .f64 (Flt.nat 0)) := by have := ps.celll (i := i) (by omega); rw [hx0 i (by omega)] at this; exact this
            have e4 : wr.cell? ⟨bl, i + 1, none⟩ = some (.float .f64 (Flt.nat (xs (i + 1)))) := ps.celll (i := i + 1) (by omega)
            have e5 := ps.freel (i := i) (by omega)
            have hmx : ∀ w, Sem.run Ybaz.prog (Builtin.max_ #[36, 36] 36 #[.float .f64 (Flt.nat 0), .float .f64 (Flt.nat (xs (i + 1)))]) w = .ok (.float .f64 (Flt.nat (xs (i + 1)))) w := fun w => by have := Flt.run_max (P := Ybaz.prog) w #[36, 36] 36 0 (xs (i + 1)) (by omega) (by have := hxb (i + 1); omega); rwa [Nat.zero_max] at this
            have hi1 : (i : Int) + 1 < (m : Int) := by omega
            have PSI := hid ps
            have RP := hid rp
            have RS := hid rs
            have MK := hid mk
            clear ps rp rs mk
            go_wp2
            refine wp_loop_rounds 2 ?_
            rw [rounds_succ]
            go_wp2
            refine wp_region_quiet_tail 20 (fun w' => ∃ nq, w' = wr.drewN nq) mixed (by kernel_rfl) ⟨1, rfl⟩ ?_
            dsimp only [List.take, List.drop]
            repeat (first | (with_reducible (show wpQuiet _ _ _ _ (⟨_, .call _, _, _, _, _⟩ :: _) _); refine wpQuiet_run (.float .f64 (Flt.nat (xs (i + 1)))) rfl (fun w _ => xmax hmx) ?_; simp only [Act.put, List.setIfInBounds_toArray, List.set_cons_succ, List.set_cons_zero]) | go_big_quiet_step (fail))
            refine wpQuiet_nil ?_
            rintro _ ⟨nq, rfl⟩
            have e6 : (wr.drewN nq).cell? ⟨bl, i, none⟩ = some (.float .f64 (Flt.nat 0)) := e3
            have e7 : (wr.drewN nq).frozen? ⟨bl, i, none⟩ = false := e5
            have hst := run_store1 (P := Ybaz.prog) (wr.drewN nq) bl i (.float .f64 (Flt.nat (xs (i + 1)))) (by rw [e6]; rfl) e7 rfl
            go_wp2
            rw [rounds_succ]
            go_wp2
            refine wp_as (fun X => ∃ v, v ≤ 65535 * (m - (i + 1)) ∧ PS w X T0 Pb Pv bp bs bt be bl m (sl t.bm t.om m t.cm) (.slice t.sn (2 * cnt pr m) t.cn) (sl t.bf t.of (m + 1) t.cf) (fp) (fs) (ftF tt m) (feF tt m) (fun y => if y = i then .float .f64 (Flt.nat v) else .float .f64 (Flt.nat (xs y))) (.float .f64 (Flt.nat (sumT tt m))) ∧ RW X T0 m fp (prC m) ∧ RW X T0 m fs (suC m) ∧ Marks X w.heap.size Ds) ⟨xs (i + 1), hxb (i + 1), (PSI.out.drewN nq).setl (i := i) (by omega) _, (RP.out.drewN nq).low PSI.out.hbl _, (RS.out.drewN nq).low PSI.out.hbl _, MK.out.kept ((Kept.drewN (Kept.refl (fun b => b = bl) wr) nq).setCell (p := ⟨bl, i, none⟩) (.inl rfl) _) (fun b hb => by subst hb; exact notDef_of_cell e3)⟩ ?_
            clear PSI RP RS MK e1 e2 e3 e4 e5 e6 e7 hst p0 p4 p7 hmx
            rintro X ⟨v, hv, px, rpx, rsx, mkx⟩
            have hbX := H.out.below px.bel
            have q0 := px.pv
            have q7 : X.cell? ⟨Pb, 7, none⟩ = some (sl bl 0 m m) := by simpa using px.ps 7 _ rfl
            have q1 : X.cell? ⟨bl, i, none⟩ = some (.float .f64 (Flt.nat v)) := by have := px.celll (i := i) (by omega); simpa using this
            have q3 := px.freel (i := i) (by omega)
            have q4 : X.cell? ⟨w.heap.size, 0, none⟩ = some (sl t.bm t.om m t.cm) := by simpa using px.bx 0 _ rfl
            have q5 := hbX.mem' i (by omega)
            have t1 : X.cell? ⟨l.T, 1, none⟩ = some (sl l.bt 0 l.n l.n) := (Kept.toC px.bel).cell (p := ⟨l.T, 1, none⟩) (fun hn => hn (World.block_lt_of_cell? w _ (HT.out.st 1 _ rfl))) (by simpa using HT.out.st 1 _ rfl)
            have t2 : X.cell? ⟨l.bt, mem i, none⟩ = some (.float .f64 (Flt.nat (tt i))) := (Kept.toC px.bel).cell (p := ⟨l.bt, mem i, none⟩) (fun hn => hn (HT.out.tt.lt (by have := hm i (by omega); omega))) (by have := HT.out.tt.cell (hm i (by omega)); rw [Nat.zero_add, (htt i (by omega)).1] at this; exact this)
            have t3 : (mem i : Int) < l.n := by have := hm i (by omega); omega
            have had : ∀ w, Sem.run Ybaz.prog (binOp .add 36 (.float .f64 (Flt.nat v)) (.float .f64 (Flt.nat (tt i)))) w = .ok (.float .f64 (Flt.nat (v + tt i))) w := fun w => Flt.run_add w 36 _ _ (by have h9 := (htt i (by omega)).2; omega)
            have PX := hid px
            have RX := hid rpx
            have SX := hid rsx
            have MX := hid mkx
            clear px rpx rsx mkx hbX
            refine wp_region_quiet_tail 19 (fun w' => ∃ nq, w' = X.drewN nq) mixed (by kernel_rfl) ⟨1, rfl⟩ ?_
            dsimp only [List.take, List.drop]
            repeat go_big_quiet_step (fail)
            refine wpQuiet_nil ?_
            rintro _ ⟨nq, rfl⟩
            have e6 : (X.drewN nq).cell? ⟨bl, i, none⟩ = some (.float .f64 (Flt.nat v)) := q1
            have e7 : (X.drewN nq).frozen? ⟨bl, i, none⟩ = false := q3
            have hst := run_store1 (P := Ybaz.prog) (X.drewN nq) bl i (.float .f64 (Flt.nat (v + tt i))) (by rw [e6]; rfl) e7 rfl
            go_wp2
            go_roundw
            case rel =>
              refine ⟨i, by omega, by go_num, fun y => if y = i then v + tt i else xs y, fun k => ?_, fun k hk => ?_, ((PX.out.drewN nq).setl (i := i) (by omega) _).ext (fun _ _ => rfl) (fun _ _ => rfl) (fun _ _ => rfl) (fun _ _ => rfl) (fun y hy => ?_), (RX.out.drewN nq).low PX.out.hbl _, (SX.out.drewN nq).low PX.out.hbl _, MX.out.kept ((Kept.drewN (Kept.refl (fun b => b = bl) X) nq).setCell (p := ⟨bl, i, none⟩) (.inl rfl) _) (fun b hb => by subst hb; exact notDef_of_cell q1)⟩
              · dsimp only
                by_cases e : k = i
                · rw [if_pos e, e]; have h9 := (htt i (by omega)).2; omega
                · rw [if_neg e]; exact hxb k
              · dsimp only
                rw [if_neg (by omega)]; exact hx0 k (by omega)
              · dsimp only
                by_cases e : y = i
                · rw [if_pos e, if_pos e]
                · rw [if_neg e, if_neg e, if_neg e]
            case measure => first | (simp [intOf]; done) | (simp [intOf]; omega)
          · skip
            have hlast : i + 1 = m := by omega
            have e1 : wr.cell? ⟨bs, i, none⟩ = some (.slice none 0 0) := by have := ps.cells (i := i) (by omega); rwa [rs.nn i (by omega) (by unfold suC; rw [if_neg (by omega)])] at this
            have PSI := hid ps
            have RP := hid rp
            have RS := hid rs
            have MK := hid mk
            have HLA := hid hlast
            clear ps rp rs mk hlast
            go_wp2
            refine wp_loop_rounds 1 ?_
            rw [rounds_succ]
            go_wp2
            refine wp_as (fun X => ∃ v, v ≤ 65535 * (m - (i + 1)) ∧ PS w X T0 Pb Pv bp bs bt be bl m (sl t.bm t.om m t.cm) (.slice t.sn (2 * cnt pr m) t.cn) (sl t.bf t.of (m + 1) t.cf) (fp) (fs) (ftF tt m) (feF tt m) (fun y => if y = i then .float .f64 (Flt.nat v) else .float .f64 (Flt.nat (xs y))) (.float .f64 (Flt.nat (sumT tt m))) ∧ RW X T0 m fp (prC m) ∧ RW X T0 m fs (suC m) ∧ Marks X w.heap.size Ds) ⟨0, Nat.zero_le _, PSI.out.ext (fun _ _ => rfl) (fun _ _ => rfl) (fun _ _ => rfl) (fun _ _ => rfl) (fun y hy => by by_cases e : y = i; (rw [if_pos e, e, hx0 i (by omega)]); (rw [if_neg e])), RP.out, RS.out, MK.out⟩ ?_
            clear PSI RP RS MK e1 p0 p4
            rintro X ⟨v, hv, px, rpx, rsx, mkx⟩
            have hbX := H.out.below px.bel
            have q0 := px.pv
            have q7 : X.cell? ⟨Pb, 7, none⟩ = some (sl bl 0 m m) := by simpa using px.ps 7 _ rfl
            have q1 : X.cell? ⟨bl, i, none⟩ = some (.float .f64 (Flt.nat v)) := by have := px.celll (i := i) (by omega); simpa using this
            have q3 := px.freel (i := i) (by omega)
            have q4 : X.cell? ⟨w.heap.size, 0, none⟩ = some (sl t.bm t.om m t.cm) := by simpa using px.bx 0 _ rfl
            have q5 := hbX.mem' i (by omega)
            have t1 : X.cell? ⟨l.T, 1, none⟩ = some (sl l.bt 0 l.n l.n) := (Kept.toC px.bel).cell (p := ⟨l.T, 1, none⟩) (fun hn => hn (World.block_lt_of_cell? w _ (HT.out.st 1 _ rfl))) (by simpa using HT.out.st 1 _ rfl)
            have t2 : X.cell? ⟨l.bt, mem i, none⟩ = some (.float .f64 (Flt.nat (tt i))) := (Kept.toC px.bel).cell (p := ⟨l.bt, mem i, none⟩) (fun hn => hn (HT.out.tt.lt (by have := hm i (by omega); omega))) (by have := HT.out.tt.cell (hm i (by omega)); rw [Nat.zero_add, (htt i (by omega)).1] at this; exact this)
            have t3 : (mem i : Int) < l.n := by have := hm i (by omega); omega
            have had : ∀ w, Sem.run Ybaz.prog (binOp .add 36 (.float .f64 (Flt.nat v)) (.float .f64 (Flt.nat (tt i)))) w = .ok (.float .f64 (Flt.nat (v + tt i))) w := fun w => Flt.run_add w 36 _ _ (by have h9 := (htt i (by omega)).2; omega)
            have PX := hid px
            have RX := hid rpx
            have SX := hid rsx
            have MX := hid mkx
            clear px rpx rsx mkx hbX
            refine wp_region_quiet_tail 19 (fun w' => ∃ nq, w' = X.drewN nq) mixed (by kernel_rfl) ⟨1, rfl⟩ ?_
            dsimp only [List.take, List.drop]
            repeat go_big_quiet_step (fail)
            refine wpQuiet_nil ?_
            rintro _ ⟨nq, rfl⟩
            have e6 : (X.drewN nq).cell? ⟨bl, i, none⟩ = some (.float .f64 (Flt.nat v)) := q1
            have e7 : (X.drewN nq).frozen? ⟨bl, i, none⟩ = false := q3
            have hst := run_store1 (P := Ybaz.prog) (X.drewN nq) bl i (.float .f64 (Flt.nat (v + tt i))) (by rw [e6]; rfl) e7 rfl
            go_wp2
            go_roundw
            case rel =>
              refine ⟨i, by omega, by go_num, fun y => if y = i then v + tt i else xs y, fun k => ?_, fun k hk => ?_, ((PX.out.drewN nq).setl (i := i) (by omega) _).ext (fun _ _ => rfl) (fun _ _ => rfl) (fun _ _ => rfl) (fun _ _ => rfl) (fun y hy => ?_), (RX.out.drewN nq).low PX.out.hbl _, (SX.out.drewN nq).low PX.out.hbl _, MX.out.kept ((Kept.drewN (Kept.refl (fun b => b = bl) X) nq).setCell (p := ⟨bl, i, none⟩) (.inl rfl) _) (fun b hb => by subst hb; exact notDef_of_cell q1)⟩
              · dsimp only
                by_cases e : k = i
                · rw [if_pos e, e]; have h9 := (htt i (by omega)).2; omega
                · rw [if_neg e]; exact hxb k
              · dsimp only
                rw [if_neg (by omega)]; exact hx0 k (by omega)
              · dsimp only
                by_cases e : y = i
                · rw [if_pos e, if_pos e]
                · rw [if_neg e, if_neg e, if_neg e]
            case measure => first | (simp [intOf]; done) | (simp [intOf]; omega)
end Go.Proofs.YbulkdsicGreat
