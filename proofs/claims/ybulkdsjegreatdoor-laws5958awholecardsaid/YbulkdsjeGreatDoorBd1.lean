import Derived.Test.YbulkdsjeGreatDoorNs2
import Derived.Test.YbulkdsjeGreatDoorFlo2
import Derived.BigQuiet
import Derived.Deep.QuietTactic
import Derived.Deep.MidRow
set_option linter.unusedVariables false
set_option linter.unusedSimpArgs false
namespace Go.Proofs.YbulkdsjeGreatDoor
open Go.RowKit

/-- The points in memory. -/
structure PT (W : World) (pa : Option Addr) (pb po n : Nat) (dt : Nat → Nat) : Prop where
  ad : 0 < n → pa = some ⟨pb, po, none⟩
  row : ∀ i, i < n → dt i < 65536 ∧ W.cell? ⟨pb, po + i * 2, none⟩ = some (.int .u16 (dt i : Int)) ∧ ∃ x, W.cell? ⟨pb, po + i * 2 + 1, none⟩ = some (.float .f64 x)
theorem PT.kept {W W' : World} {pa : Option Addr} {pb po n : Nat} {dt : Nat → Nat} (h : PT W pa pb po n dt) (k : Kept (fun _ => False) W W') : PT W' pa pb po n dt :=
  ⟨h.ad, fun i hi => by
    obtain ⟨a, b, x, c⟩ := h.row i hi
    exact ⟨a, k.cell (p := ⟨pb, po + i * 2, none⟩) (fun h => h) b, x, k.cell (p := ⟨pb, po + i * 2 + 1, none⟩) (fun h => h) c⟩⟩
/-- The series as it stands behind i points. -/
def BdI (U : World) (rb ro rc na : Nat) (st nn : Nat → Nat) (hb rw xff sb ab i t : Nat) (X : World) : Prop := ∃ SA Sr pv nw sd, SW X SA Sr sb ab na st nn (fuOf st) hb rw pv nw sd i ∧ nw ≤ t ∧ Kept (fun _ => False) U X ∧ X.cell? ⟨sb, 0, none⟩ = some (sl rb ro na rc) ∧ X.cell? ⟨sb, 2, none⟩ = some (.float .f64 xff) ∧ (∀ i c, i < na → SA i c → U.heap.size ≤ c) ∧ (∀ c, Sr c → U.heap.size ≤ c) ∧ U.heap.size ≤ sb ∧ U.heap.size ≤ ab
theorem SW.kept {U V : World} {SA : Nat → Nat → Prop} {Sr : Nat → Prop} {sb ab na : Nat} {st nn fu : Nat → Nat} {hb rw pv nw : Nat} {sd : Bool} {N : Nat} (h : SW U SA Sr sb ab na st nn fu hb rw pv nw sd N) (k : Kept (fun _ => False) U V) : SW V SA Sr sb ab na st nn fu hb rw pv nw sd N :=
  ⟨h.sx.kept k, k.cell (p := ⟨sb, 3, none⟩) (fun h => h) h.r3, h.rp.kept k (fun h => h) (fun _ _ h => h), h.d1, h.d2, h.hrw⟩
theorem BdI.kept {U X Y : World} {rb ro rc na : Nat} {st nn : Nat → Nat} {hb rw xff sb ab i t : Nat} (h : BdI U rb ro rc na st nn hb rw xff sb ab i t X) (k : Kept (fun _ => False) X Y) : BdI U rb ro rc na st nn hb rw xff sb ab i t Y := by
  obtain ⟨SA, Sr, pv, nw, sd, sw, h1, h2, h3, h4, h5⟩ := h
  exact ⟨SA, Sr, pv, nw, sd, sw.kept k, h1, h2.trans k, k.cell (p := ⟨sb, 0, none⟩) (fun h => h) h3, k.cell (p := ⟨sb, 2, none⟩) (fun h => h) h4, h5⟩
/-- One more point. -/
theorem BdI.next {U X Y : World} {rb ro rc na : Nat} {st nn : Nat → Nat} {hb rw xff sb ab i t : Nat} {SA : Nat → Nat → Prop} {Sr : Nat → Prop} {pv nw : Nat} {sd : Bool} (sw : SW X SA Sr sb ab na st nn (fuOf st) hb rw pv nw sd i) (k : Kept (fun _ => False) U X) (c0 : X.cell? ⟨sb, 0, none⟩ = some (sl rb ro na rc)) (c2 : X.cell? ⟨sb, 2, none⟩ = some (.float .f64 xff)) (o1 : ∀ i c, i < na → SA i c → U.heap.size ≤ c) (o2 : ∀ c, Sr c → U.heap.size ≤ c) (o3 : U.heap.size ≤ sb) (o4 : U.heap.size ≤ ab) (w : WrP X SA Sr sb ab na st nn (fuOf st) hb rw t (i + 1) Y) : BdI U rb ro rc na st nn hb rw xff sb ab (i + 1) t Y := by
  obtain ⟨SA', Sr', pv', sw', fp, q1, q2⟩ := w
  have hl := sw.sx.lt
  have nX : ∀ j, j < 5 → ¬ WF SA Sr sb ab na sb j := fun j hj hx => by
    rcases hx with ⟨i, hi, hx⟩ | hx | hx | hx
    · exact sw.sx.ds i _ hi hx rfl
    · exact sw.rp.bl.2.2 hx
    · exact sw.sx.sab hx
    · omega
  refine ⟨SA', Sr', pv', t, true, sw', Nat.le_refl _, Kept.thn' k (fp.kept (E := fun c => U.heap.size ≤ c) (fun c j _ hx => ?_)) (fun c hc he => by omega), by rw [fp.cell _ _ hl (nX 0 (by omega))]; exact c0, by rw [fp.cell _ _ hl (nX 2 (by omega))]; exact c2, fun i c hi hc => ?_, fun c hc => ?_, o3, o4⟩
  · rcases hx with ⟨i, hi, hx⟩ | hx | hx | hx
    · exact o1 i c hi hx
    · exact o2 c hx
    · rw [hx]; exact o4
    · rw [hx.1]; exact o3
  · rcases q1 i c hi hc with h | h
    · exact o1 i c hi h
    · exact Nat.le_trans k.size h
  · rcases q2 c hc with h | h
    · exact o2 c h
    · exact Nat.le_trans k.size h
def FV (v : Value) : Prop := ∃ y, v = .float .f64 y
def BdP (U : World) (rb ro rc na : Nat) (st nn : Nat → Nat) (hb rw xff n : Nat) (e : Ending) (w' : World) : Prop := ∃ sb ab t, e = .returned (.pointer (some ⟨sb, 0, none⟩)) ∧ BdI U rb ro rc na st nn hb rw xff sb ab n t w'

set_option maxRecDepth 100000 in
set_option maxHeartbeats 4000000 in
theorem build_any (rb ro rc na : Nat) (st nn : Nat → Nat) (hb rw xff : Nat) (pa : Option Addr) (pb po n pc : Nat) (dt : Nat → Nat) (U : World) (h : RuleM U rb ro na st nn) (hp : PT U pa pb po n dt) (hn : n ≤ 65536) (hhb : hb < 1125899906842624) (hrw : rw < 1125899906842624) (hfu : ∀ i, i < na → 0 < fuOf st i ∧ fuOf st i ≤ 60000) : Calls Ybaz.prog 6 #[.agg #[sl rb ro na rc, vi hb, .float .f64 xff, vi rw], .slice pa n pc] U fun e w' => BdP U rb ro rc na st nn hb rw xff n e w' := by
  have k0 : Kept (fun _ => False) U (U.alloc (.cells #[sl rb ro na rc, vi hb, .float .f64 xff, vi rw] 31)) := (Kept.refl _ U).alloc _
  have KK := hid (show Kept (fun _ => False) U (U.alloc (.cells #[sl rb ro na rc, vi hb, .float .f64 xff, vi rw] 31)) ∧ (U.alloc (.cells #[sl rb ro na rc, vi hb, .float .f64 xff, vi rw] 31)).rangeAt U.heap.size 0 [sl rb ro na rc, vi hb, .float .f64 xff, vi rw] from ⟨k0, range_new U [sl rb ro na rc, vi hb, .float .f64 xff, vi rw] 31⟩)
  have NS : Hid (∀ V, Kept (fun _ => False) U V → Calls Ybaz.prog 16 #[.agg #[sl rb ro na rc, vi hb, .float .f64 xff, vi rw]] V fun e w' => NsP V rb ro rc na st nn hb rw xff e w') := hid fun V k => newSeries_any rb ro rc na st nn hb rw xff V (h.kept k (fun h => h)) hhb hrw hfu
  have HP := hid hp
  have HN := hid hn
  have hni : (n : Int) ≤ 65536 := by omega
  clear h hp hn hhb hrw hfu k0
  go_enter Ybaz.func6, Ybaz.ntmps6
  go_upto_region 1 with fail
  refine wp_as (fun V => Kept (fun _ => False) U V ∧ V.rangeAt U.heap.size 0 [sl rb ro na rc, vi hb, .float .f64 xff, vi rw]) KK.out ?_
  rintro V ⟨kV, rV⟩
  obtain ⟨Rb, hRb⟩ : ∃ Rb, U.heap.size = Rb := ⟨_, rfl⟩
  rw [hRb] at rV ⊢
  have RV := hid rV
  have KV := hid kV
  have NSV := hid (NS.out V kV)
  clear kV rV hRb KK
  go_upto_region 2 with (first | ((with_reducible (show wpList _ _ _ (⟨_, .load 31 _, _, _, _, _⟩ :: _) _ _)); refine wpList_load_mid rfl 31 _ rfl Rb 0 rfl _ _ RV.out Ybaz.underlying31 rfl (by kernel_rfl) ?_; simp only [Act.put, List.setIfInBounds_toArray, List.set_cons_succ, List.set_cons_zero]) | (go_at_call 16; refine NSV.out.mono ?_; rintro e W1 ⟨sb, ab, rfl, ns⟩; have NSP := hid ns; clear ns NSV))
  have B0 : Hid (BdI U rb ro rc na st nn hb rw xff sb ab 0 1000000000 W1) := hid (by
    obtain ⟨n1, n2, n3, n4, n5, n6⟩ := NSP.out
    exact ⟨_, _, 0, 0, false, n4, by omega, KV.out.trans n3, n5, n6, fun _ _ _ h => h.elim, fun _ h => h.elim, Nat.le_trans KV.out.size n1, Nat.le_trans KV.out.size n2⟩)
  clear NSP RV NS KV
  go_wp2
  go_loopw [6, 14] (fun tv iv X => ∃ i t : Nat, tv = vi t ∧ iv = vi i ∧ i ≤ n ∧ 1000000000 ≤ t ∧ t ≤ 1000000000 + 65535 * i ∧ BdI U rb ro rc na st nn hb rw xff sb ab i t X) (fun _ iv _ => n - (intOf iv).toNat)
  case atStart => exact ⟨0, 1000000000, rfl, rfl, by omega, by omega, by omega, B0.out⟩
  case round =>
    clear B0
    obtain ⟨i, t, rfl, rfl, hi, ht1, ht2, bd⟩ := hrel
    have HI := hid (show i ≤ n ∧ 1000000000 ≤ t ∧ t ≤ 1000000000 + 65535 * i from ⟨hi, ht1, ht2⟩)
    have hti : (t : Int) ≤ 6000000000 := by omega
    have hii : (i : Int) ≤ 65536 := by omega
    have BD := hid bd
    clear bd hi ht1 ht2
    by_cases more : (i : Int) < (n : Int)
    · have hin : i < n := by omega
      have hpa := HP.out.ad (by omega)
      subst hpa
      have kw : Kept (fun _ => False) U wr := by
        obtain ⟨_, _, _, _, _, _, _, k, _⟩ := BD.out
        exact k
      obtain ⟨d1, z0, x, z1⟩ := (HP.out.kept kw).row i hin
      obtain ⟨q, hq⟩ : ∃ q, dt i = q := ⟨_, rfl⟩
      rw [hq] at d1 z0
      have hqi : (q : Int) < 65536 := by omega
      have HQ := hid d1
      have HIN := hid hin
      have ST := hid (run_storeAt_new (P := Ybaz.prog) wr 62 #[.int .u16 0, .float .f64 0] #[.int .u16 (q : Int), .float .f64 x] (by kernel_rfl) rfl (by simp [Value.oneCell']))
      clear kw hq d1 hin
      go_upto_region 6 with ((with_reducible (show wpList _ _ _ (⟨_, .store 62 _ _, _, _, _, _⟩ :: _) _ _)); refine wpList_store_as rfl 62 _ _ rfl rfl wr.heap.size 0 (.agg #[.int .u16 (q : Int), .float .f64 x]) rfl rfl ST.out ?_)
      clear z0 z1 more
      refine wp_as (fun Y => Kept (fun _ => False) wr Y ∧ Y.rangeAt wr.heap.size 0 [.int .u16 (q : Int), .float .f64 x]) ⟨(Kept.refl _ wr).alloc _, range_new wr [.int .u16 (q : Int), .float .f64 x] 62⟩ ?_
      rintro Y ⟨kY, rY⟩
      obtain ⟨Bk, hBk⟩ : ∃ Bk, wr.heap.size = Bk := ⟨_, rfl⟩
      rw [hBk] at rY ⊢
      have yA : Y.cell? ⟨Bk, 0, none⟩ = some (.int .u16 (q : Int)) := rY 0 _ rfl
      have yB : Y.cell? ⟨Bk, 1, none⟩ = some (.float .f64 x) := rY 1 _ rfl
      have BY := hid (BD.out.kept kY)
      clear kY rY hBk ST BD
      go_upto_region 8 with fail
      clear yA yB
      go_cut [30] from 25 to 30 (fun v w' => BV v ∧ w' = Y)
      case first =>
        go_wp2_with (first | (go_at_call 17; refine (isNaN_any x _).mono ?_; rintro e W2 ⟨⟨fb, rfl⟩, rfl⟩; cases fb) | (go_at_call 18; refine (isInf_any x _).mono ?_; rintro e W2 ⟨⟨fb, rfl⟩, rfl⟩))
        all_goals (go_meet; case rel => exact ⟨⟨_, rfl⟩, rfl⟩)
      case rest =>
        obtain ⟨⟨b, rfl⟩, ew⟩ := hcut
        rw [ew]
        clear ew
        go_upto_if 30 with fail
        go_cut [9] from 31 to 31 (fun v w' => FV v ∧ w' = Y)
        case first =>
          cases b with
          | true =>
            go_wp2
            go_meet
            case rel => exact ⟨⟨_, rfl⟩, rfl⟩
          | false =>
            go_wp2
            go_meet
            case rel => exact ⟨⟨_, rfl⟩, rfl⟩
        case rest =>
          obtain ⟨⟨y, rfl⟩, ew⟩ := hcut
          rw [ew]
          clear ew
          obtain ⟨SA, Sr, pv, nw, sd, sw, h1, h2, h3, h4, h5, h6, h7, h8⟩ := BY.out
          have WR := hid (show Calls Ybaz.prog 19 #[.pointer (some ⟨sb, 0, none⟩), ii ((t : Int) + (q : Int)), .float .f64 y] Y (fun e w' => e = .returned (.tuple #[]) ∧ WrP Y SA Sr sb ab na st nn (fuOf st) hb rw (t + q) (i + 1) w') from write_any (t + q) y SA Sr sb ab na st nn (fuOf st) hb rw pv nw sd i Y sw (by have := HI.out; have := HQ.out; have := HN.out; have := HIN.out; omega) (by have := HI.out; omega) (by have := HN.out; have := HIN.out; omega))
          have SWH := hid (show SW Y SA Sr sb ab na st nn (fuOf st) hb rw pv nw sd i ∧ nw ≤ t ∧ Kept (fun _ => False) U Y ∧ Y.cell? ⟨sb, 0, none⟩ = some (sl rb ro na rc) ∧ Y.cell? ⟨sb, 2, none⟩ = some (.float .f64 xff) ∧ (∀ i c, i < na → SA i c → U.heap.size ≤ c) ∧ (∀ c, Sr c → U.heap.size ≤ c) ∧ U.heap.size ≤ sb ∧ U.heap.size ≤ ab from ⟨sw, h1, h2, h3, h4, h5, h6, h7, h8⟩)
          clear sw h1 h2 h3 h4 h5 h6 h7 h8 BY
          go_wp2_with (go_at_call 19; refine WR.out.mono ?_; rintro e W5 ⟨rfl, wp5⟩; have WP5 := hid wp5; clear wp5 WR)
          go_roundw
          case rel =>
            obtain ⟨sw, h1, h2, h3, h4, h5, h6, h7, h8⟩ := SWH.out
            exact ⟨i + 1, t + q, by simp, by simp, HIN.out, by have := HI.out; omega, by have := HI.out; have := HQ.out; omega, BdI.next sw h2 h3 h4 h5 h6 h7 h8 WP5.out⟩
          case measure =>
            have := HIN.out
            simp [intOf]
            omega
    · go_wp2
      go_ret
      have e : i = n := by have := HI.out; omega
      subst e
      exact ⟨sb, ab, t, rfl, BD.out⟩
end Go.Proofs.YbulkdsjeGreatDoor
