import Derived.Test.YbulkdsicGreatTree3
import Derived.Test.YbulkdsicGreatTails
import Derived.Test.YbulkdsicGreatWant
set_option linter.unusedVariables false
set_option linter.unusedSimpArgs false
namespace Go.Proofs.YbulkdsicGreat
open Go.RowKit Go.Shelf

/-- A block that is none of the grown rows'. -/
structure Aside (tv cv : Value) (vals : List Value) (b : Nat) : Prop where
  t : tv.ownBlock ≠ some b
  c : cv.ownBlock ≠ some b
  v : ∀ v ∈ vals, v.ownBlock ≠ some b

/-- The registry's and the schedule's blocks lie apart. -/
structure LD (w : World) (base Gb Sb pb sv sb en : Nat) : Prop where
  lGb : w.heap.size ≤ Gb
  hGb : Gb < base
  lSb : w.heap.size ≤ Sb
  hSb : Sb < base
  lpb : w.heap.size ≤ pb
  hpb : pb < base
  lsv : w.heap.size ≤ sv
  hsv : sv < base
  lsb : w.heap.size ≤ sb
  hsb : sb < base
  len : w.heap.size ≤ en
  hen : en < base
  n1 : Gb ≠ pb
  n2 : Gb ≠ sv
  n3 : Gb ≠ sb
  n4 : Gb ≠ en
  n5 : Sb ≠ pb
  n6 : Sb ≠ sv
  n7 : Sb ≠ sb
  n8 : Sb ≠ en
  n9 : pb ≠ sv
  n10 : pb ≠ sb
  n11 : pb ≠ en
  n12 : sv ≠ sb
  n13 : sv ≠ en
  n14 : sb ≠ en

/-- One service in memory. -/
structure SvR (U : World) (base F sv : Nat) (nm : Nat → ByteArray) (tm : Nat → Value) (pr : Nat → Option Nat) (tv cv : Value) (vals : List Value) (i : Nat) : Prop where
  ex : ∃ iv ob oc, U.rangeAt sv (i * 4) [.string (nm i), iv, sl ob 0 1 oc, tm i] ∧ base ≤ ob ∧ ob < F ∧ Aside tv cv vals ob ∧ U.cell? ⟨ob, 0, none⟩ = some (vi i) ∧ (pr i = none → iv = .slice none 0 0) ∧
    (∀ j, pr i = some j → ∃ ib c, iv = sl ib 0 1 c ∧ base ≤ ib ∧ ib < F ∧ Aside tv cv vals ib ∧ U.cell? ⟨ib, 0, none⟩ = some (vi j))

/-- The loop's state: the tables up to m, the tails t, the chains c, the services r. -/
structure LW (w U : World) (base Gb Sb pb sv sb en n F : Nat) (nm : Nat → ByteArray) (tm : Nat → Value) (d : Nat → Nat) (m t c r : Nat) (tv cv : Value) (vals : List Value) : Prop where
  bel : Below w.heap.size w U
  g1 : U.cell? ⟨Gb, 1, none⟩ = some (sl pb 0 n n)
  g2 : U.cell? ⟨Gb, 2, none⟩ = some (sl sv 0 n n)
  s1 : U.cell? ⟨Sb, 1, none⟩ = some (sl sb 0 n n)
  s3 : U.cell? ⟨Sb, 3, none⟩ = some (sl en 0 n n)
  par : Tab U pb 0 n (fun i => if i < m then .int .i64 (-1) else vi 0)
  byT : Tab U sb 0 n (fun i => if i < m then vi i else vi 0)
  enT : Tab U en 0 n (fun i => if i < m then vi i else vi 0)
  svT : U.there sv 0 (n * 4)
  row : ∀ i, i < r → SvR U base F sv nm tm (prd d) tv cv vals i
  tls : U.ownsRow base 3 1 tv (tl d t).length ((tl d t).map vi)
  ch : OR U base cv vals (groups (prd d) (rt (prd d) n) c)
  tsep : ∀ v ∈ vals, ∀ b, v.ownBlock = some b → tv.ownBlock ≠ some b
  bF : base ≤ F
  sz : F ≤ U.heap.size

theorem OR.keptO {E : Nat → Prop} {W W' : World} {base : Nat} {ov : Value} {vals : List Value} {gs : List (List Nat)} (h : OR W base ov vals gs) (k : Kept E W W') (hE : ∀ b, E b → ov.ownBlock ≠ some b ∧ ∀ v ∈ vals, v.ownBlock ≠ some b) : OR W' base ov vals gs :=
  ⟨own_kept h.out k (fun g hg he => (hE g he).1 hg), h.len, fun k' v g hv hg => own_kept (h.own k' v g hv hg) k (fun b hb he => (hE b he).2 v (List.mem_of_getElem? hv) hb), h.sep⟩
theorem OR.block {W : World} {base : Nat} {ov : Value} {vals : List Value} {gs : List (List Nat)} (h : OR W base ov vals gs) {v : Value} (hv : v ∈ vals) {b : Nat} (hb : v.ownBlock = some b) : base ≤ b ∧ b < W.heap.size := by
  obtain ⟨k, hk⟩ := List.getElem?_of_mem hv
  have hl : k < gs.length := by rw [← h.len]; exact (List.getElem?_eq_some_iff.1 hk).1
  have := h.own k v gs[k] hk (List.getElem?_eq_getElem hl)
  exact ⟨(own_block this hb).1, ownBlock_lt this hb⟩

theorem SvR.kept {E : Nat → Prop} {U U' : World} {base F F' sv : Nat} {nm : Nat → ByteArray} {tm : Nat → Value} {pr : Nat → Option Nat} {tv cv tv' cv' : Value} {vals vals' : List Value} {i : Nat} (h : SvR U base F sv nm tm pr tv cv vals i) (k : Kept E U U') (hsv : ¬ E sv) (hF : F ≤ F')
    (hE : ∀ b, base ≤ b → b < F → Aside tv cv vals b → ¬ E b ∧ Aside tv' cv' vals' b) : SvR U' base F' sv nm tm pr tv' cv' vals' i := by
  obtain ⟨iv, ob, oc, h1, h2, h3, h4, h5, h6, h7⟩ := h.ex
  refine ⟨⟨iv, ob, oc, k.range hsv h1, h2, by omega, (hE ob h2 h3 h4).2, k.cell (p := ⟨ob, 0, none⟩) (hE ob h2 h3 h4).1 h5, h6, fun j hj => ?_⟩⟩
  obtain ⟨ib, c, a1, a2, a3, a4, a5⟩ := h7 j hj
  exact ⟨ib, c, a1, a2, by omega, (hE ib a2 a3 a4).2, k.cell (p := ⟨ib, 0, none⟩) (hE ib a2 a3 a4).1 a5⟩

section
variable {w U : World} {base Gb Sb pb sv sb en n F : Nat} {nm : Nat → ByteArray} {tm : Nat → Value} {d : Nat → Nat} {m t c r : Nat} {tv cv : Value} {vals : List Value}

theorem LW.aside {E : Nat → Prop} {U' : World} (ld : LD w base Gb Sb pb sv sb en) (h : LW w U base Gb Sb pb sv sb en n F nm tm d m t c r tv cv vals) (k : Kept E U U') (hE : ∀ b, E b → F ≤ b ∧ Aside tv cv vals b) : LW w U' base Gb Sb pb sv sb en n F nm tm d m t c r tv cv vals := by
  have hbF := h.bF
  have n0 : ∀ z, z < base → ¬ E z := fun z hz he => by have := (hE z he).1; omega
  have hwb : w.heap.size ≤ base := by have := ld.lGb; have := ld.hGb; omega
  exact ⟨h.bel.trans (k.toBelow (fun i hi => n0 i (by omega)) h.bel.size), k.cell (p := ⟨Gb, 1, none⟩) (n0 _ ld.hGb) h.g1, k.cell (p := ⟨Gb, 2, none⟩) (n0 _ ld.hGb) h.g2, k.cell (p := ⟨Sb, 1, none⟩) (n0 _ ld.hSb) h.s1, k.cell (p := ⟨Sb, 3, none⟩) (n0 _ ld.hSb) h.s3, h.par.kept k (n0 _ ld.hpb), h.byT.kept k (n0 _ ld.hsb), h.enT.kept k (n0 _ ld.hen), k.there (n0 _ ld.hsv) h.svT,
    fun i hi => (h.row i hi).kept k (n0 _ ld.hsv) (Nat.le_refl _) (fun b _ hb ha => ⟨fun he => by have := (hE b he).1; omega, ha⟩), own_kept h.tls k (fun g hg he => (hE g he).2.t hg), h.ch.keptO k (fun b hb => ⟨(hE b hb).2.c, (hE b hb).2.v⟩), h.tsep, h.bF, Nat.le_trans h.sz k.size⟩

/-- The rows' limit, raised. -/
theorem LW.raise (h : LW w U base Gb Sb pb sv sb en n F nm tm d m t c r tv cv vals) : LW w U base Gb Sb pb sv sb en n U.heap.size nm tm d m t c r tv cv vals :=
  ⟨h.bel, h.g1, h.g2, h.s1, h.s3, h.par, h.byT, h.enT, h.svT, fun i hi => (h.row i hi).kept (E := fun _ => False) (Kept.refl _ U) (fun h => h) h.sz (fun b _ _ ha => ⟨fun h => h, ha⟩), h.tls, h.ch, h.tsep, Nat.le_trans h.bF h.sz, Nat.le_refl _⟩

/-- Regions 11, 12, 13. -/
theorem LW.mark (ld : LD w base Gb Sb pb sv sb en) (h : LW w U base Gb Sb pb sv sb en n F nm tm d m t c r tv cv vals) (hm : m < n) : LW w (((U.setCell ⟨pb, m, none⟩ (.int .i64 (-1))).setCell ⟨sb, m, none⟩ (vi m)).setCell ⟨en, m, none⟩ (vi m)) base Gb Sb pb sv sb en n F nm tm d (m + 1) t c r tv cv vals := by
  have hbF := h.bF
  have l1 := ld.lpb; have l2 := ld.lsb; have l3 := ld.len; have u1 := ld.hpb; have u2 := ld.hsb; have u3 := ld.hen
  have k : Kept (fun b => b = pb ∨ b = sb ∨ b = en) U (((U.setCell ⟨pb, m, none⟩ (.int .i64 (-1))).setCell ⟨sb, m, none⟩ (vi m)).setCell ⟨en, m, none⟩ (vi m)) :=
    (((Kept.refl _ U).setCell (p := ⟨pb, m, none⟩) (.inl (.inl rfl)) _).setCell (p := ⟨sb, m, none⟩) (.inl (.inr (.inl rfl))) _).setCell (p := ⟨en, m, none⟩) (.inl (.inr (.inr rfl))) _
  have hi : ∀ z, base ≤ z → ¬ (z = pb ∨ z = sb ∨ z = en) := fun z hz he => by rcases he with e | e | e <;> omega
  have t1 := ((tab_step (W' := U) (x := fun _ => .int .i64 (-1)) h.par hm).other ⟨sb, m, none⟩ (vi m) (fun e => absurd e (Ne.symm ld.n10))).other ⟨en, m, none⟩ (vi m) (fun e => absurd e (Ne.symm ld.n11))
  have t2 := (tab_step (W' := U) (x := vi) (h.byT.other ⟨pb, m, none⟩ (.int .i64 (-1)) (fun e => absurd e ld.n10)) hm).other ⟨en, m, none⟩ (vi m) (fun e => absurd e (Ne.symm ld.n14))
  have t3 := tab_step (W' := U) (x := vi) ((h.enT.other ⟨pb, m, none⟩ (.int .i64 (-1)) (fun e => absurd e ld.n11)).other ⟨sb, m, none⟩ (vi m) (fun e => absurd e ld.n14)) hm
  have nG : ¬ (Gb = pb ∨ Gb = sb ∨ Gb = en) := fun h => h.elim ld.n1 (fun h => h.elim ld.n3 ld.n4)
  have nS : ¬ (Sb = pb ∨ Sb = sb ∨ Sb = en) := fun h => h.elim ld.n5 (fun h => h.elim ld.n7 ld.n8)
  have nV : ¬ (sv = pb ∨ sv = sb ∨ sv = en) := fun h => h.elim (Ne.symm ld.n9) (fun h => h.elim ld.n12 ld.n13)
  exact ⟨h.bel.trans (k.toBelow (fun i hi he => by rcases he with e | e | e <;> omega) h.bel.size), k.cell (p := ⟨Gb, 1, none⟩) nG h.g1, k.cell (p := ⟨Gb, 2, none⟩) nG h.g2, k.cell (p := ⟨Sb, 1, none⟩) nS h.s1, k.cell (p := ⟨Sb, 3, none⟩) nS h.s3, t1, t2, t3, k.there nV h.svT,
    fun i hi' => (h.row i hi').kept k nV (Nat.le_refl _) (fun b hb _ ha => ⟨hi b hb, ha⟩), own_kept h.tls k (fun g hg he => hi g (own_block h.tls hg).1 he), h.ch.keptO k (fun b hb => ⟨fun e => hi b (own_block h.ch.out e).1 hb, fun v hv e => hi b (h.ch.block hv e).1 hb⟩), h.tsep, h.bF, Nat.le_trans h.sz k.size⟩

/-- The tails' row is written. -/
theorem LW.tails {U' : World} {tv' : Value} {t' : Nat} (ld : LD w base Gb Sb pb sv sb en) (h : LW w U base Gb Sb pb sv sb en n F nm tm d m t c r tv cv vals) (k : Kept (fun b => tv.ownBlock = some b) U U') (own : U'.ownsRow base 3 1 tv' (tl d t').length ((tl d t').map vi))
    (mv : ∀ b, tv'.ownBlock = some b → tv.ownBlock = some b ∨ U.heap.size ≤ b) : LW w U' base Gb Sb pb sv sb en n F nm tm d m t' c r tv' cv vals := by
  have hbF := h.bF
  have hsz := h.sz
  have n0 : ∀ z, z < base → tv.ownBlock ≠ some z := fun z hz he => by have := (own_block h.tls he).1; omega
  have hwb : w.heap.size ≤ base := by have := ld.lGb; have := ld.hGb; omega
  have tc : ∀ b, tv.ownBlock = some b → cv.ownBlock ≠ some b := fun b hb hc => by
    obtain ⟨_, c1, h1⟩ := own_block h.tls hb
    obtain ⟨_, c2, h2⟩ := own_block h.ch.out hc
    rw [h1] at h2
    cases h2
  refine ⟨h.bel.trans (k.toBelow (fun i hi => n0 i (by omega)) h.bel.size), k.cell (p := ⟨Gb, 1, none⟩) (n0 _ ld.hGb) h.g1, k.cell (p := ⟨Gb, 2, none⟩) (n0 _ ld.hGb) h.g2, k.cell (p := ⟨Sb, 1, none⟩) (n0 _ ld.hSb) h.s1, k.cell (p := ⟨Sb, 3, none⟩) (n0 _ ld.hSb) h.s3, h.par.kept k (n0 _ ld.hpb), h.byT.kept k (n0 _ ld.hsb), h.enT.kept k (n0 _ ld.hen), k.there (n0 _ ld.hsv) h.svT,
    fun i hi => (h.row i hi).kept k (n0 _ ld.hsv) (Nat.le_refl _) (fun b _ hb ha => ⟨ha.t, ⟨fun he => by rcases mv b he with e | e; exact ha.t e; omega, ha.c, ha.v⟩⟩), own, h.ch.keptO k (fun b hb => ⟨tc b hb, fun v hv e => h.tsep v hv b e hb⟩), fun v hv b hb he => ?_, h.bF, Nat.le_trans h.sz k.size⟩
  rcases mv b he with e | e
  · exact h.tsep v hv b hb e
  · have := (h.ch.block hv hb).2; omega

/-- The chains are written. -/
theorem LW.chains {U' : World} {cv' : Value} {vals' : List Value} {c' : Nat} (ld : LD w base Gb Sb pb sv sb en) (h : LW w U base Gb Sb pb sv sb en n F nm tm d m t c r tv cv vals) (k : Kept (fun b => cv.ownBlock = some b ∨ ∃ v ∈ vals, v.ownBlock = some b) U U') (ch : OR U' base cv' vals' (groups (prd d) (rt (prd d) n) c'))
    (mc : ∀ b, cv'.ownBlock = some b → cv.ownBlock = some b ∨ U.heap.size ≤ b) (mv : ∀ v ∈ vals', ∀ b, v.ownBlock = some b → (∃ v ∈ vals, v.ownBlock = some b) ∨ U.heap.size ≤ b) : LW w U' base Gb Sb pb sv sb en n F nm tm d m t c' r tv cv' vals' := by
  have hbF := h.bF
  have hsz := h.sz
  have hi : ∀ b, (cv.ownBlock = some b ∨ ∃ v ∈ vals, v.ownBlock = some b) → base ≤ b := fun b hb => by
    rcases hb with e | ⟨v, hv, e⟩
    · exact (own_block h.ch.out e).1
    · exact (h.ch.block hv e).1
  have n0 : ∀ z, z < base → ¬ (cv.ownBlock = some z ∨ ∃ v ∈ vals, v.ownBlock = some z) := fun z hz he => by have := hi z he; omega
  have hwb : w.heap.size ≤ base := by have := ld.lGb; have := ld.hGb; omega
  have tc : ∀ b, tv.ownBlock = some b → cv.ownBlock ≠ some b := fun b hb hc => by
    obtain ⟨_, c1, h1⟩ := own_block h.tls hb
    obtain ⟨_, c2, h2⟩ := own_block h.ch.out hc
    rw [h1] at h2
    cases h2
  refine ⟨h.bel.trans (k.toBelow (fun i hi => n0 i (by omega)) h.bel.size), k.cell (p := ⟨Gb, 1, none⟩) (n0 _ ld.hGb) h.g1, k.cell (p := ⟨Gb, 2, none⟩) (n0 _ ld.hGb) h.g2, k.cell (p := ⟨Sb, 1, none⟩) (n0 _ ld.hSb) h.s1, k.cell (p := ⟨Sb, 3, none⟩) (n0 _ ld.hSb) h.s3, h.par.kept k (n0 _ ld.hpb), h.byT.kept k (n0 _ ld.hsb), h.enT.kept k (n0 _ ld.hen), k.there (n0 _ ld.hsv) h.svT,
    fun i hi => (h.row i hi).kept k (n0 _ ld.hsv) (Nat.le_refl _) (fun b _ hb ha => ⟨fun he => he.elim ha.c (fun ⟨v, hv, e⟩ => ha.v v hv e), ⟨ha.t, fun he => by rcases mc b he with e | e; exact ha.c e; omega, fun v hv he => by rcases mv v hv b he with ⟨v', hv', e⟩ | e; exact ha.v v' hv' e; omega⟩⟩),
    own_kept h.tls k (fun g hg he => he.elim (tc g hg) (fun ⟨v, hv, e⟩ => h.tsep v hv g e hg)), ch, fun v hv b hb he => ?_, h.bF, Nat.le_trans h.sz k.size⟩
  rcases mv v hv b hb with ⟨v', hv', e⟩ | e
  · exact h.tsep v' hv' b e he
  · have := ownBlock_lt h.tls he; omega

/-- A block aside stays aside. -/
theorem Aside.tails {tv' : Value} {b : Nat} (a : Aside tv cv vals b) (hb : b < U.heap.size) (mv : ∀ b, tv'.ownBlock = some b → tv.ownBlock = some b ∨ U.heap.size ≤ b) : Aside tv' cv vals b :=
  ⟨fun he => by rcases mv b he with e | e; exact a.t e; omega, a.c, a.v⟩
theorem Aside.chains {cv' : Value} {vals' : List Value} {b : Nat} (a : Aside tv cv vals b) (hb : b < U.heap.size) (mc : ∀ b, cv'.ownBlock = some b → cv.ownBlock = some b ∨ U.heap.size ≤ b) (mv : ∀ v ∈ vals', ∀ b, v.ownBlock = some b → (∃ v ∈ vals, v.ownBlock = some b) ∨ U.heap.size ≤ b) : Aside tv cv' vals' b :=
  ⟨a.t, fun he => by rcases mc b he with e | e; exact a.c e; omega, fun v hv he => by rcases mv v hv b he with ⟨v', hv', e⟩ | e; exact a.v v' hv' e; omega⟩
/-- A new block lies aside. -/
theorem LW.fresh (h : LW w U base Gb Sb pb sv sb en n F nm tm d m t c r tv cv vals) {b : Nat} (hb : U.heap.size ≤ b) : Aside tv cv vals b :=
  ⟨fun e => by have := ownBlock_lt h.tls e; omega, fun e => by have := ownBlock_lt h.ch.out e; omega, fun v hv e => by have := (h.ch.block hv e).2; omega⟩

/-- Region 28: the service is laid. -/
theorem LW.serve {iv : Value} {ob oc : Nat} (ld : LD w base Gb Sb pb sv sb en) (h : LW w U base Gb Sb pb sv sb en n F nm tm d m t c r tv cv vals) (hr : r < n)
    (h2 : base ≤ ob) (h3 : ob < U.heap.size) (h4 : Aside tv cv vals ob) (h5 : U.cell? ⟨ob, 0, none⟩ = some (vi r)) (h6 : prd d r = none → iv = .slice none 0 0)
    (h7 : ∀ j, prd d r = some j → ∃ ib c, iv = sl ib 0 1 c ∧ base ≤ ib ∧ ib < U.heap.size ∧ Aside tv cv vals ib ∧ U.cell? ⟨ib, 0, none⟩ = some (vi j)) :
    LW w (U.setCells sv (r * 4) [.string (nm r), iv, sl ob 0 1 oc, tm r]) base Gb Sb pb sv sb en n U.heap.size nm tm d m t c (r + 1) tv cv vals := by
  have hbF := h.bF
  have hsz := h.sz
  have l1 := ld.lsv; have u1 := ld.hsv
  have k : Kept (fun b => b = sv) U (U.setCells sv (r * 4) [.string (nm r), iv, sl ob 0 1 oc, tm r]) := (Kept.refl (fun b => b = sv) U).setCells (.inl rfl) _ _
  have hi : ∀ z, base ≤ z → z ≠ sv := fun z hz e => by omega
  refine ⟨h.bel.trans (k.toBelow (fun i hi he => by omega) h.bel.size), k.cell (p := ⟨Gb, 1, none⟩) ld.n2 h.g1, k.cell (p := ⟨Gb, 2, none⟩) ld.n2 h.g2, k.cell (p := ⟨Sb, 1, none⟩) ld.n6 h.s1, k.cell (p := ⟨Sb, 3, none⟩) ld.n6 h.s3, h.par.kept k ld.n9, h.byT.kept k (Ne.symm ld.n12), h.enT.kept k (Ne.symm ld.n13), there_setCells h.svT _ _ _, fun i hi' => ?_, own_kept h.tls k (fun g hg => hi g (own_block h.tls hg).1), h.ch.keptO k (fun b hb => ⟨fun e => hi b (own_block h.ch.out e).1 hb, fun v hv e => hi b (h.ch.block hv e).1 hb⟩), h.tsep, Nat.le_trans h.bF h.sz, k.size⟩
  rcases Nat.lt_or_ge i r with hl | hl
  · obtain ⟨iv', ob', oc', a1, a2, a3, a4, a5, a6, a7⟩ := (h.row i hl).ex
    refine ⟨⟨iv', ob', oc', World.rangeAt_setCells_apart a1 _ _ _ (.inr (.inl (by simp; omega))), a2, by omega, a4, k.cell (p := ⟨ob', 0, none⟩) (hi _ a2) a5, a6, fun j hj => ?_⟩⟩
    obtain ⟨ib, cc, b1, b2, b3, b4, b5⟩ := a7 j hj
    exact ⟨ib, cc, b1, b2, by omega, b4, k.cell (p := ⟨ib, 0, none⟩) (hi _ b2) b5⟩
  · obtain rfl : i = r := by omega
    refine ⟨⟨iv, ob, oc, World.rangeAt_setCells_same _ _ _ _ (there_part h.svT (by omega) (by simp; omega)), h2, h3, h4, k.cell (p := ⟨ob, 0, none⟩) (hi _ h2) h5, h6, fun j hj => ?_⟩⟩
    obtain ⟨ib, cc, b1, b2, b3, b4, b5⟩ := h7 j hj
    exact ⟨ib, cc, b1, b2, b3, b4, k.cell (p := ⟨ib, 0, none⟩) (hi _ b2) b5⟩

/-- The whole registry. -/
theorem LW.rg (h : LW w U base Gb Sb pb sv sb en n F nm tm d n t c n tv cv vals) (few : n ≤ 300) : RG U Gb Sb n pb sv sb en nm tm (prd d) := by
  have cell : ∀ {b i : Nat} {v : Value} {f : Nat → Value}, Tab U b 0 n f → i < n → f i = v → U.cell? ⟨b, i, none⟩ = some v := fun ht hi e => by
    have := ht.cell hi
    rw [Nat.zero_add, e] at this
    exact this
  refine ⟨h.g1, h.g2, fun i hi => cell h.par hi (by simp [hi]), fun i hi => ?_, fun i hi hp => ?_, fun i j hi hp => ?_, fun i hi => ?_, fun i hi => ?_, h.s1, h.s3, fun i hi => cell h.byT hi (by simp [hi]), fun i hi => cell h.enT hi (by simp [hi]), few, prd_low d n⟩
  · obtain ⟨iv, ob, oc, a1, _⟩ := (h.row i hi).ex
    simpa using a1 0 _ rfl
  · obtain ⟨iv, ob, oc, a1, a2, a3, a4, a5, a6, a7⟩ := (h.row i hi).ex
    have := a1 1 _ rfl
    rw [a6 hp] at this
    exact this
  · obtain ⟨iv, ob, oc, a1, a2, a3, a4, a5, a6, a7⟩ := (h.row i hi).ex
    obtain ⟨ib, cc, b1, b2, b3, b4, b5⟩ := a7 j hp
    have := a1 1 _ rfl
    rw [b1] at this
    exact ⟨ib, cc, this, b5⟩
  · obtain ⟨iv, ob, oc, a1, a2, a3, a4, a5, a6, a7⟩ := (h.row i hi).ex
    exact ⟨ob, oc, a1 2 _ rfl, a5⟩
  · obtain ⟨iv, ob, oc, a1, a2, a3, a4, a5, a6, a7⟩ := (h.row i hi).ex
    exact a1 3 _ rfl
end

/-- The chains, to be read. -/
structure CH (W : World) (og oc : Nat) (gs : List (List Nat)) : Prop where
  at' : ∀ (k : Nat) L, gs[k]? = some L → ∃ g c, W.cell? ⟨og, k, none⟩ = some (sl g 0 L.length c) ∧ ∀ (j x : Nat), L[j]? = some x → W.cell? ⟨g, j, none⟩ = some (vi x)
theorem CH.below {W W' : World} {og oc : Nat} {gs : List (List Nat)} (h : CH W og oc gs) (b : Below W.heap.size W W') : CH W' og oc gs := ⟨fun k L hk => by
  have kk := Kept.ofBelow (E := fun _ => False) b
  obtain ⟨g, c, h1, h2⟩ := h.at' k L hk
  exact ⟨g, c, kk.cell (fun h => h) h1, fun j x hx => kk.cell (fun h => h) (h2 j x hx)⟩⟩
theorem OR.chs {W : World} {base : Nat} {cv : Value} {vals : List Value} {gs : List (List Nat)} (h : OR W base cv vals gs) (h0 : 0 < gs.length) (hpos : ∀ L ∈ gs, 0 < L.length) : ∃ og oc, cv = sl og 0 gs.length oc ∧ CH W og oc gs := by
  have hl := h.len
  have hv0 : vals[0]? = some (vals[0]'(by omega)) := List.getElem?_eq_getElem _
  obtain ⟨og, oc, e, _, _⟩ := own_cell h.out hv0
  rw [hl] at e
  refine ⟨og, oc, e, ⟨fun k L hk => ?_⟩⟩
  have hkl := (List.getElem?_eq_some_iff.1 hk).1
  have hvk : vals[k]? = some (vals[k]'(by omega)) := List.getElem?_eq_getElem _
  obtain ⟨og', oc', e', h1, _⟩ := own_cell h.out hvk
  rw [hl, e] at e'
  cases e'
  have own := h.own k _ L hvk hk
  have hp := hpos L (List.mem_of_getElem? hk)
  have hm0 : (L.map vi)[0]? = some (vi (L[0]'hp)) := by rw [List.getElem?_map, List.getElem?_eq_getElem hp]; rfl
  obtain ⟨g, cc, ev, _, _⟩ := own_cell own hm0
  rw [ev] at h1
  refine ⟨g, cc, h1, fun j x hx => ?_⟩
  have hmj : (L.map vi)[j]? = some (vi x) := by rw [List.getElem?_map, hx]; rfl
  obtain ⟨g', cc', ev', h2, _⟩ := own_cell own hmj
  rw [ev] at ev'
  cases ev'
  exact h2
end Go.Proofs.YbulkdsicGreat
