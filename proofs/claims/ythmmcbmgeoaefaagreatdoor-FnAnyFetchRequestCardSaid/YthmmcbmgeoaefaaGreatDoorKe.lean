/- What is proved here: how the code of the messages runs, in general: a semantics of calls by their texts, and contracts of the functions of kbin and of the reference. No condition but those that each theorem names. -/
import Derived.Maps.RangeRun
import Derived.ProofKit
import Derived.WideKeyArgs
import Derived.ChangeSlices
import Derived.OpenShut
import Derived.RowKit
import Derived.Shelf.GgSortFunc.Whole
import Derived.Shelf.GgSortFunc.Tiny
import Derived.Test.YthmmcbmgeoaefaaGreatDoorKd
set_option linter.unusedSectionVars false
set_option linter.unusedSimpArgs false
set_option linter.unusedVariables false
set_option linter.unusedSimpArgs false
set_option linter.unusedVariables false
set_option linter.unusedSectionVars false
namespace Go.Kg
open Go
section
variable {P : Program} {C : CfgR} {R : Rdr}
theorem bytes_one' {w : World} {K : Nat → Prop} {v : Value} {s : List UInt8} (h : BytesAt w K v s) : v.oneCell' = true := by
  obtain ⟨a, c, rfl, _⟩ := h.len; rfl
/-- b := kbin.Reader{Src: b.Span(int(b.Uvarint()))} -/
theorem r_open (hrb : TyRb P C.E) (iU : intKind? P C.E.tU32 = some .u32) (iI : intKind? P C.E.tInt = some .i64) (hU : RdC P C.E.tRd C.E.f_pkbin_Reader_Uvarint fun rs => (.int .u32 (rdUv rs).1, (rdUv rs).2)) (hS : SpanC P C.E.tRd C.E.f_pkbin_Reader_Span) {Q : Post} {f : Nat → Value} {w : World}
    {l t D pb : Nat} {rs : RS} (hr : f C.rs = .pointer (some ⟨pb, 0, none⟩)) (hne : pb ≠ D) (hD : D < w.heap.size) (hrd : RdAt C.E.tRd w pb D rs) (hl : l < t) (hrt : C.rs < t)
    (h : ∀ f' w' pi, f' l = .pointer (some ⟨pi, 0, none⟩) → w.heap.size ≤ pi → pi < w'.heap.size → RdAt C.E.tRd w' pi D ⟨(rdSpan (rdUv rs).1 (rdUv rs).2).1, false, (rdSpan (rdUv rs).1 (rdUv rs).2).2.nn⟩ → RdAt C.E.tRd w' pb D (rdSpan (rdUv rs).1 (rdUv rs).2).2 → Ext (· = pb) w w' → (∀ y, y < t → y ≠ l → f' y = f y) → Q .normal f' w') :
    (openI C l t).wp P Q f w := by
  have zr : ∀ n, (C.rs = t + n) = False := by intro n; simp; omega
  have zr' : (C.rs = t) = False := by simp; omega
  refine wp_reg ?_
  simp [openI, hr]
  refine (hU w pb D rs hne hrd).mono ?_
  rintro _ w1 ⟨rfl, he1, hr1⟩
  have hwr : IntKind.i64.wrap ((rdUv rs).1 : Int) = ((rdUv rs).1 : Int) := i64_small (by omega) (by have := rdUv_lt rs; omega)
  have hlt : pb < w.heap.size := by obtain ⟨sv, hb, _⟩ := hrd; exact lt_of_heap hb
  simp [iU, iI, hwr, hr, zr, zr']
  refine (hS w1 pb D _ _ hne hr1).mono ?_
  rintro v w2 ⟨hv, hnn, he2, hr2⟩
  have hv1 := bytes_one' hv
  have zl : ∀ n, (t + n = l) = False := by intro n; simp; omega
  simp [bld_rd hrb (cells_one hv1), hrb.z, Value.cells, zl, store_agg hrb.k, putK_blk alloc_new, hv1]
  have hov : over #[.slice none 0 0, .bool false] 0 [v, .bool false] = #[v, .bool false] := by simp [over]
  rw [hov]
  refine ⟨by simp only [allOne, hv1, Bool.true_and]; rfl, ?_⟩
  generalize hw3 : (w2.alloc (.cells #[.slice none 0 0, .bool false] C.E.tRd)).setBlk w2.heap.size (.cells #[v, .bool false] C.E.tRd (0, 0)) = w3
  have he12 : Ext (· = pb) w w2 := he1.trans he2
  have he3 : Ext none1 w2 w3 := by subst hw3; exact ((Ext.refl none1 w2).alloc _).setBlk (.inl (Nat.le_refl _)) _
  have hb3 : w3.heap[w2.heap.size]? = some (.cells #[v, .bool false] C.E.tRd (0, 0)) := by subst hw3; exact setBlk_same alloc_new
  refine h _ w3 w2.heap.size (by simp) he12.size (lt_of_heap hb3) ⟨v, hb3, hv.ext he3 (fun _ _ _ h => h), hnn⟩ (hr2.ext he3 (fun h => h) (fun h => h)) (he12.trans (he3.mono (fun _ _ h => h.elim))) ?_
  intro y hy hyl
  have x3 : ∀ n, (y = t + n) = False := by intro n; simp; omega
  have x4 : (y = t) = False := by simp; omega
  simp [x3, x4, hyl]
/-- one field behind the other: each at lo or above, all below hi -/
def ksLay (lo hi : Nat) : List KF → Bool
  | [] => decide (lo ≤ hi)
  | f :: l => decide (lo ≤ f.o) && ksLay (f.o + f.sz) hi l
theorem ksLay_le : ∀ {l : List KF} {lo hi : Nat}, ksLay lo hi l = true → lo ≤ hi
  | [], lo, hi, h => by simpa [ksLay] using h
  | f :: l, lo, hi, h => by
    simp only [ksLay, Bool.and_eq_true, decide_eq_true_eq] at h
    have := ksLay_le h.2
    omega
/-- outside all of these fields -/
def KsOut (a : Nat) (ks : List KF) (j : Nat) : Prop := ∀ kf ∈ ks, j < a + kf.o ∨ a + kf.o + kf.sz ≤ j
theorem ksLay_mem : ∀ {l : List KF} {lo hi : Nat}, ksLay lo hi l = true → ∀ kf ∈ l, lo ≤ kf.o ∧ kf.o + kf.sz ≤ hi
  | [], lo, hi, h => by intro kf hk; cases hk
  | f :: l, lo, hi, h => by
    simp only [ksLay, Bool.and_eq_true, decide_eq_true_eq] at h
    have := ksLay_le h.2
    intro kf hk
    rcases List.mem_cons.1 hk with rfl | hk
    · omega
    · have := ksLay_mem h.2 kf hk; omega
theorem KsOut.of {l : List KF} {lo hi a j : Nat} (h : ksLay lo hi l = true) (hj : j < a + lo ∨ a + hi ≤ j) : KsOut a l j := by
  intro kf hk
  have := ksLay_mem h kf hk
  omega
/-- what lies elsewhere does not count -/
theorem KsRep_cells {w : World} {K : Nat → Prop} {cs cs' : List Value} {hi : Nat} : ∀ {l : List KF} {lo : Nat} {x : KsT l}, ksLay lo hi l = true → (∀ j, lo ≤ j → j < hi → cs'[j]? = cs[j]?) → KsRep w K cs l x → KsRep w K cs' l x
  | [], _, _, _, _, _ => trivial
  | f :: l, lo, (v, r), hlay, hc, h => by
    simp only [ksLay, Bool.and_eq_true, decide_eq_true_eq] at hlay
    have hle := ksLay_le hlay.2
    exact ⟨Kn.Rep_cells f (fun j h1 h2 => hc j (by omega) (by omega)) h.1, KsRep_cells hlay.2 (fun j h1 h2 => hc j (by omega) h2) h.2⟩
theorem knR_mono (T PT pv : Nat) (kf : KF) (c : Ct) : c.l ≤ (knR C T PT pv kf c).2.l ∧ c.t ≤ (knR C T PT pv kf c).2.t := by
  have := genR_mono (C := C) kf.sch T PT pv c
  rw [knR_sch] at this
  exact this
theorem casesR_mono (T PT pv key : Nat) (d : Ir) : ∀ (ks : List KF) (c : Ct), c.l ≤ (casesR C T PT pv key d ks c).2.l ∧ c.t ≤ (casesR C T PT pv key d ks c).2.t
  | [], c => ⟨Nat.le_refl _, Nat.le_refl _⟩
  | f :: r, c => by
    have h1 := knR_mono (C := { C with rs := c.l }) T PT pv f ⟨c.l + 1, c.t + 6, c.k⟩
    have h2 := casesR_mono T PT pv key d r ⟨(knR { C with rs := c.l } T PT pv f ⟨c.l + 1, c.t + 6, c.k⟩).2.l + 1, (knR { C with rs := c.l } T PT pv f ⟨c.l + 1, c.t + 6, c.k⟩).2.t + 4, (knR { C with rs := c.l } T PT pv f ⟨c.l + 1, c.t + 6, c.k⟩).2.k⟩
    simp only [casesR]
    simp only at h1 h2
    omega
/-- what is asked of the section's types and readers -/
structure SecR (P : Program) (C : CfgR) : Prop where
  ty : TyR P C
  fx : C.fx = true
  rb : TyRb P C.E
  iU : intKind? P C.E.tU32 = some .u32
  iI : intKind? P C.E.tInt = some .i64
  uErr : ∃ ms, P.underlying C.E.tErr = some (.interface ms)
  endc : EndC0 P C
  uv : RdC P C.E.tRd C.E.f_pkbin_Reader_Uvarint fun rs => (.int .u32 (rdUv rs).1, (rdUv rs).2)
  span : SpanC P C.E.tRd C.E.f_pkbin_Reader_Span
/-- the inner reader's first state -/
def innerR (rs : RS) : RS := ⟨(rdSpan (rdUv rs).1 (rdUv rs).2).1, false, (rdSpan (rdUv rs).1 (rdUv rs).2).2.nn⟩
/-- what is left behind it -/
def outerR (rs : RS) : RS := (rdSpan (rdUv rs).1 (rdUv rs).2).2
theorem NeedRk_rs (l : Nat) : ∀ {c : Kn}, c.NeedR P C → c.NeedR P { C with rs := l } := by
  intro c h
  cases c with
  | prim p d => exact h
  | arr sT T PT sz df e => exact ⟨h.1, ⟨⟨h.2.1.complete⟩, h.2.1.ok⟩, h.2.2.1, NeedR_rs l e h.2.2.2⟩
  | str T PT sz df sm mk e => exact ⟨h.1, NeedR_rs l e h.2⟩
theorem r_cases (hsec : SecR P C) (hev : ∃ t v, R.ev = .iface t v) {T PT pv key kt n0 mm tm lo to a b n : Nat} {d : Ir} {e : TypeId} {ver : Int} {Q : Post} {rs : RS} {w : World} {cc : Array Value} {mp : Nat → Prop} (hkt : kt < tm) (hst : StR C R b a n w cc e rs) (hmp : ∀ k, mp k → k < w.heap.size) (hton : to < n) :
    ∀ (ks : List KF) (x : KsT ks) (lo : Nat) (c : Ct) (f : Nat → Value), (∀ kf ∈ ks, kf.tyR P C T = true) → KsNeedR P C ks → ksLay lo to ks = true → KsRep w (fun k => k = R.D ∨ (R.base ≤ k ∧ ¬ mp k)) (segL cc a n) ks x → f kt = .int .u32 key →
      FrR C R f pv b a ver true n0 → n0 ≤ c.l → (casesR C T PT pv kt d ks c).2.l ≤ mm → mm ≤ tm → tm ≤ c.t → ksStep ver ks key x (innerR rs) ≠ .dup →
      (ksStep ver ks key x (innerR rs) = .err → ∀ f' w', f' 6 = R.ev → Ext (CB R b) w w' → Q .ret f' w') →
      (ksStep ver ks key x (innerR rs) = .ok none → ∀ f', (∀ y, y < tm → f' y = f y) → d.wp P Q f' w) →
      (∀ y, ksStep ver ks key x (innerR rs) = .ok (some y) → ∀ f' w' cc', StR C R b a n w' cc' e (outerR rs) → cc'.size = cc.size → (∀ j, KsOut a ks j → cc'[j]? = cc[j]?) → Ext (CB R b) w w' → KeepR f f' n0 mm tm → KsRep w' (fun k => k = R.D ∨ (R.base ≤ k ∧ ¬ mp k)) (segL cc' a n) ks y → Q .normal f' w') →
      (casesR C T PT pv kt d ks c).1.wp P Q f w := by
  obtain ⟨ht, hfx, hrb, iU, iI, uErr, hE, hUv, hSp⟩ := hsec
  intro ks
  induction ks with
  | nil =>
    intro x lo c f _ _ _ _ _ _ _ _ _ _ _ _ hnone _
    exact hnone rfl f (fun _ _ => rfl)
  | cons kf r ih =>
    rintro ⟨v, xr⟩ lo c f hty ⟨hN, hNr⟩ hlay ⟨hr, hrr⟩ hkey hf hn hm hmt htm hnd herr hnone hsome
    simp only [ksLay, Bool.and_eq_true, decide_eq_true_eq] at hlay
    have hle := ksLay_le hlay.2
    have hn10 := hf.nN
    have hpt := hf.ptrN
    have hrs := hf.rsN
    have m1 := knR_mono (C := { C with rs := c.l }) T PT pv kf ⟨c.l + 1, c.t + 6, c.k⟩
    simp only at m1
    simp only [casesR] at hm ⊢
    have hkn := fun (Q' : Post) (f' : Nat → Value) (w' : World) (cc' : Array Value) (R' : Rdr) (rs' : RS) => r_known (P := P) (C := { C with rs := c.l }) (R := R') (Q := Q') (f := f') (w := w') (TyR_rs c.l ht) (T := T) (PT := PT) (pv := pv) (kf := kf) hfx (b := b) (a := a) (n := n) (c := ⟨c.l + 1, c.t + 6, c.k⟩) (ver := ver) (cc := cc') (e := e) (rs := rs') (v := v) (K := fun k => k = R.D ∨ (R.base ≤ k ∧ ¬ mp k))
    generalize hz : knR { C with rs := c.l } T PT pv kf ⟨c.l + 1, c.t + 6, c.k⟩ = z at hm m1 hkn ⊢
    obtain ⟨kb, c1⟩ := z
    simp only at hm m1 hkn ⊢
    have m2 := casesR_mono (C := C) T PT pv kt d r ⟨c1.l + 1, c1.t + 4, c1.k⟩
    simp only at m2
    refine seqL_cons (wp_reg ?_)
    have zk : (kt = c.t + 1) = False := by simp; omega
    have zk' : (kt = c.t) = False := by simp; omega
    have hB : ∃ B : Bool, ((key : Int) == (kf.num : Int)) = B ∧ (B = true ↔ key = kf.num) := by
      refine ⟨_, rfl, ?_⟩
      simp
      omega
    obtain ⟨B, hB0, hB⟩ := hB
    simp [hkey, hB0]
    generalize hfu : upd (upd f (c.t + 1) _) c.t _ = fu
    have hku : ∀ y, y < c.t → fu y = f y := by
      intro y hy
      subst hfu
      have x1 : (y = c.t + 1) = False := by simp; omega
      have x2 : (y = c.t) = False := by simp; omega
      simp [x1, x2]
    have hbu : fu c.t = .bool B := by
      subst hfu
      simp
    have hfr : FrR C R fu pv b a ver true n0 := hf.keep (fun y hy _ => hku y (by omega)) (Nat.le_refl _)
    have hKK : ∀ k, k < w.heap.size → (k = R.D ∨ (R.base ≤ k ∧ ¬ mp k)) → ¬ CB R b k := fun k hk h => hst.rw_.keepK k hk (h.elim .inl (fun h => .inr h.1))
    by_cases heq : key = kf.num
    · have hB' := hB.2 heq
      subst heq
      refine .inl ⟨by rw [hbu, hB'], ?_⟩
      have hstep : ksStep ver (kf :: r) kf.num (v, xr) (innerR rs) = (kf.c.rd ver v (innerR rs)).map (fun y => some (y, xr)) := by simp only [ksStep, if_true]; rfl
      rw [hstep] at hnd herr hnone hsome
      refine seqL_cons ?_
      refine r_open hrb iU iI hUv hSp ((hku C.rs (by omega)).trans hf.rd) hst.rw_.ne.1 (Nat.lt_of_lt_of_le hst.rw_.lt.2.2.1 hst.rw_.lt.2.2.2) hst.rd (by omega) (by omega) ?_
      intro f1 w1 pi h1l hpi hpi1 hri hro he1 hk1
      have hst1 : StR C R b a n w1 cc e (outerR rs) := hst.ext1 he1 hro
      have hlt0 := hst.rw_.lt
      have hsz1 := he1.size
      -- the inner state
      have hstI : StR { C with rs := c.l } ⟨pi, R.D, pi + 1, R.et, R.evv⟩ b a n w1 cc e (innerR rs) := by
        refine ⟨hst1.blk, hst1.fit, hri, ⟨⟨by simp only; omega, by simp only; omega, by simp only; omega, by simp only; omega⟩, ⟨by simp only; omega, hst.rw_.ne.2.1, by simp only; omega⟩, hst1.rw_.err, ⟨?_, hst.rw_.errN.2⟩⟩⟩
        have := World.block_lt_of_cell? w _ hst.rw_.err
        simp only at this ⊢; omega
      have f1k : ∀ y, y < c.t → y ≠ c.l → f1 y = f y := fun y hy hyl => (hk1 y (by omega) hyl).trans (hku y hy)
      have hfI : FrR { C with rs := c.l } ⟨pi, R.D, pi + 1, R.et, R.evv⟩ f1 pv b a ver true (c.l + 1) :=
        ⟨(f1k pv (by omega) (by omega)).trans hf.ptr, by omega, hf.v0, (f1k 8 (by omega) (by omega)).trans hf.ver, fun hx => (f1k 9 (by omega) (by omega)).trans (hf.flg hx), hf.flN, h1l, (f1k 2 (by omega) (by omega)).trans hf.us, by omega, ⟨by simp only; omega, by simp only; omega⟩⟩
      have hextI : ∀ w', Ext (CB ⟨pi, R.D, pi + 1, R.et, R.evv⟩ b) w1 w' → Ext (CB R b) w w' := by
        intro w' h
        refine Ext.trans' (C := CB R b) (he1.mono (fun _ _ h => .inl h)) h ?_
        rintro k hk (h' | h')
        · simp only at h'; omega
        · exact .inr h'
      have hr1 : kf.c.Rep w1 (fun k => k = R.D ∨ (R.base ≤ k ∧ ¬ mp k)) (segL cc a n) kf.o v := Kn.Rep_ext he1 (fun k hk h => fun hc => hKK k hk h (.inl hc)) kf.c hr
      refine seqL_append ?_
      refine hkn _ f1 w1 cc ⟨pi, R.D, pi + 1, R.et, R.evv⟩ (innerR rs) (by rw [KF.tyR_rs]; exact hty kf List.mem_cons_self) (by omega) (NeedRk_rs c.l hN) hfI (by omega) hstI hr1 (fun h => hnd (by rw [h]; rfl)) ?_ ?_
      · intro h f' w' h6 he
        exact herr (by rw [h]; rfl) f' w' h6 (hextI w' he)
      · intro y rs' hraw hrd f2 w2 cc2 hst2 hsz2 hsame2 he2 hk2 hrep2
        have h2l : f2 c.l = .pointer (some ⟨pi, 0, none⟩) := (hk2 c.l (by omega) (.inl (by omega))).trans h1l
        refine r_err (C := C) (pb := pi) (D := R.D) (rs := rs') (ev := R.ev) hE uErr hev hst2.rd hst2.rw_.err h2l (by omega) ?_ ?_
        · intro hbad f3 h6
          refine herr ?_ f3 w2 h6 (hextI w2 he2)
          rw [hrd]
          simp only [KO.of, hbad, if_true, KO.map]; rfl
        · intro hbad f3 hk3
          have hw2 := hextI w2 he2
          refine hsome (y, xr) ?_ f3 w2 cc2 ?_ hsz2 ?_ hw2 ?_ ⟨?_, ?_⟩
          · rw [hrd]
            simp only [KO.of, hbad, Bool.false_eq_true, if_false, KO.map]; rfl
          · refine ⟨hst2.blk, hst2.fit, ?_, hst.rw_.ext hw2⟩
            refine hro.ext he2 ?_ ?_
            · rintro (h' | h')
              · simp only at h'; omega
              · exact hst.rw_.ne.2.2 h'
            · rintro (h' | h')
              · simp only at h'; omega
              · exact hst.rw_.ne.2.1 h'.symm
          · intro j hj
            exact hsame2 j (hj kf List.mem_cons_self)
          · intro z hz1 hz
            rw [hk3 z (by omega) (by omega), hk2 z hz1 (by omega)]
            exact f1k z (by omega) (by omega)
          · refine kf.rep_back y hrep2 (Sch.Rep_mono (fun k hk => ?_) kf.sch (kf.rep_sch y hrep2))
            rcases hk with h' | h'
            · exact .inl h'
            · simp only at h'
              refine .inr ⟨by omega, fun hm' => ?_⟩
              have := hmp k hm'
              omega
          · refine KsRep_cells hlay.2 (fun j hj1 hj2 => ?_) (KsRep_ext hw2 hKK r hrr)
            rw [segL_get (by omega), segL_get (by omega)]
            exact hsame2 (a + j) (by omega)
    · have hstep : ksStep ver (kf :: r) key (v, xr) (innerR rs) = (ksStep ver r key xr (innerR rs)).map (Option.map fun r => (v, r)) := by simp only [ksStep, if_neg heq]; rfl
      rw [hstep] at hnd herr hnone hsome
      have hBf : B = false := by
        cases B
        · rfl
        · exact absurd (hB.1 rfl) heq
      refine .inr ⟨by rw [hbu, hBf], ?_⟩
      refine ih xr (kf.o + kf.sz) ⟨c1.l + 1, c1.t + 4, c1.k⟩ fu (fun g hg => hty g (List.mem_cons_of_mem _ hg)) hNr hlay.2 hrr ((hku kt (by omega)).trans hkey) hfr (by simp only; omega) hm hmt (by simp only; omega) (fun h => hnd (by rw [h]; rfl)) ?_ ?_ ?_
      · intro h f' w' h6 he
        exact herr (by rw [h]; rfl) f' w' h6 he
      · intro h f' hk'
        exact hnone (by rw [h]; rfl) f' (fun y hy => (hk' y hy).trans (hku y (by omega)))
      · intro y h f' w' cc' h1 h2 h3 h4 h5 h6
        refine hsome (v, y) (by rw [h]; rfl) f' w' cc' h1 h2 (fun j hj => h3 j (fun g hg => hj g (List.mem_cons_of_mem _ hg))) h4 (fun z hz1 hz => (h5 z hz1 hz).trans (hku z (by omega))) ⟨?_, h6⟩
        refine Kn.Rep_cells kf (fun j hj1 hj2 => ?_) (Kn.Rep_ext h4 hKK kf.c hr)
        rw [segL_get (by omega), segL_get (by omega)]
        exact h3 (a + j) (KsOut.of hlay.2 (by omega))
end
end Go.Kg

set_option linter.unusedSimpArgs false
set_option linter.unusedVariables false
set_option linter.unusedSectionVars false
namespace Go.Kg
open Go
/-- where pointers of what has been read lie: not the map of the unknown tags -/
def KX (R : Rdr) (uv : Value) (k : Nat) : Prop := k = R.D ∨ (R.base ≤ k ∧ ¬ uv = .map (some k))
structure KIn (C : CfgR) (R : Rdr) (ks : List KF) (ver : Int) (b a n lo to L mm tm N : Nat) (e : TypeId) (f0 : Nat → Value) (w0 : World) (cc0 : Array Value) (rs0 : RS) (i : Nat) (x : KsT ks) (u : TagL) (rs : RS) (f : Nat → Value) (w : World) : Prop where
  fi : f L = .int .u32 i
  keep : KeepR f0 f L mm tm
  ext : Ext (CB R b) w0 w
  st : ∃ cc uv, StR C R b a n w cc e rs ∧ cc.size = cc0.size ∧ (∀ j, KsOut a ks j → j ≠ a + to → cc[j]? = cc0[j]?) ∧ cc[a + to]? = some uv ∧ TagsM w R.D R.base uv u ∧ (∀ m, uv = .map (some m) → w0.heap.size ≤ m) ∧ KsRep w (KX R uv) (segL cc a n) ks x
  nd : (u.map (·.1)).Nodup
  len : u.length + i ≤ N
  todo : kLoop (ksStep ver ks) i x u rs = kLoop (ksStep ver ks) N (ksDfl ks) [] rs0
section
variable {P : Program} {C : CfgR} {R : Rdr}
theorem secRI_mono (T PT pv : Nat) (ks : List KF) (tk : Nat) (c : Ct) : c.l + 2 ≤ (secRI C T PT pv ks tk c).2.l ∧ c.t + 16 ≤ (secRI C T PT pv ks tk c).2.t := by
  have := casesR_mono (C := C) T PT pv (c.t + 7) (unkR C T PT pv tk (c.l + 1) (c.t + 8)) ks ⟨c.l + 2, c.t + 16, c.k + 3⟩
  simp only [secRI]
  exact this
/-- i-- -/
theorem r_dec {Q : Post} {g : Nat → Value} {w : World} {L t i : Nat} (hi : g L = .int .u32 ((i + 1 : Nat) : Int)) (hlt : i + 1 < 4294967296) (hL : L < t) (h : ∀ g', (∀ y, y < t → y ≠ L → g' y = g y) → g' L = .int .u32 (i : Nat) → Q .normal g' w) :
    (Ir.reg [⟨none, some t, .move (.tmp L), C.E.tU32⟩, ⟨none, some (t + 1), .binOp .sub C.E.tU32 (.tmp t) (.const (.int .u32 1)) C.E.tU32, C.E.tU32⟩, ⟨none, some L, .assign (.tmp (t + 1)), C.E.tU32⟩]).wp P Q g w := by
  have hwk : IntKind.u32.wrap (((i + 1 : Nat) : Int) - 1) = (i : Int) := by simp [IntKind.wrap, IntKind.signed, IntKind.bits]; omega
  refine wp_reg ?_
  simp only [hi, regW_plain, updO, stp_move, stp_assign, stp_binOp, evF, upd_apply, if_true, bin_sub, hwk, optK, regW_nil]
  refine h _ ?_ (by simp)
  intro y hy hyL
  have x1 : (y = t) = False := by simp; omega
  have x2 : (y = t + 1) = False := by simp; omega
  simp [x1, x2, hyL]
theorem TagsM.map_lt {w : World} {D base m : Nat} {u : TagL} (h : TagsM w D base (.map (some m)) u) : m < w.heap.size ∧ base ≤ m := by
  rcases h with ⟨h, _⟩ | ⟨m', es, clock, h, hm, hb, _⟩
  · cases h
  · cases h; exact ⟨lt_of_heap hb, hm⟩
theorem r_sec (hsec : SecR P C) (htg : TyTg P C.E) (uU : P.underlying C.E.tU32 = some (.int .u32)) (hIset : FnIs P C.E.f_pkmsg_Tags_Set nt_pkmsg_Tags_Set (rs_pkmsg_Tags_Set C.E) (ir_pkmsg_Tags_Set C.E)) (hev : ∃ t v, R.ev = .iface t v) {T PT pv tk to lo a b n : Nat} {ks : List KF} {c : Ct} {e : TypeId} {ver : Int} {fl : Bool} {Q : Post} {rs : RS} {f : Nat → Value} {w : World} {cc : Array Value}
    (hF : fldOff P T tk = some to) (hty : ∀ kf ∈ ks, kf.tyR P C T = true) (hN : KsNeedR P C ks) (hlay : ksLay lo to ks = true) (hton : to + 1 ≤ n) (hf : FrR C R f pv b a ver fl c.l) (hc : (secRI C T PT pv ks tk c).2.l ≤ c.t) (hst : StR C R b a n w cc e rs)
    (hd : ∀ K, KsRep w K (segL cc a n) ks (ksDfl ks)) (hnil : cc[a + to]? = some (.map none))
    (hdup : ∀ rs', secRd ver fl ks rs ≠ some (none, rs'))
    (h0 : secRd ver fl ks rs = none → ∀ f' w', f' 6 = R.ev → Ext (CB R b) w w' → Q .ret f' w')
    (h1 : ∀ x u rs', secRd ver fl ks rs = some (some (x, u), rs') → ∀ f' w' cc' uv, StR C R b a n w' cc' e rs' → cc'.size = cc.size → (∀ j, KsOut a ks j → j ≠ a + to → cc'[j]? = cc[j]?) → Ext (CB R b) w w' → KeepR f f' c.l (secRI C T PT pv ks tk c).2.l c.t → KsRep w' (RK R) (segL cc' a n) ks x → cc'[a + to]? = some uv → TagsAt w' (RK R) uv u → Q .normal f' w') :
    (secRI C T PT pv ks tk c).1.wp P Q f w := by
  have hsec' := hsec
  obtain ⟨ht, hfx, hrb, iU, iI, uErr, hE, hUv, hSp⟩ := hsec
  have hn10 := hf.nN
  have hpt := hf.ptrN
  have hrs := hf.rsN
  have hmono := secRI_mono (C := C) T PT pv ks tk c
  have hlo := ksLay_le hlay
  simp only [secRI] at hc h1 hmono ⊢
  have hcs := fun (Q' : Post) (rs' : RS) (w' : World) (cc' : Array Value) (mp : Nat → Prop) (key : Nat) => r_cases (P := P) (C := C) (R := R) hsec' hev (T := T) (PT := PT) (pv := pv) (key := key) (kt := c.t + 7) (n0 := c.l + 2) (mm := (casesR C T PT pv (c.t + 7) (unkR C T PT pv tk (c.l + 1) (c.t + 8)) ks ⟨c.l + 2, c.t + 16, c.k + 3⟩).2.l) (tm := c.t + 8) (to := to) (a := a) (b := b) (n := n) (d := unkR C T PT pv tk (c.l + 1) (c.t + 8)) (e := e) (ver := ver) (Q := Q') (rs := rs') (w := w') (cc := cc') (mp := mp) (ks := ks) (lo := lo) (c := ⟨c.l + 2, c.t + 16, c.k + 3⟩)
  generalize hz : casesR C T PT pv (c.t + 7) (unkR C T PT pv tk (c.l + 1) (c.t + 8)) ks ⟨c.l + 2, c.t + 16, c.k + 3⟩ = z at hc h1 hmono hcs ⊢
  obtain ⟨cw, c1⟩ := z
  simp only at hc h1 hmono hcs ⊢
  refine r_cond (hf.flg hfx) (by omega) ?_ ?_
  rotate_left
  · rintro rfl f1 hk1
    show Q .normal f1 w
    refine h1 (ksDfl ks) [] rs rfl f1 w cc (.map none) hst rfl (fun _ _ _ => rfl) (Ext.refl _ _) ?_ (hd _) hnil (.inl ⟨rfl, rfl⟩)
    intro z hz1 hz
    exact hk1 z (by omega)
  · rintro rfl f1 hk1
    have hsr : secRd ver true ks rs = kLoop (ksStep ver ks) (rdUv rs).1 (ksDfl ks) [] (rdUv rs).2 := rfl
    rw [hsr] at h0 h1 hdup
    have f1r : f1 C.rs = .pointer (some ⟨R.pb, 0, none⟩) := (hk1 C.rs (by omega)).trans hf.rd
    refine seqL_cons (wp_reg ?_)
    simp [f1r]
    refine (hUv w R.pb R.D rs hst.rw_.ne.1 hst.rd).mono ?_
    rintro _ w1 ⟨rfl, he1, hr1⟩
    simp
    have hst1 := hst.ext1 he1 hr1
    generalize hf2 : upd (upd f1 (c.t + 1) (.int .u32 (rdUv rs).1)) c.l (.int .u32 (rdUv rs).1) = f2
    have f2k : ∀ y, y < c.t → y ≠ c.l → f2 y = f y := by
      intro y hy hyl
      subst hf2
      have x1 : (y = c.t + 1) = False := by simp; omega
      simp [x1, hyl]
      exact hk1 y hy
    have f2i : f2 c.l = .int .u32 (rdUv rs).1 := by subst hf2; simp
    have hNlt := rdUv_lt rs
    -- the loop
    show (Ir.block c.k (Ir.loop _)).wp P Q f2 w1
    show (Ir.loop _).wp P (inBlockF c.k Q) f2 w1
    refine ⟨fun f' w' => ∃ i x u rs', KIn C R ks ver b a n lo to c.l c1.l c.t (rdUv rs).1 e f2 w1 cc (rdUv rs).2 i x u rs' f' w', fun f' _ => match f' c.l with | .int _ i => i.toNat | _ => 0, ?_, ?_⟩
    · exact ⟨(rdUv rs).1, ksDfl ks, [], (rdUv rs).2, f2i, KeepR.refl _ _ _ _, Ext.refl _ _, ⟨cc, .map none, hst1, rfl, fun _ _ _ => rfl, hnil, .inl ⟨rfl, rfl⟩, (fun m h => by cases h), KsRep_ext he1 (K := KX R (.map none)) (fun k hk h hc => by
        rcases h with h | h
        · exact hst.rw_.ne.1 (hc.symm.trans h)
        · have := hst.rw_.lt.1; have hc' : k = R.pb := hc; omega) ks (hd _)⟩, by simp, by simp, rfl⟩
    · rintro g w2 ⟨i, x, u, rs2, gi, gk, gext, ⟨cc2, uv, gst, gsz, gsame, guv, gM, gnew, grep⟩, gnd, glen, gtodo⟩
      have gk' : ∀ y, y ≠ 1 → y < c.t → (y < c.l ∨ c1.l ≤ y) → g y = f y := fun y hy1 hy hyl => (gk y hy1 (by omega)).trans (f2k y hy (by omega))
      refine wp_seqI ?_
      show (Ir.seq _ _).wp P _ g w2
      refine wp_seqI (wp_reg ?_)
      simp [gi]
      by_cases hi : i = 0
      · -- all is read
        subst hi
        refine .inr ⟨by simp, ?_⟩
        show inBlockF c.k Q (.exit c.k) _ _
        rw [inBlockF_exit, if_pos rfl]
        simp only [kLoop] at gtodo
        have hM : TagsAt w2 (RK R) uv u := by
          rw [tagsAt_iff]
          rcases gM with ⟨rfl, rfl⟩ | ⟨m, es, clock, rfl, hm, hmb, he, hn, hne⟩
          · exact .inl ⟨rfl, rfl⟩
          · exact .inr ⟨m, es, clock, rfl, .inr hm, hmb, EL.mono (fun b hb => .inl hb) he, gnd, hn, by omega, hne⟩
        refine h1 x u rs2 gtodo.symm _ w2 cc2 uv gst gsz gsame ?_ ?_ (KsRep_mono (fun k hk => hk.elim .inl (fun h => .inr h.1)) ks grep) guv hM
        · exact (he1.mono (fun _ _ h => .inl h)).trans gext
        · intro y hy1 hy
          have x1 : ∀ k, (y = c.t + k) = False := by intro k; simp; omega
          simp [x1]
          exact gk' y hy1 (by omega) (by omega)
      · refine .inl ⟨by simp; omega, ?_⟩
        obtain ⟨i, rfl⟩ : ∃ j, i = j + 1 := ⟨i - 1, by omega⟩
        generalize hg3 : upd (upd g (c.t + 2) _) (c.t + 3) _ = g3
        have g3k : ∀ y, y < c.t + 2 → g3 y = g y := by
          intro y hy
          subst hg3
          have x1 : (y = c.t + 2) = False := by simp; omega
          have x2 : (y = c.t + 3) = False := by simp; omega
          simp [x1, x2]
        have g3rs : g3 C.rs = .pointer (some ⟨R.pb, 0, none⟩) := (g3k C.rs (by omega)).trans ((gk' C.rs (by omega) (by omega) (by omega)).trans hf.rd)
        show (Ir.seq _ _).wp P _ g3 w2
        refine wp_seqI ?_
        show (seqL _).wp P _ g3 w2
        refine seqL_cons (wp_reg ?_)
        simp [g3rs]
        refine (hUv w2 R.pb R.D rs2 gst.rw_.ne.1 gst.rd).mono ?_
        rintro _ w3 ⟨rfl, he3, hr3⟩
        simp
        refine seqL_cons (wp_reg ?_)
        simp
        have hst3 := gst.ext1 he3 hr3
        generalize hg4 : upd (upd (upd g3 (c.t + 6) _) (c.l + 1) _) (c.t + 7) _ = g4
        have g4k : ∀ y, y < c.t + 2 → y ≠ c.l + 1 → g4 y = g y := by
          intro y hy hyl
          subst hg4
          have x1 : (y = c.t + 6) = False := by simp; omega
          have x2 : (y = c.t + 7) = False := by simp; omega
          simp [x1, x2, hyl]
          exact g3k y hy
        have g4key : g4 (c.t + 7) = .int .u32 ((rdUv rs2).1 : Nat) := by subst hg4; simp
        have g4l : g4 (c.l + 1) = .int .u32 ((rdUv rs2).1 : Nat) := by
          subst hg4
          have x1 : (c.l + 1 = c.t + 7) = False := by simp; omega
          simp [x1]
        have g4i : g4 c.l = .int .u32 ((i + 1 : Nat) : Int) := (g4k c.l (by omega) (by omega)).trans gi
        have hfr4 : FrR C R g4 pv b a ver true c.l := hf.keep (fun y hy hy1 => (g4k y (by omega) (by omega)).trans (gk' y hy1 (by omega) (.inl hy))) (Nat.le_refl _)
        have hK2 : ∀ k, k < w2.heap.size → KX R uv k → ¬ (k = R.pb) := fun k hk h hc => by
          rcases h with h | h
          · exact gst.rw_.ne.1 (hc.symm.trans h)
          · have := gst.rw_.lt.1; omega
        have grep3 : KsRep w3 (KX R uv) (segL cc2 a n) ks x := KsRep_ext he3 hK2 ks grep
        have gM3 : TagsM w3 R.D R.base uv u := gM.ext he3 (fun h => gst.rw_.ne.1 h.symm) (fun k hk hb h => by have := gst.rw_.lt.1; have h' : k = R.pb := h; omega)
        have hmp : ∀ k, (uv = .map (some k)) → k < w3.heap.size := fun k hk => by subst hk; exact (TagsM.map_lt gM3).1
        have hdup' : ksStep ver ks (rdUv rs2).1 x (innerR (rdUv rs2).2) ≠ .dup := by
          intro h
          refine hdup (outerR (rdUv rs2).2) ?_
          rw [← gtodo]
          simp only [kLoop]
          unfold innerR at h
          rw [h]
          rfl
        have glt : i + 1 < 4294967296 := by omega
        have gx3 : Ext (CB R b) w1 w3 := gext.trans (he3.mono (fun _ _ h => .inl h))
        show (Ir.block (c.k + 2) cw).wp P _ g4 w3
        show cw.wp P _ g4 w3
        have gK : ∀ y, y ≠ 1 → (y < c.l ∨ (c1.l ≤ y ∧ y < c.t)) → g4 y = f2 y := fun y hy1 hy => (g4k y (by omega) (by omega)).trans (gk y hy1 hy)
        refine hcs _ (rdUv rs2).2 w3 cc2 (fun k => uv = .map (some k)) (rdUv rs2).1 (by omega) hst3 hmp (by omega) x lo g4 hty hN hlay grep3 g4key (hfr4.up (by omega)) (Nat.le_refl _) (Nat.le_refl _) (by omega) (by omega) hdup' ?_ ?_ ?_
        · -- an error within
          intro herr g5 w5 h6 he5
          show Q .ret g5 w5
          refine h0 ?_ g5 w5 h6 ((he1.mono (fun _ _ h => .inl h)).trans (gx3.trans he5))
          rw [← gtodo]
          simp only [kLoop]
          unfold innerR at herr
          rw [herr]
        · -- an unknown one
          intro hnone g5 hk5
          have hloop : kLoop (ksStep ver ks) (i + 1) x u rs2 = kLoop (ksStep ver ks) i x (setTag (rdUv rs2).1 (rdSpan (rdUv (rdUv rs2).2).1 (rdUv (rdUv rs2).2).2).1 u) (outerR (rdUv rs2).2) := by
            simp only [kLoop]
            unfold innerR at hnone
            rw [hnone]; rfl
          have g5pv : g5 pv = .pointer (some ⟨b, a, none⟩) := (hk5 pv (by omega)).trans hfr4.ptr
          have g5rs : g5 C.rs = .pointer (some ⟨R.pb, 0, none⟩) := (hk5 C.rs (by omega)).trans hfr4.rd
          have g5l : g5 (c.l + 1) = .int .u32 ((rdUv rs2).1 : Nat) := (hk5 (c.l + 1) (by omega)).trans g4l
          have y1 : ∀ k, (pv = c.t + 8 + k) = False := by intro k; simp; omega
          have y1' : (pv = c.t + 8) = False := by simp; omega
          have y2 : ∀ k, (C.rs = c.t + 8 + k) = False := by intro k; simp; omega
          have y2' : (C.rs = c.t + 8) = False := by simp; omega
          have y3 : ∀ k, (c.l + 1 = c.t + 8 + k) = False := by intro k; simp; omega
          have y3' : (c.l + 1 = c.t + 8) = False := by simp; omega
          have y5 : ∀ k, (c.l = c.t + k) = False := by intro k; simp; omega
          refine Ir.cw_sound _ ?_
          have hD := (Ext.refl none1 w3).drew
          refine cw_regH (fun _ => True) trivial ?_
          simp +contextual [g5pv, g5rs, g5l, hF, Addr.add_mk, y1, y1', y2, y2', y3, y3', y5, iU, iI]
          have hrD : RdAt C.E.tRd w3.drew R.pb R.D (rdUv rs2).2 := hr3.ext hD (fun h => h) (fun h => h)
          refine (hUv w3.drew R.pb R.D _ gst.rw_.ne.1 hrD).mono ?_
          rintro _ w4 ⟨rfl, he4, hr4⟩
          have hwr : IntKind.i64.wrap ((rdUv (rdUv rs2).2).1 : Int) = ((rdUv (rdUv rs2).2).1 : Int) := i64_small (by omega) (by have := rdUv_lt (rdUv rs2).2; omega)
          simp [iU, iI, hwr, y2, y2', g5rs]
          refine (hSp w4 R.pb R.D _ _ gst.rw_.ne.1 hr4).mono ?_
          rintro v w5 ⟨hv, _, he5, hr5⟩
          have he35 : Ext (· = R.pb) w3 w5 := (hD.mono (fun _ _ h => h.elim)).trans (he4.trans he5)
          have hst5 : StR C R b a n w5 cc2 e (outerR (rdUv rs2).2) := hst3.ext1 he35 hr5
          have gM5 : TagsM w5 R.D R.base uv u := gM3.ext he35 (fun h => gst.rw_.ne.1 h.symm) (fun k hk hb h => by have := gst.rw_.lt.1; have h' : k = R.pb := h; omega)
          have hK3 : ∀ k, k < w3.heap.size → KX R uv k → ¬ (k = R.pb) := fun k hk h hc => by
            rcases h with h | h
            · exact gst.rw_.ne.1 (hc.symm.trans h)
            · have := gst.rw_.lt.1; omega
          have grep5 : KsRep w5 (KX R uv) (segL cc2 a n) ks x := KsRep_ext he35 hK3 ks grep3
          refine (c_TSetM htg uU hIset (rdUv_lt rs2) hv hst5.blk guv gM5 hst5.rw_.lt.2.2.1 (fun h => hst5.rw_.ne.2.1 h.symm) hst5.rw_.lt.2.2.2).mono ?_
          rintro _ w6 ⟨u', hb6, hM6, he6, hu6⟩
          try simp
          have hsz5 := he35.size
          have hsz3 := gx3.size
          have hx6 : ∀ k, k < w5.heap.size → (k = b ∨ uv = .map (some k)) → CB R b k ∨ w1.heap.size ≤ k := fun k hk h => h.elim (fun h => .inl (.inr h)) (fun h => .inr (gnew k h))
          have gx6 : Ext (CB R b) w1 w6 := Ext.trans' (C := CB R b) (gx3.trans (he35.mono (fun _ _ h => .inl h))) he6 (fun k hk h => by
            rcases hx6 k (by omega) h with h' | h'
            · exact h'
            · omega)
          have hmapb : ∀ k, uv = .map (some k) → R.base ≤ k ∧ k < w5.heap.size := fun k hk => by subst hk; exact ⟨(TagsM.map_lt gM5).2, (TagsM.map_lt gM5).1⟩
          have holt : a + to < cc2.size := (Array.getElem?_eq_some_iff.1 guv).1
          have hst6 : StR C R b a n w6 (cc2.setIfInBounds (a + to) u') e (outerR (rdUv rs2).2) := by
            refine ⟨hb6, by simpa using hst5.fit, hst5.rd.ext he6 ?_ ?_, ⟨⟨hst5.rw_.lt.1, hst5.rw_.lt.2.1, hst5.rw_.lt.2.2.1, Nat.le_trans hst5.rw_.lt.2.2.2 he6.size⟩, hst5.rw_.ne, he6.cell hst5.rw_.err ?_, hst5.rw_.errN⟩⟩
            · rintro (h | h)
              · exact hst5.rw_.ne.2.2 h
              · have := (hmapb _ h).1; have := hst5.rw_.lt.1; omega
            · rintro (h | h)
              · exact hst5.rw_.ne.2.1 h.symm
              · have := (hmapb _ h).1; have := hst5.rw_.lt.2.2.1; omega
            · rintro (h | h)
              · exact hst5.rw_.errN.2 h
              · have h7 : w1.heap.size ≤ C.E.g_kbin_ErrNotEnoughData := gnew _ h
                have h8 := World.block_lt_of_cell? w _ hst.rw_.err
                have h9 := he1.size
                simp only at h8
                omega
          -- the fields
          have grep6 : KsRep w6 (KX R u') (segL (cc2.setIfInBounds (a + to) u') a n) ks x := by
            have q1 := KsRep_ltK ks grep5
            have q2 := KsRep_ext he6 (K := fun k => KX R uv k ∧ k < w5.heap.size) (fun k hk h hc => by
              rcases hc with hc | hc
              · rcases h.1 with h' | h'
                · exact hst5.rw_.ne.2.1 (hc.symm.trans h')
                · have := hst5.rw_.lt.2.1; omega
              · rcases h.1 with h' | h'
                · have := (hmapb _ hc).1; have := hst5.rw_.lt.2.2.1; omega
                · exact h'.2 hc) ks q1
            have q3 := KsRep_mono (K' := KX R u') (fun k h => by
              rcases h.1 with h' | h'
              · exact .inl h'
              · refine .inr ⟨h'.1, fun hc => ?_⟩
                rcases hu6 with rfl | rfl
                · exact h'.2 hc
                · cases hc; have := h.2; omega) ks q2
            refine KsRep_cells hlay (fun j hj1 hj2 => ?_) q3
            rw [segL_get (by omega), segL_get (by omega), Array.getElem?_setIfInBounds, if_neg (by omega)]
          show (Ir.reg _).wp P _ _ w6
          refine r_dec (i := i) ?_ glt (by omega) ?_
          · have y0 : ∀ k, (c.l = c.t + 8 + k) = False := by intro k; simp; omega
            have y0' : (c.l = c.t + 8) = False := by simp; omega
            simp [y0, y0']
            exact (hk5 c.l (by omega)).trans g4i
          · intro g7 hk7 h7i
            refine ⟨⟨i, x, setTag (rdUv rs2).1 (rdSpan (rdUv (rdUv rs2).2).1 (rdUv (rdUv rs2).2).2).1 u, outerR (rdUv rs2).2, h7i, ?_, gx6, ⟨_, u', hst6, by simpa using gsz, ?_, ?_, hM6, ?_, grep6⟩, setTag_nodup _ _ _ gnd, ?_, ?_⟩, ?_⟩
            · intro y hy1 hy
              have y0 : ∀ k, (y = c.t + 8 + k) = False := by intro k; simp; omega
              have y0' : (y = c.t + 8) = False := by simp; omega
              rw [hk7 y (by omega) (by omega)]
              simp [y0, y0']
              rw [hk5 y (by omega)]
              exact gK y hy1 hy
            · intro j hj hjt
              rw [Array.getElem?_setIfInBounds, if_neg (by omega)]
              exact gsame j hj hjt
            · simp [holt]
            · intro m hm
              rcases hu6 with rfl | rfl
              · exact gnew m hm
              · cases hm; omega
            · have := setTag_len1 (rdUv rs2).1 (rdSpan (rdUv (rdUv rs2).2).1 (rdUv (rdUv rs2).2).2).1 u
              omega
            · rw [← hloop]; exact gtodo
            · simp only [h7i, gi]
              omega
        · -- a known one
          intro x' hx' g5 w5 cc5 hst5 hsz5 hsame5 he5 hk5 hrep5
          have hloop : kLoop (ksStep ver ks) (i + 1) x u rs2 = kLoop (ksStep ver ks) i x' u (outerR (rdUv rs2).2) := by
            simp only [kLoop]
            unfold innerR at hx'
            rw [hx']; rfl
          have guv5 : cc5[a + to]? = some uv := by rw [hsame5 (a + to) (KsOut.of hlay (by omega))]; exact guv
          have gM5 : TagsM w5 R.D R.base uv u := gM3.ext he5 (fun h => by
            rcases h with h | h
            · exact gst.rw_.ne.1 h.symm
            · exact gst.rw_.ne.2.1 h.symm) (fun k hk hb h => by
            have := gst.rw_.lt.1
            have := gst.rw_.lt.2.1
            rcases h with h | h <;> omega)
          show (Ir.reg _).wp P _ g5 w5
          refine r_dec (i := i) ((hk5 c.l (by omega) (.inl (by omega))).trans g4i) glt (by omega) ?_
          intro g7 hk7 h7i
          refine ⟨⟨i, x', u, outerR (rdUv rs2).2, h7i, ?_, gx3.trans he5, ⟨cc5, uv, hst5, by rw [hsz5]; exact gsz, ?_, guv5, gM5, gnew, hrep5⟩, gnd, by omega, ?_⟩, ?_⟩
          · intro y hy1 hy
            rw [hk7 y (by omega) (by omega), hk5 y hy1 (by omega)]
            exact gK y hy1 hy
          · intro j hj hjt
            rw [hsame5 j hj]
            exact gsame j hj hjt
          · rw [← hloop]; exact gtodo
          · simp only [h7i, gi]
            omega
end
end Go.Kg

set_option linter.unusedSimpArgs false
set_option linter.unusedVariables false
set_option linter.unusedSectionVars false
namespace Go.Kg
open Go
/-- what lies elsewhere does not count -/
theorem Sch.Rep_cells {P : Program} {C : CfgR} {w : World} {K : Nat → Prop} {cs cs' : List Value} : ∀ (S : Sch) {T n lo : Nat} {x : S.T}, S.tyR P C T n lo = true → (∀ j, lo ≤ j → j < n → cs'[j]? = cs[j]?) → S.Rep w K cs x → S.Rep w K cs' x := by
  intro S
  induction S generalizing cs cs' with
  | fin => intros; trivial
  | tags k o =>
    intro T n lo x ht h hr
    simp only [Sch.tyR, Bool.and_eq_true, decide_eq_true_eq] at ht
    obtain ⟨v, h1, h2⟩ := hr
    exact ⟨v, (h o (by omega) (by omega)).trans h1, h2⟩
  | prim g k o p en d rest ih =>
    rintro T n lo ⟨x, r⟩ ht h ⟨⟨v, h1, h2⟩, hr⟩
    simp only [Sch.tyR, Bool.and_eq_true, decide_eq_true_eq] at ht
    refine ⟨⟨v, fun j u hj => ?_, h2⟩, ih ht.2 (fun j h1 h2 => h j (by omega) h2) hr⟩
    have h3 := rep1_sz h2
    have h4 := (List.getElem?_eq_some_iff.1 hj).1
    have h5 : j < p.sz := by rw [← h3]; simpa using h4
    rw [h (o + j) (by omega) (by omega)]
    exact h1 j u hj
  | arrP g k o sT nul p rest ih =>
    rintro T n lo ⟨x, r⟩ ht h ⟨⟨v, ls, h1, h2⟩, hr⟩
    simp only [Sch.tyR, Bool.and_eq_true, decide_eq_true_eq] at ht
    exact ⟨⟨v, ls, (h o (by omega) (by omega)).trans h1, h2⟩, ih ht.2 (fun j h1 h2 => h j (by omega) h2) hr⟩
  | arrS g k o sT nul T' PT sz df e rest ihe ih =>
    rintro T n lo ⟨x, r⟩ ht h ⟨⟨v, ls, h1, h2⟩, hr⟩
    simp only [Sch.tyR, Bool.and_eq_true, decide_eq_true_eq] at ht
    exact ⟨⟨v, ls, (h o (by omega) (by omega)).trans h1, h2⟩, ih ht.2 (fun j h1 h2 => h j (by omega) h2) hr⟩
  | sub g k o T' PT sz df e rest ihe ih =>
    rintro T n lo ⟨x, r⟩ ht h ⟨hx, hr⟩
    simp only [Sch.tyR, Bool.and_eq_true, decide_eq_true_eq] at ht
    refine ⟨ihe ht.1.1.1.2 (fun j h1 h2 => ?_) hx, ih ht.2 (fun j h1 h2 => h j (by omega) h2) hr⟩
    rw [List.getElem?_take, List.getElem?_take, if_pos h2, if_pos h2, List.getElem?_drop, List.getElem?_drop]
    exact h _ (by omega) (by omega)
  | opt g k o T' PT PP sz df e rest ihe ih =>
    rintro T n lo ⟨x, r⟩ ht h ⟨⟨v, h1, h2⟩, hr⟩
    simp only [Sch.tyR, Bool.and_eq_true, decide_eq_true_eq] at ht
    exact ⟨⟨v, (h o (by omega) (by omega)).trans h1, h2⟩, ih ht.2 (fun j h1 h2 => h j (by omega) h2) hr⟩
  | cus c =>
    intro T n lo x ht hc h
    simp only [Sch.tyR, Bool.and_eq_true, List.all_eq_true, decide_eq_true_eq] at ht
    exact c.rep_own (fun j hj => hc j (ht.2 j hj).1 (ht.2 j hj).2) h
/-- a struct's cells are all there -/
def KF.lenB (f : KF) (cs : List Value) : Bool := match f.c with
  | .str _ _ sz _ _ _ _ => ((cs.drop f.o).take sz).length == sz
  | _ => true
/-- the known tags' cells are those of defaults -/
def ksChkD (cs : List Value) : List KF → Bool
  | [] => true
  | f :: l => (f.sch.chkD cs && f.lenB cs) && ksChkD cs l
theorem KF.sv_dfl (f : KF) : f.sv f.c.dfl = f.sch.dfl := by
  obtain ⟨num, k, o, c⟩ := f
  cases c <;> rfl
theorem KsRep_dfl {w : World} {K : Nat → Prop} {cs : List Value} : ∀ (l : List KF), ksChkD cs l = true → KsRep w K cs l (ksDfl l)
  | [], _ => trivial
  | f :: l, h => by
    simp only [ksChkD, Bool.and_eq_true] at h
    have hs : f.sch.Rep w K cs (f.sv f.c.dfl) := by rw [f.sv_dfl]; exact Sch.repD f.sch h.1.1
    refine ⟨?_, KsRep_dfl l h.2⟩
    have hl := h.1.2
    obtain ⟨num, k, o, c⟩ := f
    cases c with
    | prim p d => exact hs.1
    | arr sT T PT sz df e => exact hs.1
    | str T PT sz df sm mk e => exact ⟨by simpa [KF.lenB] using hl, hs.1⟩
end Go.Kg

set_option linter.unusedSimpArgs false
set_option linter.unusedVariables false
set_option linter.unusedSectionVars false
namespace Go.Kg
open Go
end Go.Kg

set_option linter.unusedSimpArgs false
set_option linter.unusedVariables false
set_option linter.unusedSectionVars false
namespace Go.Kg
open Go
def Kn.noArr : Kn → Bool
  | .arr _ _ _ _ _ _ => false
  | _ => true
theorem KO.of_dup {α : Type} (o : Option (α × RS)) : KO.of o ≠ .dup := by
  intro h
  unfold KO.of at h
  split at h
  · cases h
  · split at h <;> cases h
theorem KO.of_ok {α : Type} {o : Option (α × RS)} {x : α} (h : KO.of o = .ok x) : ∃ rs, o = some (x, rs) ∧ rs.bad = false := by
  unfold KO.of at h
  split at h
  · cases h
  · rename_i y rs
    split at h
    · cases h
    · rename_i hb
      cases h
      exact ⟨rs, rfl, by simpa using hb⟩
theorem kn_nodup {ver : Int} {c : Kn} (h : c.noArr = true) (v : c.T) (rs : RS) : c.rd ver v rs ≠ .dup := by
  cases c with
  | prim p d => exact KO.of_dup (some (p.rd true rs))
  | arr sT T PT sz df e => cases h
  | str T PT sz df sm mk e => exact KO.of_dup (e.rd ver true rs)
theorem ks_nodup {ver : Int} : ∀ {l : List KF}, (l.all fun f => f.c.noArr) = true → ∀ (key : Nat) (x : KsT l) (rs : RS), ksStep ver l key x rs ≠ .dup
  | [], _, _, _, _, h => by cases h
  | f :: l, hl, key, (v, r), rs, h => by
    simp only [List.all_cons, Bool.and_eq_true] at hl
    simp only [ksStep] at h
    split at h
    · cases hk : f.c.rd ver v rs with
      | dup => exact kn_nodup hl.1 _ _ hk
      | err => rw [hk] at h; cases h
      | ok y => rw [hk] at h; cases h
    · cases hk : ksStep ver l key r rs with
      | dup => exact ks_nodup hl.2 _ _ _ hk
      | err => rw [hk] at h; cases h
      | ok y => rw [hk] at h; cases h
theorem kLoop_nodup {σ : Type} {st : Nat → σ → RS → KO (Option σ)} (hst : ∀ key s rs, st key s rs ≠ .dup) : ∀ (n : Nat) (s : σ) (u : TagL) (rs rs' : RS), kLoop st n s u rs ≠ some (none, rs')
  | 0, s, u, rs, rs', h => by simp [kLoop] at h
  | n + 1, s, u, rs, rs', h => by
    simp only [kLoop] at h
    split at h
    · cases h
    · rename_i hd; exact hst _ _ _ hd
    · exact kLoop_nodup hst n _ _ _ _ h
    · exact kLoop_nodup hst n _ _ _ _ h
theorem sec_nodup {ver : Int} {fl : Bool} {l : List KF} (hl : (l.all fun f => f.c.noArr) = true) (rs rs' : RS) : secRd ver fl l rs ≠ some (none, rs') := by
  cases fl
  · intro h; simp [secRd] at h
  · exact kLoop_nodup (ks_nodup hl) _ _ _ _ _
def secRd1 (ver : Int) (fl : Bool) (l : List KF) (rs : RS) : Option ((KsT l × TagL) × RS) := (secRd ver fl l rs).bind fun a => a.1.map fun y => (y, a.2)
theorem secRd1_some {ver : Int} {fl : Bool} {l : List KF} {rs rs' : RS} {y : KsT l × TagL} : secRd1 ver fl l rs = some (y, rs') ↔ secRd ver fl l rs = some (some y, rs') := by
  unfold secRd1
  cases secRd ver fl l rs with
  | none => simp
  | some a =>
    obtain ⟨o, r⟩ := a
    cases o with
    | none => simp
    | some z => simp
theorem secRd1_none {ver : Int} {fl : Bool} {l : List KF} {rs : RS} (h : secRd ver fl l rs = none) : secRd1 ver fl l rs = none := by
  unfold secRd1; rw [h]; rfl
theorem good_sec1 (ver : Int) (fl : Bool) (l : List KF) : GoodO (secRd1 ver fl l) :=
  ⟨fun p z nn y rs e hb => secRd1_some.2 ((good_sec ver fl l).ext p z nn _ rs (secRd1_some.1 e) hb), fun rs y rs' e hb => (good_sec ver fl l).bad rs _ rs' (secRd1_some.1 e) hb⟩
theorem fine_kLoop {σ : Type} (st : Nat → σ → RS → KO (Option σ)) : ∀ (n : Nat) (s : σ) (u : TagL), FineO (kLoop st n s u)
  | 0, s, u => fun rs y rs' h e => by
    simp only [kLoop, Option.some.injEq, Prod.mk.injEq] at e
    exact e.2 ▸ h
  | n + 1, s, u => fun rs y rs' h e => by
    simp only [kLoop] at e
    have hf3 : (rdSpan (rdUv (rdUv rs).2).1 (rdUv (rdUv rs).2).2).2.fine := fine_span (fine_uv (fine_uv h))
    split at e
    · cases e
    · simp only [Option.some.injEq, Prod.mk.injEq] at e
      exact e.2 ▸ hf3
    · exact fine_kLoop st n _ _ _ _ _ hf3 e
    · exact fine_kLoop st n _ _ _ _ _ hf3 e
theorem fine_sec1 (ver : Int) (fl : Bool) (l : List KF) : FineO (secRd1 ver fl l) := by
  intro rs y rs' h e
  have e := secRd1_some.1 e
  cases fl
  · simp only [secRd, Bool.false_eq_true, if_false, Option.some.injEq, Prod.mk.injEq] at e
    exact e.2 ▸ h
  · exact fine_kLoop _ _ _ _ _ _ _ (fine_uv h) e
theorem kn_any {ver : Int} {c : Kn} {v y : c.T} {rs : RS} (hna : c.noArr = true) (h : c.rd ver v rs = .ok y) (hs : rs.src.length ≤ 32767) : c.wf ver y ∧ (c.wr ver y).length ≤ rs.src.length ∧ c.TagsOk tagsOk y := by
  cases c with
  | arr sT T PT sz df e => cases hna
  | prim p d =>
    obtain ⟨r', e1, hb⟩ := KO.of_ok (o := some (p.rd true rs)) h
    have e2 : p.rd true rs = (y, r') := Option.some.inj e1
    have hb' : (p.rd true rs).2.bad = false := by rw [e2]; exact hb
    have ha := any_prim p true rs hb' hs
    rw [e2] at ha
    exact ⟨ha.1, by have := ha.2; show (p.wr true y).length ≤ _; simp only at this; omega, trivial⟩
  | str T PT sz df sm mk e =>
    obtain ⟨r', e1, hb⟩ := KO.of_ok (o := e.rd ver true rs) h
    have ha := any_sch ver true e rs y r' e1 hb hs
    exact ⟨ha.1, by have := ha.2; show (e.wr ver true y).length ≤ _; omega, any_tags ver true e rs y r' e1 hb hs⟩
theorem ks_any {ver : Int} {nn : Bool} {key : Nat} {s : List UInt8} (hs : s.length ≤ 32767) : ∀ {l : List KF}, (l.all fun f => f.c.noArr) = true → ∀ {x x' : KsT l}, ksStep ver l key x ⟨s, false, nn⟩ = .ok (some x') → KsWf ver l x → KsOk tagsOk l x →
    KsWf ver l x' ∧ KsOk tagsOk l x' ∧ ksN l x' ≤ ksN l x + 1 ∧ (ksW ver l x').length ≤ (ksW ver l x).length + (uvOut key).length + (uvOut s.length).length + s.length
  | [], _, x, x', h, _, _ => by cases h
  | f :: l, hl, (v, r), x', h, ⟨hw, hwr⟩, ⟨ho, hor⟩ => by
    simp only [List.all_cons, Bool.and_eq_true] at hl
    simp only [ksStep] at h
    split at h
    · rename_i hk
      cases hr : f.c.rd ver v ⟨s, false, nn⟩ with
      | dup => rw [hr] at h; cases h
      | err => rw [hr] at h; cases h
      | ok y =>
        rw [hr] at h
        cases h
        obtain ⟨a1, a2, a3⟩ := kn_any hl.1 hr hs
        simp only at a2
        have hm : (f.c.wr ver y).length % 4294967296 = (f.c.wr ver y).length := Nat.mod_eq_of_lt (by omega)
        have hle : (uvOut (f.c.wr ver y).length).length ≤ (uvOut s.length).length := uvE_mono (k := 4) a2
        refine ⟨⟨⟨a1, fun _ => by omega⟩, hwr⟩, ⟨a3, hor⟩, ?_, ?_⟩
        · simp only [ksN]; split <;> split <;> omega
        · simp only [ksW, List.length_append]
          have h1 : (if f.c.set y = true then kTag f.num (f.c.wr ver y) else []).length ≤ (uvOut key).length + (uvOut s.length).length + s.length := by
            split
            · simp only [kTag, List.length_append, hm, hk]; omega
            · simp
          omega
    · cases hr : ksStep ver l key r ⟨s, false, nn⟩ with
      | dup => rw [hr] at h; cases h
      | err => rw [hr] at h; cases h
      | ok o =>
        rw [hr] at h
        cases o with
        | none => cases h
        | some y =>
          cases h
          obtain ⟨b1, b2, b3, b4⟩ := ks_any hs hl.2 hr hwr hor
          refine ⟨⟨hw, b1⟩, ⟨ho, b2⟩, ?_, ?_⟩
          · simp only [ksN]; omega
          · simp only [ksW, List.length_append]; omega
theorem ks_unk {ver : Int} {key : Nat} {rs : RS} : ∀ {l : List KF} {x : KsT l}, ksStep ver l key x rs = .ok none → key ∉ l.map (·.num)
  | [], _, _ => by simp
  | f :: l, (v, r), h => by
    simp only [ksStep] at h
    split at h
    · cases hr : f.c.rd ver v rs <;> rw [hr] at h <;> cases h
    · rename_i hk
      cases hr : ksStep ver l key r rs with
      | dup => rw [hr] at h; cases h
      | err => rw [hr] at h; cases h
      | ok o =>
        rw [hr] at h
        cases o with
        | none =>
          have := ks_unk hr
          simp only [List.map_cons, List.mem_cons, not_or]
          exact ⟨hk, this⟩
        | some y => cases h
theorem kLoop_any {ver : Int} {l : List KF} (hl : (l.all fun f => f.c.noArr) = true) : ∀ (n : Nat) (x : KsT l) (u : TagL) (rs : RS) (x' : KsT l) (u' : TagL) (rs' : RS), kLoop (ksStep ver l) n x u rs = some (some (x', u'), rs') → rs'.bad = false → rs.src.length ≤ 32767 →
    KsWf ver l x → KsOk tagsOk l x → tagP u → (∀ t ∈ u, t.1 ∉ l.map (·.num)) →
    KsWf ver l x' ∧ KsOk tagsOk l x' ∧ tagP u' ∧ (∀ t ∈ u', t.1 ∉ l.map (·.num)) ∧ ksN l x' + u'.length ≤ ksN l x + u.length + n ∧ u'.length + rs'.src.length ≤ u.length + rs.src.length ∧
      (ksW ver l x').length + (u'.flatMap tagW).length + rs'.src.length ≤ (ksW ver l x).length + (u.flatMap tagW).length + rs.src.length
  | 0, x, u, rs, x', u', rs', h, _, _, h1, h2, h3, h4 => by
    simp only [kLoop, Option.some.injEq, Prod.mk.injEq] at h
    obtain ⟨⟨rfl, rfl⟩, rfl⟩ := h
    exact ⟨h1, h2, h3, h4, by omega, by omega, by omega⟩
  | n + 1, x, u, rs, x', u', rs', h, hb, hs, h1, h2, h3, h4 => by
    have hc : (rdSpan (rdUv (rdUv rs).2).1 (rdUv (rdUv rs).2).2).2.bad = false := by
      cases hx : (rdSpan (rdUv (rdUv rs).2).1 (rdUv (rdUv rs).2).2).2.bad
      · rfl
      · simp only [kLoop] at h
        split at h
        · cases h
        · simp only [Option.some.injEq, Prod.mk.injEq, reduceCtorEq, false_and] at h
        · have := (good_kLoop (ksStep ver l) n x _).bad _ _ _ h hx
          rw [hb] at this; cases this
        · rename_i s' _
          have := (good_kLoop (ksStep ver l) n s' u).bad _ _ _ h hx
          rw [hb] at this; cases this
    obtain ⟨t1, t2, t3, t4, t5⟩ := tag_any (l := u) (rs := rs) hc hs h3
    have hu1 : (rdTag u rs).1 = setTag (rdUv rs).1 (rdSpan (rdUv (rdUv rs).2).1 (rdUv (rdUv rs).2).2).1 u := rfl
    have hu2 : (rdTag u rs).2 = (rdSpan (rdUv (rdUv rs).2).1 (rdUv (rdUv rs).2).2).2 := rfl
    rw [hu1, hu2] at t4
    rw [hu1] at t1 t2
    rw [hu1, hu2] at t3
    rw [hu2] at t5
    simp only [kLoop] at h
    split at h
    · cases h
    · simp only [Option.some.injEq, Prod.mk.injEq, reduceCtorEq, false_and] at h
    · rename_i hk
      have hun := ks_unk hk
      obtain ⟨a1, a2, a3, a4, a5, a6, a7⟩ := kLoop_any hl n x _ _ x' u' rs' h hb (by omega) h1 h2 t1 (fun t ht => by
        rcases setTag_mem _ _ u t ht with rfl | ht
        · exact hun
        · exact h4 t ht)
      exact ⟨a1, a2, a3, a4, by omega, by omega, by omega⟩
    · rename_i s' hk
      have hbb : (rdUv (rdUv rs).2).2.bad = false := by
        cases hx : (rdUv (rdUv rs).2).2.bad
        · rfl
        · have := (good_span ((rdUv (rdUv rs).2).1 : Int)).bad _ hx
          rw [this] at hc; cases hc
      have ha : (rdUv rs).2.bad = false := by
        cases hx : (rdUv rs).2.bad
        · rfl
        · have := good_uv.bad _ hx
          rw [this] at hbb; cases hbb
      obtain ⟨c1, c2, _⟩ := uv_any ha
      obtain ⟨d1, d2, _⟩ := uv_any hbb
      obtain ⟨e1, e2, e3, _⟩ := span_any hc
      generalize hv : (rdSpan (rdUv (rdUv rs).2).1 (rdUv (rdUv rs).2).2).1 = v at *
      have hv1 : v.length = (rdUv (rdUv rs).2).1 := by omega
      rw [← hv1] at d1
      obtain ⟨b1, b2, b3, b4⟩ := ks_any (by omega) hl hk h1 h2
      have hu : 1 ≤ (uvOut (rdUv rs).1).length := uvE_pos
      obtain ⟨a1, a2, a3, a4, a5, a6, a7⟩ := kLoop_any hl n s' u _ x' u' rs' h hb (by omega) b1 b2 h3 h4
      exact ⟨a1, a2, a3, a4, by omega, by omega, by omega⟩
theorem ksN_dfl : ∀ l : List KF, ksN l (ksDfl l) = 0
  | [] => rfl
  | f :: l => by simp only [ksN, ksDfl, f.c.set_dfl, ksN_dfl l]; rfl
theorem ksW_dfl (ver : Int) : ∀ l : List KF, ksW ver l (ksDfl l) = []
  | [] => rfl
  | f :: l => by simp only [ksW, ksDfl, f.c.set_dfl, ksW_dfl ver l]; rfl
theorem sec_any {ver : Int} {l : List KF} (hl : (l.all fun f => f.c.noArr) = true) (hd : KsWf ver l (ksDfl l)) {rs rs' : RS} {x : KsT l} {u : TagL} (h : secRd ver true l rs = some (some (x, u), rs')) (hb : rs'.bad = false) (hs : rs.src.length ≤ 32767) :
    KsWf ver l x ∧ KsOk tagsOk l x ∧ tagsOk u ∧ (∀ t ∈ u, t.1 ∉ l.map (·.num)) ∧ (secW ver true l x u).length + rs'.src.length ≤ rs.src.length := by
  have h' : kLoop (ksStep ver l) (rdUv rs).1 (ksDfl l) [] (rdUv rs).2 = some (some (x, u), rs') := h
  have ha : (rdUv rs).2.bad = false := by
    cases hx : (rdUv rs).2.bad
    · rfl
    · have := (good_kLoop (ksStep ver l) (rdUv rs).1 (ksDfl l) []).bad _ _ _ h' hx
      rw [hb] at this; cases this
  obtain ⟨c1, c2, _⟩ := uv_any ha
  obtain ⟨a1, a2, a3, a4, a5, a6, a7⟩ := kLoop_any hl _ _ _ _ _ _ _ h' hb (by omega) hd (KsOk_dfl l) ⟨by simp, by simp⟩ (by simp)
  simp only [ksN_dfl, ksW_dfl, List.length_nil, List.flatMap_nil, Nat.zero_add] at a5 a6 a7
  have hm : (uvOut ((ksN l x + u.length) % 4294967296)).length ≤ (uvOut (rdUv rs).1).length := by
    rw [Nat.mod_eq_of_lt (by omega)]; exact uvE_mono (k := 4) a5
  refine ⟨a1, a2, ⟨by omega, a3.1, a3.2⟩, a4, ?_⟩
  simp only [secW, if_true, List.length_append, tagsOut_len]
  omega
end Go.Kg

set_option linter.unusedSimpArgs false
set_option linter.unusedVariables false
set_option linter.unusedSectionVars false
namespace Go.Kg
open Go
def ksOwn (ks : List KF) : List Nat := ks.flatMap fun f => (List.range f.sz).map (f.o + ·)
theorem mem_ksOwn {ks : List KF} {f : KF} (hf : f ∈ ks) {j : Nat} (h1 : f.o ≤ j) (h2 : j < f.o + f.sz) : j ∈ ksOwn ks :=
  List.mem_flatMap.2 ⟨f, hf, List.mem_map.2 ⟨j - f.o, List.mem_range.2 (by omega), by omega⟩⟩
theorem KsRep_own {w : World} {K : Nat → Prop} {cs cs' : List Value} : ∀ {l : List KF} {x : KsT l}, (∀ f ∈ l, ∀ j, f.o ≤ j → j < f.o + f.sz → cs'[j]? = cs[j]?) → KsRep w K cs l x → KsRep w K cs' l x
  | [], _, _, _ => trivial
  | f :: l, (v, r), hc, h => ⟨Kn.Rep_cells f (hc f List.mem_cons_self) h.1, KsRep_own (fun g hg => hc g (List.mem_cons_of_mem _ hg)) h.2⟩
theorem win_eq {cs cs' : List Value} {o n : Nat} (h : ∀ j, o ≤ j → j < o + n → cs'[j]? = cs[j]?) : (cs'.drop o).take n = (cs.drop o).take n := by
  apply List.ext_getElem?
  intro i
  rw [List.getElem?_take, List.getElem?_take]
  split
  · rw [List.getElem?_drop, List.getElem?_drop]; exact h _ (by omega) (by omega)
  · rfl
theorem KF.chk_cells {cs cs' : List Value} (f : KF) (hc : ∀ j, f.o ≤ j → j < f.o + f.sz → cs'[j]? = cs[j]?) (h : (f.sch.chkD cs && f.lenB cs) = true) : (f.sch.chkD cs' && f.lenB cs') = true := by
  obtain ⟨num, k, o, c⟩ := f
  cases c with
  | prim p d =>
    simp only [KF.sz] at hc
    simp only [KF.sch, Sch.chkD, KF.lenB, Bool.and_true] at h ⊢
    exact prim_chkD_congr hc h
  | arr sT T PT sz df e =>
    simp only [KF.sz] at hc
    simp only [KF.sch, Sch.chkD, KF.lenB, Bool.and_true] at h ⊢
    rw [hc o (Nat.le_refl _) (by omega)]; exact h
  | str T PT sz df sm mk e =>
    simp only [KF.sz] at hc
    have he := win_eq hc
    simp only [KF.sch, Sch.chkD, KF.lenB] at h ⊢
    rw [he]; exact h
theorem ksChkD_own {cs cs' : List Value} : ∀ {l : List KF}, (∀ f ∈ l, ∀ j, f.o ≤ j → j < f.o + f.sz → cs'[j]? = cs[j]?) → ksChkD cs l = true → ksChkD cs' l = true
  | [], _, _ => rfl
  | f :: l, hc, h => by
    simp only [ksChkD, Bool.and_eq_true (f.sch.chkD cs && f.lenB cs)] at h
    simp only [ksChkD, Bool.and_eq_true (f.sch.chkD cs' && f.lenB cs')]
    exact ⟨f.chk_cells (hc f List.mem_cons_self) h.1, ksChkD_own (fun g hg => hc g (List.mem_cons_of_mem _ hg)) h.2⟩
theorem KsOk_dfl0 : ∀ l : List KF, KsOk (· = []) l (ksDfl l)
  | [] => trivial
  | f :: l => by
    refine ⟨?_, KsOk_dfl0 l⟩
    cases hc : f.c with
    | prim p d => trivial
    | arr sT T PT sz df e => intro i y hy; simp [Kn.dfl] at hy
    | str T PT sz df sm mk e => exact e.tagsD
theorem Kn.TagsOk_mono {p q : TagL → Prop} (h : ∀ l, p l → q l) : ∀ {c : Kn} {x : c.T}, c.TagsOk p x → c.TagsOk q x
  | .prim _ _, _, _ => trivial
  | .arr _ _ _ _ _ e, a, hx => fun i y hy => Sch.TagsOk_mono h e (hx i y hy)
  | .str _ _ _ _ _ _ e, x, hx => Sch.TagsOk_mono h e hx
theorem KsOk_mono {p q : TagL → Prop} (h : ∀ l, p l → q l) : ∀ (l : List KF) {x : KsT l}, KsOk p l x → KsOk q l x
  | [], _, _ => trivial
  | f :: l, (v, r), hx => ⟨Kn.TagsOk_mono h hx.1, KsOk_mono h l hx.2⟩
/-- numbers of its own by default -/
def KF.dit (C : Cfg) (f : KF) : List DI := match f.c with
  | .prim p d => (match p.dval d with | some v => [.st ⟨f.k, f.o, p.ty C.E, v⟩] | none => [])
  | _ => []
def secOkB (ver : Int) (l : List KF) : Bool := decide (l.map (·.num)).Nodup && (l.all fun f => decide (f.num < 4294967296) && f.c.posE ver) && decide (l.length ≤ 1000)
theorem secOkB_spec {ver : Int} {l : List KF} (h : secOkB ver l = true) : SecOk ver l := by
  simp only [secOkB, Bool.and_eq_true, decide_eq_true_eq, List.all_eq_true] at h
  exact ⟨h.1.1, h.1.2, h.2⟩
def secCus (ks : List KF) (tk to sl T0 lab0 : Nat) (hna : (ks.all fun f => f.c.noArr) = true) (hwf : ∀ ver, KsWf ver ks (ksDfl ks)) : Cus where
  T := KsT ks × TagL
  dfl := (ksDfl ks, [])
  wr ver fl x := secW ver fl ks x.1 x.2
  rd ver fl rs := secRd1 ver fl ks rs
  Rep w K cs x := KsRep w K cs ks x.1 ∧ (Sch.tags tk to).Rep w K cs x.2
  tyB _ _ T := T == T0
  genW C T PT pv c := ([(secWI C T PT pv sl ks tk c lab0).1], (secWI C T PT pv sl ks tk c lab0).2)
  genR C T PT pv c := ([(secRI C T PT pv ks tk c).1], (secRI C T PT pv ks tk c).2)
  dit C := ks.flatMap fun f => f.dit C
  chkD cs := ksChkD cs ks && (Sch.tags tk to).chkD cs
  own := ksOwn ks ++ [to]
  TagsOk ok x := KsOk ok ks x.1 ∧ ok x.2
  wf ver fl x := fl = true → KsWf ver ks x.1 ∧ tagsOk x.2 ∧ ∀ t ∈ x.2, t.1 ∉ ks.map (·.num)
  pos _ fl := fl
  posE ver fl := !fl || secOkB ver ks
  rep_ext he hK h := ⟨KsRep_ext he hK ks h.1, Sch.Rep_ext he hK (.tags tk to) h.2⟩
  rep_mono hK h := ⟨KsRep_mono hK ks h.1, Sch.Rep_mono hK (.tags tk to) h.2⟩
  rep_lt h := ⟨KsRep_ltK ks h.1, Sch.Rep_ltK (.tags tk to) h.2⟩
  rep_own hc h := by
    refine ⟨KsRep_own (fun f hf j h1 h2 => hc j (List.mem_append_left _ (mem_ksOwn hf h1 h2))) h.1, ?_⟩
    obtain ⟨v, h1, h2⟩ := h.2
    exact ⟨v, (hc to (by simp)).trans h1, h2⟩
  rep_dfl h := by
    simp only [Bool.and_eq_true] at h
    exact ⟨KsRep_dfl ks h.1, Sch.repD (.tags tk to) h.2⟩
  chk_own hc h := by
    simp only [Bool.and_eq_true] at h ⊢
    refine ⟨ksChkD_own (fun f hf j h1 h2 => hc j (List.mem_append_left _ (mem_ksOwn hf h1 h2))) h.1, ?_⟩
    have h2 := h.2
    simp only [Sch.chkD] at h2 ⊢
    rw [hc to (by simp)]; exact h2
  tags_dfl := ⟨KsOk_dfl0 ks, rfl⟩
  tags_mono h hx := ⟨KsOk_mono h ks hx.1, h _ hx.2⟩
  good ver fl := good_sec1 ver fl ks
  fine ver fl := fine_sec1 ver fl ks
  pos_wr := by
    intro ver fl x h _
    subst h
    simp only [secW, if_true, List.length_append]
    have : 1 ≤ (uvOut ((ksN ks x.1 + x.2.length) % 4294967296)).length := uvE_pos
    omega
  rd_wr := by
    rintro ver fl ⟨x, u⟩ hp hw r nn
    have ok0 : tagsOk [] := ⟨by simp, by simp, by simp⟩
    cases fl with
    | false => exact ⟨(ksDfl ks, []), nn, rfl, rfl, KsOk_dfl ks, ok0⟩
    | true =>
      obtain ⟨h1, h2, h3⟩ := hw rfl
      obtain ⟨y, n', e1, e2, e3⟩ := rd_sec (secOkB_spec (by simpa using hp)) x u h1 h2 h3 r nn
      exact ⟨(y, sortTags u), n', secRd1_some.2 e1, e2, e3, tagsOk_sort h2⟩
  any := by
    rintro ver fl rs ⟨x, u⟩ rs' h hb hs
    have h' := secRd1_some.1 h
    have ok0 : tagsOk [] := ⟨by simp, by simp, by simp⟩
    cases fl with
    | false =>
      simp only [secRd, Bool.false_eq_true, if_false, Option.some.injEq, Prod.mk.injEq] at h'
      obtain ⟨⟨rfl, rfl⟩, rfl⟩ := h'
      exact ⟨fun h => (by cases h), ⟨KsOk_dfl ks, ok0⟩, by simp [secW]⟩
    | true =>
      obtain ⟨a1, a2, a3, a4, a5⟩ := sec_any hna (hwf ver) h' hb hs
      exact ⟨fun _ => ⟨a1, a3, a4⟩, ⟨a2, a3⟩, a5⟩
  mono_w C T PT pv c := by
    have := secWI_mono (C := C) T PT pv sl ks tk c lab0
    exact ⟨Nat.le_trans (Nat.le_add_right _ _) this.1, this.2⟩
  mono_r C T PT pv c := by
    have := secRI_mono (C := C) T PT pv ks tk c
    exact ⟨Nat.le_trans (Nat.le_add_right _ _) this.1, Nat.le_trans (Nat.le_add_right _ _) this.2⟩
  one C := by
    intro x hx
    obtain ⟨d, hd, he⟩ := List.mem_filterMap.1 hx
    obtain ⟨f, _, hd⟩ := List.mem_flatMap.1 hd
    obtain ⟨num, k, o, c⟩ := f
    cases c with
    | prim p d' =>
      simp only [KF.dit] at hd
      split at hd
      · rename_i v hv
        simp only [List.mem_singleton] at hd
        subst hd
        simp only [DI.st?, Option.some.injEq] at he
        subst he
        cases p <;> simp only [Prim.dval] at hv <;> first | (split at hv <;> cases hv <;> rfl) | cases hv
      · cases hd
    | arr sT T PT sz df e => cases hd
    | str T PT sz df sm mk e => cases hd
section
variable {P : Program}
theorem secCus_w {C : Cfg} {ok : TagL → Prop} {ks : List KF} {tk to sl T0 lab0 : Nat} {hna : (ks.all fun f => f.c.noArr) = true} {hwf : ∀ ver, KsWf ver ks (ksDfl ks)} (ht : TyC P C) (hfx : C.fx = true) (hu : isAgg16 (kindOf P C.E.tUu) = true → TyUuE P C.E) (hB : sliSz P C.E.tBs = some 1) (uB : P.underlying C.E.tBs = some (.slice C.E.tU8)) (kU : kindOf P C.E.tU32 = .scl) (hT : TagsC P C.E ok)
    (hS : SliI P sl C.E.tU32 1 4 (.int .u32 0)) (hty : (ks.all (·.tyW P C T0)) = true) (hN : KsNeedW P C ok ks) (hnd : (ks.map (·.num)).Nodup) (hlen : ks.length ≤ 1000) (hF : fldOff P T0 tk = some to) : (secCus ks tk to sl T0 lab0 hna hwf).SoundW P C ok := by
  rintro T PT pv ct Q f w b a cs ⟨x, u⟩ ver fl base s hT0 hf hc hb hcs ⟨hr, uv, huv, hl⟩ ⟨hok, hok2⟩ hd hsz h
  have hT0' : T = T0 := by simpa [secCus] using hT0
  subst hT0'
  refine seqL_one ?_
  exact w_sec ht hfx hu hB uB kU hT hS hty hN hnd hlen hF hf hc hb hcs hr hok huv hl hok2 hd hsz h
theorem secCus_r {C : CfgR} {ks : List KF} {tk to sl T0 lab0 lo : Nat} {hna : (ks.all fun f => f.c.noArr) = true} {hwf : ∀ ver, KsWf ver ks (ksDfl ks)} (hsec : SecR P C) (htg : TyTg P C.E) (uU : P.underlying C.E.tU32 = some (.int .u32)) (hIset : FnIs P C.E.f_pkmsg_Tags_Set nt_pkmsg_Tags_Set (rs_pkmsg_Tags_Set C.E) (ir_pkmsg_Tags_Set C.E))
    (hF : fldOff P T0 tk = some to) (hty : (ks.all fun kf => kf.tyR P C T0) = true) (hN : KsNeedR P C ks) (hlay : ksLay lo to ks = true) : (secCus ks tk to sl T0 lab0 hna hwf).SoundR P C := by
  rintro T PT pv ct Q f w b a n cc e ver fl R rs hT0 hown hf hc hs hd h0 h1
  have hT0' : T = T0 := by simpa [secCus] using hT0
  subst hT0'
  have hd' : ksChkD (segL cc a n) ks = true ∧ (Sch.tags tk to).chkD (segL cc a n) = true := by simpa [secCus] using hd
  have hton : to < n := hown to (by simp [secCus])
  have hnil : cc[a + to]? = some (.map none) := by
    have := isNilMap_spec hd'.2
    rwa [segL_get hton] at this
  refine seqL_one ?_
  refine r_sec hsec htg uU hIset ⟨R.et, R.evv, rfl⟩ hF (by simpa using hty) hN hlay (by omega) hf hc hs (fun K => KsRep_dfl ks hd'.1) hnil (fun rs' => sec_nodup hna rs rs') ?_ ?_
  · intro h f' w' h6 he
    exact h0 (secRd1_none h) f' w' h6 he
  · intro x u rs' h f' w' cc' uv hst hsz hsame he hk hrep huv hu
    have hout : ∀ j, (∀ i ∈ (secCus ks tk to sl T lab0 hna hwf).own, j ≠ a + i) → KsOut a ks j ∧ j ≠ a + to := by
      intro j hj
      refine ⟨fun kf hkf => ?_, hj to (by simp [secCus])⟩
      by_cases h1 : j < a + kf.o
      · exact .inl h1
      · by_cases h2 : a + kf.o + kf.sz ≤ j
        · exact .inr h2
        · exfalso
          exact hj (j - a) (List.mem_append_left _ (mem_ksOwn hkf (by omega) (by omega))) (by omega)
    refine h1 (x, u) rs' (secRd1_some.2 h) f' w' cc' ⟨he, hst, hsz, fun j hj => ?_, hk⟩ (fun j hj => hsame j (hout j hj).1 (hout j hj).2) ⟨hrep, uv, ?_, hu⟩
    · have := ksLay_mem hlay
      exact hsame j (KsOut.of hlay (by omega)) (by omega)
    · rw [segL_get hton]; exact huv
end
end Go.Kg

set_option linter.unusedSimpArgs false
set_option linter.unusedVariables false
set_option linter.unusedSectionVars false
namespace Go.Kg
open Go
/-- numbers, texts and lists, all of them within these cells -/
def Sch.inB (lo hi : Nat) : Sch → Bool
  | .fin => true
  | .prim _ _ o p _ _ rest => decide (lo ≤ o) && decide (o + p.sz ≤ hi) && rest.inB lo hi
  | .arrP _ _ o _ _ _ rest => decide (lo ≤ o) && decide (o + 1 ≤ hi) && rest.inB lo hi
  | .arrS _ _ o _ _ _ _ _ _ _ rest => decide (lo ≤ o) && decide (o + 1 ≤ hi) && rest.inB lo hi
  | _ => false
theorem Sch.Rep_win {w : World} {K : Nat → Prop} {lo hi : Nat} {cs cs' : List Value} : ∀ (S : Sch) {x : S.T}, S.inB lo hi = true → (∀ j, lo ≤ j → j < hi → cs'[j]? = cs[j]?) → S.Rep w K cs x → S.Rep w K cs' x := by
  intro S
  induction S with
  | fin => intros; trivial
  | prim g k o p en d rest ih =>
    rintro ⟨x, r⟩ ht h ⟨⟨v, h1, h2⟩, hr⟩
    simp only [Sch.inB, Bool.and_eq_true, decide_eq_true_eq] at ht
    refine ⟨⟨v, fun j u hj => ?_, h2⟩, ih ht.2 h hr⟩
    have h3 := rep1_sz h2
    have h4 := (List.getElem?_eq_some_iff.1 hj).1
    have h5 : j < p.sz := by rw [← h3]; simpa using h4
    rw [h (o + j) (by omega) (by omega)]
    exact h1 j u hj
  | arrP g k o sT nul p rest ih =>
    rintro ⟨x, r⟩ ht h ⟨⟨v, ls, h1, h2⟩, hr⟩
    simp only [Sch.inB, Bool.and_eq_true, decide_eq_true_eq] at ht
    exact ⟨⟨v, ls, (h o (by omega) (by omega)).trans h1, h2⟩, ih ht.2 h hr⟩
  | arrS g k o sT nul T' PT sz df e rest ihe ih =>
    rintro ⟨x, r⟩ ht h ⟨⟨v, ls, h1, h2⟩, hr⟩
    simp only [Sch.inB, Bool.and_eq_true, decide_eq_true_eq] at ht
    exact ⟨⟨v, ls, (h o (by omega) (by omega)).trans h1, h2⟩, ih ht.2 h hr⟩
  | tags k o => intro x ht; cases ht
  | sub g k o T' PT sz df e rest ihe ih => intro x ht; cases ht
  | opt g k o T' PT PP sz df e rest ihe ih => intro x ht; cases ht
  | cus c => intro x ht; cases ht
theorem Sch.chk_win {lo hi : Nat} {cs cs' : List Value} : ∀ (S : Sch), S.inB lo hi = true → (∀ j, lo ≤ j → j < hi → cs'[j]? = cs[j]?) → S.chkD cs = true → S.chkD cs' = true := by
  intro S
  induction S with
  | fin => intros; rfl
  | prim g k o p en d rest ih =>
    intro ht h hc
    simp only [Sch.inB, Bool.and_eq_true, decide_eq_true_eq] at ht
    simp only [Sch.chkD, Bool.and_eq_true] at hc ⊢
    exact ⟨prim_chkD_congr (fun j h1 h2 => h j (by omega) (by omega)) hc.1, ih ht.2 h hc.2⟩
  | arrP g k o sT nul p rest ih =>
    intro ht h hc
    simp only [Sch.inB, Bool.and_eq_true, decide_eq_true_eq] at ht
    simp only [Sch.chkD, Bool.and_eq_true] at hc ⊢
    rw [h o (by omega) (by omega)]
    exact ⟨hc.1, ih ht.2 h hc.2⟩
  | arrS g k o sT nul T' PT sz df e rest ihe ih =>
    intro ht h hc
    simp only [Sch.inB, Bool.and_eq_true, decide_eq_true_eq] at ht
    simp only [Sch.chkD, Bool.and_eq_true] at hc ⊢
    rw [h o (by omega) (by omega)]
    exact ⟨hc.1, ih ht.2 h hc.2⟩
  | tags k o => intro ht; cases ht
  | sub g k o T' PT sz df e rest ihe ih => intro ht; cases ht
  | opt g k o T' PT PP sz df e rest ihe ih => intro ht; cases ht
  | cus c => intro ht; cases ht
theorem mem_win {lo hi j : Nat} : j ∈ (List.range (hi - lo)).map (lo + ·) ↔ lo ≤ j ∧ j < hi := by
  constructor
  · intro h
    obtain ⟨i, hi', rfl⟩ := List.mem_map.1 h
    have := List.mem_range.1 hi'
    omega
  · intro h
    exact List.mem_map.2 ⟨j - lo, List.mem_range.2 (by omega), by omega⟩
def Cus.ofSch (S : Sch) (lo hi T0 : Nat) (hin : S.inB lo hi = true) : Cus where
  T := S.T
  dfl := S.dfl
  wr ver fl x := S.wr ver fl x
  rd ver fl rs := S.rd ver fl rs
  Rep w K cs x := S.Rep w K cs x
  tyB _ _ T := T == T0
  genW C T PT pv c := S.genW C T PT pv c
  genR C T PT pv c := S.genR C T PT pv c
  dit C := S.dit C
  chkD cs := S.chkD cs
  own := (List.range (hi - lo)).map (lo + ·)
  TagsOk ok x := S.TagsOk ok x
  wf ver fl x := S.wf ver fl x
  pos ver fl := S.pos ver fl
  posE ver fl := S.posE ver fl
  rep_ext he hK h := Sch.Rep_ext he hK S h
  rep_mono hK h := Sch.Rep_mono hK S h
  rep_lt h := Sch.Rep_ltK S h
  rep_own hc h := S.Rep_win hin (fun j h1 h2 => hc j (mem_win.2 ⟨h1, h2⟩)) h
  rep_dfl h := Sch.repD S h
  chk_own hc h := S.chk_win hin (fun j h1 h2 => hc j (mem_win.2 ⟨h1, h2⟩)) h
  tags_dfl := S.tagsD
  tags_mono h hx := Sch.TagsOk_mono h S hx
  good ver fl := good_sch ver fl S
  fine ver fl := fine_sch ver fl S
  pos_wr h hw := sch_pos _ _ S _ h hw
  rd_wr hp hw r nn := rd_sch _ _ S _ hp hw r nn
  any h hb hs := by
    have h1 := any_sch _ _ S _ _ _ h hb hs
    exact ⟨h1.1, any_tags _ _ S _ _ _ h hb hs, h1.2⟩
  mono_w C T PT pv c := genW_mono S T PT pv c
  mono_r C T PT pv c := genR_mono S T PT pv c
  one C := by intro x hx; rw [← dst_dit] at hx; exact dst_one C S x hx
def Cus.seq (a b : Cus) : Cus where
  T := a.T × b.T
  dfl := (a.dfl, b.dfl)
  wr ver fl x := a.wr ver fl x.1 ++ b.wr ver fl x.2
  rd ver fl rs := (a.rd ver fl rs).bind fun y => (b.rd ver fl y.2).bind fun z => some ((y.1, z.1), z.2)
  Rep w K cs x := a.Rep w K cs x.1 ∧ b.Rep w K cs x.2
  tyB P C T := a.tyB P C T && b.tyB P C T
  genW C T PT pv c := ((a.genW C T PT pv c).1 ++ (b.genW C T PT pv (a.genW C T PT pv c).2).1, (b.genW C T PT pv (a.genW C T PT pv c).2).2)
  genR C T PT pv c := ((a.genR C T PT pv c).1 ++ (b.genR C T PT pv (a.genR C T PT pv c).2).1, (b.genR C T PT pv (a.genR C T PT pv c).2).2)
  dit C := a.dit C ++ b.dit C
  chkD cs := a.chkD cs && b.chkD cs
  own := a.own ++ b.own
  TagsOk ok x := a.TagsOk ok x.1 ∧ b.TagsOk ok x.2
  wf ver fl x := a.wf ver fl x.1 ∧ b.wf ver fl x.2
  pos ver fl := a.pos ver fl || b.pos ver fl
  posE ver fl := a.posE ver fl && b.posE ver fl
  rep_ext he hK h := ⟨a.rep_ext he hK h.1, b.rep_ext he hK h.2⟩
  rep_mono hK h := ⟨a.rep_mono hK h.1, b.rep_mono hK h.2⟩
  rep_lt h := ⟨a.rep_lt h.1, b.rep_lt h.2⟩
  rep_own hc h := ⟨a.rep_own (fun j hj => hc j (List.mem_append_left _ hj)) h.1, b.rep_own (fun j hj => hc j (List.mem_append_right _ hj)) h.2⟩
  rep_dfl h := by
    simp only [Bool.and_eq_true] at h
    exact ⟨a.rep_dfl h.1, b.rep_dfl h.2⟩
  chk_own hc h := by
    simp only [Bool.and_eq_true] at h ⊢
    exact ⟨a.chk_own (fun j hj => hc j (List.mem_append_left _ hj)) h.1, b.chk_own (fun j hj => hc j (List.mem_append_right _ hj)) h.2⟩
  tags_dfl := ⟨a.tags_dfl, b.tags_dfl⟩
  tags_mono h hx := ⟨a.tags_mono h hx.1, b.tags_mono h hx.2⟩
  good ver fl := (a.good ver fl).bind (h := fun y rs => (b.rd ver fl rs).bind fun z => some ((y, z.1), z.2)) (fun y => (b.good ver fl).bind (h := fun z rs => some ((y, z), rs)) (fun z => GoodO.pure _))
  fine ver fl := by
    intro rs y rs' h e
    obtain ⟨⟨y1, r1⟩, e1, e2⟩ := Option.bind_eq_some_iff.1 e
    obtain ⟨⟨z1, r2⟩, e3, e4⟩ := Option.bind_eq_some_iff.1 e2
    simp only [Option.some.injEq, Prod.mk.injEq] at e4
    exact e4.2 ▸ b.fine ver fl _ _ _ (a.fine ver fl _ _ _ h e1) e3
  pos_wr h hw := by
    simp only [Bool.or_eq_true] at h
    simp only [List.length_append]
    rcases h with h | h
    · have := a.pos_wr h hw.1; omega
    · have := b.pos_wr h hw.2; omega
  rd_wr := by
    rintro ver fl ⟨x, y⟩ hp ⟨hx, hy⟩ r nn
    simp only [Bool.and_eq_true] at hp
    obtain ⟨x', n1, e1, e2, e3⟩ := a.rd_wr hp.1 hx (b.wr ver fl y ++ r) nn
    obtain ⟨y', n2, e4, e5, e6⟩ := b.rd_wr hp.2 hy r n1
    refine ⟨(x', y'), n2, ?_, ?_, e3, e6⟩
    · simp only [List.append_assoc, e1, Option.bind_some, e4]
    · simp only [e2, e5]
  any := by
    rintro ver fl rs ⟨x, y⟩ rs' h hb hs
    obtain ⟨⟨y1, r1⟩, e1, e2⟩ := Option.bind_eq_some_iff.1 h
    obtain ⟨⟨z1, r2⟩, e3, e4⟩ := Option.bind_eq_some_iff.1 e2
    simp only [Option.some.injEq, Prod.mk.injEq] at e4
    obtain ⟨⟨rfl, rfl⟩, rfl⟩ := e4
    have hb1 : r1.bad = false := by
      cases hx : r1.bad
      · rfl
      · have := (b.good ver fl).bad _ _ _ e3 hx
        rw [hb] at this; cases this
    obtain ⟨a1, a2, a3⟩ := a.any e1 hb1 hs
    obtain ⟨b1, b2, b3⟩ := b.any e3 hb (by show r1.src.length ≤ 32767; omega)
    replace b3 : (b.wr ver fl z1).length + r2.src.length ≤ r1.src.length := b3
    refine ⟨⟨a1, b1⟩, ⟨a2, b2⟩, ?_⟩
    simp only [List.length_append]
    omega
  mono_w C T PT pv c := by
    have h1 := a.mono_w C T PT pv c
    have h2 := b.mono_w C T PT pv (a.genW C T PT pv c).2
    exact ⟨Nat.le_trans h1.1 h2.1, Nat.le_trans h1.2 h2.2⟩
  mono_r C T PT pv c := by
    have h1 := a.mono_r C T PT pv c
    have h2 := b.mono_r C T PT pv (a.genR C T PT pv c).2
    exact ⟨Nat.le_trans h1.1 h2.1, Nat.le_trans h1.2 h2.2⟩
  one C := by
    intro x hx
    rw [List.filterMap_append, List.mem_append] at hx
    rcases hx with hx | hx
    · exact a.one C x hx
    · exact b.one C x hx
def Prim.dflB : Prim → Int → Bool
  | .i8, d => decide (-128 ≤ d) && decide (d < 128)
  | .i16, d => decide (-32768 ≤ d) && decide (d < 32768)
  | .u16, d => decide (0 ≤ d) && decide (d < 65536)
  | .i32, d => decide (-2147483648 ≤ d) && decide (d < 2147483648)
  | .i64, d => decide (-9223372036854775808 ≤ d) && decide (d < 9223372036854775808)
  | _, _ => true
theorem Prim.wf_dfl {p : Prim} {d : Int} (h : p.dflB d = true) : p.wf (p.dfl d) := by
  cases p <;> first | exact trivial | (simp only [Prim.dflB, Bool.and_eq_true, decide_eq_true_eq] at h; exact h) | simp [Prim.wf, Prim.dfl]
def Sch.dflB : Sch → Bool
  | .fin => true
  | .tags _ _ => true
  | .prim _ _ _ p _ d rest => p.dflB d && rest.dflB
  | _ => false
theorem Sch.wf_dfl {ver : Int} {fl : Bool} : ∀ (S : Sch), S.dflB = true → S.wf ver fl S.dfl := by
  intro S
  induction S with
  | fin => intro _; trivial
  | tags k o => intro _ _; exact ⟨by simp [Sch.dfl], by simp [Sch.dfl], by simp [Sch.dfl]⟩
  | prim g k o p en d rest ih =>
    intro h
    simp only [Sch.dflB, Bool.and_eq_true] at h
    exact ⟨fun _ => Prim.wf_dfl h.1, ih h.2⟩
  | _ => intro h; cases h
def Kn.dflB : Kn → Bool
  | .prim p d => p.dflB d
  | .arr _ _ _ _ _ _ => false
  | .str _ _ _ _ _ _ e => e.dflB
theorem KsWf_dfl (ver : Int) : ∀ {l : List KF}, (l.all fun f => f.c.dflB) = true → KsWf ver l (ksDfl l)
  | [], _ => trivial
  | f :: l, h => by
    simp only [List.all_cons, Bool.and_eq_true] at h
    refine ⟨⟨?_, fun hs => ?_⟩, KsWf_dfl ver h.2⟩
    · have h1 := h.1
      cases hc : f.c with
      | prim p d => rw [hc] at h1; exact Prim.wf_dfl h1
      | arr sT T PT sz df e => rw [hc] at h1; cases h1
      | str T PT sz df sm mk e => rw [hc] at h1; exact Sch.wf_dfl e h1
    · rw [f.c.set_dfl] at hs; cases hs
/-- the same part with other defaults -/
def Cus.withDit (c : Cus) (d : Cfg → List DI) (h : ∀ C, ∀ x ∈ (d C).filterMap DI.st?, x.v.oneCell' = true) : Cus := { c with dit := d, one := h }
section
variable {P : Program}
theorem ofSch_w {C : Cfg} {ok : TagL → Prop} {S : Sch} {lo hi T0 : Nat} {hin : S.inB lo hi = true} (ht : TyC P C) (hty : S.tyW P C T0 = true) (hN : S.NeedW P C ok) : (Cus.ofSch S lo hi T0 hin).SoundW P C ok := by
  intro T PT pv ct Q f w b a cs x ver fl base s hT0 hf hc hb hcs hr hok hd hsz h
  have hT0' : T = T0 := by simpa [Cus.ofSch] using hT0
  subst hT0'
  exact soundW ht S T PT pv ct Q f w b a cs x ver fl base s hty hN hf hc hb hcs hr hok hd hsz h
theorem ofSch_r {C : CfgR} {S : Sch} {lo hi T0 : Nat} {hin : S.inB lo hi = true} (ht : TyR P C) (hlh : lo < hi) (hty : S.tyR P C T0 hi lo = true) (hN : S.NeedR P C) : (Cus.ofSch S lo hi T0 hin).SoundR P C := by
  intro T PT pv ct Q f w b a n cc e ver fl R rs hT0 hown hf hc hs hd h0 h1
  have hT0' : T = T0 := by simpa [Cus.ofSch] using hT0
  subst hT0'
  have hhi : hi ≤ n := by
    have := hown (hi - 1) (mem_win.2 (by omega))
    omega
  have hfit := hs.fit
  have hs' : StR C R b a hi w cc e rs := ⟨hs.blk, by omega, hs.rd, hs.rw_⟩
  have hd' : S.chkD (segL cc a hi) = true := S.chk_win hin (fun j h1 h2 => by rw [segL_get (by omega), segL_get (by omega)]) hd
  refine soundR ht S T PT pv ct Q f w b a hi lo cc e ver fl R rs hty hN hf hc hs' hd' h0 ?_
  intro x rs' hx f' w' cc' hto hrep
  have hfit' : a + n ≤ cc'.size := by rw [hto.size]; exact hfit
  refine h1 x rs' hx f' w' cc' ⟨hto.ext, ⟨hto.st.blk, hfit', hto.st.rd, hto.st.rw_⟩, hto.size, fun j hj => hto.same j (by omega), hto.keep⟩ (fun j hj => hto.same j ?_) ?_
  · by_cases h1 : j < a + lo
    · exact .inl h1
    · by_cases h2 : a + hi ≤ j
      · exact .inr h2
      · exfalso
        exact hj (j - a) (mem_win.2 (by omega)) (by omega)
  · exact S.Rep_win hin (fun j h1 h2 => by rw [segL_get (by omega), segL_get (by omega)]) hrep
theorem seq_w {C : Cfg} {ok : TagL → Prop} {a b : Cus} (ha : a.SoundW P C ok) (hb : b.SoundW P C ok) : (a.seq b).SoundW P C ok := by
  rintro T PT pv ct Q f w bb aa cs ⟨x, y⟩ ver fl base s hT hf hc hbb hcs ⟨hrx, hry⟩ ⟨hox, hoy⟩ hd hsz h
  have hT' : a.tyB P C T = true ∧ b.tyB P C T = true := by simpa [Cus.seq] using hT
  have m1 := a.mono_w C T PT pv ct
  have m2 := b.mono_w C T PT pv (a.genW C T PT pv ct).2
  have hc' : (b.genW C T PT pv (a.genW C T PT pv ct).2).2.l ≤ ct.t := hc
  have hsz' : s.length + ((a.wr ver fl x).length + (b.wr ver fl y).length) ≤ 1099511627776 := by
    have := hsz
    simp only [Cus.seq, List.length_append] at this
    exact this
  show (seqL ((a.genW C T PT pv ct).1 ++ (b.genW C T PT pv (a.genW C T PT pv ct).2).1)).wp P Q f w
  refine seqL_append ?_
  refine ha T PT pv ct _ f w bb aa cs x ver fl base s hT'.1 hf (by omega) hbb hcs hrx hox hd (by omega) ?_
  intro f1 w1 hw1
  have hK : ∀ b, b < w.heap.size → b < base → ¬ own1 (f 1) b := fun b _ hb ho => by have := (Own.below hd.1 ho).1; omega
  refine hb T PT pv (a.genW C T PT pv ct).2 _ f1 w1 bb aa cs y ver fl base (s ++ a.wr ver fl x) hT'.2 ((hf.keep hw1.keep.keeps (Nat.le_refl _)).up m1.1) (by omega) hbb (CellsAt.ext (K := (· < base)) hw1.grew.ext hK hcs hbb) (b.rep_ext hw1.grew.ext (K := (· < base)) hK hry) hoy hw1.dst (by simp only [List.length_append]; omega) ?_
  intro f2 w2 hw2
  exact h f2 w2 (hw1.trans hw2 m1.1 m2.1 m1.2)
theorem seq_r {C : CfgR} {a b : Cus} (hdis : ∀ j ∈ a.own, j ∉ b.own) (ha : a.SoundR P C) (hb : b.SoundR P C) : (a.seq b).SoundR P C := by
  intro T PT pv ct Q f w bb aa n cc e ver fl R rs hT hown hf hc hs hd h0 h1
  have hT' : a.tyB P C.toCfg T = true ∧ b.tyB P C.toCfg T = true := by simpa [Cus.seq] using hT
  have hd' : a.chkD (segL cc aa n) = true ∧ b.chkD (segL cc aa n) = true := by simpa [Cus.seq] using hd
  have m1 := a.mono_r C T PT pv ct
  have m2 := b.mono_r C T PT pv (a.genR C T PT pv ct).2
  have hc' : (b.genR C T PT pv (a.genR C T PT pv ct).2).2.l ≤ ct.t := hc
  have hownA : ∀ j ∈ a.own, j < n := fun j hj => hown j (List.mem_append_left _ hj)
  have hownB : ∀ j ∈ b.own, j < n := fun j hj => hown j (List.mem_append_right _ hj)
  show (seqL ((a.genR C T PT pv ct).1 ++ (b.genR C T PT pv (a.genR C T PT pv ct).2).1)).wp P Q f w
  refine seqL_append ?_
  refine ha T PT pv ct _ f w bb aa n cc e ver fl R rs hT'.1 hownA hf (by omega) hs hd'.1 ?_ ?_
  · intro hn f' w' h6 he
    exact h0 (by show (a.rd ver fl rs).bind _ = none; rw [hn]; rfl) f' w' h6 he
  · intro x rs1 hx f1 w1 cc1 hto1 hsame1 hrep1
    have hb1 : b.chkD (segL cc1 aa n) = true := b.chk_own (fun j hj => by
      have := hownB j hj
      rw [segL_get this, segL_get this]
      refine hsame1 (aa + j) (fun i hi hji => hdis i hi ?_)
      have : i = j := by omega
      rw [this]; exact hj) hd'.2
    refine hb T PT pv (a.genR C T PT pv ct).2 _ f1 w1 bb aa n cc1 e ver fl R rs1 hT'.2 hownB ((hf.keep hto1.keep.keeps (Nat.le_refl _)).up m1.1) (by omega) hto1.st hb1 ?_ ?_
    · intro hn f' w' h6 he
      exact h0 (by show (a.rd ver fl rs).bind _ = none; rw [hx]; show (b.rd ver fl rs1).bind _ = none; rw [hn]; rfl) f' w' h6 (hto1.ext.trans he)
    · intro y rs2 hy f2 w2 cc2 hto2 hsame2 hrep2
      refine h1 (x, y) rs2 (by show (a.rd ver fl rs).bind _ = _; rw [hx]; show (b.rd ver fl rs1).bind _ = _; rw [hy]; rfl) f2 w2 cc2 (hto1.trans hto2 (Nat.le_refl _) m1.1 m2.1 m1.2) (fun j hj => ?_) ⟨?_, hrep2⟩
      · exact (hsame2 j (fun i hi => hj i (List.mem_append_right _ hi))).trans (hsame1 j (fun i hi => hj i (List.mem_append_left _ hi)))
      · refine a.rep_own (fun j hj => ?_) (a.rep_ext hto2.ext (K := RK R) (fun k hk h => hto1.st.rw_.keepK k hk h) hrep1)
        have := hownA j hj
        rw [segL_get this, segL_get this]
        refine hsame2 (aa + j) (fun i hi hji => hdis j hj ?_)
        have : i = j := by omega
        rw [← this]; exact hi
theorem withDit_w {C : Cfg} {ok : TagL → Prop} {c : Cus} {d : Cfg → List DI} {h : ∀ C, ∀ x ∈ (d C).filterMap DI.st?, x.v.oneCell' = true} (hc : c.SoundW P C ok) : (c.withDit d h).SoundW P C ok := hc
theorem withDit_r {C : CfgR} {c : Cus} {d : Cfg → List DI} {h : ∀ C, ∀ x ∈ (d C).filterMap DI.st?, x.v.oneCell' = true} (hc : c.SoundR P C) : (c.withDit d h).SoundR P C := hc
theorem secR_rs {C : CfgR} (l : Nat) (h : SecR P C) : SecR P { C with rs := l } := ⟨TyR_rs l h.ty, h.fx, h.rb, h.iU, h.iI, h.uErr, ⟨h.endc.complete⟩, h.uv, h.span⟩
theorem KsNeedR_rs {C : CfgR} (l : Nat) : ∀ {ks : List KF}, KsNeedR P C ks → KsNeedR P { C with rs := l } ks
  | [], _ => trivial
  | f :: ks, h => ⟨NeedRk_rs l h.1, KsNeedR_rs l h.2⟩
theorem ksTyR_rs {C : CfgR} (l T : Nat) {ks : List KF} (h : (ks.all fun kf => kf.tyR P C T) = true) : (ks.all fun kf => kf.tyR P { C with rs := l } T) = true := by
  simp only [List.all_eq_true] at h ⊢
  intro kf hk
  rw [KF.tyR_rs]; exact h kf hk
end
end Go.Kg

set_option linter.unusedSimpArgs false
set_option linter.unusedVariables false
set_option linter.unusedSectionVars false
namespace Go.Kg
open Go
inductive DJ where
  | st (x : DSt)
  | ad (k ty : Nat)
  | sb (k o T PT : Nat) (l : List DSt)
def DJ.sts : DJ → List DSt
  | .st x => [x]
  | .ad _ _ => []
  | .sb _ o _ _ l => l.map fun x => { x with o := o + x.o }
def genDP (C : Cfg) (T PT pv : Nat) : List DSt → Nat → List Ir
  | [], _ => []
  | x :: l, t => .reg (addrR C T PT pv x.k t ++ [⟨none, none, .store x.ty (.tmp (t + 2)) (.const x.v), C.E.tNil⟩]) :: genDP C T PT pv l (t + 3)
def nAdJ : List DJ → Nat
  | [] => 0
  | .st _ :: l => nAdJ l
  | .ad _ _ :: l => nAdJ l + 1
  | .sb _ _ _ _ _ :: l => nAdJ l + 1
def genDJ (C : Cfg) (T PT : Nat) : List DJ → Nat → Nat → List Ir
  | [], _, _ => []
  | .st x :: r, l, t => .reg (addrR C T PT 0 x.k t ++ [⟨none, none, .store x.ty (.tmp (t + 2)) (.const x.v), C.E.tNil⟩]) :: genDJ C T PT r l (t + 3)
  | .ad k ty :: r, l, t => seqL [.reg (addrR C T PT 0 k t ++ [⟨none, some l, .assign (.tmp (t + 2)), ty⟩]), .reg [⟨none, some (t + 3), .move (.tmp l), ty⟩]] :: genDJ C T PT r (l + 1) (t + 4)
  | .sb k _ T' PT' ds :: r, l, t => seqL ([.reg (addrR C T PT 0 k t ++ [⟨none, some l, .assign (.tmp (t + 2)), PT'⟩]), .reg [⟨none, some (t + 3), .move (.tmp l), PT'⟩]] ++ genDP C T' PT' l ds (t + 4)) :: genDJ C T PT r (l + 1) (t + 4 + 3 * ds.length)
def irDefJ (C : Cfg) (T PT : Nat) (L : List DJ) : Ir := seqL (genDJ C T PT L 2 (2 + nAdJ L))
def defOkJ (P : Program) (T n : Nat) : List DJ → Bool
  | [] => true
  | .st x :: l => fldOff P T x.k == some x.o && isScl (kindOf P x.ty) && decide (x.o < n) && x.v.oneCell' && defOkJ P T n l
  | .ad k _ :: l => (fldOff P T k).isSome && defOkJ P T n l
  | .sb k o T' _ ds :: l => fldOff P T k == some o && (ds.all fun x => fldOff P T' x.k == some x.o && isScl (kindOf P x.ty) && decide (o + x.o < n) && x.v.oneCell') && defOkJ P T n l
section
variable {P : Program} {C : Cfg}
theorem default_soundP {T PT pv n o : Nat} : ∀ (l : List DSt) (t : Nat) {f : Nat → Value} {w : World} {b a : Nat} {c : Array Value} {e : TypeId} {Q : Post}, (l.all fun x => fldOff P T x.k == some x.o && isScl (kindOf P x.ty) && decide (o + x.o < n) && x.v.oneCell') = true → pv < t →
    f pv = .pointer (some ⟨b, a + o, none⟩) → w.heap[b]? = some (.cells c e (0, 0)) → a + n ≤ c.size → (∀ f', (∀ y, y < t → f' y = f y) → Q .normal f' (w.setBlk b (.cells (setD a (l.map fun x => { x with o := o + x.o }) c) e (0, 0)))) → (seqL (genDP C T PT pv l t)).wp P Q f w := by
  intro l
  induction l with
  | nil =>
    intro t f w b a c e Q _ _ _ hb _ h
    show Q .normal f w
    have := h f (fun _ _ => rfl)
    simp only [List.map_nil, setD] at this
    rwa [setBlk_self hb] at this
  | cons x l ih =>
    intro t f w b a c e Q hok ht hp hb hn h
    simp only [List.all_cons, Bool.and_eq_true, beq_iff_eq, decide_eq_true_eq] at hok
    obtain ⟨⟨⟨⟨hF, hk⟩, hlt⟩, h1⟩, hokl⟩ := hok
    have z1 : (pv = t) = False := by simp; omega
    have z2 : ∀ k, (pv = t + k) = False := by intro k; simp; omega
    refine seqL_cons (wp_reg ?_)
    simp [addrR, hp, hF, Addr.add_mk, store_scl (isScl_spec hk), h1, put1K_blk hb]
    refine ⟨by omega, ?_⟩
    refine ih (t + 3) (by simpa using hokl) (by omega) (f := _) (b := b) (a := a) ?_ (setBlk_same hb) (by simpa using hn) ?_
    · simp [z1, z2, hp]
    · intro f' hf'
      rw [setBlk_setBlk]
      have := h f' (fun y hy => by
        rw [hf' y (by omega)]
        have y1 : (y = t) = False := by simp; omega
        have y2 : ∀ k, (y = t + k) = False := by intro k; simp; omega
        simp [y1, y2])
      simpa [setD, Nat.add_assoc] using this
theorem default_soundJ {T PT n : Nat} : ∀ (d : List DJ) (l t : Nat) {f : Nat → Value} {w : World} {b a : Nat} {c : Array Value} {e : TypeId} {R : Value → World → Prop}, defOkJ P T n d = true → 0 < l → l + nAdJ d ≤ t →
    f 0 = .pointer (some ⟨b, a, none⟩) → w.heap[b]? = some (.cells c e (0, 0)) → a + n ≤ c.size → R (.tuple #[]) (w.setBlk b (.cells (setD a (d.flatMap DJ.sts) c) e (0, 0))) → (seqL (genDJ C T PT d l t)).wp P (retPost P [] R) f w := by
  intro d
  induction d with
  | nil =>
    intro l t f w b a c e R _ _ _ h0 hb hn hR
    exact default_sound (C := C) (T := T) (PT := PT) (n := n) [] 1 (by simp) rfl (by omega) h0 hb hn hR
  | cons x d ih =>
    intro l t f w b a c e R hok hl ht h0 hb hn hR
    cases x with
    | st x =>
      simp only [defOkJ, Bool.and_eq_true, beq_iff_eq, decide_eq_true_eq] at hok
      obtain ⟨⟨⟨⟨hF, hk⟩, hlt⟩, ho⟩, hokl⟩ := hok
      simp only [nAdJ] at ht
      refine seqL_cons (wp_reg ?_)
      have z1 : (0 = t) = False := by simp; omega
      have z2 : ∀ k, (0 = t + k) = False := by intro k; simp; omega
      simp [addrR, h0, hF, Addr.add_mk, store_scl (isScl_spec hk), ho, put1K_blk hb]
      refine ⟨by omega, ?_⟩
      refine ih l (t + 3) hokl hl (by omega) ?_ (setBlk_same hb) (by simpa using hn) ?_
      · simp [z1, z2, h0]
      · rw [setBlk_setBlk]
        simpa [DJ.sts, setD] using hR
    | ad k ty =>
      simp only [defOkJ, Bool.and_eq_true] at hok
      obtain ⟨hF, hokl⟩ := hok
      obtain ⟨o, hF⟩ := Option.isSome_iff_exists.1 hF
      simp only [nAdJ] at ht
      have z1 : (0 = t) = False := by simp; omega
      have z2 : ∀ k, (0 = t + k) = False := by intro k; simp; omega
      have z3 : (0 = l) = False := by simp; omega
      refine seqL_cons ?_
      refine seqL_cons (wp_reg ?_)
      simp [addrR, h0, hF, Addr.add_mk]
      show (Ir.reg _).wp P _ _ w
      refine wp_reg ?_
      simp
      refine ih (l + 1) (t + 4) hokl (by omega) (by omega) ?_ hb hn ?_
      · simp [z1, z2, z3, h0]
      · simpa [DJ.sts] using hR
    | sb k o T' PT' ds =>
      simp only [defOkJ, Bool.and_eq_true, beq_iff_eq] at hok
      obtain ⟨⟨hF, hds⟩, hokl⟩ := hok
      simp only [nAdJ] at ht
      have z1 : (0 = t) = False := by simp; omega
      have z2 : ∀ k, (0 = t + k) = False := by intro k; simp; omega
      have z3 : (0 = l) = False := by simp; omega
      have z4 : ∀ k, (l = t + k) = False := by intro k; simp; omega
      refine seqL_cons ?_
      simp only [List.cons_append, List.nil_append]
      refine seqL_cons (wp_reg ?_)
      simp [addrR, h0, hF, Addr.add_mk]
      refine seqL_cons (wp_reg ?_)
      simp [z4]
      refine default_soundP (n := n) (o := o) ds (t + 4) hds (by omega) (b := b) (a := a) (c := c) (e := e) ?_ hb hn ?_
      · simp [z4]
      · intro f' hf'
        refine ih (l + 1) (t + 4 + 3 * ds.length) hokl (by omega) (by omega) ?_ (setBlk_same hb) (by rw [setD_size]; exact hn) ?_
        · rw [hf' 0 (by omega)]
          simp [z1, z2, z3, h0]
        · rw [setBlk_setBlk]
          have happ : ∀ (l1 l2 : List DSt) (c : Array Value), setD a l2 (setD a l1 c) = setD a (l1 ++ l2) c := by
            intro l1
            induction l1 with
            | nil => intro l2 c; rfl
            | cons x l1 ih1 => intro l2 c; simp only [setD, List.cons_append, ih1]
          rw [happ]
          simpa [DJ.sts] using hR
/-- Default: w's block with the defaults in; Sd: whose defaults these are -/
theorem defaultCJ {T PT n g nt : Nat} {L : List DJ} {Sd : Sch} (hnt : 1 ≤ nt) (hI : FnIs P g nt [] (irDefJ C T PT L)) (hok : defOkJ P T n L = true) (hst : L.flatMap DJ.sts = Sd.dst C) : DefRC P C n g Sd := by
  intro w b a c e hb hn
  refine hI.ret (args := [_]) (by simpa using hnt) ?_
  refine default_soundJ (n := n) L 2 (2 + nAdJ L) hok (by omega) (Nat.le_refl _) (b := b) (a := a) (c := c) (e := e) ?_ hb hn ?_
  · simp
  · rw [hst]
end
end Go.Kg

set_option linter.unusedSimpArgs false
set_option linter.unusedVariables false
namespace Go.Kg
open Go
/-- spec.Same, of a program without the trees -/
theorem c_SameV {P : Program} {E : Env} (ht : TyWr P E) (uBs : P.underlying E.tBs = some (.slice E.tU8)) (kU8 : kindOf P E.tU8 = .scl) (hI : FnIs P E.f_spec_Same nt_spec_Same (rs_spec_Same E) (ir_spec_Same E)) (w : World) (K K' : Nat → Prop) (va vb : Value) (s t : List UInt8) (hs : BytesAt w K va s) (hb : BytesAt w K' vb t) (hls : s.length ≤ 1099511627776) :
    Ret P E.f_spec_Same #[va, vb] w fun r w' => r = .bool (s == t) ∧ Ext none1 w w' := by
  obtain ⟨a1, c1, rfl, _⟩ := hs.len
  obtain ⟨a2, c2, rfl, _⟩ := hb.len
  refine hI.call (args := [_, _]) (by simp [nt_spec_Same]) ?_
  simp [ir_spec_Same, rs_spec_Same, len_slice uBs]
  by_cases hl : s.length = t.length
  · refine cw_false (by simp [hl]) ?_
    simp [len_slice uBs]
    refine cw_loop (SmInv (.slice a1 s.length c1) (.slice a2 t.length c2) s t w) (fun f _ => match f 13 with | .int _ i => ((s.length : Int) - i).toNat | _ => 0) ?_ ?_
    · exact ⟨0, by omega, by simp, by simp, by simp, by simp, by simp, Ext.refl _ _⟩
    · rintro f w' ⟨i, hi, hp, h13, h12, h0, h1, he⟩
      simp [h13, h12]
      by_cases hlt : i < s.length
      · refine cw_true (by simp; omega) ?_
        obtain ⟨x, hx⟩ : ∃ x, s[i]? = some x := ⟨_, List.getElem?_eq_getElem hlt⟩
        obtain ⟨y, hy⟩ : ∃ y, t[i]? = some y := ⟨_, List.getElem?_eq_getElem (by omega)⟩
        rcases hs with ⟨_, h⟩ | ⟨b1, o1, c1', hv1, _, _, hc1⟩
        · subst h; simp at hx
        cases hv1
        rcases hb with ⟨_, h⟩ | ⟨b2, o2, c2', hv2, _, _, hc2⟩
        · subst h; simp at hy
        cases hv2
        simp [h13]
        refine cw_regH (Ext none1 w) he.drew ?_
        have heD := he.drew
        have x1 : ∀ w', Ext none1 w w' → w'.cell? ⟨b1, o1 + i, none⟩ = some (.int .u8 x.toNat) := fun w' h => h.cell (hc1 i x hx) (fun h => h)
        have y1 : ∀ w', Ext none1 w w' → w'.cell? ⟨b2, o2 + i, none⟩ = some (.int .u8 y.toNat) := fun w' h => h.cell (hc2 i y hy) (fun h => h)
        have hlt2 : i < t.length := by omega
        have ei : IntKind.i64.wrap ((i : Int) + 1) = ((i + 1 : Nat) : Int) := by rw [i64_small (by omega) (by omega)]; rfl
        simp +contextual [h13, h12, h0, h1, idx?, ht.sBs.siz, hlt, hlt2, Addr.add_mk, ld_scl kU8, x1, y1, x1 w' he, y1 w' he, heD]
        by_cases hxy : x = y
        · subst hxy
          refine cw_false (by simp) ?_
          simp [h13, ei]
          exact ⟨⟨i + 1, by omega, take_eq_succ hp hx hy, by simp, by simp [h12], by simp [h0], by simp [h1], heD⟩, by omega⟩
        · refine cw_true (by simp; intro h; exact hxy (UInt8.toNat_inj.1 (by omega))) ?_
          simp
          refine ⟨?_, heD⟩
          rintro rfl
          rw [hx] at hy
          exact hxy (by simpa using hy)
      · refine cw_false (by simp; omega) ?_
        have : i = s.length := by omega
        subst this
        rw [List.take_length, hl, List.take_length] at hp
        simp [hp, he]
  · refine cw_true (by simp; omega) ?_
    simp [Ext.refl]
    rintro rfl
    exact hl rfl
end Go.Kg

set_option linter.unusedSimpArgs false
set_option linter.unusedVariables false
namespace Go.Kg
open Go
/-- where what is written stands while tags are written: the cell bd; nothing of 'prot' is touched -/
structure DstAt (E : Env) (base bd : Nat) (w0 : World) (v0 : Value) (prot : Nat → Prop) (s : List UInt8) (w : World) (v : Value) : Prop where
  cell : w.heap[bd]? = some (.cells #[v] E.tBs (0, 0))
  own : OwnB E.tU8 w base v s
  grew : Grew w0 v0 w v
  off : ∀ k, prot k → k < w.heap.size ∧ ¬ own1 v k
theorem ownB_cells {e : Nat} {w : World} {base : Nat} {v : Value} {s : List UInt8} (h : OwnB e w base v s) : v.cells = #[v] ∧ v.oneCell' = true := by
  obtain ⟨n, _, h⟩ := h
  rcases h with ⟨rfl, _⟩ | ⟨g, cap, cur, rfl, _⟩ <;> exact ⟨rfl, rfl⟩
theorem DstAt.step {E : Env} {base bd : Nat} {w0 w w' : World} {v0 v v' : Value} {prot : Nat → Prop} {s out : List UInt8} (hD : DstAt E base bd w0 v0 prot s w v) (hbd : w0.heap.size ≤ bd) (hnp : ¬ prot bd) (hnb : ¬ own1 v bd)
    (ho : OwnB E.tU8 w' base v' (s ++ out)) (hg : Grew w v w' v') :
    w'.heap[bd]? = some (.cells #[v] E.tBs (0, 0)) ∧ DstAt E base bd w0 v0 prot (s ++ out) (w'.setBlk bd (.cells #[v'] E.tBs (0, 0))) v' ∧ ¬ own1 v' bd ∧ ∀ k, prot k → (w'.setBlk bd (.cells #[v'] E.tBs (0, 0))).heap[k]? = w.heap[k]? := by
  have hlt := lt_of_heap hD.cell
  have hc : w'.heap[bd]? = some (.cells #[v] E.tBs (0, 0)) := hg.ext.old hD.cell hnb
  have hnb' : ¬ own1 v' bd := fun h => (hg.own bd h).elim hnb (fun h => by omega)
  have hoff : ∀ k, prot k → k < w'.heap.size ∧ ¬ own1 v' k := fun k hk => ⟨Nat.lt_of_lt_of_le (hD.off k hk).1 hg.ext.size, fun h => (hg.own k h).elim (hD.off k hk).2 (fun h' => by have := (hD.off k hk).1; omega)⟩
  have hG := hD.grew.trans hg
  refine ⟨hc, ⟨setBlk_same hc, Own.ext ho ((Ext.refl (fun x => x = bd) w').setBlk (b := bd) (Or.inr rfl) _) (fun b h e => hnb' (by subst e; exact h)), ⟨hG.ext.setBlk (Or.inl hbd) _, hG.own⟩, by simpa using hoff⟩, hnb', ?_⟩
  intro k hk
  have hne : k ≠ bd := fun e => hnp (by subst e; exact hk)
  rw [setBlk_other hne]
  exact hg.ext.block k (hD.off k hk).1 (hD.off k hk).2
section
variable {P : Program} {E : Env} (ht : TyTg P E)
include ht
theorem c_AE1 (hS : SliI P E.tBs E.tU8 1 1 (.int .u8 0)) (hi : intKind? P E.tU32 = some .u32) (hi' : intKind? P E.tInt = some .i64) (hI : FnIs P E.f_pkmsg_Tags_AppendEach_1 nt_pkmsg_Tags_AppendEach_1 (rs_pkmsg_Tags_AppendEach_1 E) (ir_pkmsg_Tags_AppendEach_1 E))
    (hU : ∀ n : Nat, n < 4294967296 → WrC P E.tU8 E.f_kbin_AppendUvarint [.int .u32 n] (uvOut n))
    {base bd : Nat} {w0 w : World} {v0 v val : Value} {prot : Nat → Prop} {s : List UInt8} {x : Nat × List UInt8} {K : Nat → Prop}
    (hD : DstAt E base bd w0 v0 prot s w v) (hbd : w0.heap.size ≤ bd) (hb : base ≤ w0.heap.size) (hnp : ¬ prot bd) (hnb : ¬ own1 v bd) (hx : x.1 < 4294967296) (hxl : x.2.length < 4294967296) (hv : BytesAt w K val x.2) (hK : ∀ k, K k → k < base) (hsz : s.length + (tagW x).length ≤ 1099511627776) :
    Ret P E.f_pkmsg_Tags_AppendEach_1 #[.int .u32 x.1, val, .pointer (some ⟨bd, 0, none⟩)] w fun _ w' => ∃ v', DstAt E base bd w0 v0 prot (s ++ tagW x) w' v' ∧ ¬ own1 v' bd ∧ ∀ k, prot k → w'.heap[k]? = w.heap[k]? := by
  have hbdlt := lt_of_heap hD.cell
  have hxu : uvOut x.1 ++ uvOut x.2.length ++ x.2 = tagW x := by simp [tagW, Nat.mod_eq_of_lt hxl]
  have hsz' : s.length + ((uvOut x.1).length + (uvOut x.2.length).length + x.2.length) ≤ 1099511627776 := by rw [← hxu] at hsz; simp only [List.length_append] at hsz; omega
  refine hI.call (args := [_, _, _]) (by simp [nt_pkmsg_Tags_AppendEach_1]) ?_
  have c0 : w.cell? ⟨bd, 0, none⟩ = some v := by rw [cell_of_blk hD.cell]; rfl
  have hsw : base ≤ w.heap.size := Nat.le_trans hb hD.grew.size
  simp [ir_pkmsg_Tags_AppendEach_1, rs_pkmsg_Tags_AppendEach_1, ld_scl ht.kBs, c0]
  refine (hU x.1 hx w base v s hD.own hsw (by omega)).mono ?_
  rintro v1 w1 ⟨ho1, hg1⟩
  obtain ⟨hc1, hD1, hn1, hp1⟩ := hD.step hbd hnp hnb ho1 hg1
  have hva : BytesAt w1 K val x.2 := hv.ext hg1.ext (fun b _ hk h => by have := (Own.below hD.own h).1; have := hK b hk; omega)
  simp [store_scl ht.kBs, (ownB_cells ho1).2, put1K_blk hc1]
  generalize hw1' : w1.setBlk bd (.cells #[v1] E.tBs (0, 0)) = w1' at *
  have hva1 : BytesAt w1' K val x.2 := by subst hw1'; exact hva.ext ((Ext.refl (fun k => k = bd) w1).setBlk (b := bd) (Or.inr rfl) _) (fun b _ hk e => by have := hK b hk; omega)
  have c1 : w1'.cell? ⟨bd, 0, none⟩ = some v1 := by rw [cell_of_blk hD1.cell]; rfl
  obtain ⟨a, c, rfl, _⟩ := hva1.len
  have hw32 : IntKind.u32.wrap (x.2.length : Int) = (x.2.length : Int) := by simp [IntKind.wrap, IntKind.signed, IntKind.bits]; omega
  have uBs := hS.und
  simp [ld_scl ht.kBs, c1, len_slice uBs, hi, hi', hw32]
  refine (hU x.2.length hxl w1' base v1 _ hD1.own (Nat.le_trans hb hD1.grew.size) (by simp; omega)).mono ?_
  rintro v2 w2 ⟨ho2, hg2⟩
  obtain ⟨hc2, hD2, hn2, hp2⟩ := hD1.step hbd hnp hn1 ho2 hg2
  have hvb : BytesAt w2 K (.slice a x.2.length c) x.2 := hva1.ext hg2.ext (fun b _ hk h => by have := (Own.below hD1.own h).1; have := hK b hk; omega)
  simp [store_scl ht.kBs, (ownB_cells ho2).2, put1K_blk hc2]
  generalize hw2' : w2.setBlk bd (.cells #[v2] E.tBs (0, 0)) = w2' at *
  have hvb1 : BytesAt w2' K (.slice a x.2.length c) x.2 := by subst hw2'; exact hvb.ext ((Ext.refl (fun k => k = bd) w2).setBlk (b := bd) (Or.inr rfl) _) (fun b _ hk e => by have := hK b hk; omega)
  have c2 : w2'.cell? ⟨bd, 0, none⟩ = some v2 := by rw [cell_of_blk hD2.cell]; rfl
  simp [ld_scl ht.kBs, c2]
  refine st_app_bytes hS (by simp) hD2.own (Nat.le_trans hb hD2.grew.size) (by simpa using hvb1) (by simp; omega) ?_
  intro v3 w3 ho3 hg3
  obtain ⟨hc3, hD3, hn3, hp3⟩ := hD2.step hbd hnp hn2 ho3 hg3
  simp [store_scl ht.kBs, (ownB_cells ho3).2, put1K_blk hc3]
  refine ⟨v3, ?_, hn3, fun k hk => ?_⟩
  · rw [← hxu]; simpa [List.append_assoc] using hD3
  · rw [hp3 k hk, hp2 k hk, hp1 k hk]
end
end Go.Kg

set_option linter.unusedSimpArgs false
set_option linter.unusedVariables false
namespace Go.Kg
open Go
theorem DstAt.ext {E : Env} {base bd n0 : Nat} {w0 w w' : World} {v0 v : Value} {prot : Nat → Prop} {s : List UInt8} (hD : DstAt E base bd w0 v0 prot s w v) (he : Ext (fun x => n0 ≤ x) w w') (hbd : bd < n0) (hv : ∀ k, own1 v k → k < n0) (h0 : w0.heap.size ≤ n0) :
    DstAt E base bd w0 v0 (fun k => n0 ≤ k ∧ k < w'.heap.size) s w' v :=
  ⟨he.old hD.cell (by omega), Own.ext hD.own he (fun b h h' => by have := hv b h; omega), ⟨hD.grew.ext.grow he h0, hD.grew.own⟩, fun k hk => ⟨hk.2, fun h => by have := hv k h; omega⟩⟩
theorem DstAt.tags {E : Env} {base bd : Nat} {w0 w : World} {v0 v : Value} {prot : Nat → Prop} {s s0 : List UInt8} (hD : DstAt E base bd w0 v0 prot s w v) (ho : OwnB E.tU8 w0 base v0 s0) {b o : Nat} {u : Value} {l : TagL} (hb : ¬ own1 v0 b) (hc : w0.cell? ⟨b, o, none⟩ = some u) (hl : TagsAt w0 (· < base) u l) :
    w.cell? ⟨b, o, none⟩ = some u ∧ TagsAt w (· < base) u l :=
  ⟨hD.grew.ext.cell hc hb, hl.ext hD.grew.ext (fun b _ hb h => by have := (Own.below ho h).1; omega)⟩
theorem EL.find {w : World} {K : Nat → Prop} {c : Nat} : ∀ {L : List MapEntry} {l : TagL} (i : Nat), EL w K c L l → (l.map (·.1)).Nodup → ∀ x ∈ l, x.1 < 4294967296 ∧ ∃ j v, Instr.findNow (.int .u32) (.int .u32 x.1) L i = some (some (j, v)) ∧ BytesAt w K v x.2
  | e :: L, y :: l, i, ⟨⟨h1, h2, h3, h4⟩, h5⟩, hn, x, hx => by
    simp only [List.map_cons, List.nodup_cons] at hn
    by_cases hxy : y.1 = x.1
    · have : x = y := by
        rcases List.mem_cons.1 hx with h | h
        · exact h
        · exact absurd (List.mem_map.2 ⟨x, h, hxy.symm⟩) hn.1
      subst this
      exact ⟨h2, i, e.val, by simp [Instr.findNow, Instr.sameNow, h1], h4⟩
    · have hx' : x ∈ l := by
        rcases List.mem_cons.1 hx with h | h
        · subst h; exact absurd rfl hxy
        · exact h
      obtain ⟨a, j, v, b1, b2⟩ := EL.find (i + 1) h5 hn.2 x hx'
      have hne : ((x.1 : Int) == (y.1 : Int)) = false := by simp; omega
      exact ⟨a, j, v, by simp [Instr.findNow, Instr.sameNow, h1, hne, b1], b2⟩
  | [], _ :: _, _, h, _, _, _ => h.elim
theorem run_lookup {P : Program} {T KT VT : TypeId} (hT : P.underlying T = some (.map KT VT)) (hK : P.underlying KT = some (.int .u32)) {w : World} {b clock j : Nat} {k : Int} {v : Value} {es : Array MapEntry}
    (hb : w.heap[b]? = some (.map es clock)) (hf : Instr.findNow (.int .u32) (.int .u32 k) es.toList 0 = some (some (j, v))) :
    (Instr.lookup T (.map (some b)) (.int .u32 k) false).run P w = .ok v w := by
  have hget : (getObj b).run P w = .ok (.map es clock) w := by simp [getObj, Sem.run, hb]
  simp [Instr.lookup, run_underlying hT, hget, check_u32 hK, Instr.findKey, run_underlying hK, hf]
theorem EL.keys {w : World} {K : Nat → Prop} {c : Nat} : ∀ {L : List MapEntry} {l : TagL}, EL w K c L l → L.map (·.key) = l.map fun x => Value.int .u32 x.1
  | [], [], _ => rfl
  | e :: L, x :: l, h => by simp [h.1.1, EL.keys h.2]
  | [], _ :: _, h => h.elim
  | _ :: _, [], h => h.elim
theorem left_perm {seen : Array Nat} {e : MapEntry} : ∀ {L : List MapEntry}, (L.map (·.born)).Nodup → e ∈ L → seen.contains e.born = false →
    ((L.filter fun x => !seen.contains x.born).map (·.key)).Perm (e.key :: (L.filter fun x => !(seen.push e.born).contains x.born).map (·.key))
  | x :: L, hn, he, hs => by
    simp only [List.map_cons, List.nodup_cons] at hn
    have hc : ∀ y : MapEntry, (seen.push e.born).contains y.born = (seen.contains y.born || (y.born == e.born)) := by
      intro y; rw [contains_push]
    by_cases hxe : x.born = e.born
    · have hx : x = e := by
        rcases List.mem_cons.1 he with h | h
        · exact h.symm
        · exact absurd (List.mem_map.2 ⟨e, h, hxe.symm⟩) hn.1
      subst hx
      have hrest : (L.filter fun y => !(seen.push x.born).contains y.born) = L.filter fun y => !seen.contains y.born := by
        refine List.filter_congr fun y hy => ?_
        have : (y.born == x.born) = false := by simp; intro h; exact hn.1 (h ▸ List.mem_map.2 ⟨y, hy, rfl⟩)
        rw [hc, this]; simp
      have h1 : (List.filter (fun y : MapEntry => !seen.contains y.born) (x :: L)) = x :: L.filter fun y => !seen.contains y.born := by rw [List.filter_cons, hs]; rfl
      have h2 : (List.filter (fun y : MapEntry => !(seen.push x.born).contains y.born) (x :: L)) = L.filter fun y => !(seen.push x.born).contains y.born := by rw [List.filter_cons, hc]; simp
      rw [h1, h2, hrest]
      exact List.Perm.refl _
    · have he' : e ∈ L := by
        rcases List.mem_cons.1 he with h | h
        · subst h; exact absurd rfl hxe
        · exact h
      have ih := left_perm hn.2 he' hs
      have hxb : (x.born == e.born) = false := by simpa using hxe
      cases hsx : seen.contains x.born
      · have h1 : (List.filter (fun y : MapEntry => !seen.contains y.born) (x :: L)) = x :: L.filter fun y => !seen.contains y.born := by rw [List.filter_cons, hsx]; rfl
        have h2 : (List.filter (fun y : MapEntry => !(seen.push e.born).contains y.born) (x :: L)) = x :: L.filter fun y => !(seen.push e.born).contains y.born := by rw [List.filter_cons, hc, hsx, hxb]; rfl
        rw [h1, h2]
        simp only [List.map_cons]
        exact (List.Perm.cons _ ih).trans (List.Perm.swap _ _ _)
      · have h1 : (List.filter (fun y : MapEntry => !seen.contains y.born) (x :: L)) = L.filter fun y => !seen.contains y.born := by rw [List.filter_cons, hsx]; rfl
        have h2 : (List.filter (fun y : MapEntry => !(seen.push e.born).contains y.born) (x :: L)) = L.filter fun y => !(seen.push e.born).contains y.born := by rw [List.filter_cons, hc, hsx]; simp
        rw [h1, h2]; exact ih
theorem sorted_keys {l : TagL} {d : List Nat} (hn : (l.map (·.1)).Nodup) (hp : d.Perm (l.map (·.1))) (hs : d.Pairwise (· ≤ ·)) : d = (sortTags l).map (·.1) := by
  have hp2 : ((sortTags l).map (·.1)).Perm (l.map (·.1)) := by
    refine List.Perm.map _ ?_
    clear hn hp hs
    induction l with
    | nil => exact List.Perm.refl _
    | cons x l ih =>
      have hi : ∀ (x : Nat × List UInt8) (l : TagL), (insTag x l).Perm (x :: l) := by
        intro x l
        induction l with
        | nil => exact List.Perm.refl _
        | cons y l ih =>
          simp only [insTag]
          split
          · exact List.Perm.refl _
          · exact (List.Perm.cons _ ih).trans (List.Perm.swap _ _ _)
      exact (hi x (sortTags l)).trans (List.Perm.cons _ ih)
  have hs2 : ((sortTags l).map (·.1)).Pairwise (· ≤ ·) := by
    rw [List.pairwise_map]; exact sortTags_sorted l
  exact List.Perm.eq_of_pairwise (fun a b _ _ h1 h2 => Nat.le_antisymm h1 h2) hs hs2 (hp.trans hp2.symm)
/-- sort.Slice over ordered, by the literal in Each -/
def SortC (P : Program) (E : Env) : Prop := ∀ (w : World) (Bs blk c : Nat) (d : List Nat) (row : Array Value), w.cell? ⟨Bs, 0, none⟩ = some (.slice (some ⟨blk, 0, none⟩) d.length c) → Bs ≠ blk → w.heap[blk]? = some (.cells row E.tU32 (0, 0)) →
  (∀ (i x : Nat), d[i]? = some x → row[i]? = some (Value.int .u32 (x : Int))) → 0 < d.length → d.length < 4294967296 →
  Ret P E.f_sort_Slice #[.iface E.t_l_uint32 (.slice (some ⟨blk, 0, none⟩) d.length c), .func (.func E.f_pkmsg_Tags_Each_1) #[] #[.pointer (some ⟨Bs, 0, none⟩)]] w fun _ w' => ∃ d' : List Nat, d'.Perm d ∧ d'.Pairwise (· ≤ ·) ∧ Ext (· = blk) w w' ∧
    ∀ (i x : Nat), d'[i]? = some x → w'.cell? ⟨blk, i, none⟩ = some (Value.int .u32 (x : Int))
@[simp] theorem stp_range {P : Program} {f : Nat → Value} {ty : TypeId} {w : World} {K : Value → World → Prop} {T : TypeId} {a : Operand} : stp P f (.range T a) ty w K = stepF P f (.range T a) ty w K := (rfl)
@[simp] theorem stp_next {P : Program} {f : Nat → Value} {ty : TypeId} {w : World} {K : Value → World → Prop} {a : Operand} {b : Bool} : stp P f (.next a b) ty w K = stepF P f (.next a b) ty w K := (rfl)
@[simp] theorem stp_entry {P : Program} {f : Nat → Value} {ty : TypeId} {w : World} {K : Value → World → Prop} {a : Operand} : stp P f (.entry a) ty w K = stepF P f (.entry a) ty w K := (rfl)
@[simp] theorem stp_lookup {P : Program} {f : Nat → Value} {ty : TypeId} {w : World} {K : Value → World → Prop} {T : TypeId} {a b : Operand} {c : Bool} : stp P f (.lookup T a b c) ty w K = stepF P f (.lookup T a b c) ty w K := (rfl)
@[simp] theorem stp_mkI {P : Program} {f : Nat → Value} {ty : TypeId} {w : World} {K : Value → World → Prop} {T : TypeId} {a : Operand} : stp P f (.makeInterface T a) ty w K = stepF P f (.makeInterface T a) ty w K := (rfl)
def rLeft (w : World) (b r : Nat) : Nat :=
  match w.heap[b]?, w.heap[r]? with
  | some (.map es _), some (.mapIter _ _ seen _) => (leftOf es seen).size
  | _, _ => 0
theorem rLeft_of {w : World} {b r c s c0 : Nat} {es : Array MapEntry} {seen : Array Nat} {m : Option Nat} (h1 : w.heap[b]? = some (.map es c)) (h2 : w.heap[r]? = some (.mapIter m s seen c0)) : rLeft w b r = (leftOf es seen).size := by
  simp [rLeft, h1, h2]
/-- while the keys are gathered -/
structure RngI (E : Env) (base bd n0 : Nat) (w0 : World) (v0 : Value) (s : List UInt8) (v : Value) (it bp m : Nat) (es : Array MapEntry) (clock : Nat) (pt fn : Value) (ww : World) (f : Nat → Value) (w : World) : Prop where
  ext : Ext (fun x => n0 ≤ x) ww w
  f0 : f 0 = pt
  f1 : f 1 = fn
  f4 : f 4 = .pointer (some ⟨bp, 0, none⟩)
  f24 : f 24 = .pointer (some ⟨it, 0, none⟩)
  st : ∃ seen c0 ov done, w.heap[it]? = some (.mapIter (some m) clock seen c0) ∧ clock ≤ c0 ∧ w.heap[bp]? = some (.cells #[ov] E.t_l_uint32 (0, 0)) ∧ Own w n0 E.tU32 1 ov done ∧ (∀ k, own1 ov k → k ≠ it ∧ k ≠ bp) ∧
    (((es.toList.filter fun x => !seen.contains x.born).map (·.key)) ++ done).Perm (es.toList.map (·.key)) ∧ done.length ≤ es.size
section
variable {P : Program} {E : Env} (ht : TyTg P E)
include ht
set_option maxHeartbeats 1000000 in
/-- 'for key := range t.keyvals' -/
theorem c_round (kS : kindOf P E.t_l_uint32 = .scl) (hS : SliI P E.t_l_uint32 E.tU32 1 4 (.int .u32 0)) (hi : intKind? P E.tU32 = some .u32)
    {base bd n0 : Nat} {w0 ww : World} {v0 v : Value} {s : List UInt8} {it bp m : Nat} {es : Array MapEntry} {clock : Nat} {pt fn : Value} {f : Nat → Value} {w : World} {K : Nat → Prop} {l : TagL}
    (h : RngI E base bd n0 w0 v0 s v it bp m es clock pt fn ww f w) (hm : w.heap[m]? = some (.map es clock)) (he : EL w K clock es.toList l) (hn : (es.toList.map (·.born)).Nodup) (hlen : es.size ≤ 40000) (hit : n0 ≤ it ∧ it < w.heap.size) (hbp : n0 ≤ bp ∧ bp < w.heap.size) (hib : it ≠ bp) (hm0 : m < n0) {Q : Post}
    (hdone : ∀ f' w', w' = w → (∀ x, x ≠ 25 → x ≠ 26 → f' x = f x) → leftOf es #[] = leftOf es #[] → (∃ seen c0, w.heap[it]? = some (.mapIter (some m) clock seen c0) ∧ (leftOf es seen).size = 0) → Q (.exit 0) f' w')
    (hnext : ∀ f' w', RngI E base bd n0 w0 v0 s v it bp m es clock pt fn ww f' w' → rLeft w' m it < rLeft w m it → Q .normal f' w') :
    ((Ir.seq
          (.reg [
              ⟨none, some 25, .next (.tmp 24) false, E.tNil⟩,
              ⟨none, some 26, .extract (.tmp 25) 0, E.tB⟩])
        (.seq
          (.cond 26
            .skip
            (.exit 0))
        (.block 1
          (.seq
            (.reg [
                ⟨none, some 27, .entry (.tmp 24), E.tNil⟩,
                ⟨none, some 28, .extract (.tmp 27) 0, E.tU32⟩,
                ⟨none, some 5, .assign (.tmp 28), E.tU32⟩])
          (.reg [
              ⟨none, some 29, .load E.t_l_uint32 (.tmp 4), E.t_l_uint32⟩,
              ⟨none, some 30, .move (.tmp 5), E.tU32⟩,
              ⟨none, some 31, .buildSlice E.t_l_uint32 1 #[(0, .tmp 30)], E.t_l_uint32⟩,
              ⟨none, some 32, .call { callee := .builtin .append, args := #[.tmp 29, .tmp 31], argTypes := #[E.t_l_uint32, E.t_l_uint32] }, E.t_l_uint32⟩,
              ⟨none, none, .store E.t_l_uint32 (.tmp 4) (.tmp 32), E.tNil⟩])))))).cw P Q f w := by
  obtain ⟨seen, c0, ov, done, hr, hc0, hbo, ho, hoff, hperm, hdl⟩ := h.st
  have hold : ∀ x ∈ es.toList, x.born < clock := fun x hx => by
    obtain ⟨y, _, hy⟩ := he.mem x hx
    exact hy.2.2.1
  simp [h.f24]
  rcases run_next_at (P := P) w E.tNil it m clock c0 seen es clock hr hm hold hc0 with ⟨h0, hrun⟩ | ⟨e, hel, w1, hal, hrun⟩
  · rw [stepF_ok (v := .tuple #[.bool false]) (w' := w) (by simp [runF, execOp, h.f24, hrun])]
    simp
    refine cw_false (by simp) ?_
    simp
    exact hdone _ _ rfl (fun x h1 h2 => by simp [h1, h2]) rfl ⟨seen, c0, hr, h0⟩
  · obtain ⟨hem, hes⟩ := mem_left hel
    generalize hw2 : ChangeMaps.setBlock w1 it (.mapIter (some m) clock (seen.push e.born) clock) = w2 at hrun
    rw [stepF_ok (v := .tuple #[.bool true, e.key, e.val]) (w' := w2) (by simp [runF, execOp, h.f24, hrun])]
    have hE12 : Ext (fun x => n0 ≤ x) w w1 := by rcases hal with rfl | rfl <;> first | exact Ext.refl _ _ | exact (Ext.refl _ _).drew
    have hr1 : w1.heap[it]? = some (.mapIter (some m) clock seen c0) := by rcases hal with rfl | rfl <;> exact hr
    have hw2' : w1.setBlk it (.mapIter (some m) clock (seen.push e.born) clock) = w2 := hw2
    have hE2 : Ext (fun x => x = it) w w2 := by
      subst hw2'
      refine Ext.setBlk (C := fun x => x = it) (b := it) ?_ (Or.inr rfl) _
      rcases hal with rfl | rfl <;> first | exact Ext.refl _ _ | exact (Ext.refl _ _).drew
    have hr2 : w2.heap[it]? = some (.mapIter (some m) clock (seen.push e.born) clock) := by subst hw2'; exact setBlk_same hr1
    have hm2 : w2.heap[m]? = some (.map es clock) := hE2.old hm (by omega)
    have hent := run_entry_at (P := P) w2 it m clock seen es clock e hr2 hm2 hem hn
    have hb2 : w2.heap[bp]? = some (.cells #[ov] E.t_l_uint32 (0, 0)) := hE2.old hbo (Ne.symm hib)
    have ho2 : Own w2 n0 E.tU32 1 ov done := Own.ext ho hE2 (fun b hb => (hoff b hb).1)
    obtain ⟨y, hy, hy1, hy2, _⟩ := he.mem e hem
    have cb : w2.cell? ⟨bp, 0, none⟩ = some ov := by rw [cell_of_blk hb2]; rfl
    simp
    refine cw_true (by simp) ?_
    simp [h.f24]
    rw [stepF_ok (v := .tuple #[e.key, e.val]) (w' := w2) (by simp [runF, execOp, h.f24, hent])]
    simp [h.f4, ld_scl kS, cb]
    rw [st_bsl (n := 1) (parts := #[(0, .tmp 30)]) hS (by omega) (by rfl) rfl (by omega) (by omega) (by simp [allSz, hy1, Value.cells])]
    simp [flat, hy1, Value.cells]
    generalize hw3 : w2.alloc (.cells #[.int .u32 y.1] E.tU32) = w3
    have hE3 : Ext none1 w2 w3 := by subst hw3; exact (Ext.refl _ _).alloc _
    have hs3 : w2.heap.size < w3.heap.size := by subst hw3; simp
    have ho3 : Own w3 n0 E.tU32 1 ov done := Own.ext ho2 hE3 (fun _ _ h => h)
    have hb3 : w3.heap[w2.heap.size]? = some (.cells #[.int .u32 y.1] E.tU32 (0, 0)) := by subst hw3; exact alloc_new
    have hs2 : w2.heap.size = w.heap.size := by subst hw2'; rcases hal with rfl | rfl <;> simp
    have hp2 := left_perm hn hem hes
    have hlt : done.length < es.size := by
      have h1 := hperm.length_eq
      have h2 := hp2.length_eq
      simp only [List.length_append, List.length_map, List.length_cons, Array.length_toList] at h1 h2
      omega
    refine st_append hS (by omega) (base := n0) (xs := done) (by simpa using ho3) (ad := some ⟨w2.heap.size, 0, none⟩) (m := 1) (c := 1) (news := [.int .u32 y.1]) (by simp) (by simp) (by simp) ?_ (by simp [Value.oneCell']) (by simp [maxLen]; omega) (by simp; omega) (by omega) ?_
    · intro a ha j u hj
      cases ha
      cases j with
      | zero => simp at hj; subst hj; simp [Addr.add_mk, cell_of_blk hb3]
      | succ j => simp at hj
    · intro v' w4 ho4 hg4
      have hv' : v'.oneCell' = true ∧ v'.cells = #[v'] := by
        obtain ⟨n, _, h⟩ := ho4
        rcases h with ⟨rfl, _⟩ | ⟨g, cap, cur, rfl, _⟩ <;> exact ⟨rfl, rfl⟩
      simp at hg4
      have hb4 : w4.heap[bp]? = some (.cells #[ov] E.t_l_uint32 (0, 0)) := hg4.ext.old (hE3.old hb2 (fun h => h)) (fun h => (hoff bp h).2 rfl)
      have hit4 : w4.heap[it]? = some (.mapIter (some m) clock (seen.push e.born) clock) := hg4.ext.old (hE3.old hr2 (fun h => h)) (fun h => (hoff it h).1 rfl)
      have hm4 : w4.heap[m]? = some (.map es clock) := hg4.ext.old (hE3.old hm2 (fun h => h)) (fun h => by have := (Own.below ho h).1; omega)
      simp [h.f4, store_scl kS, hv'.1, put1K_blk hb4]
      generalize hw5 : w4.setBlk bp (.cells #[v'] E.t_l_uint32 (0, 0)) = w5
      have hE5 : Ext (fun x => x = bp) w4 w5 := by subst hw5; exact (Ext.refl (fun x => x = bp) _).setBlk (b := bp) (Or.inr rfl) _
      have hsz4 := hg4.ext.size
      have hov4 : ∀ k, own1 v' k → k ≠ it ∧ k ≠ bp := fun k hk => (hg4.own k hk).elim (hoff k) (fun h => by omega)
      have hit5 : w5.heap[it]? = some (.mapIter (some m) clock (seen.push e.born) clock) := hE5.old hit4 hib
      have hm5 : w5.heap[m]? = some (.map es clock) := hE5.old hm4 (by omega)
      refine hnext _ _ ⟨?_, by simp [h.f0], by simp [h.f1], by simp [h.f4], by simp [h.f24], seen.push e.born, clock, v', done ++ [.int .u32 y.1], hit5, Nat.le_refl _, ?_, Own.ext ho4 hE5 (fun b hb => (hov4 b hb).2), hov4, ?_, ?_⟩ ?_
      · refine h.ext.trans ?_
        refine (hE2.mono (fun _ _ e => by omega)).trans ?_
        refine (hE3.mono (fun _ _ e => e.elim)).trans ?_
        refine (hg4.ext.mono (fun k _ hk => (Own.below ho hk).1)).trans ?_
        exact hE5.mono (fun _ _ e => by omega)
      · subst hw5; exact setBlk_same hb4
      · refine List.Perm.trans ?_ hperm
        have := hp2.append_right done
        refine List.Perm.trans ?_ this.symm
        simp only [hy1, List.cons_append]
        rw [← List.append_assoc]
        exact List.perm_append_singleton _ _
      · simp; omega
      · rw [rLeft_of hm5 hit5, rLeft_of hm hr]
        exact left_shrinks es seen e hel
end
end Go.Kg

set_option linter.unusedSimpArgs false
set_option linter.unusedVariables false
set_option linter.unusedSectionVars false
namespace Go.Kg
open Go
theorem regW_append {P : Program} {Q : (Nat → Value) → World → Prop} {l2 : List Ro} : ∀ (l1 : List Ro) (f : Nat → Value) (w : World), regW P Q (l1 ++ l2) f w = regW P (regW P Q l2) l1 f w
  | [], f, w => rfl
  | o :: r, f, w => by
    rw [List.cons_append, regW_cons, regW_cons]
    have e : ∀ f w, regW P Q (r ++ l2) f w = regW P (regW P Q l2) r f w := fun f w => regW_append r f w
    simp only [e]
/-- Tags.zzSame, its parts; body: what is done for each tag of a section that is not empty (never reached here) -/
def roSameT (E : Env) : List Ro :=
  let M := E.t_map_uint32_l_uint8
  [⟨(some (16, false)), some 17, .fieldAddr E.t_kmsg_Tags (.tmp 2) 0, E.tNil⟩, ⟨(some (16, false)), some 18, .load M (.tmp 17), M⟩,
          ⟨(some (16, false)), some 19, .call { callee := .builtin .len, args := #[.tmp 18], argTypes := #[M] }, E.tInt⟩,
          ⟨(some (16, false)), some 20, .fieldAddr E.t_kmsg_Tags (.tmp 3) 0, E.tNil⟩, ⟨(some (16, false)), some 21, .load M (.tmp 20), M⟩,
          ⟨(some (16, false)), some 22, .call { callee := .builtin .len, args := #[.tmp 21], argTypes := #[M] }, E.tInt⟩,
          ⟨(some (16, false)), some 23, .binOp .neq E.tInt (.tmp 19) (.tmp 22) E.tInt, E.tB⟩, ⟨none, some 24, .pick (.tmp 16) (.const (.bool true)) (.tmp 23), E.tB⟩]
def irSameT1 (E : Env) : Ir :=
  let M := E.t_map_uint32_l_uint8
  .reg ([⟨none, some 9, .fieldAddr E.t_kmsg_Tags (.tmp 2) 0, E.tNil⟩, ⟨none, some 10, .load M (.tmp 9), M⟩, ⟨none, some 11, .binOp .eql M (.tmp 10) (.const (.map none)) M, E.tB⟩,
          ⟨none, some 12, .fieldAddr E.t_kmsg_Tags (.tmp 3) 0, E.tNil⟩, ⟨none, some 13, .load M (.tmp 12), M⟩, ⟨none, some 14, .binOp .eql M (.tmp 13) (.const (.map none)) M, E.tB⟩,
          ⟨none, some 15, .binOp .neq E.tB (.tmp 11) (.tmp 14) E.tB, E.tB⟩, ⟨none, some 16, .move (.tmp 15), E.tB⟩] ++ roSameT E)
def irSameT2 (E : Env) (body : Ir) : Ir :=
  let M := E.t_map_uint32_l_uint8
  (.seq
    (.seq (.reg [⟨none, some 25, .fieldAddr E.t_kmsg_Tags (.tmp 2) 0, E.tNil⟩, ⟨none, some 26, .load M (.tmp 25), M⟩, ⟨none, some 27, .range M (.tmp 26), E.tNil⟩])
    (.block 0 (.loop (.seq (.reg [⟨none, some 28, .next (.tmp 27) false, E.tNil⟩, ⟨none, some 29, .extract (.tmp 28) 0, E.tB⟩]) (.seq (.cond 29 .skip (.exit 0)) (.block 1 body))))))
  (.seq (.reg [⟨none, some 4, .assign (.const (.bool true)), E.tB⟩]) .ret))
def irSameT (E : Env) (body : Ir) : Ir :=
  .seq (.reg [⟨none, some 2, .box E.t_kmsg_Tags (.tmp 0), E.tNil⟩, ⟨none, some 3, .box E.t_kmsg_Tags (.tmp 1), E.tNil⟩, ⟨none, some 4, .assign (.const (.bool false)), E.tB⟩])
  (.seq (.seq (irSameT1 E) (.cond 24 (.seq (.reg [⟨none, some 4, .assign (.const (.bool false)), E.tB⟩]) .ret) .skip)) (irSameT2 E body))
theorem run_range_nil {P : Program} {w : World} {t k e : Nat} (ht : P.underlying t = some (.map k e)) : (Instr.range t (.map none)).run P w = .ok (.pointer (some ⟨w.heap.size, 0, none⟩)) (w.alloc (.mapIter none 0 #[] 0)) := by
  simp [Instr.range, run_underlying ht, newObj, Sem.run]
theorem run_next_nil {P : Program} {w : World} {r s c : Nat} {seen : Array Nat} {ty : Nat} (h : w.heap[r]? = some (.mapIter none s seen c)) : (Instr.next (.pointer (some ⟨r, 0, none⟩)) false ty).run P w = .ok (.tuple #[.bool false]) w := by
  have hg : (getObj r).run P w = .ok (.mapIter none s seen c) w := by simp [getObj, Sem.run, h]
  simp [Instr.next, hg]
section
variable {P : Program} {E : Env}
theorem c_sameT (ht : TyTg P E) (uB : P.underlying E.tB = some .bool) {g nt : Nat} {body : Ir} (hI : FnIs P g nt [.t 4] (irSameT E body)) (hnt : 30 ≤ nt) {w : World} {K : Nat → Prop} {u : Value} {l : TagL} (hl : TagsAt w K u l) :
    Ret P g #[.agg #[u], .agg #[.map none]] w fun v w' => v = .bool l.isEmpty ∧ Ext none1 w w' := by
  refine hI.call (args := [_, _]) (by simp; omega) ?_
  simp [irSameT, show ∀ a : Array Value, (Value.agg a).cells = a from fun _ => rfl]
  generalize hw1 : w.alloc (.cells #[u] E.t_kmsg_Tags) = w1
  have hb1 : w1.heap[w.heap.size]? = some (.cells #[u] E.t_kmsg_Tags (0, 0)) := by subst hw1; exact alloc_new
  have hE1 : Ext none1 w w1 := by subst hw1; exact (Ext.refl _ _).alloc _
  have hs1 : w1.heap.size = w.heap.size + 1 := by subst hw1; simp
  generalize hw2 : w1.alloc (.cells #[.map none] E.t_kmsg_Tags) = w2
  have hb2 : w2.heap[w.heap.size + 1]? = some (.cells #[.map none] E.t_kmsg_Tags (0, 0)) := by subst hw2; rw [← hs1]; exact alloc_new
  have hE2 : Ext none1 w1 w2 := by subst hw2; exact (Ext.refl _ _).alloc _
  have c1 : w2.cell? ⟨w.heap.size, 0, none⟩ = some u := by rw [cell_of_blk (hE2.old hb1 (fun h => h))]; rfl
  have c2 : w2.cell? ⟨w.heap.size + 1, 0, none⟩ = some (.map none) := by rw [cell_of_blk hb2]; rfl
  have hE := hE1.trans hE2
  rcases hl with ⟨rfl, rfl⟩ | ⟨b, es, clock, rfl, _, hb, hs, hn, hlen, hx⟩
  · simp only [irSameT1, cw_reg, regW_append]
    simp [ht.g0, Addr.add_mk, ld_scl ht.kM, c1, c2, bin_nil_map ht.uM, bin_bool_neq uB]
    simp [roSameT, ht.g0, Addr.add_mk, ld_scl ht.kM, c1, c2, isM ht, mapLen?]
    refine cw_false (by simp) ?_
    simp [irSameT2, ht.g0, Addr.add_mk, ld_scl ht.kM, c1]
    rw [stepF_ok (v := .pointer (some ⟨w2.heap.size, 0, none⟩)) (w' := w2.alloc (.mapIter none 0 #[] 0)) (by simp [runF, execOp, run_range_nil ht.uM])]
    generalize hw3 : w2.alloc (.mapIter none 0 #[] 0) = w3
    have hE3 : Ext none1 w2 w3 := by subst hw3; exact (Ext.refl _ _).alloc _
    have hb3 : w3.heap[w2.heap.size]? = some (.mapIter none 0 #[] 0) := by subst hw3; exact alloc_new
    refine cw_loop (fun f w' => f 27 = .pointer (some ⟨w2.heap.size, 0, none⟩) ∧ w' = w3) (fun _ _ => 0) ⟨by simp, rfl⟩ ?_
    rintro f w' ⟨hf, rfl⟩
    simp
    rw [stepF_ok (v := .tuple #[.bool false]) (w' := w') (by simp [runF, execOp, hf, run_next_nil hb3])]
    simp
    refine cw_false (by simp) ?_
    simp
    exact hE.trans hE3
  · have hne : l.isEmpty = false := by cases l with | nil => exact absurd rfl hlen.2 | cons y l => rfl
    simp only [irSameT1, cw_reg, regW_append]
    simp [ht.g0, Addr.add_mk, ld_scl ht.kM, c1, c2, bin_nil_map ht.uM, bin_bool_neq uB]
    simp [roSameT, ht.g0, Addr.add_mk, ld_scl ht.kM, c1, c2, isM ht, mapLen?]
    refine cw_true (by simp) ?_
    simp [hne]
    exact hE
end
/-- prev && v.F == w.F -/
def roCmp (C : Cfg) (T ty k prev t : Nat) (op : Ro) : List Ro :=
  [⟨none, some t, .move (.tmp prev), C.E.tB⟩, ⟨some (t, true), some (t + 1), .fieldAddr T (.tmp 2) k, C.E.tNil⟩, ⟨some (t, true), some (t + 2), .load ty (.tmp (t + 1)), ty⟩, ⟨some (t, true), some (t + 3), .fieldAddr T (.tmp 3) k, C.E.tNil⟩, ⟨some (t, true), some (t + 4), .load ty (.tmp (t + 3)), ty⟩,
    op, ⟨none, some (t + 6), .pick (.tmp t) (.tmp (t + 5)) (.const (.bool false)), C.E.tB⟩]
def Sch.roSame (C : Cfg) (T sT : Nat) : Sch → Nat → Nat → List Ro × Nat
  | .prim _ k _ p _ _ rest, prev, t => (roCmp C T (p.ty C.E) k prev t ⟨some (t, true), some (t + 5), .binOp .eql (p.ty C.E) (.tmp (t + 2)) (.tmp (t + 4)) (p.ty C.E), C.E.tB⟩ ++ (rest.roSame C T sT (t + 6) (t + 7)).1, (rest.roSame C T sT (t + 6) (t + 7)).2)
  | .tags k _, prev, t => (roCmp C T C.E.t_kmsg_Tags k prev t ⟨some (t, true), some (t + 5), .call { callee := .value (.func sT), args := #[.tmp (t + 2), .tmp (t + 4)], argTypes := #[C.E.t_kmsg_Tags, C.E.t_kmsg_Tags] }, C.E.tB⟩, t + 6)
  | _, prev, t => ([], prev)
def irSameS (C : Cfg) (T sT : Nat) : Sch → Ir
  | .prim _ k _ p _ _ rest => .seq (.reg [⟨none, some 2, .box T (.tmp 0), C.E.tNil⟩, ⟨none, some 3, .box T (.tmp 1), C.E.tNil⟩, ⟨none, some 4, .assign (.const (.bool false)), C.E.tB⟩])
      (.seq (.reg ([⟨none, some 5, .fieldAddr T (.tmp 2) k, C.E.tNil⟩, ⟨none, some 6, .load (p.ty C.E) (.tmp 5), p.ty C.E⟩, ⟨none, some 7, .fieldAddr T (.tmp 3) k, C.E.tNil⟩, ⟨none, some 8, .load (p.ty C.E) (.tmp 7), p.ty C.E⟩, ⟨none, some 9, .binOp .eql (p.ty C.E) (.tmp 6) (.tmp 8) (p.ty C.E), C.E.tB⟩] ++
        ((rest.roSame C T sT 9 10).1 ++ [⟨none, some 4, .assign (.tmp (rest.roSame C T sT 9 10).2), C.E.tB⟩]))) .ret)
  | _ => .skip
def Sch.tySame (P : Program) (C : Cfg) (T : Nat) : Sch → Bool
  | .fin => true
  | .tags k o => fldOff P T k == some o && (match kindOf P C.E.t_kmsg_Tags with | .agg 1 => true | _ => false)
  | .prim _ k o p _ _ rest => p.eqS && fldOff P T k == some o && isScl (kindOf P (p.ty C.E)) && rest.tySame P C T
  | _ => false
theorem same_prim {P : Program} {w : World} {K : Nat → Prop} {p : Prim} {d : Int} {v : Value} {x : p.T} {cs ds : List Value} {o : Nat} {T : Nat} (he : p.eqS = true) (hs : seg cs o v.cells.toList) (h : p.rep1 w K v x) (hd : p.chkD ds o d = true) :
    cs[o]? = some v ∧ ∃ u, ds[o]? = some u ∧ ∀ y : Operand, bin? P .eql T y v u = some (.bool (p.isD d x)) := by
  have hone := rep1_one h
  have hpu : p ≠ .uuid := by rintro rfl; cases he
  rw [if_neg hpu] at hone
  have huc : v.cells = #[v] := by cases v <;> simp_all [Value.oneCell', Value.cells]
  refine ⟨by simpa using hs 0 v (by simp [huc]), ?_⟩
  cases p with
  | i8 => have h' : v = .int .i8 x := h; subst h'; exact ⟨_, isInt_spec hd, fun y => bin_eql⟩
  | i16 => have h' : v = .int .i16 x := h; subst h'; exact ⟨_, isInt_spec hd, fun y => bin_eql⟩
  | i32 => have h' : v = .int .i32 x := h; subst h'; exact ⟨_, isInt_spec hd, fun y => bin_eql⟩
  | i64 => have h' : v = .int .i64 x := h; subst h'; exact ⟨_, isInt_spec hd, fun y => bin_eql⟩
  | str =>
    have h' : v = strV x := h
    subst h'
    refine ⟨_, isEmpStr_spec hd, fun y => ?_⟩
    unfold strV
    rw [bin_seql, Go.ByteArray.toList_eq, Go.ByteArray.toList_eq]
    show some (Value.bool ((show List UInt8 from x) == [])) = _
    cases x <;> rfl
  | bool => cases he
  | u16 => cases he
  | uuid => cases he
  | nstr => cases he
  | bytes => cases he
  | nbytes => cases he
section
variable {P : Program} {C : Cfg} {sT : Nat} (hT : ∀ (w : World) (K : Nat → Prop) (u : Value) (l : TagL), TagsAt w K u l → Ret P sT #[.agg #[u], .agg #[.map none]] w fun v w' => v = .bool l.isEmpty ∧ Ext none1 w w')
include hT
theorem w_roSame {T b2 b3 : Nat} {cs ds : List Value} {K : Nat → Prop} : ∀ (S : Sch) (x : S.T) (prev t : Nat) (B : Bool) (f : Nat → Value) (w : World) (Q : (Nat → Value) → World → Prop), S.tySame P C T = true → S.Rep w K cs x → S.chkD ds = true → CellsAt w b2 0 cs → CellsAt w b3 0 ds →
    f 2 = .pointer (some ⟨b2, 0, none⟩) → f 3 = .pointer (some ⟨b3, 0, none⟩) → f prev = .bool B → 3 < t → prev < t →
    (∀ f' w', f' (S.roSame C T sT prev t).2 = .bool (B && S.isD x) → Ext none1 w w' → Q f' w') → regW P Q (S.roSame C T sT prev t).1 f w := by
  intro S
  induction S with
  | fin =>
    intro x prev t B f w Q _ _ _ _ _ _ _ hp _ _ h
    exact h f w (by simpa [Sch.roSame, Sch.isD] using hp) (Ext.refl _ _)
  | tags k o =>
    intro (l : TagL) prev t B f w Q hty hr hd hc2 hc3 h2 h3 hp ht0 hpt h
    simp only [Sch.tySame, Bool.and_eq_true, beq_iff_eq] at hty
    obtain ⟨u, hu, hl⟩ := hr
    have hdu := isNilMap_spec hd
    have hkT : kindOf P C.E.t_kmsg_Tags = .agg 1 := by
      have := hty.2
      split at this
      · assumption
      · cases this
    have e2 : ∀ n, (2 = t + n) = False := by intro n; simp; omega
    have e2' : (2 = t) = False := by simp; omega
    have e3 : ∀ n, (3 = t + n) = False := by intro n; simp; omega
    have e3' : (3 = t) = False := by simp; omega
    have ep : ∀ n, (prev = t + n) = False := by intro n; simp; omega
    have c2 : w.cell? ⟨b2, o, none⟩ = some u := by simpa using hc2 o u hu
    have c3 : w.cell? ⟨b3, o, none⟩ = some (.map none) := by simpa using hc3 o _ hdu
    simp only [Sch.roSame, roCmp, Sch.isD] at h ⊢
    rw [regW_plain, stp_move]
    simp only [evF_tmp, hp, updO]
    cases B with
    | false =>
      simp [wantedF, h2, h3, hty.1, Addr.add_mk, e2, e2', e3, e3']
      exact h _ w (by simp) (Ext.refl _ _)
    | true =>
      simp [wantedF, h2, h3, hty.1, Addr.add_mk, e2, e2', e3, e3', ld_agg hkT, cellsFrom, c2, c3]
      refine (hT w K u l hl).mono ?_
      rintro _ w' ⟨rfl, hE⟩
      exact h _ w' (by simp) hE
  | prim g k o p en d rest ih =>
    intro x prev t B f w Q hty hr hd hc2 hc3 h2 h3 hp ht0 hpt h
    obtain ⟨x, xr⟩ := x
    obtain ⟨⟨v, hv, hr1⟩, hrr⟩ := hr
    simp only [Sch.tySame, Bool.and_eq_true, beq_iff_eq] at hty
    simp only [Sch.chkD, Bool.and_eq_true] at hd
    obtain ⟨⟨⟨heq, hF⟩, hk⟩, htr⟩ := hty
    obtain ⟨hcv, u, hdu, hbin⟩ := same_prim (P := P) (T := p.ty C.E) heq hv hr1 hd.1
    have hk' := isScl_spec hk
    have e2 : ∀ n, (2 = t + n) = False := by intro n; simp; omega
    have e2' : (2 = t) = False := by simp; omega
    have e3 : ∀ n, (3 = t + n) = False := by intro n; simp; omega
    have e3' : (3 = t) = False := by simp; omega
    have z0 : (t = 0) = False := by simp; omega
    have z1 : (t = 1) = False := by simp; omega
    have z2 : (t = 2) = False := by simp; omega
    have c2 : w.cell? ⟨b2, o, none⟩ = some v := by simpa using hc2 o v hcv
    have c3 : w.cell? ⟨b3, o, none⟩ = some u := by simpa using hc3 o u hdu
    simp only [Sch.roSame] at h ⊢
    rw [regW_append]
    have next : ∀ f' : Nat → Value, f' 2 = f 2 → f' 3 = f 3 → f' (t + 6) = .bool (B && p.isD d x) → regW P Q (rest.roSame C T sT (t + 6) (t + 7)).1 f' w := by
      intro f' h2' h3' h6
      refine ih xr (t + 6) (t + 7) (B && p.isD d x) f' w Q htr hrr hd.2 hc2 hc3 (h2'.trans h2) (h3'.trans h3) h6 (by omega) (by omega) ?_
      intro f'' w'' hf'' hE
      refine h f'' w'' ?_ hE
      simpa [Sch.isD, Bool.and_assoc] using hf''
    rw [show roCmp C T (p.ty C.E) k prev t ⟨some (t, true), some (t + 5), .binOp .eql (p.ty C.E) (.tmp (t + 2)) (.tmp (t + 4)) (p.ty C.E), C.E.tB⟩ = ⟨none, some t, .move (.tmp prev), C.E.tB⟩ :: _ from rfl]
    rw [regW_plain, stp_move]
    simp only [evF_tmp, hp, updO]
    cases B with
    | false =>
      simp [wantedF, h2, h3, hF, Addr.add_mk, e2, e2', e3, e3']
      exact next _ (by simp [e2, e2', z0, z1, z2]) (by simp [e3, e3', z0, z1, z2]) (by simp)
    | true =>
      simp [wantedF, h2, h3, hF, Addr.add_mk, e2, e2', e3, e3', ld_scl hk', c2, c3, hbin]
      exact next _ (by simp [e2, e2', z0, z1, z2]) (by simp [e3, e3', z0, z1, z2]) (by simp)
  | arrP g k o sT' nul p rest ih => intro x prev t B f w Q hty; simp [Sch.tySame] at hty
  | arrS g k o sT' nul T' PT' sz df e rest ihe ih => intro x prev t B f w Q hty; simp [Sch.tySame] at hty
  | sub g k o T' PT' sz df e rest ihe ih => intro x prev t B f w Q hty; simp [Sch.tySame] at hty
  | opt g k o T' PT' PP sz df e rest ihe ih => intro x prev t B f w Q hty; simp [Sch.tySame] at hty
  | cus u => intro x prev t B f w Q hty; simp [Sch.tySame] at hty
/-- zzSame of a struct and what it is by default -/
theorem c_sameS {T g nt : Nat} {g0 : Gd} {k o en : Nat} {p : Prim} {d : Int} {rest : Sch} (hI : FnIs P g nt [.t 4] (irSameS C T sT (.prim g0 k o p en d rest))) (hnt : 10 ≤ nt) (hty : (Sch.prim g0 k o p en d rest).tySame P C T = true)
    {w : World} {K : Nat → Prop} {cs ds : Array Value} {x : (Sch.prim g0 k o p en d rest).T} (hr : (Sch.prim g0 k o p en d rest).Rep w K cs.toList x) (hd : (Sch.prim g0 k o p en d rest).chkD ds.toList = true) :
    Ret P g #[.agg cs, .agg ds] w fun v w' => v = .bool ((Sch.prim g0 k o p en d rest).isD x) ∧ Ext none1 w w' := by
  refine hI.call (args := [_, _]) (by simp; omega) ?_
  simp [irSameS, show ∀ a : Array Value, (Value.agg a).cells = a from fun _ => rfl]
  generalize hw1 : w.alloc (.cells cs T) = w1
  have hb1 : w1.heap[w.heap.size]? = some (.cells cs T (0, 0)) := by subst hw1; exact alloc_new
  have hE1 : Ext none1 w w1 := by subst hw1; exact (Ext.refl _ _).alloc _
  have hs1 : w1.heap.size = w.heap.size + 1 := by subst hw1; simp
  generalize hw2 : w1.alloc (.cells ds T) = w2
  have hb2 : w2.heap[w.heap.size + 1]? = some (.cells ds T (0, 0)) := by subst hw2; rw [← hs1]; exact alloc_new
  have hE2 : Ext none1 w1 w2 := by subst hw2; exact (Ext.refl _ _).alloc _
  have hE := hE1.trans hE2
  have hc1 : CellsAt w2 w.heap.size 0 cs.toList := by
    intro j u hj
    rw [cell_of_blk (hE2.old hb1 (fun h => h))]
    simpa using hj
  have hc2 : CellsAt w2 (w.heap.size + 1) 0 ds.toList := by
    intro j u hj
    rw [cell_of_blk hb2]
    simpa using hj
  have hr2 := Sch.Rep_ext hE (fun _ _ _ h => h) (.prim g0 k o p en d rest) hr
  obtain ⟨x, xr⟩ := x
  obtain ⟨⟨v, hv, hr1⟩, hrr⟩ := hr2
  simp only [Sch.tySame, Bool.and_eq_true, beq_iff_eq] at hty
  simp only [Sch.chkD, Bool.and_eq_true] at hd
  obtain ⟨⟨⟨heq, hF⟩, hk⟩, htr⟩ := hty
  obtain ⟨hcv, u, hdu, hbin⟩ := same_prim (P := P) (T := p.ty C.E) heq hv hr1 hd.1
  have hk' := isScl_spec hk
  have c2 : w2.cell? ⟨w.heap.size, o, none⟩ = some v := by simpa using hc1 o v hcv
  have c3 : w2.cell? ⟨w.heap.size + 1, o, none⟩ = some u := by simpa using hc2 o u hdu
  simp [hF, Addr.add_mk, ld_scl hk', c2, c3, hbin]
  rw [regW_append]
  refine w_roSame hT rest xr 9 10 (p.isD d x) _ w2 _ htr hrr hd.2 hc1 hc2 (by simp) (by simp) (by simp) (by omega) (by omega) ?_
  intro f' w' hf' hE'
  simp [hf', Sch.isD]
  exact hE.trans hE'
end
end Go.Kg

set_option linter.unusedSimpArgs false
set_option linter.unusedVariables false
set_option linter.unusedSectionVars false
namespace Go.Kg
open Go
end Go.Kg

set_option linter.unusedSimpArgs false
set_option linter.unusedVariables false
namespace Go.Kg
open Go
section
variable {P : Program} {E : Env}
end
end Go.Kg

set_option linter.unusedSimpArgs false
set_option linter.unusedVariables false
namespace Go.Kg
open Go
section
variable {P : Program} {C : Cfg}
theorem primW_i8 (h : ∀ n : Int, WrC P C.E.tU8 C.E.f_kbin_AppendInt8 [.int .i8 n] [bval n]) : PrimW P C .i8 := by
  intro fl _ x u w base v s hp
  have : u = .int .i8 x := hp
  subst this
  exact h x w base v s
theorem primW_i32 (h : ∀ n : Int, WrC P C.E.tU8 C.E.f_kbin_AppendInt32 [.int .i32 n] (bigE 4 (n % 4294967296).toNat)) : PrimW P C .i32 := by
  intro fl _ x u w base v s hp
  have : u = .int .i32 x := hp
  subst this
  exact h x w base v s
theorem primW_i64 (h : ∀ n : Int, WrC P C.E.tU8 C.E.f_kbin_AppendInt64 [.int .i64 n] (bigE 8 (n % 18446744073709551616).toNat)) : PrimW P C .i64 := by
  intro fl _ x u w base v s hp
  have : u = .int .i64 x := hp
  subst this
  exact h x w base v s
theorem primW_uuid (h : ∀ l : List UInt8, l.length = 16 → WrC P C.E.tU8 C.E.f_kbin_AppendUuid [.agg (cellsOf l).toArray] l) : PrimW P C .uuid := by
  intro fl _ x u w base v s hp
  obtain ⟨rfl, hl⟩ := hp
  exact h x hl w base v s
theorem primW_str (h : ∀ l, WrC P C.E.tU8 C.E.f_kbin_AppendString [strV l] (wStr l)) (hc : C.fx = true → ∀ l, WrC P C.E.tU8 C.E.f_kbin_AppendCompactString [strV l] (wCStr l)) : PrimW P C .str := by
  intro fl hfl x u w base v s hp
  have : u = strV x := hp
  subst this
  cases fl
  · exact h x w base v s
  · exact hc (hfl rfl) x w base v s
theorem primW_nstr (h : ∀ o u, WrP P C.E.tU8 C.E.f_kbin_AppendNullableString (fun w base => StrPtr w (· < base) u o) [u] (wNStr o))
    (hc : C.fx = true → ∀ o u, WrP P C.E.tU8 C.E.f_kbin_AppendCompactNullableString (fun w base => StrPtr w (· < base) u o) [u] (wCNStr o)) : PrimW P C .nstr := by
  intro fl hfl x u
  cases fl
  · exact h x u
  · exact hc (hfl rfl) x u
theorem lenWC_none (h : ∀ n : Nat, WrC P C.E.tU8 C.E.f_kbin_AppendArrayLen [.int .i64 n] (wLen n)) (hc : C.fx = true → ∀ n : Nat, WrC P C.E.tU8 C.E.f_kbin_AppendCompactArrayLen [.int .i64 n] (wCLen n)) : LenWC P C none := by
  intro fl hfl n b
  cases fl
  · exact h n
  · exact hc (hfl rfl) n
end
end Go.Kg

set_option linter.unusedSimpArgs false
set_option linter.unusedVariables false
namespace Go.Kg
open Go Go.ChangeShapes Go.WideShapes Go.ChangeAt Go.RowKit
theorem FnIs.of {P : Program} {g N : Nat} {rs : List Rv} {ir : Ir} {fn : Func} (hm : P.follows .mixedOrders = true) (h1 : P.funcs[g]? = some fn) (h2 : fn.body.bind (erase N) = some ir) (h3 : fn.ntmps = N)
    (h4 : fn.results = (rs.map Rv.var).toArray) (h5 : (fn.name == "runtime.NumGoroutine") = false) : FnIs P g N rs ir := by
  refine ⟨hm, ?_⟩
  cases hb : fn.body with
  | none => rw [hb] at h2; cases h2
  | some c => rw [hb] at h2; exact ⟨fn, c, h1, hb, h3, h4, h5, h2⟩
theorem sli_of {P : Program} {t e s bytes : Nat} {z : Value} (hu : P.underlying t = some (.slice e)) (hi : (P.info? e).map (fun i => (i.zero, i.size, i.bytes)) = some (some z, s, bytes)) (hz : z.cells.size = s) : SliI P t e s bytes z := by
  refine ⟨hu, ?_, hz⟩
  cases h : P.info? e with
  | none => rw [h] at hi; cases hi
  | some i => rw [h] at hi; simp at hi; exact ⟨i, rfl, hi.1, hi.2.1, hi.2.2⟩
theorem ext_kept {w w' : World} (h : Ext none1 w w') (may : MemPlace → Prop) : w.keptBut w' may := by
  refine ⟨h.os, h.output, fun i hi => ?_⟩
  rw [h.block i hi (fun h => h)]
  have : ∃ o, w.heap[i]? = some o := ⟨_, Array.getElem?_eq_getElem hi⟩
  obtain ⟨o, ho⟩ := this
  rw [ho]
  cases o <;> simp
theorem ext_frozen {w w' : World} (h : Ext none1 w w') (a : Addr) (ha : a.block < w.heap.size) : w'.frozen? a = w.frozen? a := by
  simp only [World.frozen?, h.block a.block ha (fun h => h)]
theorem post_of_ext {H : Type} {enc : TypeId × Value → H} {P : Program} {f : Func} {s : ChangeSpec} {apart fresh handsOn again : Bool} {W W' : World} {args : Array Value} {v : Value} {ds gs : List (DataW H)} {before pa pv : List MemPlace}
    (hW : DataW.Whole enc P f.params.toList s.vars apart W args.toList ds gs before)
    (hres : ∀ (b : Nat) (sp : Nat → Bool) (hd : Bool), DataW.TrodAll enc P W' b sp hd f.resultTypes.toList (v.resultList f.resultTypes.size) (s.fn H (ds ++ gs)).results [])
    (hargs : ∀ sp : Nat → Bool, (∀ p ∈ before, sp p.block = true) → DataW.TrodAll enc P W' 0 sp true f.params.toList args.toList (s.fn H (ds ++ gs)).args pa)
    (hvars : ∀ sp : Nat → Bool, (∀ p ∈ before, sp p.block = true) → DataW.TrodVars enc P W' sp s.vars (s.fn H (ds ++ gs)).vars pv)
    (hps : before = pa ++ pv) (he : Ext none1 W W')
    (hok : ∀ (j : Nat) (t : TypeId) (r : Value), f.resultTypes[j]? = some t → (v.resultList f.resultTypes.size)[j]? = some r → Value.okWide P W' .any 0 t r) :
    s.post enc P f apart fresh handsOn again W args v W' := by
  have hold : ∀ p ∈ before, (fun b => decide (b < W.heap.size)) p.block = true := fun p hp => by simpa using hW.lt p hp
  have hlt := hW.lt
  refine ⟨ds, gs, before, [], pa, pv, hW, hres _ _ _, hargs _ hold, hvars _ hold, World.keptBut_mono (fun p hp => ⟨hp, ?_⟩) (ext_kept he (· ∈ before)), fun _ => ?_⟩
  · rw [hps, List.mem_append] at hp
    exact Or.inr hp
  · obtain ⟨_, _, _, _, _, hz, hn⟩ := hW
    refine ⟨hok, _, _, ([] ++ pa) ++ pv, ⟨[] ++ pa, pv, trodAll_append (hargs _ (fun _ _ => rfl)) (hres _ _ _), hvars _ (fun _ _ => rfl), rfl, ?_, ?_⟩, ?_⟩
    · intro b off hp
      have hp' : MemPlace.cell b off ∈ before := by rw [hps]; simpa using hp
      rw [ext_frozen he _ (hlt _ hp')]
      exact hz b off hp'
    · intro ha
      have := hn ha
      rw [hps] at this
      simpa using this
    · intro p hp _
      rw [hps]
      simpa using hp
end Go.Kg

set_option linter.unusedSimpArgs false
set_option linter.unusedVariables false
namespace Go.Kg
open Go Go.ChangeShapes Go.WideShapes Go.ChangeAt Go.RowKit
/-- an argument reads behind the call as it did -/
theorem ext_trod {H : Type} {enc : TypeId × Value → H} {P : Program} {t : TypeId} (hl : laidOutB P = true) (hr : P.readableRec t = true) (hrow : t < P.types.size) {W W' : World} {v : Value} {d : DataW H} {ps : List MemPlace}
    (h : DataW.Trod enc P W 0 (fun _ => true) true t v d ps) (he : Ext none1 W W') (hlt : ∀ x ∈ ps, x.block < W.heap.size) {sp : Nat → Bool} (hs : ∀ p ∈ ps, sp p.block = true) : DataW.Trod enc P W' 0 sp true t v d ps := by
  have hb : Below W.heap.size W W' := ⟨he.os, he.tape, he.output, he.size, fun k hk => he.block k hk (fun h => h)⟩
  exact WideElems.Trod_stays hl hr hrow h (fun x hx => hb.same (hlt x hx)) hs
/-- bytes -/
theorem open_bytesAt {H : Type} {enc : TypeId × Value → H} {P : Program} {t e : TypeId} (ht : P.underlying t = some (.slice e)) (he : P.underlying e = some (.int .u8)) (hc : P.cellsOf e = 1) {W : World} {base : Nat} {v : Value} {d : DataW H} {ps : List MemPlace}
    (hval : Value.okWide P W .any base t v) (h : DataW.Trod enc P W 0 (fun _ => true) true t v d ps) : ∃ s, BytesAt W All v s := by
  obtain ⟨n, hn⟩ := h
  have hsp : ∀ a len cap, v = .slice (some a) len cap → a.spot = none := by
    rintro a len cap rfl
    simp only [Value.okWide, ht, Cell.okWide, Cell.ok] at hval
    exact hval.2.2.2.1
  obtain ⟨a0, l0, c0, rfl⟩ := okWide_slice ht hval
  have hcs : (Value.slice a0 l0 c0).cells.toList = [.slice a0 l0 c0] := rfl
  rw [hcs] at hn
  rcases open_ints ht he hc hn with ⟨h1, _⟩ | ⟨a, len, cap, zs, h1, hb, hl, hm, hzl, hx, hcell, hwf⟩
  · cases h1
    exact ⟨[], .inl ⟨⟨_, rfl⟩, rfl⟩⟩
  · cases h1
    have hs := hsp a l0 c0 rfl
    obtain ⟨ab, ao, sp⟩ := a
    simp only at hs
    subst hs
    simp only [if_true] at hzl
    have hlen : (zs.take l0).length = l0 := by simp; omega
    refine ⟨(zs.take l0).map fun z => UInt8.ofNat z.toNat, .inr ⟨ab, ao, c0, by rw [List.length_map, hlen], by rw [List.length_map, hlen]; exact hl, fun _ => trivial, fun i x hx => ?_⟩⟩
    rw [List.getElem?_map, Option.map_eq_some_iff] at hx
    obtain ⟨z, hz, rfl⟩ := hx
    rw [List.getElem?_take] at hz
    split at hz
    · obtain ⟨hi, hzz⟩ := List.getElem?_eq_some_iff.1 hz
      have hc1 := hcell i hi
      rw [Addr.add_mk, List.getD_eq_getElem?_getD, hz] at hc1
      have hw := hwf z (List.mem_of_getElem? hz)
      simp [Lit.wf, IntKind.min, IntKind.max, IntKind.signed, IntKind.bits] at hw
      rw [hc1]
      simp
      omega
    · cases hz
end Go.Kg

set_option linter.unusedSimpArgs false
set_option linter.unusedVariables false
namespace Go.Kg
open Go Go.ChangeShapes Go.WideShapes Go.ChangeAt Go.RowKit
mutual
def Tr.sz : Tr → Nat
  | .mk _ s _ l u => 1 + s.length + Tr.szL l + (u.map fun x => 1 + x.2.length).sum
def Tr.szL : List Tr → Nat
  | [] => 0
  | t :: l => t.sz + Tr.szL l
end
end Go.Kg

set_option linter.unusedSimpArgs false
set_option linter.unusedVariables false
set_option linter.unusedSectionVars false
namespace Go.Kg
open Go
end Go.Kg

set_option linter.unusedSimpArgs false
set_option linter.unusedVariables false
set_option linter.unusedSectionVars false
namespace Go.Kg
open Go
end Go.Kg

set_option linter.unusedSimpArgs false
set_option linter.unusedVariables false
set_option linter.unusedSectionVars false
namespace Go.Kg
open Go
end Go.Kg

set_option linter.unusedSimpArgs false
set_option linter.unusedVariables false
set_option linter.unusedSectionVars false
namespace Go.Kg
open Go
end Go.Kg

set_option linter.unusedSimpArgs false
set_option linter.unusedVariables false
set_option linter.unusedSectionVars false
namespace Go.Kg
open Go
section
variable {P : Program} {E : Env} (ht : TyK P E) (hs : SpecFns P E)
include ht hs
end
end Go.Kg

set_option linter.unusedSimpArgs false
set_option linter.unusedVariables false
set_option linter.unusedSectionVars false
namespace Go.Kg
open Go
section
variable {P : Program} {E : Env} (ht : TyK P E) (hs : SpecFns P E)
include ht hs
end
end Go.Kg

set_option linter.unusedSimpArgs false
set_option linter.unusedVariables false
set_option linter.unusedSectionVars false
namespace Go.Kg
open Go
section
variable {P : Program} {E : Env} (ht : TyK P E) (hs : SpecFns P E)
include ht hs
end
end Go.Kg

set_option linter.unusedSimpArgs false
set_option linter.unusedVariables false
set_option linter.unusedSectionVars false
namespace Go.Kg
open Go
section
variable {P : Program} {E : Env} (ht : TyK P E) (hs : SpecFns P E)
include ht hs
end
end Go.Kg

set_option linter.unusedSimpArgs false
set_option linter.unusedVariables false
set_option linter.unusedSectionVars false
namespace Go.Kg
open Go
section
variable {P : Program} {C : Cfg} {ok : TagL → Prop}
end
/-- a part of a text -/
def Ir.rt : Ir → Ir
  | .seq _ b => b
  | c => c
def Ir.lt : Ir → Ir
  | .seq a _ => a
  | c => c
def Ir.inn : Ir → Ir
  | .block _ c => c
  | .loop c => c
  | c => c
end Go.Kg

set_option linter.unusedSimpArgs false
set_option linter.unusedVariables false
namespace Go.Kg
open Go
/-- the contract of the literal in AppendEach -/
def AE1C (P : Program) (E : Env) : Prop := ∀ {base bd : Nat} {w0 w : World} {v0 v val : Value} {prot : Nat → Prop} {s : List UInt8} {x : Nat × List UInt8} {K : Nat → Prop},
    DstAt E base bd w0 v0 prot s w v → w0.heap.size ≤ bd → base ≤ w0.heap.size → ¬ prot bd → ¬ own1 v bd → x.1 < 4294967296 → x.2.length < 4294967296 → BytesAt w K val x.2 → (∀ k, K k → k < base) → s.length + (tagW x).length ≤ 1099511627776 →
    Ret P E.f_pkmsg_Tags_AppendEach_1 #[.int .u32 x.1, val, .pointer (some ⟨bd, 0, none⟩)] w fun _ w' => ∃ v', DstAt E base bd w0 v0 prot (s ++ tagW x) w' v' ∧ ¬ own1 v' bd ∧ ∀ k, prot k → w'.heap[k]? = w.heap[k]?
/-- while the tags are written -/
structure OutI (E : Env) (base bd n0 n1 : Nat) (w0 : World) (v0 : Value) (s : List UInt8) (l : TagL) (pt fn ov : Value) (w5 : World) (f : Nat → Value) (w : World) (i : Nat) : Prop where
  f0 : f 0 = pt
  f1 : f 1 = fn
  f37 : f 37 = ov
  f38 : f 38 = .int .i64 l.length
  f39 : f 39 = .int .i64 i
  il : i ≤ l.length
  st : ∃ v, DstAt E base bd w0 v0 (fun k => n0 ≤ k ∧ k < n1) (s ++ ((sortTags l).take i).flatMap tagW) w v ∧ ¬ own1 v bd
  same : ∀ k, n0 ≤ k → k < n1 → w.heap[k]? = w5.heap[k]?
theorem stp_callF {P : Program} {f : Nat → Value} {ty : TypeId} {w : World} {K : Value → World → Prop} {t g : Nat} {xs : Array Operand} {ts : Array TypeId} {first cap : Array Value} (h : f t = .func (.func g) first cap) :
    stp P f (.call { callee := .value (.tmp t), args := xs, argTypes := ts }) ty w K = Ret P g (first ++ xs.map (evF f) ++ cap) w K := by simp only [stp, callK, h]
theorem keys_back : ∀ (L : List Value), (∀ v ∈ L, ∃ x : Nat, v = .int .u32 x) → L = (L.map fun v => match v with | .int _ n => n.toNat | _ => 0).map fun x : Nat => Value.int .u32 x
  | [], _ => rfl
  | v :: L, h => by
    obtain ⟨x, rfl⟩ := h v (List.mem_cons_self ..)
    simp only [List.map_cons, Int.toNat_natCast]
    rw [← keys_back L (fun v hv => h v (List.mem_cons_of_mem _ hv))]
theorem flat_le {α : Type} (g : α → List UInt8) : ∀ (l : List α) (i : Nat), ((l.take i).flatMap g).length ≤ (l.flatMap g).length
  | [], i => by simp
  | a :: l, 0 => by simp
  | a :: l, i + 1 => by have := flat_le g l i; simp only [List.take_succ_cons, List.flatMap_cons, List.length_append]; omega
section
variable {P : Program} {E : Env} (ht : TyTg P E)
include ht
set_option maxHeartbeats 4000000 in
theorem c_EachT (kS : kindOf P E.t_l_uint32 = .scl) (k32 : kindOf P E.tU32 = .scl) (hS : SliI P E.t_l_uint32 E.tU32 1 4 (.int .u32 0)) (hi : intKind? P E.tU32 = some .u32) (hu : P.underlying E.tU32 = some (.int .u32)) (hi' : intKind? P E.tInt = some .i64) (hzS : zeroOf P E.t_l_uint32 = some (.slice none 0 0))
    (hI : FnIs P E.f_pkmsg_Tags_Each nt_pkmsg_Tags_Each (rs_pkmsg_Tags_Each E) (ir_pkmsg_Tags_Each E)) (hA : AE1C P E) (hSo : SortC P E)
    {base bd : Nat} {w0 w : World} {v0 v : Value} {s s0 : List UInt8} {b o : Nat} {u : Value} {l : TagL}
    (hD : DstAt E base bd w0 v0 (fun _ => False) s w v) (hbd : w0.heap.size ≤ bd) (hb0 : base ≤ w0.heap.size) (hnb : ¬ own1 v bd) (ho0 : OwnB E.tU8 w0 base v0 s0)
    (hb : ¬ own1 v0 b) (hc : w0.cell? ⟨b, o, none⟩ = some u) (hl : TagsAt w0 (· < base) u l) (hok : tagsOk l) (hne : l ≠ []) (hsz : s.length + (tagsOut l).length ≤ 1099511627776) :
    Ret P E.f_pkmsg_Tags_Each #[.pointer (some ⟨b, o, none⟩), .func (.func E.f_pkmsg_Tags_AppendEach_1) #[] #[.pointer (some ⟨bd, 0, none⟩)]] w fun _ w' => ∃ v', DstAt E base bd w0 v0 (fun _ => False) (s ++ tagsOut l) w' v' := by
  obtain ⟨hcw, hlw⟩ := hD.tags ho0 hb hc hl
  have hpos : 0 < l.length := List.length_pos_iff.2 hne
  rcases tagsAt_iff.1 hlw with ⟨_, h⟩ | ⟨m, es, clock, rfl, hm, hmb, he, hnd, hnb', hlen⟩
  · exact absurd h hne
  have hesl : es.size = l.length := by simpa using he.get.1
  have hbdlt := lt_of_heap hD.cell
  have hwsz := hD.grew.ext.size
  refine hI.call (args := [_, _]) (by simp [nt_pkmsg_Tags_Each]) ?_
  have hm1 : (mapLen? w (some m)) = some (.int .i64 es.size) := by simp [mapLen?, hmb]
  simp [ir_pkmsg_Tags_Each, rs_pkmsg_Tags_Each, ht.g0, Addr.add_mk, ld_scl ht.kM, hcw, isM ht, hm1]
  have hes0 : es ≠ #[] := by rintro rfl; simp at hesl; omega
  refine cw_false (by simp [hes0]) ?_
  simp [ht.g0, Addr.add_mk, ld_scl ht.kM, hcw, isM ht, hm1]
  obtain ⟨ii, hinf, hzi, hsi, hbi⟩ := hS.inf
  obtain ⟨w1, hmk, how1, hg1⟩ := run_make_own (P := P) w w.heap.size E.t_l_uint32 E.tU32 ii _ 1 hS.und hinf hzi hsi .i64 .i64 es.size (by rw [hbi]; have := hok.1; omega) (by have := hok.1; simp [maxLen]; omega) (Nat.le_refl _)
  rw [stepF_ok (v := .slice (some ⟨w.heap.size, 0, none⟩) 0 es.size) (w' := w1) (by simp [runF, execOp, hmk])]
  have hE1 : Ext none1 w w1 := ⟨hg1.os, hg1.tape, hg1.output, hg1.size, fun k hk _ => hg1.block k hk (by simp)⟩
  have ho1 : Own w1 w.heap.size E.tU32 1 (.slice (some ⟨w.heap.size, 0, none⟩) 0 es.size) [] := ⟨0, how1⟩
  have hlt1 : w.heap.size < w1.heap.size := (Own.below ho1 (b := w.heap.size) rfl).2
  simp [hzS, Value.cells, store_scl kS, put1K_blk alloc_new]
  generalize hw2 : (w1.alloc (.cells #[.slice none 0 0] E.t_l_uint32)).setBlk w1.heap.size (.cells #[.slice (some ⟨w.heap.size, 0, none⟩) 0 es.size] E.t_l_uint32 (0, 0)) = w2
  have hE2 : Ext none1 w1 w2 := by subst hw2; exact ((Ext.refl _ w1).alloc _).setBlk (Or.inl (Nat.le_refl _)) _
  have hs2 : w2.heap.size = w1.heap.size + 1 := by subst hw2; simp
  have hb2 : w2.heap[w1.heap.size]? = some (.cells #[.slice (some ⟨w.heap.size, 0, none⟩) 0 es.size] E.t_l_uint32 (0, 0)) := by subst hw2; exact setBlk_same alloc_new
  have hE02 : Ext none1 w w2 := hE1.trans hE2
  have hcw2 : w2.cell? ⟨b, o, none⟩ = some (.map (some m)) := hE02.cell hcw (fun h => h)
  have hm2 : w2.heap[m]? = some (.map es clock) := hE02.old hmb (fun h => h)
  refine ⟨rfl, ?_⟩
  simp [ht.g0, Addr.add_mk, ld_scl ht.kM, hcw2]
  rw [stepF_ok (v := .pointer (some ⟨w2.heap.size, 0, none⟩)) (w' := w2.alloc (.mapIter (some m) clock #[] clock)) (by simp [runF, execOp, run_range_map w2 _ _ _ m es clock ht.uM hm2])]
  generalize hw3 : w2.alloc (.mapIter (some m) clock #[] clock) = w3
  have hE3 : Ext none1 w2 w3 := by subst hw3; exact (Ext.refl _ w2).alloc _
  have hs3 : w3.heap.size = w2.heap.size + 1 := by subst hw3; simp
  have hi3 : w3.heap[w2.heap.size]? = some (.mapIter (some m) clock #[] clock) := by subst hw3; exact alloc_new
  have hE03 : Ext none1 w w3 := hE02.trans hE3
  have hm3 : w3.heap[m]? = some (.map es clock) := hE03.old hmb (fun h => h)
  refine cw_loop (fun f w' => RngI E base bd w.heap.size w0 v0 s v w2.heap.size w1.heap.size m es clock (.pointer (some ⟨b, o, none⟩)) (.func (.func E.f_pkmsg_Tags_AppendEach_1) #[] #[.pointer (some ⟨bd, 0, none⟩)]) w f w') (fun _ w' => rLeft w' m w2.heap.size) ?_ ?_
  · refine ⟨hE03.mono (fun _ _ h => h.elim), by simp, by simp, by simp, by simp, #[], clock, _, [], hi3, Nat.le_refl _, hE3.old hb2 (fun h => h), Own.ext (Own.ext ho1 hE2 (fun _ _ h => h)) hE3 (fun _ _ h => h), ?_, ?_, by simp⟩
    · intro k hk
      have := (Own.below ho1 hk)
      have : k = w.heap.size := by cases hk; rfl
      omega
    · have : (es.toList.filter fun x : MapEntry => !(#[] : Array Nat).contains x.born) = es.toList := by rw [List.filter_eq_self]; intro x _; simp
      rw [this]; simp
  · intro f3 w4 hR
    have hsz4 := hR.ext.size
    have hm4 : w4.heap[m]? = some (.map es clock) := hR.ext.old hmb (by omega)
    have he4 : EL w4 (· < base) clock es.toList l := by
      have := tagsAt_iff.1 ((hlw.ext (C := fun x => w.heap.size ≤ x) hR.ext (fun b _ hb h => by omega)))
      rcases this with ⟨h, _⟩ | ⟨m', es', clock', h, _, hb', he', _⟩
      · cases h
      · cases h
        rw [hm4] at hb'; cases hb'; exact he'
    have hit4 : w2.heap.size < w4.heap.size := by
      obtain ⟨_, _, _, _, h, _⟩ := hR.st
      exact lt_of_heap h
    refine c_round ht (base := base) (bd := bd) (v0 := v0) (v := v) (s := s) kS hS hi hR hm4 he4 hnb' (by have := hok.1; omega) ⟨by omega, hit4⟩ ⟨by omega, by omega⟩ (by omega) (by omega) ?_ ?_
    · rintro f4 w4 rfl hk _ ⟨seen', c0', hr', h0⟩
      obtain ⟨seen, c0, ov, done, hr, hc0, hbo, ho, hoff, hperm, hdl⟩ := hR.st
      rw [hr] at hr'
      cases hr'
      have hseen := all_seen es seen' h0
      have hfil : (es.toList.filter fun x => !seen'.contains x.born) = [] := by
        rw [List.filter_eq_nil_iff]; intro x hx; have := hseen x hx; simp at this; simp [this]
      rw [hfil] at hperm
      simp only [List.map_nil, List.nil_append, he4.keys] at hperm
      obtain ⟨d, hd, hdp⟩ : ∃ d : List Nat, done = d.map (fun x : Nat => Value.int .u32 x) ∧ d.Perm (l.map (·.1)) := by
        refine ⟨done.map fun v => match v with | .int _ n => n.toNat | _ => 0, ?_, ?_⟩
        · refine keys_back done fun v hv => ?_
          obtain ⟨x, _, rfl⟩ := List.mem_map.1 (hperm.mem_iff.1 hv)
          exact ⟨x.1, rfl⟩
        · refine (hperm.map _).trans ?_
          rw [List.map_map]
          exact List.Perm.of_eq (List.map_congr_left fun x _ => by simp)
      have hdl' : d.length = l.length := by rw [hdp.length_eq]; simp
      obtain ⟨n, hnl, hov⟩ := ho
      have hn : n = l.length := by rw [hd] at hnl; simp at hnl; omega
      rcases hov with ⟨_, h⟩ | ⟨g, cap, cur, rfl, hg, hgb, hncap, hcm, hcs, htake⟩
      · omega
      have hgo := hoff g rfl
      have hgo' : w.heap.size ≤ g := hg
      have hglt := lt_of_heap hgb
      have cbp : w4.cell? ⟨w1.heap.size, 0, none⟩ = some (.slice (some ⟨g, 0, none⟩) n cap) := by rw [cell_of_blk hbo]; rfl
      have k4 : f4 4 = .pointer (some ⟨w1.heap.size, 0, none⟩) := (hk 4 (by omega) (by omega)).trans hR.f4
      have k0 : f4 0 = _ := (hk 0 (by omega) (by omega)).trans hR.f0
      have k1 : f4 1 = _ := (hk 1 (by omega) (by omega)).trans hR.f1
      simp [k4, ld_scl kS, cbp]
      rw [stepF_ok (v := .iface E.t_l_uint32 (.slice (some ⟨g, 0, none⟩) n cap)) (w' := w4) (by simp [runF, execOp, Instr.makeInterface, run_underlying hS.und])]
      have hrow : ∀ (i x : Nat), d[i]? = some x → cur[i]? = some (Value.int .u32 (x : Int)) := by
        intro i x hx
        have h1 : (cur.toList.take (n * 1))[i]? = some (Value.int .u32 (x : Int)) := by rw [htake, hd, List.getElem?_map, hx]; rfl
        rw [List.getElem?_take] at h1
        split at h1
        · simpa using h1
        · cases h1
      have hS5 := hSo w4 w1.heap.size g cap d cur (by rw [cbp, hn, hdl']) (by omega) hgb hrow (by omega) (by rw [hdl']; exact hlen.1)
      rw [hdl', ← hn] at hS5
      refine hS5.mono ?_
      rintro _ w5 ⟨d', hd'p, hd's, hE5, hd'c⟩
      have hd'e := sorted_keys hnd (hd'p.trans hdp) hd's
      have hs5 := hE5.size
      have hbp5 : w5.heap[w1.heap.size]? = some (.cells #[.slice (some ⟨g, 0, none⟩) n cap] E.t_l_uint32 (0, 0)) := hE5.old hbo (by omega)
      have cbp5 : w5.cell? ⟨w1.heap.size, 0, none⟩ = some (.slice (some ⟨g, 0, none⟩) n cap) := by rw [cell_of_blk hbp5]; rfl
      simp [k4, ld_scl kS, cbp5, len_slice hS.und]
      have hE05 : Ext (fun x => w.heap.size ≤ x) w w5 := hR.ext.trans (hE5.mono (fun _ _ e => by omega))
      have hD5 := hD.ext hE05 (by omega) (fun k hk => (Own.below hD.own hk).2) hD.grew.size
      refine cw_loop (fun f w' => ∃ i, OutI E base bd w.heap.size w5.heap.size w0 v0 s l (.pointer (some ⟨b, o, none⟩)) (.func (.func E.f_pkmsg_Tags_AppendEach_1) #[] #[.pointer (some ⟨bd, 0, none⟩)]) (.slice (some ⟨g, 0, none⟩) n cap) w5 f w' i) (fun f _ => match f 39 with | .int _ i => l.length - i.toNat | _ => 0) ?_ ?_
      · exact ⟨0, by simp [k0], by simp [k1], by simp, by simp [hn], by simp, by omega, ⟨v, by simpa using hD5, hnb⟩, fun _ _ _ => rfl⟩
      · rintro f6 w6 ⟨i, hO⟩
        obtain ⟨v6, hD6, hn6⟩ := hO.st
        simp [hO.f38, hO.f39]
        by_cases hil : i < l.length
        · refine cw_true (by simp [hil]) ?_
          obtain ⟨x, hx⟩ : ∃ x, (sortTags l)[i]? = some x := ⟨_, List.getElem?_eq_getElem (by rw [sortTags_len]; exact hil)⟩
          have hxl : x ∈ l := (sortTags_mem l x).1 (List.mem_of_getElem? hx)
          have hcell : w6.cell? ⟨g, i, none⟩ = some (.int .u32 x.1) := by
            rw [World.cell?_of_block (a := ⟨g, i, none⟩) (hO.same g hgo' (by omega))]
            refine hd'c i x.1 ?_
            rw [hd'e, List.getElem?_map, hx]; rfl
          obtain ⟨hcw6, hlw6⟩ := hD6.tags ho0 hb hc hl
          rcases tagsAt_iff.1 hlw6 with ⟨h, _⟩ | ⟨m', es', clock', h, _, hb6, he6, hnd6, _⟩
          · cases h
          cases h
          obtain ⟨hx32, j, val, hfind, hval⟩ := he6.find 0 hnd6 x hxl
          have hxb := hok.2.2 x hxl
          have htk : (sortTags l).take (i + 1) = (sortTags l).take i ++ [x] := by rw [List.take_add_one, hx]; rfl
          have hszx : (s ++ ((sortTags l).take i).flatMap tagW).length + (tagW x).length ≤ 1099511627776 := by
            have := flat_le tagW (sortTags l) (i + 1)
            rw [htk] at this
            have e : tagsOut l = (sortTags l).flatMap tagW := rfl
            rw [e] at hsz
            simp only [List.flatMap_append, List.flatMap_cons, List.flatMap_nil, List.append_nil, List.length_append] at this ⊢
            omega
          have hidx := idx_of (P := P) (T := E.t_l_uint32) hS.siz (p := ⟨g, 0, none⟩) (n := n) (c := cap) (k := .i64) (i := i) (by omega)
          simp [hO.f37, hO.f39, hidx, Addr.add_mk, ld_scl k32, hcell, hO.f0, hO.f1, ht.g0, ld_scl ht.kM, hcw6]
          rw [stepF_ok (v := val) (w' := w6) (by simp [runF, execOp, run_lookup ht.uM hu hb6 hfind])]
          rw [stp_callF (g := E.f_pkmsg_Tags_AppendEach_1) (first := #[]) (cap := #[.pointer (some ⟨bd, 0, none⟩)]) (by simp)]
          simp
          refine (hA hD6 hbd hb0 (by omega) hn6 hx32 (by omega) hval (fun _ h => h) hszx).mono ?_
          rintro _ w7 ⟨v7, hD7, hn7, hp7⟩
          have hwi : IntKind.i64.wrap ((i : Int) + 1) = ((i + 1 : Nat) : Int) := by rw [i64_small (by omega) (by omega)]; rfl
          simp [hO.f39, hwi]
          refine ⟨⟨i + 1, by simp [hO.f0], by simp [hO.f1], by simp [hO.f37], by simp [hO.f38], by simp, by omega, ⟨v7, ?_, hn7⟩, fun k h1 h2 => (hp7 k ⟨h1, h2⟩).trans (hO.same k h1 h2)⟩, ?_⟩
          · rw [htk]; simpa [List.append_assoc] using hD7
          · omega
        · refine cw_false (by simp; omega) ?_
          simp
          have hi' : i = l.length := Nat.le_antisymm hO.il (by omega)
          subst hi'
          refine ⟨v6, ?_⟩
          rw [List.take_of_length_le (by rw [sortTags_len]; exact Nat.le_refl _)] at hD6
          exact ⟨hD6.cell, hD6.own, hD6.grew, fun _ h => h.elim⟩
    · intro f' w' h1 h2
      exact ⟨h1, h2⟩
end
end Go.Kg

set_option linter.unusedSimpArgs false
set_option linter.unusedVariables false
namespace Go.Kg
open Go
section
variable {P : Program} {E : Env} (ht : TyTg P E)
include ht
theorem tagsC (kS : kindOf P E.t_l_uint32 = .scl) (k32 : kindOf P E.tU32 = .scl) (hS : SliI P E.t_l_uint32 E.tU32 1 4 (.int .u32 0)) (hS8 : SliI P E.tBs E.tU8 1 1 (.int .u8 0)) (hi : intKind? P E.tU32 = some .u32) (hu : P.underlying E.tU32 = some (.int .u32)) (hi' : intKind? P E.tInt = some .i64) (hzS : zeroOf P E.t_l_uint32 = some (.slice none 0 0))
    (hI0 : FnIs P E.f_pkmsg_Tags_Len nt_pkmsg_Tags_Len (rs_pkmsg_Tags_Len E) (ir_pkmsg_Tags_Len E))
    (hI : FnIs P E.f_pkmsg_Tags_Each nt_pkmsg_Tags_Each (rs_pkmsg_Tags_Each E) (ir_pkmsg_Tags_Each E)) (hI1 : FnIs P E.f_pkmsg_Tags_AppendEach_1 nt_pkmsg_Tags_AppendEach_1 (rs_pkmsg_Tags_AppendEach_1 E) (ir_pkmsg_Tags_AppendEach_1 E))
    (hI2 : FnIs P E.f_pkmsg_Tags_AppendEach nt_pkmsg_Tags_AppendEach (rs_pkmsg_Tags_AppendEach E) (ir_pkmsg_Tags_AppendEach E))
    (hU : ∀ n : Nat, n < 4294967296 → WrC P E.tU8 E.f_kbin_AppendUvarint [.int .u32 n] (uvOut n)) (hSo : SortC P E) : TagsC P E tagsOk := by
  refine ⟨fun w K b o v l hc hl => c_TLen ht hI0 w K b o v l hc hl, ?_, hU⟩
  intro w base v s b o u l hok hb hc hl ho hbs hsz
  have hA : AE1C P E := fun hD h1 h2 h3 h4 h5 h6 h7 h8 h9 => c_AE1 ht hS8 hi hi' hI1 hU hD h1 h2 h3 h4 h5 h6 h7 h8 h9
  have hvc := (ownB_cells ho).1
  refine hI2.call (args := [_, _]) (by simp [nt_pkmsg_Tags_AppendEach]) ?_
  simp [ir_pkmsg_Tags_AppendEach, rs_pkmsg_Tags_AppendEach, hvc]
  generalize hw1 : w.alloc (.cells #[v] E.tBs) = w1
  have hX : Ext none1 w w1 := by subst hw1; exact (Ext.refl none1 w).alloc _
  have hb1 : w1.heap[w.heap.size]? = some (.cells #[v] E.tBs (0, 0)) := by subst hw1; exact alloc_new
  have hnb : ¬ own1 v w.heap.size := fun h => by have := (Own.below ho h).2; omega
  have hD : DstAt E base w.heap.size w v (fun _ => False) s w1 v := ⟨hb1, Own.ext ho hX (fun _ _ h => h), ⟨hX.mono (fun _ _ h => h.elim), fun _ h => .inl h⟩, fun _ h => h.elim⟩
  have hmain : Ret P E.f_pkmsg_Tags_Each #[.pointer (some ⟨b, o, none⟩), .func (.func E.f_pkmsg_Tags_AppendEach_1) #[] #[.pointer (some ⟨w.heap.size, 0, none⟩)]] w1 fun _ w' => ∃ v', DstAt E base w.heap.size w v (fun _ => False) (s ++ tagsOut l) w' v' := by
    by_cases hne : l = []
    · subst hne
      refine (c_Each0 ht hI w1 b o u _ (· < base) (hX.cell hc (fun h => h)) (hl.ext hX (fun _ _ _ h => h))).mono ?_
      rintro _ w' rfl
      exact ⟨v, by simpa [tagsOut, sortTags] using hD⟩
    · exact c_EachT ht kS k32 hS hi hu hi' hzS hI hA hSo hD (Nat.le_refl _) hbs hnb ho hb hc hl hok hne hsz
  refine hmain.mono ?_
  rintro _ w2 ⟨v2, hD2⟩
  have c2 : w2.cell? ⟨w.heap.size, 0, none⟩ = some v2 := by rw [cell_of_blk hD2.cell]; rfl
  simp [ld_scl ht.kBs, c2]
  exact ⟨hD2.own, hD2.grew⟩
end
end Go.Kg

set_option linter.unusedSimpArgs false
set_option linter.unusedVariables false
namespace Go.Kg
open Go Go.ChangeShapes Go.WideShapes Go.ChangeAt Go.RowKit
/-- what the bulk of data is -/
structure BulkL {H : Type} (b : DataW H → Nat) (bs : List (DataW H) → Nat) : Prop where
  slice : ∀ e s, b (.slice e s) = bs e + bs s + 1
  agg : ∀ p, b (.agg p) = bs p + 1
  pos : ∀ d, 1 ≤ b d
  nil : bs [] = 0
  cons : ∀ d r, bs (d :: r) = b d + bs r
theorem BulkL.len {H : Type} {b : DataW H → Nat} {bs : List (DataW H) → Nat} (h : BulkL b bs) : ∀ l, l.length ≤ bs l
  | [] => by simp [h.nil]
  | d :: r => by have := h.pos d; have := h.len r; rw [h.cons, List.length_cons]; omega
theorem BulkL.mem {H : Type} {b : DataW H → Nat} {bs : List (DataW H) → Nat} (h : BulkL b bs) : ∀ {l : List (DataW H)} {d}, d ∈ l → b d ≤ bs l
  | x :: r, d, hd => by
    rw [h.cons]
    rcases List.mem_cons.1 hd with rfl | hd
    · omega
    · have := h.mem hd; omega
/-- what is asked of the types of Tree and Tag -/
structure TyTr (P : Program) (E : Env) (tI64 : Nat) : Prop where
  tr : ∃ f0 f1 f2 f3 f4 : Field, P.underlying E.t_spec_Tree = some (.struct #[f0, f1, f2, f3, f4]) ∧ (f0.type = tI64 ∧ f0.offset = 0) ∧ (f1.type = E.tBs ∧ f1.offset = 1) ∧ (f2.type = E.tB ∧ f2.offset = 2) ∧ (f3.type = E.t_l_spec_Tree ∧ f3.offset = 3) ∧ (f4.type = E.t_l_spec_Tag ∧ f4.offset = 4)
  tg : ∃ f0 f1 : Field, P.underlying E.t_spec_Tag = some (.struct #[f0, f1]) ∧ (f0.type = E.tU32 ∧ f0.offset = 0) ∧ (f1.type = E.tBs ∧ f1.offset = 1)
  i64 : P.underlying tI64 = some (.int .i64)
  u32 : P.underlying E.tU32 = some (.int .u32)
  u8 : P.underlying E.tU8 = some (.int .u8)
  bool : P.underlying E.tB = some .bool
  bs : P.underlying E.tBs = some (.slice E.tU8)
  lt : P.underlying E.t_l_spec_Tree = some (.slice E.t_spec_Tree)
  lu : P.underlying E.t_l_spec_Tag = some (.slice E.t_spec_Tag)
  c1 : P.cellsOf tI64 = 1 ∧ P.cellsOf E.tU32 = 1 ∧ P.cellsOf E.tU8 = 1 ∧ P.cellsOf E.tB = 1 ∧ P.cellsOf E.tBs = 1 ∧ P.cellsOf E.t_l_spec_Tree = 1 ∧ P.cellsOf E.t_l_spec_Tag = 1
  cT : P.cellsOf E.t_spec_Tree = 5
  cU : P.cellsOf E.t_spec_Tag = 2
section
variable {H : Type} {enc : TypeId × Value → H} {P : Program} {W : World}
variable {E : Env} {tI64 : Nat} (hT : TyTr P E tI64) {b : DataW H → Nat} {bs : List (DataW H) → Nat} (hB : BulkL b bs)
include hT hB
end
end Go.Kg

set_option linter.unusedSimpArgs false
set_option linter.unusedVariables false
namespace Go.Kg
open Go Go.Proofs Go.Shelf Go.RowKit Go.Lib Go.Sort
def encU (n : Nat) : Value := .int .u32 n
def ltN (a b : Nat) : Bool := decide (a < b)
theorem swo_ltN : SWO ltN where
  irrefl x := by simp [ltN]
  trans x y z h1 h2 := by simp only [ltN, decide_eq_true_eq] at *; omega
  ntrans x y z h1 h2 := by simp only [ltN, decide_eq_false_iff_not] at *; omega
/-- ordered[i] < ordered[j] -/
theorem c_less {P : Program} {E : Env} (kS : kindOf P E.t_l_uint32 = .scl) (k32 : kindOf P E.tU32 = .scl) (hS : SliI P E.t_l_uint32 E.tU32 1 4 (.int .u32 0)) (hI : FnIs P E.f_pkmsg_Tags_Each_1 nt_pkmsg_Tags_Each_1 (rs_pkmsg_Tags_Each_1 E) (ir_pkmsg_Tags_Each_1 E))
    {W : World} {Bs blk c n : Nat} (G : Nat → Nat) (hs : W.cell? ⟨Bs, 0, none⟩ = some (.slice (some ⟨blk, 0, none⟩) n c)) (hc : ∀ t, t < n → W.cell? ⟨blk, t, none⟩ = some (.int .u32 (G t))) {i j : Nat} (hi : i < n) (hj : j < n) :
    Ret P E.f_pkmsg_Tags_Each_1 #[.int .i64 i, .int .i64 j, .pointer (some ⟨Bs, 0, none⟩)] W fun v w' => v = .bool (decide (G i < G j)) ∧ w' = W.drew := by
  refine hI.call (args := [_, _, _]) (by simp [nt_pkmsg_Tags_Each_1]) ?_
  simp [ir_pkmsg_Tags_Each_1, rs_pkmsg_Tags_Each_1]
  refine cw_regH (fun w' => w' = W.drew) rfl ?_
  have hs' : W.drew.cell? ⟨Bs, 0, none⟩ = some (.slice (some ⟨blk, 0, none⟩) n c) := hs
  have hi1 := idx_of (P := P) (T := E.t_l_uint32) hS.siz (p := ⟨blk, 0, none⟩) (n := n) (c := c) (k := .i64) hi
  have hj1 := idx_of (P := P) (T := E.t_l_uint32) hS.siz (p := ⟨blk, 0, none⟩) (n := n) (c := c) (k := .i64) hj
  have ci : W.drew.cell? ⟨blk, i, none⟩ = some (.int .u32 (G i)) := hc i hi
  have cj : W.drew.cell? ⟨blk, j, none⟩ = some (.int .u32 (G j)) := hc j hj
  simp [ld_scl kS, ld_scl k32, hs, hi1, hj1, Addr.add_mk, hc i hi, hc j hj]
/-- what is asked of the types, of Swapper's literals and of the shelf -/
structure SortTy (P : Program) (E : Env) (ρ : Ren) (ke f2 f6 : Nat) : Prop where
  L : LaysGg.n6 P ρ
  fS : ρ.f 6 = E.f_sort_Slice
  fc : Callable P E.f_sort_Slice
  info : ∃ i, P.info? E.t_l_uint32 = some i ∧ i.desc = .slice E.tU32
  pk : P.packed E.t_l_uint32 = false
  elem : ∃ ie, P.info? E.tU32 = some ie ∧ ie.size = 1 ∧ ie.hasPointers = false ∧ ie.bytes = 4
  kind : ∀ w, (Extern.Rtype.kind E.tU32).run P w = .ok ke w
  lit1 : P.funcs.findIdx? (·.name == "internal/reflectlite" ++ ".Swapper$" ++ toString 2) = some f2
  lit4 : P.funcs.findIdx? (·.name == "internal/reflectlite" ++ ".Swapper$" ++ toString 6) = some f6
  swap : ∃ gS, ∀ args W, (callFunc f6 args).run P W = ((Extern.ReflectliteSwapper.swap gS args).run P W).andThen fun v w' => .ok (.value v) w'
theorem swK4 {ie : TypeInfo} {ke n : Nat} (h1 : ie.hasPointers = false) (h2 : ie.bytes = 4) (hn : 2 ≤ n) : swapperK n ie ke = 6 := by
  have c : (n == 0) = false := by simp; omega
  have d : (n == 1) = false := by simp; omega
  simp [swapperK, h1, h2, c, d]
theorem enters_callable {P : Program} {g : Nat} (h : Callable P g) : ∀ args w, (callFunc g args).run P w = .ok (.enter g args) w := by
  obtain ⟨fn, c, h1, h2, h3⟩ := h
  exact enters_of h1 h3 h2
theorem sortC {P : Program} {E : Env} {ρ : Ren} {ke f2 f6 : Nat} (hT : SortTy P E ρ ke f2 f6) (kS : kindOf P E.t_l_uint32 = .scl) (k32 : kindOf P E.tU32 = .scl) (hS : SliI P E.t_l_uint32 E.tU32 1 4 (.int .u32 0)) (hI : FnIs P E.f_pkmsg_Tags_Each_1 nt_pkmsg_Tags_Each_1 (rs_pkmsg_Tags_Each_1 E) (ir_pkmsg_Tags_Each_1 E)) : SortC P E := by
  intro w Bs blk c d row hcell hne hblk hrow hpos hlen
  obtain ⟨i, hi, hd⟩ := hT.info
  obtain ⟨ie, hie, hs1, hp, hby⟩ := hT.elem
  have hlt := lt_of_heap hblk
  have hBlt := World.block_lt_of_cell? w _ hcell
  have hH : Holds encU w blk 0 d.toArray := by
    intro j hj
    have hj' : j < d.length := by simpa using hj
    have hr := hrow j d[j] (List.getElem?_eq_getElem hj')
    refine ⟨?_, ?_⟩
    · rw [Nat.zero_add, cell_of_blk hblk, hr]
      simp [encU, hj']
    · exact frozen_of_blk hblk
  refine ⟨hT.fc, ?_⟩
  by_cases h2 : 2 ≤ d.length
  · have hless : LessReads P E.f_pkmsg_Tags_Each_1 #[.pointer (some ⟨Bs, 0, none⟩)] encU ltN blk 0 d.toArray.size w := by
      intro m os dk hs i j hi hj
      have hs' : dk.size = d.toArray.size := hs
      have e : sortWorld encU w blk 0 m dk os = putRow encU (grow (Sort.ahead w m) os) blk 0 dk := by
        unfold sortWorld; rw [putRow_grow _ (Sort.ahead w m) _ blk 0 _ hlt]
      have hHg : Holds encU (grow (Sort.ahead w m) os) blk 0 d.toArray := holds_grow _ _ _ blk 0 d.toArray hlt (holds_ahead _ _ _ _ _ _ hH)
      have hr := c_less (n := d.length) (c := c) (Bs := Bs) (blk := blk) kS k32 hS hI (W := sortWorld encU w blk 0 m dk os) (fun t => dk[t]!) ?_ ?_ (i := i) (j := j) (by simpa using hi) (by simpa using hj)
      · exact hr.2.mono fun e w' ⟨v, he, hv, hw⟩ => ⟨by rw [he, hv]; rfl, 1, hw⟩
      · rw [e, cell?_putRow_other _ _ blk 0 dk _ (Or.inl (by show Bs ≠ blk; omega)), cell?_grow _ _ _ (by show Bs < w.heap.size; exact hBlt)]
        exact hcell
      · intro t ht
        rw [e]
        have := cell?_putRow encU _ blk 0 d.toArray dk hHg hs t (by rw [hs']; simpa using ht)
        rw [Nat.zero_add] at this
        exact this
    obtain ⟨gS, hx⟩ := hT.swap
    have hS' := Any.sort_Slice_sorted hT.L E.t_l_uint32 E.tU32 i ie hi hd hT.pk hie ke hT.kind hs1 (fun w => by obtain ⟨dd, i, g1, g2, g3, g4⟩ := kindOf_scl k32; simp [run_isAgg g1, g2]) encU (fun _ => rfl) ltN swo_ltN E.f_pkmsg_Tags_Each_1 #[.pointer (some ⟨Bs, 0, none⟩)]
      (enters_callable hI.callable) blk 0 c d.toArray (by simpa using h2) (by simp; omega) f6 (by rw [swK4 hp hby (by simpa using h2)]; exact hT.lit4) gS hx w hless hH hlt
    rw [hT.fS] at hS'
    refine hS'.mono ?_
    rintro e w' ⟨rfl, d', n, os, hP, hSo, rfl⟩
    refine ⟨_, rfl, d'.toList, ?_, ?_, ?_, ?_⟩
    · have h3 := hP.2.2
      have e1 : d'.extract 0 d.toArray.size = d' := by rw [← hP.1]; exact Array.extract_size
      have e2 : d.toArray.extract 0 d.toArray.size = d.toArray := Array.extract_size
      rw [e1, e2] at h3
      simpa using h3
    · rw [List.pairwise_iff_getElem]
      intro i j hi hj hij
      have := hSo i j (Nat.zero_le _) hij (by rw [← hP.1]; simpa using hj)
      simp only [ltN, decide_eq_false_iff_not] at this
      have hi' : i < d'.size := by simpa using hi
      have hj' : j < d'.size := by simpa using hj
      rw [getElem!_pos d' i hi', getElem!_pos d' j hj'] at this
      simp only [Array.getElem_toList]
      omega
    · refine ⟨rfl, rfl, rfl, by simp [putRow, mapBlock, Sort.ahead], fun k hk hne => ?_⟩
      rw [heap_grow_old _ _ (by simpa [putRow, mapBlock, Sort.ahead] using hk)]
      simp only [putRow, mapBlock, Sort.ahead, Array.getElem?_modify]
      rw [if_neg (fun e => hne e.symm)]
    · intro i x hx
      have hx' : d'[i]? = some x := by simpa using hx
      obtain ⟨hi', hxe⟩ := Array.getElem?_eq_some_iff.1 hx'
      rw [cell?_grow _ _ _ (by simpa [putRow, mapBlock, Sort.ahead] using hlt)]
      have := cell?_putRow encU (Sort.ahead w n) blk 0 d.toArray d' (holds_ahead _ _ _ _ _ _ hH) hP.1 i hi'
      rw [Nat.zero_add, getElem!_pos d' i hi', hxe] at this
      exact this
  · have h1 : d.length = 1 := by omega
    have hS' := Any.sort_Slice_tiny hT.L E.t_l_uint32 E.tU32 i ie hi hd hT.pk hie ke hT.kind (some ⟨blk, 0, none⟩) d.length c (by omega) f2 (by rw [h1]; exact hT.lit1) (.func E.f_pkmsg_Tags_Each_1) #[] #[.pointer (some ⟨Bs, 0, none⟩)] w
    rw [hT.fS] at hS'
    refine hS'.mono ?_
    rintro e w' ⟨rfl, os, rfl⟩
    refine ⟨_, rfl, d, List.Perm.refl _, ?_, ?_, ?_⟩
    · match d, h1 with
      | [x], _ => simp
    · refine ⟨rfl, rfl, rfl, by simp, fun k hk hne => heap_grow_old _ _ hk⟩
    · intro i x hx
      rw [cell?_grow _ _ _ hlt, cell_of_blk hblk]
      exact hrow i x hx
end Go.Kg
