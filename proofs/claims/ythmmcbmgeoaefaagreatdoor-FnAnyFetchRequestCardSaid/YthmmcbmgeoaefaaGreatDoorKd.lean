/- What is proved here: how the code of the messages runs, in general: a semantics of calls by their texts, and contracts of the functions of kbin and of the reference. No condition but those that each theorem names. -/
import Derived.Test.YthmmcbmgeoaefaaGreatDoorKc
set_option linter.unusedSectionVars false
set_option linter.unusedSimpArgs false
set_option linter.unusedVariables false
set_option linter.unusedSimpArgs false
set_option linter.unusedVariables false
set_option linter.unusedSectionVars false
namespace Go.Kg
open Go
section
variable {P : Program} {C : CfgR}
theorem FrR.inner {R : Rdr} {f : Nat → Value} {pv b a n ab : Nat} {ver : Int} {fl : Bool} (h : FrR C R f pv b a ver fl n) : FrR C (rdr' R ab) f pv b a ver fl n := ⟨h.ptr, h.ptrN, h.v0, h.ver, h.flg, h.flN, h.rd, h.us, h.nN, h.rsN⟩
def EltP (p : Prim) (w : World) (K : Nat → Prop) (es : List Value) (y : p.T) : Prop := ∃ u, es = u.cells.toList ∧ p.rep1 w K u y
def EltS (S : Sch) (w : World) (K : Nat → Prop) (es : List Value) (y : S.T) : Prop := S.Rep w K es y
theorem EltP.ext (p : Prim) : ∀ w w' K X es y, EltP p w K es y → Ext X w w' → (∀ k, k < w.heap.size → K k → ¬ X k) → EltP p w' K es y := by
  rintro w w' K X es y ⟨u, h1, h2⟩ he hK
  exact ⟨u, h1, Prim.rep1_ext he hK h2⟩
theorem EltP.mono (p : Prim) : ∀ w (K K' : Nat → Prop) es y, EltP p w K es y → (∀ k, K k → K' k) → EltP p w K' es y := by
  rintro w K K' es y ⟨u, h1, h2⟩ hK
  exact ⟨u, h1, Prim.rep1_mono hK h2⟩
theorem EltS.ext (S : Sch) : ∀ w w' K X es y, EltS S w K es y → Ext X w w' → (∀ k, k < w.heap.size → K k → ¬ X k) → EltS S w' K es y := fun w w' K X es y h he hK => Sch.Rep_ext he hK S h
theorem EltS.mono (S : Sch) : ∀ w (K K' : Nat → Prop) es y, EltS S w K es y → (∀ k, K k → K' k) → EltS S w K' es y := fun w K K' es y h hK => Sch.Rep_mono hK S h
/-- A list's field stands in a struct's cells. -/
def ArrFld {α : Type} (Relt : World → (Nat → Prop) → List Value → α → Prop) (w : World) (K : Nat → Prop) (sz : Nat) (cs : List Value) (o : Nat) (A : Option (List α)) : Prop :=
  ∃ v ls, cs[o]? = some v ∧ ArrAt w K sz v ls ∧ (ls.isSome = A.isSome ∧ InHeap w v) ∧ (ls.getD []).length = (A.getD []).length ∧ ∀ (i : Nat) (es : List Value) x, (ls.getD [])[i]? = some es → (A.getD [])[i]? = some x → Relt w K es x
theorem ArrFld.move {α : Type} {Relt : World → (Nat → Prop) → List Value → α → Prop} (hRext : ∀ w w' K X es y, Relt w K es y → Ext X w w' → (∀ k, k < w.heap.size → K k → ¬ X k) → Relt w' K es y) {w w' : World} {K X : Nat → Prop} {sz o : Nat} {cs cs' : List Value} {A : Option (List α)} (h : ArrFld Relt w K sz cs o A) (he : Ext X w w') (hK : ∀ k, k < w.heap.size → K k → ¬ X k) (hc : cs'[o]? = cs[o]?) : ArrFld Relt w' K sz cs' o A := by
  obtain ⟨v, ls, h1, h2, h3, h4, h5⟩ := h
  exact ⟨v, ls, hc.trans h1, ArrAt.ext he hK h2, ⟨h3.1, h3.2.ext he⟩, h4, fun i es x hi hx => hRext _ _ _ _ _ _ (h5 i es x hi hx) he hK⟩
theorem sliOk_spec {sT sz : Nat} (h : sliOk P sT sz = true) : sliSz P sT = some sz ∧ ∃ z, sliZ P sT = some z ∧ z.size = sz := by
  simp only [sliOk, Bool.and_eq_true, beq_iff_eq] at h
  obtain ⟨h1, h2⟩ := h
  refine ⟨h1, ?_⟩
  cases hz : sliZ P sT with
  | none => rw [hz] at h2; cases h2
  | some z => rw [hz] at h2; exact ⟨z, rfl, by simpa using h2⟩
/-- a[i] = v -/
theorem r_storeE (ht : TyR P C) {sT l t ab N cap i sz : Nat} {p : Prim} {u : Value} {cur : Array Value} {et : TypeId} {Q : Post} {f : Nat → Value} {w : World} (hsl : sliSz P sT = some sz) (h1 : f (l + 1) = .slice (some ⟨ab, 0, none⟩) N cap) (h3 : f (l + 3) = .int .i32 i) (hi : i < N) (hk : p.kOk P (p.ty C.E) = true) (hlv : LocVal w f p (l + 4) u)
    (hu : if p = .uuid then ∃ c : Array Value, u = .agg c ∧ c.size = 16 ∧ allOne c.toList = true else u.oneCell' = true) (hl : l + 4 < t) (hb : w.heap[ab]? = some (.cells cur et (0, 0))) (ho : i * sz + u.cells.size ≤ cur.size)
    (h : ∀ f' cur', Put cur (i * sz) u cur' → (∀ y, y < t → f' y = f y) → Q .normal f' (w.setBlk ab (.cells cur' et (0, 0)))) : (storeE C p sT l t).wp P Q f w := by
  have e3 : ∀ n, (l + 3 = t + n) = False := by intro n; simp; omega
  have e2 : ∀ n, (l + 2 = t + n) = False := by intro n; simp; omega
  have e1 : ∀ n, (l + 1 = t + n) = False := by intro n; simp; omega
  have e0 : ∀ n, (l = t + n) = False := by intro n; simp; omega
  have e4 : ∀ n, (l + 4 = t + n) = False := by intro n; simp; omega
  have e3' : (l + 3 = t) = False := by simp; omega
  have e1' : (l + 1 = t) = False := by simp; omega
  have e4' : (l + 4 = t) = False := by simp; omega
  have keep : ∀ a b c d, ∀ y, y < t → upd (upd (upd (upd f t a) (t + 1) b) (t + 2) c) (t + 3) d y = f y := by
    intro a b c d y hy
    have x3 : ∀ n, (y = t + n) = False := by intro n; simp; omega
    have x4 : (y = t) = False := by simp; omega
    simp [x3, x4]
  refine wp_reg ?_
  by_cases hp : p = .uuid
  · subst hp
    simp only [if_true] at hu
    obtain ⟨c, rfl, hc16, hone⟩ := hu
    simp only [LocVal, if_true] at hlv
    obtain ⟨b', cs', e', fz', hf, hbk, hcs, h16⟩ := hlv
    cases hcs
    have hk' : kindOf P C.E.tUu = .agg 16 := (ht.uu (kOk_uu hk rfl)).kUu
    have lB := cellsFrom_row hbk
    rw [h16] at lB
    have ho' : i * sz + 16 ≤ cur.size := by simpa [Value.cells, hc16] using ho
    simp [storeE, getL, h1, h3, hf, e0, e1, e2, e3, e4, e1', e3', e4', idx?, hsl, hi, Addr.add_mk, ld_agg hk', lB, Prim.ty, store_agg hk', hc16, hone, putK_blk hb]
    exact ⟨by omega, h _ _ (put_over (by omega)) (keep _ _ _ _)⟩
  · simp only [if_neg hp] at hu
    simp only [LocVal, if_neg hp] at hlv
    have hk' : kindOf P (p.ty C.E) = .scl := by simp only [Prim.kOk, if_neg hp] at hk; exact isScl_spec hk
    have huc : u.cells = #[u] := cells_one hu
    have ho' : i * sz + 1 ≤ cur.size := by simpa [huc] using ho
    simp [storeE, getL, hp, h1, h3, hlv, e0, e1, e2, e3, e4, e1', e3', e4', idx?, hsl, hi, Addr.add_mk, store_scl hk', hu, put1K_blk hb]
    exact ⟨by omega, h _ _ (put_one hu (by omega)) (keep _ _ _ _)⟩
/-- the body of a loop over things without fields -/
theorem r_bodyP (ht : TyR P C) {p : Prim} {R : Rdr} {sT l t b a pv ab N cap i : Nat} {av : Value} {ver : Int} {fl : Bool} {et : TypeId} {f' : Nat → Value} {w' : World} {cur : Array Value} {rsi : RS} (hP : PrimR P C p) (hsl : sliSz P sT = some p.sz) (hk : p.kOk P (p.ty C.E) = true) (hlt : l + 5 ≤ t) (hbase : R.base ≤ ab) (hi : i < N) (hav : av = .slice (some ⟨ab, 0, none⟩) N cap)
    (hf : FrR C R f' pv b a ver fl l) (h1 : f' (l + 1) = av) (h3 : f' (l + 3) = .int .i32 i) (hst : StR C (rdr' R ab) ab 0 (N * p.sz) w' cur et rsi) (Q' : Post)
    (q1 : ∀ f'' w'' cur', StR C (rdr' R ab) ab 0 (N * p.sz) w'' cur' et (p.rd fl rsi).2 → Ext (CB R ab) w' w'' → (∀ j, (j < i * p.sz ∨ i * p.sz + p.sz ≤ j) → cur'[j]? = cur[j]?) → EltP p w'' (RK (rdr' R ab)) (segL cur' (i * p.sz) p.sz) (p.rd fl rsi).1 → KeepR f' f'' (l + 4) (l + 5) t → Q' .normal f'' w'') :
    (seqL (readI C p (l + 4) t ++ [storeE C p sT l (t + readN C p)])).wp P Q' f' w' := by
  have hrow := rowBound (sz := p.sz) hi
  have hfit := hst.fit
  refine seqL_append ?_
  refine r_read ht (kOk_uu hk) (fl := fl) hP hst (hf.inner.up (by omega : l ≤ l + 4)) (by omega) ?_
  intro f2 w2 u hu hrep he2 hr2 hk2
  have hs2 := hst.ext1 he2 hr2
  have hszu := rep1_sz hrep
  show (storeE C p sT l (t + readN C p)).wp P _ f2 w2
  refine r_storeE ht (cap := cap) hsl (by rw [hk2 _ (by omega) (by omega), h1, hav]) (by rw [hk2 _ (by omega) (by omega), h3]) hi hk hu (rep1_one hrep) (by omega) hs2.blk (by rw [hszu]; omega) ?_
  intro f3 cur3 hput hk3
  have hE3 : Ext (fun x => x = ab) w2 (w2.setBlk ab (.cells cur3 et (0, 0))) := (Ext.refl (fun x => x = ab) w2).setBlk (b := ab) (Or.inr rfl) _
  have hE3' : Ext (CB (rdr' R ab) ab) w2 (w2.setBlk ab (.cells cur3 et (0, 0))) := hE3.mono (fun _ _ h => .inr h)
  refine q1 f3 _ cur3 ?_ ?_ ?_ ?_ ?_
  · exact ⟨setBlk_same hs2.blk, by rw [hput.size]; exact hfit, hs2.rd.ext hE3 (fun h => hs2.rw_.ne.2.2 h) (fun h => hs2.rw_.ne.2.1 h.symm), hs2.rw_.ext hE3'⟩
  · exact (he2.mono (fun _ _ h => .inl h) : Ext (CB R ab) w' w2).trans hE3'
  · intro j hj
    exact hput.same j (by rw [hszu]; omega)
  · refine ⟨u, ?_, Prim.rep1_ext hE3 (fun k a1 a2 a3 => hs2.rw_.keepK k a1 a2 (.inr a3)) hrep⟩
    apply List.ext_getElem?
    intro j
    by_cases hj : j < p.sz
    · rw [segL_get hj]
      have hj' : j < u.cells.toList.length := by simpa [hszu] using hj
      rw [List.getElem?_eq_getElem hj']
      exact hput.new j _ (List.getElem?_eq_getElem hj')
    · rw [segL_none (by omega), List.getElem?_eq_none (by simp [hszu]; omega)]
  · intro y hy1 hy
    rw [hk3 y (by omega), hk2 y (by omega) (by omega)]
end
end Go.Kg

set_option linter.unusedSimpArgs false
set_option linter.unusedVariables false
set_option linter.unusedSectionVars false
namespace Go.Kg
open Go
section
variable {P : Program} {C : CfgR}
theorem soundR_arrP (ht : TyR P C) (g : Gd) (k o sT : Nat) (nul : Option Nat) (p : Prim) (rest : Sch) (ih : SoundR P C rest) : SoundR P C (.arrP g k o sT nul p rest) := by
  intro T PT pv c Q f w b a n lo cc e ver fl R rs hty hN hf hc hs hd h0 h1
  simp only [Sch.tyR, Bool.and_eq_true, beq_iff_eq, decide_eq_true_eq] at hty
  obtain ⟨⟨⟨⟨⟨⟨⟨hnul, hF⟩, hk⟩, hsli⟩, hkp⟩, hlo⟩, hn⟩, htr⟩ := hty
  obtain ⟨hsz, z, hz, hzs⟩ := sliOk_spec hsli
  obtain ⟨hNp, hNl, hNe, hNr⟩ := hN
  simp only [Sch.chkD, Bool.and_eq_true] at hd
  have hnil := isNilSli_spec hd.1
  have hn10 := hf.nN
  have hpt := hf.ptrN
  have hhead : headN C nul = 5 + lenIN C + nulN nul + 10 := rfl
  simp only [Sch.genR] at hc h1 ⊢
  generalize ht1 : c.t + gdN g + headN C nul = t1 at hc h1 ⊢
  generalize ht2 : t1 + 5 + readN C p + 4 = t2 at hc h1 ⊢
  have hm := (genR_mono (C := C) rest T PT pv ⟨c.l + 5, t2 + 5, c.k + 2⟩).1
  simp only at hm
  have behind : ∀ (f1 : Nat → Value) (w1 : World) (cc1 : Array Value) (rs1 : RS) (A : Option (List p.T)),
      (Sch.rd ver fl (.arrP g k o sT nul p rest) rs = (rest.rd ver fl rs1).map fun y => ((A, y.1), y.2)) →
      RdTo C R b a n lo w cc e f c.l (c.l + 5) c.t rs1 f1 w1 cc1 → (∀ j, (j < a + lo ∨ a + o + 1 ≤ j) → cc1[j]? = cc[j]?) → ArrFld (EltP p) w1 (RK R) p.sz (segL cc1 a n) o A →
      (seqL (rest.genR C T PT pv ⟨c.l + 5, t2 + 5, c.k + 2⟩).1).wp P Q f1 w1 := by
    intro f1 w1 cc1 rs1 A hrd hto hsame hfld
    have hd1 : rest.chkD (segL cc1 a n) = true := by
      refine chkD_congr rest htr (fun j hj1 hj2 => ?_) hd.2
      rw [segL_get hj2, segL_get hj2]
      exact hsame _ (by omega)
    refine ih T PT pv _ Q f1 w1 b a n (o + 1) cc1 e ver fl R rs1 htr hNr ((hf.keep hto.keep.keeps (Nat.le_refl _)).up (by simp)) (by simp only; omega) hto.st hd1 ?_ ?_
    · intro hnone f2 w2 h6 he2
      exact h0 (by rw [hrd, hnone]; rfl) f2 w2 h6 (hto.ext.trans he2)
    · intro y rs2 hy f2 w2 cc2 hto2 hrep2
      refine h1 (A, y) rs2 (by rw [hrd, hy]; rfl) f2 w2 cc2 (hto.trans hto2 (by omega) (by simp) hm (by simp only; omega)) ⟨?_, hrep2⟩
      exact hfld.move (EltP.ext p) hto2.ext hto.st.rw_.keepK (by rw [segL_get (by omega), segL_get (by omega)]; exact hto2.same _ (.inl (by omega)))
  refine seqL_cons ?_
  refine w_guard ht.c (show f 8 = _ from hf.ver) (show 8 < c.t by omega) (by omega) ?_ ?_
  · intro hon f1 hk1 h11
    have hf1 := hf.keep hk1 (by omega)
    rw [← ht1]
    refine r_list ht hnul (fun rs => some (p.rd fl rs)) (EltP p) (EltP.ext p) (EltP.mono p) (lo := lo) (m := c.l + 5) (ver := ver) (fl := fl) (sz := p.sz) hF hk hsz hz hzs hNl hNe hs hf1 (by omega) (by omega) (by omega) hn hlo hnil ?_ ?_ ?_
    · intro ab N cap et i av f' w' cur rsi hbase hi hav hf' hav' h3 hst hzero Q' q0 q1
      rw [ht1]
      refine r_bodyP ht (cap := cap) hNp hsz hkp (by omega) hbase hi hav hf' hav' h3 hst Q' ?_
      intro f'' w'' cur' a1 a2 a3 a4 a5
      exact q1 _ _ rfl f'' w'' cur' a1 a2 a3 a4 (by rw [ht1]; exact a5)
    · intro hnone f' w' h6 he
      refine h0 ?_ f' w' h6 he
      simp only [Sch.rd, if_pos hon, hnone]
    · intro A rs' hA f' w' cc' av ls hto hsame hav harr hsome hlen helt
      refine behind f' w' cc' rs' A ?_ ?_ hsame ⟨av, ls, hav, harr, hsome, hlen, helt⟩
      · simp only [Sch.rd, if_pos hon, hA]; rfl
      · exact (RdTo.refl (m := c.l + 5) hs (KeepR.of hk1 (by omega))).trans { hto with keep := fun y h1 hy => hto.keep y h1 (by omega) } (Nat.le_refl _) (Nat.le_refl _) (Nat.le_refl _) (Nat.le_refl c.t)
  · intro hoff f1 hk1 h11
    refine behind f1 w cc rs none ?_ (RdTo.refl hs (KeepR.of hk1 (by omega))) (fun _ _ => rfl) ⟨_, none, hnil, rfl, ⟨rfl, InHeap.nil _⟩, rfl, by simp⟩
    simp only [Sch.rd, hoff, Bool.false_eq_true, if_false]; rfl
theorem segL_set (P : Program) {T' : Nat} : ∀ (l : List DSt) (c z : Array Value) (a n : Nat), defOk P T' n l = true → z.size = n → segL c a n = z.toList → segL (setD a l c) a n = (setD 0 l z).toList
  | [], c, z, a, n, _, _, h => h
  | x :: l, c, z, a, n, hok, hz, h => by
    simp only [defOk, Bool.and_eq_true, decide_eq_true_eq] at hok
    simp only [setD]
    refine segL_set P l _ _ a n hok.2 (by simp [hz]) ?_
    apply List.ext_getElem?
    intro j
    by_cases hj : j < n
    · have h1 : (segL c a n)[j]? = z.toList[j]? := by rw [h]
      rw [segL_get hj] at h1
      rw [segL_get hj]
      simp only [Array.getElem?_setIfInBounds, Array.getElem?_toList, Nat.zero_add]
      by_cases e : x.o = j
      · subst e
        have hlt : a + x.o < c.size := by
          rcases Nat.lt_or_ge (a + x.o) c.size with h2 | h2
          · exact h2
          · rw [Array.getElem?_eq_none h2] at h1
            have : z[x.o]? = none := by simpa using h1.symm
            rw [Array.getElem?_eq_none_iff] at this
            omega
        simp [hlt, hz, hj]
      · rw [if_neg (by omega), if_neg e]
        simpa using h1
    · rw [segL_none (by omega)]
      symm
      apply List.getElem?_eq_none
      simp [hz]; omega
theorem setD_same (P : Program) {T' : Nat} : ∀ (l : List DSt) (c : Array Value) (a n : Nat), defOk P T' n l = true → ∀ j, (j < a ∨ a + n ≤ j) → (setD a l c)[j]? = c[j]?
  | [], c, a, n, _, j, _ => rfl
  | x :: l, c, a, n, hok, j, hj => by
    simp only [defOk, Bool.and_eq_true, decide_eq_true_eq] at hok
    simp only [setD]
    rw [setD_same P l _ a n hok.2 j hj, Array.getElem?_setIfInBounds, if_neg (by omega)]
/-- v := &a[i]; v.Default(); s := v -/
theorem r_elem {R : Rdr} {sT PT' df l t b a pv ab N cap i sz T' : Nat} {S : Sch} {av : Value} {ver : Int} {fl : Bool} {et : TypeId} {f : Nat → Value} {w : World} {cur : Array Value} {rsi : RS} {Q : Post} {z : Array Value} (hsl : sliSz P sT = some sz) (hD : DefRC P C.toCfg sz df S) (hok : defOk P T' sz (S.dst C.toCfg) = true) (hzs : z.size = sz) (hi : i < N) (hav : av = .slice (some ⟨ab, 0, none⟩) N cap)
    (hf : FrR C R f pv b a ver fl l) (h1 : f (l + 1) = av) (h3 : f (l + 3) = .int .i32 i) (hl : l + 6 ≤ t) (hst : StR C (rdr' R ab) ab 0 (N * sz) w cur et rsi) (hzero : segL cur (i * sz) sz = z.toList)
    (h : ∀ f' w' cur', FrR C (rdr' R ab) f' (l + 5) ab (i * sz) ver fl (l + 6) → StR C (rdr' R ab) ab (i * sz) sz w' cur' et rsi → cur'.size = cur.size → Ext (CB R ab) w w' → (∀ j, (j < i * sz ∨ i * sz + sz ≤ j) → cur'[j]? = cur[j]?) → segL cur' (i * sz) sz = (setD 0 (S.dst C.toCfg) z).toList → (∀ y, y < t → (y < l + 4 ∨ l + 6 ≤ y) → f' y = f y) → Q .normal f' w') :
    (seqL (elemR C sT PT' df l t)).wp P Q f w := by
  have hn10 := hf.nN
  have hpt := hf.ptrN
  have hrow := rowBound (sz := sz) hi
  have hfit := hst.fit
  have e3 : ∀ n, (l + 3 = t + n) = False := by intro n; simp; omega
  have e1 : ∀ n, (l + 1 = t + n) = False := by intro n; simp; omega
  have e2 : ∀ n, (l + 2 = t + n) = False := by intro n; simp; omega
  have e4 : ∀ n, (l + 4 = t + n) = False := by intro n; simp; omega
  have e0 : ∀ n, (l = t + n) = False := by intro n; simp; omega
  have e3' : (l + 3 = t) = False := by simp; omega
  have e1' : (l + 1 = t) = False := by simp; omega
  have e0' : (l = t) = False := by simp; omega
  subst hav
  refine seqL_cons ?_
  refine wp_reg ?_
  simp [h1, h3, e0', e0, e1, e2, e3, e4, e1', e3', idx?, hsl, hi, Addr.add_mk]
  show (seqL _).wp P _ _ w
  refine seqL_cons ?_
  refine wp_reg ?_
  simp [e0', e0, e1, e2, e3, e4]
  refine (hD w ab (i * sz) cur et hst.blk (by omega)).mono ?_
  rintro v w1 ⟨rfl⟩
  show (Ir.reg _).wp P _ _ _
  refine wp_reg ?_
  simp [e0', e0, e1, e2, e3, e4]
  have hE : Ext (fun x => x = ab) w (w.setBlk ab (.cells (setD (i * sz) (S.dst C.toCfg) cur) et (0, 0))) := (Ext.refl (fun x => x = ab) w).setBlk (b := ab) (Or.inr rfl) _
  have hE' : Ext (CB (rdr' R ab) ab) w (w.setBlk ab (.cells (setD (i * sz) (S.dst C.toCfg) cur) et (0, 0))) := hE.mono (fun _ _ h => .inr h)
  refine h _ _ _ ?_ ?_ (setD_size _ _ _) hE' (setD_same P _ _ _ _ hok) (segL_set P _ _ _ _ _ hok hzs hzero) ?_
  · have lo : ∀ y, y < l → ∀ v1 v2 v3 v4 v5 v6 v7 v8, upd (upd (upd (upd (upd (upd (upd (upd f t v1) (t + 1) v2) (t + 2) v3) (l + 4) v4) (t + 3) v5) (t + 4) v6) (t + 5) v7) (l + 5) v8 y = f y := by
      intro y hy v1 v2 v3 v4 v5 v6 v7 v8
      have x1 : ∀ n, (y = t + n) = False := by intro n; simp; omega
      have x2 : (y = t) = False := by simp; omega
      have x3 : ∀ n, (y = l + n) = False := by intro n; simp; omega
      simp [x1, x2, x3]
    exact ⟨by simp [e0'], by omega, hf.v0, (lo 8 (by omega) _ _ _ _ _ _ _ _).trans hf.ver, fun hx => (lo 9 (by omega) _ _ _ _ _ _ _ _).trans (hf.flg hx), hf.flN, (lo C.rs (by have := hf.rsN; omega) _ _ _ _ _ _ _ _).trans hf.rd, (lo 2 (by omega) _ _ _ _ _ _ _ _).trans hf.us, by omega, ⟨hf.rsN.1, by have := hf.rsN; omega⟩⟩
  · exact ⟨setBlk_same hst.blk, by rw [setD_size]; omega, hst.rd.ext hE (fun h => hst.rw_.ne.2.2 h) (fun h => hst.rw_.ne.2.1 h.symm), hst.rw_.ext hE'⟩
  · intro y hy hy2
    have x1 : ∀ n, (y = t + n) = False := by intro n; simp; omega
    have x2 : (y = t) = False := by simp; omega
    have x3 : (y = l + 4) = False := by simp; omega
    have x4 : (y = l + 5) = False := by simp; omega
    simp [x1, x2, x3, x4, e0']
end
end Go.Kg

set_option linter.unusedSimpArgs false
set_option linter.unusedVariables false
set_option linter.unusedSectionVars false
namespace Go.Kg
open Go
section
variable {P : Program} {C : CfgR}
theorem elemOk_spec {sT : Nat} {S : Sch} {z : Array Value} (h : elemOk P C.toCfg sT S = true) (hz : sliZ P sT = some z) : S.chkD (setD 0 (S.dst C.toCfg) z).toList = true := by
  unfold elemOk at h
  rw [hz] at h
  exact h
/-- the body of a loop over structs -/
theorem r_bodyS (ht : TyR P C) {S : Sch} (ihe : SoundR P C S) {R : Rdr} {sT T' PT' df l t k b a pv ab N cap i sz m : Nat} {av : Value} {ver : Int} {fl : Bool} {et : TypeId} {f' : Nat → Value} {w' : World} {cur : Array Value} {rsi : RS} {z : Array Value} (hte : S.tyR P C T' sz 0 = true) (hNe : S.NeedR P C)
    (hsl : sliSz P sT = some sz) (hD : DefRC P C.toCfg sz df S) (hok : defOk P T' sz (S.dst C.toCfg) = true) (hzs : z.size = sz) (hchk : S.chkD (setD 0 (S.dst C.toCfg) z).toList = true) (hlt : l + 6 ≤ t) (hm : (S.genR C T' PT' (l + 5) ⟨l + 6, t + 6, k⟩).2.l = m) (hmt : m ≤ t) (hi : i < N) (hav : av = .slice (some ⟨ab, 0, none⟩) N cap)
    (hf : FrR C R f' pv b a ver fl l) (h1 : f' (l + 1) = av) (h3 : f' (l + 3) = .int .i32 i) (hst : StR C (rdr' R ab) ab 0 (N * sz) w' cur et rsi) (hzero : segL cur (i * sz) sz = z.toList) (Q' : Post)
    (q0 : S.rd ver fl rsi = none → ∀ f'' w'', f'' 6 = R.ev → Ext (CB R ab) w' w'' → Q' .ret f'' w'')
    (q1 : ∀ y rs'', S.rd ver fl rsi = some (y, rs'') → ∀ f'' w'' cur', StR C (rdr' R ab) ab 0 (N * sz) w'' cur' et rs'' → Ext (CB R ab) w' w'' → (∀ j, (j < i * sz ∨ i * sz + sz ≤ j) → cur'[j]? = cur[j]?) → EltS S w'' (RK (rdr' R ab)) (segL cur' (i * sz) sz) y → KeepR f' f'' (l + 4) m t → Q' .normal f'' w'') :
    (seqL (elemR C sT PT' df l t ++ (S.genR C T' PT' (l + 5) ⟨l + 6, t + 6, k⟩).1)).wp P Q' f' w' := by
  have hml := (genR_mono (C := C) S T' PT' (l + 5) ⟨l + 6, t + 6, k⟩).1
  rw [hm] at hml
  simp only at hml
  refine seqL_append ?_
  refine r_elem hsl hD hok hzs hi hav hf h1 h3 hlt hst hzero ?_
  intro f2 w2 cur2 hf2 hst2 hsz2 he2 hsame2 hseg2 hk2
  have hfit := hst.fit
  refine ihe T' PT' (l + 5) ⟨l + 6, t + 6, k⟩ Q' f2 w2 ab (i * sz) sz 0 cur2 et ver fl (rdr' R ab) rsi hte hNe hf2 (by rw [hm]; simp only; omega) hst2 (by rw [hseg2]; exact hchk) ?_ ?_
  · intro hnone f3 w3 h6 he3
    exact q0 hnone f3 w3 h6 (he2.trans he3)
  · intro y rs'' hy f3 w3 cur3 hto hrep
    refine q1 y rs'' hy f3 w3 cur3 ?_ (he2.trans hto.ext) ?_ hrep ?_
    · exact ⟨hto.st.blk, by rw [hto.size, hsz2]; exact hfit, hto.st.rd, hto.st.rw_⟩
    · intro j hj
      rw [hto.same j (by omega)]
      exact hsame2 j hj
    · intro y hy1 hy
      have h4 := hto.keep y hy1
      rw [hm] at h4
      simp only at h4
      rw [h4 (by omega), hk2 y (by omega) (by omega)]
theorem soundR_arrS (ht : TyR P C) (g : Gd) (k o sT : Nat) (nul : Option Nat) (T' PT' sz df : Nat) (S rest : Sch) (ihe : SoundR P C S) (ih : SoundR P C rest) : SoundR P C (.arrS g k o sT nul T' PT' sz df S rest) := by
  intro T PT pv c Q f w b a n lo cc e ver fl R rs hty hN hf hc hs hd h0 h1
  simp only [Sch.tyR, Bool.and_eq_true, beq_iff_eq, decide_eq_true_eq] at hty
  obtain ⟨⟨⟨⟨⟨⟨⟨⟨⟨hnul, hF⟩, hk⟩, hsli⟩, hel⟩, hok⟩, hte⟩, hlo⟩, hn⟩, htr⟩ := hty
  obtain ⟨hsz, z, hz, hzs⟩ := sliOk_spec hsli
  have hchk := elemOk_spec hel hz
  obtain ⟨hNl, hNe, hND, hNs, hNr⟩ := hN
  simp only [Sch.chkD, Bool.and_eq_true] at hd
  have hnil := isNilSli_spec hd.1
  have hn10 := hf.nN
  have hpt := hf.ptrN
  have hhead : headN C nul = 5 + lenIN C + nulN nul + 10 := rfl
  simp only [Sch.genR] at hc h1 ⊢
  generalize ht1 : c.t + gdN g + headN C nul = t1 at hc h1 ⊢
  have hme := genR_mono (C := C) S T' PT' (c.l + 5) ⟨c.l + 6, t1 + 5 + 6, c.k + 2⟩
  have e11 : t1 + 11 = t1 + 5 + 6 := by omega
  rw [e11] at hc h1 ⊢
  generalize hz1 : S.genR C T' PT' (c.l + 5) ⟨c.l + 6, t1 + 5 + 6, c.k + 2⟩ = zz at hc h1 hme ⊢
  obtain ⟨eb, c1⟩ := zz
  simp only at hc h1 hme ⊢
  have hm := (genR_mono (C := C) rest T PT pv ⟨c1.l, c1.t + 5, c1.k⟩).1
  simp only at hm
  have behind : ∀ (f1 : Nat → Value) (w1 : World) (cc1 : Array Value) (rs1 : RS) (A : Option (List S.T)),
      (Sch.rd ver fl (.arrS g k o sT nul T' PT' sz df S rest) rs = (rest.rd ver fl rs1).map fun y => ((A, y.1), y.2)) →
      RdTo C R b a n lo w cc e f c.l c1.l c.t rs1 f1 w1 cc1 → (∀ j, (j < a + lo ∨ a + o + 1 ≤ j) → cc1[j]? = cc[j]?) → ArrFld (EltS S) w1 (RK R) sz (segL cc1 a n) o A →
      (seqL (rest.genR C T PT pv ⟨c1.l, c1.t + 5, c1.k⟩).1).wp P Q f1 w1 := by
    intro f1 w1 cc1 rs1 A hrd hto hsame hfld
    have hd1 : rest.chkD (segL cc1 a n) = true := by
      refine chkD_congr rest htr (fun j hj1 hj2 => ?_) hd.2
      rw [segL_get hj2, segL_get hj2]
      exact hsame _ (by omega)
    refine ih T PT pv _ Q f1 w1 b a n (o + 1) cc1 e ver fl R rs1 htr hNr ((hf.keep hto.keep.keeps (Nat.le_refl _)).up (by simp only; omega)) (by simp only; omega) hto.st hd1 ?_ ?_
    · intro hnone f2 w2 h6 he2
      exact h0 (by rw [hrd, hnone]; rfl) f2 w2 h6 (hto.ext.trans he2)
    · intro y rs2 hy f2 w2 cc2 hto2 hrep2
      refine h1 (A, y) rs2 (by rw [hrd, hy]; rfl) f2 w2 cc2 (hto.trans hto2 (by omega) (by simp only; omega) hm (by simp only; omega)) ⟨?_, hrep2⟩
      exact hfld.move (EltS.ext S) hto2.ext hto.st.rw_.keepK (by rw [segL_get (by omega), segL_get (by omega)]; exact hto2.same _ (.inl (by omega)))
  refine seqL_cons ?_
  refine w_guard ht.c (show f 8 = _ from hf.ver) (show 8 < c.t by omega) (by omega) ?_ ?_
  · intro hon f1 hk1 h11
    have hf1 := hf.keep hk1 (by omega)
    rw [← ht1]
    refine r_list ht hnul (S.rd ver fl) (EltS S) (EltS.ext S) (EltS.mono S) (lo := lo) (m := c1.l) (ver := ver) (fl := fl) (sz := sz) hF hk hsz hz hzs hNl hNe hs hf1 (by omega) (by omega) (by omega) hn hlo hnil ?_ ?_ ?_
    · intro ab N cap et i av f' w' cur rsi hbase hi hav hf' hav' h3 hst hzero Q' q0 q1
      rw [ht1]
      have hb := r_bodyS ht ihe (k := c.k + 2) (t := t1 + 5) (m := c1.l) (cap := cap) (PT' := PT') hte hNs hsz hND hok hzs hchk (by omega) (by rw [hz1]) (by omega) hi hav hf' hav' h3 hst hzero Q' q0 (fun y rs'' hy f'' w'' cur' a1 a2 a3 a4 a5 => q1 y rs'' hy f'' w'' cur' a1 a2 a3 a4 (by rw [ht1]; exact a5))
      rw [hz1] at hb
      exact hb
    · intro hnone f' w' h6 he
      refine h0 ?_ f' w' h6 he
      simp only [Sch.rd, if_pos hon, hnone]
    · intro A rs' hA f' w' cc' av ls hto hsame hav harr hsome hlen helt
      refine behind f' w' cc' rs' A ?_ ?_ hsame ⟨av, ls, hav, harr, hsome, hlen, helt⟩
      · simp only [Sch.rd, if_pos hon, hA]; rfl
      · exact (RdTo.refl (m := c1.l) hs (KeepR.of hk1 (by omega))).trans { hto with keep := fun y h1 hy => hto.keep y h1 (by omega) } (Nat.le_refl _) (Nat.le_refl _) (Nat.le_refl _) (Nat.le_refl c.t)
  · intro hoff f1 hk1 h11
    refine behind f1 w cc rs none ?_ (RdTo.refl hs (KeepR.of hk1 (by omega))) (fun _ _ => rfl) ⟨_, none, hnil, rfl, ⟨rfl, InHeap.nil _⟩, rfl, by simp⟩
    simp only [Sch.rd, hoff, Bool.false_eq_true, if_false]; rfl
theorem segL_sub {c : Array Value} {a n o sz : Nat} (h : o + sz ≤ n) : ((segL c a n).drop o).take sz = segL c (a + o) sz := by
  apply List.ext_getElem?
  intro j
  by_cases hj : j < sz
  · rw [List.getElem?_take, if_pos hj, List.getElem?_drop, segL_get (by omega), segL_get hj, Nat.add_assoc]
  · rw [segL_none (by omega), List.getElem?_take, if_neg hj]
theorem setBlk_self {w : World} {b : Nat} {x : Obj} (h : w.heap[b]? = some x) : w.setBlk b x = w := by
  simp only [World.setBlk]
  have : w.heap.setIfInBounds b x = w.heap := by
    apply Array.ext_getElem?
    intro k
    rw [Array.getElem?_setIfInBounds]
    split
    · rename_i h'; subst h'
      rw [h, if_pos (lt_of_heap h)]
    · rfl
  rw [this]
theorem soundR_sub (ht : TyR P C) (g : Gd) (k o T' PT' sz df : Nat) (S rest : Sch) (ihe : SoundR P C S) (ih : SoundR P C rest) : SoundR P C (.sub g k o T' PT' sz df S rest) := by
  intro T PT pv c Q f w b a n lo cc e ver fl R rs hty hN hf hc hs hd h0 h1
  simp only [Sch.tyR, Bool.and_eq_true, beq_iff_eq, decide_eq_true_eq] at hty
  obtain ⟨⟨⟨⟨⟨hF, hemp⟩, hte⟩, hlo⟩, hn⟩, htr⟩ := hty
  have hemp' : S.dst C.toCfg = [] := List.isEmpty_iff.1 hemp
  obtain ⟨hND, hNs, hNr⟩ := hN
  simp only [Sch.chkD, Bool.and_eq_true] at hd
  have hde := hd.1
  rw [segL_sub hn] at hde
  have hn10 := hf.nN
  have hpt := hf.ptrN
  have hfit := hs.fit
  simp only [Sch.genR] at hc h1 ⊢
  generalize ht1 : c.t + gdN g = t1 at hc h1 ⊢
  have hme := genR_mono (C := C) S T' PT' (c.l + 1) ⟨c.l + 2, t1 + 6, c.k⟩
  have hse : ∀ Q f w b a n lo cc e ver fl R rs, _ := fun Q f w b a n lo cc e ver fl R rs => ihe T' PT' (c.l + 1) ⟨c.l + 2, t1 + 6, c.k⟩ Q f w b a n lo cc e ver fl R rs
  generalize hz1 : S.genR C T' PT' (c.l + 1) ⟨c.l + 2, t1 + 6, c.k⟩ = zz at hc h1 hme hse ⊢
  obtain ⟨eb, c1⟩ := zz
  simp only at hc h1 hme hse ⊢
  have hm := (genR_mono (C := C) rest T PT pv c1).1
  have behind : ∀ (f1 : Nat → Value) (w1 : World) (cc1 : Array Value) (rs1 : RS) (A : S.T),
      (Sch.rd ver fl (.sub g k o T' PT' sz df S rest) rs = (rest.rd ver fl rs1).map fun y => ((A, y.1), y.2)) →
      RdTo C R b a n lo w cc e f c.l c1.l c.t rs1 f1 w1 cc1 → (∀ j, (j < a + lo ∨ a + o + sz ≤ j) → cc1[j]? = cc[j]?) → (fun w1 (cc1 : Array Value) (A : S.T) => S.Rep w1 (RK R) (segL cc1 (a + o) sz) A) w1 cc1 A →
      (seqL (rest.genR C T PT pv c1).1).wp P Q f1 w1 := by
    intro f1 w1 cc1 rs1 A hrd hto hsame hfld
    have hd1 : rest.chkD (segL cc1 a n) = true := by
      refine chkD_congr rest htr (fun j hj1 hj2 => ?_) hd.2
      rw [segL_get hj2, segL_get hj2]
      exact hsame _ (by omega)
    refine ih T PT pv _ Q f1 w1 b a n (o + sz) cc1 e ver fl R rs1 htr hNr ((hf.keep hto.keep.keeps (Nat.le_refl _)).up (by omega)) (by omega) hto.st hd1 ?_ ?_
    · intro hnone f2 w2 h6 he2
      exact h0 (by rw [hrd, hnone]; rfl) f2 w2 h6 (hto.ext.trans he2)
    · intro y rs2 hy f2 w2 cc2 hto2 hrep2
      refine h1 (A, y) rs2 (by rw [hrd, hy]; rfl) f2 w2 cc2 (hto.trans hto2 (by omega) (by omega) hm (by omega)) ⟨?_, hrep2⟩
      rw [segL_sub hn, segL_eq (c := cc1) (fun j hj1 hj2 => hto2.same j (by omega))]
      exact Sch.Rep_ext hto2.ext hto.st.rw_.keepK S hfld
  refine seqL_cons ?_
  refine w_guard ht.c (show f 8 = _ from hf.ver) (show 8 < c.t by omega) (by omega) ?_ ?_
  · intro hon f1 hk1 h11
    have hf1 := hf.keep hk1 (by omega)
    have zl : ∀ m, (c.l = t1 + m) = False := by intro m; simp; omega
    have zl' : (c.l = t1) = False := by simp; omega
    refine seqL_append ?_
    refine seqL_cons (wp_reg ?_)
    simp [addrR, hf1.ptr, hF, Addr.add_mk]
    show (seqL _).wp P _ _ w
    refine seqL_cons (wp_reg ?_)
    simp [zl, zl']
    refine (hND w b (a + o) cc e hs.blk (by omega)).mono ?_
    rintro v w1 rfl
    rw [hemp']
    simp only [setD]
    rw [setBlk_self hs.blk]
    show (Ir.reg _).wp P _ _ _
    refine wp_reg ?_
    simp [zl, zl']
    have up : ∀ z, z < t1 → z ≠ c.l → z ≠ c.l + 1 → ∀ v1 v2 v3 v4 v5 v6 v7 v8, upd (upd (upd (upd (upd (upd (upd (upd f1 t1 v1) (t1 + 1) v2) (t1 + 2) v3) c.l v4) (t1 + 3) v5) (t1 + 4) v6) (t1 + 5) v7) (c.l + 1) v8 z = f1 z := by
      intro z hz hz1 hz2 v1 v2 v3 v4 v5 v6 v7 v8
      have a3 : ∀ n, (z = t1 + n) = False := by intro n; simp; omega
      have a4 : (z = t1) = False := by simp; omega
      simp [a3, a4, hz1, hz2]
    refine hse _ _ w b (a + o) sz 0 cc e ver fl R rs hte hNs ?_ (by omega) ⟨hs.blk, by omega, hs.rd, hs.rw_⟩ hde ?_ ?_
    · refine ⟨by simp [zl, zl'], ⟨by omega, by omega⟩, hf1.v0, ?_, fun hx => ?_, hf1.flN, ?_, ?_, by omega, ⟨hf1.rsN.1, by have := hf1.rsN; omega⟩⟩
      · rw [up 8 (by omega) (by omega) (by omega)]; exact hf1.ver
      · rw [up 9 (by omega) (by omega) (by omega)]; exact hf1.flg hx
      · rw [up C.rs (by have := hf1.rsN; omega) (by have := hf1.rsN; omega) (by have := hf1.rsN; omega)]; exact hf1.rd
      · rw [up 2 (by omega) (by omega) (by omega)]; exact hf1.us
    · intro hnone f3 w3 h6 he3
      exact h0 (by simp only [Sch.rd, if_pos hon, hnone]) f3 w3 h6 he3
    · intro x rs1 hx f3 w3 cc3 hto hrep
      refine behind f3 w3 cc3 rs1 x ?_ ?_ (fun j hj => hto.same j (by omega)) hrep
      · simp only [Sch.rd, if_pos hon, hx]; rfl
      · refine ⟨hto.ext, ⟨hto.st.blk, by rw [hto.size]; exact hfit, hto.st.rd, hto.st.rw_⟩, hto.size, fun j hj => hto.same j (by omega), ?_⟩
        intro z hz1 hz
        rw [hto.keep z hz1 (by omega), up z (by omega) (by omega) (by omega)]
        exact hk1 z (by omega) hz1
  · intro hoff f1 hk1 h11
    refine behind f1 w cc rs S.dfl ?_ (RdTo.refl hs (KeepR.of hk1 (by omega))) (fun _ _ => rfl) (Sch.repD S hde)
    simp only [Sch.rd, hoff, Bool.false_eq_true, if_false]; rfl
/-- A pointer's field stands in a struct's cells. -/
def OptFld (S : Sch) (R : Rdr) (a n o sz : Nat) (w : World) (cc : Array Value) (A : Option S.T) : Prop :=
  ∃ v, (segL cc a n)[o]? = some v ∧ (A = none → v = .pointer none) ∧ ∀ x, A = some x → ∃ b c es, v = .pointer (some ⟨b, c, none⟩) ∧ RK R b ∧ b < w.heap.size ∧ es.length = sz ∧ CellsAt w b c es ∧ S.Rep w (RK R) es x
theorem optOk_spec {T sz : Nat} {S : Sch} (h : optOk P C.toCfg T sz S = true) : ∃ v, zeroOf P T = some v ∧ v.cells.size = sz ∧ S.chkD (setD 0 (S.dst C.toCfg) v.cells).toList = true := by
  unfold optOk at h
  split at h
  · rename_i v hv
    simp only [Bool.and_eq_true, beq_iff_eq] at h
    exact ⟨v, hv, h.1, h.2⟩
  · cases h
theorem soundR_opt (ht : TyR P C) (g : Gd) (k o T' PT' PP sz df : Nat) (S rest : Sch) (ihe : SoundR P C S) (ih : SoundR P C rest) : SoundR P C (.opt g k o T' PT' PP sz df S rest) := by
  intro T PT pv c Q f w b a n lo cc e ver fl R rs hty hN hf hc hs hd h0 h1
  simp only [Sch.tyR, Bool.and_eq_true, beq_iff_eq, decide_eq_true_eq] at hty
  obtain ⟨⟨⟨⟨⟨⟨⟨⟨hF, hk⟩, hk8⟩, hopt⟩, hok⟩, hte⟩, hlo⟩, hn⟩, htr⟩ := hty
  obtain ⟨zv, hzv, hzs, hchk⟩ := optOk_spec hopt
  obtain ⟨hN8, hNe, hND, hNs, hNr⟩ := hN
  simp only [Sch.chkD, Bool.and_eq_true] at hd
  have hnil := isNilPtr_spec hd.1
  have hn10 := hf.nN
  have hpt := hf.ptrN
  have hfit := hs.fit
  simp only [Sch.genR] at hc h1 ⊢
  generalize ht1 : c.t + gdN g = t1 at hc h1 ⊢
  have hme := genR_mono (C := C) S T' PT' (c.l + 2) ⟨c.l + 3, t1 + 17, c.k⟩
  have hse : ∀ Q f w b a n lo cc e ver fl R rs, _ := fun Q f w b a n lo cc e ver fl R rs => ihe T' PT' (c.l + 2) ⟨c.l + 3, t1 + 17, c.k⟩ Q f w b a n lo cc e ver fl R rs
  generalize hz1 : S.genR C T' PT' (c.l + 2) ⟨c.l + 3, t1 + 17, c.k⟩ = zz at hc h1 hme hse ⊢
  obtain ⟨eb, c1⟩ := zz
  simp only at hc h1 hme hse ⊢
  have hm := (genR_mono (C := C) rest T PT pv c1).1
  have behind : ∀ (f1 : Nat → Value) (w1 : World) (cc1 : Array Value) (rs1 : RS) (A : Option S.T),
      (Sch.rd ver fl (.opt g k o T' PT' PP sz df S rest) rs = (rest.rd ver fl rs1).map fun y => ((A, y.1), y.2)) →
      RdTo C R b a n lo w cc e f c.l c1.l c.t rs1 f1 w1 cc1 → (∀ j, (j < a + lo ∨ a + o + 1 ≤ j) → cc1[j]? = cc[j]?) → OptFld S R a n o sz w1 cc1 A →
      (seqL (rest.genR C T PT pv c1).1).wp P Q f1 w1 := by
    intro f1 w1 cc1 rs1 A hrd hto hsame hfld
    have hd1 : rest.chkD (segL cc1 a n) = true := by
      refine chkD_congr rest htr (fun j hj1 hj2 => ?_) hd.2
      rw [segL_get hj2, segL_get hj2]
      exact hsame _ (by omega)
    refine ih T PT pv _ Q f1 w1 b a n (o + 1) cc1 e ver fl R rs1 htr hNr ((hf.keep hto.keep.keeps (Nat.le_refl _)).up (by omega)) (by omega) hto.st hd1 ?_ ?_
    · intro hnone f2 w2 h6 he2
      exact h0 (by rw [hrd, hnone]; rfl) f2 w2 h6 (hto.ext.trans he2)
    · intro y rs2 hy f2 w2 cc2 hto2 hrep2
      refine h1 (A, y) rs2 (by rw [hrd, hy]; rfl) f2 w2 cc2 (hto.trans hto2 (by omega) (by omega) hm (by omega)) ⟨?_, hrep2⟩
      obtain ⟨v, q1, q2, q3⟩ := hfld
      refine ⟨v, ?_, q2, fun x hx => ?_⟩
      · rw [← q1, segL_get (by omega), segL_get (by omega)]
        exact hto2.same _ (.inl (by omega))
      · obtain ⟨b', c', es, p1, p2, p3, p4, p5, p6⟩ := q3 x hx
        exact ⟨b', c', es, p1, p2, Nat.lt_of_lt_of_le p3 hto2.ext.size, p4, CellsAt.ext hto2.ext hto.st.rw_.keepK p5 p2, Sch.Rep_ext hto2.ext hto.st.rw_.keepK S p6⟩
  refine seqL_cons ?_
  refine w_guard ht.c (show f 8 = _ from hf.ver) (show 8 < c.t by omega) (by omega) ?_ ?_
  · intro hon f1 hk1 h11
    have hf1 := hf.keep hk1 (by omega)
    have hD : R.D < w.heap.size := Nat.lt_of_lt_of_le hs.rw_.lt.2.2.1 hs.rw_.lt.2.2.2
    refine seqL_cons ?_
    have hcall := hN8 false (by simp) w R.pb R.D rs hs.rw_.ne.1 hD hs.rd
    refine r_call ht (fun h => by cases h) (x := (Prim.i8.rd false rs).1) (rs' := (Prim.i8.rd false rs).2) hs hf1.rd (by omega) (by omega) hcall ?_
    intro f2 w2 u hu hrep he2 hr2 hk2
    have hs2 := hs.ext1 he2 hr2
    have hul : f2 c.l = .int .i8 (show Int from (Prim.i8.rd false rs).1) := by
      have h1 : f2 c.l = u := by simpa [LocVal] using hu
      have h2 : u = .int .i8 (Prim.i8.rd false rs).1 := hrep
      rw [h1, h2]
    have hf2 : FrR C R f2 pv b a ver fl c.l := hf1.keep (t := c.l) (fun y hy hy1 => hk2 y (by omega) (by omega)) (Nat.le_refl _)
    have zl : ∀ m, (c.l = t1 + m) = False := by intro m; simp; omega
    have zl' : (c.l = t1) = False := by simp; omega
    have hrs := hf1.rsN
    have z7 : ∀ m, (C.rs = t1 + m) = False := by intro m; simp; omega
    have z71 : ∀ m, (C.rs = t1 + 1 + m) = False := by intro m; simp; omega
    have z7' : (C.rs = t1 + 1) = False := by simp; omega
    have absent : ∀ f' : Nat → Value, (∀ y, y < t1 → y ≠ c.l → f' y = f1 y) → optRd (S.rd ver fl) rs = some (none, (Prim.i8.rd false rs).2) → (seqL (rest.genR C T PT pv c1).1).wp P Q f' w2 := by
      intro f' hk' hrd
      refine behind f' w2 cc (Prim.i8.rd false rs).2 none ?_ ?_ (fun _ _ => rfl) ⟨_, hnil, fun _ => rfl, fun x hx => by cases hx⟩
      · simp only [Sch.rd, if_pos hon, hrd]; rfl
      · refine RdTo.read hs he2 hr2 (fun z hz1 hz => ?_)
        rw [hk' z (by omega) (by omega)]; exact hk1 z (by omega) hz1
    show (presI C c.l (t1 + 1) _).wp P _ f2 w2
    refine wp_seqI (wp_reg ?_)
    generalize hnn : (show Int from (Prim.i8.rd false rs).1) = nn at *
    have upA : ∀ y, y < t1 → y ≠ c.l → ∀ v1 v2 v3 v5, upd (upd (upd (upd f2 (t1 + 1) v1) (t1 + 1 + 1) v2) (t1 + 1 + 2) v3) (t1 + 1 + 4) v5 y = f1 y := by
      intro y hy hy1 v1 v2 v3 v5
      have a3 : ∀ n, (y = t1 + n) = False := by intro n; simp; omega
      have a4 : ∀ n, (y = t1 + 1 + n) = False := by intro n; simp; omega
      simp [a3, a4]
      exact hk2 y hy hy1
    have upB : ∀ y, y < t1 → y ≠ c.l → ∀ v1 v2 v3 v4 v5, upd (upd (upd (upd (upd f2 (t1 + 1) v1) (t1 + 1 + 1) v2) (t1 + 1 + 2) v3) (t1 + 1 + 3) v4) (t1 + 1 + 4) v5 y = f1 y := by
      intro y hy hy1 v1 v2 v3 v4 v5
      have a3 : ∀ n, (y = t1 + n) = False := by intro n; simp; omega
      have a4 : ∀ n, (y = t1 + 1 + n) = False := by intro n; simp; omega
      simp [a3, a4]
      exact hk2 y hy hy1
    by_cases hm1 : nn = -1
    · subst hm1
      simp [hul, zl, zl', bin?]
      refine .inr ⟨by simp, absent _ (fun y hy hy1 => ?_) ?_⟩
      · first | exact upA y hy hy1 _ _ _ _ | exact upB y hy hy1 _ _ _ _ _
      · unfold optRd
        have hnn' : (Prim.i8.rd false rs).1 = (show Int from -1) := hnn
        split
        · rfl
        · first | rfl | rw [if_pos hnn']
    · have hr7 : f2 C.rs = .pointer (some ⟨R.pb, 0, none⟩) := hf2.rd
      simp [hul, zl, zl', z7, z71, z7', bin?, hm1, hr7]
      refine (hNe.ok w2 R.pb R.D _ hr2).mono ?_
      rintro v w3 ⟨rfl, hw3⟩
      have hw3' := hw3.symm
      subst hw3'
      cases hb : (Prim.i8.rd false rs).2.bad
      · refine .inl ⟨by simp, ?_⟩
        generalize hf3 : upd (upd (upd (upd (upd f2 (t1 + 1) _) (t1 + 1 + 1) _) (t1 + 1 + 2) _) (t1 + 1 + 3) _) (t1 + 1 + 4) _ = f3
        have k3 : ∀ y, y < t1 → y ≠ c.l → f3 y = f1 y := fun y hy hy1 => by subst hf3; exact upB y hy hy1 _ _ _ _ _
        have p3 : f3 pv = .pointer (some ⟨b, a, none⟩) := (k3 pv (by omega) (by omega)).trans hf1.ptr
        refine seqL_append ?_
        have hb1 := hs.rw_.lt
        have hg : C.E.g_kbin_ErrNotEnoughData < w.heap.size := World.block_lt_of_cell? w _ hs.rw_.err
        have hsz2 := he2.size
        have zp : ∀ m, (pv = t1 + m) = False := by intro m; simp; omega
        have zp1 : ∀ m, (pv = c.l + m) = False := by intro m; simp; omega
        have zp6 : ∀ m, (pv = t1 + 6 + m) = False := by intro m; simp; omega
        have zl16 : ∀ m, (c.l + 1 = t1 + 6 + m) = False := by intro m; simp; omega
        have zl26 : ∀ m, (c.l + 2 = t1 + 6 + m) = False := by intro m; simp; omega
        have zp' : (pv = t1 + 6) = False := by simp; omega
        have zl1 : ∀ m, (c.l + 1 = t1 + m) = False := by intro m; simp; omega
        have zl2 : ∀ m, (c.l + 2 = t1 + m) = False := by intro m; simp; omega
        have hEA : Ext none1 w2 (w2.alloc (.cells zv.cells T')) := (Ext.refl none1 w2).alloc _
        have hbA : (w2.alloc (.cells zv.cells T')).heap[b]? = some (.cells cc e (0, 0)) := hEA.old hs2.blk (fun h => h)
        have haA : (w2.alloc (.cells zv.cells T')).heap[w2.heap.size]? = some (.cells zv.cells T' (0, 0)) := alloc_new
        refine seqL_cons (wp_reg ?_)
        simp [p3, zp, zp6, zp', hzv, hF, Addr.add_mk, store_scl (isScl_spec hk), Value.oneCell', put1K_blk hbA]
        refine ⟨by omega, ?_⟩
        generalize hab : w2.heap.size = ab at *
        generalize hccB : cc.setIfInBounds (a + o) (.pointer (some ⟨ab, 0, none⟩)) = ccB
        have hszB : ccB.size = cc.size := by subst hccB; simp
        generalize hwB : (w2.alloc (.cells zv.cells T')).setBlk b (.cells ccB e (0, 0)) = wB
        have hnab : b ≠ ab := by omega
        have hbB : wB.heap[b]? = some (.cells ccB e (0, 0)) := by subst hwB; exact setBlk_same hbA
        have hEA' : Ext (fun x => x = b) w2 (w2.alloc (.cells zv.cells T')) := hEA.mono (fun _ _ h => h.elim)
        have hEB : Ext (fun x => x = b) w2 wB := by subst hwB; exact hEA'.setBlk (b := b) (Or.inr rfl) _
        have haB : wB.heap[ab]? = some (.cells zv.cells T' (0, 0)) := by
          subst hwB
          exact ((Ext.refl (fun x => x = b) (w2.alloc (.cells zv.cells T'))).setBlk (b := b) (Or.inr rfl) _).old haA (fun h => hnab h.symm)
        have cB : wB.cell? ⟨b, a + o, none⟩ = some (.pointer (some ⟨ab, 0, none⟩)) := by
          rw [cell_of_blk hbB, ← hccB]
          simp [Array.getElem?_setIfInBounds]; omega
        show (seqL _).wp P _ _ wB
        refine seqL_cons (wp_reg ?_)
        simp [addrR, p3, zp, zp1, zp6, zp', hF, Addr.add_mk, ld_scl (isScl_spec hk), cB]
        show (seqL _).wp P _ _ wB
        refine seqL_cons (wp_reg ?_)
        simp [zl1, zl16]
        refine (hND wB ab 0 zv.cells T' haB (by omega)).mono ?_
        rintro v w3 rfl
        generalize hcur : setD 0 (S.dst C.toCfg) zv.cells = cur
        have hcurs : cur.size = sz := by subst hcur; rw [setD_size]; exact hzs
        have hchk' : S.chkD cur.toList = true := by subst hcur; exact hchk
        generalize hwC : wB.setBlk ab (.cells cur T' (0, 0)) = wC
        have haC : wC.heap[ab]? = some (.cells cur T' (0, 0)) := by subst hwC; exact setBlk_same haB
        have hEC : Ext (fun x => x = ab) wB wC := by subst hwC; exact (Ext.refl (fun x => x = ab) wB).setBlk (b := ab) (Or.inr rfl) _
        have hbC : wC.heap[b]? = some (.cells ccB e (0, 0)) := hEC.old hbB hnab
        have hE2C : Ext (fun x => x = b) w2 wC := hEB.trans' hEC (fun x hx hx2 => by rw [hab] at hx; omega)
        show (Ir.reg _).wp P _ _ wC
        refine wp_reg ?_
        simp [zl1, zl2, zl16, zl26]
        have hseg : segL cur 0 sz = cur.toList := by rw [← hcurs]; simp only [segL, List.drop_zero]; exact List.take_of_length_le (by simp)
        have hrC : RdAt C.E.tRd wC R.pb R.D (Prim.i8.rd false rs).2 := hr2.ext hE2C (fun h => hs.rw_.ne.2.2 h) (fun h => hs.rw_.ne.2.1 h.symm)
        have hstC : StR C (rdr' R ab) ab 0 sz wC cur T' (Prim.i8.rd false rs).2 := by
          refine ⟨haC, by omega, hrC, ⟨⟨?_, ?_, ?_, ?_⟩, ⟨hs.rw_.ne.1, ?_, ?_⟩, ?_, ⟨hs.rw_.errN.1, ?_⟩⟩⟩
          · show R.pb < ab + 1; omega
          · show ab < ab + 1; omega
          · show R.D < ab + 1; omega
          · exact lt_of_heap haC
          · show ab ≠ R.D; omega
          · show R.pb ≠ ab; omega
          · exact hE2C.cell hs2.rw_.err (fun h => hs.rw_.errN.2 h)
          · omega
        have tot : ∀ w', Ext (CB R ab) wC w' → Ext (CB R b) w w' := by
          intro w' h
          have h02 : Ext (CB R b) w wC := (he2.mono (fun _ _ h => .inl h)).trans (hE2C.mono (fun _ _ h => .inr h))
          exact h02.trans' (E := CB R b) h (fun x hx hc => by
            rcases hc with h | h
            · exact .inl h
            · omega) (fun x hx hc => hc)
        suffices H : ∀ F : Nat → Value, F (c.l + 2) = .pointer (some ⟨ab, 0, none⟩) → (∀ z, z < t1 → z ≠ c.l + 1 → z ≠ c.l + 2 → F z = f3 z) → (seqL eb).wp P (thenF ((seqL (Sch.genR C T PT pv rest c1).1).wp P Q) Q) F wC by
          refine H _ ?_ ?_
          · simp [zl1, zl2, zl16, zl26, zl]
          · intro z hz1 hz2 hz3
            have a3 : ∀ n, (z = t1 + n) = False := by intro n; simp; omega
            have a6 : ∀ n, (z = t1 + 6 + n) = False := by intro n; simp; omega
            have a6' : (z = t1 + 6) = False := by simp; omega
            have a7 : ∀ n, (z = t1 + 6 + 4 + n) = False := by intro n; simp; omega
            simp [a3, a6, a6', a7, hz2, hz3]
        intro F hF2 hFk
        refine hse _ _ wC ab 0 sz 0 cur T' ver fl (rdr' R ab) (Prim.i8.rd false rs).2 hte hNs ?_ (by omega) hstC (by rw [hseg]; exact hchk') ?_ ?_
        · have lo : ∀ y, y < c.l → F y = f3 y := fun y hy => hFk y (by omega) (by omega) (by omega)
          refine ⟨hF2, ⟨by omega, by omega⟩, hf1.v0, ?_, fun hx => ?_, hf1.flN, ?_, ?_, by omega, ⟨hf1.rsN.1, by have := hf1.rsN; omega⟩⟩
          · rw [lo 8 (by omega), k3 8 (by omega) (by omega)]; exact hf1.ver
          · rw [lo 9 (by omega), k3 9 (by omega) (by omega)]; exact hf1.flg hx
          · rw [lo C.rs (by omega), k3 C.rs (by omega) (by omega)]; exact hf1.rd
          · rw [lo 2 (by omega), k3 2 (by omega) (by omega)]; exact hf1.us
        · intro hnone f4 w4 h6 he4
          refine h0 ?_ f4 w4 h6 (tot w4 he4)
          have hrd : optRd (S.rd ver fl) rs = none := by
            unfold optRd
            rw [hb]
            simp only [Bool.false_eq_true, if_false]
            rw [if_neg (by intro h; exact hm1 (hnn.symm.trans h)), hnone]; rfl
          simp only [Sch.rd, if_pos hon, hrd]
        · intro x rs1 hx f4 w4 cc4 hto hrep
          have hrd : optRd (S.rd ver fl) rs = some (some x, rs1) := by
            unfold optRd
            rw [hb]
            simp only [Bool.false_eq_true, if_false]
            rw [if_neg (by intro h; exact hm1 (hnn.symm.trans h)), hx]; rfl
          have hb4 : w4.heap[b]? = some (.cells ccB e (0, 0)) := hto.ext.old hbC (by
            rintro (h | h)
            · exact hs.rw_.ne.2.2 h.symm
            · exact hnab h)
          have hext := tot w4 hto.ext
          refine behind f4 w4 ccB rs1 (some x) ?_ ?_ ?_ ?_
          · simp only [Sch.rd, if_pos hon, hrd]; rfl
          · refine ⟨hext, ⟨hb4, by omega, hto.st.rd, hs.rw_.ext hext⟩, hszB, ?_, ?_⟩
            · intro j hj
              rw [← hccB, Array.getElem?_setIfInBounds, if_neg (by omega)]
            · intro z hz1 hz
              rw [hto.keep z hz1 (by omega)]
              rw [hFk z (by omega) (by omega) (by omega), k3 z (by omega) (by omega)]
              exact hk1 z (by omega) hz1
          · intro j hj
            rw [← hccB, Array.getElem?_setIfInBounds, if_neg (by omega)]
          · refine ⟨.pointer (some ⟨ab, 0, none⟩), ?_, fun h => (by cases h), fun y hy => ?_⟩
            · rw [segL_get (by omega), ← hccB, Array.getElem?_setIfInBounds, if_pos rfl]
              simp; omega
            · cases hy
              refine ⟨ab, 0, segL cc4 0 sz, rfl, .inr (by omega), lt_of_heap hto.st.blk, segL_len (by have := hto.st.fit; omega), ?_, Sch.Rep_mono (fun k hk => ?_) S hrep⟩
              · have := cellsAt_seg (a := 0) (n := sz) hto.st.blk
                exact this
              · rcases hk with h | h
                · exact .inl h
                · exact .inr (by have h' : ab + 1 ≤ k := h; omega)
      · refine .inr ⟨by simp, absent _ (fun y hy hy1 => ?_) ?_⟩
        · exact upB y hy hy1 _ _ _ _ _
        · unfold optRd
          rw [if_pos hb]
  · intro hoff f1 hk1 h11
    refine behind f1 w cc rs none ?_ (RdTo.refl hs (KeepR.of hk1 (by omega))) (fun _ _ => rfl) ⟨_, hnil, fun _ => rfl, fun x hx => by cases hx⟩
    simp only [Sch.rd, hoff, Bool.false_eq_true, if_false]; rfl
theorem soundR (ht : TyR P C) : ∀ S : Sch, SoundR P C S := by
  intro S
  induction S with
  | fin => exact soundR_fin
  | tags k o => exact soundR_tags ht k o
  | prim g k o p en d rest ih => exact soundR_prim ht g k o p en d rest ih
  | arrP g k o sT nul p rest ih => exact soundR_arrP ht g k o sT nul p rest ih
  | arrS g k o sT nul T PT sz df e rest ihe ih => exact soundR_arrS ht g k o sT nul T PT sz df e rest ihe ih
  | sub g k o T PT sz df e rest ihe ih => exact soundR_sub ht g k o T PT sz df e rest ihe ih
  | opt g k o T PT PP sz df e rest ihe ih => exact soundR_opt ht g k o T PT PP sz df e rest ihe ih
  | cus c =>
    intro T PT pv ct Q f w b a n lo cc e ver fl R rs hty hN hf hc hs hd h0 h1
    simp only [Sch.tyR, Bool.and_eq_true, List.all_eq_true, decide_eq_true_eq] at hty
    refine hN C.rs T PT pv ct Q f w b a n cc e ver fl R rs hty.1 (fun j hj => (hty.2 j hj).2) hf hc hs hd h0 ?_
    intro x rs' hx f' w' cc' hto hsame hrep
    refine h1 x rs' hx f' w' cc' ⟨hto.ext, hto.st, hto.size, fun j hj => hsame j (fun i hi hji => ?_), hto.keep⟩ hrep
    have := hty.2 i hi
    omega
end
end Go.Kg

set_option linter.unusedSimpArgs false
set_option linter.unusedVariables false
set_option linter.unusedSectionVars false
namespace Go.Kg
open Go
/-- a reader's cells -/
structure TyRb (P : Program) (E : Env) : Prop where
  z : zeroOf P E.tRd = some (.agg #[.slice none 0 0, .bool false])
  pl : places P E.tRd = some [(0, 1), (1, 1)]
  k : kindOf P E.tRd = .agg 2
structure MsgRk (P : Program) (C : CfgR) (T PT flex df n : Nat) (S : Sch) (nl : Nat) : Prop where
  rs7 : C.rs = 7
  ty : TyR P C
  rb : TyRb P C.E
  tyR : S.tyR P C T n 1 = true
  need : S.NeedR P C
  endc : EndC0 P C
  dfl : DefRC P C.toCfg n df S
  f0 : fldOff P T 0 = some 0
  nl : (S.genR C T PT (if C.fx then 10 else 9) (ctR C false nl)).2.l ≤ nl
theorem bld_rd {P : Program} {E : Env} (ht : TyRb P E) {sv : Value} (h : sv.cells = #[sv]) : bld? P E.tRd [(0, sv)] = some (.agg #[sv, .bool false]) := by
  have hz : (Value.agg #[.slice none 0 0, .bool false]).cells = #[.slice none 0 0, .bool false] := rfl
  simp only [bld?, ht.z, ht.pl, Instr.fill, hz]
  simp [h]
theorem bytes_one {w : World} {K : Nat → Prop} {v : Value} {s : List UInt8} (h : BytesAt w K v s) : v.oneCell' = true := by
  obtain ⟨a, c, rfl, _⟩ := h.len; rfl
def ReadPost (C : CfgR) (S : Sch) (flex b a n D : Nat) (w : World) (cc : Array Value) (e : TypeId) (ver : Int) (ev : Value) (rs : RS) (v : Value) (w' : World) : Prop :=
  Ext (· = b) w w' ∧ (S.rd ver (flagAt C.toCfg flex ver) rs = none → v = ev) ∧
  ∀ x rs', S.rd ver (flagAt C.toCfg flex ver) rs = some (x, rs') → v = (if rs'.bad then ev else .nilIface) ∧
    ∃ cc', w'.heap[b]? = some (.cells cc' e (0, 0)) ∧ cc'.size = cc.size ∧ (∀ j, (j < a + 1 ∨ a + n ≤ j) → cc'[j]? = cc[j]?) ∧ S.Rep w' (fun k => k = D ∨ w.heap.size < k) (segL cc' a n) x
theorem readFrom {P : Program} {C : CfgR} {T PT flex df n nl nt g : Nat} {S : Sch} (hm : MsgRk P C T PT flex df n S nl) (hnt : 3 ≤ nt) (hI : FnIs P g nt [.t 6] (msgR C T PT flex df false S nl)) {w : World} {b a D : Nat} {cc : Array Value} {e : TypeId} {sv : Value} {src : List UInt8} {ver : Int} {ev : Value}
    (hb : w.heap[b]? = some (.cells cc e (0, 0))) (hfit : a + n ≤ cc.size) (hver : (setD a (S.dst C.toCfg) cc)[a]? = some (.int .i16 ver)) (hchk : S.chkD (segL (setD a (S.dst C.toCfg) cc) a n) = true) (hsrc : BytesAt w (· = D) sv src) (hD : D < w.heap.size) (hbD : b ≠ D)
    (herr : w.cell? ⟨C.E.g_kbin_ErrNotEnoughData, 0, none⟩ = some ev) (hgb : C.E.g_kbin_ErrNotEnoughData ≠ b) (hv0 : 0 ≤ ver) (hev : ∃ t v, ev = .iface t v) :
    Ret P g #[.pointer (some ⟨b, a, none⟩), sv, .bool false] w fun v w' => ReadPost C S flex b a n D w (setD a (S.dst C.toCfg) cc) e ver ev ⟨src, false, nonNil sv⟩ v w' := by
  obtain ⟨hrs, ht, hrb, htyR, hN, hE, hdef, hf0, hnl⟩ := hm
  obtain ⟨et, evv, rfl⟩ := hev
  have hlt := lt_of_heap hb
  have hl7 := (genR_mono (C := C) S T PT (if C.fx then 10 else 9) (ctR C false nl)).1
  have q6 : 10 ≤ (ctR C false nl).l := by simp only [ctR]; split <;> omega
  have q7 : C.fx = true → 11 ≤ (ctR C false nl).l := by intro h; simp [ctR, h]
  have qt : nl + 10 ≤ (ctR C false nl).t := by simp [ctR]; split <;> omega
  have hnl10 : 10 ≤ nl := by omega
  refine hI.ret (args := [_, _, _]) hnt ?_
  generalize hccD : setD a (S.dst C.toCfg) cc = ccD at *
  have hszD : ccD.size = cc.size := by subst hccD; exact setD_size _ _ _
  have hsv1 := bytes_one hsrc
  have hgw : C.E.g_kbin_ErrNotEnoughData < w.heap.size := World.block_lt_of_cell? w _ herr
  generalize hR : (⟨w.heap.size, D, w.heap.size + 1, et, evv⟩ : Rdr) = R
  have rpb : R.pb = w.heap.size := by subst hR; rfl
  have rD : R.D = D := by subst hR; rfl
  have rbase : R.base = w.heap.size + 1 := by subst hR; rfl
  have rev : R.ev = .iface et evv := by subst hR; rfl
  -- behind the head
  have behind : ∀ (f : Nat → Value) (w1 : World), Ext (· = b) w w1 → StR C R b a n w1 ccD e ⟨src, false, nonNil sv⟩ → f (if C.fx then 10 else 9) = .pointer (some ⟨b, a, none⟩) → f 2 = .bool false → f 7 = .pointer (some ⟨w.heap.size, 0, none⟩) → f 8 = .int .i16 ver → (C.fx = true → f 9 = .bool (flagAt C.toCfg flex ver)) →
      (seqL ((S.genR C T PT (if C.fx then 10 else 9) (ctR C false nl)).1 ++ completeI C (S.genR C T PT (if C.fx then 10 else 9) (ctR C false nl)).2.t)).wp P (retPost P [.t 6] fun v w' => ReadPost C S flex b a n D w ccD e ver (.iface et evv) ⟨src, false, nonNil sv⟩ v w') f w1 := by
    intro f w1 he1 hst fpv f2 f7 f8 f9
    have tot : ∀ w', Ext (CB R b) w1 w' → Ext (· = b) w w' := by
      intro w' h
      refine he1.trans' h ?_
      rintro x hx (h | h)
      · rw [rpb] at h; omega
      · exact h
    refine seqL_append ?_
    refine soundR ht S T PT _ (ctR C false nl) _ f w1 b a n 1 ccD e ver (flagAt C.toCfg flex ver) R ⟨src, false, nonNil sv⟩ htyR hN ?_ (by omega) hst hchk ?_ ?_
    · refine ⟨fpv, ?_, fun _ => hv0, f8, f9, fun hx => by simp [flagAt, hx], by rw [hrs, rpb]; exact f7, f2, q6, ⟨by omega, by omega⟩⟩
      split
      · rename_i hx; exact ⟨by omega, by have := q7 hx; omega⟩
      · exact ⟨by omega, by omega⟩
    · intro hnone f' w' h6 he
      show retPost P [.t 6] (fun v w' => ReadPost C S flex b a n D w ccD e ver (.iface et evv) ⟨src, false, nonNil sv⟩ v w') .ret f' w'
      simp [h6, rev]
      exact ⟨tot w' he, fun _ => rfl, fun x rs' h => by rw [hnone] at h; cases h⟩
    · intro x rs' hx f' w' cc' hto hrep
      have k7 : f' C.rs = .pointer (some ⟨R.pb, 0, none⟩) := by rw [hrs, hto.keep 7 (by omega) (.inl (by omega)), rpb]; exact f7
      show (seqL (completeI C _)).wp P _ f' w'
      refine r_complete hE hto.st k7 ?_
      intro f'' h6
      show retPost P [.t 6] (fun v w' => ReadPost C S flex b a n D w ccD e ver (.iface et evv) ⟨src, false, nonNil sv⟩ v w') .ret f'' w'
      simp [h6, rev]
      refine ⟨tot w' hto.ext, fun h => (by rw [hx] at h; cases h), fun x2 rs2 h2 => ?_⟩
      rw [hx] at h2
      cases h2
      refine ⟨rfl, cc', hto.st.blk, hto.size, hto.same, Sch.Rep_mono (fun k hk => ?_) S hrep⟩
      rcases hk with h | h
      · exact .inl (by rw [← rD]; exact h)
      · exact .inr (by rw [rbase] at h; omega)
  -- the head
  have n0 : ∀ k, (0 = nl + k) = False := by intro k; simp; omega
  have n1 : ∀ k, (1 = nl + k) = False := by intro k; simp; omega
  have n2 : ∀ k, (2 = nl + k) = False := by intro k; simp; omega
  have n6 : ∀ k, (6 = nl + k) = False := by intro k; simp; omega
  have n7 : ∀ k, (7 = nl + k) = False := by intro k; simp; omega
  have n8 : ∀ k, (8 = nl + k) = False := by intro k; simp; omega
  have n9 : ∀ k, (9 = nl + k) = False := by intro k; simp; omega
  have n0' : (0 = nl) = False := by simp; omega
  have n1' : (1 = nl) = False := by simp; omega
  have n2' : (2 = nl) = False := by simp; omega
  have n7' : (7 = nl) = False := by simp; omega
  have n8' : (8 = nl) = False := by simp; omega
  have n9' : (9 = nl) = False := by simp; omega
  have m0 : (nl = 0) = False := by simp; omega
  have m1 : (nl = 1) = False := by simp; omega
  have m2 : (nl = 2) = False := by simp; omega
  have m3 : (nl = 3) = False := by simp; omega
  have m4 : (nl = 4) = False := by simp; omega
  have m5 : (nl = 5) = False := by simp; omega
  have m6 : (nl = 6) = False := by simp; omega
  have m7 : (nl = 7) = False := by simp; omega
  have m8 : (nl = 8) = False := by simp; omega
  have m9 : (nl = 9) = False := by simp; omega
  have kI16 : kindOf P C.E.tI16 = .scl := ht.c.kI16
  -- the world behind the head
  generalize hw1 : w.setBlk b (.cells ccD e (0, 0)) = w1
  have hw1s : w1.heap.size = w.heap.size := by subst hw1; simp
  have hbw1 : w1.heap[b]? = some (.cells ccD e (0, 0)) := by subst hw1; exact setBlk_same hb
  have hE1 : Ext (fun k => k = b) w w1 := by subst hw1; exact (Ext.refl (fun k => k = b) w).setBlk (b := b) (Or.inr rfl) _
  generalize hw2 : (w1.alloc (.cells #[.slice none 0 0, .bool false] C.E.tRd)).setBlk w1.heap.size (.cells #[sv, .bool false] C.E.tRd (0, 0)) = w2
  have hE2 : Ext none1 w1 w2 := by subst hw2; exact ((Ext.refl none1 w1).alloc _).setBlk (.inl (Nat.le_refl _)) _
  have hpb2 : w2.heap[w.heap.size]? = some (.cells #[sv, .bool false] C.E.tRd (0, 0)) := by subst hw2; rw [← hw1s]; exact setBlk_same alloc_new
  have hbw2 : w2.heap[b]? = some (.cells ccD e (0, 0)) := hE2.old hbw1 (fun h => h)
  have hE12 : Ext (fun k => k = b) w w2 := hE1.trans (hE2.mono (fun _ _ h => h.elim))
  have hst : StR C R b a n w2 ccD e ⟨src, false, nonNil sv⟩ := by
    refine ⟨hbw2, by omega, ?_, ⟨⟨?_, ?_, ?_, ?_⟩, ⟨?_, ?_, ?_⟩, ?_, ⟨?_, ?_⟩⟩⟩
    · rw [rpb, rD]
      exact ⟨sv, hpb2, hsrc.ext hE12 (by rintro k _ rfl h; exact hbD h.symm), rfl⟩
    · rw [rpb, rbase]; omega
    · rw [rbase]; omega
    · rw [rD, rbase]; omega
    · rw [rbase]; exact lt_of_heap hpb2
    · rw [rpb, rD]; omega
    · rw [rD]; exact hbD
    · rw [rpb]; omega
    · rw [rev]; exact hE12.cell herr (fun h => hgb h)
    · rw [rpb]; omega
    · exact hgb
  have cv : w2.cell? ⟨b, a, none⟩ = some (.int .i16 ver) := by rw [cell_of_blk hbw2]; exact hver
  have key : ∀ (fl : List Ir) (pv t' : Nat), pv = (if C.fx then 10 else 9) → t' = nl + (if C.fx then 12 else 9) → (if C.fx then [Ir.reg [⟨none, some (nl + 9), .move (.tmp 8), C.E.tI16⟩, ⟨none, some (nl + 10), .binOp .geq C.E.tI16 (.tmp (nl + 9)) (.const (.int .i16 flex)) C.E.tI16, C.E.tB⟩, ⟨none, some 9, .assign (.tmp (nl + 10)), C.E.tB⟩],
      .reg [⟨none, some (nl + 11), .move (.tmp 9), C.E.tB⟩]] else []) = fl →
      (seqL ([.reg [⟨none, some 6, .assign (.const .nilIface), C.E.tErr⟩],
    .reg [⟨none, some nl, .move (.tmp 0), PT⟩, ⟨none, some (nl + 1), .call { callee := .value (.func df), args := #[.tmp nl], argTypes := #[PT] }, C.E.tNil⟩],
    .reg [⟨none, some (nl + 2), .move (.tmp 1), C.E.tBs⟩, ⟨none, some (nl + 3), .build C.E.tRd #[(0, .tmp (nl + 2))], C.E.tRd⟩, ⟨none, some 7, .alloc C.E.tRd, C.E.tNil⟩, ⟨none, none, .store C.E.tRd (.tmp 7) (.tmp (nl + 3)), C.E.tNil⟩],
    .reg (addrR C.toCfg T PT 0 0 (nl + 4) ++ [⟨none, some (nl + 7), .load C.E.tI16 (.tmp (nl + 6)), C.E.tI16⟩, ⟨none, some 8, .assign (.tmp (nl + 7)), C.E.tI16⟩]),
    .reg [⟨none, some (nl + 8), .move (.tmp 8), C.E.tI16⟩]] ++ (fl ++ ([.reg [⟨none, some t', .move (.tmp 0), PT⟩, ⟨none, some pv, .assign (.tmp t'), PT⟩]] ++ ((S.genR C T PT (if C.fx then 10 else 9) (ctR C false nl)).1 ++ completeI C (S.genR C T PT (if C.fx then 10 else 9) (ctR C false nl)).2.t))))).wp P
        (retPost P [.t 6] fun v w' => ReadPost C S flex b a n D w ccD e ver (.iface et evv) ⟨src, false, nonNil sv⟩ v w') (frame0 [.pointer (some ⟨b, a, none⟩), sv, .bool false]) w := by
    intro fl pv t' hpv ht' hfl
    simp only [List.cons_append, List.nil_append]
    refine seqL_cons (wp_reg ?_)
    simp
    refine seqL_cons (wp_reg ?_)
    simp
    refine (hdef w b a cc e hb hfit).mono ?_
    rintro v w1' ⟨rfl⟩
    rw [hccD, hw1]
    refine seqL_cons (wp_reg ?_)
    simp [n0, n0', n1, n1', n2, n2', n6, n7, n7', n8, n8', n9, n9', m0, m1, m2, m3, m4, m5, m6, m7, m8, m9, bld_rd hrb (cells_one hsv1), hrb.z, Value.cells, store_agg hrb.k, putK_blk alloc_new, hsv1]
    have hov : over #[.slice none 0 0, .bool false] 0 [sv, .bool false] = #[sv, .bool false] := by simp [over]
    rw [hov, hw2]
    refine ⟨by simp only [allOne, hsv1, Bool.true_and]; rfl, ?_⟩
    show (seqL _).wp P _ _ w2
    refine seqL_cons (wp_reg ?_)
    simp [n0, n0', n1, n1', n2, n2', n6, n7, n7', n8, n8', n9, n9', m0, m1, m2, m3, m4, m5, m6, m7, m8, m9, addrR, hf0, Addr.add_mk, ld_scl kI16, cv]
    refine seqL_cons (wp_reg ?_)
    simp [n0, n0', n1, n1', n2, n2', n6, n7, n7', n8, n8', n9, n9', m0, m1, m2, m3, m4, m5, m6, m7, m8, m9]
    refine seqL_append ?_
    have e1w : w1.heap.size = w.heap.size := hw1s
    by_cases hx : C.fx = true
    · rw [if_pos hx] at hfl
      subst hfl
      rw [if_pos hx] at hpv ht'
      subst hpv
      subst ht'
      refine seqL_cons (wp_reg ?_)
      simp [n0, n0', n1, n1', n2, n2', n6, n7, n7', n8, n8', n9, n9', m0, m1, m2, m3, m4, m5, m6, m7, m8, m9]
      show (Ir.reg _).wp P _ _ _
      refine wp_reg ?_
      simp [n0, n0', n1, n1', n2, n2', n6, n7, n7', n8, n8', n9, n9', m0, m1, m2, m3, m4, m5, m6, m7, m8, m9]
      refine seqL_cons (wp_reg ?_)
      simp [n0, n0', n1, n1', n2, n2', n6, n7, n7', n8, n8', n9, n9', m0, m1, m2, m3, m4, m5, m6, m7, m8, m9]
      refine behind _ w2 hE12 hst ?_ ?_ ?_ ?_ ?_
      · simp [n0, n0', n1, n1', n2, n2', n6, n7, n7', n8, n8', n9, n9', m0, m1, m2, m3, m4, m5, m6, m7, m8, m9, hx]
      · simp [n0, n0', n1, n1', n2, n2', n6, n7, n7', n8, n8', n9, n9', m0, m1, m2, m3, m4, m5, m6, m7, m8, m9]
      · simp [n0, n0', n1, n1', n2, n2', n6, n7, n7', n8, n8', n9, n9', m0, m1, m2, m3, m4, m5, m6, m7, m8, m9, e1w]
      · simp [n0, n0', n1, n1', n2, n2', n6, n7, n7', n8, n8', n9, n9', m0, m1, m2, m3, m4, m5, m6, m7, m8, m9]
      · intro _; simp [n0, n0', n1, n1', n2, n2', n6, n7, n7', n8, n8', n9, n9', m0, m1, m2, m3, m4, m5, m6, m7, m8, m9, flagAt, hx]
    · rw [if_neg hx] at hfl
      subst hfl
      rw [if_neg hx] at hpv ht'
      subst hpv
      subst ht'
      show (seqL _).wp P _ _ w2
      refine seqL_cons (wp_reg ?_)
      simp [n0, n0', n1, n1', n2, n2', n6, n7, n7', n8, n8', n9, n9', m0, m1, m2, m3, m4, m5, m6, m7, m8, m9]
      refine behind _ w2 hE12 hst ?_ ?_ ?_ ?_ ?_
      · simp [n0, n0', n1, n1', n2, n2', n6, n7, n7', n8, n8', n9, n9', m0, m1, m2, m3, m4, m5, m6, m7, m8, m9, hx]
      · simp [n0, n0', n1, n1', n2, n2', n6, n7, n7', n8, n8', n9, n9', m0, m1, m2, m3, m4, m5, m6, m7, m8, m9]
      · simp [n0, n0', n1, n1', n2, n2', n6, n7, n7', n8, n8', n9, n9', m0, m1, m2, m3, m4, m5, m6, m7, m8, m9, e1w]
      · simp [n0, n0', n1, n1', n2, n2', n6, n7, n7', n8, n8', n9, n9', m0, m1, m2, m3, m4, m5, m6, m7, m8, m9]
      · intro h; exact absurd h hx
  have := key _ _ _ rfl rfl rfl
  simp only [← List.append_assoc] at this
  exact this
end Go.Kg

set_option linter.unusedSimpArgs false
set_option linter.unusedVariables false
set_option linter.unusedSectionVars false
namespace Go.Kg
open Go
section
variable {P : Program} {C : CfgR}
theorem primR_of {p : Prim} {f : Nat} {g : RS → Value × RS} {fl : Bool} (hf : p.fR C.E fl = f) (h : RdC P C.E.tRd f g) (h1 : ∀ w K rs, p.rep1 w K (g rs).1 (p.rd fl rs).1) (h2 : ∀ rs, (g rs).2 = (p.rd fl rs).2) : ∀ w pb D rs, pb ≠ D → D < w.heap.size → RdAt C.E.tRd w pb D rs →
    Ret P (p.fR C.E fl) #[.pointer (some ⟨pb, 0, none⟩)] w fun v w' => p.rep1 w' (fun b => b = D ∨ w.heap.size ≤ b) v (p.rd fl rs).1 ∧ Ext (· = pb) w w' ∧ RdAt C.E.tRd w' pb D (p.rd fl rs).2 := by
  intro w pb D rs hne hD hr
  subst hf
  refine (h w pb D rs hne hr).mono ?_
  rintro v w1 ⟨rfl, he, hr1⟩
  exact ⟨h1 _ _ _, he, by rw [← h2]; exact hr1⟩
theorem primR_i8 (h : RdC P C.E.tRd C.E.f_pkbin_Reader_Int8 fun rs => (.int .i8 (IntKind.i8.wrap (rdFixed 1 rs).1), (rdFixed 1 rs).2)) : PrimR P C .i8 := fun fl _ => primR_of rfl h (fun _ _ _ => rfl) (fun _ => rfl)
theorem primR_i32 (h : RdC P C.E.tRd C.E.f_pkbin_Reader_Int32 fun rs => (.int .i32 (IntKind.i32.wrap (rdFixed 4 rs).1), (rdFixed 4 rs).2)) : PrimR P C .i32 := fun fl _ => primR_of rfl h (fun _ _ _ => rfl) (fun _ => rfl)
theorem primR_i64 (h : RdC P C.E.tRd C.E.f_pkbin_Reader_Int64 fun rs => (.int .i64 (IntKind.i64.wrap (rdFixed 8 rs).1), (rdFixed 8 rs).2)) : PrimR P C .i64 := fun fl _ => primR_of rfl h (fun _ _ _ => rfl) (fun _ => rfl)
theorem primR_str (h : RdC P C.E.tRd C.E.f_pkbin_Reader_String fun rs => (strV (rdStr rs).1, (rdStr rs).2)) (hc : C.fx = true → RdC P C.E.tRd C.E.f_pkbin_Reader_CompactString fun rs => (strV (rdCStr rs).1, (rdCStr rs).2)) : PrimR P C .str := by
  intro fl hx
  cases fl
  · exact primR_of rfl h (fun _ _ _ => rfl) (fun _ => rfl)
  · exact primR_of rfl (hc (hx rfl)) (fun _ _ _ => rfl) (fun _ => rfl)
theorem primRP_of {p : Prim} {f : Nat} {g : RS → p.T × RS} {Rx : World → Nat → World → Value → p.T → Prop} {fl : Bool} (hf : p.fR C.E fl = f) (h : RdPC P C.E.tRd f Rx g) (hg : p.rd fl = g) (h1 : ∀ w0 D w v x, Rx w0 D w v x → p.rep1 w (fun b => b = D ∨ w0.heap.size ≤ b) v x) : ∀ w pb D rs, pb ≠ D → D < w.heap.size → RdAt C.E.tRd w pb D rs →
    Ret P (p.fR C.E fl) #[.pointer (some ⟨pb, 0, none⟩)] w fun v w' => p.rep1 w' (fun b => b = D ∨ w.heap.size ≤ b) v (p.rd fl rs).1 ∧ Ext (· = pb) w w' ∧ RdAt C.E.tRd w' pb D (p.rd fl rs).2 := by
  intro w pb D rs hne hD hr
  subst hf
  rw [hg]
  refine (h w pb D rs hne hD hr).mono ?_
  rintro v w1 ⟨h2, he, hr1⟩
  exact ⟨h1 _ _ _ _ _ h2, he, hr1⟩
theorem primR_uuid (h : RdPC P C.E.tRd C.E.f_pkbin_Reader_Uuid RUuid rdUuid) : PrimR P C .uuid := fun fl _ => primRP_of rfl h rfl (fun _ _ _ _ _ h => h)
theorem primR_nstr (h : RdPC P C.E.tRd C.E.f_pkbin_Reader_NullableString RNStr rdNStr) (hc : C.fx = true → RdPC P C.E.tRd C.E.f_pkbin_Reader_CompactNullableString RNStr rdCNStr) : PrimR P C .nstr := by
  intro fl hx
  cases fl
  · exact primRP_of rfl h rfl (fun w0 D w v x h => show StrPtr w (fun b => b = D ∨ w0.heap.size ≤ b) v x from StrPtr.mono (fun _ hb => Or.inr hb) h)
  · exact primRP_of rfl (hc (hx rfl)) rfl (fun w0 D w v x h => show StrPtr w (fun b => b = D ∨ w0.heap.size ≤ b) v x from StrPtr.mono (fun _ hb => Or.inr hb) h)
theorem lenRC_of (h : RdC P C.E.tRd C.E.f_pkbin_Reader_ArrayLen fun rs => (.int .i32 (rdLen rs).1, (rdLen rs).2)) (hc : C.fx = true → RdC P C.E.tRd C.E.f_pkbin_Reader_CompactArrayLen fun rs => (.int .i32 (rdCLen rs).1, (rdCLen rs).2)) : LenRC P C := by
  intro fl hx w pb D rs hne hr
  cases fl
  · exact h w pb D rs hne hr
  · exact hc (hx rfl) w pb D rs hne hr
theorem endC_of (ht : TyRs P C.E) (kErr : kindOf P C.E.tErr = .scl) (h1 : FnIs P C.E.f_pkbin_Reader_Ok nt_pkbin_Reader_Ok (rs_pkbin_Reader_Ok C.E) (ir_pkbin_Reader_Ok C.E))
    (h2 : FnIs P C.E.f_pkbin_Reader_Complete nt_pkbin_Reader_Complete (rs_pkbin_Reader_Complete C.E) (ir_pkbin_Reader_Complete C.E)) : EndC P C :=
  { ok := fun w pb D rs hr => c_Ok ht h1 hr, complete := fun w pb D rs ev hr hev => c_Complete ht kErr h2 hr hev }
end
end Go.Kg

set_option linter.unusedSimpArgs false
set_option linter.unusedVariables false
namespace Go.Kg
open Go
def irNewPtr (C : Cfg) (T PT fDef : Nat) : Ir :=
  .seq (.reg [⟨none, some 0, .assign (.const (.pointer none)), PT⟩]) (.seq (.reg [⟨none, some 1, .alloc T, C.E.tNil⟩])
  (.seq (.reg [⟨none, some 2, .call { callee := .value (.func fDef), args := #[.tmp 1], argTypes := #[T] }, C.E.tNil⟩])
  (.seq (.reg [⟨none, some 0, .assign (.tmp 1), PT⟩]) .ret)))
def irSetV (C : Cfg) (T PT : Nat) : Ir :=
  .reg [⟨none, some 4, .move (.tmp 0), PT⟩, ⟨none, some 5, .move (.tmp 1), C.E.tI16⟩, ⟨none, some 6, .nilCheck (.tmp 4), C.E.tNil⟩, ⟨none, some 7, .fieldAddr T (.tmp 6) 0, C.E.tNil⟩, ⟨none, none, .store C.E.tI16 (.tmp 7) (.tmp 5), C.E.tNil⟩]
theorem newPtrC {P : Program} {C : Cfg} {T PT n g nt fDef : Nat} {S : Sch} {z : Array Value} (hI : FnIs P g nt [.t 0] (irNewPtr C T PT fDef)) (hz : zeroOf P T = some (.agg z)) (hn : n ≤ z.size)
    (hD : ∀ {w : World} {b a : Nat} {c : Array Value} {e : TypeId}, w.heap[b]? = some (.cells c e (0, 0)) → a + n ≤ c.size → Ret P fDef #[.pointer (some ⟨b, a, none⟩)] w fun _ w' => w' = w.setBlk b (.cells (setD a (S.dst C) c) e (0, 0))) (w : World) :
    Ret P g #[] w fun v w' => v = .pointer (some ⟨w.heap.size, 0, none⟩) ∧ w'.heap[w.heap.size]? = some (.cells (setD 0 (S.dst C) z) T (0, 0)) ∧ Ext none1 w w' ∧ w.heap.size < w'.heap.size := by
  refine hI.call (args := []) (by simp) ?_
  simp [irNewPtr, hz, Value.cells]
  refine (hD (b := w.heap.size) (a := 0) (c := z) (e := T) alloc_new (by omega)).mono ?_
  rintro v w' rfl
  have h1 : ((w.alloc (.cells z T)).setBlk w.heap.size (.cells (setD 0 (S.dst C) z) T (0, 0))).heap[w.heap.size]? = some (.cells (setD 0 (S.dst C) z) T (0, 0)) := setBlk_same alloc_new
  have h2 : Ext none1 w ((w.alloc (.cells z T)).setBlk w.heap.size (.cells (setD 0 (S.dst C) z) T (0, 0))) := ((Ext.refl none1 w).alloc _).setBlk (.inl (Nat.le_refl _)) _
  first | exact ⟨rfl, h1, h2, by simp⟩ | exact ⟨h1, h2, by simp⟩
theorem setVC {P : Program} {C : Cfg} {T PT g nt : Nat} (hnt : 2 ≤ nt) (hI : FnIs P g nt [] (irSetV C T PT)) (h0 : fldOff P T 0 = some 0) (hk : kindOf P C.E.tI16 = .scl) {w : World} {b : Nat} {c : Array Value} {e : TypeId} (hb : w.heap[b]? = some (.cells c e (0, 0))) (hc : 0 < c.size) (ver : Int) :
    Ret P g #[.pointer (some ⟨b, 0, none⟩), .int .i16 ver] w fun _ w' => w' = w.setBlk b (.cells (c.setIfInBounds 0 (.int .i16 ver)) e (0, 0)) := by
  refine hI.call (args := [_, _]) hnt ?_
  simp [irSetV, h0, Addr.add_mk, store_scl hk, Value.oneCell', put1K_blk hb, hc]
end Go.Kg

set_option linter.unusedSimpArgs false
set_option linter.unusedVariables false
set_option linter.unusedSectionVars false
namespace Go.Kg
open Go
/-- what is told of a thing lies in blocks that are there -/
theorem Sch.Rep_lt {w : World} {K : Nat → Prop} : ∀ (S : Sch) {cs : List Value} {x : S.T}, S.Rep w K cs x → S.Rep w (fun k => k < w.heap.size) cs x := by
  have hB : ∀ {v : Value} {s : List UInt8}, BytesAt w K v s → BytesAt w (fun k => k < w.heap.size) v s := by
    rintro v s (h | ⟨b, o, c, h1, h2, h3, h4⟩)
    · exact .inl h
    · refine .inr ⟨b, o, c, h1, h2, fun hs => ?_, h4⟩
      cases s with
      | nil => exact absurd rfl hs
      | cons y s => exact World.block_lt_of_cell? w _ (h4 0 y rfl)
  have hP : ∀ {p : Prim} {v : Value} {x : p.T}, p.rep1 w K v x → p.rep1 w (fun k => k < w.heap.size) v x := by
    intro p v x h
    cases p with
    | bytes => exact hB h
    | nstr =>
      cases x with
      | none => exact h
      | some l => obtain ⟨a, h1, _, h3⟩ := h; exact ⟨a, h1, World.block_lt_of_cell? w _ h3, h3⟩
    | nbytes =>
      cases x with
      | none => exact h
      | some l => exact ⟨hB h.1, h.2⟩
    | _ => exact h
  intro S
  induction S with
  | fin => intro cs x h; trivial
  | tags k o =>
    intro cs x ⟨v, h1, h2⟩
    refine ⟨v, h1, ?_⟩
    rcases h2 with h | ⟨b, es, clock, rfl, hk, hb, hs, hn, hl, hx⟩
    · exact .inl h
    · refine .inr ⟨b, es, clock, rfl, lt_of_heap hb, hb, hs, hn, hl, fun i e x h1 h2 => ?_⟩
      obtain ⟨a1, a2, a3, a4⟩ := hx i e x h1 h2
      exact ⟨a1, a2, a3, hB a4⟩
  | prim g k o p en d rest ih => intro cs x ⟨⟨v, h1, h2⟩, h3⟩; exact ⟨⟨v, h1, hP h2⟩, ih h3⟩
  | arrP g k o sT nul p rest ih =>
    intro cs x ⟨⟨v, ls, h1, h2, h3, h4, h5⟩, h6⟩
    refine ⟨⟨v, ls, h1, ?_, h3, h4, fun i es y hi hy => ?_⟩, ih h6⟩
    · cases ls with
      | none => exact h2
      | some ls => obtain ⟨b, o, c, rfl, hk, hn, hx⟩ := h2; exact ⟨b, o, c, rfl, h3.2 _ _ _ rfl, hn, hx⟩
    · obtain ⟨u, a1, a2⟩ := h5 i es y hi hy
      exact ⟨u, a1, hP a2⟩
  | arrS g k o sT nul T PT sz df e rest ihe ih =>
    intro cs x ⟨⟨v, ls, h1, h2, h3, h4, h5⟩, h6⟩
    refine ⟨⟨v, ls, h1, ?_, h3, h4, fun i es y hi hy => ihe (h5 i es y hi hy)⟩, ih h6⟩
    cases ls with
    | none => exact h2
    | some ls => obtain ⟨b, o, c, rfl, hk, hn, hx⟩ := h2; exact ⟨b, o, c, rfl, h3.2 _ _ _ rfl, hn, hx⟩
  | sub g k o T PT sz df e rest ihe ih => intro cs x ⟨h1, h2⟩; exact ⟨ihe h1, ih h2⟩
  | opt g k o T PT PP sz df e rest ihe ih =>
    intro cs x ⟨⟨v, h1, h2, h3⟩, h4⟩
    refine ⟨⟨v, h1, h2, fun y hy => ?_⟩, ih h4⟩
    obtain ⟨b, c, es, a1, a2, a3, a4, a5, a6⟩ := h3 y hy
    exact ⟨b, c, es, a1, a3, a3, a4, a5, ihe a6⟩
  | cus c => intro cs x h; exact c.rep_mono (fun b hb => hb.2) (c.rep_lt h)
def irRF (C : Cfg) (PT fR : Nat) : Ir :=
  .seq (.reg [⟨none, some 4, .assign (.const .nilIface), C.E.tErr⟩])
  (.seq (.reg [⟨none, some 5, .move (.tmp 0), PT⟩, ⟨none, some 6, .move (.tmp 1), C.E.tBs⟩, ⟨none, some 7, .call { callee := .value (.func fR), args := #[.tmp 5, .tmp 6, .const (.bool false)], argTypes := #[PT, C.E.tBs, C.E.tB] }, C.E.tErr⟩,
    ⟨none, some 4, .assign (.tmp 7), C.E.tErr⟩]) .ret)
theorem c_RF {P : Program} {C : Cfg} {PT fR g nt : Nat} (hnt : 2 ≤ nt) (hI : FnIs P g nt [.t 4] (irRF C PT fR)) {u v : Value} {w : World} {X : Value → World → Prop} (h : Ret P fR #[u, v, .bool false] w X) : Ret P g #[u, v] w X := by
  refine hI.call (args := [_, _]) hnt ?_
  simp [irRF]
  refine h.mono ?_
  intro v' w' hx
  simpa using hx
def irAgain (C : Cfg) (PT fPtr fSet fRF fApp : Nat) : Ir :=
  .seq (.reg [⟨none, some 4, .assign (.const (.slice none 0 0)), C.E.tBs⟩, ⟨none, some 5, .assign (.const (.bool false)), C.E.tB⟩])
  (.seq (.reg [⟨none, some 7, .call { callee := .value (.func fPtr), args := #[], argTypes := #[] }, PT⟩, ⟨none, some 6, .assign (.tmp 7), PT⟩])
  (.seq (.reg [⟨none, some 8, .move (.tmp 6), PT⟩, ⟨none, some 9, .move (.tmp 0), C.E.tInt⟩, ⟨none, some 10, .convert C.E.tInt C.E.tI16 (.tmp 9), C.E.tI16⟩,
    ⟨none, some 11, .call { callee := .value (.func fSet), args := #[.tmp 8, .tmp 10], argTypes := #[PT, C.E.tI16] }, C.E.tNil⟩])
  (.seq (.seq (.reg [⟨none, some 12, .move (.tmp 6), PT⟩, ⟨none, some 13, .move (.tmp 1), C.E.tBs⟩, ⟨none, some 14, .call { callee := .builtin .append, args := #[.const (.slice none 0 0), .tmp 13], argTypes := #[C.E.tBs, C.E.tBs] }, C.E.tBs⟩,
      ⟨none, some 15, .call { callee := .value (.func fRF), args := #[.tmp 12, .tmp 14], argTypes := #[PT, C.E.tBs] }, C.E.tErr⟩, ⟨none, some 16, .binOp .neq C.E.tErr (.tmp 15) (.const .nilIface) C.E.tErr, C.E.tB⟩])
    (.cond 16 (.seq (.reg [⟨none, some 4, .assign (.const (.slice none 0 0)), C.E.tBs⟩, ⟨none, some 5, .assign (.const (.bool false)), C.E.tB⟩]) .ret) .skip))
  (.seq (.reg [⟨none, some 17, .move (.tmp 6), PT⟩, ⟨none, some 18, .call { callee := .value (.func fApp), args := #[.tmp 17, .const (.slice none 0 0)], argTypes := #[PT, C.E.tBs] }, C.E.tBs⟩,
    ⟨none, some 4, .assign (.tmp 18), C.E.tBs⟩, ⟨none, some 5, .assign (.const (.bool true)), C.E.tB⟩]) .ret))))
theorem BytesAt.oneD {w : World} {K : Nat → Prop} {v : Value} {s : List UInt8} (h : BytesAt w K v s) (D0 : Nat) : ∃ D, BytesAt w (· = D) v s ∧ (D = D0 ∨ (K D ∧ D < w.heap.size)) := by
  rcases h with h | ⟨b, o, c, rfl, h1, h2, h3⟩
  · exact ⟨D0, .inl h, .inl rfl⟩
  · cases s with
    | nil => exact ⟨D0, .inr ⟨b, o, c, rfl, h1, by simp, by simp⟩, .inl rfl⟩
    | cons x s => exact ⟨b, .inr ⟨b, o, c, rfl, h1, fun _ => rfl, h3⟩, .inr ⟨h2 (by simp), World.block_lt_of_cell? w _ (h3 0 x rfl)⟩⟩
/-- what Again hands back -/
def AgainPost (S : Sch) (ver : Int) (fl : Bool) (src : List UInt8) (w : World) (u : Value) (w' : World) : Prop :=
  Ext none1 w w' ∧ ∃ nn, match S.rd ver fl ⟨src, false, nn⟩ with
    | some (x, rs) => if rs.bad then u = .tuple #[.slice none 0 0, .bool false] else ∃ v, u = .tuple #[v, .bool true] ∧ BytesAt w' (fun k => w.heap.size ≤ k) v (S.wr ver fl x)
    | none => u = .tuple #[.slice none 0 0, .bool false]
theorem againC {P : Program} {C : CfgR} {T PT flex n g nt fPtr fSet fRF fApp fR df nl nl2 ntR ntRF : Nat} {S : Sch} {z : Array Value} {et : Nat} {ev : Value} (hnt : 2 ≤ nt) (hI : FnIs P g nt [.t 4, .t 5] (irAgain C.toCfg PT fPtr fSet fRF fApp))
    (hRF : FnIs P fRF ntRF [.t 4] (irRF C.toCfg PT fR)) (hntRF : 2 ≤ ntRF) (hm : MsgRk P C T PT flex df n S nl) (hntR : 3 ≤ ntR) (hR : FnIs P fR ntR [.t 6] (msgR C T PT flex df false S nl))
    (hPtr : ∀ w, Ret P fPtr #[] w fun v w' => v = .pointer (some ⟨w.heap.size, 0, none⟩) ∧ w'.heap[w.heap.size]? = some (.cells (setD 0 (S.dst C.toCfg) z) T (0, 0)) ∧ Ext none1 w w' ∧ w.heap.size < w'.heap.size)
    (hSet : ∀ {w : World} {b : Nat} {c : Array Value} {e : TypeId}, w.heap[b]? = some (.cells c e (0, 0)) → 0 < c.size → ∀ ver : Int, Ret P fSet #[.pointer (some ⟨b, 0, none⟩), .int .i16 ver] w fun _ w' => w' = w.setBlk b (.cells (c.setIfInBounds 0 (.int .i16 ver)) e (0, 0)))
    (hApp : ∀ {w : World} {b a base : Nat} {cs : List Value} {x : S.T} {ver : Int} {v : Value} {s : List UInt8}, CellsAt w b a cs → cs[0]? = some (.int .i16 ver) → S.Rep w (· < base) cs x → S.TagsOk tagsOk x → b < base → OwnB C.E.tU8 w base v s → base ≤ w.heap.size →
      s.length + (S.wr ver (flagAt C.toCfg flex ver) x).length ≤ 1099511627776 → Ret P fApp #[.pointer (some ⟨b, a, none⟩), v] w fun v' w' => OwnB C.E.tU8 w' base v' (s ++ S.wr ver (flagAt C.toCfg flex ver) x) ∧ Grew w v w' v')
    (iI16 : intKind? P C.E.tI16 = some .i16) (iInt : intKind? P C.E.tInt = some .i64) (tBs : SliI P C.E.tBs C.E.tU8 1 1 (.int .u8 0)) (uErr : ∃ ms, P.underlying C.E.tErr = some (.interface ms)) (hev : ∃ t v, ev = .iface t v) (hn : z.size = n) (hn1 : 1 ≤ n)
    (hidem : ∀ ver : Int, (setD 0 (S.dst C.toCfg) ((setD 0 (S.dst C.toCfg) z).setIfInBounds 0 (.int .i16 ver))) = (setD 0 (S.dst C.toCfg) z).setIfInBounds 0 (.int .i16 ver))
    (hchk : ∀ ver : Int, S.chkD ((setD 0 (S.dst C.toCfg) z).setIfInBounds 0 (.int .i16 ver)).toList = true) (ver : Int) (hv : 0 ≤ ver ∧ ver < 32768)
    {w : World} {K : Nat → Prop} {sv : Value} {src : List UInt8} (hsrc : BytesAt w K sv src) (hlen : src.length ≤ 1099511627776) (herr : w.cell? ⟨C.E.g_kbin_ErrNotEnoughData, 0, none⟩ = some ev)
    (hgood : ∀ nn x rs, S.rd ver (flagAt C.toCfg flex ver) ⟨src, false, nn⟩ = some (x, rs) → rs.bad = false → S.TagsOk tagsOk x ∧ (S.wr ver (flagAt C.toCfg flex ver) x).length ≤ 1099511627776) :
    Ret P g #[.int .i64 ver, sv] w fun u w' => AgainPost S ver (flagAt C.toCfg flex ver) src w u w' := by
  refine hI.call (args := [_, _]) hnt ?_
  simp [irAgain]
  refine (hPtr w).mono ?_
  rintro v w1 ⟨rfl, hb1, he1, hlt1⟩
  have e1 : IntKind.i16.wrap ver = ver := by simp [IntKind.wrap, IntKind.signed, IntKind.bits]; omega
  simp [iI16, iInt, e1]
  have hs0 : 0 < (setD 0 (S.dst C.toCfg) z).size := by rw [setD_size]; omega
  refine (hSet hb1 hs0 ver).mono ?_
  rintro v w2 rfl
  generalize hcc : (setD 0 (S.dst C.toCfg) z).setIfInBounds 0 (.int .i16 ver) = cc
  have hccn : cc.size = n := by subst hcc; simp [setD_size, hn]
  generalize hw2 : w1.setBlk w.heap.size (.cells cc T (0, 0)) = w2
  have hb2 : w2.heap[w.heap.size]? = some (.cells cc T (0, 0)) := by subst hw2; exact setBlk_same hb1
  have he2 : Ext none1 w w2 := by subst hw2; exact he1.setBlk (.inl (Nat.le_refl _)) _
  have hsz2 : w.heap.size < w2.heap.size := by subst hw2; simpa using hlt1
  have hsrc2 : BytesAt w2 K sv src := hsrc.ext he2 (fun _ _ _ h => h)
  refine st_app_bytes tBs (s := []) (base := w2.heap.size) (v := .slice none 0 0) (by simp) (by simpa [OwnB, cellsOf] using Own.nil w2 w2.heap.size C.E.tU8 1) (Nat.le_refl _) (k := K) (bs := src) (by simpa using hsrc2) (by simpa using hlen) ?_
  intro v3 w3 ho3 hg3
  rw [List.nil_append] at ho3
  have he23 : Ext none1 w2 w3 := hg3.ext.mono (fun k _ h => by simp [own1, Value.ownBlock] at h)
  have hgw : C.E.g_kbin_ErrNotEnoughData < w.heap.size := World.block_lt_of_cell? w _ herr
  have hsz3 := hg3.size
  obtain ⟨D, hD, hD2⟩ := (own_bytesK ho3).oneD C.E.g_kbin_ErrNotEnoughData
  have hDlt : D < w3.heap.size := by rcases hD2 with h | h <;> omega
  have hbD : w.heap.size ≠ D := by rcases hD2 with h | h <;> omega
  have hb3 := he23.old hb2 (fun h => h)
  have hid := hidem ver
  rw [hcc] at hid
  have hcc0 : cc[0]? = some (.int .i16 ver) := by subst hcc; simp [hs0]
  have hck := hchk ver
  rw [hcc] at hck
  have hseg : segL cc 0 n = cc.toList := by rw [← hccn]; simp only [segL, List.drop_zero]; exact List.take_of_length_le (by simp)
  have hrd := readFrom (w := w3) (b := w.heap.size) (a := 0) (D := D) (cc := cc) (e := T) (ver := ver) (ev := ev) hm hntR hR hb3 (by omega) (by rw [hid]; exact hcc0) (by rw [hid, hseg]; exact hck) hD hDlt hbD (he23.cell (he2.cell herr (fun h => h)) (fun h => h)) (by omega) hv.1 hev
  rw [hid] at hrd
  have he03 : Ext none1 w w3 := he2.trans he23
  obtain ⟨ms, hms⟩ := uErr
  obtain ⟨tv, vv, rfl⟩ := hev
  refine (c_RF hntRF hRF hrd).mono ?_
  rintro v4 w4 ⟨he4, hnone, hsome⟩
  have he04 : Ext none1 w w4 := he03.trans' he4 (fun k hk hk2 => by have h3 : k = w.heap.size := hk2; omega)
  cases hx : S.rd ver (flagAt C.toCfg flex ver) ⟨src, false, nonNil v3⟩ with
  | none =>
    have := hnone hx
    subst this
    simp [bin_nnil_iface hms]
    refine cw_true (by simp) ?_
    simp
    exact ⟨he04, nonNil v3, by rw [hx]⟩
  | some p =>
    obtain ⟨x, rs⟩ := p
    obtain ⟨hv4, cc4, hb4, hsz4, hsame4, hrep4⟩ := hsome x rs hx
    cases hbad : rs.bad with
    | true =>
      rw [hbad] at hv4
      simp at hv4
      subst hv4
      simp [bin_nnil_iface hms]
      refine cw_true (by simp) ?_
      simp
      exact ⟨he04, nonNil v3, by rw [hx]; simp [hbad]⟩
    | false =>
      rw [hbad] at hv4
      simp at hv4
      subst hv4
      obtain ⟨hok, hszx⟩ := hgood _ _ _ hx hbad
      simp [bin_nnil_nil hms]
      refine cw_false (by simp) ?_
      simp
      refine (hApp (base := w4.heap.size) (b := w.heap.size) (a := 0) (cs := segL cc4 0 n) (x := x) (ver := ver) (s := []) (cellsAt_seg hb4) ?_ ?_ hok ?_ (by simpa [OwnB, cellsOf] using Own.nil w4 w4.heap.size C.E.tU8 1) (Nat.le_refl _) (by simpa using hszx)).mono ?_
      · rw [segL_get (by omega), hsame4 _ (.inl (by omega))]; exact hcc0
      · exact Sch.Rep_lt S hrep4
      · exact lt_of_heap hb4
      · rintro v5 w5 ⟨ho5, hg5⟩
        rw [List.nil_append] at ho5
        refine ⟨?_, nonNil v3, ?_⟩
        · exact he04.trans (hg5.ext.mono (fun k _ h => by simp [own1, Value.ownBlock] at h))
        · rw [hx]
          simp [hbad]
          exact BytesAt.mono (own_bytesK ho5) (fun k _ h => by have := he04.size; omega)
end Go.Kg

set_option linter.unusedSimpArgs false
set_option linter.unusedVariables false
set_option linter.unusedSectionVars false
namespace Go.Kg
open Go
end Go.Kg

set_option linter.unusedVariables false
namespace Go.Kg
open Go
def ir_laws_version (E : Env) : Ir := (.seq (.reg [ ⟨none, some 4, .assign (.const (.int .i64 0)), E.tInt⟩]) (.seq (.reg [ ⟨none, some 5, .move (.tmp 0), E.tU8⟩, ⟨none, some 6, .convert E.tU8 E.tInt (.tmp 5), E.tInt⟩, ⟨none, some 7, .move (.tmp 1), E.tInt⟩, ⟨none, some 8, .binOp .add E.tInt (.tmp 7) (.const (.int .i64 1)) E.tInt, E.tInt⟩, ⟨none, some 9, .binOp .rem E.tInt (.tmp 6) (.tmp 8) E.tInt, E.tInt⟩, ⟨none, some 4, .assign (.tmp 9), E.tInt⟩]) .ret))
def nt_laws_version : Nat := 10
def rs_laws_version (E : Env) : List Rv := [.t 4]
end Go.Kg

set_option linter.unusedSimpArgs false
set_option linter.unusedVariables false
namespace Go.Kg
open Go
def irMaxV (E : Env) (M : Int) : Ir := .seq (.reg [⟨none, some 2, .assign (.const (.int .i16 0)), E.tI16⟩]) (.seq (.reg [⟨none, some 2, .assign (.const (.int .i16 M)), E.tI16⟩]) .ret)
def irMax (E : Env) (PT fPtr fMaxV : Nat) : Ir := .seq (.reg [⟨none, some 0, .assign (.const (.int .i64 0)), E.tInt⟩])
  (.seq (.reg [⟨none, some 1, .call { callee := .value (.func fPtr), args := #[], argTypes := #[] }, PT⟩, ⟨none, some 2, .call { callee := .value (.func fMaxV), args := #[.tmp 1], argTypes := #[PT] }, E.tI16⟩,
    ⟨none, some 3, .convert E.tI16 E.tInt (.tmp 2), E.tInt⟩, ⟨none, some 0, .assign (.tmp 3), E.tInt⟩]) .ret)
/-- the version that a law takes -/
def verOf (n M : Nat) : Nat := n % (M + 1)
section
variable {P : Program} {E : Env}
theorem c_maxV {g nt : Nat} (hnt : 1 ≤ nt) {M : Int} (hI : FnIs P g nt [.t 2] (irMaxV E M)) (v : Value) (w : World) : Ret P g #[v] w fun u w' => u = .int .i16 M ∧ w' = w := by
  refine hI.call (args := [_]) hnt ?_
  simp [irMaxV]
theorem c_max {PT fPtr fMaxV g nt : Nat} {M : Nat} (hM : M < 32768) (hI : FnIs P g nt [.t 0] (irMax E PT fPtr fMaxV)) (iI16 : intKind? P E.tI16 = some .i16) (iInt : intKind? P E.tInt = some .i64)
    (hPtr : ∀ w, Ret P fPtr #[] w fun v w' => Ext none1 w w') (hMv : ∀ v w, Ret P fMaxV #[v] w fun u w' => u = .int .i16 M ∧ w' = w) (w : World) :
    Ret P g #[] w fun u w' => u = .int .i64 M ∧ Ext none1 w w' := by
  refine hI.call (args := []) (by simp) ?_
  simp [irMax]
  refine (hPtr w).mono ?_
  intro v w1 he
  try simp
  refine (hMv v w1).mono ?_
  rintro _ w2 ⟨rfl, rfl⟩
  have e : IntKind.i64.wrap (M : Int) = M := i64_small (by omega) (by omega)
  simp [iI16, iInt, e, he]
theorem c_version (hI : FnIs P E.f_laws_version nt_laws_version (rs_laws_version E) (ir_laws_version E)) (iU8 : intKind? P E.tU8 = some .u8) (iInt : intKind? P E.tInt = some .i64) (n M : Nat) (hn : n < 256) (hM : M < 32768) (w : World) :
    Ret P E.f_laws_version #[.int .u8 n, .int .i64 M] w fun u w' => u = .int .i64 (verOf n M) ∧ w' = w := by
  refine hI.call (args := [_, _]) (by simp [nt_laws_version]) ?_
  have e1 : IntKind.i64.wrap (n : Int) = n := i64_small (by omega) (by omega)
  have e2 : IntKind.i64.wrap ((M : Int) + 1) = (M : Int) + 1 := i64_small (by omega) (by omega)
  have e3 : ¬ ((M : Int) + 1 = 0) := by omega
  simp [ir_laws_version, rs_laws_version, iU8, iInt, e1, e2, bin?, e3, verOf]
  rw [Int.tmod_eq_emod_of_nonneg (by omega)]
end
end Go.Kg

set_option linter.unusedSimpArgs false
set_option linter.unusedVariables false
namespace Go.Kg
open Go
def irFnAny (E : Env) (fMax fAg tup : Nat) : Ir :=
  (.seq
    (.reg [
        ⟨none, some 4, .assign (.const (.bool false)), E.tB⟩])
  (.seq
    (.seq
      (.reg [
          ⟨none, some 10, .move (.tmp 1), E.tBs⟩,
          ⟨none, some 11, .call { callee := .builtin .len, args := #[.tmp 10], argTypes := #[E.tBs] }, E.tInt⟩,
          ⟨none, some 12, .binOp .gtr E.tInt (.tmp 11) (.const (.int .i64 2147483647)) E.tInt, E.tB⟩])
    (.cond 12
      (.seq
        (.reg [
            ⟨none, some 4, .assign (.const (.bool true)), E.tB⟩])
      .ret)
      .skip))
  (.seq
    (.reg [
        ⟨none, some 13, .call { callee := .value (.func fMax), args := #[], argTypes := #[] }, E.tInt⟩,
        ⟨none, some 5, .assign (.tmp 13), E.tInt⟩])
  (.seq
    (.seq
      (.reg [
          ⟨none, some 14, .move (.tmp 5), E.tInt⟩,
          ⟨none, some 15, .binOp .lss E.tInt (.tmp 14) (.const (.int .i64 0)) E.tInt, E.tB⟩])
    (.cond 15
      (.seq
        (.reg [
            ⟨none, some 4, .assign (.const (.bool false)), E.tB⟩])
      .ret)
      .skip))
  (.seq
    (.seq
      (.reg [
          ⟨none, some 16, .move (.tmp 1), E.tBs⟩,
          ⟨none, some 17, .call { callee := .builtin .len, args := #[.tmp 16], argTypes := #[E.tBs] }, E.tInt⟩,
          ⟨none, some 18, .binOp .gtr E.tInt (.tmp 17) (.const (.int .i64 1000)) E.tInt, E.tB⟩])
    (.cond 18
      (.seq
        (.reg [
            ⟨none, some 4, .assign (.const (.bool true)), E.tB⟩])
      .ret)
      .skip))
  (.seq
    (.reg [
        ⟨none, some 20, .move (.tmp 0), E.tU8⟩,
        ⟨none, some 21, .move (.tmp 5), E.tInt⟩,
        ⟨none, some 22, .call { callee := .value (.func E.f_laws_version), args := #[.tmp 20, .tmp 21], argTypes := #[E.tU8, E.tInt] }, E.tInt⟩,
        ⟨none, some 23, .move (.tmp 1), E.tBs⟩,
        ⟨none, some 24, .call { callee := .value (.func fAg), args := #[.tmp 22, .tmp 23], argTypes := #[E.tInt, E.tBs] }, tup⟩,
        ⟨none, some 19, .move (.tmp 24), tup⟩,
        ⟨none, some 25, .extract (.tmp 19) 0, E.tBs⟩,
        ⟨none, some 26, .extract (.tmp 19) 1, E.tB⟩,
        ⟨none, some 6, .assign (.tmp 25), E.tBs⟩,
        ⟨none, some 7, .assign (.tmp 26), E.tB⟩])
  (.seq
    (.seq
      (.reg [
          ⟨none, some 27, .move (.tmp 7), E.tB⟩,
          ⟨none, some 28, .unOp .not E.tB (.tmp 27), E.tB⟩])
    (.cond 28
      (.seq
        (.reg [
            ⟨none, some 4, .assign (.const (.bool true)), E.tB⟩])
      .ret)
      .skip))
  (.seq
    (.reg [
        ⟨none, some 30, .move (.tmp 0), E.tU8⟩,
        ⟨none, some 31, .move (.tmp 5), E.tInt⟩,
        ⟨none, some 32, .call { callee := .value (.func E.f_laws_version), args := #[.tmp 30, .tmp 31], argTypes := #[E.tU8, E.tInt] }, E.tInt⟩,
        ⟨none, some 33, .move (.tmp 6), E.tBs⟩,
        ⟨none, some 34, .call { callee := .value (.func fAg), args := #[.tmp 32, .tmp 33], argTypes := #[E.tInt, E.tBs] }, tup⟩,
        ⟨none, some 29, .move (.tmp 34), tup⟩,
        ⟨none, some 35, .extract (.tmp 29) 0, E.tBs⟩,
        ⟨none, some 36, .extract (.tmp 29) 1, E.tB⟩,
        ⟨none, some 8, .assign (.tmp 35), E.tBs⟩,
        ⟨none, some 9, .assign (.tmp 36), E.tB⟩])
  (.seq
    (.reg [
        ⟨none, some 37, .move (.tmp 9), E.tB⟩,
        ⟨none, some 38, .move (.tmp 37), E.tB⟩,
        ⟨(some (38, true)), some 39, .move (.tmp 6), E.tBs⟩,
        ⟨(some (38, true)), some 40, .move (.tmp 8), E.tBs⟩,
        ⟨(some (38, true)), some 41, .call { callee := .value (.func E.f_spec_Same), args := #[.tmp 39, .tmp 40], argTypes := #[E.tBs, E.tBs] }, E.tB⟩,
        ⟨none, some 42, .pick (.tmp 38) (.tmp 41) (.const (.bool false)), E.tB⟩,
        ⟨none, some 4, .assign (.tmp 42), E.tB⟩])
  .ret)))))))))
/-- what the laws ask of impl's functions -/
structure AgL (P : Program) (E : Env) (fMax fAg M : Nat) (S : Sch) (flx : Nat → Bool) (ev : Value) : Prop where
  max : ∀ w, Ret P fMax #[] w fun u w' => u = .int .i64 M ∧ Ext none1 w w'
  again : ∀ v : Nat, v ≤ M → ∀ {w : World} {K : Nat → Prop} {sv : Value} {src : List UInt8}, BytesAt w K sv src → src.length ≤ 1099511627776 → w.cell? ⟨E.g_kbin_ErrNotEnoughData, 0, none⟩ = some ev →
    (∀ nn x rs, S.rd v (flx v) ⟨src, false, nn⟩ = some (x, rs) → rs.bad = false → S.TagsOk tagsOk x ∧ (S.wr v (flx v) x).length ≤ 1099511627776) →
    Ret P fAg #[.int .i64 v, sv] w fun u w' => AgainPost S v (flx v) src w u w'
  hM : M < 32768
  pos : ∀ v : Nat, v ≤ M → S.posE v (flx v) = true
section
variable {P : Program} {E : Env}
set_option maxHeartbeats 1000000 in
theorem c_FnAny0 (uBs : P.underlying E.tBs = some (.slice E.tU8)) (hSame : ∀ (w : World) (K K' : Nat → Prop) (va vb : Value) (s t : List UInt8), BytesAt w K va s → BytesAt w K' vb t → s.length ≤ 1099511627776 → Ret P E.f_spec_Same #[va, vb] w fun r w' => r = .bool (s == t) ∧ Ext none1 w w') (hVe : FnIs P E.f_laws_version nt_laws_version (rs_laws_version E) (ir_laws_version E)) (iU8 : intKind? P E.tU8 = some .u8) (iInt : intKind? P E.tInt = some .i64)
    {fMax fAg M g nt tup : Nat} {S : Sch} {flx : Nat → Bool} {ev : Value} (hL : AgL P E fMax fAg M S flx ev) (hnt : 2 ≤ nt) (hI : FnIs P g nt [.t 4] (irFnAny E fMax fAg tup)) (n : Nat) (hn : n < 256) {w : World} {K : Nat → Prop} {sv : Value} {src : List UInt8}
    (hs : BytesAt w K sv src) (herr : w.cell? ⟨E.g_kbin_ErrNotEnoughData, 0, none⟩ = some ev) :
    Ret P g #[.int .u8 n, sv] w fun u w' => u = .bool true ∧ Ext none1 w w' := by
  have hvM : verOf n M ≤ M := by have := Nat.mod_lt n (show 0 < M + 1 by omega); simp only [verOf]; omega
  have hV := fun w => c_version hVe iU8 iInt n M hn hL.hM w
  obtain ⟨a, c, rfl, _⟩ := hs.len
  refine hI.call (args := [_, _]) hnt ?_
  simp [irFnAny, len_slice uBs]
  by_cases h1 : 2147483647 < src.length
  · refine cw_true (by simp; omega) ?_
    simp
    exact Ext.refl _ _
  refine cw_false (by simp; omega) ?_
  simp
  refine (hL.max w).mono ?_
  rintro _ w1 ⟨rfl, he1⟩
  simp
  refine cw_false (by simp) ?_
  simp [len_slice uBs]
  by_cases h2 : 1000 < src.length
  · refine cw_true (by simp; omega) ?_
    simp
    exact he1
  refine cw_false (by simp; omega) ?_
  simp
  refine (hV w1).mono ?_
  rintro _ w2 ⟨rfl, rfl⟩
  try simp
  have hs1 := hs.ext (K := K) he1 (fun _ _ _ h => h)
  refine (hL.again _ hvM hs1 (by omega) (he1.cell herr (fun h => h)) ?_).mono ?_
  · intro nn x rs hx hb
    have hA := any_again _ _ S (hL.pos _ hvM) hx hb (by simp; omega) nn
    exact ⟨any_tags _ _ S _ _ _ hx hb (by simp; omega), by have := hA.1; simp at this; omega⟩
  rintro u w3 ⟨he3, nn, hu⟩
  cases hx : S.rd (verOf n M) (flx (verOf n M)) ⟨src, false, nn⟩ with
  | none =>
    rw [hx] at hu
    subst hu
    simp
    refine cw_true (by simp) ?_
    simp
    exact he1.trans he3
  | some p =>
    obtain ⟨x, rs⟩ := p
    rw [hx] at hu
    simp only at hu
    cases hb : rs.bad with
    | true =>
      rw [hb] at hu
      simp only [if_true] at hu
      subst hu
      simp
      refine cw_true (by simp) ?_
      simp
      exact he1.trans he3
    | false =>
      rw [hb] at hu
      simp only [Bool.false_eq_true, if_false] at hu
      obtain ⟨v, rfl, hv⟩ := hu
      simp
      refine cw_false (by simp) ?_
      simp
      refine (hV w3).mono ?_
      rintro _ w4 ⟨rfl, rfl⟩
      try simp
      obtain ⟨hlen, _⟩ := any_again _ _ S (hL.pos _ hvM) hx hb (by simp; omega) true
      simp only at hlen
      have he13 := he1.trans he3
      refine (hL.again _ hvM hv (by omega) (he13.cell herr (fun h => h)) ?_).mono ?_
      · intro nn x rs hx hb
        have hA := any_again _ _ S (hL.pos _ hvM) hx hb (by simp; omega) nn
        exact ⟨any_tags _ _ S _ _ _ hx hb (by simp; omega), by have := hA.1; simp at this; omega⟩
      rintro u w5 ⟨he5, nn2, hu⟩
      obtain ⟨_, y, nn3, hy, hyx⟩ := any_again _ _ S (hL.pos _ hvM) hx hb (by simp; omega) nn2
      rw [hy] at hu
      simp only [Bool.false_eq_true, if_false] at hu
      obtain ⟨v2, rfl, hv2⟩ := hu
      simp
      have hv' := hv.ext he5 (fun _ _ _ h => h)
      refine (hSame w5 _ _ v v2 _ _ hv' hv2 (by omega)).mono ?_
      rintro _ w6 ⟨rfl, he6⟩
      simp [hyx]
      exact he13.trans (he5.trans he6)
end
end Go.Kg

set_option linter.unusedSimpArgs false
set_option linter.unusedVariables false
namespace Go.Kg
open Go
/-- An own row of trees. -/
def OwnTr (w : World) (base T : Nat) (v : Value) (rows : List (List Value)) : Prop := Own w base T 5 v rows.flatten ∧ ∀ c ∈ rows, c.length = 5
theorem flatten5 : ∀ {rows : List (List Value)}, (∀ c ∈ rows, c.length = 5) → rows.flatten.length = rows.length * 5
  | [], _ => rfl
  | c :: r, h => by
    have := flatten5 (rows := r) (fun c hc => h c (List.mem_cons_of_mem _ hc))
    have := h c List.mem_cons_self
    simp only [List.flatten_cons, List.length_append, List.length_cons]; omega
theorem flatten5_get : ∀ {rows : List (List Value)}, (∀ c ∈ rows, c.length = 5) → ∀ {i : Nat} {c : List Value}, rows[i]? = some c → ∀ j u, c[j]? = some u → rows.flatten[i * 5 + j]? = some u
  | [], _, i, c, hc => by simp at hc
  | d :: r, h, i, c, hc => by
    intro j u hj
    have hd := h d List.mem_cons_self
    cases i with
    | zero =>
      simp at hc; subst hc
      have hlt := (List.getElem?_eq_some_iff.1 hj).1
      rw [List.flatten_cons, List.getElem?_append_left (by omega)]
      simpa using hj
    | succ i =>
      have := flatten5_get (rows := r) (fun c hc => h c (List.mem_cons_of_mem _ hc)) (i := i) (by simpa using hc) j u hj
      rw [List.flatten_cons, List.getElem?_append_right (by omega), show (i + 1) * 5 + j - d.length = i * 5 + j by omega]
      exact this
theorem OwnTr.arr {w : World} {base T : Nat} {v : Value} {rows : List (List Value)} (h : OwnTr w base T v rows) (hn : rows.length ≤ 1099511627776) : ∃ ls, ArrAt w (fun b => base ≤ b ∧ b < w.heap.size) 5 v ls ∧ ls.getD [] = rows := by
  obtain ⟨⟨n, h1, h2⟩, h5⟩ := h
  have hn' : n = rows.length := by rw [flatten5 h5] at h1; omega
  subst hn'
  rcases h2 with ⟨rfl, h0⟩ | ⟨g, cap, cur, rfl, hb, hg, hnc, hcm, hcs, htake⟩
  · exact ⟨none, rfl, (List.eq_nil_of_length_eq_zero h0).symm⟩
  · refine ⟨some rows, ⟨g, 0, cap, rfl, ⟨hb, lt_of_heap hg⟩, ⟨hnc, hn⟩, fun i cs hi => ⟨h5 cs (List.mem_of_getElem? hi), fun j u hj => ?_⟩⟩, rfl⟩
    have := flatten5_get h5 hi j u hj
    rw [← htake, List.getElem?_take] at this
    rw [cell_of_blk hg, Nat.zero_add]
    split at this
    · simpa using this
    · cases this
/-- No cell of the tree's box but the list's. -/
def zT (lv : Value) : List Value := [.int .i64 0, .slice none 0 0, .bool false, lv, .slice none 0 0]
/-- A tree that says no text and no tags, its lists in blocks of K. -/
inductive DTr (w : World) (K : Nat → Prop) : List Value → Tr → Prop where
  | mk {n : Int} {nul : Bool} {l : List Tr} {lv : Value} {ls : Option (List (List Value))} (hn : fits n) (ha : ArrAt w K 5 lv ls) (hl : (ls.getD []).length = l.length)
      (he : ∀ (i : Nat) c t, (ls.getD [])[i]? = some c → l[i]? = some t → DTr w K c t) : DTr w K [.int .i64 n, .slice none 0 0, .bool nul, lv, .slice none 0 0] (.mk n [] nul l [])
theorem DTr.ext {C K : Nat → Prop} {w w' : World} (he : Ext C w w') (hK : ∀ b, b < w.heap.size → K b → ¬ C b) {cs : List Value} {t : Tr} (h : DTr w K cs t) : DTr w' K cs t := by
  induction h with
  | mk hn ha hl _ ih => exact .mk hn (ha.ext he hK) hl ih
theorem ArrAt.mono {w : World} {K K' : Nat → Prop} (h : ∀ b, K b → K' b) {sz : Nat} {v : Value} {ls : Option (List (List Value))} (ha : ArrAt w K sz v ls) : ArrAt w K' sz v ls := by
  cases ls with
  | none => exact ha
  | some ls => obtain ⟨b, o, c, rfl, hk, hn, hx⟩ := ha; exact ⟨b, o, c, rfl, h b hk, hn, hx⟩
theorem DTr.mono {K K' : Nat → Prop} {w : World} (hK : ∀ b, K b → K' b) {cs : List Value} {t : Tr} (h : DTr w K cs t) : DTr w K' cs t := by
  induction h with
  | mk hn ha hl _ ih => exact .mk hn (ha.mono hK) hl ih
theorem DTr.tree {K : Nat → Prop} {w : World} {cs : List Value} {t : Tr} (h : DTr w K cs t) : TreeAt w cs t := by
  induction h with
  | mk hn ha hl _ ih => exact .mk ⟨hn, by simp⟩ (.inl ⟨⟨_, rfl⟩, rfl⟩) (ha.mono (fun _ _ => trivial)).toE hl ih ⟨none, ⟨_, rfl⟩, rfl, by simp⟩
structure TyD (P : Program) (E : Env) : Prop extends TyM P E where
  pT5 : places P E.t_spec_Tree = some [(0, 1), (1, 1), (2, 1), (3, 1), (4, 1)]
  fT3 : ∀ (a b c d e : Value), fld? P E.t_spec_Tree 3 #[a, b, c, d, e] = some d
section
variable {P : Program} {E : Env} (ht : TyD P E)
include ht
end
end Go.Kg

set_option linter.unusedSimpArgs false
set_option linter.unusedVariables false
namespace Go.Kg
open Go
theorem FS.okAll.dflt : ∀ {F : FS}, F.okAll → ∀ h ∈ F.heads, fits h.dflt
  | .nil, _, h, hh => by cases hh
  | .cons h' s r, ho, h, hh => by
    rcases List.mem_cons.1 hh with rfl | hh
    · exact ho.2.1
    · exact FS.okAll.dflt ho.2.2.2.2 h hh
def FH.zero : FH := ⟨0, 0, 0, 0, 0, 0, 0⟩
def FH.set (h : FH) (k : Nat) (n : Int) : FH :=
  match k with
  | 0 => { h with kind := n } | 1 => { h with frm := n } | 2 => { h with to := n } | 3 => { h with null := n } | 4 => { h with tag := n } | 5 => { h with dflt := n } | _ => { h with of_ := n }
/-- A field's text: its parts in order, and the function of its own fields (with these). -/
structure FSrc where
  ps : List (Nat × Int)
  sub : Option (Nat × FS)
def FSrc.h (x : FSrc) : FH := x.ps.foldl (fun h p => h.set p.1 p.2) FH.zero
def FSrc.subF (x : FSrc) : FS := match x.sub with | some (_, F) => F | none => .nil
def FSrc.sz (x : FSrc) : Nat := match x.sub with | some _ => 2 | none => 1
structure TyK (P : Program) (E : Env) : Prop extends TyD P E where
  pF8 : places P E.t_spec_Field = some [(0, 1), (1, 1), (2, 1), (3, 1), (4, 1), (5, 1), (6, 1), (7, 1)]
  gF : SliI P E.t_l_spec_Field E.t_spec_Field 8 80 (.agg zField)
  pM : places P E.t_spec_Message = some [(0, 1), (1, 1)]
  zM : zeroOf P E.t_spec_Message = some (.agg #[.slice none 0 0, .int .i64 0])
  kM : kindOf P E.t_spec_Message = .agg 2
/-- Fields whose rows lie in blocks of K. -/
def FsCellsK (w : World) (K : Nat → Prop) : List (List Value) → FS → Prop
  | [], .nil => True
  | c :: cs, .cons h sub rest => (∃ sv ls, c = h.cells ++ [sv] ∧ ArrAt w K 8 sv ls ∧ FsCellsK w K (ls.getD []) sub) ∧ FsCellsK w K cs rest
  | _, _ => False
def FsAtK (w : World) (K : Nat → Prop) (v : Value) (F : FS) : Prop := ∃ ls, ArrAt w K 8 v ls ∧ FsCellsK w K (ls.getD []) F
theorem FsCellsK.ext {C K K' : Nat → Prop} {w w' : World} (he : Ext C w w') (hK : ∀ b, b < w.heap.size → K b → ¬ C b) (hm : ∀ b, K b → K' b) : ∀ {F : FS} {ls : List (List Value)}, FsCellsK w K ls F → FsCellsK w' K' ls F := by
  intro F
  induction F with
  | nil => intro ls h; cases ls with
    | nil => trivial
    | cons c cs => exact h.elim
  | cons h sub rest ihs ihr =>
    intro ls hh
    cases ls with
    | nil => exact hh.elim
    | cons c cs =>
      obtain ⟨⟨sv, l, h1, h2, h3⟩, h4⟩ := hh
      exact ⟨⟨sv, l, h1, (h2.ext he hK).mono hm, ihs h3⟩, ihr h4⟩
theorem FsAtK.ext {C K K' : Nat → Prop} {w w' : World} (he : Ext C w w') (hK : ∀ b, b < w.heap.size → K b → ¬ C b) (hm : ∀ b, K b → K' b) {v : Value} {F : FS} (h : FsAtK w K v F) : FsAtK w' K' v F := by
  obtain ⟨ls, h1, h2⟩ := h; exact ⟨ls, (h1.ext he hK).mono hm, h2.ext he hK hm⟩
theorem FsCellsK.all {K : Nat → Prop} {w : World} : ∀ {F : FS} {ls : List (List Value)}, FsCellsK w K ls F → FsCells w ls F := by
  intro F
  induction F with
  | nil => intro ls h; cases ls with
    | nil => trivial
    | cons c cs => exact h.elim
  | cons h sub rest ihs ihr =>
    intro ls hh
    cases ls with
    | nil => exact hh.elim
    | cons c cs =>
      obtain ⟨⟨sv, l, h1, h2, h3⟩, h4⟩ := hh
      exact ⟨⟨sv, l, h1, h2.mono (fun _ _ => trivial), ihs h3⟩, ihr h4⟩
theorem FsAtK.all {K : Nat → Prop} {w : World} {v : Value} {F : FS} (h : FsAtK w K v F) : FsAt w v F := by
  obtain ⟨ls, h1, h2⟩ := h; exact ⟨ls, h1.mono (fun _ _ => trivial), h2.all⟩
/-- What the fields are, once made: their rows at base and above. -/
def FldsV (w : World) (base : Nat) : List FSrc → List Value → Prop
  | [], [] => True
  | x :: r, v :: vs => (∃ sv, v = .agg (x.h.cells ++ [sv]).toArray ∧ FsAtK w (base ≤ ·) sv x.subF) ∧ FldsV w base r vs
  | _, _ => False
theorem FldsV.ext {w w' : World} {base : Nat} (he : Ext none1 w w') : ∀ {xs : List FSrc} {vs : List Value}, FldsV w base xs vs → FldsV w' base xs vs
  | [], [], _ => trivial
  | x :: r, v :: vs, h => ⟨by obtain ⟨sv, h1, h2⟩ := h.1; exact ⟨sv, h1, h2.ext he (fun _ _ _ h => h) (fun _ h => h)⟩, FldsV.ext he h.2⟩
  | [], _ :: _, h => h.elim
  | _ :: _, [], h => h.elim
theorem FldsV.len {w : World} {base : Nat} : ∀ {xs : List FSrc} {vs : List Value}, FldsV w base xs vs → vs.length = xs.length ∧ ∀ v ∈ vs, v.cells.size = 8
  | [], [], _ => ⟨rfl, by simp⟩
  | x :: r, v :: vs, h => by
    obtain ⟨h1, h2⟩ := FldsV.len h.2
    obtain ⟨sv, rfl, _⟩ := h.1
    refine ⟨by simp [h1], fun u hu => ?_⟩
    rcases List.mem_cons.1 hu with rfl | hu
    · simp [Value.cells]
    · exact h2 u hu
  | [], _ :: _, h => h.elim
  | _ :: _, [], h => h.elim
theorem FsAtK.nil (w : World) (K : Nat → Prop) : FsAtK w K (.slice none 0 0) .nil := ⟨none, rfl, trivial⟩
section
variable {P : Program} {E : Env} (ht : TyK P E)
include ht
end
end Go.Kg

set_option linter.unusedSimpArgs false
set_option linter.unusedVariables false
namespace Go.Kg
open Go
section
variable {P : Program} {E : Env} (ht : TyF P E)
include ht
end
end Go.Kg

set_option linter.unusedSimpArgs false
set_option linter.unusedVariables false
namespace Go.Kg
open Go
/-- s[:l] of bytes -/
theorem BytesAt.upTo {w : World} {K : Nat → Prop} {a : Option Addr} {n c : Nat} {s : List UInt8} (h : BytesAt w K (.slice a n c) s) {l : Nat} (hl : l ≤ s.length) : BytesAt w K (.slice (if c = 0 then a else a.map (·.add 0)) l c) (s.take l) := by
  rcases h with ⟨⟨a', hv⟩, rfl⟩ | ⟨b, o, c', hv, h2, hk, h3⟩
  · cases hv
    have : l = 0 := by simpa using hl
    subst this
    exact .inl ⟨⟨a, by simp⟩, by simp⟩
  · cases hv
    refine .inr ⟨b, o, c, by simp [Nat.min_eq_left hl, Addr.add_mk], by simp; omega, fun h => hk (by rintro rfl; simp at h), ?_⟩
    intro i x hx
    rw [List.getElem?_take] at hx
    split at hx
    · exact h3 _ _ hx
    · cases hx
section
variable {P : Program} {E : Env} (ht : TyK P E) (hs : SpecFns P E)
include ht hs
end
end Go.Kg

set_option linter.unusedSimpArgs false
set_option linter.unusedVariables false
set_option linter.unusedSectionVars false
namespace Go.Kg
open Go
def irNewK (C : Cfg) (T fDef : Nat) : Ir :=
  .seq (.reg [⟨none, some 0, .alloc T, C.E.tNil⟩]) (.seq (.reg [⟨none, some 1, .alloc T, C.E.tNil⟩]) (.seq (.reg [⟨none, some 2, .call { callee := .value (.func fDef), args := #[.tmp 1], argTypes := #[T] }, C.E.tNil⟩])
  (.seq (.reg [⟨none, some 3, .load T (.tmp 1), T⟩, ⟨none, none, .store T (.tmp 0) (.tmp 3), C.E.tNil⟩]) .ret)))
theorem over_all {z c : Array Value} (h : z.size = c.size) : over z 0 c.toList = c := by
  have hd : z.toList.drop (0 + c.toList.length) = [] := List.drop_eq_nil_of_le (by simp [h])
  simp only [over, hd]; simp
theorem newKC {P : Program} {C : Cfg} {T n g nt fDef : Nat} {S : Sch} {z : Array Value} (hI : FnIs P g nt [.c 0 T] (irNewK C T fDef)) (hz : zeroOf P T = some (.agg z)) (hn : z.size = n) (hk : kindOf P T = .agg n) (hone : allOne (setD 0 (S.dst C) z).toList = true)
    (hD : DefRC P C n fDef S) (w : World) : Ret P g #[] w fun v w' => v = .agg (setD 0 (S.dst C) z) ∧ Ext none1 w w' := by
  generalize hzD : setD 0 (S.dst C) z = zD at *
  have hzDs : zD.size = n := by subst hzD; rw [setD_size]; exact hn
  refine hI.call (args := []) (by simp) ?_
  simp [irNewK, hz, Value.cells]
  generalize hw1 : w.alloc (.cells z T) = w1
  have hb1 : w1.heap[w.heap.size]? = some (.cells z T (0, 0)) := by subst hw1; exact alloc_new
  have hs1 : w1.heap.size = w.heap.size + 1 := by subst hw1; simp
  have hE1 : Ext none1 w w1 := by subst hw1; exact (Ext.refl none1 w).alloc _
  rw [← hs1]
  refine (hD (w1.alloc (.cells z T)) w1.heap.size 0 z T alloc_new (by omega)).mono ?_
  rintro v w2 rfl
  rw [hzD]
  generalize hw2 : (w1.alloc (.cells z T)).setBlk w1.heap.size (.cells zD T (0, 0)) = w2
  have hb2 : w2.heap[w1.heap.size]? = some (.cells zD T (0, 0)) := by subst hw2; exact setBlk_same alloc_new
  have hE2 : Ext none1 w1 w2 := by subst hw2; exact ((Ext.refl none1 w1).alloc _).setBlk (.inl (Nat.le_refl _)) _
  have hb20 := hE2.old hb1 (fun h => h)
  have l2 := cellsFrom_row hb2
  rw [hzDs] at l2
  simp [ld_agg hk, l2, store_agg hk, hzDs, hone, putK_blk hb20, over_all (show z.size = zD.size by omega)]
  refine ⟨by omega, ?_⟩
  have hb3 : (w2.setBlk w.heap.size (.cells zD T (0, 0))).heap[w.heap.size]? = some (.cells zD T (0, 0)) := setBlk_same hb20
  have l3 := cellsFrom_row hb3
  rw [hzDs] at l3
  simp [ld_agg hk, l3]
  exact (hE1.trans hE2).setBlk (.inl (Nat.le_refl _)) _
end Go.Kg

set_option linter.unusedSimpArgs false
set_option linter.unusedVariables false
set_option linter.unusedSectionVars false
namespace Go.Kg
open Go
section
variable {P : Program} {C : Cfg} {ok : TagL → Prop}
/-- v := v.F, the field's address being one operation -/
theorem w_loadL {f : Nat → Value} {w : World} {Q : Post} {T lv k o l t b : Nat} {p : Prim} {cs : List Value} {v : Value} (hp : p ≠ .uuid) (hpv : f lv = .pointer (some ⟨b, 0, none⟩)) (hlt : lv < t) (hF : fldOff P T k = some o) (hk : p.kOk P (p.ty C.E) = true) (hc : CellsAt w b 0 cs) (hs : seg cs o v.cells.toList) (hu : v.oneCell' = true) (hl : l < t)
    (h : ∀ f', LocVal w f' p l v → (∀ x, x < t → x ≠ l → f' x = f x) → Q .normal f' w) :
    (Ir.reg [⟨none, some t, .fieldAddr T (.tmp lv) k, C.E.tNil⟩, ⟨none, some (t + 1), .load (p.ty C.E) (.tmp t), p.ty C.E⟩, ⟨none, some l, .assign (.tmp (t + 1)), p.ty C.E⟩]).wp P Q f w := by
  have hk' : kindOf P (p.ty C.E) = .scl := by simp only [Prim.kOk, if_neg hp] at hk; exact isScl_spec hk
  have huc : v.cells = #[v] := by cases v <;> simp_all [Value.oneCell', Value.cells]
  have hl' : w.cell? ⟨b, o, none⟩ = some v := by simpa using hc o v (by simpa using hs 0 v (by simp [huc]))
  refine wp_reg ?_
  simp [hpv, hF, Addr.add_mk, ld_scl hk', hl']
  refine h _ ?_ ?_
  · simp [LocVal, hp]
  · intro x hx hxl
    have x3 : ∀ n, (x = t + n) = False := by intro n; simp; omega
    have x4 : (x = t) = False := by simp; omega
    simp [x3, x4, hxl]
theorem w_tagsL {Q : Post} {f : Nat → Value} {w : World} (ht : TyC P C) (hT : TagsC P C.E ok) {T lv k o t b base : Nat} {cs : List Value} {v u : Value} {s : List UInt8} {l : TagL} {fl : Bool} (hx : C.fx = true) (hfl : flagOk C f fl) (hsf : C.sf < t) (ht1 : 1 < t) (hpt : lv < t) (hp1 : lv ≠ 1)
    (hpv : f lv = .pointer (some ⟨b, 0, none⟩)) (hF : fldOff P T k = some o) (h1 : f 1 = v) (hb : ¬ own1 v b) (hbw : b < w.heap.size) (hc : CellsAt w b 0 cs) (hu : cs[o]? = some u) (hl : TagsAt w (· < base) u l) (hok : ok l) (ho : OwnB C.E.tU8 w base v s) (hbs : base ≤ w.heap.size)
    (hsz : s.length + (if fl then uvOut (l.length % 4294967296) ++ tagsOut l else []).length ≤ 1099511627776)
    (h : ∀ f' w' v', f' 1 = v' → OwnB C.E.tU8 w' base v' (s ++ (if fl then uvOut (l.length % 4294967296) ++ tagsOut l else [])) → Grew w v w' v' → Keeps f f' t → Q .normal f' w') : (tagsWL C T lv k t).wp P Q f w := by
  have hca : w.cell? ⟨b, o, none⟩ = some u := by simpa using hc o u hu
  refine w_flex (hfl.1 hx).1 hsf ht1 ?_ ?_
  · rintro rfl f1 hk hk1
    have hpv1 : f1 lv = .pointer (some ⟨b, 0, none⟩) := (hk lv hpt hp1).trans hpv
    have hv1 : f1 1 = v := hk1.trans h1
    have hlen : l.length < 4294967296 := by
      rcases hl with ⟨_, rfl⟩ | ⟨_, _, _, _, _, _, _, _, h, _⟩
      · simp
      · exact h.1
    have hm : l.length % 4294967296 = l.length := Nat.mod_eq_of_lt hlen
    simp only [if_true, List.length_append] at hsz
    refine wp_seqI (wp_reg ?_)
    have ew : IntKind.u32.wrap (l.length : Int) = l.length := u32_id _ hlen
    have e3 : ∀ n, (lv = t + n) = False := by intro n; simp; omega
    have e4 : ∀ n, (1 = t + n) = False := by intro n; simp; omega
    have e5 : ∀ m n, (lv = t + m + n) = False := by intro m n; simp; omega
    simp [hpv1, hF, Addr.add_mk, e3, e4, hv1]
    refine (hT.len w _ _ _ _ _ hca hl).mono ?_
    rintro _ w1 ⟨rfl, rfl⟩
    simp [ht.iInt, ht.iU32, ew, bin?]
    refine (hT.uv l.length hlen w1 base v s ho hbs (by rw [hm] at hsz; omega)).mono ?_
    rintro v2 w2 ⟨ho2, hg2⟩
    have hsz2 := hg2.size
    show (Ir.reg _).wp P _ _ _
    refine wp_reg ?_
    simp [hpv1, hF, Addr.add_mk, e3, e4, e5, hp1]
    have hl2 : TagsAt w2 (· < base) u l := hl.ext hg2.ext (fun b _ hb' ho' => by have := (Own.below ho ho').1; omega)
    have hb2 : ¬ own1 v2 b := fun h => (hg2.own b h).elim hb (fun h' => by omega)
    refine (hT.each w2 base v2 _ _ _ _ _ hok hb2 (hg2.ext.cell hca hb) hl2 ho2 (by omega) (by rw [hm] at hsz; simp; omega)).mono ?_
    rintro v3 w3 ⟨ho3, hg3⟩
    refine h _ _ v3 (by simp) ?_ (hg2.trans hg3) ?_
    · simp only [if_true, hm]
      rw [← List.append_assoc]; exact ho3
    · refine hk.trans (t' := t) ?_ (Nat.le_refl _)
      refine keeps_one ?_
      intro x hx h1
      have x3 : ∀ n, (x = t + n) = False := by intro n; simp; omega
      have x5 : ∀ m n, (x = t + m + n) = False := by intro m n; simp; omega
      simp [x3, x5, h1]
  · rintro rfl f1 hk hk1
    show Q .normal f1 w
    exact h f1 w v (hk1.trans h1) (by simpa using ho) (Grew.refl _ _) hk
/-- v := v.F, a struct, into a block of its own -/
theorem w_loadS {f : Nat → Value} {w : World} {Q : Post} {T PT pv k o T' sz l t b a : Nat} {z : Array Value} {cs : List Value} (hpv : f pv = .pointer (some ⟨b, a, none⟩)) (hF : fldOff P T k = some o) (hk : kindOf P T' = .agg sz) (hz : zeroOf P T' = some (.agg z)) (hzs : z.size = sz) (hc : CellsAt w b a cs)
    (hlen : ((cs.drop o).take sz).length = sz) (hone : allOne ((cs.drop o).take sz) = true) (hl : l < t)
    (h : ∀ f' w', f' l = .pointer (some ⟨w.heap.size, 0, none⟩) → w.heap.size < w'.heap.size → CellsAt w' w.heap.size 0 ((cs.drop o).take sz) → Ext none1 w w' → (∀ x, x < t → x ≠ l → f' x = f x) → Q .normal f' w') :
    (Ir.reg (addrR C T PT pv k t ++ [⟨none, some (t + 3), .load T' (.tmp (t + 2)), T'⟩, ⟨none, some l, .alloc T', C.E.tNil⟩, ⟨none, none, .store T' (.tmp l) (.tmp (t + 3)), C.E.tNil⟩])).wp P Q f w := by
  generalize hes : (cs.drop o).take sz = es at *
  have hsl : es.length = sz := hlen
  have hcf : cellsFrom w ⟨b, a + o, none⟩ 0 sz = some es := by
    have := cellsFrom_seg hc (u := es.toArray) (o := o) (by
      intro j u hj
      subst hes
      simp only [List.getElem?_take] at hj
      split at hj
      · rw [List.getElem?_drop] at hj; exact hj
      · cases hj)
    rwa [List.size_toArray, hsl] at this
  have e3 : ∀ n, (t + n = l) = False := by intro n; simp; omega
  have hov : over z 0 es = es.toArray := by
    have := over_all (z := z) (c := es.toArray) (by simp [hsl, hzs])
    simpa using this
  refine wp_reg ?_
  simp [addrR, hpv, hF, Addr.add_mk, ld_agg hk, hcf, hz, Value.cells, e3, store_agg hk, hsl, hone, putK_blk alloc_new, hov, hzs]
  refine h _ _ ?_ ?_ ?_ ?_ ?_
  · simp
  · simp
  · intro j u hj
    rw [cell_of_blk (setBlk_same alloc_new)]
    simpa using hj
  · exact ((Ext.refl none1 w).alloc _).setBlk (.inl (Nat.le_refl _)) _
  · intro x hx hxl
    have x3 : ∀ n, (x = t + n) = False := by intro n; simp; omega
    have x4 : (x = t) = False := by simp; omega
    simp [x3, x4, hxl]
/-- each cell is one field's -/
def Sch.cov (sz : Nat) : Sch → Nat → Bool
  | .fin, i => i == sz
  | .tags _ o, i => o == i && i + 1 == sz
  | .prim _ _ o p _ _ rest, i => o == i && p != .uuid && rest.cov sz (i + 1)
  | _, _ => false
theorem cov_one {w : World} {K : Nat → Prop} {es : List Value} {sz : Nat} (hl : es.length = sz) : ∀ (S : Sch) (x : S.T) (i : Nat), S.cov sz i = true → S.Rep w K es x → allOne (es.drop i) = true := by
  intro S
  have cons : ∀ (i : Nat) (v : Value), es[i]? = some v → v.oneCell' = true → allOne (es.drop (i + 1)) = true → allOne (es.drop i) = true := by
    intro i v hv h1 hr
    have hi := (List.getElem?_eq_some_iff.1 hv)
    rw [List.drop_eq_getElem_cons hi.1, hi.2]
    simp only [allOne, List.all_cons, Bool.and_eq_true] at hr ⊢
    exact ⟨h1, hr⟩
  induction S with
  | fin => intro x i h _; simp only [Sch.cov, beq_iff_eq] at h; subst h; rw [← hl, List.drop_length]; rfl
  | tags k o =>
    intro l i h hr
    simp only [Sch.cov, Bool.and_eq_true, beq_iff_eq] at h
    obtain ⟨rfl, h⟩ := h
    obtain ⟨u, hu, ht⟩ := hr
    refine cons o u hu ?_ ?_
    · rcases ht with ⟨rfl, _⟩ | ⟨_, _, _, rfl, _⟩ <;> rfl
    · rw [h, ← hl, List.drop_length]; rfl
  | prim g k o p en d rest ih =>
    intro x i h hr
    obtain ⟨x, xr⟩ := x
    obtain ⟨⟨v, hv, hr1⟩, hrr⟩ := hr
    simp only [Sch.cov, Bool.and_eq_true, beq_iff_eq, bne_iff_ne] at h
    obtain ⟨⟨rfl, hp⟩, h⟩ := h
    have hone := rep1_one hr1
    rw [if_neg hp] at hone
    have huc : v.cells = #[v] := by cases v <;> simp_all [Value.oneCell', Value.cells]
    exact cons o v (by simpa using hv 0 v (by simp [huc])) hone (ih xr (o + 1) h hrr)
  | arrP g k o sT nul p rest ih => intro x i h; simp [Sch.cov] at h
  | arrS g k o sT nul T' PT' sz df e rest ihe ih => intro x i h; simp [Sch.cov] at h
  | sub g k o T' PT' sz df e rest ihe ih => intro x i h; simp [Sch.cov] at h
  | opt g k o T' PT' PP sz df e rest ihe ih => intro x i h; simp [Sch.cov] at h
  | cus c => intro x i h; simp [Sch.cov] at h
/-- what of a schema may stand in a variable of its own: plain fields without a guard, tags -/
def Sch.tyL (P : Program) (C : Cfg) (T : Nat) : Sch → Bool
  | .fin => true
  | .tags k o => C.fx && fldOff P T k == some o
  | .prim g k o p en _ rest => g.lo.isNone && en == 0 && p != .uuid && fldOff P T k == some o && p.kOk P (p.ty C.E) && rest.tyL P C T
  | _ => false
theorem genWL_mono : ∀ (S : Sch) (T l : Nat) (c : Ct), c.l ≤ (S.genWL C T l c).2.l ∧ c.t ≤ (S.genWL C T l c).2.t := by
  intro S
  induction S with
  | fin => intro T l c; exact ⟨Nat.le_refl _, Nat.le_refl _⟩
  | tags k o => intro T l c; exact ⟨Nat.le_refl _, by simp [Sch.genWL]⟩
  | prim g k o p en d rest ih =>
    intro T l c
    have := ih T l ⟨c.l + 1, c.t + 2 + emitN C p, c.k⟩
    simp only [Sch.genWL]
    simp only at this
    omega
  | arrP g k o sT nul p rest ih => intro T l c; exact ⟨Nat.le_refl _, Nat.le_refl _⟩
  | arrS g k o sT nul T' PT' sz df e rest ihe ih => intro T l c; exact ⟨Nat.le_refl _, Nat.le_refl _⟩
  | sub g k o T' PT' sz df e rest ihe ih => intro T l c; exact ⟨Nat.le_refl _, Nat.le_refl _⟩
  | opt g k o T' PT' PP sz df e rest ihe ih => intro T l c; exact ⟨Nat.le_refl _, Nat.le_refl _⟩
  | cus u => intro T l c; exact ⟨Nat.le_refl _, Nat.le_refl _⟩
def SoundWL (P : Program) (C : Cfg) (ok : TagL → Prop) (S : Sch) : Prop := ∀ (T lv : Nat) (c : Ct) (Q : Post) (f : Nat → Value) (w : World) (b : Nat) (cs : List Value) (x : S.T) (ver : Int) (fl : Bool) (base : Nat) (s : List UInt8),
  S.tyL P C T = true → S.NeedW P C ok → FrW C f lv b 0 ver fl c.l → (S.genWL C T lv c).2.l ≤ c.t → ¬ own1 (f 1) b → b < w.heap.size → CellsAt w b 0 cs → S.Rep w (· < base) cs x → S.TagsOk ok x → Dst C f w base s → s.length + (S.wr ver fl x).length ≤ 1099511627776 →
  (∀ f' w', Wrote C f w base s (S.wr ver fl x) c.l (S.genWL C T lv c).2.l c.t f' w' → Q .normal f' w') → (seqL (S.genWL C T lv c).1).wp P Q f w
theorem soundWL (ht : TyC P C) : ∀ S : Sch, SoundWL P C ok S := by
  intro S
  induction S with
  | fin =>
    intro T lv c Q f w b cs x ver fl base s _ _ hf _ _ _ _ _ _ hd _ h
    exact h f w (Wrote.refl hd _ _ _)
  | tags k o =>
    intro T lv c Q f w b cs x ver fl base s hty hN hf hc hnb hbw hcs hr hok hd hsz h
    simp only [Sch.tyL, Bool.and_eq_true, beq_iff_eq] at hty
    obtain ⟨u, hu, hl⟩ := hr
    have hlt : c.l ≤ c.t := hc
    refine w_tagsL ht hN hty.1 hf.flg (by have := hf.sfN hty.1; omega) (by have := hf.one; omega) (by have := hf.ptrN; omega) hf.ptrN.2 hf.ptr hty.2 rfl hnb hbw hcs hu hl hok hd.1 hd.2 hsz ?_
    intro f' w' v' h1 ho hg hk
    exact h f' w' (Wrote.mk' hd.2 rfl h1 ho hg (KeepR.of hk hlt))
  | prim g k o p en d rest ih =>
    intro T lv c Q f w b cs x ver fl base s hty hN hf hc hnb hbw hcs hr hok hd hsz h
    obtain ⟨x, xr⟩ := x
    obtain ⟨⟨u, hu, hrep⟩, hrr⟩ := hr
    simp only [Sch.tyL, Bool.and_eq_true, beq_iff_eq, bne_iff_ne, Option.isNone_iff_eq_none] at hty
    obtain ⟨⟨⟨⟨⟨hg, hen⟩, hpu⟩, hF⟩, hk⟩, htr⟩ := hty
    have hon : g.on ver = true := by obtain ⟨lo, hi⟩ := g; simp only at hg; subst hg; rfl
    obtain ⟨hNp, hNr⟩ := hN
    have h1c := hf.one
    have hwr : Sch.wr ver fl (.prim g k o p en d rest) (x, xr) = p.wr fl x ++ rest.wr ver fl xr := by simp [Sch.wr, hon]
    rw [hwr] at hsz h
    simp only [List.length_append] at hsz
    have hm := genWL_mono (C := C) rest T lv ⟨c.l + 1, c.t + 2 + emitN C p, c.k⟩
    simp only [Sch.genWL] at hc h ⊢
    simp only at hm
    have hone := rep1_one hrep
    rw [if_neg hpu] at hone
    refine seqL_cons ?_
    refine wp_seqI ?_
    refine w_loadL (cs := cs) hpu hf.ptr (by have := hf.ptrN; omega) hF hk hcs hu hone (by omega) ?_
    intro f1 hv1 hk1
    have h11 : f1 1 = f 1 := hk1 1 (by omega) (by omega)
    have hf1 : FrW C f1 lv b 0 ver fl c.l := hf.keep (fun z hz _ => hk1 z (by omega) (by omega)) (Nat.le_refl _)
    show (emitW C p c.l (c.t + 2)).wp P _ f1 w
    refine w_emit ht (fun hp => absurd hp hpu) (x := x) (fl := fl) (u := u) (v := f 1) (by omega) (by omega) (by omega) hv1 h11 hf1.flg (fun hx => by have := hf1.sfN hx; omega) hNp hrep hd.1 hd.2 (by omega) ?_
    intro f2 w2 v2 h21 ho2 hg2 hk2
    have hd2 : Dst C f2 w2 base (s ++ p.wr fl x) := ⟨by rw [h21]; exact ho2, Nat.le_trans hd.2 hg2.size⟩
    have hK : ∀ z, z < w.heap.size → z < base → ¬ own1 (f 1) z := fun z _ hz ho => by have := (Own.below hd.1 ho).1; omega
    refine ih T lv ⟨c.l + 1, c.t + 2 + emitN C p, c.k⟩ Q f2 w2 b cs xr ver fl base (s ++ p.wr fl x) htr hNr ?_ (by simp only; omega) ?_ (Nat.lt_of_lt_of_le hbw hg2.size) ?_ (Sch.Rep_ext hg2.ext hK rest hrr) hok hd2 (by simp only [List.length_append]; omega) ?_
    · exact (hf1.keep (fun z hz hz1 => hk2 z (by omega) hz1) (Nat.le_refl _)).up (by simp only; omega)
    · rw [h21]; exact fun h' => (hg2.own b h').elim hnb (fun h'' => by omega)
    · intro j y hj
      exact hg2.ext.cell (hcs j y hj) hnb
    · intro f3 w3 hw3
      refine h f3 w3 ?_
      have hw2 : Wrote C f w base s (p.wr fl x) c.l (c.l + 1) c.t f2 w2 := Wrote.mk' hd.2 rfl h21 ho2 hg2 (fun z hz1 hz => (hk2 z (by omega) hz1).trans (hk1 z (by omega) (by omega)))
      exact hw2.trans hw3 (by simp) hm.1 (by simp only; omega)
  | arrP g k o sT nul p rest ih => intro T lv c Q f w b cs x ver fl base s hty; simp [Sch.tyL] at hty
  | arrS g k o sT nul T' PT' sz df e rest ihe ih => intro T lv c Q f w b cs x ver fl base s hty; simp [Sch.tyL] at hty
  | sub g k o T' PT' sz df e rest ihe ih => intro T lv c Q f w b cs x ver fl base s hty; simp [Sch.tyL] at hty
  | opt g k o T' PT' PP sz df e rest ihe ih => intro T lv c Q f w b cs x ver fl base s hty; simp [Sch.tyL] at hty
  | cus u => intro T lv c Q f w b cs x ver fl base s hty; simp [Sch.tyL] at hty
end
end Go.Kg

set_option linter.unusedSimpArgs false
set_option linter.unusedVariables false
set_option linter.unusedSectionVars false
namespace Go.Kg
open Go
/-- How a known tag's field stands in a struct's cells. -/
def Kn.Rep (w : World) (K : Nat → Prop) (cs : List Value) (o : Nat) : (c : Kn) → c.T → Prop
  | .prim p _, x => ∃ v, seg cs o v.cells.toList ∧ p.rep1 w K v x
  | .arr _ _ _ sz _ e, a => ∃ v ls, cs[o]? = some v ∧ ArrAt w K sz v ls ∧ (ls.isSome = (show Option (List e.T) from a).isSome ∧ InHeap w v) ∧ (ls.getD []).length = ((show Option (List e.T) from a).getD []).length ∧
      ∀ (i : Nat) (es : List Value) x, (ls.getD [])[i]? = some es → ((show Option (List e.T) from a).getD [])[i]? = some x → e.Rep w K es x
  | .str _ _ sz _ _ _ e, x => ((cs.drop o).take sz).length = sz ∧ e.Rep w K ((cs.drop o).take sz) x
def KsRep (w : World) (K : Nat → Prop) (cs : List Value) : (l : List KF) → KsT l → Prop
  | [], _ => True
  | f :: l, (v, r) => f.c.Rep w K cs f.o v ∧ KsRep w K cs l r
theorem Kn.Rep_ext {w w' : World} {K C : Nat → Prop} (he : Ext C w w') (hK : ∀ b, b < w.heap.size → K b → ¬ C b) {cs : List Value} {o : Nat} (c : Kn) {x : c.T} (h : c.Rep w K cs o x) : c.Rep w' K cs o x := by
  cases c with
  | prim p d => obtain ⟨v, h1, h2⟩ := h; exact ⟨v, h1, Prim.rep1_ext he hK h2⟩
  | arr sT T PT sz df e =>
    obtain ⟨v, ls, h1, h2, h3, h4, h5⟩ := h
    exact ⟨v, ls, h1, h2.ext he hK, ⟨h3.1, h3.2.ext he⟩, h4, fun i es y hi hy => Sch.Rep_ext he hK e (h5 i es y hi hy)⟩
  | str T PT sz df sm mk e => exact ⟨h.1, Sch.Rep_ext he hK e h.2⟩
theorem KsRep_ext {w w' : World} {K C : Nat → Prop} (he : Ext C w w') (hK : ∀ b, b < w.heap.size → K b → ¬ C b) {cs : List Value} : ∀ (l : List KF) {x : KsT l}, KsRep w K cs l x → KsRep w' K cs l x
  | [], _, _ => trivial
  | f :: l, (v, r), h => ⟨Kn.Rep_ext he hK f.c h.1, KsRep_ext he hK l h.2⟩
/-- which are written: their numbers and texts -/
def ksOuts (ver : Int) : (l : List KF) → KsT l → List (Nat × List UInt8)
  | [], _ => []
  | f :: l, (v, r) => (if f.c.set v then [(f.num, f.c.wr ver v)] else []) ++ ksOuts ver l r
theorem ksOuts_len (ver : Int) : ∀ (l : List KF) (x : KsT l), (ksOuts ver l x).length = ksN l x
  | [], _ => rfl
  | f :: l, (v, r) => by simp only [ksOuts, ksN, List.length_append, ksOuts_len ver l r]; split <;> simp
theorem ksOuts_wr (ver : Int) : ∀ (l : List KF) (x : KsT l), ksW ver l x = (ksOuts ver l x).flatMap fun y => kTag y.1 y.2
  | [], _ => rfl
  | f :: l, (v, r) => by simp only [ksOuts, ksW, List.flatMap_append, ksOuts_wr ver l r]; split <;> simp
def Prim.eqOk (P : Program) (E : Env) : Prim → Bool
  | .bool => match P.underlying E.tB with | some .bool => true | _ => false
  | .i8 | .i16 | .i32 | .i64 => true
  | .uuid => true
  | .nstr => isPtrT P E.tPS
  | _ => false
def KF.tyW (P : Program) (C : Cfg) (T : Nat) (f : KF) : Bool := fldOff P T f.k == some f.o && decide (f.num < 4294967296) && match f.c with
  | .prim p _ => p.kOk P (p.ty C.E) && p.eqOk P C.E
  | .arr sT T' _ sz _ e => isScl (kindOf P sT) && sliSz P sT == some sz && e.tyW P C T'
  | .str T' _ sz _ _ _ e => (match kindOf P T' with | .agg n => n == sz | _ => false) && e.tyL P C T' && (match zeroOf P T' with | some (.agg z) => z.size == sz | _ => false) && e.cov sz 0
/-- zzSame, against what is by default -/
def SameK (P : Program) (same : Nat) (e : Sch) : Prop := ∀ (w : World) (K : Nat → Prop) (cs ds : Array Value) (x : e.T), e.Rep w K cs.toList x → e.chkD ds.toList = true → Ret P same #[.agg cs, .agg ds] w fun v w' => v = .bool (e.isD x) ∧ Ext none1 w w'
/-- the function that makes what is by default -/
def MkC (P : Program) (mk : Nat) (e : Sch) : Prop := ∀ w : World, Ret P mk #[] w fun v w' => (∃ ds : Array Value, v = .agg ds ∧ e.chkD ds.toList = true) ∧ Ext none1 w w'
def Kn.NeedW (P : Program) (C : Cfg) (ok : TagL → Prop) : Kn → Prop
  | .prim p _ => PrimW P C p
  | .arr _ _ _ _ _ e => LenWC P C none ∧ e.NeedW P C ok
  | .str _ _ _ _ same mk e => e.NeedW P C ok ∧ SameK P same e ∧ MkC P mk e
def KsNeedW (P : Program) (C : Cfg) (ok : TagL → Prop) : List KF → Prop
  | [] => True
  | f :: l => f.c.NeedW P C ok ∧ KsNeedW P C ok l
section
variable {P : Program} {C : Cfg} {ok : TagL → Prop}
/-- ahead of the count: L holds the numbers of those to be written, so far -/
structure PreS (C : Cfg) (L tm : Nat) (w0 : World) (f0 : Nat → Value) (d : List Nat) (f : Nat → Value) (w : World) : Prop where
  ext : Ext none1 w0 w
  own : Own w w0.heap.size C.E.tU32 1 (f L) (d.map fun n => .int .u32 (n : Nat))
  keep : ∀ x, x < tm → x ≠ L → f x = f0 x
theorem PreS.upd {L tm : Nat} {w0 : World} {f0 : Nat → Value} {d : List Nat} {f : Nat → Value} {w : World} (h : PreS C L tm w0 f0 d f w) {t : Nat} (ht : tm ≤ t) (hL : L < tm) (v : Value) : PreS C L tm w0 f0 d (upd f t v) w :=
  ⟨h.ext, by rw [upd_apply, if_neg (by omega)]; exact h.own, fun x hx hxL => by rw [upd_apply, if_neg (by omega)]; exact h.keep x hx hxL⟩
theorem w_enc {sl L n t tm : Nat} (hS : SliI P sl C.E.tU32 1 4 (.int .u32 0)) {w0 : World} {f0 f : Nat → Value} {w : World} {d : List Nat} {Q : Post} (h : PreS C L tm w0 f0 d f w) (hd : d.length ≤ 1000) (hL : L < tm) (ht : tm ≤ t)
    (hq : ∀ f' w', PreS C L tm w0 f0 (d ++ [n]) f' w' → Q .normal f' w') : (encI C sl L n t).wp P Q f w := by
  have e1 : ∀ m, (L = t + m) = False := by intro m; simp; omega
  have e2 : (L = t) = False := by simp; omega
  have hsz := h.ext.size
  refine wp_reg ?_
  simp [encI]
  rw [st_bsl (n := 1) (parts := #[(0, .const (.int .u32 n))]) hS (by omega) (by rfl) rfl (by omega) (by omega) (by simp [allSz, Value.cells])]
  simp [flat, Value.cells]
  generalize hw1 : w.alloc (.cells #[.int .u32 n] C.E.tU32) = w1
  have hE1 : Ext none1 w w1 := by subst hw1; exact (Ext.refl _ _).alloc _
  have hb1 : w1.heap[w.heap.size]? = some (.cells #[.int .u32 n] C.E.tU32 (0, 0)) := by subst hw1; exact alloc_new
  have hs1 : w.heap.size < w1.heap.size := lt_of_heap hb1
  refine st_append hS (by omega) (base := w0.heap.size) (xs := d.map fun n => .int .u32 (n : Nat)) (by simpa using Own.ext h.own hE1 (fun _ _ h => h)) (ad := some ⟨w.heap.size, 0, none⟩) (m := 1) (c := 1) (news := [.int .u32 n]) (by simp) (by simp) (by simp) ?_ (by simp [Value.oneCell']) (by simp [maxLen]; omega) (by simp; omega) (by omega) ?_
  · intro a ha j u hj
    cases ha
    cases j with
    | zero => simp at hj; subst hj; simp [Addr.add_mk, cell_of_blk hb1]
    | succ j => simp at hj
  · intro v' w2 ho2 hg2
    simp at hg2
    try simp
    refine hq _ _ ⟨?_, ?_, ?_⟩
    · have hx := (h.ext.trans hE1)
      exact ⟨hg2.ext.os.trans hx.os, hg2.ext.tape.trans hx.tape, hg2.ext.output.trans hx.output, Nat.le_trans hx.size hg2.ext.size,
        fun i hi hc => (hg2.ext.block i (Nat.lt_of_lt_of_le hi hx.size) (fun ho => by have := (Own.below h.own ho).1; omega)).trans (hx.block i hi hc)⟩
    · simpa using ho2
    · intro x hx hxL
      have a1 : ∀ m, (x = t + m) = False := by intro m; simp; omega
      have a2 : (x = t) = False := by simp; omega
      simp [a1, a2, hxL]
      exact h.keep x hx hxL
/-- the test of a known tag -/
theorem w_preR (ht : TyC P C) (hu : isAgg16 (kindOf P C.E.tUu) = true → TyUuE P C.E) {T PT pv t tm L : Nat} {kf : KF} (hty : kf.tyW P C T = true) {w0 : World} {f0 f : Nat → Value} {w : World} {dn : List Nat} {Q : Post} {b a : Nat} {cs : List Value} {x : kf.c.T} {K : Nat → Prop}
    (h : PreS C L tm w0 f0 dn f w) (hL : L < tm) (htm : tm ≤ t) (hpv : f pv = .pointer (some ⟨b, a, none⟩)) (hptm : pv < t) (hcs : CellsAt w b a cs) (hrep : kf.c.Rep w K cs kf.o x)
    (hN : kf.c.NeedW P C ok)
    (hq : ∀ f' w', PreS C L tm w0 f0 dn f' w' → f' (t + (preR C T PT pv kf t).2) = .bool (kf.c.set x) → Q .normal f' w') : (preR C T PT pv kf t).1.wp P Q f w := by
  obtain ⟨num, k, o, c⟩ := kf
  simp only [KF.tyW, Bool.and_eq_true, beq_iff_eq] at hty
  obtain ⟨⟨hF, _⟩, hty⟩ := hty
  simp only at hF hrep x
  have e1 : ∀ m, (pv = t + m) = False := by intro m; simp; omega
  have e2 : (pv = t) = False := by simp; omega
  have up : ∀ {g : Nat → Value}, PreS C L tm w0 f0 dn g w → ∀ m v, PreS C L tm w0 f0 dn (upd g (t + m) v) w := fun hg m v => hg.upd (by omega) hL v
  have up0 : ∀ {g : Nat → Value}, PreS C L tm w0 f0 dn g w → ∀ v, PreS C L tm w0 f0 dn (upd g t v) w := fun hg v => hg.upd htm hL v
  cases c with
  | str T' PT' sz df sm mk e =>
    obtain ⟨hlen, hre⟩ := hrep
    obtain ⟨_, hSame, hMk⟩ := hN
    simp only [Bool.and_eq_true] at hty
    have hk' : kindOf P T' = .agg sz := by
      have := hty.1.1.1
      split at this
      · rename_i n hn; rw [hn]; simp only [beq_iff_eq] at this; rw [this]
      · cases this
    have hsegL := hlen
    have hl' : ∀ w' : World, CellsAt w' b a cs → cellsFrom w' ⟨b, a + o, none⟩ 0 sz = some ((cs.drop o).take sz) := by
      intro w' hc'
      have := cellsFrom_seg hc' (u := ((cs.drop o).take sz).toArray) (o := o) (by
        intro j u hj
        simp only [List.getElem?_take] at hj
        split at hj
        · rw [List.getElem?_drop] at hj; exact hj
        · cases hj)
      rwa [List.size_toArray, hsegL] at this
    have hD := (Ext.refl none1 w).drew
    have hcD : CellsAt w.drew b a cs := CellsAt.ext (K := fun _ => True) hD (fun _ _ _ h => h) hcs trivial
    have hreD := Sch.Rep_ext hD (fun _ _ _ h => h) e hre
    refine Ir.cw_sound _ ?_
    refine cw_regH (fun w' => CellsAt w' b a cs) hcD ?_
    simp +contextual [preR, addrR, hpv, hF, Addr.add_mk, ld_agg hk', hl', hcD]
    refine (hMk w.drew).mono ?_
    rintro _ w1 ⟨⟨ds, rfl, hds⟩, hE1⟩
    have hc1 : CellsAt w1 b a cs := CellsAt.ext (K := fun _ => True) hE1 (fun _ _ _ h => h) hcD trivial
    refine ⟨hc1, ?_⟩
    refine (hSame w1 K ((cs.drop o).take sz).toArray ds x (by simpa using Sch.Rep_ext hE1 (fun _ _ _ h => h) e hreD) hds).mono ?_
    rintro _ w2 ⟨rfl, hE2⟩
    have hc2 : CellsAt w2 b a cs := CellsAt.ext (K := fun _ => True) hE2 (fun _ _ _ h => h) hc1 trivial
    refine ⟨hc2, ?_⟩
    simp +contextual [un?]
    have hE := (hD.trans hE1).trans hE2
    have h' : PreS C L tm w0 f0 dn f w2 := ⟨h.ext.trans hE, Own.ext h.own hE (fun _ _ h => h), h.keep⟩
    have up' : ∀ {g : Nat → Value}, PreS C L tm w0 f0 dn g w2 → ∀ m v, PreS C L tm w0 f0 dn (upd g (t + m) v) w2 := fun hg m v => hg.upd (by omega) hL v
    refine hq _ w2 (up' (up' (up' (up' (up' (up' (h'.upd htm hL _) _ _) _ _) _ _) _ _) _ _) _ _) ?_
    simp [preR, Kn.set]
  | arr sT T' PT' sz df e =>
    obtain ⟨v, ls, hv, harr, ⟨hsome, _⟩, hlen, _⟩ := hrep
    simp only [Bool.and_eq_true, beq_iff_eq] at hty
    obtain ⟨⟨hk, hsl⟩, _⟩ := hty
    obtain ⟨ad, cp, rfl, _, hmax⟩ := harr.form
    obtain ⟨E, j, hus, _, _⟩ := sliSz_spec hsl
    have cv : w.cell? ⟨b, a + o, none⟩ = some (.slice ad (ls.getD []).length cp) := hcs _ _ hv
    refine wp_reg ?_
    simp [preR, addrR, hpv, hF, Addr.add_mk, ld_scl (isScl_spec hk), cv, len_slice hus]
    refine hq _ w (up (up (up (up (up (up0 h _) _ _) _ _) _ _) _ _) _ _) ?_
    simp only [preR, upd_apply, if_true]
    congr 1
    show _ = !((show Option (List e.T) from x).getD []).isEmpty
    rw [hlen]
    cases hx : (show Option (List e.T) from x).getD [] with
    | nil => simp
    | cons y l => simp
  | prim p d =>
    obtain ⟨v, hv, hr1⟩ := hrep
    simp only [Bool.and_eq_true] at hty
    obtain ⟨hk, heq⟩ := hty
    by_cases hp : p = .uuid
    · subst hp
      have hTu := hu (kOk_uu hk rfl)
      obtain ⟨rfl, h16⟩ := hr1
      have hk' : kindOf P C.E.tUu = .agg 16 := hTu.kUu
      have hl' := cellsFrom_seg hcs (u := (cellsOf x).toArray) hv
      rw [show (cellsOf x).toArray.size = 16 by rw [List.size_toArray]; exact cellsOf_length.trans h16] at hl'
      refine wp_reg2 (l1 := addrR C T PT pv k t ++ [⟨none, some (t + 3), .load C.E.tUu (.tmp (t + 2)), C.E.tUu⟩]) (l2 := [⟨none, some (t + 4), .build C.E.tUu #[], C.E.tUu⟩, ⟨none, some (t + 5), .binOp .neq C.E.tUu (.tmp (t + 3)) (.tmp (t + 4)) C.E.tUu, C.E.tB⟩]) ?_
      simp [addrR, hpv, hF, Addr.add_mk, ld_agg hk', hl']
      rw [regWp_cons]
      simp only [wantedF_none, if_true]
      refine st_build16 hTu ?_
      rw [regWp_cons]
      simp only [wantedF_none, if_true]
      refine st_neq16 hTu (l := x) (m := List.replicate 16 0) h16 (by simp) ?_ ?_ ?_
      · simp [updO]
      · simp [updO, z16]
      · show Q .normal _ w
        refine hq _ w ?_ ?_
        · simp only [updO]; exact up (up (up (up (up (up0 h _) _ _) _ _) _ _) _ _) _ _
        · simp only [preR, updO, upd_apply, if_true]; rfl
    · have hk' : kindOf P (p.ty C.E) = .scl := by simp only [Prim.kOk, if_neg hp] at hk; exact isScl_spec hk
      have hone := rep1_one hr1
      rw [if_neg hp] at hone
      have huc : v.cells = #[v] := by cases v <;> simp_all [Value.oneCell', Value.cells]
      have cv : w.cell? ⟨b, a + o, none⟩ = some v := hcs _ _ (by simpa using hv 0 v (by simp [huc]))
      have fin : bin? P .neq (p.ty C.E) (.const (p.constV d)) v (p.constV d) = some (.bool (Kn.set (.prim p d) x)) := by
        cases p with
        | bool =>
          have h' : v = .bool x := hr1
          have hb : P.underlying C.E.tB = some .bool := by simp only [Prim.eqOk] at heq; split at heq <;> first | assumption | cases heq
          subst h'
          exact bin_bool_neq hb
        | i8 => have h' : v = .int .i8 x := hr1; subst h'; exact bin_neq
        | i16 => have h' : v = .int .i16 x := hr1; subst h'; exact bin_neq
        | i32 => have h' : v = .int .i32 x := hr1; subst h'; exact bin_neq
        | i64 => have h' : v = .int .i64 x := hr1; subst h'; exact bin_neq
        | nstr =>
          obtain ⟨E, hE⟩ := isPtrT_spec (show isPtrT P C.E.tPS = true from heq)
          cases x with
          | none => have h' : v = .pointer none := hr1; subst h'; exact bin_nnil_ptr hE
          | some l => obtain ⟨ad, rfl, _⟩ := hr1; exact bin_nnil_ptr hE
        | uuid => exact absurd rfl hp
        | u16 => cases heq
        | str => cases heq
        | bytes => cases heq
        | nbytes => cases heq
      have hpre : preR C T PT pv ⟨num, k, o, .prim p d⟩ t = (.reg (addrR C T PT pv k t ++ [⟨none, some (t + 3), .load (p.ty C.E) (.tmp (t + 2)), p.ty C.E⟩, ⟨none, some (t + 4), .binOp .neq (p.ty C.E) (.tmp (t + 3)) (.const (p.constV d)) (p.ty C.E), C.E.tB⟩]), 4) := by
        cases p <;> first | rfl | exact absurd rfl hp
      rw [hpre] at hq ⊢
      refine wp_reg ?_
      simp [addrR, hpv, hF, Addr.add_mk, ld_scl hk', cv, fin]
      refine hq _ w (up (up (up (up (up0 h _) _ _) _ _) _ _) _ _) ?_
      simp
/-- which are set, in order -/
def ksSet : (l : List KF) → KsT l → List Nat
  | [], _ => []
  | f :: l, (v, r) => (if f.c.set v then [f.num] else []) ++ ksSet l r
theorem ksOuts_set (ver : Int) : ∀ (l : List KF) (x : KsT l), (ksOuts ver l x).map (·.1) = ksSet l x
  | [], _ => rfl
  | f :: l, (v, r) => by simp only [ksOuts, ksSet, List.map_append, ksOuts_set ver l r]; split <;> simp
theorem ksSet_len : ∀ (l : List KF) (x : KsT l), (ksSet l x).length ≤ l.length
  | [], _ => Nat.le_refl _
  | f :: l, (v, r) => by have := ksSet_len l r; simp only [ksSet, List.length_append, List.length_cons]; split <;> simp <;> omega
theorem preW_t (C : Cfg) (T PT pv sl L : Nat) : ∀ (ks : List KF) (t : Nat), t ≤ (preW C T PT pv sl L ks t).2
  | [], t => Nat.le_refl _
  | f :: r, t => by
    have := preW_t C T PT pv sl L r (t + (preR C T PT pv f t).2 + 4)
    simp only [preW]; omega
theorem w_pre (ht : TyC P C) (hu : isAgg16 (kindOf P C.E.tUu) = true → TyUuE P C.E) {sl L T PT pv tm : Nat} (hS : SliI P sl C.E.tU32 1 4 (.int .u32 0)) {w0 : World} {f0 : Nat → Value} {Q : Post} {b a : Nat} {cs : List Value} {K : Nat → Prop} (hL : L < tm) (hpL : pv ≠ L) (hptm : pv < tm) (hcs : CellsAt w0 b a cs) (hb : ∀ b, K b → b < w0.heap.size → True) (hpv : f0 pv = .pointer (some ⟨b, a, none⟩)) :
    ∀ (ks : List KF) (x : KsT ks) (dn : List Nat) (t : Nat) (f : Nat → Value) (w : World), (ks.all (·.tyW P C T)) = true → KsRep w0 K cs ks x → dn.length + ks.length ≤ 1000 → tm ≤ t → PreS C L tm w0 f0 dn f w →
      KsNeedW P C ok ks → (∀ f' w', PreS C L tm w0 f0 (dn ++ ksSet ks x) f' w' → Q .normal f' w') → (seqL (preW C T PT pv sl L ks t).1).wp P Q f w := by
  intro ks
  induction ks with
  | nil =>
    intro x dn t f w _ _ _ _ h _ hq
    exact hq f w (by simpa [ksSet] using h)
  | cons kf r ih =>
    rintro ⟨v, xr⟩ dn t f w hty ⟨hr, hrr⟩ hd htm h ⟨hN, hNr⟩ hq
    simp only [List.all_cons, Bool.and_eq_true] at hty
    simp only [List.length_cons] at hd
    simp only [preW]
    refine seqL_cons ?_
    have hex : Ext none1 w0 w := h.ext
    refine wp_seqI ?_
    refine w_preR ht hu hty.1 h hL htm ((h.keep pv hptm hpL).trans hpv) (by omega) (CellsAt.ext (K := fun _ => True) (C := none1) hex (fun _ _ _ h => h) hcs trivial) (Kn.Rep_ext hex (fun _ _ _ h => h) kf.c hr) hN ?_
    intro f1 w1 h1 hc
    have next : ∀ f2 w2, PreS C L tm w0 f0 (dn ++ if kf.c.set v then [kf.num] else []) f2 w2 → (seqL (preW C T PT pv sl L r (t + (preR C T PT pv kf t).2 + 4)).1).wp P Q f2 w2 := by
      intro f2 w2 h2
      refine ih xr _ _ f2 w2 hty.2 hrr ?_ (by omega) h2 hNr ?_
      · simp only [List.length_append]; split <;> simp <;> omega
      · intro f' w' h'
        refine hq f' w' ?_
        simpa only [ksSet, List.append_assoc] using h'
    cases hset : kf.c.set v
    · rw [hset] at hc next
      exact .inr ⟨hc, next f1 w1 (by simpa using h1)⟩
    · rw [hset] at hc next
      refine .inl ⟨hc, ?_⟩
      refine w_enc hS h1 (by omega) hL (by omega) ?_
      intro f2 w2 h2
      exact next f2 w2 (by simpa using h2)
end
end Go.Kg

set_option linter.unusedSimpArgs false
set_option linter.unusedVariables false
set_option linter.unusedSectionVars false
namespace Go.Kg
open Go
theorem Own.form {w : World} {base e : Nat} {v : Value} {xs : List Value} (h : Own w base e 1 v xs) : ∃ a c, v = .slice a xs.length c ∧ xs.length ≤ c := by
  obtain ⟨n, h1, h2⟩ := h
  have hn : n = xs.length := by omega
  subst hn
  rcases h2 with ⟨rfl, hn⟩ | ⟨g, cap, cur, rfl, hb, hg, hnc, hcm, hcs, htake⟩
  · exact ⟨none, 0, by rw [hn], by omega⟩
  · exact ⟨_, cap, rfl, hnc⟩
/-- v[:k] -/
theorem Own.upTo {w : World} {base e : Nat} {a : Option Addr} {n c : Nat} {xs : List Value} (h : Own w base e 1 (.slice a n c) xs) {k : Nat} (hk : k ≤ xs.length) : Own w base e 1 (.slice (if c = 0 then a else a.map (·.add 0)) k c) (xs.take k) := by
  obtain ⟨n', h1, h2⟩ := h
  refine ⟨k, by simp; omega, ?_⟩
  rcases h2 with ⟨hv, hn⟩ | ⟨g, cap, cur, hv, hb, hg, hnc, hcm, hcs, htake⟩
  · cases hv
    have : k = 0 := by omega
    subst this
    exact .inl ⟨by simp, rfl⟩
  · cases hv
    refine .inr ⟨g, c, cur, by simp [Addr.add_mk], hb, hg, by omega, hcm, hcs, ?_⟩
    rw [← htake, List.take_take]
    congr 1
    omega
theorem OwnB.upTo {u8 : Nat} {w : World} {base : Nat} {a : Option Addr} {n c : Nat} {s : List UInt8} (h : OwnB u8 w base (.slice a n c) s) {k : Nat} (hk : k ≤ s.length) : OwnB u8 w base (.slice (if c = 0 then a else a.map (·.add 0)) k c) (s.take k) := by
  have := Own.upTo (k := k) h (by simpa using hk)
  unfold OwnB
  have e : cellsOf (s.take k) = (cellsOf s).take k := by simp [cellsOf]
  rw [e]; exact this
theorem own1_upTo {a : Option Addr} {n c k m : Nat} {b : Nat} (h : own1 (.slice (if c = 0 then a else a.map (·.add 0)) k m) b) : own1 (.slice a n c) b := by
  cases a with
  | none =>
    have e : (if c = 0 then (none : Option Addr) else (none : Option Addr).map (·.add 0)) = none := by split <;> rfl
    rw [e] at h; exact h
  | some a =>
    by_cases hc : c = 0
    · rw [if_pos hc] at h; exact h
    · rw [if_neg hc] at h; exact h
/-- where the elements stand -/
theorem Own.cells1 {w : World} {base e : Nat} {v : Value} {xs : List Value} (h : Own w base e 1 v xs) (hne : xs ≠ []) : ∃ g c, v = .slice (some ⟨g, 0, none⟩) xs.length c ∧ base ≤ g ∧ g < w.heap.size ∧ ∀ i u, xs[i]? = some u → w.cell? ⟨g, i, none⟩ = some u := by
  obtain ⟨n, h1, h2⟩ := h
  have hn : n = xs.length := by omega
  subst hn
  rcases h2 with ⟨rfl, hn⟩ | ⟨g, cap, cur, rfl, hb, hg, hnc, hcm, hcs, htake⟩
  · exact absurd (List.eq_nil_of_length_eq_zero hn) hne
  · refine ⟨g, cap, rfl, hb, lt_of_heap hg, fun i u hi => ?_⟩
    rw [cell_of_blk hg]
    have : (cur.toList.take (xs.length * 1))[i]? = some u := by rw [htake]; exact hi
    rw [List.getElem?_take] at this
    split at this
    · simpa using this
    · cases this
section
variable {P : Program} {C : Cfg}
theorem Wrote.upd {f g : Nat → Value} {w w' : World} {base n m t : Nat} {s out : List UInt8} (h : Wrote C f w base s out n m t g w') (hn : n ≤ t) {x : Nat} (hx : t ≤ x) (hx1 : x ≠ 1) (v : Value) : Wrote C f w base s out n m t (upd g x v) w' := by
  have e : (Go.Kg.upd g x v) 1 = g 1 := by rw [upd_apply, if_neg (by omega)]
  refine ⟨?_, ?_, ?_⟩
  · have := h.dst; unfold Dst at this ⊢; rwa [e]
  · have := h.grew; rwa [e]
  · intro y hy1 hy
    by_cases hyx : y < t
    · rw [upd_apply, if_neg (by omega)]; exact h.keep y hy1 hy
    · exact absurd hy (by omega)
/-- dst = kbin.AppendUvarint(dst, n) -/
theorem w_uv (hU : ∀ n : Nat, n < 4294967296 → WrC P C.E.tU8 C.E.f_kbin_AppendUvarint [.int .u32 n] (uvOut n)) {n t : Nat} (hn : n < 4294967296) {Q : Post} {f : Nat → Value} {w : World} {base : Nat} {s : List UInt8} (ht1 : 1 < t) (hd : Dst C f w base s) (hsz : s.length + (uvOut n).length ≤ 1099511627776)
    (h : ∀ f' w', OwnB C.E.tU8 w' base (f' 1) (s ++ uvOut n) → Grew w (f 1) w' (f' 1) → Keeps f f' t → Q .normal f' w') : (uvI C n t).wp P Q f w := by
  refine wp_reg ?_
  simp [uvI]
  refine (hU n hn w base (f 1) s hd.1 hd.2 hsz).mono ?_
  rintro v' w' ⟨ho', hg⟩
  refine h _ _ (by simpa using ho') (by simpa using hg) ?_
  exact keeps_one (keeps_upd (keeps_upd (Keeps.refl _ _) (by omega)) (by omega))
theorem prim_szW {w : World} {K : Nat → Prop} {p : Prim} {x : p.T} {v : Value} (h : p.rep1 w K v x) (hp : p.text = false) : (p.wr true x).length = p.szW := by
  cases p with
  | uuid => exact h.2
  | bool => rfl
  | i8 => rfl
  | i16 => simp [Prim.wr, num, Prim.szW]
  | u16 => simp [Prim.wr, num, Prim.szW]
  | i32 => simp [Prim.wr, num, Prim.szW]
  | i64 => simp [Prim.wr, num, Prim.szW]
  | str => cases hp
  | nstr => cases hp
  | bytes => cases hp
  | nbytes => cases hp
theorem szW_lt (p : Prim) : p.szW < 4294967296 := by cases p <;> simp [Prim.szW]
/-- a list, its value in l: what comes ahead of the loop, and the loop; q: the locals below it stay -/
theorem w_list2 {sT l n q m t t1 t' kk sz b a base pv : Nat} {nul : Option Nat} {v : Value} {ls : Option (List (List Value))} {Q : Post} {f : Nat → Value} {w : World} {ver : Int} {fl : Bool} {s : List UInt8} {body : Ir}
    {α : Type} (el : List α) (wrE : α → List UInt8) (hsl : sliSz P sT = some sz) (hW : LenWC P C nul) (hf : FrW C f pv b a ver fl n) (hnq : n ≤ q) (hlq : l < q) (hqm : q ≤ m) (hmt : m ≤ t) (h1l : 1 < l) (ht1 : t1 = t + lenN C nul) (htt : t1 + 4 ≤ t')
    (hv : f l = v) (ha : ArrAt w (· < base) sz v ls) (hn : (ls.getD []).length = el.length) (hd : Dst C f w base s)
    (hsz : s.length + (lenW nul fl el.length ls.isNone ++ el.flatMap wrE).length ≤ 1099511627776)
    (hbody : ∀ (i : Nat) (y : α) (s' : List UInt8) (f' : Nat → Value) (w' : World), el[i]? = some y → FrW C f' pv b a ver fl n → f' l = v → f' (t1 + 2) = .int .i64 i → f' (t1 + 1) = .int .i64 el.length → Dst C f' w' base s' → s'.length + (wrE y).length ≤ 1099511627776 →
      Grew w (f 1) w' (f' 1) →
      body.wp P (fun e f'' w'' => e = .normal ∧ Wrote C f' w' base s' (wrE y) q m t f'' w'' ∧ f'' (t1 + 2) = .int .i64 i ∧ f'' (t1 + 1) = .int .i64 el.length) f' w')
    (h : ∀ f' w', Wrote C f w base s (lenW nul fl el.length ls.isNone ++ el.flatMap wrE) q m t f' w' → Q .normal f' w') :
    (seqL [lenI C nul sT l t, rangeI C sT l t1 t' kk body]).wp P Q f w := by
  obtain ⟨ad, cp, rfl, hnone, hmax⟩ := ha.form
  rw [hn] at *
  have h1n := hf.one
  refine seqL_cons ?_
  refine w_len (v := f 1) hsl (by omega) (by omega) (by omega) hv rfl hf.flg (fun hx => by have := hf.sfN hx; omega) hW hd.1 hd.2 (fl := fl) ?_ ?_
  · rw [hnone]; simp only [List.length_append] at hsz; omega
  intro f3 w3 v3 h31 ho3 hg3 hk3
  rw [hnone] at ho3
  have hv3 : f3 l = .slice ad el.length cp := (hk3 l (by omega) (by omega)).trans hv
  have hw3 : Wrote C f w base s (lenW nul fl el.length ls.isNone) q m t f3 w3 := Wrote.mk' hd.2 rfl h31 ho3 hg3 (fun x hx1 hx => hk3 x (by omega) hx1)
  show (rangeI C sT l t1 t' kk body).wp P Q f3 w3
  refine w_range hsl (by omega) (by omega) htt hmax hv3
    (fun i f' w' => Wrote C f w base s (lenW nul fl el.length ls.isNone ++ (el.take i).flatMap wrE) q m t f' w') ?_ ?_ ?_ ?_
  · rintro i f1 f1' w' hx hw
    refine ⟨?_, ?_, ?_⟩
    · have := hw.dst; unfold Dst at this ⊢; rwa [hx 1 (by omega)]
    · have := hw.grew; rwa [hx 1 (by omega)]
    · intro x hx1 hxl; rw [hx x (by omega)]; exact hw.keep x hx1 hxl
  · simpa using hw3
  · rintro i hi f' w' hw h2 h1
    obtain ⟨y, hy⟩ : ∃ y, el[i]? = some y := ⟨_, List.getElem?_eq_getElem hi⟩
    have hfm := flatMap_take wrE el i y hy
    have hle := flatMap_take_le wrE el (i + 1)
    rw [hfm] at hle
    have hl' : f' l = .slice ad el.length cp := (hw.keep l (by omega) (.inl (by omega))).trans hv
    refine Ir.wp_mono body ?_ (hbody i y (s ++ (lenW nul fl el.length ls.isNone ++ (el.take i).flatMap wrE)) f' w' hy (hf.keep (fun x hx hx1 => hw.keep x hx1 (.inl (by omega))) (Nat.le_refl _)) hl' h2 h1 hw.dst ?_ hw.grew)
    · rintro e f'' w'' ⟨rfl, hw2, h22, h12⟩
      refine ⟨rfl, ?_, h22, h12⟩
      have := hw.trans hw2 (Nat.le_refl _) (Nat.le_refl _) (Nat.le_refl _)
      rw [hfm]
      rwa [List.append_assoc] at this
    · simp only [List.length_append] at hsz hle ⊢; omega
  · rintro f' w' hw
    refine h f' w' ?_
    have : el.take el.length = el := List.take_length
    rwa [this] at hw
/-- a text that is written twice. St: what the text needs, in every frame and world that has come of these -/
theorem w_twice (ht : TyC P C) (hB : sliSz P C.E.tBs = some 1) (uB : P.underlying C.E.tBs = some (.slice C.E.tU8)) (hU : ∀ n : Nat, n < 4294967296 → WrC P C.E.tU8 C.E.f_kbin_AppendUvarint [.int .u32 n] (uvOut n)) {load : Ir} {num l m lab t ts : Nat} {body0 : List Ir} (hnum : num < 4294967296) {Q : Post} {f : Nat → Value} {w : World} {base tm : Nat} {s out : List UInt8} {n : Nat} {St : (Nat → Value) → World → Prop}
    (hl1 : 1 < n) (hln : n ≤ l) (hlm : l + 3 ≤ m) (hmt : m ≤ tm) (htm : tm ≤ t) (hts : tm ≤ ts) (hd : Dst C f w base s) (hsz : s.length + (kTag num out).length ≤ 1099511627776)
    (hload : ∀ Q' : Post, (∀ f' w', St f' w' → Ext none1 w w' → (∀ x, x < tm → x ≠ l → f' x = f x) → Q' .normal f' w') → load.wp P Q' f w)
    (hSt : ∀ f w f' w' s', St f w → Dst C f w base s' → Grew w (f 1) w' (f' 1) → (∀ x, x < tm → x ≠ 1 → x ≠ l + 1 → x ≠ l + 2 → (x < l + 3 ∨ m ≤ x) → f' x = f x) → St f' w')
    (hbody : ∀ (Q' : Post) f w s', St f w → Dst C f w base s' → s'.length + out.length ≤ 1099511627776 → (∀ f' w', Wrote C f w base s' out (l + 3) m tm f' w' → Q' .normal f' w') → (seqL body0).wp P Q' f w)
    (h : ∀ f' w', Wrote C f w base s (kTag num out) n m tm f' w' → Q .normal f' w') : (twiceI C load num l lab t (body0 ++ [sizedI C (l + 1) lab ts])).wp P Q f w := by
  have hsum : (kTag num out).length = (uvOut num).length + (uvOut (out.length % 4294967296)).length + out.length := by simp only [kTag, List.length_append]
  have e1 : ∀ x, x < tm → ∀ k, (x = ts + k) = False := by intro x hx k; simp; omega
  have e1' : ∀ x, x < tm → (x = ts) = False := by intro x hx; simp; omega
  have e2 : ∀ x, x < tm → ∀ k, (x = t + k) = False := by intro x hx k; simp; omega
  have e2' : ∀ x, x < tm → (x = t) = False := by intro x hx; simp; omega
  have p1 : (1 = l + 1) = False := by simp; omega
  have p2 : (1 = l + 2) = False := by simp
  have l0 : (l = 0) = False := by simp; omega
  refine ⟨fun f' w' => f' (l + 1) = .bool true ∧ Wrote C f w base s (uvOut num ++ uvOut (out.length % 4294967296)) n m tm f' w' ∧ St f' w', fun _ _ => 0, ?_, ?_⟩
  · -- the first time
    simp only [List.cons_append, List.nil_append]
    refine seqL_cons ?_
    refine hload _ ?_
    intro f1 w1 hS1 he1 hk1
    have h11 : f1 1 = f 1 := hk1 1 (by omega) (by omega)
    have hd1 : Dst C f1 w1 base s := by unfold Dst at hd ⊢; rw [h11]; exact ⟨Own.ext hd.1 he1 (fun _ _ h => h), Nat.le_trans hd.2 he1.size⟩
    refine seqL_cons ?_
    refine w_uv hU hnum (by omega) hd1 (by omega) ?_
    intro f2 w2 ho2 hg2 hk2
    refine seqL_cons (wp_reg ?_)
    simp
    refine seqL_cons (wp_reg ?_)
    obtain ⟨ad, cp, hform, _⟩ := Own.form ho2
    simp only [cellsOf_length] at hform
    simp [hform, len_slice uB, l0, e2 1 (by omega), e2' 1 (by omega)]
    refine seqL_cons ?_
    show (seqL (body0 ++ _)).wp P _ _ _
    generalize hf3 : upd (upd (upd (upd f2 (l + 1) _) (t + 2) _) (t + 3) _) (l + 2) _ = f3
    have k3 : ∀ x, x < tm → x ≠ l + 1 → x ≠ l + 2 → f3 x = f2 x := by
      intro x hx h1 h2
      subst hf3
      simp [e2 x hx, h1, h2]
    have k3s : f3 (l + 1) = .bool false := by subst hf3; simp [e2 l (by omega), e2 (l + 1) (by omega)]
    have k3n : f3 (l + 2) = .int .i64 ((s ++ uvOut num).length : Nat) := by subst hf3; simp
    have h31 : f3 1 = f2 1 := k3 1 (by omega) (by omega) (by omega)
    have hd3 : Dst C f3 w2 base (s ++ uvOut num) := ⟨by rw [h31]; exact ho2, Nat.le_trans hd1.2 hg2.size⟩
    have hS3 : St f3 w2 := hSt f1 w1 f3 w2 s hS1 hd1 (by rw [h31]; exact hg2) (fun x hx hx1 hxa hxb _ => by rw [k3 x hx hxa hxb]; exact hk2 x (by omega) hx1)
    refine seqL_append ?_
    refine hbody _ f3 w2 _ hS3 hd3 (by simp only [List.length_append]; omega) ?_
    intro f4 w4 hw4
    have k4s : f4 (l + 1) = .bool false := (hw4.keep (l + 1) (by omega) (.inl (by omega))).trans k3s
    have k4n : f4 (l + 1 + 1) = .int .i64 ((s ++ uvOut num).length : Nat) := (hw4.keep (l + 2) (by omega) (.inl (by omega))).trans k3n
    show (sizedI C (l + 1) lab ts).wp P _ f4 w4
    refine wp_seqI (wp_reg ?_)
    simp [k4s, e1 (l + 1) (by omega), e1' (l + 1) (by omega), un?]
    refine .inl ⟨by simp, ?_⟩
    refine seqL_cons ?_
    refine Ir.cw_sound _ ?_
    have hD := (Ext.refl none1 w4).drew
    refine cw_regH (fun _ => True) trivial ?_
    obtain ⟨a4, c4, hform4, hc4⟩ := Own.form hw4.dst.1
    simp only [cellsOf_length] at hform4 hc4
    have sl1 := slice_hi (P := P) (T := C.E.tBs) hB (a := a4) (n := (s ++ uvOut num ++ out).length) (c := c4) (k := .i64) (l := (s ++ uvOut num).length) (by simp only [List.length_append] at hc4 ⊢; omega)
    have sl2 := slice_lo (P := P) (T := C.E.tBs) hB (a := a4) (n := (s ++ uvOut num ++ out).length) (c := c4) (k := .i64) (l := (s ++ uvOut num).length) (by simp only [List.length_append]; omega)
    have hsub : (s ++ uvOut num ++ out).length - (s ++ uvOut num).length = out.length := by simp only [List.length_append]; omega
    rw [hsub] at sl2
    have hwr : IntKind.u32.wrap (out.length : Int) = ((out.length % 4294967296 : Nat) : Int) := by simp [IntKind.wrap, IntKind.signed, IntKind.bits]
    have n1 : ∀ k, (1 = ts + k) = False := fun k => e1 1 (by omega) k
    have n1' : (1 = ts) = False := e1' 1 (by omega)
    have n2 : ∀ k, (l + 1 + 1 = ts + k) = False := fun k => e1 (l + 1 + 1) (by omega) k
    have n2' : (l + 1 + 1 = ts) = False := e1' (l + 1 + 1) (by omega)
    have hdst4 := hw4.dst.1
    have hgr4 := hw4.grew
    rw [hform4] at hdst4 hgr4
    have hO := OwnB.upTo hdst4 (k := (s ++ uvOut num).length) (by simp only [List.length_append]; omega)
    rw [List.take_left] at hO
    generalize hnn : (s ++ uvOut num).length = nn at k4n sl1 sl2 hO
    generalize hnt : (s ++ uvOut num ++ out).length = ntt at hform4 sl1 sl2 hdst4 hgr4
    have t0 : (ts = 0) = False := by simp; omega
    have q1 : ∀ k, (l = ts + k) = False := fun k => e1 l (by omega) k
    have q1' : (l = ts) = False := e1' l (by omega)
    have q2' : (l + 1 = ts) = False := e1' (l + 1) (by omega)
    have q3 : (ts + 1 + 1 = ts) = False := by simp; omega
    simp +contextual [hform4, k4n, t0, q1, q1', q2', q3, n1, n1', n2, n2', sl1, sl2, len_slice uB, ht.iInt, ht.iU32, hwr]
    refine (hU (out.length % 4294967296) (Nat.mod_lt _ (by omega)) w4.drew base _ _ (Own.ext hO hD (fun _ _ h => h)) (Nat.le_trans hw4.dst.2 hD.size) (by simp only [List.length_append]; omega)).mono ?_
    rintro v5 w5 ⟨ho5, hg5⟩
    try simp
    refine seqL_cons (wp_reg ?_)
    simp
    show lab = lab ∧ _
    refine ⟨rfl, ?_⟩
    have hg1 : Grew w (f 1) w1 (f1 1) := by rw [h11]; exact Grew.post (Grew.refl _ _) he1
    have hgs : Grew w4 (.slice a4 ntt c4) w4.drew (.slice (if c4 = 0 then a4 else a4.map (·.add 0)) nn c4) := ⟨hD.mono (fun _ _ h => h.elim), fun b hb => .inl (own1_upTo hb)⟩
    have hg25 : Grew w1 (f1 1) w5 v5 := by
      rw [h31] at hgr4
      exact ((hg2.trans hgr4).trans hgs).trans hg5
    have keep : ∀ x, x < tm → x ≠ 1 → x ≠ l + 1 → x ≠ l + 2 → (x < l + 3 ∨ m ≤ x) → ∀ a0 a1 a2 a3 a4 a5 a6 a7 a8 a9 a10, upd (upd (upd (upd (upd (upd (upd (upd (upd (upd (upd (upd (upd f4 ts a0) (ts + 1) a1) (ts + 2) a2) (ts + 3) a3) (ts + 4) a4) (ts + 5) a5) (ts + 6) a6) (ts + 7) a7) (ts + 8) a8) (ts + 9) a9) (ts + 10) a10) 1 v5) (l + 1) (.bool true) x = f1 x := by
      intro x hx hx1 hxa hxb hxm a0 a1 a2 a3 a4 a5 a6 a7 a8 a9 a10
      simp [e1 x hx, e1' x hx, hx1, hxa]
      rw [hw4.keep x hx1 (by omega), k3 x hx hxa hxb]
      exact hk2 x (by omega) hx1
    refine ⟨by simp, ⟨?_, ?_, ?_⟩, ?_⟩
    · refine ⟨?_, ?_⟩
      · simp [l0]
        rw [← List.append_assoc]; exact ho5
      · exact Nat.le_trans (Nat.le_trans hd.2 hg1.size) hg25.size
    · simp [l0]
      exact hg1.trans hg25
    · intro x hx1 hx
      exact (keep x (by omega) hx1 (by omega) (by omega) (by omega) _ _ _ _ _ _ _ _ _ _ _).trans (hk1 x (by omega) (by omega))
    · refine hSt f1 w1 _ w5 s hS1 hd1 (by simpa [l0] using hg25) ?_
      intro x hx hx1 hxa hxb hxm
      exact keep x hx hx1 hxa hxb hxm _ _ _ _ _ _ _ _ _ _ _
  · -- the second time
    rintro g w6 ⟨gs, hw6, hS6⟩
    show (seqL (body0 ++ _)).wp P _ g w6
    refine seqL_append ?_
    refine hbody _ g w6 _ hS6 hw6.dst (by simp only [List.length_append]; omega) ?_
    intro f7 w7 hw7
    have k7s : f7 (l + 1) = .bool true := (hw7.keep (l + 1) (by omega) (.inl (by omega))).trans gs
    show (sizedI C (l + 1) lab ts).wp P _ f7 w7
    refine wp_seqI (wp_reg ?_)
    simp [k7s, e1 (l + 1) (by omega), e1' (l + 1) (by omega), un?]
    refine .inr ⟨by simp, ?_⟩
    show Q .normal _ w7
    refine h _ _ ?_
    have := hw6.trans hw7 (by omega) (Nat.le_refl _) (Nat.le_refl _)
    exact (this.upd (by omega) hts (by omega) _).upd (by omega) (by omega) (by omega) _
end
end Go.Kg

set_option linter.unusedSimpArgs false
set_option linter.unusedVariables false
set_option linter.unusedSectionVars false
namespace Go.Kg
open Go
section
variable {P : Program} {C : Cfg}
theorem caseW_mono (T PT pv : Nat) (kf : KF) (c : Ct) (lab : Nat) : c.l ≤ (caseW C T PT pv kf c lab).2.1.l ∧ c.t ≤ (caseW C T PT pv kf c lab).2.1.t := by
  obtain ⟨num, k, o, cc⟩ := kf
  cases cc with
  | prim p d => simp only [caseW]; split <;> (simp only; omega)
  | arr sT T' PT' sz df e =>
    have := genW_mono (C := C) e T' PT' (c.l + 4) ⟨c.l + 5, c.t + 8 + lenN C none + 8, c.k + 2⟩
    simp only [caseW]
    simp only at this
    omega
  | str T' PT' sz df sm mk e =>
    have := genWL_mono (C := C) e T' c.l ⟨c.l + 3, c.t + 8, c.k⟩
    simp only [caseW]
    simp only at this
    omega
theorem casesW_mono (T PT pv key : Nat) : ∀ (ks : List KF) (c : Ct) (lab : Nat), c.l ≤ (casesW C T PT pv key ks c lab).2.l ∧ c.t ≤ (casesW C T PT pv key ks c lab).2.t
  | [], c, lab => ⟨Nat.le_refl _, Nat.le_refl _⟩
  | f :: r, c, lab => by
    have h1 := caseW_mono (C := C) T PT pv f ⟨c.l, c.t + 2, c.k⟩ lab
    simp only [casesW]
    generalize caseW C T PT pv f ⟨c.l, c.t + 2, c.k⟩ lab = z at h1 ⊢
    obtain ⟨b, c1, lab1⟩ := z
    have h2 := casesW_mono T PT pv key r c1 lab1
    simp only at h1 ⊢
    omega
theorem Wrote.down {f g : Nat → Value} {w w' : World} {base n m t t' : Nat} {s out : List UInt8} (h : Wrote C f w base s out n m t g w') (ht : t' ≤ t) : Wrote C f w base s out n m t' g w' :=
  ⟨h.dst, h.grew, fun x hx1 hx => h.keep x hx1 (by omega)⟩
/-- v := v.F, and of 16 octets: they lie in a new block -/
theorem w_load2 (ht : TyC P C) {Q : Post} {f : Nat → Value} {w : World} {T PT pv k o ty l t : Nat} {p : Prim} (hq : p = .uuid → isAgg16 (kindOf P C.E.tUu) = true) {b a : Nat} {cs : List Value} {u : Value} (hpv : f pv = .pointer (some ⟨b, a, none⟩)) (hF : fldOff P T k = some o) (hk : p.kOk P ty = true)
    (hc : CellsAt w b a cs) (hs : seg cs o u.cells.toList) (hu : if p = .uuid then ∃ c : Array Value, u = .agg c ∧ c.size = 16 ∧ allOne c.toList = true else u.oneCell' = true) (hl : l < t) (hl1 : 1 < l)
    (h : ∀ f' w', LocVal w' f' p l u → (p = .uuid → ∃ bb, f' l = .pointer (some ⟨bb, 0, none⟩) ∧ w.heap.size ≤ bb) → Ext none1 w w' → (∀ x, x < t → x ≠ l → f' x = f x) → Q .normal f' w') : (loadI C T PT pv k ty l t p).wp P Q f w := by
  by_cases hp : p = .uuid
  · subst hp
    simp only [if_true] at hu
    obtain ⟨c, rfl, hc16, hone⟩ := hu
    have hk' : kindOf P ty = .agg 16 := by
      simp only [Prim.kOk, if_true] at hk
      revert hk; cases kindOf P ty <;> simp [isAgg16]
      intro h'; split at h' <;> simp_all
    have hl' := cellsFrom_seg hc (u := c) hs
    rw [hc16] at hl'
    have e1 : l ≠ t := by omega
    have e2 : ∀ n, l ≠ t + n := by omega
    have e3 : ∀ n, (t + n = l) = False := by intro n; simp; omega
    have keep : ∀ a b c d e, ∀ x, x < t → x ≠ l → upd (upd (upd (upd (upd f t a) (t + 1) b) (t + 2) c) (t + 3) d) l e x = f x := by
      intro a b c d e x hx hx2
      have x3 : ∀ n, (x = t + n) = False := by intro n; simp; omega
      have x4 : (x = t) = False := by simp; omega
      simp [x3, x4, hx2]
    refine wp_reg ?_
    have hz : zeroOf P C.E.tUu = some (.agg z16) := (ht.uu (hq rfl)).zUu
    simp [loadI, addrR, putL, hpv, hF, Addr.add_mk, ld_agg hk', hl', hz, Value.cells, e3, store_agg (ht.uu (hq rfl)).kUu, hc16, hone, putK_blk alloc_new, z16_size]
    refine h _ _ ?_ ?_ ?_ (keep _ _ _ _ _)
    · simp only [LocVal, if_true]
      refine ⟨w.heap.size, c, C.E.tUu, (0, 0), by simp, ?_, rfl, hc16⟩
      have hov : over z16 0 c.toList = c := by
        have hd : z16.toList.drop (0 + c.toList.length) = [] := List.drop_eq_nil_of_le (by simp [z16_size, hc16])
        simp only [over, hd]; simp
      rw [hov]
      exact setBlk_same alloc_new
    · intro _; exact ⟨w.heap.size, by simp, Nat.le_refl _⟩
    · exact ((Ext.refl none1 w).alloc _).setBlk (.inl (Nat.le_refl _)) _
  · exact w_load ht hq hpv hF hk hc hs hu hl hl1 (fun f' w' h1 h2 h3 => h f' w' h1 (fun e => absurd e hp) h2 h3)
theorem LocVal.grew {p : Prim} {l : Nat} {u : Value} {f f' : Nat → Value} {w w' : World} {v v' : Value} (h : LocVal w f p l u) (hx : p = .uuid → ∃ bb, f l = .pointer (some ⟨bb, 0, none⟩) ∧ ¬ own1 v bb) (hg : Grew w v w' v') (hl : f' l = f l) : LocVal w' f' p l u := by
  unfold LocVal at h ⊢
  by_cases hp : p = .uuid
  · rw [if_pos hp] at h ⊢
    obtain ⟨b, cs, e, fz, hf, hb, hu, h16⟩ := h
    obtain ⟨bb, hbb, hn⟩ := hx hp
    rw [hf] at hbb
    cases hbb
    exact ⟨b, cs, e, fz, hl.trans hf, hg.ext.old hb hn, hu, h16⟩
  · rw [if_neg hp] at h ⊢
    rw [hl]; exact h
variable {ok : TagL → Prop}
theorem w_caseW (ht : TyC P C) (hfx : C.fx = true) (hB : sliSz P C.E.tBs = some 1) (uB : P.underlying C.E.tBs = some (.slice C.E.tU8)) (hU : ∀ n : Nat, n < 4294967296 → WrC P C.E.tU8 C.E.f_kbin_AppendUvarint [.int .u32 n] (uvOut n))
    {T PT pv n mm tm : Nat} {kf : KF} (hty : kf.tyW P C T = true) (hN : kf.c.NeedW P C ok) {c : Ct} {lab : Nat} {Q : Post} {f : Nat → Value} {w : World} {b a base : Nat} {cs : List Value} {x : kf.c.T} {ver : Int} {s : List UInt8}
    (hf : FrW C f pv b a ver true n) (hn : n ≤ c.l) (hm : (caseW C T PT pv kf c lab).2.1.l ≤ mm) (hmt : mm ≤ tm) (htm : tm ≤ c.t) (hb : b < base) (hcs : CellsAt w b a cs) (hr : kf.c.Rep w (· < base) cs kf.o x) (hok : kf.c.TagsOk ok x) (hd : Dst C f w base s)
    (hsz : s.length + (kTag kf.num (kf.c.wr ver x)).length ≤ 1099511627776) (h : ∀ f' w', Wrote C f w base s (kTag kf.num (kf.c.wr ver x)) n mm tm f' w' → Q .normal f' w') : (caseW C T PT pv kf c lab).1.wp P Q f w := by
  obtain ⟨num, k, o, cc⟩ := kf
  simp only [KF.tyW, Bool.and_eq_true, beq_iff_eq, decide_eq_true_eq] at hty
  obtain ⟨⟨hF, hnum⟩, hty⟩ := hty
  simp only at hF hnum hr x hok hsz h hN
  have h1n := hf.one
  have hpt := hf.ptrN
  have hsum : ∀ out, (kTag num out).length = (uvOut num).length + (uvOut (out.length % 4294967296)).length + out.length := fun out => by simp only [kTag, List.length_append]
  cases cc with
  | str T' PT' sz df sm mk e =>
    obtain ⟨hlen, hre⟩ := hr
    obtain ⟨hNe, _, _⟩ := hN
    simp only [Bool.and_eq_true] at hty
    obtain ⟨⟨⟨hk, htl⟩, hz⟩, hcov⟩ := hty
    have hk' : kindOf P T' = .agg sz := by
      split at hk
      · rename_i n hn; rw [hn]; simp only [beq_iff_eq] at hk; rw [hk]
      · cases hk
    obtain ⟨z, hz', hzs⟩ : ∃ z, zeroOf P T' = some (.agg z) ∧ z.size = sz := by
      split at hz
      · rename_i z hz'; exact ⟨z, hz', by simpa using hz⟩
      · cases hz
    have hone := cov_one (es := (cs.drop o).take sz) (sz := sz) hlen e x 0 hcov hre
    rw [List.drop_zero] at hone
    simp only [caseW] at hm ⊢
    have hml := genWL_mono (C := C) e T' c.l ⟨c.l + 3, c.t + 8, c.k⟩
    have hse : ∀ Q f w b cs x ver fl base s, _ := fun Q f w b cs x ver fl base s => soundWL (ok := ok) ht e T' c.l ⟨c.l + 3, c.t + 8, c.k⟩ Q f w b cs x ver fl base s
    generalize hzz : e.genWL C T' c.l ⟨c.l + 3, c.t + 8, c.k⟩ = zz at hm hml hse ⊢
    obtain ⟨eb, c1⟩ := zz
    simp only at hm hml hse ⊢
    refine w_twice (body0 := eb) (m := mm) (tm := tm) (n := n) (out := (Kn.str T' PT' sz df sm mk e).wr ver x) ht hB uB hU hnum
      (St := fun f' w' => FrW C f' pv b a ver true n ∧ ∃ b', f' c.l = .pointer (some ⟨b', 0, none⟩) ∧ ¬ own1 (f' 1) b' ∧ b' < w'.heap.size ∧ CellsAt w' b' 0 ((cs.drop o).take sz) ∧ e.Rep w' (· < base) ((cs.drop o).take sz) x)
      h1n hn (by omega) hmt (by omega) (by omega) hd hsz ?_ ?_ ?_ h
    · intro Q' hq
      refine w_loadS hf.ptr hF hk' hz' hzs hcs hlen hone (by omega) ?_
      intro f1 w1 hl1 hlt1 hc1 he1 hk1
      have h11 : f1 1 = f 1 := hk1 1 (by omega) (by omega)
      refine hq f1 w1 ⟨hf.keep (fun z hz _ => hk1 z (by omega) (by omega)) (Nat.le_refl _), w.heap.size, hl1, ?_, hlt1, hc1, Sch.Rep_ext he1 (fun _ _ _ h => h) e hre⟩ he1 (fun z hz hzl => hk1 z (by omega) hzl)
      rw [h11]; intro h'; have := (Own.below hd.1 h').2; omega
    · rintro f1 w1 f2 w2 s' ⟨q1, b', q2, q3, q4, q5, q6⟩ hd' hg hk
      have hK : ∀ b, b < w1.heap.size → b < base → ¬ own1 (f1 1) b := fun b _ hb ho => by have := (Own.below hd'.1 ho).1; omega
      refine ⟨q1.keep (fun z hz hz1 => hk z (by omega) hz1 (by omega) (by omega) (by omega)) (Nat.le_refl _), b', (hk c.l (by omega) (by omega) (by omega) (by omega) (by omega)).trans q2, fun h' => (hg.own b' h').elim q3 (fun h'' => by omega), Nat.lt_of_lt_of_le q4 hg.size, ?_, Sch.Rep_ext (K := (· < base)) hg.ext hK e q6⟩
      intro j y hj
      exact hg.ext.cell (q5 j y hj) q3
    · rintro Q' f1 w1 s' ⟨q1, b', q2, q3, q4, q5, q6⟩ hd' hsz' hq
      refine hse Q' f1 w1 b' _ x ver true base s' htl hNe ?_ (by omega) q3 q4 q5 q6 hok hd' hsz' ?_
      · exact ⟨q2, ⟨by omega, by omega⟩, q1.svv, ⟨by have := q1.svN; omega, q1.svN.2⟩, q1.flg, fun hx => by have := q1.sfN hx; omega, by omega⟩
      · intro f2 w2 hw2
        exact hq f2 w2 ⟨hw2.dst, hw2.grew, fun z hz1 hz => hw2.keep z hz1 (by omega)⟩
  | prim p d =>
    obtain ⟨v, hv, hr1⟩ := hr
    have hNp : PrimW P C p := hN
    simp only [Bool.and_eq_true] at hty
    cases htx : p.text with
    | true =>
      simp only [caseW, htx, if_true] at hm ⊢
      have hpu : p ≠ .uuid := fun hp => by subst hp; cases htx
      refine w_twice (body0 := [emitW C p c.l (c.t + 8)]) (m := mm) (tm := tm) (n := n) (out := (Kn.prim p d).wr ver x) ht hB uB hU hnum
        (St := fun f' w' => FrW C f' pv b a ver true n ∧ f' c.l = v ∧ p.rep1 w' (· < base) v x)
        h1n hn (by omega) hmt (by omega) (by omega) hd hsz ?_ ?_ ?_ h
      · intro Q' hq'
        refine w_load ht (kOk_uu hty.1) hf.ptr hF hty.1 hcs hv (rep1_one hr1) (by omega) (by omega) ?_
        intro f1 w1 hv1 he1 hk1
        refine hq' f1 w1 ⟨hf.keep (fun z hz _ => hk1 z (by omega) (by omega)) (Nat.le_refl _), by simpa [LocVal, hpu] using hv1, Prim.rep1_ext (K := (· < base)) he1 (fun _ _ _ h => h) hr1⟩ he1 (fun z hz hzl => hk1 z (by omega) hzl)
      · rintro f1 w1 f2 w2 s' ⟨q1, q2, q3⟩ hd' hg hk
        have hK : ∀ b, b < w1.heap.size → b < base → ¬ own1 (f1 1) b := fun b _ hb ho => by have := (Own.below hd'.1 ho).1; omega
        exact ⟨q1.keep (fun z hz hz1 => hk z (by omega) hz1 (by omega) (by omega) (by omega)) (Nat.le_refl _), (hk c.l (by omega) (by omega) (by omega) (by omega) (by omega)).trans q2, Prim.rep1_ext (K := (· < base)) hg.ext hK q3⟩
      · rintro Q' f1 w1 s' ⟨q1, q2, q3⟩ hd' hsz' hq'
        show (emitW C p c.l (c.t + 8)).wp P Q' f1 w1
        refine w_emit ht (kOk_uu hty.1) (x := x) (fl := true) (by omega) (by omega) (by omega) (by simpa [LocVal, hpu] using q2) rfl q1.flg (fun hx => by have := q1.sfN hx; omega) hNp q3 hd'.1 hd'.2 hsz' ?_
        intro f4 w4 v4 h41 ho4 hg4 hk4
        refine hq' f4 w4 ⟨⟨by rw [h41]; exact ho4, Nat.le_trans hd'.2 hg4.size⟩, by rw [h41]; exact hg4, fun z hz1 hz => hk4 z (by omega) hz1⟩
    | false =>
    simp only [caseW, htx, Bool.false_eq_true, if_false] at hm ⊢
    have hq := kOk_uu hty.1
    have hwl : ((Kn.prim p d).wr ver x).length = p.szW := prim_szW hr1 htx
    have hsm := hsum ((Kn.prim p d).wr ver x)
    have hlt := szW_lt p
    rw [hwl, Nat.mod_eq_of_lt hlt] at hsm
    refine seqL_cons ?_
    refine w_load2 ht hq hf.ptr hF hty.1 hcs hv (rep1_one hr1) (by omega) (by omega) ?_
    intro f1 w1 hv1 hfr1 he1 hk1
    have h11 : f1 1 = f 1 := hk1 1 (by omega) (by omega)
    have hd1 : Dst C f1 w1 base s := by unfold Dst at hd ⊢; rw [h11]; exact ⟨Own.ext hd.1 he1 (fun _ _ h => h), Nat.le_trans hd.2 he1.size⟩
    have own0 : ∀ bb, own1 (f 1) bb → bb < w.heap.size := fun bb hb => (Own.below hd.1 hb).2
    refine seqL_cons ?_
    refine w_uv hU hnum (by omega) hd1 (by omega) ?_
    intro f2 w2 ho2 hg2 hk2
    have hd2 : Dst C f2 w2 base (s ++ uvOut num) := ⟨ho2, Nat.le_trans hd1.2 hg2.size⟩
    have hv2 : LocVal w2 f2 p c.l v := hv1.grew (fun hp => by
      obtain ⟨bb, hbb, hge⟩ := hfr1 hp
      exact ⟨bb, hbb, fun ho => by rw [h11] at ho; have := own0 bb ho; omega⟩) hg2 (hk2 c.l (by omega) (by omega))
    refine seqL_cons ?_
    refine w_uv hU hlt (by omega) hd2 (by simp only [List.length_append]; omega) ?_
    intro f3 w3 ho3 hg3 hk3
    have hd3 : Dst C f3 w3 base (s ++ uvOut num ++ uvOut p.szW) := ⟨ho3, Nat.le_trans hd2.2 hg3.size⟩
    have hv3 : LocVal w3 f3 p c.l v := hv2.grew (fun hp => by
      obtain ⟨bb, hbb, hge⟩ := hfr1 hp
      have hlt1 : bb < w1.heap.size := by
        unfold LocVal at hv1
        rw [if_pos hp] at hv1
        obtain ⟨b', cs', e', fz', hf', hb', _⟩ := hv1
        rw [hf'] at hbb; cases hbb
        exact lt_of_heap hb'
      refine ⟨bb, (hk2 c.l (by omega) (by omega)).trans hbb, fun ho => ?_⟩
      rcases hg2.own bb ho with h' | h'
      · rw [h11] at h'; have := own0 bb h'; omega
      · omega) hg3 (hk3 c.l (by omega) (by omega))
    have hf3 : flagOk C f3 true := ⟨fun hx => ⟨by rw [hk3 C.sf (by have := hf.sfN hx; omega) (hf.flg.1 hx).2, hk2 C.sf (by have := hf.sfN hx; omega) (hf.flg.1 hx).2, hk1 C.sf (by have := hf.sfN hx; omega) (by have := hf.sfN hx; omega)]; exact (hf.flg.1 hx).1, (hf.flg.1 hx).2⟩, hf.flg.2⟩
    have hrep3 : p.rep1 w3 (· < base) v x := by
      have r1 := Prim.rep1_ext (K := (· < base)) he1 (fun _ _ _ h => h) hr1
      have r2 := Prim.rep1_ext (K := (· < base)) hg2.ext (fun b _ hb ho => by have := (Own.below hd1.1 ho).1; omega) r1
      exact Prim.rep1_ext (K := (· < base)) hg3.ext (fun b _ hb ho => by have := (Own.below hd2.1 ho).1; omega) r2
    show (emitW C p c.l (c.t + 8)).wp P Q f3 w3
    refine w_emit ht hq (x := x) (fl := true) (by omega) (by omega) (by omega) hv3 rfl hf3 (fun hx => by have := hf.sfN hx; omega) hNp hrep3 hd3.1 hd3.2 ?_ ?_
    · have : (p.wr true x).length = p.szW := hwl
      rw [this]
      simp only [List.length_append]; omega
    · intro f4 w4 v4 h41 ho4 hg4 hk4
      have hg1 : Grew w (f 1) w1 (f1 1) := by rw [h11]; exact Grew.post (Grew.refl _ _) he1
      refine h f4 w4 ⟨⟨?_, ?_⟩, ?_, ?_⟩
      · rw [h41]
        have e : kTag num ((Kn.prim p d).wr ver x) = uvOut num ++ uvOut p.szW ++ p.wr true x := by
          simp only [kTag, hwl, Nat.mod_eq_of_lt hlt]; rfl
        rw [e, ← List.append_assoc, ← List.append_assoc]
        exact ho4
      · exact Nat.le_trans hd3.2 hg4.size
      · rw [h41]
        exact ((hg1.trans hg2).trans hg3).trans hg4
      · intro z hz1 hz
        rw [hk4 z (by omega) hz1, hk3 z (by omega) hz1, hk2 z (by omega) hz1]
        exact hk1 z (by omega) (by omega)
  | arr sT T' PT' sz df e =>
    obtain ⟨v, ls, hv, harr, ⟨hsome, _⟩, hlen, hel⟩ := hr
    obtain ⟨hNl, hNe⟩ := hN
    simp only [Bool.and_eq_true, beq_iff_eq] at hty
    obtain ⟨⟨hk, hsl⟩, hte⟩ := hty
    have hnil : ls.isNone = (show Option (List e.T) from x).isNone := by
      have hs' := hsome
      cases ls <;> cases hx : (show Option (List e.T) from x) <;> simp_all
    simp only [caseW] at hm ⊢
    generalize ht1 : c.t + 8 + lenN C none = t1 at hm ⊢
    have hme := genW_mono (C := C) e T' PT' (c.l + 4) ⟨c.l + 5, t1 + 8, c.k + 2⟩
    have hse : ∀ Q f w b a cs x ver fl base s, _ := fun Q f w b a cs x ver fl base s => soundW (ok := ok) ht e T' PT' (c.l + 4) ⟨c.l + 5, t1 + 8, c.k + 2⟩ Q f w b a cs x ver fl base s
    generalize hz : e.genW C T' PT' (c.l + 4) ⟨c.l + 5, t1 + 8, c.k + 2⟩ = z at hm hme hse ⊢
    obtain ⟨eb, c1⟩ := z
    simp only at hm hme hse ⊢
    have hout : (Kn.arr sT T' PT' sz df e).wr ver x = lenW none true ((show Option (List e.T) from x).getD []).length ls.isNone ++ ((show Option (List e.T) from x).getD []).flatMap (e.wr ver true) := by rw [hnil]; rfl
    refine w_twice (body0 := [lenI C none sT c.l (c.t + 8), rangeI C sT c.l t1 c1.t c.k _]) (m := mm) (tm := tm) (n := n) (out := (Kn.arr sT T' PT' sz df e).wr ver x) ht hB uB hU hnum
      (St := fun f' w' => FrW C f' pv b a ver true n ∧ f' c.l = v ∧ ArrAt w' (· < base) sz v ls ∧ ∀ (i : Nat) (es : List Value) y, (ls.getD [])[i]? = some es → ((show Option (List e.T) from x).getD [])[i]? = some y → e.Rep w' (· < base) es y)
      h1n hn (by omega) hmt (by omega) (by omega) hd hsz ?_ ?_ ?_ h
    · intro Q' hq
      obtain ⟨ad, cp, rfl, _, hmax⟩ := harr.form
      refine w_load ht (fun h => by cases h) hf.ptr hF (kOk_scl hk) hcs (seg_one hv rfl) (by simp [Value.oneCell']) (by omega) (by omega) ?_
      intro f1 w1 hv1 he1 hk1
      refine hq f1 w1 ⟨?_, loc_slice hv1, harr.ext he1 (fun _ _ _ h => h), fun i es y hi hy => Sch.Rep_ext he1 (fun _ _ _ h => h) e (hel i es y hi hy)⟩ he1 (fun z hz hzl => hk1 z (by omega) hzl)
      exact hf.keep (fun z hz _ => hk1 z (by omega) (by omega)) (Nat.le_refl _)
    · rintro f1 w1 f2 w2 s' ⟨q1, q2, q3, q4⟩ hd' hg hk
      have hK : ∀ b, b < w1.heap.size → b < base → ¬ own1 (f1 1) b := fun b _ hb ho => by have := (Own.below hd'.1 ho).1; omega
      exact ⟨q1.keep (fun z hz hz1 => hk z (by omega) hz1 (by omega) (by omega) (by omega)) (Nat.le_refl _), (hk c.l (by omega) (by omega) (by omega) (by omega) (by omega)).trans q2, q3.ext (K := (· < base)) hg.ext hK, fun i es y hi hy => Sch.Rep_ext (K := (· < base)) hg.ext hK e (q4 i es y hi hy)⟩
    · rintro Q' f1 w1 s' ⟨q1, q2, q3, q4⟩ hd' hsz' hq
      rw [hout] at hsz' hq
      refine w_list2 ((show Option (List e.T) from x).getD []) (e.wr ver true) hsl hNl q1 (q := c.l + 3) (m := mm) (by omega) (by omega) (by omega) (by omega) (by omega) ht1.symm (by omega) q2 q3 hlen hd' hsz' ?_ (fun f' w' hw => hq f' w' (hw.down (by omega)))
      intro i y s'' f' w' hy hf' hl' h2' h1' hd'' hsz'' hg0
      obtain ⟨es, hes⟩ : ∃ es, (ls.getD [])[i]? = some es := by
        have : i < (ls.getD []).length := by rw [hlen]; exact (List.getElem?_eq_some_iff.1 hy).1
        exact ⟨_, List.getElem?_eq_getElem this⟩
      have hrep := q4 i es y hes hy
      have hK : ∀ b, b < w1.heap.size → b < base → ¬ own1 (f1 1) b := fun b _ hb ho => by have := (Own.below hd'.1 ho).1; omega
      have harr' := q3.ext (K := (· < base)) hg0.ext hK
      have hrep' := Sch.Rep_ext (K := (· < base)) hg0.ext hK e hrep
      cases ls with
      | none => simp at hes
      | some ls =>
        obtain ⟨bb, oo, cc, rfl, hbb, hmax, hcells⟩ := harr'
        have hce := hcells i _ hes
        refine seqL_cons ?_
        refine wp_reg ?_
        simp [idxI, h2']
        refine seqL_cons ?_
        refine wp_reg ?_
        have hi : i < ls.length := by have := (List.getElem?_eq_some_iff.1 hes).1; simpa using this
        have e1 : ∀ n, (c.l = t1 + n) = False := by intro n; simp; omega
        have e2 : ∀ n, (c.l + 3 = t1 + n) = False := by intro n; simp; omega
        simp [e1, e2, hl', idx?, hsl, hi, Addr.add_mk]
        have up : ∀ z, z < t1 + 4 → z ≠ c.l + 3 → z ≠ c.l + 4 → ∀ v1 v2 v3 v4 v5 v6, upd (upd (upd (upd (upd (upd f' (t1 + 4) v1) (c.l + 3) v2) (t1 + 5) v3) (t1 + 6) v4) (t1 + 7) v5) (c.l + 4) v6 z = f' z := by
          intro z hz hz1 hz2 v1 v2 v3 v4 v5 v6
          have a3 : ∀ n, 4 ≤ n → (z = t1 + n) = False := by intro n hn; simp; omega
          simp [a3, hz1, hz2]
        refine hse _ _ w' bb (oo + i * sz) es y ver true base s'' hte hNe ?_ (by omega) hbb hce.2 hrep' (hok i y hy) ?_ hsz'' ?_
        · refine ⟨by simp, ⟨by omega, by omega⟩, ?_, ⟨by have := hf'.svN; omega, hf'.svN.2⟩, ⟨fun hx => ⟨?_, (hf'.flg.1 hx).2⟩, hf'.flg.2⟩, fun hx => by have := hf'.sfN hx; omega, by omega⟩
          · rw [up _ (by have := hf'.svN; omega) (by have := hf'.svN; omega) (by have := hf'.svN; omega)]; exact hf'.svv
          · rw [up _ (by have := hf'.sfN hx; omega) (by have := hf'.sfN hx; omega) (by have := hf'.sfN hx; omega)]; exact (hf'.flg.1 hx).1
        · unfold Dst at hd'' ⊢
          rwa [up 1 (by omega) (by omega) (by omega)]
        · intro f4 w4 hw4
          have kp : ∀ z, z ≠ 1 → z ≠ c.l + 3 → z ≠ c.l + 4 → (z < c.l + 5 ∨ (c1.l ≤ z ∧ z < t1 + 4)) → f4 z = f' z := by
            intro z hz0 hz1 hz2 hz
            rw [hw4.keep z hz0 (by omega)]
            exact up z (by omega) hz1 hz2 _ _ _ _ _ _
          refine ⟨rfl, ⟨hw4.dst, ?_, ?_⟩, ?_, ?_⟩
          · have := hw4.grew
            rwa [up 1 (by omega) (by omega) (by omega)] at this
          · intro z hz1 hz
            exact kp z hz1 (by omega) (by omega) (by omega)
          · rw [kp _ (by omega) (by omega) (by omega) (by omega)]; exact h2'
          · rw [kp _ (by omega) (by omega) (by omega) (by omega)]; exact h1'
theorem ksSet_num : ∀ (l : List KF) (z : KsT l) {y : Nat}, y ∈ ksSet l z → y ∈ l.map (·.num)
  | [], _, y, h => h
  | f :: l, (v, r), y, h => by
    simp only [ksSet, List.mem_append] at h
    simp only [List.map_cons, List.mem_cons]
    rcases h with h | h
    · split at h
      · left; simpa using h
      · simp at h
    · right; exact ksSet_num l r h
/-- the switch -/
theorem w_casesW (ht : TyC P C) (hfx : C.fx = true) (hB : sliSz P C.E.tBs = some 1) (uB : P.underlying C.E.tBs = some (.slice C.E.tU8)) (hU : ∀ n : Nat, n < 4294967296 → WrC P C.E.tU8 C.E.f_kbin_AppendUvarint [.int .u32 n] (uvOut n))
    {T PT pv key n mm tm : Nat} {Q : Post} {b a base : Nat} {cs : List Value} {ver : Int} {s : List UInt8} {num : Nat} {out : List UInt8} (hmt : mm ≤ tm) (hb : b < base) (hsz : s.length + (kTag num out).length ≤ 1099511627776) :
    ∀ (ks : List KF) (x : KsT ks) (c : Ct) (lab : Nat) (f : Nat → Value) (w : World), (ks.all (·.tyW P C T)) = true → KsNeedW P C ok ks → (ks.map (·.num)).Nodup → KsRep w (· < base) cs ks x → KsOk ok ks x → (num, out) ∈ ksOuts ver ks x → f key = .int .u32 num →
      FrW C f pv b a ver true n → n ≤ c.l → (casesW C T PT pv key ks c lab).2.l ≤ mm → tm ≤ c.t → key < c.t → CellsAt w b a cs → Dst C f w base s →
      (∀ f' w', Wrote C f w base s (kTag num out) n mm tm f' w' → Q .normal f' w') → (casesW C T PT pv key ks c lab).1.wp P Q f w := by
  intro ks
  induction ks with
  | nil => intro x c lab f w _ _ _ _ _ hmem; simp [ksOuts] at hmem
  | cons kf r ih =>
    rintro ⟨v, xr⟩ c lab f w hty ⟨hN, hNr⟩ hnd ⟨hr, hrr⟩ ⟨hok, hokr⟩ hmem hkey hf hn hm htm hkt hcs hd h
    simp only [List.all_cons, Bool.and_eq_true] at hty
    simp only [List.map_cons, List.nodup_cons] at hnd
    simp only [ksOuts, List.mem_append] at hmem
    have m1 := caseW_mono (C := C) T PT pv kf ⟨c.l, c.t + 2, c.k⟩ lab
    have hcase := fun (Q : Post) (f : Nat → Value) (s : List UInt8) => w_caseW (ok := ok) (P := P) (C := C) (T := T) (PT := PT) (pv := pv) (n := n) (mm := mm) (tm := tm) (kf := kf) (c := ⟨c.l, c.t + 2, c.k⟩) (lab := lab) (Q := Q) (f := f) (w := w) (b := b) (a := a) (base := base) (cs := cs) (x := v) (ver := ver) (s := s) ht hfx hB uB hU hty.1 hN
    simp only [casesW] at hm ⊢
    generalize caseW C T PT pv kf ⟨c.l, c.t + 2, c.k⟩ lab = z at m1 hm hcase ⊢
    obtain ⟨bb, c1, lab1⟩ := z
    have m2 := casesW_mono (C := C) T PT pv key r c1 lab1
    simp only at m1 hm hcase ⊢
    have h1n := hf.one
    have hkc : (key = c.t + 1) = False := by simp; omega
    have hkc' : (key = c.t) = False := by simp; omega
    have tail : ∀ y, (y, out) ∈ ksOuts ver r xr → y ∈ r.map (·.num) := by
      intro y hy
      have h1 : y ∈ (ksOuts ver r xr).map (fun z => z.1) := List.mem_map.2 ⟨(y, out), hy, rfl⟩
      rw [show (fun z : Nat × List UInt8 => z.1) = (·.1) from rfl, ksOuts_set] at h1
      exact ksSet_num r xr h1
    refine seqL_cons (wp_reg ?_)
    simp [hkey]
    generalize hBv : ((num : Int) == (kf.num : Int)) = Bv
    have hfu : FrW C (upd (upd f (c.t + 1) (.bool Bv)) c.t (.bool Bv)) pv b a ver true n := hf.keep (keeps_upd (keeps_upd (Keeps.refl _ _) (by omega)) (by omega)) (Nat.le_refl _)
    have hdu : Dst C (upd (upd f (c.t + 1) (.bool Bv)) c.t (.bool Bv)) w base s := by
      unfold Dst at hd ⊢
      rw [upd_apply, if_neg (by omega), upd_apply, if_neg (by omega)]
      exact hd
    have back : ∀ f' w', Wrote C (upd (upd f (c.t + 1) (.bool Bv)) c.t (.bool Bv)) w base s (kTag num out) n mm tm f' w' → Wrote C f w base s (kTag num out) n mm tm f' w' := by
      intro f' w' hw
      refine ⟨hw.dst, ?_, ?_⟩
      · have := hw.grew
        rwa [upd_apply, if_neg (by omega), upd_apply, if_neg (by omega)] at this
      · intro z hz1 hz
        rw [hw.keep z hz1 hz, upd_apply, if_neg (by omega), upd_apply, if_neg (by omega)]
    by_cases heq : num = kf.num
    · subst heq
      have hBt : Bv = true := by rw [← hBv]; simp
      have hset : kf.c.set v = true ∧ out = kf.c.wr ver v := by
        rcases hmem with h' | h'
        · split at h'
          · rename_i hs; simp at h'; exact ⟨hs, h'⟩
          · simp at h'
        · exact absurd (tail _ h') hnd.1
      obtain ⟨_, rfl⟩ := hset
      refine .inl ⟨by simp [hBt], ?_⟩
      refine hcase _ _ _ hfu hn (by omega) hmt (by omega) hb hcs hr hok hdu hsz ?_
      intro f' w' hw
      exact h f' w' (back f' w' hw)
    · have hBf : Bv = false := by rw [← hBv, beq_eq_false_iff_ne]; omega
      refine .inr ⟨by simp [hBf], ?_⟩
      have hmem' : (num, out) ∈ ksOuts ver r xr := by
        rcases hmem with h' | h'
        · split at h'
          · simp at h'; exact absurd h'.1 heq
          · simp at h'
        · exact h'
      refine ih xr _ _ _ w hty.2 hNr hnd.2 hrr hokr hmem' ?_ hfu (by omega) hm (by omega) (by omega) hcs hdu (fun f' w' hw => h f' w' (back f' w' hw))
      rw [upd_apply, if_neg (by omega), upd_apply, if_neg (by omega)]
      exact hkey
end
end Go.Kg

set_option linter.unusedSimpArgs false
set_option linter.unusedVariables false
set_option linter.unusedSectionVars false
namespace Go.Kg
open Go
section
variable {P : Program} {C : Cfg}
/-- w_range, where the body reads the list through the loop's own copy. -/
theorem w_rangeT {Q : Post} {f : Nat → Value} {w : World} {sT l t t' k n c sz : Nat} {a : Option Addr} {body : Ir} (hs : sliSz P sT = some sz) (hl : l < t) (ht1 : 1 < t) (htt : t + 4 ≤ t') (hn : n ≤ 1099511627776) (hv : f l = .slice a n c) (J : Nat → (Nat → Value) → World → Prop)
    (hJ : ∀ i f f' w, (∀ x, x < t → f' x = f x) → J i f w → J i f' w) (h0 : J 0 f w)
    (hb : ∀ i, i < n → ∀ f w, J i f w → f t = .slice a n c → f (t + 2) = .int .i64 i → f (t + 1) = .int .i64 n → body.wp P (fun e f' w' => e = .normal ∧ J (i + 1) f' w' ∧ f' t = .slice a n c ∧ f' (t + 2) = .int .i64 i ∧ f' (t + 1) = .int .i64 n) f w)
    (h : ∀ f' w', J n f' w' → Q .normal f' w') : (rangeI C sT l t t' k body).wp P Q f w := by
  obtain ⟨E, j, hu, _, _⟩ := sliSz_spec hs
  have e3 : ∀ n, (l = t + n) = False := by intro n; simp; omega
  have e4 : (l = t) = False := by simp; omega
  refine wp_seqI (wp_reg ?_)
  simp [hv, e3, e4, len_slice hu]
  show (Ir.loop _).wp P _ _ _
  refine ⟨fun f w => ∃ i : Nat, i ≤ n ∧ f t = .slice a n c ∧ f (t + 2) = .int .i64 i ∧ f (t + 1) = .int .i64 n ∧ J i f w, fun f _ => match f (t + 2) with | .int _ i => ((n : Int) - i).toNat | _ => 0, ?_, ?_⟩
  · refine ⟨0, by omega, by simp, by simp, by simp, hJ _ _ _ _ ?_ h0⟩
    intro x hx
    have x3 : ∀ n, (x = t + n) = False := by intro n; simp; omega
    have x4 : (x = t) = False := by simp; omega
    simp [x3, x4]
  · rintro f w ⟨i, hi, hft, h2, h3, hj⟩
    refine wp_seqI (wp_reg ?_)
    simp [h2, h3]
    by_cases hlt : i < n
    · refine .inl ⟨by simp; omega, ?_⟩
      show (Ir.seq _ _).wp P _ _ _
      refine wp_seqI ?_
      show body.wp P _ _ _
      refine Ir.wp_mono body ?_ (hb i hlt _ _ (hJ i _ _ _ ?_ hj) (by simpa using hft) (by simpa using h2) (by simpa using h3))
      · rintro e f' w' ⟨rfl, hj', hft', h2', h3'⟩
        show (Ir.reg _).wp P _ _ _
        refine wp_reg ?_
        have t3 : ∀ n, (t + 2 = t' + n) = False := by intro n; simp; omega
        have t4 : (t + 2 = t') = False := by simp; omega
        have t5 : (t + 1 = t') = False := by simp; omega
        have t6 : (t = t') = False := by simp; omega
        have wr : IntKind.i64.wrap ((i : Int) + 1) = ((i + 1 : Nat) : Int) := by rw [i64_small (by omega) (by omega)]; rfl
        simp [h2', t4, wr]
        refine ⟨⟨i + 1, by omega, by simp [t6, hft'], by simp, by simp [t5, h3'], hJ _ _ _ _ ?_ hj'⟩, ?_⟩
        · intro x hx
          have x3 : ∀ n, (x = t + n) = False := by intro n; simp; omega
          have x4 : (x = t') = False := by simp; omega
          simp [x3, x4]
        · first | omega | (simp only [h2]; omega)
      · intro x hx
        have x3 : ∀ n, (x = t + n) = False := by intro n; simp; omega
        simp [x3]
    · have : i = n := by omega
      subst this
      refine .inr ⟨by simp, ?_⟩
      show inBlockF k Q (.exit k) _ _
      rw [inBlockF_exit, if_pos rfl]
      refine h _ _ (hJ _ _ _ _ ?_ hj)
      intro x hx
      have x3 : ∀ n, (x = t + n) = False := by intro n; simp; omega
      simp [x3]
theorem secWI_mono (T PT pv sl : Nat) (ks : List KF) (tk : Nat) (c : Ct) (lab0 : Nat := 0) : c.l + 3 ≤ (secWI C T PT pv sl ks tk c lab0).2.l ∧ c.t ≤ (secWI C T PT pv sl ks tk c lab0).2.t := by
  have h1 := preW_t C T PT pv sl c.l ks (c.t + 1)
  have h2 := casesW_mono (C := C) T PT pv ((preW C T PT pv sl c.l ks (c.t + 1)).2 + 10 + 6) ks ⟨c.l + 3, (preW C T PT pv sl c.l ks (c.t + 1)).2 + 10 + 7, c.k + 3⟩ lab0
  simp only [secWI]
  simp only at h2
  omega
variable {ok : TagL → Prop}
theorem w_sec (ht : TyC P C) (hfx : C.fx = true) (hu : isAgg16 (kindOf P C.E.tUu) = true → TyUuE P C.E) (hB : sliSz P C.E.tBs = some 1) (uB : P.underlying C.E.tBs = some (.slice C.E.tU8)) (kU : kindOf P C.E.tU32 = .scl) (hT : TagsC P C.E ok)
    {T PT pv sl tk to lab0 : Nat} {ks : List KF} (hS : SliI P sl C.E.tU32 1 4 (.int .u32 0)) (hty : (ks.all (·.tyW P C T)) = true) (hN : KsNeedW P C ok ks) (hnd : (ks.map (·.num)).Nodup) (hlen : ks.length ≤ 1000) (hF : fldOff P T tk = some to) {c : Ct} {Q : Post} {f : Nat → Value} {w : World} {b a base : Nat} {cs : List Value} {x : KsT ks} {u : TagL} {uv : Value} {ver : Int} {fl : Bool} {s : List UInt8}
    (hf : FrW C f pv b a ver fl c.l) (hc : (secWI C T PT pv sl ks tk c lab0).2.l ≤ c.t) (hb : b < base) (hcs : CellsAt w b a cs) (hr : KsRep w (· < base) cs ks x) (hok : KsOk ok ks x) (huv : cs[to]? = some uv) (hl : TagsAt w (· < base) uv u) (hok2 : ok u) (hd : Dst C f w base s)
    (hsz : s.length + (secW ver fl ks x u).length ≤ 1099511627776) (h : ∀ f' w', Wrote C f w base s (secW ver fl ks x u) c.l (secWI C T PT pv sl ks tk c lab0).2.l c.t f' w' → Q .normal f' w') : (secWI C T PT pv sl ks tk c lab0).1.wp P Q f w := by
  have h1c := hf.one
  have hpt := hf.ptrN
  have hsf := hf.sfN hfx
  have hmono := secWI_mono (C := C) T PT pv sl ks tk c lab0
  have hU := hT.uv
  simp only [secWI] at hc h hmono ⊢
  generalize htp : (preW C T PT pv sl c.l ks (c.t + 1)).2 = tp at hc h hmono ⊢
  have htp1 : c.t + 1 ≤ tp := by rw [← htp]; exact preW_t C T PT pv sl c.l ks (c.t + 1)
  have hcm := casesW_mono (C := C) T PT pv (tp + 10 + 6) ks ⟨c.l + 3, tp + 10 + 7, c.k + 3⟩ lab0
  have hcw : ∀ {num : Nat} {out : List UInt8} {Q : Post} {f : Nat → Value} {w : World} {s : List UInt8}, _ := fun {num out Q f w s} => w_casesW (ok := ok) (P := P) (C := C) (T := T) (PT := PT) (pv := pv) (key := tp + 10 + 6) (n := c.l) (mm := (casesW C T PT pv (tp + 10 + 6) ks ⟨c.l + 3, tp + 10 + 7, c.k + 3⟩ lab0).2.l) (tm := tp + 10 + 4) (Q := Q) (b := b) (a := a) (base := base) (cs := cs) (ver := ver) (s := s) (num := num) (out := out) ht hfx hB uB hU (by omega) hb (x := x) (ks := ks) (c := ⟨c.l + 3, tp + 10 + 7, c.k + 3⟩) (lab := lab0) (f := f) (w := w)
  generalize hcs1 : casesW C T PT pv (tp + 10 + 6) ks ⟨c.l + 3, tp + 10 + 7, c.k + 3⟩ lab0 = z at hc h hmono hcm hcw ⊢
  obtain ⟨cw, c1⟩ := z
  simp only at hc h hmono hcm hcw ⊢
  refine w_flex (hf.flg.1 hfx).1 (by omega) (by omega) ?_ ?_
  · rintro rfl f1 hk1 h11
    simp only [secW, if_true, List.length_append] at hsz h
    simp only [List.cons_append, List.nil_append]
    refine seqL_cons (wp_reg ?_)
    simp
    generalize hf2 : upd f1 c.l (.slice none 0 0) = f2
    have k2 : ∀ z, z < c.t → z ≠ 1 → z ≠ c.l → f2 z = f z := by
      intro z hz hz1 hzl
      subst hf2
      rw [upd_apply, if_neg hzl]
      exact hk1 z hz hz1
    have k21 : f2 1 = f 1 := by subst hf2; rw [upd_apply, if_neg (by omega)]; exact h11
    show (seqL (_ ++ _)).wp P _ f2 w
    refine seqL_append ?_
    refine w_pre ht hu hS (w0 := w) (f0 := f2) (tm := c.t) (K := (· < base)) (by omega) (by omega) (by omega) hcs (fun _ _ _ => trivial) ((k2 pv (by omega) (by omega) (by omega)).trans hf.ptr) ks x [] (c.t + 1) f2 w hty hr (by simpa using hlen) (by omega) ⟨Ext.refl _ _, by subst hf2; simpa using Own.nil w w.heap.size C.E.tU32 1, fun _ _ _ => rfl⟩ hN ?_
    intro f3 w3 h3
    simp only [List.nil_append] at h3
    have he3 := h3.ext
    have f3k : ∀ z, z < c.t → z ≠ 1 → z ≠ c.l → f3 z = f z := fun z hz hz1 hzl => (h3.keep z hz hzl).trans (k2 z hz hz1 hzl)
    have f31 : f3 1 = f 1 := (h3.keep 1 (by omega) (by omega)).trans k21
    have hd3 : Dst C f3 w3 base s := by unfold Dst at hd ⊢; rw [f31]; exact ⟨Own.ext hd.1 he3 (fun _ _ h => h), Nat.le_trans hd.2 he3.size⟩
    have hcs3 : CellsAt w3 b a cs := CellsAt.ext (K := fun _ => True) (C := none1) he3 (fun _ _ _ h => h) hcs trivial
    have hr3 := KsRep_ext he3 (K := (· < base)) (fun _ _ _ h => h) ks hr
    have hl3 : TagsAt w3 (· < base) uv u := hl.ext he3 (fun _ _ _ h => h)
    have hca := hcs3 to uv huv
    obtain ⟨ad, cp, hve, hcp⟩ := Own.form h3.own
    have hnum : ((ksSet ks x).map fun n => (Value.int .u32 (n : Nat))).length = (ksSet ks x).length := by simp
    rw [hnum] at hve hcp
    have hsl := ksSet_len ks x
    have hksn : (ksSet ks x).length = ksN ks x := by rw [← ksOuts_set ver, List.length_map, ksOuts_len]
    have hul : u.length < 4294967296 := by
      rcases hl with ⟨_, rfl⟩ | ⟨_, _, _, _, _, _, _, _, h, _⟩
      · simp
      · exact h.1
    have q0 : ∀ z, z < c.t → ∀ k, (z = tp + k) = False := by intro z hz k; simp; omega
    have q0' : ∀ z, z < c.t → (z = tp) = False := by intro z hz; simp; omega
    have q03 : ∀ z, z < c.t → ∀ k, (z = tp + 3 + k) = False := by intro z hz k; simp; omega
    have w64 : IntKind.i64.wrap (((ksSet ks x).length : Int) + (u.length : Int)) = ((ksSet ks x).length : Int) + (u.length : Int) := i64_small (by omega) (by omega)
    have w32 : IntKind.u32.wrap (((ksSet ks x).length : Int) + (u.length : Int)) = (((ksN ks x + u.length) % 4294967296 : Nat) : Int) := by rw [hksn]; simp [IntKind.wrap, IntKind.signed, IntKind.bits]
    have q9 : ∀ k, (tp = tp + 3 + k) = False := by intro k; simp; omega
    refine seqL_cons (wp_reg ?_)
    have hpv3 : f3 pv = .pointer (some ⟨b, a, none⟩) := (f3k pv (by omega) (by omega) (by omega)).trans hf.ptr
    simp [addrR, hpv3, hve, hF, Addr.add_mk, len_slice hS.und, q0 pv (by omega), q0' pv (by omega), q0 c.l (by omega), q0' c.l (by omega)]
    refine (hT.len w3 _ _ _ _ _ hca hl3).mono ?_
    rintro _ w3' ⟨rfl, rfl⟩
    simp [ht.iInt, ht.iU32, w64, bin?, q9, f31]
    rw [w32]
    refine (hU _ (Nat.mod_lt _ (by omega)) w3' base (f 1) s (by have := hd3.1; rwa [f31] at this) hd3.2 (by omega)).mono ?_
    rintro v4 w4 ⟨ho4, hg4⟩
    simp
    generalize hf4 : upd (upd _ (tp + 9) v4) 1 v4 = f4
    have f4k : ∀ z, z < c.t → z ≠ 1 → z ≠ c.l → f4 z = f z := by
      intro z hz hz1 hzl
      subst hf4
      simp [q0 z hz, q0' z hz, q03 z hz, hz1]
      exact f3k z hz hz1 hzl
    have f41 : f4 1 = v4 := by subst hf4; simp
    have f4L : f4 c.l = .slice ad (ksSet ks x).length cp := by
      subst hf4
      have : (c.l = 1) = False := by simp; omega
      simp [q0 c.l (by omega), q0' c.l (by omega), q03 c.l (by omega), this, hve]
    have hd4 : Dst C f4 w4 base (s ++ uvOut ((ksN ks x + u.length) % 4294967296)) := ⟨by rw [f41]; exact ho4, Nat.le_trans hd3.2 hg4.size⟩
    have hg04 : Grew w (f 1) w4 (f4 1) := by rw [f41]; exact Grew.pre he3 hg4
    -- what the loop reads
    have hrow : ksSet ks x ≠ [] → ∃ g, ad = some ⟨g, 0, none⟩ ∧ ¬ own1 (f4 1) g ∧ ∀ i n, (ksSet ks x)[i]? = some n → w4.cell? ⟨g, i, none⟩ = some (.int .u32 (n : Nat)) := by
      intro hne
      obtain ⟨g, c', hve', hg, hglt, hcell⟩ := Own.cells1 h3.own (by simpa using hne)
      rw [hve, hnum] at hve'
      cases hve'
      have hno : ¬ own1 (f 1) g := fun ho => by have := (Own.below hd.1 ho).2; omega
      refine ⟨g, rfl, ?_, ?_⟩
      · rw [f41]
        intro ho
        rcases hg4.own g ho with h' | h'
        · exact hno h'
        · omega
      · intro i n hi
        exact hg4.ext.cell (hcell i _ (by simp [hi])) hno
    have hfr4 : FrW C f4 pv b a ver true c.l := hf.keep (fun z hz hz1 => f4k z (by omega) hz1 (by omega)) (Nat.le_refl _)
    refine seqL_cons ?_
    refine w_rangeT hS.siz (by omega) (by omega) (by omega) (by omega) f4L (fun i f' w' => Wrote C f4 w4 base (s ++ uvOut ((ksN ks x + u.length) % 4294967296)) (((ksOuts ver ks x).take i).flatMap fun y => kTag y.1 y.2) c.l c1.l c.t f' w') ?_ ?_ ?_ ?_
    · rintro i g g' w' hx hw
      refine ⟨?_, ?_, ?_⟩
      · have := hw.dst; unfold Dst at this ⊢; rwa [hx 1 (by omega)]
      · have := hw.grew; rwa [hx 1 (by omega)]
      · intro z hz1 hz; rw [hx z (by omega)]; exact hw.keep z hz1 hz
    · simpa using Wrote.refl hd4 c.l c1.l c.t
    · rintro i hi f5 w5 hw5 ht5 hi5 hn5
      have hlen2 : (ksOuts ver ks x).length = (ksSet ks x).length := by rw [ksOuts_len, hksn]
      obtain ⟨⟨num, out⟩, hy⟩ : ∃ y, (ksOuts ver ks x)[i]? = some y := ⟨_, List.getElem?_eq_getElem (by omega)⟩
      have hny : (ksSet ks x)[i]? = some num := by rw [← ksOuts_set ver, List.getElem?_map, hy]; rfl
      have hne : ksSet ks x ≠ [] := by intro h; rw [h] at hny; simp at hny
      obtain ⟨g, rfl, hng, hcell⟩ := hrow hne
      have c5 : w5.cell? ⟨g, i, none⟩ = some (.int .u32 (num : Nat)) := hw5.grew.ext.cell (hcell i num hny) hng
      have hfm := flatMap_take (fun y : Nat × List UInt8 => kTag y.1 y.2) (ksOuts ver ks x) i (num, out) hy
      have hle := flatMap_take_le (fun y : Nat × List UInt8 => kTag y.1 y.2) (ksOuts ver ks x) (i + 1)
      rw [hfm, ← ksOuts_wr] at hle
      simp only [List.length_append] at hle
      have e5 : ∀ k, k < 4 → ∀ j, 4 ≤ j → (tp + 10 + k = tp + 10 + j) = False := by intro k hk j hj; simp; omega
      refine seqL_cons (wp_reg ?_)
      simp [ht5, hi5, idx?, hS.siz, hi, Addr.add_mk, ld_scl kU, c5]
      refine seqL_cons (wp_reg ?_)
      simp
      show Ir.wp P (Ir.block (c.k + 2) cw) _ _ w5
      generalize hf6 : upd (upd (upd (upd f5 (tp + 10 + 4) _) (tp + 10 + 5) _) (c.l + 2) _) (tp + 10 + 6) _ = f6
      have k6 : ∀ z, z < tp + 10 + 4 → z ≠ c.l + 2 → f6 z = f5 z := by
        intro z hz hz2
        subst hf6
        have a3 : ∀ n, 4 ≤ n → (z = tp + 10 + n) = False := by intro n hn; simp; omega
        simp [a3, hz2]
      have k6k : f6 (tp + 10 + 6) = .int .u32 (num : Nat) := by subst hf6; simp
      have hfr6 : FrW C f6 pv b a ver true c.l := hfr4.keep (fun z hz hz1 => (k6 z (by omega) (by omega)).trans (hw5.keep z hz1 (.inl hz))) (Nat.le_refl _)
      have hd6 : Dst C f6 w5 base (s ++ uvOut ((ksN ks x + u.length) % 4294967296) ++ ((ksOuts ver ks x).take i).flatMap fun y => kTag y.1 y.2) := by
        have := hw5.dst
        unfold Dst at this ⊢
        rwa [k6 1 (by omega) (by omega)]
      have hK4 : ∀ b, b < w3'.heap.size → b < base → ¬ own1 (f 1) b := fun b _ hb ho => by have := (Own.below hd.1 ho).1; omega
      have hK5 : ∀ b, b < w4.heap.size → b < base → ¬ own1 (f4 1) b := fun b _ hb ho => by have := (Own.below hd4.1 ho).1; omega
      have hcs5 : CellsAt w5 b a cs := CellsAt.ext (K := (· < base)) hw5.grew.ext hK5 (CellsAt.ext (K := (· < base)) hg4.ext hK4 hcs3 hb) hb
      have hr5 := KsRep_ext hw5.grew.ext (K := (· < base)) hK5 ks (KsRep_ext hg4.ext (K := (· < base)) hK4 ks hr3)
      refine hcw (num := num) (out := out) (s := s ++ uvOut ((ksN ks x + u.length) % 4294967296) ++ ((ksOuts ver ks x).take i).flatMap fun y => kTag y.1 y.2) (by simp only [List.length_append]; omega) hty hN hnd hr5 hok (List.mem_of_getElem? hy) k6k hfr6 (by omega) (Nat.le_refl _) (by omega) (by omega) hcs5 hd6 ?_
      intro f7 w7 hw7
      show Exit.normal = Exit.normal ∧ _
      have hw57 : Wrote C f5 w5 base (s ++ uvOut ((ksN ks x + u.length) % 4294967296) ++ ((ksOuts ver ks x).take i).flatMap fun y => kTag y.1 y.2) (kTag num out) c.l c1.l c.t f7 w7 := by
        refine ⟨hw7.dst, ?_, ?_⟩
        · have := hw7.grew
          rwa [k6 1 (by omega) (by omega)] at this
        · intro z hz1 hz
          rw [hw7.keep z hz1 (by omega), k6 z (by omega) (by omega)]
      have hw47 := hw5.trans hw57 (Nat.le_refl _) (Nat.le_refl _) (Nat.le_refl _)
      refine ⟨rfl, by rw [hfm]; exact hw47, ?_, ?_, ?_⟩
      · rw [hw7.keep (tp + 10) (by omega) (by omega), k6 (tp + 10) (by omega) (by omega)]; exact ht5
      · rw [hw7.keep (tp + 10 + 2) (by omega) (by omega), k6 (tp + 10 + 2) (by omega) (by omega)]; exact hi5
      · rw [hw7.keep (tp + 10 + 1) (by omega) (by omega), k6 (tp + 10 + 1) (by omega) (by omega)]; exact hn5
    · intro f8 w8 hw8
      have hall : (ksOuts ver ks x).take (ksSet ks x).length = ksOuts ver ks x := by rw [hksn, ← ksOuts_len ver, List.take_length]
      rw [hall, ← ksOuts_wr] at hw8
      have hpv8 : f8 pv = .pointer (some ⟨b, a, none⟩) := ((hw8.keep pv (by omega) (.inl (by omega))).trans (f4k pv (by omega) (by omega) (by omega))).trans hf.ptr
      have hK4 : ∀ b, b < w3'.heap.size → b < base → ¬ own1 (f 1) b := fun b _ hb ho => by have := (Own.below hd.1 ho).1; omega
      have hK5 : ∀ b, b < w4.heap.size → b < base → ¬ own1 (f4 1) b := fun b _ hb ho => by have := (Own.below hd4.1 ho).1; omega
      have hcs8 : CellsAt w8 b a cs := CellsAt.ext (K := (· < base)) hw8.grew.ext hK5 (CellsAt.ext (K := (· < base)) hg4.ext hK4 hcs3 hb) hb
      have hl8 : TagsAt w8 (· < base) uv u := (hl3.ext hg4.ext (K := (· < base)) hK4).ext hw8.grew.ext (K := (· < base)) hK5
      have q8 : ∀ k, (pv = c1.t + 1 + k) = False := by intro k; simp; omega
      have q8' : (pv = c1.t + 1) = False := by simp; omega
      have o8 : ∀ k, (1 = c1.t + 1 + k) = False := by intro k; simp; omega
      have o8' : (1 = c1.t + 1) = False := by simp; omega
      have o9 : (c1.t = 0) = False := by simp; omega
      show (Ir.reg _).wp P Q f8 w8
      refine wp_reg ?_
      simp [addrR, hpv8, hF, Addr.add_mk, q8, q8', o8, o8', o9]
      refine (hT.each w8 base (f8 1) _ b (a + to) uv u hok2 (fun h => by have := (Own.below hw8.dst.1 h).1; omega) (hcs8 to uv huv) hl8 hw8.dst.1 hw8.dst.2 (by simp only [List.length_append]; omega)).mono ?_
      rintro v9 w9 ⟨ho9, hg9⟩
      try simp
      refine h _ w9 ⟨⟨?_, ?_⟩, ?_, ?_⟩
      · simp
        simp only [List.append_assoc] at ho9 ⊢
        exact ho9
      · exact Nat.le_trans hw8.dst.2 hg9.size
      · simp
        exact (hg04.trans hw8.grew).trans hg9
      · intro z hz1 hz
        have z8 : ∀ k, (z = c1.t + 1 + k) = False := by intro k; simp; omega
        have z8' : (z = c1.t + 1) = False := by simp; omega
        simp [z8, z8', hz1]
        rw [hw8.keep z hz1 hz]
        exact f4k z (by omega) hz1 (by omega)
  · rintro rfl f1 hk1 h11
    show Q .normal f1 w
    refine h f1 w ?_
    simp only [secW, Bool.false_eq_true, if_false]
    exact ⟨by rw [List.append_nil]; unfold Dst at hd ⊢; rwa [h11], by rw [h11]; exact Grew.refl _ _, KeepR.of hk1 (by omega)⟩
end
end Go.Kg

set_option linter.unusedSimpArgs false
set_option linter.unusedVariables false
namespace Go.Kg
open Go
structure TyTg (P : Program) (E : Env) : Prop extends TyWs P E where
  g0 : fldOff P E.t_kmsg_Tags 0 = some 0
  kM : kindOf P E.t_map_uint32_l_uint8 = .scl
  uM : P.underlying E.t_map_uint32_l_uint8 = some (.map E.tU32 E.tBs)
  kBs : kindOf P E.tBs = .scl
section
variable {P : Program} {E : Env} (ht : TyTg P E)
include ht
theorem isM : isMapT P E.t_map_uint32_l_uint8 = true := by simp [isMapT, ht.uM]
theorem c_TLen (hI : FnIs P E.f_pkmsg_Tags_Len nt_pkmsg_Tags_Len (rs_pkmsg_Tags_Len E) (ir_pkmsg_Tags_Len E)) (w : World) (K : Nat → Prop) (b o : Nat) (v : Value) (l : TagL) (hc : w.cell? ⟨b, o, none⟩ = some v) (hl : TagsAt w K v l) :
    Ret P E.f_pkmsg_Tags_Len #[.pointer (some ⟨b, o, none⟩)] w fun u w' => u = .int .i64 l.length ∧ w' = w := by
  refine hI.call (args := [_]) (by simp [nt_pkmsg_Tags_Len]) ?_
  simp [ir_pkmsg_Tags_Len, rs_pkmsg_Tags_Len, ht.g0, Addr.add_mk, ld_scl ht.kM, hc]
  rcases hl with ⟨rfl, rfl⟩ | ⟨bb, es, clock, rfl, _, hb, hs, _⟩
  · simp [isM ht, mapLen?]
  · simp [isM ht, mapLen?, hb, hs]
/-- No tags: Each does nothing. -/
theorem c_Each0 (hI : FnIs P E.f_pkmsg_Tags_Each nt_pkmsg_Tags_Each (rs_pkmsg_Tags_Each E) (ir_pkmsg_Tags_Each E)) (w : World) (b o : Nat) (v fn : Value) (K : Nat → Prop) (hc : w.cell? ⟨b, o, none⟩ = some v) (hl : TagsAt w K v []) :
    Ret P E.f_pkmsg_Tags_Each #[.pointer (some ⟨b, o, none⟩), fn] w fun u w' => w' = w := by
  refine hI.call (args := [_, _]) (by simp [nt_pkmsg_Tags_Each]) ?_
  have hlen : mapLen? w (match v with | .map m => m | _ => none) = some (.int .i64 0) ∧ ∃ m, v = .map m := by
    rcases hl with ⟨rfl, _⟩ | ⟨bb, es, clock, rfl, _, hb, hs, _⟩
    · exact ⟨rfl, _, rfl⟩
    · refine ⟨?_, _, rfl⟩
      simp only [mapLen?, hb]
      simp at hs
      simp [hs]
  obtain ⟨h1, m, rfl⟩ := hlen
  simp only at h1
  simp [ir_pkmsg_Tags_Each, rs_pkmsg_Tags_Each, ht.g0, Addr.add_mk, ld_scl ht.kM, hc, isM ht, h1]
  refine cw_true (by simp) ?_
  simp
end
end Go.Kg

set_option linter.unusedSimpArgs false
set_option linter.unusedVariables false
namespace Go.Kg
open Go
/-- An entry of the map says a tag. -/
def EntAt (w : World) (K : Nat → Prop) (c : Nat) (e : MapEntry) (x : Nat × List UInt8) : Prop := e.key = .int .u32 x.1 ∧ x.1 < 4294967296 ∧ e.born < c ∧ BytesAt w K e.val x.2
def EL (w : World) (K : Nat → Prop) (c : Nat) : List MapEntry → TagL → Prop
  | [], [] => True
  | e :: L, x :: l => EntAt w K c e x ∧ EL w K c L l
  | _, _ => False
theorem EL.of {w : World} {K : Nat → Prop} {c : Nat} : ∀ {L : List MapEntry} {l : TagL}, L.length = l.length → (∀ (i : Nat) e x, L[i]? = some e → l[i]? = some x → EntAt w K c e x) → EL w K c L l
  | [], [], _, _ => trivial
  | e :: L, x :: l, h, hx => ⟨hx 0 e x rfl rfl, EL.of (by simpa using h) (fun i e x h1 h2 => hx (i + 1) e x (by simpa using h1) (by simpa using h2))⟩
  | [], _ :: _, h, _ => by simp at h
  | _ :: _, [], h, _ => by simp at h
theorem EL.get {w : World} {K : Nat → Prop} {c : Nat} : ∀ {L : List MapEntry} {l : TagL}, EL w K c L l → L.length = l.length ∧ ∀ (i : Nat) e x, L[i]? = some e → l[i]? = some x → EntAt w K c e x
  | [], [], _ => ⟨rfl, fun i e x h => by simp at h⟩
  | e :: L, x :: l, h => ⟨by simpa using (EL.get h.2).1, fun i e' x' h1 h2 => by
      cases i with
      | zero => simp at h1 h2; subst h1; subst h2; exact h.1
      | succ i => exact (EL.get h.2).2 i e' x' (by simpa using h1) (by simpa using h2)⟩
  | [], _ :: _, h => h.elim
  | _ :: _, [], h => h.elim
theorem EL.up {w : World} {K : Nat → Prop} {c c' : Nat} (hc : c ≤ c') : ∀ {L : List MapEntry} {l : TagL}, EL w K c L l → EL w K c' L l
  | [], [], _ => trivial
  | e :: L, x :: l, h => ⟨⟨h.1.1, h.1.2.1, Nat.lt_of_lt_of_le h.1.2.2.1 hc, h.1.2.2.2⟩, EL.up hc h.2⟩
  | [], _ :: _, h => h.elim
  | _ :: _, [], h => h.elim
theorem EL.mem {w : World} {K : Nat → Prop} {c : Nat} : ∀ {L : List MapEntry} {l : TagL}, EL w K c L l → ∀ e ∈ L, ∃ x ∈ l, EntAt w K c e x
  | e :: L, x :: l, h, e', he => by
    rcases List.mem_cons.1 he with rfl | he
    · exact ⟨x, List.mem_cons_self .., h.1⟩
    · obtain ⟨y, hy, hh⟩ := EL.mem h.2 e' he; exact ⟨y, List.mem_cons_of_mem _ hy, hh⟩
/-- Tags as lists -/
theorem tagsAt_iff {w : World} {K : Nat → Prop} {v : Value} {l : TagL} : TagsAt w K v l ↔ (v = .map none ∧ l = []) ∨ ∃ b es clock, v = .map (some b) ∧ K b ∧ w.heap[b]? = some (.map es clock) ∧ EL w K clock es.toList l ∧ (l.map (·.1)).Nodup ∧ (es.toList.map (·.born)).Nodup ∧ (l.length < 4294967296 ∧ l ≠ []) := by
  constructor
  · rintro (h | ⟨b, es, clock, rfl, hk, hb, hs, hn, hl, hx⟩)
    · exact .inl h
    · exact .inr ⟨b, es, clock, rfl, hk, hb, EL.of (by simpa using hs) (fun i e x h1 h2 => hx i e x (by simpa using h1) h2), hn.1, hn.2, hl⟩
  · rintro (h | ⟨b, es, clock, rfl, hk, hb, he, h1, h2, hl⟩)
    · exact .inl h
    · have := he.get
      exact .inr ⟨b, es, clock, rfl, hk, hb, by simpa using this.1, ⟨h1, h2⟩, hl, fun i e x h1 h2 => this.2 i e x (by simpa using h1) h2⟩
theorem findNow_spec {w : World} {K : Nat → Prop} {c k : Nat} {v : Value} {s : List UInt8} (hk : k < 4294967296) (hv : BytesAt w K v s) : ∀ {L : List MapEntry} {l : TagL} (i : Nat), EL w K c L l →
    (Instr.findNow (.int .u32) (.int .u32 k) L i = some none ∧ EL w K (c + 1) (L ++ [{ key := .int .u32 k, val := v, born := c }]) (setTag k s l)) ∨
    (∃ j e, Instr.findNow (.int .u32) (.int .u32 k) L i = some (some (i + j, e.val)) ∧ L[j]? = some e ∧ e.key = .int .u32 k ∧ EL w K c (L.modify j fun e => { e with key := .int .u32 k, val := v }) (setTag k s l))
  | [], [], i, _ => .inl ⟨rfl, ⟨rfl, hk, Nat.lt_succ_self c, hv⟩, trivial⟩
  | e :: L, x :: l, i, h => by
    obtain ⟨⟨h1, h2, h3, h4⟩, h5⟩ := h
    by_cases hx : x.1 = k
    · refine .inr ⟨0, e, ?_, rfl, by rw [h1, hx], ?_⟩
      · simp [Instr.findNow, Instr.sameNow, h1, hx]
      · simp only [List.modify_zero_cons, setTag, if_pos hx]
        exact ⟨⟨rfl, hk, h3, hv⟩, h5⟩
    · have hne : ((k : Int) == (x.1 : Int)) = false := by simp; omega
      have hf : Instr.findNow (.int .u32) (.int .u32 k) (e :: L) i = Instr.findNow (.int .u32) (.int .u32 k) L (i + 1) := by
        simp [Instr.findNow, Instr.sameNow, h1, hne]
      rw [hf]
      rcases findNow_spec hk hv (i + 1) h5 with ⟨a1, a2⟩ | ⟨j, e', a1, a2, a3, a4⟩
      · refine .inl ⟨a1, ?_⟩
        simp only [setTag, if_neg hx]
        exact ⟨⟨h1, h2, Nat.lt_succ_of_lt h3, h4⟩, a2⟩
      · refine .inr ⟨j + 1, e', by rw [a1]; congr 3; omega, by simpa using a2, a3, ?_⟩
        simp only [setTag, if_neg hx, List.modify_succ_cons]
        exact ⟨⟨h1, h2, h3, h4⟩, a4⟩
  | [], _ :: _, i, h => h.elim
  | _ :: _, [], i, h => h.elim
theorem modify_born {j : Nat} {f : MapEntry → MapEntry} (hf : ∀ e, (f e).born = e.born) : ∀ L : List MapEntry, (L.modify j f).map (·.born) = L.map (·.born) := by
  induction j with
  | zero => intro L; cases L <;> simp [hf]
  | succ j ih => intro L; cases L with
    | nil => simp
    | cons e L => simp [ih L]
theorem check_u32 {P : Program} {T : TypeId} (hT : P.underlying T = some (.int .u32)) {w : World} {b : Bool} {k : Int} : (Instr.checkKey b 10000 T (.int .u32 k)).run P w = .ok () w := by
  have : ∀ n, (Instr.checkKey b (n + 1) T (.int .u32 k)).run P w = .ok () w := by intro n; simp [Instr.checkKey, run_underlying hT]
  exact this 9999
/-- m[k] = v -/
theorem run_mapUpdate {P : Program} {T KT VT : TypeId} (hT : P.underlying T = some (.map KT VT)) (hK : P.underlying KT = some (.int .u32)) {w : World} {K : Nat → Prop} {b k clock : Nat} {v : Value} {s : List UInt8} {es : Array MapEntry} {l : TagL}
    (hk : k < 4294967296) (hv : BytesAt w K v s) (hb : w.heap[b]? = some (.map es clock)) (he : EL w K clock es.toList l) (hn : (es.toList.map (·.born)).Nodup) :
    ∃ es' clock', (Instr.mapUpdate T (.map (some b)) (.int .u32 k) v).run P w = .ok () (w.setBlk b (.map es' clock')) ∧ EL w K clock' es'.toList (setTag k s l) ∧ (es'.toList.map (·.born)).Nodup := by
  have hget : (getObj b).run P w = .ok (.map es clock) w := by simp [getObj, Sem.run, hb]
  have hset : ∀ o, (setObj b o).run P w = .ok () (w.setBlk b o) := by intro o; simp [setObj, Sem.run, hb, World.setBlk]
  have hfk : ∀ r, Instr.findNow (.int .u32) (.int .u32 k) es.toList 0 = some r → (Instr.findKey KT (.int .u32 k) es.toList).run P w = .ok r w := by
    intro r hr; simp [Instr.findKey, run_underlying hK, hr]
  rcases findNow_spec hk hv 0 he with ⟨a1, a2⟩ | ⟨j, e, a1, a2, a3, a4⟩
  · refine ⟨es.push { key := .int .u32 k, val := v, born := clock }, clock + 1, ?_, by simpa using a2, ?_⟩
    · simp [Instr.mapUpdate, run_underlying hT, hget, check_u32 hK, hfk _ a1, hset]
    · simp only [Array.toList_push, List.map_append, List.map_cons, List.map_nil]
      rw [List.nodup_append]
      refine ⟨hn, by simp, ?_⟩
      intro a ha b hb
      simp only [List.mem_singleton] at hb
      obtain ⟨e, he1, rfl⟩ := List.mem_map.1 ha
      obtain ⟨x, _, hx⟩ := he.mem e he1
      have := hx.2.2.1
      omega
  · refine ⟨es.modify j fun e => { e with key := .int .u32 k, val := v }, clock, ?_, by simpa using a4, ?_⟩
    · have hj : es[j]? = some e := by simpa using a2
      have hsame : (Instr.sameBits 10000 (.int .u32 (k : Int)) (.int .u32 (k : Int))) = true := by simp [Instr.sameBits]
      simp [Instr.mapUpdate, run_underlying hT, hget, check_u32 hK, hfk _ a1, hset, Instr.keyThatStays, hj, a3, hsame]
    · simp only [Array.toList_modify]
      rw [modify_born]
      · exact hn
      · intro e; rfl
theorem EL.ext {C : Nat → Prop} {w w' : World} {D c : Nat} (he : Ext C w w') (hD : ¬ C D) : ∀ {L : List MapEntry} {l : TagL}, EL w (· = D) c L l → EL w' (· = D) c L l
  | [], [], _ => trivial
  | e :: L, x :: l, h => ⟨⟨h.1.1, h.1.2.1, h.1.2.2.1, h.1.2.2.2.ext he (fun b _ hb => by subst hb; exact hD)⟩, EL.ext he hD h.2⟩
  | [], _ :: _, h => h.elim
  | _ :: _, [], h => h.elim
theorem setTag_ne (k : Nat) (v : List UInt8) (l : TagL) : setTag k v l ≠ [] := by
  cases l with
  | nil => simp [setTag]
  | cons x l => simp only [setTag]; split <;> simp
/-- the map lies in a block from base on, the bytes in D -/
def TagsM (w : World) (D base : Nat) (u : Value) (l : TagL) : Prop :=
  (u = .map none ∧ l = []) ∨ ∃ m es clock, u = .map (some m) ∧ base ≤ m ∧ w.heap[m]? = some (.map es clock) ∧ EL w (· = D) clock es.toList l ∧ (es.toList.map (·.born)).Nodup ∧ l ≠ []
theorem TagsM.one {w : World} {D base : Nat} {u : Value} {l : TagL} (h : TagsM w D base u l) : u.oneCell' = true ∧ u.cells = #[u] := by
  rcases h with ⟨rfl, _⟩ | ⟨_, _, _, rfl, _⟩ <;> exact ⟨rfl, rfl⟩
@[simp] theorem stp_mapUpdate {P : Program} {f : Nat → Value} {ty : TypeId} {w : World} {K : Value → World → Prop} {T : TypeId} {a b c : Operand} : stp P f (.mapUpdate T a b c) ty w K = stepF P f (.mapUpdate T a b c) ty w K := (rfl)
@[simp] theorem stp_makeMap {P : Program} {f : Nat → Value} {ty : TypeId} {w : World} {K : Value → World → Prop} {T : TypeId} : stp P f (.makeMap T none) ty w K = K (.map (some w.heap.size)) (w.alloc (.map #[] 0)) := by
  show stepF P f (.makeMap T none) ty w K = _
  rw [stepF_ok (v := .map (some w.heap.size)) (w' := w.alloc (.map #[] 0))]
  simp [runF, execOp, Instr.makeMap, newObj, Sem.run]
section
variable {P : Program} {E : Env} (ht : TyTg P E)
include ht
/-- t.Set(key, val); t's cell lies in a block of its own. -/
theorem c_TSet (hu : P.underlying E.tU32 = some (.int .u32)) (hI : FnIs P E.f_pkmsg_Tags_Set nt_pkmsg_Tags_Set (rs_pkmsg_Tags_Set E) (ir_pkmsg_Tags_Set E)) {w : World} {D base b k : Nat} {u v : Value} {s : List UInt8} {l : TagL} {et : TypeId}
    (hk : k < 4294967296) (hv : BytesAt w (· = D) v s) (hc : w.heap[b]? = some (.cells #[u] et (0, 0))) (hl : TagsM w D base u l) (hD : D < base) (hb : base ≤ b) (hbs : base ≤ w.heap.size) :
    Ret P E.f_pkmsg_Tags_Set #[.pointer (some ⟨b, 0, none⟩), .int .u32 k, v] w fun _ w' => ∃ u', w'.heap[b]? = some (.cells #[u'] et (0, 0)) ∧ TagsM w' D base u' (setTag k s l) ∧ Ext (fun x => base ≤ x) w w' := by
  refine hI.call (args := [_, _, _]) (by simp [nt_pkmsg_Tags_Set]) ?_
  have c0 : w.cell? ⟨b, 0, none⟩ = some u := by rw [cell_of_blk hc]; rfl
  rcases hl with ⟨rfl, rfl⟩ | ⟨m, es, clock, rfl, hm, hmb, he, hn, _⟩
  · simp [ir_pkmsg_Tags_Set, rs_pkmsg_Tags_Set, ht.g0, Addr.add_mk, ld_scl ht.kM, c0, bin_nil_map ht.uM]
    refine cw_true (by simp) ?_
    have hb2 : (w.alloc (.map #[] 0)).heap[b]? = some (.cells #[.map none] et (0, 0)) := alloc_old hc
    have hne : w.heap.size ≠ b := fun h => by have := lt_of_heap hc; omega
    simp [ht.g0, Addr.add_mk, store_scl ht.kM, put1K_blk hb2]
    generalize hw1 : (w.alloc (.map #[] 0)).setBlk b (.cells #[.map (some w.heap.size)] et (0, 0)) = w1
    have hE : Ext (fun x => base ≤ x) w w1 := by subst hw1; exact ((Ext.refl _ w).alloc _).setBlk (Or.inr hb) _
    have hb1 : w1.heap[b]? = some (.cells #[.map (some w.heap.size)] et (0, 0)) := by subst hw1; exact setBlk_same hb2
    have hm1 : w1.heap[w.heap.size]? = some (.map #[] 0) := by subst hw1; rw [setBlk_other hne]; exact alloc_new
    have c1 : w1.cell? ⟨b, 0, none⟩ = some (.map (some w.heap.size)) := by rw [cell_of_blk hb1]; rfl
    obtain ⟨es', clock', hr, he', hn'⟩ := run_mapUpdate (es := #[]) (l := []) ht.uM hu hk (hv.ext hE (fun x _ hx => by subst hx; omega)) hm1 trivial (by simp)
    simp [c1, ld_scl ht.kM]
    refine ⟨rfl, ?_⟩
    rw [stepF_skip (w' := w1.setBlk w.heap.size (.map es' clock'))]
    · refine ⟨_, (by rw [setBlk_other (Ne.symm hne)]; exact hb1), .inr ⟨w.heap.size, es', clock', rfl, hbs, setBlk_same hm1, ?_, hn', setTag_ne _ _ _⟩, hE.setBlk (Or.inr hbs) _⟩
      exact EL.ext ((Ext.refl (fun x => base ≤ x) w1).setBlk (Or.inr hbs) _) (by omega) he'
    · simp [runF, execOp, hr]
  · simp [ir_pkmsg_Tags_Set, rs_pkmsg_Tags_Set, ht.g0, Addr.add_mk, ld_scl ht.kM, c0, bin_nil_map ht.uM]
    refine cw_false (by simp) ?_
    obtain ⟨es', clock', hr, he', hn'⟩ := run_mapUpdate ht.uM hu hk hv hmb he hn
    have hne : m ≠ b := fun h => by subst h; rw [hc] at hmb; cases hmb
    simp [ht.g0, Addr.add_mk, ld_scl ht.kM, c0]
    rw [stepF_skip (w' := w.setBlk m (.map es' clock'))]
    · refine ⟨_, (by rw [setBlk_other (Ne.symm hne)]; exact hc), .inr ⟨m, es', clock', rfl, hm, setBlk_same hmb, ?_, hn', setTag_ne _ _ _⟩, (Ext.refl _ w).setBlk (Or.inr hm) _⟩
      exact EL.ext ((Ext.refl (fun x => base ≤ x) w).setBlk (Or.inr hm) _) (by omega) he'
    · simp [runF, execOp, hr]
end
/-- what is kept while tags are read -/
structure RTs (E : Env) (w0 : World) (pb D : Nat) (rs0 : RS) (n : Nat) (f : Nat → Value) (w : World) (l : TagL) (rs : RS) (k : Nat) : Prop where
  f0 : f 0 = .pointer (some ⟨pb, 0, none⟩)
  f3 : f 3 = .pointer (some ⟨w0.heap.size + 1, 0, none⟩)
  f4 : f 4 = .int .u32 k
  f2 : f 2 = .pointer (some ⟨w0.heap.size, 0, none⟩)
  ext : Ext (· = pb) w0 w
  rd : RdAt E.tRd w pb D rs
  cell : ∃ u, w.heap[w0.heap.size + 1]? = some (.cells #[u] E.t_kmsg_Tags (0, 0)) ∧ TagsM w D (w0.heap.size + 1) u l
  res : w.heap[w0.heap.size]? = some (.cells #[.map none] E.t_kmsg_Tags (0, 0))
  nd : (l.map (·.1)).Nodup
  len : l.length + k ≤ n
  todo : rdTagN k l rs = rdTagN n [] rs0
  kn : n < 4294967296
theorem Ext.grow {C : Nat → Prop} {a b c : World} {n : Nat} (h : Ext C a b) (k : Ext (fun x => n ≤ x) b c) (hn : a.heap.size ≤ n) : Ext C a c :=
  ⟨k.os.trans h.os, k.tape.trans h.tape, k.output.trans h.output, Nat.le_trans h.size k.size, fun i hi hc => (k.block i (Nat.lt_of_lt_of_le hi h.size) (by omega)).trans (h.block i hi hc)⟩
theorem EL.mono {w : World} {K K' : Nat → Prop} {c : Nat} (hk : ∀ b, K b → K' b) : ∀ {L : List MapEntry} {l : TagL}, EL w K c L l → EL w K' c L l
  | [], [], _ => trivial
  | e :: L, x :: l, h => ⟨⟨h.1.1, h.1.2.1, h.1.2.2.1, h.1.2.2.2.mono (fun b _ => hk b)⟩, EL.mono hk h.2⟩
  | [], _ :: _, h => h.elim
  | _ :: _, [], h => h.elim
theorem setTag_len1 (k : Nat) (v : List UInt8) (l : TagL) : (setTag k v l).length ≤ l.length + 1 := (setTag_len k v l).1
theorem TagsM.ext {C : Nat → Prop} {w w' : World} {D base : Nat} {u : Value} {l : TagL} (h : TagsM w D base u l) (he : Ext C w w') (hD : ¬ C D) (hC : ∀ k, k < w.heap.size → base ≤ k → ¬ C k) : TagsM w' D base u l := by
  rcases h with h | ⟨m, es, clock, rfl, hm, hb, h1, h2⟩
  · exact .inl h
  · exact .inr ⟨m, es, clock, rfl, hm, he.old hb (hC m (lt_of_heap hb) hm), h1.ext he hD, h2⟩
section
variable {P : Program} {E : Env} (ht : TyTg P E)
include ht
set_option maxHeartbeats 1000000 in
theorem c_readTags (C : CfgR) (hE : C.E = E) (hu : P.underlying E.tU32 = some (.int .u32)) (hi : intKind? P E.tU32 = some .u32) (hi' : intKind? P E.tInt = some .i64) (hk : kindOf P E.t_kmsg_Tags = .agg 1) (hz : zeroOf P E.t_kmsg_Tags = some (.agg #[.map none]))
    (hI : FnIs P E.f_kmsg_internalReadTags nt_kmsg_internalReadTags (rs_kmsg_internalReadTags E) (ir_kmsg_internalReadTags E))
    (hU : RdC P E.tRd E.f_pkbin_Reader_Uvarint fun rs => (.int .u32 (rdUv rs).1, (rdUv rs).2)) (hS : SpanC P E.tRd E.f_pkbin_Reader_Span)
    (hT : ∀ {w : World} {D base b k : Nat} {u v : Value} {s : List UInt8} {l : TagL} {et : TypeId}, k < 4294967296 → BytesAt w (· = D) v s → w.heap[b]? = some (.cells #[u] et (0, 0)) → TagsM w D base u l → D < base → base ≤ b → base ≤ w.heap.size →
      Ret P E.f_pkmsg_Tags_Set #[.pointer (some ⟨b, 0, none⟩), .int .u32 k, v] w fun _ w' => ∃ u', w'.heap[b]? = some (.cells #[u'] et (0, 0)) ∧ TagsM w' D base u' (setTag k s l) ∧ Ext (fun x => base ≤ x) w w') : TagsRC P C := by
  subst hE
  intro w pb D rs hne hD hr
  refine hI.call (args := [_]) (by simp [nt_kmsg_internalReadTags]) ?_
  have hlt : pb < w.heap.size := by obtain ⟨sv, hb, _⟩ := hr; exact lt_of_heap hb
  simp [ir_kmsg_internalReadTags, rs_kmsg_internalReadTags, hz, Value.cells]
  generalize hw1 : w.alloc (.cells #[.map none] C.E.t_kmsg_Tags) = w1
  have hs1 : w1.heap.size = w.heap.size + 1 := by subst hw1; simp
  have hx1 : Ext none1 w w1 := by subst hw1; exact (Ext.refl _ w).alloc _
  have hb0 : w1.heap[w.heap.size]? = some (.cells #[.map none] C.E.t_kmsg_Tags (0, 0)) := by subst hw1; exact alloc_new
  generalize hw2 : w1.alloc (.cells #[.map none] C.E.t_kmsg_Tags) = w2
  have hs2 : w2.heap.size = w.heap.size + 2 := by subst hw2; simp [hs1]
  have hx2 : Ext none1 w w2 := by subst hw2; exact hx1.alloc _
  have hb1 : w2.heap[w.heap.size + 1]? = some (.cells #[.map none] C.E.t_kmsg_Tags (0, 0)) := by subst hw2; rw [← hs1]; exact alloc_new
  have hb02 : w2.heap[w.heap.size]? = some (.cells #[.map none] C.E.t_kmsg_Tags (0, 0)) := by subst hw2; exact alloc_old hb0
  have hr2 : RdAt C.E.tRd w2 pb D rs := RdAt.ext hr hx2 (fun h => h) (fun h => h)
  refine (hU w2 pb D rs hne hr2).mono ?_
  rintro _ w3 ⟨rfl, hx3, hr3⟩
  simp
  have hx03 : Ext (· = pb) w w3 := (hx2.mono (fun _ _ h => h.elim)).trans hx3
  refine cw_loop (fun f w' => ∃ l rs' k, RTs C.E w pb D (rdUv rs).2 (rdUv rs).1 f w' l rs' k) (fun f _ => match f 4 with | .int _ n => n.toNat | _ => 0) ?_ ?_
  · refine ⟨[], (rdUv rs).2, (rdUv rs).1, by simp, by simp [hs1], by simp, by simp, hx03, hr3, ⟨.map none, hx3.old hb1 (by omega), .inl ⟨rfl, rfl⟩⟩, hx3.old hb02 (by omega), by simp, by simp, rfl, rdUv_lt rs⟩
  · rintro f w4 ⟨l, rs4, k, h⟩
    simp [h.f4]
    by_cases hk0 : k = 0
    · refine cw_false (by simp [hk0]) ?_
      obtain ⟨u, hc, hM⟩ := h.cell
      have c0 : w4.cell? ⟨w.heap.size + 1, 0, none⟩ = some u := by rw [cell_of_blk hc]; rfl
      have hone := hM.one
      simp [h.f3, h.f2, ld_agg hk, cellsFrom, Addr.add_mk, c0, store_agg hk, allOne, hone.1, putK_blk h.res]
      have hov : over #[Value.map none] 0 [u] = #[u] := rfl
      simp only [hov]
      generalize hw5 : w4.setBlk w.heap.size (.cells #[u] C.E.t_kmsg_Tags (0, 0)) = w5
      have hb5 : w5.heap[w.heap.size]? = some (.cells #[u] C.E.t_kmsg_Tags (0, 0)) := by subst hw5; exact setBlk_same h.res
      have c5 : w5.cell? ⟨w.heap.size, 0, none⟩ = some u := by rw [cell_of_blk hb5]; rfl
      simp [c5]
      have hx5 : Ext (fun x => x = w.heap.size) w4 w5 := by subst hw5; exact (Ext.refl (fun x => x = w.heap.size) w4).setBlk (b := w.heap.size) (Or.inr rfl) _
      have hlen := h.len
      have hkn := h.kn
      have htodo := h.todo
      subst hk0
      simp only [rdTagN] at htodo
      have hl1 : (rdTags rs).1 = l := by rw [rdTags, ← htodo]
      have hl2 : (rdTags rs).2 = rs4 := by rw [rdTags, ← htodo]
      refine ⟨?_, by subst hw5; exact h.ext.setBlk (Or.inl (Nat.le_refl _)) _, ?_⟩
      · rw [hl1, tagsAt_iff]
        rcases hM with ⟨rfl, rfl⟩ | ⟨m, es, clock, rfl, hm, hmb, he, hn, hne⟩
        · exact .inl ⟨rfl, rfl⟩
        · refine .inr ⟨m, es, clock, rfl, .inr (by omega), hx5.old hmb ?_, ?_, h.nd, hn, by omega, hne⟩
          · intro e; subst e; rw [h.res] at hmb; cases hmb
          · exact EL.mono (fun b hb => .inl hb) (he.ext hx5 (by omega))
      · rw [hl2]
        exact RdAt.ext h.rd hx5 (by omega) (by omega)
    · refine cw_true (by simp; omega) ?_
      simp [h.f0]
      refine (hU w4 pb D rs4 hne h.rd).mono ?_
      rintro _ w5 ⟨rfl, hx5, hr5⟩
      simp [h.f0]
      refine (hU w5 pb D _ hne hr5).mono ?_
      rintro _ w6 ⟨rfl, hx6, hr6⟩
      simp [h.f0, hi, hi']
      have hwr : IntKind.i64.wrap ((rdUv (rdUv rs4).2).1 : Int) = ((rdUv (rdUv rs4).2).1 : Int) := i64_small (by omega) (by have := rdUv_lt (rdUv rs4).2; omega)
      rw [hwr]
      refine (hS w6 pb D _ _ hne hr6).mono ?_
      rintro v w7 ⟨hv, _, hx7, hr7⟩
      simp [h.f3]
      have hx47 : Ext (· = pb) w4 w7 := (hx5.trans hx6).trans hx7
      obtain ⟨u, hc, hM⟩ := h.cell
      have hsz := h.ext.size
      have hc7 : w7.heap[w.heap.size + 1]? = some (.cells #[u] C.E.t_kmsg_Tags (0, 0)) := hx47.old hc (by omega)
      refine (hT (rdUv_lt rs4) hv hc7 (hM.ext hx47 (fun e => hne e.symm) (by intro k _ hk e; omega)) (by omega) (by omega) (by have := lt_of_heap hc7; omega)).mono ?_
      rintro _ w8 ⟨u', hc8, hM8, hx8⟩
      simp [h.f4]
      have hkn := h.kn
      have hln := h.len
      have hwk : IntKind.u32.wrap ((k : Int) - 1) = ((k - 1 : Nat) : Int) := by simp [IntKind.wrap, IntKind.signed, IntKind.bits]; omega
      refine ⟨⟨_, _, k - 1, ⟨by simp [h.f0], by simp [h.f3], by simp [hwk], by simp [h.f2], ?_, hr7.ext hx8 (by omega) (by omega), ⟨u', hc8, hM8⟩, ?_, setTag_nodup _ _ _ h.nd, ?_, ?_, hkn⟩⟩, ?_⟩
      · exact (h.ext.trans hx47).grow hx8 (by omega)
      · exact hx8.old (hx47.old h.res (by omega)) (by omega)
      · exact Nat.le_trans (Nat.add_le_add_right (setTag_len1 _ _ l) _) (by omega)
      · rw [← h.todo]
        obtain ⟨k', rfl⟩ : ∃ k', k = k' + 1 := ⟨k - 1, by omega⟩
        simp only [Nat.add_sub_cancel, rdTagN, rdTag]
      · rw [hwk]; omega
end
end Go.Kg

set_option linter.unusedSimpArgs false
set_option linter.unusedVariables false
set_option linter.unusedSectionVars false
namespace Go.Kg
open Go
/-- what is told of a thing lies in blocks of K that are there -/
theorem Sch.Rep_ltK {w : World} {K : Nat → Prop} : ∀ (S : Sch) {cs : List Value} {x : S.T}, S.Rep w K cs x → S.Rep w (fun k => K k ∧ k < w.heap.size) cs x := by
  have hB : ∀ {v : Value} {s : List UInt8}, BytesAt w K v s → BytesAt w (fun k => K k ∧ k < w.heap.size) v s := by
    rintro v s (h | ⟨b, o, c, h1, h2, h3, h4⟩)
    · exact .inl h
    · refine .inr ⟨b, o, c, h1, h2, fun hs => ?_, h4⟩
      cases s with
      | nil => exact absurd rfl hs
      | cons y s => exact ⟨h3 hs, World.block_lt_of_cell? w _ (h4 0 y rfl)⟩
  have hP : ∀ {p : Prim} {v : Value} {x : p.T}, p.rep1 w K v x → p.rep1 w (fun k => K k ∧ k < w.heap.size) v x := by
    intro p v x h
    cases p with
    | bytes => exact hB h
    | nstr =>
      cases x with
      | none => exact h
      | some l => obtain ⟨a, h1, h2, h3⟩ := h; exact ⟨a, h1, ⟨h2, World.block_lt_of_cell? w _ h3⟩, h3⟩
    | nbytes =>
      cases x with
      | none => exact h
      | some l => exact ⟨hB h.1, h.2⟩
    | _ => exact h
  have hA : ∀ {sz : Nat} {v : Value} {ls : Option (List (List Value))}, ArrAt w K sz v ls → InHeap w v → ArrAt w (fun k => K k ∧ k < w.heap.size) sz v ls := by
    intro sz v ls h hi
    cases ls with
    | none => exact h
    | some ls => obtain ⟨b, o, c, rfl, hk, hn, hx⟩ := h; exact ⟨b, o, c, rfl, ⟨hk, hi _ _ _ rfl⟩, hn, hx⟩
  intro S
  induction S with
  | fin => intro cs x h; trivial
  | tags k o =>
    intro cs x ⟨v, h1, h2⟩
    refine ⟨v, h1, ?_⟩
    rcases h2 with h | ⟨b, es, clock, rfl, hk, hb, hs, hn, hl, hx⟩
    · exact .inl h
    · refine .inr ⟨b, es, clock, rfl, ⟨hk, lt_of_heap hb⟩, hb, hs, hn, hl, fun i e x h1 h2 => ?_⟩
      obtain ⟨a1, a2, a3, a4⟩ := hx i e x h1 h2
      exact ⟨a1, a2, a3, hB a4⟩
  | prim g k o p en d rest ih => intro cs x ⟨⟨v, h1, h2⟩, h3⟩; exact ⟨⟨v, h1, hP h2⟩, ih h3⟩
  | arrP g k o sT nul p rest ih =>
    intro cs x ⟨⟨v, ls, h1, h2, h3, h4, h5⟩, h6⟩
    refine ⟨⟨v, ls, h1, hA h2 h3.2, h3, h4, fun i es y hi hy => ?_⟩, ih h6⟩
    obtain ⟨u, a1, a2⟩ := h5 i es y hi hy
    exact ⟨u, a1, hP a2⟩
  | arrS g k o sT nul T PT sz df e rest ihe ih =>
    intro cs x ⟨⟨v, ls, h1, h2, h3, h4, h5⟩, h6⟩
    exact ⟨⟨v, ls, h1, hA h2 h3.2, h3, h4, fun i es y hi hy => ihe (h5 i es y hi hy)⟩, ih h6⟩
  | sub g k o T PT sz df e rest ihe ih => intro cs x ⟨h1, h2⟩; exact ⟨ihe h1, ih h2⟩
  | opt g k o T PT PP sz df e rest ihe ih =>
    intro cs x ⟨⟨v, h1, h2, h3⟩, h4⟩
    refine ⟨⟨v, h1, h2, fun y hy => ?_⟩, ih h4⟩
    obtain ⟨b, c, es, a1, a2, a3, a4, a5, a6⟩ := h3 y hy
    exact ⟨b, c, es, a1, ⟨a2, a3⟩, a3, a4, a5, ihe a6⟩
  | cus c => intro cs x h; exact c.rep_lt h
def KF.sv : (f : KF) → f.c.T → f.sch.T
  | ⟨_, _, _, .prim _ _⟩, x => (x, ())
  | ⟨_, _, _, .arr _ _ _ _ _ _⟩, x => (x, ())
  | ⟨_, _, _, .str _ _ _ _ _ _ _⟩, x => (x, ())
theorem KF.rep_sch {w : World} {K : Nat → Prop} {cs : List Value} (f : KF) (x : f.c.T) (h : f.c.Rep w K cs f.o x) : f.sch.Rep w K cs (f.sv x) := by
  obtain ⟨num, k, o, c⟩ := f
  cases c with
  | prim p d => exact ⟨h, trivial⟩
  | arr sT T PT sz df e => exact ⟨h, trivial⟩
  | str T PT sz df sm mk e => exact ⟨h.2, trivial⟩
theorem KF.rep_back {w w0 : World} {K K0 : Nat → Prop} {cs : List Value} (f : KF) (x : f.c.T) (h0 : f.c.Rep w0 K0 cs f.o x) (h : f.sch.Rep w K cs (f.sv x)) : f.c.Rep w K cs f.o x := by
  obtain ⟨num, k, o, c⟩ := f
  cases c with
  | prim p d => exact h.1
  | arr sT T PT sz df e => exact h.1
  | str T PT sz df sm mk e => exact ⟨h0.1, h.1⟩
theorem KsRep_ltK {w : World} {K : Nat → Prop} {cs : List Value} : ∀ (l : List KF) {x : KsT l}, KsRep w K cs l x → KsRep w (fun k => K k ∧ k < w.heap.size) cs l x
  | [], _, _ => trivial
  | f :: l, (v, r), h => ⟨f.rep_back v h.1 (Sch.Rep_ltK f.sch (f.rep_sch v h.1)), KsRep_ltK l h.2⟩
theorem KsRep_mono {w : World} {K K' : Nat → Prop} (hK : ∀ b, K b → K' b) {cs : List Value} : ∀ (l : List KF) {x : KsT l}, KsRep w K cs l x → KsRep w K' cs l x
  | [], _, _ => trivial
  | f :: l, (v, r), h => ⟨f.rep_back v h.1 (Sch.Rep_mono hK f.sch (f.rep_sch v h.1)), KsRep_mono hK l h.2⟩
/-- how many cells a known tag's field has -/
def KF.sz (f : KF) : Nat := match f.c with
  | .prim p _ => p.sz
  | .arr _ _ _ _ _ _ => 1
  | .str _ _ sz _ _ _ _ => sz
theorem Kn.Rep_cells {w : World} {K : Nat → Prop} {cs cs' : List Value} (f : KF) {x : f.c.T} (hc : ∀ j, f.o ≤ j → j < f.o + f.sz → cs'[j]? = cs[j]?) (h : f.c.Rep w K cs f.o x) : f.c.Rep w K cs' f.o x := by
  obtain ⟨num, k, o, c⟩ := f
  cases c with
  | prim p d =>
    simp only [KF.sz] at hc
    obtain ⟨v, h1, h2⟩ := h
    refine ⟨v, fun j u hj => ?_, h2⟩
    have h3 := rep1_sz h2
    have h4 := (List.getElem?_eq_some_iff.1 hj).1
    have h5 : j < p.sz := by rw [← h3]; simpa using h4
    have h6 := hc (o + j) (by omega) (by omega)
    simp only at h6 ⊢
    rw [h6]
    exact h1 j u hj
  | arr sT T PT sz df e =>
    simp only [KF.sz] at hc
    obtain ⟨v, ls, h1, h2, h3, h4, h5⟩ := h
    exact ⟨v, ls, (hc o (Nat.le_refl _) (by omega)).trans h1, h2, h3, h4, h5⟩
  | str T PT sz df sm mk e =>
    simp only [KF.sz] at hc
    have e1 : (cs'.drop o).take sz = (cs.drop o).take sz := by
      apply List.ext_getElem?
      intro j
      by_cases hj : j < sz
      · rw [List.getElem?_take, List.getElem?_take, if_pos hj, if_pos hj, List.getElem?_drop, List.getElem?_drop]
        exact hc _ (by omega) (by omega)
      · rw [List.getElem?_take, List.getElem?_take, if_neg hj, if_neg hj]
    show ((cs'.drop o).take sz).length = sz ∧ e.Rep w K ((cs'.drop o).take sz) x
    rw [e1]; exact h
section
variable {P : Program} {E : Env} (ht : TyTg P E)
include ht
/-- t.Set(key, val); t is a struct's field -/
theorem c_TSetM (hu : P.underlying E.tU32 = some (.int .u32)) (hI : FnIs P E.f_pkmsg_Tags_Set nt_pkmsg_Tags_Set (rs_pkmsg_Tags_Set E) (ir_pkmsg_Tags_Set E)) {w : World} {D base b o k : Nat} {u v : Value} {s : List UInt8} {l : TagL} {cc : Array Value} {et : TypeId}
    (hk : k < 4294967296) (hv : BytesAt w (· = D) v s) (hc : w.heap[b]? = some (.cells cc et (0, 0))) (hco : cc[o]? = some u) (hl : TagsM w D base u l) (hD : D < base) (hDb : D ≠ b) (hbs : base ≤ w.heap.size) :
    Ret P E.f_pkmsg_Tags_Set #[.pointer (some ⟨b, o, none⟩), .int .u32 k, v] w fun _ w' => ∃ u', w'.heap[b]? = some (.cells (cc.setIfInBounds o u') et (0, 0)) ∧ TagsM w' D base u' (setTag k s l) ∧ Ext (fun x => x = b ∨ u = .map (some x)) w w' ∧ (u' = u ∨ u' = .map (some w.heap.size)) := by
  refine hI.call (args := [_, _, _]) (by simp [nt_pkmsg_Tags_Set]) ?_
  have holt : o < cc.size := (Array.getElem?_eq_some_iff.1 hco).1
  have c0 : w.cell? ⟨b, o, none⟩ = some u := by rw [cell_of_blk hc]; exact hco
  rcases hl with ⟨rfl, rfl⟩ | ⟨m, es, clock, rfl, hm, hmb, he, hn, _⟩
  · simp [ir_pkmsg_Tags_Set, rs_pkmsg_Tags_Set, ht.g0, Addr.add_mk, ld_scl ht.kM, c0, bin_nil_map ht.uM]
    refine cw_true (by simp) ?_
    have hb2 : (w.alloc (.map #[] 0)).heap[b]? = some (.cells cc et (0, 0)) := alloc_old hc
    have hne : w.heap.size ≠ b := fun h => by have := lt_of_heap hc; omega
    simp [ht.g0, Addr.add_mk, store_scl ht.kM, put1K_blk hb2]
    refine ⟨rfl, holt, ?_⟩
    generalize hw1 : (w.alloc (.map #[] 0)).setBlk b (.cells (cc.setIfInBounds o (.map (some w.heap.size))) et (0, 0)) = w1
    have hE : Ext (fun x => x = b) w w1 := by subst hw1; exact ((Ext.refl (fun x => x = b) w).alloc _).setBlk (Or.inr rfl) _
    have hb1 : w1.heap[b]? = some (.cells (cc.setIfInBounds o (.map (some w.heap.size))) et (0, 0)) := by subst hw1; exact setBlk_same hb2
    have hm1 : w1.heap[w.heap.size]? = some (.map #[] 0) := by subst hw1; rw [setBlk_other hne]; exact alloc_new
    have c1 : w1.cell? ⟨b, o, none⟩ = some (.map (some w.heap.size)) := by rw [cell_of_blk hb1]; simp [holt]
    obtain ⟨es', clock', hr, he', hn'⟩ := run_mapUpdate (es := #[]) (l := []) ht.uM hu hk (hv.ext hE (fun x _ hx h => hDb (hx.symm.trans h))) hm1 trivial (by simp)
    simp [c1, ld_scl ht.kM]
    rw [stepF_skip (w' := w1.setBlk w.heap.size (.map es' clock'))]
    · refine ⟨_, (by rw [setBlk_other (Ne.symm hne)]; exact hb1), .inr ⟨w.heap.size, es', clock', rfl, hbs, setBlk_same hm1, ?_, hn', setTag_ne _ _ _⟩, hE.setBlk (Or.inl (Nat.le_refl _)) _, .inr rfl⟩
      exact EL.ext ((Ext.refl (fun x => base ≤ x) w1).setBlk (Or.inr hbs) _) (by omega) he'
    · simp [runF, execOp, hr]
  · simp [ir_pkmsg_Tags_Set, rs_pkmsg_Tags_Set, ht.g0, Addr.add_mk, ld_scl ht.kM, c0, bin_nil_map ht.uM]
    refine cw_false (by simp) ?_
    obtain ⟨es', clock', hr, he', hn'⟩ := run_mapUpdate ht.uM hu hk hv hmb he hn
    have hne : m ≠ b := fun h => by subst h; rw [hc] at hmb; cases hmb
    simp [ht.g0, Addr.add_mk, ld_scl ht.kM, c0]
    rw [stepF_skip (w' := w.setBlk m (.map es' clock'))]
    · have hcc : cc.setIfInBounds o (.map (some m)) = cc := by
        apply Array.ext_getElem?
        intro j
        rw [Array.getElem?_setIfInBounds]
        split
        · rename_i h; subst h; first | rw [hco] | rw [if_pos holt, hco]
        · rfl
      refine ⟨.map (some m), (by rw [setBlk_other (Ne.symm hne), hcc]; exact hc), .inr ⟨m, es', clock', rfl, hm, setBlk_same hmb, ?_, hn', setTag_ne _ _ _⟩, (Ext.refl _ w).setBlk (Or.inr (.inr rfl)) _, .inl rfl⟩
      exact EL.ext ((Ext.refl (fun x => base ≤ x) w).setBlk (Or.inr hm) _) (by omega) he'
    · simp [runF, execOp, hr]
end
theorem NeedR_rs {P : Program} {C : CfgR} (l : Nat) : ∀ S : Sch, S.NeedR P C → S.NeedR P { C with rs := l } := by
  intro S
  induction S with
  | fin => intro _; trivial
  | tags k o => intro h; exact h
  | prim g k o p en d rest ih => intro h; exact ⟨h.1, ih h.2⟩
  | arrP g k o sT nul p rest ih => intro h; exact ⟨h.1, h.2.1, ⟨⟨h.2.2.1.complete⟩, h.2.2.1.ok⟩, ih h.2.2.2⟩
  | arrS g k o sT nul T PT sz df e rest ihe ih => intro h; exact ⟨h.1, ⟨⟨h.2.1.complete⟩, h.2.1.ok⟩, h.2.2.1, ihe h.2.2.2.1, ih h.2.2.2.2⟩
  | sub g k o T PT sz df e rest ihe ih => intro h; exact ⟨h.1, ihe h.2.1, ih h.2.2⟩
  | opt g k o T PT PP sz df e rest ihe ih => intro h; exact ⟨h.1, ⟨⟨h.2.1.complete⟩, h.2.1.ok⟩, h.2.2.1, ihe h.2.2.2.1, ih h.2.2.2.2⟩
  | cus c => intro h l'; exact h l'
theorem tyR_rs {P : Program} {C : CfgR} (l : Nat) : ∀ (S : Sch) (T n lo : Nat), S.tyR P { C with rs := l } T n lo = S.tyR P C T n lo := by
  intro S
  induction S with
  | fin => intro T n lo; rfl
  | tags k o => intro T n lo; rfl
  | prim g k o p en d rest ih => intro T n lo; simp only [Sch.tyR, ih]
  | arrP g k o sT nul p rest ih => intro T n lo; simp only [Sch.tyR, ih]
  | arrS g k o sT nul T' PT sz df e rest ihe ih => intro T n lo; simp only [Sch.tyR, ihe, ih]
  | sub g k o T' PT sz df e rest ihe ih => intro T n lo; simp only [Sch.tyR, ihe, ih]
  | opt g k o T' PT PP sz df e rest ihe ih => intro T n lo; simp only [Sch.tyR, ihe, ih]
  | cus c => intro T n lo; rfl
theorem TyR_rs {P : Program} {C : CfgR} (l : Nat) (h : TyR P C) : TyR P { C with rs := l } := ⟨h.c, h.uu, h.kTags, h.i32⟩
end Go.Kg

set_option linter.unusedSimpArgs false
set_option linter.unusedVariables false
set_option linter.unusedSectionVars false
namespace Go.Kg
open Go
def Sch.flatB : Sch → Bool
  | .fin => true
  | .tags _ _ => true
  | .prim g _ _ _ en _ rest => g.lo.isNone && en == 0 && rest.flatB
  | _ => false
section
variable {P : Program} {C : CfgR}
def SoundRF (P : Program) (C : CfgR) (S : Sch) : Prop := ∀ (T PT pv : Nat) (c : Ct) (Q : Post) (f : Nat → Value) (w : World) (b a n lo : Nat) (cc : Array Value) (e : TypeId) (ver : Int) (R : Rdr) (rs : RS),
  S.flatB = true → S.tyR P C T n lo = true → S.NeedR P C → FrR C R f pv b a ver true c.l → (S.genR C T PT pv c).2.l ≤ c.t → StR C R b a n w cc e rs →
  (∀ x rs', S.rd ver true rs = some (x, rs') → ∀ f' w' cc', RdTo C R b a n lo w cc e f c.l (S.genR C T PT pv c).2.l c.t rs' f' w' cc' → S.Rep w' (RK R) (segL cc' a n) x → Q .normal f' w') →
  (seqL (S.genR C T PT pv c).1).wp P Q f w
theorem soundRF_tags (ht : TyR P C) (k o : Nat) : SoundRF P C (.tags k o) := by
  intro T PT pv c Q f w b a n lo cc e ver R rs _ hty hN hf hc hs h1
  simp only [Sch.tyR, Bool.and_eq_true, beq_iff_eq, decide_eq_true_eq] at hty
  obtain ⟨⟨⟨hx, hF⟩, hlo⟩, hn⟩ := hty
  have hlt : c.l ≤ c.t := hc
  have hn10 := hf.nN
  have hpt := hf.ptrN
  refine seqL_one ?_
  refine r_cond (hf.flg hx) (by omega) ?_ ?_
  · rintro - f1 hk1
    refine wp_reg ?_
    have p1 : f1 pv = .pointer (some ⟨b, a, none⟩) := (hk1 pv (by omega)).trans hf.ptr
    have hrs := hf.rsN
    have p7 : f1 C.rs = .pointer (some ⟨R.pb, 0, none⟩) := (hk1 C.rs (by omega)).trans hf.rd
    have z7 : ∀ n, (C.rs = c.t + n) = False := by intro n; simp; omega
    have zp : ∀ n, (pv = c.t + n) = False := by intro n; simp; omega
    simp [p1, p7, z7, zp]
    refine (hN w R.pb R.D rs hs.rw_.ne.1 (Nat.lt_of_lt_of_le hs.rw_.lt.2.2.1 hs.rw_.lt.2.2.2) hs.rd).mono ?_
    rintro _ w1 ⟨⟨v, rfl, hv⟩, he1, hr1⟩
    have hs1 := hs.ext1 he1 hr1
    have hv1 : v.oneCell' = true := by
      rcases hv with ⟨rfl, _⟩ | ⟨_, _, _, rfl, _⟩ <;> rfl
    have hK : ∀ k, k = R.D ∨ w.heap.size ≤ k → RK R k := by
      rintro k (h | h)
      · exact .inl h
      · exact .inr (Nat.le_trans hs.rw_.lt.2.2.2 h)
    have huc : v.cells = #[v] := by cases v <;> simp_all [Value.oneCell', Value.cells]
    have hfit := hs1.fit
    simp [hF, Addr.add_mk, store_agg ht.kTags, allOne, hv1, putK_blk hs1.blk, over_one (show a + o < cc.size by omega)]
    refine ⟨by omega, ?_⟩
    have hput := put_one (cc := cc) (o := a + o) hv1 (by omega)
    refine h1 (rdTags rs).1 (rdTags rs).2 rfl _ _ _ ((RdTo.read hs he1 hr1 (KeepR.refl _ _ _ _)).trans (RdTo.put hs1 hput hlo (by rw [huc]; exact hn) (l := c.l) (m := c.l) (t := c.t) ?_) (Nat.le_refl _) (Nat.le_refl _) (Nat.le_refl _) (Nat.le_refl _)) ?_
    · intro y hy1 hy
      have x3 : ∀ n, (y = c.t + n) = False := by intro n; simp; omega
      simp [x3]
      exact hk1 y (by omega)
    · refine ⟨v, ?_, ?_⟩
      · rw [segL_get (by omega)]
        simp [Array.getElem?_setIfInBounds]; omega
      · have hE : Ext (fun k => k = b) w1 (w1.setBlk b (.cells (cc.setIfInBounds (a + o) v) e (0, 0))) := (Ext.refl (fun k => k = b) w1).setBlk (b := b) (Or.inr rfl) _
        exact TagsAt.ext hE (fun k hk1 hk2 hk3 => hs1.rw_.keepK k hk1 hk2 (.inr hk3)) (TagsAt.mono hK hv)
  · intro h; cases h
theorem soundRF (ht : TyR P C) : ∀ S : Sch, SoundRF P C S := by
  intro S
  induction S with
  | fin =>
    intro T PT pv c Q f w b a n lo cc e ver R rs _ _ _ hf _ hs h1
    exact h1 () rs rfl f w cc (RdTo.refl hs (KeepR.refl _ _ _ _)) trivial
  | tags k o => exact soundRF_tags ht k o
  | prim g k o p en d rest ih =>
    intro T PT pv c Q f w b a n lo cc e ver R rs hfl hty hN hf hc hs h1
    simp only [Sch.flatB, Bool.and_eq_true, beq_iff_eq, Option.isNone_iff_eq_none] at hfl
    obtain ⟨⟨hg, rfl⟩, hflr⟩ := hfl
    have hgon : g.on ver = true := by obtain ⟨lo, hi⟩ := g; simp only at hg; subst hg; rfl
    simp only [Sch.tyR, Bool.and_eq_true, beq_iff_eq, decide_eq_true_eq] at hty
    obtain ⟨⟨⟨⟨⟨hF, hk⟩, hen⟩, hlo⟩, hn⟩, htr⟩ := hty
    obtain ⟨hNp, hNr⟩ := hN
    have hn10 := hf.nN
    have hpt := hf.ptrN
    have hfit := hs.fit
    simp only [Sch.genR, if_true] at hc h1 ⊢
    have hm := (genR_mono (C := C) rest T PT pv ⟨c.l + 1, c.t + gdN g + readN C p + 4, c.k⟩)
    simp only at hm
    refine seqL_cons ?_
    refine w_guard ht.c (show f 8 = _ from hf.ver) (show 8 < c.t by omega) (by omega) ?_ (fun hoff => by rw [hgon] at hoff; cases hoff)
    intro hon f1 hk1 h11
    have hf1 := hf.keep hk1 (by omega)
    refine seqL_append ?_
    refine r_read ht (kOk_uu hk) hNp hs hf1 (by omega) ?_
    intro f2 w2 u hu hrep he2 hr2 hk2
    have hs2 := hs.ext1 he2 hr2
    have hsz := rep1_sz hrep
    refine seqL_one ?_
    refine r_store ht (o := o) ((hk2 pv (by omega) (by omega)).trans hf1.ptr) hF hk hu (rep1_one hrep) (by omega) (by omega) hs2.blk (by rw [hsz]; omega) ?_
    intro f3 cc3 hput hk3
    have hto : RdTo C R b a n lo w cc e f c.l (c.l + 1) c.t (p.rd true rs).2 f3 _ cc3 := (RdTo.read (lo := lo) hs he2 hr2 (KeepR.refl f c.l (c.l + 1) c.t)).trans (RdTo.put hs2 hput hlo (by rw [hsz]; exact hn) (l := c.l) (m := c.l + 1) (t := c.t) (by
      intro y hy1 hy
      rw [hk3 y (by omega), hk2 y (by omega) (by omega)]
      exact hk1 y (by omega) hy1)) (Nat.le_refl _) (Nat.le_refl _) (Nat.le_refl _) (Nat.le_refl _)
    have hfld : FldAt _ R (segL cc3 a n) o p (p.rd true rs).1 := FldAt.put hs2 hput (by rw [hsz]; exact hn) hrep
    have hrd : Sch.rd ver true (.prim g k o p 0 d rest) rs = (rest.rd ver true (p.rd true rs).2).map fun y => (((p.rd true rs).1, y.1), y.2) := by simp only [Sch.rd, if_pos hgon]; rfl
    refine ih T PT pv _ Q f3 _ b a n (o + p.sz) cc3 e ver R _ hflr htr hNr ((hf.keep hto.keep.keeps (Nat.le_refl _)).up (by simp only; omega)) (by simp only; omega) hto.st ?_
    intro y rs2 hy f4 w4 cc4 hto2 hrep2
    refine h1 ((p.rd true rs).1, y) rs2 (by rw [hrd, hy]; rfl) f4 w4 cc4 (hto.trans hto2 (by omega) (by simp) hm.1 (by simp only; omega)) ⟨?_, hrep2⟩
    exact hfld.move hto2.ext hto.st.rw_.keepK (fun j hj1 hj2 => by rw [segL_get (by omega), segL_get (by omega)]; exact hto2.same _ (.inl (by omega)))
  | arrP g k o sT nul p rest ih => intro T PT pv c Q f w b a n lo cc e ver R rs hfl; simp [Sch.flatB] at hfl
  | arrS g k o sT nul T' PT' sz df e rest ihe ih => intro T PT pv c Q f w b a n lo cc e' ver R rs hfl; simp [Sch.flatB] at hfl
  | sub g k o T' PT' sz df e rest ihe ih => intro T PT pv c Q f w b a n lo cc e' ver R rs hfl; simp [Sch.flatB] at hfl
  | opt g k o T' PT' PP sz df e rest ihe ih => intro T PT pv c Q f w b a n lo cc e' ver R rs hfl; simp [Sch.flatB] at hfl
  | cus u => intro T PT pv c Q f w b a n lo cc e' ver R rs hfl; simp [Sch.flatB] at hfl
theorem setD_other (a : Nat) {j : Nat} : ∀ (l : List DSt) (c : Array Value), (∀ x ∈ l, a + x.o ≠ j) → (setD a l c)[j]? = c[j]?
  | [], c, _ => rfl
  | x :: l, c, h => by
    rw [setD, setD_other a l _ (fun y hy => h y (List.mem_cons_of_mem _ hy)), Array.getElem?_setIfInBounds]
    rw [if_neg (h x (List.mem_cons_self ..))]
/-- a struct in a struct: its Default, then its fields -/
theorem r_sub (ht : TyR P C) {T PT pv k o T' PT' sz df b a n : Nat} {S : Sch} (hfl : S.flatB = true) (hF : fldOff P T k = some o) (hte : S.tyR P C T' sz 0 = true) (hdst : ((S.dst C.toCfg).all fun x => decide (x.o < sz)) = true) (hND : DefRC P C.toCfg sz df S) (hNs : S.NeedR P C) (hon : o + sz ≤ n) {c : Ct} {ver : Int} {Q : Post} {f : Nat → Value} {w : World} {cc : Array Value} {e : TypeId} {R : Rdr} {rs : RS}
    (hf : FrR C R f pv b a ver true c.l) (hm : (S.genR C T' PT' (c.l + 1) ⟨c.l + 2, c.t + 6, c.k⟩).2.l ≤ c.t) (hs : StR C R b a n w cc e rs)
    (h1 : ∀ x rs', S.rd ver true rs = some (x, rs') → ∀ f' w' cc', StR C R b a n w' cc' e rs' → cc'.size = cc.size → (∀ j, (j < a + o ∨ a + o + sz ≤ j) → cc'[j]? = cc[j]?) → Ext (CB R b) w w' → KeepR f f' c.l (S.genR C T' PT' (c.l + 1) ⟨c.l + 2, c.t + 6, c.k⟩).2.l c.t → S.Rep w' (RK R) (segL cc' (a + o) sz) x → Q .normal f' w') :
    (seqL (subR C T PT pv k PT' df c.l c.t ++ (S.genR C T' PT' (c.l + 1) ⟨c.l + 2, c.t + 6, c.k⟩).1)).wp P Q f w := by
  have hn10 := hf.nN
  have hpt := hf.ptrN
  have hfit := hs.fit
  have hmono := genR_mono (C := C) S T' PT' (c.l + 1) ⟨c.l + 2, c.t + 6, c.k⟩
  simp only at hmono
  have zl : ∀ m, (c.l = c.t + m) = False := by intro m; simp; omega
  have zl' : (c.l = c.t) = False := by simp; omega
  refine seqL_append ?_
  refine seqL_cons (wp_reg ?_)
  simp [addrR, hf.ptr, hF, Addr.add_mk]
  show (seqL _).wp P _ _ w
  refine seqL_cons (wp_reg ?_)
  simp [zl, zl']
  refine (hND w b (a + o) cc e hs.blk (by omega)).mono ?_
  rintro v w1 rfl
  generalize hcc1 : setD (a + o) (S.dst C.toCfg) cc = cc1
  have hsz1 : cc1.size = cc.size := by subst hcc1; exact setD_size ..
  have hsame1 : ∀ j, (j < a + o ∨ a + o + sz ≤ j) → cc1[j]? = cc[j]? := by
    intro j hj
    subst hcc1
    refine setD_other _ _ _ (fun x hx he => ?_)
    have := List.all_eq_true.1 hdst x hx
    simp only [decide_eq_true_eq] at this
    omega
  generalize hw1 : w.setBlk b (.cells cc1 e (0, 0)) = w1
  have hE1 : Ext (fun k => k = b) w w1 := by subst hw1; exact (Ext.refl (fun k => k = b) w).setBlk (b := b) (Or.inr rfl) _
  have hb1 : w1.heap[b]? = some (.cells cc1 e (0, 0)) := by subst hw1; exact setBlk_same hs.blk
  have hr1 : RdAt C.E.tRd w1 R.pb R.D rs := RdAt.ext hs.rd hE1 (fun h => hs.rw_.ne.2.2 h) (fun h => hs.rw_.ne.2.1 h.symm)
  have hrw1 : RW C R b w1 := hs.rw_.ext (hE1.mono (fun _ _ h => .inr h))
  show (Ir.reg _).wp P _ _ w1
  refine wp_reg ?_
  simp [zl, zl']
  have up : ∀ z, z < c.t → z ≠ c.l → z ≠ c.l + 1 → ∀ v1 v2 v3 v4 v5 v6 v7 v8, upd (upd (upd (upd (upd (upd (upd (upd f c.t v1) (c.t + 1) v2) (c.t + 2) v3) c.l v4) (c.t + 3) v5) (c.t + 4) v6) (c.t + 5) v7) (c.l + 1) v8 z = f z := by
    intro z hz hz1 hz2 v1 v2 v3 v4 v5 v6 v7 v8
    have a3 : ∀ n, (z = c.t + n) = False := by intro n; simp; omega
    have a4 : (z = c.t) = False := by simp; omega
    simp [a3, a4, hz1, hz2]
  refine soundRF ht S T' PT' (c.l + 1) ⟨c.l + 2, c.t + 6, c.k⟩ Q _ w1 b (a + o) sz 0 cc1 e ver R rs hfl hte hNs ?_ (by simp only; omega) ⟨hb1, by omega, hr1, hrw1⟩ ?_
  · refine ⟨by simp [zl, zl'], ⟨by omega, by simp only; omega⟩, hf.v0, ?_, fun hx => ?_, hf.flN, ?_, ?_, by simp only; omega, ⟨hf.rsN.1, by have := hf.rsN; simp only; omega⟩⟩
    · rw [up 8 (by omega) (by omega) (by omega)]; exact hf.ver
    · rw [up 9 (by omega) (by omega) (by omega)]; exact hf.flg hx
    · rw [up C.rs (by have := hf.rsN; omega) (by have := hf.rsN; omega) (by have := hf.rsN; omega)]; exact hf.rd
    · rw [up 2 (by omega) (by omega) (by omega)]; exact hf.us
  · intro x rs' hx f3 w3 cc3 hto hrep
    refine h1 x rs' hx f3 w3 cc3 ⟨hto.st.blk, by rw [hto.size, hsz1]; exact hfit, hto.st.rd, hto.st.rw_⟩ (hto.size.trans hsz1) (fun j hj => (hto.same j (by omega)).trans (hsame1 j hj)) ((hE1.mono (fun _ _ h => .inr h)).trans hto.ext) ?_ hrep
    intro z hz1 hz
    rw [hto.keep z hz1 (by simp only at hz ⊢; omega)]
    exact up z (by omega) (by omega) (by omega) _ _ _ _ _ _ _ _
end
end Go.Kg

set_option linter.unusedSimpArgs false
set_option linter.unusedVariables false
set_option linter.unusedSectionVars false
namespace Go.Kg
open Go
def Kn.raw (ver : Int) : (c : Kn) → RS → Option (c.T × RS)
  | .prim p _, rs => some (p.rd true rs)
  | .arr _ _ _ _ _ e, rs => arrRd none ver true (e.rd ver true) rs
  | .str _ _ _ _ _ _ e, rs => e.rd ver true rs
def Kn.NeedR (P : Program) (C : CfgR) : Kn → Prop
  | .prim p _ => PrimR P C p
  | .arr _ _ _ sz df e => LenRC P C ∧ EndC P C ∧ DefRC P C.toCfg sz df e ∧ e.NeedR P C
  | .str _ _ sz df _ _ e => DefRC P C.toCfg sz df e ∧ e.NeedR P C
/-- the checks on a known tag's types, for reading -/
def KF.tyR (P : Program) (C : CfgR) (T : Nat) (f : KF) : Bool := match f.c with
  | .str T' _ sz _ _ _ e => fldOff P T f.k == some f.o && e.flatB && e.tyR P C T' sz 0 && ((e.dst C.toCfg).all fun x => decide (x.o < sz))
  | _ => f.sch.tyR P C T (f.o + f.sz) f.o
theorem KF.tyR_rs {P : Program} {C : CfgR} (l : Nat) (T : Nat) (f : KF) : f.tyR P { C with rs := l } T = f.tyR P C T := by
  obtain ⟨num, k, o, c⟩ := f
  cases c with
  | prim p d => exact Go.Kg.tyR_rs l _ _ _ _
  | arr sT T' PT sz df e => exact Go.Kg.tyR_rs l _ _ _ _
  | str T' PT sz df sm mk e => simp only [KF.tyR, Go.Kg.tyR_rs]
def KsNeedR (P : Program) (C : CfgR) : List KF → Prop
  | [] => True
  | f :: l => f.c.NeedR P C ∧ KsNeedR P C l
section
variable {P : Program} {C : CfgR} {R : Rdr} {Q : Post} {f : Nat → Value} {w : World}
/-- a list's length that cannot be read: whatever stands there -/
theorem r_headBad (ht : TyR P C) {T PT pv k o sT l t b a n : Nat} {ver : Int} {fl : Bool} {cc : Array Value} {e : TypeId} {rs : RS} {v : Value} {rest : List Ir} (hF : fldOff P T k = some o) (hk : isScl (kindOf P sT) = true) (hN : LenRC P C) (hE : EndC P C) (hs : StR C R b a n w cc e rs) (hf : FrR C R f pv b a ver fl l) (hlt : l + 3 ≤ t)
    (hon : o < n) (hv : (segL cc a n)[o]? = some v) (hv1 : v.oneCell' = true) (hbad : (lenRd fl rs).2.bad = true) (h0 : ∀ f' w', f' 6 = R.ev → Ext (CB R b) w w' → Q .ret f' w') : (seqL (headR C T PT pv k sT l t none ++ rest)).wp P Q f w := by
  have hn10 := hf.nN
  have hpt := hf.ptrN
  have hrs := hf.rsN
  unfold headR
  simp only [List.append_nil, List.cons_append, List.nil_append, List.append_assoc]
  refine seqL_cons ?_
  refine w_load ht.c (fun h => by cases h) hf.ptr hF (kOk_scl hk) (cellsAt_seg hs.blk) (seg_one hv hv1) (by simpa using hv1) (by omega) (by omega) ?_
  intro f2 w2 hv2 he2 hk2
  have hv2' := loc_slice hv2
  refine seqL_cons (wp_reg ?_)
  have zl : (l = t + 4) = False := by simp; omega
  simp [hv2', zl]
  refine seqL_cons (wp_reg ?_)
  simp
  generalize hf3 : upd (upd (upd f2 (t + 4) v) (l + 1) v) (l + 2) (.int .i32 0) = f3
  have k3 : ∀ y, y < t → (y < l ∨ l + 3 ≤ y) → f3 y = f y := by
    intro y hy hy2
    subst hf3
    have x1 : (y = l + 2) = False := by simp; omega
    have x2 : (y = l + 1) = False := by simp; omega
    have x3 : (y = t + 4) = False := by simp; omega
    simp [x1, x2, x3]
    exact hk2 y hy (by omega)
  have hs2 : StR C R b a n w2 cc e rs := hs.ext1 (he2.mono (fun _ _ h => h.elim)) (hs.rd.ext he2 (fun h => h) (fun h => h))
  refine seqL_cons ?_
  refine r_len (fl := fl) hN hs2 (fun hx => (k3 9 (by omega) (by omega)).trans (hf.flg hx)) hf.flN (by omega) ((k3 C.rs (by omega) (by omega)).trans hf.rd) (by omega) (by omega) ?_
  intro f4 w4 hl4 he4 hr4 hk4
  have hs4 := hs2.ext1 he4 hr4
  have he24 : Ext (CB R b) w w4 := (he2.mono (fun _ _ h => h.elim)).trans (he4.mono (fun _ _ h => .inl h))
  have hlen := lenIN C
  refine seqL_cons ?_
  refine r_ok hE hs4 ((hk4 C.rs (by omega) (by omega)).trans ((k3 C.rs (by omega) (by omega)).trans hf.rd)) (by simp only [nulN]; omega) ?_ ?_
  · intro _ f5 h6
    exact h0 f5 w4 h6 he24
  · intro hb
    rw [hbad] at hb; cases hb
/-- if err := b.Complete(); err != nil {return err} -/
theorem r_err {r l t pb D : Nat} {rs : RS} {ev : Value} (hE : EndC0 P C) (uErr : ∃ ms, P.underlying C.E.tErr = some (.interface ms)) (hev : ∃ t v, ev = .iface t v) (hrd : RdAt C.E.tRd w pb D rs) (herr : w.cell? ⟨C.E.g_kbin_ErrNotEnoughData, 0, none⟩ = some ev) (hr : f r = .pointer (some ⟨pb, 0, none⟩)) (hl : l < t)
    (h0 : rs.bad = true → ∀ f', f' 6 = ev → Q .ret f' w) (h1 : rs.bad = false → ∀ f', (∀ y, y < t → y ≠ l → f' y = f y) → Q .normal f' w) : (seqL (errI C r l t)).wp P Q f w := by
  obtain ⟨ms, hms⟩ := uErr
  obtain ⟨tv, vv, rfl⟩ := hev
  have zl : ∀ n, (l = t + n) = False := by intro n; simp; omega
  have zl' : (l = t) = False := by simp; omega
  unfold errI
  refine seqL_cons (wp_reg ?_)
  simp [hr]
  refine (hE.complete w pb D rs _ hrd (fun _ => herr)).mono ?_
  rintro v w1 ⟨rfl, rfl⟩
  try simp
  show (Ir.seq _ _).wp P _ _ _
  refine wp_seqI (wp_reg ?_)
  cases hb : rs.bad
  · simp [zl, zl', bin_nnil_nil hms]
    refine .inr ⟨by simp, ?_⟩
    show Q .normal _ _
    refine h1 hb _ ?_
    intro y hy hyl
    have x3 : ∀ n, (y = t + n) = False := by intro n; simp; omega
    have x4 : (y = t) = False := by simp; omega
    simp [x3, x4, hyl]
  · simp [zl, zl', bin_nnil_iface hms]
    refine .inl ⟨by simp, ?_⟩
    refine seqL_cons (wp_reg ?_)
    simp [zl, zl']
    show Q .ret _ _
    exact h0 hb _ (by simp)
/-- a known tag's field is read by a reader of its own -/
theorem r_known (ht : TyR P C) {T PT pv : Nat} {kf : KF} (hfx : C.fx = true) {b a n : Nat} (hty : kf.tyR P C T = true) (hon : kf.o + kf.sz ≤ n) (hN : kf.c.NeedR P C) {c : Ct} {ver : Int} {cc : Array Value} {e : TypeId} {rs : RS} {K : Nat → Prop} {v : kf.c.T}
    (hf : FrR C R f pv b a ver true c.l) (hm : (knR C T PT pv kf c).2.l ≤ c.t) (hs : StR C R b a n w cc e rs) (hrep : kf.c.Rep w K (segL cc a n) kf.o v) (hnd : kf.c.rd ver v rs ≠ .dup)
    (h0 : kf.c.rd ver v rs = .err → ∀ f' w', f' 6 = R.ev → Ext (CB R b) w w' → Q .ret f' w')
    (h1 : ∀ y rs', kf.c.raw ver rs = some (y, rs') → kf.c.rd ver v rs = KO.of (some (y, rs')) → ∀ f' w' cc', StR C R b a n w' cc' e rs' → cc'.size = cc.size → (∀ j, (j < a + kf.o ∨ a + kf.o + kf.sz ≤ j) → cc'[j]? = cc[j]?) → Ext (CB R b) w w' → KeepR f f' c.l (knR C T PT pv kf c).2.l c.t → kf.c.Rep w' (RK R) (segL cc' a n) kf.o y → Q .normal f' w') :
    (seqL (knR C T PT pv kf c).1).wp P Q f w := by
  obtain ⟨num, k, o, cn⟩ := kf
  simp only at hrep hnd h0 h1 hN hon v
  have hn10 := hf.nN
  have hpt := hf.ptrN
  have hfit := hs.fit
  cases cn with
  | str T' PT' sz df sm mk e =>
    simp only [KF.tyR, Bool.and_eq_true, beq_iff_eq] at hty
    obtain ⟨⟨⟨hF, hfl⟩, hte⟩, hdst⟩ := hty
    obtain ⟨hND, hNs⟩ := hN
    simp only [KF.sz] at hon h1
    simp only [knR] at hm h1 ⊢
    refine r_sub ht hfl hF hte hdst hND hNs hon hf hm hs ?_
    intro x rs' hx f' w' cc' hst hsz hsame hext hk hr
    refine h1 x rs' hx (by show KO.of (e.rd ver true rs) = _; rw [hx]; rfl) f' w' cc' hst hsz hsame hext hk ?_
    have hfit' := hst.fit
    show (((segL cc' a n).drop o).take sz).length = sz ∧ e.Rep w' (RK R) (((segL cc' a n).drop o).take sz) x
    rw [segL_sub hon]
    refine ⟨?_, hr⟩
    have hl : (segL cc' (a + o) sz).length = sz := by simp only [segL, List.length_take, List.length_drop, Array.length_toList]; omega
    exact hl
  | prim p d =>
    simp only [KF.tyR, KF.sch, Sch.tyR, Bool.and_eq_true, beq_iff_eq, decide_eq_true_eq] at hty
    obtain ⟨⟨⟨⟨⟨hF, hk⟩, _⟩, _⟩, _⟩, _⟩ := hty
    simp only [KF.sz] at hon h1
    simp only [knR] at hm h1 ⊢
    refine seqL_append ?_
    refine r_read ht (kOk_uu hk) hN hs hf (by omega) ?_
    intro f2 w2 u hu hrep2 he2 hr2 hk2
    have hs2 := hs.ext1 he2 hr2
    have hsz := rep1_sz hrep2
    refine seqL_one ?_
    refine r_store ht (o := o) ((hk2 pv (by omega) (by omega)).trans hf.ptr) hF hk hu (rep1_one hrep2) (by omega) (by omega) hs2.blk (by rw [hsz]; omega) ?_
    intro f3 cc3 hput hk3
    have hto := (RdTo.read (lo := o) hs he2 hr2 (KeepR.refl f2 c.l (c.l + 1) c.t)).trans (RdTo.put hs2 hput (Nat.le_refl o) (by rw [hsz]; omega) (l := c.l) (m := c.l + 1) (t := c.t) (fun y hy1 hy => hk3 y (by omega))) (Nat.le_refl _) (Nat.le_refl _) (Nat.le_refl _) (Nat.le_refl _)
    refine h1 (p.rd true rs).1 (p.rd true rs).2 rfl rfl f3 _ cc3 hto.st hput.size (fun j hj => hput.same j (by rw [hsz]; omega)) hto.ext ?_ (FldAt.put hs2 hput (by rw [hsz]; omega) hrep2)
    intro y hy1 hy
    rw [hk3 y (by omega), hk2 y (by omega) (by omega)]
  | arr sT T' PT' sz df es =>
    simp only [KF.tyR, KF.sz] at hon h1 hty
    have hon' : o + 1 ≤ n := hon
    obtain ⟨hNl, hNe, hND, hNs⟩ := hN
    have hty' := hty
    simp only [KF.sch, Sch.tyR, Bool.and_eq_true, beq_iff_eq, decide_eq_true_eq] at hty'
    obtain ⟨⟨⟨⟨⟨⟨⟨⟨⟨hnul, hF⟩, hk⟩, hsli⟩, hel⟩, hok⟩, hte⟩, hlo⟩, hn⟩, _⟩ := hty'
    obtain ⟨v0, ls, hv0, harr, ⟨hsome, _⟩, hlen, _⟩ := hrep
    have hmk : c.l + 6 ≤ (knR C T PT pv ⟨num, k, o, .arr sT T' PT' sz df es⟩ c).2.l := by
      have := genR_mono (C := C) es T' PT' (c.l + 5) ⟨c.l + 6, c.t + headN C none + 11, c.k + 2⟩
      simp only [knR]
      exact this.1
    cases hb : (lenRd true rs).2.bad with
    | true =>
      have herr : Kn.rd ver (.arr sT T' PT' sz df es) v rs = .err := by simp only [Kn.rd, hb, if_true]
      obtain ⟨ad, cp, rfl, _⟩ := harr.form
      simp only [knR]
      rw [List.append_assoc]
      exact r_headBad ht hF hk hNl hNe hs hf (by omega) (by omega) hv0 rfl hb (h0 herr)
    | false =>
      cases hvs : (show Option (List es.T) from v).isSome with
      | true =>
        exfalso
        apply hnd
        simp only [Kn.rd, hb, Bool.false_eq_true, if_false]
        rw [if_pos hvs]
      | false =>
        have hrd : Kn.rd ver (.arr sT T' PT' sz df es) v rs = KO.of (arrRd none ver true (es.rd ver true) rs) := by
          simp only [Kn.rd, hb, Bool.false_eq_true, if_false]
          rw [if_neg (by rw [hvs]; simp)]
          rfl
        have hls : ls = none := by cases ls <;> simp_all
        subst hls
        have hv0' : v0 = .slice none 0 0 := harr
        subst hv0'
        have hchk : Sch.chkD (segL cc a (o + 1)) (KF.sch ⟨num, k, o, .arr sT T' PT' sz df es⟩) = true := by
          have : (segL cc a (o + 1))[o]? = some (.slice none 0 0) := by rw [segL_get (by omega)]; rw [segL_get (by omega)] at hv0; exact hv0
          simp only [KF.sch, Sch.chkD, this, isNilSli, Bool.and_self]
        have hgen := knR_sch C T PT pv ⟨num, k, o, .arr sT T' PT' sz df es⟩ c
        have hS := soundR ht (KF.sch ⟨num, k, o, .arr sT T' PT' sz df es⟩) T PT pv c Q f w b a (o + 1) o cc e ver true R rs hty ⟨hNl, hNe, hND, hNs, trivial⟩ hf (by rw [hgen]; exact hm) ⟨hs.blk, by omega, hs.rd, hs.rw_⟩ hchk
        rw [hgen] at hS
        have hsr : (Sch.rd ver true (KF.sch ⟨num, k, o, .arr sT T' PT' sz df es⟩) rs = none → arrRd none ver true (es.rd ver true) rs = none) ∧ ∀ x rs', Sch.rd ver true (KF.sch ⟨num, k, o, .arr sT T' PT' sz df es⟩) rs = some (x, rs') → ∃ y, arrRd none ver true (es.rd ver true) rs = some (y, rs') ∧ x = (y, ()) := by
          have e1 : Sch.rd ver true (KF.sch ⟨num, k, o, .arr sT T' PT' sz df es⟩) rs = match arrRd none ver true (es.rd ver true) rs with
            | none => none
            | some (a, rs1) => some ((a, ()), rs1) := by
            show Sch.rd ver true (.arrS ⟨none, none⟩ k o sT none T' PT' sz df es .fin) rs = _
            simp only [Sch.rd, Gd.on, if_true]
            cases arrRd none ver true (es.rd ver true) rs <;> rfl
          rw [e1]
          cases arrRd none ver true (es.rd ver true) rs with
          | none => exact ⟨fun _ => rfl, fun x rs' h => (by simp at h)⟩
          | some p =>
            obtain ⟨y, r1⟩ := p
            refine ⟨fun h => (by simp at h), fun x rs' h => ?_⟩
            have h' := Prod.mk.inj (Option.some.inj h)
            exact ⟨y, by rw [h'.2], h'.1.symm⟩
        refine hS ?_ ?_
        · intro hnone f' w' h6 he
          refine h0 ?_ f' w' h6 he
          rw [hrd, hsr.1 hnone]; rfl
        · intro x rs' hx f' w' cc' hto hrep'
          obtain ⟨y, hy, rfl⟩ := hsr.2 x rs' hx
          refine h1 y rs' hy (by rw [hrd, hy]; rfl) f' w' cc' ⟨hto.st.blk, by rw [hto.size]; exact hfit, hto.st.rd, hto.st.rw_⟩ hto.size (fun j hj => hto.same j (by omega)) hto.ext hto.keep ?_
          obtain ⟨v1, ls1, q1, q2, q3, q4, q5⟩ := hrep'.1
          have q1' : (segL cc' a (o + 1))[o]? = some v1 := q1
          rw [segL_get (by omega)] at q1'
          have q1n : (segL cc' a n)[o]? = some v1 := by rw [segL_get (by omega)]; exact q1'
          exact ⟨v1, ls1, q1n, q2, q3, q4, q5⟩
end
end Go.Kg
