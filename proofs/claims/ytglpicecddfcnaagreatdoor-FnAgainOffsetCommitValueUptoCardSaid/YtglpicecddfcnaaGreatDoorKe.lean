/- What is proved here: how the code of the messages runs, in general: a semantics of calls by their texts, and contracts of the functions of kbin and of the reference. No condition but those that each theorem names. -/
import Derived.ProofKit
import Derived.WideKeyArgs
import Derived.ChangeSlices
import Derived.OpenShut
import Derived.RowKit
import Derived.Test.YtglpicecddfcnaaGreatDoorKd
set_option linter.unusedSectionVars false
set_option linter.unusedSimpArgs false
set_option linter.unusedVariables false
set_option linter.unusedSimpArgs false
set_option linter.unusedVariables false
set_option linter.unusedSectionVars false
namespace Go.Kg
open Go
section
variable {P : Program} {C : CfgR}
theorem elemOk_spec {sT : Nat} {S : Sch} {z : Array Value} (h : elemOk P C.toCfg sT S = true) (hz : sliZ P sT = some z) : S.chkD (setD 0 (S.dst C.toCfg) z).toList = true := by
  unfold elemOk at h
  rw [hz] at h
  exact h
/-- the body of a loop over structs -/
theorem r_bodyS (ht : TyR P C) {S : Sch} (ihe : SoundR P C S) {R : Rdr} {sT T' PT' df l t k b a pv ab N cap i sz m : Nat} {av : Value} {ver : Int} {fl : Bool} {et : TypeId} {f' : Nat → Value} {w' : World} {cur : Array Value} {rsi : RS} {z : Array Value} (hte : S.tyR P C T' sz 0 = true) (hNe : S.NeedR P C)
    (hsl : sliSz P sT = some sz) (hD : DefRC P C.toCfg sz df S) (hok : defOk P T' sz (S.dst C.toCfg) = true) (hzs : z.size = sz) (hchk : S.chkD (setD 0 (S.dst C.toCfg) z).toList = true) (hlt : l + 6 ≤ t) (hm : (S.genR C T' PT' (l + 5) ⟨l + 6, t + 6, k⟩).2.l = m) (hmt : m ≤ t) (hi : i < N) (hav : av = .slice (some ⟨ab, 0, none⟩) N cap)
    (hf : FrR C R f' pv b a ver fl l) (h1 : f' (l + 1) = av) (h3 : f' (l + 3) = .int .i32 i) (hst : StR C (rdr' R ab) ab 0 (N * sz) w' cur et rsi) (hzero : segL cur (i * sz) sz = z.toList) (Q' : Post)
    (q0 : S.rd ver fl rsi = none → ∀ f'' w'', f'' 6 = R.ev → Ext (CB R ab) w' w'' → Q' .ret f'' w'')
    (q1 : ∀ y rs'', S.rd ver fl rsi = some (y, rs'') → ∀ f'' w'' cur', StR C (rdr' R ab) ab 0 (N * sz) w'' cur' et rs'' → Ext (CB R ab) w' w'' → (∀ j, (j < i * sz ∨ i * sz + sz ≤ j) → cur'[j]? = cur[j]?) → EltS S w'' (RK (rdr' R ab)) (segL cur' (i * sz) sz) y → KeepR f' f'' (l + 4) m t → Q' .normal f'' w'') :
    (seqL (elemR C sT PT' df l t ++ (S.genR C T' PT' (l + 5) ⟨l + 6, t + 6, k⟩).1)).wp P Q' f' w' := by
  have hml := (genR_mono (C := C) S T' PT' (l + 5) ⟨l + 6, t + 6, k⟩).1
  rw [hm] at hml
  simp only at hml
  refine seqL_append ?_
  refine r_elem hsl hD hok hzs hi hav hf h1 h3 hlt hst hzero ?_
  intro f2 w2 cur2 hf2 hst2 hsz2 he2 hsame2 hseg2 hk2
  have hfit := hst.fit
  refine ihe T' PT' (l + 5) ⟨l + 6, t + 6, k⟩ Q' f2 w2 ab (i * sz) sz 0 cur2 et ver fl (rdr' R ab) rsi hte hNe hf2 (by rw [hm]; simp only; omega) hst2 (by rw [hseg2]; exact hchk) ?_ ?_
  · intro hnone f3 w3 h6 he3
    exact q0 hnone f3 w3 h6 (he2.trans he3)
  · intro y rs'' hy f3 w3 cur3 hto hrep
    refine q1 y rs'' hy f3 w3 cur3 ?_ (he2.trans hto.ext) ?_ hrep ?_
    · exact ⟨hto.st.blk, by rw [hto.size, hsz2]; exact hfit, hto.st.rd, hto.st.rw_⟩
    · intro j hj
      rw [hto.same j (by omega)]
      exact hsame2 j hj
    · intro y hy1 hy
      have h4 := hto.keep y hy1
      rw [hm] at h4
      simp only at h4
      rw [h4 (by omega), hk2 y (by omega) (by omega)]
theorem soundR_arrS (ht : TyR P C) (g : Gd) (k o sT : Nat) (nul : Option Nat) (T' PT' sz df : Nat) (S rest : Sch) (ihe : SoundR P C S) (ih : SoundR P C rest) : SoundR P C (.arrS g k o sT nul T' PT' sz df S rest) := by
  intro T PT pv c Q f w b a n lo cc e ver fl R rs hty hN hf hc hs hd h0 h1
  simp only [Sch.tyR, Bool.and_eq_true, beq_iff_eq, decide_eq_true_eq] at hty
  obtain ⟨⟨⟨⟨⟨⟨⟨⟨⟨hnul, hF⟩, hk⟩, hsli⟩, hel⟩, hok⟩, hte⟩, hlo⟩, hn⟩, htr⟩ := hty
  obtain ⟨hsz, z, hz, hzs⟩ := sliOk_spec hsli
  have hchk := elemOk_spec hel hz
  obtain ⟨hNl, hNe, hND, hNs, hNr⟩ := hN
  simp only [Sch.chkD, Bool.and_eq_true] at hd
  have hnil := isNilSli_spec hd.1
  have hn10 := hf.nN
  have hpt := hf.ptrN
  have hhead : headN C nul = 5 + lenIN C + nulN nul + 10 := rfl
  simp only [Sch.genR] at hc h1 ⊢
  generalize ht1 : c.t + gdN g + headN C nul = t1 at hc h1 ⊢
  have hme := genR_mono (C := C) S T' PT' (c.l + 5) ⟨c.l + 6, t1 + 5 + 6, c.k + 2⟩
  have e11 : t1 + 11 = t1 + 5 + 6 := by omega
  rw [e11] at hc h1 ⊢
  generalize hz1 : S.genR C T' PT' (c.l + 5) ⟨c.l + 6, t1 + 5 + 6, c.k + 2⟩ = zz at hc h1 hme ⊢
  obtain ⟨eb, c1⟩ := zz
  simp only at hc h1 hme ⊢
  have hm := (genR_mono (C := C) rest T PT pv ⟨c1.l, c1.t + 5, c1.k⟩).1
  simp only at hm
  have behind : ∀ (f1 : Nat → Value) (w1 : World) (cc1 : Array Value) (rs1 : RS) (A : Option (List S.T)),
      (Sch.rd ver fl (.arrS g k o sT nul T' PT' sz df S rest) rs = (rest.rd ver fl rs1).map fun y => ((A, y.1), y.2)) →
      RdTo C R b a n lo w cc e f c.l c1.l c.t rs1 f1 w1 cc1 → (∀ j, (j < a + lo ∨ a + o + 1 ≤ j) → cc1[j]? = cc[j]?) → ArrFld (EltS S) w1 (RK R) sz (segL cc1 a n) o A →
      (seqL (rest.genR C T PT pv ⟨c1.l, c1.t + 5, c1.k⟩).1).wp P Q f1 w1 := by
    intro f1 w1 cc1 rs1 A hrd hto hsame hfld
    have hd1 : rest.chkD (segL cc1 a n) = true := by
      refine chkD_congr rest htr (fun j hj1 hj2 => ?_) hd.2
      rw [segL_get hj2, segL_get hj2]
      exact hsame _ (by omega)
    refine ih T PT pv _ Q f1 w1 b a n (o + 1) cc1 e ver fl R rs1 htr hNr ((hf.keep hto.keep.keeps (Nat.le_refl _)).up (by simp only; omega)) (by simp only; omega) hto.st hd1 ?_ ?_
    · intro hnone f2 w2 h6 he2
      exact h0 (by rw [hrd, hnone]; rfl) f2 w2 h6 (hto.ext.trans he2)
    · intro y rs2 hy f2 w2 cc2 hto2 hrep2
      refine h1 (A, y) rs2 (by rw [hrd, hy]; rfl) f2 w2 cc2 (hto.trans hto2 (by omega) (by simp only; omega) hm (by simp only; omega)) ⟨?_, hrep2⟩
      exact hfld.move (EltS.ext S) hto2.ext hto.st.rw_.keepK (by rw [segL_get (by omega), segL_get (by omega)]; exact hto2.same _ (.inl (by omega)))
  refine seqL_cons ?_
  refine w_guard ht.c (show f 8 = _ from hf.ver) (show 8 < c.t by omega) (by omega) ?_ ?_
  · intro hon f1 hk1 h11
    have hf1 := hf.keep hk1 (by omega)
    rw [← ht1]
    refine r_list ht hnul (S.rd ver fl) (EltS S) (EltS.ext S) (EltS.mono S) (lo := lo) (m := c1.l) (ver := ver) (fl := fl) (sz := sz) hF hk hsz hz hzs hNl hNe hs hf1 (by omega) (by omega) (by omega) hn hlo hnil ?_ ?_ ?_
    · intro ab N cap et i av f' w' cur rsi hbase hi hav hf' hav' h3 hst hzero Q' q0 q1
      rw [ht1]
      have hb := r_bodyS ht ihe (k := c.k + 2) (t := t1 + 5) (m := c1.l) (cap := cap) (PT' := PT') hte hNs hsz hND hok hzs hchk (by omega) (by rw [hz1]) (by omega) hi hav hf' hav' h3 hst hzero Q' q0 (fun y rs'' hy f'' w'' cur' a1 a2 a3 a4 a5 => q1 y rs'' hy f'' w'' cur' a1 a2 a3 a4 (by rw [ht1]; exact a5))
      rw [hz1] at hb
      exact hb
    · intro hnone f' w' h6 he
      refine h0 ?_ f' w' h6 he
      simp only [Sch.rd, if_pos hon, hnone]
    · intro A rs' hA f' w' cc' av ls hto hsame hav harr hsome hlen helt
      refine behind f' w' cc' rs' A ?_ ?_ hsame ⟨av, ls, hav, harr, hsome, hlen, helt⟩
      · simp only [Sch.rd, if_pos hon, hA]; rfl
      · exact (RdTo.refl (m := c1.l) hs (KeepR.of hk1 (by omega))).trans { hto with keep := fun y h1 hy => hto.keep y h1 (by omega) } (Nat.le_refl _) (Nat.le_refl _) (Nat.le_refl _) (Nat.le_refl c.t)
  · intro hoff f1 hk1 h11
    refine behind f1 w cc rs none ?_ (RdTo.refl hs (KeepR.of hk1 (by omega))) (fun _ _ => rfl) ⟨_, none, hnil, rfl, ⟨rfl, InHeap.nil _⟩, rfl, by simp⟩
    simp only [Sch.rd, hoff, Bool.false_eq_true, if_false]; rfl
theorem segL_sub {c : Array Value} {a n o sz : Nat} (h : o + sz ≤ n) : ((segL c a n).drop o).take sz = segL c (a + o) sz := by
  apply List.ext_getElem?
  intro j
  by_cases hj : j < sz
  · rw [List.getElem?_take, if_pos hj, List.getElem?_drop, segL_get (by omega), segL_get hj, Nat.add_assoc]
  · rw [segL_none (by omega), List.getElem?_take, if_neg hj]
theorem setBlk_self {w : World} {b : Nat} {x : Obj} (h : w.heap[b]? = some x) : w.setBlk b x = w := by
  simp only [World.setBlk]
  have : w.heap.setIfInBounds b x = w.heap := by
    apply Array.ext_getElem?
    intro k
    rw [Array.getElem?_setIfInBounds]
    split
    · rename_i h'; subst h'
      rw [h, if_pos (lt_of_heap h)]
    · rfl
  rw [this]
theorem soundR_sub (ht : TyR P C) (g : Gd) (k o T' PT' sz df : Nat) (S rest : Sch) (ihe : SoundR P C S) (ih : SoundR P C rest) : SoundR P C (.sub g k o T' PT' sz df S rest) := by
  intro T PT pv c Q f w b a n lo cc e ver fl R rs hty hN hf hc hs hd h0 h1
  simp only [Sch.tyR, Bool.and_eq_true, beq_iff_eq, decide_eq_true_eq] at hty
  obtain ⟨⟨⟨⟨⟨hF, hemp⟩, hte⟩, hlo⟩, hn⟩, htr⟩ := hty
  have hemp' : S.dst C.toCfg = [] := List.isEmpty_iff.1 hemp
  obtain ⟨hND, hNs, hNr⟩ := hN
  simp only [Sch.chkD, Bool.and_eq_true] at hd
  have hde := hd.1
  rw [segL_sub hn] at hde
  have hn10 := hf.nN
  have hpt := hf.ptrN
  have hfit := hs.fit
  simp only [Sch.genR] at hc h1 ⊢
  generalize ht1 : c.t + gdN g = t1 at hc h1 ⊢
  have hme := genR_mono (C := C) S T' PT' (c.l + 1) ⟨c.l + 2, t1 + 6, c.k⟩
  have hse : ∀ Q f w b a n lo cc e ver fl R rs, _ := fun Q f w b a n lo cc e ver fl R rs => ihe T' PT' (c.l + 1) ⟨c.l + 2, t1 + 6, c.k⟩ Q f w b a n lo cc e ver fl R rs
  generalize hz1 : S.genR C T' PT' (c.l + 1) ⟨c.l + 2, t1 + 6, c.k⟩ = zz at hc h1 hme hse ⊢
  obtain ⟨eb, c1⟩ := zz
  simp only at hc h1 hme hse ⊢
  have hm := (genR_mono (C := C) rest T PT pv c1).1
  have behind : ∀ (f1 : Nat → Value) (w1 : World) (cc1 : Array Value) (rs1 : RS) (A : S.T),
      (Sch.rd ver fl (.sub g k o T' PT' sz df S rest) rs = (rest.rd ver fl rs1).map fun y => ((A, y.1), y.2)) →
      RdTo C R b a n lo w cc e f c.l c1.l c.t rs1 f1 w1 cc1 → (∀ j, (j < a + lo ∨ a + o + sz ≤ j) → cc1[j]? = cc[j]?) → (fun w1 (cc1 : Array Value) (A : S.T) => S.Rep w1 (RK R) (segL cc1 (a + o) sz) A) w1 cc1 A →
      (seqL (rest.genR C T PT pv c1).1).wp P Q f1 w1 := by
    intro f1 w1 cc1 rs1 A hrd hto hsame hfld
    have hd1 : rest.chkD (segL cc1 a n) = true := by
      refine chkD_congr rest htr (fun j hj1 hj2 => ?_) hd.2
      rw [segL_get hj2, segL_get hj2]
      exact hsame _ (by omega)
    refine ih T PT pv _ Q f1 w1 b a n (o + sz) cc1 e ver fl R rs1 htr hNr ((hf.keep hto.keep.keeps (Nat.le_refl _)).up (by omega)) (by omega) hto.st hd1 ?_ ?_
    · intro hnone f2 w2 h6 he2
      exact h0 (by rw [hrd, hnone]; rfl) f2 w2 h6 (hto.ext.trans he2)
    · intro y rs2 hy f2 w2 cc2 hto2 hrep2
      refine h1 (A, y) rs2 (by rw [hrd, hy]; rfl) f2 w2 cc2 (hto.trans hto2 (by omega) (by omega) hm (by omega)) ⟨?_, hrep2⟩
      rw [segL_sub hn, segL_eq (c := cc1) (fun j hj1 hj2 => hto2.same j (by omega))]
      exact Sch.Rep_ext hto2.ext hto.st.rw_.keepK S hfld
  refine seqL_cons ?_
  refine w_guard ht.c (show f 8 = _ from hf.ver) (show 8 < c.t by omega) (by omega) ?_ ?_
  · intro hon f1 hk1 h11
    have hf1 := hf.keep hk1 (by omega)
    have zl : ∀ m, (c.l = t1 + m) = False := by intro m; simp; omega
    have zl' : (c.l = t1) = False := by simp; omega
    refine seqL_append ?_
    refine seqL_cons (wp_reg ?_)
    simp [addrR, hf1.ptr, hF, Addr.add_mk]
    show (seqL _).wp P _ _ w
    refine seqL_cons (wp_reg ?_)
    simp [zl, zl']
    refine (hND w b (a + o) cc e hs.blk (by omega)).mono ?_
    rintro v w1 rfl
    rw [hemp']
    simp only [setD]
    rw [setBlk_self hs.blk]
    show (Ir.reg _).wp P _ _ _
    refine wp_reg ?_
    simp [zl, zl']
    have up : ∀ z, z < t1 → z ≠ c.l → z ≠ c.l + 1 → ∀ v1 v2 v3 v4 v5 v6 v7 v8, upd (upd (upd (upd (upd (upd (upd (upd f1 t1 v1) (t1 + 1) v2) (t1 + 2) v3) c.l v4) (t1 + 3) v5) (t1 + 4) v6) (t1 + 5) v7) (c.l + 1) v8 z = f1 z := by
      intro z hz hz1 hz2 v1 v2 v3 v4 v5 v6 v7 v8
      have a3 : ∀ n, (z = t1 + n) = False := by intro n; simp; omega
      have a4 : (z = t1) = False := by simp; omega
      simp [a3, a4, hz1, hz2]
    refine hse _ _ w b (a + o) sz 0 cc e ver fl R rs hte hNs ?_ (by omega) ⟨hs.blk, by omega, hs.rd, hs.rw_⟩ hde ?_ ?_
    · refine ⟨by simp [zl, zl'], ⟨by omega, by omega⟩, hf1.v0, ?_, fun hx => ?_, hf1.flN, ?_, ?_, by omega, ⟨hf1.rsN.1, by have := hf1.rsN; omega⟩⟩
      · rw [up 8 (by omega) (by omega) (by omega)]; exact hf1.ver
      · rw [up 9 (by omega) (by omega) (by omega)]; exact hf1.flg hx
      · rw [up C.rs (by have := hf1.rsN; omega) (by have := hf1.rsN; omega) (by have := hf1.rsN; omega)]; exact hf1.rd
      · rw [up 2 (by omega) (by omega) (by omega)]; exact hf1.us
    · intro hnone f3 w3 h6 he3
      exact h0 (by simp only [Sch.rd, if_pos hon, hnone]) f3 w3 h6 he3
    · intro x rs1 hx f3 w3 cc3 hto hrep
      refine behind f3 w3 cc3 rs1 x ?_ ?_ (fun j hj => hto.same j (by omega)) hrep
      · simp only [Sch.rd, if_pos hon, hx]; rfl
      · refine ⟨hto.ext, ⟨hto.st.blk, by rw [hto.size]; exact hfit, hto.st.rd, hto.st.rw_⟩, hto.size, fun j hj => hto.same j (by omega), ?_⟩
        intro z hz1 hz
        rw [hto.keep z hz1 (by omega), up z (by omega) (by omega) (by omega)]
        exact hk1 z (by omega) hz1
  · intro hoff f1 hk1 h11
    refine behind f1 w cc rs S.dfl ?_ (RdTo.refl hs (KeepR.of hk1 (by omega))) (fun _ _ => rfl) (Sch.repD S hde)
    simp only [Sch.rd, hoff, Bool.false_eq_true, if_false]; rfl
/-- A pointer's field stands in a struct's cells. -/
def OptFld (S : Sch) (R : Rdr) (a n o sz : Nat) (w : World) (cc : Array Value) (A : Option S.T) : Prop :=
  ∃ v, (segL cc a n)[o]? = some v ∧ (A = none → v = .pointer none) ∧ ∀ x, A = some x → ∃ b c es, v = .pointer (some ⟨b, c, none⟩) ∧ RK R b ∧ b < w.heap.size ∧ es.length = sz ∧ CellsAt w b c es ∧ S.Rep w (RK R) es x
theorem optOk_spec {T sz : Nat} {S : Sch} (h : optOk P C.toCfg T sz S = true) : ∃ v, zeroOf P T = some v ∧ v.cells.size = sz ∧ S.chkD (setD 0 (S.dst C.toCfg) v.cells).toList = true := by
  unfold optOk at h
  split at h
  · rename_i v hv
    simp only [Bool.and_eq_true, beq_iff_eq] at h
    exact ⟨v, hv, h.1, h.2⟩
  · cases h
theorem soundR_opt (ht : TyR P C) (g : Gd) (k o T' PT' PP sz df : Nat) (S rest : Sch) (ihe : SoundR P C S) (ih : SoundR P C rest) : SoundR P C (.opt g k o T' PT' PP sz df S rest) := by
  intro T PT pv c Q f w b a n lo cc e ver fl R rs hty hN hf hc hs hd h0 h1
  simp only [Sch.tyR, Bool.and_eq_true, beq_iff_eq, decide_eq_true_eq] at hty
  obtain ⟨⟨⟨⟨⟨⟨⟨⟨hF, hk⟩, hk8⟩, hopt⟩, hok⟩, hte⟩, hlo⟩, hn⟩, htr⟩ := hty
  obtain ⟨zv, hzv, hzs, hchk⟩ := optOk_spec hopt
  obtain ⟨hN8, hNe, hND, hNs, hNr⟩ := hN
  simp only [Sch.chkD, Bool.and_eq_true] at hd
  have hnil := isNilPtr_spec hd.1
  have hn10 := hf.nN
  have hpt := hf.ptrN
  have hfit := hs.fit
  simp only [Sch.genR] at hc h1 ⊢
  generalize ht1 : c.t + gdN g = t1 at hc h1 ⊢
  have hme := genR_mono (C := C) S T' PT' (c.l + 2) ⟨c.l + 3, t1 + 17, c.k⟩
  have hse : ∀ Q f w b a n lo cc e ver fl R rs, _ := fun Q f w b a n lo cc e ver fl R rs => ihe T' PT' (c.l + 2) ⟨c.l + 3, t1 + 17, c.k⟩ Q f w b a n lo cc e ver fl R rs
  generalize hz1 : S.genR C T' PT' (c.l + 2) ⟨c.l + 3, t1 + 17, c.k⟩ = zz at hc h1 hme hse ⊢
  obtain ⟨eb, c1⟩ := zz
  simp only at hc h1 hme hse ⊢
  have hm := (genR_mono (C := C) rest T PT pv c1).1
  have behind : ∀ (f1 : Nat → Value) (w1 : World) (cc1 : Array Value) (rs1 : RS) (A : Option S.T),
      (Sch.rd ver fl (.opt g k o T' PT' PP sz df S rest) rs = (rest.rd ver fl rs1).map fun y => ((A, y.1), y.2)) →
      RdTo C R b a n lo w cc e f c.l c1.l c.t rs1 f1 w1 cc1 → (∀ j, (j < a + lo ∨ a + o + 1 ≤ j) → cc1[j]? = cc[j]?) → OptFld S R a n o sz w1 cc1 A →
      (seqL (rest.genR C T PT pv c1).1).wp P Q f1 w1 := by
    intro f1 w1 cc1 rs1 A hrd hto hsame hfld
    have hd1 : rest.chkD (segL cc1 a n) = true := by
      refine chkD_congr rest htr (fun j hj1 hj2 => ?_) hd.2
      rw [segL_get hj2, segL_get hj2]
      exact hsame _ (by omega)
    refine ih T PT pv _ Q f1 w1 b a n (o + 1) cc1 e ver fl R rs1 htr hNr ((hf.keep hto.keep.keeps (Nat.le_refl _)).up (by omega)) (by omega) hto.st hd1 ?_ ?_
    · intro hnone f2 w2 h6 he2
      exact h0 (by rw [hrd, hnone]; rfl) f2 w2 h6 (hto.ext.trans he2)
    · intro y rs2 hy f2 w2 cc2 hto2 hrep2
      refine h1 (A, y) rs2 (by rw [hrd, hy]; rfl) f2 w2 cc2 (hto.trans hto2 (by omega) (by omega) hm (by omega)) ⟨?_, hrep2⟩
      obtain ⟨v, q1, q2, q3⟩ := hfld
      refine ⟨v, ?_, q2, fun x hx => ?_⟩
      · rw [← q1, segL_get (by omega), segL_get (by omega)]
        exact hto2.same _ (.inl (by omega))
      · obtain ⟨b', c', es, p1, p2, p3, p4, p5, p6⟩ := q3 x hx
        exact ⟨b', c', es, p1, p2, Nat.lt_of_lt_of_le p3 hto2.ext.size, p4, CellsAt.ext hto2.ext hto.st.rw_.keepK p5 p2, Sch.Rep_ext hto2.ext hto.st.rw_.keepK S p6⟩
  refine seqL_cons ?_
  refine w_guard ht.c (show f 8 = _ from hf.ver) (show 8 < c.t by omega) (by omega) ?_ ?_
  · intro hon f1 hk1 h11
    have hf1 := hf.keep hk1 (by omega)
    have hD : R.D < w.heap.size := Nat.lt_of_lt_of_le hs.rw_.lt.2.2.1 hs.rw_.lt.2.2.2
    refine seqL_cons ?_
    have hcall := hN8 false (by simp) w R.pb R.D rs hs.rw_.ne.1 hD hs.rd
    refine r_call ht (fun h => by cases h) (x := (Prim.i8.rd false rs).1) (rs' := (Prim.i8.rd false rs).2) hs hf1.rd (by omega) (by omega) hcall ?_
    intro f2 w2 u hu hrep he2 hr2 hk2
    have hs2 := hs.ext1 he2 hr2
    have hul : f2 c.l = .int .i8 (show Int from (Prim.i8.rd false rs).1) := by
      have h1 : f2 c.l = u := by simpa [LocVal] using hu
      have h2 : u = .int .i8 (Prim.i8.rd false rs).1 := hrep
      rw [h1, h2]
    have hf2 : FrR C R f2 pv b a ver fl c.l := hf1.keep (t := c.l) (fun y hy hy1 => hk2 y (by omega) (by omega)) (Nat.le_refl _)
    have zl : ∀ m, (c.l = t1 + m) = False := by intro m; simp; omega
    have zl' : (c.l = t1) = False := by simp; omega
    have hrs := hf1.rsN
    have z7 : ∀ m, (C.rs = t1 + m) = False := by intro m; simp; omega
    have z71 : ∀ m, (C.rs = t1 + 1 + m) = False := by intro m; simp; omega
    have z7' : (C.rs = t1 + 1) = False := by simp; omega
    have absent : ∀ f' : Nat → Value, (∀ y, y < t1 → y ≠ c.l → f' y = f1 y) → optRd (S.rd ver fl) rs = some (none, (Prim.i8.rd false rs).2) → (seqL (rest.genR C T PT pv c1).1).wp P Q f' w2 := by
      intro f' hk' hrd
      refine behind f' w2 cc (Prim.i8.rd false rs).2 none ?_ ?_ (fun _ _ => rfl) ⟨_, hnil, fun _ => rfl, fun x hx => by cases hx⟩
      · simp only [Sch.rd, if_pos hon, hrd]; rfl
      · refine RdTo.read hs he2 hr2 (fun z hz1 hz => ?_)
        rw [hk' z (by omega) (by omega)]; exact hk1 z (by omega) hz1
    show (presI C c.l (t1 + 1) _).wp P _ f2 w2
    refine wp_seqI (wp_reg ?_)
    generalize hnn : (show Int from (Prim.i8.rd false rs).1) = nn at *
    have upA : ∀ y, y < t1 → y ≠ c.l → ∀ v1 v2 v3 v5, upd (upd (upd (upd f2 (t1 + 1) v1) (t1 + 1 + 1) v2) (t1 + 1 + 2) v3) (t1 + 1 + 4) v5 y = f1 y := by
      intro y hy hy1 v1 v2 v3 v5
      have a3 : ∀ n, (y = t1 + n) = False := by intro n; simp; omega
      have a4 : ∀ n, (y = t1 + 1 + n) = False := by intro n; simp; omega
      simp [a3, a4]
      exact hk2 y hy hy1
    have upB : ∀ y, y < t1 → y ≠ c.l → ∀ v1 v2 v3 v4 v5, upd (upd (upd (upd (upd f2 (t1 + 1) v1) (t1 + 1 + 1) v2) (t1 + 1 + 2) v3) (t1 + 1 + 3) v4) (t1 + 1 + 4) v5 y = f1 y := by
      intro y hy hy1 v1 v2 v3 v4 v5
      have a3 : ∀ n, (y = t1 + n) = False := by intro n; simp; omega
      have a4 : ∀ n, (y = t1 + 1 + n) = False := by intro n; simp; omega
      simp [a3, a4]
      exact hk2 y hy hy1
    by_cases hm1 : nn = -1
    · subst hm1
      simp [hul, zl, zl', bin?]
      refine .inr ⟨by simp, absent _ (fun y hy hy1 => ?_) ?_⟩
      · first | exact upA y hy hy1 _ _ _ _ | exact upB y hy hy1 _ _ _ _ _
      · unfold optRd
        have hnn' : (Prim.i8.rd false rs).1 = (show Int from -1) := hnn
        split
        · rfl
        · first | rfl | rw [if_pos hnn']
    · have hr7 : f2 C.rs = .pointer (some ⟨R.pb, 0, none⟩) := hf2.rd
      simp [hul, zl, zl', z7, z71, z7', bin?, hm1, hr7]
      refine (hNe.ok w2 R.pb R.D _ hr2).mono ?_
      rintro v w3 ⟨rfl, hw3⟩
      have hw3' := hw3.symm
      subst hw3'
      cases hb : (Prim.i8.rd false rs).2.bad
      · refine .inl ⟨by simp, ?_⟩
        generalize hf3 : upd (upd (upd (upd (upd f2 (t1 + 1) _) (t1 + 1 + 1) _) (t1 + 1 + 2) _) (t1 + 1 + 3) _) (t1 + 1 + 4) _ = f3
        have k3 : ∀ y, y < t1 → y ≠ c.l → f3 y = f1 y := fun y hy hy1 => by subst hf3; exact upB y hy hy1 _ _ _ _ _
        have p3 : f3 pv = .pointer (some ⟨b, a, none⟩) := (k3 pv (by omega) (by omega)).trans hf1.ptr
        refine seqL_append ?_
        have hb1 := hs.rw_.lt
        have hg : C.E.g_kbin_ErrNotEnoughData < w.heap.size := World.block_lt_of_cell? w _ hs.rw_.err
        have hsz2 := he2.size
        have zp : ∀ m, (pv = t1 + m) = False := by intro m; simp; omega
        have zp1 : ∀ m, (pv = c.l + m) = False := by intro m; simp; omega
        have zp6 : ∀ m, (pv = t1 + 6 + m) = False := by intro m; simp; omega
        have zl16 : ∀ m, (c.l + 1 = t1 + 6 + m) = False := by intro m; simp; omega
        have zl26 : ∀ m, (c.l + 2 = t1 + 6 + m) = False := by intro m; simp; omega
        have zp' : (pv = t1 + 6) = False := by simp; omega
        have zl1 : ∀ m, (c.l + 1 = t1 + m) = False := by intro m; simp; omega
        have zl2 : ∀ m, (c.l + 2 = t1 + m) = False := by intro m; simp; omega
        have hEA : Ext none1 w2 (w2.alloc (.cells zv.cells T')) := (Ext.refl none1 w2).alloc _
        have hbA : (w2.alloc (.cells zv.cells T')).heap[b]? = some (.cells cc e (0, 0)) := hEA.old hs2.blk (fun h => h)
        have haA : (w2.alloc (.cells zv.cells T')).heap[w2.heap.size]? = some (.cells zv.cells T' (0, 0)) := alloc_new
        refine seqL_cons (wp_reg ?_)
        simp [p3, zp, zp6, zp', hzv, hF, Addr.add_mk, store_scl (isScl_spec hk), Value.oneCell', put1K_blk hbA]
        refine ⟨by omega, ?_⟩
        generalize hab : w2.heap.size = ab at *
        generalize hccB : cc.setIfInBounds (a + o) (.pointer (some ⟨ab, 0, none⟩)) = ccB
        have hszB : ccB.size = cc.size := by subst hccB; simp
        generalize hwB : (w2.alloc (.cells zv.cells T')).setBlk b (.cells ccB e (0, 0)) = wB
        have hnab : b ≠ ab := by omega
        have hbB : wB.heap[b]? = some (.cells ccB e (0, 0)) := by subst hwB; exact setBlk_same hbA
        have hEA' : Ext (fun x => x = b) w2 (w2.alloc (.cells zv.cells T')) := hEA.mono (fun _ _ h => h.elim)
        have hEB : Ext (fun x => x = b) w2 wB := by subst hwB; exact hEA'.setBlk (b := b) (Or.inr rfl) _
        have haB : wB.heap[ab]? = some (.cells zv.cells T' (0, 0)) := by
          subst hwB
          exact ((Ext.refl (fun x => x = b) (w2.alloc (.cells zv.cells T'))).setBlk (b := b) (Or.inr rfl) _).old haA (fun h => hnab h.symm)
        have cB : wB.cell? ⟨b, a + o, none⟩ = some (.pointer (some ⟨ab, 0, none⟩)) := by
          rw [cell_of_blk hbB, ← hccB]
          simp [Array.getElem?_setIfInBounds]; omega
        show (seqL _).wp P _ _ wB
        refine seqL_cons (wp_reg ?_)
        simp [addrR, p3, zp, zp1, zp6, zp', hF, Addr.add_mk, ld_scl (isScl_spec hk), cB]
        show (seqL _).wp P _ _ wB
        refine seqL_cons (wp_reg ?_)
        simp [zl1, zl16]
        refine (hND wB ab 0 zv.cells T' haB (by omega)).mono ?_
        rintro v w3 rfl
        generalize hcur : setD 0 (S.dst C.toCfg) zv.cells = cur
        have hcurs : cur.size = sz := by subst hcur; rw [setD_size]; exact hzs
        have hchk' : S.chkD cur.toList = true := by subst hcur; exact hchk
        generalize hwC : wB.setBlk ab (.cells cur T' (0, 0)) = wC
        have haC : wC.heap[ab]? = some (.cells cur T' (0, 0)) := by subst hwC; exact setBlk_same haB
        have hEC : Ext (fun x => x = ab) wB wC := by subst hwC; exact (Ext.refl (fun x => x = ab) wB).setBlk (b := ab) (Or.inr rfl) _
        have hbC : wC.heap[b]? = some (.cells ccB e (0, 0)) := hEC.old hbB hnab
        have hE2C : Ext (fun x => x = b) w2 wC := hEB.trans' hEC (fun x hx hx2 => by rw [hab] at hx; omega)
        show (Ir.reg _).wp P _ _ wC
        refine wp_reg ?_
        simp [zl1, zl2, zl16, zl26]
        have hseg : segL cur 0 sz = cur.toList := by rw [← hcurs]; simp only [segL, List.drop_zero]; exact List.take_of_length_le (by simp)
        have hrC : RdAt C.E.tRd wC R.pb R.D (Prim.i8.rd false rs).2 := hr2.ext hE2C (fun h => hs.rw_.ne.2.2 h) (fun h => hs.rw_.ne.2.1 h.symm)
        have hstC : StR C (rdr' R ab) ab 0 sz wC cur T' (Prim.i8.rd false rs).2 := by
          refine ⟨haC, by omega, hrC, ⟨⟨?_, ?_, ?_, ?_⟩, ⟨hs.rw_.ne.1, ?_, ?_⟩, ?_, ⟨hs.rw_.errN.1, ?_⟩⟩⟩
          · show R.pb < ab + 1; omega
          · show ab < ab + 1; omega
          · show R.D < ab + 1; omega
          · exact lt_of_heap haC
          · show ab ≠ R.D; omega
          · show R.pb ≠ ab; omega
          · exact hE2C.cell hs2.rw_.err (fun h => hs.rw_.errN.2 h)
          · omega
        have tot : ∀ w', Ext (CB R ab) wC w' → Ext (CB R b) w w' := by
          intro w' h
          have h02 : Ext (CB R b) w wC := (he2.mono (fun _ _ h => .inl h)).trans (hE2C.mono (fun _ _ h => .inr h))
          exact h02.trans' (E := CB R b) h (fun x hx hc => by
            rcases hc with h | h
            · exact .inl h
            · omega) (fun x hx hc => hc)
        suffices H : ∀ F : Nat → Value, F (c.l + 2) = .pointer (some ⟨ab, 0, none⟩) → (∀ z, z < t1 → z ≠ c.l + 1 → z ≠ c.l + 2 → F z = f3 z) → (seqL eb).wp P (thenF ((seqL (Sch.genR C T PT pv rest c1).1).wp P Q) Q) F wC by
          refine H _ ?_ ?_
          · simp [zl1, zl2, zl16, zl26, zl]
          · intro z hz1 hz2 hz3
            have a3 : ∀ n, (z = t1 + n) = False := by intro n; simp; omega
            have a6 : ∀ n, (z = t1 + 6 + n) = False := by intro n; simp; omega
            have a6' : (z = t1 + 6) = False := by simp; omega
            have a7 : ∀ n, (z = t1 + 6 + 4 + n) = False := by intro n; simp; omega
            simp [a3, a6, a6', a7, hz2, hz3]
        intro F hF2 hFk
        refine hse _ _ wC ab 0 sz 0 cur T' ver fl (rdr' R ab) (Prim.i8.rd false rs).2 hte hNs ?_ (by omega) hstC (by rw [hseg]; exact hchk') ?_ ?_
        · have lo : ∀ y, y < c.l → F y = f3 y := fun y hy => hFk y (by omega) (by omega) (by omega)
          refine ⟨hF2, ⟨by omega, by omega⟩, hf1.v0, ?_, fun hx => ?_, hf1.flN, ?_, ?_, by omega, ⟨hf1.rsN.1, by have := hf1.rsN; omega⟩⟩
          · rw [lo 8 (by omega), k3 8 (by omega) (by omega)]; exact hf1.ver
          · rw [lo 9 (by omega), k3 9 (by omega) (by omega)]; exact hf1.flg hx
          · rw [lo C.rs (by omega), k3 C.rs (by omega) (by omega)]; exact hf1.rd
          · rw [lo 2 (by omega), k3 2 (by omega) (by omega)]; exact hf1.us
        · intro hnone f4 w4 h6 he4
          refine h0 ?_ f4 w4 h6 (tot w4 he4)
          have hrd : optRd (S.rd ver fl) rs = none := by
            unfold optRd
            rw [hb]
            simp only [Bool.false_eq_true, if_false]
            rw [if_neg (by intro h; exact hm1 (hnn.symm.trans h)), hnone]; rfl
          simp only [Sch.rd, if_pos hon, hrd]
        · intro x rs1 hx f4 w4 cc4 hto hrep
          have hrd : optRd (S.rd ver fl) rs = some (some x, rs1) := by
            unfold optRd
            rw [hb]
            simp only [Bool.false_eq_true, if_false]
            rw [if_neg (by intro h; exact hm1 (hnn.symm.trans h)), hx]; rfl
          have hb4 : w4.heap[b]? = some (.cells ccB e (0, 0)) := hto.ext.old hbC (by
            rintro (h | h)
            · exact hs.rw_.ne.2.2 h.symm
            · exact hnab h)
          have hext := tot w4 hto.ext
          refine behind f4 w4 ccB rs1 (some x) ?_ ?_ ?_ ?_
          · simp only [Sch.rd, if_pos hon, hrd]; rfl
          · refine ⟨hext, ⟨hb4, by omega, hto.st.rd, hs.rw_.ext hext⟩, hszB, ?_, ?_⟩
            · intro j hj
              rw [← hccB, Array.getElem?_setIfInBounds, if_neg (by omega)]
            · intro z hz1 hz
              rw [hto.keep z hz1 (by omega)]
              rw [hFk z (by omega) (by omega) (by omega), k3 z (by omega) (by omega)]
              exact hk1 z (by omega) hz1
          · intro j hj
            rw [← hccB, Array.getElem?_setIfInBounds, if_neg (by omega)]
          · refine ⟨.pointer (some ⟨ab, 0, none⟩), ?_, fun h => (by cases h), fun y hy => ?_⟩
            · rw [segL_get (by omega), ← hccB, Array.getElem?_setIfInBounds, if_pos rfl]
              simp; omega
            · cases hy
              refine ⟨ab, 0, segL cc4 0 sz, rfl, .inr (by omega), lt_of_heap hto.st.blk, segL_len (by have := hto.st.fit; omega), ?_, Sch.Rep_mono (fun k hk => ?_) S hrep⟩
              · have := cellsAt_seg (a := 0) (n := sz) hto.st.blk
                exact this
              · rcases hk with h | h
                · exact .inl h
                · exact .inr (by have h' : ab + 1 ≤ k := h; omega)
      · refine .inr ⟨by simp, absent _ (fun y hy hy1 => ?_) ?_⟩
        · exact upB y hy hy1 _ _ _ _ _
        · unfold optRd
          rw [if_pos hb]
  · intro hoff f1 hk1 h11
    refine behind f1 w cc rs none ?_ (RdTo.refl hs (KeepR.of hk1 (by omega))) (fun _ _ => rfl) ⟨_, hnil, fun _ => rfl, fun x hx => by cases hx⟩
    simp only [Sch.rd, hoff, Bool.false_eq_true, if_false]; rfl
theorem soundR (ht : TyR P C) : ∀ S : Sch, SoundR P C S := by
  intro S
  induction S with
  | fin => exact soundR_fin
  | tags k o => exact soundR_tags ht k o
  | prim g k o p en d rest ih => exact soundR_prim ht g k o p en d rest ih
  | arrP g k o sT nul p rest ih => exact soundR_arrP ht g k o sT nul p rest ih
  | arrS g k o sT nul T PT sz df e rest ihe ih => exact soundR_arrS ht g k o sT nul T PT sz df e rest ihe ih
  | sub g k o T PT sz df e rest ihe ih => exact soundR_sub ht g k o T PT sz df e rest ihe ih
  | opt g k o T PT PP sz df e rest ihe ih => exact soundR_opt ht g k o T PT PP sz df e rest ihe ih
end
end Go.Kg

set_option linter.unusedSimpArgs false
set_option linter.unusedVariables false
set_option linter.unusedSectionVars false
namespace Go.Kg
open Go
/-- a reader's cells -/
structure TyRb (P : Program) (E : Env) : Prop where
  z : zeroOf P E.tRd = some (.agg #[.slice none 0 0, .bool false])
  pl : places P E.tRd = some [(0, 1), (1, 1)]
  k : kindOf P E.tRd = .agg 2
structure MsgRk (P : Program) (C : CfgR) (T PT flex df n : Nat) (S : Sch) (nl : Nat) : Prop where
  rs7 : C.rs = 7
  ty : TyR P C
  rb : TyRb P C.E
  tyR : S.tyR P C T n 1 = true
  need : S.NeedR P C
  endc : EndC P C
  dfl : DefRC P C.toCfg n df S
  f0 : fldOff P T 0 = some 0
  nl : (S.genR C T PT (if C.fx then 10 else 9) (ctR C false nl)).2.l ≤ nl
theorem bld_rd {P : Program} {E : Env} (ht : TyRb P E) {sv : Value} (h : sv.cells = #[sv]) : bld? P E.tRd [(0, sv)] = some (.agg #[sv, .bool false]) := by
  have hz : (Value.agg #[.slice none 0 0, .bool false]).cells = #[.slice none 0 0, .bool false] := rfl
  simp only [bld?, ht.z, ht.pl, Instr.fill, hz]
  simp [h]
theorem bytes_one {w : World} {K : Nat → Prop} {v : Value} {s : List UInt8} (h : BytesAt w K v s) : v.oneCell' = true := by
  obtain ⟨a, c, rfl, _⟩ := h.len; rfl
def ReadPost (C : CfgR) (S : Sch) (flex b a n D : Nat) (w : World) (cc : Array Value) (e : TypeId) (ver : Int) (ev : Value) (rs : RS) (v : Value) (w' : World) : Prop :=
  Ext (· = b) w w' ∧ (S.rd ver (flagAt C.toCfg flex ver) rs = none → v = ev) ∧
  ∀ x rs', S.rd ver (flagAt C.toCfg flex ver) rs = some (x, rs') → v = (if rs'.bad then ev else .nilIface) ∧
    ∃ cc', w'.heap[b]? = some (.cells cc' e (0, 0)) ∧ cc'.size = cc.size ∧ (∀ j, (j < a + 1 ∨ a + n ≤ j) → cc'[j]? = cc[j]?) ∧ S.Rep w' (fun k => k = D ∨ w.heap.size < k) (segL cc' a n) x
theorem readFrom {P : Program} {C : CfgR} {T PT flex df n nl nt g : Nat} {S : Sch} (hm : MsgRk P C T PT flex df n S nl) (hnt : 3 ≤ nt) (hI : FnIs P g nt [.t 6] (msgR C T PT flex df false S nl)) {w : World} {b a D : Nat} {cc : Array Value} {e : TypeId} {sv : Value} {src : List UInt8} {ver : Int} {ev : Value}
    (hb : w.heap[b]? = some (.cells cc e (0, 0))) (hfit : a + n ≤ cc.size) (hver : (setD a (S.dst C.toCfg) cc)[a]? = some (.int .i16 ver)) (hchk : S.chkD (segL (setD a (S.dst C.toCfg) cc) a n) = true) (hsrc : BytesAt w (· = D) sv src) (hD : D < w.heap.size) (hbD : b ≠ D)
    (herr : w.cell? ⟨C.E.g_kbin_ErrNotEnoughData, 0, none⟩ = some ev) (hgb : C.E.g_kbin_ErrNotEnoughData ≠ b) (hv0 : 0 ≤ ver) :
    Ret P g #[.pointer (some ⟨b, a, none⟩), sv, .bool false] w fun v w' => ReadPost C S flex b a n D w (setD a (S.dst C.toCfg) cc) e ver ev ⟨src, false, nonNil sv⟩ v w' := by
  obtain ⟨hrs, ht, hrb, htyR, hN, hE, hdef, hf0, hnl⟩ := hm
  have hlt := lt_of_heap hb
  have hl7 := (genR_mono (C := C) S T PT (if C.fx then 10 else 9) (ctR C false nl)).1
  have q6 : 10 ≤ (ctR C false nl).l := by simp only [ctR]; split <;> omega
  have q7 : C.fx = true → 11 ≤ (ctR C false nl).l := by intro h; simp [ctR, h]
  have qt : nl + 10 ≤ (ctR C false nl).t := by simp [ctR]; split <;> omega
  have hnl10 : 10 ≤ nl := by omega
  refine hI.ret (args := [_, _, _]) hnt ?_
  generalize hccD : setD a (S.dst C.toCfg) cc = ccD at *
  have hszD : ccD.size = cc.size := by subst hccD; exact setD_size _ _ _
  have hsv1 := bytes_one hsrc
  have hgw : C.E.g_kbin_ErrNotEnoughData < w.heap.size := World.block_lt_of_cell? w _ herr
  generalize hR : (⟨w.heap.size, D, w.heap.size + 1, ev⟩ : Rdr) = R
  have rpb : R.pb = w.heap.size := by subst hR; rfl
  have rD : R.D = D := by subst hR; rfl
  have rbase : R.base = w.heap.size + 1 := by subst hR; rfl
  have rev : R.ev = ev := by subst hR; rfl
  -- behind the head
  have behind : ∀ (f : Nat → Value) (w1 : World), Ext (· = b) w w1 → StR C R b a n w1 ccD e ⟨src, false, nonNil sv⟩ → f (if C.fx then 10 else 9) = .pointer (some ⟨b, a, none⟩) → f 2 = .bool false → f 7 = .pointer (some ⟨w.heap.size, 0, none⟩) → f 8 = .int .i16 ver → (C.fx = true → f 9 = .bool (flagAt C.toCfg flex ver)) →
      (seqL ((S.genR C T PT (if C.fx then 10 else 9) (ctR C false nl)).1 ++ completeI C (S.genR C T PT (if C.fx then 10 else 9) (ctR C false nl)).2.t)).wp P (retPost P [.t 6] fun v w' => ReadPost C S flex b a n D w ccD e ver ev ⟨src, false, nonNil sv⟩ v w') f w1 := by
    intro f w1 he1 hst fpv f2 f7 f8 f9
    have tot : ∀ w', Ext (CB R b) w1 w' → Ext (· = b) w w' := by
      intro w' h
      refine he1.trans' h ?_
      rintro x hx (h | h)
      · rw [rpb] at h; omega
      · exact h
    refine seqL_append ?_
    refine soundR ht S T PT _ (ctR C false nl) _ f w1 b a n 1 ccD e ver (flagAt C.toCfg flex ver) R ⟨src, false, nonNil sv⟩ htyR hN ?_ (by omega) hst hchk ?_ ?_
    · refine ⟨fpv, ?_, fun _ => hv0, f8, f9, fun hx => by simp [flagAt, hx], by rw [hrs, rpb]; exact f7, f2, q6, ⟨by omega, by omega⟩⟩
      split
      · rename_i hx; exact ⟨by omega, by have := q7 hx; omega⟩
      · exact ⟨by omega, by omega⟩
    · intro hnone f' w' h6 he
      show retPost P [.t 6] (fun v w' => ReadPost C S flex b a n D w ccD e ver ev ⟨src, false, nonNil sv⟩ v w') .ret f' w'
      simp [h6, rev]
      exact ⟨tot w' he, fun _ => rfl, fun x rs' h => by rw [hnone] at h; cases h⟩
    · intro x rs' hx f' w' cc' hto hrep
      have k7 : f' C.rs = .pointer (some ⟨R.pb, 0, none⟩) := by rw [hrs, hto.keep 7 (by omega) (.inl (by omega)), rpb]; exact f7
      show (seqL (completeI C _)).wp P _ f' w'
      refine r_complete hE hto.st k7 ?_
      intro f'' h6
      show retPost P [.t 6] (fun v w' => ReadPost C S flex b a n D w ccD e ver ev ⟨src, false, nonNil sv⟩ v w') .ret f'' w'
      simp [h6, rev]
      refine ⟨tot w' hto.ext, fun h => (by rw [hx] at h; cases h), fun x2 rs2 h2 => ?_⟩
      rw [hx] at h2
      cases h2
      refine ⟨rfl, cc', hto.st.blk, hto.size, hto.same, Sch.Rep_mono (fun k hk => ?_) S hrep⟩
      rcases hk with h | h
      · exact .inl (by rw [← rD]; exact h)
      · exact .inr (by rw [rbase] at h; omega)
  -- the head
  have n0 : ∀ k, (0 = nl + k) = False := by intro k; simp; omega
  have n1 : ∀ k, (1 = nl + k) = False := by intro k; simp; omega
  have n2 : ∀ k, (2 = nl + k) = False := by intro k; simp; omega
  have n6 : ∀ k, (6 = nl + k) = False := by intro k; simp; omega
  have n7 : ∀ k, (7 = nl + k) = False := by intro k; simp; omega
  have n8 : ∀ k, (8 = nl + k) = False := by intro k; simp; omega
  have n9 : ∀ k, (9 = nl + k) = False := by intro k; simp; omega
  have n0' : (0 = nl) = False := by simp; omega
  have n1' : (1 = nl) = False := by simp; omega
  have n2' : (2 = nl) = False := by simp; omega
  have n7' : (7 = nl) = False := by simp; omega
  have n8' : (8 = nl) = False := by simp; omega
  have n9' : (9 = nl) = False := by simp; omega
  have m0 : (nl = 0) = False := by simp; omega
  have m1 : (nl = 1) = False := by simp; omega
  have m2 : (nl = 2) = False := by simp; omega
  have m3 : (nl = 3) = False := by simp; omega
  have m4 : (nl = 4) = False := by simp; omega
  have m5 : (nl = 5) = False := by simp; omega
  have m6 : (nl = 6) = False := by simp; omega
  have m7 : (nl = 7) = False := by simp; omega
  have m8 : (nl = 8) = False := by simp; omega
  have m9 : (nl = 9) = False := by simp; omega
  have kI16 : kindOf P C.E.tI16 = .scl := ht.c.kI16
  -- the world behind the head
  generalize hw1 : w.setBlk b (.cells ccD e (0, 0)) = w1
  have hw1s : w1.heap.size = w.heap.size := by subst hw1; simp
  have hbw1 : w1.heap[b]? = some (.cells ccD e (0, 0)) := by subst hw1; exact setBlk_same hb
  have hE1 : Ext (fun k => k = b) w w1 := by subst hw1; exact (Ext.refl (fun k => k = b) w).setBlk (b := b) (Or.inr rfl) _
  generalize hw2 : (w1.alloc (.cells #[.slice none 0 0, .bool false] C.E.tRd)).setBlk w1.heap.size (.cells #[sv, .bool false] C.E.tRd (0, 0)) = w2
  have hE2 : Ext none1 w1 w2 := by subst hw2; exact ((Ext.refl none1 w1).alloc _).setBlk (.inl (Nat.le_refl _)) _
  have hpb2 : w2.heap[w.heap.size]? = some (.cells #[sv, .bool false] C.E.tRd (0, 0)) := by subst hw2; rw [← hw1s]; exact setBlk_same alloc_new
  have hbw2 : w2.heap[b]? = some (.cells ccD e (0, 0)) := hE2.old hbw1 (fun h => h)
  have hE12 : Ext (fun k => k = b) w w2 := hE1.trans (hE2.mono (fun _ _ h => h.elim))
  have hst : StR C R b a n w2 ccD e ⟨src, false, nonNil sv⟩ := by
    refine ⟨hbw2, by omega, ?_, ⟨⟨?_, ?_, ?_, ?_⟩, ⟨?_, ?_, ?_⟩, ?_, ⟨?_, ?_⟩⟩⟩
    · rw [rpb, rD]
      exact ⟨sv, hpb2, hsrc.ext hE12 (by rintro k _ rfl h; exact hbD h.symm), rfl⟩
    · rw [rpb, rbase]; omega
    · rw [rbase]; omega
    · rw [rD, rbase]; omega
    · rw [rbase]; exact lt_of_heap hpb2
    · rw [rpb, rD]; omega
    · rw [rD]; exact hbD
    · rw [rpb]; omega
    · rw [rev]; exact hE12.cell herr (fun h => hgb h)
    · rw [rpb]; omega
    · exact hgb
  have cv : w2.cell? ⟨b, a, none⟩ = some (.int .i16 ver) := by rw [cell_of_blk hbw2]; exact hver
  have key : ∀ (fl : List Ir) (pv t' : Nat), pv = (if C.fx then 10 else 9) → t' = nl + (if C.fx then 12 else 9) → (if C.fx then [Ir.reg [⟨none, some (nl + 9), .move (.tmp 8), C.E.tI16⟩, ⟨none, some (nl + 10), .binOp .geq C.E.tI16 (.tmp (nl + 9)) (.const (.int .i16 flex)) C.E.tI16, C.E.tB⟩, ⟨none, some 9, .assign (.tmp (nl + 10)), C.E.tB⟩],
      .reg [⟨none, some (nl + 11), .move (.tmp 9), C.E.tB⟩]] else []) = fl →
      (seqL ([.reg [⟨none, some 6, .assign (.const .nilIface), C.E.tErr⟩],
    .reg [⟨none, some nl, .move (.tmp 0), PT⟩, ⟨none, some (nl + 1), .call { callee := .value (.func df), args := #[.tmp nl], argTypes := #[PT] }, C.E.tNil⟩],
    .reg [⟨none, some (nl + 2), .move (.tmp 1), C.E.tBs⟩, ⟨none, some (nl + 3), .build C.E.tRd #[(0, .tmp (nl + 2))], C.E.tRd⟩, ⟨none, some 7, .alloc C.E.tRd, C.E.tNil⟩, ⟨none, none, .store C.E.tRd (.tmp 7) (.tmp (nl + 3)), C.E.tNil⟩],
    .reg (addrR C.toCfg T PT 0 0 (nl + 4) ++ [⟨none, some (nl + 7), .load C.E.tI16 (.tmp (nl + 6)), C.E.tI16⟩, ⟨none, some 8, .assign (.tmp (nl + 7)), C.E.tI16⟩]),
    .reg [⟨none, some (nl + 8), .move (.tmp 8), C.E.tI16⟩]] ++ (fl ++ ([.reg [⟨none, some t', .move (.tmp 0), PT⟩, ⟨none, some pv, .assign (.tmp t'), PT⟩]] ++ ((S.genR C T PT (if C.fx then 10 else 9) (ctR C false nl)).1 ++ completeI C (S.genR C T PT (if C.fx then 10 else 9) (ctR C false nl)).2.t))))).wp P
        (retPost P [.t 6] fun v w' => ReadPost C S flex b a n D w ccD e ver ev ⟨src, false, nonNil sv⟩ v w') (frame0 [.pointer (some ⟨b, a, none⟩), sv, .bool false]) w := by
    intro fl pv t' hpv ht' hfl
    simp only [List.cons_append, List.nil_append]
    refine seqL_cons (wp_reg ?_)
    simp
    refine seqL_cons (wp_reg ?_)
    simp
    refine (hdef w b a cc e hb hfit).mono ?_
    rintro v w1' ⟨rfl⟩
    rw [hccD, hw1]
    refine seqL_cons (wp_reg ?_)
    simp [n0, n0', n1, n1', n2, n2', n6, n7, n7', n8, n8', n9, n9', m0, m1, m2, m3, m4, m5, m6, m7, m8, m9, bld_rd hrb (cells_one hsv1), hrb.z, Value.cells, store_agg hrb.k, putK_blk alloc_new, hsv1]
    have hov : over #[.slice none 0 0, .bool false] 0 [sv, .bool false] = #[sv, .bool false] := by simp [over]
    rw [hov, hw2]
    refine ⟨by simp only [allOne, hsv1, Bool.true_and]; rfl, ?_⟩
    show (seqL _).wp P _ _ w2
    refine seqL_cons (wp_reg ?_)
    simp [n0, n0', n1, n1', n2, n2', n6, n7, n7', n8, n8', n9, n9', m0, m1, m2, m3, m4, m5, m6, m7, m8, m9, addrR, hf0, Addr.add_mk, ld_scl kI16, cv]
    refine seqL_cons (wp_reg ?_)
    simp [n0, n0', n1, n1', n2, n2', n6, n7, n7', n8, n8', n9, n9', m0, m1, m2, m3, m4, m5, m6, m7, m8, m9]
    refine seqL_append ?_
    have e1w : w1.heap.size = w.heap.size := hw1s
    by_cases hx : C.fx = true
    · rw [if_pos hx] at hfl
      subst hfl
      rw [if_pos hx] at hpv ht'
      subst hpv
      subst ht'
      refine seqL_cons (wp_reg ?_)
      simp [n0, n0', n1, n1', n2, n2', n6, n7, n7', n8, n8', n9, n9', m0, m1, m2, m3, m4, m5, m6, m7, m8, m9]
      show (Ir.reg _).wp P _ _ _
      refine wp_reg ?_
      simp [n0, n0', n1, n1', n2, n2', n6, n7, n7', n8, n8', n9, n9', m0, m1, m2, m3, m4, m5, m6, m7, m8, m9]
      refine seqL_cons (wp_reg ?_)
      simp [n0, n0', n1, n1', n2, n2', n6, n7, n7', n8, n8', n9, n9', m0, m1, m2, m3, m4, m5, m6, m7, m8, m9]
      refine behind _ w2 hE12 hst ?_ ?_ ?_ ?_ ?_
      · simp [n0, n0', n1, n1', n2, n2', n6, n7, n7', n8, n8', n9, n9', m0, m1, m2, m3, m4, m5, m6, m7, m8, m9, hx]
      · simp [n0, n0', n1, n1', n2, n2', n6, n7, n7', n8, n8', n9, n9', m0, m1, m2, m3, m4, m5, m6, m7, m8, m9]
      · simp [n0, n0', n1, n1', n2, n2', n6, n7, n7', n8, n8', n9, n9', m0, m1, m2, m3, m4, m5, m6, m7, m8, m9, e1w]
      · simp [n0, n0', n1, n1', n2, n2', n6, n7, n7', n8, n8', n9, n9', m0, m1, m2, m3, m4, m5, m6, m7, m8, m9]
      · intro _; simp [n0, n0', n1, n1', n2, n2', n6, n7, n7', n8, n8', n9, n9', m0, m1, m2, m3, m4, m5, m6, m7, m8, m9, flagAt, hx]
    · rw [if_neg hx] at hfl
      subst hfl
      rw [if_neg hx] at hpv ht'
      subst hpv
      subst ht'
      show (seqL _).wp P _ _ w2
      refine seqL_cons (wp_reg ?_)
      simp [n0, n0', n1, n1', n2, n2', n6, n7, n7', n8, n8', n9, n9', m0, m1, m2, m3, m4, m5, m6, m7, m8, m9]
      refine behind _ w2 hE12 hst ?_ ?_ ?_ ?_ ?_
      · simp [n0, n0', n1, n1', n2, n2', n6, n7, n7', n8, n8', n9, n9', m0, m1, m2, m3, m4, m5, m6, m7, m8, m9, hx]
      · simp [n0, n0', n1, n1', n2, n2', n6, n7, n7', n8, n8', n9, n9', m0, m1, m2, m3, m4, m5, m6, m7, m8, m9]
      · simp [n0, n0', n1, n1', n2, n2', n6, n7, n7', n8, n8', n9, n9', m0, m1, m2, m3, m4, m5, m6, m7, m8, m9, e1w]
      · simp [n0, n0', n1, n1', n2, n2', n6, n7, n7', n8, n8', n9, n9', m0, m1, m2, m3, m4, m5, m6, m7, m8, m9]
      · intro h; exact absurd h hx
  have := key _ _ _ rfl rfl rfl
  simp only [← List.append_assoc] at this
  exact this
end Go.Kg

set_option linter.unusedSimpArgs false
set_option linter.unusedVariables false
set_option linter.unusedSectionVars false
namespace Go.Kg
open Go
section
variable {P : Program} {C : CfgR}
theorem primR_of {p : Prim} {f : Nat} {g : RS → Value × RS} {fl : Bool} (hf : p.fR C.E fl = f) (h : RdC P C.E.tRd f g) (h1 : ∀ w K rs, p.rep1 w K (g rs).1 (p.rd fl rs).1) (h2 : ∀ rs, (g rs).2 = (p.rd fl rs).2) : ∀ w pb D rs, pb ≠ D → D < w.heap.size → RdAt C.E.tRd w pb D rs →
    Ret P (p.fR C.E fl) #[.pointer (some ⟨pb, 0, none⟩)] w fun v w' => p.rep1 w' (fun b => b = D ∨ w.heap.size ≤ b) v (p.rd fl rs).1 ∧ Ext (· = pb) w w' ∧ RdAt C.E.tRd w' pb D (p.rd fl rs).2 := by
  intro w pb D rs hne hD hr
  subst hf
  refine (h w pb D rs hne hr).mono ?_
  rintro v w1 ⟨rfl, he, hr1⟩
  exact ⟨h1 _ _ _, he, by rw [← h2]; exact hr1⟩
theorem primR_i16 (h : RdC P C.E.tRd C.E.f_pkbin_Reader_Int16 fun rs => (.int .i16 (IntKind.i16.wrap (rdFixed 2 rs).1), (rdFixed 2 rs).2)) : PrimR P C .i16 := fun fl _ => primR_of rfl h (fun _ _ _ => rfl) (fun _ => rfl)
theorem primR_i32 (h : RdC P C.E.tRd C.E.f_pkbin_Reader_Int32 fun rs => (.int .i32 (IntKind.i32.wrap (rdFixed 4 rs).1), (rdFixed 4 rs).2)) : PrimR P C .i32 := fun fl _ => primR_of rfl h (fun _ _ _ => rfl) (fun _ => rfl)
theorem primR_i64 (h : RdC P C.E.tRd C.E.f_pkbin_Reader_Int64 fun rs => (.int .i64 (IntKind.i64.wrap (rdFixed 8 rs).1), (rdFixed 8 rs).2)) : PrimR P C .i64 := fun fl _ => primR_of rfl h (fun _ _ _ => rfl) (fun _ => rfl)
theorem primR_str (h : RdC P C.E.tRd C.E.f_pkbin_Reader_String fun rs => (strV (rdStr rs).1, (rdStr rs).2)) (hc : C.fx = true → RdC P C.E.tRd C.E.f_pkbin_Reader_CompactString fun rs => (strV (rdCStr rs).1, (rdCStr rs).2)) : PrimR P C .str := by
  intro fl hx
  cases fl
  · exact primR_of rfl h (fun _ _ _ => rfl) (fun _ => rfl)
  · exact primR_of rfl (hc (hx rfl)) (fun _ _ _ => rfl) (fun _ => rfl)
theorem primRP_of {p : Prim} {f : Nat} {g : RS → p.T × RS} {Rx : World → Nat → World → Value → p.T → Prop} {fl : Bool} (hf : p.fR C.E fl = f) (h : RdPC P C.E.tRd f Rx g) (hg : p.rd fl = g) (h1 : ∀ w0 D w v x, Rx w0 D w v x → p.rep1 w (fun b => b = D ∨ w0.heap.size ≤ b) v x) : ∀ w pb D rs, pb ≠ D → D < w.heap.size → RdAt C.E.tRd w pb D rs →
    Ret P (p.fR C.E fl) #[.pointer (some ⟨pb, 0, none⟩)] w fun v w' => p.rep1 w' (fun b => b = D ∨ w.heap.size ≤ b) v (p.rd fl rs).1 ∧ Ext (· = pb) w w' ∧ RdAt C.E.tRd w' pb D (p.rd fl rs).2 := by
  intro w pb D rs hne hD hr
  subst hf
  rw [hg]
  refine (h w pb D rs hne hD hr).mono ?_
  rintro v w1 ⟨h2, he, hr1⟩
  exact ⟨h1 _ _ _ _ _ h2, he, hr1⟩
theorem primR_uuid (h : RdPC P C.E.tRd C.E.f_pkbin_Reader_Uuid RUuid rdUuid) : PrimR P C .uuid := fun fl _ => primRP_of rfl h rfl (fun _ _ _ _ _ h => h)
theorem endC_of (ht : TyRs P C.E) (kErr : kindOf P C.E.tErr = .scl) (h1 : FnIs P C.E.f_pkbin_Reader_Ok nt_pkbin_Reader_Ok (rs_pkbin_Reader_Ok C.E) (ir_pkbin_Reader_Ok C.E))
    (h2 : FnIs P C.E.f_pkbin_Reader_Complete nt_pkbin_Reader_Complete (rs_pkbin_Reader_Complete C.E) (ir_pkbin_Reader_Complete C.E)) : EndC P C :=
  ⟨fun w pb D rs hr => c_Ok ht h1 hr, fun w pb D rs ev hr hev => c_Complete ht kErr h2 hr hev⟩
end
end Go.Kg

set_option linter.unusedSimpArgs false
set_option linter.unusedVariables false
namespace Go.Kg
open Go
end Go.Kg

set_option linter.unusedSimpArgs false
set_option linter.unusedVariables false
set_option linter.unusedSectionVars false
namespace Go.Kg
open Go
/-- what is told of a thing lies in blocks that are there -/
theorem Sch.Rep_lt {w : World} {K : Nat → Prop} : ∀ (S : Sch) {cs : List Value} {x : S.T}, S.Rep w K cs x → S.Rep w (fun k => k < w.heap.size) cs x := by
  have hB : ∀ {v : Value} {s : List UInt8}, BytesAt w K v s → BytesAt w (fun k => k < w.heap.size) v s := by
    rintro v s (h | ⟨b, o, c, h1, h2, h3, h4⟩)
    · exact .inl h
    · refine .inr ⟨b, o, c, h1, h2, fun hs => ?_, h4⟩
      cases s with
      | nil => exact absurd rfl hs
      | cons y s => exact World.block_lt_of_cell? w _ (h4 0 y rfl)
  have hP : ∀ {p : Prim} {v : Value} {x : p.T}, p.rep1 w K v x → p.rep1 w (fun k => k < w.heap.size) v x := by
    intro p v x h
    cases p with
    | bytes => exact hB h
    | nstr =>
      cases x with
      | none => exact h
      | some l => obtain ⟨a, h1, _, h3⟩ := h; exact ⟨a, h1, World.block_lt_of_cell? w _ h3, h3⟩
    | nbytes =>
      cases x with
      | none => exact h
      | some l => exact ⟨hB h.1, h.2⟩
    | _ => exact h
  intro S
  induction S with
  | fin => intro cs x h; trivial
  | tags k o =>
    intro cs x ⟨v, h1, h2⟩
    refine ⟨v, h1, ?_⟩
    rcases h2 with h | ⟨b, es, clock, rfl, hk, hb, hs, hn, hl, hx⟩
    · exact .inl h
    · refine .inr ⟨b, es, clock, rfl, lt_of_heap hb, hb, hs, hn, hl, fun i e x h1 h2 => ?_⟩
      obtain ⟨a1, a2, a3, a4⟩ := hx i e x h1 h2
      exact ⟨a1, a2, a3, hB a4⟩
  | prim g k o p en d rest ih => intro cs x ⟨⟨v, h1, h2⟩, h3⟩; exact ⟨⟨v, h1, hP h2⟩, ih h3⟩
  | arrP g k o sT nul p rest ih =>
    intro cs x ⟨⟨v, ls, h1, h2, h3, h4, h5⟩, h6⟩
    refine ⟨⟨v, ls, h1, ?_, h3, h4, fun i es y hi hy => ?_⟩, ih h6⟩
    · cases ls with
      | none => exact h2
      | some ls => obtain ⟨b, o, c, rfl, hk, hn, hx⟩ := h2; exact ⟨b, o, c, rfl, h3.2 _ _ _ rfl, hn, hx⟩
    · obtain ⟨u, a1, a2⟩ := h5 i es y hi hy
      exact ⟨u, a1, hP a2⟩
  | arrS g k o sT nul T PT sz df e rest ihe ih =>
    intro cs x ⟨⟨v, ls, h1, h2, h3, h4, h5⟩, h6⟩
    refine ⟨⟨v, ls, h1, ?_, h3, h4, fun i es y hi hy => ihe (h5 i es y hi hy)⟩, ih h6⟩
    cases ls with
    | none => exact h2
    | some ls => obtain ⟨b, o, c, rfl, hk, hn, hx⟩ := h2; exact ⟨b, o, c, rfl, h3.2 _ _ _ rfl, hn, hx⟩
  | sub g k o T PT sz df e rest ihe ih => intro cs x ⟨h1, h2⟩; exact ⟨ihe h1, ih h2⟩
  | opt g k o T PT PP sz df e rest ihe ih =>
    intro cs x ⟨⟨v, h1, h2, h3⟩, h4⟩
    refine ⟨⟨v, h1, h2, fun y hy => ?_⟩, ih h4⟩
    obtain ⟨b, c, es, a1, a2, a3, a4, a5, a6⟩ := h3 y hy
    exact ⟨b, c, es, a1, a3, a3, a4, a5, ihe a6⟩
def irRF (C : Cfg) (PT fR : Nat) : Ir :=
  .seq (.reg [⟨none, some 4, .assign (.const .nilIface), C.E.tErr⟩])
  (.seq (.reg [⟨none, some 5, .move (.tmp 0), PT⟩, ⟨none, some 6, .move (.tmp 1), C.E.tBs⟩, ⟨none, some 7, .call { callee := .value (.func fR), args := #[.tmp 5, .tmp 6, .const (.bool false)], argTypes := #[PT, C.E.tBs, C.E.tB] }, C.E.tErr⟩,
    ⟨none, some 4, .assign (.tmp 7), C.E.tErr⟩]) .ret)
theorem c_RF {P : Program} {C : Cfg} {PT fR g nt : Nat} (hnt : 2 ≤ nt) (hI : FnIs P g nt [.t 4] (irRF C PT fR)) {u v : Value} {w : World} {X : Value → World → Prop} (h : Ret P fR #[u, v, .bool false] w X) : Ret P g #[u, v] w X := by
  refine hI.call (args := [_, _]) hnt ?_
  simp [irRF]
  refine h.mono ?_
  intro v' w' hx
  simpa using hx
theorem BytesAt.oneD {w : World} {K : Nat → Prop} {v : Value} {s : List UInt8} (h : BytesAt w K v s) (D0 : Nat) : ∃ D, BytesAt w (· = D) v s ∧ (D = D0 ∨ (K D ∧ D < w.heap.size)) := by
  rcases h with h | ⟨b, o, c, rfl, h1, h2, h3⟩
  · exact ⟨D0, .inl h, .inl rfl⟩
  · cases s with
    | nil => exact ⟨D0, .inr ⟨b, o, c, rfl, h1, by simp, by simp⟩, .inl rfl⟩
    | cons x s => exact ⟨b, .inr ⟨b, o, c, rfl, h1, fun _ => rfl, h3⟩, .inr ⟨h2 (by simp), World.block_lt_of_cell? w _ (h3 0 x rfl)⟩⟩
end Go.Kg

set_option linter.unusedSimpArgs false
set_option linter.unusedVariables false
set_option linter.unusedSectionVars false
namespace Go.Kg
open Go
/-- what is told of a thing lies in blocks of K that are there -/
theorem Sch.Rep_ltK {w : World} {K : Nat → Prop} : ∀ (S : Sch) {cs : List Value} {x : S.T}, S.Rep w K cs x → S.Rep w (fun k => K k ∧ k < w.heap.size) cs x := by
  have hB : ∀ {v : Value} {s : List UInt8}, BytesAt w K v s → BytesAt w (fun k => K k ∧ k < w.heap.size) v s := by
    rintro v s (h | ⟨b, o, c, h1, h2, h3, h4⟩)
    · exact .inl h
    · refine .inr ⟨b, o, c, h1, h2, fun hs => ?_, h4⟩
      cases s with
      | nil => exact absurd rfl hs
      | cons y s => exact ⟨h3 hs, World.block_lt_of_cell? w _ (h4 0 y rfl)⟩
  have hP : ∀ {p : Prim} {v : Value} {x : p.T}, p.rep1 w K v x → p.rep1 w (fun k => K k ∧ k < w.heap.size) v x := by
    intro p v x h
    cases p with
    | bytes => exact hB h
    | nstr =>
      cases x with
      | none => exact h
      | some l => obtain ⟨a, h1, h2, h3⟩ := h; exact ⟨a, h1, ⟨h2, World.block_lt_of_cell? w _ h3⟩, h3⟩
    | nbytes =>
      cases x with
      | none => exact h
      | some l => exact ⟨hB h.1, h.2⟩
    | _ => exact h
  have hA : ∀ {sz : Nat} {v : Value} {ls : Option (List (List Value))}, ArrAt w K sz v ls → InHeap w v → ArrAt w (fun k => K k ∧ k < w.heap.size) sz v ls := by
    intro sz v ls h hi
    cases ls with
    | none => exact h
    | some ls => obtain ⟨b, o, c, rfl, hk, hn, hx⟩ := h; exact ⟨b, o, c, rfl, ⟨hk, hi _ _ _ rfl⟩, hn, hx⟩
  intro S
  induction S with
  | fin => intro cs x h; trivial
  | tags k o =>
    intro cs x ⟨v, h1, h2⟩
    refine ⟨v, h1, ?_⟩
    rcases h2 with h | ⟨b, es, clock, rfl, hk, hb, hs, hn, hl, hx⟩
    · exact .inl h
    · refine .inr ⟨b, es, clock, rfl, ⟨hk, lt_of_heap hb⟩, hb, hs, hn, hl, fun i e x h1 h2 => ?_⟩
      obtain ⟨a1, a2, a3, a4⟩ := hx i e x h1 h2
      exact ⟨a1, a2, a3, hB a4⟩
  | prim g k o p en d rest ih => intro cs x ⟨⟨v, h1, h2⟩, h3⟩; exact ⟨⟨v, h1, hP h2⟩, ih h3⟩
  | arrP g k o sT nul p rest ih =>
    intro cs x ⟨⟨v, ls, h1, h2, h3, h4, h5⟩, h6⟩
    refine ⟨⟨v, ls, h1, hA h2 h3.2, h3, h4, fun i es y hi hy => ?_⟩, ih h6⟩
    obtain ⟨u, a1, a2⟩ := h5 i es y hi hy
    exact ⟨u, a1, hP a2⟩
  | arrS g k o sT nul T PT sz df e rest ihe ih =>
    intro cs x ⟨⟨v, ls, h1, h2, h3, h4, h5⟩, h6⟩
    exact ⟨⟨v, ls, h1, hA h2 h3.2, h3, h4, fun i es y hi hy => ihe (h5 i es y hi hy)⟩, ih h6⟩
  | sub g k o T PT sz df e rest ihe ih => intro cs x ⟨h1, h2⟩; exact ⟨ihe h1, ih h2⟩
  | opt g k o T PT PP sz df e rest ihe ih =>
    intro cs x ⟨⟨v, h1, h2, h3⟩, h4⟩
    refine ⟨⟨v, h1, h2, fun y hy => ?_⟩, ih h4⟩
    obtain ⟨b, c, es, a1, a2, a3, a4, a5, a6⟩ := h3 y hy
    exact ⟨b, c, es, a1, ⟨a2, a3⟩, a3, a4, a5, ihe a6⟩
def KF.sv : (f : KF) → f.c.T → f.sch.T
  | ⟨_, _, _, .prim _ _⟩, x => (x, ())
  | ⟨_, _, _, .arr _ _ _ _ _ _⟩, x => (x, ())
  | ⟨_, _, _, .str _ _ _ _ _ _ _⟩, x => (x, ())
theorem KF.rep_iff {w : World} {K : Nat → Prop} {cs : List Value} (f : KF) (x : f.c.T) : f.c.Rep w K cs f.o x ↔ f.sch.Rep w K cs (f.sv x) := by
  obtain ⟨num, k, o, c⟩ := f
  cases c with
  | prim p d => exact ⟨fun h => ⟨h, trivial⟩, fun h => h.1⟩
  | arr sT T PT sz df e => exact ⟨fun h => ⟨h, trivial⟩, fun h => h.1⟩
  | str T PT sz df sm mk e => exact ⟨fun h => ⟨h, trivial⟩, fun h => h.1⟩
theorem KsRep_ltK {w : World} {K : Nat → Prop} {cs : List Value} : ∀ (l : List KF) {x : KsT l}, KsRep w K cs l x → KsRep w (fun k => K k ∧ k < w.heap.size) cs l x
  | [], _, _ => trivial
  | f :: l, (v, r), h => ⟨(f.rep_iff v).2 (Sch.Rep_ltK f.sch ((f.rep_iff v).1 h.1)), KsRep_ltK l h.2⟩
theorem KsRep_mono {w : World} {K K' : Nat → Prop} (hK : ∀ b, K b → K' b) {cs : List Value} : ∀ (l : List KF) {x : KsT l}, KsRep w K cs l x → KsRep w K' cs l x
  | [], _, _ => trivial
  | f :: l, (v, r), h => ⟨(f.rep_iff v).2 (Sch.Rep_mono hK f.sch ((f.rep_iff v).1 h.1)), KsRep_mono hK l h.2⟩
/-- how many cells a known tag's field has -/
def KF.sz (f : KF) : Nat := match f.c with
  | .prim p _ => p.sz
  | .arr _ _ _ _ _ _ => 1
  | .str _ _ sz _ _ _ _ => sz
theorem Kn.Rep_cells {w : World} {K : Nat → Prop} {cs cs' : List Value} (f : KF) {x : f.c.T} (hc : ∀ j, f.o ≤ j → j < f.o + f.sz → cs'[j]? = cs[j]?) (h : f.c.Rep w K cs f.o x) : f.c.Rep w K cs' f.o x := by
  obtain ⟨num, k, o, c⟩ := f
  cases c with
  | prim p d =>
    simp only [KF.sz] at hc
    obtain ⟨v, h1, h2⟩ := h
    refine ⟨v, fun j u hj => ?_, h2⟩
    have h3 := rep1_sz h2
    have h4 := (List.getElem?_eq_some_iff.1 hj).1
    have h5 : j < p.sz := by rw [← h3]; simpa using h4
    have h6 := hc (o + j) (by omega) (by omega)
    simp only at h6 ⊢
    rw [h6]
    exact h1 j u hj
  | arr sT T PT sz df e =>
    simp only [KF.sz] at hc
    obtain ⟨v, ls, h1, h2, h3, h4, h5⟩ := h
    exact ⟨v, ls, (hc o (Nat.le_refl _) (by omega)).trans h1, h2, h3, h4, h5⟩
  | str T PT sz df sm mk e =>
    simp only [KF.sz] at hc
    have e1 : (cs'.drop o).take sz = (cs.drop o).take sz := by
      apply List.ext_getElem?
      intro j
      by_cases hj : j < sz
      · rw [List.getElem?_take, List.getElem?_take, if_pos hj, if_pos hj, List.getElem?_drop, List.getElem?_drop]
        exact hc _ (by omega) (by omega)
      · rw [List.getElem?_take, List.getElem?_take, if_neg hj, if_neg hj]
    show e.Rep w K ((cs'.drop o).take sz) x
    rw [e1]; exact h
section
variable {P : Program} {E : Env} (ht : TyTg P E)
include ht
/-- t.Set(key, val); t is a struct's field -/
theorem c_TSetM (hu : P.underlying E.tU32 = some (.int .u32)) (hI : FnIs P E.f_pkmsg_Tags_Set nt_pkmsg_Tags_Set (rs_pkmsg_Tags_Set E) (ir_pkmsg_Tags_Set E)) {w : World} {D base b o k : Nat} {u v : Value} {s : List UInt8} {l : TagL} {cc : Array Value} {et : TypeId}
    (hk : k < 4294967296) (hv : BytesAt w (· = D) v s) (hc : w.heap[b]? = some (.cells cc et (0, 0))) (hco : cc[o]? = some u) (hl : TagsM w D base u l) (hD : D < base) (hDb : D ≠ b) (hbs : base ≤ w.heap.size) :
    Ret P E.f_pkmsg_Tags_Set #[.pointer (some ⟨b, o, none⟩), .int .u32 k, v] w fun _ w' => ∃ u', w'.heap[b]? = some (.cells (cc.setIfInBounds o u') et (0, 0)) ∧ TagsM w' D base u' (setTag k s l) ∧ Ext (fun x => x = b ∨ u = .map (some x)) w w' ∧ (u' = u ∨ u' = .map (some w.heap.size)) := by
  refine hI.call (args := [_, _, _]) (by simp [nt_pkmsg_Tags_Set]) ?_
  have holt : o < cc.size := (Array.getElem?_eq_some_iff.1 hco).1
  have c0 : w.cell? ⟨b, o, none⟩ = some u := by rw [cell_of_blk hc]; exact hco
  rcases hl with ⟨rfl, rfl⟩ | ⟨m, es, clock, rfl, hm, hmb, he, hn⟩
  · simp [ir_pkmsg_Tags_Set, rs_pkmsg_Tags_Set, ht.g0, Addr.add_mk, ld_scl ht.kM, c0, bin_nil_map ht.uM]
    refine cw_true (by simp) ?_
    have hb2 : (w.alloc (.map #[] 0)).heap[b]? = some (.cells cc et (0, 0)) := alloc_old hc
    have hne : w.heap.size ≠ b := fun h => by have := lt_of_heap hc; omega
    simp [ht.g0, Addr.add_mk, store_scl ht.kM, put1K_blk hb2]
    refine ⟨rfl, holt, ?_⟩
    generalize hw1 : (w.alloc (.map #[] 0)).setBlk b (.cells (cc.setIfInBounds o (.map (some w.heap.size))) et (0, 0)) = w1
    have hE : Ext (fun x => x = b) w w1 := by subst hw1; exact ((Ext.refl (fun x => x = b) w).alloc _).setBlk (Or.inr rfl) _
    have hb1 : w1.heap[b]? = some (.cells (cc.setIfInBounds o (.map (some w.heap.size))) et (0, 0)) := by subst hw1; exact setBlk_same hb2
    have hm1 : w1.heap[w.heap.size]? = some (.map #[] 0) := by subst hw1; rw [setBlk_other hne]; exact alloc_new
    have c1 : w1.cell? ⟨b, o, none⟩ = some (.map (some w.heap.size)) := by rw [cell_of_blk hb1]; simp [holt]
    obtain ⟨es', clock', hr, he', hn'⟩ := run_mapUpdate (es := #[]) (l := []) ht.uM hu hk (hv.ext hE (fun x _ hx h => hDb (hx.symm.trans h))) hm1 trivial (by simp)
    simp [c1, ld_scl ht.kM]
    rw [stepF_skip (w' := w1.setBlk w.heap.size (.map es' clock'))]
    · refine ⟨_, (by rw [setBlk_other (Ne.symm hne)]; exact hb1), .inr ⟨w.heap.size, es', clock', rfl, hbs, setBlk_same hm1, ?_, hn'⟩, hE.setBlk (Or.inl (Nat.le_refl _)) _, .inr rfl⟩
      exact EL.ext ((Ext.refl (fun x => base ≤ x) w1).setBlk (Or.inr hbs) _) (by omega) he'
    · simp [runF, execOp, hr]
  · simp [ir_pkmsg_Tags_Set, rs_pkmsg_Tags_Set, ht.g0, Addr.add_mk, ld_scl ht.kM, c0, bin_nil_map ht.uM]
    refine cw_false (by simp) ?_
    obtain ⟨es', clock', hr, he', hn'⟩ := run_mapUpdate ht.uM hu hk hv hmb he hn
    have hne : m ≠ b := fun h => by subst h; rw [hc] at hmb; cases hmb
    simp [ht.g0, Addr.add_mk, ld_scl ht.kM, c0]
    rw [stepF_skip (w' := w.setBlk m (.map es' clock'))]
    · have hcc : cc.setIfInBounds o (.map (some m)) = cc := by
        apply Array.ext_getElem?
        intro j
        rw [Array.getElem?_setIfInBounds]
        split
        · rename_i h; subst h; first | rw [hco] | rw [if_pos holt, hco]
        · rfl
      refine ⟨.map (some m), (by rw [setBlk_other (Ne.symm hne), hcc]; exact hc), .inr ⟨m, es', clock', rfl, hm, setBlk_same hmb, ?_, hn'⟩, (Ext.refl _ w).setBlk (Or.inr (.inr rfl)) _, .inl rfl⟩
      exact EL.ext ((Ext.refl (fun x => base ≤ x) w).setBlk (Or.inr hm) _) (by omega) he'
    · simp [runF, execOp, hr]
end
theorem NeedR_rs {P : Program} {C : CfgR} (l : Nat) : ∀ S : Sch, S.NeedR P C → S.NeedR P { C with rs := l } := by
  intro S
  induction S with
  | fin => intro _; trivial
  | tags k o => intro h; exact h
  | prim g k o p en d rest ih => intro h; exact ⟨h.1, ih h.2⟩
  | arrP g k o sT nul p rest ih => intro h; exact ⟨h.1, h.2.1, ⟨h.2.2.1.ok, h.2.2.1.complete⟩, ih h.2.2.2⟩
  | arrS g k o sT nul T PT sz df e rest ihe ih => intro h; exact ⟨h.1, ⟨h.2.1.ok, h.2.1.complete⟩, h.2.2.1, ihe h.2.2.2.1, ih h.2.2.2.2⟩
  | sub g k o T PT sz df e rest ihe ih => intro h; exact ⟨h.1, ihe h.2.1, ih h.2.2⟩
  | opt g k o T PT PP sz df e rest ihe ih => intro h; exact ⟨h.1, ⟨h.2.1.ok, h.2.1.complete⟩, h.2.2.1, ihe h.2.2.2.1, ih h.2.2.2.2⟩
theorem tyR_rs {P : Program} {C : CfgR} (l : Nat) : ∀ (S : Sch) (T n lo : Nat), S.tyR P { C with rs := l } T n lo = S.tyR P C T n lo := by
  intro S
  induction S with
  | fin => intro T n lo; rfl
  | tags k o => intro T n lo; rfl
  | prim g k o p en d rest ih => intro T n lo; simp only [Sch.tyR, ih]
  | arrP g k o sT nul p rest ih => intro T n lo; simp only [Sch.tyR, ih]
  | arrS g k o sT nul T' PT sz df e rest ihe ih => intro T n lo; simp only [Sch.tyR, ihe, ih]
  | sub g k o T' PT sz df e rest ihe ih => intro T n lo; simp only [Sch.tyR, ihe, ih]
  | opt g k o T' PT PP sz df e rest ihe ih => intro T n lo; simp only [Sch.tyR, ihe, ih]
theorem TyR_rs {P : Program} {C : CfgR} (l : Nat) (h : TyR P C) : TyR P { C with rs := l } := ⟨h.c, h.uu, h.kTags, h.i32⟩
end Go.Kg

set_option linter.unusedSimpArgs false
set_option linter.unusedVariables false
set_option linter.unusedSectionVars false
namespace Go.Kg
open Go
def Kn.raw (ver : Int) : (c : Kn) → RS → Option (c.T × RS)
  | .prim p _, rs => some (p.rd true rs)
  | .arr _ _ _ _ _ e, rs => arrRd none ver true (e.rd ver true) rs
  | .str _ _ _ _ _ _ e, rs => e.rd ver true rs
def Kn.NeedR (P : Program) (C : CfgR) : Kn → Prop
  | .prim p _ => PrimR P C p
  | .arr _ _ _ sz df e => LenRC P C ∧ EndC P C ∧ DefRC P C.toCfg sz df e ∧ e.NeedR P C
  | .str _ _ _ _ _ _ _ => False
def KsNeedR (P : Program) (C : CfgR) : List KF → Prop
  | [] => True
  | f :: l => f.c.NeedR P C ∧ KsNeedR P C l
section
variable {P : Program} {C : CfgR} {R : Rdr} {Q : Post} {f : Nat → Value} {w : World}
/-- a list's length that cannot be read: whatever stands there -/
theorem r_headBad (ht : TyR P C) {T PT pv k o sT l t b a n : Nat} {ver : Int} {fl : Bool} {cc : Array Value} {e : TypeId} {rs : RS} {v : Value} {rest : List Ir} (hF : fldOff P T k = some o) (hk : isScl (kindOf P sT) = true) (hN : LenRC P C) (hE : EndC P C) (hs : StR C R b a n w cc e rs) (hf : FrR C R f pv b a ver fl l) (hlt : l + 3 ≤ t)
    (hon : o < n) (hv : (segL cc a n)[o]? = some v) (hv1 : v.oneCell' = true) (hbad : (lenRd fl rs).2.bad = true) (h0 : ∀ f' w', f' 6 = R.ev → Ext (CB R b) w w' → Q .ret f' w') : (seqL (headR C T PT pv k sT l t none ++ rest)).wp P Q f w := by
  have hn10 := hf.nN
  have hpt := hf.ptrN
  have hrs := hf.rsN
  unfold headR
  simp only [List.append_nil, List.cons_append, List.nil_append, List.append_assoc]
  refine seqL_cons ?_
  refine w_load ht.c (fun h => by cases h) hf.ptr hF (kOk_scl hk) (cellsAt_seg hs.blk) (seg_one hv hv1) (by simpa using hv1) (by omega) (by omega) ?_
  intro f2 w2 hv2 he2 hk2
  have hv2' := loc_slice hv2
  refine seqL_cons (wp_reg ?_)
  have zl : (l = t + 4) = False := by simp; omega
  simp [hv2', zl]
  refine seqL_cons (wp_reg ?_)
  simp
  generalize hf3 : upd (upd (upd f2 (t + 4) v) (l + 1) v) (l + 2) (.int .i32 0) = f3
  have k3 : ∀ y, y < t → (y < l ∨ l + 3 ≤ y) → f3 y = f y := by
    intro y hy hy2
    subst hf3
    have x1 : (y = l + 2) = False := by simp; omega
    have x2 : (y = l + 1) = False := by simp; omega
    have x3 : (y = t + 4) = False := by simp; omega
    simp [x1, x2, x3]
    exact hk2 y hy (by omega)
  have hs2 : StR C R b a n w2 cc e rs := hs.ext1 (he2.mono (fun _ _ h => h.elim)) (hs.rd.ext he2 (fun h => h) (fun h => h))
  refine seqL_cons ?_
  refine r_len (fl := fl) hN hs2 (fun hx => (k3 9 (by omega) (by omega)).trans (hf.flg hx)) hf.flN (by omega) ((k3 C.rs (by omega) (by omega)).trans hf.rd) (by omega) (by omega) ?_
  intro f4 w4 hl4 he4 hr4 hk4
  have hs4 := hs2.ext1 he4 hr4
  have he24 : Ext (CB R b) w w4 := (he2.mono (fun _ _ h => h.elim)).trans (he4.mono (fun _ _ h => .inl h))
  have hlen := lenIN C
  refine seqL_cons ?_
  refine r_ok hE hs4 ((hk4 C.rs (by omega) (by omega)).trans ((k3 C.rs (by omega) (by omega)).trans hf.rd)) (by simp only [nulN]; omega) ?_ ?_
  · intro _ f5 h6
    exact h0 f5 w4 h6 he24
  · intro hb
    rw [hbad] at hb; cases hb
/-- if err := b.Complete(); err != nil {return err} -/
theorem r_err {r l t pb D : Nat} {rs : RS} {ev : Value} (hE : EndC P C) (uErr : ∃ ms, P.underlying C.E.tErr = some (.interface ms)) (hev : ∃ t v, ev = .iface t v) (hrd : RdAt C.E.tRd w pb D rs) (herr : w.cell? ⟨C.E.g_kbin_ErrNotEnoughData, 0, none⟩ = some ev) (hr : f r = .pointer (some ⟨pb, 0, none⟩)) (hl : l < t)
    (h0 : rs.bad = true → ∀ f', f' 6 = ev → Q .ret f' w) (h1 : rs.bad = false → ∀ f', (∀ y, y < t → y ≠ l → f' y = f y) → Q .normal f' w) : (seqL (errI C r l t)).wp P Q f w := by
  obtain ⟨ms, hms⟩ := uErr
  obtain ⟨tv, vv, rfl⟩ := hev
  have zl : ∀ n, (l = t + n) = False := by intro n; simp; omega
  have zl' : (l = t) = False := by simp; omega
  unfold errI
  refine seqL_cons (wp_reg ?_)
  simp [hr]
  refine (hE.complete w pb D rs _ hrd (fun _ => herr)).mono ?_
  rintro v w1 ⟨rfl, rfl⟩
  try simp
  show (Ir.seq _ _).wp P _ _ _
  refine wp_seqI (wp_reg ?_)
  cases hb : rs.bad
  · simp [zl, zl', bin_nnil_nil hms]
    refine .inr ⟨by simp, ?_⟩
    show Q .normal _ _
    refine h1 hb _ ?_
    intro y hy hyl
    have x3 : ∀ n, (y = t + n) = False := by intro n; simp; omega
    have x4 : (y = t) = False := by simp; omega
    simp [x3, x4, hyl]
  · simp [zl, zl', bin_nnil_iface hms]
    refine .inl ⟨by simp, ?_⟩
    refine seqL_cons (wp_reg ?_)
    simp [zl, zl']
    show Q .ret _ _
    exact h0 hb _ (by simp)
/-- a known tag's field is read by a reader of its own -/
theorem r_known (ht : TyR P C) {T PT pv : Nat} {kf : KF} (hfx : C.fx = true) {b a n : Nat} (hty : kf.sch.tyR P C T (kf.o + kf.sz) kf.o = true) (hon : kf.o + kf.sz ≤ n) (hN : kf.c.NeedR P C) {c : Ct} {ver : Int} {cc : Array Value} {e : TypeId} {rs : RS} {K : Nat → Prop} {v : kf.c.T}
    (hf : FrR C R f pv b a ver true c.l) (hm : (knR C T PT pv kf c).2.l ≤ c.t) (hs : StR C R b a n w cc e rs) (hrep : kf.c.Rep w K (segL cc a n) kf.o v) (hnd : kf.c.rd ver v rs ≠ .dup)
    (h0 : kf.c.rd ver v rs = .err → ∀ f' w', f' 6 = R.ev → Ext (CB R b) w w' → Q .ret f' w')
    (h1 : ∀ y rs', kf.c.raw ver rs = some (y, rs') → kf.c.rd ver v rs = KO.of (some (y, rs')) → ∀ f' w' cc', StR C R b a n w' cc' e rs' → cc'.size = cc.size → (∀ j, (j < a + kf.o ∨ a + kf.o + kf.sz ≤ j) → cc'[j]? = cc[j]?) → Ext (CB R b) w w' → KeepR f f' c.l (knR C T PT pv kf c).2.l c.t → kf.c.Rep w' (RK R) (segL cc' a n) kf.o y → Q .normal f' w') :
    (seqL (knR C T PT pv kf c).1).wp P Q f w := by
  obtain ⟨num, k, o, cn⟩ := kf
  simp only at hrep hnd h0 h1 hN hon v
  have hn10 := hf.nN
  have hpt := hf.ptrN
  have hfit := hs.fit
  cases cn with
  | str T' PT' sz df sm mk e => exact hN.elim
  | prim p d =>
    simp only [KF.sch, Sch.tyR, Bool.and_eq_true, beq_iff_eq, decide_eq_true_eq] at hty
    obtain ⟨⟨⟨⟨⟨hF, hk⟩, _⟩, _⟩, _⟩, _⟩ := hty
    simp only [KF.sz] at hon h1
    simp only [knR] at hm h1 ⊢
    refine seqL_append ?_
    refine r_read ht (kOk_uu hk) hN hs hf (by omega) ?_
    intro f2 w2 u hu hrep2 he2 hr2 hk2
    have hs2 := hs.ext1 he2 hr2
    have hsz := rep1_sz hrep2
    refine seqL_one ?_
    refine r_store ht (o := o) ((hk2 pv (by omega) (by omega)).trans hf.ptr) hF hk hu (rep1_one hrep2) (by omega) (by omega) hs2.blk (by rw [hsz]; omega) ?_
    intro f3 cc3 hput hk3
    have hto := (RdTo.read (lo := o) hs he2 hr2 (KeepR.refl f2 c.l (c.l + 1) c.t)).trans (RdTo.put hs2 hput (Nat.le_refl o) (by rw [hsz]; omega) (l := c.l) (m := c.l + 1) (t := c.t) (fun y hy1 hy => hk3 y (by omega))) (Nat.le_refl _) (Nat.le_refl _) (Nat.le_refl _) (Nat.le_refl _)
    refine h1 (p.rd true rs).1 (p.rd true rs).2 rfl rfl f3 _ cc3 hto.st hput.size (fun j hj => hput.same j (by rw [hsz]; omega)) hto.ext ?_ (FldAt.put hs2 hput (by rw [hsz]; omega) hrep2)
    intro y hy1 hy
    rw [hk3 y (by omega), hk2 y (by omega) (by omega)]
  | arr sT T' PT' sz df es =>
    simp only [KF.sz] at hon h1 hty
    have hon' : o + 1 ≤ n := hon
    obtain ⟨hNl, hNe, hND, hNs⟩ := hN
    have hty' := hty
    simp only [KF.sch, Sch.tyR, Bool.and_eq_true, beq_iff_eq, decide_eq_true_eq] at hty'
    obtain ⟨⟨⟨⟨⟨⟨⟨⟨⟨hnul, hF⟩, hk⟩, hsli⟩, hel⟩, hok⟩, hte⟩, hlo⟩, hn⟩, _⟩ := hty'
    obtain ⟨v0, ls, hv0, harr, ⟨hsome, _⟩, hlen, _⟩ := hrep
    have hmk : c.l + 6 ≤ (knR C T PT pv ⟨num, k, o, .arr sT T' PT' sz df es⟩ c).2.l := by
      have := genR_mono (C := C) es T' PT' (c.l + 5) ⟨c.l + 6, c.t + headN C none + 11, c.k + 2⟩
      simp only [knR]
      exact this.1
    cases hb : (lenRd true rs).2.bad with
    | true =>
      have herr : Kn.rd ver (.arr sT T' PT' sz df es) v rs = .err := by simp only [Kn.rd, hb, if_true]
      obtain ⟨ad, cp, rfl, _⟩ := harr.form
      simp only [knR]
      rw [List.append_assoc]
      exact r_headBad ht hF hk hNl hNe hs hf (by omega) (by omega) hv0 rfl hb (h0 herr)
    | false =>
      cases hvs : (show Option (List es.T) from v).isSome with
      | true =>
        exfalso
        apply hnd
        simp only [Kn.rd, hb, Bool.false_eq_true, if_false]
        rw [if_pos hvs]
      | false =>
        have hrd : Kn.rd ver (.arr sT T' PT' sz df es) v rs = KO.of (arrRd none ver true (es.rd ver true) rs) := by
          simp only [Kn.rd, hb, Bool.false_eq_true, if_false]
          rw [if_neg (by rw [hvs]; simp)]
          rfl
        have hls : ls = none := by cases ls <;> simp_all
        subst hls
        have hv0' : v0 = .slice none 0 0 := harr
        subst hv0'
        have hchk : Sch.chkD (segL cc a (o + 1)) (KF.sch ⟨num, k, o, .arr sT T' PT' sz df es⟩) = true := by
          have : (segL cc a (o + 1))[o]? = some (.slice none 0 0) := by rw [segL_get (by omega)]; rw [segL_get (by omega)] at hv0; exact hv0
          simp only [KF.sch, Sch.chkD, this, isNilSli, Bool.and_self]
        have hgen := knR_sch C T PT pv ⟨num, k, o, .arr sT T' PT' sz df es⟩ c
        have hS := soundR ht (KF.sch ⟨num, k, o, .arr sT T' PT' sz df es⟩) T PT pv c Q f w b a (o + 1) o cc e ver true R rs hty ⟨hNl, hNe, hND, hNs, trivial⟩ hf (by rw [hgen]; exact hm) ⟨hs.blk, by omega, hs.rd, hs.rw_⟩ hchk
        rw [hgen] at hS
        have hsr : (Sch.rd ver true (KF.sch ⟨num, k, o, .arr sT T' PT' sz df es⟩) rs = none → arrRd none ver true (es.rd ver true) rs = none) ∧ ∀ x rs', Sch.rd ver true (KF.sch ⟨num, k, o, .arr sT T' PT' sz df es⟩) rs = some (x, rs') → ∃ y, arrRd none ver true (es.rd ver true) rs = some (y, rs') ∧ x = (y, ()) := by
          have e1 : Sch.rd ver true (KF.sch ⟨num, k, o, .arr sT T' PT' sz df es⟩) rs = match arrRd none ver true (es.rd ver true) rs with
            | none => none
            | some (a, rs1) => some ((a, ()), rs1) := by
            show Sch.rd ver true (.arrS ⟨none, none⟩ k o sT none T' PT' sz df es .fin) rs = _
            simp only [Sch.rd, Gd.on, if_true]
            cases arrRd none ver true (es.rd ver true) rs <;> rfl
          rw [e1]
          cases arrRd none ver true (es.rd ver true) rs with
          | none => exact ⟨fun _ => rfl, fun x rs' h => (by simp at h)⟩
          | some p =>
            obtain ⟨y, r1⟩ := p
            refine ⟨fun h => (by simp at h), fun x rs' h => ?_⟩
            have h' := Prod.mk.inj (Option.some.inj h)
            exact ⟨y, by rw [h'.2], h'.1.symm⟩
        refine hS ?_ ?_
        · intro hnone f' w' h6 he
          refine h0 ?_ f' w' h6 he
          rw [hrd, hsr.1 hnone]; rfl
        · intro x rs' hx f' w' cc' hto hrep'
          obtain ⟨y, hy, rfl⟩ := hsr.2 x rs' hx
          refine h1 y rs' hy (by rw [hrd, hy]; rfl) f' w' cc' ⟨hto.st.blk, by rw [hto.size]; exact hfit, hto.st.rd, hto.st.rw_⟩ hto.size (fun j hj => hto.same j (by omega)) hto.ext hto.keep ?_
          obtain ⟨v1, ls1, q1, q2, q3, q4, q5⟩ := hrep'.1
          have q1' : (segL cc' a (o + 1))[o]? = some v1 := q1
          rw [segL_get (by omega)] at q1'
          have q1n : (segL cc' a n)[o]? = some v1 := by rw [segL_get (by omega)]; exact q1'
          exact ⟨v1, ls1, q1n, q2, q3, q4, q5⟩
end
end Go.Kg

set_option linter.unusedSimpArgs false
set_option linter.unusedVariables false
set_option linter.unusedSectionVars false
namespace Go.Kg
open Go
section
variable {P : Program} {C : CfgR} {R : Rdr}
theorem bytes_one' {w : World} {K : Nat → Prop} {v : Value} {s : List UInt8} (h : BytesAt w K v s) : v.oneCell' = true := by
  obtain ⟨a, c, rfl, _⟩ := h.len; rfl
/-- b := kbin.Reader{Src: b.Span(int(b.Uvarint()))} -/
theorem r_open (hrb : TyRb P C.E) (iU : intKind? P C.E.tU32 = some .u32) (iI : intKind? P C.E.tInt = some .i64) (hU : RdC P C.E.tRd C.E.f_pkbin_Reader_Uvarint fun rs => (.int .u32 (rdUv rs).1, (rdUv rs).2)) (hS : SpanC P C.E.tRd C.E.f_pkbin_Reader_Span) {Q : Post} {f : Nat → Value} {w : World}
    {l t D pb : Nat} {rs : RS} (hr : f C.rs = .pointer (some ⟨pb, 0, none⟩)) (hne : pb ≠ D) (hD : D < w.heap.size) (hrd : RdAt C.E.tRd w pb D rs) (hl : l < t) (hrt : C.rs < t)
    (h : ∀ f' w' pi, f' l = .pointer (some ⟨pi, 0, none⟩) → w.heap.size ≤ pi → pi < w'.heap.size → RdAt C.E.tRd w' pi D ⟨(rdSpan (rdUv rs).1 (rdUv rs).2).1, false, (rdSpan (rdUv rs).1 (rdUv rs).2).2.nn⟩ → RdAt C.E.tRd w' pb D (rdSpan (rdUv rs).1 (rdUv rs).2).2 → Ext (· = pb) w w' → (∀ y, y < t → y ≠ l → f' y = f y) → Q .normal f' w') :
    (openI C l t).wp P Q f w := by
  have zr : ∀ n, (C.rs = t + n) = False := by intro n; simp; omega
  have zr' : (C.rs = t) = False := by simp; omega
  refine wp_reg ?_
  simp [openI, hr]
  refine (hU w pb D rs hne hrd).mono ?_
  rintro _ w1 ⟨rfl, he1, hr1⟩
  have hwr : IntKind.i64.wrap ((rdUv rs).1 : Int) = ((rdUv rs).1 : Int) := i64_small (by omega) (by have := rdUv_lt rs; omega)
  have hlt : pb < w.heap.size := by obtain ⟨sv, hb, _⟩ := hrd; exact lt_of_heap hb
  simp [iU, iI, hwr, hr, zr, zr']
  refine (hS w1 pb D _ _ hne hr1).mono ?_
  rintro v w2 ⟨hv, hnn, he2, hr2⟩
  have hv1 := bytes_one' hv
  have zl : ∀ n, (t + n = l) = False := by intro n; simp; omega
  simp [bld_rd hrb (cells_one hv1), hrb.z, Value.cells, zl, store_agg hrb.k, putK_blk alloc_new, hv1]
  have hov : over #[.slice none 0 0, .bool false] 0 [v, .bool false] = #[v, .bool false] := by simp [over]
  rw [hov]
  refine ⟨by simp only [allOne, hv1, Bool.true_and]; rfl, ?_⟩
  generalize hw3 : (w2.alloc (.cells #[.slice none 0 0, .bool false] C.E.tRd)).setBlk w2.heap.size (.cells #[v, .bool false] C.E.tRd (0, 0)) = w3
  have he12 : Ext (· = pb) w w2 := he1.trans he2
  have he3 : Ext none1 w2 w3 := by subst hw3; exact ((Ext.refl none1 w2).alloc _).setBlk (.inl (Nat.le_refl _)) _
  have hb3 : w3.heap[w2.heap.size]? = some (.cells #[v, .bool false] C.E.tRd (0, 0)) := by subst hw3; exact setBlk_same alloc_new
  refine h _ w3 w2.heap.size (by simp) he12.size (lt_of_heap hb3) ⟨v, hb3, hv.ext he3 (fun _ _ _ h => h), hnn⟩ (hr2.ext he3 (fun h => h) (fun h => h)) (he12.trans (he3.mono (fun _ _ h => h.elim))) ?_
  intro y hy hyl
  have x3 : ∀ n, (y = t + n) = False := by intro n; simp; omega
  have x4 : (y = t) = False := by simp; omega
  simp [x3, x4, hyl]
/-- one field behind the other: each at lo or above, all below hi -/
def ksLay (lo hi : Nat) : List KF → Bool
  | [] => decide (lo ≤ hi)
  | f :: l => decide (lo ≤ f.o) && ksLay (f.o + f.sz) hi l
theorem ksLay_le : ∀ {l : List KF} {lo hi : Nat}, ksLay lo hi l = true → lo ≤ hi
  | [], lo, hi, h => by simpa [ksLay] using h
  | f :: l, lo, hi, h => by
    simp only [ksLay, Bool.and_eq_true, decide_eq_true_eq] at h
    have := ksLay_le h.2
    omega
/-- what lies elsewhere does not count -/
theorem KsRep_cells {w : World} {K : Nat → Prop} {cs cs' : List Value} {hi : Nat} : ∀ {l : List KF} {lo : Nat} {x : KsT l}, ksLay lo hi l = true → (∀ j, lo ≤ j → j < hi → cs'[j]? = cs[j]?) → KsRep w K cs l x → KsRep w K cs' l x
  | [], _, _, _, _, _ => trivial
  | f :: l, lo, (v, r), hlay, hc, h => by
    simp only [ksLay, Bool.and_eq_true, decide_eq_true_eq] at hlay
    have hle := ksLay_le hlay.2
    exact ⟨Kn.Rep_cells f (fun j h1 h2 => hc j (by omega) (by omega)) h.1, KsRep_cells hlay.2 (fun j h1 h2 => hc j (by omega) h2) h.2⟩
theorem knR_mono (T PT pv : Nat) (kf : KF) (c : Ct) : c.l ≤ (knR C T PT pv kf c).2.l ∧ c.t ≤ (knR C T PT pv kf c).2.t := by
  have := genR_mono (C := C) kf.sch T PT pv c
  rw [knR_sch] at this
  exact this
theorem casesR_mono (T PT pv key : Nat) (d : Ir) : ∀ (ks : List KF) (c : Ct), c.l ≤ (casesR C T PT pv key d ks c).2.l ∧ c.t ≤ (casesR C T PT pv key d ks c).2.t
  | [], c => ⟨Nat.le_refl _, Nat.le_refl _⟩
  | f :: r, c => by
    have h1 := knR_mono (C := { C with rs := c.l }) T PT pv f ⟨c.l + 1, c.t + 6, c.k⟩
    have h2 := casesR_mono T PT pv key d r ⟨(knR { C with rs := c.l } T PT pv f ⟨c.l + 1, c.t + 6, c.k⟩).2.l + 1, (knR { C with rs := c.l } T PT pv f ⟨c.l + 1, c.t + 6, c.k⟩).2.t + 4, (knR { C with rs := c.l } T PT pv f ⟨c.l + 1, c.t + 6, c.k⟩).2.k⟩
    simp only [casesR]
    simp only at h1 h2
    omega
/-- what is asked of the section's types and readers -/
structure SecR (P : Program) (C : CfgR) : Prop where
  ty : TyR P C
  fx : C.fx = true
  rb : TyRb P C.E
  iU : intKind? P C.E.tU32 = some .u32
  iI : intKind? P C.E.tInt = some .i64
  uErr : ∃ ms, P.underlying C.E.tErr = some (.interface ms)
  endc : EndC P C
  uv : RdC P C.E.tRd C.E.f_pkbin_Reader_Uvarint fun rs => (.int .u32 (rdUv rs).1, (rdUv rs).2)
  span : SpanC P C.E.tRd C.E.f_pkbin_Reader_Span
/-- the inner reader's first state -/
def innerR (rs : RS) : RS := ⟨(rdSpan (rdUv rs).1 (rdUv rs).2).1, false, (rdSpan (rdUv rs).1 (rdUv rs).2).2.nn⟩
/-- what is left behind it -/
def outerR (rs : RS) : RS := (rdSpan (rdUv rs).1 (rdUv rs).2).2
theorem NeedRk_rs (l : Nat) : ∀ {c : Kn}, c.NeedR P C → c.NeedR P { C with rs := l } := by
  intro c h
  cases c with
  | prim p d => exact h
  | arr sT T PT sz df e => exact ⟨h.1, ⟨h.2.1.ok, h.2.1.complete⟩, h.2.2.1, NeedR_rs l e h.2.2.2⟩
  | str T PT sz df sm mk e => exact h
theorem r_cases (hsec : SecR P C) (hev : ∃ t v, R.ev = .iface t v) {T PT pv key kt n0 mm tm lo to a b n : Nat} {d : Ir} {e : TypeId} {ver : Int} {Q : Post} {rs : RS} {w : World} {cc : Array Value} {mp : Nat → Prop} (hkt : kt < tm) (hst : StR C R b a n w cc e rs) (hmp : ∀ k, mp k → k < w.heap.size) (hton : to < n) :
    ∀ (ks : List KF) (x : KsT ks) (lo : Nat) (c : Ct) (f : Nat → Value), (∀ kf ∈ ks, kf.sch.tyR P C T (kf.o + kf.sz) kf.o = true) → KsNeedR P C ks → ksLay lo to ks = true → KsRep w (fun k => k = R.D ∨ (R.base ≤ k ∧ ¬ mp k)) (segL cc a n) ks x → f kt = .int .u32 key →
      FrR C R f pv b a ver true n0 → n0 ≤ c.l → (casesR C T PT pv kt d ks c).2.l ≤ mm → mm ≤ tm → tm ≤ c.t → ksStep ver ks key x (innerR rs) ≠ .dup →
      (ksStep ver ks key x (innerR rs) = .err → ∀ f' w', f' 6 = R.ev → Ext (CB R b) w w' → Q .ret f' w') →
      (ksStep ver ks key x (innerR rs) = .ok none → ∀ f', (∀ y, y < tm → f' y = f y) → d.wp P Q f' w) →
      (∀ y, ksStep ver ks key x (innerR rs) = .ok (some y) → ∀ f' w' cc', StR C R b a n w' cc' e (outerR rs) → cc'.size = cc.size → (∀ j, (j < a + lo ∨ a + to ≤ j) → cc'[j]? = cc[j]?) → Ext (CB R b) w w' → KeepR f f' n0 mm tm → KsRep w' (fun k => k = R.D ∨ (R.base ≤ k ∧ ¬ mp k)) (segL cc' a n) ks y → Q .normal f' w') →
      (casesR C T PT pv kt d ks c).1.wp P Q f w := by
  obtain ⟨ht, hfx, hrb, iU, iI, uErr, hE, hUv, hSp⟩ := hsec
  intro ks
  induction ks with
  | nil =>
    intro x lo c f _ _ _ _ _ _ _ _ _ _ _ _ hnone _
    exact hnone rfl f (fun _ _ => rfl)
  | cons kf r ih =>
    rintro ⟨v, xr⟩ lo c f hty ⟨hN, hNr⟩ hlay ⟨hr, hrr⟩ hkey hf hn hm hmt htm hnd herr hnone hsome
    simp only [ksLay, Bool.and_eq_true, decide_eq_true_eq] at hlay
    have hle := ksLay_le hlay.2
    have hn10 := hf.nN
    have hpt := hf.ptrN
    have hrs := hf.rsN
    have m1 := knR_mono (C := { C with rs := c.l }) T PT pv kf ⟨c.l + 1, c.t + 6, c.k⟩
    simp only at m1
    simp only [casesR] at hm ⊢
    have hkn := fun (Q' : Post) (f' : Nat → Value) (w' : World) (cc' : Array Value) (R' : Rdr) (rs' : RS) => r_known (P := P) (C := { C with rs := c.l }) (R := R') (Q := Q') (f := f') (w := w') (TyR_rs c.l ht) (T := T) (PT := PT) (pv := pv) (kf := kf) hfx (b := b) (a := a) (n := n) (c := ⟨c.l + 1, c.t + 6, c.k⟩) (ver := ver) (cc := cc') (e := e) (rs := rs') (v := v) (K := fun k => k = R.D ∨ (R.base ≤ k ∧ ¬ mp k))
    generalize hz : knR { C with rs := c.l } T PT pv kf ⟨c.l + 1, c.t + 6, c.k⟩ = z at hm m1 hkn ⊢
    obtain ⟨kb, c1⟩ := z
    simp only at hm m1 hkn ⊢
    have m2 := casesR_mono (C := C) T PT pv kt d r ⟨c1.l + 1, c1.t + 4, c1.k⟩
    simp only at m2
    refine seqL_cons (wp_reg ?_)
    have zk : (kt = c.t + 1) = False := by simp; omega
    have zk' : (kt = c.t) = False := by simp; omega
    have hB : ∃ B : Bool, ((key : Int) == (kf.num : Int)) = B ∧ (B = true ↔ key = kf.num) := by
      refine ⟨_, rfl, ?_⟩
      simp
      omega
    obtain ⟨B, hB0, hB⟩ := hB
    simp [hkey, hB0]
    generalize hfu : upd (upd f (c.t + 1) _) c.t _ = fu
    have hku : ∀ y, y < c.t → fu y = f y := by
      intro y hy
      subst hfu
      have x1 : (y = c.t + 1) = False := by simp; omega
      have x2 : (y = c.t) = False := by simp; omega
      simp [x1, x2]
    have hbu : fu c.t = .bool B := by
      subst hfu
      simp
    have hfr : FrR C R fu pv b a ver true n0 := hf.keep (fun y hy _ => hku y (by omega)) (Nat.le_refl _)
    have hKK : ∀ k, k < w.heap.size → (k = R.D ∨ (R.base ≤ k ∧ ¬ mp k)) → ¬ CB R b k := fun k hk h => hst.rw_.keepK k hk (h.elim .inl (fun h => .inr h.1))
    by_cases heq : key = kf.num
    · have hB' := hB.2 heq
      subst heq
      refine .inl ⟨by rw [hbu, hB'], ?_⟩
      have hstep : ksStep ver (kf :: r) kf.num (v, xr) (innerR rs) = (kf.c.rd ver v (innerR rs)).map (fun y => some (y, xr)) := by simp only [ksStep, if_true]; rfl
      rw [hstep] at hnd herr hnone hsome
      refine seqL_cons ?_
      refine r_open hrb iU iI hUv hSp ((hku C.rs (by omega)).trans hf.rd) hst.rw_.ne.1 (Nat.lt_of_lt_of_le hst.rw_.lt.2.2.1 hst.rw_.lt.2.2.2) hst.rd (by omega) (by omega) ?_
      intro f1 w1 pi h1l hpi hpi1 hri hro he1 hk1
      have hst1 : StR C R b a n w1 cc e (outerR rs) := hst.ext1 he1 hro
      have hlt0 := hst.rw_.lt
      have hsz1 := he1.size
      -- the inner state
      have hstI : StR { C with rs := c.l } ⟨pi, R.D, pi + 1, R.ev⟩ b a n w1 cc e (innerR rs) := by
        refine ⟨hst1.blk, hst1.fit, hri, ⟨⟨by simp only; omega, by simp only; omega, by simp only; omega, by simp only; omega⟩, ⟨by simp only; omega, hst.rw_.ne.2.1, by simp only; omega⟩, hst1.rw_.err, ⟨?_, hst.rw_.errN.2⟩⟩⟩
        have := World.block_lt_of_cell? w _ hst.rw_.err
        simp only at this ⊢; omega
      have f1k : ∀ y, y < c.t → y ≠ c.l → f1 y = f y := fun y hy hyl => (hk1 y (by omega) hyl).trans (hku y hy)
      have hfI : FrR { C with rs := c.l } ⟨pi, R.D, pi + 1, R.ev⟩ f1 pv b a ver true (c.l + 1) :=
        ⟨(f1k pv (by omega) (by omega)).trans hf.ptr, by omega, hf.v0, (f1k 8 (by omega) (by omega)).trans hf.ver, fun hx => (f1k 9 (by omega) (by omega)).trans (hf.flg hx), hf.flN, h1l, (f1k 2 (by omega) (by omega)).trans hf.us, by omega, ⟨by simp only; omega, by simp only; omega⟩⟩
      have hextI : ∀ w', Ext (CB ⟨pi, R.D, pi + 1, R.ev⟩ b) w1 w' → Ext (CB R b) w w' := by
        intro w' h
        refine Ext.trans' (C := CB R b) (he1.mono (fun _ _ h => .inl h)) h ?_
        rintro k hk (h' | h')
        · simp only at h'; omega
        · exact .inr h'
      have hr1 : kf.c.Rep w1 (fun k => k = R.D ∨ (R.base ≤ k ∧ ¬ mp k)) (segL cc a n) kf.o v := Kn.Rep_ext he1 (fun k hk h => fun hc => hKK k hk h (.inl hc)) kf.c hr
      refine seqL_append ?_
      refine hkn _ f1 w1 cc ⟨pi, R.D, pi + 1, R.ev⟩ (innerR rs) (by rw [tyR_rs]; exact hty kf List.mem_cons_self) (by omega) (NeedRk_rs c.l hN) hfI (by omega) hstI hr1 (fun h => hnd (by rw [h]; rfl)) ?_ ?_
      · intro h f' w' h6 he
        exact herr (by rw [h]; rfl) f' w' h6 (hextI w' he)
      · intro y rs' hraw hrd f2 w2 cc2 hst2 hsz2 hsame2 he2 hk2 hrep2
        have h2l : f2 c.l = .pointer (some ⟨pi, 0, none⟩) := (hk2 c.l (by omega) (.inl (by omega))).trans h1l
        refine r_err (C := C) (pb := pi) (D := R.D) (rs := rs') (ev := R.ev) hE uErr hev hst2.rd hst2.rw_.err h2l (by omega) ?_ ?_
        · intro hbad f3 h6
          refine herr ?_ f3 w2 h6 (hextI w2 he2)
          rw [hrd]
          simp only [KO.of, hbad, if_true, KO.map]; rfl
        · intro hbad f3 hk3
          have hw2 := hextI w2 he2
          refine hsome (y, xr) ?_ f3 w2 cc2 ?_ hsz2 ?_ hw2 ?_ ⟨?_, ?_⟩
          · rw [hrd]
            simp only [KO.of, hbad, Bool.false_eq_true, if_false, KO.map]; rfl
          · refine ⟨hst2.blk, hst2.fit, ?_, hst.rw_.ext hw2⟩
            refine hro.ext he2 ?_ ?_
            · rintro (h' | h')
              · simp only at h'; omega
              · exact hst.rw_.ne.2.2 h'
            · rintro (h' | h')
              · simp only at h'; omega
              · exact hst.rw_.ne.2.1 h'.symm
          · intro j hj
            exact hsame2 j (by omega)
          · intro z hz1 hz
            rw [hk3 z (by omega) (by omega), hk2 z hz1 (by omega)]
            exact f1k z (by omega) (by omega)
          · refine (kf.rep_iff y).2 (Sch.Rep_mono (fun k hk => ?_) kf.sch ((kf.rep_iff y).1 hrep2))
            rcases hk with h' | h'
            · exact .inl h'
            · simp only at h'
              refine .inr ⟨by omega, fun hm' => ?_⟩
              have := hmp k hm'
              omega
          · refine KsRep_cells hlay.2 (fun j hj1 hj2 => ?_) (KsRep_ext hw2 hKK r hrr)
            rw [segL_get (by omega), segL_get (by omega)]
            exact hsame2 (a + j) (by omega)
    · have hstep : ksStep ver (kf :: r) key (v, xr) (innerR rs) = (ksStep ver r key xr (innerR rs)).map (Option.map fun r => (v, r)) := by simp only [ksStep, if_neg heq]; rfl
      rw [hstep] at hnd herr hnone hsome
      have hBf : B = false := by
        cases B
        · rfl
        · exact absurd (hB.1 rfl) heq
      refine .inr ⟨by rw [hbu, hBf], ?_⟩
      refine ih xr (kf.o + kf.sz) ⟨c1.l + 1, c1.t + 4, c1.k⟩ fu (fun g hg => hty g (List.mem_cons_of_mem _ hg)) hNr hlay.2 hrr ((hku kt (by omega)).trans hkey) hfr (by simp only; omega) hm hmt (by simp only; omega) (fun h => hnd (by rw [h]; rfl)) ?_ ?_ ?_
      · intro h f' w' h6 he
        exact herr (by rw [h]; rfl) f' w' h6 he
      · intro h f' hk'
        exact hnone (by rw [h]; rfl) f' (fun y hy => (hk' y hy).trans (hku y (by omega)))
      · intro y h f' w' cc' h1 h2 h3 h4 h5 h6
        refine hsome (v, y) (by rw [h]; rfl) f' w' cc' h1 h2 (fun j hj => h3 j (by omega)) h4 (fun z hz1 hz => (h5 z hz1 hz).trans (hku z (by omega))) ⟨?_, h6⟩
        refine Kn.Rep_cells kf (fun j hj1 hj2 => ?_) (Kn.Rep_ext h4 hKK kf.c hr)
        rw [segL_get (by omega), segL_get (by omega)]
        exact h3 (a + j) (by omega)
end
end Go.Kg

set_option linter.unusedSimpArgs false
set_option linter.unusedVariables false
set_option linter.unusedSectionVars false
namespace Go.Kg
open Go
/-- where pointers of what has been read lie: not the map of the unknown tags -/
def KX (R : Rdr) (uv : Value) (k : Nat) : Prop := k = R.D ∨ (R.base ≤ k ∧ ¬ uv = .map (some k))
structure KIn (C : CfgR) (R : Rdr) (ks : List KF) (ver : Int) (b a n lo to L mm tm N : Nat) (e : TypeId) (f0 : Nat → Value) (w0 : World) (cc0 : Array Value) (rs0 : RS) (i : Nat) (x : KsT ks) (u : TagL) (rs : RS) (f : Nat → Value) (w : World) : Prop where
  fi : f L = .int .u32 i
  keep : KeepR f0 f L mm tm
  ext : Ext (CB R b) w0 w
  st : ∃ cc uv, StR C R b a n w cc e rs ∧ cc.size = cc0.size ∧ (∀ j, (j < a + lo ∨ a + n ≤ j) → cc[j]? = cc0[j]?) ∧ cc[a + to]? = some uv ∧ TagsM w R.D R.base uv u ∧ (∀ m, uv = .map (some m) → w0.heap.size ≤ m) ∧ KsRep w (KX R uv) (segL cc a n) ks x
  nd : (u.map (·.1)).Nodup
  len : u.length + i ≤ N
  todo : kLoop (ksStep ver ks) i x u rs = kLoop (ksStep ver ks) N (ksDfl ks) [] rs0
section
variable {P : Program} {C : CfgR} {R : Rdr}
theorem secRI_mono (T PT pv : Nat) (ks : List KF) (tk : Nat) (c : Ct) : c.l + 2 ≤ (secRI C T PT pv ks tk c).2.l ∧ c.t + 16 ≤ (secRI C T PT pv ks tk c).2.t := by
  have := casesR_mono (C := C) T PT pv (c.t + 7) (unkR C T PT pv tk (c.l + 1) (c.t + 8)) ks ⟨c.l + 2, c.t + 16, c.k + 3⟩
  simp only [secRI]
  exact this
/-- i-- -/
theorem r_dec {Q : Post} {g : Nat → Value} {w : World} {L t i : Nat} (hi : g L = .int .u32 ((i + 1 : Nat) : Int)) (hlt : i + 1 < 4294967296) (hL : L < t) (h : ∀ g', (∀ y, y < t → y ≠ L → g' y = g y) → g' L = .int .u32 (i : Nat) → Q .normal g' w) :
    (Ir.reg [⟨none, some t, .move (.tmp L), C.E.tU32⟩, ⟨none, some (t + 1), .binOp .sub C.E.tU32 (.tmp t) (.const (.int .u32 1)) C.E.tU32, C.E.tU32⟩, ⟨none, some L, .assign (.tmp (t + 1)), C.E.tU32⟩]).wp P Q g w := by
  have hwk : IntKind.u32.wrap (((i + 1 : Nat) : Int) - 1) = (i : Int) := by simp [IntKind.wrap, IntKind.signed, IntKind.bits]; omega
  refine wp_reg ?_
  simp only [hi, regW_plain, updO, stp_move, stp_assign, stp_binOp, evF, upd_apply, if_true, bin_sub, hwk, optK, regW_nil]
  refine h _ ?_ (by simp)
  intro y hy hyL
  have x1 : (y = t) = False := by simp; omega
  have x2 : (y = t + 1) = False := by simp; omega
  simp [x1, x2, hyL]
theorem TagsM.map_lt {w : World} {D base m : Nat} {u : TagL} (h : TagsM w D base (.map (some m)) u) : m < w.heap.size ∧ base ≤ m := by
  rcases h with ⟨h, _⟩ | ⟨m', es, clock, h, hm, hb, _⟩
  · cases h
  · cases h; exact ⟨lt_of_heap hb, hm⟩
theorem r_sec (hsec : SecR P C) (htg : TyTg P C.E) (uU : P.underlying C.E.tU32 = some (.int .u32)) (hIset : FnIs P C.E.f_pkmsg_Tags_Set nt_pkmsg_Tags_Set (rs_pkmsg_Tags_Set C.E) (ir_pkmsg_Tags_Set C.E)) (hev : ∃ t v, R.ev = .iface t v) {T PT pv tk to lo a b n : Nat} {ks : List KF} {c : Ct} {e : TypeId} {ver : Int} {fl : Bool} {Q : Post} {rs : RS} {f : Nat → Value} {w : World} {cc : Array Value}
    (hF : fldOff P T tk = some to) (hty : ∀ kf ∈ ks, kf.sch.tyR P C T (kf.o + kf.sz) kf.o = true) (hN : KsNeedR P C ks) (hlay : ksLay lo to ks = true) (hton : to + 1 ≤ n) (hf : FrR C R f pv b a ver fl c.l) (hc : (secRI C T PT pv ks tk c).2.l ≤ c.t) (hst : StR C R b a n w cc e rs)
    (hd : ∀ K, KsRep w K (segL cc a n) ks (ksDfl ks)) (hnil : cc[a + to]? = some (.map none))
    (hdup : ∀ rs', secRd ver fl ks rs ≠ some (none, rs'))
    (h0 : secRd ver fl ks rs = none → ∀ f' w', f' 6 = R.ev → Ext (CB R b) w w' → Q .ret f' w')
    (h1 : ∀ x u rs', secRd ver fl ks rs = some (some (x, u), rs') → ∀ f' w' cc' uv, StR C R b a n w' cc' e rs' → cc'.size = cc.size → (∀ j, (j < a + lo ∨ a + n ≤ j) → cc'[j]? = cc[j]?) → Ext (CB R b) w w' → KeepR f f' c.l (secRI C T PT pv ks tk c).2.l c.t → KsRep w' (RK R) (segL cc' a n) ks x → cc'[a + to]? = some uv → TagsAt w' (RK R) uv u → Q .normal f' w') :
    (secRI C T PT pv ks tk c).1.wp P Q f w := by
  have hsec' := hsec
  obtain ⟨ht, hfx, hrb, iU, iI, uErr, hE, hUv, hSp⟩ := hsec
  have hn10 := hf.nN
  have hpt := hf.ptrN
  have hrs := hf.rsN
  have hmono := secRI_mono (C := C) T PT pv ks tk c
  have hlo := ksLay_le hlay
  simp only [secRI] at hc h1 hmono ⊢
  have hcs := fun (Q' : Post) (rs' : RS) (w' : World) (cc' : Array Value) (mp : Nat → Prop) (key : Nat) => r_cases (P := P) (C := C) (R := R) hsec' hev (T := T) (PT := PT) (pv := pv) (key := key) (kt := c.t + 7) (n0 := c.l + 2) (mm := (casesR C T PT pv (c.t + 7) (unkR C T PT pv tk (c.l + 1) (c.t + 8)) ks ⟨c.l + 2, c.t + 16, c.k + 3⟩).2.l) (tm := c.t + 8) (to := to) (a := a) (b := b) (n := n) (d := unkR C T PT pv tk (c.l + 1) (c.t + 8)) (e := e) (ver := ver) (Q := Q') (rs := rs') (w := w') (cc := cc') (mp := mp) (ks := ks) (lo := lo) (c := ⟨c.l + 2, c.t + 16, c.k + 3⟩)
  generalize hz : casesR C T PT pv (c.t + 7) (unkR C T PT pv tk (c.l + 1) (c.t + 8)) ks ⟨c.l + 2, c.t + 16, c.k + 3⟩ = z at hc h1 hmono hcs ⊢
  obtain ⟨cw, c1⟩ := z
  simp only at hc h1 hmono hcs ⊢
  refine r_cond (hf.flg hfx) (by omega) ?_ ?_
  rotate_left
  · rintro rfl f1 hk1
    show Q .normal f1 w
    refine h1 (ksDfl ks) [] rs rfl f1 w cc (.map none) hst rfl (fun _ _ => rfl) (Ext.refl _ _) ?_ (hd _) hnil (.inl ⟨rfl, rfl⟩)
    intro z hz1 hz
    exact hk1 z (by omega)
  · rintro rfl f1 hk1
    have hsr : secRd ver true ks rs = kLoop (ksStep ver ks) (rdUv rs).1 (ksDfl ks) [] (rdUv rs).2 := rfl
    rw [hsr] at h0 h1 hdup
    have f1r : f1 C.rs = .pointer (some ⟨R.pb, 0, none⟩) := (hk1 C.rs (by omega)).trans hf.rd
    refine seqL_cons (wp_reg ?_)
    simp [f1r]
    refine (hUv w R.pb R.D rs hst.rw_.ne.1 hst.rd).mono ?_
    rintro _ w1 ⟨rfl, he1, hr1⟩
    simp
    have hst1 := hst.ext1 he1 hr1
    generalize hf2 : upd (upd f1 (c.t + 1) (.int .u32 (rdUv rs).1)) c.l (.int .u32 (rdUv rs).1) = f2
    have f2k : ∀ y, y < c.t → y ≠ c.l → f2 y = f y := by
      intro y hy hyl
      subst hf2
      have x1 : (y = c.t + 1) = False := by simp; omega
      simp [x1, hyl]
      exact hk1 y hy
    have f2i : f2 c.l = .int .u32 (rdUv rs).1 := by subst hf2; simp
    have hNlt := rdUv_lt rs
    -- the loop
    show (Ir.block c.k (Ir.loop _)).wp P Q f2 w1
    show (Ir.loop _).wp P (inBlockF c.k Q) f2 w1
    refine ⟨fun f' w' => ∃ i x u rs', KIn C R ks ver b a n lo to c.l c1.l c.t (rdUv rs).1 e f2 w1 cc (rdUv rs).2 i x u rs' f' w', fun f' _ => match f' c.l with | .int _ i => i.toNat | _ => 0, ?_, ?_⟩
    · exact ⟨(rdUv rs).1, ksDfl ks, [], (rdUv rs).2, f2i, KeepR.refl _ _ _ _, Ext.refl _ _, ⟨cc, .map none, hst1, rfl, fun _ _ => rfl, hnil, .inl ⟨rfl, rfl⟩, (fun m h => by cases h), KsRep_ext he1 (K := KX R (.map none)) (fun k hk h hc => by
        rcases h with h | h
        · exact hst.rw_.ne.1 (hc.symm.trans h)
        · have := hst.rw_.lt.1; have hc' : k = R.pb := hc; omega) ks (hd _)⟩, by simp, by simp, rfl⟩
    · rintro g w2 ⟨i, x, u, rs2, gi, gk, gext, ⟨cc2, uv, gst, gsz, gsame, guv, gM, gnew, grep⟩, gnd, glen, gtodo⟩
      have gk' : ∀ y, y ≠ 1 → y < c.t → (y < c.l ∨ c1.l ≤ y) → g y = f y := fun y hy1 hy hyl => (gk y hy1 (by omega)).trans (f2k y hy (by omega))
      refine wp_seqI ?_
      show (Ir.seq _ _).wp P _ g w2
      refine wp_seqI (wp_reg ?_)
      simp [gi]
      by_cases hi : i = 0
      · -- all is read
        subst hi
        refine .inr ⟨by simp, ?_⟩
        show inBlockF c.k Q (.exit c.k) _ _
        rw [inBlockF_exit, if_pos rfl]
        simp only [kLoop] at gtodo
        have hM : TagsAt w2 (RK R) uv u := by
          rw [tagsAt_iff]
          rcases gM with ⟨rfl, rfl⟩ | ⟨m, es, clock, rfl, hm, hmb, he, hn⟩
          · exact .inl ⟨rfl, rfl⟩
          · exact .inr ⟨m, es, clock, rfl, .inr hm, hmb, EL.mono (fun b hb => .inl hb) he, gnd, hn, by omega⟩
        refine h1 x u rs2 gtodo.symm _ w2 cc2 uv gst gsz gsame ?_ ?_ (KsRep_mono (fun k hk => hk.elim .inl (fun h => .inr h.1)) ks grep) guv hM
        · exact (he1.mono (fun _ _ h => .inl h)).trans gext
        · intro y hy1 hy
          have x1 : ∀ k, (y = c.t + k) = False := by intro k; simp; omega
          simp [x1]
          exact gk' y hy1 (by omega) (by omega)
      · refine .inl ⟨by simp; omega, ?_⟩
        obtain ⟨i, rfl⟩ : ∃ j, i = j + 1 := ⟨i - 1, by omega⟩
        generalize hg3 : upd (upd g (c.t + 2) _) (c.t + 3) _ = g3
        have g3k : ∀ y, y < c.t + 2 → g3 y = g y := by
          intro y hy
          subst hg3
          have x1 : (y = c.t + 2) = False := by simp; omega
          have x2 : (y = c.t + 3) = False := by simp; omega
          simp [x1, x2]
        have g3rs : g3 C.rs = .pointer (some ⟨R.pb, 0, none⟩) := (g3k C.rs (by omega)).trans ((gk' C.rs (by omega) (by omega) (by omega)).trans hf.rd)
        show (Ir.seq _ _).wp P _ g3 w2
        refine wp_seqI ?_
        show (seqL _).wp P _ g3 w2
        refine seqL_cons (wp_reg ?_)
        simp [g3rs]
        refine (hUv w2 R.pb R.D rs2 gst.rw_.ne.1 gst.rd).mono ?_
        rintro _ w3 ⟨rfl, he3, hr3⟩
        simp
        refine seqL_cons (wp_reg ?_)
        simp
        have hst3 := gst.ext1 he3 hr3
        generalize hg4 : upd (upd (upd g3 (c.t + 6) _) (c.l + 1) _) (c.t + 7) _ = g4
        have g4k : ∀ y, y < c.t + 2 → y ≠ c.l + 1 → g4 y = g y := by
          intro y hy hyl
          subst hg4
          have x1 : (y = c.t + 6) = False := by simp; omega
          have x2 : (y = c.t + 7) = False := by simp; omega
          simp [x1, x2, hyl]
          exact g3k y hy
        have g4key : g4 (c.t + 7) = .int .u32 ((rdUv rs2).1 : Nat) := by subst hg4; simp
        have g4l : g4 (c.l + 1) = .int .u32 ((rdUv rs2).1 : Nat) := by
          subst hg4
          have x1 : (c.l + 1 = c.t + 7) = False := by simp; omega
          simp [x1]
        have g4i : g4 c.l = .int .u32 ((i + 1 : Nat) : Int) := (g4k c.l (by omega) (by omega)).trans gi
        have hfr4 : FrR C R g4 pv b a ver true c.l := hf.keep (fun y hy hy1 => (g4k y (by omega) (by omega)).trans (gk' y hy1 (by omega) (.inl hy))) (Nat.le_refl _)
        have hK2 : ∀ k, k < w2.heap.size → KX R uv k → ¬ (k = R.pb) := fun k hk h hc => by
          rcases h with h | h
          · exact gst.rw_.ne.1 (hc.symm.trans h)
          · have := gst.rw_.lt.1; omega
        have grep3 : KsRep w3 (KX R uv) (segL cc2 a n) ks x := KsRep_ext he3 hK2 ks grep
        have gM3 : TagsM w3 R.D R.base uv u := gM.ext he3 (fun h => gst.rw_.ne.1 h.symm) (fun k hk hb h => by have := gst.rw_.lt.1; have h' : k = R.pb := h; omega)
        have hmp : ∀ k, (uv = .map (some k)) → k < w3.heap.size := fun k hk => by subst hk; exact (TagsM.map_lt gM3).1
        have hdup' : ksStep ver ks (rdUv rs2).1 x (innerR (rdUv rs2).2) ≠ .dup := by
          intro h
          refine hdup (outerR (rdUv rs2).2) ?_
          rw [← gtodo]
          simp only [kLoop]
          unfold innerR at h
          rw [h]
          rfl
        have glt : i + 1 < 4294967296 := by omega
        have gx3 : Ext (CB R b) w1 w3 := gext.trans (he3.mono (fun _ _ h => .inl h))
        show (Ir.block (c.k + 2) cw).wp P _ g4 w3
        show cw.wp P _ g4 w3
        have gK : ∀ y, y ≠ 1 → (y < c.l ∨ (c1.l ≤ y ∧ y < c.t)) → g4 y = f2 y := fun y hy1 hy => (g4k y (by omega) (by omega)).trans (gk y hy1 hy)
        refine hcs _ (rdUv rs2).2 w3 cc2 (fun k => uv = .map (some k)) (rdUv rs2).1 (by omega) hst3 hmp (by omega) x lo g4 hty hN hlay grep3 g4key (hfr4.up (by omega)) (Nat.le_refl _) (Nat.le_refl _) (by omega) (by omega) hdup' ?_ ?_ ?_
        · -- an error within
          intro herr g5 w5 h6 he5
          show Q .ret g5 w5
          refine h0 ?_ g5 w5 h6 ((he1.mono (fun _ _ h => .inl h)).trans (gx3.trans he5))
          rw [← gtodo]
          simp only [kLoop]
          unfold innerR at herr
          rw [herr]
        · -- an unknown one
          intro hnone g5 hk5
          have hloop : kLoop (ksStep ver ks) (i + 1) x u rs2 = kLoop (ksStep ver ks) i x (setTag (rdUv rs2).1 (rdSpan (rdUv (rdUv rs2).2).1 (rdUv (rdUv rs2).2).2).1 u) (outerR (rdUv rs2).2) := by
            simp only [kLoop]
            unfold innerR at hnone
            rw [hnone]; rfl
          have g5pv : g5 pv = .pointer (some ⟨b, a, none⟩) := (hk5 pv (by omega)).trans hfr4.ptr
          have g5rs : g5 C.rs = .pointer (some ⟨R.pb, 0, none⟩) := (hk5 C.rs (by omega)).trans hfr4.rd
          have g5l : g5 (c.l + 1) = .int .u32 ((rdUv rs2).1 : Nat) := (hk5 (c.l + 1) (by omega)).trans g4l
          have y1 : ∀ k, (pv = c.t + 8 + k) = False := by intro k; simp; omega
          have y1' : (pv = c.t + 8) = False := by simp; omega
          have y2 : ∀ k, (C.rs = c.t + 8 + k) = False := by intro k; simp; omega
          have y2' : (C.rs = c.t + 8) = False := by simp; omega
          have y3 : ∀ k, (c.l + 1 = c.t + 8 + k) = False := by intro k; simp; omega
          have y3' : (c.l + 1 = c.t + 8) = False := by simp; omega
          have y5 : ∀ k, (c.l = c.t + k) = False := by intro k; simp; omega
          refine Ir.cw_sound _ ?_
          have hD := (Ext.refl none1 w3).drew
          refine cw_regH (fun _ => True) trivial ?_
          simp +contextual [g5pv, g5rs, g5l, hF, Addr.add_mk, y1, y1', y2, y2', y3, y3', y5, iU, iI]
          have hrD : RdAt C.E.tRd w3.drew R.pb R.D (rdUv rs2).2 := hr3.ext hD (fun h => h) (fun h => h)
          refine (hUv w3.drew R.pb R.D _ gst.rw_.ne.1 hrD).mono ?_
          rintro _ w4 ⟨rfl, he4, hr4⟩
          have hwr : IntKind.i64.wrap ((rdUv (rdUv rs2).2).1 : Int) = ((rdUv (rdUv rs2).2).1 : Int) := i64_small (by omega) (by have := rdUv_lt (rdUv rs2).2; omega)
          simp [iU, iI, hwr, y2, y2', g5rs]
          refine (hSp w4 R.pb R.D _ _ gst.rw_.ne.1 hr4).mono ?_
          rintro v w5 ⟨hv, _, he5, hr5⟩
          have he35 : Ext (· = R.pb) w3 w5 := (hD.mono (fun _ _ h => h.elim)).trans (he4.trans he5)
          have hst5 : StR C R b a n w5 cc2 e (outerR (rdUv rs2).2) := hst3.ext1 he35 hr5
          have gM5 : TagsM w5 R.D R.base uv u := gM3.ext he35 (fun h => gst.rw_.ne.1 h.symm) (fun k hk hb h => by have := gst.rw_.lt.1; have h' : k = R.pb := h; omega)
          have hK3 : ∀ k, k < w3.heap.size → KX R uv k → ¬ (k = R.pb) := fun k hk h hc => by
            rcases h with h | h
            · exact gst.rw_.ne.1 (hc.symm.trans h)
            · have := gst.rw_.lt.1; omega
          have grep5 : KsRep w5 (KX R uv) (segL cc2 a n) ks x := KsRep_ext he35 hK3 ks grep3
          refine (c_TSetM htg uU hIset (rdUv_lt rs2) hv hst5.blk guv gM5 hst5.rw_.lt.2.2.1 (fun h => hst5.rw_.ne.2.1 h.symm) hst5.rw_.lt.2.2.2).mono ?_
          rintro _ w6 ⟨u', hb6, hM6, he6, hu6⟩
          try simp
          have hsz5 := he35.size
          have hsz3 := gx3.size
          have hx6 : ∀ k, k < w5.heap.size → (k = b ∨ uv = .map (some k)) → CB R b k ∨ w1.heap.size ≤ k := fun k hk h => h.elim (fun h => .inl (.inr h)) (fun h => .inr (gnew k h))
          have gx6 : Ext (CB R b) w1 w6 := Ext.trans' (C := CB R b) (gx3.trans (he35.mono (fun _ _ h => .inl h))) he6 (fun k hk h => by
            rcases hx6 k (by omega) h with h' | h'
            · exact h'
            · omega)
          have hmapb : ∀ k, uv = .map (some k) → R.base ≤ k ∧ k < w5.heap.size := fun k hk => by subst hk; exact ⟨(TagsM.map_lt gM5).2, (TagsM.map_lt gM5).1⟩
          have holt : a + to < cc2.size := (Array.getElem?_eq_some_iff.1 guv).1
          have hst6 : StR C R b a n w6 (cc2.setIfInBounds (a + to) u') e (outerR (rdUv rs2).2) := by
            refine ⟨hb6, by simpa using hst5.fit, hst5.rd.ext he6 ?_ ?_, ⟨⟨hst5.rw_.lt.1, hst5.rw_.lt.2.1, hst5.rw_.lt.2.2.1, Nat.le_trans hst5.rw_.lt.2.2.2 he6.size⟩, hst5.rw_.ne, he6.cell hst5.rw_.err ?_, hst5.rw_.errN⟩⟩
            · rintro (h | h)
              · exact hst5.rw_.ne.2.2 h
              · have := (hmapb _ h).1; have := hst5.rw_.lt.1; omega
            · rintro (h | h)
              · exact hst5.rw_.ne.2.1 h.symm
              · have := (hmapb _ h).1; have := hst5.rw_.lt.2.2.1; omega
            · rintro (h | h)
              · exact hst5.rw_.errN.2 h
              · have h7 : w1.heap.size ≤ C.E.g_kbin_ErrNotEnoughData := gnew _ h
                have h8 := World.block_lt_of_cell? w _ hst.rw_.err
                have h9 := he1.size
                simp only at h8
                omega
          -- the fields
          have grep6 : KsRep w6 (KX R u') (segL (cc2.setIfInBounds (a + to) u') a n) ks x := by
            have q1 := KsRep_ltK ks grep5
            have q2 := KsRep_ext he6 (K := fun k => KX R uv k ∧ k < w5.heap.size) (fun k hk h hc => by
              rcases hc with hc | hc
              · rcases h.1 with h' | h'
                · exact hst5.rw_.ne.2.1 (hc.symm.trans h')
                · have := hst5.rw_.lt.2.1; omega
              · rcases h.1 with h' | h'
                · have := (hmapb _ hc).1; have := hst5.rw_.lt.2.2.1; omega
                · exact h'.2 hc) ks q1
            have q3 := KsRep_mono (K' := KX R u') (fun k h => by
              rcases h.1 with h' | h'
              · exact .inl h'
              · refine .inr ⟨h'.1, fun hc => ?_⟩
                rcases hu6 with rfl | rfl
                · exact h'.2 hc
                · cases hc; have := h.2; omega) ks q2
            refine KsRep_cells hlay (fun j hj1 hj2 => ?_) q3
            rw [segL_get (by omega), segL_get (by omega), Array.getElem?_setIfInBounds, if_neg (by omega)]
          show (Ir.reg _).wp P _ _ w6
          refine r_dec (i := i) ?_ glt (by omega) ?_
          · have y0 : ∀ k, (c.l = c.t + 8 + k) = False := by intro k; simp; omega
            have y0' : (c.l = c.t + 8) = False := by simp; omega
            simp [y0, y0']
            exact (hk5 c.l (by omega)).trans g4i
          · intro g7 hk7 h7i
            refine ⟨⟨i, x, setTag (rdUv rs2).1 (rdSpan (rdUv (rdUv rs2).2).1 (rdUv (rdUv rs2).2).2).1 u, outerR (rdUv rs2).2, h7i, ?_, gx6, ⟨_, u', hst6, by simpa using gsz, ?_, ?_, hM6, ?_, grep6⟩, setTag_nodup _ _ _ gnd, ?_, ?_⟩, ?_⟩
            · intro y hy1 hy
              have y0 : ∀ k, (y = c.t + 8 + k) = False := by intro k; simp; omega
              have y0' : (y = c.t + 8) = False := by simp; omega
              rw [hk7 y (by omega) (by omega)]
              simp [y0, y0']
              rw [hk5 y (by omega)]
              exact gK y hy1 hy
            · intro j hj
              rw [Array.getElem?_setIfInBounds, if_neg (by omega)]
              exact gsame j hj
            · simp [holt]
            · intro m hm
              rcases hu6 with rfl | rfl
              · exact gnew m hm
              · cases hm; omega
            · have := setTag_len1 (rdUv rs2).1 (rdSpan (rdUv (rdUv rs2).2).1 (rdUv (rdUv rs2).2).2).1 u
              omega
            · rw [← hloop]; exact gtodo
            · simp only [h7i, gi]
              omega
        · -- a known one
          intro x' hx' g5 w5 cc5 hst5 hsz5 hsame5 he5 hk5 hrep5
          have hloop : kLoop (ksStep ver ks) (i + 1) x u rs2 = kLoop (ksStep ver ks) i x' u (outerR (rdUv rs2).2) := by
            simp only [kLoop]
            unfold innerR at hx'
            rw [hx']; rfl
          have guv5 : cc5[a + to]? = some uv := by rw [hsame5 (a + to) (by omega)]; exact guv
          have gM5 : TagsM w5 R.D R.base uv u := gM3.ext he5 (fun h => by
            rcases h with h | h
            · exact gst.rw_.ne.1 h.symm
            · exact gst.rw_.ne.2.1 h.symm) (fun k hk hb h => by
            have := gst.rw_.lt.1
            have := gst.rw_.lt.2.1
            rcases h with h | h <;> omega)
          show (Ir.reg _).wp P _ g5 w5
          refine r_dec (i := i) ((hk5 c.l (by omega) (.inl (by omega))).trans g4i) glt (by omega) ?_
          intro g7 hk7 h7i
          refine ⟨⟨i, x', u, outerR (rdUv rs2).2, h7i, ?_, gx3.trans he5, ⟨cc5, uv, hst5, by rw [hsz5]; exact gsz, ?_, guv5, gM5, gnew, hrep5⟩, gnd, by omega, ?_⟩, ?_⟩
          · intro y hy1 hy
            rw [hk7 y (by omega) (by omega), hk5 y hy1 (by omega)]
            exact gK y hy1 hy
          · intro j hj
            rw [hsame5 j (by omega)]
            exact gsame j hj
          · rw [← hloop]; exact gtodo
          · simp only [h7i, gi]
            omega
end
end Go.Kg

set_option linter.unusedSimpArgs false
set_option linter.unusedVariables false
set_option linter.unusedSectionVars false
namespace Go.Kg
open Go
/-- what is read of the version, and what is left -/
def kvV (src : List UInt8) (nn : Bool) : Int := (Prim.rd .i16 false ⟨src, false, nn⟩).1
def kvR (src : List UInt8) (nn : Bool) : RS := (Prim.rd .i16 false ⟨src, false, nn⟩).2
end Go.Kg

set_option linter.unusedSimpArgs false
set_option linter.unusedVariables false
set_option linter.unusedSectionVars false
namespace Go.Kg
open Go
/-- what lies elsewhere does not count -/
theorem Sch.Rep_cells {P : Program} {C : CfgR} {w : World} {K : Nat → Prop} {cs cs' : List Value} : ∀ (S : Sch) {T n lo : Nat} {x : S.T}, S.tyR P C T n lo = true → (∀ j, lo ≤ j → j < n → cs'[j]? = cs[j]?) → S.Rep w K cs x → S.Rep w K cs' x := by
  intro S
  induction S generalizing cs cs' with
  | fin => intros; trivial
  | tags k o =>
    intro T n lo x ht h hr
    simp only [Sch.tyR, Bool.and_eq_true, decide_eq_true_eq] at ht
    obtain ⟨v, h1, h2⟩ := hr
    exact ⟨v, (h o (by omega) (by omega)).trans h1, h2⟩
  | prim g k o p en d rest ih =>
    rintro T n lo ⟨x, r⟩ ht h ⟨⟨v, h1, h2⟩, hr⟩
    simp only [Sch.tyR, Bool.and_eq_true, decide_eq_true_eq] at ht
    refine ⟨⟨v, fun j u hj => ?_, h2⟩, ih ht.2 (fun j h1 h2 => h j (by omega) h2) hr⟩
    have h3 := rep1_sz h2
    have h4 := (List.getElem?_eq_some_iff.1 hj).1
    have h5 : j < p.sz := by rw [← h3]; simpa using h4
    rw [h (o + j) (by omega) (by omega)]
    exact h1 j u hj
  | arrP g k o sT nul p rest ih =>
    rintro T n lo ⟨x, r⟩ ht h ⟨⟨v, ls, h1, h2⟩, hr⟩
    simp only [Sch.tyR, Bool.and_eq_true, decide_eq_true_eq] at ht
    exact ⟨⟨v, ls, (h o (by omega) (by omega)).trans h1, h2⟩, ih ht.2 (fun j h1 h2 => h j (by omega) h2) hr⟩
  | arrS g k o sT nul T' PT sz df e rest ihe ih =>
    rintro T n lo ⟨x, r⟩ ht h ⟨⟨v, ls, h1, h2⟩, hr⟩
    simp only [Sch.tyR, Bool.and_eq_true, decide_eq_true_eq] at ht
    exact ⟨⟨v, ls, (h o (by omega) (by omega)).trans h1, h2⟩, ih ht.2 (fun j h1 h2 => h j (by omega) h2) hr⟩
  | sub g k o T' PT sz df e rest ihe ih =>
    rintro T n lo ⟨x, r⟩ ht h ⟨hx, hr⟩
    simp only [Sch.tyR, Bool.and_eq_true, decide_eq_true_eq] at ht
    refine ⟨ihe ht.1.1.1.2 (fun j h1 h2 => ?_) hx, ih ht.2 (fun j h1 h2 => h j (by omega) h2) hr⟩
    rw [List.getElem?_take, List.getElem?_take, if_pos h2, if_pos h2, List.getElem?_drop, List.getElem?_drop]
    exact h _ (by omega) (by omega)
  | opt g k o T' PT PP sz df e rest ihe ih =>
    rintro T n lo ⟨x, r⟩ ht h ⟨⟨v, h1, h2⟩, hr⟩
    simp only [Sch.tyR, Bool.and_eq_true, decide_eq_true_eq] at ht
    exact ⟨⟨v, (h o (by omega) (by omega)).trans h1, h2⟩, ih ht.2 (fun j h1 h2 => h j (by omega) h2) hr⟩
/-- the known tags' cells are those of defaults -/
def ksChkD (cs : List Value) : List KF → Bool
  | [] => true
  | f :: l => f.sch.chkD cs && ksChkD cs l
theorem KF.sv_dfl (f : KF) : f.sv f.c.dfl = f.sch.dfl := by
  obtain ⟨num, k, o, c⟩ := f
  cases c <;> rfl
theorem KsRep_dfl {w : World} {K : Nat → Prop} {cs : List Value} : ∀ (l : List KF), ksChkD cs l = true → KsRep w K cs l (ksDfl l)
  | [], _ => trivial
  | f :: l, h => by
    simp only [ksChkD, Bool.and_eq_true] at h
    exact ⟨(f.rep_iff _).2 (by rw [f.sv_dfl]; exact Sch.repD f.sch h.1), KsRep_dfl l h.2⟩
/-- a message with known tags stands in memory -/
def KmRep (w : World) (K : Nat → Prop) (cs : List Value) (M : KM) (x : M.T) : Prop := M.S.Rep w K cs x.1 ∧ KsRep w K cs M.ks x.2.1 ∧ (Sch.tags M.tk M.to).Rep w K cs x.2.2
/-- n: how many cells; lo: the known tags' first cell -/
structure MsgRm (P : Program) (C : CfgR) (T PT n lo : Nat) (M : KM) (kv : Bool) (nl : Nat) : Prop where
  rs7 : C.rs = 7
  sec : SecR P C
  tg : TyTg P C.E
  uU : P.underlying C.E.tU32 = some (.int .u32)
  setI : FnIs P C.E.f_pkmsg_Tags_Set nt_pkmsg_Tags_Set (rs_pkmsg_Tags_Set C.E) (ir_pkmsg_Tags_Set C.E)
  tyR : M.S.tyR P C T lo 1 = true
  need : M.S.NeedR P C
  tyK : (M.ks.all fun kf => kf.sch.tyR P C T (kf.o + kf.sz) kf.o) = true
  needK : KsNeedR P C M.ks
  lay : ksLay lo M.to M.ks = true
  ton : M.to + 1 ≤ n
  lo1 : 1 ≤ lo
  f0 : fldOff P T 0 = some 0
  ft : fldOff P T M.tk = some M.to
  nl : (secRI C T PT 10 M.ks M.tk (M.S.genR C T PT 10 (ctR C kv nl)).2).2.l ≤ nl
/-- what is read, at the end -/
def MPost (M : KM) (X : Nat → Prop) (b a n : Nat) (w : World) (cc : Array Value) (e : TypeId) (ver : Int) (fl : Bool) (ev : Value) (rs : RS) (v : Value) (w' : World) : Prop :=
  Ext X w w' ∧ (M.rd ver fl rs = none → v = ev) ∧ ∀ x rs', M.rd ver fl rs = some (some x, rs') → v = (if rs'.bad then ev else .nilIface) ∧
    ∃ cc', w'.heap[b]? = some (.cells cc' e (0, 0)) ∧ cc'.size = cc.size ∧ (∀ j, (j < a + 1 ∨ a + n ≤ j) → cc'[j]? = cc[j]?) ∧ KmRep w' (fun k => k < w'.heap.size) (segL cc' a n) M x
theorem km_none {ver : Int} {fl : Bool} {M : KM} {rs : RS} (h : M.S.rd ver fl rs = none) : M.rd ver fl rs = none := by simp only [KM.rd, h]; rfl
theorem km_none2 {ver : Int} {fl : Bool} {M : KM} {rs rs1 : RS} {x : M.S.T} (h : M.S.rd ver fl rs = some (x, rs1)) (h2 : secRd ver fl M.ks rs1 = none) : M.rd ver fl rs = none := by simp only [KM.rd, h, Option.bind_some, h2]; rfl
theorem km_some {ver : Int} {fl : Bool} {M : KM} {rs rs1 rs2 : RS} {x : M.S.T} {y : Option (KsT M.ks × TagL)} (h : M.S.rd ver fl rs = some (x, rs1)) (h2 : secRd ver fl M.ks rs1 = some (y, rs2)) : M.rd ver fl rs = some (y.map fun y => ((x, y.1, y.2) : M.T), rs2) := by simp only [KM.rd, h, Option.bind_some, h2]; rfl
theorem retPost_mono {P : Program} {l : List Rv} {X Y : Value → World → Prop} (h : ∀ v w, X v w → Y v w) {e : Exit} {f : Nat → Value} {w : World} (hx : retPost P l X e f w) : retPost P l Y e f w := by
  cases e with
  | normal => revert hx; simp only [retPost]; cases rvs? P f w l <;> simp [optK]; exact h _ _
  | ret => revert hx; simp only [retPost]; cases rvs? P f w l <;> simp [optK]; exact h _ _
  | _ => exact hx
theorem behindM {P : Program} {C : CfgR} {R : Rdr} {T PT n lo nl : Nat} {kv : Bool} {M : KM} (hm : MsgRm P C T PT n lo M kv nl) (hev : ∃ t v, R.ev = .iface t v) {f : Nat → Value} {w : World} {b a : Nat} {cc : Array Value} {e : TypeId} {ver : Int} {fl : Bool} {rs : RS}
    (hf : FrR C R f 10 b a ver fl (ctR C kv nl).l) (hst : StR C R b a n w cc e rs) (hchk : M.S.chkD (segL cc a n) = true) (hks : ksChkD (segL cc a n) M.ks = true) (hnil : cc[a + M.to]? = some (.map none)) (hdup : ∀ rs', M.rd ver fl rs ≠ some (none, rs')) :
    (seqL ((M.S.genR C T PT 10 (ctR C kv nl)).1 ++ (secRI C T PT 10 M.ks M.tk (M.S.genR C T PT 10 (ctR C kv nl)).2).1 :: completeI C (secRI C T PT 10 M.ks M.tk (M.S.genR C T PT 10 (ctR C kv nl)).2).2.t)).wp P
      (retPost P [.t 6] fun v w' => MPost M (CB R b) b a n w cc e ver fl R.ev rs v w') f w := by
  obtain ⟨hrs, hsec, htg, huU, hset, htyR, hN, htyK, hNK, hlay, hton, hlo1, hf0, hft, hnl⟩ := hm
  have hfx := hsec.fx
  have hmono := genR_mono (C := C) M.S T PT 10 (ctR C kv nl)
  have hmono2 := secRI_mono (C := C) T PT 10 M.ks M.tk (M.S.genR C T PT 10 (ctR C kv nl)).2
  have hle := ksLay_le hlay
  have q6 : (ctR C kv nl).l = 11 := by simp [ctR, hfx]
  have qt : nl + 10 ≤ (ctR C kv nl).t := by simp [ctR, hfx]; omega
  have hfit := hst.fit
  have htyK' : ∀ kf ∈ M.ks, kf.sch.tyR P C T (kf.o + kf.sz) kf.o = true := by simpa using htyK
  have hstL : StR C R b a lo w cc e rs := ⟨hst.blk, by omega, hst.rd, hst.rw_⟩
  have hchkL : M.S.chkD (segL cc a lo) = true := chkD_congr M.S htyR (fun j _ hj => by rw [segL_get hj, segL_get (by omega)]) hchk
  refine seqL_append ?_
  refine soundR hsec.ty M.S T PT 10 (ctR C kv nl) _ f w b a lo 1 cc e ver fl R rs htyR hN hf (by omega) hstL hchkL ?_ ?_
  · intro hnone f' w' h6 he
    show retPost P [.t 6] (fun v w' => MPost M (CB R b) b a n w cc e ver fl R.ev rs v w') .ret f' w'
    simp [h6]
    have hn := km_none hnone
    exact ⟨he, fun _ => rfl, fun x rs' h => by rw [hn] at h; cases h⟩
  · intro x rs1 hx f1 w1 cc1 hto hrep
    have hst1 : StR C R b a n w1 cc1 e rs1 := ⟨hto.st.blk, by rw [hto.size]; exact hfit, hto.st.rd, hto.st.rw_⟩
    have hf1 : FrR C R f1 10 b a ver fl (M.S.genR C T PT 10 (ctR C kv nl)).2.l := (hf.keep hto.keep.keeps (Nat.le_refl _)).up hmono.1
    show (seqL (_ :: _)).wp P _ f1 w1
    refine seqL_cons ?_
    refine r_sec hsec htg huU hset hev hft htyK' hNK hlay hton hf1 (by omega) hst1 (fun K => KsRep_cells hlay (fun j h1 h2 => ?_) (KsRep_dfl M.ks hks)) ?_ ?_ ?_ ?_
    · rw [segL_get (by omega), segL_get (by omega)]
      exact hto.same _ (.inr (by omega))
    · rw [hto.same _ (.inr (by omega))]; exact hnil
    · intro rs' h
      exact hdup rs' (km_some hx h)
    · intro h f' w' h6 he
      show retPost P [.t 6] (fun v w' => MPost M (CB R b) b a n w cc e ver fl R.ev rs v w') .ret f' w'
      simp [h6]
      have hn := km_none2 hx h
      exact ⟨hto.ext.trans he, fun _ => rfl, fun x rs' h => by rw [hn] at h; cases h⟩
    · intro y u rs2 h f2 w2 cc2 uv hst2 hsz2 hsame2 he2 hk2 hrep2 huv hu
      have hs := km_some hx h
      have k7 : f2 C.rs = .pointer (some ⟨R.pb, 0, none⟩) := by rw [hk2 C.rs (by omega) (.inl (by omega))]; exact hf1.rd
      show (seqL (completeI C _)).wp P _ f2 w2
      refine r_complete hsec.endc hst2 k7 ?_
      intro f3 h6
      show retPost P [.t 6] (fun v w' => MPost M (CB R b) b a n w cc e ver fl R.ev rs v w') .ret f3 w2
      simp [h6]
      refine ⟨hto.ext.trans he2, fun h => (by rw [hs] at h; cases h), fun x2 rs3 h2 => ?_⟩
      rw [hs] at h2
      cases h2
      refine ⟨rfl, cc2, hst2.blk, hsz2.trans hto.size, fun j hj => ?_, ?_, ?_, ?_⟩
      · rw [hsame2 j (by omega)]
        exact hto.same j (by omega)
      · have r1 := Sch.Rep_ext he2 (K := RK R) (fun k hk h => hst1.rw_.keepK k hk h) M.S hrep
        have r2 := Sch.Rep_cells (cs' := segL cc2 a n) M.S htyR (fun j h1 h2 => (segL_get (c := cc2) (a := a) (n := n) (j := j) (by omega)).trans ((hsame2 _ (.inl (by omega))).trans (segL_get h2).symm)) r1
        exact Sch.Rep_lt M.S r2
      · exact KsRep_mono (fun k hk => hk.2) M.ks (KsRep_ltK M.ks hrep2)
      · exact Sch.Rep_lt (.tags M.tk M.to) (x := u) ⟨uv, by rw [segL_get (by omega)]; exact huv, hu⟩
def ReadPostM (M : KM) (b a n : Nat) (w : World) (cc : Array Value) (e : TypeId) (ver : Int) (fl : Bool) (ev : Value) (rs : RS) (v : Value) (w' : World) : Prop := MPost M (· = b) b a n w cc e ver fl ev rs v w'
end Go.Kg

set_option linter.unusedSimpArgs false
set_option linter.unusedVariables false
set_option linter.unusedSectionVars false
namespace Go.Kg
open Go
theorem ksChkD_congr {P : Program} {C : CfgR} {T : Nat} {cs cs' : List Value} : ∀ (l : List KF) {lo hi : Nat}, (l.all fun kf => kf.sch.tyR P C T (kf.o + kf.sz) kf.o) = true → ksLay lo hi l = true → (∀ j, lo ≤ j → cs'[j]? = cs[j]?) → ksChkD cs l = true → ksChkD cs' l = true
  | [], _, _, _, _, _, _ => rfl
  | f :: l, lo, hi, ht, hl, hc, h => by
    simp only [ksChkD, Bool.and_eq_true] at h ⊢
    simp only [List.all_cons, Bool.and_eq_true] at ht
    simp only [ksLay, Bool.and_eq_true, decide_eq_true_eq] at hl
    exact ⟨chkD_congr f.sch ht.1 (fun j h1 h2 => hc j (by omega)) h.1, ksChkD_congr l ht.2 hl.2 (fun j h1 => hc j (by omega)) h.2⟩
set_option maxHeartbeats 1000000 in
theorem readFromMK {P : Program} {C : CfgR} {T PT flex df n lo nl nt g : Nat} {M : KM} {Sd : Sch} (hm : MsgRm P C T PT n lo M true nl) (h16 : PrimR P C .i16) (hdef : DefRC P C.toCfg n df Sd) (hnt : 3 ≤ nt) (hI : FnIs P g nt [.t 6] (msgRk C T PT flex df true M.S M.ks M.tk nl)) {w : World} {b a D : Nat} {cc : Array Value} {e : TypeId} {sv : Value} {src : List UInt8} {ev : Value}
    (hb : w.heap[b]? = some (.cells cc e (0, 0))) (hfit : a + n ≤ cc.size) (hchk : M.S.chkD (segL (setD a (Sd.dst C.toCfg) cc) a n) = true) (hks : ksChkD (segL (setD a (Sd.dst C.toCfg) cc) a n) M.ks = true) (hnil : (setD a (Sd.dst C.toCfg) cc)[a + M.to]? = some (.map none)) (hsrc : BytesAt w (· = D) sv src) (hD : D < w.heap.size) (hbD : b ≠ D)
    (herr : w.cell? ⟨C.E.g_kbin_ErrNotEnoughData, 0, none⟩ = some ev) (hev : ∃ t v, ev = .iface t v) (hgb : C.E.g_kbin_ErrNotEnoughData ≠ b) (hv0 : 0 ≤ kvV src (nonNil sv)) (hdup : ∀ rs', M.rd (kvV src (nonNil sv)) (flagAt C.toCfg flex (kvV src (nonNil sv))) (kvR src (nonNil sv)) ≠ some (none, rs')) :
    Ret P g #[.pointer (some ⟨b, a, none⟩), sv, .bool false] w fun v w' => ReadPostM M b a n w ((setD a (Sd.dst C.toCfg) cc).setIfInBounds a (.int .i16 (kvV src (nonNil sv)))) e (kvV src (nonNil sv)) (flagAt C.toCfg flex (kvV src (nonNil sv))) ev (kvR src (nonNil sv)) v w' := by
  have hfx := hm.sec.fx
  have hrs := hm.rs7
  have hf0 := hm.f0
  have hnl := hm.nl
  have hrb := hm.sec.rb
  have ht := hm.sec.ty
  have hlt := lt_of_heap hb
  have hl7 := (genR_mono (C := C) M.S T PT 10 (ctR C true nl)).1
  have hl8 := secRI_mono (C := C) T PT 10 M.ks M.tk (M.S.genR C T PT 10 (ctR C true nl)).2
  have q6 : (ctR C true nl).l = 11 := by simp [ctR, hfx]
  have hnl10 : 10 ≤ nl := by omega
  refine hI.ret (args := [_, _, _]) hnt ?_
  generalize hccD : setD a (Sd.dst C.toCfg) cc = ccD at *
  have hszD : ccD.size = cc.size := by subst hccD; exact setD_size _ _ _
  generalize hnn : nonNil sv = nn at *
  generalize hver : kvV src nn = ver at *
  generalize hrs1 : kvR src nn = rs1 at *
  have hver' : (Prim.rd .i16 false ⟨src, false, nn⟩).1 = ver := hver
  have hrs1' : (Prim.rd .i16 false ⟨src, false, nn⟩).2 = rs1 := hrs1
  have hsv1 := bytes_one hsrc
  have hgw : C.E.g_kbin_ErrNotEnoughData < w.heap.size := World.block_lt_of_cell? w _ herr
  generalize hR : (⟨w.heap.size, D, w.heap.size + 1, ev⟩ : Rdr) = R
  have rpb : R.pb = w.heap.size := by subst hR; rfl
  have rD : R.D = D := by subst hR; rfl
  have rbase : R.base = w.heap.size + 1 := by subst hR; rfl
  have rev : R.ev = ev := by subst hR; rfl
  have hton := hm.ton
  have hlo1 := hm.lo1
  have hlol := ksLay_le hm.lay
  generalize hccV : ccD.setIfInBounds a (.int .i16 ver) = ccV
  have hszV : ccV.size = ccD.size := by subst hccV; simp
  have hva : ccV[a]? = some (.int .i16 ver) := by rw [← hccV, Array.getElem?_setIfInBounds, if_pos rfl, if_pos (by omega)]
  have hcells : ∀ j, 1 ≤ j → (segL ccV a n)[j]? = (segL ccD a n)[j]? := by
    intro j hj
    by_cases hjn : j < n
    · rw [segL_get hjn, segL_get hjn, ← hccV, Array.getElem?_setIfInBounds, if_neg (by omega)]
    · rw [segL_none (by omega), segL_none (by omega)]
  have hchkV : M.S.chkD (segL ccV a n) = true := chkD_congr M.S hm.tyR (fun j hj1 hj2 => hcells j hj1) hchk
  have hksV : ksChkD (segL ccV a n) M.ks = true := ksChkD_congr (P := P) (C := C) (T := T) M.ks hm.tyK hm.lay (fun j hj => hcells j (by omega)) hks
  have hnilV : ccV[a + M.to]? = some (.map none) := by rw [← hccV, Array.getElem?_setIfInBounds, if_neg (by omega)]; exact hnil
  -- behind the head
  have behind : ∀ (f : Nat → Value) (w1 : World), Ext (· = b) w w1 → StR C R b a n w1 ccV e rs1 → f 10 = .pointer (some ⟨b, a, none⟩) → f 2 = .bool false → f 7 = .pointer (some ⟨w.heap.size, 0, none⟩) → f 8 = .int .i16 ver → f 9 = .bool (flagAt C.toCfg flex ver) →
      (seqL ((M.S.genR C T PT 10 (ctR C true nl)).1 ++ (secRI C T PT 10 M.ks M.tk (M.S.genR C T PT 10 (ctR C true nl)).2).1 :: completeI C (secRI C T PT 10 M.ks M.tk (M.S.genR C T PT 10 (ctR C true nl)).2).2.t)).wp P (retPost P [.t 6] fun v w' => ReadPostM M b a n w ccV e ver (flagAt C.toCfg flex ver) ev rs1 v w') f w1 := by
    intro f w1 he1 hst fpv f2 f7 f8 f9
    have tot : ∀ w', Ext (CB R b) w1 w' → Ext (· = b) w w' := by
      intro w' h
      refine he1.trans' h ?_
      rintro x hx (h | h)
      · rw [rpb] at h; omega
      · exact h
    refine Ir.wp_mono _ ?_ (behindM hm (by rw [rev]; exact hev) ⟨fpv, ⟨by omega, by omega⟩, fun _ => hv0, f8, fun _ => f9, (fun hx => by rw [hfx] at hx; cases hx), (by rw [hrs, rpb]; exact f7), f2, by omega, ⟨by omega, by omega⟩⟩ hst hchkV hksV hnilV hdup)
    intro x f' w' hx
    refine retPost_mono ?_ hx
    rintro v w' ⟨a1, a2, a3⟩
    rw [rev] at a2 a3
    exact ⟨tot _ a1, a2, a3⟩
  -- the head
  have n0 : ∀ k, (0 = nl + k) = False := by intro k; simp; omega
  have n1 : ∀ k, (1 = nl + k) = False := by intro k; simp; omega
  have n2 : ∀ k, (2 = nl + k) = False := by intro k; simp; omega
  have n6 : ∀ k, (6 = nl + k) = False := by intro k; simp; omega
  have n7 : ∀ k, (7 = nl + k) = False := by intro k; simp; omega
  have n8 : ∀ k, (8 = nl + k) = False := by intro k; simp; omega
  have n9 : ∀ k, (9 = nl + k) = False := by intro k; simp; omega
  have n0' : (0 = nl) = False := by simp; omega
  have n1' : (1 = nl) = False := by simp; omega
  have n2' : (2 = nl) = False := by simp; omega
  have n7' : (7 = nl) = False := by simp; omega
  have n8' : (8 = nl) = False := by simp; omega
  have n9' : (9 = nl) = False := by simp; omega
  have m0 : (nl = 0) = False := by simp; omega
  have m1 : (nl = 1) = False := by simp; omega
  have m2 : (nl = 2) = False := by simp; omega
  have m3 : (nl = 3) = False := by simp; omega
  have m4 : (nl = 4) = False := by simp; omega
  have m5 : (nl = 5) = False := by simp; omega
  have m6 : (nl = 6) = False := by simp; omega
  have m7 : (nl = 7) = False := by simp; omega
  have m8 : (nl = 8) = False := by simp; omega
  have m9 : (nl = 9) = False := by simp; omega
  have kI16 : kindOf P C.E.tI16 = .scl := ht.c.kI16
  -- the world behind the head
  generalize hw1 : w.setBlk b (.cells ccD e (0, 0)) = w1
  have hw1s : w1.heap.size = w.heap.size := by subst hw1; simp
  have hbw1 : w1.heap[b]? = some (.cells ccD e (0, 0)) := by subst hw1; exact setBlk_same hb
  have hE1 : Ext (fun k => k = b) w w1 := by subst hw1; exact (Ext.refl (fun k => k = b) w).setBlk (b := b) (Or.inr rfl) _
  generalize hw2 : (w1.alloc (.cells #[.slice none 0 0, .bool false] C.E.tRd)).setBlk w1.heap.size (.cells #[sv, .bool false] C.E.tRd (0, 0)) = w2
  have hE2 : Ext none1 w1 w2 := by subst hw2; exact ((Ext.refl none1 w1).alloc _).setBlk (.inl (Nat.le_refl _)) _
  have hpb2 : w2.heap[w.heap.size]? = some (.cells #[sv, .bool false] C.E.tRd (0, 0)) := by subst hw2; rw [← hw1s]; exact setBlk_same alloc_new
  have hbw2 : w2.heap[b]? = some (.cells ccD e (0, 0)) := hE2.old hbw1 (fun h => h)
  have hE12 : Ext (fun k => k = b) w w2 := hE1.trans (hE2.mono (fun _ _ h => h.elim))
  have hrd2 : RdAt C.E.tRd w2 w.heap.size D ⟨src, false, nn⟩ := ⟨sv, hpb2, hsrc.ext hE12 (by rintro k _ rfl h; exact hbD h.symm), hnn⟩
  have key : (seqL ([.reg [⟨none, some 6, .assign (.const .nilIface), C.E.tErr⟩],
    .reg [⟨none, some nl, .move (.tmp 0), PT⟩, ⟨none, some (nl + 1), .call { callee := .value (.func df), args := #[.tmp nl], argTypes := #[PT] }, C.E.tNil⟩],
    .reg [⟨none, some (nl + 2), .move (.tmp 1), C.E.tBs⟩, ⟨none, some (nl + 3), .build C.E.tRd #[(0, .tmp (nl + 2))], C.E.tRd⟩, ⟨none, some 7, .alloc C.E.tRd, C.E.tNil⟩, ⟨none, none, .store C.E.tRd (.tmp 7) (.tmp (nl + 3)), C.E.tNil⟩],
    .reg [⟨none, some (nl + 4), .move (.tmp 0), PT⟩, ⟨none, some (nl + 5), .call { callee := .value (.func C.E.f_pkbin_Reader_Int16), args := #[.tmp 7], argTypes := #[C.E.tRd] }, C.E.tI16⟩,
    ⟨none, some (nl + 6), .nilCheck (.tmp (nl + 4)), C.E.tNil⟩, ⟨none, some (nl + 7), .fieldAddr T (.tmp (nl + 6)) 0, C.E.tNil⟩, ⟨none, none, .store C.E.tI16 (.tmp (nl + 7)) (.tmp (nl + 5)), C.E.tNil⟩],
    .reg (addrR C.toCfg T PT 0 0 (nl + 4 + 4) ++ [⟨none, some (nl + 4 + 7), .load C.E.tI16 (.tmp (nl + 4 + 6)), C.E.tI16⟩, ⟨none, some 8, .assign (.tmp (nl + 4 + 7)), C.E.tI16⟩]),
    .reg [⟨none, some (nl + 4 + 8), .move (.tmp 8), C.E.tI16⟩]] ++ ([Ir.reg [⟨none, some (nl + 4 + 9), .move (.tmp 8), C.E.tI16⟩, ⟨none, some (nl + 4 + 10), .binOp .geq C.E.tI16 (.tmp (nl + 4 + 9)) (.const (.int .i16 flex)) C.E.tI16, C.E.tB⟩, ⟨none, some 9, .assign (.tmp (nl + 4 + 10)), C.E.tB⟩],
      .reg [⟨none, some (nl + 4 + 11), .move (.tmp 9), C.E.tB⟩]] ++ ([.reg [⟨none, some (nl + 4 + 12), .move (.tmp 0), PT⟩, ⟨none, some 10, .assign (.tmp (nl + 4 + 12)), PT⟩]] ++ ((M.S.genR C T PT 10 (ctR C true nl)).1 ++ (secRI C T PT 10 M.ks M.tk (M.S.genR C T PT 10 (ctR C true nl)).2).1 :: completeI C (secRI C T PT 10 M.ks M.tk (M.S.genR C T PT 10 (ctR C true nl)).2).2.t))))).wp P
        (retPost P [.t 6] fun v w' => ReadPostM M b a n w ccV e ver (flagAt C.toCfg flex ver) ev rs1 v w') (frame0 [.pointer (some ⟨b, a, none⟩), sv, .bool false]) w := by
    simp only [List.cons_append, List.nil_append]
    refine seqL_cons (wp_reg ?_)
    simp
    refine seqL_cons (wp_reg ?_)
    simp
    refine (hdef w b a cc e hb hfit).mono ?_
    rintro v w1' ⟨rfl⟩
    rw [hccD, hw1]
    refine seqL_cons (wp_reg ?_)
    simp [n0, n0', n1, n1', n2, n2', n6, n7, n7', n8, n8', n9, n9', m0, m1, m2, m3, m4, m5, m6, m7, m8, m9, bld_rd hrb (cells_one hsv1), hrb.z, Value.cells, store_agg hrb.k, putK_blk alloc_new, hsv1]
    have hov : over #[.slice none 0 0, .bool false] 0 [sv, .bool false] = #[sv, .bool false] := by simp [over]
    rw [hov, hw2]
    refine ⟨by simp only [allOne, hsv1, Bool.true_and]; rfl, ?_⟩
    have e1w : w1.heap.size = w.heap.size := hw1s
    show (seqL _).wp P _ _ w2
    refine seqL_cons (wp_reg ?_)
    simp [n0, n0', n1, n1', n2, n2', n6, n7, n7', n8, n8', n9, n9', m0, m1, m2, m3, m4, m5, m6, m7, m8, m9, e1w]
    refine (h16 false (by simp) w2 w.heap.size D ⟨src, false, nn⟩ (by omega) (Nat.lt_of_lt_of_le hD (hE12.size)) hrd2).mono ?_
    rintro v w3 ⟨hv, he3, hr3⟩
    have hv' : v = .int .i16 ver := by rw [← hver']; exact hv
    subst hv'
    rw [hrs1'] at hr3
    have hbw3 : w3.heap[b]? = some (.cells ccD e (0, 0)) := he3.old hbw2 (by omega)
    simp [n0, n0', n1, n1', n2, n2', n6, n7, n7', n8, n8', n9, n9', m0, m1, m2, m3, m4, m5, m6, m7, m8, m9, hf0, Addr.add_mk, store_scl kI16, Value.oneCell', put1K_blk hbw3]
    refine ⟨by omega, ?_⟩
    rw [hccV]
    generalize hw4 : w3.setBlk b (.cells ccV e (0, 0)) = w4
    have hbw4 : w4.heap[b]? = some (.cells ccV e (0, 0)) := by subst hw4; exact setBlk_same hbw3
    have hE4 : Ext (fun k => k = b) w3 w4 := by subst hw4; exact (Ext.refl (fun k => k = b) w3).setBlk (b := b) (Or.inr rfl) _
    have hE14 : Ext (fun k => k = b) w w4 := (hE12.trans' he3 (fun x hx h => by omega)).trans hE4
    have hst : StR C R b a n w4 ccV e rs1 := by
      refine ⟨hbw4, by omega, ?_, ⟨⟨?_, ?_, ?_, ?_⟩, ⟨?_, ?_, ?_⟩, ?_, ⟨?_, ?_⟩⟩⟩
      · rw [rpb, rD]
        exact hr3.ext hE4 (by omega) (by omega)
      · rw [rpb, rbase]; omega
      · rw [rbase]; omega
      · rw [rD, rbase]; omega
      · rw [rbase]; have := lt_of_heap hpb2; have := he3.size; have := hE4.size; omega
      · rw [rpb, rD]; omega
      · rw [rD]; exact hbD
      · rw [rpb]; omega
      · rw [rev]; exact hE14.cell herr (fun h => hgb h)
      · rw [rpb]; omega
      · exact hgb
    have cv : w4.cell? ⟨b, a, none⟩ = some (.int .i16 ver) := by rw [cell_of_blk hbw4]; exact hva
    show (seqL _).wp P _ _ w4
    refine seqL_cons (wp_reg ?_)
    simp [n0, n0', n1, n1', n2, n2', n6, n7, n7', n8, n8', n9, n9', m0, m1, m2, m3, m4, m5, m6, m7, m8, m9, addrR, hf0, Addr.add_mk, ld_scl kI16, cv]
    refine seqL_cons (wp_reg ?_)
    simp [n0, n0', n1, n1', n2, n2', n6, n7, n7', n8, n8', n9, n9', m0, m1, m2, m3, m4, m5, m6, m7, m8, m9]
    refine seqL_cons (wp_reg ?_)
    simp [n0, n0', n1, n1', n2, n2', n6, n7, n7', n8, n8', n9, n9', m0, m1, m2, m3, m4, m5, m6, m7, m8, m9]
    show (Ir.reg _).wp P _ _ _
    refine wp_reg ?_
    simp [n0, n0', n1, n1', n2, n2', n6, n7, n7', n8, n8', n9, n9', m0, m1, m2, m3, m4, m5, m6, m7, m8, m9]
    refine seqL_cons (wp_reg ?_)
    simp [n0, n0', n1, n1', n2, n2', n6, n7, n7', n8, n8', n9, n9', m0, m1, m2, m3, m4, m5, m6, m7, m8, m9]
    refine behind _ w4 hE14 hst ?_ ?_ ?_ ?_ ?_
    · simp [n0, n0', n1, n1', n2, n2', n6, n7, n7', n8, n8', n9, n9', m0, m1, m2, m3, m4, m5, m6, m7, m8, m9]
    · simp [n0, n0', n1, n1', n2, n2', n6, n7, n7', n8, n8', n9, n9', m0, m1, m2, m3, m4, m5, m6, m7, m8, m9]
    · simp [n0, n0', n1, n1', n2, n2', n6, n7, n7', n8, n8', n9, n9', m0, m1, m2, m3, m4, m5, m6, m7, m8, m9, e1w]
    · simp [n0, n0', n1, n1', n2, n2', n6, n7, n7', n8, n8', n9, n9', m0, m1, m2, m3, m4, m5, m6, m7, m8, m9]
    · simp [n0, n0', n1, n1', n2, n2', n6, n7, n7', n8, n8', n9, n9', m0, m1, m2, m3, m4, m5, m6, m7, m8, m9, flagAt, hfx]
  have := key
  simp only [← List.append_assoc] at this
  exact this
end Go.Kg

set_option linter.unusedVariables false
namespace Go.Kg
open Go
def ir_laws_version (E : Env) : Ir := (.seq (.reg [ ⟨none, some 4, .assign (.const (.int .i64 0)), E.tInt⟩]) (.seq (.reg [ ⟨none, some 5, .move (.tmp 0), E.tU8⟩, ⟨none, some 6, .convert E.tU8 E.tInt (.tmp 5), E.tInt⟩, ⟨none, some 7, .move (.tmp 1), E.tInt⟩, ⟨none, some 8, .binOp .add E.tInt (.tmp 7) (.const (.int .i64 1)) E.tInt, E.tInt⟩, ⟨none, some 9, .binOp .rem E.tInt (.tmp 6) (.tmp 8) E.tInt, E.tInt⟩, ⟨none, some 4, .assign (.tmp 9), E.tInt⟩]) .ret))
def nt_laws_version : Nat := 10
def rs_laws_version (E : Env) : List Rv := [.t 4]
def ir_laws_zzFits2 (E : Env) : Ir := (.seq (.reg [ ⟨none, some 1, .box E.t_spec_Tree (.tmp 0), E.tNil⟩, ⟨none, some 2, .assign (.const (.bool false)), E.tB⟩]) (.seq (.seq (.reg [ ⟨none, some 3, .fieldAddr E.t_spec_Tree (.tmp 1) 1, E.tNil⟩, ⟨none, some 4, .load E.tBs (.tmp 3), E.tBs⟩, ⟨none, some 5, .call { callee := .builtin .len, args := #[.tmp 4], argTypes := #[E.tBs] }, E.tInt⟩, ⟨none, some 6, .binOp .gtr E.tInt (.tmp 5) (.const (.int .i64 2147483647)) E.tInt, E.tB⟩]) (.cond 6 (.seq (.reg [ ⟨none, some 2, .assign (.const (.bool false)), E.tB⟩]) .ret) .skip)) (.seq (.seq (.reg [ ⟨none, some 7, .fieldAddr E.t_spec_Tree (.tmp 1) 3, E.tNil⟩, ⟨none, some 8, .load E.t_l_spec_Tree (.tmp 7), E.t_l_spec_Tree⟩, ⟨none, some 9, .call { callee := .builtin .len, args := #[.tmp 8], argTypes := #[E.t_l_spec_Tree] }, E.tInt⟩, ⟨none, some 10, .binOp .gtr E.tInt (.tmp 9) (.const (.int .i64 2147483647)) E.tInt, E.tB⟩]) (.cond 10 (.seq (.reg [ ⟨none, some 2, .assign (.const (.bool false)), E.tB⟩]) .ret) .skip)) (.seq (.seq (.reg [ ⟨none, some 11, .fieldAddr E.t_spec_Tree (.tmp 1) 4, E.tNil⟩, ⟨none, some 12, .load E.t_l_spec_Tag (.tmp 11), E.t_l_spec_Tag⟩, ⟨none, some 13, .call { callee := .value (.func E.f_laws_zzFits3), args := #[.tmp 12], argTypes := #[E.t_l_spec_Tag] }, E.tB⟩, ⟨none, some 14, .unOp .not E.tB (.tmp 13), E.tB⟩]) (.cond 14 (.seq (.reg [ ⟨none, some 2, .assign (.const (.bool false)), E.tB⟩]) .ret) .skip)) (.seq (.reg [ ⟨none, some 2, .assign (.const (.bool true)), E.tB⟩]) .ret)))))
def nt_laws_zzFits2 : Nat := 15
def rs_laws_zzFits2 (E : Env) : List Rv := [.t 2]
def ir_laws_zzFits3 (E : Env) : Ir := (.seq (.reg [ ⟨none, some 2, .assign (.const (.bool false)), E.tB⟩]) (.seq (.seq (.reg [ ⟨none, some 5, .move (.tmp 0), E.t_l_spec_Tag⟩, ⟨none, some 6, .call { callee := .builtin .len, args := #[.tmp 5], argTypes := #[E.t_l_spec_Tag] }, E.tInt⟩, ⟨none, some 7, .binOp .gtr E.tInt (.tmp 6) (.const (.int .i64 2147483647)) E.tInt, E.tB⟩]) (.cond 7 (.seq (.reg [ ⟨none, some 2, .assign (.const (.bool false)), E.tB⟩]) .ret) .skip)) (.seq (.seq (.reg [ ⟨none, some 8, .move (.tmp 0), E.t_l_spec_Tag⟩, ⟨none, some 9, .call { callee := .builtin .len, args := #[.tmp 8], argTypes := #[E.t_l_spec_Tag] }, E.tInt⟩, ⟨none, some 10, .move (.const (.int .i64 0)), E.tInt⟩]) (.block 0 (.loop (.seq (.reg [ ⟨none, some 11, .binOp .lss E.tInt (.tmp 10) (.tmp 9) E.tInt, E.tNil⟩]) (.seq (.cond 11 .skip (.exit 0)) (.seq (.block 1 (.seq (.reg [ ⟨none, some 12, .indexAddr E.t_l_spec_Tag (.tmp 8) (.tmp 10), E.tNil⟩, ⟨none, some 13, .load E.t_spec_Tag (.tmp 12), E.t_spec_Tag⟩, ⟨none, some 4, .alloc E.t_spec_Tag, E.tNil⟩, ⟨none, none, .store E.t_spec_Tag (.tmp 4) (.tmp 13), E.tNil⟩]) (.seq (.reg [ ⟨none, some 14, .load E.t_spec_Tag (.tmp 4), E.t_spec_Tag⟩, ⟨none, some 15, .call { callee := .value (.func E.f_laws_zzFits4), args := #[.tmp 14], argTypes := #[E.t_spec_Tag] }, E.tB⟩, ⟨none, some 16, .unOp .not E.tB (.tmp 15), E.tB⟩]) (.cond 16 (.seq (.reg [ ⟨none, some 2, .assign (.const (.bool false)), E.tB⟩]) .ret) .skip)))) (.reg [ ⟨none, some 17, .binOp .add E.tInt (.tmp 10) (.const (.int .i64 1)) E.tInt, E.tInt⟩, ⟨none, some 10, .move (.tmp 17), E.tInt⟩]))))))) (.seq (.reg [ ⟨none, some 2, .assign (.const (.bool true)), E.tB⟩]) .ret))))
def nt_laws_zzFits3 : Nat := 18
def rs_laws_zzFits3 (E : Env) : List Rv := [.t 2]
def ir_laws_zzFits4 (E : Env) : Ir := (.seq (.reg [ ⟨none, some 1, .box E.t_spec_Tag (.tmp 0), E.tNil⟩, ⟨none, some 2, .assign (.const (.bool false)), E.tB⟩]) (.seq (.seq (.reg [ ⟨none, some 3, .fieldAddr E.t_spec_Tag (.tmp 1) 1, E.tNil⟩, ⟨none, some 4, .load E.tBs (.tmp 3), E.tBs⟩, ⟨none, some 5, .call { callee := .builtin .len, args := #[.tmp 4], argTypes := #[E.tBs] }, E.tInt⟩, ⟨none, some 6, .binOp .gtr E.tInt (.tmp 5) (.const (.int .i64 2147483647)) E.tInt, E.tB⟩]) (.cond 6 (.seq (.reg [ ⟨none, some 2, .assign (.const (.bool false)), E.tB⟩]) .ret) .skip)) (.seq (.reg [ ⟨none, some 2, .assign (.const (.bool true)), E.tB⟩]) .ret)))
def nt_laws_zzFits4 : Nat := 7
def rs_laws_zzFits4 (E : Env) : List Rv := [.t 2]
end Go.Kg

set_option linter.unusedSimpArgs false
set_option linter.unusedVariables false
namespace Go.Kg
open Go
section
variable {P : Program} {E : Env}
end
end Go.Kg

set_option linter.unusedSimpArgs false
set_option linter.unusedVariables false
namespace Go.Kg
open Go
section
variable {P : Program} {E : Env}
end
end Go.Kg

set_option linter.unusedSimpArgs false
set_option linter.unusedVariables false
namespace Go.Kg
open Go
/-- An own row of trees. -/
def OwnTr (w : World) (base T : Nat) (v : Value) (rows : List (List Value)) : Prop := Own w base T 5 v rows.flatten ∧ ∀ c ∈ rows, c.length = 5
theorem flatten5 : ∀ {rows : List (List Value)}, (∀ c ∈ rows, c.length = 5) → rows.flatten.length = rows.length * 5
  | [], _ => rfl
  | c :: r, h => by
    have := flatten5 (rows := r) (fun c hc => h c (List.mem_cons_of_mem _ hc))
    have := h c List.mem_cons_self
    simp only [List.flatten_cons, List.length_append, List.length_cons]; omega
theorem flatten5_get : ∀ {rows : List (List Value)}, (∀ c ∈ rows, c.length = 5) → ∀ {i : Nat} {c : List Value}, rows[i]? = some c → ∀ j u, c[j]? = some u → rows.flatten[i * 5 + j]? = some u
  | [], _, i, c, hc => by simp at hc
  | d :: r, h, i, c, hc => by
    intro j u hj
    have hd := h d List.mem_cons_self
    cases i with
    | zero =>
      simp at hc; subst hc
      have hlt := (List.getElem?_eq_some_iff.1 hj).1
      rw [List.flatten_cons, List.getElem?_append_left (by omega)]
      simpa using hj
    | succ i =>
      have := flatten5_get (rows := r) (fun c hc => h c (List.mem_cons_of_mem _ hc)) (i := i) (by simpa using hc) j u hj
      rw [List.flatten_cons, List.getElem?_append_right (by omega), show (i + 1) * 5 + j - d.length = i * 5 + j by omega]
      exact this
theorem OwnTr.arr {w : World} {base T : Nat} {v : Value} {rows : List (List Value)} (h : OwnTr w base T v rows) (hn : rows.length ≤ 1099511627776) : ∃ ls, ArrAt w (fun b => base ≤ b ∧ b < w.heap.size) 5 v ls ∧ ls.getD [] = rows := by
  obtain ⟨⟨n, h1, h2⟩, h5⟩ := h
  have hn' : n = rows.length := by rw [flatten5 h5] at h1; omega
  subst hn'
  rcases h2 with ⟨rfl, h0⟩ | ⟨g, cap, cur, rfl, hb, hg, hnc, hcm, hcs, htake⟩
  · exact ⟨none, rfl, (List.eq_nil_of_length_eq_zero h0).symm⟩
  · refine ⟨some rows, ⟨g, 0, cap, rfl, ⟨hb, lt_of_heap hg⟩, ⟨hnc, hn⟩, fun i cs hi => ⟨h5 cs (List.mem_of_getElem? hi), fun j u hj => ?_⟩⟩, rfl⟩
    have := flatten5_get h5 hi j u hj
    rw [← htake, List.getElem?_take] at this
    rw [cell_of_blk hg, Nat.zero_add]
    split at this
    · simpa using this
    · cases this
/-- No cell of the tree's box but the list's. -/
def zT (lv : Value) : List Value := [.int .i64 0, .slice none 0 0, .bool false, lv, .slice none 0 0]
/-- A tree that says no text and no tags, its lists in blocks of K. -/
inductive DTr (w : World) (K : Nat → Prop) : List Value → Tr → Prop where
  | mk {n : Int} {nul : Bool} {l : List Tr} {lv : Value} {ls : Option (List (List Value))} (hn : fits n) (ha : ArrAt w K 5 lv ls) (hl : (ls.getD []).length = l.length)
      (he : ∀ (i : Nat) c t, (ls.getD [])[i]? = some c → l[i]? = some t → DTr w K c t) : DTr w K [.int .i64 n, .slice none 0 0, .bool nul, lv, .slice none 0 0] (.mk n [] nul l [])
theorem DTr.ext {C K : Nat → Prop} {w w' : World} (he : Ext C w w') (hK : ∀ b, b < w.heap.size → K b → ¬ C b) {cs : List Value} {t : Tr} (h : DTr w K cs t) : DTr w' K cs t := by
  induction h with
  | mk hn ha hl _ ih => exact .mk hn (ha.ext he hK) hl ih
theorem ArrAt.mono {w : World} {K K' : Nat → Prop} (h : ∀ b, K b → K' b) {sz : Nat} {v : Value} {ls : Option (List (List Value))} (ha : ArrAt w K sz v ls) : ArrAt w K' sz v ls := by
  cases ls with
  | none => exact ha
  | some ls => obtain ⟨b, o, c, rfl, hk, hn, hx⟩ := ha; exact ⟨b, o, c, rfl, h b hk, hn, hx⟩
theorem DTr.mono {K K' : Nat → Prop} {w : World} (hK : ∀ b, K b → K' b) {cs : List Value} {t : Tr} (h : DTr w K cs t) : DTr w K' cs t := by
  induction h with
  | mk hn ha hl _ ih => exact .mk hn (ha.mono hK) hl ih
theorem DTr.tree {K : Nat → Prop} {w : World} {cs : List Value} {t : Tr} (h : DTr w K cs t) : TreeAt w cs t := by
  induction h with
  | mk hn ha hl _ ih => exact .mk ⟨hn, by simp⟩ (.inl ⟨⟨_, rfl⟩, rfl⟩) (ha.mono (fun _ _ => trivial)).toE hl ih ⟨none, ⟨_, rfl⟩, rfl, by simp⟩
structure TyD (P : Program) (E : Env) : Prop extends TyM P E where
  pT5 : places P E.t_spec_Tree = some [(0, 1), (1, 1), (2, 1), (3, 1), (4, 1)]
  fT3 : ∀ (a b c d e : Value), fld? P E.t_spec_Tree 3 #[a, b, c, d, e] = some d
section
variable {P : Program} {E : Env} (ht : TyD P E)
include ht
end
end Go.Kg

set_option linter.unusedSimpArgs false
set_option linter.unusedVariables false
namespace Go.Kg
open Go
theorem FS.okAll.dflt : ∀ {F : FS}, F.okAll → ∀ h ∈ F.heads, fits h.dflt
  | .nil, _, h, hh => by cases hh
  | .cons h' s r, ho, h, hh => by
    rcases List.mem_cons.1 hh with rfl | hh
    · exact ho.2.1
    · exact FS.okAll.dflt ho.2.2.2.2 h hh
def FH.zero : FH := ⟨0, 0, 0, 0, 0, 0, 0⟩
def FH.set (h : FH) (k : Nat) (n : Int) : FH :=
  match k with
  | 0 => { h with kind := n } | 1 => { h with frm := n } | 2 => { h with to := n } | 3 => { h with null := n } | 4 => { h with tag := n } | 5 => { h with dflt := n } | _ => { h with of_ := n }
/-- A field's text: its parts in order, and the function of its own fields (with these). -/
structure FSrc where
  ps : List (Nat × Int)
  sub : Option (Nat × FS)
def FSrc.h (x : FSrc) : FH := x.ps.foldl (fun h p => h.set p.1 p.2) FH.zero
def FSrc.subF (x : FSrc) : FS := match x.sub with | some (_, F) => F | none => .nil
def mkFS : List FSrc → FS
  | [] => .nil
  | x :: r => .cons x.h x.subF (mkFS r)
def psOp (ps : List (Nat × Int)) : List (Nat × Operand) := ps.map fun p => (p.1, .const (.int .i64 p.2))
def FSrc.sz (x : FSrc) : Nat := match x.sub with | some _ => 2 | none => 1
def FSrc.ro (E : Env) (x : FSrc) (t : Nat) : List Ro := match x.sub with
  | none => [⟨none, some t, .build E.t_spec_Field (psOp x.ps).toArray, E.t_spec_Field⟩]
  | some (g, _) => [⟨none, some t, .call { callee := .value (.func g), args := #[], argTypes := #[] }, E.t_l_spec_Field⟩, ⟨none, some (t + 1), .build E.t_spec_Field (psOp x.ps ++ [(7, Operand.tmp t)]).toArray, E.t_spec_Field⟩]
def genSr (E : Env) : List FSrc → Nat → List Ro
  | [], _ => []
  | x :: r, t => x.ro E t ++ genSr E r (t + x.sz)
def slotsS : List FSrc → Nat → List Nat
  | [], _ => []
  | x :: r, t => (t + x.sz - 1) :: slotsS r (t + x.sz)
def endS : List FSrc → Nat → Nat
  | [], t => t
  | x :: r, t => endS r (t + x.sz)
def bslOp (sl : List Nat) : Array (Nat × Operand) := (sl.zipIdx.map fun p => (p.2, Operand.tmp p.1)).toArray
/-- func X() Message -/
def irMsg (E : Env) (xs : List FSrc) (fx : Int) : Ir :=
  .seq (.reg [⟨none, some 0, .alloc E.t_spec_Message, E.tNil⟩])
  (.seq (.reg (genSr E xs 1 ++ [⟨none, some (endS xs 1), .buildSlice E.t_l_spec_Field xs.length (bslOp (slotsS xs 1)), E.t_l_spec_Field⟩,
    ⟨none, some (endS xs 1 + 1), .build E.t_spec_Message #[(1, .const (.int .i64 fx)), (0, .tmp (endS xs 1))], E.t_spec_Message⟩, ⟨none, none, .store E.t_spec_Message (.tmp 0) (.tmp (endS xs 1 + 1)), E.tNil⟩])) .ret)
def psOk : List (Nat × Int) → Bool
  | [] => true
  | p :: r => decide (p.1 < 7) && psOk r
structure TyK (P : Program) (E : Env) : Prop extends TyD P E where
  pF8 : places P E.t_spec_Field = some [(0, 1), (1, 1), (2, 1), (3, 1), (4, 1), (5, 1), (6, 1), (7, 1)]
  gF : SliI P E.t_l_spec_Field E.t_spec_Field 8 80 (.agg zField)
  pM : places P E.t_spec_Message = some [(0, 1), (1, 1)]
  zM : zeroOf P E.t_spec_Message = some (.agg #[.slice none 0 0, .int .i64 0])
  kM : kindOf P E.t_spec_Message = .agg 2
theorem FH.set_cells (h : FH) (sv : Value) (k : Nat) (n : Int) (hk : k < 7) : (h.cells ++ [sv]).toArray.setIfInBounds k (.int .i64 n) = ((h.set k n).cells ++ [sv]).toArray := by
  match k, hk with
  | 0, _ => rfl
  | 1, _ => rfl
  | 2, _ => rfl
  | 3, _ => rfl
  | 4, _ => rfl
  | 5, _ => rfl
  | 6, _ => rfl
def pl8 : List (Nat × Nat) := [(0, 1), (1, 1), (2, 1), (3, 1), (4, 1), (5, 1), (6, 1), (7, 1)]
theorem pl8_get {k : Nat} (hk : k < 8) : pl8[k]? = some (k, 1) := by
  match k, hk with
  | 0, _ => rfl | 1, _ => rfl | 2, _ => rfl | 3, _ => rfl | 4, _ => rfl | 5, _ => rfl | 6, _ => rfl | 7, _ => rfl
theorem fill_one {k : Nat} (hk : k < 8) {v : Value} (hv : v.cells = #[v]) {c : Array Value} (hc : c.size = 8) (rest : List (Nat × Value)) :
    Instr.fill (fun i => pl8[i]?) c ((k, v) :: rest) = Instr.fill (fun i => pl8[i]?) (c.setIfInBounds k v) rest := by
  simp only [Instr.fill, pl8_get hk, hv]
  rw [if_neg (by simp; omega)]
  simp
theorem fill_ps : ∀ (ps : List (Nat × Int)) (h : FH) (sv : Value) (rest : List (Nat × Value)), psOk ps = true →
    Instr.fill (fun i => pl8[i]?) (h.cells ++ [sv]).toArray (ps.map (fun p => (p.1, Value.int .i64 p.2)) ++ rest) = Instr.fill (fun i => pl8[i]?) ((ps.foldl (fun h p => h.set p.1 p.2) h).cells ++ [sv]).toArray rest
  | [], h, sv, rest, _ => rfl
  | p :: r, h, sv, rest, hok => by
    simp only [psOk, Bool.and_eq_true, decide_eq_true_eq] at hok
    rw [List.map_cons, List.cons_append, fill_one (by omega) rfl (by simp), FH.set_cells h sv p.1 p.2 hok.1]
    exact fill_ps r _ sv rest hok.2
theorem zField_eq : zField = (FH.zero.cells ++ [Value.slice none 0 0]).toArray := rfl
/-- Fields whose rows lie in blocks of K. -/
def FsCellsK (w : World) (K : Nat → Prop) : List (List Value) → FS → Prop
  | [], .nil => True
  | c :: cs, .cons h sub rest => (∃ sv ls, c = h.cells ++ [sv] ∧ ArrAt w K 8 sv ls ∧ FsCellsK w K (ls.getD []) sub) ∧ FsCellsK w K cs rest
  | _, _ => False
def FsAtK (w : World) (K : Nat → Prop) (v : Value) (F : FS) : Prop := ∃ ls, ArrAt w K 8 v ls ∧ FsCellsK w K (ls.getD []) F
theorem FsCellsK.ext {C K K' : Nat → Prop} {w w' : World} (he : Ext C w w') (hK : ∀ b, b < w.heap.size → K b → ¬ C b) (hm : ∀ b, K b → K' b) : ∀ {F : FS} {ls : List (List Value)}, FsCellsK w K ls F → FsCellsK w' K' ls F := by
  intro F
  induction F with
  | nil => intro ls h; cases ls with
    | nil => trivial
    | cons c cs => exact h.elim
  | cons h sub rest ihs ihr =>
    intro ls hh
    cases ls with
    | nil => exact hh.elim
    | cons c cs =>
      obtain ⟨⟨sv, l, h1, h2, h3⟩, h4⟩ := hh
      exact ⟨⟨sv, l, h1, (h2.ext he hK).mono hm, ihs h3⟩, ihr h4⟩
theorem FsAtK.ext {C K K' : Nat → Prop} {w w' : World} (he : Ext C w w') (hK : ∀ b, b < w.heap.size → K b → ¬ C b) (hm : ∀ b, K b → K' b) {v : Value} {F : FS} (h : FsAtK w K v F) : FsAtK w' K' v F := by
  obtain ⟨ls, h1, h2⟩ := h; exact ⟨ls, (h1.ext he hK).mono hm, h2.ext he hK hm⟩
theorem FsCellsK.all {K : Nat → Prop} {w : World} : ∀ {F : FS} {ls : List (List Value)}, FsCellsK w K ls F → FsCells w ls F := by
  intro F
  induction F with
  | nil => intro ls h; cases ls with
    | nil => trivial
    | cons c cs => exact h.elim
  | cons h sub rest ihs ihr =>
    intro ls hh
    cases ls with
    | nil => exact hh.elim
    | cons c cs =>
      obtain ⟨⟨sv, l, h1, h2, h3⟩, h4⟩ := hh
      exact ⟨⟨sv, l, h1, h2.mono (fun _ _ => trivial), ihs h3⟩, ihr h4⟩
theorem FsAtK.all {K : Nat → Prop} {w : World} {v : Value} {F : FS} (h : FsAtK w K v F) : FsAt w v F := by
  obtain ⟨ls, h1, h2⟩ := h; exact ⟨ls, h1.mono (fun _ _ => trivial), h2.all⟩
/-- What the fields are, once made: their rows at base and above. -/
def FldsV (w : World) (base : Nat) : List FSrc → List Value → Prop
  | [], [] => True
  | x :: r, v :: vs => (∃ sv, v = .agg (x.h.cells ++ [sv]).toArray ∧ FsAtK w (base ≤ ·) sv x.subF) ∧ FldsV w base r vs
  | _, _ => False
theorem FldsV.ext {w w' : World} {base : Nat} (he : Ext none1 w w') : ∀ {xs : List FSrc} {vs : List Value}, FldsV w base xs vs → FldsV w' base xs vs
  | [], [], _ => trivial
  | x :: r, v :: vs, h => ⟨by obtain ⟨sv, h1, h2⟩ := h.1; exact ⟨sv, h1, h2.ext he (fun _ _ _ h => h) (fun _ h => h)⟩, FldsV.ext he h.2⟩
  | [], _ :: _, h => h.elim
  | _ :: _, [], h => h.elim
theorem FldsV.len {w : World} {base : Nat} : ∀ {xs : List FSrc} {vs : List Value}, FldsV w base xs vs → vs.length = xs.length ∧ ∀ v ∈ vs, v.cells.size = 8
  | [], [], _ => ⟨rfl, by simp⟩
  | x :: r, v :: vs, h => by
    obtain ⟨h1, h2⟩ := FldsV.len h.2
    obtain ⟨sv, rfl, _⟩ := h.1
    refine ⟨by simp [h1], fun u hu => ?_⟩
    rcases List.mem_cons.1 hu with rfl | hu
    · simp [Value.cells]
    · exact h2 u hu
  | [], _ :: _, h => h.elim
  | _ :: _, [], h => h.elim
def SubC (P : Program) (g : Nat) (F : FS) : Prop := ∀ w, Ret P g #[] w fun v w' => FsAtK w' (w.heap.size ≤ ·) v F ∧ Ext none1 w w'
def srcOk (P : Program) : List FSrc → Prop
  | [] => True
  | x :: r => psOk x.ps = true ∧ (∀ g F, x.sub = some (g, F) → SubC P g F) ∧ srcOk P r
theorem FsAtK.nil (w : World) (K : Nat → Prop) : FsAtK w K (.slice none 0 0) .nil := ⟨none, rfl, trivial⟩
theorem endS_ge : ∀ (xs : List FSrc) (t : Nat), t ≤ endS xs t
  | [], t => Nat.le_refl _
  | x :: r, t => Nat.le_trans (Nat.le_add_right _ _) (endS_ge r (t + x.sz))
theorem slotsS_len : ∀ (xs : List FSrc) (t : Nat), (slotsS xs t).length = xs.length
  | [], _ => rfl
  | x :: r, t => by simp [slotsS, slotsS_len r]
theorem stp_build {P : Program} {f : Nat → Value} {ty T : TypeId} {w : World} {K : Value → World → Prop} {ps : List (Nat × Operand)} (h : ps ≠ []) : stp P f (.build T ps.toArray) ty w K = optK (bld? P T (ps.map fun p => (p.1, evF f p.2))) fun v => K v w := by
  cases ps with
  | nil => exact absurd rfl h
  | cons p r => simp only [stp]
theorem psOp_eval (f : Nat → Value) (ps : List (Nat × Int)) : (psOp ps).map (fun p => (p.1, evF f p.2)) = ps.map fun p => (p.1, Value.int .i64 p.2) := by simp [psOp, evF]
def MsgC (P : Program) (g : Nat) (F : FS) (fx : Int) : Prop := ∀ w, Ret P g #[] w fun v w' => ∃ fv, v = .agg #[fv, .int .i64 fx] ∧ FsAt w' fv F ∧ Ext none1 w w'
theorem dense_bsl : ∀ (sl : List Nat) (k : Nat), denseFrom k ((sl.zipIdx k).map fun p => (p.2, Operand.tmp p.1)) = true
  | [], _ => rfl
  | s :: r, k => by simp only [List.zipIdx_cons, List.map_cons, denseFrom, beq_self_eq_true, Bool.true_and]; exact dense_bsl r (k + 1)
theorem bsl_vals (f : Nat → Value) : ∀ (sl : List Nat) (k : Nat), ((sl.zipIdx k).map fun p => (p.2, Operand.tmp p.1)).map (fun p => evF f p.2) = sl.map f
  | [], _ => rfl
  | s :: r, k => by simp only [List.zipIdx_cons, List.map_cons, bsl_vals f r (k + 1)]; rfl
theorem allSz_of {s : Nat} : ∀ {l : List Value}, (∀ v ∈ l, v.cells.size = s) → allSz s l = true
  | [], _ => rfl
  | v :: l, h => by simp only [allSz, h v List.mem_cons_self, beq_self_eq_true, Bool.true_and]; exact allSz_of fun u hu => h u (List.mem_cons_of_mem _ hu)
theorem flds_cells {w : World} {base : Nat} : ∀ {xs : List FSrc} {vs : List Value}, FldsV w base xs vs → ∃ rows : List (List Value), vs = rows.map (fun c => Value.agg c.toArray) ∧ FsCellsK w (base ≤ ·) rows (mkFS xs) ∧ ∀ c ∈ rows, c.length = 8
  | [], [], _ => ⟨[], rfl, trivial, by simp⟩
  | x :: r, v :: vs, h => by
    obtain ⟨rows, h1, h2, h3⟩ := flds_cells h.2
    obtain ⟨sv, rfl, ls, ha, hc⟩ := h.1
    refine ⟨(x.h.cells ++ [sv]) :: rows, by rw [h1]; rfl, ⟨⟨sv, ls, rfl, ha, hc⟩, h2⟩, fun c hc' => ?_⟩
    rcases List.mem_cons.1 hc' with rfl | hc'
    · simp
    · exact h3 c hc'
  | [], _ :: _, h => h.elim
  | _ :: _, [], h => h.elim
section
variable {P : Program} {E : Env} (ht : TyK P E)
include ht
theorem bld_field {ps : List (Nat × Int)} (hok : psOk ps = true) : bld? P E.t_spec_Field (ps.map fun p => (p.1, Value.int .i64 p.2)) = some (.agg ((ps.foldl (fun h p => h.set p.1 p.2) FH.zero).cells ++ [Value.slice none 0 0]).toArray) := by
  have := fill_ps ps FH.zero (Value.slice none 0 0) [] hok
  rw [List.append_nil] at this
  have hz : zeroOf P E.t_spec_Field = some (.agg zField) := ht.zF
  have hp : places P E.t_spec_Field = some pl8 := ht.pF8
  simp only [bld?, hz, hp]
  show (Instr.fill (fun i => pl8[i]?) zField _).map Value.agg = _
  rw [zField_eq, this]
  rfl
theorem bld_fieldS {ps : List (Nat × Int)} {sv : Value} (hok : psOk ps = true) (hs : sv.cells = #[sv]) : bld? P E.t_spec_Field (ps.map (fun p => (p.1, Value.int .i64 p.2)) ++ [(7, sv)]) = some (.agg ((ps.foldl (fun h p => h.set p.1 p.2) FH.zero).cells ++ [sv]).toArray) := by
  have := fill_ps ps FH.zero (Value.slice none 0 0) [(7, sv)] hok
  have hz : zeroOf P E.t_spec_Field = some (.agg zField) := ht.zF
  have hp : places P E.t_spec_Field = some pl8 := ht.pF8
  simp only [bld?, hz, hp]
  show (Instr.fill (fun i => pl8[i]?) zField _).map Value.agg = _
  rw [zField_eq, this, fill_one (by omega) hs (by simp)]
  rfl
theorem gen_sound {base : Nat} : ∀ (xs : List FSrc) (t : Nat) (f : Nat → Value) (w : World) (rest : List Ro) (R : (Nat → Value) → World → Prop), srcOk P xs → (∀ x ∈ xs, x.ps ≠ []) → base ≤ w.heap.size →
    (∀ f' w', (∀ s, s < t → f' s = f s) → Ext none1 w w' → FldsV w' base xs ((slotsS xs t).map f') → regW P R rest f' w') → regW P R (genSr E xs t ++ rest) f w := by
  intro xs
  induction xs with
  | nil => intro t f w rest R _ _ _ h; exact h f w (fun _ _ => rfl) (Ext.refl _ _) trivial
  | cons x r ih =>
    intro t f w rest R hok hne hbs h
    obtain ⟨hps, hsub, hrest⟩ := hok
    have hxne := hne x List.mem_cons_self
    have hne' : ∀ y ∈ r, y.ps ≠ [] := fun y hy => hne y (List.mem_cons_of_mem _ hy)
    have hpo : psOp x.ps ≠ [] := by intro h0; apply hxne; simpa [psOp] using h0
    cases hs : x.sub with
    | none =>
      have e1 : genSr E (x :: r) t ++ rest = ⟨none, some t, .build E.t_spec_Field (psOp x.ps).toArray, E.t_spec_Field⟩ :: (genSr E r (t + 1) ++ rest) := by simp [genSr, FSrc.ro, FSrc.sz, hs]
      rw [e1, regW_plain, stp_build hpo, psOp_eval, bld_field ht hps, optK_some]
      refine ih (t + 1) _ w rest R hrest hne' hbs ?_
      intro f' w' hk he hv
      refine h f' w' (fun s hs' => by rw [hk s (by omega), updO_some, upd_apply, if_neg (by omega)]) he ?_
      have e2 : slotsS (x :: r) t = t :: slotsS r (t + 1) := by simp [slotsS, FSrc.sz, hs]
      rw [e2, List.map_cons]
      refine ⟨⟨.slice none 0 0, ?_, ?_⟩, hv⟩
      · rw [hk t (by omega), updO_some, upd_apply, if_pos rfl]; rfl
      · have : x.subF = .nil := by simp [FSrc.subF, hs]
        rw [this]; exact FsAtK.nil w' _
    | some gF =>
      obtain ⟨g, F⟩ := gF
      have hSC := hsub g F hs
      have e1 : genSr E (x :: r) t ++ rest = ⟨none, some t, .call { callee := .value (.func g), args := #[], argTypes := #[] }, E.t_l_spec_Field⟩ :: ⟨none, some (t + 1), .build E.t_spec_Field (psOp x.ps ++ [(7, Operand.tmp t)]).toArray, E.t_spec_Field⟩ :: (genSr E r (t + 2) ++ rest) := by
        simp [genSr, FSrc.ro, FSrc.sz, hs]
      rw [e1, regW_plain, stp_call]
      refine Ret.mono (R := fun v w' => FsAtK w' (w.heap.size ≤ ·) v F ∧ Ext none1 w w') (by simpa using hSC w) ?_
      rintro sv w1 ⟨hF, he1⟩
      have hsv : sv.cells = #[sv] := by
        obtain ⟨ls, ha, _⟩ := hF
        obtain ⟨a, c, rfl, _⟩ := ha.form
        rfl
      rw [regW_plain, stp_build (by simp), List.map_append, psOp_eval]
      have e3 : List.map (fun p : Nat × Operand => (p.1, evF (updO f (some t) sv) p.2)) [(7, Operand.tmp t)] = [(7, sv)] := by simp
      rw [e3, bld_fieldS ht hps hsv, optK_some]
      refine ih (t + 2) _ w1 rest R hrest hne' (Nat.le_trans hbs he1.size) ?_
      intro f' w' hk he hv
      refine h f' w' (fun s hs' => by rw [hk s (by omega)]; simp only [updO_some, upd_apply]; rw [if_neg (by omega), if_neg (by omega)]) (he1.trans he) ?_
      have e2 : slotsS (x :: r) t = (t + 1) :: slotsS r (t + 2) := by simp [slotsS, FSrc.sz, hs]
      rw [e2, List.map_cons]
      refine ⟨⟨sv, ?_, ?_⟩, hv⟩
      · rw [hk (t + 1) (by omega)]; simp only [updO_some, upd_apply, if_true]; rfl
      · have : x.subF = F := by simp [FSrc.subF, hs]
        rw [this]; exact hF.ext he (fun _ _ _ h => h) (fun b hb => Nat.le_trans hbs hb)
/-- the slice of the fields that were made -/
theorem bsl_sound {xs : List FSrc} {t base : Nat} {f : Nat → Value} {w : World} {K : Value → World → Prop} {ty : TypeId} (hx : xs ≠ []) (hn : xs.length ≤ 1000) (hbs : base ≤ w.heap.size) (hv : FldsV w base xs ((slotsS xs t).map f))
    (h : ∀ v w', FsAtK w' (base ≤ ·) v (mkFS xs) → Ext none1 w w' → K v w') : stepF P f (.buildSlice E.t_l_spec_Field xs.length (bslOp (slotsS xs t))) ty w K := by
  obtain ⟨h1, h2⟩ := hv.len
  have hx0 : 0 < xs.length := by cases xs with | nil => exact absurd rfl hx | cons => simp
  have hvals : (bslOp (slotsS xs t)).toList.map (fun p => evF f p.2) = (slotsS xs t).map f := by
    simp only [bslOp]
    exact bsl_vals f _ 0
  rw [st_bsl ht.gF (by omega) (by simp only [bslOp]; exact dense_bsl _ 0) (by simp [bslOp, slotsS_len]) hx0 (by omega) (by rw [hvals]; exact allSz_of h2)]
  rw [hvals]
  obtain ⟨rows, hr, hc, h8⟩ := flds_cells hv
  rw [hr] at h1 ⊢
  simp at h1
  have hE := (Ext.refl none1 w).alloc (.cells (flat (rows.map fun c => Value.agg c.toArray)).toArray E.t_spec_Field)
  refine h _ _ ⟨some rows, ⟨w.heap.size, 0, xs.length, by rw [h1], hbs, ⟨by omega, by omega⟩, ?_⟩, hc.ext hE (fun _ _ _ h => h) (fun _ h => h)⟩ hE
  intro i c hi
  refine ⟨h8 c (List.mem_of_getElem? hi), fun j u hj => ?_⟩
  rw [cell_of_blk alloc_new, Nat.zero_add, List.getElem?_toArray]
  have hsz : ∀ v ∈ (rows.map fun c => Value.agg c.toArray), v.cells.size = 8 := by
    intro v hv'
    obtain ⟨c', hc', rfl⟩ := List.mem_map.1 hv'
    simpa [Value.cells] using h8 c' hc'
  have hj8 : j < 8 := by have := (List.getElem?_eq_some_iff.1 hj).1; rw [h8 c (List.mem_of_getElem? hi)] at this; exact this
  rw [flat_get (by omega) hsz, show (i * 8 + j) / 8 = i by omega, show (i * 8 + j) % 8 = j by omega]
  simp [hi, Value.cells, hj]
theorem bld_msg (v : Value) (hv : v.cells = #[v]) (fx : Int) : bld? P E.t_spec_Message [(1, .int .i64 fx), (0, v)] = some (.agg #[v, .int .i64 fx]) := by
  have hz := ht.zM
  have hp := ht.pM
  have hi : (Value.int .i64 fx).cells = #[Value.int .i64 fx] := rfl
  have hc : (Value.agg #[Value.slice none 0 0, .int .i64 0]).cells = #[Value.slice none 0 0, .int .i64 0] := rfl
  simp [bld?, hz, hp, Instr.fill, hi, hc, hv]
theorem msg_sound {g nt : Nat} {xs : List FSrc} {fx : Int} (hI : FnIs P g nt [.c 0 E.t_spec_Message] (irMsg E xs fx)) (hx : xs ≠ []) (hn : xs.length ≤ 1000) (hok : srcOk P xs) (hne : ∀ x ∈ xs, x.ps ≠ []) : MsgC P g (mkFS xs) fx := by
  intro w
  refine hI.call (args := []) (by simp) ?_
  have hzM : zeroOf P E.t_spec_Message = some (.agg #[.slice none 0 0, .int .i64 0]) := ht.zM
  simp only [irMsg, cw_seq, cw_reg, regW_plain, stp_alloc, hzM, optK_some, thenF_normal, regW_nil]
  have hE := (Ext.refl none1 w).alloc (.cells (Value.agg #[.slice none 0 0, .int .i64 0]).cells E.t_spec_Message)
  have hb : (w.alloc (.cells (Value.agg #[.slice none 0 0, .int .i64 0]).cells E.t_spec_Message)).heap[w.heap.size]? = some (.cells #[.slice none 0 0, .int .i64 0] E.t_spec_Message (0, 0)) := alloc_new
  refine gen_sound ht (base := w.heap.size + 1) xs 1 _ _ _ _ hok hne (by simp) ?_
  intro f' w' hk he hv
  rw [regW_plain, stp_buildSlice]
  refine bsl_sound ht hx hn (Nat.le_trans (by simp) he.size) hv ?_
  intro v w2 hF he2
  have hf0 : f' 0 = .pointer (some ⟨w.heap.size, 0, none⟩) := by rw [hk 0 (by omega)]; simp
  have he0 := endS_ge xs 1
  have hv1 : v.cells = #[v] := by
    obtain ⟨ls, ha, _⟩ := hF
    obtain ⟨a, c, rfl, _⟩ := ha.form
    rfl
  have hvo : v.oneCell' = true := by
    obtain ⟨ls, ha, _⟩ := hF
    obtain ⟨a, c, rfl, _⟩ := ha.form
    rfl
  have hb2 := he2.old (he.old hb (fun h => h)) (fun h => h)
  have z0 : (0 = endS xs 1) = False := by simp; omega
  have z1 : ∀ k, (0 = endS xs 1 + k) = False := by intro k; simp; omega
  have hx2 : Ext none1 w w2 := hE.trans (he.trans he2)
  have ho : allOne [v, Value.int .i64 fx] = true := by simp only [allOne, hvo, Bool.true_and]; rfl
  have hov : over #[Value.slice none 0 0, .int .i64 0] 0 [v, Value.int .i64 fx] = #[v, .int .i64 fx] := by simp [over]
  simp [bld_msg ht v hv1 fx, hf0, z0, z1, store_agg ht.kM, ho, putK_blk hb2, hov]
  have hb3 : (w2.setBlk w.heap.size (.cells #[v, .int .i64 fx] E.t_spec_Message (0, 0))).heap[w.heap.size]? = some (.cells #[v, .int .i64 fx] E.t_spec_Message (0, 0)) := setBlk_same hb2
  have hx3 : Ext none1 w (w2.setBlk w.heap.size (.cells #[v, .int .i64 fx] E.t_spec_Message (0, 0))) := hx2.setBlk (.inl (Nat.le_refl _)) _
  have lT := cellsFrom_row hb3
  simp at lT
  simp [ld_agg ht.kM, lT]
  exact ⟨(hF.ext (K' := All) ((Ext.refl (fun b => b = w.heap.size) w2).setBlk (.inr rfl) _) (fun b _ hb h => by omega) (fun _ _ => trivial)).all, hx3⟩
end
end Go.Kg

set_option linter.unusedSimpArgs false
set_option linter.unusedVariables false
namespace Go.Kg
open Go
def SomeB (w : World) (u : Value) (w' : World) : Prop := (∃ b, u = .bool b) ∧ Ext none1 w w'
section
variable {P : Program} {E : Env} (ht : TyF P E)
include ht
theorem c_zzFits4 (hI : FnIs P E.f_laws_zzFits4 nt_laws_zzFits4 (rs_laws_zzFits4 E) (ir_laws_zzFits4 E)) (w : World) (k bv : Value) (x : List UInt8) (hb : BytesAt w All bv x) (hk : k.oneCell' = true) :
    Ret P E.f_laws_zzFits4 #[.agg #[k, bv]] w (SomeB w) := by
  obtain ⟨a, c, rfl, _⟩ := hb.len
  refine hI.call (args := [_]) (by simp [nt_laws_zzFits4]) ?_
  have hcs : (Value.agg #[k, .slice a x.length c]).cells = #[k, .slice a x.length c] := rfl
  simp [ir_laws_zzFits4, rs_laws_zzFits4, hcs]
  generalize hw1 : w.alloc (.cells #[k, .slice a x.length c] E.t_spec_Tag) = w1
  have hE : Ext none1 w w1 := by subst hw1; exact (Ext.refl none1 w).alloc _
  have hb1 : w1.heap[w.heap.size]? = some (.cells #[k, .slice a x.length c] E.t_spec_Tag (0, 0)) := by subst hw1; exact alloc_new
  have c1 : w1.cell? ⟨w.heap.size, 1, none⟩ = some (.slice a x.length c) := by rw [cell_of_blk hb1]; rfl
  simp [ht.u1, Addr.add_mk, ld_scl ht.kBs, c1, len_slice ht.uBs]
  refine cw_bool (c := decide ((2147483647 : Int) < x.length)) (by simp) ?_ ?_
  · intro _
    simp
    exact ⟨⟨_, rfl⟩, hE⟩
  · intro _
    simp
    exact ⟨⟨_, rfl⟩, hE⟩
/-- what holds in the loop over tags -/
def FzInv (w : World) (vs : Value) (n : Nat) (f : Nat → Value) (w' : World) : Prop := ∃ i, i ≤ n ∧ f 10 = .int .i64 i ∧ f 9 = .int .i64 n ∧ f 8 = vs ∧ Ext none1 w w'
theorem c_zzFits3 (hI : FnIs P E.f_laws_zzFits3 nt_laws_zzFits3 (rs_laws_zzFits3 E) (ir_laws_zzFits3 E))
    (h4 : ∀ (w : World) (k bv : Value) (x : List UInt8), BytesAt w All bv x → k.oneCell' = true → Ret P E.f_laws_zzFits4 #[.agg #[k, bv]] w (SomeB w)) (hzU : zeroOf P E.t_spec_Tag = some (.agg #[.int .u32 0, .slice none 0 0])) (w : World) (uv : Value) (u : List (Nat × List UInt8)) (hu : UAt w uv u) :
    Ret P E.f_laws_zzFits3 #[uv] w (SomeB w) := by
  obtain ⟨ls, ha, hlen, hget⟩ := hu
  obtain ⟨a, c, rfl, _, hmax⟩ := ha.form
  refine hI.call (args := [_]) (by simp [nt_laws_zzFits3]) ?_
  obtain ⟨Et, jt, hut, _, _⟩ := sliSz_spec ht.sU
  simp [ir_laws_zzFits3, rs_laws_zzFits3, len_slice hut]
  refine cw_bool (c := decide ((2147483647 : Int) < (ls.getD []).length)) (by simp) ?_ ?_
  · intro _
    simp
    exact ⟨⟨_, rfl⟩, Ext.refl _ _⟩
  · intro _
    simp [len_slice hut]
    refine cw_loop (FzInv w (.slice a (ls.getD []).length c) (ls.getD []).length) (fun f _ => match f 10 with | .int _ i => (((ls.getD []).length : Int) - i).toNat | _ => 0) ⟨0, by omega, by simp, by simp, by simp, Ext.refl _ _⟩ ?_
    rintro f w' ⟨i, hi, h10, h9, h8, he⟩
    simp [h10, h9]
    by_cases hlt : i < (ls.getD []).length
    rotate_left
    · refine cw_false (by simp; omega) ?_
      simp
      exact ⟨⟨_, rfl⟩, he⟩
    refine cw_true (by simp; omega) ?_
    cases ls with
    | none => simp at hlt
    | some ls =>
    obtain ⟨bb, oo, cc, hvv, _, ⟨hnn, _⟩, hx⟩ := ha
    cases hvv
    simp only [Option.getD_some] at hlt hlen hget hmax h9 h8
    obtain ⟨q, hq⟩ : ∃ q, ls[i]? = some q := ⟨_, List.getElem?_eq_getElem hlt⟩
    obtain ⟨x, hxx⟩ : ∃ x, u[i]? = some x := ⟨_, List.getElem?_eq_getElem (by omega)⟩
    obtain ⟨bv, rfl, _, hbv⟩ := hget i q x hq hxx
    obtain ⟨ab, cb, rfl, _⟩ := hbv.len
    have hcx := (hx i _ hq).2.ext (K := All) he (fun _ _ _ h => h) trivial
    have hcf := cellsFrom_list0 hcx
    have hl2 : [Value.int .u32 x.1, .slice ab x.2.length cb].length = 2 := rfl
    rw [hl2] at hcf
    have ho2 : allOne [Value.int .u32 x.1, .slice ab x.2.length cb] = true := rfl
    have hzc : (Value.agg #[.int .u32 0, .slice none 0 0]).cells = #[.int .u32 0, .slice none 0 0] := rfl
    have hov : over #[Value.int .u32 0, .slice none 0 0] 0 [Value.int .u32 x.1, .slice ab x.2.length cb] = #[Value.int .u32 x.1, .slice ab x.2.length cb] := rfl
    simp [h10, h8, idx?, ht.sU, hlt, Addr.add_mk, ld_agg ht.kU, hcf, hzU, hzc, store_agg ht.kU, ho2, putK_blk alloc_new, hov]
    generalize hw3 : (w'.alloc (.cells #[.int .u32 0, .slice none 0 0] E.t_spec_Tag)).setBlk w'.heap.size (.cells #[Value.int .u32 x.1, .slice ab x.2.length cb] E.t_spec_Tag (0, 0)) = w3
    have hb3 : w3.heap[w'.heap.size]? = some (.cells #[Value.int .u32 x.1, .slice ab x.2.length cb] E.t_spec_Tag (0, 0)) := by subst hw3; exact setBlk_same alloc_new
    have hx3 : Ext none1 w' w3 := by subst hw3; exact ((Ext.refl none1 w').alloc _).setBlk (.inl (Nat.le_refl _)) _
    have he3 : Ext none1 w w3 := he.trans hx3
    have hcb := cellsFrom_row hb3
    simp only [List.size_toArray, List.length_cons, List.length_nil] at hcb
    simp [hcb]
    refine (h4 w3 _ _ x.2 (hbv.ext he3 (fun _ _ _ h => h)) rfl).mono ?_
    rintro _ w4 ⟨⟨b, rfl⟩, he4⟩
    simp
    have ei : IntKind.i64.wrap ((i : Int) + 1) = ((i + 1 : Nat) : Int) := by rw [i64_small (by omega) (by omega)]; rfl
    cases b
    · refine cw_true (by simp) ?_
      simp
      exact ⟨⟨_, rfl⟩, he3.trans he4⟩
    · refine cw_false (by simp) ?_
      simp [h10, ei]
      refine ⟨⟨i + 1, by omega, by simp, by simp [h9], by simp [h8], he3.trans he4⟩, by omega⟩
theorem c_zzFits2 (hI : FnIs P E.f_laws_zzFits2 nt_laws_zzFits2 (rs_laws_zzFits2 E) (ir_laws_zzFits2 E))
    (h3 : ∀ (w : World) (uv : Value) (u : List (Nat × List UInt8)), UAt w uv u → Ret P E.f_laws_zzFits3 #[uv] w (SomeB w)) (w : World) (cs : List Value) (t : Tr) (hT : TreeAt w cs t) :
    Ret P E.f_laws_zzFits2 #[.agg cs.toArray] w (SomeB w) := by
  obtain ⟨hn, hs, ha, hl, he, hu⟩ := hT
  rename_i n s nul l u sv lv uv ls
  obtain ⟨a1, c1, rfl, _⟩ := hs.len
  obtain ⟨a2, c2, rfl, _, _⟩ := ha.form
  refine hI.call (args := [_]) (by simp [nt_laws_zzFits2]) ?_
  have hv : ∀ (a : Array Value), (Value.agg a).cells = a := fun a => rfl
  obtain ⟨Et, jt, hut, _, _⟩ := sliSz_spec ht.sT
  simp [ir_laws_zzFits2, rs_laws_zzFits2, hv]
  generalize hw1 : w.alloc (.cells #[.int .i64 n, .slice a1 s.length c1, .bool nul, .slice a2 (ls.getD []).length c2, uv] E.t_spec_Tree) = w1
  have hE : Ext none1 w w1 := by subst hw1; exact (Ext.refl none1 w).alloc _
  have hb1 : w1.heap[w.heap.size]? = some (.cells #[.int .i64 n, .slice a1 s.length c1, .bool nul, .slice a2 (ls.getD []).length c2, uv] E.t_spec_Tree (0, 0)) := by subst hw1; exact alloc_new
  have k1 : w1.cell? ⟨w.heap.size, 1, none⟩ = some (.slice a1 s.length c1) := by rw [cell_of_blk hb1]; rfl
  have k3 : w1.cell? ⟨w.heap.size, 3, none⟩ = some (.slice a2 (ls.getD []).length c2) := by rw [cell_of_blk hb1]; rfl
  have k4 : w1.cell? ⟨w.heap.size, 4, none⟩ = some uv := by rw [cell_of_blk hb1]; rfl
  simp [ht.t1, Addr.add_mk, ld_scl ht.kBs, k1, len_slice ht.uBs]
  refine cw_bool (c := decide ((2147483647 : Int) < s.length)) (by simp) ?_ ?_
  · intro _
    simp
    exact ⟨⟨_, rfl⟩, hE⟩
  intro _
  simp [ht.t3, Addr.add_mk, ld_scl ht.kLT, k3, len_slice hut]
  refine cw_bool (c := decide ((2147483647 : Int) < (ls.getD []).length)) (by simp) ?_ ?_
  · intro _
    simp
    exact ⟨⟨_, rfl⟩, hE⟩
  intro _
  simp [ht.t4, Addr.add_mk, ld_scl ht.kLU, k4]
  refine (h3 w1 uv u (hu.ext hE)).mono ?_
  rintro _ w2 ⟨⟨b, rfl⟩, he2⟩
  simp
  cases b
  · refine cw_true (by simp) ?_
    simp
    exact ⟨⟨_, rfl⟩, hE.trans he2⟩
  · refine cw_false (by simp) ?_
    simp
    exact ⟨⟨_, rfl⟩, hE.trans he2⟩
end
end Go.Kg

set_option linter.unusedSimpArgs false
set_option linter.unusedVariables false
namespace Go.Kg
open Go
theorem TreeAt.five {w : World} {cs : List Value} {t : Tr} (h : TreeAt w cs t) : cs.length = 5 ∧ allOne cs = true := by
  cases h with
  | mk hn hs ha hl he hu =>
    obtain ⟨a1, c1, rfl, _⟩ := hs.len
    obtain ⟨a2, c2, rfl, _⟩ := ha.form
    obtain ⟨lu, hu1, _⟩ := hu
    obtain ⟨a3, c3, rfl, _⟩ := hu1.form
    simp [allOne, Value.oneCell']
/-- s[:l] of bytes -/
theorem BytesAt.upTo {w : World} {K : Nat → Prop} {a : Option Addr} {n c : Nat} {s : List UInt8} (h : BytesAt w K (.slice a n c) s) {l : Nat} (hl : l ≤ s.length) : BytesAt w K (.slice (if c = 0 then a else a.map (·.add 0)) l c) (s.take l) := by
  rcases h with ⟨⟨a', hv⟩, rfl⟩ | ⟨b, o, c', hv, h2, hk, h3⟩
  · cases hv
    have : l = 0 := by simpa using hl
    subst this
    exact .inl ⟨⟨a, by simp⟩, by simp⟩
  · cases hv
    refine .inr ⟨b, o, c, by simp [Nat.min_eq_left hl, Addr.add_mk], by simp; omega, fun h => hk (by rintro rfl; simp at h), ?_⟩
    intro i x hx
    rw [List.getElem?_take] at hx
    split at hx
    · exact h3 _ _ hx
    · cases hx
section
variable {P : Program} {E : Env} (ht : TyK P E) (hs : SpecFns P E)
include ht hs
end
end Go.Kg

set_option linter.unusedSimpArgs false
set_option linter.unusedVariables false
set_option linter.unusedSectionVars false
namespace Go.Kg
open Go
def irNewK (C : Cfg) (T fDef : Nat) : Ir :=
  .seq (.reg [⟨none, some 0, .alloc T, C.E.tNil⟩]) (.seq (.reg [⟨none, some 1, .alloc T, C.E.tNil⟩]) (.seq (.reg [⟨none, some 2, .call { callee := .value (.func fDef), args := #[.tmp 1], argTypes := #[T] }, C.E.tNil⟩])
  (.seq (.reg [⟨none, some 3, .load T (.tmp 1), T⟩, ⟨none, none, .store T (.tmp 0) (.tmp 3), C.E.tNil⟩]) .ret)))
theorem over_all {z c : Array Value} (h : z.size = c.size) : over z 0 c.toList = c := by
  have hd : z.toList.drop (0 + c.toList.length) = [] := List.drop_eq_nil_of_le (by simp [h])
  simp only [over, hd]; simp
theorem newKC {P : Program} {C : Cfg} {T n g nt fDef : Nat} {S : Sch} {z : Array Value} (hI : FnIs P g nt [.c 0 T] (irNewK C T fDef)) (hz : zeroOf P T = some (.agg z)) (hn : z.size = n) (hk : kindOf P T = .agg n) (hone : allOne (setD 0 (S.dst C) z).toList = true)
    (hD : DefRC P C n fDef S) (w : World) : Ret P g #[] w fun v w' => v = .agg (setD 0 (S.dst C) z) ∧ Ext none1 w w' := by
  generalize hzD : setD 0 (S.dst C) z = zD at *
  have hzDs : zD.size = n := by subst hzD; rw [setD_size]; exact hn
  refine hI.call (args := []) (by simp) ?_
  simp [irNewK, hz, Value.cells]
  generalize hw1 : w.alloc (.cells z T) = w1
  have hb1 : w1.heap[w.heap.size]? = some (.cells z T (0, 0)) := by subst hw1; exact alloc_new
  have hs1 : w1.heap.size = w.heap.size + 1 := by subst hw1; simp
  have hE1 : Ext none1 w w1 := by subst hw1; exact (Ext.refl none1 w).alloc _
  rw [← hs1]
  refine (hD (w1.alloc (.cells z T)) w1.heap.size 0 z T alloc_new (by omega)).mono ?_
  rintro v w2 rfl
  rw [hzD]
  generalize hw2 : (w1.alloc (.cells z T)).setBlk w1.heap.size (.cells zD T (0, 0)) = w2
  have hb2 : w2.heap[w1.heap.size]? = some (.cells zD T (0, 0)) := by subst hw2; exact setBlk_same alloc_new
  have hE2 : Ext none1 w1 w2 := by subst hw2; exact ((Ext.refl none1 w1).alloc _).setBlk (.inl (Nat.le_refl _)) _
  have hb20 := hE2.old hb1 (fun h => h)
  have l2 := cellsFrom_row hb2
  rw [hzDs] at l2
  simp [ld_agg hk, l2, store_agg hk, hzDs, hone, putK_blk hb20, over_all (show z.size = zD.size by omega)]
  refine ⟨by omega, ?_⟩
  have hb3 : (w2.setBlk w.heap.size (.cells zD T (0, 0))).heap[w.heap.size]? = some (.cells zD T (0, 0)) := setBlk_same hb20
  have l3 := cellsFrom_row hb3
  rw [hzDs] at l3
  simp [ld_agg hk, l3]
  exact (hE1.trans hE2).setBlk (.inl (Nat.le_refl _)) _
def irAgainK (C : Cfg) (T fNew fRF fApp : Nat) : Ir :=
  .seq (.reg [⟨none, some 2, .assign (.const (.slice none 0 0)), C.E.tBs⟩, ⟨none, some 3, .assign (.const (.bool false)), C.E.tB⟩])
  (.seq (.reg [⟨none, some 5, .call { callee := .value (.func fNew), args := #[], argTypes := #[] }, T⟩, ⟨none, some 4, .alloc T, C.E.tNil⟩, ⟨none, none, .store T (.tmp 4) (.tmp 5), C.E.tNil⟩])
  (.seq (.seq (.reg [⟨none, some 6, .move (.tmp 0), C.E.tBs⟩, ⟨none, some 7, .call { callee := .builtin .append, args := #[.const (.slice none 0 0), .tmp 6], argTypes := #[C.E.tBs, C.E.tBs] }, C.E.tBs⟩,
      ⟨none, some 8, .call { callee := .value (.func fRF), args := #[.tmp 4, .tmp 7], argTypes := #[T, C.E.tBs] }, C.E.tErr⟩, ⟨none, some 9, .binOp .neq C.E.tErr (.tmp 8) (.const .nilIface) C.E.tErr, C.E.tB⟩])
    (.cond 9 (.seq (.reg [⟨none, some 2, .assign (.const (.slice none 0 0)), C.E.tBs⟩, ⟨none, some 3, .assign (.const (.bool false)), C.E.tB⟩]) .ret) .skip))
  (.seq (.reg [⟨none, some 10, .call { callee := .value (.func fApp), args := #[.tmp 4, .const (.slice none 0 0)], argTypes := #[T, C.E.tBs] }, C.E.tBs⟩, ⟨none, some 2, .assign (.tmp 10), C.E.tBs⟩, ⟨none, some 3, .assign (.const (.bool true)), C.E.tB⟩]) .ret)))
/-- the version as a field ahead of the others -/
def schK (S : Sch) : Sch := .prim ⟨none, none⟩ 0 0 .i16 0 0 S
end Go.Kg

set_option linter.unusedSimpArgs false
set_option linter.unusedVariables false
set_option linter.unusedSectionVars false
namespace Go.Kg
open Go
end Go.Kg

set_option linter.unusedSimpArgs false
set_option linter.unusedVariables false
namespace Go.Kg
open Go
section
variable {P : Program} {E : Env}
end
end Go.Kg

set_option linter.unusedSimpArgs false
set_option linter.unusedVariables false
namespace Go.Kg
open Go
section
variable {P : Program} {C : Cfg}
theorem primW_i16 (h : ∀ n : Int, WrC P C.E.tU8 C.E.f_kbin_AppendInt16 [.int .i16 n] (bigE 2 (n % 65536).toNat)) : PrimW P C .i16 := by
  intro fl _ x u w base v s hp
  have : u = .int .i16 x := hp
  subst this
  exact h x w base v s
theorem primW_i32 (h : ∀ n : Int, WrC P C.E.tU8 C.E.f_kbin_AppendInt32 [.int .i32 n] (bigE 4 (n % 4294967296).toNat)) : PrimW P C .i32 := by
  intro fl _ x u w base v s hp
  have : u = .int .i32 x := hp
  subst this
  exact h x w base v s
theorem primW_i64 (h : ∀ n : Int, WrC P C.E.tU8 C.E.f_kbin_AppendInt64 [.int .i64 n] (bigE 8 (n % 18446744073709551616).toNat)) : PrimW P C .i64 := by
  intro fl _ x u w base v s hp
  have : u = .int .i64 x := hp
  subst this
  exact h x w base v s
theorem primW_uuid (h : ∀ l : List UInt8, l.length = 16 → WrC P C.E.tU8 C.E.f_kbin_AppendUuid [.agg (cellsOf l).toArray] l) : PrimW P C .uuid := by
  intro fl _ x u w base v s hp
  obtain ⟨rfl, hl⟩ := hp
  exact h x hl w base v s
theorem primW_str (h : ∀ l, WrC P C.E.tU8 C.E.f_kbin_AppendString [strV l] (wStr l)) (hc : C.fx = true → ∀ l, WrC P C.E.tU8 C.E.f_kbin_AppendCompactString [strV l] (wCStr l)) : PrimW P C .str := by
  intro fl hfl x u w base v s hp
  have : u = strV x := hp
  subst this
  cases fl
  · exact h x w base v s
  · exact hc (hfl rfl) x w base v s
end
end Go.Kg

set_option linter.unusedSimpArgs false
set_option linter.unusedVariables false
namespace Go.Kg
open Go Go.ChangeShapes Go.WideShapes Go.ChangeAt Go.RowKit
theorem FnIs.of {P : Program} {g N : Nat} {rs : List Rv} {ir : Ir} {fn : Func} (hm : P.follows .mixedOrders = true) (h1 : P.funcs[g]? = some fn) (h2 : fn.body.bind (erase N) = some ir) (h3 : fn.ntmps = N)
    (h4 : fn.results = (rs.map Rv.var).toArray) (h5 : (fn.name == "runtime.NumGoroutine") = false) : FnIs P g N rs ir := by
  refine ⟨hm, ?_⟩
  cases hb : fn.body with
  | none => rw [hb] at h2; cases h2
  | some c => rw [hb] at h2; exact ⟨fn, c, h1, hb, h3, h4, h5, h2⟩
theorem sli_of {P : Program} {t e s bytes : Nat} {z : Value} (hu : P.underlying t = some (.slice e)) (hi : (P.info? e).map (fun i => (i.zero, i.size, i.bytes)) = some (some z, s, bytes)) (hz : z.cells.size = s) : SliI P t e s bytes z := by
  refine ⟨hu, ?_, hz⟩
  cases h : P.info? e with
  | none => rw [h] at hi; cases hi
  | some i => rw [h] at hi; simp at hi; exact ⟨i, rfl, hi.1, hi.2.1, hi.2.2⟩
def FH.okB (h : FH) : Bool := decide (-1 ≤ h.tag) && decide (h.tag < 1000) && decide (-9223372036854775808 ≤ h.dflt) && decide (h.dflt < 9223372036854775808)
def FS.okB : FS → Bool
  | .nil => true
  | .cons h sub rest => h.okB && decide (sub.len ≤ 1000) && sub.okB && rest.okB
theorem FS.ok_of : ∀ {F : FS}, F.okB = true → F.okAll
  | .nil, _ => trivial
  | .cons h sub rest, hb => by
    simp only [FS.okB, FH.okB, Bool.and_eq_true, decide_eq_true_eq] at hb
    exact ⟨⟨hb.1.1.1.1.1.1, hb.1.1.1.1.1.2⟩, ⟨hb.1.1.1.1.2, hb.1.1.1.2⟩, hb.1.1.2, FS.ok_of hb.1.2, FS.ok_of hb.2⟩
def psNe (xs : List FSrc) : Bool := !xs.isEmpty && decide (xs.length ≤ 1000) && xs.all fun x => !x.ps.isEmpty && psOk x.ps
theorem psNe_of {xs : List FSrc} (h : psNe xs = true) : xs ≠ [] ∧ xs.length ≤ 1000 ∧ (∀ x ∈ xs, x.ps ≠ []) ∧ ∀ x ∈ xs, psOk x.ps = true := by
  simp only [psNe, Bool.and_eq_true, List.all_eq_true, Bool.not_eq_true', List.isEmpty_eq_false_iff, decide_eq_true_eq] at h
  exact ⟨h.1.1, h.1.2, fun x hx => (h.2 x hx).1, fun x hx => (h.2 x hx).2⟩
/-- the functions of a message's own lists -/
def subsOk (P : Program) : List FSrc → Prop
  | [] => True
  | x :: r => (∀ g F, x.sub = some (g, F) → SubC P g F) ∧ subsOk P r
theorem srcOk_of {P : Program} : ∀ {xs : List FSrc}, (∀ x ∈ xs, psOk x.ps = true) → subsOk P xs → srcOk P xs
  | [], _, _ => trivial
  | x :: r, h, hs => ⟨h x List.mem_cons_self, hs.1, srcOk_of (fun y hy => h y (List.mem_cons_of_mem _ hy)) hs.2⟩
theorem msg_of {P : Program} {E : Env} (ht : TyK P E) {g nt : Nat} {xs : List FSrc} {fx : Int} (hI : FnIs P g nt [.c 0 E.t_spec_Message] (irMsg E xs fx)) (hb : psNe xs = true) (hs : subsOk P xs) : MsgC P g (mkFS xs) fx := by
  obtain ⟨h1, h2, h3, h4⟩ := psNe_of hb
  exact msg_sound ht hI h1 h2 (srcOk_of h4 hs) h3
theorem ext_kept {w w' : World} (h : Ext none1 w w') (may : MemPlace → Prop) : w.keptBut w' may := by
  refine ⟨h.os, h.output, fun i hi => ?_⟩
  rw [h.block i hi (fun h => h)]
  have : ∃ o, w.heap[i]? = some o := ⟨_, Array.getElem?_eq_getElem hi⟩
  obtain ⟨o, ho⟩ := this
  rw [ho]
  cases o <;> simp
theorem ext_frozen {w w' : World} (h : Ext none1 w w') (a : Addr) (ha : a.block < w.heap.size) : w'.frozen? a = w.frozen? a := by
  simp only [World.frozen?, h.block a.block ha (fun h => h)]
theorem post_of_ext {H : Type} {enc : TypeId × Value → H} {P : Program} {f : Func} {s : ChangeSpec} {apart fresh handsOn again : Bool} {W W' : World} {args : Array Value} {v : Value} {ds gs : List (DataW H)} {before pa pv : List MemPlace}
    (hW : DataW.Whole enc P f.params.toList s.vars apart W args.toList ds gs before)
    (hres : ∀ (b : Nat) (sp : Nat → Bool) (hd : Bool), DataW.TrodAll enc P W' b sp hd f.resultTypes.toList (v.resultList f.resultTypes.size) (s.fn H (ds ++ gs)).results [])
    (hargs : ∀ sp : Nat → Bool, (∀ p ∈ before, sp p.block = true) → DataW.TrodAll enc P W' 0 sp true f.params.toList args.toList (s.fn H (ds ++ gs)).args pa)
    (hvars : ∀ sp : Nat → Bool, (∀ p ∈ before, sp p.block = true) → DataW.TrodVars enc P W' sp s.vars (s.fn H (ds ++ gs)).vars pv)
    (hps : before = pa ++ pv) (he : Ext none1 W W')
    (hok : ∀ (j : Nat) (t : TypeId) (r : Value), f.resultTypes[j]? = some t → (v.resultList f.resultTypes.size)[j]? = some r → Value.okWide P W' .any 0 t r) :
    s.post enc P f apart fresh handsOn again W args v W' := by
  have hold : ∀ p ∈ before, (fun b => decide (b < W.heap.size)) p.block = true := fun p hp => by simpa using hW.lt p hp
  have hlt := hW.lt
  refine ⟨ds, gs, before, [], pa, pv, hW, hres _ _ _, hargs _ hold, hvars _ hold, World.keptBut_mono (fun p hp => ⟨hp, ?_⟩) (ext_kept he (· ∈ before)), fun _ => ?_⟩
  · rw [hps, List.mem_append] at hp
    exact Or.inr hp
  · obtain ⟨_, _, _, _, _, hz, hn⟩ := hW
    refine ⟨hok, _, _, ([] ++ pa) ++ pv, ⟨[] ++ pa, pv, trodAll_append (hargs _ (fun _ _ => rfl)) (hres _ _ _), hvars _ (fun _ _ => rfl), rfl, ?_, ?_⟩, ?_⟩
    · intro b off hp
      have hp' : MemPlace.cell b off ∈ before := by rw [hps]; simpa using hp
      rw [ext_frozen he _ (hlt _ hp')]
      exact hz b off hp'
    · intro ha
      have := hn ha
      rw [hps] at this
      simpa using this
    · intro p hp _
      rw [hps]
      simpa using hp
end Go.Kg

set_option linter.unusedSimpArgs false
set_option linter.unusedVariables false
namespace Go.Kg
open Go Go.ChangeShapes Go.WideShapes Go.ChangeAt Go.RowKit
/-- an argument reads behind the call as it did -/
theorem ext_trod {H : Type} {enc : TypeId × Value → H} {P : Program} {t : TypeId} (hl : laidOutB P = true) (hr : P.readableRec t = true) (hrow : t < P.types.size) {W W' : World} {v : Value} {d : DataW H} {ps : List MemPlace}
    (h : DataW.Trod enc P W 0 (fun _ => true) true t v d ps) (he : Ext none1 W W') (hlt : ∀ x ∈ ps, x.block < W.heap.size) {sp : Nat → Bool} (hs : ∀ p ∈ ps, sp p.block = true) : DataW.Trod enc P W' 0 sp true t v d ps := by
  have hb : Below W.heap.size W W' := ⟨he.os, he.tape, he.output, he.size, fun k hk => he.block k hk (fun h => h)⟩
  exact WideElems.Trod_stays hl hr hrow h (fun x hx => hb.same (hlt x hx)) hs
end Go.Kg

set_option linter.unusedSimpArgs false
set_option linter.unusedVariables false
namespace Go.Kg
open Go Go.ChangeShapes Go.WideShapes Go.ChangeAt Go.RowKit
mutual
def Tr.sz : Tr → Nat
  | .mk _ s _ l u => 1 + s.length + Tr.szL l + (u.map fun x => 1 + x.2.length).sum
def Tr.szL : List Tr → Nat
  | [] => 0
  | t :: l => t.sz + Tr.szL l
end
theorem Tr.sz_pos (t : Tr) : 1 ≤ t.sz := by cases t; simp only [Tr.sz]; omega
theorem Tr.sz_mem : ∀ {l : List Tr} {t : Tr}, t ∈ l → t.sz ≤ Tr.szL l
  | x :: l, t, h => by
    simp only [Tr.szL]
    rcases List.mem_cons.1 h with rfl | h
    · omega
    · have := Tr.sz_mem h; omega
theorem Tr.szL_le (t : Tr) : Tr.szL t.l + 1 ≤ t.sz := by cases t; simp only [Tr.sz, Tr.l]; omega
theorem Tr.sz_at (t : Tr) (i : Nat) : (t.at i).sz ≤ t.sz := by
  unfold Tr.at
  cases h : t.l[i]? with
  | none => simp only [Option.getD_none]; have := t.sz_pos; simp [Tr.none, Tr.sz, Tr.szL]; omega
  | some x => have := Tr.sz_mem (List.mem_of_getElem? h); have := t.szL_le; simp only [Option.getD_some]; omega
def Prim.wt : Prim → Nat
  | .str | .nstr | .bytes | .nbytes => 32772
  | _ => 16
def Sch.wt : Sch → Nat
  | .fin => 1
  | .tags _ _ => 15
  | .prim _ _ _ p _ _ r => p.wt + r.wt
  | .arrP _ _ _ _ _ p r => 5 + p.wt + r.wt
  | .arrS _ _ _ _ _ _ _ _ _ e r => 5 + e.wt + r.wt
  | .sub _ _ _ _ _ _ _ e r => e.wt + r.wt
  | .opt _ _ _ _ _ _ _ _ e r => 1 + e.wt + r.wt
theorem counted_len (fl nul : Bool) (n k : Nat) (hn : n ≤ 32767) (hk : k ≤ 4) : (countedS fl nul n k).length ≤ 5 := by
  unfold countedS
  split
  · simp
  · split
    · exact @uvS_len 4 (n + 1) (by omega)
    · split <;> simp [fixE_len] <;> omega
theorem flat_wt {f : Tr → List UInt8} {c : Nat} : ∀ (l : List Tr) (k : Nat), (∀ t ∈ l, (f t).length ≤ c * t.sz) → ((l.take k).flatMap f).length ≤ c * Tr.szL l
  | [], k, _ => by simp
  | t :: l, 0, _ => by simp
  | t :: l, k + 1, h => by
    have h1 := h t List.mem_cons_self
    have h2 := flat_wt l k (fun x hx => h x (List.mem_cons_of_mem _ hx))
    simp only [List.take_succ_cons, List.flatMap_cons, List.length_append, Tr.szL, Nat.mul_add]; omega
def tagWt (l : TagL) : Nat := (l.map fun x => 10 + x.2.length).sum
theorem insU_wt {least : Nat} {x : Nat × List UInt8} : ∀ {l : TagL}, tagWt (insU least x l) ≤ 10 + x.2.length + tagWt l
  | [] => by unfold insU; split <;> simp [tagWt]
  | y :: l => by
    have ih := @insU_wt least x l
    simp only [tagWt] at ih ⊢
    unfold insU; split
    · simp
    · simp only
      split
      · simp only [List.map_cons, List.sum_cons]; omega
      · split
        · simp
        · simp
theorem unkS_wt (least : Nat) (u : TagL) : tagWt (unkS least u) ≤ tagWt u := by
  have : ∀ (l out : TagL), tagWt (l.foldl (fun out x => insU least x out) out) ≤ tagWt out + tagWt l := by
    intro l
    induction l with
    | nil => intro out; simp [tagWt]
    | cons y l ih =>
      intro out
      have h1 := ih (insU least y out)
      have h2 := @insU_wt least y out
      have h3 : tagWt (y :: l) = 10 + y.2.length + tagWt l := by simp [tagWt]
      simp only [List.foldl_cons]
      omega
  have h1 : tagWt (unkS least u) ≤ tagWt ([] : TagL) + tagWt (u.take 32767) := this (u.take 32767) []
  have h2 : ∀ (l : TagL) (k : Nat), tagWt (l.take k) ≤ tagWt l := by
    intro l
    induction l with
    | nil => intro k; simp [tagWt]
    | cons y l ih =>
      intro k
      cases k with
      | zero => simp [tagWt]
      | succ k =>
        have h3 : tagWt (y :: l) = 10 + y.2.length + tagWt l := by simp [tagWt]
        have h4 : tagWt (y :: l.take k) = 10 + y.2.length + tagWt (l.take k) := by simp [tagWt]
        have := ih k
        rw [List.take_succ_cons]; omega
  have h3 := h2 u 32767
  have h4 : tagWt ([] : TagL) = 0 := rfl
  omega
theorem tagWt_sz (u : TagL) : tagWt u ≤ 10 * (u.map fun x => 1 + x.2.length).sum := by
  induction u with
  | nil => simp [tagWt]
  | cons x u ih =>
    have h3 : tagWt (x :: u) = 10 + x.2.length + tagWt u := by simp [tagWt]
    simp only [List.map_cons, List.sum_cons]; omega
theorem tail_wt (fl : Bool) (t : Tr) (ht : t.Ok) : (tailS fl t).length ≤ 15 * t.sz := by
  unfold tailS
  cases fl
  · simp
  simp only [if_true, List.length_append]
  obtain ⟨_, h2, h3⟩ := unkS_spec 0 t.u
  have hw := unkS_wt 0 t.u
  have hz := tagWt_sz t.u
  have hsz : (t.u.map fun x => 1 + x.2.length).sum + 1 ≤ t.sz := by cases t; simp only [Tr.sz, Tr.u]; omega
  have hq : ∀ (q : TagL), (∀ x ∈ q, x ∈ t.u) → ((q.map fun x => (x.1, x.2.take 32767)).flatMap fun x => tagS x.1 x.2).length ≤ tagWt q := by
    intro q
    induction q with
    | nil => intro _; simp
    | cons x q ih =>
      intro hx
      have h1 := ih (fun y hy => hx y (List.mem_cons_of_mem _ hy))
      have hx1 := ht.u x (hx x List.mem_cons_self)
      have a := @uvS_len 4 x.1 (by omega)
      have b := @uvS_len 4 (x.2.take 32767).length (by simp; omega)
      have c : tagWt (x :: q) = 10 + x.2.length + tagWt q := by simp [tagWt]
      have d : (x.2.take 32767).length ≤ x.2.length := by simp; omega
      have e : (tagS x.1 (x.2.take 32767)).length = (uvS x.1).length + (uvS (x.2.take 32767).length).length + (x.2.take 32767).length := by simp only [tagS, List.length_append]
      simp only [List.map_cons, List.flatMap_cons, List.length_append]
      omega
  have h5 := hq _ h3
  have h6 := @uvS_len 4 ((unkS 0 t.u).map fun x => (x.1, x.2.take 32767)).length (by simp; omega)
  omega
end Go.Kg

set_option linter.unusedSimpArgs false
set_option linter.unusedVariables false
set_option linter.unusedSectionVars false
namespace Go.Kg
open Go
def Sch.flds : Sch → Nat
  | .fin => 0
  | .tags _ _ => 0
  | .prim _ _ _ _ _ _ r => r.flds + 1
  | .arrP _ _ _ _ _ _ r => r.flds + 1
  | .arrS _ _ _ _ _ _ _ _ _ _ r => r.flds + 1
  | .sub _ _ _ _ _ _ _ _ r => r.flds + 1
  | .opt _ _ _ _ _ _ _ _ _ r => r.flds + 1
/-- the plain fields against S; the fields behind them -/
def fitP (M : Nat) (flx : Nat → Bool) : FS → Sch → Option FS
  | F, .fin => some F
  | .cons h _ rest, .prim g _ _ p _ _ r => if decide (h.tag < 0) && onAt M g h && decide (h.kind = primK p) && (!p.txt || nnAt M g h) then fitP M flx rest r else none
  | .cons h _ rest, .arrP g _ _ _ nul p r => if decide (h.tag < 0) && onAt M g h && decide (h.kind = 11) && decide (h.of_ = primK p) && nulOk M g h nul then fitP M flx rest r else none
  | .cons h sub rest, .arrS g _ _ _ nul _ _ _ _ e r => if decide (h.tag < 0) && onAt M g h && decide (h.kind = 11) && decide (h.of_ = 10) && nulOk M g h nul && fitS M flx sub e then fitP M flx rest r else none
  | .cons h sub rest, .sub g _ _ _ _ _ _ e r => if decide (h.tag < 0) && onAt M g h && decide (h.kind = 10) && decide (h.null < 0) && fitS M flx sub e then fitP M flx rest r else none
  | .cons h sub rest, .opt g _ _ _ _ _ _ _ e r => if decide (h.tag < 0) && onAt M g h && decide (h.kind = 10) && decide (0 ≤ h.null) && fitS M flx sub e then fitP M flx rest r else none
  | .nil, .tags _ _ => some .nil
  | _, _ => none
/-- it ends with no tags of its own -/
def Sch.endF : Sch → Bool
  | .fin => true
  | .tags _ _ => false
  | .prim _ _ _ _ _ _ r => r.endF
  | .arrP _ _ _ _ _ _ r => r.endF
  | .arrS _ _ _ _ _ _ _ _ _ _ r => r.endF
  | .sub _ _ _ _ _ _ _ _ r => r.endF
  | .opt _ _ _ _ _ _ _ _ _ r => r.endF
/-- the entry of a field -/
def feOf (v : Int) (fl : Bool) (h : FH) (sub : FS) : FE := ⟨h, partL (sub.list v fl) v fl, usualL (sub.list v fl), knownL ((sub.list v fl).map (·.h))⟩
theorem list_cons (v : Int) (fl : Bool) (h : FH) (sub rest : FS) : (FS.cons h sub rest).list v fl = feOf v fl h sub :: rest.list v fl := rfl
theorem plainS_cons (v : Int) (fl : Bool) (h : FH) (sub rest : FS) (n : Nat) (t : Tr) : plainS (.cons h sub rest) v fl n t = (if h.tag < 0 ∧ h.has v = true then fieldS (feOf v fl h sub) v fl (t.at n) else []) ++ plainS rest v fl (n + 1) t := by
  simp [plainS, FS.list, List.zipIdx_cons, feOf]
theorem opt_if {α : Type} {b : Bool} {o : Option α} {x : α} (h : (if b = true then o else none) = some x) : b = true ∧ o = some x := by
  cases b
  · cases h
  · exact ⟨rfl, h⟩
theorem fitP_tag {M : Nat} {flx : Nat → Bool} {h : FH} {sub rest : FS} {S : Sch} {F2 : FS} (hS : S ≠ .fin) (hb : fitP M flx (.cons h sub rest) S = some F2) : h.tag < 0 ∧ ∃ r, fitP M flx rest r = some F2 ∧ S.flds = r.flds + 1 := by
  cases S with
  | fin => exact absurd rfl hS
  | tags k o => simp [fitP] at hb
  | prim g k o p en d r => simp only [fitP] at hb; obtain ⟨hc, hb⟩ := opt_if hb; simp only [Bool.and_eq_true, decide_eq_true_eq] at hc; exact ⟨hc.1.1.1, r, hb, rfl⟩
  | arrP g k o sT nul p r => simp only [fitP] at hb; obtain ⟨hc, hb⟩ := opt_if hb; simp only [Bool.and_eq_true, decide_eq_true_eq] at hc; exact ⟨hc.1.1.1.1, r, hb, rfl⟩
  | arrS g k o sT nul T PT sz df e r => simp only [fitP] at hb; obtain ⟨hc, hb⟩ := opt_if hb; simp only [Bool.and_eq_true, decide_eq_true_eq] at hc; exact ⟨hc.1.1.1.1.1, r, hb, rfl⟩
  | sub g k o T PT sz df e r => simp only [fitP] at hb; obtain ⟨hc, hb⟩ := opt_if hb; simp only [Bool.and_eq_true, decide_eq_true_eq] at hc; exact ⟨hc.1.1.1.1, r, hb, rfl⟩
  | opt g k o T PT PP sz df e r => simp only [fitP] at hb; obtain ⟨hc, hb⟩ := opt_if hb; simp only [Bool.and_eq_true, decide_eq_true_eq] at hc; exact ⟨hc.1.1.1.1, r, hb, rfl⟩
theorem fitP_list {M : Nat} {flx : Nat → Bool} (v : Int) (fl : Bool) : ∀ {F : FS} {S : Sch} {F2 : FS}, fitP M flx F S = some F2 → ∃ pre, F.list v fl = pre ++ F2.list v fl ∧ pre.length = S.flds ∧ ∀ x ∈ pre, x.h.tag < 0 := by
  intro F
  induction F with
  | nil =>
    intro S F2 hb
    cases S with
    | fin => cases hb; exact ⟨[], rfl, rfl, by simp⟩
    | tags k o => cases hb; exact ⟨[], rfl, rfl, by simp⟩
    | _ => simp [fitP] at hb
  | cons h sub rest ihs ih =>
    intro S F2 hb
    by_cases hS : S = .fin
    · subst hS; cases hb; exact ⟨[], rfl, rfl, by simp⟩
    · obtain ⟨ht, r, hr, hf⟩ := fitP_tag hS hb
      obtain ⟨pre, h1, h2, h3⟩ := ih hr
      refine ⟨feOf v fl h sub :: pre, by rw [list_cons, h1]; rfl, by simp [h2, hf], ?_⟩
      intro x hx
      rcases List.mem_cons.1 hx with rfl | hx
      · exact ht
      · exact h3 x hx
/-- the plain fields' texts -/
theorem conv_pre {M : Nat} {flx : Nat → Bool} {v : Nat} (hv : v ≤ M) : ∀ (S : Sch) (F : FS) (n : Nat) (t : Tr) (F2 : FS), fitP M flx F S = some F2 → S.endF = true → t.Ok → ∃ x : S.T, S.wr v (flx v) x ++ plainS F2 v (flx v) (n + S.flds) t = plainS F v (flx v) n t ∧ S.wf v (flx v) x := by
  intro S
  induction S with
  | fin =>
    intro F n t F2 hb hE ht
    have : F = F2 := by cases F <;> simpa [fitP] using hb
    subst this
    exact ⟨(), by simp [Sch.wr, Sch.flds], trivial⟩
  | tags k o => intro F n t F2 hb hE ht; cases hE
  | prim g k o p en d r ih =>
    intro F n t F2 hb hE ht
    cases F with
    | nil => simp [fitP] at hb
    | cons h sub rest =>
      simp only [fitP] at hb
      obtain ⟨hc, hb⟩ := opt_if hb
      simp only [Bool.and_eq_true, decide_eq_true_eq, Bool.or_eq_true, Bool.not_eq_true'] at hc
      obtain ⟨⟨⟨htag, hon⟩, hkind⟩, hnul⟩ := hc
      obtain ⟨y, hy1, hy2⟩ := ih rest (n + 1) t F2 hb hE ht
      have hgo := onAt_of hon hv
      have ef : n + (r.flds + 1) = n + 1 + r.flds := by omega
      rw [plainS_cons, ← hgo, ← hy1]
      simp only [Sch.flds, ef]
      cases hg : g.on v
      · refine ⟨(p.dfl 0, y), ?_, fun h => (by rw [hg] at h; cases h), hy2⟩
        simp [Sch.wr, hg]
      · have hfk : fieldS (feOf v (flx v) h sub) v (flx v) (t.at n) = valS (primK p) (partL (sub.list v (flx v)) v (flx v)) (h.isNull v (t.at n).nul) (flx v) (t.at n) := by
          have h11 : ¬ (primK p = 11) := by cases p <;> simp [primK]
          have h10 : ¬ (primK p = 10) := by cases p <;> simp [primK]
          simp only [feOf, fieldS, hkind, if_neg h11, h10, false_and, if_false]
        obtain ⟨x, hx1, hx2⟩ := valS_prim p (partL (sub.list v (flx v)) v (flx v)) (h.isNull v (t.at n).nul) (flx v) (t.at n) (fun htx => by
          rcases hnul with h' | h'
          · rw [htx] at h'; cases h'
          · exact nnAt_of h' hv hg _)
        refine ⟨(x, y), ?_, fun _ => hx2, hy2⟩
        simp [Sch.wr, hg, htag, hfk, hx1]
  | arrP g k o sT nul p r ih =>
    intro F n t F2 hb hE ht
    cases F with
    | nil => simp [fitP] at hb
    | cons h sub rest =>
      simp only [fitP] at hb
      obtain ⟨hc, hb⟩ := opt_if hb
      simp only [Bool.and_eq_true, decide_eq_true_eq] at hc
      obtain ⟨⟨⟨⟨htag, hon⟩, hkind⟩, hof⟩, hnul⟩ := hc
      obtain ⟨y, hy1, hy2⟩ := ih rest (n + 1) t F2 hb hE ht
      have hgo := onAt_of hon hv
      have ef : n + (r.flds + 1) = n + 1 + r.flds := by omega
      rw [plainS_cons, ← hgo, ← hy1]
      simp only [Sch.flds, ef]
      cases hg : g.on v
      · refine ⟨(none, y), ?_, fun h => (by rw [hg] at h; cases h), hy2⟩
        simp [Sch.wr, hg]
      · obtain ⟨a, ha1, ha2, ha3⟩ := list_conv (g := p.wr (flx v)) (W := p.wf) (f := valS (primK p) (partL (sub.list v (flx v)) v (flx v)) false (flx v)) nul v (h.isNull v (t.at n).nul) (flx v) (t.at n)
          (fun hn => by subst hn; exact nnAt_of hnul hv hg _) (fun m hm hnn => by subst hm; exact nlAt_of hnul hv hg hnn) (fun x _ => valS_prim p _ false (flx v) x (fun _ => rfl))
        refine ⟨(a, y), ?_, fun _ => ⟨ha2, ha3⟩, hy2⟩
        simp only [Sch.wr, hg, if_true, htag, true_and, feOf, fieldS, hkind, hof, ha1, List.append_assoc]; rfl
  | arrS g k o sT nul T PT sz df e r ihe ih =>
    intro F n t F2 hb hE ht
    cases F with
    | nil => simp [fitP] at hb
    | cons h sub rest =>
      simp only [fitP] at hb
      obtain ⟨hc, hb⟩ := opt_if hb
      simp only [Bool.and_eq_true, decide_eq_true_eq] at hc
      obtain ⟨⟨⟨⟨⟨htag, hon⟩, hkind⟩, hof⟩, hnul⟩, hsub⟩ := hc
      obtain ⟨y, hy1, hy2⟩ := ih rest (n + 1) t F2 hb hE ht
      have hgo := onAt_of hon hv
      have ef : n + (r.flds + 1) = n + 1 + r.flds := by omega
      rw [plainS_cons, ← hgo, ← hy1]
      simp only [Sch.flds, ef]
      cases hg : g.on v
      · refine ⟨(none, y), ?_, fun h => (by rw [hg] at h; cases h), hy2⟩
        simp [Sch.wr, hg]
      · obtain ⟨a, ha1, ha2, ha3⟩ := list_conv (g := e.wr v (flx v)) (W := e.wf v (flx v)) (f := valS 10 (partL (sub.list v (flx v)) v (flx v)) false (flx v)) nul v (h.isNull v (t.at n).nul) (flx v) (t.at n)
          (fun hn => by subst hn; exact nnAt_of hnul hv hg _) (fun m hm hnn => by subst hm; exact nlAt_of hnul hv hg hnn) (fun x hx => by
            obtain ⟨z, hz1, hz2⟩ := conv_all (flx := flx) hv hsub ((ht.at n).l x (List.mem_of_mem_take hx))
            exact ⟨z, hz1, hz2⟩)
        refine ⟨(a, y), ?_, fun _ => ⟨ha2, ha3⟩, hy2⟩
        simp only [Sch.wr, hg, if_true, htag, true_and, feOf, fieldS, hkind, hof, ha1, List.append_assoc]; rfl
  | sub g k o T PT sz df e r ihe ih =>
    intro F n t F2 hb hE ht
    cases F with
    | nil => simp [fitP] at hb
    | cons h sub rest =>
      simp only [fitP] at hb
      obtain ⟨hc, hb⟩ := opt_if hb
      simp only [Bool.and_eq_true, decide_eq_true_eq] at hc
      obtain ⟨⟨⟨⟨htag, hon⟩, hkind⟩, hnul⟩, hsub⟩ := hc
      obtain ⟨y, hy1, hy2⟩ := ih rest (n + 1) t F2 hb hE ht
      have hgo := onAt_of hon hv
      have ef : n + (r.flds + 1) = n + 1 + r.flds := by omega
      rw [plainS_cons, ← hgo, ← hy1]
      simp only [Sch.flds, ef]
      obtain ⟨z, hz1, hz2⟩ := conv_all (flx := flx) hv hsub (ht.at n)
      refine ⟨(z, y), ?_, fun _ => hz2, hy2⟩
      cases hg : g.on v
      · simp [Sch.wr, hg]
      · have hnn : ¬ (0 ≤ h.null) := by omega
        simp only [Sch.wr, hg, if_true, htag, true_and, feOf, fieldS, hkind, hz1, List.append_assoc]
        simp [hnn, valS, partS]
  | opt g k o T PT PP sz df e r ihe ih =>
    intro F n t F2 hb hE ht
    cases F with
    | nil => simp [fitP] at hb
    | cons h sub rest =>
      simp only [fitP] at hb
      obtain ⟨hc, hb⟩ := opt_if hb
      simp only [Bool.and_eq_true, decide_eq_true_eq] at hc
      obtain ⟨⟨⟨⟨htag, hon⟩, hkind⟩, hnul⟩, hsub⟩ := hc
      obtain ⟨y, hy1, hy2⟩ := ih rest (n + 1) t F2 hb hE ht
      have hgo := onAt_of hon hv
      have ef : n + (r.flds + 1) = n + 1 + r.flds := by omega
      rw [plainS_cons, ← hgo, ← hy1]
      simp only [Sch.flds, ef]
      obtain ⟨z, hz1, hz2⟩ := conv_all (flx := flx) hv hsub (ht.at n)
      have f1 : fixE 1 (-1) = [255] := by decide
      have f2 : fixE 1 1 = [1] := by decide
      refine ⟨(if h.isNull v (t.at n).nul = true then none else some z, y), ?_, fun _ x hx => ?_, hy2⟩
      · cases hg : g.on v
        · simp [Sch.wr, hg]
        · simp only [Sch.wr, hg, if_true, htag, true_and, feOf, fieldS, hkind, hnul, and_self]
          rw [if_neg (show ¬ (10 : Int) = 11 by decide)]
          by_cases hq : h.isNull v (t.at n).nul = true
          · simp [optW, f1, hq]
          · simp [optW, hz1, f2, partS, hq]
      · split at hx
        · cases hx
        · cases hx; exact hz2
end Go.Kg

set_option linter.unusedSimpArgs false
set_option linter.unusedVariables false
set_option linter.unusedSectionVars false
namespace Go.Kg
open Go
def Sch.wt2 : Sch → Nat
  | .fin => 1
  | .tags _ _ => 1
  | .prim _ _ _ _ _ _ r => 16 + r.wt2
  | .arrP _ _ _ _ _ _ r => 21 + r.wt2
  | .arrS _ _ _ _ _ _ _ _ _ e r => 5 + (e.wt2 + 15) + r.wt2
  | .sub _ _ _ _ _ _ _ e r => (e.wt2 + 15) + r.wt2
  | .opt _ _ _ _ _ _ _ _ e r => 1 + (e.wt2 + 15) + r.wt2
theorem Tr.sz_s (t : Tr) : t.s.length + 1 ≤ t.sz := by cases t; simp only [Tr.sz, Tr.s]; omega
theorem valS_wt (p : Prim) (part : Tr → List UInt8) (nul fl : Bool) (t : Tr) : (valS (primK p) part nul fl t).length ≤ 16 * t.sz := by
  have hz := t.sz_s
  have hs : ∀ k, k ≤ 4 → (countedS fl nul (if nul then [] else t.s.take 32767).length k ++ (if nul then [] else t.s.take 32767)).length ≤ 16 * t.sz := by
    intro k hk
    have hc := counted_len fl nul (if nul then [] else t.s.take 32767).length k (by split <;> simp <;> omega) hk
    have hl : (if nul then [] else t.s.take 32767).length ≤ t.s.length := by split <;> simp <;> omega
    rw [List.length_append]; omega
  cases p with
  | str => exact hs 2 (by omega)
  | nstr => exact hs 2 (by omega)
  | bytes => exact hs 4 (by omega)
  | nbytes => exact hs 4 (by omega)
  | _ => simp [valS, primK, widthS, fixE_len]; try omega
theorem plainS_nil (v : Int) (fl : Bool) (n : Nat) (t : Tr) : plainS .nil v fl n t = [] := rfl
theorem fitS_fitP {M : Nat} {flx : Nat → Bool} : ∀ {F : FS} {S : Sch}, fitS M flx F S = true → fitP M flx F S = some .nil
  | .nil, .fin, _ => rfl
  | .nil, .tags _ _, _ => rfl
  | .nil, .prim .., hb => by simp [fitS] at hb
  | .nil, .arrP .., hb => by simp [fitS] at hb
  | .nil, .arrS .., hb => by simp [fitS] at hb
  | .nil, .sub .., hb => by simp [fitS] at hb
  | .nil, .opt .., hb => by simp [fitS] at hb
  | .cons h sub rest, .fin, hb => by simp [fitS] at hb
  | .cons h sub rest, .tags _ _, hb => by simp [fitS] at hb
  | .cons h sub rest, .prim .., hb => by
    simp only [fitS] at hb
    rw [Bool.and_eq_true] at hb
    simp only [fitP, if_pos hb.1]; exact fitS_fitP hb.2
  | .cons h sub rest, .arrP .., hb => by
    simp only [fitS] at hb
    rw [Bool.and_eq_true] at hb
    simp only [fitP, if_pos hb.1]; exact fitS_fitP hb.2
  | .cons h sub rest, .arrS .., hb => by
    simp only [fitS] at hb
    rw [Bool.and_eq_true] at hb
    simp only [fitP, if_pos hb.1]; exact fitS_fitP hb.2
  | .cons h sub rest, .sub .., hb => by
    simp only [fitS] at hb
    rw [Bool.and_eq_true] at hb
    simp only [fitP, if_pos hb.1]; exact fitS_fitP hb.2
  | .cons h sub rest, .opt .., hb => by
    simp only [fitS] at hb
    rw [Bool.and_eq_true] at hb
    simp only [fitP, if_pos hb.1]; exact fitS_fitP hb.2
theorem pre_wt {M : Nat} {flx : Nat → Bool} {v : Nat} (hv : v ≤ M) : ∀ (S : Sch) (F : FS) (n : Nat) (t : Tr) (F2 : FS), fitP M flx F S = some F2 → t.Ok → (plainS F v (flx v) n t).length ≤ S.wt2 * t.sz + (plainS F2 v (flx v) (n + S.flds) t).length := by
  intro S
  have nest : ∀ {e : Sch} {sub : FS}, (∀ (F : FS) (n : Nat) (t : Tr) (F2 : FS), fitP M flx F e = some F2 → t.Ok → (plainS F v (flx v) n t).length ≤ e.wt2 * t.sz + (plainS F2 v (flx v) (n + e.flds) t).length) → fitS M flx sub e = true → ∀ t : Tr, t.Ok → (partL (sub.list v (flx v)) v (flx v) t).length ≤ (e.wt2 + 15) * t.sz := by
    intro e sub ihe hsub t ht
    have h1 := ihe sub 0 t .nil (fitS_fitP hsub) ht
    have h2 := tail_wt (flx v) t ht
    have h3 := partS_plain (fitS_noTag hsub) v (flx v) t
    rw [plainS_nil] at h1
    show (partS sub v (flx v) t).length ≤ _
    rw [h3, List.length_append, Nat.add_mul]
    simp only [List.length_nil] at h1
    omega
  induction S with
  | fin =>
    intro F n t F2 hb ht
    have : F = F2 := by cases F <;> simpa [fitP] using hb
    subst this
    simp [Sch.flds]
  | tags k o =>
    intro F n t F2 hb ht
    cases F with
    | nil => simp [plainS_nil]
    | cons => simp [fitP] at hb
  | prim g k o p en d r ih =>
    intro F n t F2 hb ht
    cases F with
    | nil => simp [fitP] at hb
    | cons h sub rest =>
      simp only [fitP] at hb
      obtain ⟨hc, hb⟩ := opt_if hb
      simp only [Bool.and_eq_true, decide_eq_true_eq] at hc
      obtain ⟨⟨⟨htag, hon⟩, hkind⟩, hnul⟩ := hc
      have h1 := ih rest (n + 1) t F2 hb ht
      have ef : n + (r.flds + 1) = n + 1 + r.flds := by omega
      rw [plainS_cons, List.length_append]
      simp only [Sch.flds, ef, Sch.wt2, Nat.add_mul]
      have hfk : fieldS (feOf v (flx v) h sub) v (flx v) (t.at n) = valS (primK p) (partL (sub.list v (flx v)) v (flx v)) (h.isNull v (t.at n).nul) (flx v) (t.at n) := by
        have h11 : ¬ (primK p = 11) := by cases p <;> simp [primK]
        have h10 : ¬ (primK p = 10) := by cases p <;> simp [primK]
        simp only [feOf, fieldS, hkind, if_neg h11, h10, false_and, if_false]
      have h2 := valS_wt p (partL (sub.list v (flx v)) v (flx v)) (h.isNull v (t.at n).nul) (flx v) (t.at n)
      have h3 := t.sz_at n
      rw [hfk]
      split
      · omega
      · simp only [List.length_nil]; omega
  | arrP g k o sT nul p r ih =>
    intro F n t F2 hb ht
    cases F with
    | nil => simp [fitP] at hb
    | cons h sub rest =>
      simp only [fitP] at hb
      obtain ⟨hc, hb⟩ := opt_if hb
      simp only [Bool.and_eq_true, decide_eq_true_eq] at hc
      obtain ⟨⟨⟨⟨htag, hon⟩, hkind⟩, hof⟩, hnul⟩ := hc
      have h1 := ih rest (n + 1) t F2 hb ht
      have ef : n + (r.flds + 1) = n + 1 + r.flds := by omega
      rw [plainS_cons, List.length_append]
      simp only [Sch.flds, ef, Sch.wt2, Nat.add_mul]
      have hp := t.sz_pos
      have hc := counted_len (flx v) (h.isNull v (t.at n).nul) (if h.isNull v (t.at n).nul then [] else (t.at n).l.take 32767).length 4 (by split <;> simp <;> omega) (by omega)
      have hf : ((if h.isNull v (t.at n).nul then [] else (t.at n).l.take 32767).flatMap (valS (primK p) (partL (sub.list v (flx v)) v (flx v)) false (flx v))).length ≤ 16 * t.sz := by
        have h2 := flat_wt (c := 16) (f := valS (primK p) (partL (sub.list v (flx v)) v (flx v)) false (flx v)) (t.at n).l 32767 (fun x _ => valS_wt p _ _ _ x)
        have h3 : 16 * Tr.szL (t.at n).l ≤ 16 * t.sz := Nat.mul_le_mul_left _ (by have := (t.at n).szL_le; have := t.sz_at n; omega)
        split
        · simp
        · omega
      have hfe : fieldS (feOf v (flx v) h sub) v (flx v) (t.at n) = countedS (flx v) (h.isNull v (t.at n).nul) (if h.isNull v (t.at n).nul then [] else (t.at n).l.take 32767).length 4 ++ (if h.isNull v (t.at n).nul then [] else (t.at n).l.take 32767).flatMap (valS (primK p) (partL (sub.list v (flx v)) v (flx v)) false (flx v)) := by
        simp only [feOf, fieldS, hkind, hof, if_true]; rfl
      split
      · rw [hfe, List.length_append]; omega
      · simp only [List.length_nil]; omega
  | arrS g k o sT nul T PT sz df e r ihe ih =>
    intro F n t F2 hb ht
    cases F with
    | nil => simp [fitP] at hb
    | cons h sub rest =>
      simp only [fitP] at hb
      obtain ⟨hc, hb⟩ := opt_if hb
      simp only [Bool.and_eq_true, decide_eq_true_eq] at hc
      obtain ⟨⟨⟨⟨⟨htag, hon⟩, hkind⟩, hof⟩, hnul⟩, hsub⟩ := hc
      have h1 := ih rest (n + 1) t F2 hb ht
      have ef : n + (r.flds + 1) = n + 1 + r.flds := by omega
      rw [plainS_cons, List.length_append]
      simp only [Sch.flds, ef, Sch.wt2, Nat.add_mul 5, Nat.add_mul _ r.wt2]
      have hp := t.sz_pos
      have hc := counted_len (flx v) (h.isNull v (t.at n).nul) (if h.isNull v (t.at n).nul then [] else (t.at n).l.take 32767).length 4 (by split <;> simp <;> omega) (by omega)
      have hf : ((if h.isNull v (t.at n).nul then [] else (t.at n).l.take 32767).flatMap (valS 10 (partL (sub.list v (flx v)) v (flx v)) false (flx v))).length ≤ (e.wt2 + 15) * t.sz := by
        have h2 := flat_wt (c := e.wt2 + 15) (f := valS 10 (partL (sub.list v (flx v)) v (flx v)) false (flx v)) (t.at n).l 32767 (fun x hx => nest ihe hsub x ((ht.at n).l x hx))
        have h3 : (e.wt2 + 15) * Tr.szL (t.at n).l ≤ (e.wt2 + 15) * t.sz := Nat.mul_le_mul_left _ (by have := (t.at n).szL_le; have := t.sz_at n; omega)
        split
        · simp
        · omega
      have hfe : fieldS (feOf v (flx v) h sub) v (flx v) (t.at n) = countedS (flx v) (h.isNull v (t.at n).nul) (if h.isNull v (t.at n).nul then [] else (t.at n).l.take 32767).length 4 ++ (if h.isNull v (t.at n).nul then [] else (t.at n).l.take 32767).flatMap (valS (10) (partL (sub.list v (flx v)) v (flx v)) false (flx v)) := by
        simp only [feOf, fieldS, hkind, hof, if_true]; rfl
      split
      · rw [hfe, List.length_append]; omega
      · simp only [List.length_nil]; omega
  | sub g k o T PT sz df e r ihe ih =>
    intro F n t F2 hb ht
    cases F with
    | nil => simp [fitP] at hb
    | cons h sub rest =>
      simp only [fitP] at hb
      obtain ⟨hc, hb⟩ := opt_if hb
      simp only [Bool.and_eq_true, decide_eq_true_eq] at hc
      obtain ⟨⟨⟨⟨htag, hon⟩, hkind⟩, hnul⟩, hsub⟩ := hc
      have h1 := ih rest (n + 1) t F2 hb ht
      have ef : n + (r.flds + 1) = n + 1 + r.flds := by omega
      rw [plainS_cons, List.length_append]
      simp only [Sch.flds, ef, Sch.wt2, Nat.add_mul _ r.wt2]
      have hf := nest ihe hsub (t.at n) (ht.at n)
      have h3 : (e.wt2 + 15) * (t.at n).sz ≤ (e.wt2 + 15) * t.sz := Nat.mul_le_mul_left _ (t.sz_at n)
      have hnn : ¬ (0 ≤ h.null) := by omega
      split
      · simp only [feOf, fieldS, hkind]
        simp [hnn, valS]; omega
      · simp only [List.length_nil]; omega
  | opt g k o T PT PP sz df e r ihe ih =>
    intro F n t F2 hb ht
    cases F with
    | nil => simp [fitP] at hb
    | cons h sub rest =>
      simp only [fitP] at hb
      obtain ⟨hc, hb⟩ := opt_if hb
      simp only [Bool.and_eq_true, decide_eq_true_eq] at hc
      obtain ⟨⟨⟨⟨htag, hon⟩, hkind⟩, hnul⟩, hsub⟩ := hc
      have h1 := ih rest (n + 1) t F2 hb ht
      have ef : n + (r.flds + 1) = n + 1 + r.flds := by omega
      rw [plainS_cons, List.length_append]
      simp only [Sch.flds, ef, Sch.wt2, Nat.add_mul 1, Nat.add_mul _ r.wt2]
      have hp := t.sz_pos
      have hf := nest ihe hsub (t.at n) (ht.at n)
      have h3 : (e.wt2 + 15) * (t.at n).sz ≤ (e.wt2 + 15) * t.sz := Nat.mul_le_mul_left _ (t.sz_at n)
      have hfe : fieldS (feOf v (flx v) h sub) v (flx v) (t.at n) = if h.isNull v (t.at n).nul = true then fixE 1 (-1) else fixE 1 1 ++ partL (sub.list v (flx v)) v (flx v) (t.at n) := by
        simp only [feOf, fieldS, hkind, hnul, and_self, if_true]
        rw [if_neg (show ¬ (10 : Int) = 11 by decide)]; rfl
      split
      · rw [hfe]
        by_cases hq : h.isNull v (t.at n).nul = true
        · rw [if_pos hq, fixE_len]; omega
        · rw [if_neg hq, List.length_append, fixE_len]; omega
      · simp only [List.length_nil]; omega
theorem nest_wt {M : Nat} {flx : Nat → Bool} {v : Nat} (hv : v ≤ M) {e : Sch} {sub : FS} (hsub : fitS M flx sub e = true) (t : Tr) (ht : t.Ok) : (partL (sub.list v (flx v)) v (flx v) t).length ≤ (e.wt2 + 15) * t.sz := by
  have h1 := pre_wt hv e sub 0 t .nil (fitS_fitP hsub) ht
  have h2 := tail_wt (flx v) t ht
  have h3 := partS_plain (fitS_noTag hsub) v (flx v) t
  rw [plainS_nil] at h1
  show (partS sub v (flx v) t).length ≤ _
  rw [h3, List.length_append, Nat.add_mul]
  simp only [List.length_nil] at h1
  omega
end Go.Kg

set_option linter.unusedSimpArgs false
set_option linter.unusedVariables false
set_option linter.unusedSectionVars false
namespace Go.Kg
open Go
def Prim.okD : Prim → Int → Bool
  | .bool, d => decide (d = 0 ∨ d = 1)
  | .i8, d => decide (-128 ≤ d ∧ d < 128)
  | .i16, d => decide (-32768 ≤ d ∧ d < 32768)
  | .u16, d => decide (0 ≤ d ∧ d < 65536)
  | .i32, d => decide (-2147483648 ≤ d ∧ d < 2147483648)
  | .i64, d => decide (-9223372036854775808 ≤ d ∧ d < 9223372036854775808)
  | .uuid, _ => true
  | _, _ => false
theorem Prim.okD_wf {p : Prim} {d : Int} (h : p.okD d = true) : p.wf (p.dfl d) := by
  cases p <;> simp only [Prim.okD, decide_eq_true_eq] at h <;> first | exact h | trivial | (cases h; done) | (show (List.replicate 16 (0 : UInt8)).length = 16; simp)
theorem isD_int {d : Int} {x : Int} (h : (x == d) = true) : x = d := by simpa using h
/-- a number's field: as by default, or else it is written -/
theorem prim_k {p : Prim} {d : Int} (hok : p.okD d = true) {h : FH} {sub : FS} {v : Int} (hkind : h.kind = primK p) (hd : p = .uuid ∨ h.dflt = d) (t : Tr) :
    ∃ x : p.T, p.wf x ∧ p.isD d x = usualS (feOf v true h sub) t ∧ (usualS (feOf v true h sub) t = false → p.wr true x = fieldS (feOf v true h sub) v true t) := by
  have hfk : fieldS (feOf v true h sub) v true t = valS (primK p) (partL (sub.list v true) v true) (h.isNull v t.nul) true t := by
    have h11 : ¬ (primK p = 11) := by cases p <;> simp [primK]
    have h10 : ¬ (primK p = 10) := by cases p <;> simp [primK]
    simp only [feOf, fieldS, hkind, if_neg h11, h10, false_and, if_false]
  have htx : p.txt = false := by cases p <;> first | rfl | cases hok
  cases hu : usualS (feOf v true h sub) t
  · obtain ⟨x, hx1, hx2⟩ := valS_prim p (partL (sub.list v true) v true) (h.isNull v t.nul) true t (fun h => by rw [htx] at h; cases h)
    refine ⟨x, hx2, ?_, fun _ => by rw [hx1, hfk]⟩
    have hint : ∀ (w : Nat), (∀ q : p.T, p.isD d q = true → q = p.dfl d) → p.wr true (p.dfl d) = fixE w h.dflt → valS (primK p) (partL (sub.list v true) v true) (h.isNull v t.nul) true t = fixE w t.n → usualS (feOf v true h sub) t = (fixE w t.n == fixE w h.dflt) → p.isD d x = false := by
      intro w h1 h2 h3 h4
      cases hq : p.isD d x
      · rfl
      · have := h1 x hq
        subst this
        rw [h2, h3] at hx1
        rw [h4, hx1] at hu
        simp at hu
    have hus : ∀ (w : Nat), (primK p ≠ 0 ∧ primK p ≠ 7 ∧ primK p ≠ 8 ∧ primK p ≠ 9 ∧ primK p ≠ 10 ∧ primK p ≠ 11) → widthS (primK p) = w → usualS (feOf v true h sub) t = (fixE w t.n == fixE w h.dflt) := by
      rintro w ⟨h0, h7, h8, h9, h10, h11⟩ hw
      simp only [usualS, feOf, hkind, if_neg h0, if_neg h7, h8, h9, or_self, if_false, if_neg h11, if_neg h10, hw]
    cases p with
    | i8 =>
      obtain rfl : h.dflt = d := hd.resolve_left (by simp)
      exact hint 1 (fun q hq => isD_int hq) (by simp [Prim.wr, Prim.dfl, fixE]) rfl (hus 1 (by simp [primK]) rfl)
    | i16 =>
      obtain rfl : h.dflt = d := hd.resolve_left (by simp)
      exact hint 2 (fun q hq => isD_int hq) (by rw [fixE_eq]; rfl) rfl (hus 2 (by simp [primK]) rfl)
    | u16 =>
      obtain rfl : h.dflt = d := hd.resolve_left (by simp)
      exact hint 2 (fun q hq => isD_int hq) (by rw [fixE_eq]; rfl) rfl (hus 2 (by simp [primK]) rfl)
    | i32 =>
      obtain rfl : h.dflt = d := hd.resolve_left (by simp)
      exact hint 4 (fun q hq => isD_int hq) (by rw [fixE_eq]; rfl) rfl (hus 4 (by simp [primK]) rfl)
    | i64 =>
      obtain rfl : h.dflt = d := hd.resolve_left (by simp)
      exact hint 8 (fun q hq => isD_int hq) (by rw [fixE_eq]; rfl) rfl (hus 8 (by simp [primK]) rfl)
    | bool =>
      obtain rfl : h.dflt = d := hd.resolve_left (by simp)
      have hok' : h.dflt = 0 ∨ h.dflt = 1 := by simpa [Prim.okD] using hok
      have hu' : (t.n % 2 == h.dflt) = false := by
        simpa [usualS, feOf, hkind, primK] using hu
      have hx1' : [if (show Bool from x) then (1 : UInt8) else 0] = [bval (t.n % 2)] := hx1
      show ((show Bool from x) == decide (h.dflt ≠ 0)) = false
      have b0 : bval 0 = 0 := by decide
      have b1 : bval 1 = 1 := by decide
      have hx' : ∀ b : Bool, [if b = true then (1 : UInt8) else 0] = [bval (t.n % 2)] → (b == decide (h.dflt ≠ 0)) = false := by
        intro b hb
        rcases Int.emod_two_eq t.n with hn | hn <;> rcases hok' with hd' | hd' <;> rw [hn, hd'] at hu' <;> rw [hn] at hb <;> rw [hd'] <;> cases b <;> first | rfl | (simp [b0, b1] at hb; done) | (simp at hu'; done)
      exact hx' _ hx1'
    | uuid =>
      have hu' : (t.s.take 16).all (· == 0) = false := by
        simpa [usualS, feOf, hkind, primK] using hu
      have hx1' : (show List UInt8 from x) = (t.s ++ List.replicate 16 0).take 16 := by
        have := hx1
        simp [valS, primK] at this
        simpa [Prim.wr] using this
      show ((show List UInt8 from x) == List.replicate 16 0) = false
      rw [hx1']
      cases hq : ((t.s ++ List.replicate 16 (0 : UInt8)).take 16 == List.replicate 16 0)
      · rfl
      · have hq' : (t.s ++ List.replicate 16 (0 : UInt8)).take 16 = List.replicate 16 0 := by simpa using hq
        exfalso
        have : (t.s.take 16).all (· == 0) = true := by
          rw [List.all_eq_true]
          intro y hy
          have hm : y ∈ (t.s ++ List.replicate 16 (0 : UInt8)).take 16 := by
            rw [List.take_append]
            exact List.mem_append_left _ hy
          rw [hq'] at hm
          have := List.eq_of_mem_replicate hm
          simp [this]
        rw [this] at hu'; cases hu'
    | _ => cases htx <;> cases hok
  · exact ⟨p.dfl d, Prim.okD_wf hok, p.isD_dfl d, fun h => by cases h⟩
def Kn.wt2 : Kn → Nat
  | .prim _ _ => 16
  | .arr _ _ _ _ _ e => 5 + (e.wt2 + 15)
  | .str _ _ _ _ _ _ e => e.wt2 + 15
def fitKn (M : Nat) (flx : Nat → Bool) (h : FH) (sub : FS) : Kn → Bool
  | .prim p d => p.okD d && decide (h.kind = primK p) && (decide (h.dflt = d) || decide (primK p = 7))
  | .arr _ _ _ _ _ e => decide (h.kind = 11) && decide (h.of_ = 10) && nnAt M ⟨none, none⟩ h && fitS M flx sub e
  | .str _ _ _ _ _ _ _ => false
def fitKs (M : Nat) (flx : Nat → Bool) : Nat → FS → List KF → Bool
  | _, .nil, [] => true
  | lo, .cons h sub rest, f :: l => decide (h.tag = (lo : Int)) && decide (f.num = lo) && fitKn M flx h sub f.c && decide (f.c.wt2 ≤ 4095) && fitKs M flx (lo + 1) rest l
  | _, _, _ => false
theorem conv_kn {M : Nat} {flx : Nat → Bool} {v : Nat} (hv : v ≤ M) (hfl : flx v = true) {h : FH} {sub : FS} {c : Kn} (hb : fitKn M flx h sub c = true) (hw : c.wt2 ≤ 4095) {t : Tr} (ht : t.Ok) (hz : t.sz ≤ 1048576) :
    ∃ x : c.T, c.wf v x ∧ (c.set x = !usualS (feOf v true h sub) t) ∧ (c.set x = true → c.wr v x = fieldS (feOf v true h sub) v true t ∧ (c.wr v x).length < 4294967296) := by
  cases c with
  | str => cases hb
  | prim p d =>
    simp only [fitKn, Bool.and_eq_true, decide_eq_true_eq, Bool.or_eq_true] at hb
    obtain ⟨⟨hok, hkind⟩, hd⟩ := hb
    have hd' : p = .uuid ∨ h.dflt = d := by
      rcases hd with hd | hd
      · exact .inr hd
      · refine .inl ?_
        cases p <;> first | rfl | (simp [primK] at hd; done)
    obtain ⟨x, h1, h2, h3⟩ := prim_k hok (sub := sub) (v := v) hkind hd' t
    refine ⟨x, h1, ?_, fun hs => ?_⟩
    · show (!p.isD d x) = _
      rw [h2]
    · have hs' : (!p.isD d x) = true := hs
      rw [h2] at hs'
      have hcap := prim_cap p true x h1
      exact ⟨h3 (by simpa using hs'), by show (p.wr true x).length < _; omega⟩
  | arr sT T PT sz df e =>
    simp only [fitKn, Bool.and_eq_true, decide_eq_true_eq] at hb
    obtain ⟨⟨⟨hkind, hof⟩, hnn⟩, hsub⟩ := hb
    have hnul : h.isNull v t.nul = false := nnAt_of hnn hv rfl _
    obtain ⟨xs, h1, h2, h3⟩ := pick_all (f := valS 10 (partL (sub.list v true) v true) false true) (g := e.wr v true) (W := e.wf v true) (t.l.take 32767) (fun x hx => by
      obtain ⟨z, hz1, hz2⟩ := conv_all (flx := flx) hv hsub (ht.l x (List.mem_of_mem_take hx))
      rw [hfl] at hz1 hz2
      exact ⟨z, hz1, hz2⟩)
    have hl : (t.l.take 32767).length ≤ 32767 := by simp; omega
    have hfe : fieldS (feOf v true h sub) v true t = countedS true false (t.l.take 32767).length 4 ++ (t.l.take 32767).flatMap (valS 10 (partL (sub.list v true) v true) false true) := by
      simp only [feOf, fieldS, hkind, hof, if_true, hnul]; rfl
    have hus : usualS (feOf v true h sub) t = t.l.isEmpty := by
      simp [usualS, feOf, hkind]
    have hwr : (Kn.arr sT T PT sz df e).wr v (some xs) = fieldS (feOf v true h sub) v true t := by
      rw [hfe, ← h1]
      show lenW none true xs.length false ++ xs.flatMap (e.wr v true) = _
      congr 1
      rw [h2]
      simp [lenW, countedS, wCLen]
      rw [uvS_out (by omega)]
    refine ⟨some xs, ⟨⟨by show xs.length ≤ 32767; omega, by simp⟩, h3⟩, ?_, fun _ => ⟨hwr, ?_⟩⟩
    · show (!xs.isEmpty) = _
      rw [hus]
      cases hx : t.l with
      | nil => rw [hx] at h2; simp at h2; simp [h2]
      | cons y l =>
        rw [hx] at h2
        cases xs with
        | nil => simp at h2
        | cons => rfl
    · rw [hwr, hfe, List.length_append]
      have hc := counted_len true false (t.l.take 32767).length 4 hl (by omega)
      have hf := flat_wt (c := e.wt2 + 15) (f := valS 10 (partL (sub.list v true) v true) false true) t.l 32767 (fun x hx => by
        have := nest_wt (flx := flx) hv hsub x (ht.l x hx)
        rw [hfl] at this
        exact this)
      have hw' : 5 + (e.wt2 + 15) ≤ 4095 := hw
      have h4 : (e.wt2 + 15) * Tr.szL t.l ≤ 4090 * 1048576 := Nat.mul_le_mul (by omega) (by have := t.szL_le; omega)
      omega
/-- what the reference writes of the known ones -/
def knO (L : List (FE × Nat)) (v : Int) (t : Tr) : List (Nat × List UInt8) := L.flatMap fun (x, i) => if usualS x (t.at i) = false then [(x.h.tag.toNat, fieldS x v true (t.at i))] else []
theorem conv_ks {M : Nat} {flx : Nat → Bool} {v : Nat} (hv : v ≤ M) (hfl : flx v = true) {t : Tr} (ht : t.Ok) (hz : t.sz ≤ 1048576) : ∀ (l : List KF) (F : FS) (lo n : Nat), fitKs M flx lo F l = true → ∃ x : KsT l, KsWf v l x ∧ ksOuts v l x = knO ((F.list v true).zipIdx n) v t
  | [], .nil, lo, n, _ => ⟨(), trivial, rfl⟩
  | [], .cons _ _ _, lo, n, hb => by simp [fitKs] at hb
  | _ :: _, .nil, lo, n, hb => by simp [fitKs] at hb
  | f :: l, .cons h sub rest, lo, n, hb => by
    simp only [fitKs, Bool.and_eq_true, decide_eq_true_eq] at hb
    obtain ⟨⟨⟨⟨htag, hnum⟩, hkn⟩, hw⟩, hrest⟩ := hb
    obtain ⟨y, hy1, hy2⟩ := conv_ks hv hfl ht hz l rest (lo + 1) (n + 1) hrest
    obtain ⟨x, h1, h2, h3⟩ := conv_kn hv hfl hkn hw (ht.at n) (Nat.le_trans (t.sz_at n) hz)
    refine ⟨(x, y), ⟨⟨h1, fun hs => (h3 hs).2⟩, hy1⟩, ?_⟩
    have e1 : knO (((FS.cons h sub rest).list v true).zipIdx n) v t = (if usualS (feOf v true h sub) (t.at n) = false then [(h.tag.toNat, fieldS (feOf v true h sub) v true (t.at n))] else []) ++ knO ((rest.list v true).zipIdx (n + 1)) v t := by
      simp only [knO, list_cons, List.zipIdx_cons, List.flatMap_cons]; rfl
    rw [e1, ← hy2]
    simp only [ksOuts]
    congr 1
    rw [h2]
    cases hu : usualS (feOf v true h sub) (t.at n)
    · have hs : f.c.set x = true := by rw [h2, hu]; rfl
      simp only [Bool.not_false, if_true, (h3 hs).1, hnum, htag]
      rfl
    · simp
end Go.Kg

set_option linter.unusedSimpArgs false
set_option linter.unusedVariables false
set_option linter.unusedSectionVars false
namespace Go.Kg
open Go
def tagsFrom : Nat → List FE → Prop
  | _, [] => True
  | lo, x :: l => x.h.tag = (lo : Int) ∧ tagsFrom (lo + 1) l
theorem fitKs_tags {M : Nat} {flx : Nat → Bool} (v : Int) (fl : Bool) : ∀ {l : List KF} {F : FS} {lo : Nat}, fitKs M flx lo F l = true → tagsFrom lo (F.list v fl) ∧ (F.list v fl).length = l.length ∧ l.map (·.num) = List.range' lo l.length
  | [], .nil, lo, _ => ⟨trivial, rfl, rfl⟩
  | [], .cons _ _ _, lo, hb => by simp [fitKs] at hb
  | _ :: _, .nil, lo, hb => by simp [fitKs] at hb
  | f :: l, .cons h sub rest, lo, hb => by
    simp only [fitKs, Bool.and_eq_true, decide_eq_true_eq] at hb
    obtain ⟨h1, h2, h3⟩ := fitKs_tags v fl hb.2
    refine ⟨⟨hb.1.1.1.1, h1⟩, by rw [list_cons]; simp [h2], ?_⟩
    simp only [List.map_cons, List.length_cons, List.range'_succ, h3, hb.1.1.1.2]
theorem tagsFrom_nn : ∀ {L : List FE} {lo : Nat}, tagsFrom lo L → ∀ x ∈ L, (lo : Int) ≤ x.h.tag
  | x :: L, lo, h, y, hy => by
    rcases List.mem_cons.1 hy with rfl | hy
    · rw [h.1]; omega
    · have := tagsFrom_nn h.2 y hy; omega
theorem zip_mem {α : Type} : ∀ {L : List α} {n : Nat} {y : α × Nat}, y ∈ L.zipIdx n → y.1 ∈ L
  | [], _, _, h => by simp at h
  | x :: L, n, y, h => by
    rw [List.zipIdx_cons] at h
    rcases List.mem_cons.1 h with rfl | h
    · exact List.mem_cons_self
    · exact List.mem_cons_of_mem _ (zip_mem h)
/-- what is written of the number k -/
def knK (v : Int) (t : Tr) (k : Nat) (x : FE × Nat) : List (Nat × List UInt8) := if x.1.h.tag = (k : Int) ∧ usualS x.1 (t.at x.2) = false then [(k, fieldS x.1 v true (t.at x.2))] else []
theorem flat_nil {α β : Type} {f : α → List β} : ∀ (l : List α), (∀ x ∈ l, f x = []) → l.flatMap f = []
  | [], _ => rfl
  | x :: l, h => by rw [List.flatMap_cons, h x List.mem_cons_self, flat_nil l (fun y hy => h y (List.mem_cons_of_mem _ hy))]; rfl
theorem flat_congr' {α β : Type} {f g : α → List β} : ∀ (l : List α), (∀ x ∈ l, f x = g x) → l.flatMap f = l.flatMap g
  | [], _ => rfl
  | x :: l, h => by rw [List.flatMap_cons, List.flatMap_cons, h x List.mem_cons_self, flat_congr' l (fun y hy => h y (List.mem_cons_of_mem _ hy))]
theorem kn_seq (v : Int) (t : Tr) : ∀ (L : List FE) (lo n : Nat), tagsFrom lo L → ((List.range' lo L.length).flatMap fun k => (L.zipIdx n).flatMap (knK v t k)) = knO (L.zipIdx n) v t
  | [], lo, n, _ => rfl
  | x :: L, lo, n, h => by
    have ih := kn_seq v t L (lo + 1) (n + 1) h.2
    have hz : ∀ y ∈ L.zipIdx (n + 1), y.1 ∈ L := fun y hy => zip_mem hy
    have h0 : (L.zipIdx (n + 1)).flatMap (knK v t lo) = [] := flat_nil _ fun y hy => by
      have := tagsFrom_nn h.2 y.1 (hz y hy)
      simp only [knK]
      rw [if_neg]; rintro ⟨h', _⟩; omega
    simp only [List.length_cons, List.range'_succ, List.flatMap_cons, List.zipIdx_cons]
    rw [h0, List.append_nil]
    have e1 : ((List.range' (lo + 1) L.length).flatMap fun k => knK v t k (x, n) ++ (L.zipIdx (n + 1)).flatMap (knK v t k)) = (List.range' (lo + 1) L.length).flatMap fun k => (L.zipIdx (n + 1)).flatMap (knK v t k) := flat_congr' _ fun k hk => by
      have hk' : lo + 1 ≤ k := (List.mem_range'_1.1 hk).1
      have : knK v t k (x, n) = [] := by
        simp only [knK, h.1]
        rw [if_neg]; rintro ⟨h', _⟩; omega
      rw [this]; rfl
    rw [e1, ih]
    simp only [knO, List.flatMap_cons]
    congr 1
    simp only [knK, h.1, true_and, Int.toNat_natCast]
theorem knownL_seq : ∀ (L : List FE) (lo : Nat), tagsFrom lo L → (L.map (·.h)).foldl (fun n h => if 0 ≤ h.tag then max n (h.tag.toNat + 1) else n) lo = lo + L.length
  | [], lo, _ => rfl
  | x :: L, lo, h => by
    have ih := knownL_seq L (lo + 1) h.2
    simp only [List.map_cons, List.foldl_cons, h.1]
    rw [if_pos (by omega)]
    have : max lo ((lo : Int).toNat + 1) = lo + 1 := by omega
    rw [this, ih, List.length_cons]; omega
theorem knownL_app (pre L : List FE) (hp : ∀ x ∈ pre, x.h.tag < 0) (hL : tagsFrom 0 L) : knownL ((pre ++ L).map (·.h)) = L.length := by
  unfold knownL
  rw [List.map_append, List.foldl_append, knownL_none (pre.map (·.h)) 0 (fun h hh => by obtain ⟨x, hx, rfl⟩ := List.mem_map.1 hh; exact hp x hx), knownL_seq L 0 hL]
  omega
theorem insU_ge {least : Nat} {x : Nat × List UInt8} : ∀ {l : TagL}, (∀ y ∈ l, least ≤ y.1) → ∀ y ∈ insU least x l, least ≤ y.1 := by
  intro l hl y hy
  by_cases hx : x.1 < least
  · have : insU least x l = l := by unfold insU; rw [if_pos hx]
    rw [this] at hy
    exact hl y hy
  · rcases insU_memT hy with rfl | hy
    · omega
    · exact hl y hy
theorem unkS_ge (least : Nat) (u : TagL) : ∀ y ∈ unkS least u, least ≤ y.1 := by
  have : ∀ (l out : TagL), (∀ y ∈ out, least ≤ y.1) → ∀ y ∈ l.foldl (fun out x => insU least x out) out, least ≤ y.1 := by
    intro l
    induction l with
    | nil => intro out h; exact h
    | cons x l ih => intro out h; exact ih _ (insU_ge h)
  exact this _ [] (by simp)
/-- the unknown ones -/
theorem tags_convM (least : Nat) (u : TagL) (hu : ∀ x ∈ u, x.1 < 4294967296) : ∃ l : TagL, tagsOk l ∧ l.length = ((unkS least u).map fun x => (x.1, x.2.take 32767)).length ∧ tagsOut l = (((unkS least u).map fun x => (x.1, x.2.take 32767)).flatMap fun x => tagS x.1 x.2) ∧ ∀ t ∈ l, least ≤ t.1 := by
  obtain ⟨h1, h2, h3⟩ := unkS_spec least u
  have h4 := unkS_ge least u
  generalize unkS least u = q at h1 h2 h3 h4
  refine ⟨q.map fun x => (x.1, x.2.take 32767), ⟨by simp; omega, ?_, ?_⟩, rfl, ?_, ?_⟩
  · rw [List.map_map]
    show (q.map (·.1)).Nodup
    rw [List.nodup_iff_pairwise_ne, List.pairwise_map]
    exact h1.imp fun h => by omega
  · intro x hx
    obtain ⟨y, hy, rfl⟩ := List.mem_map.1 hx
    exact ⟨hu y (h3 y hy), by simp; omega⟩
  · have hs : sortTags (q.map fun x => (x.1, x.2.take 32767)) = q.map fun x => (x.1, x.2.take 32767) := by
      refine sortTags_of_sorted _ ?_
      rw [List.pairwise_map]
      exact h1.imp fun h => by simp only; omega
    simp only [tagsOut, hs]
    refine flat_congr _ fun x hx => ?_
    obtain ⟨y, hy, rfl⟩ := List.mem_map.1 hx
    have hy1 := hu y (h3 y hy)
    simp only [tagS]
    rw [uvS_out hy1, uvS_out (by simp; omega), Nat.mod_eq_of_lt hy1, List.append_assoc]
  · intro x hx
    obtain ⟨y, hy, rfl⟩ := List.mem_map.1 hx
    exact h4 y hy
def fitM (M : Nat) (flx : Nat → Bool) (F : FS) (K : KM) : Bool := K.S.endF && decide (K.ks.length ≤ 100) && (match fitP M flx F K.S with | some F2 => fitKs M flx 0 F2 K.ks | none => false)
theorem fitM_of {M : Nat} {flx : Nat → Bool} {F : FS} {K : KM} (h : fitM M flx F K = true) : K.S.endF = true ∧ K.ks.length ≤ 100 ∧ ∃ F2, fitP M flx F K.S = some F2 ∧ fitKs M flx 0 F2 K.ks = true := by
  simp only [fitM, Bool.and_eq_true, decide_eq_true_eq] at h
  refine ⟨h.1.1, h.1.2, ?_⟩
  cases hp : fitP M flx F K.S with
  | none => rw [hp] at h; cases h.2
  | some F2 => rw [hp] at h; exact ⟨F2, rfl, h.2⟩
theorem ksOuts_mem {ver : Int} : ∀ {l : List KF} {x : KsT l}, KsWf ver l x → ∀ y ∈ ksOuts ver l x, y.1 ∈ l.map (·.num) ∧ y.2.length < 4294967296
  | [], _, _, y, hy => by simp [ksOuts] at hy
  | f :: l, (v, r), h, y, hy => by
    simp only [ksOuts, List.mem_append] at hy
    rcases hy with hy | hy
    · split at hy
      · rename_i hs
        simp only [List.mem_singleton] at hy
        subst hy
        exact ⟨by simp, h.1.2 hs⟩
      · simp at hy
    · obtain ⟨h1, h2⟩ := ksOuts_mem h.2 y hy
      exact ⟨by simp only [List.map_cons, List.mem_cons]; exact .inr h1, h2⟩
/-- What the reference writes of a tree is what the code writes of some value that may be. -/
theorem conv_kmS {M : Nat} {flx : Nat → Bool} {v : Nat} (hv : v ≤ M) {F : FS} {K : KM} (hb : fitM M flx F K = true) {t : Tr} (ht : t.Ok) (hz : t.sz ≤ 1048576) : ∃ x : K.T, K.wr v (flx v) x = partS F v (flx v) t ∧ K.wf v (flx v) x ∧ K.S.wr v (flx v) x.1 = plainS F v (flx v) 0 t := by
  obtain ⟨hE, hlen, F2, hp, hk⟩ := fitM_of hb
  obtain ⟨x, hx1, hx2⟩ := conv_pre hv K.S F 0 t F2 hp hE ht
  obtain ⟨pre, hpre, hpl, hpt⟩ := fitP_list (v : Int) (flx v) hp
  obtain ⟨htf, hll, hnum⟩ := fitKs_tags (v : Int) (flx v) hk
  have hF2 : plainS F2 v (flx v) (0 + K.S.flds) t = [] := by
    unfold plainS
    refine flat_nil _ fun y hy => ?_
    have hm : y.1 ∈ F2.list (v : Int) (flx v) := zip_mem hy
    have := tagsFrom_nn htf y.1 hm
    simp only
    rw [if_neg]; rintro ⟨h', _⟩; omega
  rw [hF2, List.append_nil] at hx1
  cases hfl : flx v
  · rw [hfl] at hx1 hx2
    refine ⟨(x, ksDfl K.ks, []), ?_, ⟨hx2, (fun h => by cases h), (fun h => by cases h), (fun h => by cases h)⟩, hx1⟩
    simp only [KM.wr, secW, Bool.false_eq_true, if_false, List.append_nil, hx1]
    simp [partS, partL, plainS]
  · rw [hfl] at hx1 hx2 hpre htf hll
    obtain ⟨y, hy1, hy2⟩ := conv_ks hv hfl ht hz K.ks F2 0 K.S.flds hk
    obtain ⟨u, hu1, hu2, hu3, hu4⟩ := tags_convM K.ks.length t.u ht.u
    have hkl : knownL ((F.list v true).map (·.h)) = K.ks.length := by rw [hpre, knownL_app pre _ hpt htf, hll]
    have hnn := ksN_le K.ks y
    have hul := hu1.1
    refine ⟨(x, y, u), ?_, ⟨hx2, fun _ => hy1, fun _ => hu1, fun _ z hz => ?_⟩, hx1⟩
    · have hkn : ((List.range (knownL ((F.list v true).map (·.h)))).flatMap fun k => (F.list v true).zipIdx.flatMap fun (x, i) => if x.h.tag = k ∧ usualS x (t.at i) = false then [(k, fieldS x v true (t.at i))] else []) = ksOuts v K.ks y := by
        rw [hy2, hkl, List.range_eq_range', ← hll, ← kn_seq v t _ 0 _ htf]
        refine flat_congr' _ fun k _ => ?_
        rw [hpre, List.zipIdx_append, List.flatMap_append, flat_nil (pre.zipIdx 0)]
        · rw [List.nil_append, hpl, Nat.zero_add]; rfl
        · intro z hz
          have hm : z.1 ∈ pre := zip_mem hz
          have := hpt z.1 hm
          simp only
          rw [if_neg]; rintro ⟨h', _⟩; omega
      have hpart : partS F v true t = plainS F v true 0 t ++ (uvS (ksOuts v K.ks y ++ (unkS K.ks.length t.u).map fun x => (x.1, x.2.take 32767)).length ++ (ksOuts v K.ks y ++ (unkS K.ks.length t.u).map fun x => (x.1, x.2.take 32767)).flatMap fun x => tagS x.1 x.2) := by
        have h0 : partS F v true t = plainS F v true 0 t ++ uvS (((List.range (knownL ((F.list v true).map (·.h)))).flatMap fun k => (F.list v true).zipIdx.flatMap fun (x, i) => if x.h.tag = k ∧ usualS x (t.at i) = false then [(k, fieldS x v true (t.at i))] else []) ++ (unkS (knownL ((F.list v true).map (·.h))) t.u).map fun x => (x.1, x.2.take 32767)).length ++ (((List.range (knownL ((F.list v true).map (·.h)))).flatMap fun k => (F.list v true).zipIdx.flatMap fun (x, i) => if x.h.tag = k ∧ usualS x (t.at i) = false then [(k, fieldS x v true (t.at i))] else []) ++ (unkS (knownL ((F.list v true).map (·.h))) t.u).map fun x => (x.1, x.2.take 32767)).flatMap fun x => tagS x.1 x.2 := rfl
        rw [h0, hkn, hkl, List.append_assoc]
      rw [hpart]
      simp only [KM.wr, secW, if_true, hx1]
      congr 1
      rw [List.length_append, ksOuts_len, ← hu2, List.flatMap_append, ← hu3, ksOuts_wr, List.append_assoc]
      rw [uvS_out (by omega)]
      congr 1
      congr 1
      refine flat_congr _ fun z hz => ?_
      obtain ⟨m1, m2⟩ := ksOuts_mem hy1 z hz
      rw [hnum] at m1
      have m3 := (List.mem_range'_1.1 m1).2
      simp only [kTag, tagS]
      rw [uvS_out (by omega), uvS_out m2, Nat.mod_eq_of_lt (show z.1 < 4294967296 by omega)]
    · rw [hnum]
      intro hm
      have m3 := (List.mem_range'_1.1 hm).2
      have := hu4 z hz
      omega
theorem ksW_len {ver : Int} {l : List KF} {x : KsT l} (h : KsWf ver l x) : (ksW ver l x).length ≤ l.length * 4294967306 := by
  rw [ksOuts_wr]
  have h1 := flat_cap (g := fun y : Nat × List UInt8 => kTag y.1 y.2) (n := 4294967306) (ksOuts ver l x) (fun y hy => by
    have := (ksOuts_mem h y hy).2
    have a := uvOut_len5 y.1
    have b := uvOut_len5 (y.2.length % 4294967296)
    simp only [kTag, List.length_append]; omega)
  have h2 : (ksOuts ver l x).length ≤ l.length := by rw [ksOuts_len]; exact ksN_le l x
  exact Nat.le_trans h1 (Nat.mul_le_mul_right _ h2)
theorem partM_le {M : Nat} {flx : Nat → Bool} {v : Nat} (hv : v ≤ M) {F : FS} {K : KM} (hb : fitM M flx F K = true) {t : Tr} (ht : t.Ok) (hz : t.sz ≤ 1048576) (hw : K.S.wt2 ≤ 100000) : (partS F v (flx v) t).length + 2 ≤ 1099511627776 := by
  obtain ⟨hE, hlen, F2, hp, hk⟩ := fitM_of hb
  have hwt := pre_wt hv K.S F 0 t F2 hp ht
  obtain ⟨⟨x1, x2, x3⟩, y1, y2, y3⟩ := conv_kmS hv hb ht hz
  obtain ⟨htf, hll, hnum⟩ := fitKs_tags (v : Int) (flx v) hk
  have hF2 : plainS F2 v (flx v) (0 + K.S.flds) t = [] := by
    unfold plainS
    refine flat_nil _ fun y hy => ?_
    have hm : y.1 ∈ F2.list (v : Int) (flx v) := zip_mem hy
    have := tagsFrom_nn htf y.1 hm
    simp only
    rw [if_neg]; rintro ⟨h', _⟩; omega
  rw [hF2, List.length_nil, Nat.add_zero] at hwt
  have h1 : K.S.wt2 * t.sz ≤ 100000 * 1048576 := Nat.mul_le_mul hw hz
  rw [← y1]
  simp only at y3
  simp only [KM.wr, List.length_append, y3]
  have h2 : (secW v (flx v) K.ks x2 x3).length ≤ 10 + 100 * 4294967306 + 40000 * 32777 := by
    cases hfl : flx v
    · simp [secW]
    · have a1 : (ksW v K.ks x2).length ≤ K.ks.length * 4294967306 := ksW_len (y2.ks hfl)
      have a2 : (uvOut (x3.length % 4294967296) ++ tagsOut x3).length ≤ 5 + 40000 * 32777 := tags_cap x3 (y2.u hfl)
      have a3 := uvOut_len5 ((ksN K.ks x2 + x3.length) % 4294967296)
      have a4 : K.ks.length * 4294967306 ≤ 100 * 4294967306 := Nat.mul_le_mul_right _ hlen
      rw [List.length_append] at a2
      simp only [secW, if_true, List.length_append]
      omega
  omega
theorem conv_km {M : Nat} {flx : Nat → Bool} {v : Nat} (hv : v ≤ M) {F : FS} {K : KM} (hb : fitM M flx F K = true) {t : Tr} (ht : t.Ok) (hz : t.sz ≤ 1048576) : ∃ x : K.T, K.wr v (flx v) x = partS F v (flx v) t ∧ K.wf v (flx v) x := by
  obtain ⟨x, h1, h2, _⟩ := conv_kmS hv hb ht hz
  exact ⟨x, h1, h2⟩
end Go.Kg

set_option linter.unusedSimpArgs false
set_option linter.unusedVariables false
set_option linter.unusedSectionVars false
namespace Go.Kg
open Go
theorem km_ok {K : KM} {flx : Nat → Bool} {M : Nat} (h : ((List.range (M + 1)).all fun v => K.S.posE v (flx v) && K.ks.all fun f => decide (f.num < 4294967296) && f.c.posE v) = true) (hnd : (K.ks.map (·.num)).Nodup) (hlen : K.ks.length ≤ 1000) : ∀ v : Nat, v ≤ M → K.Ok v (flx v) := by
  intro v hv
  have h1 := List.all_eq_true.1 h v (by simp; omega)
  rw [Bool.and_eq_true, List.all_eq_true] at h1
  refine ⟨h1.1, fun _ => ⟨hnd, fun f hf => ?_, hlen⟩⟩
  have h2 := h1.2 f hf
  rw [Bool.and_eq_true, decide_eq_true_eq] at h2
  exact h2
theorem appendToM {P : Program} {C : Cfg} {ok : TagL → Prop} {T PT sl flex nl nt g : Nat} {M : KM} (hm : KmOk P C ok T PT sl M.S M.ks M.tk M.to nl) (hnt : 2 ≤ nt) (hI : FnIs P g nt [.t 4] (msgWk C T PT sl flex M.S M.ks M.tk nl)) {w : World} {b a base : Nat} {cs : List Value} {x : M.T} {ver : Int} {v : Value} {s : List UInt8}
    (hcs : CellsAt w b a cs) (hver : cs[0]? = some (.int .i16 ver)) (hrep : KmRep w (· < base) cs M x) (hok : M.TagsOk ok x) (hb : b < base) (ho : OwnB C.E.tU8 w base v s) (hbase : base ≤ w.heap.size)
    (hsz : s.length + (M.wr ver (flagAt C flex ver) x).length ≤ 1099511627776) :
    Ret P g #[.pointer (some ⟨b, a, none⟩), v] w fun v' w' => OwnB C.E.tU8 w' base v' (s ++ M.wr ver (flagAt C flex ver) x) ∧ Grew w v w' v' := by
  obtain ⟨r1, r2, ⟨uv, r3, r4⟩⟩ := hrep
  obtain ⟨k1, k2, k3⟩ := hok
  exact appendToK hm hnt hI hcs hver r1 r2 r3 r4 k1 k2 k3 hb ho hbase hsz
section
variable {P : Program} {E : Env} (ht : TyK P E) (hs : SpecFns P E)
include ht hs
end
end Go.Kg

set_option linter.unusedSimpArgs false
set_option linter.unusedVariables false
set_option linter.unusedSectionVars false
namespace Go.Kg
open Go
def irKept (E : Env) : Ir :=
  (.seq
    (.reg [
        ⟨none, some 3, .box E.t_spec_Message (.tmp 0), E.tNil⟩,
        ⟨none, some 5, .box E.t_spec_Tree (.tmp 2), E.tNil⟩,
        ⟨none, some 6, .assign (.const (.slice none 0 0)), E.tBs⟩])
  (.seq
    (.regH [
        (true, ⟨none, some 7, .move (.tmp 1), E.tInt⟩),
        (true, ⟨none, some 9, .load E.t_spec_Message (.tmp 3), E.t_spec_Message⟩),
        (true, ⟨none, some 10, .move (.tmp 1), E.tInt⟩),
        (true, ⟨none, some 11, .load E.t_spec_Tree (.tmp 5), E.t_spec_Tree⟩),
        (false, ⟨none, some 8, .call { callee := .value (.func E.f_spec_Fixed), args := #[.tmp 7, .const (.int .i64 2)], argTypes := #[E.tI64, E.tInt] }, E.tBs⟩),
        (false, ⟨none, some 12, .call { callee := .value (.func E.f_spec_Write), args := #[.tmp 9, .tmp 10, .tmp 11], argTypes := #[E.t_spec_Message, E.tInt, E.t_spec_Tree] }, E.tBs⟩),
        (false, ⟨none, some 13, .call { callee := .builtin .append, args := #[.tmp 8, .tmp 12], argTypes := #[E.tBs, E.tBs] }, E.tBs⟩),
        (true, ⟨none, some 6, .assign (.tmp 13), E.tBs⟩)])
  .ret))
section
variable {P : Program} {E : Env} (ht : TyK P E) (hs : SpecFns P E)
include ht hs
theorem c_Kept {g nt : Nat} (hnt : 3 ≤ nt) (hI : FnIs P g nt [.t 6] (irKept E)) {F : FS} {fx : Int} (hok : F.okAll) (hlen : F.len ≤ 1000) (w : World) (fv : Value) (cs : List Value) (t : Tr) (v : Int) (hF : FsAt w fv F) (hT : TreeAt w cs t)
    (hsz : (partS F v (flexAt fx v) t).length + 2 ≤ 1099511627776) :
    Ret P g #[.agg #[fv, .int .i64 fx], .int .i64 v, .agg cs.toArray] w fun u w' => Fresh E.tU8 w u w' (num 2 v ++ partS F v (flexAt fx v) t) := by
  have h5 := hT.five
  have hv : ∀ (a : Array Value), (Value.agg a).cells = a := fun a => rfl
  refine hI.call (args := [_, _, _]) hnt ?_
  simp [irKept, hv]
  generalize hw1 : (w.alloc (.cells #[fv, .int .i64 fx] E.t_spec_Message)).alloc (.cells cs.toArray E.t_spec_Tree) = w1
  have hE1 : Ext none1 w w1 := by subst hw1; exact ((Ext.refl none1 w).alloc _).alloc _
  have hb0 : w1.heap[w.heap.size]? = some (.cells #[fv, .int .i64 fx] E.t_spec_Message (0, 0)) := by subst hw1; exact alloc_old alloc_new
  have hb1 : w1.heap[w.heap.size + 1]? = some (.cells cs.toArray E.t_spec_Tree (0, 0)) := by
    subst hw1
    have := alloc_new (w := w.alloc (.cells #[fv, .int .i64 fx] E.t_spec_Message)) (o := .cells cs.toArray E.t_spec_Tree)
    simpa using this
  have lM : ∀ wx, Ext none1 w1 wx → cellsFrom wx ⟨w.heap.size, 0, none⟩ 0 2 = some [fv, .int .i64 fx] := by
    intro wx hx
    have := cellsFrom_row (hx.old hb0 (fun h => h))
    simpa using this
  have lT : ∀ wx, Ext none1 w1 wx → cellsFrom wx ⟨w.heap.size + 1, 0, none⟩ 0 5 = some cs := by
    intro wx hx
    have := cellsFrom_row (hx.old hb1 (fun h => h))
    simpa [h5.1] using this
  have hD := (Ext.refl none1 w1).drew
  refine cw_regH (Ext none1 w1) hD ?_
  have r1 := Ext.refl none1 w1
  simp +contextual [ld_agg ht.kM, ld_agg ht.kT, lM, lT, lM w1.drew hD, lT w1.drew hD]
  refine (sp_Fixed ht.toTyG hs v 2 (by omega) w1.drew).mono ?_
  intro v8 w8 h8
  have hD8 := hD.trans h8.2
  simp [hD8]
  refine (sp_Write ht.toTyM hs (fx := fx) (ver := v) hok hlen w8 fv cs t (FsAt.ext (hE1.trans hD8) hF) (hT.ext (hE1.trans hD8)) (by omega)).mono ?_
  intro v12 w12 h12
  have hD12 := hD8.trans h12.2
  simp [hD12]
  have h8' := h8.post h12.2
  refine st_app_bytes ht.sBs (by simp) h8'.1 (by have := h8'.2.size; omega) (k := All) (bs := partS F v (flexAt fx v) t) (by simpa using own_bytes h12.1) (by rw [fixE_len]; omega) ?_
  intro v13 w13 ho13 hg13
  have hfr := h8'.grow ho13 hg13
  have hD13 : Ext none1 w1 w13 := hD.trans hfr.2
  simp [hD13]
  rw [fixE_eq] at hfr
  exact Fresh.pre (hE1.trans hD) hfr
end
end Go.Kg

set_option linter.unusedSimpArgs false
set_option linter.unusedVariables false
set_option linter.unusedSectionVars false
namespace Go.Kg
open Go
section
variable {P : Program} {E : Env} (ht : TyK P E) (hs : SpecFns P E)
include ht hs
end
end Go.Kg

set_option linter.unusedSimpArgs false
set_option linter.unusedVariables false
set_option linter.unusedSectionVars false
namespace Go.Kg
open Go
/-- with the version as a field ahead -/
def KM.kw (K : KM) : KM := ⟨schK K.S, K.ks, K.tk, K.to⟩
theorem kw_wr (K : KM) (ver : Int) (fl : Bool) (x : K.T) : K.kw.wr ver fl ((ver, x.1), x.2.1, x.2.2) = num 2 ver ++ K.wr ver fl x := by
  show (schK K.S).wr ver fl (ver, x.1) ++ _ = num 2 ver ++ (_ ++ _)
  rw [← List.append_assoc]; rfl
/-- what Again hands back -/
def AgainPostMK (K : KM) (fl : Int → Bool) (src : List UInt8) (w : World) (u : Value) (w' : World) : Prop :=
  Ext none1 w w' ∧ ∃ nn, match K.rd (kvV src nn) (fl (kvV src nn)) (kvR src nn) with
    | some (some x, rs) => if rs.bad then u = .tuple #[.slice none 0 0, .bool false] else ∃ v, u = .tuple #[v, .bool true] ∧ BytesAt w' (fun k => w.heap.size ≤ k) v (num 2 (kvV src nn) ++ K.wr (kvV src nn) (fl (kvV src nn)) x)
    | _ => u = .tuple #[.slice none 0 0, .bool false]
theorem againMK {P : Program} {C : CfgR} {T PT flex n lo g nt fNew fRF fApp fR df nl ntR ntRF : Nat} {K : KM} {Sd : Sch} {z zD : Array Value} {ev : Value} (hnt : 1 ≤ nt) (hI : FnIs P g nt [.t 2, .t 3] (irAgainK C.toCfg T fNew fRF fApp))
    (hRF : FnIs P fRF ntRF [.t 4] (irRF C.toCfg PT fR)) (hntRF : 2 ≤ ntRF) (hm : MsgRm P C T PT n lo K true nl) (h16 : PrimR P C .i16) (hdef : DefRC P C.toCfg n df Sd) (hntR : 3 ≤ ntR) (hR : FnIs P fR ntR [.t 6] (msgRk C T PT flex df true K.S K.ks K.tk nl))
    (hNew : ∀ w, Ret P fNew #[] w fun v w' => v = .agg zD ∧ Ext none1 w w') (hz : zeroOf P T = some (.agg z)) (hn : z.size = n) (hzDn : zD.size = n) (hkT : kindOf P T = .agg n) (hone : allOne zD.toList = true) (hid : setD 0 (Sd.dst C.toCfg) zD = zD) (hchk : K.S.chkD zD.toList = true) (hks : ksChkD zD.toList K.ks = true) (hnil : zD[K.to]? = some (.map none))
    (hApp : ∀ {w : World} {b a base : Nat} {cs : List Value} {x : K.kw.T} {ver : Int} {v : Value} {s : List UInt8}, CellsAt w b a cs → cs[0]? = some (.int .i16 ver) → KmRep w (· < base) cs K.kw x → K.kw.TagsOk tagsOk x → b < base → OwnB C.E.tU8 w base v s → base ≤ w.heap.size →
      s.length + (K.kw.wr ver (flagAt C.toCfg flex ver) x).length ≤ 1099511627776 → Ret P fApp #[.pointer (some ⟨b, a, none⟩), v] w fun v' w' => OwnB C.E.tU8 w' base v' (s ++ K.kw.wr ver (flagAt C.toCfg flex ver) x) ∧ Grew w v w' v')
    (tBs : SliI P C.E.tBs C.E.tU8 1 1 (.int .u8 0)) (uErr : ∃ ms, P.underlying C.E.tErr = some (.interface ms)) (hev : ∃ t v, ev = .iface t v)
    {w : World} {X : Nat → Prop} {sv : Value} {src : List UInt8} (hsrc : BytesAt w X sv src) (hlen : src.length ≤ 1099511627776) (herr : w.cell? ⟨C.E.g_kbin_ErrNotEnoughData, 0, none⟩ = some ev) (hv0 : ∀ nn, 0 ≤ kvV src nn) (hdup : ∀ nn rs, K.rd (kvV src nn) (flagAt C.toCfg flex (kvV src nn)) (kvR src nn) ≠ some (none, rs))
    (hgood : ∀ nn x rs, K.rd (kvV src nn) (flagAt C.toCfg flex (kvV src nn)) (kvR src nn) = some (some x, rs) → rs.bad = false → K.TagsOk tagsOk x ∧ (num 2 (kvV src nn) ++ K.wr (kvV src nn) (flagAt C.toCfg flex (kvV src nn)) x).length ≤ 1099511627776) :
    Ret P g #[sv] w fun u w' => AgainPostMK K (flagAt C.toCfg flex) src w u w' := by
  refine hI.call (args := [_]) hnt ?_
  simp [irAgainK]
  refine (hNew w).mono ?_
  rintro v w0 ⟨rfl, he0⟩
  have hbz := alloc_new (w := w0) (o := .cells z T)
  simp [hz, Value.cells, store_agg hkT, hzDn, hone, putK_blk hbz, over_all (show z.size = zD.size by omega)]
  refine ⟨by omega, ?_⟩
  generalize hbb : w0.heap.size = b0 at *
  generalize hw2 : (w0.alloc (.cells z T)).setBlk b0 (.cells zD T (0, 0)) = w2
  have hb2 : w2.heap[b0]? = some (.cells zD T (0, 0)) := by subst hw2; exact setBlk_same hbz
  have hE0 : Ext none1 w0 w2 := by subst hw2; exact ((Ext.refl none1 w0).alloc _).setBlk (.inl (by omega)) _
  have he2 : Ext none1 w w2 := he0.trans hE0
  have hsz0 := he0.size
  have hsz2 : b0 < w2.heap.size := lt_of_heap hb2
  have hsrc2 : BytesAt w2 X sv src := hsrc.ext he2 (fun _ _ _ h => h)
  refine st_app_bytes tBs (s := []) (base := w2.heap.size) (v := .slice none 0 0) (by simp) (by simpa [OwnB, cellsOf] using Own.nil w2 w2.heap.size C.E.tU8 1) (Nat.le_refl _) (k := X) (bs := src) (by simpa using hsrc2) (by simpa using hlen) ?_
  intro v3 w3 ho3 hg3
  rw [List.nil_append] at ho3
  have he23 : Ext none1 w2 w3 := hg3.ext.mono (fun k _ h => by simp [own1, Value.ownBlock] at h)
  have hgw : C.E.g_kbin_ErrNotEnoughData < w.heap.size := World.block_lt_of_cell? w _ herr
  have hsz3 := hg3.size
  obtain ⟨D, hD, hD2⟩ := (own_bytesK ho3).oneD C.E.g_kbin_ErrNotEnoughData
  have hDlt : D < w3.heap.size := by rcases hD2 with h | h <;> omega
  have hbD : b0 ≠ D := by rcases hD2 with h | h <;> omega
  have hb3 := he23.old hb2 (fun h => h)
  have hseg : segL zD 0 n = zD.toList := by rw [← hzDn]; simp only [segL, List.drop_zero]; exact List.take_of_length_le (by simp)
  have hrd := readFromMK (w := w3) (b := b0) (a := 0) (D := D) (cc := zD) (e := T) (ev := ev) hm h16 hdef hntR hR hb3 (by omega) (by rw [hid, hseg]; exact hchk) (by rw [hid, hseg]; exact hks) (by rw [hid, Nat.zero_add]; exact hnil) hD hDlt hbD (he23.cell (he2.cell herr (fun h => h)) (fun h => h)) hev (by omega) (hv0 _) (hdup _)
  rw [hid] at hrd
  have he03 : Ext none1 w w3 := he2.trans he23
  obtain ⟨ms, hms⟩ := uErr
  obtain ⟨tv, vv, rfl⟩ := hev
  try simp
  refine (c_RF hntRF hRF hrd).mono ?_
  rintro v4 w4 ⟨he4, hnone, hsome⟩
  have he04 : Ext none1 w w4 := he03.trans' he4 (fun k hk hk2 => by have h3 : k = b0 := hk2; omega)
  cases hx : K.rd (kvV src (nonNil v3)) (flagAt C.toCfg flex (kvV src (nonNil v3))) (kvR src (nonNil v3)) with
  | none =>
    have := hnone hx
    subst this
    simp [bin_nnil_iface hms]
    refine cw_true (by simp) ?_
    simp
    exact ⟨he04, nonNil v3, by rw [hx]⟩
  | some p =>
    obtain ⟨x, rs⟩ := p
    cases x with
    | none => exact absurd hx (hdup _ _)
    | some x =>
    obtain ⟨hv4, cc4, hb4, hsz4, hsame4, hrep4⟩ := hsome x rs hx
    cases hbad : rs.bad with
    | true =>
      rw [hbad] at hv4
      simp at hv4
      subst hv4
      simp [bin_nnil_iface hms]
      refine cw_true (by simp) ?_
      simp
      exact ⟨he04, nonNil v3, by rw [hx]; simp [hbad]⟩
    | false =>
      rw [hbad] at hv4
      simp at hv4
      subst hv4
      obtain ⟨hok, hszx⟩ := hgood _ _ _ hx hbad
      simp [bin_nnil_nil hms]
      refine cw_false (by simp) ?_
      simp
      have hton := hm.ton
      have hsz0 : (zD.setIfInBounds 0 (.int .i16 (kvV src (nonNil v3)))).size = zD.size := by simp
      have hver4 : cc4[0]? = some (.int .i16 (kvV src (nonNil v3))) := by
        rw [hsame4 0 (by omega), Array.getElem?_setIfInBounds, if_pos rfl, if_pos (by omega)]
      have hc0 : (segL cc4 0 n)[0]? = some (.int .i16 (kvV src (nonNil v3))) := by rw [segL_get (by omega)]; exact hver4
      obtain ⟨k1, k2, k3⟩ := hok
      obtain ⟨q1, q2, q3⟩ := hrep4
      refine (hApp (base := w4.heap.size) (b := b0) (a := 0) (cs := segL cc4 0 n) (x := ((kvV src (nonNil v3), x.1), x.2.1, x.2.2)) (ver := kvV src (nonNil v3)) (s := []) (cellsAt_seg hb4) hc0 ⟨⟨⟨_, seg_one hc0 rfl, rfl⟩, q1⟩, q2, q3⟩ ⟨k1, k2, k3⟩ ?_ (by simpa [OwnB, cellsOf] using Own.nil w4 w4.heap.size C.E.tU8 1) (Nat.le_refl _) (by rw [List.length_nil, Nat.zero_add, kw_wr]; exact hszx)).mono ?_
      · exact lt_of_heap hb4
      · rintro v5 w5 ⟨ho5, hg5⟩
        rw [List.nil_append, kw_wr] at ho5
        refine ⟨?_, nonNil v3, ?_⟩
        · exact he04.trans (hg5.ext.mono (fun k _ h => by simp [own1, Value.ownBlock] at h))
        · rw [hx]
          simp [hbad]
          exact BytesAt.mono (own_bytesK ho5) (fun k _ h => by have := he04.size; omega)
def irFnAgainK (E : Env) (fMsg fKept fAg tup : Nat) (md : Nat) : Ir :=
  (.seq
    (.reg [
        ⟨none, some 3, .box E.t_spec_Tree (.tmp 1), E.tNil⟩,
        ⟨none, some 4, .assign (.const (.bool false)), E.tB⟩])
  (.seq
    (.seq
      (.reg [
          ⟨none, some 8, .load E.t_spec_Tree (.tmp 3), E.t_spec_Tree⟩,
          ⟨none, some 9, .call { callee := .value (.func E.f_laws_zzFits2), args := #[.tmp 8], argTypes := #[E.t_spec_Tree] }, E.tB⟩,
          ⟨none, some 10, .unOp .not E.tB (.tmp 9), E.tB⟩])
    (.cond 10
      (.seq
        (.reg [
            ⟨none, some 4, .assign (.const (.bool true)), E.tB⟩])
      .ret)
      .skip))
  (.seq
    (.regH [
        (true, ⟨none, some 12, .move (.tmp 0), E.tU8⟩),
        (true, ⟨none, some 13, .convert E.tU8 E.tInt (.tmp 12), E.tInt⟩),
        (true, ⟨none, some 14, .binOp .rem E.tInt (.tmp 13) (.const (.int .i64 md)) E.tInt, E.tInt⟩),
        (true, ⟨none, some 15, .load E.t_spec_Tree (.tmp 3), E.t_spec_Tree⟩),
        (false, ⟨none, some 11, .call { callee := .value (.func fMsg), args := #[], argTypes := #[] }, E.t_spec_Message⟩),
        (false, ⟨none, some 16, .call { callee := .value (.func fKept), args := #[.tmp 11, .tmp 14, .tmp 15], argTypes := #[E.t_spec_Message, E.tInt, E.t_spec_Tree] }, E.tBs⟩),
        (true, ⟨none, some 5, .assign (.tmp 16), E.tBs⟩)])
  (.seq
    (.reg [
        ⟨none, some 18, .move (.tmp 5), E.tBs⟩,
        ⟨none, some 19, .call { callee := .value (.func fAg), args := #[.tmp 18], argTypes := #[E.tBs] }, tup⟩,
        ⟨none, some 17, .move (.tmp 19), tup⟩,
        ⟨none, some 20, .extract (.tmp 17) 0, E.tBs⟩,
        ⟨none, some 21, .extract (.tmp 17) 1, E.tB⟩,
        ⟨none, some 6, .assign (.tmp 20), E.tBs⟩,
        ⟨none, some 7, .assign (.tmp 21), E.tB⟩])
  (.seq
    (.reg [
        ⟨none, some 22, .move (.tmp 7), E.tB⟩,
        ⟨none, some 23, .move (.tmp 22), E.tB⟩,
        ⟨(some (23, true)), some 24, .move (.tmp 6), E.tBs⟩,
        ⟨(some (23, true)), some 25, .move (.tmp 5), E.tBs⟩,
        ⟨(some (23, true)), some 26, .call { callee := .value (.func E.f_spec_Same), args := #[.tmp 24, .tmp 25], argTypes := #[E.tBs, E.tBs] }, E.tB⟩,
        ⟨none, some 27, .pick (.tmp 23) (.tmp 26) (.const (.bool false)), E.tB⟩,
        ⟨none, some 4, .assign (.tmp 27), E.tB⟩])
  .ret)))))
/-- what the law asks of impl's and spec's functions -/
structure AgLMK (P : Program) (E : Env) (fMsg fKept fAg M : Nat) (K : KM) (fl : Int → Bool) (ev : Value) (F : FS) (fx : Int) : Prop where
  again : ∀ {w : World} {X : Nat → Prop} {sv : Value} {src : List UInt8}, BytesAt w X sv src → src.length ≤ 1099511627776 → w.cell? ⟨E.g_kbin_ErrNotEnoughData, 0, none⟩ = some ev → (∀ nn, 0 ≤ kvV src nn) →
    (∀ nn rs, K.rd (kvV src nn) (fl (kvV src nn)) (kvR src nn) ≠ some (none, rs)) →
    (∀ nn x rs, K.rd (kvV src nn) (fl (kvV src nn)) (kvR src nn) = some (some x, rs) → rs.bad = false → K.TagsOk tagsOk x ∧ (num 2 (kvV src nn) ++ K.wr (kvV src nn) (fl (kvV src nn)) x).length ≤ 1099511627776) →
    Ret P fAg #[sv] w fun u w' => AgainPostMK K fl src w u w'
  kept : ∀ (w : World) (fv : Value) (cs : List Value) (t : Tr) (v : Int), FsAt w fv F → TreeAt w cs t → (partS F v (flexAt fx v) t).length + 2 ≤ 1099511627776 →
    Ret P fKept #[.agg #[fv, .int .i64 fx], .int .i64 v, .agg cs.toArray] w fun u w' => Fresh E.tU8 w u w' (num 2 v ++ partS F v (flexAt fx v) t)
  msg : MsgC P fMsg F fx
  flex : ∀ v : Nat, v ≤ M → flexAt fx v = fl v
  fit : fitM M (fun v => fl v) F K = true
  wt : K.S.wt2 ≤ 100000
  hM : M < 32768
  pos : ∀ v : Nat, v ≤ M → K.Ok v (fl v)
section
variable {P : Program} {E : Env} (ht : TyK P E) (hs : SpecFns P E)
include ht hs
set_option maxHeartbeats 2000000 in
theorem c_FnAgainMK (hFz : ∀ (w : World) (cs : List Value) (t : Tr), TreeAt w cs t → Ret P E.f_laws_zzFits2 #[.agg cs.toArray] w (SomeB w))
    {fMsg fKept fAg M g nt tup : Nat} {K : KM} {fl : Int → Bool} {ev : Value} {F : FS} {fx : Int} (hL : AgLMK P E fMsg fKept fAg M K fl ev F fx) (hnt : 2 ≤ nt) (hI : FnIs P g nt [.t 4] (irFnAgainK E fMsg fKept fAg tup (M + 1))) (n : Nat) (hn : n < 256) {w : World} {cs : List Value} {t : Tr}
    (hT : TreeAt w cs t) (hz : t.sz ≤ 1048576) (herr : w.cell? ⟨E.g_kbin_ErrNotEnoughData, 0, none⟩ = some ev) :
    Ret P g #[.int .u8 n, .agg cs.toArray] w fun u w' => u = .bool true ∧ Ext none1 w w' := by
  obtain ⟨v, hvdef⟩ : ∃ v, v = n % (M + 1) := ⟨_, rfl⟩
  have hvM : v ≤ M := by have := Nat.mod_lt n (show 0 < M + 1 by omega); omega
  have hM := hL.hM
  obtain ⟨x, hx0, hwf⟩ := conv_km (flx := fun v => fl v) hvM hL.fit hT.ok hz
  have hsz := partM_le (flx := fun v => fl v) hvM hL.fit hT.ok hz hL.wt
  have hx : num 2 v ++ partS F v (flexAt fx v) t = num 2 (v : Int) ++ K.wr v (fl v) x := by rw [hL.flex v hvM, hx0]
  have hlen : (num 2 (v : Int) ++ K.wr v (fl v) x).length ≤ 1099511627776 := by rw [hx0]; simp [num]; omega
  have hvr : -32768 ≤ (v : Int) ∧ (v : Int) < 32768 := by omega
  have hkv : ∀ nn, ∃ n1, kvV (num 2 (v : Int) ++ K.wr v (fl v) x) nn = v ∧ kvR (num 2 (v : Int) ++ K.wr v (fl v) x) nn = ⟨K.wr v (fl v) x, false, n1⟩ := by
    intro nn
    obtain ⟨n1, e1⟩ := rdV_num v hvr (K.wr v (fl v) x) nn
    refine ⟨n1, ?_, ?_⟩
    · exact congrArg Prod.fst e1
    · exact congrArg Prod.snd e1
  have hrd : ∀ nn, ∃ y nn', K.rd (kvV (num 2 (v : Int) ++ K.wr v (fl v) x) nn) (fl (kvV (num 2 (v : Int) ++ K.wr v (fl v) x) nn)) (kvR (num 2 (v : Int) ++ K.wr v (fl v) x) nn) = some (some y, ⟨[], false, nn'⟩) ∧ K.wr v (fl v) y = K.wr v (fl v) x ∧ K.TagsOk tagsOk y ∧ kvV (num 2 (v : Int) ++ K.wr v (fl v) x) nn = v := by
    intro nn
    obtain ⟨n1, e1, e2⟩ := hkv nn
    obtain ⟨z, nn', a1, a2, a3⟩ := rd_km (hL.pos v hvM) hwf [] n1
    rw [List.append_nil] at a1
    exact ⟨z, nn', by rw [e1, e2]; exact a1, a2, a3, e1⟩
  have h5 := hT.five
  refine hI.call (args := [_, _]) hnt ?_
  have hv : ∀ (a : Array Value), (Value.agg a).cells = a := fun a => rfl
  simp [irFnAgainK, hv]
  generalize hw1 : w.alloc (.cells cs.toArray E.t_spec_Tree) = w1
  have hE1 : Ext none1 w w1 := by subst hw1; exact (Ext.refl none1 w).alloc _
  have hb1 : w1.heap[w.heap.size]? = some (.cells cs.toArray E.t_spec_Tree (0, 0)) := by subst hw1; exact alloc_new
  have hcT : ∀ wx, Ext none1 w1 wx → cellsFrom wx ⟨w.heap.size, 0, none⟩ 0 5 = some cs := by
    intro wx hx
    have := cellsFrom_row (hx.old hb1 (fun h => h))
    simpa [h5.1] using this
  simp [ld_agg ht.kT, hcT w1 (Ext.refl _ _)]
  refine (hFz w1 cs t (hT.ext hE1)).mono ?_
  rintro _ w3 ⟨⟨b, rfl⟩, hE13⟩
  simp
  cases b
  · refine cw_true (by simp) ?_
    simp
    exact hE1.trans hE13
  refine cw_false (by simp) ?_
  simp
  have hE3 := hE1.trans hE13
  have hD := (Ext.refl none1 w3).drew
  refine cw_regH (Ext none1 w3) hD ?_
  have r3 := Ext.refl none1 w3
  have lT : ∀ wx, Ext none1 w3 wx → cellsFrom wx ⟨w.heap.size, 0, none⟩ 0 5 = some cs := fun wx hx => hcT wx (hE13.trans hx)
  have e8 : IntKind.i64.wrap (n : Int) = n := i64_small (by omega) (by omega)
  have ek8 : ((n : Int).tmod ((M : Int) + 1)) = (v : Int) := by rw [Int.tmod_eq_emod_of_nonneg (by omega), hvdef]; rfl
  have hne8 : ¬ ((M : Int) + 1 = 0) := by omega
  simp +contextual [ld_agg ht.kT, lT, lT w3.drew hD, ht.iU8, ht.iInt, e8, bin?, hne8, ek8]
  refine (hL.msg w3.drew).mono ?_
  rintro _ w4 ⟨fv, rfl, hF, he4⟩
  have hD4 := hD.trans he4
  simp [hD4]
  refine (hL.kept w4 fv cs t v hF (hT.ext (hE3.trans hD4)) (by rw [hL.flex v hvM]; exact hsz)).mono ?_
  rintro v8 w8 h8
  rw [hx] at h8
  have hD8 := hD4.trans h8.2
  simp [hD8]
  have hb8 := own_bytes h8.1
  have hE8 := hE3.trans hD8
  refine (hL.again hb8 hlen (hE8.cell herr (fun h => h)) (fun nn => ?_) (fun nn rs h => ?_) (fun nn y rs h1 _ => ?_)).mono ?_
  · obtain ⟨n1, e1, _⟩ := hkv nn
    rw [e1]; omega
  · obtain ⟨y, nn', e1, _⟩ := hrd nn
    rw [e1] at h; cases h
  · obtain ⟨z, nn', e1, e2, e3, e4⟩ := hrd nn
    rw [e1] at h1
    cases h1
    exact ⟨e3, by rw [e4, e2]; exact hlen⟩
  rintro u w10 ⟨he10, nn, hu⟩
  obtain ⟨z, nn', e1, e2, e3, e4⟩ := hrd nn
  rw [e1] at hu
  simp only [Bool.false_eq_true, if_false] at hu
  obtain ⟨v2, rfl, hv2⟩ := hu
  rw [e4, e2] at hv2
  simp
  refine (sp_Same ht.toTyG hs w10 _ _ v2 v8 _ _ hv2 (hb8.ext he10 (fun _ _ _ h => h)) hlen).mono ?_
  rintro _ w11 ⟨rfl, he11⟩
  simp
  exact hE8.trans (he10.trans he11)
end
end Go.Kg
