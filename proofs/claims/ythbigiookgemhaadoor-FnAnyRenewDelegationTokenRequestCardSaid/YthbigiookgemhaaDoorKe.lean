/- What is proved here: how the code of the messages runs, in general: a semantics of calls by their texts, and contracts of the functions of kbin and of the reference. No condition but those that each theorem names. -/
import Derived.Lib.AppendZerosOnto
import Derived.WideKeyArgs
import Derived.ChangeSlices
import Derived.OpenShut
import Derived.RowKit
import Derived.Maps.RangeRun
import Derived.Shelf.GgSortFunc.Whole
import Derived.Shelf.GgSortFunc.Tiny
import Derived.Test.YthbigiookgemhaaDoorKd
set_option linter.unusedSectionVars false
set_option linter.unusedSimpArgs false
set_option linter.unusedVariables false
set_option linter.unusedSimpArgs false
set_option linter.unusedVariables false
set_option linter.unusedSectionVars false
namespace Go.Kg
open Go

/-- what stands in a new element -/
def sliZ (P : Program) (sT : TypeId) : Option (Array Value) := match P.underlying sT with
  | some (.slice e) => match P.info? e with
    | some i => if i.bytes ≤ 131072 ∧ 0 < i.size then match i.zero with
      | some z => if z.cells.size = i.size then some z.cells else none
      | none => none
      else none
    | none => none
  | _ => none
def sliOk (P : Program) (sT sz : Nat) : Bool := sliSz P sT == some sz && match sliZ P sT with
  | some z => z.size == sz
  | none => false
def elemOk (P : Program) (C : Cfg) (sT : Nat) (e : Sch) : Bool := match sliZ P sT with
  | some z => e.chkD (setD 0 (e.dst C) z).toList
  | none => false

def Sch.tyR (P : Program) (C : CfgR) : Nat → Nat → Nat → Sch → Bool
  | _, _, _, .fin => true
  | T, n, lo, .tags k o => C.fx && fldOff P T k == some o && decide (lo ≤ o) && decide (o + 1 ≤ n)
  | T, n, lo, .prim _ k o p en _ rest => fldOff P T k == some o && p.kOk P (p.ty C.E) && (en == 0 || (p == .i8 && isScl (kindOf P en))) && decide (lo ≤ o) && decide (o + p.sz ≤ n) && rest.tyR P C T n (o + p.sz)
  | T, n, lo, .arrP _ k o sT nul p rest => nul.isNone && fldOff P T k == some o && isScl (kindOf P sT) && sliOk P sT p.sz && p.kOk P (p.ty C.E) && decide (lo ≤ o) && decide (o + 1 ≤ n) && rest.tyR P C T n (o + 1)
  | T, n, lo, .arrS _ k o sT nul T' _ sz _ e rest => nul.isNone && fldOff P T k == some o && isScl (kindOf P sT) && sliOk P sT sz && elemOk P C.toCfg sT e && defOk P T' sz (e.dst C.toCfg) && e.tyR P C T' sz 0 && decide (lo ≤ o) && decide (o + 1 ≤ n) && rest.tyR P C T n (o + 1)

def DefRC (P : Program) (C : Cfg) (sz df : Nat) (e : Sch) : Prop := ∀ w (b a : Nat) c et, w.heap[b]? = some (.cells c et (0, 0)) → a + sz ≤ c.size → Ret P df #[.pointer (some ⟨b, a, none⟩)] w fun _ w' => w' = w.setBlk b (.cells (setD a (e.dst C) c) et (0, 0))
def Sch.NeedR (P : Program) (C : CfgR) : Sch → Prop
  | .fin => True
  | .tags _ _ => TagsRC P C
  | .prim _ _ _ p _ _ rest => PrimR P C p ∧ rest.NeedR P C
  | .arrP _ _ _ _ _ p rest => PrimR P C p ∧ LenRC P C ∧ EndC P C ∧ rest.NeedR P C
  | .arrS _ _ _ _ _ _ _ sz df e rest => LenRC P C ∧ EndC P C ∧ DefRC P C.toCfg sz df e ∧ e.NeedR P C ∧ rest.NeedR P C

theorem prim_chkD_congr {cs cs' : List Value} {o : Nat} {p : Prim} {d : Int} (h : ∀ j, o ≤ j → j < o + p.sz → cs'[j]? = cs[j]?) (hc : p.chkD cs o d = true) : p.chkD cs' o d = true := by
  cases p with
  | uuid =>
    have : ∀ n, n ≤ 16 → zeros16 cs o n = true → zeros16 cs' o n = true := by
      intro n
      induction n with
      | zero => intro _ _; rfl
      | succ n ih =>
        intro hn hz
        simp only [zeros16, Bool.and_eq_true] at hz ⊢
        rw [h (o + n) (by omega) (by simp [Prim.sz]; omega)]
        exact ⟨hz.1, ih (by omega) hz.2⟩
    exact this 16 (Nat.le_refl _) hc
  | _ =>
    have h0 := h o (Nat.le_refl _) (by simp [Prim.sz])
    simp only [Prim.chkD] at hc ⊢
    rw [h0]; exact hc

theorem chkD_congr {P : Program} {C : CfgR} {cs cs' : List Value} : ∀ (S : Sch) {T n lo : Nat}, S.tyR P C T n lo = true → (∀ j, lo ≤ j → j < n → cs'[j]? = cs[j]?) → S.chkD cs = true → S.chkD cs' = true := by
  intro S
  induction S with
  | fin => intros; rfl
  | tags k o =>
    intro T n lo ht h hc
    simp only [Sch.tyR, Bool.and_eq_true, decide_eq_true_eq] at ht
    simp only [Sch.chkD] at hc ⊢
    rw [h o (by omega) (by omega)]; exact hc
  | prim g k o p en d rest ih =>
    intro T n lo ht h hc
    simp only [Sch.tyR, Bool.and_eq_true, decide_eq_true_eq] at ht
    simp only [Sch.chkD, Bool.and_eq_true] at hc ⊢
    exact ⟨prim_chkD_congr (fun j h1 h2 => h j (by omega) (by omega)) hc.1, ih ht.2 (fun j h1 h2 => h j (by omega) h2) hc.2⟩
  | arrP g k o sT nul p rest ih =>
    intro T n lo ht h hc
    simp only [Sch.tyR, Bool.and_eq_true, decide_eq_true_eq] at ht
    simp only [Sch.chkD, Bool.and_eq_true] at hc ⊢
    rw [h o (by omega) (by omega)]
    exact ⟨hc.1, ih ht.2 (fun j h1 h2 => h j (by omega) h2) hc.2⟩
  | arrS g k o sT nul T' PT sz df e rest ihe ih =>
    intro T n lo ht h hc
    simp only [Sch.tyR, Bool.and_eq_true, decide_eq_true_eq] at ht
    simp only [Sch.chkD, Bool.and_eq_true] at hc ⊢
    rw [h o (by omega) (by omega)]
    exact ⟨hc.1, ih ht.2 (fun j h1 h2 => h j (by omega) h2) hc.2⟩

section
variable {P : Program} {C : CfgR}

def SoundR (P : Program) (C : CfgR) (S : Sch) : Prop := ∀ (T PT pv : Nat) (c : Ct) (Q : Post) (f : Nat → Value) (w : World) (b a n lo : Nat) (cc : Array Value) (e : TypeId) (ver : Int) (fl : Bool) (R : Rdr) (rs : RS),
  S.tyR P C T n lo = true → S.NeedR P C → FrR C R f pv b a ver fl c.l → (S.genR C T PT pv c).2.l ≤ c.t → StR C R b a n w cc e rs → S.chkD (segL cc a n) = true →
  (S.rd ver fl rs = none → ∀ f' w', f' 6 = R.ev → Ext (CB R b) w w' → Q .ret f' w') →
  (∀ x rs', S.rd ver fl rs = some (x, rs') → ∀ f' w' cc', RdTo C R b a n lo w cc e f c.l (S.genR C T PT pv c).2.l c.t rs' f' w' cc' → S.Rep w' (RK R) (segL cc' a n) x → Q .normal f' w') →
  (seqL (S.genR C T PT pv c).1).wp P Q f w

theorem genR_mono : ∀ (S : Sch) (T PT pv : Nat) (c : Ct), c.l ≤ (S.genR C T PT pv c).2.l ∧ c.t ≤ (S.genR C T PT pv c).2.t := by
  intro S
  induction S with
  | fin => intro T PT pv c; exact ⟨Nat.le_refl _, Nat.le_refl _⟩
  | tags k o => intro T PT pv c; exact ⟨Nat.le_refl _, by simp [Sch.genR]⟩
  | prim g k o p en d rest ih =>
    intro T PT pv c
    simp only [Sch.genR]
    split
    · have := ih T PT pv ⟨c.l + 1, c.t + gdN g + readN C p + 4, c.k⟩
      constructor
      · exact Nat.le_trans (by simp) this.1
      · exact Nat.le_trans (by simp; omega) this.2
    · have := ih T PT pv ⟨c.l + 3, c.t + gdN g + 7, c.k⟩
      constructor
      · exact Nat.le_trans (by simp) this.1
      · exact Nat.le_trans (by simp; omega) this.2
  | arrP g k o sT nul p rest ih =>
    intro T PT pv c
    simp only [Sch.genR]
    have := ih T PT pv ⟨c.l + 5, c.t + gdN g + headN C nul + 5 + readN C p + 4 + 5, c.k + 2⟩
    constructor
    · exact Nat.le_trans (by simp) this.1
    · exact Nat.le_trans (by simp; omega) this.2
  | arrS g k o sT nul T' PT' sz df e rest ihe ih =>
    intro T PT pv c
    simp only [Sch.genR]
    have h1 := ihe T' PT' (c.l + 5) ⟨c.l + 6, c.t + gdN g + headN C nul + 11, c.k + 2⟩
    generalize e.genR C T' PT' (c.l + 5) ⟨c.l + 6, c.t + gdN g + headN C nul + 11, c.k + 2⟩ = z at *
    obtain ⟨eb, c1⟩ := z
    have := ih T PT pv ⟨c1.l, c1.t + 5, c1.k⟩
    simp only at h1 this ⊢
    omega

theorem RdTo.refl {R : Rdr} {b a n lo : Nat} {w : World} {cc : Array Value} {e : TypeId} {f f' : Nat → Value} {l m t : Nat} {rs : RS} (h : StR C R b a n w cc e rs) (hk : KeepR f f' l m t) : RdTo C R b a n lo w cc e f l m t rs f' w cc :=
  ⟨Ext.refl _ _, h, rfl, fun _ _ => rfl, hk⟩
/-- only the reader has turned -/
theorem RdTo.read {R : Rdr} {b a n lo : Nat} {w w' : World} {cc : Array Value} {e : TypeId} {f f' : Nat → Value} {l m t : Nat} {rs rs' : RS} (h : StR C R b a n w cc e rs) (he : Ext (· = R.pb) w w') (hr : RdAt C.E.tRd w' R.pb R.D rs') (hk : KeepR f f' l m t) : RdTo C R b a n lo w cc e f l m t rs' f' w' cc :=
  ⟨he.mono (fun _ _ h => .inl h), h.ext1 he hr, rfl, fun _ _ => rfl, hk⟩

theorem over_one {cc : Array Value} {o : Nat} {v : Value} (h : o < cc.size) : over cc o [v] = cc.setIfInBounds o v := by
  apply Array.ext_getElem?
  intro j
  simp only [over, List.length_singleton, List.getElem?_toArray, List.append_assoc]
  rw [Array.getElem?_setIfInBounds]
  by_cases h1 : j < o
  · rw [List.getElem?_append_left (by simp; omega), if_neg (by omega), List.getElem?_take, if_pos h1]; simp
  · rw [List.getElem?_append_right (by simp; omega)]
    have hl : (cc.toList.take o).length = o := by simp; omega
    rw [hl]
    by_cases h2 : j = o
    · subst h2; simp [h]
    · rw [if_neg (by omega), List.getElem?_append_right (by simp; omega)]
      simp only [List.length_singleton, List.getElem?_drop, Array.getElem?_toList]
      congr 1; omega

theorem soundR_fin : SoundR P C .fin := by
  intro T PT pv c Q f w b a n lo cc e ver fl R rs hty hN hf hc hs hd h0 h1
  exact h1 () rs rfl f w cc (RdTo.refl hs (KeepR.refl _ _ _ _)) trivial

theorem soundR_tags (ht : TyR P C) (k o : Nat) : SoundR P C (.tags k o) := by
  intro T PT pv c Q f w b a n lo cc e ver fl R rs hty hN hf hc hs hd h0 h1
  simp only [Sch.tyR, Bool.and_eq_true, beq_iff_eq, decide_eq_true_eq] at hty
  obtain ⟨⟨⟨hx, hF⟩, hlo⟩, hn⟩ := hty
  have hlt : c.l ≤ c.t := hc
  have hn10 := hf.nN
  have hpt := hf.ptrN
  have hnil := isNilMap_spec hd
  refine seqL_one ?_
  refine r_cond (hf.flg hx) (by omega) ?_ ?_
  · rintro rfl f1 hk1
    refine wp_reg ?_
    have p1 : f1 pv = .pointer (some ⟨b, a, none⟩) := (hk1 pv (by omega)).trans hf.ptr
    have p7 : f1 7 = .pointer (some ⟨R.pb, 0, none⟩) := (hk1 7 (by omega)).trans hf.rd
    have z7 : ∀ n, (7 = c.t + n) = False := by intro n; simp; omega
    have zp : ∀ n, (pv = c.t + n) = False := by intro n; simp; omega
    simp [p1, p7, z7, zp]
    refine (hN w R.pb R.D rs hs.rw_.ne.1 (Nat.lt_of_lt_of_le hs.rw_.lt.2.2.1 hs.rw_.lt.2.2.2) hs.rd).mono ?_
    rintro _ w1 ⟨⟨v, rfl, hv⟩, he1, hr1⟩
    have hs1 := hs.ext1 he1 hr1
    have hv1 : v.oneCell' = true := by
      rcases hv with ⟨rfl, _⟩ | ⟨_, _, _, rfl, _⟩ <;> rfl
    have hK : ∀ k, k = R.D ∨ w.heap.size ≤ k → RK R k := by
      rintro k (h | h)
      · exact .inl h
      · exact .inr (Nat.le_trans hs.rw_.lt.2.2.2 h)
    have huc : v.cells = #[v] := by cases v <;> simp_all [Value.oneCell', Value.cells]
    have hfit := hs1.fit
    simp [hF, Addr.add_mk, store_agg ht.kTags, allOne, hv1, putK_blk hs1.blk, over_one (show a + o < cc.size by omega)]
    refine ⟨by omega, ?_⟩
    have hput := put_one (cc := cc) (o := a + o) hv1 (by omega)
    refine h1 (rdTags rs).1 (rdTags rs).2 rfl _ _ _ ((RdTo.read hs he1 hr1 (KeepR.refl _ _ _ _)).trans (RdTo.put hs1 hput hlo (by rw [huc]; exact hn) (l := c.l) (m := c.l) (t := c.t) ?_) (Nat.le_refl _) (Nat.le_refl _) (Nat.le_refl _) (Nat.le_refl _)) ?_
    · intro y hy1 hy
      have x3 : ∀ n, (y = c.t + n) = False := by intro n; simp; omega
      simp [x3]
      exact hk1 y (by omega)
    · refine ⟨v, ?_, ?_⟩
      · rw [segL_get (by omega)]
        simp [Array.getElem?_setIfInBounds]; omega
      · have hE : Ext (fun k => k = b) w1 (w1.setBlk b (.cells (cc.setIfInBounds (a + o) v) e (0, 0))) := (Ext.refl (fun k => k = b) w1).setBlk (b := b) (Or.inr rfl) _
        exact TagsAt.ext hE (fun k hk1 hk2 hk3 => hs1.rw_.keepK k hk1 hk2 (.inr hk3)) (TagsAt.mono hK hv)
  · rintro rfl f1 hk1
    refine h1 [] rs rfl f1 w cc (RdTo.refl hs (fun y _ hy => hk1 y (by omega))) ⟨_, hnil, .inl ⟨rfl, rfl⟩⟩

/-- var t E; {v := b.Int8(); t = E(v)}; v := t; s.F = v -/
theorem r_enum (ht : TyR P C) {T PT pv k o l t b a n en : Nat} {R : Rdr} {Q : Post} {f : Nat → Value} {w : World} {ver : Int} {fl : Bool} {cc : Array Value} {e : TypeId} {rs : RS} (hP : PrimR P C .i8) (hs : StR C R b a n w cc e rs) (hf : FrR C R f pv b a ver fl l)
    (hF : fldOff P T k = some o) (hk : isScl (kindOf P en) = true) (hl : l + 3 ≤ t) (hn : o + 1 ≤ n)
    (h : ∀ f' w2 u cc', Prim.i8.rep1 w2 (RK R) u (Prim.i8.rd fl rs).1 → Ext (· = R.pb) w w2 → RdAt C.E.tRd w2 R.pb R.D (Prim.i8.rd fl rs).2 → Put cc (a + o) u cc' → (∀ y, y < t → (y < l ∨ l + 3 ≤ y) → f' y = f y) → Q .normal f' (w2.setBlk b (.cells cc' e (0, 0)))) :
    (seqL [.reg [⟨none, some l, .assign (.const (.int .i8 0)), en⟩], seqL [callR C .i8 (Prim.i8.fR C.E false) (l + 1) t, .reg [⟨none, some (t + 1), .move (.tmp (l + 1)), Prim.i8.ty C.E⟩, ⟨none, some l, .assign (.tmp (t + 1)), en⟩]],
        .reg [⟨none, some (t + 2), .move (.tmp l), en⟩, ⟨none, some (l + 2), .assign (.tmp (t + 2)), en⟩], .reg (storeT C T PT pv k en (l + 2) (t + 3))]).wp P Q f w := by
  have hn10 := hf.nN
  have hpt := hf.ptrN
  have hfit := hs.fit
  refine seqL_cons ?_
  refine wp_reg ?_
  simp
  generalize hfa : upd f l (.int .i8 0) = fa
  have ka : ∀ y, y ≠ l → fa y = f y := fun y hy => by subst hfa; rw [upd_apply, if_neg hy]
  show (seqL _).wp P _ fa w
  refine seqL_cons ?_
  refine seqL_cons ?_
  have hcall := hP false (by simp) w R.pb R.D rs hs.rw_.ne.1 (Nat.lt_of_lt_of_le hs.rw_.lt.2.2.1 hs.rw_.lt.2.2.2) hs.rd
  refine r_call ht (fun h => by cases h) (x := (Prim.i8.rd fl rs).1) (rs' := (Prim.i8.rd fl rs).2) hs ((ka 7 (by omega)).trans hf.rd) (by omega) (by omega) hcall ?_
  intro f2 w2 u hu hrep he2 hr2 hk2
  have hs2 := hs.ext1 he2 hr2
  have hul : f2 (l + 1) = u := by simpa [LocVal] using hu
  have hu1 : u.oneCell' = true := by have := rep1_one hrep; simpa using this
  show (Ir.reg _).wp P _ f2 w2
  refine wp_reg ?_
  simp [hul]
  show (seqL _).wp P _ _ w2
  refine seqL_cons ?_
  refine wp_reg ?_
  have z1 : ∀ n, (l = t + n) = False := by intro n; simp; omega
  simp [z1]
  show (Ir.reg _).wp P _ _ w2
  refine r_storeT (u := u) (o := o) (b := b) (a := a) (cc := cc) (e := e) ?_ hF hk ?_ hu1 (by omega) (by omega) hs2.blk (by omega) ?_
  · have x3 : ∀ n, (pv = t + n) = False := by intro n; simp; omega
    have x4 : ∀ n, (pv = l + n) = False := by intro n; simp; omega
    have x5 : (pv = l) = False := by simp; omega
    simp [x3, x4, x5]
    rw [hk2 pv (by omega) (by omega), ka pv (by omega)]
    exact hf.ptr
  · simp
  · intro f3 cc3 hput hk3
    refine h f3 w2 u cc3 hrep he2 hr2 hput ?_
    intro y hy hy2
    have x3 : ∀ n, (y = t + n) = False := by intro n; simp; omega
    have x4 : (y = l + 2) = False := by simp; omega
    have x5 : (y = l) = False := by simp; omega
    rw [hk3 y (by omega)]
    simp [x3, x4, x5]
    rw [hk2 y (by omega) (by omega), ka y (by omega)]

theorem soundR_prim (ht : TyR P C) (g : Gd) (k o : Nat) (p : Prim) (en : Nat) (d : Int) (rest : Sch) (ih : SoundR P C rest) : SoundR P C (.prim g k o p en d rest) := by
  intro T PT pv c Q f w b a n lo cc e ver fl R rs hty hN hf hc hs hd h0 h1
  simp only [Sch.tyR, Bool.and_eq_true, beq_iff_eq, decide_eq_true_eq] at hty
  obtain ⟨⟨⟨⟨⟨hF, hk⟩, hen⟩, hlo⟩, hn⟩, htr⟩ := hty
  obtain ⟨hNp, hNr⟩ := hN
  simp only [Sch.chkD, Bool.and_eq_true] at hd
  have hn10 := hf.nN
  have hpt := hf.ptrN
  have hfit := hs.fit
  -- what comes behind
  have behind : ∀ (c' : Ct) (f1 : Nat → Value) (w1 : World) (cc1 : Array Value) (rs1 : RS) (x : p.T), c.l ≤ c'.l → c.t ≤ c'.t → (rest.genR C T PT pv c').2.l ≤ c'.t →
      (Sch.rd ver fl (.prim g k o p en d rest) rs = (rest.rd ver fl rs1).map fun y => ((x, y.1), y.2)) →
      RdTo C R b a n lo w cc e f c.l c'.l c.t rs1 f1 w1 cc1 → (∀ j, (j < a + lo ∨ a + o + p.sz ≤ j) → cc1[j]? = cc[j]?) → FldAt w1 R (segL cc1 a n) o p x →
      (∀ x rs', Sch.rd ver fl (.prim g k o p en d rest) rs = some (x, rs') → ∀ f' w' cc', RdTo C R b a n lo w cc e f c.l (rest.genR C T PT pv c').2.l c.t rs' f' w' cc' → Sch.Rep w' (RK R) (.prim g k o p en d rest) (segL cc' a n) x → Q .normal f' w') →
      (seqL (rest.genR C T PT pv c').1).wp P Q f1 w1 := by
    intro c' f1 w1 cc1 rs1 x hl htt hc' hrd hto hsame hfld h1
    have hd1 : rest.chkD (segL cc1 a n) = true := by
      refine chkD_congr rest htr (fun j hj1 hj2 => ?_) hd.2
      rw [segL_get hj2, segL_get hj2]
      exact hsame _ (by omega)
    refine ih T PT pv c' Q f1 w1 b a n (o + p.sz) cc1 e ver fl R rs1 htr hNr ((hf.keep hto.keep.keeps (Nat.le_refl _)).up hl) hc' hto.st hd1 ?_ ?_
    · intro hnone f2 w2 h6 he2
      exact h0 (by rw [hrd, hnone]; rfl) f2 w2 h6 (hto.ext.trans he2)
    · intro y rs2 hy f2 w2 cc2 hto2 hrep2
      refine h1 (x, y) rs2 (by rw [hrd, hy]; rfl) f2 w2 cc2 (hto.trans hto2 (by omega) hl (genR_mono (C := C) rest T PT pv c').1 htt) ⟨?_, hrep2⟩
      exact hfld.move hto2.ext hto.st.rw_.keepK (fun j hj1 hj2 => by rw [segL_get (by omega), segL_get (by omega)]; exact hto2.same _ (.inl (by omega)))
  have hK : ∀ k, k < w.heap.size → RK R k → ¬ CB R b k := hs.rw_.keepK
  by_cases he : en = 0
  · subst he
    simp only [Sch.genR, if_true] at hc h1 ⊢
    have hm := (genR_mono (C := C) rest T PT pv ⟨c.l + 1, c.t + gdN g + readN C p + 4, c.k⟩).1
    simp only at hm
    refine seqL_cons ?_
    refine w_guard ht.c (show f 8 = _ from hf.ver) (show 8 < c.t by omega) (by omega) ?_ ?_
    · intro hon f1 hk1 h11
      have hf1 := hf.keep hk1 (by omega)
      refine seqL_append ?_
      refine r_read ht (kOk_uu hk) hNp hs hf1 (by omega) ?_
      intro f2 w2 u hu hrep he2 hr2 hk2
      have hs2 := hs.ext1 he2 hr2
      have hsz := rep1_sz hrep
      refine seqL_one ?_
      refine r_store ht (o := o) ((hk2 pv (by omega) (by omega)).trans hf1.ptr) hF hk hu (rep1_one hrep) (by omega) (by omega) hs2.blk (by rw [hsz]; omega) ?_
      intro f3 cc3 hput hk3
      refine behind ⟨c.l + 1, c.t + gdN g + readN C p + 4, c.k⟩ f3 _ cc3 (p.rd fl rs).2 (p.rd fl rs).1 (by simp) (by simp; omega) (by simp only; omega) ?_ ?_ ?_ ?_ h1
      · simp only [Sch.rd, if_pos hon]; rfl
      · refine (RdTo.read (lo := lo) hs he2 hr2 (KeepR.refl _ c.l (c.l + 1) c.t)).trans (RdTo.put hs2 hput hlo (by rw [hsz]; exact hn) (l := c.l) (m := c.l + 1) (t := c.t) ?_) (Nat.le_refl _) (Nat.le_refl _) (Nat.le_refl _) (Nat.le_refl _)
        intro y hy1 hy
        rw [hk3 y (by omega), hk2 y (by omega) (by omega)]
        exact hk1 y (by omega) hy1
      · intro j hj
        exact hput.same j (by rw [hsz]; omega)
      · exact FldAt.put hs2 hput (by rw [hsz]; exact hn) hrep
    · intro hoff f1 hk1 h11
      refine behind ⟨c.l + 1, c.t + gdN g + readN C p + 4, c.k⟩ f1 w cc rs (p.dfl d) (by simp) (by simp; omega) (by simp only; omega) ?_ (RdTo.refl hs (KeepR.of hk1 (by omega))) (fun _ _ => rfl) (Prim.repD p d hd.1) h1
      simp only [Sch.rd, hoff, Bool.false_eq_true, if_false]; rfl
  · have hen' : p = .i8 ∧ isScl (kindOf P en) = true := by
      simp only [Bool.or_eq_true, beq_iff_eq, Bool.and_eq_true] at hen
      rcases hen with h | h
      · exact absurd h he
      · exact h
    obtain ⟨rfl, hken⟩ := hen'
    simp only [Sch.genR, if_neg he] at hc h1 ⊢
    have hm := (genR_mono (C := C) rest T PT pv ⟨c.l + 3, c.t + gdN g + 7, c.k⟩).1
    simp only at hm
    refine seqL_cons ?_
    refine w_guard ht.c (show f 8 = _ from hf.ver) (show 8 < c.t by omega) (by omega) ?_ ?_
    · intro hon f1 hk1 h11
      have hf1 := hf.keep hk1 (by omega)
      refine r_enum ht (o := o) hNp hs hf1 hF hken (by omega) hn ?_
      intro f3 w2 u cc3 hrep he2 hr2 hput hk3
      have hs2 := hs.ext1 he2 hr2
      have hsz := rep1_sz hrep
      refine behind ⟨c.l + 3, c.t + gdN g + 7, c.k⟩ f3 _ cc3 (Prim.i8.rd fl rs).2 (Prim.i8.rd fl rs).1 (by simp) (by simp; omega) (by simp only; omega) ?_ ?_ ?_ ?_ h1
      · simp only [Sch.rd, if_pos hon]; rfl
      · refine (RdTo.read (lo := lo) hs he2 hr2 (KeepR.refl _ c.l (c.l + 3) c.t)).trans (RdTo.put hs2 hput hlo (by rw [hsz]; exact hn) (l := c.l) (m := c.l + 3) (t := c.t) ?_) (Nat.le_refl _) (Nat.le_refl _) (Nat.le_refl _) (Nat.le_refl _)
        intro y hy1 hy
        rw [hk3 y (by omega) (by omega)]
        exact hk1 y (by omega) hy1
      · intro j hj
        exact hput.same j (by rw [hsz]; omega)
      · exact FldAt.put hs2 hput (by rw [hsz]; exact hn) hrep
    · intro hoff f1 hk1 h11
      refine behind ⟨c.l + 3, c.t + gdN g + 7, c.k⟩ f1 w cc rs (Prim.i8.dfl d) (by simp) (by simp; omega) (by simp only; omega) ?_ (RdTo.refl hs (KeepR.of hk1 (by omega))) (fun _ _ => rfl) (Prim.repD .i8 d hd.1) h1
      simp only [Sch.rd, hoff, Bool.false_eq_true, if_false]; rfl
end
end Go.Kg

set_option linter.unusedSimpArgs false
set_option linter.unusedVariables false
set_option linter.unusedSectionVars false
namespace Go.Kg
open Go

/-! ## Lists that are read -/
theorem intKind_und {P : Program} {T : Nat} {k : IntKind} (h : intKind? P T = some k) : P.underlying T = some (.int k) := by
  unfold intKind? at h
  split at h
  · rename_i k' hu; cases h; exact hu
  · cases h
theorem sliZ_spec {P : Program} {sT : Nat} {z : Array Value} (h : sliZ P sT = some z) : ∃ e i v, P.underlying sT = some (.slice e) ∧ P.info? e = some i ∧ i.bytes ≤ 131072 ∧ 0 < i.size ∧ i.zero = some v ∧ v.cells = z ∧ z.size = i.size := by
  unfold sliZ at h
  split at h
  · rename_i e hu
    split at h
    · rename_i i hi
      split at h
      · rename_i hb
        split at h
        · rename_i v hv
          split at h
          · rename_i hs
            cases h
            exact ⟨e, i, v, hu, hi, hb.1, hb.2, hv, rfl, hs⟩
          · cases h
        · cases h
      · cases h
    · cases h
  · cases h

theorem zeroCells_get {z : Array Value} {n i j : Nat} (hi : i < n) (hj : j < z.size) (more : Array Value) : (Builtin.zeroCells z n ++ more)[i * z.size + j]? = z[j]? := by
  have hlt : i * z.size + j < n * z.size := by
    have h1 : (i + 1) * z.size ≤ n * z.size := Nat.mul_le_mul_right _ hi
    rw [Nat.add_mul] at h1
    omega
  have hs : (Builtin.zeroCells z n).size = n * z.size := size_zeroCells z n
  rw [Array.getElem?_append_left (by omega)]
  simp only [Builtin.zeroCells, Array.getElem?_map]
  rw [Array.getElem?_range]
  simp [hlt]
  rw [Nat.mod_eq_of_lt hj]
  simp [hj, getElem!_pos]

/-- append(nil, make([]T, n)...) -/
theorem st_appz {P : Program} {f : Nat → Value} {w : World} {sT tn ty : Nat} {z : Array Value} {kn : IntKind} {x y : Operand} {K : Value → World → Prop} {lv : Int} (hz : sliZ P sT = some z) (htn : intKind? P tn = some kn) (hx : evF f x = .slice none 0 0) (hy : evF f y = .int .i32 lv) (h0 : 0 < lv) (h1 : lv < 2147483648)
    (h : ∀ cap more e, lv.toNat ≤ cap → K (.slice (some ⟨w.heap.size, 0, none⟩) lv.toNat cap) (w.drew.alloc (.cells (Builtin.zeroCells z lv.toNat ++ more) e))) :
    stepF P f (.call { callee := .builtin .append, args := #[x, y], argTypes := #[sT, tn] }) ty w K := by
  obtain ⟨e, i, v, hu, hi, hb, hs, hv, rfl, hzs⟩ := sliZ_spec hz
  have hn : ((lv.toNat : Nat) : Int) = lv := by omega
  have h48 : lv.toNat * i.bytes ≤ 281474976710656 := by
    have : lv.toNat * i.bytes ≤ 2147483648 * 131072 := Nat.mul_le_mul (by omega) hb
    omega
  have hr := Lib.run_append_nil_zeros (P := P) w sT tn ty e i v .i32 kn hu (intKind_und htn) hi hv lv.toNat (by omega) hs (by omega) h48
  rw [hn] at hr
  rw [stepF_ok (v := .slice (some ⟨w.heap.size, 0, none⟩) lv.toNat (grownCap w lv.toNat 0 e)) (w' := w.drew.alloc (.cells (Builtin.zeroCells v.cells lv.toNat ++ Builtin.zeroCells v.cells (grownCap w lv.toNat 0 e - lv.toNat)) e))]
  · exact h _ _ _ (grownCap_ge w lv.toNat 0 e)
  · simp only [runF, execOp, resolve, invoke, builtin, Sem.run_bind, Sem.run_pure, Result.andThen_ok, List.map_toArray, List.map_cons, List.map_nil, hx, hy, hr]

section
variable {P : Program} {C : CfgR} {R : Rdr}

/-- What a list's head leaves: the row of a list that is not empty. -/
structure Row (z : Array Value) (w w' : World) (N : Nat) (av : Value) (ab : Nat) (cur : Array Value) (et : TypeId) : Prop where
  av : ∃ cap, av = .slice (some ⟨ab, 0, none⟩) N cap ∧ N ≤ cap
  new : w.heap.size ≤ ab
  blk : w'.heap[ab]? = some (.cells cur et (0, 0))
  fit : N * z.size ≤ cur.size
  zero : ∀ i, i < N → segL cur (i * z.size) z.size = z.toList
def HeadPost (z : Array Value) (lv : Int) (w w' : World) (av : Value) : Prop := if 0 < lv then ∃ ab cur et, Row z w w' lv.toNat av ab cur et else av = .slice none 0 0

theorem lenRd_lt (fl : Bool) (rs : RS) : (lenRd fl rs).1 < 2147483648 ∧ -2147483648 ≤ (lenRd fl rs).1 := by
  have cap : ∀ n rs, n < 2147483648 ∧ -2147483648 ≤ n → (capLen n rs).1 < 2147483648 ∧ -2147483648 ≤ (capLen n rs).1 := by
    intro n rs h; unfold capLen; split
    · simp
    · exact h
  cases fl
  · exact cap _ _ (by simp [i32, IntKind.wrap, IntKind.signed, IntKind.bits]; omega)
  · exact cap _ _ (by simp [i32, IntKind.wrap, IntKind.signed, IntKind.bits]; omega)

theorem cellsAt_seg {w : World} {b a n : Nat} {cc : Array Value} {e : TypeId} {fz : Nat × Nat} (h : w.heap[b]? = some (.cells cc e fz)) : CellsAt w b a (segL cc a n) := by
  intro j u hj
  have hj' : j < n := by
    rcases Nat.lt_or_ge j n with h1 | h1
    · exact h1
    · rw [segL_none h1] at hj; cases hj
  rw [cell_of_blk h]
  rwa [segL_get hj'] at hj

variable {Q : Post} {f : Nat → Value} {w : World}

/-- l = b.ArrayLen() -/
theorem r_len {l t b a n : Nat} {fl : Bool} {cc : Array Value} {e : TypeId} {rs : RS} (hN : LenRC P C) (hs : StR C R b a n w cc e rs) (hff : C.fx = true → f 9 = .bool fl) (hfn : C.fx = false → fl = false) (h7 : f 7 = .pointer (some ⟨R.pb, 0, none⟩)) (hl : l < t) (hl9 : 9 < l)
    (h : ∀ f' w', f' l = .int .i32 (lenRd fl rs).1 → Ext (· = R.pb) w w' → RdAt C.E.tRd w' R.pb R.D (lenRd fl rs).2 → (∀ y, y < t → y ≠ l → f' y = f y) → Q .normal f' w') : (lenIR C l t).wp P Q f w := by
  have main : ∀ (f1 : Nat → Value) (t1 : Nat) (fl' : Bool), (fl' = true → C.fx = true) → fl' = fl → t ≤ t1 → (∀ y, y < t → f1 y = f y) →
      (Ir.reg [⟨none, some t1, .call { callee := .value (.func (if fl' then C.E.f_pkbin_Reader_CompactArrayLen else C.E.f_pkbin_Reader_ArrayLen)), args := #[.tmp 7], argTypes := #[C.E.tRd] }, C.E.tI32⟩, ⟨none, some l, .assign (.tmp t1), C.E.tI32⟩]).wp P Q f1 w := by
    rintro f1 t1 fl' hx rfl ht1 hk
    refine wp_reg ?_
    have z7 := (hk 7 (by omega)).trans h7
    simp [z7]
    refine (hN fl' hx w R.pb R.D rs hs.rw_.ne.1 hs.rd).mono ?_
    rintro v w1 ⟨rfl, he, hr⟩
    refine h _ _ (by simp) he hr ?_
    intro y hy hyl
    have x4 : (y = t1) = False := by simp; omega
    simp [x4, hyl]
    exact hk y hy
  unfold lenIR
  by_cases hx : C.fx = true
  · simp only [if_pos hx]
    refine r_cond (hff hx) (by omega) ?_ ?_
    · rintro rfl f1 hk
      exact main f1 (t + 1) true (fun _ => hx) rfl (by omega) hk
    · rintro rfl f1 hk
      exact main f1 (t + 2) false (by simp) rfl (by omega) hk
  · have hx' : C.fx = false := by simpa using hx
    simp only [if_neg hx]
    have := hfn hx'
    subst this
    exact main f t false (by simp) rfl (Nat.le_refl _) (fun _ _ => rfl)

/-- return b.Complete(), where the reader is bad -/
theorem r_complete {t b a n : Nat} {cc : Array Value} {e : TypeId} {rs : RS} (hE : EndC P C) (hs : StR C R b a n w cc e rs) (h7 : f 7 = .pointer (some ⟨R.pb, 0, none⟩))
    (h : ∀ f', f' 6 = (if rs.bad then R.ev else .nilIface) → Q .ret f' w) : (seqL (completeI C t)).wp P Q f w := by
  refine seqL_cons ?_
  refine wp_reg ?_
  simp [h7]
  refine (hE.complete w R.pb R.D rs R.ev hs.rd (fun _ => hs.rw_.err)).mono ?_
  rintro v w1 ⟨rfl, rfl⟩
  exact h _ (by simp)
/-- if !b.Ok() {return b.Complete()} -/
theorem r_ok {t b a n : Nat} {cc : Array Value} {e : TypeId} {rs : RS} (hE : EndC P C) (hs : StR C R b a n w cc e rs) (h7 : f 7 = .pointer (some ⟨R.pb, 0, none⟩)) (ht : 7 < t)
    (h0 : rs.bad = true → ∀ f', f' 6 = R.ev → Q .ret f' w) (h1 : rs.bad = false → ∀ f', (∀ y, y < t → f' y = f y) → Q .normal f' w) : (okI C t).wp P Q f w := by
  refine wp_seqI (wp_reg ?_)
  simp [h7]
  refine (hE.ok w R.pb R.D rs hs.rd).mono ?_
  rintro v w1 ⟨rfl, rfl⟩
  simp
  cases hb : rs.bad
  · refine .inr ⟨by simp, ?_⟩
    refine h1 hb _ ?_
    intro y hy
    have x3 : ∀ n, (y = t + n) = False := by intro n; simp; omega
    have x4 : (y = t) = False := by simp; omega
    simp [x3, x4]
  · refine .inl ⟨by simp, ?_⟩
    have z7 : ∀ n, (7 = t + n) = False := by intro n; simp; omega
    have z7' : (7 = t) = False := by simp; omega
    refine r_complete hE hs (by simp [z7, z7', h7]) ?_
    intro f' h6
    exact h0 hb f' (by rw [h6, hb]; rfl)
end
end Go.Kg

set_option linter.unusedSimpArgs false
set_option linter.unusedVariables false
set_option linter.unusedSectionVars false
namespace Go.Kg
open Go

section
variable {P : Program} {C : CfgR} {R : Rdr} {Q : Post} {f : Nat → Value} {w : World}

/-- A list's head: the field is nil. -/
theorem r_head (ht : TyR P C) {T PT pv k o sT l t b a n : Nat} {ver : Int} {fl : Bool} {cc : Array Value} {e : TypeId} {rs : RS} {z : Array Value} {sz : Nat} (hF : fldOff P T k = some o) (hk : isScl (kindOf P sT) = true) (hsz : sliSz P sT = some sz) (hz : sliZ P sT = some z)
    (hN : LenRC P C) (hE : EndC P C) (hs : StR C R b a n w cc e rs) (hf : FrR C R f pv b a ver fl l) (hl : l + 3 ≤ t) (hon : o < n) (hnil : (segL cc a n)[o]? = some (.slice none 0 0))
    (h0 : (lenRd fl rs).2.bad = true → ∀ f' w', f' 6 = R.ev → Ext (· = R.pb) w w' → Q .ret f' w')
    (h1 : (lenRd fl rs).2.bad = false → ∀ f' w' av, f' (l + 1) = av → f' (l + 2) = .int .i32 (lenRd fl rs).1 → HeadPost z (lenRd fl rs).1 w w' av → Ext (· = R.pb) w w' → RdAt C.E.tRd w' R.pb R.D (lenRd fl rs).2 → (∀ y, y < t → (y < l ∨ l + 3 ≤ y) → f' y = f y) → Q .normal f' w') :
    (seqL (headR C T PT pv k sT l t none)).wp P Q f w := by
  have hn10 := hf.nN
  have hpt := hf.ptrN
  simp only [headR, nulN, Nat.add_zero, List.append_nil, List.cons_append, List.nil_append]
  refine seqL_cons ?_
  show (loadI (Sch.genR.toR C) T PT pv k sT l t .i8).wp P _ f w
  refine w_load ht.c (fun h => by cases h) hf.ptr hF (kOk_scl hk) (cellsAt_seg hs.blk) (seg_one hnil rfl) (by simp [Value.oneCell']) (by omega) (by omega) ?_
  intro f2 w2 hv2 he2 hk2
  have hv2' : f2 l = .slice none 0 0 := loc_slice hv2
  have hs2 : StR C R b a n w2 cc e rs := hs.ext1 (he2.mono (fun _ _ h => h.elim)) (hs.rd.ext he2 (fun h => h) (fun h => h))
  -- a := v; var l int32
  show (seqL _).wp P _ f2 w2
  refine seqL_cons ?_
  refine wp_reg ?_
  have zl : (l = t + 4) = False := by simp; omega
  simp [hv2', zl]
  show (seqL _).wp P _ _ w2
  refine seqL_cons ?_
  refine wp_reg ?_
  simp
  generalize hf3 : upd (upd (upd f2 (t + 4) (.slice none 0 0)) (l + 1) (.slice none 0 0)) (l + 2) (.int .i32 0) = f3
  have k3 : ∀ y, y < t → (y < l ∨ l + 3 ≤ y) → f3 y = f y := by
    intro y hy hy2
    subst hf3
    have x1 : (y = l + 2) = False := by simp; omega
    have x2 : (y = l + 1) = False := by simp; omega
    have x3 : (y = t + 4) = False := by simp; omega
    simp [x1, x2, x3]
    exact hk2 y hy (by omega)
  have a3 : f3 (l + 1) = .slice none 0 0 := by subst hf3; simp
  show (seqL _).wp P _ f3 w2
  refine seqL_cons ?_
  refine r_len (fl := fl) hN hs2 (fun hx => (k3 9 (by omega) (by omega)).trans (hf.flg hx)) hf.flN ((k3 7 (by omega) (by omega)).trans hf.rd) (by omega) (by omega) ?_
  intro f4 w4 hl4 he4 hr4 hk4
  have hs4 := hs2.ext1 he4 hr4
  have he24 : Ext (· = R.pb) w w4 := (he2.mono (fun _ _ h => h.elim)).trans he4
  have k4 : ∀ y, y < t → (y < l ∨ l + 3 ≤ y) → f4 y = f y := fun y hy hy2 => (hk4 y (by omega) (by omega)).trans (k3 y hy hy2)
  have a4 : f4 (l + 1) = .slice none 0 0 := (hk4 _ (by omega) (by omega)).trans a3
  show (seqL _).wp P _ f4 w4
  refine seqL_cons ?_
  refine r_ok hE hs4 ((k4 7 (by omega) (by omega)).trans hf.rd) (by omega) ?_ ?_
  · intro hb f5 h6
    exact h0 hb f5 w4 h6 he24
  · intro hb f5 hk5
    have hlen := lenIN C
    have k5 : ∀ y, y < t → (y < l ∨ l + 3 ≤ y) → f5 y = f y := fun y hy hy2 => (hk5 y (by omega)).trans (k4 y hy hy2)
    have a5 : f5 (l + 1) = .slice none 0 0 := (hk5 _ (by omega)).trans a4
    have l5 : f5 (l + 2) = .int .i32 (lenRd fl rs).1 := (hk5 _ (by omega)).trans hl4
    generalize hT : t + 5 + lenIN C = t2 at *
    have ht2 : t + 5 ≤ t2 := by omega
    show (seqL _).wp P _ f5 w4
    refine seqL_cons ?_
    refine wp_reg ?_
    have hsl : slice? P sT (.slice none 0 0) none (some (.int .i64 0)) none = some (.slice none 0 0) := by simp [slice?, hsz]
    simp [a5, hsl]
    show (Ir.seq _ _).wp P _ _ w4
    refine wp_seqI (wp_reg ?_)
    have z2 : ∀ n, (l + 2 = t2 + n) = False := by intro n; simp; omega
    have z1 : ∀ n, (l + 1 = t2 + n) = False := by intro n; simp; omega
    have z0 : ∀ n, (l = t2 + n) = False := by intro n; simp; omega
    simp [z0, z1, z2, l5]
    have kk : ∀ v1 v2 v3 v4 v5, ∀ y, y < t → (y < l ∨ l + 3 ≤ y) → upd (upd (upd (upd (upd f5 (t2 + 3) v1) (t2 + 4) v2) (l + 1) v3) (t2 + 5) v4) (t2 + 6) v5 y = f y := by
      intro v1 v2 v3 v4 v5 y hy hy2
      have x1 : (y = l + 1) = False := by simp; omega
      have x3 : ∀ n, (y = t2 + n) = False := by intro n; simp; omega
      simp [x1, x3]
      exact k5 y hy hy2
    by_cases hp : 0 < (lenRd fl rs).1
    · refine .inl ⟨by simp [hp], ?_⟩
      show (Ir.reg _).wp P _ _ w4
      refine wp_reg ?_
      simp [z0, z1, z2, l5]
      refine st_appz hz ht.i32 (lv := (lenRd fl rs).1) (by simp) (by simp) hp (lenRd_lt fl rs).1 ?_
      intro cap more et hcap
      have hE5 : Ext none1 w4 (w4.drew.alloc (.cells (Builtin.zeroCells z (lenRd fl rs).1.toNat ++ more) et)) := ((Ext.refl none1 w4).drew).alloc _
      refine h1 hb _ _ (.slice (some ⟨w4.heap.size, 0, none⟩) (lenRd fl rs).1.toNat cap) (by simp) (by simp [z0, z2, l5]) ?_ (he24.trans (hE5.mono (fun _ _ h => h.elim))) (hr4.ext hE5 (fun h => h) (fun h => h)) ?_
      · unfold HeadPost
        rw [if_pos hp]
        refine ⟨w4.heap.size, _, et, ⟨⟨cap, rfl, hcap⟩, he24.size, alloc_new, ?_, ?_⟩⟩
        · simp [size_zeroCells]
        · intro i hi
          apply List.ext_getElem?
          intro j
          by_cases hj : j < z.size
          · rw [segL_get hj, zeroCells_get hi hj]; simp
          · rw [segL_none (by omega)]; simp; omega
      · intro y hy hy2
        have x1 : (y = l + 1) = False := by simp; omega
        have x3 : ∀ n, (y = t2 + n) = False := by intro n; simp; omega
        simp [x1, x3]
        exact k5 y hy hy2
    · refine .inr ⟨by simp; omega, ?_⟩
      refine h1 hb _ w4 (.slice none 0 0) (by simp [z0, z1]) (by simp [z0, z2, l5]) ?_ he24 hr4 (kk _ _ _ _ _)
      unfold HeadPost
      rw [if_neg hp]
end
end Go.Kg

set_option linter.unusedSimpArgs false
set_option linter.unusedVariables false
set_option linter.unusedSectionVars false
namespace Go.Kg
open Go

section
variable {P : Program} {C : CfgR} {R : Rdr} {Q : Post} {f : Nat → Value} {w : World}

/-- for i := int32(0); i < l; i++ -/
theorem r_for {l t k N : Nat} {body : Ir} {lv : Int} (h32 : lv < 2147483648 ∧ -2147483648 ≤ lv) (hN : N = lv.toNat) (hl : l + 4 ≤ t) (h2 : f (l + 2) = .int .i32 lv) (J : Nat → (Nat → Value) → World → Prop)
    (hJ : ∀ i f f' w, (∀ x, x < t → x ≠ l + 3 → f' x = f x) → J i f w → J i f' w) (h0 : J 0 f w)
    (hb : ∀ i, i < N → ∀ f w, J i f w → f (l + 3) = .int .i32 i → f (l + 2) = .int .i32 lv → body.wp P (fun e f' w' => (e = .normal ∧ J (i + 1) f' w' ∧ f' (l + 3) = .int .i32 i ∧ f' (l + 2) = .int .i32 lv) ∨ (e = .ret ∧ Q .ret f' w')) f w)
    (h : ∀ f' w', J N f' w' → Q .normal f' w') : (forI C l t k body).wp P Q f w := by
  have z3 : ∀ n, (l + 3 = t + n) = False := by intro n; simp; omega
  have z2 : ∀ n, (l + 2 = t + n) = False := by intro n; simp; omega
  have z1 : ∀ n, (l + 1 = t + n) = False := by intro n; simp; omega
  have z0 : ∀ n, (l = t + n) = False := by intro n; simp; omega
  have z3' : (l + 3 = t) = False := by simp; omega
  have z2' : (l + 2 = t) = False := by simp; omega
  refine wp_seqI (wp_reg ?_)
  simp
  show (Ir.loop _).wp P _ _ _
  refine ⟨fun f w => ∃ i : Nat, i ≤ N ∧ f (l + 3) = .int .i32 i ∧ f (l + 2) = .int .i32 lv ∧ J i f w, fun f _ => match f (l + 3) with | .int _ i => ((N : Int) - i).toNat | _ => 0, ?_, ?_⟩
  · refine ⟨0, by omega, by simp, by simp [h2], hJ _ _ _ _ ?_ h0⟩
    intro x hx hx3
    simp [hx3]
  · rintro f w ⟨i, hi, h3, h2, hj⟩
    refine wp_seqI ?_
    refine wp_seqI (wp_reg ?_)
    simp [h2, h3, z2, z2', z3, z3']
    generalize hfa : upd (upd (upd f t (.int .i32 i)) (t + 1) (.int .i32 lv)) (t + 2) (.bool (decide ((i : Int) < lv))) = fa
    have ka : ∀ x, x < t → fa x = f x := by
      intro x hx
      subst hfa
      have x3 : ∀ n, (x = t + n) = False := by intro n; simp; omega
      have x4 : (x = t) = False := by simp; omega
      simp [x3, x4]
    have hja : J i fa w := hJ _ _ _ _ (fun x hx _ => ka x hx) hj
    by_cases hlt : (i : Int) < lv
    · refine .inl ⟨by subst hfa; simp [hlt], ?_⟩
      show (Ir.seq _ _).wp P _ _ _
      refine wp_seqI ?_
      show body.wp P _ _ _
      refine Ir.wp_mono body ?_ (hb i (by omega) fa w hja ((ka _ (by omega)).trans h3) ((ka _ (by omega)).trans h2))
      rintro e f' w' (⟨rfl, hj', h3', h2'⟩ | ⟨rfl, hq⟩)
      · show (Ir.reg _).wp P _ _ _
        refine wp_reg ?_
        have wr : IntKind.i32.wrap ((i : Int) + 1) = ((i + 1 : Nat) : Int) := by simp [IntKind.wrap, IntKind.signed, IntKind.bits]; omega
        simp [h3', z2, z2', z3, z3', wr]
        refine ⟨⟨i + 1, by omega, by simp, by simp [z2, z1, z0, h2'], hJ _ _ _ _ ?_ hj'⟩, ?_⟩
        · intro x hx hx3
          have x3 : ∀ n, (x = t + n) = False := by intro n; simp; omega
          simp [x3, hx3]
        · omega
      · exact hq
    · have : i = N := by omega
      subst this
      refine .inr ⟨by subst hfa; simp [hlt], ?_⟩
      show inBlockF k Q (.exit k) _ _
      rw [inBlockF_exit, if_pos rfl]
      exact h _ _ hja
end
end Go.Kg

set_option linter.unusedSimpArgs false
set_option linter.unusedVariables false
set_option linter.unusedSectionVars false
namespace Go.Kg
open Go

theorem segL_eq {c c' : Array Value} {a n : Nat} (h : ∀ j, a ≤ j → j < a + n → c'[j]? = c[j]?) : segL c' a n = segL c a n := by
  apply List.ext_getElem?
  intro j
  by_cases hj : j < n
  · rw [segL_get hj, segL_get hj]; exact h _ (by omega) (by omega)
  · rw [segL_none (by omega), segL_none (by omega)]
theorem segL_len {c : Array Value} {a n : Nat} (h : a + n ≤ c.size) : (segL c a n).length = n := by simp [segL]; omega

theorem Ext.trans' {C D E : Nat → Prop} {a b c : World} (h : Ext C a b) (k : Ext D b c) (hD : ∀ x, x < a.heap.size → D x → E x) (hC : ∀ x, x < a.heap.size → C x → E x := by intro x _ h; first | exact h | exact .inl h) : Ext E a c :=
  ⟨k.os.trans h.os, k.tape.trans h.tape, k.output.trans h.output, Nat.le_trans h.size k.size,
   fun i hi hc => (k.block i (Nat.lt_of_lt_of_le hi h.size) (fun hd => hc (hD i hi hd))).trans (h.block i hi (fun hd => hc (hC i hi hd)))⟩
/-- inside a list's row -/
def rdr' (R : Rdr) (ab : Nat) : Rdr := { R with base := ab + 1 }

section
variable {P : Program} {C : CfgR} {R : Rdr} {Q : Post} {f : Nat → Value} {w : World}

/-- v = a; s.F = v -/
theorem r_tail {T PT pv k o sT l t b a : Nat} {av : Value} {cc : Array Value} {e : TypeId} (hpv : f pv = .pointer (some ⟨b, a, none⟩)) (hF : fldOff P T k = some o) (hk : isScl (kindOf P sT) = true) (hav : f (l + 1) = av) (h1 : av.oneCell' = true) (hpt : pv < l) (hl : l + 1 < t)
    (hb : w.heap[b]? = some (.cells cc e (0, 0))) (ho : a + o + 1 ≤ cc.size)
    (h : ∀ f' cc', Put cc (a + o) av cc' → (∀ y, y < t → y ≠ l → f' y = f y) → Q .normal f' (w.setBlk b (.cells cc' e (0, 0)))) : (seqL (tailR C T PT pv k sT l t)).wp P Q f w := by
  refine seqL_cons ?_
  refine wp_reg ?_
  simp [hav]
  show (Ir.reg _).wp P _ _ w
  refine r_storeT (u := av) (o := o) (b := b) (a := a) (cc := cc) (e := e) ?_ hF hk ?_ h1 (by omega) (by omega) hb ho ?_
  · have x1 : (pv = l) = False := by simp; omega
    have x2 : (pv = t) = False := by simp; omega
    simp [x1, x2, hpv]
  · simp
  · intro f' cc' hput hk'
    refine h f' cc' hput ?_
    intro y hy hyl
    have x2 : (y = t) = False := by simp; omega
    rw [hk' y (by omega)]
    simp [hyl, x2]

structure Loop (C : CfgR) (R : Rdr) {α : Type} (fE : RS → Option (α × RS)) (Relt : World → (Nat → Prop) → List Value → α → Prop) (z : Array Value) (rs1 : RS) (w1 : World) (f1 : Nat → Value) (ab N sz l m t1 et : Nat) (i : Nat) (f' : Nat → Value) (w' : World) : Prop where
  ex : ∃ ys rsi cur, (rdN fE N rs1 = match rdN fE (N - i) rsi with | none => none | some (x, r) => some (ys ++ x, r)) ∧ ys.length = i ∧ StR C (rdr' R ab) ab 0 (N * sz) w' cur et rsi ∧ Ext (CB R ab) w1 w' ∧
    (∀ (j : Nat) y, ys[j]? = some y → Relt w' (RK (rdr' R ab)) (segL cur (j * sz) sz) y) ∧ (∀ j, i ≤ j → j < N → segL cur (j * sz) sz = z.toList)
  keep : KeepR f1 f' (l + 3) m t1

theorem rowBound {i N sz : Nat} (h : i < N) : i * sz + sz ≤ N * sz := by
  have := Nat.mul_le_mul_right sz (show i + 1 ≤ N from h)
  rwa [Nat.add_mul, Nat.one_mul] at this
theorem rowStep {i j sz : Nat} (h : j < i) : j * sz + sz ≤ i * sz := rowBound h

/-- The loop over a list's row. -/
theorem r_loop {α : Type} (fE : RS → Option (α × RS)) (Relt : World → (Nat → Prop) → List Value → α → Prop) (hRext : ∀ w w' K X es y, Relt w K es y → Ext X w w' → (∀ k, k < w.heap.size → K k → ¬ X k) → Relt w' K es y)
    {pv l m t kk b a N sz ab : Nat} {lv : Int} {ver : Int} {fl : Bool} {z : Array Value} {body : Ir} {av : Value} {cur0 : Array Value} {et : TypeId} {rs1 : RS} {cap : Nat} (h32 : lv < 2147483648 ∧ -2147483648 ≤ lv) (hN : N = lv.toNat) (hl : l + 4 ≤ m) (hm : m ≤ t) (hlv : f (l + 2) = .int .i32 lv) (hav : f (l + 1) = av)
    (hav' : av = .slice (some ⟨ab, 0, none⟩) N cap) (hcap : N ≤ cap) (hf : FrR C R f pv b a ver fl l) (hbase : R.base ≤ ab) (hst : StR C (rdr' R ab) ab 0 (N * sz) w cur0 et rs1) (hz : ∀ i, i < N → segL cur0 (i * sz) sz = z.toList)
    (hbody : ∀ (i : Nat) (f' : Nat → Value) (w' : World) (cur : Array Value) (rsi : RS), i < N → FrR C R f' pv b a ver fl l → f' (l + 1) = av → f' (l + 3) = .int .i32 i → StR C (rdr' R ab) ab 0 (N * sz) w' cur et rsi → segL cur (i * sz) sz = z.toList →
      ∀ Q' : Post, (fE rsi = none → ∀ f'' w'', f'' 6 = R.ev → Ext (CB R ab) w' w'' → Q' .ret f'' w'') →
        (∀ y rs'', fE rsi = some (y, rs'') → ∀ f'' w'' cur', StR C (rdr' R ab) ab 0 (N * sz) w'' cur' et rs'' → Ext (CB R ab) w' w'' → (∀ j, (j < i * sz ∨ i * sz + sz ≤ j) → cur'[j]? = cur[j]?) → Relt w'' (RK (rdr' R ab)) (segL cur' (i * sz) sz) y → KeepR f' f'' (l + 4) m (t + 5) → Q' .normal f'' w'') →
        body.wp P Q' f' w')
    (h0 : rdN fE N rs1 = none → ∀ f' w', f' 6 = R.ev → Ext (CB R ab) w w' → Q .ret f' w')
    (h1 : ∀ ys rs', rdN fE N rs1 = some (ys, rs') → ∀ f' w' cur, ys.length = N → StR C (rdr' R ab) ab 0 (N * sz) w' cur et rs' → Ext (CB R ab) w w' → (∀ (j : Nat) y, ys[j]? = some y → Relt w' (RK (rdr' R ab)) (segL cur (j * sz) sz) y) → KeepR f f' (l + 3) m t → Q .normal f' w') :
    (forI C l t kk body).wp P Q f w := by
  have hn10 := hf.nN
  refine r_for h32 hN (by omega) hlv (fun i f' w' => Loop C R fE Relt z rs1 w f ab N sz l m t et i f' w') ?_ ?_ ?_ ?_
  · rintro i f1 f2 w' hx ⟨hex, hk⟩
    refine ⟨hex, ?_⟩
    intro y hy1 hy
    rw [hx y (by omega) (by omega)]
    exact hk y hy1 hy
  · refine ⟨⟨[], rs1, cur0, ?_, rfl, hst, Ext.refl _ _, by simp, fun j _ hj => hz j hj⟩, KeepR.refl _ _ _ _⟩
    simp only [Nat.sub_zero]
    cases rdN fE N rs1 with
    | none => rfl
    | some a => simp
  · rintro i hi f' w' ⟨⟨ys, rsi, cur, hrel, hlen, hst', hext, helt, hnew⟩, hk⟩ h3 h2
    obtain ⟨k, hkN⟩ : ∃ k, N - i = k + 1 := ⟨N - i - 1, by omega⟩
    have hf' : FrR C R f' pv b a ver fl l := hf.keep (t := l + 3) hk.keeps (by omega)
    refine hbody i f' w' cur rsi hi hf' ((hk (l + 1) (by omega) (.inl (by omega))).trans hav) h3 hst' (hnew i (Nat.le_refl _) hi) _ ?_ ?_
    · intro hnone f'' w'' h6 he
      refine .inr ⟨rfl, h0 ?_ f'' w'' h6 (hext.trans he)⟩
      rw [hrel, hkN]
      simp only [rdN, hnone]
    · intro y rs'' hy f'' w'' cur' hst'' he hsame hrel' hk''
      have hsz : cur'.size = cur'.size := rfl
      refine .inl ⟨rfl, ⟨⟨ys ++ [y], rs'', cur', ?_, by simp [hlen], hst'', hext.trans he, ?_, ?_⟩, ?_⟩, ?_, ?_⟩
      · rw [hrel, hkN, show N - (i + 1) = k by omega]
        simp only [rdN, hy]
        cases rdN fE k rs'' with
        | none => rfl
        | some p => simp
      · intro j y' hj
        rcases Nat.lt_or_ge j i with hji | hji
        · rw [List.getElem?_append_left (by omega)] at hj
          rw [segL_eq (c := cur) (fun x hx1 hx2 => hsame x (.inl (by have := rowStep (sz := sz) hji; omega)))]
          exact hRext _ _ _ _ _ _ (helt j y' hj) he (hst'.rw_.keepK)
        · have hji' : j = i := by
            have := (List.getElem?_eq_some_iff.1 hj).1
            simp at this; omega
          subst hji'
          rw [List.getElem?_append_right (by omega), hlen, Nat.sub_self] at hj
          simp at hj
          subst hj
          exact hrel'
      · intro j hj hjN
        rw [segL_eq (c := cur) (fun x hx1 hx2 => hsame x (.inr (by have := rowStep (sz := sz) (show i < j by omega); omega)))]
        exact hnew j (by omega) hjN
      · intro x hx1 hx
        rw [hk'' x hx1 (by omega)]
        exact hk x hx1 hx
      · rw [hk'' _ (by omega) (.inl (by omega))]; exact h3
      · rw [hk'' _ (by omega) (.inl (by omega))]; exact h2
  · rintro f' w' ⟨⟨ys, rsi, cur, hrel, hlen, hst', hext, helt, hnew⟩, hk⟩
    refine h1 ys rsi ?_ f' w' cur hlen hst' hext helt hk
    rw [hrel, Nat.sub_self]
    simp [rdN]
end
end Go.Kg

set_option linter.unusedSimpArgs false
set_option linter.unusedVariables false
set_option linter.unusedSectionVars false
namespace Go.Kg
open Go

theorem cells_one {v : Value} (h : v.oneCell' = true) : v.cells = #[v] := by cases v <;> simp_all [Value.oneCell', Value.cells]

section
variable {P : Program} {C : CfgR} {R : Rdr} {Q : Post} {f : Nat → Value} {w : World}

/-- A list's field as a whole. -/
theorem r_list (ht : TyR P C) {α : Type} (fE : RS → Option (α × RS)) (Relt : World → (Nat → Prop) → List Value → α → Prop) (hRext : ∀ w w' K X es y, Relt w K es y → Ext X w w' → (∀ k, k < w.heap.size → K k → ¬ X k) → Relt w' K es y) (hRmono : ∀ w (K K' : Nat → Prop) es y, Relt w K es y → (∀ k, K k → K' k) → Relt w K' es y)
    {T PT pv k o sT l m t t2 kk b a n lo sz : Nat} {ver : Int} {fl : Bool} {cc : Array Value} {e : TypeId} {rs : RS} {z : Array Value} {body : Ir} (hF : fldOff P T k = some o) (hk : isScl (kindOf P sT) = true) (hsz : sliSz P sT = some sz) (hz : sliZ P sT = some z) (hzs : z.size = sz)
    (hN : LenRC P C) (hE : EndC P C) (hs : StR C R b a n w cc e rs) (hf : FrR C R f pv b a ver fl l) (hl : l + 4 ≤ m) (hm : m ≤ t) (ht2 : t + headN C none + 5 ≤ t2) (hon : o + 1 ≤ n) (hlo : lo ≤ o) (hnil : (segL cc a n)[o]? = some (.slice none 0 0))
    (hbody : ∀ (ab N cap : Nat) (et : TypeId) (i : Nat) (av : Value) (f' : Nat → Value) (w' : World) (cur : Array Value) (rsi : RS), R.base ≤ ab → i < N → av = .slice (some ⟨ab, 0, none⟩) N cap → FrR C R f' pv b a ver fl l → f' (l + 1) = av → f' (l + 3) = .int .i32 i → StR C (rdr' R ab) ab 0 (N * sz) w' cur et rsi → segL cur (i * sz) sz = z.toList →
      ∀ Q' : Post, (fE rsi = none → ∀ f'' w'', f'' 6 = R.ev → Ext (CB R ab) w' w'' → Q' .ret f'' w'') →
        (∀ y rs'', fE rsi = some (y, rs'') → ∀ f'' w'' cur', StR C (rdr' R ab) ab 0 (N * sz) w'' cur' et rs'' → Ext (CB R ab) w' w'' → (∀ j, (j < i * sz ∨ i * sz + sz ≤ j) → cur'[j]? = cur[j]?) → Relt w'' (RK (rdr' R ab)) (segL cur' (i * sz) sz) y → KeepR f' f'' (l + 4) m (t + headN C none + 5) → Q' .normal f'' w'') →
        body.wp P Q' f' w')
    (h0 : arrRd none ver fl fE rs = none → ∀ f' w', f' 6 = R.ev → Ext (CB R b) w w' → Q .ret f' w')
    (h1 : ∀ A rs', arrRd none ver fl fE rs = some (A, rs') → ∀ f' w' cc' av ls, RdTo C R b a n lo w cc e f l m t rs' f' w' cc' → (∀ j, (j < a + lo ∨ a + o + 1 ≤ j) → cc'[j]? = cc[j]?) → (segL cc' a n)[o]? = some av → ArrAt w' (RK R) sz av ls → (ls.isSome = A.isSome ∧ InHeap w' av) → (ls.getD []).length = (A.getD []).length →
      (∀ (i : Nat) es y, (ls.getD [])[i]? = some es → (A.getD [])[i]? = some y → Relt w' (RK R) es y) → Q .normal f' w') :
    (seqL (headR C T PT pv k sT l t none ++ [forI C l (t + headN C none) kk body] ++ tailR C T PT pv k sT l t2)).wp P Q f w := by
  have hn10 := hf.nN
  have hpt := hf.ptrN
  have hfit := hs.fit
  have hlen := lenRd_lt fl rs
  have hhead : headN C none = 5 + lenIN C + 0 + 10 := rfl
  rw [List.append_assoc]
  refine seqL_append ?_
  refine r_head ht hF hk hsz hz hN hE hs hf (by omega) (by omega) hnil ?_ ?_
  · intro hb f' w' h6 he
    exact h0 (by simp [arrRd, hb]) f' w' h6 (he.mono (fun _ _ h => .inl h))
  · intro hb f1 w1 av hav hlv hpost he1 hr1 hk1
    have hs1 := hs.ext1 he1 hr1
    have kR1 : KeepR f f1 l m t := fun y hy1 hy => hk1 y (by omega) (by omega)
    have hf1 := hf.keep kR1.keeps (Nat.le_refl _)
    -- the tail, from what the loop left
    have fin : ∀ (A : Option (List α)) (rs' : RS) (f2 : Nat → Value) (w2 : World) (ls : Option (List (List Value))), arrRd none ver fl fE rs = some (A, rs') → KeepR f f2 l m t → f2 (l + 1) = av → Ext (· = R.pb) w w2 → RdAt C.E.tRd w2 R.pb R.D rs' → av.oneCell' = true →
        ArrAt w2 (RK R) sz av ls → (ls.isSome = A.isSome ∧ InHeap w2 av) → (ls.getD []).length = (A.getD []).length → (∀ (i : Nat) es y, (ls.getD [])[i]? = some es → (A.getD [])[i]? = some y → Relt w2 (RK R) es y) → (seqL (tailR C T PT pv k sT l t2)).wp P Q f2 w2 := by
      intro A rs' f2 w2 ls hA hk2 hav2 he2 hr2 hone harr hsome hlen2 helt
      have hs2 := hs.ext1 he2 hr2
      have hf2 := hf.keep hk2.keeps (Nat.le_refl _)
      have huc : av.cells = #[av] := cells_one hone
      refine r_tail (o := o) (b := b) (a := a) (cc := cc) (e := e) hf2.ptr hF hk hav2 hone hpt.2 (by omega) hs2.blk (by omega) ?_
      intro f3 cc3 hput hk3
      have hE3 : Ext (fun x => x = b) w2 (w2.setBlk b (.cells cc3 e (0, 0))) := (Ext.refl (fun x => x = b) w2).setBlk (b := b) (Or.inr rfl) _
      have hK3 : ∀ k, k < w2.heap.size → RK R k → ¬ k = b := fun k h1 h2 h3 => hs2.rw_.keepK k h1 h2 (.inr h3)
      refine h1 A rs' hA f3 _ cc3 av ls ?_ ?_ ?_ (ArrAt.ext hE3 hK3 harr) ⟨hsome.1, hsome.2.ext hE3⟩ hlen2 ?_
      · refine (RdTo.read (lo := lo) hs he2 hr2 hk2).trans (RdTo.put hs2 hput hlo (by rw [huc]; exact hon) (l := l) (m := m) (t := t) ?_) (Nat.le_refl _) (Nat.le_refl _) (Nat.le_refl _) (Nat.le_refl _)
        intro y hy1 hy
        exact hk3 y (by omega) (by omega)
      · intro j hj
        exact hput.same j (by rw [huc]; simp; omega)
      · rw [segL_get (by omega)]
        have := hput.new 0 av (by simp [huc])
        simpa using this
      · intro i es y hi hy
        exact hRext _ _ _ _ _ _ (helt i es y hi hy) hE3 hK3
    have hpost' := hpost
    unfold HeadPost at hpost'
    show (seqL _).wp P _ f1 w1
    refine seqL_cons ?_
    by_cases hp : 0 < (lenRd fl rs).1
    · rw [if_pos hp] at hpost'
      obtain ⟨ab, cur, et, ⟨⟨cap, hcapE, hcap⟩, hnew, hblk, hfit2, hzero⟩⟩ := hpost'
      have hb1 := hs.rw_.lt
      have hbase : R.base ≤ ab := Nat.le_trans hb1.2.2.2 hnew
      have hg : C.E.g_kbin_ErrNotEnoughData < w.heap.size := World.block_lt_of_cell? w _ hs.rw_.err
      have hst : StR C (rdr' R ab) ab 0 ((lenRd fl rs).1.toNat * sz) w1 cur et (lenRd fl rs).2 := by
        refine ⟨hblk, by rw [← hzs]; omega, hr1, ⟨⟨?_, ?_, ?_, ?_⟩, ⟨hs.rw_.ne.1, ?_, ?_⟩, hs1.rw_.err, ⟨hs1.rw_.errN.1, ?_⟩⟩⟩
        · show R.pb < ab + 1; omega
        · show ab < ab + 1; omega
        · show R.D < ab + 1; omega
        · exact lt_of_heap hblk
        · show ab ≠ R.D; omega
        · show R.pb ≠ ab; omega
        · omega
      refine r_loop (z := z) (cap := cap) fE Relt hRext hlen rfl hl (by omega) hlv hav hcapE hcap hf1 hbase hst (by rw [← hzs]; exact hzero) ?_ ?_ ?_
      · intro i f' w' cur' rsi hi hf' hav' h3 hst' hz' Q' q0 q1
        exact hbody ab _ cap et i av f' w' cur' rsi hbase hi hcapE hf' hav' h3 hst' hz' Q' q0 (fun y rs'' hy f'' w'' cur'' a1 a2 a3 a4 a5 => q1 y rs'' hy f'' w'' cur'' a1 a2 a3 a4 a5)
      · intro hnone f' w' h6 he
        refine h0 ?_ f' w' h6 ?_
        · simp only [arrRd, hb, hp, hnone]; simp
        · exact he1.trans' (E := CB R b) he (fun x hx hc => by
            rcases hc with h | h
            · exact .inl h
            · omega)
      · intro ys rs' hys f' w' cur' hlenY hst' he helt hk'
        have heT : Ext (· = R.pb) w w' := he1.trans' he (fun x hx hc => by
          rcases hc with h | h
          · exact h
          · omega)
        have hav1 : av.oneCell' = true := by rw [hcapE]; rfl
        refine fin (some ys) rs' f' w' (some ((List.range (lenRd fl rs).1.toNat).map fun j => segL cur' (j * sz) sz)) ?_ ?_ ?_ heT hst'.rd hav1 ?_ ⟨rfl, fun a' n' c' e' => by rw [hcapE] at e'; cases e'; exact lt_of_heap hst'.blk⟩ (by simp [hlenY]) ?_
        · simp only [arrRd, hb, hp, hys]; simp
        · intro y hy1 hy
          rw [hk' y hy1 (by omega)]
          exact kR1 y hy1 hy
        · rw [hk' (l + 1) (by omega) (.inl (by omega))]; exact hav
        · refine ⟨ab, 0, cap, by rw [hcapE]; simp, .inr hbase, ⟨by simpa using hcap, by simp; omega⟩, ?_⟩
          intro i cs hi
          simp only [List.getElem?_map, Option.map_eq_some_iff] at hi
          obtain ⟨j, hj, rfl⟩ := hi
          have hjl := (List.getElem?_eq_some_iff.1 hj).1
          have hji : j = i := by
            obtain ⟨_, h2⟩ := List.getElem?_eq_some_iff.1 hj
            simpa using h2.symm
          subst hji
          have hjN : j < (lenRd fl rs).1.toNat := by simpa using hjl
          have hfitJ := rowBound (sz := sz) hjN
          have hfit' := hst'.fit
          exact ⟨segL_len (by omega), by rw [Nat.zero_add]; exact cellsAt_seg hst'.blk⟩
        · intro i es y hi hy
          simp only [Option.getD_some, List.getElem?_map, Option.map_eq_some_iff] at hi hy
          obtain ⟨j, hj, rfl⟩ := hi
          have hji : j = i := by
            obtain ⟨_, h2⟩ := List.getElem?_eq_some_iff.1 hj
            simpa using h2.symm
          subst hji
          exact hRmono _ _ _ _ _ (helt j y hy) (fun k hk => by
            rcases hk with h | h
            · exact .inl h
            · exact .inr (by have : ab + 1 ≤ k := h; omega))
    · rw [if_neg hp] at hpost'
      subst hpost'
      refine r_for (N := 0) hlen (by omega) (by omega) hlv (fun _ f' w' => w' = w1 ∧ ∀ x, x < t + headN C none → x ≠ l + 3 → f' x = f1 x) ?_ ⟨rfl, fun _ _ _ => rfl⟩ (fun i hi => by omega) ?_
      · rintro i fa fb w' hx ⟨rfl, h2⟩
        exact ⟨rfl, fun x hx1 hx2 => (hx x hx1 hx2).trans (h2 x hx1 hx2)⟩
      · rintro f' w' ⟨rfl, h2⟩
        refine fin none (lenRd fl rs).2 f' w' none ?_ ?_ ((h2 _ (by omega) (by omega)).trans hav) he1 hr1 rfl rfl ⟨rfl, InHeap.nil _⟩ rfl (by simp)
        · simp only [arrRd, hb, hp, emptyOf]; simp
        · intro y hy1 hy
          rw [h2 y (by omega) (by omega)]
          exact kR1 y hy1 hy
end
end Go.Kg

set_option linter.unusedSimpArgs false
set_option linter.unusedVariables false
set_option linter.unusedSectionVars false
namespace Go.Kg
open Go

section
variable {P : Program} {C : CfgR}

theorem FrR.inner {R : Rdr} {f : Nat → Value} {pv b a n ab : Nat} {ver : Int} {fl : Bool} (h : FrR C R f pv b a ver fl n) : FrR C (rdr' R ab) f pv b a ver fl n := ⟨h.ptr, h.ptrN, h.ver, h.flg, h.flN, h.rd, h.us, h.nN⟩

def EltP (p : Prim) (w : World) (K : Nat → Prop) (es : List Value) (y : p.T) : Prop := ∃ u, es = u.cells.toList ∧ p.rep1 w K u y
def EltS (S : Sch) (w : World) (K : Nat → Prop) (es : List Value) (y : S.T) : Prop := S.Rep w K es y
theorem EltP.ext (p : Prim) : ∀ w w' K X es y, EltP p w K es y → Ext X w w' → (∀ k, k < w.heap.size → K k → ¬ X k) → EltP p w' K es y := by
  rintro w w' K X es y ⟨u, h1, h2⟩ he hK
  exact ⟨u, h1, Prim.rep1_ext he hK h2⟩
theorem EltP.mono (p : Prim) : ∀ w (K K' : Nat → Prop) es y, EltP p w K es y → (∀ k, K k → K' k) → EltP p w K' es y := by
  rintro w K K' es y ⟨u, h1, h2⟩ hK
  exact ⟨u, h1, Prim.rep1_mono hK h2⟩
theorem EltS.ext (S : Sch) : ∀ w w' K X es y, EltS S w K es y → Ext X w w' → (∀ k, k < w.heap.size → K k → ¬ X k) → EltS S w' K es y := fun w w' K X es y h he hK => Sch.Rep_ext he hK S h
theorem EltS.mono (S : Sch) : ∀ w (K K' : Nat → Prop) es y, EltS S w K es y → (∀ k, K k → K' k) → EltS S w K' es y := fun w K K' es y h hK => Sch.Rep_mono hK S h

/-- A list's field stands in a struct's cells. -/
def ArrFld {α : Type} (Relt : World → (Nat → Prop) → List Value → α → Prop) (w : World) (K : Nat → Prop) (sz : Nat) (cs : List Value) (o : Nat) (A : Option (List α)) : Prop :=
  ∃ v ls, cs[o]? = some v ∧ ArrAt w K sz v ls ∧ (ls.isSome = A.isSome ∧ InHeap w v) ∧ (ls.getD []).length = (A.getD []).length ∧ ∀ (i : Nat) (es : List Value) x, (ls.getD [])[i]? = some es → (A.getD [])[i]? = some x → Relt w K es x
theorem ArrFld.move {α : Type} {Relt : World → (Nat → Prop) → List Value → α → Prop} (hRext : ∀ w w' K X es y, Relt w K es y → Ext X w w' → (∀ k, k < w.heap.size → K k → ¬ X k) → Relt w' K es y) {w w' : World} {K X : Nat → Prop} {sz o : Nat} {cs cs' : List Value} {A : Option (List α)} (h : ArrFld Relt w K sz cs o A) (he : Ext X w w') (hK : ∀ k, k < w.heap.size → K k → ¬ X k) (hc : cs'[o]? = cs[o]?) : ArrFld Relt w' K sz cs' o A := by
  obtain ⟨v, ls, h1, h2, h3, h4, h5⟩ := h
  exact ⟨v, ls, hc.trans h1, ArrAt.ext he hK h2, ⟨h3.1, h3.2.ext he⟩, h4, fun i es x hi hx => hRext _ _ _ _ _ _ (h5 i es x hi hx) he hK⟩

theorem sliOk_spec {sT sz : Nat} (h : sliOk P sT sz = true) : sliSz P sT = some sz ∧ ∃ z, sliZ P sT = some z ∧ z.size = sz := by
  simp only [sliOk, Bool.and_eq_true, beq_iff_eq] at h
  obtain ⟨h1, h2⟩ := h
  refine ⟨h1, ?_⟩
  cases hz : sliZ P sT with
  | none => rw [hz] at h2; cases h2
  | some z => rw [hz] at h2; exact ⟨z, rfl, by simpa using h2⟩

/-- a[i] = v -/
theorem r_storeE (ht : TyR P C) {sT l t ab N cap i sz : Nat} {p : Prim} {u : Value} {cur : Array Value} {et : TypeId} {Q : Post} {f : Nat → Value} {w : World} (hsl : sliSz P sT = some sz) (h1 : f (l + 1) = .slice (some ⟨ab, 0, none⟩) N cap) (h3 : f (l + 3) = .int .i32 i) (hi : i < N) (hk : p.kOk P (p.ty C.E) = true) (hlv : LocVal w f p (l + 4) u)
    (hu : if p = .uuid then ∃ c : Array Value, u = .agg c ∧ c.size = 16 ∧ allOne c.toList = true else u.oneCell' = true) (hl : l + 4 < t) (hb : w.heap[ab]? = some (.cells cur et (0, 0))) (ho : i * sz + u.cells.size ≤ cur.size)
    (h : ∀ f' cur', Put cur (i * sz) u cur' → (∀ y, y < t → f' y = f y) → Q .normal f' (w.setBlk ab (.cells cur' et (0, 0)))) : (storeE C p sT l t).wp P Q f w := by
  have e3 : ∀ n, (l + 3 = t + n) = False := by intro n; simp; omega
  have e2 : ∀ n, (l + 2 = t + n) = False := by intro n; simp; omega
  have e1 : ∀ n, (l + 1 = t + n) = False := by intro n; simp; omega
  have e0 : ∀ n, (l = t + n) = False := by intro n; simp; omega
  have e4 : ∀ n, (l + 4 = t + n) = False := by intro n; simp; omega
  have e3' : (l + 3 = t) = False := by simp; omega
  have e1' : (l + 1 = t) = False := by simp; omega
  have e4' : (l + 4 = t) = False := by simp; omega
  have keep : ∀ a b c d, ∀ y, y < t → upd (upd (upd (upd f t a) (t + 1) b) (t + 2) c) (t + 3) d y = f y := by
    intro a b c d y hy
    have x3 : ∀ n, (y = t + n) = False := by intro n; simp; omega
    have x4 : (y = t) = False := by simp; omega
    simp [x3, x4]
  refine wp_reg ?_
  by_cases hp : p = .uuid
  · subst hp
    simp only [if_true] at hu
    obtain ⟨c, rfl, hc16, hone⟩ := hu
    simp only [LocVal, if_true] at hlv
    obtain ⟨b', cs', e', fz', hf, hbk, hcs, h16⟩ := hlv
    cases hcs
    have hk' : kindOf P C.E.tUu = .agg 16 := (ht.uu (kOk_uu hk rfl)).kUu
    have lB := cellsFrom_row hbk
    rw [h16] at lB
    have ho' : i * sz + 16 ≤ cur.size := by simpa [Value.cells, hc16] using ho
    simp [storeE, getL, h1, h3, hf, e0, e1, e2, e3, e4, e1', e3', e4', idx?, hsl, hi, Addr.add_mk, ld_agg hk', lB, Prim.ty, store_agg hk', hc16, hone, putK_blk hb]
    exact ⟨by omega, h _ _ (put_over (by omega)) (keep _ _ _ _)⟩
  · simp only [if_neg hp] at hu
    simp only [LocVal, if_neg hp] at hlv
    have hk' : kindOf P (p.ty C.E) = .scl := by simp only [Prim.kOk, if_neg hp] at hk; exact isScl_spec hk
    have huc : u.cells = #[u] := cells_one hu
    have ho' : i * sz + 1 ≤ cur.size := by simpa [huc] using ho
    simp [storeE, getL, hp, h1, h3, hlv, e0, e1, e2, e3, e4, e1', e3', e4', idx?, hsl, hi, Addr.add_mk, store_scl hk', hu, put1K_blk hb]
    exact ⟨by omega, h _ _ (put_one hu (by omega)) (keep _ _ _ _)⟩

/-- the body of a loop over things without fields -/
theorem r_bodyP (ht : TyR P C) {p : Prim} {R : Rdr} {sT l t b a pv ab N cap i : Nat} {av : Value} {ver : Int} {fl : Bool} {et : TypeId} {f' : Nat → Value} {w' : World} {cur : Array Value} {rsi : RS} (hP : PrimR P C p) (hsl : sliSz P sT = some p.sz) (hk : p.kOk P (p.ty C.E) = true) (hlt : l + 5 ≤ t) (hbase : R.base ≤ ab) (hi : i < N) (hav : av = .slice (some ⟨ab, 0, none⟩) N cap)
    (hf : FrR C R f' pv b a ver fl l) (h1 : f' (l + 1) = av) (h3 : f' (l + 3) = .int .i32 i) (hst : StR C (rdr' R ab) ab 0 (N * p.sz) w' cur et rsi) (Q' : Post)
    (q1 : ∀ f'' w'' cur', StR C (rdr' R ab) ab 0 (N * p.sz) w'' cur' et (p.rd fl rsi).2 → Ext (CB R ab) w' w'' → (∀ j, (j < i * p.sz ∨ i * p.sz + p.sz ≤ j) → cur'[j]? = cur[j]?) → EltP p w'' (RK (rdr' R ab)) (segL cur' (i * p.sz) p.sz) (p.rd fl rsi).1 → KeepR f' f'' (l + 4) (l + 5) t → Q' .normal f'' w'') :
    (seqL (readI C p (l + 4) t ++ [storeE C p sT l (t + readN C p)])).wp P Q' f' w' := by
  have hrow := rowBound (sz := p.sz) hi
  have hfit := hst.fit
  refine seqL_append ?_
  refine r_read ht (kOk_uu hk) (fl := fl) hP hst (hf.inner.up (by omega : l ≤ l + 4)) (by omega) ?_
  intro f2 w2 u hu hrep he2 hr2 hk2
  have hs2 := hst.ext1 he2 hr2
  have hszu := rep1_sz hrep
  show (storeE C p sT l (t + readN C p)).wp P _ f2 w2
  refine r_storeE ht (cap := cap) hsl (by rw [hk2 _ (by omega) (by omega), h1, hav]) (by rw [hk2 _ (by omega) (by omega), h3]) hi hk hu (rep1_one hrep) (by omega) hs2.blk (by rw [hszu]; omega) ?_
  intro f3 cur3 hput hk3
  have hE3 : Ext (fun x => x = ab) w2 (w2.setBlk ab (.cells cur3 et (0, 0))) := (Ext.refl (fun x => x = ab) w2).setBlk (b := ab) (Or.inr rfl) _
  have hE3' : Ext (CB (rdr' R ab) ab) w2 (w2.setBlk ab (.cells cur3 et (0, 0))) := hE3.mono (fun _ _ h => .inr h)
  refine q1 f3 _ cur3 ?_ ?_ ?_ ?_ ?_
  · exact ⟨setBlk_same hs2.blk, by rw [hput.size]; exact hfit, hs2.rd.ext hE3 (fun h => hs2.rw_.ne.2.2 h) (fun h => hs2.rw_.ne.2.1 h.symm), hs2.rw_.ext hE3'⟩
  · exact (he2.mono (fun _ _ h => .inl h) : Ext (CB R ab) w' w2).trans hE3'
  · intro j hj
    exact hput.same j (by rw [hszu]; omega)
  · refine ⟨u, ?_, Prim.rep1_ext hE3 (fun k a1 a2 a3 => hs2.rw_.keepK k a1 a2 (.inr a3)) hrep⟩
    apply List.ext_getElem?
    intro j
    by_cases hj : j < p.sz
    · rw [segL_get hj]
      have hj' : j < u.cells.toList.length := by simpa [hszu] using hj
      rw [List.getElem?_eq_getElem hj']
      exact hput.new j _ (List.getElem?_eq_getElem hj')
    · rw [segL_none (by omega), List.getElem?_eq_none (by simp [hszu]; omega)]
  · intro y hy1 hy
    rw [hk3 y (by omega), hk2 y (by omega) (by omega)]
end
end Go.Kg

set_option linter.unusedSimpArgs false
set_option linter.unusedVariables false
set_option linter.unusedSectionVars false
namespace Go.Kg
open Go

section
variable {P : Program} {C : CfgR}

theorem soundR_arrP (ht : TyR P C) (g : Gd) (k o sT : Nat) (nul : Option Nat) (p : Prim) (rest : Sch) (ih : SoundR P C rest) : SoundR P C (.arrP g k o sT nul p rest) := by
  intro T PT pv c Q f w b a n lo cc e ver fl R rs hty hN hf hc hs hd h0 h1
  simp only [Sch.tyR, Bool.and_eq_true, beq_iff_eq, decide_eq_true_eq] at hty
  obtain ⟨⟨⟨⟨⟨⟨⟨hnul, hF⟩, hk⟩, hsli⟩, hkp⟩, hlo⟩, hn⟩, htr⟩ := hty
  have hnul' : nul = none := by cases nul <;> first | rfl | cases hnul
  subst hnul'
  obtain ⟨hsz, z, hz, hzs⟩ := sliOk_spec hsli
  obtain ⟨hNp, hNl, hNe, hNr⟩ := hN
  simp only [Sch.chkD, Bool.and_eq_true] at hd
  have hnil := isNilSli_spec hd.1
  have hn10 := hf.nN
  have hpt := hf.ptrN
  have hhead : headN C none = 5 + lenIN C + 0 + 10 := rfl
  simp only [Sch.genR] at hc h1 ⊢
  generalize ht1 : c.t + gdN g + headN C none = t1 at hc h1 ⊢
  generalize ht2 : t1 + 5 + readN C p + 4 = t2 at hc h1 ⊢
  have hm := (genR_mono (C := C) rest T PT pv ⟨c.l + 5, t2 + 5, c.k + 2⟩).1
  simp only at hm
  have behind : ∀ (f1 : Nat → Value) (w1 : World) (cc1 : Array Value) (rs1 : RS) (A : Option (List p.T)),
      (Sch.rd ver fl (.arrP g k o sT none p rest) rs = (rest.rd ver fl rs1).map fun y => ((A, y.1), y.2)) →
      RdTo C R b a n lo w cc e f c.l (c.l + 5) c.t rs1 f1 w1 cc1 → (∀ j, (j < a + lo ∨ a + o + 1 ≤ j) → cc1[j]? = cc[j]?) → ArrFld (EltP p) w1 (RK R) p.sz (segL cc1 a n) o A →
      (seqL (rest.genR C T PT pv ⟨c.l + 5, t2 + 5, c.k + 2⟩).1).wp P Q f1 w1 := by
    intro f1 w1 cc1 rs1 A hrd hto hsame hfld
    have hd1 : rest.chkD (segL cc1 a n) = true := by
      refine chkD_congr rest htr (fun j hj1 hj2 => ?_) hd.2
      rw [segL_get hj2, segL_get hj2]
      exact hsame _ (by omega)
    refine ih T PT pv _ Q f1 w1 b a n (o + 1) cc1 e ver fl R rs1 htr hNr ((hf.keep hto.keep.keeps (Nat.le_refl _)).up (by simp)) (by simp only; omega) hto.st hd1 ?_ ?_
    · intro hnone f2 w2 h6 he2
      exact h0 (by rw [hrd, hnone]; rfl) f2 w2 h6 (hto.ext.trans he2)
    · intro y rs2 hy f2 w2 cc2 hto2 hrep2
      refine h1 (A, y) rs2 (by rw [hrd, hy]; rfl) f2 w2 cc2 (hto.trans hto2 (by omega) (by simp) hm (by simp only; omega)) ⟨?_, hrep2⟩
      exact hfld.move (EltP.ext p) hto2.ext hto.st.rw_.keepK (by rw [segL_get (by omega), segL_get (by omega)]; exact hto2.same _ (.inl (by omega)))
  refine seqL_cons ?_
  refine w_guard ht.c (show f 8 = _ from hf.ver) (show 8 < c.t by omega) (by omega) ?_ ?_
  · intro hon f1 hk1 h11
    have hf1 := hf.keep hk1 (by omega)
    rw [← ht1]
    refine r_list ht (fun rs => some (p.rd fl rs)) (EltP p) (EltP.ext p) (EltP.mono p) (lo := lo) (m := c.l + 5) (ver := ver) (fl := fl) (sz := p.sz) hF hk hsz hz hzs hNl hNe hs hf1 (by omega) (by omega) (by omega) hn hlo hnil ?_ ?_ ?_
    · intro ab N cap et i av f' w' cur rsi hbase hi hav hf' hav' h3 hst hzero Q' q0 q1
      rw [ht1]
      refine r_bodyP ht (cap := cap) hNp hsz hkp (by omega) hbase hi hav hf' hav' h3 hst Q' ?_
      intro f'' w'' cur' a1 a2 a3 a4 a5
      exact q1 _ _ rfl f'' w'' cur' a1 a2 a3 a4 (by rw [ht1]; exact a5)
    · intro hnone f' w' h6 he
      refine h0 ?_ f' w' h6 he
      simp only [Sch.rd, if_pos hon, hnone]
    · intro A rs' hA f' w' cc' av ls hto hsame hav harr hsome hlen helt
      refine behind f' w' cc' rs' A ?_ ?_ hsame ⟨av, ls, hav, harr, hsome, hlen, helt⟩
      · simp only [Sch.rd, if_pos hon, hA]; rfl
      · exact (RdTo.refl (m := c.l + 5) hs (KeepR.of hk1 (by omega))).trans { hto with keep := fun y h1 hy => hto.keep y h1 (by omega) } (Nat.le_refl _) (Nat.le_refl _) (Nat.le_refl _) (Nat.le_refl c.t)
  · intro hoff f1 hk1 h11
    refine behind f1 w cc rs none ?_ (RdTo.refl hs (KeepR.of hk1 (by omega))) (fun _ _ => rfl) ⟨_, none, hnil, rfl, ⟨rfl, InHeap.nil _⟩, rfl, by simp⟩
    simp only [Sch.rd, hoff, Bool.false_eq_true, if_false]; rfl

theorem segL_set (P : Program) {T' : Nat} : ∀ (l : List DSt) (c z : Array Value) (a n : Nat), defOk P T' n l = true → z.size = n → segL c a n = z.toList → segL (setD a l c) a n = (setD 0 l z).toList
  | [], c, z, a, n, _, _, h => h
  | x :: l, c, z, a, n, hok, hz, h => by
    simp only [defOk, Bool.and_eq_true, decide_eq_true_eq] at hok
    simp only [setD]
    refine segL_set P l _ _ a n hok.2 (by simp [hz]) ?_
    apply List.ext_getElem?
    intro j
    by_cases hj : j < n
    · have h1 : (segL c a n)[j]? = z.toList[j]? := by rw [h]
      rw [segL_get hj] at h1
      rw [segL_get hj]
      simp only [Array.getElem?_setIfInBounds, Array.getElem?_toList, Nat.zero_add]
      by_cases e : x.o = j
      · subst e
        have hlt : a + x.o < c.size := by
          rcases Nat.lt_or_ge (a + x.o) c.size with h2 | h2
          · exact h2
          · rw [Array.getElem?_eq_none h2] at h1
            have : z[x.o]? = none := by simpa using h1.symm
            rw [Array.getElem?_eq_none_iff] at this
            omega
        simp [hlt, hz, hj]
      · rw [if_neg (by omega), if_neg e]
        simpa using h1
    · rw [segL_none (by omega)]
      symm
      apply List.getElem?_eq_none
      simp [hz]; omega

theorem setD_same (P : Program) {T' : Nat} : ∀ (l : List DSt) (c : Array Value) (a n : Nat), defOk P T' n l = true → ∀ j, (j < a ∨ a + n ≤ j) → (setD a l c)[j]? = c[j]?
  | [], c, a, n, _, j, _ => rfl
  | x :: l, c, a, n, hok, j, hj => by
    simp only [defOk, Bool.and_eq_true, decide_eq_true_eq] at hok
    simp only [setD]
    rw [setD_same P l _ a n hok.2 j hj, Array.getElem?_setIfInBounds, if_neg (by omega)]

/-- v := &a[i]; v.Default(); s := v -/
theorem r_elem {R : Rdr} {sT PT' df l t b a pv ab N cap i sz T' : Nat} {S : Sch} {av : Value} {ver : Int} {fl : Bool} {et : TypeId} {f : Nat → Value} {w : World} {cur : Array Value} {rsi : RS} {Q : Post} {z : Array Value} (hsl : sliSz P sT = some sz) (hD : DefRC P C.toCfg sz df S) (hok : defOk P T' sz (S.dst C.toCfg) = true) (hzs : z.size = sz) (hi : i < N) (hav : av = .slice (some ⟨ab, 0, none⟩) N cap)
    (hf : FrR C R f pv b a ver fl l) (h1 : f (l + 1) = av) (h3 : f (l + 3) = .int .i32 i) (hl : l + 6 ≤ t) (hst : StR C (rdr' R ab) ab 0 (N * sz) w cur et rsi) (hzero : segL cur (i * sz) sz = z.toList)
    (h : ∀ f' w' cur', FrR C (rdr' R ab) f' (l + 5) ab (i * sz) ver fl (l + 6) → StR C (rdr' R ab) ab (i * sz) sz w' cur' et rsi → cur'.size = cur.size → Ext (CB R ab) w w' → (∀ j, (j < i * sz ∨ i * sz + sz ≤ j) → cur'[j]? = cur[j]?) → segL cur' (i * sz) sz = (setD 0 (S.dst C.toCfg) z).toList → (∀ y, y < t → (y < l + 4 ∨ l + 6 ≤ y) → f' y = f y) → Q .normal f' w') :
    (seqL (elemR C sT PT' df l t)).wp P Q f w := by
  have hn10 := hf.nN
  have hpt := hf.ptrN
  have hrow := rowBound (sz := sz) hi
  have hfit := hst.fit
  have e3 : ∀ n, (l + 3 = t + n) = False := by intro n; simp; omega
  have e1 : ∀ n, (l + 1 = t + n) = False := by intro n; simp; omega
  have e2 : ∀ n, (l + 2 = t + n) = False := by intro n; simp; omega
  have e4 : ∀ n, (l + 4 = t + n) = False := by intro n; simp; omega
  have e0 : ∀ n, (l = t + n) = False := by intro n; simp; omega
  have e3' : (l + 3 = t) = False := by simp; omega
  have e1' : (l + 1 = t) = False := by simp; omega
  have e0' : (l = t) = False := by simp; omega
  subst hav
  refine seqL_cons ?_
  refine wp_reg ?_
  simp [h1, h3, e0', e0, e1, e2, e3, e4, e1', e3', idx?, hsl, hi, Addr.add_mk]
  show (seqL _).wp P _ _ w
  refine seqL_cons ?_
  refine wp_reg ?_
  simp [e0', e0, e1, e2, e3, e4]
  refine (hD w ab (i * sz) cur et hst.blk (by omega)).mono ?_
  rintro v w1 ⟨rfl⟩
  show (Ir.reg _).wp P _ _ _
  refine wp_reg ?_
  simp [e0', e0, e1, e2, e3, e4]
  have hE : Ext (fun x => x = ab) w (w.setBlk ab (.cells (setD (i * sz) (S.dst C.toCfg) cur) et (0, 0))) := (Ext.refl (fun x => x = ab) w).setBlk (b := ab) (Or.inr rfl) _
  have hE' : Ext (CB (rdr' R ab) ab) w (w.setBlk ab (.cells (setD (i * sz) (S.dst C.toCfg) cur) et (0, 0))) := hE.mono (fun _ _ h => .inr h)
  refine h _ _ _ ?_ ?_ (setD_size _ _ _) hE' (setD_same P _ _ _ _ hok) (segL_set P _ _ _ _ _ hok hzs hzero) ?_
  · have lo : ∀ y, y < l → ∀ v1 v2 v3 v4 v5 v6 v7 v8, upd (upd (upd (upd (upd (upd (upd (upd f t v1) (t + 1) v2) (t + 2) v3) (l + 4) v4) (t + 3) v5) (t + 4) v6) (t + 5) v7) (l + 5) v8 y = f y := by
      intro y hy v1 v2 v3 v4 v5 v6 v7 v8
      have x1 : ∀ n, (y = t + n) = False := by intro n; simp; omega
      have x2 : (y = t) = False := by simp; omega
      have x3 : ∀ n, (y = l + n) = False := by intro n; simp; omega
      simp [x1, x2, x3]
    exact ⟨by simp [e0'], by omega, (lo 8 (by omega) _ _ _ _ _ _ _ _).trans hf.ver, fun hx => (lo 9 (by omega) _ _ _ _ _ _ _ _).trans (hf.flg hx), hf.flN, (lo 7 (by omega) _ _ _ _ _ _ _ _).trans hf.rd, (lo 2 (by omega) _ _ _ _ _ _ _ _).trans hf.us, by omega⟩
  · exact ⟨setBlk_same hst.blk, by rw [setD_size]; omega, hst.rd.ext hE (fun h => hst.rw_.ne.2.2 h) (fun h => hst.rw_.ne.2.1 h.symm), hst.rw_.ext hE'⟩
  · intro y hy hy2
    have x1 : ∀ n, (y = t + n) = False := by intro n; simp; omega
    have x2 : (y = t) = False := by simp; omega
    have x3 : (y = l + 4) = False := by simp; omega
    have x4 : (y = l + 5) = False := by simp; omega
    simp [x1, x2, x3, x4, e0']
end
end Go.Kg

set_option linter.unusedSimpArgs false
set_option linter.unusedVariables false
set_option linter.unusedSectionVars false
namespace Go.Kg
open Go

section
variable {P : Program} {C : CfgR}

theorem elemOk_spec {sT : Nat} {S : Sch} {z : Array Value} (h : elemOk P C.toCfg sT S = true) (hz : sliZ P sT = some z) : S.chkD (setD 0 (S.dst C.toCfg) z).toList = true := by
  unfold elemOk at h
  rw [hz] at h
  exact h

/-- the body of a loop over structs -/
theorem r_bodyS (ht : TyR P C) {S : Sch} (ihe : SoundR P C S) {R : Rdr} {sT T' PT' df l t k b a pv ab N cap i sz m : Nat} {av : Value} {ver : Int} {fl : Bool} {et : TypeId} {f' : Nat → Value} {w' : World} {cur : Array Value} {rsi : RS} {z : Array Value} (hte : S.tyR P C T' sz 0 = true) (hNe : S.NeedR P C)
    (hsl : sliSz P sT = some sz) (hD : DefRC P C.toCfg sz df S) (hok : defOk P T' sz (S.dst C.toCfg) = true) (hzs : z.size = sz) (hchk : S.chkD (setD 0 (S.dst C.toCfg) z).toList = true) (hlt : l + 6 ≤ t) (hm : (S.genR C T' PT' (l + 5) ⟨l + 6, t + 6, k⟩).2.l = m) (hmt : m ≤ t) (hi : i < N) (hav : av = .slice (some ⟨ab, 0, none⟩) N cap)
    (hf : FrR C R f' pv b a ver fl l) (h1 : f' (l + 1) = av) (h3 : f' (l + 3) = .int .i32 i) (hst : StR C (rdr' R ab) ab 0 (N * sz) w' cur et rsi) (hzero : segL cur (i * sz) sz = z.toList) (Q' : Post)
    (q0 : S.rd ver fl rsi = none → ∀ f'' w'', f'' 6 = R.ev → Ext (CB R ab) w' w'' → Q' .ret f'' w'')
    (q1 : ∀ y rs'', S.rd ver fl rsi = some (y, rs'') → ∀ f'' w'' cur', StR C (rdr' R ab) ab 0 (N * sz) w'' cur' et rs'' → Ext (CB R ab) w' w'' → (∀ j, (j < i * sz ∨ i * sz + sz ≤ j) → cur'[j]? = cur[j]?) → EltS S w'' (RK (rdr' R ab)) (segL cur' (i * sz) sz) y → KeepR f' f'' (l + 4) m t → Q' .normal f'' w'') :
    (seqL (elemR C sT PT' df l t ++ (S.genR C T' PT' (l + 5) ⟨l + 6, t + 6, k⟩).1)).wp P Q' f' w' := by
  have hml := (genR_mono (C := C) S T' PT' (l + 5) ⟨l + 6, t + 6, k⟩).1
  rw [hm] at hml
  simp only at hml
  refine seqL_append ?_
  refine r_elem hsl hD hok hzs hi hav hf h1 h3 hlt hst hzero ?_
  intro f2 w2 cur2 hf2 hst2 hsz2 he2 hsame2 hseg2 hk2
  have hfit := hst.fit
  refine ihe T' PT' (l + 5) ⟨l + 6, t + 6, k⟩ Q' f2 w2 ab (i * sz) sz 0 cur2 et ver fl (rdr' R ab) rsi hte hNe hf2 (by rw [hm]; simp only; omega) hst2 (by rw [hseg2]; exact hchk) ?_ ?_
  · intro hnone f3 w3 h6 he3
    exact q0 hnone f3 w3 h6 (he2.trans he3)
  · intro y rs'' hy f3 w3 cur3 hto hrep
    refine q1 y rs'' hy f3 w3 cur3 ?_ (he2.trans hto.ext) ?_ hrep ?_
    · exact ⟨hto.st.blk, by rw [hto.size, hsz2]; exact hfit, hto.st.rd, hto.st.rw_⟩
    · intro j hj
      rw [hto.same j (by omega)]
      exact hsame2 j hj
    · intro y hy1 hy
      have h4 := hto.keep y hy1
      rw [hm] at h4
      simp only at h4
      rw [h4 (by omega), hk2 y (by omega) (by omega)]

theorem soundR_arrS (ht : TyR P C) (g : Gd) (k o sT : Nat) (nul : Option Nat) (T' PT' sz df : Nat) (S rest : Sch) (ihe : SoundR P C S) (ih : SoundR P C rest) : SoundR P C (.arrS g k o sT nul T' PT' sz df S rest) := by
  intro T PT pv c Q f w b a n lo cc e ver fl R rs hty hN hf hc hs hd h0 h1
  simp only [Sch.tyR, Bool.and_eq_true, beq_iff_eq, decide_eq_true_eq] at hty
  obtain ⟨⟨⟨⟨⟨⟨⟨⟨⟨hnul, hF⟩, hk⟩, hsli⟩, hel⟩, hok⟩, hte⟩, hlo⟩, hn⟩, htr⟩ := hty
  have hnul' : nul = none := by cases nul <;> first | rfl | cases hnul
  subst hnul'
  obtain ⟨hsz, z, hz, hzs⟩ := sliOk_spec hsli
  have hchk := elemOk_spec hel hz
  obtain ⟨hNl, hNe, hND, hNs, hNr⟩ := hN
  simp only [Sch.chkD, Bool.and_eq_true] at hd
  have hnil := isNilSli_spec hd.1
  have hn10 := hf.nN
  have hpt := hf.ptrN
  have hhead : headN C none = 5 + lenIN C + 0 + 10 := rfl
  simp only [Sch.genR] at hc h1 ⊢
  generalize ht1 : c.t + gdN g + headN C none = t1 at hc h1 ⊢
  have hme := genR_mono (C := C) S T' PT' (c.l + 5) ⟨c.l + 6, t1 + 5 + 6, c.k + 2⟩
  have e11 : t1 + 11 = t1 + 5 + 6 := by omega
  rw [e11] at hc h1 ⊢
  generalize hz1 : S.genR C T' PT' (c.l + 5) ⟨c.l + 6, t1 + 5 + 6, c.k + 2⟩ = zz at hc h1 hme ⊢
  obtain ⟨eb, c1⟩ := zz
  simp only at hc h1 hme ⊢
  have hm := (genR_mono (C := C) rest T PT pv ⟨c1.l, c1.t + 5, c1.k⟩).1
  simp only at hm
  have behind : ∀ (f1 : Nat → Value) (w1 : World) (cc1 : Array Value) (rs1 : RS) (A : Option (List S.T)),
      (Sch.rd ver fl (.arrS g k o sT none T' PT' sz df S rest) rs = (rest.rd ver fl rs1).map fun y => ((A, y.1), y.2)) →
      RdTo C R b a n lo w cc e f c.l c1.l c.t rs1 f1 w1 cc1 → (∀ j, (j < a + lo ∨ a + o + 1 ≤ j) → cc1[j]? = cc[j]?) → ArrFld (EltS S) w1 (RK R) sz (segL cc1 a n) o A →
      (seqL (rest.genR C T PT pv ⟨c1.l, c1.t + 5, c1.k⟩).1).wp P Q f1 w1 := by
    intro f1 w1 cc1 rs1 A hrd hto hsame hfld
    have hd1 : rest.chkD (segL cc1 a n) = true := by
      refine chkD_congr rest htr (fun j hj1 hj2 => ?_) hd.2
      rw [segL_get hj2, segL_get hj2]
      exact hsame _ (by omega)
    refine ih T PT pv _ Q f1 w1 b a n (o + 1) cc1 e ver fl R rs1 htr hNr ((hf.keep hto.keep.keeps (Nat.le_refl _)).up (by simp only; omega)) (by simp only; omega) hto.st hd1 ?_ ?_
    · intro hnone f2 w2 h6 he2
      exact h0 (by rw [hrd, hnone]; rfl) f2 w2 h6 (hto.ext.trans he2)
    · intro y rs2 hy f2 w2 cc2 hto2 hrep2
      refine h1 (A, y) rs2 (by rw [hrd, hy]; rfl) f2 w2 cc2 (hto.trans hto2 (by omega) (by simp only; omega) hm (by simp only; omega)) ⟨?_, hrep2⟩
      exact hfld.move (EltS.ext S) hto2.ext hto.st.rw_.keepK (by rw [segL_get (by omega), segL_get (by omega)]; exact hto2.same _ (.inl (by omega)))
  refine seqL_cons ?_
  refine w_guard ht.c (show f 8 = _ from hf.ver) (show 8 < c.t by omega) (by omega) ?_ ?_
  · intro hon f1 hk1 h11
    have hf1 := hf.keep hk1 (by omega)
    rw [← ht1]
    refine r_list ht (S.rd ver fl) (EltS S) (EltS.ext S) (EltS.mono S) (lo := lo) (m := c1.l) (ver := ver) (fl := fl) (sz := sz) hF hk hsz hz hzs hNl hNe hs hf1 (by omega) (by omega) (by omega) hn hlo hnil ?_ ?_ ?_
    · intro ab N cap et i av f' w' cur rsi hbase hi hav hf' hav' h3 hst hzero Q' q0 q1
      rw [ht1]
      have hb := r_bodyS ht ihe (k := c.k + 2) (t := t1 + 5) (m := c1.l) (cap := cap) (PT' := PT') hte hNs hsz hND hok hzs hchk (by omega) (by rw [hz1]) (by omega) hi hav hf' hav' h3 hst hzero Q' q0 (fun y rs'' hy f'' w'' cur' a1 a2 a3 a4 a5 => q1 y rs'' hy f'' w'' cur' a1 a2 a3 a4 (by rw [ht1]; exact a5))
      rw [hz1] at hb
      exact hb
    · intro hnone f' w' h6 he
      refine h0 ?_ f' w' h6 he
      simp only [Sch.rd, if_pos hon, hnone]
    · intro A rs' hA f' w' cc' av ls hto hsame hav harr hsome hlen helt
      refine behind f' w' cc' rs' A ?_ ?_ hsame ⟨av, ls, hav, harr, hsome, hlen, helt⟩
      · simp only [Sch.rd, if_pos hon, hA]; rfl
      · exact (RdTo.refl (m := c1.l) hs (KeepR.of hk1 (by omega))).trans { hto with keep := fun y h1 hy => hto.keep y h1 (by omega) } (Nat.le_refl _) (Nat.le_refl _) (Nat.le_refl _) (Nat.le_refl c.t)
  · intro hoff f1 hk1 h11
    refine behind f1 w cc rs none ?_ (RdTo.refl hs (KeepR.of hk1 (by omega))) (fun _ _ => rfl) ⟨_, none, hnil, rfl, ⟨rfl, InHeap.nil _⟩, rfl, by simp⟩
    simp only [Sch.rd, hoff, Bool.false_eq_true, if_false]; rfl

theorem soundR (ht : TyR P C) : ∀ S : Sch, SoundR P C S := by
  intro S
  induction S with
  | fin => exact soundR_fin
  | tags k o => exact soundR_tags ht k o
  | prim g k o p en d rest ih => exact soundR_prim ht g k o p en d rest ih
  | arrP g k o sT nul p rest ih => exact soundR_arrP ht g k o sT nul p rest ih
  | arrS g k o sT nul T PT sz df e rest ihe ih => exact soundR_arrS ht g k o sT nul T PT sz df e rest ihe ih
end
end Go.Kg

set_option linter.unusedSimpArgs false
set_option linter.unusedVariables false
set_option linter.unusedSectionVars false
namespace Go.Kg
open Go

/-- a reader's cells -/
structure TyRb (P : Program) (E : Env) : Prop where
  z : zeroOf P E.tRd = some (.agg #[.slice none 0 0, .bool false])
  pl : places P E.tRd = some [(0, 1), (1, 1)]
  k : kindOf P E.tRd = .agg 2

structure MsgRk (P : Program) (C : CfgR) (T PT flex df n : Nat) (S : Sch) (nl : Nat) : Prop where
  ty : TyR P C
  rb : TyRb P C.E
  tyR : S.tyR P C T n 1 = true
  need : S.NeedR P C
  endc : EndC P C
  dfl : DefRC P C.toCfg n df S
  f0 : fldOff P T 0 = some 0
  nl : (S.genR C T PT (if C.fx then 10 else 9) (ctR C false nl)).2.l ≤ nl

theorem bld_rd {P : Program} {E : Env} (ht : TyRb P E) {sv : Value} (h : sv.cells = #[sv]) : bld? P E.tRd [(0, sv)] = some (.agg #[sv, .bool false]) := by
  have hz : (Value.agg #[.slice none 0 0, .bool false]).cells = #[.slice none 0 0, .bool false] := rfl
  simp only [bld?, ht.z, ht.pl, Instr.fill, hz]
  simp [h]

theorem bytes_one {w : World} {K : Nat → Prop} {v : Value} {s : List UInt8} (h : BytesAt w K v s) : v.oneCell' = true := by
  obtain ⟨a, c, rfl, _⟩ := h.len; rfl

def ReadPost (C : CfgR) (S : Sch) (flex b a n D : Nat) (w : World) (cc : Array Value) (e : TypeId) (ver : Int) (ev : Value) (rs : RS) (v : Value) (w' : World) : Prop :=
  Ext (· = b) w w' ∧ (S.rd ver (flagAt C.toCfg flex ver) rs = none → v = ev) ∧
  ∀ x rs', S.rd ver (flagAt C.toCfg flex ver) rs = some (x, rs') → v = (if rs'.bad then ev else .nilIface) ∧
    ∃ cc', w'.heap[b]? = some (.cells cc' e (0, 0)) ∧ cc'.size = cc.size ∧ (∀ j, (j < a + 1 ∨ a + n ≤ j) → cc'[j]? = cc[j]?) ∧ S.Rep w' (fun k => k = D ∨ w.heap.size < k) (segL cc' a n) x

theorem readFrom {P : Program} {C : CfgR} {T PT flex df n nl nt g : Nat} {S : Sch} (hm : MsgRk P C T PT flex df n S nl) (hnt : 3 ≤ nt) (hI : FnIs P g nt [.t 6] (msgR C T PT flex df false S nl)) {w : World} {b a D : Nat} {cc : Array Value} {e : TypeId} {sv : Value} {src : List UInt8} {ver : Int} {ev : Value}
    (hb : w.heap[b]? = some (.cells cc e (0, 0))) (hfit : a + n ≤ cc.size) (hver : (setD a (S.dst C.toCfg) cc)[a]? = some (.int .i16 ver)) (hchk : S.chkD (segL (setD a (S.dst C.toCfg) cc) a n) = true) (hsrc : BytesAt w (· = D) sv src) (hD : D < w.heap.size) (hbD : b ≠ D)
    (herr : w.cell? ⟨C.E.g_kbin_ErrNotEnoughData, 0, none⟩ = some ev) (hgb : C.E.g_kbin_ErrNotEnoughData ≠ b) :
    Ret P g #[.pointer (some ⟨b, a, none⟩), sv, .bool false] w fun v w' => ReadPost C S flex b a n D w (setD a (S.dst C.toCfg) cc) e ver ev ⟨src, false, nonNil sv⟩ v w' := by
  obtain ⟨ht, hrb, htyR, hN, hE, hdef, hf0, hnl⟩ := hm
  have hlt := lt_of_heap hb
  have hl7 := (genR_mono (C := C) S T PT (if C.fx then 10 else 9) (ctR C false nl)).1
  have q6 : 10 ≤ (ctR C false nl).l := by simp only [ctR]; split <;> omega
  have q7 : C.fx = true → 11 ≤ (ctR C false nl).l := by intro h; simp [ctR, h]
  have qt : nl + 10 ≤ (ctR C false nl).t := by simp [ctR]; split <;> omega
  have hnl10 : 10 ≤ nl := by omega
  refine hI.ret (args := [_, _, _]) hnt ?_
  generalize hccD : setD a (S.dst C.toCfg) cc = ccD at *
  have hszD : ccD.size = cc.size := by subst hccD; exact setD_size _ _ _
  have hsv1 := bytes_one hsrc
  have hgw : C.E.g_kbin_ErrNotEnoughData < w.heap.size := World.block_lt_of_cell? w _ herr
  generalize hR : (⟨w.heap.size, D, w.heap.size + 1, ev⟩ : Rdr) = R
  have rpb : R.pb = w.heap.size := by subst hR; rfl
  have rD : R.D = D := by subst hR; rfl
  have rbase : R.base = w.heap.size + 1 := by subst hR; rfl
  have rev : R.ev = ev := by subst hR; rfl
  -- behind the head
  have behind : ∀ (f : Nat → Value) (w1 : World), Ext (· = b) w w1 → StR C R b a n w1 ccD e ⟨src, false, nonNil sv⟩ → f (if C.fx then 10 else 9) = .pointer (some ⟨b, a, none⟩) → f 2 = .bool false → f 7 = .pointer (some ⟨w.heap.size, 0, none⟩) → f 8 = .int .i16 ver → (C.fx = true → f 9 = .bool (flagAt C.toCfg flex ver)) →
      (seqL ((S.genR C T PT (if C.fx then 10 else 9) (ctR C false nl)).1 ++ completeI C (S.genR C T PT (if C.fx then 10 else 9) (ctR C false nl)).2.t)).wp P (retPost P [.t 6] fun v w' => ReadPost C S flex b a n D w ccD e ver ev ⟨src, false, nonNil sv⟩ v w') f w1 := by
    intro f w1 he1 hst fpv f2 f7 f8 f9
    have tot : ∀ w', Ext (CB R b) w1 w' → Ext (· = b) w w' := by
      intro w' h
      refine he1.trans' h ?_
      rintro x hx (h | h)
      · rw [rpb] at h; omega
      · exact h
    refine seqL_append ?_
    refine soundR ht S T PT _ (ctR C false nl) _ f w1 b a n 1 ccD e ver (flagAt C.toCfg flex ver) R ⟨src, false, nonNil sv⟩ htyR hN ?_ (by omega) hst hchk ?_ ?_
    · refine ⟨fpv, ?_, f8, f9, fun hx => by simp [flagAt, hx], by rw [rpb]; exact f7, f2, q6⟩
      split
      · rename_i hx; exact ⟨by omega, by have := q7 hx; omega⟩
      · exact ⟨by omega, by omega⟩
    · intro hnone f' w' h6 he
      show retPost P [.t 6] (fun v w' => ReadPost C S flex b a n D w ccD e ver ev ⟨src, false, nonNil sv⟩ v w') .ret f' w'
      simp [h6, rev]
      exact ⟨tot w' he, fun _ => rfl, fun x rs' h => by rw [hnone] at h; cases h⟩
    · intro x rs' hx f' w' cc' hto hrep
      have k7 : f' 7 = .pointer (some ⟨R.pb, 0, none⟩) := by rw [hto.keep 7 (by omega) (.inl (by omega)), rpb]; exact f7
      show (seqL (completeI C _)).wp P _ f' w'
      refine r_complete hE hto.st k7 ?_
      intro f'' h6
      show retPost P [.t 6] (fun v w' => ReadPost C S flex b a n D w ccD e ver ev ⟨src, false, nonNil sv⟩ v w') .ret f'' w'
      simp [h6, rev]
      refine ⟨tot w' hto.ext, fun h => (by rw [hx] at h; cases h), fun x2 rs2 h2 => ?_⟩
      rw [hx] at h2
      cases h2
      refine ⟨rfl, cc', hto.st.blk, hto.size, hto.same, Sch.Rep_mono (fun k hk => ?_) S hrep⟩
      rcases hk with h | h
      · exact .inl (by rw [← rD]; exact h)
      · exact .inr (by rw [rbase] at h; omega)
  -- the head
  have n0 : ∀ k, (0 = nl + k) = False := by intro k; simp; omega
  have n1 : ∀ k, (1 = nl + k) = False := by intro k; simp; omega
  have n2 : ∀ k, (2 = nl + k) = False := by intro k; simp; omega
  have n6 : ∀ k, (6 = nl + k) = False := by intro k; simp; omega
  have n7 : ∀ k, (7 = nl + k) = False := by intro k; simp; omega
  have n8 : ∀ k, (8 = nl + k) = False := by intro k; simp; omega
  have n9 : ∀ k, (9 = nl + k) = False := by intro k; simp; omega
  have n0' : (0 = nl) = False := by simp; omega
  have n1' : (1 = nl) = False := by simp; omega
  have n2' : (2 = nl) = False := by simp; omega
  have n7' : (7 = nl) = False := by simp; omega
  have n8' : (8 = nl) = False := by simp; omega
  have n9' : (9 = nl) = False := by simp; omega
  have m0 : (nl = 0) = False := by simp; omega
  have m1 : (nl = 1) = False := by simp; omega
  have m2 : (nl = 2) = False := by simp; omega
  have m3 : (nl = 3) = False := by simp; omega
  have m4 : (nl = 4) = False := by simp; omega
  have m5 : (nl = 5) = False := by simp; omega
  have m6 : (nl = 6) = False := by simp; omega
  have m7 : (nl = 7) = False := by simp; omega
  have m8 : (nl = 8) = False := by simp; omega
  have m9 : (nl = 9) = False := by simp; omega
  have kI16 : kindOf P C.E.tI16 = .scl := ht.c.kI16
  -- the world behind the head
  generalize hw1 : w.setBlk b (.cells ccD e (0, 0)) = w1
  have hw1s : w1.heap.size = w.heap.size := by subst hw1; simp
  have hbw1 : w1.heap[b]? = some (.cells ccD e (0, 0)) := by subst hw1; exact setBlk_same hb
  have hE1 : Ext (fun k => k = b) w w1 := by subst hw1; exact (Ext.refl (fun k => k = b) w).setBlk (b := b) (Or.inr rfl) _
  generalize hw2 : (w1.alloc (.cells #[.slice none 0 0, .bool false] C.E.tRd)).setBlk w1.heap.size (.cells #[sv, .bool false] C.E.tRd (0, 0)) = w2
  have hE2 : Ext none1 w1 w2 := by subst hw2; exact ((Ext.refl none1 w1).alloc _).setBlk (.inl (Nat.le_refl _)) _
  have hpb2 : w2.heap[w.heap.size]? = some (.cells #[sv, .bool false] C.E.tRd (0, 0)) := by subst hw2; rw [← hw1s]; exact setBlk_same alloc_new
  have hbw2 : w2.heap[b]? = some (.cells ccD e (0, 0)) := hE2.old hbw1 (fun h => h)
  have hE12 : Ext (fun k => k = b) w w2 := hE1.trans (hE2.mono (fun _ _ h => h.elim))
  have hst : StR C R b a n w2 ccD e ⟨src, false, nonNil sv⟩ := by
    refine ⟨hbw2, by omega, ?_, ⟨⟨?_, ?_, ?_, ?_⟩, ⟨?_, ?_, ?_⟩, ?_, ⟨?_, ?_⟩⟩⟩
    · rw [rpb, rD]
      exact ⟨sv, hpb2, hsrc.ext hE12 (by rintro k _ rfl h; exact hbD h.symm), rfl⟩
    · rw [rpb, rbase]; omega
    · rw [rbase]; omega
    · rw [rD, rbase]; omega
    · rw [rbase]; exact lt_of_heap hpb2
    · rw [rpb, rD]; omega
    · rw [rD]; exact hbD
    · rw [rpb]; omega
    · rw [rev]; exact hE12.cell herr (fun h => hgb h)
    · rw [rpb]; omega
    · exact hgb
  have cv : w2.cell? ⟨b, a, none⟩ = some (.int .i16 ver) := by rw [cell_of_blk hbw2]; exact hver
  have key : ∀ (fl : List Ir) (pv t' : Nat), pv = (if C.fx then 10 else 9) → t' = nl + (if C.fx then 12 else 9) → (if C.fx then [Ir.reg [⟨none, some (nl + 9), .move (.tmp 8), C.E.tI16⟩, ⟨none, some (nl + 10), .binOp .geq C.E.tI16 (.tmp (nl + 9)) (.const (.int .i16 flex)) C.E.tI16, C.E.tB⟩, ⟨none, some 9, .assign (.tmp (nl + 10)), C.E.tB⟩],
      .reg [⟨none, some (nl + 11), .move (.tmp 9), C.E.tB⟩]] else []) = fl →
      (seqL ([.reg [⟨none, some 6, .assign (.const .nilIface), C.E.tErr⟩],
    .reg [⟨none, some nl, .move (.tmp 0), PT⟩, ⟨none, some (nl + 1), .call { callee := .value (.func df), args := #[.tmp nl], argTypes := #[PT] }, C.E.tNil⟩],
    .reg [⟨none, some (nl + 2), .move (.tmp 1), C.E.tBs⟩, ⟨none, some (nl + 3), .build C.E.tRd #[(0, .tmp (nl + 2))], C.E.tRd⟩, ⟨none, some 7, .alloc C.E.tRd, C.E.tNil⟩, ⟨none, none, .store C.E.tRd (.tmp 7) (.tmp (nl + 3)), C.E.tNil⟩],
    .reg (addrR C.toCfg T PT 0 0 (nl + 4) ++ [⟨none, some (nl + 7), .load C.E.tI16 (.tmp (nl + 6)), C.E.tI16⟩, ⟨none, some 8, .assign (.tmp (nl + 7)), C.E.tI16⟩]),
    .reg [⟨none, some (nl + 8), .move (.tmp 8), C.E.tI16⟩]] ++ (fl ++ ([.reg [⟨none, some t', .move (.tmp 0), PT⟩, ⟨none, some pv, .assign (.tmp t'), PT⟩]] ++ ((S.genR C T PT (if C.fx then 10 else 9) (ctR C false nl)).1 ++ completeI C (S.genR C T PT (if C.fx then 10 else 9) (ctR C false nl)).2.t))))).wp P
        (retPost P [.t 6] fun v w' => ReadPost C S flex b a n D w ccD e ver ev ⟨src, false, nonNil sv⟩ v w') (frame0 [.pointer (some ⟨b, a, none⟩), sv, .bool false]) w := by
    intro fl pv t' hpv ht' hfl
    simp only [List.cons_append, List.nil_append]
    refine seqL_cons (wp_reg ?_)
    simp
    refine seqL_cons (wp_reg ?_)
    simp
    refine (hdef w b a cc e hb hfit).mono ?_
    rintro v w1' ⟨rfl⟩
    rw [hccD, hw1]
    refine seqL_cons (wp_reg ?_)
    simp [n0, n0', n1, n1', n2, n2', n6, n7, n7', n8, n8', n9, n9', m0, m1, m2, m3, m4, m5, m6, m7, m8, m9, bld_rd hrb (cells_one hsv1), hrb.z, Value.cells, store_agg hrb.k, putK_blk alloc_new, hsv1]
    have hov : over #[.slice none 0 0, .bool false] 0 [sv, .bool false] = #[sv, .bool false] := by simp [over]
    rw [hov, hw2]
    refine ⟨by simp only [allOne, hsv1, Bool.true_and]; rfl, ?_⟩
    show (seqL _).wp P _ _ w2
    refine seqL_cons (wp_reg ?_)
    simp [n0, n0', n1, n1', n2, n2', n6, n7, n7', n8, n8', n9, n9', m0, m1, m2, m3, m4, m5, m6, m7, m8, m9, addrR, hf0, Addr.add_mk, ld_scl kI16, cv]
    refine seqL_cons (wp_reg ?_)
    simp [n0, n0', n1, n1', n2, n2', n6, n7, n7', n8, n8', n9, n9', m0, m1, m2, m3, m4, m5, m6, m7, m8, m9]
    refine seqL_append ?_
    have e1w : w1.heap.size = w.heap.size := hw1s
    by_cases hx : C.fx = true
    · rw [if_pos hx] at hfl
      subst hfl
      rw [if_pos hx] at hpv ht'
      subst hpv
      subst ht'
      refine seqL_cons (wp_reg ?_)
      simp [n0, n0', n1, n1', n2, n2', n6, n7, n7', n8, n8', n9, n9', m0, m1, m2, m3, m4, m5, m6, m7, m8, m9]
      show (Ir.reg _).wp P _ _ _
      refine wp_reg ?_
      simp [n0, n0', n1, n1', n2, n2', n6, n7, n7', n8, n8', n9, n9', m0, m1, m2, m3, m4, m5, m6, m7, m8, m9]
      refine seqL_cons (wp_reg ?_)
      simp [n0, n0', n1, n1', n2, n2', n6, n7, n7', n8, n8', n9, n9', m0, m1, m2, m3, m4, m5, m6, m7, m8, m9]
      refine behind _ w2 hE12 hst ?_ ?_ ?_ ?_ ?_
      · simp [n0, n0', n1, n1', n2, n2', n6, n7, n7', n8, n8', n9, n9', m0, m1, m2, m3, m4, m5, m6, m7, m8, m9, hx]
      · simp [n0, n0', n1, n1', n2, n2', n6, n7, n7', n8, n8', n9, n9', m0, m1, m2, m3, m4, m5, m6, m7, m8, m9]
      · simp [n0, n0', n1, n1', n2, n2', n6, n7, n7', n8, n8', n9, n9', m0, m1, m2, m3, m4, m5, m6, m7, m8, m9, e1w]
      · simp [n0, n0', n1, n1', n2, n2', n6, n7, n7', n8, n8', n9, n9', m0, m1, m2, m3, m4, m5, m6, m7, m8, m9]
      · intro _; simp [n0, n0', n1, n1', n2, n2', n6, n7, n7', n8, n8', n9, n9', m0, m1, m2, m3, m4, m5, m6, m7, m8, m9, flagAt, hx]
    · rw [if_neg hx] at hfl
      subst hfl
      rw [if_neg hx] at hpv ht'
      subst hpv
      subst ht'
      show (seqL _).wp P _ _ w2
      refine seqL_cons (wp_reg ?_)
      simp [n0, n0', n1, n1', n2, n2', n6, n7, n7', n8, n8', n9, n9', m0, m1, m2, m3, m4, m5, m6, m7, m8, m9]
      refine behind _ w2 hE12 hst ?_ ?_ ?_ ?_ ?_
      · simp [n0, n0', n1, n1', n2, n2', n6, n7, n7', n8, n8', n9, n9', m0, m1, m2, m3, m4, m5, m6, m7, m8, m9, hx]
      · simp [n0, n0', n1, n1', n2, n2', n6, n7, n7', n8, n8', n9, n9', m0, m1, m2, m3, m4, m5, m6, m7, m8, m9]
      · simp [n0, n0', n1, n1', n2, n2', n6, n7, n7', n8, n8', n9, n9', m0, m1, m2, m3, m4, m5, m6, m7, m8, m9, e1w]
      · simp [n0, n0', n1, n1', n2, n2', n6, n7, n7', n8, n8', n9, n9', m0, m1, m2, m3, m4, m5, m6, m7, m8, m9]
      · intro h; exact absurd h hx
  have := key _ _ _ rfl rfl rfl
  simp only [← List.append_assoc] at this
  exact this
end Go.Kg

set_option linter.unusedSimpArgs false
set_option linter.unusedVariables false
set_option linter.unusedSectionVars false
namespace Go.Kg
open Go

/-! ## PrimR, LenRC, EndC from the readers' contracts -/
section
variable {P : Program} {C : CfgR}

theorem primR_of {p : Prim} {f : Nat} {g : RS → Value × RS} {fl : Bool} (hf : p.fR C.E fl = f) (h : RdC P C.E.tRd f g) (h1 : ∀ w K rs, p.rep1 w K (g rs).1 (p.rd fl rs).1) (h2 : ∀ rs, (g rs).2 = (p.rd fl rs).2) : ∀ w pb D rs, pb ≠ D → D < w.heap.size → RdAt C.E.tRd w pb D rs →
    Ret P (p.fR C.E fl) #[.pointer (some ⟨pb, 0, none⟩)] w fun v w' => p.rep1 w' (fun b => b = D ∨ w.heap.size ≤ b) v (p.rd fl rs).1 ∧ Ext (· = pb) w w' ∧ RdAt C.E.tRd w' pb D (p.rd fl rs).2 := by
  intro w pb D rs hne hD hr
  subst hf
  refine (h w pb D rs hne hr).mono ?_
  rintro v w1 ⟨rfl, he, hr1⟩
  exact ⟨h1 _ _ _, he, by rw [← h2]; exact hr1⟩

theorem primR_bool (h : RdC P C.E.tRd C.E.f_pkbin_Reader_Bool fun rs => (.bool (boolOf (rdFixed 1 rs).1), (rdFixed 1 rs).2)) : PrimR P C .bool := fun fl _ => primR_of rfl h (fun _ _ _ => rfl) (fun _ => rfl)
theorem primR_i8 (h : RdC P C.E.tRd C.E.f_pkbin_Reader_Int8 fun rs => (.int .i8 (IntKind.i8.wrap (rdFixed 1 rs).1), (rdFixed 1 rs).2)) : PrimR P C .i8 := fun fl _ => primR_of rfl h (fun _ _ _ => rfl) (fun _ => rfl)
theorem primR_i16 (h : RdC P C.E.tRd C.E.f_pkbin_Reader_Int16 fun rs => (.int .i16 (IntKind.i16.wrap (rdFixed 2 rs).1), (rdFixed 2 rs).2)) : PrimR P C .i16 := fun fl _ => primR_of rfl h (fun _ _ _ => rfl) (fun _ => rfl)
theorem rdFixed_lt (k : Nat) (rs : RS) : (rdFixed k rs).1 < 256 ^ k := by
  unfold rdFixed; split
  · exact Nat.pow_pos (by omega)
  · exact be_take_lt _ _
theorem primR_u16 (h : RdC P C.E.tRd C.E.f_pkbin_Reader_Uint16 fun rs => (.int .u16 ((rdFixed 2 rs).1 : Nat), (rdFixed 2 rs).2)) : PrimR P C .u16 := fun fl _ => primR_of rfl h (fun _ _ rs => ⟨(rdFixed 2 rs).1, rfl, rdFixed_lt 2 rs, rfl⟩) (fun _ => rfl)
theorem primR_i32 (h : RdC P C.E.tRd C.E.f_pkbin_Reader_Int32 fun rs => (.int .i32 (IntKind.i32.wrap (rdFixed 4 rs).1), (rdFixed 4 rs).2)) : PrimR P C .i32 := fun fl _ => primR_of rfl h (fun _ _ _ => rfl) (fun _ => rfl)
theorem primR_i64 (h : RdC P C.E.tRd C.E.f_pkbin_Reader_Int64 fun rs => (.int .i64 (IntKind.i64.wrap (rdFixed 8 rs).1), (rdFixed 8 rs).2)) : PrimR P C .i64 := fun fl _ => primR_of rfl h (fun _ _ _ => rfl) (fun _ => rfl)
theorem primR_str (h : RdC P C.E.tRd C.E.f_pkbin_Reader_String fun rs => (strV (rdStr rs).1, (rdStr rs).2)) (hc : C.fx = true → RdC P C.E.tRd C.E.f_pkbin_Reader_CompactString fun rs => (strV (rdCStr rs).1, (rdCStr rs).2)) : PrimR P C .str := by
  intro fl hx
  cases fl
  · exact primR_of rfl h (fun _ _ _ => rfl) (fun _ => rfl)
  · exact primR_of rfl (hc (hx rfl)) (fun _ _ _ => rfl) (fun _ => rfl)

theorem primRP_of {p : Prim} {f : Nat} {g : RS → p.T × RS} {Rx : World → Nat → World → Value → p.T → Prop} {fl : Bool} (hf : p.fR C.E fl = f) (h : RdPC P C.E.tRd f Rx g) (hg : p.rd fl = g) (h1 : ∀ w0 D w v x, Rx w0 D w v x → p.rep1 w (fun b => b = D ∨ w0.heap.size ≤ b) v x) : ∀ w pb D rs, pb ≠ D → D < w.heap.size → RdAt C.E.tRd w pb D rs →
    Ret P (p.fR C.E fl) #[.pointer (some ⟨pb, 0, none⟩)] w fun v w' => p.rep1 w' (fun b => b = D ∨ w.heap.size ≤ b) v (p.rd fl rs).1 ∧ Ext (· = pb) w w' ∧ RdAt C.E.tRd w' pb D (p.rd fl rs).2 := by
  intro w pb D rs hne hD hr
  subst hf
  rw [hg]
  refine (h w pb D rs hne hD hr).mono ?_
  rintro v w1 ⟨h2, he, hr1⟩
  exact ⟨h1 _ _ _ _ _ h2, he, hr1⟩
theorem primR_uuid (h : RdPC P C.E.tRd C.E.f_pkbin_Reader_Uuid RUuid rdUuid) : PrimR P C .uuid := fun fl _ => primRP_of rfl h rfl (fun _ _ _ _ _ h => h)
theorem primR_nstr (h : RdPC P C.E.tRd C.E.f_pkbin_Reader_NullableString RNStr rdNStr) (hc : C.fx = true → RdPC P C.E.tRd C.E.f_pkbin_Reader_CompactNullableString RNStr rdCNStr) : PrimR P C .nstr := by
  intro fl hx
  cases fl
  · exact primRP_of rfl h rfl (fun w0 D w v x h => show StrPtr w (fun b => b = D ∨ w0.heap.size ≤ b) v x from StrPtr.mono (fun _ hb => Or.inr hb) h)
  · exact primRP_of rfl (hc (hx rfl)) rfl (fun w0 D w v x h => show StrPtr w (fun b => b = D ∨ w0.heap.size ≤ b) v x from StrPtr.mono (fun _ hb => Or.inr hb) h)
theorem primR_bytes (h : RdPC P C.E.tRd C.E.f_pkbin_Reader_Bytes RBytes rdBytes) (hc : C.fx = true → RdPC P C.E.tRd C.E.f_pkbin_Reader_CompactBytes RBytes rdCBytes) : PrimR P C .bytes := by
  intro fl hx
  cases fl
  · exact primRP_of rfl h rfl (fun w0 D w v x h => show BytesAt w (fun b => b = D ∨ w0.heap.size ≤ b) v x from BytesAt.mono h (fun _ _ hb => Or.inl hb))
  · exact primRP_of rfl (hc (hx rfl)) rfl (fun w0 D w v x h => show BytesAt w (fun b => b = D ∨ w0.heap.size ≤ b) v x from BytesAt.mono h (fun _ _ hb => Or.inl hb))
theorem primR_nbytes (h : RdPC P C.E.tRd C.E.f_pkbin_Reader_NullableBytes RNBytes rdNBytes) (hc : C.fx = true → RdPC P C.E.tRd C.E.f_pkbin_Reader_CompactNullableBytes RNBytes rdCNBytes) : PrimR P C .nbytes := by
  intro fl hx
  cases fl
  · exact primRP_of rfl h rfl (fun w0 D w v x h => show BytesOpt w (fun b => b = D ∨ w0.heap.size ≤ b) v x from BytesOpt.mono (fun _ hb => Or.inl hb) h)
  · exact primRP_of rfl (hc (hx rfl)) rfl (fun w0 D w v x h => show BytesOpt w (fun b => b = D ∨ w0.heap.size ≤ b) v x from BytesOpt.mono (fun _ hb => Or.inl hb) h)

theorem lenRC_of (h : RdC P C.E.tRd C.E.f_pkbin_Reader_ArrayLen fun rs => (.int .i32 (rdLen rs).1, (rdLen rs).2)) (hc : C.fx = true → RdC P C.E.tRd C.E.f_pkbin_Reader_CompactArrayLen fun rs => (.int .i32 (rdCLen rs).1, (rdCLen rs).2)) : LenRC P C := by
  intro fl hx w pb D rs hne hr
  cases fl
  · exact h w pb D rs hne hr
  · exact hc (hx rfl) w pb D rs hne hr
theorem endC_of (ht : TyRs P C.E) (kErr : kindOf P C.E.tErr = .scl) (h1 : FnIs P C.E.f_pkbin_Reader_Ok nt_pkbin_Reader_Ok (rs_pkbin_Reader_Ok C.E) (ir_pkbin_Reader_Ok C.E))
    (h2 : FnIs P C.E.f_pkbin_Reader_Complete nt_pkbin_Reader_Complete (rs_pkbin_Reader_Complete C.E) (ir_pkbin_Reader_Complete C.E)) : EndC P C :=
  ⟨fun w pb D rs hr => c_Ok ht h1 hr, fun w pb D rs ev hr hev => c_Complete ht kErr h2 hr hev⟩
end
end Go.Kg

set_option linter.unusedSimpArgs false
set_option linter.unusedVariables false
set_option linter.unusedSectionVars false
namespace Go.Kg
open Go

/-- what is told of a thing lies in blocks that are there -/
theorem Sch.Rep_lt {w : World} {K : Nat → Prop} : ∀ (S : Sch) {cs : List Value} {x : S.T}, S.Rep w K cs x → S.Rep w (fun k => k < w.heap.size) cs x := by
  have hB : ∀ {v : Value} {s : List UInt8}, BytesAt w K v s → BytesAt w (fun k => k < w.heap.size) v s := by
    rintro v s (h | ⟨b, o, c, h1, h2, h3, h4⟩)
    · exact .inl h
    · refine .inr ⟨b, o, c, h1, h2, fun hs => ?_, h4⟩
      cases s with
      | nil => exact absurd rfl hs
      | cons y s => exact World.block_lt_of_cell? w _ (h4 0 y rfl)
  have hP : ∀ {p : Prim} {v : Value} {x : p.T}, p.rep1 w K v x → p.rep1 w (fun k => k < w.heap.size) v x := by
    intro p v x h
    cases p with
    | bytes => exact hB h
    | nstr =>
      cases x with
      | none => exact h
      | some l => obtain ⟨a, h1, _, h3⟩ := h; exact ⟨a, h1, World.block_lt_of_cell? w _ h3, h3⟩
    | nbytes =>
      cases x with
      | none => exact h
      | some l => exact ⟨hB h.1, h.2⟩
    | _ => exact h
  intro S
  induction S with
  | fin => intro cs x h; trivial
  | tags k o =>
    intro cs x ⟨v, h1, h2⟩
    refine ⟨v, h1, ?_⟩
    rcases h2 with h | ⟨b, es, clock, rfl, hk, hb, hs, hn, hl, hx⟩
    · exact .inl h
    · refine .inr ⟨b, es, clock, rfl, lt_of_heap hb, hb, hs, hn, hl, fun i e x h1 h2 => ?_⟩
      obtain ⟨a1, a2, a3, a4⟩ := hx i e x h1 h2
      exact ⟨a1, a2, a3, hB a4⟩
  | prim g k o p en d rest ih => intro cs x ⟨⟨v, h1, h2⟩, h3⟩; exact ⟨⟨v, h1, hP h2⟩, ih h3⟩
  | arrP g k o sT nul p rest ih =>
    intro cs x ⟨⟨v, ls, h1, h2, h3, h4, h5⟩, h6⟩
    refine ⟨⟨v, ls, h1, ?_, h3, h4, fun i es y hi hy => ?_⟩, ih h6⟩
    · cases ls with
      | none => exact h2
      | some ls => obtain ⟨b, o, c, rfl, hk, hn, hx⟩ := h2; exact ⟨b, o, c, rfl, h3.2 _ _ _ rfl, hn, hx⟩
    · obtain ⟨u, a1, a2⟩ := h5 i es y hi hy
      exact ⟨u, a1, hP a2⟩
  | arrS g k o sT nul T PT sz df e rest ihe ih =>
    intro cs x ⟨⟨v, ls, h1, h2, h3, h4, h5⟩, h6⟩
    refine ⟨⟨v, ls, h1, ?_, h3, h4, fun i es y hi hy => ihe (h5 i es y hi hy)⟩, ih h6⟩
    cases ls with
    | none => exact h2
    | some ls => obtain ⟨b, o, c, rfl, hk, hn, hx⟩ := h2; exact ⟨b, o, c, rfl, h3.2 _ _ _ rfl, hn, hx⟩

/-! ## impl.Again.. -/
def irRF (C : Cfg) (PT fR : Nat) : Ir :=
  .seq (.reg [⟨none, some 4, .assign (.const .nilIface), C.E.tErr⟩])
  (.seq (.reg [⟨none, some 5, .move (.tmp 0), PT⟩, ⟨none, some 6, .move (.tmp 1), C.E.tBs⟩, ⟨none, some 7, .call { callee := .value (.func fR), args := #[.tmp 5, .tmp 6, .const (.bool false)], argTypes := #[PT, C.E.tBs, C.E.tB] }, C.E.tErr⟩,
    ⟨none, some 4, .assign (.tmp 7), C.E.tErr⟩]) .ret)
theorem c_RF {P : Program} {C : Cfg} {PT fR g nt : Nat} (hnt : 2 ≤ nt) (hI : FnIs P g nt [.t 4] (irRF C PT fR)) {u v : Value} {w : World} {X : Value → World → Prop} (h : Ret P fR #[u, v, .bool false] w X) : Ret P g #[u, v] w X := by
  refine hI.call (args := [_, _]) hnt ?_
  simp [irRF]
  refine h.mono ?_
  intro v' w' hx
  simpa using hx

def irAgain (C : Cfg) (PT fPtr fSet fRF fApp : Nat) : Ir :=
  .seq (.reg [⟨none, some 4, .assign (.const (.slice none 0 0)), C.E.tBs⟩, ⟨none, some 5, .assign (.const (.bool false)), C.E.tB⟩])
  (.seq (.reg [⟨none, some 7, .call { callee := .value (.func fPtr), args := #[], argTypes := #[] }, PT⟩, ⟨none, some 6, .assign (.tmp 7), PT⟩])
  (.seq (.reg [⟨none, some 8, .move (.tmp 6), PT⟩, ⟨none, some 9, .move (.tmp 0), C.E.tInt⟩, ⟨none, some 10, .convert C.E.tInt C.E.tI16 (.tmp 9), C.E.tI16⟩,
    ⟨none, some 11, .call { callee := .value (.func fSet), args := #[.tmp 8, .tmp 10], argTypes := #[PT, C.E.tI16] }, C.E.tNil⟩])
  (.seq (.seq (.reg [⟨none, some 12, .move (.tmp 6), PT⟩, ⟨none, some 13, .move (.tmp 1), C.E.tBs⟩, ⟨none, some 14, .call { callee := .builtin .append, args := #[.const (.slice none 0 0), .tmp 13], argTypes := #[C.E.tBs, C.E.tBs] }, C.E.tBs⟩,
      ⟨none, some 15, .call { callee := .value (.func fRF), args := #[.tmp 12, .tmp 14], argTypes := #[PT, C.E.tBs] }, C.E.tErr⟩, ⟨none, some 16, .binOp .neq C.E.tErr (.tmp 15) (.const .nilIface) C.E.tErr, C.E.tB⟩])
    (.cond 16 (.seq (.reg [⟨none, some 4, .assign (.const (.slice none 0 0)), C.E.tBs⟩, ⟨none, some 5, .assign (.const (.bool false)), C.E.tB⟩]) .ret) .skip))
  (.seq (.reg [⟨none, some 17, .move (.tmp 6), PT⟩, ⟨none, some 18, .call { callee := .value (.func fApp), args := #[.tmp 17, .const (.slice none 0 0)], argTypes := #[PT, C.E.tBs] }, C.E.tBs⟩,
    ⟨none, some 4, .assign (.tmp 18), C.E.tBs⟩, ⟨none, some 5, .assign (.const (.bool true)), C.E.tB⟩]) .ret))))

theorem BytesAt.oneD {w : World} {K : Nat → Prop} {v : Value} {s : List UInt8} (h : BytesAt w K v s) (D0 : Nat) : ∃ D, BytesAt w (· = D) v s ∧ (D = D0 ∨ (K D ∧ D < w.heap.size)) := by
  rcases h with h | ⟨b, o, c, rfl, h1, h2, h3⟩
  · exact ⟨D0, .inl h, .inl rfl⟩
  · cases s with
    | nil => exact ⟨D0, .inr ⟨b, o, c, rfl, h1, by simp, by simp⟩, .inl rfl⟩
    | cons x s => exact ⟨b, .inr ⟨b, o, c, rfl, h1, fun _ => rfl, h3⟩, .inr ⟨h2 (by simp), World.block_lt_of_cell? w _ (h3 0 x rfl)⟩⟩

/-- what Again hands back -/
def AgainPost (S : Sch) (ver : Int) (fl : Bool) (src : List UInt8) (w : World) (u : Value) (w' : World) : Prop :=
  Ext none1 w w' ∧ ∃ nn, match S.rd ver fl ⟨src, false, nn⟩ with
    | some (x, rs) => if rs.bad then u = .tuple #[.slice none 0 0, .bool false] else ∃ v, u = .tuple #[v, .bool true] ∧ BytesAt w' (fun k => w.heap.size ≤ k) v (S.wr ver fl x)
    | none => u = .tuple #[.slice none 0 0, .bool false]

theorem againC {P : Program} {C : CfgR} {T PT flex n g nt fPtr fSet fRF fApp fR df nl nl2 ntR ntRF : Nat} {S : Sch} {z : Array Value} {et : Nat} {ev : Value} (hnt : 2 ≤ nt) (hI : FnIs P g nt [.t 4, .t 5] (irAgain C.toCfg PT fPtr fSet fRF fApp))
    (hRF : FnIs P fRF ntRF [.t 4] (irRF C.toCfg PT fR)) (hntRF : 2 ≤ ntRF) (hm : MsgRk P C T PT flex df n S nl) (hntR : 3 ≤ ntR) (hR : FnIs P fR ntR [.t 6] (msgR C T PT flex df false S nl))
    (hPtr : ∀ w, Ret P fPtr #[] w fun v w' => v = .pointer (some ⟨w.heap.size, 0, none⟩) ∧ w'.heap[w.heap.size]? = some (.cells (setD 0 (S.dst C.toCfg) z) T (0, 0)) ∧ Ext none1 w w' ∧ w.heap.size < w'.heap.size)
    (hSet : ∀ {w : World} {b : Nat} {c : Array Value} {e : TypeId}, w.heap[b]? = some (.cells c e (0, 0)) → 0 < c.size → ∀ ver : Int, Ret P fSet #[.pointer (some ⟨b, 0, none⟩), .int .i16 ver] w fun _ w' => w' = w.setBlk b (.cells (c.setIfInBounds 0 (.int .i16 ver)) e (0, 0)))
    (hApp : ∀ {w : World} {b a base : Nat} {cs : List Value} {x : S.T} {ver : Int} {v : Value} {s : List UInt8}, CellsAt w b a cs → cs[0]? = some (.int .i16 ver) → S.Rep w (· < base) cs x → S.TagsOk tagsOk x → b < base → OwnB C.E.tU8 w base v s → base ≤ w.heap.size →
      s.length + (S.wr ver (flagAt C.toCfg flex ver) x).length ≤ 1099511627776 → Ret P fApp #[.pointer (some ⟨b, a, none⟩), v] w fun v' w' => OwnB C.E.tU8 w' base v' (s ++ S.wr ver (flagAt C.toCfg flex ver) x) ∧ Grew w v w' v')
    (iI16 : intKind? P C.E.tI16 = some .i16) (iInt : intKind? P C.E.tInt = some .i64) (tBs : SliI P C.E.tBs C.E.tU8 1 1 (.int .u8 0)) (uErr : ∃ ms, P.underlying C.E.tErr = some (.interface ms)) (hev : ∃ t v, ev = .iface t v) (hn : z.size = n) (hn1 : 1 ≤ n)
    (hidem : ∀ ver : Int, (setD 0 (S.dst C.toCfg) ((setD 0 (S.dst C.toCfg) z).setIfInBounds 0 (.int .i16 ver))) = (setD 0 (S.dst C.toCfg) z).setIfInBounds 0 (.int .i16 ver))
    (hchk : ∀ ver : Int, S.chkD ((setD 0 (S.dst C.toCfg) z).setIfInBounds 0 (.int .i16 ver)).toList = true) (ver : Int) (hv : 0 ≤ ver ∧ ver < 32768)
    {w : World} {K : Nat → Prop} {sv : Value} {src : List UInt8} (hsrc : BytesAt w K sv src) (hlen : src.length ≤ 1099511627776) (herr : w.cell? ⟨C.E.g_kbin_ErrNotEnoughData, 0, none⟩ = some ev)
    (hgood : ∀ nn x rs, S.rd ver (flagAt C.toCfg flex ver) ⟨src, false, nn⟩ = some (x, rs) → rs.bad = false → S.TagsOk tagsOk x ∧ (S.wr ver (flagAt C.toCfg flex ver) x).length ≤ 1099511627776) :
    Ret P g #[.int .i64 ver, sv] w fun u w' => AgainPost S ver (flagAt C.toCfg flex ver) src w u w' := by
  refine hI.call (args := [_, _]) hnt ?_
  simp [irAgain]
  refine (hPtr w).mono ?_
  rintro v w1 ⟨rfl, hb1, he1, hlt1⟩
  have e1 : IntKind.i16.wrap ver = ver := by simp [IntKind.wrap, IntKind.signed, IntKind.bits]; omega
  simp [iI16, iInt, e1]
  have hs0 : 0 < (setD 0 (S.dst C.toCfg) z).size := by rw [setD_size]; omega
  refine (hSet hb1 hs0 ver).mono ?_
  rintro v w2 rfl
  generalize hcc : (setD 0 (S.dst C.toCfg) z).setIfInBounds 0 (.int .i16 ver) = cc
  have hccn : cc.size = n := by subst hcc; simp [setD_size, hn]
  generalize hw2 : w1.setBlk w.heap.size (.cells cc T (0, 0)) = w2
  have hb2 : w2.heap[w.heap.size]? = some (.cells cc T (0, 0)) := by subst hw2; exact setBlk_same hb1
  have he2 : Ext none1 w w2 := by subst hw2; exact he1.setBlk (.inl (Nat.le_refl _)) _
  have hsz2 : w.heap.size < w2.heap.size := by subst hw2; simpa using hlt1
  have hsrc2 : BytesAt w2 K sv src := hsrc.ext he2 (fun _ _ _ h => h)
  refine st_app_bytes tBs (s := []) (base := w2.heap.size) (v := .slice none 0 0) (by simp) (by simpa [OwnB, cellsOf] using Own.nil w2 w2.heap.size C.E.tU8 1) (Nat.le_refl _) (k := K) (bs := src) (by simpa using hsrc2) (by simpa using hlen) ?_
  intro v3 w3 ho3 hg3
  rw [List.nil_append] at ho3
  have he23 : Ext none1 w2 w3 := hg3.ext.mono (fun k _ h => by simp [own1, Value.ownBlock] at h)
  have hgw : C.E.g_kbin_ErrNotEnoughData < w.heap.size := World.block_lt_of_cell? w _ herr
  have hsz3 := hg3.size
  obtain ⟨D, hD, hD2⟩ := (own_bytesK ho3).oneD C.E.g_kbin_ErrNotEnoughData
  have hDlt : D < w3.heap.size := by rcases hD2 with h | h <;> omega
  have hbD : w.heap.size ≠ D := by rcases hD2 with h | h <;> omega
  have hb3 := he23.old hb2 (fun h => h)
  have hid := hidem ver
  rw [hcc] at hid
  have hcc0 : cc[0]? = some (.int .i16 ver) := by subst hcc; simp [hs0]
  have hck := hchk ver
  rw [hcc] at hck
  have hseg : segL cc 0 n = cc.toList := by rw [← hccn]; simp only [segL, List.drop_zero]; exact List.take_of_length_le (by simp)
  have hrd := readFrom (w := w3) (b := w.heap.size) (a := 0) (D := D) (cc := cc) (e := T) (ver := ver) (ev := ev) hm hntR hR hb3 (by omega) (by rw [hid]; exact hcc0) (by rw [hid, hseg]; exact hck) hD hDlt hbD (he23.cell (he2.cell herr (fun h => h)) (fun h => h)) (by omega)
  rw [hid] at hrd
  have he03 : Ext none1 w w3 := he2.trans he23
  obtain ⟨ms, hms⟩ := uErr
  obtain ⟨tv, vv, rfl⟩ := hev
  refine (c_RF hntRF hRF hrd).mono ?_
  rintro v4 w4 ⟨he4, hnone, hsome⟩
  have he04 : Ext none1 w w4 := he03.trans' he4 (fun k hk hk2 => by have h3 : k = w.heap.size := hk2; omega)
  cases hx : S.rd ver (flagAt C.toCfg flex ver) ⟨src, false, nonNil v3⟩ with
  | none =>
    have := hnone hx
    subst this
    simp [bin_nnil_iface hms]
    refine cw_true (by simp) ?_
    simp
    exact ⟨he04, nonNil v3, by rw [hx]⟩
  | some p =>
    obtain ⟨x, rs⟩ := p
    obtain ⟨hv4, cc4, hb4, hsz4, hsame4, hrep4⟩ := hsome x rs hx
    cases hbad : rs.bad with
    | true =>
      rw [hbad] at hv4
      simp at hv4
      subst hv4
      simp [bin_nnil_iface hms]
      refine cw_true (by simp) ?_
      simp
      exact ⟨he04, nonNil v3, by rw [hx]; simp [hbad]⟩
    | false =>
      rw [hbad] at hv4
      simp at hv4
      subst hv4
      obtain ⟨hok, hszx⟩ := hgood _ _ _ hx hbad
      simp [bin_nnil_nil hms]
      refine cw_false (by simp) ?_
      simp
      refine (hApp (base := w4.heap.size) (b := w.heap.size) (a := 0) (cs := segL cc4 0 n) (x := x) (ver := ver) (s := []) (cellsAt_seg hb4) ?_ ?_ hok ?_ (by simpa [OwnB, cellsOf] using Own.nil w4 w4.heap.size C.E.tU8 1) (Nat.le_refl _) (by simpa using hszx)).mono ?_
      · rw [segL_get (by omega), hsame4 _ (.inl (by omega))]; exact hcc0
      · exact Sch.Rep_lt S hrep4
      · exact lt_of_heap hb4
      · rintro v5 w5 ⟨ho5, hg5⟩
        rw [List.nil_append] at ho5
        refine ⟨?_, nonNil v3, ?_⟩
        · exact he04.trans (hg5.ext.mono (fun k _ h => by simp [own1, Value.ownBlock] at h))
        · rw [hx]
          simp [hbad]
          exact BytesAt.mono (own_bytesK ho5) (fun k _ h => by have := he04.size; omega)
end Go.Kg

set_option linter.unusedSimpArgs false
set_option linter.unusedVariables false
set_option linter.unusedSectionVars false
namespace Go.Kg
open Go

/-! ## Whatever is read may be written, and is then no longer than it was -/
theorem fixed_any {k : Nat} {rs : RS} (h : (rdFixed k rs).2.bad = false) : (rdFixed k rs).2.src.length + k = rs.src.length ∧ (rdFixed k rs).1 < 256 ^ k ∧ (rdFixed k rs).2.bad = rs.bad ∧ (rdFixed k rs).2.nn = true := by
  unfold rdFixed at h ⊢
  split at h
  · cases h
  · rename_i hl
    rw [if_neg hl]
    exact ⟨by simp; omega, be_take_lt _ _, rfl, rfl⟩
theorem uv_any {rs : RS} (h : (rdUv rs).2.bad = false) : (uvOut (rdUv rs).1).length + (rdUv rs).2.src.length ≤ rs.src.length ∧ (rdUv rs).1 < 4294967296 ∧ (rdUv rs).2.nn = true := by
  have hlt := rdUv_lt rs
  refine ⟨?_, hlt, ?_⟩
  · unfold rdUv at h ⊢
    split at h
    · rename_i n r e
      exact uvE_le e
    · cases h
  · unfold rdUv at h ⊢
    split at h
    · rfl
    · cases h
theorem span_any {l : Int} {rs : RS} (h : (rdSpan l rs).2.bad = false) : 0 ≤ l ∧ ((rdSpan l rs).1.length : Int) = l ∧ (rdSpan l rs).1.length + (rdSpan l rs).2.src.length = rs.src.length ∧ (rdSpan l rs).2.nn = rs.nn := by
  unfold rdSpan at h ⊢
  split at h
  · cases h
  · rename_i hl
    rw [if_neg hl]
    refine ⟨by omega, ?_, ?_, rfl⟩
    · simp; omega
    · simp; omega
theorem cap_any {n : Int} {rs : RS} (h : (capLen n rs).2.bad = false) : (capLen n rs).1 = n ∧ (capLen n rs).2 = rs ∧ n ≤ rs.src.length := by
  unfold capLen at h ⊢
  split at h
  · cases h
  · rename_i hl
    rw [if_neg hl]
    exact ⟨rfl, rfl, by omega⟩

/-- what reading p leaves -/
def AnyP (p : Prim) (fl : Bool) (rs : RS) : Prop := (p.rd fl rs).2.bad = false → rs.src.length ≤ 32767 → p.wf (p.rd fl rs).1 ∧ (p.wr fl (p.rd fl rs).1).length + (p.rd fl rs).2.src.length ≤ rs.src.length

theorem str_any {rs : RS} (h : (rdStr rs).2.bad = false) (hs : rs.src.length ≤ 32767) : (rdStr rs).1.length ≤ 32767 ∧ (wStr (rdStr rs).1).length + (rdStr rs).2.src.length ≤ rs.src.length := by
  obtain ⟨h1, h2, h3, h4⟩ := span_any h
  have hb : (rdFixed 2 rs).2.bad = false := by
    cases hx : (rdFixed 2 rs).2.bad
    · rfl
    · have := (good_span (i16 (rdFixed 2 rs).1)).bad _ hx
      rw [show rdSpan (i16 (rdFixed 2 rs).1) (rdFixed 2 rs).2 = rdStr rs from rfl, h] at this; cases this
  have h5 := (fixed_any hb).1
  change (rdStr rs).1.length + (rdStr rs).2.src.length = _ at h3
  refine ⟨by omega, ?_⟩
  simp only [wStr, List.length_append, bigE_length]
  omega
theorem cstr_any {rs : RS} (h : (rdCStr rs).2.bad = false) (hs : rs.src.length ≤ 32767) : (rdCStr rs).1.length ≤ 32767 ∧ (wCStr (rdCStr rs).1).length + (rdCStr rs).2.src.length ≤ rs.src.length := by
  obtain ⟨h1, h2, h3, h4⟩ := span_any h
  have hb : (rdUv rs).2.bad = false := by
    cases hx : (rdUv rs).2.bad
    · rfl
    · have := (good_span ((rdUv rs).1 - 1)).bad _ hx
      rw [show rdSpan (((rdUv rs).1 : Int) - 1) (rdUv rs).2 = rdCStr rs from rfl, h] at this; cases this
  obtain ⟨h5, h6, _⟩ := uv_any hb
  change (rdCStr rs).1.length + (rdCStr rs).2.src.length = _ at h3
  change ((rdCStr rs).1.length : Int) = _ at h2
  refine ⟨by omega, ?_⟩
  have e : ((rdCStr rs).1.length + 1) % 4294967296 = (rdUv rs).1 := by omega
  simp only [wCStr, List.length_append, e]
  omega
theorem nstr_any {rs : RS} (h : (rdNStr rs).2.bad = false) (hs : rs.src.length ≤ 32767) : ((rdNStr rs).1.getD []).length ≤ 32767 ∧ (wNStr (rdNStr rs).1).length + (rdNStr rs).2.src.length ≤ rs.src.length := by
  unfold rdNStr at h ⊢
  by_cases hn : i16 (rdFixed 2 rs).1 < 0
  · simp only [if_pos hn] at h ⊢
    have := (fixed_any h).1
    simp [wNStr]; omega
  · simp only [if_neg hn] at h ⊢
    exact str_any h hs
theorem cnstr_any {rs : RS} (h : (rdCNStr rs).2.bad = false) (hs : rs.src.length ≤ 32767) : ((rdCNStr rs).1.getD []).length ≤ 32767 ∧ (wCNStr (rdCNStr rs).1).length + (rdCNStr rs).2.src.length ≤ rs.src.length := by
  unfold rdCNStr at h ⊢
  by_cases hn : ((rdUv rs).1 : Int) - 1 < 0
  · simp only [if_pos hn] at h ⊢
    have h1 := (uv_any h).1
    have h2 := uvE_mono (k := 4) (Nat.zero_le (rdUv rs).1)
    refine ⟨by simp, ?_⟩
    simp only [wCNStr]
    have h3 : (uvOut 0).length ≤ (uvOut (rdUv rs).1).length := h2
    omega
  · simp only [if_neg hn] at h ⊢
    exact cstr_any h hs
theorem bytes_any {rs : RS} (h : (rdBytes rs).2.bad = false) (hs : rs.src.length ≤ 32767) : (rdBytes rs).1.length ≤ 32767 ∧ (wBytes (rdBytes rs).1).length + (rdBytes rs).2.src.length ≤ rs.src.length := by
  unfold rdBytes at h ⊢
  by_cases hn : i32 (rdFixed 4 rs).1 = -1
  · simp only [if_pos hn] at h ⊢
    have := (fixed_any h).1
    simp [wBytes]; omega
  · simp only [if_neg hn] at h ⊢
    obtain ⟨h1, h2, h3, h4⟩ := span_any h
    have hb : (rdFixed 4 rs).2.bad = false := by
      cases hx : (rdFixed 4 rs).2.bad
      · rfl
      · have := (good_span (i32 (rdFixed 4 rs).1)).bad _ hx
        rw [h] at this; cases this
    have h5 := (fixed_any hb).1
    refine ⟨by omega, ?_⟩
    simp only [wBytes, List.length_append, bigE_length]
    omega
theorem cbytes_any {rs : RS} (h : (rdCBytes rs).2.bad = false) (hs : rs.src.length ≤ 32767) : (rdCBytes rs).1.length ≤ 32767 ∧ (wCBytes (rdCBytes rs).1).length + (rdCBytes rs).2.src.length ≤ rs.src.length := by
  unfold rdCBytes at h ⊢
  by_cases hn : (rdUv rs).1 = 0
  · simp only [if_pos hn] at h ⊢
    have h1 := (uv_any h).1
    have h3 : (uvOut 1).length = 1 := by decide
    have h4 : 1 ≤ (uvOut (rdUv rs).1).length := uvE_pos
    refine ⟨by simp, ?_⟩
    simp only [wCBytes, List.length_append, List.length_nil]
    have e : (0 + 1) % 4294967296 = 1 := rfl
    rw [e]
    omega
  · simp only [if_neg hn] at h ⊢
    obtain ⟨h1, h2, h3, h4⟩ := span_any h
    have hb : (rdUv rs).2.bad = false := by
      cases hx : (rdUv rs).2.bad
      · rfl
      · have := (good_span ((rdUv rs).1 - 1)).bad _ hx
        rw [h] at this; cases this
    obtain ⟨h5, h6, _⟩ := uv_any hb
    refine ⟨by omega, ?_⟩
    have e : ((rdSpan ((rdUv rs).1 - 1) (rdUv rs).2).1.length + 1) % 4294967296 = (rdUv rs).1 := by omega
    simp only [wCBytes, List.length_append, e]
    omega
theorem nbytes_any {rs : RS} (h : (rdNBytes rs).2.bad = false) (hs : rs.src.length ≤ 32767) : ((rdNBytes rs).1.getD []).length ≤ 32767 ∧ (wNBytes (rdNBytes rs).1).length + (rdNBytes rs).2.src.length ≤ rs.src.length := by
  unfold rdNBytes at h ⊢
  by_cases hn : i32 (rdFixed 4 rs).1 < 0
  · simp only [if_pos hn] at h ⊢
    have := (fixed_any h).1
    simp [wNBytes]; omega
  · simp only [if_neg hn] at h ⊢
    have h' : (rdSpan (i32 (rdFixed 4 rs).1) (rdFixed 4 rs).2).2.bad = false := h
    obtain ⟨h1, h2, h3, h4⟩ := span_any h'
    have hb : (rdFixed 4 rs).2.bad = false := by
      cases hx : (rdFixed 4 rs).2.bad
      · rfl
      · have := (good_span (i32 (rdFixed 4 rs).1)).bad _ hx
        rw [h'] at this; cases this
    obtain ⟨h5, _, _, h6⟩ := fixed_any hb
    simp only [optOf, h4, h6, if_true, Option.getD_some, wNBytes, wBytes, List.length_append, bigE_length]
    omega
theorem cnbytes_any {rs : RS} (h : (rdCNBytes rs).2.bad = false) (hs : rs.src.length ≤ 32767) : ((rdCNBytes rs).1.getD []).length ≤ 32767 ∧ (wCNBytes (rdCNBytes rs).1).length + (rdCNBytes rs).2.src.length ≤ rs.src.length := by
  unfold rdCNBytes at h ⊢
  by_cases hn : ((rdUv rs).1 : Int) - 1 < 0
  · simp only [if_pos hn] at h ⊢
    have h1 := (uv_any h).1
    have h3 : (uvOut 0).length ≤ (uvOut (rdUv rs).1).length := uvE_mono (k := 4) (Nat.zero_le (rdUv rs).1)
    refine ⟨by simp, ?_⟩
    simp only [wCNBytes]
    omega
  · simp only [if_neg hn] at h ⊢
    have h' : (rdSpan ((rdUv rs).1 - 1) (rdUv rs).2).2.bad = false := h
    obtain ⟨h1, h2, h3, h4⟩ := span_any h'
    have hb : (rdUv rs).2.bad = false := by
      cases hx : (rdUv rs).2.bad
      · rfl
      · have := (good_span ((rdUv rs).1 - 1)).bad _ hx
        rw [h'] at this; cases this
    obtain ⟨h5, h6, h7⟩ := uv_any hb
    have e : ((rdSpan ((rdUv rs).1 - 1) (rdUv rs).2).1.length + 1) % 4294967296 = (rdUv rs).1 := by omega
    simp only [optOf, h4, h7, if_true, Option.getD_some, wCNBytes, wCBytes, List.length_append, e]
    omega

theorem any_prim (p : Prim) (fl : Bool) (rs : RS) : AnyP p fl rs := by
  intro h hs
  cases p with
  | bool =>
    have h1 := (fixed_any (k := 1) h).1
    exact ⟨trivial, by show 1 + (rdFixed 1 rs).2.src.length ≤ _; omega⟩
  | i8 =>
    have h1 := (fixed_any (k := 1) h).1
    refine ⟨?_, by show 1 + (rdFixed 1 rs).2.src.length ≤ _; omega⟩
    show -128 ≤ IntKind.i8.wrap (rdFixed 1 rs).1 ∧ IntKind.i8.wrap (rdFixed 1 rs).1 < 128
    simp [IntKind.wrap, IntKind.signed, IntKind.bits]; omega
  | i16 =>
    have h1 := (fixed_any (k := 2) h).1
    refine ⟨?_, by show (num 2 _).length + (rdFixed 2 rs).2.src.length ≤ _; simp [num]; omega⟩
    show -32768 ≤ IntKind.i16.wrap (rdFixed 2 rs).1 ∧ IntKind.i16.wrap (rdFixed 2 rs).1 < 32768
    simp [IntKind.wrap, IntKind.signed, IntKind.bits]; omega
  | u16 =>
    obtain ⟨h1, h2, _⟩ := fixed_any (k := 2) h
    refine ⟨?_, by show (num 2 _).length + (rdFixed 2 rs).2.src.length ≤ _; simp [num]; omega⟩
    show 0 ≤ ((rdFixed 2 rs).1 : Int) ∧ ((rdFixed 2 rs).1 : Int) < 65536
    omega
  | i32 =>
    have h1 := (fixed_any (k := 4) h).1
    refine ⟨?_, by show (num 4 _).length + (rdFixed 4 rs).2.src.length ≤ _; simp [num]; omega⟩
    show -2147483648 ≤ IntKind.i32.wrap (rdFixed 4 rs).1 ∧ IntKind.i32.wrap (rdFixed 4 rs).1 < 2147483648
    simp [IntKind.wrap, IntKind.signed, IntKind.bits]; omega
  | i64 =>
    have h1 := (fixed_any (k := 8) h).1
    refine ⟨?_, by show (num 8 _).length + (rdFixed 8 rs).2.src.length ≤ _; simp [num]; omega⟩
    show -9223372036854775808 ≤ IntKind.i64.wrap (rdFixed 8 rs).1 ∧ IntKind.i64.wrap (rdFixed 8 rs).1 < 9223372036854775808
    simp [IntKind.wrap, IntKind.signed, IntKind.bits]; omega
  | uuid =>
    obtain ⟨h1, h2, h3, h4⟩ := span_any (l := 16) h
    have h16 : (rdSpan 16 rs).1.length = 16 := by omega
    have e : (rdUuid rs).1 = (rdSpan 16 rs).1 := by simp only [rdUuid, h16, if_true]
    refine ⟨?_, ?_⟩
    · show (rdUuid rs).1.length = 16; rw [e]; exact h16
    · show (rdUuid rs).1.length + (rdSpan 16 rs).2.src.length ≤ _; rw [e]; omega
  | str => cases fl; exact str_any h hs; exact cstr_any h hs
  | nstr => cases fl; exact nstr_any h hs; exact cnstr_any h hs
  | bytes => cases fl; exact bytes_any h hs; exact cbytes_any h hs
  | nbytes => cases fl; exact nbytes_any h hs; exact cnbytes_any h hs
end Go.Kg

set_option linter.unusedSimpArgs false
set_option linter.unusedVariables false
set_option linter.unusedSectionVars false
namespace Go.Kg
open Go

theorem insTag_flat (x : Nat × List UInt8) : ∀ l : TagL, ((insTag x l).flatMap tagW).length = (tagW x).length + (l.flatMap tagW).length
  | [] => by simp [insTag]
  | y :: l => by
    have := insTag_flat x l
    simp only [insTag]
    split
    · simp only [List.flatMap_cons, List.length_append]
    · simp only [List.flatMap_cons, List.length_append, this]; omega
theorem sortTags_flat : ∀ l : TagL, ((sortTags l).flatMap tagW).length = (l.flatMap tagW).length
  | [] => rfl
  | x :: l => by rw [sortTags, insTag_flat, sortTags_flat l]; simp only [List.flatMap_cons, List.length_append]
theorem tagsOut_len (l : TagL) : (tagsOut l).length = (l.flatMap tagW).length := sortTags_flat l

theorem setTag_mem (k : Nat) (v : List UInt8) : ∀ (l : TagL) x, x ∈ setTag k v l → x = (k, v) ∨ x ∈ l
  | [], x, h => by simp [setTag] at h; exact .inl h
  | y :: l, x, h => by
    simp only [setTag] at h
    split at h
    · rcases List.mem_cons.1 h with h | h
      · exact .inl h
      · exact .inr (List.mem_cons_of_mem _ h)
    · rcases List.mem_cons.1 h with h | h
      · exact .inr (h ▸ List.mem_cons_self)
      · rcases setTag_mem k v l x h with h | h
        · exact .inl h
        · exact .inr (List.mem_cons_of_mem _ h)
theorem setTag_len (k : Nat) (v : List UInt8) : ∀ l : TagL, (setTag k v l).length ≤ l.length + 1 ∧ ((setTag k v l).flatMap tagW).length ≤ (tagW (k, v)).length + (l.flatMap tagW).length
  | [] => by simp [setTag]
  | y :: l => by
    obtain ⟨h1, h2⟩ := setTag_len k v l
    simp only [setTag]
    split
    · simp only [List.flatMap_cons, List.length_append, List.length_cons]; omega
    · simp only [List.flatMap_cons, List.length_append, List.length_cons]; omega
theorem setTag_nodup (k : Nat) (v : List UInt8) : ∀ l : TagL, (l.map (·.1)).Nodup → ((setTag k v l).map (·.1)).Nodup
  | [], _ => by simp [setTag]
  | y :: l, h => by
    simp only [List.map_cons, List.nodup_cons] at h
    simp only [setTag]
    split
    · rename_i e
      simp only [List.map_cons, List.nodup_cons]
      exact ⟨e ▸ h.1, h.2⟩
    · rename_i e
      simp only [List.map_cons, List.nodup_cons]
      refine ⟨fun hm => ?_, setTag_nodup k v l h.2⟩
      obtain ⟨x, hx, he⟩ := List.mem_map.1 hm
      rcases setTag_mem k v l x hx with rfl | hx
      · exact e he.symm
      · exact h.1 (List.mem_map.2 ⟨x, hx, he⟩)

def tagP (l : TagL) : Prop := (l.map (·.1)).Nodup ∧ ∀ x ∈ l, x.1 < 4294967296 ∧ x.2.length ≤ 32767
theorem tag_any {l : TagL} {rs : RS} (h : (rdTag l rs).2.bad = false) (hs : rs.src.length ≤ 32767) (hl : tagP l) : tagP (rdTag l rs).1 ∧ (rdTag l rs).1.length ≤ l.length + 1 ∧ (rdTag l rs).1.length + (rdTag l rs).2.src.length ≤ l.length + rs.src.length ∧
    ((rdTag l rs).1.flatMap tagW).length + (rdTag l rs).2.src.length ≤ (l.flatMap tagW).length + rs.src.length ∧ (rdTag l rs).2.src.length ≤ rs.src.length := by
  have hc : (rdSpan (rdUv (rdUv rs).2).1 (rdUv (rdUv rs).2).2).2.bad = false := h
  have hb : (rdUv (rdUv rs).2).2.bad = false := by
    cases hx : (rdUv (rdUv rs).2).2.bad
    · rfl
    · have := (good_span (rdUv (rdUv rs).2).1).bad _ hx
      rw [hc] at this; cases this
  have ha : (rdUv rs).2.bad = false := by
    cases hx : (rdUv rs).2.bad
    · rfl
    · have := good_uv.bad _ hx
      rw [hb] at this; cases this
  obtain ⟨a1, a2, _⟩ := uv_any ha
  obtain ⟨b1, b2, _⟩ := uv_any hb
  obtain ⟨c1, c2, c3, _⟩ := span_any hc
  have hr1 : (rdTag l rs).1 = setTag (rdUv rs).1 (rdSpan (rdUv (rdUv rs).2).1 (rdUv (rdUv rs).2).2).1 l := rfl
  have hr2 : (rdTag l rs).2 = (rdSpan (rdUv (rdUv rs).2).1 (rdUv (rdUv rs).2).2).2 := rfl
  rw [hr1, hr2]
  generalize (rdSpan (rdUv (rdUv rs).2).1 (rdUv (rdUv rs).2).2).2 = r3 at *
  generalize (rdSpan (rdUv (rdUv rs).2).1 (rdUv (rdUv rs).2).2).1 = v at *
  obtain ⟨s1, s2⟩ := setTag_len (rdUv rs).1 v l
  have hu : 1 ≤ (uvOut (rdUv rs).1).length := uvE_pos
  have hv : v.length ≤ 32767 := by omega
  refine ⟨⟨setTag_nodup _ _ l hl.1, fun x hx => ?_⟩, s1, by omega, ?_, by omega⟩
  · rcases setTag_mem _ _ l x hx with rfl | hx
    · exact ⟨a2, hv⟩
    · exact hl.2 x hx
  · have e : v.length % 4294967296 = (rdUv (rdUv rs).2).1 := by omega
    have e2 : (tagW ((rdUv rs).1, v)).length = (uvOut (rdUv rs).1).length + (uvOut (rdUv (rdUv rs).2).1).length + v.length := by simp only [tagW, List.length_append, e]
    omega
theorem tagN_any : ∀ (n : Nat) (l : TagL) (rs : RS), (rdTagN n l rs).2.bad = false → rs.src.length ≤ 32767 → tagP l → tagP (rdTagN n l rs).1 ∧ (rdTagN n l rs).1.length ≤ l.length + n ∧ (rdTagN n l rs).1.length + (rdTagN n l rs).2.src.length ≤ l.length + rs.src.length ∧
    ((rdTagN n l rs).1.flatMap tagW).length + (rdTagN n l rs).2.src.length ≤ (l.flatMap tagW).length + rs.src.length
  | 0, l, rs, _, _, hl => ⟨hl, Nat.le_refl _, Nat.le_refl _, Nat.le_refl _⟩
  | n + 1, l, rs, h, hs, hl => by
    have h' : (rdTagN n (rdTag l rs).1 (rdTag l rs).2).2.bad = false := h
    have ht : (rdTag l rs).2.bad = false := by
      cases hx : (rdTag l rs).2.bad
      · rfl
      · have := (good_tagN n (rdTag l rs).1).bad _ hx
        rw [h'] at this; cases this
    obtain ⟨a1, a2, a3, a4, a5⟩ := tag_any ht hs hl
    have hs2 : (rdTag l rs).2.src.length ≤ 32767 := by omega
    obtain ⟨b1, b2, b3, b4⟩ := tagN_any n (rdTag l rs).1 (rdTag l rs).2 h' hs2 a1
    show tagP (rdTagN n (rdTag l rs).1 (rdTag l rs).2).1 ∧ _
    exact ⟨b1, by show (rdTagN n (rdTag l rs).1 (rdTag l rs).2).1.length ≤ _; omega, by show (rdTagN n (rdTag l rs).1 (rdTag l rs).2).1.length + (rdTagN n (rdTag l rs).1 (rdTag l rs).2).2.src.length ≤ _; omega, by show ((rdTagN n (rdTag l rs).1 (rdTag l rs).2).1.flatMap tagW).length + (rdTagN n (rdTag l rs).1 (rdTag l rs).2).2.src.length ≤ _; omega⟩
theorem tags_any {rs : RS} (h : (rdTags rs).2.bad = false) (hs : rs.src.length ≤ 32767) : tagsOk (rdTags rs).1 ∧ (uvOut ((rdTags rs).1.length % 4294967296) ++ tagsOut (rdTags rs).1).length + (rdTags rs).2.src.length ≤ rs.src.length := by
  have h' : (rdTagN (rdUv rs).1 [] (rdUv rs).2).2.bad = false := h
  have hb : (rdUv rs).2.bad = false := by
    cases hx : (rdUv rs).2.bad
    · rfl
    · have := (good_tagN (rdUv rs).1 []).bad _ hx
      rw [h'] at this; cases this
  obtain ⟨a1, a2, _⟩ := uv_any hb
  obtain ⟨b1, b2, b3, b4⟩ := tagN_any (rdUv rs).1 [] (rdUv rs).2 h' (by omega) ⟨by simp, by simp⟩
  have e1 : (rdTags rs).1 = (rdTagN (rdUv rs).1 [] (rdUv rs).2).1 := rfl
  have e2 : (rdTags rs).2 = (rdTagN (rdUv rs).1 [] (rdUv rs).2).2 := rfl
  rw [e1, e2]
  generalize (rdTagN (rdUv rs).1 [] (rdUv rs).2).1 = l at *
  generalize (rdTagN (rdUv rs).1 [] (rdUv rs).2).2 = r at *
  simp only [List.length_nil, List.flatMap_nil, Nat.zero_add] at b2 b3 b4
  have hm : (uvOut (l.length % 4294967296)).length ≤ (uvOut (rdUv rs).1).length := uvE_mono (k := 4) (by omega)
  refine ⟨⟨by omega, b1.1, b1.2⟩, ?_⟩
  rw [List.length_append, tagsOut_len]
  omega

/-! ### Lists and messages -/
theorem N_any {α : Type} {f : RS → Option (α × RS)} {g : α → List UInt8} {W : α → Prop} (hg : GoodO f) (hf : ∀ rs y rs', f rs = some (y, rs') → rs'.bad = false → rs.src.length ≤ 32767 → W y ∧ (g y).length + rs'.src.length ≤ rs.src.length) :
    ∀ (n : Nat) (rs : RS) (l : List α) (rs' : RS), rdN f n rs = some (l, rs') → rs'.bad = false → rs.src.length ≤ 32767 → l.length = n ∧ (∀ y ∈ l, W y) ∧ (l.flatMap g).length + rs'.src.length ≤ rs.src.length
  | 0, rs, l, rs', h, _, _ => by
    simp only [rdN, Option.some.injEq, Prod.mk.injEq] at h
    obtain ⟨rfl, rfl⟩ := h
    simp
  | n + 1, rs, l, rs', h, hb, hs => by
    simp only [rdN] at h
    cases hx : f rs with
    | none => rw [hx] at h; cases h
    | some p =>
      obtain ⟨x, rs1⟩ := p
      rw [hx] at h
      simp only at h
      cases hy : rdN f n rs1 with
      | none => rw [hy] at h; cases h
      | some q =>
        obtain ⟨l2, rs2⟩ := q
        rw [hy] at h
        simp only [Option.some.injEq, Prod.mk.injEq] at h
        obtain ⟨rfl, rfl⟩ := h
        have h1 : rs1.bad = false := by
          cases e : rs1.bad
          · rfl
          · have := (good_N hg n).bad rs1 l2 rs2 hy e
            rw [hb] at this; cases this
        obtain ⟨a1, a2⟩ := hf rs x rs1 hx h1 hs
        obtain ⟨b1, b2, b3⟩ := N_any hg hf n rs1 l2 rs2 hy hb (by omega)
        refine ⟨by simp [b1], fun y hy => ?_, by simp only [List.flatMap_cons, List.length_append]; omega⟩
        rcases List.mem_cons.1 hy with rfl | hy
        · exact a1
        · exact b2 y hy
end Go.Kg

set_option linter.unusedSimpArgs false
set_option linter.unusedVariables false
set_option linter.unusedSectionVars false
namespace Go.Kg
open Go

theorem len_any {fl : Bool} {rs : RS} (h : (lenRd fl rs).2.bad = false) (hs : rs.src.length ≤ 32767) : (lenRd fl rs).1 ≤ (lenRd fl rs).2.src.length ∧ (lenRd fl rs).2.src.length ≤ rs.src.length ∧
    ∀ (nul : Option Nat) (nil : Bool) (n : Nat), (0 < (lenRd fl rs).1 → (n : Int) = (lenRd fl rs).1) → ((lenRd fl rs).1 ≤ 0 → n = 0) → (lenW nul fl n nil).length + (lenRd fl rs).2.src.length ≤ rs.src.length := by
  cases fl
  · have h' : (capLen (i32 (rdFixed 4 rs).1) (rdFixed 4 rs).2).2.bad = false := h
    obtain ⟨c1, c2, c3⟩ := cap_any h'
    have hb : (rdFixed 4 rs).2.bad = false := by rw [c2] at h'; exact h'
    have h5 := (fixed_any hb).1
    have e1 : (lenRd false rs).1 = i32 (rdFixed 4 rs).1 := c1
    have e2 : (lenRd false rs).2 = (rdFixed 4 rs).2 := c2
    rw [e1, e2]
    refine ⟨c3, by omega, fun nul nil n _ _ => ?_⟩
    have : (lenW nul false n nil).length = 4 := by
      cases nul <;> cases nil <;> simp [lenW, wNLen, wLen]
    omega
  · have h' : (capLen (IntKind.i32.wrap (i32 (rdUv rs).1 - 1)) (rdUv rs).2).2.bad = false := h
    obtain ⟨c1, c2, c3⟩ := cap_any h'
    have hb : (rdUv rs).2.bad = false := by rw [c2] at h'; exact h'
    obtain ⟨a1, a2, _⟩ := uv_any hb
    have e1 : (lenRd true rs).1 = IntKind.i32.wrap (i32 (rdUv rs).1 - 1) := c1
    have e2 : (lenRd true rs).2 = (rdUv rs).2 := c2
    rw [e1, e2]
    have hp : 1 ≤ (uvOut (rdUv rs).1).length := uvE_pos
    have o0 : (uvOut 0).length = 1 := by decide
    have o1 : (uvOut 1).length = 1 := by decide
    refine ⟨c3, by omega, fun nul nil n n1 n2 => ?_⟩
    have key : (wCLen n).length ≤ (uvOut (rdUv rs).1).length := by
      by_cases hl : 0 < IntKind.i32.wrap (i32 (rdUv rs).1 - 1)
      · have hn := n1 hl
        have : (n + 1) % 4294967296 = (rdUv rs).1 := by
          simp [i32, IntKind.wrap, IntKind.signed, IntKind.bits] at hn hl
          omega
        simp only [wCLen, this]; omega
      · have hn := n2 (by omega)
        subst hn
        have : (0 + 1) % 4294967296 = 1 := rfl
        simp only [wCLen, this]; omega
    have : (lenW nul true n nil).length ≤ (uvOut (rdUv rs).1).length := by
      cases nul <;> simp only [lenW, if_true, wCNLen]
      · exact key
      · split
        · omega
        · exact key
    omega

theorem arr_any {α : Type} {f : RS → Option (α × RS)} {g : α → List UInt8} {W : α → Prop} (hg : GoodO f) (hf : ∀ rs y rs', f rs = some (y, rs') → rs'.bad = false → rs.src.length ≤ 32767 → W y ∧ (g y).length + rs'.src.length ≤ rs.src.length)
    {nul : Option Nat} {ver : Int} {fl : Bool} {rs : RS} {a : Option (List α)} {rs' : RS} (h : arrRd nul ver fl f rs = some (a, rs')) (hb : rs'.bad = false) (hs : rs.src.length ≤ 32767) :
    arrWf nul ver a ∧ (∀ y ∈ a.getD [], W y) ∧ (lenW nul fl (a.getD []).length a.isNone ++ (a.getD []).flatMap g).length + rs'.src.length ≤ rs.src.length := by
  simp only [arrRd] at h
  cases hx : (lenRd fl rs).2.bad with
  | true => rw [hx] at h; simp at h
  | false =>
    rw [hx] at h
    obtain ⟨l1, l2, l3⟩ := len_any hx hs
    simp only [Bool.false_eq_true, if_false] at h
    split at h
    · rename_i hp
      cases hy : rdN f (lenRd fl rs).1.toNat (lenRd fl rs).2 with
      | none => rw [hy] at h; cases h
      | some q =>
        obtain ⟨l, r2⟩ := q
        rw [hy] at h
        simp only [Option.some.injEq, Prod.mk.injEq] at h
        obtain ⟨rfl, rfl⟩ := h
        obtain ⟨b1, b2, b3⟩ := N_any (g := g) hg hf _ _ l r2 hy hb (by omega)
        have := l3 nul false l.length (fun _ => by omega) (fun h => by omega)
        refine ⟨⟨by simp only [Option.getD_some]; omega, fun m _ _ => by simp⟩, b2, ?_⟩
        simp only [Option.getD_some, Option.isNone_some, List.length_append]
        omega
    · rename_i hp
      simp only [Option.some.injEq, Prod.mk.injEq] at h
      obtain ⟨rfl, rfl⟩ := h
      have he : (emptyOf (α := α) nul ver (lenRd fl rs).1).getD [] = [] := by
        cases nul with
        | none => rfl
        | some m => simp only [emptyOf]; split <;> rfl
      have := l3 nul (emptyOf (α := α) nul ver (lenRd fl rs).1).isNone 0 (fun h => absurd h hp) (fun _ => rfl)
      rw [arrWf, he]
      refine ⟨⟨by simp, fun m hm hv => ?_⟩, by simp, by simpa using this⟩
      subst hm
      simp [emptyOf, hv]

theorem any_sch (ver : Int) (fl : Bool) : ∀ (S : Sch) (rs : RS) (x : S.T) (rs' : RS), S.rd ver fl rs = some (x, rs') → rs'.bad = false → rs.src.length ≤ 32767 → S.wf ver fl x ∧ (S.wr ver fl x).length + rs'.src.length ≤ rs.src.length := by
  intro S
  induction S with
  | fin =>
    intro rs x rs' h hb hs
    simp only [Sch.rd, Option.some.injEq, Prod.mk.injEq] at h
    obtain ⟨_, rfl⟩ := h
    exact ⟨trivial, by simp [Sch.wr]⟩
  | tags k o =>
    intro rs x rs' h hb hs
    cases fl
    · simp only [Sch.rd, Bool.false_eq_true, if_false, Option.some.injEq, Prod.mk.injEq] at h
      obtain ⟨_, rfl⟩ := h
      exact ⟨fun h => (by cases h), by simp [Sch.wr]⟩
    · have h' : rdTags rs = (x, rs') := Option.some.inj h
      have hb' : (rdTags rs).2.bad = false := by rw [h']; exact hb
      obtain ⟨a1, a2⟩ := tags_any hb' hs
      rw [h'] at a1 a2
      exact ⟨fun _ => a1, a2⟩
  | prim g k o p en d rest ih =>
    intro rs x rs' h hb hs
    by_cases hg : g.on ver = true
    · simp only [Sch.rd, if_pos hg] at h
      obtain ⟨⟨y, r2⟩, hy, he⟩ := Option.map_eq_some_iff.1 h
      cases he
      have h1 : (p.rd fl rs).2.bad = false := by
        cases e : (p.rd fl rs).2.bad
        · rfl
        · have := (good_sch ver fl rest).bad _ _ _ hy e
          rw [hb] at this; cases this
      obtain ⟨a1, a2⟩ := any_prim p fl rs h1 hs
      obtain ⟨b1, b2⟩ := ih _ y _ hy hb (by omega)
      refine ⟨⟨fun _ => a1, b1⟩, ?_⟩
      simp only [Sch.wr, if_pos hg, List.length_append]; omega
    · simp only [Sch.rd, if_neg hg] at h
      obtain ⟨⟨y, r2⟩, hy, he⟩ := Option.map_eq_some_iff.1 h
      cases he
      obtain ⟨b1, b2⟩ := ih _ y _ hy hb hs
      refine ⟨⟨fun h => absurd h hg, b1⟩, ?_⟩
      simp only [Sch.wr, if_neg hg, List.nil_append]; omega
  | arrP g k o sT nul p rest ih =>
    intro rs x rs' h hb hs
    by_cases hg : g.on ver = true
    · simp only [Sch.rd, if_pos hg] at h
      cases hA : arrRd nul ver fl (fun rs => some (p.rd fl rs)) rs with
      | none => rw [hA] at h; cases h
      | some q =>
        obtain ⟨a, r1⟩ := q
        rw [hA] at h
        obtain ⟨⟨y, r2⟩, hy, he⟩ := Option.map_eq_some_iff.1 h
        cases he
        have h1 : r1.bad = false := by
          cases e : r1.bad
          · rfl
          · have := (good_sch ver fl rest).bad _ _ _ hy e
            rw [hb] at this; cases this
        obtain ⟨a1, a2, a3⟩ := arr_any (g := p.wr fl) (W := p.wf) (good_prim p fl).toO (fun rs y rs' hq hb hs => by
          have hq' : p.rd fl rs = (y, rs') := Option.some.inj hq
          have := any_prim p fl rs (by rw [hq']; exact hb) hs
          rwa [hq'] at this) hA h1 hs
        obtain ⟨b1, b2⟩ := ih _ y _ hy hb (by omega)
        refine ⟨⟨fun _ => ⟨a1, a2⟩, b1⟩, ?_⟩
        simp only [Sch.wr, if_pos hg]
        rw [List.length_append]; omega
    · simp only [Sch.rd, if_neg hg] at h
      obtain ⟨⟨y, r2⟩, hy, he⟩ := Option.map_eq_some_iff.1 h
      cases he
      obtain ⟨b1, b2⟩ := ih _ y _ hy hb hs
      refine ⟨⟨fun h => absurd h hg, b1⟩, ?_⟩
      simp only [Sch.wr, if_neg hg, List.nil_append]; omega
  | arrS g k o sT nul T PT sz df e rest ihe ih =>
    intro rs x rs' h hb hs
    by_cases hg : g.on ver = true
    · simp only [Sch.rd, if_pos hg] at h
      cases hA : arrRd nul ver fl (e.rd ver fl) rs with
      | none => rw [hA] at h; cases h
      | some q =>
        obtain ⟨a, r1⟩ := q
        rw [hA] at h
        obtain ⟨⟨y, r2⟩, hy, he⟩ := Option.map_eq_some_iff.1 h
        cases he
        have h1 : r1.bad = false := by
          cases e : r1.bad
          · rfl
          · have := (good_sch ver fl rest).bad _ _ _ hy e
            rw [hb] at this; cases this
        obtain ⟨a1, a2, a3⟩ := arr_any (g := e.wr ver fl) (W := e.wf ver fl) (good_sch ver fl e) (fun rs y rs' hq hb hs => ihe rs y rs' hq hb hs) hA h1 hs
        obtain ⟨b1, b2⟩ := ih _ y _ hy hb (by omega)
        refine ⟨⟨fun _ => ⟨a1, a2⟩, b1⟩, ?_⟩
        simp only [Sch.wr, if_pos hg]
        rw [List.length_append]; omega
    · simp only [Sch.rd, if_neg hg] at h
      obtain ⟨⟨y, r2⟩, hy, he⟩ := Option.map_eq_some_iff.1 h
      cases he
      obtain ⟨b1, b2⟩ := ih _ y _ hy hb hs
      refine ⟨⟨fun h => absurd h hg, b1⟩, ?_⟩
      simp only [Sch.wr, if_neg hg, List.nil_append]; omega
end Go.Kg

set_option linter.unusedSimpArgs false
set_option linter.unusedVariables false
set_option linter.unusedSectionVars false
namespace Go.Kg
open Go

/-- the tags of what is read -/
theorem any_tags (ver : Int) (fl : Bool) : ∀ (S : Sch) (rs : RS) (x : S.T) (rs' : RS), S.rd ver fl rs = some (x, rs') → rs'.bad = false → rs.src.length ≤ 32767 → S.TagsOk tagsOk x := by
  have ok0 : tagsOk [] := ⟨by simp, by simp, by simp⟩
  intro S
  induction S with
  | fin => intro rs x rs' h hb hs; trivial
  | tags k o =>
    intro rs x rs' h hb hs
    cases fl
    · simp only [Sch.rd, Bool.false_eq_true, if_false, Option.some.injEq, Prod.mk.injEq] at h
      obtain ⟨rfl, rfl⟩ := h
      exact ok0
    · have h' : rdTags rs = (x, rs') := Option.some.inj h
      have hb' : (rdTags rs).2.bad = false := by rw [h']; exact hb
      obtain ⟨a1, a2⟩ := tags_any hb' hs
      rw [h'] at a1
      exact a1
  | prim g k o p en d rest ih =>
    intro rs x rs' h hb hs
    by_cases hg : g.on ver = true
    · simp only [Sch.rd, if_pos hg] at h
      obtain ⟨⟨y, r2⟩, hy, he⟩ := Option.map_eq_some_iff.1 h
      cases he
      have h1 : (p.rd fl rs).2.bad = false := by
        cases e : (p.rd fl rs).2.bad
        · rfl
        · have := (good_sch ver fl rest).bad _ _ _ hy e
          rw [hb] at this; cases this
      obtain ⟨a1, a2⟩ := any_prim p fl rs h1 hs
      exact ih _ y _ hy hb (by omega)
    · simp only [Sch.rd, if_neg hg] at h
      obtain ⟨⟨y, r2⟩, hy, he⟩ := Option.map_eq_some_iff.1 h
      cases he
      exact ih _ y _ hy hb hs
  | arrP g k o sT nul p rest ih =>
    intro rs x rs' h hb hs
    by_cases hg : g.on ver = true
    · simp only [Sch.rd, if_pos hg] at h
      cases hA : arrRd nul ver fl (fun rs => some (p.rd fl rs)) rs with
      | none => rw [hA] at h; cases h
      | some q =>
        obtain ⟨a, r1⟩ := q
        rw [hA] at h
        obtain ⟨⟨y, r2⟩, hy, he⟩ := Option.map_eq_some_iff.1 h
        cases he
        have h1 : r1.bad = false := by
          cases e : r1.bad
          · rfl
          · have := (good_sch ver fl rest).bad _ _ _ hy e
            rw [hb] at this; cases this
        obtain ⟨a1, a2, a3⟩ := arr_any (g := p.wr fl) (W := p.wf) (good_prim p fl).toO (fun rs y rs' hq hb hs => by
          have hq' : p.rd fl rs = (y, rs') := Option.some.inj hq
          have := any_prim p fl rs (by rw [hq']; exact hb) hs
          rwa [hq'] at this) hA h1 hs
        exact ih _ y _ hy hb (by omega)
    · simp only [Sch.rd, if_neg hg] at h
      obtain ⟨⟨y, r2⟩, hy, he⟩ := Option.map_eq_some_iff.1 h
      cases he
      exact ih _ y _ hy hb hs
  | arrS g k o sT nul T PT sz df e rest ihe ih =>
    intro rs x rs' h hb hs
    by_cases hg : g.on ver = true
    · simp only [Sch.rd, if_pos hg] at h
      cases hA : arrRd nul ver fl (e.rd ver fl) rs with
      | none => rw [hA] at h; cases h
      | some q =>
        obtain ⟨a, r1⟩ := q
        rw [hA] at h
        obtain ⟨⟨y, r2⟩, hy, he⟩ := Option.map_eq_some_iff.1 h
        cases he
        have h1 : r1.bad = false := by
          cases e : r1.bad
          · rfl
          · have := (good_sch ver fl rest).bad _ _ _ hy e
            rw [hb] at this; cases this
        obtain ⟨a1, a2, a3⟩ := arr_any (g := e.wr ver fl) (W := e.TagsOk tagsOk) (good_sch ver fl e) (fun rs y rs' hq hb hs => ⟨ihe rs y rs' hq hb hs, (any_sch ver fl e rs y rs' hq hb hs).2⟩) hA h1 hs
        exact ⟨fun i z hz => a2 z (List.mem_of_getElem? hz), ih _ y _ hy hb (by omega)⟩
    · simp only [Sch.rd, if_neg hg] at h
      obtain ⟨⟨y, r2⟩, hy, he⟩ := Option.map_eq_some_iff.1 h
      cases he
      exact ⟨fun i z hz => by simp at hz, ih _ y _ hy hb hs⟩

/-- What is read of any bytes is written as bytes that are read again, and written as the same. -/
theorem any_again (ver : Int) (fl : Bool) (S : Sch) (hp : S.posE ver fl = true) {rs rs' : RS} {x : S.T} (h : S.rd ver fl rs = some (x, rs')) (hb : rs'.bad = false) (hs : rs.src.length ≤ 32767) (nn : Bool) :
    (S.wr ver fl x).length ≤ rs.src.length ∧ ∃ y nn', S.rd ver fl ⟨S.wr ver fl x, false, nn⟩ = some (y, ⟨[], false, nn'⟩) ∧ S.wr ver fl y = S.wr ver fl x := by
  obtain ⟨h1, h2⟩ := any_sch ver fl S rs x rs' h hb hs
  obtain ⟨y, n', e1, e2, _⟩ := rd_sch ver fl S x hp h1 [] nn
  rw [List.append_nil] at e1
  exact ⟨by omega, y, n', e1, e2⟩
end Go.Kg

set_option linter.unusedSimpArgs false
set_option linter.unusedVariables false
namespace Go.Kg
open Go

/-! ## The laws FnAny.. -/
def irFnAny (E : Env) (fMax fAg tup : Nat) : Ir :=
  (.seq
    (.reg [
        ⟨none, some 4, .assign (.const (.bool false)), E.tB⟩])
  (.seq
    (.seq
      (.reg [
          ⟨none, some 10, .move (.tmp 1), E.tBs⟩,
          ⟨none, some 11, .call { callee := .builtin .len, args := #[.tmp 10], argTypes := #[E.tBs] }, E.tInt⟩,
          ⟨none, some 12, .binOp .gtr E.tInt (.tmp 11) (.const (.int .i64 2147483647)) E.tInt, E.tB⟩])
    (.cond 12
      (.seq
        (.reg [
            ⟨none, some 4, .assign (.const (.bool true)), E.tB⟩])
      .ret)
      .skip))
  (.seq
    (.reg [
        ⟨none, some 13, .call { callee := .value (.func fMax), args := #[], argTypes := #[] }, E.tInt⟩,
        ⟨none, some 5, .assign (.tmp 13), E.tInt⟩])
  (.seq
    (.seq
      (.reg [
          ⟨none, some 14, .move (.tmp 5), E.tInt⟩,
          ⟨none, some 15, .binOp .lss E.tInt (.tmp 14) (.const (.int .i64 0)) E.tInt, E.tB⟩])
    (.cond 15
      (.seq
        (.reg [
            ⟨none, some 4, .assign (.const (.bool false)), E.tB⟩])
      .ret)
      .skip))
  (.seq
    (.seq
      (.reg [
          ⟨none, some 16, .move (.tmp 1), E.tBs⟩,
          ⟨none, some 17, .call { callee := .builtin .len, args := #[.tmp 16], argTypes := #[E.tBs] }, E.tInt⟩,
          ⟨none, some 18, .binOp .gtr E.tInt (.tmp 17) (.const (.int .i64 1000)) E.tInt, E.tB⟩])
    (.cond 18
      (.seq
        (.reg [
            ⟨none, some 4, .assign (.const (.bool true)), E.tB⟩])
      .ret)
      .skip))
  (.seq
    (.reg [
        ⟨none, some 20, .move (.tmp 0), E.tU8⟩,
        ⟨none, some 21, .move (.tmp 5), E.tInt⟩,
        ⟨none, some 22, .call { callee := .value (.func E.f_laws_version), args := #[.tmp 20, .tmp 21], argTypes := #[E.tU8, E.tInt] }, E.tInt⟩,
        ⟨none, some 23, .move (.tmp 1), E.tBs⟩,
        ⟨none, some 24, .call { callee := .value (.func fAg), args := #[.tmp 22, .tmp 23], argTypes := #[E.tInt, E.tBs] }, tup⟩,
        ⟨none, some 19, .move (.tmp 24), tup⟩,
        ⟨none, some 25, .extract (.tmp 19) 0, E.tBs⟩,
        ⟨none, some 26, .extract (.tmp 19) 1, E.tB⟩,
        ⟨none, some 6, .assign (.tmp 25), E.tBs⟩,
        ⟨none, some 7, .assign (.tmp 26), E.tB⟩])
  (.seq
    (.seq
      (.reg [
          ⟨none, some 27, .move (.tmp 7), E.tB⟩,
          ⟨none, some 28, .unOp .not E.tB (.tmp 27), E.tB⟩])
    (.cond 28
      (.seq
        (.reg [
            ⟨none, some 4, .assign (.const (.bool true)), E.tB⟩])
      .ret)
      .skip))
  (.seq
    (.reg [
        ⟨none, some 30, .move (.tmp 0), E.tU8⟩,
        ⟨none, some 31, .move (.tmp 5), E.tInt⟩,
        ⟨none, some 32, .call { callee := .value (.func E.f_laws_version), args := #[.tmp 30, .tmp 31], argTypes := #[E.tU8, E.tInt] }, E.tInt⟩,
        ⟨none, some 33, .move (.tmp 6), E.tBs⟩,
        ⟨none, some 34, .call { callee := .value (.func fAg), args := #[.tmp 32, .tmp 33], argTypes := #[E.tInt, E.tBs] }, tup⟩,
        ⟨none, some 29, .move (.tmp 34), tup⟩,
        ⟨none, some 35, .extract (.tmp 29) 0, E.tBs⟩,
        ⟨none, some 36, .extract (.tmp 29) 1, E.tB⟩,
        ⟨none, some 8, .assign (.tmp 35), E.tBs⟩,
        ⟨none, some 9, .assign (.tmp 36), E.tB⟩])
  (.seq
    (.reg [
        ⟨none, some 37, .move (.tmp 9), E.tB⟩,
        ⟨none, some 38, .move (.tmp 37), E.tB⟩,
        ⟨(some (38, true)), some 39, .move (.tmp 6), E.tBs⟩,
        ⟨(some (38, true)), some 40, .move (.tmp 8), E.tBs⟩,
        ⟨(some (38, true)), some 41, .call { callee := .value (.func E.f_spec_Same), args := #[.tmp 39, .tmp 40], argTypes := #[E.tBs, E.tBs] }, E.tB⟩,
        ⟨none, some 42, .pick (.tmp 38) (.tmp 41) (.const (.bool false)), E.tB⟩,
        ⟨none, some 4, .assign (.tmp 42), E.tB⟩])
  .ret)))))))))

/-- what the laws ask of impl's functions -/
structure AgL (P : Program) (E : Env) (fMax fAg M : Nat) (S : Sch) (flx : Nat → Bool) (ev : Value) : Prop where
  max : ∀ w, Ret P fMax #[] w fun u w' => u = .int .i64 M ∧ Ext none1 w w'
  again : ∀ v : Nat, v ≤ M → ∀ {w : World} {K : Nat → Prop} {sv : Value} {src : List UInt8}, BytesAt w K sv src → src.length ≤ 1099511627776 → w.cell? ⟨E.g_kbin_ErrNotEnoughData, 0, none⟩ = some ev →
    (∀ nn x rs, S.rd v (flx v) ⟨src, false, nn⟩ = some (x, rs) → rs.bad = false → S.TagsOk tagsOk x ∧ (S.wr v (flx v) x).length ≤ 1099511627776) →
    Ret P fAg #[.int .i64 v, sv] w fun u w' => AgainPost S v (flx v) src w u w'
  hM : M < 32768
  pos : ∀ v : Nat, v ≤ M → S.posE v (flx v) = true

section
variable {P : Program} {E : Env}

set_option maxHeartbeats 1000000 in
theorem c_FnAny (ht : TyF P E) (hSame : FnIs P E.f_spec_Same nt_spec_Same (rs_spec_Same E) (ir_spec_Same E)) (hVe : FnIs P E.f_laws_version nt_laws_version (rs_laws_version E) (ir_laws_version E)) (iU8 : intKind? P E.tU8 = some .u8) (iInt : intKind? P E.tInt = some .i64)
    {fMax fAg M g nt tup : Nat} {S : Sch} {flx : Nat → Bool} {ev : Value} (hL : AgL P E fMax fAg M S flx ev) (hnt : 2 ≤ nt) (hI : FnIs P g nt [.t 4] (irFnAny E fMax fAg tup)) (n : Nat) (hn : n < 256) {w : World} {K : Nat → Prop} {sv : Value} {src : List UInt8}
    (hs : BytesAt w K sv src) (herr : w.cell? ⟨E.g_kbin_ErrNotEnoughData, 0, none⟩ = some ev) :
    Ret P g #[.int .u8 n, sv] w fun u w' => u = .bool true ∧ Ext none1 w w' := by
  have hvM : verOf n M ≤ M := by have := Nat.mod_lt n (show 0 < M + 1 by omega); simp only [verOf]; omega
  have hV := fun w => c_version hVe iU8 iInt n M hn hL.hM w
  obtain ⟨a, c, rfl, _⟩ := hs.len
  refine hI.call (args := [_, _]) hnt ?_
  simp [irFnAny, len_slice ht.uBs]
  by_cases h1 : 2147483647 < src.length
  · refine cw_true (by simp; omega) ?_
    simp
    exact Ext.refl _ _
  refine cw_false (by simp; omega) ?_
  simp
  refine (hL.max w).mono ?_
  rintro _ w1 ⟨rfl, he1⟩
  simp
  refine cw_false (by simp) ?_
  simp [len_slice ht.uBs]
  by_cases h2 : 1000 < src.length
  · refine cw_true (by simp; omega) ?_
    simp
    exact he1
  refine cw_false (by simp; omega) ?_
  simp
  refine (hV w1).mono ?_
  rintro _ w2 ⟨rfl, rfl⟩
  try simp
  have hs1 := hs.ext (K := K) he1 (fun _ _ _ h => h)
  refine (hL.again _ hvM hs1 (by omega) (he1.cell herr (fun h => h)) ?_).mono ?_
  · intro nn x rs hx hb
    have hA := any_again _ _ S (hL.pos _ hvM) hx hb (by simp; omega) nn
    exact ⟨any_tags _ _ S _ _ _ hx hb (by simp; omega), by have := hA.1; simp at this; omega⟩
  rintro u w3 ⟨he3, nn, hu⟩
  cases hx : S.rd (verOf n M) (flx (verOf n M)) ⟨src, false, nn⟩ with
  | none =>
    rw [hx] at hu
    subst hu
    simp
    refine cw_true (by simp) ?_
    simp
    exact he1.trans he3
  | some p =>
    obtain ⟨x, rs⟩ := p
    rw [hx] at hu
    simp only at hu
    cases hb : rs.bad with
    | true =>
      rw [hb] at hu
      simp only [if_true] at hu
      subst hu
      simp
      refine cw_true (by simp) ?_
      simp
      exact he1.trans he3
    | false =>
      rw [hb] at hu
      simp only [Bool.false_eq_true, if_false] at hu
      obtain ⟨v, rfl, hv⟩ := hu
      simp
      refine cw_false (by simp) ?_
      simp
      refine (hV w3).mono ?_
      rintro _ w4 ⟨rfl, rfl⟩
      try simp
      obtain ⟨hlen, _⟩ := any_again _ _ S (hL.pos _ hvM) hx hb (by simp; omega) true
      simp only at hlen
      have he13 := he1.trans he3
      refine (hL.again _ hvM hv (by omega) (he13.cell herr (fun h => h)) ?_).mono ?_
      · intro nn x rs hx hb
        have hA := any_again _ _ S (hL.pos _ hvM) hx hb (by simp; omega) nn
        exact ⟨any_tags _ _ S _ _ _ hx hb (by simp; omega), by have := hA.1; simp at this; omega⟩
      rintro u w5 ⟨he5, nn2, hu⟩
      obtain ⟨_, y, nn3, hy, hyx⟩ := any_again _ _ S (hL.pos _ hvM) hx hb (by simp; omega) nn2
      rw [hy] at hu
      simp only [Bool.false_eq_true, if_false] at hu
      obtain ⟨v2, rfl, hv2⟩ := hu
      simp
      have hv' := hv.ext he5 (fun _ _ _ h => h)
      refine (c_Same ht hSame w5 _ _ v v2 _ _ hv' hv2 (by omega)).mono ?_
      rintro _ w6 ⟨rfl, he6⟩
      simp [hyx]
      exact he13.trans (he5.trans he6)
end
end Go.Kg

set_option linter.unusedSimpArgs false
set_option linter.unusedVariables false
namespace Go.Kg
open Go Go.ChangeShapes Go.WideShapes Go.ChangeAt Go.RowKit

/-! ## From a row's inputs to what the walks ask -/
/-- an argument reads behind the call as it did -/
theorem ext_trod {H : Type} {enc : TypeId × Value → H} {P : Program} {t : TypeId} (hl : laidOutB P = true) (hr : P.readableRec t = true) (hrow : t < P.types.size) {W W' : World} {v : Value} {d : DataW H} {ps : List MemPlace}
    (h : DataW.Trod enc P W 0 (fun _ => true) true t v d ps) (he : Ext none1 W W') (hlt : ∀ x ∈ ps, x.block < W.heap.size) {sp : Nat → Bool} (hs : ∀ p ∈ ps, sp p.block = true) : DataW.Trod enc P W' 0 sp true t v d ps := by
  have hb : Below W.heap.size W W' := ⟨he.os, he.tape, he.output, he.size, fun k hk => he.block k hk (fun h => h)⟩
  exact WideElems.Trod_stays hl hr hrow h (fun x hx => hb.same (hlt x hx)) hs

/-- bytes -/
theorem open_bytesAt {H : Type} {enc : TypeId × Value → H} {P : Program} {t e : TypeId} (ht : P.underlying t = some (.slice e)) (he : P.underlying e = some (.int .u8)) (hc : P.cellsOf e = 1) {W : World} {base : Nat} {v : Value} {d : DataW H} {ps : List MemPlace}
    (hval : Value.okWide P W .any base t v) (h : DataW.Trod enc P W 0 (fun _ => true) true t v d ps) : ∃ s, BytesAt W All v s := by
  obtain ⟨n, hn⟩ := h
  have hsp : ∀ a len cap, v = .slice (some a) len cap → a.spot = none := by
    rintro a len cap rfl
    simp only [Value.okWide, ht, Cell.okWide, Cell.ok] at hval
    exact hval.2.2.2.1
  obtain ⟨a0, l0, c0, rfl⟩ := okWide_slice ht hval
  have hcs : (Value.slice a0 l0 c0).cells.toList = [.slice a0 l0 c0] := rfl
  rw [hcs] at hn
  rcases open_ints ht he hc hn with ⟨h1, _⟩ | ⟨a, len, cap, zs, h1, hb, hl, hm, hzl, hx, hcell, hwf⟩
  · cases h1
    exact ⟨[], .inl ⟨rfl, rfl⟩⟩
  · cases h1
    have hs := hsp a l0 c0 rfl
    obtain ⟨ab, ao, sp⟩ := a
    simp only at hs
    subst hs
    simp only [if_true] at hzl
    have hlen : (zs.take l0).length = l0 := by simp; omega
    refine ⟨(zs.take l0).map fun z => UInt8.ofNat z.toNat, .inr ⟨ab, ao, c0, by rw [List.length_map, hlen], by rw [List.length_map, hlen]; exact hl, fun _ => trivial, fun i x hx => ?_⟩⟩
    rw [List.getElem?_map, Option.map_eq_some_iff] at hx
    obtain ⟨z, hz, rfl⟩ := hx
    rw [List.getElem?_take] at hz
    split at hz
    · obtain ⟨hi, hzz⟩ := List.getElem?_eq_some_iff.1 hz
      have hc1 := hcell i hi
      rw [Addr.add_mk, List.getD_eq_getElem?_getD, hz] at hc1
      have hw := hwf z (List.mem_of_getElem? hz)
      simp [Lit.wf, IntKind.min, IntKind.max, IntKind.signed, IntKind.bits] at hw
      rw [hc1]
      simp
      omega
    · cases hz
end Go.Kg

set_option linter.unusedSimpArgs false
set_option linter.unusedVariables false
namespace Go.Kg
open Go

/-! ## Tags: read -/
/-- An entry of the map says a tag. -/
def EntAt (w : World) (K : Nat → Prop) (c : Nat) (e : MapEntry) (x : Nat × List UInt8) : Prop := e.key = .int .u32 x.1 ∧ x.1 < 4294967296 ∧ e.born < c ∧ BytesAt w K e.val x.2
def EL (w : World) (K : Nat → Prop) (c : Nat) : List MapEntry → TagL → Prop
  | [], [] => True
  | e :: L, x :: l => EntAt w K c e x ∧ EL w K c L l
  | _, _ => False

theorem EL.of {w : World} {K : Nat → Prop} {c : Nat} : ∀ {L : List MapEntry} {l : TagL}, L.length = l.length → (∀ (i : Nat) e x, L[i]? = some e → l[i]? = some x → EntAt w K c e x) → EL w K c L l
  | [], [], _, _ => trivial
  | e :: L, x :: l, h, hx => ⟨hx 0 e x rfl rfl, EL.of (by simpa using h) (fun i e x h1 h2 => hx (i + 1) e x (by simpa using h1) (by simpa using h2))⟩
  | [], _ :: _, h, _ => by simp at h
  | _ :: _, [], h, _ => by simp at h
theorem EL.get {w : World} {K : Nat → Prop} {c : Nat} : ∀ {L : List MapEntry} {l : TagL}, EL w K c L l → L.length = l.length ∧ ∀ (i : Nat) e x, L[i]? = some e → l[i]? = some x → EntAt w K c e x
  | [], [], _ => ⟨rfl, fun i e x h => by simp at h⟩
  | e :: L, x :: l, h => ⟨by simpa using (EL.get h.2).1, fun i e' x' h1 h2 => by
      cases i with
      | zero => simp at h1 h2; subst h1; subst h2; exact h.1
      | succ i => exact (EL.get h.2).2 i e' x' (by simpa using h1) (by simpa using h2)⟩
  | [], _ :: _, h => h.elim
  | _ :: _, [], h => h.elim
theorem EL.up {w : World} {K : Nat → Prop} {c c' : Nat} (hc : c ≤ c') : ∀ {L : List MapEntry} {l : TagL}, EL w K c L l → EL w K c' L l
  | [], [], _ => trivial
  | e :: L, x :: l, h => ⟨⟨h.1.1, h.1.2.1, Nat.lt_of_lt_of_le h.1.2.2.1 hc, h.1.2.2.2⟩, EL.up hc h.2⟩
  | [], _ :: _, h => h.elim
  | _ :: _, [], h => h.elim
theorem EL.mem {w : World} {K : Nat → Prop} {c : Nat} : ∀ {L : List MapEntry} {l : TagL}, EL w K c L l → ∀ e ∈ L, ∃ x ∈ l, EntAt w K c e x
  | e :: L, x :: l, h, e', he => by
    rcases List.mem_cons.1 he with rfl | he
    · exact ⟨x, List.mem_cons_self .., h.1⟩
    · obtain ⟨y, hy, hh⟩ := EL.mem h.2 e' he; exact ⟨y, List.mem_cons_of_mem _ hy, hh⟩

/-- Tags as lists -/
theorem tagsAt_iff {w : World} {K : Nat → Prop} {v : Value} {l : TagL} : TagsAt w K v l ↔ (v = .map none ∧ l = []) ∨ ∃ b es clock, v = .map (some b) ∧ K b ∧ w.heap[b]? = some (.map es clock) ∧ EL w K clock es.toList l ∧ (l.map (·.1)).Nodup ∧ (es.toList.map (·.born)).Nodup ∧ l.length < 4294967296 := by
  constructor
  · rintro (h | ⟨b, es, clock, rfl, hk, hb, hs, hn, hl, hx⟩)
    · exact .inl h
    · exact .inr ⟨b, es, clock, rfl, hk, hb, EL.of (by simpa using hs) (fun i e x h1 h2 => hx i e x (by simpa using h1) h2), hn.1, hn.2, hl⟩
  · rintro (h | ⟨b, es, clock, rfl, hk, hb, he, h1, h2, hl⟩)
    · exact .inl h
    · have := he.get
      exact .inr ⟨b, es, clock, rfl, hk, hb, by simpa using this.1, ⟨h1, h2⟩, hl, fun i e x h1 h2 => this.2 i e x (by simpa using h1) h2⟩


theorem findNow_spec {w : World} {K : Nat → Prop} {c k : Nat} {v : Value} {s : List UInt8} (hk : k < 4294967296) (hv : BytesAt w K v s) : ∀ {L : List MapEntry} {l : TagL} (i : Nat), EL w K c L l →
    (Instr.findNow (.int .u32) (.int .u32 k) L i = some none ∧ EL w K (c + 1) (L ++ [{ key := .int .u32 k, val := v, born := c }]) (setTag k s l)) ∨
    (∃ j e, Instr.findNow (.int .u32) (.int .u32 k) L i = some (some (i + j, e.val)) ∧ L[j]? = some e ∧ e.key = .int .u32 k ∧ EL w K c (L.modify j fun e => { e with key := .int .u32 k, val := v }) (setTag k s l))
  | [], [], i, _ => .inl ⟨rfl, ⟨rfl, hk, Nat.lt_succ_self c, hv⟩, trivial⟩
  | e :: L, x :: l, i, h => by
    obtain ⟨⟨h1, h2, h3, h4⟩, h5⟩ := h
    by_cases hx : x.1 = k
    · refine .inr ⟨0, e, ?_, rfl, by rw [h1, hx], ?_⟩
      · simp [Instr.findNow, Instr.sameNow, h1, hx]
      · simp only [List.modify_zero_cons, setTag, if_pos hx]
        exact ⟨⟨rfl, hk, h3, hv⟩, h5⟩
    · have hne : ((k : Int) == (x.1 : Int)) = false := by simp; omega
      have hf : Instr.findNow (.int .u32) (.int .u32 k) (e :: L) i = Instr.findNow (.int .u32) (.int .u32 k) L (i + 1) := by
        simp [Instr.findNow, Instr.sameNow, h1, hne]
      rw [hf]
      rcases findNow_spec hk hv (i + 1) h5 with ⟨a1, a2⟩ | ⟨j, e', a1, a2, a3, a4⟩
      · refine .inl ⟨a1, ?_⟩
        simp only [setTag, if_neg hx]
        exact ⟨⟨h1, h2, Nat.lt_succ_of_lt h3, h4⟩, a2⟩
      · refine .inr ⟨j + 1, e', by rw [a1]; congr 3; omega, by simpa using a2, a3, ?_⟩
        simp only [setTag, if_neg hx, List.modify_succ_cons]
        exact ⟨⟨h1, h2, h3, h4⟩, a4⟩
  | [], _ :: _, i, h => h.elim
  | _ :: _, [], i, h => h.elim

theorem modify_born {j : Nat} {f : MapEntry → MapEntry} (hf : ∀ e, (f e).born = e.born) : ∀ L : List MapEntry, (L.modify j f).map (·.born) = L.map (·.born) := by
  induction j with
  | zero => intro L; cases L <;> simp [hf]
  | succ j ih => intro L; cases L with
    | nil => simp
    | cons e L => simp [ih L]

theorem check_u32 {P : Program} {T : TypeId} (hT : P.underlying T = some (.int .u32)) {w : World} {b : Bool} {k : Int} : (Instr.checkKey b 10000 T (.int .u32 k)).run P w = .ok () w := by
  have : ∀ n, (Instr.checkKey b (n + 1) T (.int .u32 k)).run P w = .ok () w := by intro n; simp [Instr.checkKey, run_underlying hT]
  exact this 9999

/-- m[k] = v -/
theorem run_mapUpdate {P : Program} {T KT VT : TypeId} (hT : P.underlying T = some (.map KT VT)) (hK : P.underlying KT = some (.int .u32)) {w : World} {K : Nat → Prop} {b k clock : Nat} {v : Value} {s : List UInt8} {es : Array MapEntry} {l : TagL}
    (hk : k < 4294967296) (hv : BytesAt w K v s) (hb : w.heap[b]? = some (.map es clock)) (he : EL w K clock es.toList l) (hn : (es.toList.map (·.born)).Nodup) :
    ∃ es' clock', (Instr.mapUpdate T (.map (some b)) (.int .u32 k) v).run P w = .ok () (w.setBlk b (.map es' clock')) ∧ EL w K clock' es'.toList (setTag k s l) ∧ (es'.toList.map (·.born)).Nodup := by
  have hget : (getObj b).run P w = .ok (.map es clock) w := by simp [getObj, Sem.run, hb]
  have hset : ∀ o, (setObj b o).run P w = .ok () (w.setBlk b o) := by intro o; simp [setObj, Sem.run, hb, World.setBlk]
  have hfk : ∀ r, Instr.findNow (.int .u32) (.int .u32 k) es.toList 0 = some r → (Instr.findKey KT (.int .u32 k) es.toList).run P w = .ok r w := by
    intro r hr; simp [Instr.findKey, run_underlying hK, hr]
  rcases findNow_spec hk hv 0 he with ⟨a1, a2⟩ | ⟨j, e, a1, a2, a3, a4⟩
  · refine ⟨es.push { key := .int .u32 k, val := v, born := clock }, clock + 1, ?_, by simpa using a2, ?_⟩
    · simp [Instr.mapUpdate, run_underlying hT, hget, check_u32 hK, hfk _ a1, hset]
    · simp only [Array.toList_push, List.map_append, List.map_cons, List.map_nil]
      rw [List.nodup_append]
      refine ⟨hn, by simp, ?_⟩
      intro a ha b hb
      simp only [List.mem_singleton] at hb
      obtain ⟨e, he1, rfl⟩ := List.mem_map.1 ha
      obtain ⟨x, _, hx⟩ := he.mem e he1
      have := hx.2.2.1
      omega
  · refine ⟨es.modify j fun e => { e with key := .int .u32 k, val := v }, clock, ?_, by simpa using a4, ?_⟩
    · have hj : es[j]? = some e := by simpa using a2
      have hsame : (Instr.sameBits 10000 (.int .u32 (k : Int)) (.int .u32 (k : Int))) = true := by simp [Instr.sameBits]
      simp [Instr.mapUpdate, run_underlying hT, hget, check_u32 hK, hfk _ a1, hset, Instr.keyThatStays, hj, a3, hsame]
    · simp only [Array.toList_modify]
      rw [modify_born]
      · exact hn
      · intro e; rfl

theorem EL.ext {C : Nat → Prop} {w w' : World} {D c : Nat} (he : Ext C w w') (hD : ¬ C D) : ∀ {L : List MapEntry} {l : TagL}, EL w (· = D) c L l → EL w' (· = D) c L l
  | [], [], _ => trivial
  | e :: L, x :: l, h => ⟨⟨h.1.1, h.1.2.1, h.1.2.2.1, h.1.2.2.2.ext he (fun b _ hb => by subst hb; exact hD)⟩, EL.ext he hD h.2⟩
  | [], _ :: _, h => h.elim
  | _ :: _, [], h => h.elim

/-- the map lies in a block from base on, the bytes in D -/
def TagsM (w : World) (D base : Nat) (u : Value) (l : TagL) : Prop :=
  (u = .map none ∧ l = []) ∨ ∃ m es clock, u = .map (some m) ∧ base ≤ m ∧ w.heap[m]? = some (.map es clock) ∧ EL w (· = D) clock es.toList l ∧ (es.toList.map (·.born)).Nodup
theorem TagsM.one {w : World} {D base : Nat} {u : Value} {l : TagL} (h : TagsM w D base u l) : u.oneCell' = true ∧ u.cells = #[u] := by
  rcases h with ⟨rfl, _⟩ | ⟨_, _, _, rfl, _⟩ <;> exact ⟨rfl, rfl⟩

@[simp] theorem stp_mapUpdate {P : Program} {f : Nat → Value} {ty : TypeId} {w : World} {K : Value → World → Prop} {T : TypeId} {a b c : Operand} : stp P f (.mapUpdate T a b c) ty w K = stepF P f (.mapUpdate T a b c) ty w K := (rfl)
@[simp] theorem stp_makeMap {P : Program} {f : Nat → Value} {ty : TypeId} {w : World} {K : Value → World → Prop} {T : TypeId} : stp P f (.makeMap T none) ty w K = K (.map (some w.heap.size)) (w.alloc (.map #[] 0)) := by
  show stepF P f (.makeMap T none) ty w K = _
  rw [stepF_ok (v := .map (some w.heap.size)) (w' := w.alloc (.map #[] 0))]
  simp [runF, execOp, Instr.makeMap, newObj, Sem.run]

section
variable {P : Program} {E : Env} (ht : TyTg P E)
include ht

/-- t.Set(key, val); t's cell lies in a block of its own. -/
theorem c_TSet (hu : P.underlying E.tU32 = some (.int .u32)) (hI : FnIs P E.f_pkmsg_Tags_Set nt_pkmsg_Tags_Set (rs_pkmsg_Tags_Set E) (ir_pkmsg_Tags_Set E)) {w : World} {D base b k : Nat} {u v : Value} {s : List UInt8} {l : TagL} {et : TypeId}
    (hk : k < 4294967296) (hv : BytesAt w (· = D) v s) (hc : w.heap[b]? = some (.cells #[u] et (0, 0))) (hl : TagsM w D base u l) (hD : D < base) (hb : base ≤ b) (hbs : base ≤ w.heap.size) :
    Ret P E.f_pkmsg_Tags_Set #[.pointer (some ⟨b, 0, none⟩), .int .u32 k, v] w fun _ w' => ∃ u', w'.heap[b]? = some (.cells #[u'] et (0, 0)) ∧ TagsM w' D base u' (setTag k s l) ∧ Ext (fun x => base ≤ x) w w' := by
  refine hI.call (args := [_, _, _]) (by simp [nt_pkmsg_Tags_Set]) ?_
  have c0 : w.cell? ⟨b, 0, none⟩ = some u := by rw [cell_of_blk hc]; rfl
  rcases hl with ⟨rfl, rfl⟩ | ⟨m, es, clock, rfl, hm, hmb, he, hn⟩
  · simp [ir_pkmsg_Tags_Set, rs_pkmsg_Tags_Set, ht.g0, Addr.add_mk, ld_scl ht.kM, c0, bin_nil_map ht.uM]
    refine cw_true (by simp) ?_
    have hb2 : (w.alloc (.map #[] 0)).heap[b]? = some (.cells #[.map none] et (0, 0)) := alloc_old hc
    have hne : w.heap.size ≠ b := fun h => by have := lt_of_heap hc; omega
    simp [ht.g0, Addr.add_mk, store_scl ht.kM, put1K_blk hb2]
    generalize hw1 : (w.alloc (.map #[] 0)).setBlk b (.cells #[.map (some w.heap.size)] et (0, 0)) = w1
    have hE : Ext (fun x => base ≤ x) w w1 := by subst hw1; exact ((Ext.refl _ w).alloc _).setBlk (Or.inr hb) _
    have hb1 : w1.heap[b]? = some (.cells #[.map (some w.heap.size)] et (0, 0)) := by subst hw1; exact setBlk_same hb2
    have hm1 : w1.heap[w.heap.size]? = some (.map #[] 0) := by subst hw1; rw [setBlk_other hne]; exact alloc_new
    have c1 : w1.cell? ⟨b, 0, none⟩ = some (.map (some w.heap.size)) := by rw [cell_of_blk hb1]; rfl
    obtain ⟨es', clock', hr, he', hn'⟩ := run_mapUpdate (es := #[]) (l := []) ht.uM hu hk (hv.ext hE (fun x _ hx => by subst hx; omega)) hm1 trivial (by simp)
    simp [c1, ld_scl ht.kM]
    refine ⟨rfl, ?_⟩
    rw [stepF_skip (w' := w1.setBlk w.heap.size (.map es' clock'))]
    · refine ⟨_, (by rw [setBlk_other (Ne.symm hne)]; exact hb1), .inr ⟨w.heap.size, es', clock', rfl, hbs, setBlk_same hm1, ?_, hn'⟩, hE.setBlk (Or.inr hbs) _⟩
      exact EL.ext ((Ext.refl (fun x => base ≤ x) w1).setBlk (Or.inr hbs) _) (by omega) he'
    · simp [runF, execOp, hr]
  · simp [ir_pkmsg_Tags_Set, rs_pkmsg_Tags_Set, ht.g0, Addr.add_mk, ld_scl ht.kM, c0, bin_nil_map ht.uM]
    refine cw_false (by simp) ?_
    obtain ⟨es', clock', hr, he', hn'⟩ := run_mapUpdate ht.uM hu hk hv hmb he hn
    have hne : m ≠ b := fun h => by subst h; rw [hc] at hmb; cases hmb
    simp [ht.g0, Addr.add_mk, ld_scl ht.kM, c0]
    rw [stepF_skip (w' := w.setBlk m (.map es' clock'))]
    · refine ⟨_, (by rw [setBlk_other (Ne.symm hne)]; exact hc), .inr ⟨m, es', clock', rfl, hm, setBlk_same hmb, ?_, hn'⟩, (Ext.refl _ w).setBlk (Or.inr hm) _⟩
      exact EL.ext ((Ext.refl (fun x => base ≤ x) w).setBlk (Or.inr hm) _) (by omega) he'
    · simp [runF, execOp, hr]

end

/-- what is kept while tags are read -/
structure RTs (E : Env) (w0 : World) (pb D : Nat) (rs0 : RS) (n : Nat) (f : Nat → Value) (w : World) (l : TagL) (rs : RS) (k : Nat) : Prop where
  f0 : f 0 = .pointer (some ⟨pb, 0, none⟩)
  f3 : f 3 = .pointer (some ⟨w0.heap.size + 1, 0, none⟩)
  f4 : f 4 = .int .u32 k
  f2 : f 2 = .pointer (some ⟨w0.heap.size, 0, none⟩)
  ext : Ext (· = pb) w0 w
  rd : RdAt E.tRd w pb D rs
  cell : ∃ u, w.heap[w0.heap.size + 1]? = some (.cells #[u] E.t_kmsg_Tags (0, 0)) ∧ TagsM w D (w0.heap.size + 1) u l
  res : w.heap[w0.heap.size]? = some (.cells #[.map none] E.t_kmsg_Tags (0, 0))
  nd : (l.map (·.1)).Nodup
  len : l.length + k ≤ n
  todo : rdTagN k l rs = rdTagN n [] rs0
  kn : n < 4294967296

theorem Ext.grow {C : Nat → Prop} {a b c : World} {n : Nat} (h : Ext C a b) (k : Ext (fun x => n ≤ x) b c) (hn : a.heap.size ≤ n) : Ext C a c :=
  ⟨k.os.trans h.os, k.tape.trans h.tape, k.output.trans h.output, Nat.le_trans h.size k.size, fun i hi hc => (k.block i (Nat.lt_of_lt_of_le hi h.size) (by omega)).trans (h.block i hi hc)⟩

theorem EL.mono {w : World} {K K' : Nat → Prop} {c : Nat} (hk : ∀ b, K b → K' b) : ∀ {L : List MapEntry} {l : TagL}, EL w K c L l → EL w K' c L l
  | [], [], _ => trivial
  | e :: L, x :: l, h => ⟨⟨h.1.1, h.1.2.1, h.1.2.2.1, h.1.2.2.2.mono (fun b _ => hk b)⟩, EL.mono hk h.2⟩
  | [], _ :: _, h => h.elim
  | _ :: _, [], h => h.elim

theorem setTag_len1 (k : Nat) (v : List UInt8) (l : TagL) : (setTag k v l).length ≤ l.length + 1 := (setTag_len k v l).1

theorem TagsM.ext {C : Nat → Prop} {w w' : World} {D base : Nat} {u : Value} {l : TagL} (h : TagsM w D base u l) (he : Ext C w w') (hD : ¬ C D) (hC : ∀ k, k < w.heap.size → base ≤ k → ¬ C k) : TagsM w' D base u l := by
  rcases h with h | ⟨m, es, clock, rfl, hm, hb, h1, h2⟩
  · exact .inl h
  · exact .inr ⟨m, es, clock, rfl, hm, he.old hb (hC m (lt_of_heap hb) hm), h1.ext he hD, h2⟩

section
variable {P : Program} {E : Env} (ht : TyTg P E)
include ht
set_option maxHeartbeats 1000000 in
theorem c_readTags (C : CfgR) (hE : C.E = E) (hu : P.underlying E.tU32 = some (.int .u32)) (hi : intKind? P E.tU32 = some .u32) (hi' : intKind? P E.tInt = some .i64) (hk : kindOf P E.t_kmsg_Tags = .agg 1) (hz : zeroOf P E.t_kmsg_Tags = some (.agg #[.map none]))
    (hI : FnIs P E.f_kmsg_internalReadTags nt_kmsg_internalReadTags (rs_kmsg_internalReadTags E) (ir_kmsg_internalReadTags E))
    (hU : RdC P E.tRd E.f_pkbin_Reader_Uvarint fun rs => (.int .u32 (rdUv rs).1, (rdUv rs).2)) (hS : SpanC P E.tRd E.f_pkbin_Reader_Span)
    (hT : ∀ {w : World} {D base b k : Nat} {u v : Value} {s : List UInt8} {l : TagL} {et : TypeId}, k < 4294967296 → BytesAt w (· = D) v s → w.heap[b]? = some (.cells #[u] et (0, 0)) → TagsM w D base u l → D < base → base ≤ b → base ≤ w.heap.size →
      Ret P E.f_pkmsg_Tags_Set #[.pointer (some ⟨b, 0, none⟩), .int .u32 k, v] w fun _ w' => ∃ u', w'.heap[b]? = some (.cells #[u'] et (0, 0)) ∧ TagsM w' D base u' (setTag k s l) ∧ Ext (fun x => base ≤ x) w w') : TagsRC P C := by
  subst hE
  intro w pb D rs hne hD hr
  refine hI.call (args := [_]) (by simp [nt_kmsg_internalReadTags]) ?_
  have hlt : pb < w.heap.size := by obtain ⟨sv, hb, _⟩ := hr; exact lt_of_heap hb
  simp [ir_kmsg_internalReadTags, rs_kmsg_internalReadTags, hz, Value.cells]
  generalize hw1 : w.alloc (.cells #[.map none] C.E.t_kmsg_Tags) = w1
  have hs1 : w1.heap.size = w.heap.size + 1 := by subst hw1; simp
  have hx1 : Ext none1 w w1 := by subst hw1; exact (Ext.refl _ w).alloc _
  have hb0 : w1.heap[w.heap.size]? = some (.cells #[.map none] C.E.t_kmsg_Tags (0, 0)) := by subst hw1; exact alloc_new
  generalize hw2 : w1.alloc (.cells #[.map none] C.E.t_kmsg_Tags) = w2
  have hs2 : w2.heap.size = w.heap.size + 2 := by subst hw2; simp [hs1]
  have hx2 : Ext none1 w w2 := by subst hw2; exact hx1.alloc _
  have hb1 : w2.heap[w.heap.size + 1]? = some (.cells #[.map none] C.E.t_kmsg_Tags (0, 0)) := by subst hw2; rw [← hs1]; exact alloc_new
  have hb02 : w2.heap[w.heap.size]? = some (.cells #[.map none] C.E.t_kmsg_Tags (0, 0)) := by subst hw2; exact alloc_old hb0
  have hr2 : RdAt C.E.tRd w2 pb D rs := RdAt.ext hr hx2 (fun h => h) (fun h => h)
  refine (hU w2 pb D rs hne hr2).mono ?_
  rintro _ w3 ⟨rfl, hx3, hr3⟩
  simp
  have hx03 : Ext (· = pb) w w3 := (hx2.mono (fun _ _ h => h.elim)).trans hx3
  refine cw_loop (fun f w' => ∃ l rs' k, RTs C.E w pb D (rdUv rs).2 (rdUv rs).1 f w' l rs' k) (fun f _ => match f 4 with | .int _ n => n.toNat | _ => 0) ?_ ?_
  · refine ⟨[], (rdUv rs).2, (rdUv rs).1, by simp, by simp [hs1], by simp, by simp, hx03, hr3, ⟨.map none, hx3.old hb1 (by omega), .inl ⟨rfl, rfl⟩⟩, hx3.old hb02 (by omega), by simp, by simp, rfl, rdUv_lt rs⟩
  · rintro f w4 ⟨l, rs4, k, h⟩
    simp [h.f4]
    by_cases hk0 : k = 0
    · refine cw_false (by simp [hk0]) ?_
      obtain ⟨u, hc, hM⟩ := h.cell
      have c0 : w4.cell? ⟨w.heap.size + 1, 0, none⟩ = some u := by rw [cell_of_blk hc]; rfl
      have hone := hM.one
      simp [h.f3, h.f2, ld_agg hk, cellsFrom, Addr.add_mk, c0, store_agg hk, allOne, hone.1, putK_blk h.res]
      have hov : over #[Value.map none] 0 [u] = #[u] := rfl
      simp only [hov]
      generalize hw5 : w4.setBlk w.heap.size (.cells #[u] C.E.t_kmsg_Tags (0, 0)) = w5
      have hb5 : w5.heap[w.heap.size]? = some (.cells #[u] C.E.t_kmsg_Tags (0, 0)) := by subst hw5; exact setBlk_same h.res
      have c5 : w5.cell? ⟨w.heap.size, 0, none⟩ = some u := by rw [cell_of_blk hb5]; rfl
      simp [c5]
      have hx5 : Ext (fun x => x = w.heap.size) w4 w5 := by subst hw5; exact (Ext.refl (fun x => x = w.heap.size) w4).setBlk (b := w.heap.size) (Or.inr rfl) _
      have hlen := h.len
      have hkn := h.kn
      have htodo := h.todo
      subst hk0
      simp only [rdTagN] at htodo
      have hl1 : (rdTags rs).1 = l := by rw [rdTags, ← htodo]
      have hl2 : (rdTags rs).2 = rs4 := by rw [rdTags, ← htodo]
      refine ⟨?_, by subst hw5; exact h.ext.setBlk (Or.inl (Nat.le_refl _)) _, ?_⟩
      · rw [hl1, tagsAt_iff]
        rcases hM with ⟨rfl, rfl⟩ | ⟨m, es, clock, rfl, hm, hmb, he, hn⟩
        · exact .inl ⟨rfl, rfl⟩
        · refine .inr ⟨m, es, clock, rfl, .inr (by omega), hx5.old hmb ?_, ?_, h.nd, hn, by omega⟩
          · intro e; subst e; rw [h.res] at hmb; cases hmb
          · exact EL.mono (fun b hb => .inl hb) (he.ext hx5 (by omega))
      · rw [hl2]
        exact RdAt.ext h.rd hx5 (by omega) (by omega)
    · refine cw_true (by simp; omega) ?_
      simp [h.f0]
      refine (hU w4 pb D rs4 hne h.rd).mono ?_
      rintro _ w5 ⟨rfl, hx5, hr5⟩
      simp [h.f0]
      refine (hU w5 pb D _ hne hr5).mono ?_
      rintro _ w6 ⟨rfl, hx6, hr6⟩
      simp [h.f0, hi, hi']
      have hwr : IntKind.i64.wrap ((rdUv (rdUv rs4).2).1 : Int) = ((rdUv (rdUv rs4).2).1 : Int) := i64_small (by omega) (by have := rdUv_lt (rdUv rs4).2; omega)
      rw [hwr]
      refine (hS w6 pb D _ _ hne hr6).mono ?_
      rintro v w7 ⟨hv, _, hx7, hr7⟩
      simp [h.f3]
      have hx47 : Ext (· = pb) w4 w7 := (hx5.trans hx6).trans hx7
      obtain ⟨u, hc, hM⟩ := h.cell
      have hsz := h.ext.size
      have hc7 : w7.heap[w.heap.size + 1]? = some (.cells #[u] C.E.t_kmsg_Tags (0, 0)) := hx47.old hc (by omega)
      refine (hT (rdUv_lt rs4) hv hc7 (hM.ext hx47 (fun e => hne e.symm) (by intro k _ hk e; omega)) (by omega) (by omega) (by have := lt_of_heap hc7; omega)).mono ?_
      rintro _ w8 ⟨u', hc8, hM8, hx8⟩
      simp [h.f4]
      have hkn := h.kn
      have hln := h.len
      have hwk : IntKind.u32.wrap ((k : Int) - 1) = ((k - 1 : Nat) : Int) := by simp [IntKind.wrap, IntKind.signed, IntKind.bits]; omega
      refine ⟨⟨_, _, k - 1, ⟨by simp [h.f0], by simp [h.f3], by simp [hwk], by simp [h.f2], ?_, hr7.ext hx8 (by omega) (by omega), ⟨u', hc8, hM8⟩, ?_, setTag_nodup _ _ _ h.nd, ?_, ?_, hkn⟩⟩, ?_⟩
      · exact (h.ext.trans hx47).grow hx8 (by omega)
      · exact hx8.old (hx47.old h.res (by omega)) (by omega)
      · exact Nat.le_trans (Nat.add_le_add_right (setTag_len1 _ _ l) _) (by omega)
      · rw [← h.todo]
        obtain ⟨k', rfl⟩ : ∃ k', k = k' + 1 := ⟨k - 1, by omega⟩
        simp only [Nat.add_sub_cancel, rdTagN, rdTag]
      · rw [hwk]; omega
end
end Go.Kg

set_option linter.unusedSimpArgs false
set_option linter.unusedVariables false
namespace Go.Kg
open Go

/-! ## Tags: written -/
/-- where what is written stands while tags are written: the cell bd; nothing of 'prot' is touched -/
structure DstAt (E : Env) (base bd : Nat) (w0 : World) (v0 : Value) (prot : Nat → Prop) (s : List UInt8) (w : World) (v : Value) : Prop where
  cell : w.heap[bd]? = some (.cells #[v] E.tBs (0, 0))
  own : OwnB E.tU8 w base v s
  grew : Grew w0 v0 w v
  off : ∀ k, prot k → k < w.heap.size ∧ ¬ own1 v k

theorem ownB_cells {e : Nat} {w : World} {base : Nat} {v : Value} {s : List UInt8} (h : OwnB e w base v s) : v.cells = #[v] ∧ v.oneCell' = true := by
  obtain ⟨n, _, h⟩ := h
  rcases h with ⟨rfl, _⟩ | ⟨g, cap, cur, rfl, _⟩ <;> exact ⟨rfl, rfl⟩

theorem DstAt.step {E : Env} {base bd : Nat} {w0 w w' : World} {v0 v v' : Value} {prot : Nat → Prop} {s out : List UInt8} (hD : DstAt E base bd w0 v0 prot s w v) (hbd : w0.heap.size ≤ bd) (hnp : ¬ prot bd) (hnb : ¬ own1 v bd)
    (ho : OwnB E.tU8 w' base v' (s ++ out)) (hg : Grew w v w' v') :
    w'.heap[bd]? = some (.cells #[v] E.tBs (0, 0)) ∧ DstAt E base bd w0 v0 prot (s ++ out) (w'.setBlk bd (.cells #[v'] E.tBs (0, 0))) v' ∧ ¬ own1 v' bd ∧ ∀ k, prot k → (w'.setBlk bd (.cells #[v'] E.tBs (0, 0))).heap[k]? = w.heap[k]? := by
  have hlt := lt_of_heap hD.cell
  have hc : w'.heap[bd]? = some (.cells #[v] E.tBs (0, 0)) := hg.ext.old hD.cell hnb
  have hnb' : ¬ own1 v' bd := fun h => (hg.own bd h).elim hnb (fun h => by omega)
  have hoff : ∀ k, prot k → k < w'.heap.size ∧ ¬ own1 v' k := fun k hk => ⟨Nat.lt_of_lt_of_le (hD.off k hk).1 hg.ext.size, fun h => (hg.own k h).elim (hD.off k hk).2 (fun h' => by have := (hD.off k hk).1; omega)⟩
  have hG := hD.grew.trans hg
  refine ⟨hc, ⟨setBlk_same hc, Own.ext ho ((Ext.refl (fun x => x = bd) w').setBlk (b := bd) (Or.inr rfl) _) (fun b h e => hnb' (by subst e; exact h)), ⟨hG.ext.setBlk (Or.inl hbd) _, hG.own⟩, by simpa using hoff⟩, hnb', ?_⟩
  intro k hk
  have hne : k ≠ bd := fun e => hnp (by subst e; exact hk)
  rw [setBlk_other hne]
  exact hg.ext.block k (hD.off k hk).1 (hD.off k hk).2

section
variable {P : Program} {E : Env} (ht : TyTg P E)
include ht

theorem c_AE1 (hS : SliI P E.tBs E.tU8 1 1 (.int .u8 0)) (hi : intKind? P E.tU32 = some .u32) (hi' : intKind? P E.tInt = some .i64) (hI : FnIs P E.f_pkmsg_Tags_AppendEach_1 nt_pkmsg_Tags_AppendEach_1 (rs_pkmsg_Tags_AppendEach_1 E) (ir_pkmsg_Tags_AppendEach_1 E))
    (hU : ∀ n : Nat, n < 4294967296 → WrC P E.tU8 E.f_kbin_AppendUvarint [.int .u32 n] (uvOut n))
    {base bd : Nat} {w0 w : World} {v0 v val : Value} {prot : Nat → Prop} {s : List UInt8} {x : Nat × List UInt8} {K : Nat → Prop}
    (hD : DstAt E base bd w0 v0 prot s w v) (hbd : w0.heap.size ≤ bd) (hb : base ≤ w0.heap.size) (hnp : ¬ prot bd) (hnb : ¬ own1 v bd) (hx : x.1 < 4294967296) (hxl : x.2.length < 4294967296) (hv : BytesAt w K val x.2) (hK : ∀ k, K k → k < base) (hsz : s.length + (tagW x).length ≤ 1099511627776) :
    Ret P E.f_pkmsg_Tags_AppendEach_1 #[.int .u32 x.1, val, .pointer (some ⟨bd, 0, none⟩)] w fun _ w' => ∃ v', DstAt E base bd w0 v0 prot (s ++ tagW x) w' v' ∧ ¬ own1 v' bd ∧ ∀ k, prot k → w'.heap[k]? = w.heap[k]? := by
  have hbdlt := lt_of_heap hD.cell
  have hxu : uvOut x.1 ++ uvOut x.2.length ++ x.2 = tagW x := by simp [tagW, Nat.mod_eq_of_lt hxl]
  have hsz' : s.length + ((uvOut x.1).length + (uvOut x.2.length).length + x.2.length) ≤ 1099511627776 := by rw [← hxu] at hsz; simp only [List.length_append] at hsz; omega
  refine hI.call (args := [_, _, _]) (by simp [nt_pkmsg_Tags_AppendEach_1]) ?_
  have c0 : w.cell? ⟨bd, 0, none⟩ = some v := by rw [cell_of_blk hD.cell]; rfl
  have hsw : base ≤ w.heap.size := Nat.le_trans hb hD.grew.size
  simp [ir_pkmsg_Tags_AppendEach_1, rs_pkmsg_Tags_AppendEach_1, ld_scl ht.kBs, c0]
  refine (hU x.1 hx w base v s hD.own hsw (by omega)).mono ?_
  rintro v1 w1 ⟨ho1, hg1⟩
  obtain ⟨hc1, hD1, hn1, hp1⟩ := hD.step hbd hnp hnb ho1 hg1
  have hva : BytesAt w1 K val x.2 := hv.ext hg1.ext (fun b _ hk h => by have := (Own.below hD.own h).1; have := hK b hk; omega)
  simp [store_scl ht.kBs, (ownB_cells ho1).2, put1K_blk hc1]
  generalize hw1' : w1.setBlk bd (.cells #[v1] E.tBs (0, 0)) = w1' at *
  have hva1 : BytesAt w1' K val x.2 := by subst hw1'; exact hva.ext ((Ext.refl (fun k => k = bd) w1).setBlk (b := bd) (Or.inr rfl) _) (fun b _ hk e => by have := hK b hk; omega)
  have c1 : w1'.cell? ⟨bd, 0, none⟩ = some v1 := by rw [cell_of_blk hD1.cell]; rfl
  obtain ⟨a, c, rfl, _⟩ := hva1.len
  have hw32 : IntKind.u32.wrap (x.2.length : Int) = (x.2.length : Int) := by simp [IntKind.wrap, IntKind.signed, IntKind.bits]; omega
  have uBs := hS.und
  simp [ld_scl ht.kBs, c1, len_slice uBs, hi, hi', hw32]
  refine (hU x.2.length hxl w1' base v1 _ hD1.own (Nat.le_trans hb hD1.grew.size) (by simp; omega)).mono ?_
  rintro v2 w2 ⟨ho2, hg2⟩
  obtain ⟨hc2, hD2, hn2, hp2⟩ := hD1.step hbd hnp hn1 ho2 hg2
  have hvb : BytesAt w2 K (.slice a x.2.length c) x.2 := hva1.ext hg2.ext (fun b _ hk h => by have := (Own.below hD1.own h).1; have := hK b hk; omega)
  simp [store_scl ht.kBs, (ownB_cells ho2).2, put1K_blk hc2]
  generalize hw2' : w2.setBlk bd (.cells #[v2] E.tBs (0, 0)) = w2' at *
  have hvb1 : BytesAt w2' K (.slice a x.2.length c) x.2 := by subst hw2'; exact hvb.ext ((Ext.refl (fun k => k = bd) w2).setBlk (b := bd) (Or.inr rfl) _) (fun b _ hk e => by have := hK b hk; omega)
  have c2 : w2'.cell? ⟨bd, 0, none⟩ = some v2 := by rw [cell_of_blk hD2.cell]; rfl
  simp [ld_scl ht.kBs, c2]
  refine st_app_bytes hS (by simp) hD2.own (Nat.le_trans hb hD2.grew.size) (by simpa using hvb1) (by simp; omega) ?_
  intro v3 w3 ho3 hg3
  obtain ⟨hc3, hD3, hn3, hp3⟩ := hD2.step hbd hnp hn2 ho3 hg3
  simp [store_scl ht.kBs, (ownB_cells ho3).2, put1K_blk hc3]
  refine ⟨v3, ?_, hn3, fun k hk => ?_⟩
  · rw [← hxu]; simpa [List.append_assoc] using hD3
  · rw [hp3 k hk, hp2 k hk, hp1 k hk]
end
end Go.Kg

set_option linter.unusedSimpArgs false
set_option linter.unusedVariables false
namespace Go.Kg
open Go

/-! ## Tags.Each -/
theorem DstAt.ext {E : Env} {base bd n0 : Nat} {w0 w w' : World} {v0 v : Value} {prot : Nat → Prop} {s : List UInt8} (hD : DstAt E base bd w0 v0 prot s w v) (he : Ext (fun x => n0 ≤ x) w w') (hbd : bd < n0) (hv : ∀ k, own1 v k → k < n0) (h0 : w0.heap.size ≤ n0) :
    DstAt E base bd w0 v0 (fun k => n0 ≤ k ∧ k < w'.heap.size) s w' v :=
  ⟨he.old hD.cell (by omega), Own.ext hD.own he (fun b h h' => by have := hv b h; omega), ⟨hD.grew.ext.grow he h0, hD.grew.own⟩, fun k hk => ⟨hk.2, fun h => by have := hv k h; omega⟩⟩

theorem DstAt.tags {E : Env} {base bd : Nat} {w0 w : World} {v0 v : Value} {prot : Nat → Prop} {s s0 : List UInt8} (hD : DstAt E base bd w0 v0 prot s w v) (ho : OwnB E.tU8 w0 base v0 s0) {b o : Nat} {u : Value} {l : TagL} (hb : b < base) (hc : w0.cell? ⟨b, o, none⟩ = some u) (hl : TagsAt w0 (· < base) u l) :
    w.cell? ⟨b, o, none⟩ = some u ∧ TagsAt w (· < base) u l :=
  ⟨hD.grew.ext.cell hc (fun h => by have := (Own.below ho h).1; simp at this; omega), hl.ext hD.grew.ext (fun b _ hb h => by have := (Own.below ho h).1; omega)⟩

theorem EL.find {w : World} {K : Nat → Prop} {c : Nat} : ∀ {L : List MapEntry} {l : TagL} (i : Nat), EL w K c L l → (l.map (·.1)).Nodup → ∀ x ∈ l, x.1 < 4294967296 ∧ ∃ j v, Instr.findNow (.int .u32) (.int .u32 x.1) L i = some (some (j, v)) ∧ BytesAt w K v x.2
  | e :: L, y :: l, i, ⟨⟨h1, h2, h3, h4⟩, h5⟩, hn, x, hx => by
    simp only [List.map_cons, List.nodup_cons] at hn
    by_cases hxy : y.1 = x.1
    · have : x = y := by
        rcases List.mem_cons.1 hx with h | h
        · exact h
        · exact absurd (List.mem_map.2 ⟨x, h, hxy.symm⟩) hn.1
      subst this
      exact ⟨h2, i, e.val, by simp [Instr.findNow, Instr.sameNow, h1], h4⟩
    · have hx' : x ∈ l := by
        rcases List.mem_cons.1 hx with h | h
        · subst h; exact absurd rfl hxy
        · exact h
      obtain ⟨a, j, v, b1, b2⟩ := EL.find (i + 1) h5 hn.2 x hx'
      have hne : ((x.1 : Int) == (y.1 : Int)) = false := by simp; omega
      exact ⟨a, j, v, by simp [Instr.findNow, Instr.sameNow, h1, hne, b1], b2⟩
  | [], _ :: _, _, h, _, _, _ => h.elim

theorem run_lookup {P : Program} {T KT VT : TypeId} (hT : P.underlying T = some (.map KT VT)) (hK : P.underlying KT = some (.int .u32)) {w : World} {b clock j : Nat} {k : Int} {v : Value} {es : Array MapEntry}
    (hb : w.heap[b]? = some (.map es clock)) (hf : Instr.findNow (.int .u32) (.int .u32 k) es.toList 0 = some (some (j, v))) :
    (Instr.lookup T (.map (some b)) (.int .u32 k) false).run P w = .ok v w := by
  have hget : (getObj b).run P w = .ok (.map es clock) w := by simp [getObj, Sem.run, hb]
  simp [Instr.lookup, run_underlying hT, hget, check_u32 hK, Instr.findKey, run_underlying hK, hf]

theorem EL.keys {w : World} {K : Nat → Prop} {c : Nat} : ∀ {L : List MapEntry} {l : TagL}, EL w K c L l → L.map (·.key) = l.map fun x => Value.int .u32 x.1
  | [], [], _ => rfl
  | e :: L, x :: l, h => by simp [h.1.1, EL.keys h.2]
  | [], _ :: _, h => h.elim
  | _ :: _, [], h => h.elim

theorem left_perm {seen : Array Nat} {e : MapEntry} : ∀ {L : List MapEntry}, (L.map (·.born)).Nodup → e ∈ L → seen.contains e.born = false →
    ((L.filter fun x => !seen.contains x.born).map (·.key)).Perm (e.key :: (L.filter fun x => !(seen.push e.born).contains x.born).map (·.key))
  | x :: L, hn, he, hs => by
    simp only [List.map_cons, List.nodup_cons] at hn
    have hc : ∀ y : MapEntry, (seen.push e.born).contains y.born = (seen.contains y.born || (y.born == e.born)) := by
      intro y; rw [contains_push]
    by_cases hxe : x.born = e.born
    · have hx : x = e := by
        rcases List.mem_cons.1 he with h | h
        · exact h.symm
        · exact absurd (List.mem_map.2 ⟨e, h, hxe.symm⟩) hn.1
      subst hx
      have hrest : (L.filter fun y => !(seen.push x.born).contains y.born) = L.filter fun y => !seen.contains y.born := by
        refine List.filter_congr fun y hy => ?_
        have : (y.born == x.born) = false := by simp; intro h; exact hn.1 (h ▸ List.mem_map.2 ⟨y, hy, rfl⟩)
        rw [hc, this]; simp
      have h1 : (List.filter (fun y : MapEntry => !seen.contains y.born) (x :: L)) = x :: L.filter fun y => !seen.contains y.born := by rw [List.filter_cons, hs]; rfl
      have h2 : (List.filter (fun y : MapEntry => !(seen.push x.born).contains y.born) (x :: L)) = L.filter fun y => !(seen.push x.born).contains y.born := by rw [List.filter_cons, hc]; simp
      rw [h1, h2, hrest]
      exact List.Perm.refl _
    · have he' : e ∈ L := by
        rcases List.mem_cons.1 he with h | h
        · subst h; exact absurd rfl hxe
        · exact h
      have ih := left_perm hn.2 he' hs
      have hxb : (x.born == e.born) = false := by simpa using hxe
      cases hsx : seen.contains x.born
      · have h1 : (List.filter (fun y : MapEntry => !seen.contains y.born) (x :: L)) = x :: L.filter fun y => !seen.contains y.born := by rw [List.filter_cons, hsx]; rfl
        have h2 : (List.filter (fun y : MapEntry => !(seen.push e.born).contains y.born) (x :: L)) = x :: L.filter fun y => !(seen.push e.born).contains y.born := by rw [List.filter_cons, hc, hsx, hxb]; rfl
        rw [h1, h2]
        simp only [List.map_cons]
        exact (List.Perm.cons _ ih).trans (List.Perm.swap _ _ _)
      · have h1 : (List.filter (fun y : MapEntry => !seen.contains y.born) (x :: L)) = L.filter fun y => !seen.contains y.born := by rw [List.filter_cons, hsx]; rfl
        have h2 : (List.filter (fun y : MapEntry => !(seen.push e.born).contains y.born) (x :: L)) = L.filter fun y => !(seen.push e.born).contains y.born := by rw [List.filter_cons, hc, hsx]; simp
        rw [h1, h2]; exact ih

theorem sorted_keys {l : TagL} {d : List Nat} (hn : (l.map (·.1)).Nodup) (hp : d.Perm (l.map (·.1))) (hs : d.Pairwise (· ≤ ·)) : d = (sortTags l).map (·.1) := by
  have hp2 : ((sortTags l).map (·.1)).Perm (l.map (·.1)) := by
    refine List.Perm.map _ ?_
    clear hn hp hs
    induction l with
    | nil => exact List.Perm.refl _
    | cons x l ih =>
      have hi : ∀ (x : Nat × List UInt8) (l : TagL), (insTag x l).Perm (x :: l) := by
        intro x l
        induction l with
        | nil => exact List.Perm.refl _
        | cons y l ih =>
          simp only [insTag]
          split
          · exact List.Perm.refl _
          · exact (List.Perm.cons _ ih).trans (List.Perm.swap _ _ _)
      exact (hi x (sortTags l)).trans (List.Perm.cons _ ih)
  have hs2 : ((sortTags l).map (·.1)).Pairwise (· ≤ ·) := by
    rw [List.pairwise_map]; exact sortTags_sorted l
  exact List.Perm.eq_of_pairwise (fun a b _ _ h1 h2 => Nat.le_antisymm h1 h2) hs hs2 (hp.trans hp2.symm)

/-- sort.Slice over ordered, by the literal in Each -/
def SortC (P : Program) (E : Env) : Prop := ∀ (w : World) (Bs blk c : Nat) (d : List Nat) (row : Array Value), w.cell? ⟨Bs, 0, none⟩ = some (.slice (some ⟨blk, 0, none⟩) d.length c) → Bs ≠ blk → w.heap[blk]? = some (.cells row E.tU32 (0, 0)) →
  (∀ (i x : Nat), d[i]? = some x → row[i]? = some (Value.int .u32 (x : Int))) → 0 < d.length → d.length < 4294967296 →
  Ret P E.f_sort_Slice #[.iface E.t_l_uint32 (.slice (some ⟨blk, 0, none⟩) d.length c), .func (.func E.f_pkmsg_Tags_Each_1) #[] #[.pointer (some ⟨Bs, 0, none⟩)]] w fun _ w' => ∃ d' : List Nat, d'.Perm d ∧ d'.Pairwise (· ≤ ·) ∧ Ext (· = blk) w w' ∧
    ∀ (i x : Nat), d'[i]? = some x → w'.cell? ⟨blk, i, none⟩ = some (Value.int .u32 (x : Int))

@[simp] theorem stp_range {P : Program} {f : Nat → Value} {ty : TypeId} {w : World} {K : Value → World → Prop} {T : TypeId} {a : Operand} : stp P f (.range T a) ty w K = stepF P f (.range T a) ty w K := (rfl)
@[simp] theorem stp_next {P : Program} {f : Nat → Value} {ty : TypeId} {w : World} {K : Value → World → Prop} {a : Operand} {b : Bool} : stp P f (.next a b) ty w K = stepF P f (.next a b) ty w K := (rfl)
@[simp] theorem stp_entry {P : Program} {f : Nat → Value} {ty : TypeId} {w : World} {K : Value → World → Prop} {a : Operand} : stp P f (.entry a) ty w K = stepF P f (.entry a) ty w K := (rfl)
@[simp] theorem stp_lookup {P : Program} {f : Nat → Value} {ty : TypeId} {w : World} {K : Value → World → Prop} {T : TypeId} {a b : Operand} {c : Bool} : stp P f (.lookup T a b c) ty w K = stepF P f (.lookup T a b c) ty w K := (rfl)
@[simp] theorem stp_mkI {P : Program} {f : Nat → Value} {ty : TypeId} {w : World} {K : Value → World → Prop} {T : TypeId} {a : Operand} : stp P f (.makeInterface T a) ty w K = stepF P f (.makeInterface T a) ty w K := (rfl)

def rLeft (w : World) (b r : Nat) : Nat :=
  match w.heap[b]?, w.heap[r]? with
  | some (.map es _), some (.mapIter _ _ seen _) => (leftOf es seen).size
  | _, _ => 0
theorem rLeft_of {w : World} {b r c s c0 : Nat} {es : Array MapEntry} {seen : Array Nat} {m : Option Nat} (h1 : w.heap[b]? = some (.map es c)) (h2 : w.heap[r]? = some (.mapIter m s seen c0)) : rLeft w b r = (leftOf es seen).size := by
  simp [rLeft, h1, h2]

/-- while the keys are gathered -/
structure RngI (E : Env) (base bd n0 : Nat) (w0 : World) (v0 : Value) (s : List UInt8) (v : Value) (it bp m : Nat) (es : Array MapEntry) (clock : Nat) (pt fn : Value) (ww : World) (f : Nat → Value) (w : World) : Prop where
  ext : Ext (fun x => n0 ≤ x) ww w
  f0 : f 0 = pt
  f1 : f 1 = fn
  f4 : f 4 = .pointer (some ⟨bp, 0, none⟩)
  f24 : f 24 = .pointer (some ⟨it, 0, none⟩)
  st : ∃ seen c0 ov done, w.heap[it]? = some (.mapIter (some m) clock seen c0) ∧ clock ≤ c0 ∧ w.heap[bp]? = some (.cells #[ov] E.t_l_uint32 (0, 0)) ∧ Own w n0 E.tU32 1 ov done ∧ (∀ k, own1 ov k → k ≠ it ∧ k ≠ bp) ∧
    (((es.toList.filter fun x => !seen.contains x.born).map (·.key)) ++ done).Perm (es.toList.map (·.key)) ∧ done.length ≤ es.size

section
variable {P : Program} {E : Env} (ht : TyTg P E)
include ht

set_option maxHeartbeats 1000000 in
/-- 'for key := range t.keyvals' -/
theorem c_round (kS : kindOf P E.t_l_uint32 = .scl) (hS : SliI P E.t_l_uint32 E.tU32 1 4 (.int .u32 0)) (hi : intKind? P E.tU32 = some .u32)
    {base bd n0 : Nat} {w0 ww : World} {v0 v : Value} {s : List UInt8} {it bp m : Nat} {es : Array MapEntry} {clock : Nat} {pt fn : Value} {f : Nat → Value} {w : World} {K : Nat → Prop} {l : TagL}
    (h : RngI E base bd n0 w0 v0 s v it bp m es clock pt fn ww f w) (hm : w.heap[m]? = some (.map es clock)) (he : EL w K clock es.toList l) (hn : (es.toList.map (·.born)).Nodup) (hlen : es.size ≤ 40000) (hit : n0 ≤ it ∧ it < w.heap.size) (hbp : n0 ≤ bp ∧ bp < w.heap.size) (hib : it ≠ bp) (hm0 : m < n0) {Q : Post}
    (hdone : ∀ f' w', w' = w → (∀ x, x ≠ 25 → x ≠ 26 → f' x = f x) → leftOf es #[] = leftOf es #[] → (∃ seen c0, w.heap[it]? = some (.mapIter (some m) clock seen c0) ∧ (leftOf es seen).size = 0) → Q (.exit 0) f' w')
    (hnext : ∀ f' w', RngI E base bd n0 w0 v0 s v it bp m es clock pt fn ww f' w' → rLeft w' m it < rLeft w m it → Q .normal f' w') :
    ((Ir.seq
          (.reg [
              ⟨none, some 25, .next (.tmp 24) false, E.tNil⟩,
              ⟨none, some 26, .extract (.tmp 25) 0, E.tB⟩])
        (.seq
          (.cond 26
            .skip
            (.exit 0))
        (.block 1
          (.seq
            (.reg [
                ⟨none, some 27, .entry (.tmp 24), E.tNil⟩,
                ⟨none, some 28, .extract (.tmp 27) 0, E.tU32⟩,
                ⟨none, some 5, .assign (.tmp 28), E.tU32⟩])
          (.reg [
              ⟨none, some 29, .load E.t_l_uint32 (.tmp 4), E.t_l_uint32⟩,
              ⟨none, some 30, .move (.tmp 5), E.tU32⟩,
              ⟨none, some 31, .buildSlice E.t_l_uint32 1 #[(0, .tmp 30)], E.t_l_uint32⟩,
              ⟨none, some 32, .call { callee := .builtin .append, args := #[.tmp 29, .tmp 31], argTypes := #[E.t_l_uint32, E.t_l_uint32] }, E.t_l_uint32⟩,
              ⟨none, none, .store E.t_l_uint32 (.tmp 4) (.tmp 32), E.tNil⟩])))))).cw P Q f w := by
  obtain ⟨seen, c0, ov, done, hr, hc0, hbo, ho, hoff, hperm, hdl⟩ := h.st
  have hold : ∀ x ∈ es.toList, x.born < clock := fun x hx => by
    obtain ⟨y, _, hy⟩ := he.mem x hx
    exact hy.2.2.1
  simp [h.f24]
  rcases run_next_at (P := P) w E.tNil it m clock c0 seen es clock hr hm hold hc0 with ⟨h0, hrun⟩ | ⟨e, hel, w1, hal, hrun⟩
  · rw [stepF_ok (v := .tuple #[.bool false]) (w' := w) (by simp [runF, execOp, h.f24, hrun])]
    simp
    refine cw_false (by simp) ?_
    simp
    exact hdone _ _ rfl (fun x h1 h2 => by simp [h1, h2]) rfl ⟨seen, c0, hr, h0⟩
  · obtain ⟨hem, hes⟩ := mem_left hel
    generalize hw2 : ChangeMaps.setBlock w1 it (.mapIter (some m) clock (seen.push e.born) clock) = w2 at hrun
    rw [stepF_ok (v := .tuple #[.bool true, e.key, e.val]) (w' := w2) (by simp [runF, execOp, h.f24, hrun])]
    have hE12 : Ext (fun x => n0 ≤ x) w w1 := by rcases hal with rfl | rfl <;> first | exact Ext.refl _ _ | exact (Ext.refl _ _).drew
    have hr1 : w1.heap[it]? = some (.mapIter (some m) clock seen c0) := by rcases hal with rfl | rfl <;> exact hr
    have hw2' : w1.setBlk it (.mapIter (some m) clock (seen.push e.born) clock) = w2 := hw2
    have hE2 : Ext (fun x => x = it) w w2 := by
      subst hw2'
      refine Ext.setBlk (C := fun x => x = it) (b := it) ?_ (Or.inr rfl) _
      rcases hal with rfl | rfl <;> first | exact Ext.refl _ _ | exact (Ext.refl _ _).drew
    have hr2 : w2.heap[it]? = some (.mapIter (some m) clock (seen.push e.born) clock) := by subst hw2'; exact setBlk_same hr1
    have hm2 : w2.heap[m]? = some (.map es clock) := hE2.old hm (by omega)
    have hent := run_entry_at (P := P) w2 it m clock seen es clock e hr2 hm2 hem hn
    have hb2 : w2.heap[bp]? = some (.cells #[ov] E.t_l_uint32 (0, 0)) := hE2.old hbo (Ne.symm hib)
    have ho2 : Own w2 n0 E.tU32 1 ov done := Own.ext ho hE2 (fun b hb => (hoff b hb).1)
    obtain ⟨y, hy, hy1, hy2, _⟩ := he.mem e hem
    have cb : w2.cell? ⟨bp, 0, none⟩ = some ov := by rw [cell_of_blk hb2]; rfl
    simp
    refine cw_true (by simp) ?_
    simp [h.f24]
    rw [stepF_ok (v := .tuple #[e.key, e.val]) (w' := w2) (by simp [runF, execOp, h.f24, hent])]
    simp [h.f4, ld_scl kS, cb]
    rw [st_bsl (n := 1) (parts := #[(0, .tmp 30)]) hS (by omega) (by rfl) rfl (by omega) (by omega) (by simp [allSz, hy1, Value.cells])]
    simp [flat, hy1, Value.cells]
    generalize hw3 : w2.alloc (.cells #[.int .u32 y.1] E.tU32) = w3
    have hE3 : Ext none1 w2 w3 := by subst hw3; exact (Ext.refl _ _).alloc _
    have hs3 : w2.heap.size < w3.heap.size := by subst hw3; simp
    have ho3 : Own w3 n0 E.tU32 1 ov done := Own.ext ho2 hE3 (fun _ _ h => h)
    have hb3 : w3.heap[w2.heap.size]? = some (.cells #[.int .u32 y.1] E.tU32 (0, 0)) := by subst hw3; exact alloc_new
    have hs2 : w2.heap.size = w.heap.size := by subst hw2'; rcases hal with rfl | rfl <;> simp
    have hp2 := left_perm hn hem hes
    have hlt : done.length < es.size := by
      have h1 := hperm.length_eq
      have h2 := hp2.length_eq
      simp only [List.length_append, List.length_map, List.length_cons, Array.length_toList] at h1 h2
      omega
    refine st_append hS (by omega) (base := n0) (xs := done) (by simpa using ho3) (ad := some ⟨w2.heap.size, 0, none⟩) (m := 1) (c := 1) (news := [.int .u32 y.1]) (by simp) (by simp) (by simp) ?_ (by simp [Value.oneCell']) (by simp [maxLen]; omega) (by simp; omega) (by omega) ?_
    · intro a ha j u hj
      cases ha
      cases j with
      | zero => simp at hj; subst hj; simp [Addr.add_mk, cell_of_blk hb3]
      | succ j => simp at hj
    · intro v' w4 ho4 hg4
      have hv' : v'.oneCell' = true ∧ v'.cells = #[v'] := by
        obtain ⟨n, _, h⟩ := ho4
        rcases h with ⟨rfl, _⟩ | ⟨g, cap, cur, rfl, _⟩ <;> exact ⟨rfl, rfl⟩
      simp at hg4
      have hb4 : w4.heap[bp]? = some (.cells #[ov] E.t_l_uint32 (0, 0)) := hg4.ext.old (hE3.old hb2 (fun h => h)) (fun h => (hoff bp h).2 rfl)
      have hit4 : w4.heap[it]? = some (.mapIter (some m) clock (seen.push e.born) clock) := hg4.ext.old (hE3.old hr2 (fun h => h)) (fun h => (hoff it h).1 rfl)
      have hm4 : w4.heap[m]? = some (.map es clock) := hg4.ext.old (hE3.old hm2 (fun h => h)) (fun h => by have := (Own.below ho h).1; omega)
      simp [h.f4, store_scl kS, hv'.1, put1K_blk hb4]
      generalize hw5 : w4.setBlk bp (.cells #[v'] E.t_l_uint32 (0, 0)) = w5
      have hE5 : Ext (fun x => x = bp) w4 w5 := by subst hw5; exact (Ext.refl (fun x => x = bp) _).setBlk (b := bp) (Or.inr rfl) _
      have hsz4 := hg4.ext.size
      have hov4 : ∀ k, own1 v' k → k ≠ it ∧ k ≠ bp := fun k hk => (hg4.own k hk).elim (hoff k) (fun h => by omega)
      have hit5 : w5.heap[it]? = some (.mapIter (some m) clock (seen.push e.born) clock) := hE5.old hit4 hib
      have hm5 : w5.heap[m]? = some (.map es clock) := hE5.old hm4 (by omega)
      refine hnext _ _ ⟨?_, by simp [h.f0], by simp [h.f1], by simp [h.f4], by simp [h.f24], seen.push e.born, clock, v', done ++ [.int .u32 y.1], hit5, Nat.le_refl _, ?_, Own.ext ho4 hE5 (fun b hb => (hov4 b hb).2), hov4, ?_, ?_⟩ ?_
      · refine h.ext.trans ?_
        refine (hE2.mono (fun _ _ e => by omega)).trans ?_
        refine (hE3.mono (fun _ _ e => e.elim)).trans ?_
        refine (hg4.ext.mono (fun k _ hk => (Own.below ho hk).1)).trans ?_
        exact hE5.mono (fun _ _ e => by omega)
      · subst hw5; exact setBlk_same hb4
      · refine List.Perm.trans ?_ hperm
        have := hp2.append_right done
        refine List.Perm.trans ?_ this.symm
        simp only [hy1, List.cons_append]
        rw [← List.append_assoc]
        exact List.perm_append_singleton _ _
      · simp; omega
      · rw [rLeft_of hm5 hit5, rLeft_of hm hr]
        exact left_shrinks es seen e hel
end
end Go.Kg

set_option linter.unusedSimpArgs false
set_option linter.unusedVariables false
namespace Go.Kg
open Go

/-- the contract of the literal in AppendEach -/
def AE1C (P : Program) (E : Env) : Prop := ∀ {base bd : Nat} {w0 w : World} {v0 v val : Value} {prot : Nat → Prop} {s : List UInt8} {x : Nat × List UInt8} {K : Nat → Prop},
    DstAt E base bd w0 v0 prot s w v → w0.heap.size ≤ bd → base ≤ w0.heap.size → ¬ prot bd → ¬ own1 v bd → x.1 < 4294967296 → x.2.length < 4294967296 → BytesAt w K val x.2 → (∀ k, K k → k < base) → s.length + (tagW x).length ≤ 1099511627776 →
    Ret P E.f_pkmsg_Tags_AppendEach_1 #[.int .u32 x.1, val, .pointer (some ⟨bd, 0, none⟩)] w fun _ w' => ∃ v', DstAt E base bd w0 v0 prot (s ++ tagW x) w' v' ∧ ¬ own1 v' bd ∧ ∀ k, prot k → w'.heap[k]? = w.heap[k]?

/-- while the tags are written -/
structure OutI (E : Env) (base bd n0 n1 : Nat) (w0 : World) (v0 : Value) (s : List UInt8) (l : TagL) (pt fn ov : Value) (w5 : World) (f : Nat → Value) (w : World) (i : Nat) : Prop where
  f0 : f 0 = pt
  f1 : f 1 = fn
  f37 : f 37 = ov
  f38 : f 38 = .int .i64 l.length
  f39 : f 39 = .int .i64 i
  il : i ≤ l.length
  st : ∃ v, DstAt E base bd w0 v0 (fun k => n0 ≤ k ∧ k < n1) (s ++ ((sortTags l).take i).flatMap tagW) w v ∧ ¬ own1 v bd
  same : ∀ k, n0 ≤ k → k < n1 → w.heap[k]? = w5.heap[k]?

theorem stp_callF {P : Program} {f : Nat → Value} {ty : TypeId} {w : World} {K : Value → World → Prop} {t g : Nat} {xs : Array Operand} {ts : Array TypeId} {first cap : Array Value} (h : f t = .func (.func g) first cap) :
    stp P f (.call { callee := .value (.tmp t), args := xs, argTypes := ts }) ty w K = Ret P g (first ++ xs.map (evF f) ++ cap) w K := by simp only [stp, callK, h]

theorem keys_back : ∀ (L : List Value), (∀ v ∈ L, ∃ x : Nat, v = .int .u32 x) → L = (L.map fun v => match v with | .int _ n => n.toNat | _ => 0).map fun x : Nat => Value.int .u32 x
  | [], _ => rfl
  | v :: L, h => by
    obtain ⟨x, rfl⟩ := h v (List.mem_cons_self ..)
    simp only [List.map_cons, Int.toNat_natCast]
    rw [← keys_back L (fun v hv => h v (List.mem_cons_of_mem _ hv))]

theorem flat_le {α : Type} (g : α → List UInt8) : ∀ (l : List α) (i : Nat), ((l.take i).flatMap g).length ≤ (l.flatMap g).length
  | [], i => by simp
  | a :: l, 0 => by simp
  | a :: l, i + 1 => by have := flat_le g l i; simp only [List.take_succ_cons, List.flatMap_cons, List.length_append]; omega

section
variable {P : Program} {E : Env} (ht : TyTg P E)
include ht

set_option maxHeartbeats 4000000 in
theorem c_EachT (kS : kindOf P E.t_l_uint32 = .scl) (k32 : kindOf P E.tU32 = .scl) (hS : SliI P E.t_l_uint32 E.tU32 1 4 (.int .u32 0)) (hi : intKind? P E.tU32 = some .u32) (hu : P.underlying E.tU32 = some (.int .u32)) (hi' : intKind? P E.tInt = some .i64) (hzS : zeroOf P E.t_l_uint32 = some (.slice none 0 0))
    (hI : FnIs P E.f_pkmsg_Tags_Each nt_pkmsg_Tags_Each (rs_pkmsg_Tags_Each E) (ir_pkmsg_Tags_Each E)) (hA : AE1C P E) (hSo : SortC P E)
    {base bd : Nat} {w0 w : World} {v0 v : Value} {s s0 : List UInt8} {b o : Nat} {u : Value} {l : TagL}
    (hD : DstAt E base bd w0 v0 (fun _ => False) s w v) (hbd : w0.heap.size ≤ bd) (hb0 : base ≤ w0.heap.size) (hnb : ¬ own1 v bd) (ho0 : OwnB E.tU8 w0 base v0 s0)
    (hb : b < base) (hc : w0.cell? ⟨b, o, none⟩ = some u) (hl : TagsAt w0 (· < base) u l) (hok : tagsOk l) (hne : l ≠ []) (hsz : s.length + (tagsOut l).length ≤ 1099511627776) :
    Ret P E.f_pkmsg_Tags_Each #[.pointer (some ⟨b, o, none⟩), .func (.func E.f_pkmsg_Tags_AppendEach_1) #[] #[.pointer (some ⟨bd, 0, none⟩)]] w fun _ w' => ∃ v', DstAt E base bd w0 v0 (fun _ => False) (s ++ tagsOut l) w' v' := by
  obtain ⟨hcw, hlw⟩ := hD.tags ho0 hb hc hl
  have hpos : 0 < l.length := List.length_pos_iff.2 hne
  rcases tagsAt_iff.1 hlw with ⟨_, h⟩ | ⟨m, es, clock, rfl, hm, hmb, he, hnd, hnb', hlen⟩
  · exact absurd h hne
  have hesl : es.size = l.length := by simpa using he.get.1
  have hbdlt := lt_of_heap hD.cell
  have hwsz := hD.grew.ext.size
  refine hI.call (args := [_, _]) (by simp [nt_pkmsg_Tags_Each]) ?_
  have hm1 : (mapLen? w (some m)) = some (.int .i64 es.size) := by simp [mapLen?, hmb]
  simp [ir_pkmsg_Tags_Each, rs_pkmsg_Tags_Each, ht.g0, Addr.add_mk, ld_scl ht.kM, hcw, isM ht, hm1]
  have hes0 : es ≠ #[] := by rintro rfl; simp at hesl; omega
  refine cw_false (by simp [hes0]) ?_
  simp [ht.g0, Addr.add_mk, ld_scl ht.kM, hcw, isM ht, hm1]
  obtain ⟨ii, hinf, hzi, hsi, hbi⟩ := hS.inf
  obtain ⟨w1, hmk, how1, hg1⟩ := run_make_own (P := P) w w.heap.size E.t_l_uint32 E.tU32 ii _ 1 hS.und hinf hzi hsi .i64 .i64 es.size (by rw [hbi]; have := hok.1; omega) (by have := hok.1; simp [maxLen]; omega) (Nat.le_refl _)
  rw [stepF_ok (v := .slice (some ⟨w.heap.size, 0, none⟩) 0 es.size) (w' := w1) (by simp [runF, execOp, hmk])]
  have hE1 : Ext none1 w w1 := ⟨hg1.os, hg1.tape, hg1.output, hg1.size, fun k hk _ => hg1.block k hk (by simp)⟩
  have ho1 : Own w1 w.heap.size E.tU32 1 (.slice (some ⟨w.heap.size, 0, none⟩) 0 es.size) [] := ⟨0, how1⟩
  have hlt1 : w.heap.size < w1.heap.size := (Own.below ho1 (b := w.heap.size) rfl).2
  simp [hzS, Value.cells, store_scl kS, put1K_blk alloc_new]
  generalize hw2 : (w1.alloc (.cells #[.slice none 0 0] E.t_l_uint32)).setBlk w1.heap.size (.cells #[.slice (some ⟨w.heap.size, 0, none⟩) 0 es.size] E.t_l_uint32 (0, 0)) = w2
  have hE2 : Ext none1 w1 w2 := by subst hw2; exact ((Ext.refl _ w1).alloc _).setBlk (Or.inl (Nat.le_refl _)) _
  have hs2 : w2.heap.size = w1.heap.size + 1 := by subst hw2; simp
  have hb2 : w2.heap[w1.heap.size]? = some (.cells #[.slice (some ⟨w.heap.size, 0, none⟩) 0 es.size] E.t_l_uint32 (0, 0)) := by subst hw2; exact setBlk_same alloc_new
  have hE02 : Ext none1 w w2 := hE1.trans hE2
  have hcw2 : w2.cell? ⟨b, o, none⟩ = some (.map (some m)) := hE02.cell hcw (fun h => h)
  have hm2 : w2.heap[m]? = some (.map es clock) := hE02.old hmb (fun h => h)
  refine ⟨rfl, ?_⟩
  simp [ht.g0, Addr.add_mk, ld_scl ht.kM, hcw2]
  rw [stepF_ok (v := .pointer (some ⟨w2.heap.size, 0, none⟩)) (w' := w2.alloc (.mapIter (some m) clock #[] clock)) (by simp [runF, execOp, run_range_map w2 _ _ _ m es clock ht.uM hm2])]
  generalize hw3 : w2.alloc (.mapIter (some m) clock #[] clock) = w3
  have hE3 : Ext none1 w2 w3 := by subst hw3; exact (Ext.refl _ w2).alloc _
  have hs3 : w3.heap.size = w2.heap.size + 1 := by subst hw3; simp
  have hi3 : w3.heap[w2.heap.size]? = some (.mapIter (some m) clock #[] clock) := by subst hw3; exact alloc_new
  have hE03 : Ext none1 w w3 := hE02.trans hE3
  have hm3 : w3.heap[m]? = some (.map es clock) := hE03.old hmb (fun h => h)
  refine cw_loop (fun f w' => RngI E base bd w.heap.size w0 v0 s v w2.heap.size w1.heap.size m es clock (.pointer (some ⟨b, o, none⟩)) (.func (.func E.f_pkmsg_Tags_AppendEach_1) #[] #[.pointer (some ⟨bd, 0, none⟩)]) w f w') (fun _ w' => rLeft w' m w2.heap.size) ?_ ?_
  · refine ⟨hE03.mono (fun _ _ h => h.elim), by simp, by simp, by simp, by simp, #[], clock, _, [], hi3, Nat.le_refl _, hE3.old hb2 (fun h => h), Own.ext (Own.ext ho1 hE2 (fun _ _ h => h)) hE3 (fun _ _ h => h), ?_, ?_, by simp⟩
    · intro k hk
      have := (Own.below ho1 hk)
      have : k = w.heap.size := by cases hk; rfl
      omega
    · have : (es.toList.filter fun x : MapEntry => !(#[] : Array Nat).contains x.born) = es.toList := by rw [List.filter_eq_self]; intro x _; simp
      rw [this]; simp
  · intro f3 w4 hR
    have hsz4 := hR.ext.size
    have hm4 : w4.heap[m]? = some (.map es clock) := hR.ext.old hmb (by omega)
    have he4 : EL w4 (· < base) clock es.toList l := by
      have := tagsAt_iff.1 ((hlw.ext (C := fun x => w.heap.size ≤ x) hR.ext (fun b _ hb h => by omega)))
      rcases this with ⟨h, _⟩ | ⟨m', es', clock', h, _, hb', he', _⟩
      · cases h
      · cases h
        rw [hm4] at hb'; cases hb'; exact he'
    have hit4 : w2.heap.size < w4.heap.size := by
      obtain ⟨_, _, _, _, h, _⟩ := hR.st
      exact lt_of_heap h
    refine c_round ht (base := base) (bd := bd) (v0 := v0) (v := v) (s := s) kS hS hi hR hm4 he4 hnb' (by have := hok.1; omega) ⟨by omega, hit4⟩ ⟨by omega, by omega⟩ (by omega) (by omega) ?_ ?_
    · rintro f4 w4 rfl hk _ ⟨seen', c0', hr', h0⟩
      obtain ⟨seen, c0, ov, done, hr, hc0, hbo, ho, hoff, hperm, hdl⟩ := hR.st
      rw [hr] at hr'
      cases hr'
      have hseen := all_seen es seen' h0
      have hfil : (es.toList.filter fun x => !seen'.contains x.born) = [] := by
        rw [List.filter_eq_nil_iff]; intro x hx; have := hseen x hx; simp at this; simp [this]
      rw [hfil] at hperm
      simp only [List.map_nil, List.nil_append, he4.keys] at hperm
      obtain ⟨d, hd, hdp⟩ : ∃ d : List Nat, done = d.map (fun x : Nat => Value.int .u32 x) ∧ d.Perm (l.map (·.1)) := by
        refine ⟨done.map fun v => match v with | .int _ n => n.toNat | _ => 0, ?_, ?_⟩
        · refine keys_back done fun v hv => ?_
          obtain ⟨x, _, rfl⟩ := List.mem_map.1 (hperm.mem_iff.1 hv)
          exact ⟨x.1, rfl⟩
        · refine (hperm.map _).trans ?_
          rw [List.map_map]
          exact List.Perm.of_eq (List.map_congr_left fun x _ => by simp)
      have hdl' : d.length = l.length := by rw [hdp.length_eq]; simp
      obtain ⟨n, hnl, hov⟩ := ho
      have hn : n = l.length := by rw [hd] at hnl; simp at hnl; omega
      rcases hov with ⟨_, h⟩ | ⟨g, cap, cur, rfl, hg, hgb, hncap, hcm, hcs, htake⟩
      · omega
      have hgo := hoff g rfl
      have hgo' : w.heap.size ≤ g := hg
      have hglt := lt_of_heap hgb
      have cbp : w4.cell? ⟨w1.heap.size, 0, none⟩ = some (.slice (some ⟨g, 0, none⟩) n cap) := by rw [cell_of_blk hbo]; rfl
      have k4 : f4 4 = .pointer (some ⟨w1.heap.size, 0, none⟩) := (hk 4 (by omega) (by omega)).trans hR.f4
      have k0 : f4 0 = _ := (hk 0 (by omega) (by omega)).trans hR.f0
      have k1 : f4 1 = _ := (hk 1 (by omega) (by omega)).trans hR.f1
      simp [k4, ld_scl kS, cbp]
      rw [stepF_ok (v := .iface E.t_l_uint32 (.slice (some ⟨g, 0, none⟩) n cap)) (w' := w4) (by simp [runF, execOp, Instr.makeInterface, run_underlying hS.und])]
      have hrow : ∀ (i x : Nat), d[i]? = some x → cur[i]? = some (Value.int .u32 (x : Int)) := by
        intro i x hx
        have h1 : (cur.toList.take (n * 1))[i]? = some (Value.int .u32 (x : Int)) := by rw [htake, hd, List.getElem?_map, hx]; rfl
        rw [List.getElem?_take] at h1
        split at h1
        · simpa using h1
        · cases h1
      have hS5 := hSo w4 w1.heap.size g cap d cur (by rw [cbp, hn, hdl']) (by omega) hgb hrow (by omega) (by rw [hdl']; exact hlen)
      rw [hdl', ← hn] at hS5
      refine hS5.mono ?_
      rintro _ w5 ⟨d', hd'p, hd's, hE5, hd'c⟩
      have hd'e := sorted_keys hnd (hd'p.trans hdp) hd's
      have hs5 := hE5.size
      have hbp5 : w5.heap[w1.heap.size]? = some (.cells #[.slice (some ⟨g, 0, none⟩) n cap] E.t_l_uint32 (0, 0)) := hE5.old hbo (by omega)
      have cbp5 : w5.cell? ⟨w1.heap.size, 0, none⟩ = some (.slice (some ⟨g, 0, none⟩) n cap) := by rw [cell_of_blk hbp5]; rfl
      simp [k4, ld_scl kS, cbp5, len_slice hS.und]
      have hE05 : Ext (fun x => w.heap.size ≤ x) w w5 := hR.ext.trans (hE5.mono (fun _ _ e => by omega))
      have hD5 := hD.ext hE05 (by omega) (fun k hk => (Own.below hD.own hk).2) hD.grew.size
      refine cw_loop (fun f w' => ∃ i, OutI E base bd w.heap.size w5.heap.size w0 v0 s l (.pointer (some ⟨b, o, none⟩)) (.func (.func E.f_pkmsg_Tags_AppendEach_1) #[] #[.pointer (some ⟨bd, 0, none⟩)]) (.slice (some ⟨g, 0, none⟩) n cap) w5 f w' i) (fun f _ => match f 39 with | .int _ i => l.length - i.toNat | _ => 0) ?_ ?_
      · exact ⟨0, by simp [k0], by simp [k1], by simp, by simp [hn], by simp, by omega, ⟨v, by simpa using hD5, hnb⟩, fun _ _ _ => rfl⟩
      · rintro f6 w6 ⟨i, hO⟩
        obtain ⟨v6, hD6, hn6⟩ := hO.st
        simp [hO.f38, hO.f39]
        by_cases hil : i < l.length
        · refine cw_true (by simp [hil]) ?_
          obtain ⟨x, hx⟩ : ∃ x, (sortTags l)[i]? = some x := ⟨_, List.getElem?_eq_getElem (by rw [sortTags_len]; exact hil)⟩
          have hxl : x ∈ l := (sortTags_mem l x).1 (List.mem_of_getElem? hx)
          have hcell : w6.cell? ⟨g, i, none⟩ = some (.int .u32 x.1) := by
            rw [World.cell?_of_block (a := ⟨g, i, none⟩) (hO.same g hgo' (by omega))]
            refine hd'c i x.1 ?_
            rw [hd'e, List.getElem?_map, hx]; rfl
          obtain ⟨hcw6, hlw6⟩ := hD6.tags ho0 hb hc hl
          rcases tagsAt_iff.1 hlw6 with ⟨h, _⟩ | ⟨m', es', clock', h, _, hb6, he6, hnd6, _⟩
          · cases h
          cases h
          obtain ⟨hx32, j, val, hfind, hval⟩ := he6.find 0 hnd6 x hxl
          have hxb := hok.2.2 x hxl
          have htk : (sortTags l).take (i + 1) = (sortTags l).take i ++ [x] := by rw [List.take_add_one, hx]; rfl
          have hszx : (s ++ ((sortTags l).take i).flatMap tagW).length + (tagW x).length ≤ 1099511627776 := by
            have := flat_le tagW (sortTags l) (i + 1)
            rw [htk] at this
            have e : tagsOut l = (sortTags l).flatMap tagW := rfl
            rw [e] at hsz
            simp only [List.flatMap_append, List.flatMap_cons, List.flatMap_nil, List.append_nil, List.length_append] at this ⊢
            omega
          have hidx := idx_of (P := P) (T := E.t_l_uint32) hS.siz (p := ⟨g, 0, none⟩) (n := n) (c := cap) (k := .i64) (i := i) (by omega)
          simp [hO.f37, hO.f39, hidx, Addr.add_mk, ld_scl k32, hcell, hO.f0, hO.f1, ht.g0, ld_scl ht.kM, hcw6]
          rw [stepF_ok (v := val) (w' := w6) (by simp [runF, execOp, run_lookup ht.uM hu hb6 hfind])]
          rw [stp_callF (g := E.f_pkmsg_Tags_AppendEach_1) (first := #[]) (cap := #[.pointer (some ⟨bd, 0, none⟩)]) (by simp)]
          simp
          refine (hA hD6 hbd hb0 (by omega) hn6 hx32 (by omega) hval (fun _ h => h) hszx).mono ?_
          rintro _ w7 ⟨v7, hD7, hn7, hp7⟩
          have hwi : IntKind.i64.wrap ((i : Int) + 1) = ((i + 1 : Nat) : Int) := by rw [i64_small (by omega) (by omega)]; rfl
          simp [hO.f39, hwi]
          refine ⟨⟨i + 1, by simp [hO.f0], by simp [hO.f1], by simp [hO.f37], by simp [hO.f38], by simp, by omega, ⟨v7, ?_, hn7⟩, fun k h1 h2 => (hp7 k ⟨h1, h2⟩).trans (hO.same k h1 h2)⟩, ?_⟩
          · rw [htk]; simpa [List.append_assoc] using hD7
          · omega
        · refine cw_false (by simp; omega) ?_
          simp
          have hi' : i = l.length := Nat.le_antisymm hO.il (by omega)
          subst hi'
          refine ⟨v6, ?_⟩
          rw [List.take_of_length_le (by rw [sortTags_len]; exact Nat.le_refl _)] at hD6
          exact ⟨hD6.cell, hD6.own, hD6.grew, fun _ h => h.elim⟩
    · intro f' w' h1 h2
      exact ⟨h1, h2⟩
end
end Go.Kg

set_option linter.unusedSimpArgs false
set_option linter.unusedVariables false
namespace Go.Kg
open Go

section
variable {P : Program} {E : Env} (ht : TyTg P E)
include ht

theorem tagsC (kS : kindOf P E.t_l_uint32 = .scl) (k32 : kindOf P E.tU32 = .scl) (hS : SliI P E.t_l_uint32 E.tU32 1 4 (.int .u32 0)) (hS8 : SliI P E.tBs E.tU8 1 1 (.int .u8 0)) (hi : intKind? P E.tU32 = some .u32) (hu : P.underlying E.tU32 = some (.int .u32)) (hi' : intKind? P E.tInt = some .i64) (hzS : zeroOf P E.t_l_uint32 = some (.slice none 0 0))
    (hI0 : FnIs P E.f_pkmsg_Tags_Len nt_pkmsg_Tags_Len (rs_pkmsg_Tags_Len E) (ir_pkmsg_Tags_Len E))
    (hI : FnIs P E.f_pkmsg_Tags_Each nt_pkmsg_Tags_Each (rs_pkmsg_Tags_Each E) (ir_pkmsg_Tags_Each E)) (hI1 : FnIs P E.f_pkmsg_Tags_AppendEach_1 nt_pkmsg_Tags_AppendEach_1 (rs_pkmsg_Tags_AppendEach_1 E) (ir_pkmsg_Tags_AppendEach_1 E))
    (hI2 : FnIs P E.f_pkmsg_Tags_AppendEach nt_pkmsg_Tags_AppendEach (rs_pkmsg_Tags_AppendEach E) (ir_pkmsg_Tags_AppendEach E))
    (hU : ∀ n : Nat, n < 4294967296 → WrC P E.tU8 E.f_kbin_AppendUvarint [.int .u32 n] (uvOut n)) (hSo : SortC P E) : TagsC P E tagsOk := by
  refine ⟨fun w K b o v l hc hl => c_TLen ht hI0 w K b o v l hc hl, ?_, hU⟩
  intro w base v s b o u l hok hb hc hl ho hbs hsz
  have hA : AE1C P E := fun hD h1 h2 h3 h4 h5 h6 h7 h8 h9 => c_AE1 ht hS8 hi hi' hI1 hU hD h1 h2 h3 h4 h5 h6 h7 h8 h9
  have hvc := (ownB_cells ho).1
  refine hI2.call (args := [_, _]) (by simp [nt_pkmsg_Tags_AppendEach]) ?_
  simp [ir_pkmsg_Tags_AppendEach, rs_pkmsg_Tags_AppendEach, hvc]
  generalize hw1 : w.alloc (.cells #[v] E.tBs) = w1
  have hX : Ext none1 w w1 := by subst hw1; exact (Ext.refl none1 w).alloc _
  have hb1 : w1.heap[w.heap.size]? = some (.cells #[v] E.tBs (0, 0)) := by subst hw1; exact alloc_new
  have hnb : ¬ own1 v w.heap.size := fun h => by have := (Own.below ho h).2; omega
  have hD : DstAt E base w.heap.size w v (fun _ => False) s w1 v := ⟨hb1, Own.ext ho hX (fun _ _ h => h), ⟨hX.mono (fun _ _ h => h.elim), fun _ h => .inl h⟩, fun _ h => h.elim⟩
  have hmain : Ret P E.f_pkmsg_Tags_Each #[.pointer (some ⟨b, o, none⟩), .func (.func E.f_pkmsg_Tags_AppendEach_1) #[] #[.pointer (some ⟨w.heap.size, 0, none⟩)]] w1 fun _ w' => ∃ v', DstAt E base w.heap.size w v (fun _ => False) (s ++ tagsOut l) w' v' := by
    by_cases hne : l = []
    · subst hne
      refine (c_Each0 ht hI w1 b o u _ (· < base) (hX.cell hc (fun h => h)) (hl.ext hX (fun _ _ _ h => h))).mono ?_
      rintro _ w' rfl
      exact ⟨v, by simpa [tagsOut, sortTags] using hD⟩
    · exact c_EachT ht kS k32 hS hi hu hi' hzS hI hA hSo hD (Nat.le_refl _) hbs hnb ho hb hc hl hok hne hsz
  refine hmain.mono ?_
  rintro _ w2 ⟨v2, hD2⟩
  have c2 : w2.cell? ⟨w.heap.size, 0, none⟩ = some v2 := by rw [cell_of_blk hD2.cell]; rfl
  simp [ld_scl ht.kBs, c2]
  exact ⟨hD2.own, hD2.grew⟩
end
end Go.Kg

set_option linter.unusedSimpArgs false
set_option linter.unusedVariables false
namespace Go.Kg
open Go Go.Proofs Go.Shelf Go.RowKit Go.Lib Go.Sort

/-! ## sort.Slice, by the kit's contract -/
def encU (n : Nat) : Value := .int .u32 n
def ltN (a b : Nat) : Bool := decide (a < b)
theorem swo_ltN : SWO ltN where
  irrefl x := by simp [ltN]
  trans x y z h1 h2 := by simp only [ltN, decide_eq_true_eq] at *; omega
  ntrans x y z h1 h2 := by simp only [ltN, decide_eq_false_iff_not] at *; omega

/-- ordered[i] < ordered[j] -/
theorem c_less {P : Program} {E : Env} (kS : kindOf P E.t_l_uint32 = .scl) (k32 : kindOf P E.tU32 = .scl) (hS : SliI P E.t_l_uint32 E.tU32 1 4 (.int .u32 0)) (hI : FnIs P E.f_pkmsg_Tags_Each_1 nt_pkmsg_Tags_Each_1 (rs_pkmsg_Tags_Each_1 E) (ir_pkmsg_Tags_Each_1 E))
    {W : World} {Bs blk c n : Nat} (G : Nat → Nat) (hs : W.cell? ⟨Bs, 0, none⟩ = some (.slice (some ⟨blk, 0, none⟩) n c)) (hc : ∀ t, t < n → W.cell? ⟨blk, t, none⟩ = some (.int .u32 (G t))) {i j : Nat} (hi : i < n) (hj : j < n) :
    Ret P E.f_pkmsg_Tags_Each_1 #[.int .i64 i, .int .i64 j, .pointer (some ⟨Bs, 0, none⟩)] W fun v w' => v = .bool (decide (G i < G j)) ∧ w' = W.drew := by
  refine hI.call (args := [_, _, _]) (by simp [nt_pkmsg_Tags_Each_1]) ?_
  simp [ir_pkmsg_Tags_Each_1, rs_pkmsg_Tags_Each_1]
  refine cw_regH (fun w' => w' = W.drew) rfl ?_
  have hs' : W.drew.cell? ⟨Bs, 0, none⟩ = some (.slice (some ⟨blk, 0, none⟩) n c) := hs
  have hi1 := idx_of (P := P) (T := E.t_l_uint32) hS.siz (p := ⟨blk, 0, none⟩) (n := n) (c := c) (k := .i64) hi
  have hj1 := idx_of (P := P) (T := E.t_l_uint32) hS.siz (p := ⟨blk, 0, none⟩) (n := n) (c := c) (k := .i64) hj
  have ci : W.drew.cell? ⟨blk, i, none⟩ = some (.int .u32 (G i)) := hc i hi
  have cj : W.drew.cell? ⟨blk, j, none⟩ = some (.int .u32 (G j)) := hc j hj
  simp [ld_scl kS, ld_scl k32, hs, hi1, hj1, Addr.add_mk, hc i hi, hc j hj]

/-- what is asked of the types, of Swapper's literals and of the shelf -/
structure SortTy (P : Program) (E : Env) (ρ : Ren) (ke f2 f6 : Nat) : Prop where
  L : LaysGg.n6 P ρ
  fS : ρ.f 6 = E.f_sort_Slice
  fc : Callable P E.f_sort_Slice
  info : ∃ i, P.info? E.t_l_uint32 = some i ∧ i.desc = .slice E.tU32
  pk : P.packed E.t_l_uint32 = false
  elem : ∃ ie, P.info? E.tU32 = some ie ∧ ie.size = 1 ∧ ie.hasPointers = false ∧ ie.bytes = 4
  kind : ∀ w, (Extern.Rtype.kind E.tU32).run P w = .ok ke w
  lit1 : P.funcs.findIdx? (·.name == "internal/reflectlite" ++ ".Swapper$" ++ toString 2) = some f2
  lit4 : P.funcs.findIdx? (·.name == "internal/reflectlite" ++ ".Swapper$" ++ toString 6) = some f6
  swap : ∃ gS, ∀ args W, (callFunc f6 args).run P W = ((Extern.ReflectliteSwapper.swap gS args).run P W).andThen fun v w' => .ok (.value v) w'

theorem swK1 {ie : TypeInfo} {ke : Nat} : swapperK 1 ie ke = 2 := rfl
theorem swK4 {ie : TypeInfo} {ke n : Nat} (h1 : ie.hasPointers = false) (h2 : ie.bytes = 4) (hn : 2 ≤ n) : swapperK n ie ke = 6 := by
  have c : (n == 0) = false := by simp; omega
  have d : (n == 1) = false := by simp; omega
  simp [swapperK, h1, h2, c, d]

theorem enters_callable {P : Program} {g : Nat} (h : Callable P g) : ∀ args w, (callFunc g args).run P w = .ok (.enter g args) w := by
  obtain ⟨fn, c, h1, h2, h3⟩ := h
  exact enters_of h1 h3 h2

theorem sortC {P : Program} {E : Env} {ρ : Ren} {ke f2 f6 : Nat} (hT : SortTy P E ρ ke f2 f6) (kS : kindOf P E.t_l_uint32 = .scl) (k32 : kindOf P E.tU32 = .scl) (hS : SliI P E.t_l_uint32 E.tU32 1 4 (.int .u32 0)) (hI : FnIs P E.f_pkmsg_Tags_Each_1 nt_pkmsg_Tags_Each_1 (rs_pkmsg_Tags_Each_1 E) (ir_pkmsg_Tags_Each_1 E)) : SortC P E := by
  intro w Bs blk c d row hcell hne hblk hrow hpos hlen
  obtain ⟨i, hi, hd⟩ := hT.info
  obtain ⟨ie, hie, hs1, hp, hby⟩ := hT.elem
  have hlt := lt_of_heap hblk
  have hBlt := World.block_lt_of_cell? w _ hcell
  have hH : Holds encU w blk 0 d.toArray := by
    intro j hj
    have hj' : j < d.length := by simpa using hj
    have hr := hrow j d[j] (List.getElem?_eq_getElem hj')
    refine ⟨?_, ?_⟩
    · rw [Nat.zero_add, cell_of_blk hblk, hr]
      simp [encU, hj']
    · exact frozen_of_blk hblk
  refine ⟨hT.fc, ?_⟩
  by_cases h2 : 2 ≤ d.length
  · have hless : LessReads P E.f_pkmsg_Tags_Each_1 #[.pointer (some ⟨Bs, 0, none⟩)] encU ltN blk 0 d.toArray.size w := by
      intro m os dk hs i j hi hj
      have hs' : dk.size = d.toArray.size := hs
      have e : sortWorld encU w blk 0 m dk os = putRow encU (grow (Sort.ahead w m) os) blk 0 dk := by
        unfold sortWorld; rw [putRow_grow _ (Sort.ahead w m) _ blk 0 _ hlt]
      have hHg : Holds encU (grow (Sort.ahead w m) os) blk 0 d.toArray := holds_grow _ _ _ blk 0 d.toArray hlt (holds_ahead _ _ _ _ _ _ hH)
      have hr := c_less (n := d.length) (c := c) (Bs := Bs) (blk := blk) kS k32 hS hI (W := sortWorld encU w blk 0 m dk os) (fun t => dk[t]!) ?_ ?_ (i := i) (j := j) (by simpa using hi) (by simpa using hj)
      · exact hr.2.mono fun e w' ⟨v, he, hv, hw⟩ => ⟨by rw [he, hv]; rfl, 1, hw⟩
      · rw [e, cell?_putRow_other _ _ blk 0 dk _ (Or.inl (by show Bs ≠ blk; omega)), cell?_grow _ _ _ (by show Bs < w.heap.size; exact hBlt)]
        exact hcell
      · intro t ht
        rw [e]
        have := cell?_putRow encU _ blk 0 d.toArray dk hHg hs t (by rw [hs']; simpa using ht)
        rw [Nat.zero_add] at this
        exact this
    obtain ⟨gS, hx⟩ := hT.swap
    have hS' := Any.sort_Slice_sorted hT.L E.t_l_uint32 E.tU32 i ie hi hd hT.pk hie ke hT.kind hs1 (fun w => by obtain ⟨dd, i, g1, g2, g3, g4⟩ := kindOf_scl k32; simp [run_isAgg g1, g2]) encU (fun _ => rfl) ltN swo_ltN E.f_pkmsg_Tags_Each_1 #[.pointer (some ⟨Bs, 0, none⟩)]
      (enters_callable hI.callable) blk 0 c d.toArray (by simpa using h2) (by simp; omega) f6 (by rw [swK4 hp hby (by simpa using h2)]; exact hT.lit4) gS hx w hless hH hlt
    rw [hT.fS] at hS'
    refine hS'.mono ?_
    rintro e w' ⟨rfl, d', n, os, hP, hSo, rfl⟩
    refine ⟨_, rfl, d'.toList, ?_, ?_, ?_, ?_⟩
    · have h3 := hP.2.2
      have e1 : d'.extract 0 d.toArray.size = d' := by rw [← hP.1]; exact Array.extract_size
      have e2 : d.toArray.extract 0 d.toArray.size = d.toArray := Array.extract_size
      rw [e1, e2] at h3
      simpa using h3
    · rw [List.pairwise_iff_getElem]
      intro i j hi hj hij
      have := hSo i j (Nat.zero_le _) hij (by rw [← hP.1]; simpa using hj)
      simp only [ltN, decide_eq_false_iff_not] at this
      have hi' : i < d'.size := by simpa using hi
      have hj' : j < d'.size := by simpa using hj
      rw [getElem!_pos d' i hi', getElem!_pos d' j hj'] at this
      simp only [Array.getElem_toList]
      omega
    · refine ⟨rfl, rfl, rfl, by simp [putRow, mapBlock, Sort.ahead], fun k hk hne => ?_⟩
      rw [heap_grow_old _ _ (by simpa [putRow, mapBlock, Sort.ahead] using hk)]
      simp only [putRow, mapBlock, Sort.ahead, Array.getElem?_modify]
      rw [if_neg (fun e => hne e.symm)]
    · intro i x hx
      have hx' : d'[i]? = some x := by simpa using hx
      obtain ⟨hi', hxe⟩ := Array.getElem?_eq_some_iff.1 hx'
      rw [cell?_grow _ _ _ (by simpa [putRow, mapBlock, Sort.ahead] using hlt)]
      have := cell?_putRow encU (Sort.ahead w n) blk 0 d.toArray d' (holds_ahead _ _ _ _ _ _ hH) hP.1 i hi'
      rw [Nat.zero_add, getElem!_pos d' i hi', hxe] at this
      exact this
  · have h1 : d.length = 1 := by omega
    have hS' := Any.sort_Slice_tiny hT.L E.t_l_uint32 E.tU32 i ie hi hd hT.pk hie ke hT.kind (some ⟨blk, 0, none⟩) d.length c (by omega) f2 (by rw [h1]; exact hT.lit1) (.func E.f_pkmsg_Tags_Each_1) #[] #[.pointer (some ⟨Bs, 0, none⟩)] w
    rw [hT.fS] at hS'
    refine hS'.mono ?_
    rintro e w' ⟨rfl, os, rfl⟩
    refine ⟨_, rfl, d, List.Perm.refl _, ?_, ?_, ?_⟩
    · match d, h1 with
      | [x], _ => simp
    · refine ⟨rfl, rfl, rfl, by simp, fun k hk hne => heap_grow_old _ _ hk⟩
    · intro i x hx
      rw [cell?_grow _ _ _ hlt, cell_of_blk hblk]
      exact hrow i x hx
end Go.Kg

set_option linter.unusedSimpArgs false
set_option linter.unusedVariables false
namespace Go.Kg
open Go

/-! ## What the reference writes is what the code writes of some value -/
theorem uvS_uvE : ∀ (j n : Nat), n < 128 ^ (j + 1) → uvS n = uvE j n
  | 0, n, h => by rw [uvS_eq, if_neg (by omega)]; rfl
  | j + 1, n, h => by
    rw [uvS_eq]
    unfold uvE
    by_cases hn : n < 128
    · rw [if_neg (by omega), if_pos hn]
    · rw [if_pos (by omega), if_neg hn, uvS_uvE j (n / 128) (by rw [Nat.pow_succ] at h; exact Nat.div_lt_of_lt_mul (by omega))]
theorem uvS_out {n : Nat} (h : n < 4294967296) : uvS n = uvOut (n % 4294967296) := by
  rw [Nat.mod_eq_of_lt h]; exact uvS_uvE 4 n (by omega)

theorem bval_congr {a b : Int} (h : a % 256 = b % 256) : bval a = bval b := by simp only [bval, h]

theorem fixE_num : ∀ (k : Nat) (n : Int) (m : Nat), (∃ q : Int, n = m + q * (256 ^ k : Nat)) → fixE k n = bigE k m
  | 0, _, _, _ => rfl
  | k + 1, n, m, ⟨q, hq⟩ => by
    have hp : (2 : Int) ^ (8 * k) = ((256 ^ k : Nat) : Int) := by
      rw [Int.pow_mul]; simp
    have hpos : (0 : Int) < ((256 ^ k : Nat) : Int) := by
      have : 0 < 256 ^ k := Nat.pow_pos (by omega)
      omega
    simp only [fixE, bigE]
    have hq' : n = m + (q * 256) * ((256 ^ k : Nat) : Int) := by
      rw [hq, Nat.pow_succ]; simp only [Int.natCast_mul]; rw [Int.mul_assoc, Int.mul_comm 256]; rfl
    rw [fixE_num k n m ⟨q * 256, hq'⟩]
    congr 1
    rw [hp, Int.fdiv_eq_ediv_of_nonneg _ (Int.le_of_lt hpos), hq', Int.add_mul_ediv_right _ _ (Int.ne_of_gt hpos)]
    have : bval ((m : Int) / ((256 ^ k : Nat) : Int) + q * 256) = bval ((m : Int) / ((256 ^ k : Nat) : Int)) := bval_congr (by omega)
    rw [this]
    exact bval_nat (by simp)
theorem fixE_eq (k : Nat) (n : Int) : fixE k n = num k n := by
  have hpos : (0 : Int) < ((256 ^ k : Nat) : Int) := by
    have : 0 < 256 ^ k := Nat.pow_pos (by omega)
    omega
  refine fixE_num k n _ ⟨n / ((256 ^ k : Nat) : Int), ?_⟩
  have h1 := Int.emod_nonneg n (Int.ne_of_gt hpos)
  rw [Int.toNat_of_nonneg h1, Int.mul_comm]
  exact (Int.emod_add_mul_ediv _ _).symm
theorem num_nat (k n : Nat) : num k (n : Int) = bigE k (n % 256 ^ k) := by
  simp only [num]
  congr 1
theorem flat_congr {α : Type} {f g : α → List UInt8} : ∀ (l : List α), (∀ x ∈ l, f x = g x) → l.flatMap f = l.flatMap g
  | [], _ => rfl
  | x :: l, h => by
    rw [List.flatMap_cons, List.flatMap_cons, h x List.mem_cons_self, flat_congr l (fun y hy => h y (List.mem_cons_of_mem _ hy))]
theorem num_congr {k : Nat} {a b : Int} (h : a % (256 ^ k : Nat) = b % (256 ^ k : Nat)) : num k a = num k b := by simp only [num, h]

/-- the tags of a tree have numbers of 32 bits -/
inductive Tr.Ok : Tr → Prop where
  | mk {n : Int} {s : List UInt8} {nul : Bool} {l : List Tr} {u : List (Nat × List UInt8)} (hu : ∀ x ∈ u, x.1 < 4294967296) (hl : ∀ t ∈ l, Tr.Ok t) : Tr.Ok (.mk n s nul l u)
theorem Tr.Ok.l {t : Tr} (h : t.Ok) : ∀ x ∈ t.l, x.Ok := by cases h with | mk _ hl => exact hl
theorem Tr.Ok.u {t : Tr} (h : t.Ok) : ∀ x ∈ t.u, x.1 < 4294967296 := by cases h with | mk hu _ => exact hu
theorem Tr.Ok.none : Tr.none.Ok := .mk (by simp) (by simp)
theorem Tr.Ok.at {t : Tr} (h : t.Ok) (i : Nat) : (t.at i).Ok := by
  unfold Tr.at
  cases hi : t.l[i]? with
  | none => exact Tr.Ok.none
  | some x => exact h.l x (List.mem_of_getElem? hi)
theorem TreeAt.ok {w : World} : ∀ {t : Tr} {cs : List Value}, TreeAt w cs t → t.Ok := by
  intro t cs h
  induction h with
  | mk hn hs ha hl he hu ih =>
    rename_i n s nul l u sv lv uv ls
    refine .mk ?_ ?_
    · obtain ⟨ls', _, hlen, hx⟩ := hu
      intro x hxm
      obtain ⟨i, hi⟩ := List.getElem?_of_mem hxm
      have hlt := (List.getElem?_eq_some_iff.1 hi).1
      obtain ⟨c, hc⟩ : ∃ c, (ls'.getD [])[i]? = some c := ⟨_, List.getElem?_eq_getElem (by omega)⟩
      exact (hx i c x hc hi).choose_spec.2.1
    · intro x hxm
      obtain ⟨i, hi⟩ := List.getElem?_of_mem hxm
      have hlt := (List.getElem?_eq_some_iff.1 hi).1
      obtain ⟨c, hc⟩ : ∃ c, (ls.getD [])[i]? = some c := ⟨_, List.getElem?_eq_getElem (by omega)⟩
      exact ih i c x hc hi

/-! ### One thing -/
def primK : Prim → Int
  | .bool => 0 | .i8 => 1 | .i16 => 2 | .i32 => 3 | .i64 => 4 | .u16 => 5 | .uuid => 7 | .str | .nstr => 8 | .bytes | .nbytes => 9
def Prim.nulB : Prim → Bool
  | .nstr | .nbytes => true
  | _ => false
def Prim.txt : Prim → Bool
  | .str | .bytes => true
  | _ => false

theorem valS_prim (p : Prim) (part : Tr → List UInt8) (nul fl : Bool) (t : Tr) (h : p.txt = true → nul = false) : ∃ x : p.T, p.wr fl x = valS (primK p) part nul fl t ∧ p.wf x := by
  cases p with
  | bool =>
    refine ⟨decide (t.n % 2 = 1), ?_, trivial⟩
    simp only [Prim.wr, valS, primK]
    rcases Int.emod_two_eq t.n with h | h <;> simp [h, bval]
  | i8 =>
    refine ⟨IntKind.i8.wrap t.n, ?_, ?_⟩
    · simp only [Prim.wr, valS, primK]
      simp [widthS, fixE]
      exact bval_congr (by simp [IntKind.wrap, IntKind.signed, IntKind.bits]; omega)
    · show -128 ≤ IntKind.i8.wrap t.n ∧ IntKind.i8.wrap t.n < 128
      simp [IntKind.wrap, IntKind.signed, IntKind.bits]; omega
  | i16 =>
    refine ⟨IntKind.i16.wrap t.n, ?_, ?_⟩
    · simp only [Prim.wr, valS, primK]
      simp [widthS, fixE_eq]
      exact num_congr (by simp [IntKind.wrap, IntKind.signed, IntKind.bits]; omega)
    · show -32768 ≤ IntKind.i16.wrap t.n ∧ IntKind.i16.wrap t.n < 32768
      simp [IntKind.wrap, IntKind.signed, IntKind.bits]; omega
  | u16 =>
    refine ⟨t.n % 65536, ?_, ?_⟩
    · simp only [Prim.wr, valS, primK]
      simp [widthS, fixE_eq]
      exact num_congr (by show t.n % 65536 % ((256 ^ 2 : Nat) : Int) = t.n % ((256 ^ 2 : Nat) : Int); simp; try omega)
    · show 0 ≤ t.n % 65536 ∧ t.n % 65536 < 65536
      omega
  | i32 =>
    refine ⟨IntKind.i32.wrap t.n, ?_, ?_⟩
    · simp only [Prim.wr, valS, primK]
      simp [widthS, fixE_eq]
      exact num_congr (by simp [IntKind.wrap, IntKind.signed, IntKind.bits]; omega)
    · show -2147483648 ≤ IntKind.i32.wrap t.n ∧ IntKind.i32.wrap t.n < 2147483648
      simp [IntKind.wrap, IntKind.signed, IntKind.bits]; omega
  | i64 =>
    refine ⟨IntKind.i64.wrap t.n, ?_, ?_⟩
    · simp only [Prim.wr, valS, primK]
      simp [widthS, fixE_eq]
      exact num_congr (by simp [IntKind.wrap, IntKind.signed, IntKind.bits]; omega)
    · show -9223372036854775808 ≤ IntKind.i64.wrap t.n ∧ IntKind.i64.wrap t.n < 9223372036854775808
      simp [IntKind.wrap, IntKind.signed, IntKind.bits]; omega
  | uuid =>
    refine ⟨(t.s ++ List.replicate 16 0).take 16, ?_, ?_⟩
    · simp only [Prim.wr, valS, primK]
      simp
    · show ((t.s ++ List.replicate 16 0).take 16).length = 16
      simp
  | str =>
    have hn := h rfl
    subst hn
    have hl : (t.s.take 32767).length ≤ 32767 := by simp; omega
    refine ⟨t.s.take 32767, ?_, hl⟩
    generalize hs : t.s.take 32767 = s at hl
    simp only [Prim.wr, valS, primK]
    simp [countedS, hs]
    cases fl
    · simp [wStr, fixE_eq, num_nat]
    · simp [wCStr]; rw [uvS_out (by omega)]
  | bytes =>
    have hn := h rfl
    subst hn
    have hl : (t.s.take 32767).length ≤ 32767 := by simp; omega
    refine ⟨t.s.take 32767, ?_, hl⟩
    generalize hs : t.s.take 32767 = s at hl
    simp only [Prim.wr, valS, primK]
    simp [countedS, hs]
    cases fl
    · simp [wBytes, fixE_eq, num_nat]
    · simp [wCBytes]; rw [uvS_out (by omega)]
  | nstr =>
    cases nul
    · have hl : (t.s.take 32767).length ≤ 32767 := by simp; omega
      refine ⟨some (t.s.take 32767), ?_, hl⟩
      generalize hs : t.s.take 32767 = s at hl
      simp only [Prim.wr, valS, primK]
      simp [countedS, hs]
      cases fl
      · simp [wNStr, wStr, fixE_eq, num_nat]
      · simp [wCNStr, wCStr]; rw [uvS_out (by omega)]
    · refine ⟨none, ?_, by show ([] : List UInt8).length ≤ 32767; simp⟩
      simp only [Prim.wr, valS, primK]
      cases fl <;> simp [countedS, wNStr, wCNStr, wNBytes, wCNBytes] <;> decide
  | nbytes =>
    cases nul
    · have hl : (t.s.take 32767).length ≤ 32767 := by simp; omega
      refine ⟨some (t.s.take 32767), ?_, hl⟩
      generalize hs : t.s.take 32767 = s at hl
      simp only [Prim.wr, valS, primK]
      simp [countedS, hs]
      cases fl
      · simp [wNBytes, wBytes, fixE_eq, num_nat]
      · simp [wCNBytes, wCBytes]; rw [uvS_out (by omega)]
    · refine ⟨none, ?_, by show ([] : List UInt8).length ≤ 32767; simp⟩
      simp only [Prim.wr, valS, primK]
      cases fl <;> simp [countedS, wNStr, wCNStr, wNBytes, wCNBytes] <;> decide

/-! ### Lists -/
theorem pick_all {α β : Type} {f : α → List UInt8} {g : β → List UInt8} {W : β → Prop} : ∀ (l : List α), (∀ t ∈ l, ∃ x : β, g x = f t ∧ W x) → ∃ xs : List β, xs.flatMap g = l.flatMap f ∧ xs.length = l.length ∧ ∀ x ∈ xs, W x
  | [], _ => ⟨[], rfl, rfl, by simp⟩
  | t :: l, h => by
    obtain ⟨x, h1, h2⟩ := h t List.mem_cons_self
    obtain ⟨xs, a1, a2, a3⟩ := pick_all l (fun t ht => h t (List.mem_cons_of_mem _ ht))
    refine ⟨x :: xs, by simp [h1, a1], by simp [a2], ?_⟩
    intro y hy
    rcases List.mem_cons.1 hy with rfl | hy
    · exact h2
    · exact a3 y hy

theorem list_conv {α : Type} {g : α → List UInt8} {W : α → Prop} {f : Tr → List UInt8} (nulO : Option Nat) (ver : Int) (nul fl : Bool) (t : Tr) (hn : nulO = none → nul = false) (hm : ∀ m : Nat, nulO = some m → nul = true → (m : Int) ≤ ver)
    (h : ∀ x ∈ t.l.take 32767, ∃ y : α, g y = f x ∧ W y) :
    ∃ a : Option (List α), lenW nulO fl (a.getD []).length a.isNone ++ (a.getD []).flatMap g = countedS fl nul (if nul then [] else t.l.take 32767).length 4 ++ (if nul then [] else t.l.take 32767).flatMap f ∧ arrWf nulO ver a ∧ ∀ x ∈ a.getD [], W x := by
  cases nul
  · obtain ⟨xs, h1, h2, h3⟩ := pick_all _ h
    have hl : (t.l.take 32767).length ≤ 32767 := by simp; omega
    refine ⟨some xs, ?_, ⟨by simp [h2]; omega, by simp⟩, by simpa using h3⟩
    simp only [Option.getD_some, h1, h2, Option.isNone_some, Bool.false_eq_true, if_false]
    congr 1
    generalize (t.l.take 32767).length = n at hl
    cases nulO <;> cases fl <;> simp [lenW, countedS, wLen, wCLen, wNLen, wCNLen, fixE_eq, num_nat]
    all_goals rw [uvS_out (by omega)]
  · cases nulO with
    | none => cases hn rfl
    | some m =>
      refine ⟨none, ?_, ⟨by simp, fun m' hm' hv => ?_⟩, by simp⟩
      · cases fl <;> simp [lenW, countedS, wNLen, wCNLen] <;> decide
      · cases hm'
        have := hm m rfl rfl
        omega

/-! ### Tags -/
theorem insU_memT {least : Nat} {x y : Nat × List UInt8} : ∀ {l : TagL}, y ∈ insU least x l → y = x ∨ y ∈ l
  | [], h => by
    unfold insU at h; split at h
    · exact .inr h
    · simp at h; exact .inl h
  | z :: l, h => by
    unfold insU at h; split at h
    · exact .inr h
    · simp only at h
      split at h
      · rcases List.mem_cons.1 h with h | h
        · exact .inr (h ▸ List.mem_cons_self)
        · rcases insU_memT h with h | h
          · exact .inl h
          · exact .inr (List.mem_cons_of_mem _ h)
      · split at h
        · exact .inr h
        · rcases List.mem_cons.1 h with h | h
          · exact .inl h
          · exact .inr h
theorem insU_sortedT {least : Nat} {x : Nat × List UInt8} : ∀ {l : TagL}, l.Pairwise (fun a b => a.1 < b.1) → (insU least x l).Pairwise (fun a b => a.1 < b.1)
  | [], _ => by unfold insU; split <;> simp
  | z :: l, h => by
    obtain ⟨h1, h2⟩ := List.pairwise_cons.1 h
    unfold insU; split
    · exact h
    · simp only
      split
      · rename_i hlt
        refine List.pairwise_cons.2 ⟨fun y hy => ?_, insU_sortedT h2⟩
        rcases insU_memT hy with rfl | hy
        · exact hlt
        · exact h1 y hy
      · split
        · exact h
        · refine List.pairwise_cons.2 ⟨fun y hy => ?_, h⟩
          rcases List.mem_cons.1 hy with rfl | hy
          · omega
          · have := h1 y hy; omega
theorem insU_lenT {least : Nat} {x : Nat × List UInt8} : ∀ {l : TagL}, (insU least x l).length ≤ l.length + 1
  | [] => by unfold insU; split <;> simp
  | z :: l => by
    unfold insU; split
    · simp
    · simp only
      split
      · have := @insU_lenT least x l; simp; omega
      · split <;> simp
theorem unkS_spec (least : Nat) (u : TagL) : (unkS least u).Pairwise (fun a b => a.1 < b.1) ∧ (unkS least u).length ≤ 32767 ∧ ∀ x ∈ unkS least u, x ∈ u := by
  have : ∀ (l out : TagL), out.Pairwise (fun a b => a.1 < b.1) → (l.foldl (fun out x => insU least x out) out).Pairwise (fun a b => a.1 < b.1) ∧ (l.foldl (fun out x => insU least x out) out).length ≤ out.length + l.length ∧ ∀ x ∈ l.foldl (fun out x => insU least x out) out, x ∈ out ∨ x ∈ l := by
    intro l
    induction l with
    | nil => intro out h; exact ⟨h, by simp, fun x hx => .inl hx⟩
    | cons y l ih =>
      intro out h
      obtain ⟨a1, a2, a3⟩ := ih (insU least y out) (insU_sortedT h)
      refine ⟨a1, ?_, fun x hx => ?_⟩
      · have := @insU_lenT least y out
        simp only [List.foldl_cons, List.length_cons]; omega
      · rcases a3 x hx with h | h
        · rcases insU_memT h with h | h
          · exact .inr (h ▸ List.mem_cons_self)
          · exact .inl h
        · exact .inr (List.mem_cons_of_mem _ h)
  obtain ⟨h1, h2, h3⟩ := this (u.take 32767) [] List.Pairwise.nil
  refine ⟨h1, ?_, fun x hx => ?_⟩
  · have : (u.take 32767).length ≤ 32767 := by simp; omega
    simp at h2
    show ((u.take 32767).foldl _ []).length ≤ _
    omega
  · rcases h3 x hx with h | h
    · simp at h
    · exact List.mem_of_mem_take h

theorem tags_conv (least : Nat) (u : TagL) (hu : ∀ x ∈ u, x.1 < 4294967296) : ∃ l : TagL, tagsOk l ∧ uvOut (l.length % 4294967296) ++ tagsOut l = uvS ((unkS least u).map fun x => (x.1, x.2.take 32767)).length ++ ((unkS least u).map fun x => (x.1, x.2.take 32767)).flatMap fun x => tagS x.1 x.2 := by
  obtain ⟨h1, h2, h3⟩ := unkS_spec least u
  generalize unkS least u = q at h1 h2 h3
  refine ⟨q.map fun x => (x.1, x.2.take 32767), ⟨by simp; omega, ?_, ?_⟩, ?_⟩
  · rw [List.map_map]
    show (q.map (·.1)).Nodup
    rw [List.nodup_iff_pairwise_ne, List.pairwise_map]
    exact h1.imp fun h => by omega
  · intro x hx
    obtain ⟨y, hy, rfl⟩ := List.mem_map.1 hx
    exact ⟨hu y (h3 y hy), by simp; omega⟩
  · have hs : sortTags (q.map fun x => (x.1, x.2.take 32767)) = q.map fun x => (x.1, x.2.take 32767) := by
      refine sortTags_of_sorted _ ?_
      rw [List.pairwise_map]
      exact h1.imp fun h => by simp only; omega
    simp only [tagsOut, hs]
    rw [uvS_out (by simp; omega)]
    congr 1
    refine flat_congr _ fun x hx => ?_
    obtain ⟨y, hy, rfl⟩ := List.mem_map.1 hx
    have hy1 := hu y (h3 y hy)
    simp only [tagS]
    rw [uvS_out hy1, uvS_out (by simp; omega), Nat.mod_eq_of_lt hy1, List.append_assoc]
end Go.Kg

set_option linter.unusedSimpArgs false
set_option linter.unusedVariables false
namespace Go.Kg
open Go

/-! ## The reference's fields against the schema -/
/-- where a field stands, it may not be null -/
def nnAt (M : Nat) (g : Gd) (h : FH) : Bool := (List.range (M + 1)).all fun v => !g.on v || !(decide (0 ≤ h.null) && decide (h.null ≤ (v : Int)))
/-- where it may be null, the list's code says so -/
def nlAt (M m : Nat) (g : Gd) (h : FH) : Bool := (List.range (M + 1)).all fun v => !g.on v || !(decide (0 ≤ h.null) && decide (h.null ≤ (v : Int))) || decide (m ≤ v)
def nulOk (M : Nat) (g : Gd) (h : FH) : Option Nat → Bool
  | none => nnAt M g h
  | some m => nlAt M m g h
def onAt (M : Nat) (g : Gd) (h : FH) : Bool := (List.range (M + 1)).all fun v => g.on v == h.has v

def fitS (M : Nat) (flx : Nat → Bool) : FS → Sch → Bool
  | .nil, .fin => (List.range (M + 1)).all fun v => !flx v
  | .nil, .tags _ _ => true
  | .cons h _ rest, .prim g _ _ p _ _ r => decide (h.tag < 0) && onAt M g h && decide (h.kind = primK p) && (!p.txt || nnAt M g h) && fitS M flx rest r
  | .cons h _ rest, .arrP g _ _ _ nul p r => decide (h.tag < 0) && onAt M g h && decide (h.kind = 11) && decide (h.of_ = primK p) && nulOk M g h nul && fitS M flx rest r
  | .cons h sub rest, .arrS g _ _ _ nul _ _ _ _ e r => decide (h.tag < 0) && onAt M g h && decide (h.kind = 11) && decide (h.of_ = 10) && nulOk M g h nul && fitS M flx sub e && fitS M flx rest r
  | _, _ => false

theorem onAt_of {M : Nat} {g : Gd} {h : FH} (hb : onAt M g h = true) {v : Nat} (hv : v ≤ M) : g.on v = h.has v := by
  have := List.all_eq_true.1 hb v (by simp; omega)
  simpa using this
theorem nnAt_of {M : Nat} {g : Gd} {h : FH} (hb : nnAt M g h = true) {v : Nat} (hv : v ≤ M) (ho : g.on v = true) (b : Bool) : h.isNull v b = false := by
  have := List.all_eq_true.1 hb v (by simp; omega)
  rw [ho] at this
  simp only [Bool.not_true, Bool.false_or, Bool.not_eq_true'] at this
  unfold FH.isNull
  rw [Bool.and_assoc, this, Bool.and_false]
theorem nlAt_of {M m : Nat} {g : Gd} {h : FH} (hb : nlAt M m g h = true) {v : Nat} (hv : v ≤ M) (ho : g.on v = true) {b : Bool} (hn : h.isNull v b = true) : (m : Int) ≤ v := by
  have := List.all_eq_true.1 hb v (by simp; omega)
  unfold FH.isNull at hn
  rw [Bool.and_assoc, Bool.and_eq_true] at hn
  rw [ho, hn.2] at this
  simp at this
  omega

/-- the fields' texts from place n on -/
def plainS (F : FS) (ver : Int) (fl : Bool) (n : Nat) (t : Tr) : List UInt8 :=
  ((F.list ver fl).zipIdx n).flatMap fun (x, i) => if x.h.tag < 0 ∧ x.h.has ver = true then fieldS x ver fl (t.at i) else []
def tailS (fl : Bool) (t : Tr) : List UInt8 :=
  if fl then uvS ((unkS 0 t.u).map fun x => (x.1, x.2.take 32767)).length ++ ((unkS 0 t.u).map fun x => (x.1, x.2.take 32767)).flatMap fun x => tagS x.1 x.2 else []

def noTag : FS → Bool
  | .nil => true
  | .cons h _ rest => decide (h.tag < 0) && noTag rest
theorem fitS_noTag {M : Nat} {flx : Nat → Bool} : ∀ {F : FS} {S : Sch}, fitS M flx F S = true → noTag F = true
  | .nil, _, _ => rfl
  | .cons h sub rest, .fin, hb => by simp [fitS] at hb
  | .cons h sub rest, .tags _ _, hb => by simp [fitS] at hb
  | .cons h sub rest, .prim .., hb => by
    simp only [fitS, Bool.and_eq_true] at hb
    simp only [noTag, hb.1.1.1.1, fitS_noTag hb.2, Bool.and_self]
  | .cons h sub rest, .arrP .., hb => by
    simp only [fitS, Bool.and_eq_true] at hb
    simp only [noTag, hb.1.1.1.1.1, fitS_noTag hb.2, Bool.and_self]
  | .cons h sub rest, .arrS .., hb => by
    simp only [fitS, Bool.and_eq_true] at hb
    simp only [noTag, hb.1.1.1.1.1.1, fitS_noTag hb.2, Bool.and_self]

theorem knownL_none : ∀ (l : List FH) (n : Nat), (∀ h ∈ l, h.tag < 0) → l.foldl (fun n h => if 0 ≤ h.tag then max n (h.tag.toNat + 1) else n) n = n
  | [], _, _ => rfl
  | h :: l, n, hh => by
    have := hh h List.mem_cons_self
    simp only [List.foldl_cons]
    rw [if_neg (by omega)]
    exact knownL_none l n (fun x hx => hh x (List.mem_cons_of_mem _ hx))
theorem noTag_heads (ver : Int) (fl : Bool) : ∀ {F : FS}, noTag F = true → ∀ h ∈ (F.list ver fl).map (·.h), h.tag < 0
  | .nil, _, h, hh => by simp [FS.list] at hh
  | .cons g sub rest, hb, h, hh => by
    simp only [noTag, Bool.and_eq_true, decide_eq_true_eq] at hb
    simp only [FS.list, List.map_cons, List.mem_cons] at hh
    rcases hh with rfl | hh
    · exact hb.1
    · exact noTag_heads ver fl hb.2 h hh

theorem partS_plain {F : FS} (h : noTag F = true) (ver : Int) (fl : Bool) (t : Tr) : partS F ver fl t = plainS F ver fl 0 t ++ tailS fl t := by
  have hk : knownL ((F.list ver fl).map (·.h)) = 0 := knownL_none _ 0 (noTag_heads ver fl h)
  unfold partS partL plainS tailS
  rw [hk]
  cases fl
  · simp
  · simp

/-- What the reference writes of a tree is what the code writes of some value that may be. -/
theorem conv_sch {M : Nat} {flx : Nat → Bool} {v : Nat} (hv : v ≤ M) : ∀ (S : Sch) (F : FS) (n : Nat) (t : Tr), fitS M flx F S = true → t.Ok → ∃ x : S.T, S.wr v (flx v) x = plainS F v (flx v) n t ++ tailS (flx v) t ∧ S.wf v (flx v) x := by
  intro S
  induction S with
  | fin =>
    intro F n t hb ht
    cases F with
    | cons h sub rest => simp [fitS] at hb
    | nil =>
      have := List.all_eq_true.1 hb v (by simp; omega)
      have hf : flx v = false := by simpa using this
      exact ⟨(), by simp [Sch.wr, plainS, tailS, hf, FS.list], trivial⟩
  | tags k o =>
    intro F n t hb ht
    cases F with
    | cons h sub rest => simp [fitS] at hb
    | nil =>
      obtain ⟨l, h1, h2⟩ := tags_conv 0 t.u ht.u
      refine ⟨l, ?_, fun _ => h1⟩
      simp only [Sch.wr, plainS, tailS, FS.list, List.zipIdx_nil, List.flatMap_nil, List.nil_append]
      cases flx v
      · rfl
      · simp only [if_true]; exact h2
  | prim g k o p en d r ih =>
    intro F n t hb ht
    cases F with
    | nil => simp [fitS] at hb
    | cons h sub rest =>
      simp only [fitS, Bool.and_eq_true, decide_eq_true_eq, Bool.or_eq_true, Bool.not_eq_true'] at hb
      obtain ⟨⟨⟨⟨htag, hon⟩, hkind⟩, hnul⟩, hrest⟩ := hb
      obtain ⟨y, hy1, hy2⟩ := ih rest (n + 1) t hrest ht
      have hgo := onAt_of hon hv
      have hps : plainS (.cons h sub rest) v (flx v) n t = (if h.tag < 0 ∧ h.has v = true then fieldS ⟨h, partL (sub.list v (flx v)) v (flx v), usualL (sub.list v (flx v)), knownL ((sub.list v (flx v)).map (·.h))⟩ v (flx v) (t.at n) else []) ++ plainS rest v (flx v) (n + 1) t := by
        simp [plainS, FS.list, List.zipIdx_cons]
      rw [hps, ← hgo]
      cases hg : g.on v
      · refine ⟨(p.dfl 0, y), ?_, fun h => (by rw [hg] at h; cases h), hy2⟩
        simp [Sch.wr, hg, hy1]
      · have hfk : fieldS ⟨h, partL (sub.list v (flx v)) v (flx v), usualL (sub.list v (flx v)), knownL ((sub.list v (flx v)).map (·.h))⟩ v (flx v) (t.at n) = valS (primK p) (partL (sub.list v (flx v)) v (flx v)) (h.isNull v (t.at n).nul) (flx v) (t.at n) := by
          have h11 : ¬ (primK p = 11) := by cases p <;> simp [primK]
          have h10 : ¬ (primK p = 10) := by cases p <;> simp [primK]
          simp only [fieldS, hkind, if_neg h11, h10, false_and, if_false]
        obtain ⟨x, hx1, hx2⟩ := valS_prim p (partL (sub.list v (flx v)) v (flx v)) (h.isNull v (t.at n).nul) (flx v) (t.at n) (fun htx => by
          rcases hnul with h' | h'
          · rw [htx] at h'; cases h'
          · exact nnAt_of h' hv hg _)
        refine ⟨(x, y), ?_, fun _ => hx2, hy2⟩
        simp [Sch.wr, hg, hy1, htag, hfk, hx1]
  | arrP g k o sT nul p r ih =>
    intro F n t hb ht
    cases F with
    | nil => simp [fitS] at hb
    | cons h sub rest =>
      simp only [fitS, Bool.and_eq_true, decide_eq_true_eq] at hb
      obtain ⟨⟨⟨⟨⟨htag, hon⟩, hkind⟩, hof⟩, hnul⟩, hrest⟩ := hb
      obtain ⟨y, hy1, hy2⟩ := ih rest (n + 1) t hrest ht
      have hgo := onAt_of hon hv
      have hps : plainS (.cons h sub rest) v (flx v) n t = (if h.tag < 0 ∧ h.has v = true then fieldS ⟨h, partL (sub.list v (flx v)) v (flx v), usualL (sub.list v (flx v)), knownL ((sub.list v (flx v)).map (·.h))⟩ v (flx v) (t.at n) else []) ++ plainS rest v (flx v) (n + 1) t := by
        simp [plainS, FS.list, List.zipIdx_cons]
      rw [hps, ← hgo]
      cases hg : g.on v
      · refine ⟨(none, y), ?_, fun h => (by rw [hg] at h; cases h), hy2⟩
        simp [Sch.wr, hg, hy1]
      · obtain ⟨a, ha1, ha2, ha3⟩ := list_conv (g := p.wr (flx v)) (W := p.wf) (f := valS (primK p) (partL (sub.list v (flx v)) v (flx v)) false (flx v)) nul v (h.isNull v (t.at n).nul) (flx v) (t.at n)
          (fun hn => by subst hn; exact nnAt_of hnul hv hg _) (fun m hm hnn => by subst hm; exact nlAt_of hnul hv hg hnn) (fun x _ => valS_prim p _ false (flx v) x (fun _ => rfl))
        refine ⟨(a, y), ?_, fun _ => ⟨ha2, ha3⟩, hy2⟩
        simp only [Sch.wr, hg, if_true, hy1, htag, true_and, fieldS, hkind, hof, ha1, List.append_assoc]
  | arrS g k o sT nul T PT sz df e r ihe ih =>
    intro F n t hb ht
    cases F with
    | nil => simp [fitS] at hb
    | cons h sub rest =>
      simp only [fitS, Bool.and_eq_true, decide_eq_true_eq] at hb
      obtain ⟨⟨⟨⟨⟨⟨htag, hon⟩, hkind⟩, hof⟩, hnul⟩, hsub⟩, hrest⟩ := hb
      obtain ⟨y, hy1, hy2⟩ := ih rest (n + 1) t hrest ht
      have hgo := onAt_of hon hv
      have hps : plainS (.cons h sub rest) v (flx v) n t = (if h.tag < 0 ∧ h.has v = true then fieldS ⟨h, partL (sub.list v (flx v)) v (flx v), usualL (sub.list v (flx v)), knownL ((sub.list v (flx v)).map (·.h))⟩ v (flx v) (t.at n) else []) ++ plainS rest v (flx v) (n + 1) t := by
        simp [plainS, FS.list, List.zipIdx_cons]
      rw [hps, ← hgo]
      cases hg : g.on v
      · refine ⟨(none, y), ?_, fun h => (by rw [hg] at h; cases h), hy2⟩
        simp [Sch.wr, hg, hy1]
      · obtain ⟨a, ha1, ha2, ha3⟩ := list_conv (g := e.wr v (flx v)) (W := e.wf v (flx v)) (f := valS 10 (partL (sub.list v (flx v)) v (flx v)) false (flx v)) nul v (h.isNull v (t.at n).nul) (flx v) (t.at n)
          (fun hn => by subst hn; exact nnAt_of hnul hv hg _) (fun m hm hnn => by subst hm; exact nlAt_of hnul hv hg hnn) (fun x hx => by
            obtain ⟨z, hz1, hz2⟩ := ihe sub 0 x hsub ((ht.at n).l x (List.mem_of_mem_take hx))
            refine ⟨z, ?_, hz2⟩
            rw [hz1, ← partS_plain (fitS_noTag hsub)]
            rfl)
        refine ⟨(a, y), ?_, fun _ => ⟨ha2, ha3⟩, hy2⟩
        simp only [Sch.wr, hg, if_true, hy1, htag, true_and, fieldS, hkind, hof, ha1, List.append_assoc]

theorem conv_all {M : Nat} {flx : Nat → Bool} {v : Nat} (hv : v ≤ M) {S : Sch} {F : FS} (hb : fitS M flx F S = true) {t : Tr} (ht : t.Ok) : ∃ x : S.T, S.wr v (flx v) x = partS F v (flx v) t ∧ S.wf v (flx v) x := by
  obtain ⟨x, h1, h2⟩ := conv_sch (flx := flx) hv S F 0 t hb ht
  exact ⟨x, by rw [h1, partS_plain (fitS_noTag hb)], h2⟩

/-! ## How much is written at most -/
def Sch.cap : Sch → Nat
  | .fin => 0
  | .tags _ _ => 5 + 40000 * 32777
  | .prim _ _ _ _ _ _ r => 32772 + r.cap
  | .arrP _ _ _ _ _ _ r => 5 + 32767 * 32772 + r.cap
  | .arrS _ _ _ _ _ _ _ _ _ e r => 5 + 32767 * e.cap + r.cap

theorem flat_cap {α : Type} {g : α → List UInt8} {n : Nat} : ∀ l : List α, (∀ x ∈ l, (g x).length ≤ n) → (l.flatMap g).length ≤ l.length * n
  | [], _ => by simp
  | x :: l, h => by
    have h1 := h x List.mem_cons_self
    have h2 := flat_cap l (fun y hy => h y (List.mem_cons_of_mem _ hy))
    simp only [List.flatMap_cons, List.length_append, List.length_cons, Nat.add_mul, Nat.one_mul]; omega
theorem uvOut_len5 (n : Nat) : (uvOut n).length ≤ 5 := @uvE_len 4 n
theorem str_cap (fl : Bool) (x : List UInt8) (h : x.length ≤ 32767) : (if fl then wCStr x else wStr x).length ≤ 32772 := by
  have := uvOut_len5 ((x.length + 1) % 4294967296)
  cases fl <;> simp [wCStr, wStr] <;> omega
theorem bytes_cap (fl : Bool) (x : List UInt8) (h : x.length ≤ 32767) : (if fl then wCBytes x else wBytes x).length ≤ 32772 := by
  have := uvOut_len5 ((x.length + 1) % 4294967296)
  cases fl <;> simp [wCBytes, wBytes] <;> omega
theorem prim_cap (p : Prim) (fl : Bool) (x : p.T) (h : p.wf x) : (p.wr fl x).length ≤ 32772 := by
  cases p with
  | bool => simp [Prim.wr]
  | i8 => simp [Prim.wr]
  | i16 => simp [Prim.wr, num]
  | u16 => simp [Prim.wr, num]
  | i32 => simp [Prim.wr, num]
  | i64 => simp [Prim.wr, num]
  | uuid => have hx : (x : List UInt8).length = 16 := h; simp only [Prim.wr]; rw [show (x : List UInt8).length = 16 from hx]; omega
  | str => exact str_cap fl x h
  | bytes => exact bytes_cap fl x h
  | nstr =>
    cases x with
    | none => cases fl <;> simp [Prim.wr, wNStr, wCNStr] <;> (have := uvOut_len5 0; omega)
    | some x =>
      have := str_cap fl x h
      cases fl <;> simpa [Prim.wr, wNStr, wCNStr] using this
  | nbytes =>
    cases x with
    | none => cases fl <;> simp [Prim.wr, wNBytes, wCNBytes] <;> (have := uvOut_len5 0; omega)
    | some x =>
      have := bytes_cap fl x h
      cases fl <;> simpa [Prim.wr, wNBytes, wCNBytes] using this
theorem lenW_len (nul : Option Nat) (fl : Bool) (n : Nat) (b : Bool) : (lenW nul fl n b).length ≤ 5 := by
  have h0 := uvOut_len5 0
  have h1 := uvOut_len5 ((n + 1) % 4294967296)
  cases nul <;> cases fl <;> cases b <;> simp [lenW, wLen, wCLen, wNLen, wCNLen] <;> omega
theorem tags_cap (l : TagL) (h : tagsOk l) : (uvOut (l.length % 4294967296) ++ tagsOut l).length ≤ 5 + 40000 * 32777 := by
  have h0 := uvOut_len5 (l.length % 4294967296)
  have h1 := flat_cap (g := tagW) (n := 32777) l (fun x hx => by
    have := (h.2.2 x hx).2
    have a := uvOut_len5 x.1
    have b := uvOut_len5 (x.2.length % 4294967296)
    simp only [tagW, List.length_append]; omega)
  have h2 := h.1
  rw [List.length_append, tagsOut_len]
  have h3 : l.length * 32777 ≤ 40000 * 32777 := Nat.mul_le_mul_right _ h2
  omega
theorem wr_cap (ver : Int) (fl : Bool) : ∀ (S : Sch) (x : S.T), S.wf ver fl x → (S.wr ver fl x).length ≤ S.cap := by
  intro S
  induction S with
  | fin => intro x h; simp [Sch.wr]
  | tags k o =>
    intro x h
    simp only [Sch.wr, Sch.cap]
    cases fl
    · simp
    · simp only [if_true]; exact tags_cap x (h rfl)
  | prim g k o p en d r ih =>
    rintro ⟨x, y⟩ ⟨h1, h2⟩
    have := ih y h2
    simp only [Sch.wr, Sch.cap, List.length_append]
    cases hg : g.on ver
    · simp; omega
    · have := prim_cap p fl x (h1 hg)
      simp; omega
  | arrP g k o sT nul p r ih =>
    rintro ⟨a, y⟩ ⟨h1, h2⟩
    have := ih y h2
    simp only [Sch.wr, Sch.cap, List.length_append]
    cases hg : g.on ver
    · simp; omega
    · have h3 := h1 hg
      have h4 := flat_cap (g := p.wr fl) (n := 32772) (a.getD []) (fun x hx => prim_cap p fl x (h3.2 x hx))
      have h5 : (a.getD []).length * 32772 ≤ 32767 * 32772 := Nat.mul_le_mul_right _ h3.1.1
      have h6 := lenW_len nul fl (a.getD []).length a.isNone
      simp only [if_true, List.length_append]; omega
  | arrS g k o sT nul T PT sz df e r ihe ih =>
    rintro ⟨a, y⟩ ⟨h1, h2⟩
    have := ih y h2
    simp only [Sch.wr, Sch.cap, List.length_append]
    cases hg : g.on ver
    · simp; omega
    · have h3 := h1 hg
      have h4 := flat_cap (g := e.wr ver fl) (n := e.cap) (a.getD []) (fun x hx => ihe x (h3.2 x hx))
      have h5 : (a.getD []).length * e.cap ≤ 32767 * e.cap := Nat.mul_le_mul_right _ h3.1.1
      have h6 := lenW_len nul fl (a.getD []).length a.isNone
      simp only [if_true, List.length_append]; omega
end Go.Kg

