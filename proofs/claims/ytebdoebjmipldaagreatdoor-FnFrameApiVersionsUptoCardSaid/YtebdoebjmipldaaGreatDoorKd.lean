/- What is proved here: how the code of the messages runs, in general: a semantics of calls by their texts, and contracts of the functions of kbin and of the reference. No condition but those that each theorem names. -/
import Derived.Lib.AppendZerosOnto
import Derived.ProofKit
import Derived.WideKeyArgs
import Derived.ChangeSlices
import Derived.OpenShut
import Derived.RowKit
import Derived.Maps.RangeRun
import Derived.Test.YtebdoebjmipldaaGreatDoorKc
set_option linter.unusedSectionVars false
set_option linter.unusedSimpArgs false
set_option linter.unusedVariables false
set_option linter.unusedSimpArgs false
set_option linter.unusedVariables false
set_option linter.unusedSectionVars false
namespace Go.Kg
open Go
/-- what stands in a new element -/
def sliZ (P : Program) (sT : TypeId) : Option (Array Value) := match P.underlying sT with
  | some (.slice e) => match P.info? e with
    | some i => if i.bytes ≤ 131072 ∧ 0 < i.size then match i.zero with
      | some z => if z.cells.size = i.size then some z.cells else none
      | none => none
      else none
    | none => none
  | _ => none
def sliOk (P : Program) (sT sz : Nat) : Bool := sliSz P sT == some sz && match sliZ P sT with
  | some z => z.size == sz
  | none => false
def elemOk (P : Program) (C : Cfg) (sT : Nat) (e : Sch) : Bool := match sliZ P sT with
  | some z => e.chkD (setD 0 (e.dst C) z).toList
  | none => false
/-- a list may be null at no version, or at each -/
def nulZ (fx : Bool) : Option Nat → Bool
  | none => true
  | some m => fx && m == 0
/-- what new(T) makes -/
def optOk (P : Program) (C : Cfg) (T sz : Nat) (e : Sch) : Bool := match zeroOf P T with
  | some v => v.cells.size == sz && e.chkD (setD 0 (e.dst C) v.cells).toList
  | none => false
def Sch.tyR (P : Program) (C : CfgR) : Nat → Nat → Nat → Sch → Bool
  | _, _, _, .fin => true
  | T, n, lo, .tags k o => C.fx && fldOff P T k == some o && decide (lo ≤ o) && decide (o + 1 ≤ n)
  | T, n, lo, .prim _ k o p en _ rest => fldOff P T k == some o && p.kOk P (p.ty C.E) && (en == 0 || (p == .i8 && isScl (kindOf P en))) && decide (lo ≤ o) && decide (o + p.sz ≤ n) && rest.tyR P C T n (o + p.sz)
  | T, n, lo, .arrP _ k o sT nul p rest => nulZ C.fx nul && fldOff P T k == some o && isScl (kindOf P sT) && sliOk P sT p.sz && p.kOk P (p.ty C.E) && decide (lo ≤ o) && decide (o + 1 ≤ n) && rest.tyR P C T n (o + 1)
  | T, n, lo, .arrS _ k o sT nul T' _ sz _ e rest => nulZ C.fx nul && fldOff P T k == some o && isScl (kindOf P sT) && sliOk P sT sz && elemOk P C.toCfg sT e && defOk P T' sz (e.dst C.toCfg) && e.tyR P C T' sz 0 && decide (lo ≤ o) && decide (o + 1 ≤ n) && rest.tyR P C T n (o + 1)
  | T, n, lo, .sub _ k o T' _ sz _ e rest => fldOff P T k == some o && (e.dst C.toCfg).isEmpty && e.tyR P C T' sz 0 && decide (lo ≤ o) && decide (o + sz ≤ n) && rest.tyR P C T n (o + sz)
  | T, n, lo, .opt _ k o T' PT' _ sz _ e rest => fldOff P T k == some o && isScl (kindOf P PT') && isScl (kindOf P C.E.tI8) && optOk P C.toCfg T' sz e && defOk P T' sz (e.dst C.toCfg) && e.tyR P C T' sz 0 && decide (lo ≤ o) && decide (o + 1 ≤ n) && rest.tyR P C T n (o + 1)
def DefRC (P : Program) (C : Cfg) (sz df : Nat) (e : Sch) : Prop := ∀ w (b a : Nat) c et, w.heap[b]? = some (.cells c et (0, 0)) → a + sz ≤ c.size → Ret P df #[.pointer (some ⟨b, a, none⟩)] w fun _ w' => w' = w.setBlk b (.cells (setD a (e.dst C) c) et (0, 0))
def Sch.NeedR (P : Program) (C : CfgR) : Sch → Prop
  | .fin => True
  | .tags _ _ => TagsRC P C
  | .prim _ _ _ p _ _ rest => PrimR P C p ∧ rest.NeedR P C
  | .arrP _ _ _ _ _ p rest => PrimR P C p ∧ LenRC P C ∧ EndC P C ∧ rest.NeedR P C
  | .arrS _ _ _ _ _ _ _ sz df e rest => LenRC P C ∧ EndC P C ∧ DefRC P C.toCfg sz df e ∧ e.NeedR P C ∧ rest.NeedR P C
  | .sub _ _ _ _ _ sz df e rest => DefRC P C.toCfg sz df e ∧ e.NeedR P C ∧ rest.NeedR P C
  | .opt _ _ _ _ _ _ sz df e rest => PrimR P C .i8 ∧ EndC P C ∧ DefRC P C.toCfg sz df e ∧ e.NeedR P C ∧ rest.NeedR P C
theorem prim_chkD_congr {cs cs' : List Value} {o : Nat} {p : Prim} {d : Int} (h : ∀ j, o ≤ j → j < o + p.sz → cs'[j]? = cs[j]?) (hc : p.chkD cs o d = true) : p.chkD cs' o d = true := by
  cases p with
  | uuid =>
    have : ∀ n, n ≤ 16 → zeros16 cs o n = true → zeros16 cs' o n = true := by
      intro n
      induction n with
      | zero => intro _ _; rfl
      | succ n ih =>
        intro hn hz
        simp only [zeros16, Bool.and_eq_true] at hz ⊢
        rw [h (o + n) (by omega) (by simp [Prim.sz]; omega)]
        exact ⟨hz.1, ih (by omega) hz.2⟩
    exact this 16 (Nat.le_refl _) hc
  | _ =>
    have h0 := h o (Nat.le_refl _) (by simp [Prim.sz])
    simp only [Prim.chkD] at hc ⊢
    rw [h0]; exact hc
theorem chkD_congr {P : Program} {C : CfgR} {cs cs' : List Value} : ∀ (S : Sch) {T n lo : Nat}, S.tyR P C T n lo = true → (∀ j, lo ≤ j → j < n → cs'[j]? = cs[j]?) → S.chkD cs = true → S.chkD cs' = true := by
  intro S
  induction S generalizing cs cs' with
  | fin => intros; rfl
  | tags k o =>
    intro T n lo ht h hc
    simp only [Sch.tyR, Bool.and_eq_true, decide_eq_true_eq] at ht
    simp only [Sch.chkD] at hc ⊢
    rw [h o (by omega) (by omega)]; exact hc
  | prim g k o p en d rest ih =>
    intro T n lo ht h hc
    simp only [Sch.tyR, Bool.and_eq_true, decide_eq_true_eq] at ht
    simp only [Sch.chkD, Bool.and_eq_true] at hc ⊢
    exact ⟨prim_chkD_congr (fun j h1 h2 => h j (by omega) (by omega)) hc.1, ih ht.2 (fun j h1 h2 => h j (by omega) h2) hc.2⟩
  | arrP g k o sT nul p rest ih =>
    intro T n lo ht h hc
    simp only [Sch.tyR, Bool.and_eq_true, decide_eq_true_eq] at ht
    simp only [Sch.chkD, Bool.and_eq_true] at hc ⊢
    rw [h o (by omega) (by omega)]
    exact ⟨hc.1, ih ht.2 (fun j h1 h2 => h j (by omega) h2) hc.2⟩
  | arrS g k o sT nul T' PT sz df e rest ihe ih =>
    intro T n lo ht h hc
    simp only [Sch.tyR, Bool.and_eq_true, decide_eq_true_eq] at ht
    simp only [Sch.chkD, Bool.and_eq_true] at hc ⊢
    rw [h o (by omega) (by omega)]
    exact ⟨hc.1, ih ht.2 (fun j h1 h2 => h j (by omega) h2) hc.2⟩
  | sub g k o T' PT sz df e rest ihe ih =>
    intro T n lo ht h hc
    simp only [Sch.tyR, Bool.and_eq_true, decide_eq_true_eq] at ht
    simp only [Sch.chkD, Bool.and_eq_true] at hc ⊢
    refine ⟨ihe ht.1.1.1.2 (fun j h1 h2 => ?_) hc.1, ih ht.2 (fun j h1 h2 => h j (by omega) h2) hc.2⟩
    rw [List.getElem?_take, List.getElem?_take, if_pos h2, if_pos h2, List.getElem?_drop, List.getElem?_drop]
    exact h _ (by omega) (by omega)
  | opt g k o T' PT PP sz df e rest ihe ih =>
    intro T n lo ht h hc
    simp only [Sch.tyR, Bool.and_eq_true, decide_eq_true_eq] at ht
    simp only [Sch.chkD, Bool.and_eq_true] at hc ⊢
    rw [h o (by omega) (by omega)]
    exact ⟨hc.1, ih ht.2 (fun j h1 h2 => h j (by omega) h2) hc.2⟩
section
variable {P : Program} {C : CfgR}
def SoundR (P : Program) (C : CfgR) (S : Sch) : Prop := ∀ (T PT pv : Nat) (c : Ct) (Q : Post) (f : Nat → Value) (w : World) (b a n lo : Nat) (cc : Array Value) (e : TypeId) (ver : Int) (fl : Bool) (R : Rdr) (rs : RS),
  S.tyR P C T n lo = true → S.NeedR P C → FrR C R f pv b a ver fl c.l → (S.genR C T PT pv c).2.l ≤ c.t → StR C R b a n w cc e rs → S.chkD (segL cc a n) = true →
  (S.rd ver fl rs = none → ∀ f' w', f' 6 = R.ev → Ext (CB R b) w w' → Q .ret f' w') →
  (∀ x rs', S.rd ver fl rs = some (x, rs') → ∀ f' w' cc', RdTo C R b a n lo w cc e f c.l (S.genR C T PT pv c).2.l c.t rs' f' w' cc' → S.Rep w' (RK R) (segL cc' a n) x → Q .normal f' w') →
  (seqL (S.genR C T PT pv c).1).wp P Q f w
theorem genR_mono : ∀ (S : Sch) (T PT pv : Nat) (c : Ct), c.l ≤ (S.genR C T PT pv c).2.l ∧ c.t ≤ (S.genR C T PT pv c).2.t := by
  intro S
  induction S with
  | fin => intro T PT pv c; exact ⟨Nat.le_refl _, Nat.le_refl _⟩
  | tags k o => intro T PT pv c; exact ⟨Nat.le_refl _, by simp [Sch.genR]⟩
  | prim g k o p en d rest ih =>
    intro T PT pv c
    simp only [Sch.genR]
    split
    · have := ih T PT pv ⟨c.l + 1, c.t + gdN g + readN C p + 4, c.k⟩
      constructor
      · exact Nat.le_trans (by simp) this.1
      · exact Nat.le_trans (by simp; omega) this.2
    · have := ih T PT pv ⟨c.l + 3, c.t + gdN g + 7, c.k⟩
      constructor
      · exact Nat.le_trans (by simp) this.1
      · exact Nat.le_trans (by simp; omega) this.2
  | arrP g k o sT nul p rest ih =>
    intro T PT pv c
    simp only [Sch.genR]
    have := ih T PT pv ⟨c.l + 5, c.t + gdN g + headN C nul + 5 + readN C p + 4 + 5, c.k + 2⟩
    constructor
    · exact Nat.le_trans (by simp) this.1
    · exact Nat.le_trans (by simp; omega) this.2
  | arrS g k o sT nul T' PT' sz df e rest ihe ih =>
    intro T PT pv c
    simp only [Sch.genR]
    have h1 := ihe T' PT' (c.l + 5) ⟨c.l + 6, c.t + gdN g + headN C nul + 11, c.k + 2⟩
    generalize e.genR C T' PT' (c.l + 5) ⟨c.l + 6, c.t + gdN g + headN C nul + 11, c.k + 2⟩ = z at *
    obtain ⟨eb, c1⟩ := z
    have := ih T PT pv ⟨c1.l, c1.t + 5, c1.k⟩
    simp only at h1 this ⊢
    omega
  | sub g k o T' PT' sz df e rest ihe ih =>
    intro T PT pv c
    simp only [Sch.genR]
    have h1 := ihe T' PT' (c.l + 1) ⟨c.l + 2, c.t + gdN g + 6, c.k⟩
    generalize e.genR C T' PT' (c.l + 1) ⟨c.l + 2, c.t + gdN g + 6, c.k⟩ = z at *
    obtain ⟨eb, c1⟩ := z
    have := ih T PT pv c1
    simp only at h1 this ⊢
    omega
  | opt g k o T' PT' PP sz df e rest ihe ih =>
    intro T PT pv c
    simp only [Sch.genR]
    have h1 := ihe T' PT' (c.l + 2) ⟨c.l + 3, c.t + gdN g + 17, c.k⟩
    generalize e.genR C T' PT' (c.l + 2) ⟨c.l + 3, c.t + gdN g + 17, c.k⟩ = z at *
    obtain ⟨eb, c1⟩ := z
    have := ih T PT pv c1
    simp only at h1 this ⊢
    omega
theorem RdTo.refl {R : Rdr} {b a n lo : Nat} {w : World} {cc : Array Value} {e : TypeId} {f f' : Nat → Value} {l m t : Nat} {rs : RS} (h : StR C R b a n w cc e rs) (hk : KeepR f f' l m t) : RdTo C R b a n lo w cc e f l m t rs f' w cc :=
  ⟨Ext.refl _ _, h, rfl, fun _ _ => rfl, hk⟩
/-- only the reader has turned -/
theorem RdTo.read {R : Rdr} {b a n lo : Nat} {w w' : World} {cc : Array Value} {e : TypeId} {f f' : Nat → Value} {l m t : Nat} {rs rs' : RS} (h : StR C R b a n w cc e rs) (he : Ext (· = R.pb) w w') (hr : RdAt C.E.tRd w' R.pb R.D rs') (hk : KeepR f f' l m t) : RdTo C R b a n lo w cc e f l m t rs' f' w' cc :=
  ⟨he.mono (fun _ _ h => .inl h), h.ext1 he hr, rfl, fun _ _ => rfl, hk⟩
theorem over_one {cc : Array Value} {o : Nat} {v : Value} (h : o < cc.size) : over cc o [v] = cc.setIfInBounds o v := by
  apply Array.ext_getElem?
  intro j
  simp only [over, List.length_singleton, List.getElem?_toArray, List.append_assoc]
  rw [Array.getElem?_setIfInBounds]
  by_cases h1 : j < o
  · rw [List.getElem?_append_left (by simp; omega), if_neg (by omega), List.getElem?_take, if_pos h1]; simp
  · rw [List.getElem?_append_right (by simp; omega)]
    have hl : (cc.toList.take o).length = o := by simp; omega
    rw [hl]
    by_cases h2 : j = o
    · subst h2; simp [h]
    · rw [if_neg (by omega), List.getElem?_append_right (by simp; omega)]
      simp only [List.length_singleton, List.getElem?_drop, Array.getElem?_toList]
      congr 1; omega
theorem soundR_fin : SoundR P C .fin := by
  intro T PT pv c Q f w b a n lo cc e ver fl R rs hty hN hf hc hs hd h0 h1
  exact h1 () rs rfl f w cc (RdTo.refl hs (KeepR.refl _ _ _ _)) trivial
theorem soundR_tags (ht : TyR P C) (k o : Nat) : SoundR P C (.tags k o) := by
  intro T PT pv c Q f w b a n lo cc e ver fl R rs hty hN hf hc hs hd h0 h1
  simp only [Sch.tyR, Bool.and_eq_true, beq_iff_eq, decide_eq_true_eq] at hty
  obtain ⟨⟨⟨hx, hF⟩, hlo⟩, hn⟩ := hty
  have hlt : c.l ≤ c.t := hc
  have hn10 := hf.nN
  have hpt := hf.ptrN
  have hnil := isNilMap_spec hd
  refine seqL_one ?_
  refine r_cond (hf.flg hx) (by omega) ?_ ?_
  · rintro rfl f1 hk1
    refine wp_reg ?_
    have p1 : f1 pv = .pointer (some ⟨b, a, none⟩) := (hk1 pv (by omega)).trans hf.ptr
    have hrs := hf.rsN
    have p7 : f1 C.rs = .pointer (some ⟨R.pb, 0, none⟩) := (hk1 C.rs (by omega)).trans hf.rd
    have z7 : ∀ n, (C.rs = c.t + n) = False := by intro n; simp; omega
    have zp : ∀ n, (pv = c.t + n) = False := by intro n; simp; omega
    simp [p1, p7, z7, zp]
    refine (hN w R.pb R.D rs hs.rw_.ne.1 (Nat.lt_of_lt_of_le hs.rw_.lt.2.2.1 hs.rw_.lt.2.2.2) hs.rd).mono ?_
    rintro _ w1 ⟨⟨v, rfl, hv⟩, he1, hr1⟩
    have hs1 := hs.ext1 he1 hr1
    have hv1 : v.oneCell' = true := by
      rcases hv with ⟨rfl, _⟩ | ⟨_, _, _, rfl, _⟩ <;> rfl
    have hK : ∀ k, k = R.D ∨ w.heap.size ≤ k → RK R k := by
      rintro k (h | h)
      · exact .inl h
      · exact .inr (Nat.le_trans hs.rw_.lt.2.2.2 h)
    have huc : v.cells = #[v] := by cases v <;> simp_all [Value.oneCell', Value.cells]
    have hfit := hs1.fit
    simp [hF, Addr.add_mk, store_agg ht.kTags, allOne, hv1, putK_blk hs1.blk, over_one (show a + o < cc.size by omega)]
    refine ⟨by omega, ?_⟩
    have hput := put_one (cc := cc) (o := a + o) hv1 (by omega)
    refine h1 (rdTags rs).1 (rdTags rs).2 rfl _ _ _ ((RdTo.read hs he1 hr1 (KeepR.refl _ _ _ _)).trans (RdTo.put hs1 hput hlo (by rw [huc]; exact hn) (l := c.l) (m := c.l) (t := c.t) ?_) (Nat.le_refl _) (Nat.le_refl _) (Nat.le_refl _) (Nat.le_refl _)) ?_
    · intro y hy1 hy
      have x3 : ∀ n, (y = c.t + n) = False := by intro n; simp; omega
      simp [x3]
      exact hk1 y (by omega)
    · refine ⟨v, ?_, ?_⟩
      · rw [segL_get (by omega)]
        simp [Array.getElem?_setIfInBounds]; omega
      · have hE : Ext (fun k => k = b) w1 (w1.setBlk b (.cells (cc.setIfInBounds (a + o) v) e (0, 0))) := (Ext.refl (fun k => k = b) w1).setBlk (b := b) (Or.inr rfl) _
        exact TagsAt.ext hE (fun k hk1 hk2 hk3 => hs1.rw_.keepK k hk1 hk2 (.inr hk3)) (TagsAt.mono hK hv)
  · rintro rfl f1 hk1
    refine h1 [] rs rfl f1 w cc (RdTo.refl hs (fun y _ hy => hk1 y (by omega))) ⟨_, hnil, .inl ⟨rfl, rfl⟩⟩
/-- var t E; {v := b.Int8(); t = E(v)}; v := t; s.F = v -/
theorem r_enum (ht : TyR P C) {T PT pv k o l t b a n en : Nat} {R : Rdr} {Q : Post} {f : Nat → Value} {w : World} {ver : Int} {fl : Bool} {cc : Array Value} {e : TypeId} {rs : RS} (hP : PrimR P C .i8) (hs : StR C R b a n w cc e rs) (hf : FrR C R f pv b a ver fl l)
    (hF : fldOff P T k = some o) (hk : isScl (kindOf P en) = true) (hl : l + 3 ≤ t) (hn : o + 1 ≤ n)
    (h : ∀ f' w2 u cc', Prim.i8.rep1 w2 (RK R) u (Prim.i8.rd fl rs).1 → Ext (· = R.pb) w w2 → RdAt C.E.tRd w2 R.pb R.D (Prim.i8.rd fl rs).2 → Put cc (a + o) u cc' → (∀ y, y < t → (y < l ∨ l + 3 ≤ y) → f' y = f y) → Q .normal f' (w2.setBlk b (.cells cc' e (0, 0)))) :
    (seqL [.reg [⟨none, some l, .assign (.const (.int .i8 0)), en⟩], seqL [callR C .i8 (Prim.i8.fR C.E false) (l + 1) t, .reg [⟨none, some (t + 1), .move (.tmp (l + 1)), Prim.i8.ty C.E⟩, ⟨none, some l, .assign (.tmp (t + 1)), en⟩]],
        .reg [⟨none, some (t + 2), .move (.tmp l), en⟩, ⟨none, some (l + 2), .assign (.tmp (t + 2)), en⟩], .reg (storeT C T PT pv k en (l + 2) (t + 3))]).wp P Q f w := by
  have hn10 := hf.nN
  have hpt := hf.ptrN
  have hfit := hs.fit
  refine seqL_cons ?_
  refine wp_reg ?_
  simp
  generalize hfa : upd f l (.int .i8 0) = fa
  have ka : ∀ y, y ≠ l → fa y = f y := fun y hy => by subst hfa; rw [upd_apply, if_neg hy]
  show (seqL _).wp P _ fa w
  refine seqL_cons ?_
  refine seqL_cons ?_
  have hcall := hP false (by simp) w R.pb R.D rs hs.rw_.ne.1 (Nat.lt_of_lt_of_le hs.rw_.lt.2.2.1 hs.rw_.lt.2.2.2) hs.rd
  refine r_call ht (fun h => by cases h) (x := (Prim.i8.rd fl rs).1) (rs' := (Prim.i8.rd fl rs).2) hs ((ka C.rs (by have := hf.rsN; omega)).trans hf.rd) (by omega) (by omega) hcall ?_
  intro f2 w2 u hu hrep he2 hr2 hk2
  have hs2 := hs.ext1 he2 hr2
  have hul : f2 (l + 1) = u := by simpa [LocVal] using hu
  have hu1 : u.oneCell' = true := by have := rep1_one hrep; simpa using this
  show (Ir.reg _).wp P _ f2 w2
  refine wp_reg ?_
  simp [hul]
  show (seqL _).wp P _ _ w2
  refine seqL_cons ?_
  refine wp_reg ?_
  have z1 : ∀ n, (l = t + n) = False := by intro n; simp; omega
  simp [z1]
  show (Ir.reg _).wp P _ _ w2
  refine r_storeT (u := u) (o := o) (b := b) (a := a) (cc := cc) (e := e) ?_ hF hk ?_ hu1 (by omega) (by omega) hs2.blk (by omega) ?_
  · have x3 : ∀ n, (pv = t + n) = False := by intro n; simp; omega
    have x4 : ∀ n, (pv = l + n) = False := by intro n; simp; omega
    have x5 : (pv = l) = False := by simp; omega
    simp [x3, x4, x5]
    rw [hk2 pv (by omega) (by omega), ka pv (by omega)]
    exact hf.ptr
  · simp
  · intro f3 cc3 hput hk3
    refine h f3 w2 u cc3 hrep he2 hr2 hput ?_
    intro y hy hy2
    have x3 : ∀ n, (y = t + n) = False := by intro n; simp; omega
    have x4 : (y = l + 2) = False := by simp; omega
    have x5 : (y = l) = False := by simp; omega
    rw [hk3 y (by omega)]
    simp [x3, x4, x5]
    rw [hk2 y (by omega) (by omega), ka y (by omega)]
theorem soundR_prim (ht : TyR P C) (g : Gd) (k o : Nat) (p : Prim) (en : Nat) (d : Int) (rest : Sch) (ih : SoundR P C rest) : SoundR P C (.prim g k o p en d rest) := by
  intro T PT pv c Q f w b a n lo cc e ver fl R rs hty hN hf hc hs hd h0 h1
  simp only [Sch.tyR, Bool.and_eq_true, beq_iff_eq, decide_eq_true_eq] at hty
  obtain ⟨⟨⟨⟨⟨hF, hk⟩, hen⟩, hlo⟩, hn⟩, htr⟩ := hty
  obtain ⟨hNp, hNr⟩ := hN
  simp only [Sch.chkD, Bool.and_eq_true] at hd
  have hn10 := hf.nN
  have hpt := hf.ptrN
  have hfit := hs.fit
  -- what comes behind
  have behind : ∀ (c' : Ct) (f1 : Nat → Value) (w1 : World) (cc1 : Array Value) (rs1 : RS) (x : p.T), c.l ≤ c'.l → c.t ≤ c'.t → (rest.genR C T PT pv c').2.l ≤ c'.t →
      (Sch.rd ver fl (.prim g k o p en d rest) rs = (rest.rd ver fl rs1).map fun y => ((x, y.1), y.2)) →
      RdTo C R b a n lo w cc e f c.l c'.l c.t rs1 f1 w1 cc1 → (∀ j, (j < a + lo ∨ a + o + p.sz ≤ j) → cc1[j]? = cc[j]?) → FldAt w1 R (segL cc1 a n) o p x →
      (∀ x rs', Sch.rd ver fl (.prim g k o p en d rest) rs = some (x, rs') → ∀ f' w' cc', RdTo C R b a n lo w cc e f c.l (rest.genR C T PT pv c').2.l c.t rs' f' w' cc' → Sch.Rep w' (RK R) (.prim g k o p en d rest) (segL cc' a n) x → Q .normal f' w') →
      (seqL (rest.genR C T PT pv c').1).wp P Q f1 w1 := by
    intro c' f1 w1 cc1 rs1 x hl htt hc' hrd hto hsame hfld h1
    have hd1 : rest.chkD (segL cc1 a n) = true := by
      refine chkD_congr rest htr (fun j hj1 hj2 => ?_) hd.2
      rw [segL_get hj2, segL_get hj2]
      exact hsame _ (by omega)
    refine ih T PT pv c' Q f1 w1 b a n (o + p.sz) cc1 e ver fl R rs1 htr hNr ((hf.keep hto.keep.keeps (Nat.le_refl _)).up hl) hc' hto.st hd1 ?_ ?_
    · intro hnone f2 w2 h6 he2
      exact h0 (by rw [hrd, hnone]; rfl) f2 w2 h6 (hto.ext.trans he2)
    · intro y rs2 hy f2 w2 cc2 hto2 hrep2
      refine h1 (x, y) rs2 (by rw [hrd, hy]; rfl) f2 w2 cc2 (hto.trans hto2 (by omega) hl (genR_mono (C := C) rest T PT pv c').1 htt) ⟨?_, hrep2⟩
      exact hfld.move hto2.ext hto.st.rw_.keepK (fun j hj1 hj2 => by rw [segL_get (by omega), segL_get (by omega)]; exact hto2.same _ (.inl (by omega)))
  have hK : ∀ k, k < w.heap.size → RK R k → ¬ CB R b k := hs.rw_.keepK
  by_cases he : en = 0
  · subst he
    simp only [Sch.genR, if_true] at hc h1 ⊢
    have hm := (genR_mono (C := C) rest T PT pv ⟨c.l + 1, c.t + gdN g + readN C p + 4, c.k⟩).1
    simp only at hm
    refine seqL_cons ?_
    refine w_guard ht.c (show f 8 = _ from hf.ver) (show 8 < c.t by omega) (by omega) ?_ ?_
    · intro hon f1 hk1 h11
      have hf1 := hf.keep hk1 (by omega)
      refine seqL_append ?_
      refine r_read ht (kOk_uu hk) hNp hs hf1 (by omega) ?_
      intro f2 w2 u hu hrep he2 hr2 hk2
      have hs2 := hs.ext1 he2 hr2
      have hsz := rep1_sz hrep
      refine seqL_one ?_
      refine r_store ht (o := o) ((hk2 pv (by omega) (by omega)).trans hf1.ptr) hF hk hu (rep1_one hrep) (by omega) (by omega) hs2.blk (by rw [hsz]; omega) ?_
      intro f3 cc3 hput hk3
      refine behind ⟨c.l + 1, c.t + gdN g + readN C p + 4, c.k⟩ f3 _ cc3 (p.rd fl rs).2 (p.rd fl rs).1 (by simp) (by simp; omega) (by simp only; omega) ?_ ?_ ?_ ?_ h1
      · simp only [Sch.rd, if_pos hon]; rfl
      · refine (RdTo.read (lo := lo) hs he2 hr2 (KeepR.refl _ c.l (c.l + 1) c.t)).trans (RdTo.put hs2 hput hlo (by rw [hsz]; exact hn) (l := c.l) (m := c.l + 1) (t := c.t) ?_) (Nat.le_refl _) (Nat.le_refl _) (Nat.le_refl _) (Nat.le_refl _)
        intro y hy1 hy
        rw [hk3 y (by omega), hk2 y (by omega) (by omega)]
        exact hk1 y (by omega) hy1
      · intro j hj
        exact hput.same j (by rw [hsz]; omega)
      · exact FldAt.put hs2 hput (by rw [hsz]; exact hn) hrep
    · intro hoff f1 hk1 h11
      refine behind ⟨c.l + 1, c.t + gdN g + readN C p + 4, c.k⟩ f1 w cc rs (p.dfl d) (by simp) (by simp; omega) (by simp only; omega) ?_ (RdTo.refl hs (KeepR.of hk1 (by omega))) (fun _ _ => rfl) (Prim.repD p d hd.1) h1
      simp only [Sch.rd, hoff, Bool.false_eq_true, if_false]; rfl
  · have hen' : p = .i8 ∧ isScl (kindOf P en) = true := by
      simp only [Bool.or_eq_true, beq_iff_eq, Bool.and_eq_true] at hen
      rcases hen with h | h
      · exact absurd h he
      · exact h
    obtain ⟨rfl, hken⟩ := hen'
    simp only [Sch.genR, if_neg he] at hc h1 ⊢
    have hm := (genR_mono (C := C) rest T PT pv ⟨c.l + 3, c.t + gdN g + 7, c.k⟩).1
    simp only at hm
    refine seqL_cons ?_
    refine w_guard ht.c (show f 8 = _ from hf.ver) (show 8 < c.t by omega) (by omega) ?_ ?_
    · intro hon f1 hk1 h11
      have hf1 := hf.keep hk1 (by omega)
      refine r_enum ht (o := o) hNp hs hf1 hF hken (by omega) hn ?_
      intro f3 w2 u cc3 hrep he2 hr2 hput hk3
      have hs2 := hs.ext1 he2 hr2
      have hsz := rep1_sz hrep
      refine behind ⟨c.l + 3, c.t + gdN g + 7, c.k⟩ f3 _ cc3 (Prim.i8.rd fl rs).2 (Prim.i8.rd fl rs).1 (by simp) (by simp; omega) (by simp only; omega) ?_ ?_ ?_ ?_ h1
      · simp only [Sch.rd, if_pos hon]; rfl
      · refine (RdTo.read (lo := lo) hs he2 hr2 (KeepR.refl _ c.l (c.l + 3) c.t)).trans (RdTo.put hs2 hput hlo (by rw [hsz]; exact hn) (l := c.l) (m := c.l + 3) (t := c.t) ?_) (Nat.le_refl _) (Nat.le_refl _) (Nat.le_refl _) (Nat.le_refl _)
        intro y hy1 hy
        rw [hk3 y (by omega) (by omega)]
        exact hk1 y (by omega) hy1
      · intro j hj
        exact hput.same j (by rw [hsz]; omega)
      · exact FldAt.put hs2 hput (by rw [hsz]; exact hn) hrep
    · intro hoff f1 hk1 h11
      refine behind ⟨c.l + 3, c.t + gdN g + 7, c.k⟩ f1 w cc rs (Prim.i8.dfl d) (by simp) (by simp; omega) (by simp only; omega) ?_ (RdTo.refl hs (KeepR.of hk1 (by omega))) (fun _ _ => rfl) (Prim.repD .i8 d hd.1) h1
      simp only [Sch.rd, hoff, Bool.false_eq_true, if_false]; rfl
end
end Go.Kg

set_option linter.unusedSimpArgs false
set_option linter.unusedVariables false
set_option linter.unusedSectionVars false
namespace Go.Kg
open Go
theorem intKind_und {P : Program} {T : Nat} {k : IntKind} (h : intKind? P T = some k) : P.underlying T = some (.int k) := by
  unfold intKind? at h
  split at h
  · rename_i k' hu; cases h; exact hu
  · cases h
theorem sliZ_spec {P : Program} {sT : Nat} {z : Array Value} (h : sliZ P sT = some z) : ∃ e i v, P.underlying sT = some (.slice e) ∧ P.info? e = some i ∧ i.bytes ≤ 131072 ∧ 0 < i.size ∧ i.zero = some v ∧ v.cells = z ∧ z.size = i.size := by
  unfold sliZ at h
  split at h
  · rename_i e hu
    split at h
    · rename_i i hi
      split at h
      · rename_i hb
        split at h
        · rename_i v hv
          split at h
          · rename_i hs
            cases h
            exact ⟨e, i, v, hu, hi, hb.1, hb.2, hv, rfl, hs⟩
          · cases h
        · cases h
      · cases h
    · cases h
  · cases h
theorem zeroCells_get {z : Array Value} {n i j : Nat} (hi : i < n) (hj : j < z.size) (more : Array Value) : (Builtin.zeroCells z n ++ more)[i * z.size + j]? = z[j]? := by
  have hlt : i * z.size + j < n * z.size := by
    have h1 : (i + 1) * z.size ≤ n * z.size := Nat.mul_le_mul_right _ hi
    rw [Nat.add_mul] at h1
    omega
  have hs : (Builtin.zeroCells z n).size = n * z.size := size_zeroCells z n
  rw [Array.getElem?_append_left (by omega)]
  simp only [Builtin.zeroCells, Array.getElem?_map]
  rw [Array.getElem?_range]
  simp [hlt]
  rw [Nat.mod_eq_of_lt hj]
  simp [hj, getElem!_pos]
/-- append(nil, make([]T, n)...) -/
theorem st_appz {P : Program} {f : Nat → Value} {w : World} {sT tn ty : Nat} {z : Array Value} {kn : IntKind} {x y : Operand} {K : Value → World → Prop} {lv : Int} (hz : sliZ P sT = some z) (htn : intKind? P tn = some kn) (hx : evF f x = .slice none 0 0) (hy : evF f y = .int .i32 lv) (h0 : 0 < lv) (h1 : lv < 2147483648)
    (h : ∀ cap more e, lv.toNat ≤ cap → K (.slice (some ⟨w.heap.size, 0, none⟩) lv.toNat cap) (w.drew.alloc (.cells (Builtin.zeroCells z lv.toNat ++ more) e))) :
    stepF P f (.call { callee := .builtin .append, args := #[x, y], argTypes := #[sT, tn] }) ty w K := by
  obtain ⟨e, i, v, hu, hi, hb, hs, hv, rfl, hzs⟩ := sliZ_spec hz
  have hn : ((lv.toNat : Nat) : Int) = lv := by omega
  have h48 : lv.toNat * i.bytes ≤ 281474976710656 := by
    have : lv.toNat * i.bytes ≤ 2147483648 * 131072 := Nat.mul_le_mul (by omega) hb
    omega
  have hr := Lib.run_append_nil_zeros (P := P) w sT tn ty e i v .i32 kn hu (intKind_und htn) hi hv lv.toNat (by omega) hs (by omega) h48
  rw [hn] at hr
  rw [stepF_ok (v := .slice (some ⟨w.heap.size, 0, none⟩) lv.toNat (grownCap w lv.toNat 0 e)) (w' := w.drew.alloc (.cells (Builtin.zeroCells v.cells lv.toNat ++ Builtin.zeroCells v.cells (grownCap w lv.toNat 0 e - lv.toNat)) e))]
  · exact h _ _ _ (grownCap_ge w lv.toNat 0 e)
  · simp only [runF, execOp, resolve, invoke, builtin, Sem.run_bind, Sem.run_pure, Result.andThen_ok, List.map_toArray, List.map_cons, List.map_nil, hx, hy, hr]
section
variable {P : Program} {C : CfgR} {R : Rdr}
/-- What a list's head leaves: the row of a list that is not empty. -/
structure Row (z : Array Value) (w w' : World) (N : Nat) (av : Value) (ab : Nat) (cur : Array Value) (et : TypeId) : Prop where
  av : ∃ cap, av = .slice (some ⟨ab, 0, none⟩) N cap ∧ N ≤ cap
  new : w.heap.size ≤ ab
  blk : w'.heap[ab]? = some (.cells cur et (0, 0))
  fit : N * z.size ≤ cur.size
  zero : ∀ i, i < N → segL cur (i * z.size) z.size = z.toList
/-- what a list is that has nothing in it -/
def NulPost (nul : Option Nat) (lv : Int) (w w' : World) (av : Value) : Prop := if nul.isSome = true ∧ lv = 0 then ∃ ab, av = .slice (some ⟨ab, 0, none⟩) 0 0 ∧ w.heap.size ≤ ab ∧ ab < w'.heap.size else av = .slice none 0 0
def HeadPost (nul : Option Nat) (z : Array Value) (lv : Int) (w w' : World) (av : Value) : Prop := if 0 < lv then ∃ ab cur et, Row z w w' lv.toNat av ab cur et else NulPost nul lv w w' av
theorem lenRd_lt (fl : Bool) (rs : RS) : (lenRd fl rs).1 < 2147483648 ∧ -2147483648 ≤ (lenRd fl rs).1 := by
  have cap : ∀ n rs, n < 2147483648 ∧ -2147483648 ≤ n → (capLen n rs).1 < 2147483648 ∧ -2147483648 ≤ (capLen n rs).1 := by
    intro n rs h; unfold capLen; split
    · simp
    · exact h
  cases fl
  · exact cap _ _ (by simp [i32, IntKind.wrap, IntKind.signed, IntKind.bits]; omega)
  · exact cap _ _ (by simp [i32, IntKind.wrap, IntKind.signed, IntKind.bits]; omega)
theorem cellsAt_seg {w : World} {b a n : Nat} {cc : Array Value} {e : TypeId} {fz : Nat × Nat} (h : w.heap[b]? = some (.cells cc e fz)) : CellsAt w b a (segL cc a n) := by
  intro j u hj
  have hj' : j < n := by
    rcases Nat.lt_or_ge j n with h1 | h1
    · exact h1
    · rw [segL_none h1] at hj; cases hj
  rw [cell_of_blk h]
  rwa [segL_get hj'] at hj
variable {Q : Post} {f : Nat → Value} {w : World}
/-- l = b.ArrayLen() -/
theorem r_len {l t b a n : Nat} {fl : Bool} {cc : Array Value} {e : TypeId} {rs : RS} (hN : LenRC P C) (hs : StR C R b a n w cc e rs) (hff : C.fx = true → f 9 = .bool fl) (hfn : C.fx = false → fl = false) (hrt : C.rs < t) (h7 : f C.rs = .pointer (some ⟨R.pb, 0, none⟩)) (hl : l < t) (hl9 : 9 < l)
    (h : ∀ f' w', f' l = .int .i32 (lenRd fl rs).1 → Ext (· = R.pb) w w' → RdAt C.E.tRd w' R.pb R.D (lenRd fl rs).2 → (∀ y, y < t → y ≠ l → f' y = f y) → Q .normal f' w') : (lenIR C l t).wp P Q f w := by
  have main : ∀ (f1 : Nat → Value) (t1 : Nat) (fl' : Bool), (fl' = true → C.fx = true) → fl' = fl → t ≤ t1 → (∀ y, y < t → f1 y = f y) →
      (Ir.reg [⟨none, some t1, .call { callee := .value (.func (if fl' then C.E.f_pkbin_Reader_CompactArrayLen else C.E.f_pkbin_Reader_ArrayLen)), args := #[.tmp C.rs], argTypes := #[C.E.tRd] }, C.E.tI32⟩, ⟨none, some l, .assign (.tmp t1), C.E.tI32⟩]).wp P Q f1 w := by
    rintro f1 t1 fl' hx rfl ht1 hk
    refine wp_reg ?_
    have z7 := (hk C.rs (by omega)).trans h7
    simp [z7]
    refine (hN fl' hx w R.pb R.D rs hs.rw_.ne.1 hs.rd).mono ?_
    rintro v w1 ⟨rfl, he, hr⟩
    refine h _ _ (by simp) he hr ?_
    intro y hy hyl
    have x4 : (y = t1) = False := by simp; omega
    simp [x4, hyl]
    exact hk y hy
  unfold lenIR
  by_cases hx : C.fx = true
  · simp only [if_pos hx]
    refine r_cond (hff hx) (by omega) ?_ ?_
    · rintro rfl f1 hk
      exact main f1 (t + 1) true (fun _ => hx) rfl (by omega) hk
    · rintro rfl f1 hk
      exact main f1 (t + 2) false (by simp) rfl (by omega) hk
  · have hx' : C.fx = false := by simpa using hx
    simp only [if_neg hx]
    have := hfn hx'
    subst this
    exact main f t false (by simp) rfl (Nat.le_refl _) (fun _ _ => rfl)
/-- return b.Complete(), where the reader is bad -/
theorem r_complete {t b a n : Nat} {cc : Array Value} {e : TypeId} {rs : RS} (hE : EndC0 P C) (hs : StR C R b a n w cc e rs) (h7 : f C.rs = .pointer (some ⟨R.pb, 0, none⟩))
    (h : ∀ f', f' 6 = (if rs.bad then R.ev else .nilIface) → Q .ret f' w) : (seqL (completeI C t)).wp P Q f w := by
  refine seqL_cons ?_
  refine wp_reg ?_
  simp [h7]
  refine (hE.complete w R.pb R.D rs R.ev hs.rd (fun _ => hs.rw_.err)).mono ?_
  rintro v w1 ⟨rfl, rfl⟩
  exact h _ (by simp)
/-- if !b.Ok() {return b.Complete()} -/
theorem r_ok {t b a n : Nat} {cc : Array Value} {e : TypeId} {rs : RS} (hE : EndC P C) (hs : StR C R b a n w cc e rs) (h7 : f C.rs = .pointer (some ⟨R.pb, 0, none⟩)) (ht : C.rs < t)
    (h0 : rs.bad = true → ∀ f', f' 6 = R.ev → Q .ret f' w) (h1 : rs.bad = false → ∀ f', (∀ y, y < t → f' y = f y) → Q .normal f' w) : (okI C t).wp P Q f w := by
  refine wp_seqI (wp_reg ?_)
  simp [h7]
  refine (hE.ok w R.pb R.D rs hs.rd).mono ?_
  rintro v w1 ⟨rfl, rfl⟩
  simp
  cases hb : rs.bad
  · refine .inr ⟨by simp, ?_⟩
    refine h1 hb _ ?_
    intro y hy
    have x3 : ∀ n, (y = t + n) = False := by intro n; simp; omega
    have x4 : (y = t) = False := by simp; omega
    simp [x3, x4]
  · refine .inl ⟨by simp, ?_⟩
    have z7 : ∀ n, (C.rs = t + n) = False := by intro n; simp; omega
    have z7' : (C.rs = t) = False := by simp; omega
    refine r_complete hE.toEndC0 hs (by simp [z7, z7', h7]) ?_
    intro f' h6
    exact h0 hb f' (by rw [h6, hb]; rfl)
end
end Go.Kg

set_option linter.unusedSimpArgs false
set_option linter.unusedVariables false
set_option linter.unusedSectionVars false
namespace Go.Kg
open Go
section
variable {P : Program} {C : CfgR} {R : Rdr} {Q : Post} {f : Nat → Value} {w : World}
/-- if version < 0 || l == 0 {a = []T{}} -/
def nulL (C : CfgR) (nul : Option Nat) (sT l t : Nat) : List Ir := match nul with
  | none => []
  | some m => [nulI C m sT l t]
theorem r_nul {nul : Option Nat} {sT l t : Nat} {ver lv : Int} {z : Array Value} (hnz : nulZ C.fx nul = true) (hz : sliZ P sT = some z) (hv0 : C.fx = true → 0 ≤ ver) (h8 : f 8 = .int .i16 ver) (hl8 : 8 < l) (hl : l + 3 ≤ t) (ha : f (l + 1) = .slice none 0 0) (hlv : f (l + 2) = .int .i32 lv)
    (h : ∀ f' w' av, f' (l + 1) = av → (∀ y, y < t → y ≠ l + 1 → f' y = f y) → Ext none1 w w' → NulPost nul lv w w' av → Q .normal f' w') : (seqL (nulL C nul sT l t)).wp P Q f w := by
  cases nul with
  | none => exact h f w _ ha (fun _ _ _ => rfl) (Ext.refl _ _) (by unfold NulPost; rw [if_neg (by simp)])
  | some m =>
    simp only [nulZ, Bool.and_eq_true, beq_iff_eq] at hnz
    obtain ⟨hfx, rfl⟩ := hnz
    have hv0' := hv0 hfx
    obtain ⟨e, i, v, hu, hi, hb, hs, hv, rfl, hzs⟩ := sliZ_spec hz
    have hS : SliI P sT e i.size i.bytes v := ⟨hu, ⟨i, hi, hv, rfl, rfl⟩, hzs⟩
    show (nulI C 0 sT l t).wp P Q f w
    have x8 : ∀ n, (8 = t + n) = False := by intro n; simp; omega
    have x8' : (8 = t) = False := by simp; omega
    have x2 : ∀ n, (l + 2 = t + n) = False := by intro n; simp; omega
    have x2' : (l + 2 = t) = False := by simp; omega
    have x1 : ∀ n, (l + 1 = t + n) = False := by intro n; simp; omega
    have x1' : (l + 1 = t) = False := by simp; omega
    have x0 : ∀ n, (l = t + n) = False := by intro n; simp; omega
    have x0' : (l = t) = False := by simp; omega
    have nv : ¬ ver < 0 := by omega
    refine wp_seqI (wp_reg ?_)
    simp [h8, x8, x8', x2, x2', x1, x1', x0, x0', hlv, nv]
    have kk : ∀ v1 v2 v3 v4 v5 v6, ∀ y, y < t → y ≠ l + 1 → upd (upd (upd (upd (upd (upd f t v1) (t + 1) v2) (t + 2) v3) (t + 3) v4) (t + 4) v5) (t + 5) v6 y = f y := by
      intro v1 v2 v3 v4 v5 v6 y hy hy2
      have y1 : ∀ n, (y = t + n) = False := by intro n; simp; omega
      have y2 : (y = t) = False := by simp; omega
      simp [y1, y2]
    by_cases h0 : lv = 0
    · refine .inl ⟨by simp [h0], ?_⟩
      refine wp_reg ?_
      simp [st_bsl0 hS]
      refine h _ _ (.slice (some ⟨w.heap.size, 0, none⟩) 0 0) (by simp) ?_ ((Ext.refl none1 w).alloc _) ?_
      · intro y hy hy2
        have y1 : ∀ n, (y = t + n) = False := by intro n; simp; omega
        have y2 : (y = t) = False := by simp; omega
        simp [y1, y2, hy2]
      · unfold NulPost
        rw [if_pos ⟨rfl, h0⟩]
        exact ⟨_, rfl, Nat.le_refl _, lt_of_heap alloc_new⟩
    · refine .inr ⟨by simp [h0], ?_⟩
      refine h _ w (.slice none 0 0) ?_ (kk _ _ _ _ _ _) (Ext.refl _ _) ?_
      · simp [x1, x1', x0, x0', ha]
      · unfold NulPost
        rw [if_neg (by simp [h0])]
/-- the head of a list's field, ahead of the question for null, and behind it -/
def headA (C : CfgR) (T PT pv k sT l t : Nat) : List Ir :=
  [loadI C.toCfg T PT pv k sT l t .i8, .reg [⟨none, some (t + 4), .move (.tmp l), sT⟩, ⟨none, some (l + 1), .assign (.tmp (t + 4)), sT⟩], .reg [⟨none, some (l + 2), .assign (.const (.int .i32 0)), C.E.tI32⟩], lenIR C (l + 2) (t + 5)]
def headB (C : CfgR) (sT l t2 : Nat) : List Ir :=
  [okI C t2, .reg [⟨none, some (t2 + 3), .move (.tmp (l + 1)), sT⟩, ⟨none, some (t2 + 4), .slice sT (.tmp (t2 + 3)) none (some (.const (.int .i64 0))) none, sT⟩, ⟨none, some (l + 1), .assign (.tmp (t2 + 4)), sT⟩],
   .seq (.reg [⟨none, some (t2 + 5), .move (.tmp (l + 2)), C.E.tI32⟩, ⟨none, some (t2 + 6), .binOp .gtr C.E.tI32 (.tmp (t2 + 5)) (.const (.int .i32 0)) C.E.tI32, C.E.tB⟩])
    (.cond (t2 + 6) (.reg [⟨none, some (t2 + 7), .move (.tmp (l + 1)), sT⟩, ⟨none, some (t2 + 8), .move (.tmp (l + 2)), C.E.tI32⟩,
      ⟨none, some (t2 + 9), .call { callee := .builtin .append, args := #[.tmp (t2 + 7), .tmp (t2 + 8)], argTypes := #[sT, C.E.tI32] }, sT⟩, ⟨none, some (l + 1), .assign (.tmp (t2 + 9)), sT⟩]) .skip)]
/-- A list's head: the field is nil. -/
theorem r_head (ht : TyR P C) {nul : Option Nat} (hnz : nulZ C.fx nul = true) {T PT pv k o sT l t b a n : Nat} {ver : Int} {fl : Bool} {cc : Array Value} {e : TypeId} {rs : RS} {z : Array Value} {sz : Nat} (hF : fldOff P T k = some o) (hk : isScl (kindOf P sT) = true) (hsz : sliSz P sT = some sz) (hz : sliZ P sT = some z)
    (hN : LenRC P C) (hE : EndC P C) (hs : StR C R b a n w cc e rs) (hf : FrR C R f pv b a ver fl l) (hl : l + 3 ≤ t) (hon : o < n) (hnil : (segL cc a n)[o]? = some (.slice none 0 0))
    (h0 : (lenRd fl rs).2.bad = true → ∀ f' w', f' 6 = R.ev → Ext (· = R.pb) w w' → Q .ret f' w')
    (h1 : (lenRd fl rs).2.bad = false → ∀ f' w' av, f' (l + 1) = av → f' (l + 2) = .int .i32 (lenRd fl rs).1 → HeadPost nul z (lenRd fl rs).1 w w' av → Ext (· = R.pb) w w' → RdAt C.E.tRd w' R.pb R.D (lenRd fl rs).2 → (∀ y, y < t → (y < l ∨ l + 3 ≤ y) → f' y = f y) → Q .normal f' w') :
    (seqL (headR C T PT pv k sT l t nul)).wp P Q f w := by
  have hn10 := hf.nN
  have hpt := hf.ptrN
  have hrs := hf.rsN
  have hnl : headR C T PT pv k sT l t nul = headA C T PT pv k sT l t ++ (nulL C nul sT l (t + 5 + lenIN C) ++ headB C sT l (t + 5 + lenIN C + nulN nul)) := by cases nul <;> rfl
  rw [hnl]
  refine seqL_append ?_
  unfold headA
  refine seqL_cons ?_
  show (loadI (Sch.genR.toR C) T PT pv k sT l t .i8).wp P _ f w
  refine w_load ht.c (fun h => by cases h) hf.ptr hF (kOk_scl hk) (cellsAt_seg hs.blk) (seg_one hnil rfl) (by simp [Value.oneCell']) (by omega) (by omega) ?_
  intro f2 w2 hv2 he2 hk2
  have hv2' : f2 l = .slice none 0 0 := loc_slice hv2
  have hs2 : StR C R b a n w2 cc e rs := hs.ext1 (he2.mono (fun _ _ h => h.elim)) (hs.rd.ext he2 (fun h => h) (fun h => h))
  -- a := v; var l int32
  show (seqL _).wp P _ f2 w2
  refine seqL_cons ?_
  refine wp_reg ?_
  have zl : (l = t + 4) = False := by simp; omega
  simp [hv2', zl]
  show (seqL _).wp P _ _ w2
  refine seqL_cons ?_
  refine wp_reg ?_
  simp
  generalize hf3 : upd (upd (upd f2 (t + 4) (.slice none 0 0)) (l + 1) (.slice none 0 0)) (l + 2) (.int .i32 0) = f3
  have k3 : ∀ y, y < t → (y < l ∨ l + 3 ≤ y) → f3 y = f y := by
    intro y hy hy2
    subst hf3
    have x1 : (y = l + 2) = False := by simp; omega
    have x2 : (y = l + 1) = False := by simp; omega
    have x3 : (y = t + 4) = False := by simp; omega
    simp [x1, x2, x3]
    exact hk2 y hy (by omega)
  have a3 : f3 (l + 1) = .slice none 0 0 := by subst hf3; simp
  show (lenIR C (l + 2) (t + 5)).wp P _ f3 w2
  refine r_len (fl := fl) hN hs2 (fun hx => (k3 9 (by omega) (by omega)).trans (hf.flg hx)) hf.flN (by omega) ((k3 C.rs (by omega) (by omega)).trans hf.rd) (by omega) (by omega) ?_
  intro f4 w4 hl4 he4 hr4 hk4
  have hs4 := hs2.ext1 he4 hr4
  have he24 : Ext (· = R.pb) w w4 := (he2.mono (fun _ _ h => h.elim)).trans he4
  have k4 : ∀ y, y < t → (y < l ∨ l + 3 ≤ y) → f4 y = f y := fun y hy hy2 => (hk4 y (by omega) (by omega)).trans (k3 y hy hy2)
  have a4 : f4 (l + 1) = .slice none 0 0 := (hk4 _ (by omega) (by omega)).trans a3
  have hlen := lenIN C
  generalize hT0 : t + 5 + lenIN C = t1 at *
  have ht1 : t + 5 ≤ t1 := by omega
  show (seqL _).wp P _ f4 w4
  refine seqL_append ?_
  refine r_nul hnz hz hf.v0 ((k4 8 (by omega) (by omega)).trans hf.ver) (by omega) (by omega) a4 hl4 ?_
  intro f6 w6 av0 a6 hk6 he6 hp6
  have hs6 : StR C R b a n w6 cc e (lenRd fl rs).2 := hs4.ext1 (he6.mono (fun _ _ h => h.elim)) (hr4.ext he6 (fun h => h) (fun h => h))
  have hr6 := hs6.rd
  have he26 : Ext (· = R.pb) w w6 := he24.trans (he6.mono (fun _ _ h => h.elim))
  have k6 : ∀ y, y < t → (y < l ∨ l + 3 ≤ y) → f6 y = f y := fun y hy hy2 => (hk6 y (by omega) (by omega)).trans (k4 y hy hy2)
  have l6 : f6 (l + 2) = .int .i32 (lenRd fl rs).1 := (hk6 _ (by omega) (by omega)).trans hl4
  generalize hT : t1 + nulN nul = t2 at *
  have ht2 : t1 ≤ t2 := by omega
  unfold headB
  show (seqL _).wp P _ f6 w6
  refine seqL_cons ?_
  refine r_ok hE hs6 ((k6 C.rs (by omega) (by omega)).trans hf.rd) (by omega) ?_ ?_
  · intro hb f5 h6
    exact h0 hb f5 w6 h6 he26
  · intro hb f5 hk5
    have k5 : ∀ y, y < t → (y < l ∨ l + 3 ≤ y) → f5 y = f y := fun y hy hy2 => (hk5 y (by omega)).trans (k6 y hy hy2)
    have a5 : f5 (l + 1) = av0 := (hk5 _ (by omega)).trans a6
    have l5 : f5 (l + 2) = .int .i32 (lenRd fl rs).1 := (hk5 _ (by omega)).trans l6
    show (seqL _).wp P _ f5 w6
    refine seqL_cons ?_
    refine wp_reg ?_
    have hsl : slice? P sT av0 none (some (.int .i64 0)) none = some av0 := by
      unfold NulPost at hp6
      split at hp6
      · obtain ⟨g, rfl, _⟩ := hp6; simp [slice?, hsz, Addr.add_mk]
      · subst hp6; simp [slice?, hsz]
    simp [a5, hsl]
    show (Ir.seq _ _).wp P _ _ w6
    refine wp_seqI (wp_reg ?_)
    have z2 : ∀ n, (l + 2 = t2 + n) = False := by intro n; simp; omega
    have z1 : ∀ n, (l + 1 = t2 + n) = False := by intro n; simp; omega
    have z0 : ∀ n, (l = t2 + n) = False := by intro n; simp; omega
    simp [z0, z1, z2, l5]
    have kk : ∀ v1 v2 v3 v4 v5, ∀ y, y < t → (y < l ∨ l + 3 ≤ y) → upd (upd (upd (upd (upd f5 (t2 + 3) v1) (t2 + 4) v2) (l + 1) v3) (t2 + 5) v4) (t2 + 6) v5 y = f y := by
      intro v1 v2 v3 v4 v5 y hy hy2
      have x1 : (y = l + 1) = False := by simp; omega
      have x3 : ∀ n, (y = t2 + n) = False := by intro n; simp; omega
      simp [x1, x3]
      exact k5 y hy hy2
    by_cases hp : 0 < (lenRd fl rs).1
    · have hav0 : av0 = .slice none 0 0 := by
        unfold NulPost at hp6
        rwa [if_neg (by omega)] at hp6
      subst hav0
      refine .inl ⟨by simp [hp], ?_⟩
      show (Ir.reg _).wp P _ _ w6
      refine wp_reg ?_
      simp [z0, z1, z2, l5]
      refine st_appz hz ht.i32 (lv := (lenRd fl rs).1) (by simp) (by simp) hp (lenRd_lt fl rs).1 ?_
      intro cap more et hcap
      have hE5 : Ext none1 w6 (w6.drew.alloc (.cells (Builtin.zeroCells z (lenRd fl rs).1.toNat ++ more) et)) := ((Ext.refl none1 w6).drew).alloc _
      refine h1 hb _ _ (.slice (some ⟨w6.heap.size, 0, none⟩) (lenRd fl rs).1.toNat cap) (by simp) (by simp [z0, z2, l5]) ?_ (he26.trans (hE5.mono (fun _ _ h => h.elim))) (hr6.ext hE5 (fun h => h) (fun h => h)) ?_
      · unfold HeadPost
        rw [if_pos hp]
        refine ⟨w6.heap.size, _, et, ⟨⟨cap, rfl, hcap⟩, he26.size, alloc_new, ?_, ?_⟩⟩
        · simp [size_zeroCells]
        · intro i hi
          apply List.ext_getElem?
          intro j
          by_cases hj : j < z.size
          · rw [segL_get hj, zeroCells_get hi hj]; simp
          · rw [segL_none (by omega)]; simp; omega
      · intro y hy hy2
        have x1 : (y = l + 1) = False := by simp; omega
        have x3 : ∀ n, (y = t2 + n) = False := by intro n; simp; omega
        simp [x1, x3]
        exact k5 y hy hy2
    · refine .inr ⟨by simp; omega, ?_⟩
      refine h1 hb _ w6 av0 (by simp [z0, z1]) (by simp [z0, z2, l5]) ?_ he26 hr6 (kk _ _ _ _ _)
      unfold HeadPost
      rw [if_neg hp]
      unfold NulPost at hp6 ⊢
      split at hp6
      · rename_i hc
        rw [if_pos hc]
        obtain ⟨g, h7, h8, h9⟩ := hp6
        exact ⟨g, h7, Nat.le_trans he24.size h8, h9⟩
      · rename_i hc
        rw [if_neg hc]; exact hp6
end
end Go.Kg

set_option linter.unusedSimpArgs false
set_option linter.unusedVariables false
set_option linter.unusedSectionVars false
namespace Go.Kg
open Go
section
variable {P : Program} {C : CfgR} {R : Rdr} {Q : Post} {f : Nat → Value} {w : World}
/-- for i := int32(0); i < l; i++ -/
theorem r_for {l t k N : Nat} {body : Ir} {lv : Int} (h32 : lv < 2147483648 ∧ -2147483648 ≤ lv) (hN : N = lv.toNat) (hl : l + 4 ≤ t) (h2 : f (l + 2) = .int .i32 lv) (J : Nat → (Nat → Value) → World → Prop)
    (hJ : ∀ i f f' w, (∀ x, x < t → x ≠ l + 3 → f' x = f x) → J i f w → J i f' w) (h0 : J 0 f w)
    (hb : ∀ i, i < N → ∀ f w, J i f w → f (l + 3) = .int .i32 i → f (l + 2) = .int .i32 lv → body.wp P (fun e f' w' => (e = .normal ∧ J (i + 1) f' w' ∧ f' (l + 3) = .int .i32 i ∧ f' (l + 2) = .int .i32 lv) ∨ (e = .ret ∧ Q .ret f' w')) f w)
    (h : ∀ f' w', J N f' w' → Q .normal f' w') : (forI C l t k body).wp P Q f w := by
  have z3 : ∀ n, (l + 3 = t + n) = False := by intro n; simp; omega
  have z2 : ∀ n, (l + 2 = t + n) = False := by intro n; simp; omega
  have z1 : ∀ n, (l + 1 = t + n) = False := by intro n; simp; omega
  have z0 : ∀ n, (l = t + n) = False := by intro n; simp; omega
  have z3' : (l + 3 = t) = False := by simp; omega
  have z2' : (l + 2 = t) = False := by simp; omega
  refine wp_seqI (wp_reg ?_)
  simp
  show (Ir.loop _).wp P _ _ _
  refine ⟨fun f w => ∃ i : Nat, i ≤ N ∧ f (l + 3) = .int .i32 i ∧ f (l + 2) = .int .i32 lv ∧ J i f w, fun f _ => match f (l + 3) with | .int _ i => ((N : Int) - i).toNat | _ => 0, ?_, ?_⟩
  · refine ⟨0, by omega, by simp, by simp [h2], hJ _ _ _ _ ?_ h0⟩
    intro x hx hx3
    simp [hx3]
  · rintro f w ⟨i, hi, h3, h2, hj⟩
    refine wp_seqI ?_
    refine wp_seqI (wp_reg ?_)
    simp [h2, h3, z2, z2', z3, z3']
    generalize hfa : upd (upd (upd f t (.int .i32 i)) (t + 1) (.int .i32 lv)) (t + 2) (.bool (decide ((i : Int) < lv))) = fa
    have ka : ∀ x, x < t → fa x = f x := by
      intro x hx
      subst hfa
      have x3 : ∀ n, (x = t + n) = False := by intro n; simp; omega
      have x4 : (x = t) = False := by simp; omega
      simp [x3, x4]
    have hja : J i fa w := hJ _ _ _ _ (fun x hx _ => ka x hx) hj
    by_cases hlt : (i : Int) < lv
    · refine .inl ⟨by subst hfa; simp [hlt], ?_⟩
      show (Ir.seq _ _).wp P _ _ _
      refine wp_seqI ?_
      show body.wp P _ _ _
      refine Ir.wp_mono body ?_ (hb i (by omega) fa w hja ((ka _ (by omega)).trans h3) ((ka _ (by omega)).trans h2))
      rintro e f' w' (⟨rfl, hj', h3', h2'⟩ | ⟨rfl, hq⟩)
      · show (Ir.reg _).wp P _ _ _
        refine wp_reg ?_
        have wr : IntKind.i32.wrap ((i : Int) + 1) = ((i + 1 : Nat) : Int) := by simp [IntKind.wrap, IntKind.signed, IntKind.bits]; omega
        simp [h3', z2, z2', z3, z3', wr]
        refine ⟨⟨i + 1, by omega, by simp, by simp [z2, z1, z0, h2'], hJ _ _ _ _ ?_ hj'⟩, ?_⟩
        · intro x hx hx3
          have x3 : ∀ n, (x = t + n) = False := by intro n; simp; omega
          simp [x3, hx3]
        · omega
      · exact hq
    · have : i = N := by omega
      subst this
      refine .inr ⟨by subst hfa; simp [hlt], ?_⟩
      show inBlockF k Q (.exit k) _ _
      rw [inBlockF_exit, if_pos rfl]
      exact h _ _ hja
end
end Go.Kg

set_option linter.unusedSimpArgs false
set_option linter.unusedVariables false
set_option linter.unusedSectionVars false
namespace Go.Kg
open Go
theorem segL_eq {c c' : Array Value} {a n : Nat} (h : ∀ j, a ≤ j → j < a + n → c'[j]? = c[j]?) : segL c' a n = segL c a n := by
  apply List.ext_getElem?
  intro j
  by_cases hj : j < n
  · rw [segL_get hj, segL_get hj]; exact h _ (by omega) (by omega)
  · rw [segL_none (by omega), segL_none (by omega)]
theorem segL_len {c : Array Value} {a n : Nat} (h : a + n ≤ c.size) : (segL c a n).length = n := by simp [segL]; omega
theorem Ext.trans' {C D E : Nat → Prop} {a b c : World} (h : Ext C a b) (k : Ext D b c) (hD : ∀ x, x < a.heap.size → D x → E x) (hC : ∀ x, x < a.heap.size → C x → E x := by intro x _ h; first | exact h | exact .inl h) : Ext E a c :=
  ⟨k.os.trans h.os, k.tape.trans h.tape, k.output.trans h.output, Nat.le_trans h.size k.size,
   fun i hi hc => (k.block i (Nat.lt_of_lt_of_le hi h.size) (fun hd => hc (hD i hi hd))).trans (h.block i hi (fun hd => hc (hC i hi hd)))⟩
/-- inside a list's row -/
def rdr' (R : Rdr) (ab : Nat) : Rdr := { R with base := ab + 1 }
section
variable {P : Program} {C : CfgR} {R : Rdr} {Q : Post} {f : Nat → Value} {w : World}
/-- v = a; s.F = v -/
theorem r_tail {T PT pv k o sT l t b a : Nat} {av : Value} {cc : Array Value} {e : TypeId} (hpv : f pv = .pointer (some ⟨b, a, none⟩)) (hF : fldOff P T k = some o) (hk : isScl (kindOf P sT) = true) (hav : f (l + 1) = av) (h1 : av.oneCell' = true) (hpt : pv < l) (hl : l + 1 < t)
    (hb : w.heap[b]? = some (.cells cc e (0, 0))) (ho : a + o + 1 ≤ cc.size)
    (h : ∀ f' cc', Put cc (a + o) av cc' → (∀ y, y < t → y ≠ l → f' y = f y) → Q .normal f' (w.setBlk b (.cells cc' e (0, 0)))) : (seqL (tailR C T PT pv k sT l t)).wp P Q f w := by
  refine seqL_cons ?_
  refine wp_reg ?_
  simp [hav]
  show (Ir.reg _).wp P _ _ w
  refine r_storeT (u := av) (o := o) (b := b) (a := a) (cc := cc) (e := e) ?_ hF hk ?_ h1 (by omega) (by omega) hb ho ?_
  · have x1 : (pv = l) = False := by simp; omega
    have x2 : (pv = t) = False := by simp; omega
    simp [x1, x2, hpv]
  · simp
  · intro f' cc' hput hk'
    refine h f' cc' hput ?_
    intro y hy hyl
    have x2 : (y = t) = False := by simp; omega
    rw [hk' y (by omega)]
    simp [hyl, x2]
structure Loop (C : CfgR) (R : Rdr) {α : Type} (fE : RS → Option (α × RS)) (Relt : World → (Nat → Prop) → List Value → α → Prop) (z : Array Value) (rs1 : RS) (w1 : World) (f1 : Nat → Value) (ab N sz l m t1 et : Nat) (i : Nat) (f' : Nat → Value) (w' : World) : Prop where
  ex : ∃ ys rsi cur, (rdN fE N rs1 = match rdN fE (N - i) rsi with | none => none | some (x, r) => some (ys ++ x, r)) ∧ ys.length = i ∧ StR C (rdr' R ab) ab 0 (N * sz) w' cur et rsi ∧ Ext (CB R ab) w1 w' ∧
    (∀ (j : Nat) y, ys[j]? = some y → Relt w' (RK (rdr' R ab)) (segL cur (j * sz) sz) y) ∧ (∀ j, i ≤ j → j < N → segL cur (j * sz) sz = z.toList)
  keep : KeepR f1 f' (l + 3) m t1
theorem rowBound {i N sz : Nat} (h : i < N) : i * sz + sz ≤ N * sz := by
  have := Nat.mul_le_mul_right sz (show i + 1 ≤ N from h)
  rwa [Nat.add_mul, Nat.one_mul] at this
theorem rowStep {i j sz : Nat} (h : j < i) : j * sz + sz ≤ i * sz := rowBound h
/-- The loop over a list's row. -/
theorem r_loop {α : Type} (fE : RS → Option (α × RS)) (Relt : World → (Nat → Prop) → List Value → α → Prop) (hRext : ∀ w w' K X es y, Relt w K es y → Ext X w w' → (∀ k, k < w.heap.size → K k → ¬ X k) → Relt w' K es y)
    {pv l m t kk b a N sz ab : Nat} {lv : Int} {ver : Int} {fl : Bool} {z : Array Value} {body : Ir} {av : Value} {cur0 : Array Value} {et : TypeId} {rs1 : RS} {cap : Nat} (h32 : lv < 2147483648 ∧ -2147483648 ≤ lv) (hN : N = lv.toNat) (hl : l + 4 ≤ m) (hm : m ≤ t) (hlv : f (l + 2) = .int .i32 lv) (hav : f (l + 1) = av)
    (hav' : av = .slice (some ⟨ab, 0, none⟩) N cap) (hcap : N ≤ cap) (hf : FrR C R f pv b a ver fl l) (hbase : R.base ≤ ab) (hst : StR C (rdr' R ab) ab 0 (N * sz) w cur0 et rs1) (hz : ∀ i, i < N → segL cur0 (i * sz) sz = z.toList)
    (hbody : ∀ (i : Nat) (f' : Nat → Value) (w' : World) (cur : Array Value) (rsi : RS), i < N → FrR C R f' pv b a ver fl l → f' (l + 1) = av → f' (l + 3) = .int .i32 i → StR C (rdr' R ab) ab 0 (N * sz) w' cur et rsi → segL cur (i * sz) sz = z.toList →
      ∀ Q' : Post, (fE rsi = none → ∀ f'' w'', f'' 6 = R.ev → Ext (CB R ab) w' w'' → Q' .ret f'' w'') →
        (∀ y rs'', fE rsi = some (y, rs'') → ∀ f'' w'' cur', StR C (rdr' R ab) ab 0 (N * sz) w'' cur' et rs'' → Ext (CB R ab) w' w'' → (∀ j, (j < i * sz ∨ i * sz + sz ≤ j) → cur'[j]? = cur[j]?) → Relt w'' (RK (rdr' R ab)) (segL cur' (i * sz) sz) y → KeepR f' f'' (l + 4) m (t + 5) → Q' .normal f'' w'') →
        body.wp P Q' f' w')
    (h0 : rdN fE N rs1 = none → ∀ f' w', f' 6 = R.ev → Ext (CB R ab) w w' → Q .ret f' w')
    (h1 : ∀ ys rs', rdN fE N rs1 = some (ys, rs') → ∀ f' w' cur, ys.length = N → StR C (rdr' R ab) ab 0 (N * sz) w' cur et rs' → Ext (CB R ab) w w' → (∀ (j : Nat) y, ys[j]? = some y → Relt w' (RK (rdr' R ab)) (segL cur (j * sz) sz) y) → KeepR f f' (l + 3) m t → Q .normal f' w') :
    (forI C l t kk body).wp P Q f w := by
  have hn10 := hf.nN
  refine r_for h32 hN (by omega) hlv (fun i f' w' => Loop C R fE Relt z rs1 w f ab N sz l m t et i f' w') ?_ ?_ ?_ ?_
  · rintro i f1 f2 w' hx ⟨hex, hk⟩
    refine ⟨hex, ?_⟩
    intro y hy1 hy
    rw [hx y (by omega) (by omega)]
    exact hk y hy1 hy
  · refine ⟨⟨[], rs1, cur0, ?_, rfl, hst, Ext.refl _ _, by simp, fun j _ hj => hz j hj⟩, KeepR.refl _ _ _ _⟩
    simp only [Nat.sub_zero]
    cases rdN fE N rs1 with
    | none => rfl
    | some a => simp
  · rintro i hi f' w' ⟨⟨ys, rsi, cur, hrel, hlen, hst', hext, helt, hnew⟩, hk⟩ h3 h2
    obtain ⟨k, hkN⟩ : ∃ k, N - i = k + 1 := ⟨N - i - 1, by omega⟩
    have hf' : FrR C R f' pv b a ver fl l := hf.keep (t := l + 3) hk.keeps (by omega)
    refine hbody i f' w' cur rsi hi hf' ((hk (l + 1) (by omega) (.inl (by omega))).trans hav) h3 hst' (hnew i (Nat.le_refl _) hi) _ ?_ ?_
    · intro hnone f'' w'' h6 he
      refine .inr ⟨rfl, h0 ?_ f'' w'' h6 (hext.trans he)⟩
      rw [hrel, hkN]
      simp only [rdN, hnone]
    · intro y rs'' hy f'' w'' cur' hst'' he hsame hrel' hk''
      have hsz : cur'.size = cur'.size := rfl
      refine .inl ⟨rfl, ⟨⟨ys ++ [y], rs'', cur', ?_, by simp [hlen], hst'', hext.trans he, ?_, ?_⟩, ?_⟩, ?_, ?_⟩
      · rw [hrel, hkN, show N - (i + 1) = k by omega]
        simp only [rdN, hy]
        cases rdN fE k rs'' with
        | none => rfl
        | some p => simp
      · intro j y' hj
        rcases Nat.lt_or_ge j i with hji | hji
        · rw [List.getElem?_append_left (by omega)] at hj
          rw [segL_eq (c := cur) (fun x hx1 hx2 => hsame x (.inl (by have := rowStep (sz := sz) hji; omega)))]
          exact hRext _ _ _ _ _ _ (helt j y' hj) he (hst'.rw_.keepK)
        · have hji' : j = i := by
            have := (List.getElem?_eq_some_iff.1 hj).1
            simp at this; omega
          subst hji'
          rw [List.getElem?_append_right (by omega), hlen, Nat.sub_self] at hj
          simp at hj
          subst hj
          exact hrel'
      · intro j hj hjN
        rw [segL_eq (c := cur) (fun x hx1 hx2 => hsame x (.inr (by have := rowStep (sz := sz) (show i < j by omega); omega)))]
        exact hnew j (by omega) hjN
      · intro x hx1 hx
        rw [hk'' x hx1 (by omega)]
        exact hk x hx1 hx
      · rw [hk'' _ (by omega) (.inl (by omega))]; exact h3
      · rw [hk'' _ (by omega) (.inl (by omega))]; exact h2
  · rintro f' w' ⟨⟨ys, rsi, cur, hrel, hlen, hst', hext, helt, hnew⟩, hk⟩
    refine h1 ys rsi ?_ f' w' cur hlen hst' hext helt hk
    rw [hrel, Nat.sub_self]
    simp [rdN]
end
end Go.Kg

set_option linter.unusedSimpArgs false
set_option linter.unusedVariables false
set_option linter.unusedSectionVars false
namespace Go.Kg
open Go
theorem cells_one {v : Value} (h : v.oneCell' = true) : v.cells = #[v] := by cases v <;> simp_all [Value.oneCell', Value.cells]
section
variable {P : Program} {C : CfgR} {R : Rdr} {Q : Post} {f : Nat → Value} {w : World}
/-- A list's field as a whole. -/
theorem r_list (ht : TyR P C) {nul : Option Nat} (hnz : nulZ C.fx nul = true) {α : Type} (fE : RS → Option (α × RS)) (Relt : World → (Nat → Prop) → List Value → α → Prop) (hRext : ∀ w w' K X es y, Relt w K es y → Ext X w w' → (∀ k, k < w.heap.size → K k → ¬ X k) → Relt w' K es y) (hRmono : ∀ w (K K' : Nat → Prop) es y, Relt w K es y → (∀ k, K k → K' k) → Relt w K' es y)
    {T PT pv k o sT l m t t2 kk b a n lo sz : Nat} {ver : Int} {fl : Bool} {cc : Array Value} {e : TypeId} {rs : RS} {z : Array Value} {body : Ir} (hF : fldOff P T k = some o) (hk : isScl (kindOf P sT) = true) (hsz : sliSz P sT = some sz) (hz : sliZ P sT = some z) (hzs : z.size = sz)
    (hN : LenRC P C) (hE : EndC P C) (hs : StR C R b a n w cc e rs) (hf : FrR C R f pv b a ver fl l) (hl : l + 4 ≤ m) (hm : m ≤ t) (ht2 : t + headN C nul + 5 ≤ t2) (hon : o + 1 ≤ n) (hlo : lo ≤ o) (hnil : (segL cc a n)[o]? = some (.slice none 0 0))
    (hbody : ∀ (ab N cap : Nat) (et : TypeId) (i : Nat) (av : Value) (f' : Nat → Value) (w' : World) (cur : Array Value) (rsi : RS), R.base ≤ ab → i < N → av = .slice (some ⟨ab, 0, none⟩) N cap → FrR C R f' pv b a ver fl l → f' (l + 1) = av → f' (l + 3) = .int .i32 i → StR C (rdr' R ab) ab 0 (N * sz) w' cur et rsi → segL cur (i * sz) sz = z.toList →
      ∀ Q' : Post, (fE rsi = none → ∀ f'' w'', f'' 6 = R.ev → Ext (CB R ab) w' w'' → Q' .ret f'' w'') →
        (∀ y rs'', fE rsi = some (y, rs'') → ∀ f'' w'' cur', StR C (rdr' R ab) ab 0 (N * sz) w'' cur' et rs'' → Ext (CB R ab) w' w'' → (∀ j, (j < i * sz ∨ i * sz + sz ≤ j) → cur'[j]? = cur[j]?) → Relt w'' (RK (rdr' R ab)) (segL cur' (i * sz) sz) y → KeepR f' f'' (l + 4) m (t + headN C nul + 5) → Q' .normal f'' w'') →
        body.wp P Q' f' w')
    (h0 : arrRd nul ver fl fE rs = none → ∀ f' w', f' 6 = R.ev → Ext (CB R b) w w' → Q .ret f' w')
    (h1 : ∀ A rs', arrRd nul ver fl fE rs = some (A, rs') → ∀ f' w' cc' av ls, RdTo C R b a n lo w cc e f l m t rs' f' w' cc' → (∀ j, (j < a + lo ∨ a + o + 1 ≤ j) → cc'[j]? = cc[j]?) → (segL cc' a n)[o]? = some av → ArrAt w' (RK R) sz av ls → (ls.isSome = A.isSome ∧ InHeap w' av) → (ls.getD []).length = (A.getD []).length →
      (∀ (i : Nat) es y, (ls.getD [])[i]? = some es → (A.getD [])[i]? = some y → Relt w' (RK R) es y) → Q .normal f' w') :
    (seqL (headR C T PT pv k sT l t nul ++ [forI C l (t + headN C nul) kk body] ++ tailR C T PT pv k sT l t2)).wp P Q f w := by
  have hn10 := hf.nN
  have hpt := hf.ptrN
  have hfit := hs.fit
  have hlen := lenRd_lt fl rs
  have hhead : headN C nul = 5 + lenIN C + nulN nul + 10 := rfl
  rw [List.append_assoc]
  refine seqL_append ?_
  refine r_head ht hnz hF hk hsz hz hN hE hs hf (by omega) (by omega) hnil ?_ ?_
  · intro hb f' w' h6 he
    exact h0 (by simp [arrRd, hb]) f' w' h6 (he.mono (fun _ _ h => .inl h))
  · intro hb f1 w1 av hav hlv hpost he1 hr1 hk1
    have hs1 := hs.ext1 he1 hr1
    have kR1 : KeepR f f1 l m t := fun y hy1 hy => hk1 y (by omega) (by omega)
    have hf1 := hf.keep kR1.keeps (Nat.le_refl _)
    -- the tail, from what the loop left
    have fin : ∀ (A : Option (List α)) (rs' : RS) (f2 : Nat → Value) (w2 : World) (ls : Option (List (List Value))), arrRd nul ver fl fE rs = some (A, rs') → KeepR f f2 l m t → f2 (l + 1) = av → Ext (· = R.pb) w w2 → RdAt C.E.tRd w2 R.pb R.D rs' → av.oneCell' = true →
        ArrAt w2 (RK R) sz av ls → (ls.isSome = A.isSome ∧ InHeap w2 av) → (ls.getD []).length = (A.getD []).length → (∀ (i : Nat) es y, (ls.getD [])[i]? = some es → (A.getD [])[i]? = some y → Relt w2 (RK R) es y) → (seqL (tailR C T PT pv k sT l t2)).wp P Q f2 w2 := by
      intro A rs' f2 w2 ls hA hk2 hav2 he2 hr2 hone harr hsome hlen2 helt
      have hs2 := hs.ext1 he2 hr2
      have hf2 := hf.keep hk2.keeps (Nat.le_refl _)
      have huc : av.cells = #[av] := cells_one hone
      refine r_tail (o := o) (b := b) (a := a) (cc := cc) (e := e) hf2.ptr hF hk hav2 hone hpt.2 (by omega) hs2.blk (by omega) ?_
      intro f3 cc3 hput hk3
      have hE3 : Ext (fun x => x = b) w2 (w2.setBlk b (.cells cc3 e (0, 0))) := (Ext.refl (fun x => x = b) w2).setBlk (b := b) (Or.inr rfl) _
      have hK3 : ∀ k, k < w2.heap.size → RK R k → ¬ k = b := fun k h1 h2 h3 => hs2.rw_.keepK k h1 h2 (.inr h3)
      refine h1 A rs' hA f3 _ cc3 av ls ?_ ?_ ?_ (ArrAt.ext hE3 hK3 harr) ⟨hsome.1, hsome.2.ext hE3⟩ hlen2 ?_
      · refine (RdTo.read (lo := lo) hs he2 hr2 hk2).trans (RdTo.put hs2 hput hlo (by rw [huc]; exact hon) (l := l) (m := m) (t := t) ?_) (Nat.le_refl _) (Nat.le_refl _) (Nat.le_refl _) (Nat.le_refl _)
        intro y hy1 hy
        exact hk3 y (by omega) (by omega)
      · intro j hj
        exact hput.same j (by rw [huc]; simp; omega)
      · rw [segL_get (by omega)]
        have := hput.new 0 av (by simp [huc])
        simpa using this
      · intro i es y hi hy
        exact hRext _ _ _ _ _ _ (helt i es y hi hy) hE3 hK3
    have hpost' := hpost
    unfold HeadPost at hpost'
    show (seqL _).wp P _ f1 w1
    refine seqL_cons ?_
    by_cases hp : 0 < (lenRd fl rs).1
    · rw [if_pos hp] at hpost'
      obtain ⟨ab, cur, et, ⟨⟨cap, hcapE, hcap⟩, hnew, hblk, hfit2, hzero⟩⟩ := hpost'
      have hb1 := hs.rw_.lt
      have hbase : R.base ≤ ab := Nat.le_trans hb1.2.2.2 hnew
      have hg : C.E.g_kbin_ErrNotEnoughData < w.heap.size := World.block_lt_of_cell? w _ hs.rw_.err
      have hst : StR C (rdr' R ab) ab 0 ((lenRd fl rs).1.toNat * sz) w1 cur et (lenRd fl rs).2 := by
        refine ⟨hblk, by rw [← hzs]; omega, hr1, ⟨⟨?_, ?_, ?_, ?_⟩, ⟨hs.rw_.ne.1, ?_, ?_⟩, hs1.rw_.err, ⟨hs1.rw_.errN.1, ?_⟩⟩⟩
        · show R.pb < ab + 1; omega
        · show ab < ab + 1; omega
        · show R.D < ab + 1; omega
        · exact lt_of_heap hblk
        · show ab ≠ R.D; omega
        · show R.pb ≠ ab; omega
        · omega
      refine r_loop (z := z) (cap := cap) fE Relt hRext hlen rfl hl (by omega) hlv hav hcapE hcap hf1 hbase hst (by rw [← hzs]; exact hzero) ?_ ?_ ?_
      · intro i f' w' cur' rsi hi hf' hav' h3 hst' hz' Q' q0 q1
        exact hbody ab _ cap et i av f' w' cur' rsi hbase hi hcapE hf' hav' h3 hst' hz' Q' q0 (fun y rs'' hy f'' w'' cur'' a1 a2 a3 a4 a5 => q1 y rs'' hy f'' w'' cur'' a1 a2 a3 a4 a5)
      · intro hnone f' w' h6 he
        refine h0 ?_ f' w' h6 ?_
        · simp only [arrRd, hb, hp, hnone]; simp
        · exact he1.trans' (E := CB R b) he (fun x hx hc => by
            rcases hc with h | h
            · exact .inl h
            · omega)
      · intro ys rs' hys f' w' cur' hlenY hst' he helt hk'
        have heT : Ext (· = R.pb) w w' := he1.trans' he (fun x hx hc => by
          rcases hc with h | h
          · exact h
          · omega)
        have hav1 : av.oneCell' = true := by rw [hcapE]; rfl
        refine fin (some ys) rs' f' w' (some ((List.range (lenRd fl rs).1.toNat).map fun j => segL cur' (j * sz) sz)) ?_ ?_ ?_ heT hst'.rd hav1 ?_ ⟨rfl, fun a' n' c' e' => by rw [hcapE] at e'; cases e'; exact lt_of_heap hst'.blk⟩ (by simp [hlenY]) ?_
        · simp only [arrRd, hb, hp, hys]; simp
        · intro y hy1 hy
          rw [hk' y hy1 (by omega)]
          exact kR1 y hy1 hy
        · rw [hk' (l + 1) (by omega) (.inl (by omega))]; exact hav
        · refine ⟨ab, 0, cap, by rw [hcapE]; simp, .inr hbase, ⟨by simpa using hcap, by simp; omega⟩, ?_⟩
          intro i cs hi
          simp only [List.getElem?_map, Option.map_eq_some_iff] at hi
          obtain ⟨j, hj, rfl⟩ := hi
          have hjl := (List.getElem?_eq_some_iff.1 hj).1
          have hji : j = i := by
            obtain ⟨_, h2⟩ := List.getElem?_eq_some_iff.1 hj
            simpa using h2.symm
          subst hji
          have hjN : j < (lenRd fl rs).1.toNat := by simpa using hjl
          have hfitJ := rowBound (sz := sz) hjN
          have hfit' := hst'.fit
          exact ⟨segL_len (by omega), by rw [Nat.zero_add]; exact cellsAt_seg hst'.blk⟩
        · intro i es y hi hy
          simp only [Option.getD_some, List.getElem?_map, Option.map_eq_some_iff] at hi hy
          obtain ⟨j, hj, rfl⟩ := hi
          have hji : j = i := by
            obtain ⟨_, h2⟩ := List.getElem?_eq_some_iff.1 hj
            simpa using h2.symm
          subst hji
          exact hRmono _ _ _ _ _ (helt j y hy) (fun k hk => by
            rcases hk with h | h
            · exact .inl h
            · exact .inr (by have : ab + 1 ≤ k := h; omega))
    · rw [if_neg hp] at hpost'
      have hone : av.oneCell' = true := by
        unfold NulPost at hpost'
        split at hpost'
        · obtain ⟨g, rfl, _⟩ := hpost'; rfl
        · subst hpost'; rfl
      refine r_for (N := 0) hlen (by omega) (by omega) hlv (fun _ f' w' => w' = w1 ∧ ∀ x, x < t + headN C nul → x ≠ l + 3 → f' x = f1 x) ?_ ⟨rfl, fun _ _ _ => rfl⟩ (fun i hi => by omega) ?_
      · rintro i fa fb w' hx ⟨rfl, h2⟩
        exact ⟨rfl, fun x hx1 hx2 => (hx x hx1 hx2).trans (h2 x hx1 hx2)⟩
      · rintro f' w' ⟨rfl, h2⟩
        have kk : KeepR f f' l m t := by
          intro y hy1 hy
          rw [h2 y (by omega) (by omega)]
          exact kR1 y hy1 hy
        have he : (emptyOf nul ver (lenRd fl rs).1 : Option (List α)) = if nul.isSome = true ∧ (lenRd fl rs).1 = 0 then some [] else none := by
          have hv0 := hf.v0
          cases nul with
          | none => simp [emptyOf]
          | some m0 =>
            simp only [nulZ, Bool.and_eq_true, beq_iff_eq] at hnz
            obtain ⟨hfx, rfl⟩ := hnz
            have := hv0 hfx
            have : ¬ ver < 0 := by omega
            simp [emptyOf, this]
        unfold NulPost at hpost'
        split at hpost'
        · rename_i hc
          obtain ⟨ab, rfl, hab1, hab2⟩ := hpost'
          rw [if_pos hc] at he
          refine fin (some []) (lenRd fl rs).2 f' w' (some []) ?_ kk ((h2 _ (by omega) (by omega)).trans hav) he1 hr1 rfl ⟨ab, 0, 0, rfl, .inr (Nat.le_trans hs.rw_.lt.2.2.2 hab1), ⟨Nat.le_refl _, by simp⟩, by simp⟩ ⟨rfl, fun a' n' c' e' => by cases e'; exact hab2⟩ rfl (by simp)
          simp only [arrRd, hb, hp, he]; simp
        · rename_i hc
          subst hpost'
          rw [if_neg hc] at he
          refine fin none (lenRd fl rs).2 f' w' none ?_ kk ((h2 _ (by omega) (by omega)).trans hav) he1 hr1 rfl rfl ⟨rfl, InHeap.nil _⟩ rfl (by simp)
          simp only [arrRd, hb, hp, he]; simp
end
end Go.Kg

set_option linter.unusedSimpArgs false
set_option linter.unusedVariables false
set_option linter.unusedSectionVars false
namespace Go.Kg
open Go
section
variable {P : Program} {C : CfgR}
theorem FrR.inner {R : Rdr} {f : Nat → Value} {pv b a n ab : Nat} {ver : Int} {fl : Bool} (h : FrR C R f pv b a ver fl n) : FrR C (rdr' R ab) f pv b a ver fl n := ⟨h.ptr, h.ptrN, h.v0, h.ver, h.flg, h.flN, h.rd, h.us, h.nN, h.rsN⟩
def EltP (p : Prim) (w : World) (K : Nat → Prop) (es : List Value) (y : p.T) : Prop := ∃ u, es = u.cells.toList ∧ p.rep1 w K u y
def EltS (S : Sch) (w : World) (K : Nat → Prop) (es : List Value) (y : S.T) : Prop := S.Rep w K es y
theorem EltP.ext (p : Prim) : ∀ w w' K X es y, EltP p w K es y → Ext X w w' → (∀ k, k < w.heap.size → K k → ¬ X k) → EltP p w' K es y := by
  rintro w w' K X es y ⟨u, h1, h2⟩ he hK
  exact ⟨u, h1, Prim.rep1_ext he hK h2⟩
theorem EltP.mono (p : Prim) : ∀ w (K K' : Nat → Prop) es y, EltP p w K es y → (∀ k, K k → K' k) → EltP p w K' es y := by
  rintro w K K' es y ⟨u, h1, h2⟩ hK
  exact ⟨u, h1, Prim.rep1_mono hK h2⟩
theorem EltS.ext (S : Sch) : ∀ w w' K X es y, EltS S w K es y → Ext X w w' → (∀ k, k < w.heap.size → K k → ¬ X k) → EltS S w' K es y := fun w w' K X es y h he hK => Sch.Rep_ext he hK S h
theorem EltS.mono (S : Sch) : ∀ w (K K' : Nat → Prop) es y, EltS S w K es y → (∀ k, K k → K' k) → EltS S w K' es y := fun w K K' es y h hK => Sch.Rep_mono hK S h
/-- A list's field stands in a struct's cells. -/
def ArrFld {α : Type} (Relt : World → (Nat → Prop) → List Value → α → Prop) (w : World) (K : Nat → Prop) (sz : Nat) (cs : List Value) (o : Nat) (A : Option (List α)) : Prop :=
  ∃ v ls, cs[o]? = some v ∧ ArrAt w K sz v ls ∧ (ls.isSome = A.isSome ∧ InHeap w v) ∧ (ls.getD []).length = (A.getD []).length ∧ ∀ (i : Nat) (es : List Value) x, (ls.getD [])[i]? = some es → (A.getD [])[i]? = some x → Relt w K es x
theorem ArrFld.move {α : Type} {Relt : World → (Nat → Prop) → List Value → α → Prop} (hRext : ∀ w w' K X es y, Relt w K es y → Ext X w w' → (∀ k, k < w.heap.size → K k → ¬ X k) → Relt w' K es y) {w w' : World} {K X : Nat → Prop} {sz o : Nat} {cs cs' : List Value} {A : Option (List α)} (h : ArrFld Relt w K sz cs o A) (he : Ext X w w') (hK : ∀ k, k < w.heap.size → K k → ¬ X k) (hc : cs'[o]? = cs[o]?) : ArrFld Relt w' K sz cs' o A := by
  obtain ⟨v, ls, h1, h2, h3, h4, h5⟩ := h
  exact ⟨v, ls, hc.trans h1, ArrAt.ext he hK h2, ⟨h3.1, h3.2.ext he⟩, h4, fun i es x hi hx => hRext _ _ _ _ _ _ (h5 i es x hi hx) he hK⟩
theorem sliOk_spec {sT sz : Nat} (h : sliOk P sT sz = true) : sliSz P sT = some sz ∧ ∃ z, sliZ P sT = some z ∧ z.size = sz := by
  simp only [sliOk, Bool.and_eq_true, beq_iff_eq] at h
  obtain ⟨h1, h2⟩ := h
  refine ⟨h1, ?_⟩
  cases hz : sliZ P sT with
  | none => rw [hz] at h2; cases h2
  | some z => rw [hz] at h2; exact ⟨z, rfl, by simpa using h2⟩
/-- a[i] = v -/
theorem r_storeE (ht : TyR P C) {sT l t ab N cap i sz : Nat} {p : Prim} {u : Value} {cur : Array Value} {et : TypeId} {Q : Post} {f : Nat → Value} {w : World} (hsl : sliSz P sT = some sz) (h1 : f (l + 1) = .slice (some ⟨ab, 0, none⟩) N cap) (h3 : f (l + 3) = .int .i32 i) (hi : i < N) (hk : p.kOk P (p.ty C.E) = true) (hlv : LocVal w f p (l + 4) u)
    (hu : if p = .uuid then ∃ c : Array Value, u = .agg c ∧ c.size = 16 ∧ allOne c.toList = true else u.oneCell' = true) (hl : l + 4 < t) (hb : w.heap[ab]? = some (.cells cur et (0, 0))) (ho : i * sz + u.cells.size ≤ cur.size)
    (h : ∀ f' cur', Put cur (i * sz) u cur' → (∀ y, y < t → f' y = f y) → Q .normal f' (w.setBlk ab (.cells cur' et (0, 0)))) : (storeE C p sT l t).wp P Q f w := by
  have e3 : ∀ n, (l + 3 = t + n) = False := by intro n; simp; omega
  have e2 : ∀ n, (l + 2 = t + n) = False := by intro n; simp; omega
  have e1 : ∀ n, (l + 1 = t + n) = False := by intro n; simp; omega
  have e0 : ∀ n, (l = t + n) = False := by intro n; simp; omega
  have e4 : ∀ n, (l + 4 = t + n) = False := by intro n; simp; omega
  have e3' : (l + 3 = t) = False := by simp; omega
  have e1' : (l + 1 = t) = False := by simp; omega
  have e4' : (l + 4 = t) = False := by simp; omega
  have keep : ∀ a b c d, ∀ y, y < t → upd (upd (upd (upd f t a) (t + 1) b) (t + 2) c) (t + 3) d y = f y := by
    intro a b c d y hy
    have x3 : ∀ n, (y = t + n) = False := by intro n; simp; omega
    have x4 : (y = t) = False := by simp; omega
    simp [x3, x4]
  refine wp_reg ?_
  by_cases hp : p = .uuid
  · subst hp
    simp only [if_true] at hu
    obtain ⟨c, rfl, hc16, hone⟩ := hu
    simp only [LocVal, if_true] at hlv
    obtain ⟨b', cs', e', fz', hf, hbk, hcs, h16⟩ := hlv
    cases hcs
    have hk' : kindOf P C.E.tUu = .agg 16 := (ht.uu (kOk_uu hk rfl)).kUu
    have lB := cellsFrom_row hbk
    rw [h16] at lB
    have ho' : i * sz + 16 ≤ cur.size := by simpa [Value.cells, hc16] using ho
    simp [storeE, getL, h1, h3, hf, e0, e1, e2, e3, e4, e1', e3', e4', idx?, hsl, hi, Addr.add_mk, ld_agg hk', lB, Prim.ty, store_agg hk', hc16, hone, putK_blk hb]
    exact ⟨by omega, h _ _ (put_over (by omega)) (keep _ _ _ _)⟩
  · simp only [if_neg hp] at hu
    simp only [LocVal, if_neg hp] at hlv
    have hk' : kindOf P (p.ty C.E) = .scl := by simp only [Prim.kOk, if_neg hp] at hk; exact isScl_spec hk
    have huc : u.cells = #[u] := cells_one hu
    have ho' : i * sz + 1 ≤ cur.size := by simpa [huc] using ho
    simp [storeE, getL, hp, h1, h3, hlv, e0, e1, e2, e3, e4, e1', e3', e4', idx?, hsl, hi, Addr.add_mk, store_scl hk', hu, put1K_blk hb]
    exact ⟨by omega, h _ _ (put_one hu (by omega)) (keep _ _ _ _)⟩
/-- the body of a loop over things without fields -/
theorem r_bodyP (ht : TyR P C) {p : Prim} {R : Rdr} {sT l t b a pv ab N cap i : Nat} {av : Value} {ver : Int} {fl : Bool} {et : TypeId} {f' : Nat → Value} {w' : World} {cur : Array Value} {rsi : RS} (hP : PrimR P C p) (hsl : sliSz P sT = some p.sz) (hk : p.kOk P (p.ty C.E) = true) (hlt : l + 5 ≤ t) (hbase : R.base ≤ ab) (hi : i < N) (hav : av = .slice (some ⟨ab, 0, none⟩) N cap)
    (hf : FrR C R f' pv b a ver fl l) (h1 : f' (l + 1) = av) (h3 : f' (l + 3) = .int .i32 i) (hst : StR C (rdr' R ab) ab 0 (N * p.sz) w' cur et rsi) (Q' : Post)
    (q1 : ∀ f'' w'' cur', StR C (rdr' R ab) ab 0 (N * p.sz) w'' cur' et (p.rd fl rsi).2 → Ext (CB R ab) w' w'' → (∀ j, (j < i * p.sz ∨ i * p.sz + p.sz ≤ j) → cur'[j]? = cur[j]?) → EltP p w'' (RK (rdr' R ab)) (segL cur' (i * p.sz) p.sz) (p.rd fl rsi).1 → KeepR f' f'' (l + 4) (l + 5) t → Q' .normal f'' w'') :
    (seqL (readI C p (l + 4) t ++ [storeE C p sT l (t + readN C p)])).wp P Q' f' w' := by
  have hrow := rowBound (sz := p.sz) hi
  have hfit := hst.fit
  refine seqL_append ?_
  refine r_read ht (kOk_uu hk) (fl := fl) hP hst (hf.inner.up (by omega : l ≤ l + 4)) (by omega) ?_
  intro f2 w2 u hu hrep he2 hr2 hk2
  have hs2 := hst.ext1 he2 hr2
  have hszu := rep1_sz hrep
  show (storeE C p sT l (t + readN C p)).wp P _ f2 w2
  refine r_storeE ht (cap := cap) hsl (by rw [hk2 _ (by omega) (by omega), h1, hav]) (by rw [hk2 _ (by omega) (by omega), h3]) hi hk hu (rep1_one hrep) (by omega) hs2.blk (by rw [hszu]; omega) ?_
  intro f3 cur3 hput hk3
  have hE3 : Ext (fun x => x = ab) w2 (w2.setBlk ab (.cells cur3 et (0, 0))) := (Ext.refl (fun x => x = ab) w2).setBlk (b := ab) (Or.inr rfl) _
  have hE3' : Ext (CB (rdr' R ab) ab) w2 (w2.setBlk ab (.cells cur3 et (0, 0))) := hE3.mono (fun _ _ h => .inr h)
  refine q1 f3 _ cur3 ?_ ?_ ?_ ?_ ?_
  · exact ⟨setBlk_same hs2.blk, by rw [hput.size]; exact hfit, hs2.rd.ext hE3 (fun h => hs2.rw_.ne.2.2 h) (fun h => hs2.rw_.ne.2.1 h.symm), hs2.rw_.ext hE3'⟩
  · exact (he2.mono (fun _ _ h => .inl h) : Ext (CB R ab) w' w2).trans hE3'
  · intro j hj
    exact hput.same j (by rw [hszu]; omega)
  · refine ⟨u, ?_, Prim.rep1_ext hE3 (fun k a1 a2 a3 => hs2.rw_.keepK k a1 a2 (.inr a3)) hrep⟩
    apply List.ext_getElem?
    intro j
    by_cases hj : j < p.sz
    · rw [segL_get hj]
      have hj' : j < u.cells.toList.length := by simpa [hszu] using hj
      rw [List.getElem?_eq_getElem hj']
      exact hput.new j _ (List.getElem?_eq_getElem hj')
    · rw [segL_none (by omega), List.getElem?_eq_none (by simp [hszu]; omega)]
  · intro y hy1 hy
    rw [hk3 y (by omega), hk2 y (by omega) (by omega)]
end
end Go.Kg

set_option linter.unusedSimpArgs false
set_option linter.unusedVariables false
set_option linter.unusedSectionVars false
namespace Go.Kg
open Go
section
variable {P : Program} {C : CfgR}
theorem soundR_arrP (ht : TyR P C) (g : Gd) (k o sT : Nat) (nul : Option Nat) (p : Prim) (rest : Sch) (ih : SoundR P C rest) : SoundR P C (.arrP g k o sT nul p rest) := by
  intro T PT pv c Q f w b a n lo cc e ver fl R rs hty hN hf hc hs hd h0 h1
  simp only [Sch.tyR, Bool.and_eq_true, beq_iff_eq, decide_eq_true_eq] at hty
  obtain ⟨⟨⟨⟨⟨⟨⟨hnul, hF⟩, hk⟩, hsli⟩, hkp⟩, hlo⟩, hn⟩, htr⟩ := hty
  obtain ⟨hsz, z, hz, hzs⟩ := sliOk_spec hsli
  obtain ⟨hNp, hNl, hNe, hNr⟩ := hN
  simp only [Sch.chkD, Bool.and_eq_true] at hd
  have hnil := isNilSli_spec hd.1
  have hn10 := hf.nN
  have hpt := hf.ptrN
  have hhead : headN C nul = 5 + lenIN C + nulN nul + 10 := rfl
  simp only [Sch.genR] at hc h1 ⊢
  generalize ht1 : c.t + gdN g + headN C nul = t1 at hc h1 ⊢
  generalize ht2 : t1 + 5 + readN C p + 4 = t2 at hc h1 ⊢
  have hm := (genR_mono (C := C) rest T PT pv ⟨c.l + 5, t2 + 5, c.k + 2⟩).1
  simp only at hm
  have behind : ∀ (f1 : Nat → Value) (w1 : World) (cc1 : Array Value) (rs1 : RS) (A : Option (List p.T)),
      (Sch.rd ver fl (.arrP g k o sT nul p rest) rs = (rest.rd ver fl rs1).map fun y => ((A, y.1), y.2)) →
      RdTo C R b a n lo w cc e f c.l (c.l + 5) c.t rs1 f1 w1 cc1 → (∀ j, (j < a + lo ∨ a + o + 1 ≤ j) → cc1[j]? = cc[j]?) → ArrFld (EltP p) w1 (RK R) p.sz (segL cc1 a n) o A →
      (seqL (rest.genR C T PT pv ⟨c.l + 5, t2 + 5, c.k + 2⟩).1).wp P Q f1 w1 := by
    intro f1 w1 cc1 rs1 A hrd hto hsame hfld
    have hd1 : rest.chkD (segL cc1 a n) = true := by
      refine chkD_congr rest htr (fun j hj1 hj2 => ?_) hd.2
      rw [segL_get hj2, segL_get hj2]
      exact hsame _ (by omega)
    refine ih T PT pv _ Q f1 w1 b a n (o + 1) cc1 e ver fl R rs1 htr hNr ((hf.keep hto.keep.keeps (Nat.le_refl _)).up (by simp)) (by simp only; omega) hto.st hd1 ?_ ?_
    · intro hnone f2 w2 h6 he2
      exact h0 (by rw [hrd, hnone]; rfl) f2 w2 h6 (hto.ext.trans he2)
    · intro y rs2 hy f2 w2 cc2 hto2 hrep2
      refine h1 (A, y) rs2 (by rw [hrd, hy]; rfl) f2 w2 cc2 (hto.trans hto2 (by omega) (by simp) hm (by simp only; omega)) ⟨?_, hrep2⟩
      exact hfld.move (EltP.ext p) hto2.ext hto.st.rw_.keepK (by rw [segL_get (by omega), segL_get (by omega)]; exact hto2.same _ (.inl (by omega)))
  refine seqL_cons ?_
  refine w_guard ht.c (show f 8 = _ from hf.ver) (show 8 < c.t by omega) (by omega) ?_ ?_
  · intro hon f1 hk1 h11
    have hf1 := hf.keep hk1 (by omega)
    rw [← ht1]
    refine r_list ht hnul (fun rs => some (p.rd fl rs)) (EltP p) (EltP.ext p) (EltP.mono p) (lo := lo) (m := c.l + 5) (ver := ver) (fl := fl) (sz := p.sz) hF hk hsz hz hzs hNl hNe hs hf1 (by omega) (by omega) (by omega) hn hlo hnil ?_ ?_ ?_
    · intro ab N cap et i av f' w' cur rsi hbase hi hav hf' hav' h3 hst hzero Q' q0 q1
      rw [ht1]
      refine r_bodyP ht (cap := cap) hNp hsz hkp (by omega) hbase hi hav hf' hav' h3 hst Q' ?_
      intro f'' w'' cur' a1 a2 a3 a4 a5
      exact q1 _ _ rfl f'' w'' cur' a1 a2 a3 a4 (by rw [ht1]; exact a5)
    · intro hnone f' w' h6 he
      refine h0 ?_ f' w' h6 he
      simp only [Sch.rd, if_pos hon, hnone]
    · intro A rs' hA f' w' cc' av ls hto hsame hav harr hsome hlen helt
      refine behind f' w' cc' rs' A ?_ ?_ hsame ⟨av, ls, hav, harr, hsome, hlen, helt⟩
      · simp only [Sch.rd, if_pos hon, hA]; rfl
      · exact (RdTo.refl (m := c.l + 5) hs (KeepR.of hk1 (by omega))).trans { hto with keep := fun y h1 hy => hto.keep y h1 (by omega) } (Nat.le_refl _) (Nat.le_refl _) (Nat.le_refl _) (Nat.le_refl c.t)
  · intro hoff f1 hk1 h11
    refine behind f1 w cc rs none ?_ (RdTo.refl hs (KeepR.of hk1 (by omega))) (fun _ _ => rfl) ⟨_, none, hnil, rfl, ⟨rfl, InHeap.nil _⟩, rfl, by simp⟩
    simp only [Sch.rd, hoff, Bool.false_eq_true, if_false]; rfl
theorem segL_set (P : Program) {T' : Nat} : ∀ (l : List DSt) (c z : Array Value) (a n : Nat), defOk P T' n l = true → z.size = n → segL c a n = z.toList → segL (setD a l c) a n = (setD 0 l z).toList
  | [], c, z, a, n, _, _, h => h
  | x :: l, c, z, a, n, hok, hz, h => by
    simp only [defOk, Bool.and_eq_true, decide_eq_true_eq] at hok
    simp only [setD]
    refine segL_set P l _ _ a n hok.2 (by simp [hz]) ?_
    apply List.ext_getElem?
    intro j
    by_cases hj : j < n
    · have h1 : (segL c a n)[j]? = z.toList[j]? := by rw [h]
      rw [segL_get hj] at h1
      rw [segL_get hj]
      simp only [Array.getElem?_setIfInBounds, Array.getElem?_toList, Nat.zero_add]
      by_cases e : x.o = j
      · subst e
        have hlt : a + x.o < c.size := by
          rcases Nat.lt_or_ge (a + x.o) c.size with h2 | h2
          · exact h2
          · rw [Array.getElem?_eq_none h2] at h1
            have : z[x.o]? = none := by simpa using h1.symm
            rw [Array.getElem?_eq_none_iff] at this
            omega
        simp [hlt, hz, hj]
      · rw [if_neg (by omega), if_neg e]
        simpa using h1
    · rw [segL_none (by omega)]
      symm
      apply List.getElem?_eq_none
      simp [hz]; omega
theorem setD_same (P : Program) {T' : Nat} : ∀ (l : List DSt) (c : Array Value) (a n : Nat), defOk P T' n l = true → ∀ j, (j < a ∨ a + n ≤ j) → (setD a l c)[j]? = c[j]?
  | [], c, a, n, _, j, _ => rfl
  | x :: l, c, a, n, hok, j, hj => by
    simp only [defOk, Bool.and_eq_true, decide_eq_true_eq] at hok
    simp only [setD]
    rw [setD_same P l _ a n hok.2 j hj, Array.getElem?_setIfInBounds, if_neg (by omega)]
/-- v := &a[i]; v.Default(); s := v -/
theorem r_elem {R : Rdr} {sT PT' df l t b a pv ab N cap i sz T' : Nat} {S : Sch} {av : Value} {ver : Int} {fl : Bool} {et : TypeId} {f : Nat → Value} {w : World} {cur : Array Value} {rsi : RS} {Q : Post} {z : Array Value} (hsl : sliSz P sT = some sz) (hD : DefRC P C.toCfg sz df S) (hok : defOk P T' sz (S.dst C.toCfg) = true) (hzs : z.size = sz) (hi : i < N) (hav : av = .slice (some ⟨ab, 0, none⟩) N cap)
    (hf : FrR C R f pv b a ver fl l) (h1 : f (l + 1) = av) (h3 : f (l + 3) = .int .i32 i) (hl : l + 6 ≤ t) (hst : StR C (rdr' R ab) ab 0 (N * sz) w cur et rsi) (hzero : segL cur (i * sz) sz = z.toList)
    (h : ∀ f' w' cur', FrR C (rdr' R ab) f' (l + 5) ab (i * sz) ver fl (l + 6) → StR C (rdr' R ab) ab (i * sz) sz w' cur' et rsi → cur'.size = cur.size → Ext (CB R ab) w w' → (∀ j, (j < i * sz ∨ i * sz + sz ≤ j) → cur'[j]? = cur[j]?) → segL cur' (i * sz) sz = (setD 0 (S.dst C.toCfg) z).toList → (∀ y, y < t → (y < l + 4 ∨ l + 6 ≤ y) → f' y = f y) → Q .normal f' w') :
    (seqL (elemR C sT PT' df l t)).wp P Q f w := by
  have hn10 := hf.nN
  have hpt := hf.ptrN
  have hrow := rowBound (sz := sz) hi
  have hfit := hst.fit
  have e3 : ∀ n, (l + 3 = t + n) = False := by intro n; simp; omega
  have e1 : ∀ n, (l + 1 = t + n) = False := by intro n; simp; omega
  have e2 : ∀ n, (l + 2 = t + n) = False := by intro n; simp; omega
  have e4 : ∀ n, (l + 4 = t + n) = False := by intro n; simp; omega
  have e0 : ∀ n, (l = t + n) = False := by intro n; simp; omega
  have e3' : (l + 3 = t) = False := by simp; omega
  have e1' : (l + 1 = t) = False := by simp; omega
  have e0' : (l = t) = False := by simp; omega
  subst hav
  refine seqL_cons ?_
  refine wp_reg ?_
  simp [h1, h3, e0', e0, e1, e2, e3, e4, e1', e3', idx?, hsl, hi, Addr.add_mk]
  show (seqL _).wp P _ _ w
  refine seqL_cons ?_
  refine wp_reg ?_
  simp [e0', e0, e1, e2, e3, e4]
  refine (hD w ab (i * sz) cur et hst.blk (by omega)).mono ?_
  rintro v w1 ⟨rfl⟩
  show (Ir.reg _).wp P _ _ _
  refine wp_reg ?_
  simp [e0', e0, e1, e2, e3, e4]
  have hE : Ext (fun x => x = ab) w (w.setBlk ab (.cells (setD (i * sz) (S.dst C.toCfg) cur) et (0, 0))) := (Ext.refl (fun x => x = ab) w).setBlk (b := ab) (Or.inr rfl) _
  have hE' : Ext (CB (rdr' R ab) ab) w (w.setBlk ab (.cells (setD (i * sz) (S.dst C.toCfg) cur) et (0, 0))) := hE.mono (fun _ _ h => .inr h)
  refine h _ _ _ ?_ ?_ (setD_size _ _ _) hE' (setD_same P _ _ _ _ hok) (segL_set P _ _ _ _ _ hok hzs hzero) ?_
  · have lo : ∀ y, y < l → ∀ v1 v2 v3 v4 v5 v6 v7 v8, upd (upd (upd (upd (upd (upd (upd (upd f t v1) (t + 1) v2) (t + 2) v3) (l + 4) v4) (t + 3) v5) (t + 4) v6) (t + 5) v7) (l + 5) v8 y = f y := by
      intro y hy v1 v2 v3 v4 v5 v6 v7 v8
      have x1 : ∀ n, (y = t + n) = False := by intro n; simp; omega
      have x2 : (y = t) = False := by simp; omega
      have x3 : ∀ n, (y = l + n) = False := by intro n; simp; omega
      simp [x1, x2, x3]
    exact ⟨by simp [e0'], by omega, hf.v0, (lo 8 (by omega) _ _ _ _ _ _ _ _).trans hf.ver, fun hx => (lo 9 (by omega) _ _ _ _ _ _ _ _).trans (hf.flg hx), hf.flN, (lo C.rs (by have := hf.rsN; omega) _ _ _ _ _ _ _ _).trans hf.rd, (lo 2 (by omega) _ _ _ _ _ _ _ _).trans hf.us, by omega, ⟨hf.rsN.1, by have := hf.rsN; omega⟩⟩
  · exact ⟨setBlk_same hst.blk, by rw [setD_size]; omega, hst.rd.ext hE (fun h => hst.rw_.ne.2.2 h) (fun h => hst.rw_.ne.2.1 h.symm), hst.rw_.ext hE'⟩
  · intro y hy hy2
    have x1 : ∀ n, (y = t + n) = False := by intro n; simp; omega
    have x2 : (y = t) = False := by simp; omega
    have x3 : (y = l + 4) = False := by simp; omega
    have x4 : (y = l + 5) = False := by simp; omega
    simp [x1, x2, x3, x4, e0']
end
end Go.Kg

set_option linter.unusedSimpArgs false
set_option linter.unusedVariables false
set_option linter.unusedSectionVars false
namespace Go.Kg
open Go
section
variable {P : Program} {C : CfgR}
theorem elemOk_spec {sT : Nat} {S : Sch} {z : Array Value} (h : elemOk P C.toCfg sT S = true) (hz : sliZ P sT = some z) : S.chkD (setD 0 (S.dst C.toCfg) z).toList = true := by
  unfold elemOk at h
  rw [hz] at h
  exact h
/-- the body of a loop over structs -/
theorem r_bodyS (ht : TyR P C) {S : Sch} (ihe : SoundR P C S) {R : Rdr} {sT T' PT' df l t k b a pv ab N cap i sz m : Nat} {av : Value} {ver : Int} {fl : Bool} {et : TypeId} {f' : Nat → Value} {w' : World} {cur : Array Value} {rsi : RS} {z : Array Value} (hte : S.tyR P C T' sz 0 = true) (hNe : S.NeedR P C)
    (hsl : sliSz P sT = some sz) (hD : DefRC P C.toCfg sz df S) (hok : defOk P T' sz (S.dst C.toCfg) = true) (hzs : z.size = sz) (hchk : S.chkD (setD 0 (S.dst C.toCfg) z).toList = true) (hlt : l + 6 ≤ t) (hm : (S.genR C T' PT' (l + 5) ⟨l + 6, t + 6, k⟩).2.l = m) (hmt : m ≤ t) (hi : i < N) (hav : av = .slice (some ⟨ab, 0, none⟩) N cap)
    (hf : FrR C R f' pv b a ver fl l) (h1 : f' (l + 1) = av) (h3 : f' (l + 3) = .int .i32 i) (hst : StR C (rdr' R ab) ab 0 (N * sz) w' cur et rsi) (hzero : segL cur (i * sz) sz = z.toList) (Q' : Post)
    (q0 : S.rd ver fl rsi = none → ∀ f'' w'', f'' 6 = R.ev → Ext (CB R ab) w' w'' → Q' .ret f'' w'')
    (q1 : ∀ y rs'', S.rd ver fl rsi = some (y, rs'') → ∀ f'' w'' cur', StR C (rdr' R ab) ab 0 (N * sz) w'' cur' et rs'' → Ext (CB R ab) w' w'' → (∀ j, (j < i * sz ∨ i * sz + sz ≤ j) → cur'[j]? = cur[j]?) → EltS S w'' (RK (rdr' R ab)) (segL cur' (i * sz) sz) y → KeepR f' f'' (l + 4) m t → Q' .normal f'' w'') :
    (seqL (elemR C sT PT' df l t ++ (S.genR C T' PT' (l + 5) ⟨l + 6, t + 6, k⟩).1)).wp P Q' f' w' := by
  have hml := (genR_mono (C := C) S T' PT' (l + 5) ⟨l + 6, t + 6, k⟩).1
  rw [hm] at hml
  simp only at hml
  refine seqL_append ?_
  refine r_elem hsl hD hok hzs hi hav hf h1 h3 hlt hst hzero ?_
  intro f2 w2 cur2 hf2 hst2 hsz2 he2 hsame2 hseg2 hk2
  have hfit := hst.fit
  refine ihe T' PT' (l + 5) ⟨l + 6, t + 6, k⟩ Q' f2 w2 ab (i * sz) sz 0 cur2 et ver fl (rdr' R ab) rsi hte hNe hf2 (by rw [hm]; simp only; omega) hst2 (by rw [hseg2]; exact hchk) ?_ ?_
  · intro hnone f3 w3 h6 he3
    exact q0 hnone f3 w3 h6 (he2.trans he3)
  · intro y rs'' hy f3 w3 cur3 hto hrep
    refine q1 y rs'' hy f3 w3 cur3 ?_ (he2.trans hto.ext) ?_ hrep ?_
    · exact ⟨hto.st.blk, by rw [hto.size, hsz2]; exact hfit, hto.st.rd, hto.st.rw_⟩
    · intro j hj
      rw [hto.same j (by omega)]
      exact hsame2 j hj
    · intro y hy1 hy
      have h4 := hto.keep y hy1
      rw [hm] at h4
      simp only at h4
      rw [h4 (by omega), hk2 y (by omega) (by omega)]
theorem soundR_arrS (ht : TyR P C) (g : Gd) (k o sT : Nat) (nul : Option Nat) (T' PT' sz df : Nat) (S rest : Sch) (ihe : SoundR P C S) (ih : SoundR P C rest) : SoundR P C (.arrS g k o sT nul T' PT' sz df S rest) := by
  intro T PT pv c Q f w b a n lo cc e ver fl R rs hty hN hf hc hs hd h0 h1
  simp only [Sch.tyR, Bool.and_eq_true, beq_iff_eq, decide_eq_true_eq] at hty
  obtain ⟨⟨⟨⟨⟨⟨⟨⟨⟨hnul, hF⟩, hk⟩, hsli⟩, hel⟩, hok⟩, hte⟩, hlo⟩, hn⟩, htr⟩ := hty
  obtain ⟨hsz, z, hz, hzs⟩ := sliOk_spec hsli
  have hchk := elemOk_spec hel hz
  obtain ⟨hNl, hNe, hND, hNs, hNr⟩ := hN
  simp only [Sch.chkD, Bool.and_eq_true] at hd
  have hnil := isNilSli_spec hd.1
  have hn10 := hf.nN
  have hpt := hf.ptrN
  have hhead : headN C nul = 5 + lenIN C + nulN nul + 10 := rfl
  simp only [Sch.genR] at hc h1 ⊢
  generalize ht1 : c.t + gdN g + headN C nul = t1 at hc h1 ⊢
  have hme := genR_mono (C := C) S T' PT' (c.l + 5) ⟨c.l + 6, t1 + 5 + 6, c.k + 2⟩
  have e11 : t1 + 11 = t1 + 5 + 6 := by omega
  rw [e11] at hc h1 ⊢
  generalize hz1 : S.genR C T' PT' (c.l + 5) ⟨c.l + 6, t1 + 5 + 6, c.k + 2⟩ = zz at hc h1 hme ⊢
  obtain ⟨eb, c1⟩ := zz
  simp only at hc h1 hme ⊢
  have hm := (genR_mono (C := C) rest T PT pv ⟨c1.l, c1.t + 5, c1.k⟩).1
  simp only at hm
  have behind : ∀ (f1 : Nat → Value) (w1 : World) (cc1 : Array Value) (rs1 : RS) (A : Option (List S.T)),
      (Sch.rd ver fl (.arrS g k o sT nul T' PT' sz df S rest) rs = (rest.rd ver fl rs1).map fun y => ((A, y.1), y.2)) →
      RdTo C R b a n lo w cc e f c.l c1.l c.t rs1 f1 w1 cc1 → (∀ j, (j < a + lo ∨ a + o + 1 ≤ j) → cc1[j]? = cc[j]?) → ArrFld (EltS S) w1 (RK R) sz (segL cc1 a n) o A →
      (seqL (rest.genR C T PT pv ⟨c1.l, c1.t + 5, c1.k⟩).1).wp P Q f1 w1 := by
    intro f1 w1 cc1 rs1 A hrd hto hsame hfld
    have hd1 : rest.chkD (segL cc1 a n) = true := by
      refine chkD_congr rest htr (fun j hj1 hj2 => ?_) hd.2
      rw [segL_get hj2, segL_get hj2]
      exact hsame _ (by omega)
    refine ih T PT pv _ Q f1 w1 b a n (o + 1) cc1 e ver fl R rs1 htr hNr ((hf.keep hto.keep.keeps (Nat.le_refl _)).up (by simp only; omega)) (by simp only; omega) hto.st hd1 ?_ ?_
    · intro hnone f2 w2 h6 he2
      exact h0 (by rw [hrd, hnone]; rfl) f2 w2 h6 (hto.ext.trans he2)
    · intro y rs2 hy f2 w2 cc2 hto2 hrep2
      refine h1 (A, y) rs2 (by rw [hrd, hy]; rfl) f2 w2 cc2 (hto.trans hto2 (by omega) (by simp only; omega) hm (by simp only; omega)) ⟨?_, hrep2⟩
      exact hfld.move (EltS.ext S) hto2.ext hto.st.rw_.keepK (by rw [segL_get (by omega), segL_get (by omega)]; exact hto2.same _ (.inl (by omega)))
  refine seqL_cons ?_
  refine w_guard ht.c (show f 8 = _ from hf.ver) (show 8 < c.t by omega) (by omega) ?_ ?_
  · intro hon f1 hk1 h11
    have hf1 := hf.keep hk1 (by omega)
    rw [← ht1]
    refine r_list ht hnul (S.rd ver fl) (EltS S) (EltS.ext S) (EltS.mono S) (lo := lo) (m := c1.l) (ver := ver) (fl := fl) (sz := sz) hF hk hsz hz hzs hNl hNe hs hf1 (by omega) (by omega) (by omega) hn hlo hnil ?_ ?_ ?_
    · intro ab N cap et i av f' w' cur rsi hbase hi hav hf' hav' h3 hst hzero Q' q0 q1
      rw [ht1]
      have hb := r_bodyS ht ihe (k := c.k + 2) (t := t1 + 5) (m := c1.l) (cap := cap) (PT' := PT') hte hNs hsz hND hok hzs hchk (by omega) (by rw [hz1]) (by omega) hi hav hf' hav' h3 hst hzero Q' q0 (fun y rs'' hy f'' w'' cur' a1 a2 a3 a4 a5 => q1 y rs'' hy f'' w'' cur' a1 a2 a3 a4 (by rw [ht1]; exact a5))
      rw [hz1] at hb
      exact hb
    · intro hnone f' w' h6 he
      refine h0 ?_ f' w' h6 he
      simp only [Sch.rd, if_pos hon, hnone]
    · intro A rs' hA f' w' cc' av ls hto hsame hav harr hsome hlen helt
      refine behind f' w' cc' rs' A ?_ ?_ hsame ⟨av, ls, hav, harr, hsome, hlen, helt⟩
      · simp only [Sch.rd, if_pos hon, hA]; rfl
      · exact (RdTo.refl (m := c1.l) hs (KeepR.of hk1 (by omega))).trans { hto with keep := fun y h1 hy => hto.keep y h1 (by omega) } (Nat.le_refl _) (Nat.le_refl _) (Nat.le_refl _) (Nat.le_refl c.t)
  · intro hoff f1 hk1 h11
    refine behind f1 w cc rs none ?_ (RdTo.refl hs (KeepR.of hk1 (by omega))) (fun _ _ => rfl) ⟨_, none, hnil, rfl, ⟨rfl, InHeap.nil _⟩, rfl, by simp⟩
    simp only [Sch.rd, hoff, Bool.false_eq_true, if_false]; rfl
theorem segL_sub {c : Array Value} {a n o sz : Nat} (h : o + sz ≤ n) : ((segL c a n).drop o).take sz = segL c (a + o) sz := by
  apply List.ext_getElem?
  intro j
  by_cases hj : j < sz
  · rw [List.getElem?_take, if_pos hj, List.getElem?_drop, segL_get (by omega), segL_get hj, Nat.add_assoc]
  · rw [segL_none (by omega), List.getElem?_take, if_neg hj]
theorem setBlk_self {w : World} {b : Nat} {x : Obj} (h : w.heap[b]? = some x) : w.setBlk b x = w := by
  simp only [World.setBlk]
  have : w.heap.setIfInBounds b x = w.heap := by
    apply Array.ext_getElem?
    intro k
    rw [Array.getElem?_setIfInBounds]
    split
    · rename_i h'; subst h'
      rw [h, if_pos (lt_of_heap h)]
    · rfl
  rw [this]
theorem soundR_sub (ht : TyR P C) (g : Gd) (k o T' PT' sz df : Nat) (S rest : Sch) (ihe : SoundR P C S) (ih : SoundR P C rest) : SoundR P C (.sub g k o T' PT' sz df S rest) := by
  intro T PT pv c Q f w b a n lo cc e ver fl R rs hty hN hf hc hs hd h0 h1
  simp only [Sch.tyR, Bool.and_eq_true, beq_iff_eq, decide_eq_true_eq] at hty
  obtain ⟨⟨⟨⟨⟨hF, hemp⟩, hte⟩, hlo⟩, hn⟩, htr⟩ := hty
  have hemp' : S.dst C.toCfg = [] := List.isEmpty_iff.1 hemp
  obtain ⟨hND, hNs, hNr⟩ := hN
  simp only [Sch.chkD, Bool.and_eq_true] at hd
  have hde := hd.1
  rw [segL_sub hn] at hde
  have hn10 := hf.nN
  have hpt := hf.ptrN
  have hfit := hs.fit
  simp only [Sch.genR] at hc h1 ⊢
  generalize ht1 : c.t + gdN g = t1 at hc h1 ⊢
  have hme := genR_mono (C := C) S T' PT' (c.l + 1) ⟨c.l + 2, t1 + 6, c.k⟩
  have hse : ∀ Q f w b a n lo cc e ver fl R rs, _ := fun Q f w b a n lo cc e ver fl R rs => ihe T' PT' (c.l + 1) ⟨c.l + 2, t1 + 6, c.k⟩ Q f w b a n lo cc e ver fl R rs
  generalize hz1 : S.genR C T' PT' (c.l + 1) ⟨c.l + 2, t1 + 6, c.k⟩ = zz at hc h1 hme hse ⊢
  obtain ⟨eb, c1⟩ := zz
  simp only at hc h1 hme hse ⊢
  have hm := (genR_mono (C := C) rest T PT pv c1).1
  have behind : ∀ (f1 : Nat → Value) (w1 : World) (cc1 : Array Value) (rs1 : RS) (A : S.T),
      (Sch.rd ver fl (.sub g k o T' PT' sz df S rest) rs = (rest.rd ver fl rs1).map fun y => ((A, y.1), y.2)) →
      RdTo C R b a n lo w cc e f c.l c1.l c.t rs1 f1 w1 cc1 → (∀ j, (j < a + lo ∨ a + o + sz ≤ j) → cc1[j]? = cc[j]?) → (fun w1 (cc1 : Array Value) (A : S.T) => S.Rep w1 (RK R) (segL cc1 (a + o) sz) A) w1 cc1 A →
      (seqL (rest.genR C T PT pv c1).1).wp P Q f1 w1 := by
    intro f1 w1 cc1 rs1 A hrd hto hsame hfld
    have hd1 : rest.chkD (segL cc1 a n) = true := by
      refine chkD_congr rest htr (fun j hj1 hj2 => ?_) hd.2
      rw [segL_get hj2, segL_get hj2]
      exact hsame _ (by omega)
    refine ih T PT pv _ Q f1 w1 b a n (o + sz) cc1 e ver fl R rs1 htr hNr ((hf.keep hto.keep.keeps (Nat.le_refl _)).up (by omega)) (by omega) hto.st hd1 ?_ ?_
    · intro hnone f2 w2 h6 he2
      exact h0 (by rw [hrd, hnone]; rfl) f2 w2 h6 (hto.ext.trans he2)
    · intro y rs2 hy f2 w2 cc2 hto2 hrep2
      refine h1 (A, y) rs2 (by rw [hrd, hy]; rfl) f2 w2 cc2 (hto.trans hto2 (by omega) (by omega) hm (by omega)) ⟨?_, hrep2⟩
      rw [segL_sub hn, segL_eq (c := cc1) (fun j hj1 hj2 => hto2.same j (by omega))]
      exact Sch.Rep_ext hto2.ext hto.st.rw_.keepK S hfld
  refine seqL_cons ?_
  refine w_guard ht.c (show f 8 = _ from hf.ver) (show 8 < c.t by omega) (by omega) ?_ ?_
  · intro hon f1 hk1 h11
    have hf1 := hf.keep hk1 (by omega)
    have zl : ∀ m, (c.l = t1 + m) = False := by intro m; simp; omega
    have zl' : (c.l = t1) = False := by simp; omega
    refine seqL_append ?_
    refine seqL_cons (wp_reg ?_)
    simp [addrR, hf1.ptr, hF, Addr.add_mk]
    show (seqL _).wp P _ _ w
    refine seqL_cons (wp_reg ?_)
    simp [zl, zl']
    refine (hND w b (a + o) cc e hs.blk (by omega)).mono ?_
    rintro v w1 rfl
    rw [hemp']
    simp only [setD]
    rw [setBlk_self hs.blk]
    show (Ir.reg _).wp P _ _ _
    refine wp_reg ?_
    simp [zl, zl']
    have up : ∀ z, z < t1 → z ≠ c.l → z ≠ c.l + 1 → ∀ v1 v2 v3 v4 v5 v6 v7 v8, upd (upd (upd (upd (upd (upd (upd (upd f1 t1 v1) (t1 + 1) v2) (t1 + 2) v3) c.l v4) (t1 + 3) v5) (t1 + 4) v6) (t1 + 5) v7) (c.l + 1) v8 z = f1 z := by
      intro z hz hz1 hz2 v1 v2 v3 v4 v5 v6 v7 v8
      have a3 : ∀ n, (z = t1 + n) = False := by intro n; simp; omega
      have a4 : (z = t1) = False := by simp; omega
      simp [a3, a4, hz1, hz2]
    refine hse _ _ w b (a + o) sz 0 cc e ver fl R rs hte hNs ?_ (by omega) ⟨hs.blk, by omega, hs.rd, hs.rw_⟩ hde ?_ ?_
    · refine ⟨by simp [zl, zl'], ⟨by omega, by omega⟩, hf1.v0, ?_, fun hx => ?_, hf1.flN, ?_, ?_, by omega, ⟨hf1.rsN.1, by have := hf1.rsN; omega⟩⟩
      · rw [up 8 (by omega) (by omega) (by omega)]; exact hf1.ver
      · rw [up 9 (by omega) (by omega) (by omega)]; exact hf1.flg hx
      · rw [up C.rs (by have := hf1.rsN; omega) (by have := hf1.rsN; omega) (by have := hf1.rsN; omega)]; exact hf1.rd
      · rw [up 2 (by omega) (by omega) (by omega)]; exact hf1.us
    · intro hnone f3 w3 h6 he3
      exact h0 (by simp only [Sch.rd, if_pos hon, hnone]) f3 w3 h6 he3
    · intro x rs1 hx f3 w3 cc3 hto hrep
      refine behind f3 w3 cc3 rs1 x ?_ ?_ (fun j hj => hto.same j (by omega)) hrep
      · simp only [Sch.rd, if_pos hon, hx]; rfl
      · refine ⟨hto.ext, ⟨hto.st.blk, by rw [hto.size]; exact hfit, hto.st.rd, hto.st.rw_⟩, hto.size, fun j hj => hto.same j (by omega), ?_⟩
        intro z hz1 hz
        rw [hto.keep z hz1 (by omega), up z (by omega) (by omega) (by omega)]
        exact hk1 z (by omega) hz1
  · intro hoff f1 hk1 h11
    refine behind f1 w cc rs S.dfl ?_ (RdTo.refl hs (KeepR.of hk1 (by omega))) (fun _ _ => rfl) (Sch.repD S hde)
    simp only [Sch.rd, hoff, Bool.false_eq_true, if_false]; rfl
/-- A pointer's field stands in a struct's cells. -/
def OptFld (S : Sch) (R : Rdr) (a n o sz : Nat) (w : World) (cc : Array Value) (A : Option S.T) : Prop :=
  ∃ v, (segL cc a n)[o]? = some v ∧ (A = none → v = .pointer none) ∧ ∀ x, A = some x → ∃ b c es, v = .pointer (some ⟨b, c, none⟩) ∧ RK R b ∧ b < w.heap.size ∧ es.length = sz ∧ CellsAt w b c es ∧ S.Rep w (RK R) es x
theorem optOk_spec {T sz : Nat} {S : Sch} (h : optOk P C.toCfg T sz S = true) : ∃ v, zeroOf P T = some v ∧ v.cells.size = sz ∧ S.chkD (setD 0 (S.dst C.toCfg) v.cells).toList = true := by
  unfold optOk at h
  split at h
  · rename_i v hv
    simp only [Bool.and_eq_true, beq_iff_eq] at h
    exact ⟨v, hv, h.1, h.2⟩
  · cases h
theorem soundR_opt (ht : TyR P C) (g : Gd) (k o T' PT' PP sz df : Nat) (S rest : Sch) (ihe : SoundR P C S) (ih : SoundR P C rest) : SoundR P C (.opt g k o T' PT' PP sz df S rest) := by
  intro T PT pv c Q f w b a n lo cc e ver fl R rs hty hN hf hc hs hd h0 h1
  simp only [Sch.tyR, Bool.and_eq_true, beq_iff_eq, decide_eq_true_eq] at hty
  obtain ⟨⟨⟨⟨⟨⟨⟨⟨hF, hk⟩, hk8⟩, hopt⟩, hok⟩, hte⟩, hlo⟩, hn⟩, htr⟩ := hty
  obtain ⟨zv, hzv, hzs, hchk⟩ := optOk_spec hopt
  obtain ⟨hN8, hNe, hND, hNs, hNr⟩ := hN
  simp only [Sch.chkD, Bool.and_eq_true] at hd
  have hnil := isNilPtr_spec hd.1
  have hn10 := hf.nN
  have hpt := hf.ptrN
  have hfit := hs.fit
  simp only [Sch.genR] at hc h1 ⊢
  generalize ht1 : c.t + gdN g = t1 at hc h1 ⊢
  have hme := genR_mono (C := C) S T' PT' (c.l + 2) ⟨c.l + 3, t1 + 17, c.k⟩
  have hse : ∀ Q f w b a n lo cc e ver fl R rs, _ := fun Q f w b a n lo cc e ver fl R rs => ihe T' PT' (c.l + 2) ⟨c.l + 3, t1 + 17, c.k⟩ Q f w b a n lo cc e ver fl R rs
  generalize hz1 : S.genR C T' PT' (c.l + 2) ⟨c.l + 3, t1 + 17, c.k⟩ = zz at hc h1 hme hse ⊢
  obtain ⟨eb, c1⟩ := zz
  simp only at hc h1 hme hse ⊢
  have hm := (genR_mono (C := C) rest T PT pv c1).1
  have behind : ∀ (f1 : Nat → Value) (w1 : World) (cc1 : Array Value) (rs1 : RS) (A : Option S.T),
      (Sch.rd ver fl (.opt g k o T' PT' PP sz df S rest) rs = (rest.rd ver fl rs1).map fun y => ((A, y.1), y.2)) →
      RdTo C R b a n lo w cc e f c.l c1.l c.t rs1 f1 w1 cc1 → (∀ j, (j < a + lo ∨ a + o + 1 ≤ j) → cc1[j]? = cc[j]?) → OptFld S R a n o sz w1 cc1 A →
      (seqL (rest.genR C T PT pv c1).1).wp P Q f1 w1 := by
    intro f1 w1 cc1 rs1 A hrd hto hsame hfld
    have hd1 : rest.chkD (segL cc1 a n) = true := by
      refine chkD_congr rest htr (fun j hj1 hj2 => ?_) hd.2
      rw [segL_get hj2, segL_get hj2]
      exact hsame _ (by omega)
    refine ih T PT pv _ Q f1 w1 b a n (o + 1) cc1 e ver fl R rs1 htr hNr ((hf.keep hto.keep.keeps (Nat.le_refl _)).up (by omega)) (by omega) hto.st hd1 ?_ ?_
    · intro hnone f2 w2 h6 he2
      exact h0 (by rw [hrd, hnone]; rfl) f2 w2 h6 (hto.ext.trans he2)
    · intro y rs2 hy f2 w2 cc2 hto2 hrep2
      refine h1 (A, y) rs2 (by rw [hrd, hy]; rfl) f2 w2 cc2 (hto.trans hto2 (by omega) (by omega) hm (by omega)) ⟨?_, hrep2⟩
      obtain ⟨v, q1, q2, q3⟩ := hfld
      refine ⟨v, ?_, q2, fun x hx => ?_⟩
      · rw [← q1, segL_get (by omega), segL_get (by omega)]
        exact hto2.same _ (.inl (by omega))
      · obtain ⟨b', c', es, p1, p2, p3, p4, p5, p6⟩ := q3 x hx
        exact ⟨b', c', es, p1, p2, Nat.lt_of_lt_of_le p3 hto2.ext.size, p4, CellsAt.ext hto2.ext hto.st.rw_.keepK p5 p2, Sch.Rep_ext hto2.ext hto.st.rw_.keepK S p6⟩
  refine seqL_cons ?_
  refine w_guard ht.c (show f 8 = _ from hf.ver) (show 8 < c.t by omega) (by omega) ?_ ?_
  · intro hon f1 hk1 h11
    have hf1 := hf.keep hk1 (by omega)
    have hD : R.D < w.heap.size := Nat.lt_of_lt_of_le hs.rw_.lt.2.2.1 hs.rw_.lt.2.2.2
    refine seqL_cons ?_
    have hcall := hN8 false (by simp) w R.pb R.D rs hs.rw_.ne.1 hD hs.rd
    refine r_call ht (fun h => by cases h) (x := (Prim.i8.rd false rs).1) (rs' := (Prim.i8.rd false rs).2) hs hf1.rd (by omega) (by omega) hcall ?_
    intro f2 w2 u hu hrep he2 hr2 hk2
    have hs2 := hs.ext1 he2 hr2
    have hul : f2 c.l = .int .i8 (show Int from (Prim.i8.rd false rs).1) := by
      have h1 : f2 c.l = u := by simpa [LocVal] using hu
      have h2 : u = .int .i8 (Prim.i8.rd false rs).1 := hrep
      rw [h1, h2]
    have hf2 : FrR C R f2 pv b a ver fl c.l := hf1.keep (t := c.l) (fun y hy hy1 => hk2 y (by omega) (by omega)) (Nat.le_refl _)
    have zl : ∀ m, (c.l = t1 + m) = False := by intro m; simp; omega
    have zl' : (c.l = t1) = False := by simp; omega
    have hrs := hf1.rsN
    have z7 : ∀ m, (C.rs = t1 + m) = False := by intro m; simp; omega
    have z71 : ∀ m, (C.rs = t1 + 1 + m) = False := by intro m; simp; omega
    have z7' : (C.rs = t1 + 1) = False := by simp; omega
    have absent : ∀ f' : Nat → Value, (∀ y, y < t1 → y ≠ c.l → f' y = f1 y) → optRd (S.rd ver fl) rs = some (none, (Prim.i8.rd false rs).2) → (seqL (rest.genR C T PT pv c1).1).wp P Q f' w2 := by
      intro f' hk' hrd
      refine behind f' w2 cc (Prim.i8.rd false rs).2 none ?_ ?_ (fun _ _ => rfl) ⟨_, hnil, fun _ => rfl, fun x hx => by cases hx⟩
      · simp only [Sch.rd, if_pos hon, hrd]; rfl
      · refine RdTo.read hs he2 hr2 (fun z hz1 hz => ?_)
        rw [hk' z (by omega) (by omega)]; exact hk1 z (by omega) hz1
    show (presI C c.l (t1 + 1) _).wp P _ f2 w2
    refine wp_seqI (wp_reg ?_)
    generalize hnn : (show Int from (Prim.i8.rd false rs).1) = nn at *
    have upA : ∀ y, y < t1 → y ≠ c.l → ∀ v1 v2 v3 v5, upd (upd (upd (upd f2 (t1 + 1) v1) (t1 + 1 + 1) v2) (t1 + 1 + 2) v3) (t1 + 1 + 4) v5 y = f1 y := by
      intro y hy hy1 v1 v2 v3 v5
      have a3 : ∀ n, (y = t1 + n) = False := by intro n; simp; omega
      have a4 : ∀ n, (y = t1 + 1 + n) = False := by intro n; simp; omega
      simp [a3, a4]
      exact hk2 y hy hy1
    have upB : ∀ y, y < t1 → y ≠ c.l → ∀ v1 v2 v3 v4 v5, upd (upd (upd (upd (upd f2 (t1 + 1) v1) (t1 + 1 + 1) v2) (t1 + 1 + 2) v3) (t1 + 1 + 3) v4) (t1 + 1 + 4) v5 y = f1 y := by
      intro y hy hy1 v1 v2 v3 v4 v5
      have a3 : ∀ n, (y = t1 + n) = False := by intro n; simp; omega
      have a4 : ∀ n, (y = t1 + 1 + n) = False := by intro n; simp; omega
      simp [a3, a4]
      exact hk2 y hy hy1
    by_cases hm1 : nn = -1
    · subst hm1
      simp [hul, zl, zl', bin?]
      refine .inr ⟨by simp, absent _ (fun y hy hy1 => ?_) ?_⟩
      · first | exact upA y hy hy1 _ _ _ _ | exact upB y hy hy1 _ _ _ _ _
      · unfold optRd
        have hnn' : (Prim.i8.rd false rs).1 = (show Int from -1) := hnn
        split
        · rfl
        · first | rfl | rw [if_pos hnn']
    · have hr7 : f2 C.rs = .pointer (some ⟨R.pb, 0, none⟩) := hf2.rd
      simp [hul, zl, zl', z7, z71, z7', bin?, hm1, hr7]
      refine (hNe.ok w2 R.pb R.D _ hr2).mono ?_
      rintro v w3 ⟨rfl, hw3⟩
      have hw3' := hw3.symm
      subst hw3'
      cases hb : (Prim.i8.rd false rs).2.bad
      · refine .inl ⟨by simp, ?_⟩
        generalize hf3 : upd (upd (upd (upd (upd f2 (t1 + 1) _) (t1 + 1 + 1) _) (t1 + 1 + 2) _) (t1 + 1 + 3) _) (t1 + 1 + 4) _ = f3
        have k3 : ∀ y, y < t1 → y ≠ c.l → f3 y = f1 y := fun y hy hy1 => by subst hf3; exact upB y hy hy1 _ _ _ _ _
        have p3 : f3 pv = .pointer (some ⟨b, a, none⟩) := (k3 pv (by omega) (by omega)).trans hf1.ptr
        refine seqL_append ?_
        have hb1 := hs.rw_.lt
        have hg : C.E.g_kbin_ErrNotEnoughData < w.heap.size := World.block_lt_of_cell? w _ hs.rw_.err
        have hsz2 := he2.size
        have zp : ∀ m, (pv = t1 + m) = False := by intro m; simp; omega
        have zp1 : ∀ m, (pv = c.l + m) = False := by intro m; simp; omega
        have zp6 : ∀ m, (pv = t1 + 6 + m) = False := by intro m; simp; omega
        have zl16 : ∀ m, (c.l + 1 = t1 + 6 + m) = False := by intro m; simp; omega
        have zl26 : ∀ m, (c.l + 2 = t1 + 6 + m) = False := by intro m; simp; omega
        have zp' : (pv = t1 + 6) = False := by simp; omega
        have zl1 : ∀ m, (c.l + 1 = t1 + m) = False := by intro m; simp; omega
        have zl2 : ∀ m, (c.l + 2 = t1 + m) = False := by intro m; simp; omega
        have hEA : Ext none1 w2 (w2.alloc (.cells zv.cells T')) := (Ext.refl none1 w2).alloc _
        have hbA : (w2.alloc (.cells zv.cells T')).heap[b]? = some (.cells cc e (0, 0)) := hEA.old hs2.blk (fun h => h)
        have haA : (w2.alloc (.cells zv.cells T')).heap[w2.heap.size]? = some (.cells zv.cells T' (0, 0)) := alloc_new
        refine seqL_cons (wp_reg ?_)
        simp [p3, zp, zp6, zp', hzv, hF, Addr.add_mk, store_scl (isScl_spec hk), Value.oneCell', put1K_blk hbA]
        refine ⟨by omega, ?_⟩
        generalize hab : w2.heap.size = ab at *
        generalize hccB : cc.setIfInBounds (a + o) (.pointer (some ⟨ab, 0, none⟩)) = ccB
        have hszB : ccB.size = cc.size := by subst hccB; simp
        generalize hwB : (w2.alloc (.cells zv.cells T')).setBlk b (.cells ccB e (0, 0)) = wB
        have hnab : b ≠ ab := by omega
        have hbB : wB.heap[b]? = some (.cells ccB e (0, 0)) := by subst hwB; exact setBlk_same hbA
        have hEA' : Ext (fun x => x = b) w2 (w2.alloc (.cells zv.cells T')) := hEA.mono (fun _ _ h => h.elim)
        have hEB : Ext (fun x => x = b) w2 wB := by subst hwB; exact hEA'.setBlk (b := b) (Or.inr rfl) _
        have haB : wB.heap[ab]? = some (.cells zv.cells T' (0, 0)) := by
          subst hwB
          exact ((Ext.refl (fun x => x = b) (w2.alloc (.cells zv.cells T'))).setBlk (b := b) (Or.inr rfl) _).old haA (fun h => hnab h.symm)
        have cB : wB.cell? ⟨b, a + o, none⟩ = some (.pointer (some ⟨ab, 0, none⟩)) := by
          rw [cell_of_blk hbB, ← hccB]
          simp [Array.getElem?_setIfInBounds]; omega
        show (seqL _).wp P _ _ wB
        refine seqL_cons (wp_reg ?_)
        simp [addrR, p3, zp, zp1, zp6, zp', hF, Addr.add_mk, ld_scl (isScl_spec hk), cB]
        show (seqL _).wp P _ _ wB
        refine seqL_cons (wp_reg ?_)
        simp [zl1, zl16]
        refine (hND wB ab 0 zv.cells T' haB (by omega)).mono ?_
        rintro v w3 rfl
        generalize hcur : setD 0 (S.dst C.toCfg) zv.cells = cur
        have hcurs : cur.size = sz := by subst hcur; rw [setD_size]; exact hzs
        have hchk' : S.chkD cur.toList = true := by subst hcur; exact hchk
        generalize hwC : wB.setBlk ab (.cells cur T' (0, 0)) = wC
        have haC : wC.heap[ab]? = some (.cells cur T' (0, 0)) := by subst hwC; exact setBlk_same haB
        have hEC : Ext (fun x => x = ab) wB wC := by subst hwC; exact (Ext.refl (fun x => x = ab) wB).setBlk (b := ab) (Or.inr rfl) _
        have hbC : wC.heap[b]? = some (.cells ccB e (0, 0)) := hEC.old hbB hnab
        have hE2C : Ext (fun x => x = b) w2 wC := hEB.trans' hEC (fun x hx hx2 => by rw [hab] at hx; omega)
        show (Ir.reg _).wp P _ _ wC
        refine wp_reg ?_
        simp [zl1, zl2, zl16, zl26]
        have hseg : segL cur 0 sz = cur.toList := by rw [← hcurs]; simp only [segL, List.drop_zero]; exact List.take_of_length_le (by simp)
        have hrC : RdAt C.E.tRd wC R.pb R.D (Prim.i8.rd false rs).2 := hr2.ext hE2C (fun h => hs.rw_.ne.2.2 h) (fun h => hs.rw_.ne.2.1 h.symm)
        have hstC : StR C (rdr' R ab) ab 0 sz wC cur T' (Prim.i8.rd false rs).2 := by
          refine ⟨haC, by omega, hrC, ⟨⟨?_, ?_, ?_, ?_⟩, ⟨hs.rw_.ne.1, ?_, ?_⟩, ?_, ⟨hs.rw_.errN.1, ?_⟩⟩⟩
          · show R.pb < ab + 1; omega
          · show ab < ab + 1; omega
          · show R.D < ab + 1; omega
          · exact lt_of_heap haC
          · show ab ≠ R.D; omega
          · show R.pb ≠ ab; omega
          · exact hE2C.cell hs2.rw_.err (fun h => hs.rw_.errN.2 h)
          · omega
        have tot : ∀ w', Ext (CB R ab) wC w' → Ext (CB R b) w w' := by
          intro w' h
          have h02 : Ext (CB R b) w wC := (he2.mono (fun _ _ h => .inl h)).trans (hE2C.mono (fun _ _ h => .inr h))
          exact h02.trans' (E := CB R b) h (fun x hx hc => by
            rcases hc with h | h
            · exact .inl h
            · omega) (fun x hx hc => hc)
        suffices H : ∀ F : Nat → Value, F (c.l + 2) = .pointer (some ⟨ab, 0, none⟩) → (∀ z, z < t1 → z ≠ c.l + 1 → z ≠ c.l + 2 → F z = f3 z) → (seqL eb).wp P (thenF ((seqL (Sch.genR C T PT pv rest c1).1).wp P Q) Q) F wC by
          refine H _ ?_ ?_
          · simp [zl1, zl2, zl16, zl26, zl]
          · intro z hz1 hz2 hz3
            have a3 : ∀ n, (z = t1 + n) = False := by intro n; simp; omega
            have a6 : ∀ n, (z = t1 + 6 + n) = False := by intro n; simp; omega
            have a6' : (z = t1 + 6) = False := by simp; omega
            have a7 : ∀ n, (z = t1 + 6 + 4 + n) = False := by intro n; simp; omega
            simp [a3, a6, a6', a7, hz2, hz3]
        intro F hF2 hFk
        refine hse _ _ wC ab 0 sz 0 cur T' ver fl (rdr' R ab) (Prim.i8.rd false rs).2 hte hNs ?_ (by omega) hstC (by rw [hseg]; exact hchk') ?_ ?_
        · have lo : ∀ y, y < c.l → F y = f3 y := fun y hy => hFk y (by omega) (by omega) (by omega)
          refine ⟨hF2, ⟨by omega, by omega⟩, hf1.v0, ?_, fun hx => ?_, hf1.flN, ?_, ?_, by omega, ⟨hf1.rsN.1, by have := hf1.rsN; omega⟩⟩
          · rw [lo 8 (by omega), k3 8 (by omega) (by omega)]; exact hf1.ver
          · rw [lo 9 (by omega), k3 9 (by omega) (by omega)]; exact hf1.flg hx
          · rw [lo C.rs (by omega), k3 C.rs (by omega) (by omega)]; exact hf1.rd
          · rw [lo 2 (by omega), k3 2 (by omega) (by omega)]; exact hf1.us
        · intro hnone f4 w4 h6 he4
          refine h0 ?_ f4 w4 h6 (tot w4 he4)
          have hrd : optRd (S.rd ver fl) rs = none := by
            unfold optRd
            rw [hb]
            simp only [Bool.false_eq_true, if_false]
            rw [if_neg (by intro h; exact hm1 (hnn.symm.trans h)), hnone]; rfl
          simp only [Sch.rd, if_pos hon, hrd]
        · intro x rs1 hx f4 w4 cc4 hto hrep
          have hrd : optRd (S.rd ver fl) rs = some (some x, rs1) := by
            unfold optRd
            rw [hb]
            simp only [Bool.false_eq_true, if_false]
            rw [if_neg (by intro h; exact hm1 (hnn.symm.trans h)), hx]; rfl
          have hb4 : w4.heap[b]? = some (.cells ccB e (0, 0)) := hto.ext.old hbC (by
            rintro (h | h)
            · exact hs.rw_.ne.2.2 h.symm
            · exact hnab h)
          have hext := tot w4 hto.ext
          refine behind f4 w4 ccB rs1 (some x) ?_ ?_ ?_ ?_
          · simp only [Sch.rd, if_pos hon, hrd]; rfl
          · refine ⟨hext, ⟨hb4, by omega, hto.st.rd, hs.rw_.ext hext⟩, hszB, ?_, ?_⟩
            · intro j hj
              rw [← hccB, Array.getElem?_setIfInBounds, if_neg (by omega)]
            · intro z hz1 hz
              rw [hto.keep z hz1 (by omega)]
              rw [hFk z (by omega) (by omega) (by omega), k3 z (by omega) (by omega)]
              exact hk1 z (by omega) hz1
          · intro j hj
            rw [← hccB, Array.getElem?_setIfInBounds, if_neg (by omega)]
          · refine ⟨.pointer (some ⟨ab, 0, none⟩), ?_, fun h => (by cases h), fun y hy => ?_⟩
            · rw [segL_get (by omega), ← hccB, Array.getElem?_setIfInBounds, if_pos rfl]
              simp; omega
            · cases hy
              refine ⟨ab, 0, segL cc4 0 sz, rfl, .inr (by omega), lt_of_heap hto.st.blk, segL_len (by have := hto.st.fit; omega), ?_, Sch.Rep_mono (fun k hk => ?_) S hrep⟩
              · have := cellsAt_seg (a := 0) (n := sz) hto.st.blk
                exact this
              · rcases hk with h | h
                · exact .inl h
                · exact .inr (by have h' : ab + 1 ≤ k := h; omega)
      · refine .inr ⟨by simp, absent _ (fun y hy hy1 => ?_) ?_⟩
        · exact upB y hy hy1 _ _ _ _ _
        · unfold optRd
          rw [if_pos hb]
  · intro hoff f1 hk1 h11
    refine behind f1 w cc rs none ?_ (RdTo.refl hs (KeepR.of hk1 (by omega))) (fun _ _ => rfl) ⟨_, hnil, fun _ => rfl, fun x hx => by cases hx⟩
    simp only [Sch.rd, hoff, Bool.false_eq_true, if_false]; rfl
theorem soundR (ht : TyR P C) : ∀ S : Sch, SoundR P C S := by
  intro S
  induction S with
  | fin => exact soundR_fin
  | tags k o => exact soundR_tags ht k o
  | prim g k o p en d rest ih => exact soundR_prim ht g k o p en d rest ih
  | arrP g k o sT nul p rest ih => exact soundR_arrP ht g k o sT nul p rest ih
  | arrS g k o sT nul T PT sz df e rest ihe ih => exact soundR_arrS ht g k o sT nul T PT sz df e rest ihe ih
  | sub g k o T PT sz df e rest ihe ih => exact soundR_sub ht g k o T PT sz df e rest ihe ih
  | opt g k o T PT PP sz df e rest ihe ih => exact soundR_opt ht g k o T PT PP sz df e rest ihe ih
end
end Go.Kg

set_option linter.unusedSimpArgs false
set_option linter.unusedVariables false
set_option linter.unusedSectionVars false
namespace Go.Kg
open Go
/-- a reader's cells -/
structure TyRb (P : Program) (E : Env) : Prop where
  z : zeroOf P E.tRd = some (.agg #[.slice none 0 0, .bool false])
  pl : places P E.tRd = some [(0, 1), (1, 1)]
  k : kindOf P E.tRd = .agg 2
structure MsgRk (P : Program) (C : CfgR) (T PT flex df n : Nat) (S : Sch) (nl : Nat) : Prop where
  rs7 : C.rs = 7
  ty : TyR P C
  rb : TyRb P C.E
  tyR : S.tyR P C T n 1 = true
  need : S.NeedR P C
  endc : EndC0 P C
  dfl : DefRC P C.toCfg n df S
  f0 : fldOff P T 0 = some 0
  nl : (S.genR C T PT (if C.fx then 10 else 9) (ctR C false nl)).2.l ≤ nl
theorem bld_rd {P : Program} {E : Env} (ht : TyRb P E) {sv : Value} (h : sv.cells = #[sv]) : bld? P E.tRd [(0, sv)] = some (.agg #[sv, .bool false]) := by
  have hz : (Value.agg #[.slice none 0 0, .bool false]).cells = #[.slice none 0 0, .bool false] := rfl
  simp only [bld?, ht.z, ht.pl, Instr.fill, hz]
  simp [h]
theorem bytes_one {w : World} {K : Nat → Prop} {v : Value} {s : List UInt8} (h : BytesAt w K v s) : v.oneCell' = true := by
  obtain ⟨a, c, rfl, _⟩ := h.len; rfl
def ReadPost (C : CfgR) (S : Sch) (flex b a n D : Nat) (w : World) (cc : Array Value) (e : TypeId) (ver : Int) (ev : Value) (rs : RS) (v : Value) (w' : World) : Prop :=
  Ext (· = b) w w' ∧ (S.rd ver (flagAt C.toCfg flex ver) rs = none → v = ev) ∧
  ∀ x rs', S.rd ver (flagAt C.toCfg flex ver) rs = some (x, rs') → v = (if rs'.bad then ev else .nilIface) ∧
    ∃ cc', w'.heap[b]? = some (.cells cc' e (0, 0)) ∧ cc'.size = cc.size ∧ (∀ j, (j < a + 1 ∨ a + n ≤ j) → cc'[j]? = cc[j]?) ∧ S.Rep w' (fun k => k = D ∨ w.heap.size < k) (segL cc' a n) x
theorem readFrom {P : Program} {C : CfgR} {T PT flex df n nl nt g : Nat} {S : Sch} (hm : MsgRk P C T PT flex df n S nl) (hnt : 3 ≤ nt) (hI : FnIs P g nt [.t 6] (msgR C T PT flex df false S nl)) {w : World} {b a D : Nat} {cc : Array Value} {e : TypeId} {sv : Value} {src : List UInt8} {ver : Int} {ev : Value}
    (hb : w.heap[b]? = some (.cells cc e (0, 0))) (hfit : a + n ≤ cc.size) (hver : (setD a (S.dst C.toCfg) cc)[a]? = some (.int .i16 ver)) (hchk : S.chkD (segL (setD a (S.dst C.toCfg) cc) a n) = true) (hsrc : BytesAt w (· = D) sv src) (hD : D < w.heap.size) (hbD : b ≠ D)
    (herr : w.cell? ⟨C.E.g_kbin_ErrNotEnoughData, 0, none⟩ = some ev) (hgb : C.E.g_kbin_ErrNotEnoughData ≠ b) (hv0 : 0 ≤ ver) :
    Ret P g #[.pointer (some ⟨b, a, none⟩), sv, .bool false] w fun v w' => ReadPost C S flex b a n D w (setD a (S.dst C.toCfg) cc) e ver ev ⟨src, false, nonNil sv⟩ v w' := by
  obtain ⟨hrs, ht, hrb, htyR, hN, hE, hdef, hf0, hnl⟩ := hm
  have hlt := lt_of_heap hb
  have hl7 := (genR_mono (C := C) S T PT (if C.fx then 10 else 9) (ctR C false nl)).1
  have q6 : 10 ≤ (ctR C false nl).l := by simp only [ctR]; split <;> omega
  have q7 : C.fx = true → 11 ≤ (ctR C false nl).l := by intro h; simp [ctR, h]
  have qt : nl + 10 ≤ (ctR C false nl).t := by simp [ctR]; split <;> omega
  have hnl10 : 10 ≤ nl := by omega
  refine hI.ret (args := [_, _, _]) hnt ?_
  generalize hccD : setD a (S.dst C.toCfg) cc = ccD at *
  have hszD : ccD.size = cc.size := by subst hccD; exact setD_size _ _ _
  have hsv1 := bytes_one hsrc
  have hgw : C.E.g_kbin_ErrNotEnoughData < w.heap.size := World.block_lt_of_cell? w _ herr
  generalize hR : (⟨w.heap.size, D, w.heap.size + 1, ev⟩ : Rdr) = R
  have rpb : R.pb = w.heap.size := by subst hR; rfl
  have rD : R.D = D := by subst hR; rfl
  have rbase : R.base = w.heap.size + 1 := by subst hR; rfl
  have rev : R.ev = ev := by subst hR; rfl
  -- behind the head
  have behind : ∀ (f : Nat → Value) (w1 : World), Ext (· = b) w w1 → StR C R b a n w1 ccD e ⟨src, false, nonNil sv⟩ → f (if C.fx then 10 else 9) = .pointer (some ⟨b, a, none⟩) → f 2 = .bool false → f 7 = .pointer (some ⟨w.heap.size, 0, none⟩) → f 8 = .int .i16 ver → (C.fx = true → f 9 = .bool (flagAt C.toCfg flex ver)) →
      (seqL ((S.genR C T PT (if C.fx then 10 else 9) (ctR C false nl)).1 ++ completeI C (S.genR C T PT (if C.fx then 10 else 9) (ctR C false nl)).2.t)).wp P (retPost P [.t 6] fun v w' => ReadPost C S flex b a n D w ccD e ver ev ⟨src, false, nonNil sv⟩ v w') f w1 := by
    intro f w1 he1 hst fpv f2 f7 f8 f9
    have tot : ∀ w', Ext (CB R b) w1 w' → Ext (· = b) w w' := by
      intro w' h
      refine he1.trans' h ?_
      rintro x hx (h | h)
      · rw [rpb] at h; omega
      · exact h
    refine seqL_append ?_
    refine soundR ht S T PT _ (ctR C false nl) _ f w1 b a n 1 ccD e ver (flagAt C.toCfg flex ver) R ⟨src, false, nonNil sv⟩ htyR hN ?_ (by omega) hst hchk ?_ ?_
    · refine ⟨fpv, ?_, fun _ => hv0, f8, f9, fun hx => by simp [flagAt, hx], by rw [hrs, rpb]; exact f7, f2, q6, ⟨by omega, by omega⟩⟩
      split
      · rename_i hx; exact ⟨by omega, by have := q7 hx; omega⟩
      · exact ⟨by omega, by omega⟩
    · intro hnone f' w' h6 he
      show retPost P [.t 6] (fun v w' => ReadPost C S flex b a n D w ccD e ver ev ⟨src, false, nonNil sv⟩ v w') .ret f' w'
      simp [h6, rev]
      exact ⟨tot w' he, fun _ => rfl, fun x rs' h => by rw [hnone] at h; cases h⟩
    · intro x rs' hx f' w' cc' hto hrep
      have k7 : f' C.rs = .pointer (some ⟨R.pb, 0, none⟩) := by rw [hrs, hto.keep 7 (by omega) (.inl (by omega)), rpb]; exact f7
      show (seqL (completeI C _)).wp P _ f' w'
      refine r_complete hE hto.st k7 ?_
      intro f'' h6
      show retPost P [.t 6] (fun v w' => ReadPost C S flex b a n D w ccD e ver ev ⟨src, false, nonNil sv⟩ v w') .ret f'' w'
      simp [h6, rev]
      refine ⟨tot w' hto.ext, fun h => (by rw [hx] at h; cases h), fun x2 rs2 h2 => ?_⟩
      rw [hx] at h2
      cases h2
      refine ⟨rfl, cc', hto.st.blk, hto.size, hto.same, Sch.Rep_mono (fun k hk => ?_) S hrep⟩
      rcases hk with h | h
      · exact .inl (by rw [← rD]; exact h)
      · exact .inr (by rw [rbase] at h; omega)
  -- the head
  have n0 : ∀ k, (0 = nl + k) = False := by intro k; simp; omega
  have n1 : ∀ k, (1 = nl + k) = False := by intro k; simp; omega
  have n2 : ∀ k, (2 = nl + k) = False := by intro k; simp; omega
  have n6 : ∀ k, (6 = nl + k) = False := by intro k; simp; omega
  have n7 : ∀ k, (7 = nl + k) = False := by intro k; simp; omega
  have n8 : ∀ k, (8 = nl + k) = False := by intro k; simp; omega
  have n9 : ∀ k, (9 = nl + k) = False := by intro k; simp; omega
  have n0' : (0 = nl) = False := by simp; omega
  have n1' : (1 = nl) = False := by simp; omega
  have n2' : (2 = nl) = False := by simp; omega
  have n7' : (7 = nl) = False := by simp; omega
  have n8' : (8 = nl) = False := by simp; omega
  have n9' : (9 = nl) = False := by simp; omega
  have m0 : (nl = 0) = False := by simp; omega
  have m1 : (nl = 1) = False := by simp; omega
  have m2 : (nl = 2) = False := by simp; omega
  have m3 : (nl = 3) = False := by simp; omega
  have m4 : (nl = 4) = False := by simp; omega
  have m5 : (nl = 5) = False := by simp; omega
  have m6 : (nl = 6) = False := by simp; omega
  have m7 : (nl = 7) = False := by simp; omega
  have m8 : (nl = 8) = False := by simp; omega
  have m9 : (nl = 9) = False := by simp; omega
  have kI16 : kindOf P C.E.tI16 = .scl := ht.c.kI16
  -- the world behind the head
  generalize hw1 : w.setBlk b (.cells ccD e (0, 0)) = w1
  have hw1s : w1.heap.size = w.heap.size := by subst hw1; simp
  have hbw1 : w1.heap[b]? = some (.cells ccD e (0, 0)) := by subst hw1; exact setBlk_same hb
  have hE1 : Ext (fun k => k = b) w w1 := by subst hw1; exact (Ext.refl (fun k => k = b) w).setBlk (b := b) (Or.inr rfl) _
  generalize hw2 : (w1.alloc (.cells #[.slice none 0 0, .bool false] C.E.tRd)).setBlk w1.heap.size (.cells #[sv, .bool false] C.E.tRd (0, 0)) = w2
  have hE2 : Ext none1 w1 w2 := by subst hw2; exact ((Ext.refl none1 w1).alloc _).setBlk (.inl (Nat.le_refl _)) _
  have hpb2 : w2.heap[w.heap.size]? = some (.cells #[sv, .bool false] C.E.tRd (0, 0)) := by subst hw2; rw [← hw1s]; exact setBlk_same alloc_new
  have hbw2 : w2.heap[b]? = some (.cells ccD e (0, 0)) := hE2.old hbw1 (fun h => h)
  have hE12 : Ext (fun k => k = b) w w2 := hE1.trans (hE2.mono (fun _ _ h => h.elim))
  have hst : StR C R b a n w2 ccD e ⟨src, false, nonNil sv⟩ := by
    refine ⟨hbw2, by omega, ?_, ⟨⟨?_, ?_, ?_, ?_⟩, ⟨?_, ?_, ?_⟩, ?_, ⟨?_, ?_⟩⟩⟩
    · rw [rpb, rD]
      exact ⟨sv, hpb2, hsrc.ext hE12 (by rintro k _ rfl h; exact hbD h.symm), rfl⟩
    · rw [rpb, rbase]; omega
    · rw [rbase]; omega
    · rw [rD, rbase]; omega
    · rw [rbase]; exact lt_of_heap hpb2
    · rw [rpb, rD]; omega
    · rw [rD]; exact hbD
    · rw [rpb]; omega
    · rw [rev]; exact hE12.cell herr (fun h => hgb h)
    · rw [rpb]; omega
    · exact hgb
  have cv : w2.cell? ⟨b, a, none⟩ = some (.int .i16 ver) := by rw [cell_of_blk hbw2]; exact hver
  have key : ∀ (fl : List Ir) (pv t' : Nat), pv = (if C.fx then 10 else 9) → t' = nl + (if C.fx then 12 else 9) → (if C.fx then [Ir.reg [⟨none, some (nl + 9), .move (.tmp 8), C.E.tI16⟩, ⟨none, some (nl + 10), .binOp .geq C.E.tI16 (.tmp (nl + 9)) (.const (.int .i16 flex)) C.E.tI16, C.E.tB⟩, ⟨none, some 9, .assign (.tmp (nl + 10)), C.E.tB⟩],
      .reg [⟨none, some (nl + 11), .move (.tmp 9), C.E.tB⟩]] else []) = fl →
      (seqL ([.reg [⟨none, some 6, .assign (.const .nilIface), C.E.tErr⟩],
    .reg [⟨none, some nl, .move (.tmp 0), PT⟩, ⟨none, some (nl + 1), .call { callee := .value (.func df), args := #[.tmp nl], argTypes := #[PT] }, C.E.tNil⟩],
    .reg [⟨none, some (nl + 2), .move (.tmp 1), C.E.tBs⟩, ⟨none, some (nl + 3), .build C.E.tRd #[(0, .tmp (nl + 2))], C.E.tRd⟩, ⟨none, some 7, .alloc C.E.tRd, C.E.tNil⟩, ⟨none, none, .store C.E.tRd (.tmp 7) (.tmp (nl + 3)), C.E.tNil⟩],
    .reg (addrR C.toCfg T PT 0 0 (nl + 4) ++ [⟨none, some (nl + 7), .load C.E.tI16 (.tmp (nl + 6)), C.E.tI16⟩, ⟨none, some 8, .assign (.tmp (nl + 7)), C.E.tI16⟩]),
    .reg [⟨none, some (nl + 8), .move (.tmp 8), C.E.tI16⟩]] ++ (fl ++ ([.reg [⟨none, some t', .move (.tmp 0), PT⟩, ⟨none, some pv, .assign (.tmp t'), PT⟩]] ++ ((S.genR C T PT (if C.fx then 10 else 9) (ctR C false nl)).1 ++ completeI C (S.genR C T PT (if C.fx then 10 else 9) (ctR C false nl)).2.t))))).wp P
        (retPost P [.t 6] fun v w' => ReadPost C S flex b a n D w ccD e ver ev ⟨src, false, nonNil sv⟩ v w') (frame0 [.pointer (some ⟨b, a, none⟩), sv, .bool false]) w := by
    intro fl pv t' hpv ht' hfl
    simp only [List.cons_append, List.nil_append]
    refine seqL_cons (wp_reg ?_)
    simp
    refine seqL_cons (wp_reg ?_)
    simp
    refine (hdef w b a cc e hb hfit).mono ?_
    rintro v w1' ⟨rfl⟩
    rw [hccD, hw1]
    refine seqL_cons (wp_reg ?_)
    simp [n0, n0', n1, n1', n2, n2', n6, n7, n7', n8, n8', n9, n9', m0, m1, m2, m3, m4, m5, m6, m7, m8, m9, bld_rd hrb (cells_one hsv1), hrb.z, Value.cells, store_agg hrb.k, putK_blk alloc_new, hsv1]
    have hov : over #[.slice none 0 0, .bool false] 0 [sv, .bool false] = #[sv, .bool false] := by simp [over]
    rw [hov, hw2]
    refine ⟨by simp only [allOne, hsv1, Bool.true_and]; rfl, ?_⟩
    show (seqL _).wp P _ _ w2
    refine seqL_cons (wp_reg ?_)
    simp [n0, n0', n1, n1', n2, n2', n6, n7, n7', n8, n8', n9, n9', m0, m1, m2, m3, m4, m5, m6, m7, m8, m9, addrR, hf0, Addr.add_mk, ld_scl kI16, cv]
    refine seqL_cons (wp_reg ?_)
    simp [n0, n0', n1, n1', n2, n2', n6, n7, n7', n8, n8', n9, n9', m0, m1, m2, m3, m4, m5, m6, m7, m8, m9]
    refine seqL_append ?_
    have e1w : w1.heap.size = w.heap.size := hw1s
    by_cases hx : C.fx = true
    · rw [if_pos hx] at hfl
      subst hfl
      rw [if_pos hx] at hpv ht'
      subst hpv
      subst ht'
      refine seqL_cons (wp_reg ?_)
      simp [n0, n0', n1, n1', n2, n2', n6, n7, n7', n8, n8', n9, n9', m0, m1, m2, m3, m4, m5, m6, m7, m8, m9]
      show (Ir.reg _).wp P _ _ _
      refine wp_reg ?_
      simp [n0, n0', n1, n1', n2, n2', n6, n7, n7', n8, n8', n9, n9', m0, m1, m2, m3, m4, m5, m6, m7, m8, m9]
      refine seqL_cons (wp_reg ?_)
      simp [n0, n0', n1, n1', n2, n2', n6, n7, n7', n8, n8', n9, n9', m0, m1, m2, m3, m4, m5, m6, m7, m8, m9]
      refine behind _ w2 hE12 hst ?_ ?_ ?_ ?_ ?_
      · simp [n0, n0', n1, n1', n2, n2', n6, n7, n7', n8, n8', n9, n9', m0, m1, m2, m3, m4, m5, m6, m7, m8, m9, hx]
      · simp [n0, n0', n1, n1', n2, n2', n6, n7, n7', n8, n8', n9, n9', m0, m1, m2, m3, m4, m5, m6, m7, m8, m9]
      · simp [n0, n0', n1, n1', n2, n2', n6, n7, n7', n8, n8', n9, n9', m0, m1, m2, m3, m4, m5, m6, m7, m8, m9, e1w]
      · simp [n0, n0', n1, n1', n2, n2', n6, n7, n7', n8, n8', n9, n9', m0, m1, m2, m3, m4, m5, m6, m7, m8, m9]
      · intro _; simp [n0, n0', n1, n1', n2, n2', n6, n7, n7', n8, n8', n9, n9', m0, m1, m2, m3, m4, m5, m6, m7, m8, m9, flagAt, hx]
    · rw [if_neg hx] at hfl
      subst hfl
      rw [if_neg hx] at hpv ht'
      subst hpv
      subst ht'
      show (seqL _).wp P _ _ w2
      refine seqL_cons (wp_reg ?_)
      simp [n0, n0', n1, n1', n2, n2', n6, n7, n7', n8, n8', n9, n9', m0, m1, m2, m3, m4, m5, m6, m7, m8, m9]
      refine behind _ w2 hE12 hst ?_ ?_ ?_ ?_ ?_
      · simp [n0, n0', n1, n1', n2, n2', n6, n7, n7', n8, n8', n9, n9', m0, m1, m2, m3, m4, m5, m6, m7, m8, m9, hx]
      · simp [n0, n0', n1, n1', n2, n2', n6, n7, n7', n8, n8', n9, n9', m0, m1, m2, m3, m4, m5, m6, m7, m8, m9]
      · simp [n0, n0', n1, n1', n2, n2', n6, n7, n7', n8, n8', n9, n9', m0, m1, m2, m3, m4, m5, m6, m7, m8, m9, e1w]
      · simp [n0, n0', n1, n1', n2, n2', n6, n7, n7', n8, n8', n9, n9', m0, m1, m2, m3, m4, m5, m6, m7, m8, m9]
      · intro h; exact absurd h hx
  have := key _ _ _ rfl rfl rfl
  simp only [← List.append_assoc] at this
  exact this
end Go.Kg

set_option linter.unusedSimpArgs false
set_option linter.unusedVariables false
set_option linter.unusedSectionVars false
namespace Go.Kg
open Go
section
variable {P : Program} {C : CfgR}
theorem primR_of {p : Prim} {f : Nat} {g : RS → Value × RS} {fl : Bool} (hf : p.fR C.E fl = f) (h : RdC P C.E.tRd f g) (h1 : ∀ w K rs, p.rep1 w K (g rs).1 (p.rd fl rs).1) (h2 : ∀ rs, (g rs).2 = (p.rd fl rs).2) : ∀ w pb D rs, pb ≠ D → D < w.heap.size → RdAt C.E.tRd w pb D rs →
    Ret P (p.fR C.E fl) #[.pointer (some ⟨pb, 0, none⟩)] w fun v w' => p.rep1 w' (fun b => b = D ∨ w.heap.size ≤ b) v (p.rd fl rs).1 ∧ Ext (· = pb) w w' ∧ RdAt C.E.tRd w' pb D (p.rd fl rs).2 := by
  intro w pb D rs hne hD hr
  subst hf
  refine (h w pb D rs hne hr).mono ?_
  rintro v w1 ⟨rfl, he, hr1⟩
  exact ⟨h1 _ _ _, he, by rw [← h2]; exact hr1⟩
theorem primR_i32 (h : RdC P C.E.tRd C.E.f_pkbin_Reader_Int32 fun rs => (.int .i32 (IntKind.i32.wrap (rdFixed 4 rs).1), (rdFixed 4 rs).2)) : PrimR P C .i32 := fun fl _ => primR_of rfl h (fun _ _ _ => rfl) (fun _ => rfl)
theorem primR_str (h : RdC P C.E.tRd C.E.f_pkbin_Reader_String fun rs => (strV (rdStr rs).1, (rdStr rs).2)) (hc : C.fx = true → RdC P C.E.tRd C.E.f_pkbin_Reader_CompactString fun rs => (strV (rdCStr rs).1, (rdCStr rs).2)) : PrimR P C .str := by
  intro fl hx
  cases fl
  · exact primR_of rfl h (fun _ _ _ => rfl) (fun _ => rfl)
  · exact primR_of rfl (hc (hx rfl)) (fun _ _ _ => rfl) (fun _ => rfl)
theorem primRP_of {p : Prim} {f : Nat} {g : RS → p.T × RS} {Rx : World → Nat → World → Value → p.T → Prop} {fl : Bool} (hf : p.fR C.E fl = f) (h : RdPC P C.E.tRd f Rx g) (hg : p.rd fl = g) (h1 : ∀ w0 D w v x, Rx w0 D w v x → p.rep1 w (fun b => b = D ∨ w0.heap.size ≤ b) v x) : ∀ w pb D rs, pb ≠ D → D < w.heap.size → RdAt C.E.tRd w pb D rs →
    Ret P (p.fR C.E fl) #[.pointer (some ⟨pb, 0, none⟩)] w fun v w' => p.rep1 w' (fun b => b = D ∨ w.heap.size ≤ b) v (p.rd fl rs).1 ∧ Ext (· = pb) w w' ∧ RdAt C.E.tRd w' pb D (p.rd fl rs).2 := by
  intro w pb D rs hne hD hr
  subst hf
  rw [hg]
  refine (h w pb D rs hne hD hr).mono ?_
  rintro v w1 ⟨h2, he, hr1⟩
  exact ⟨h1 _ _ _ _ _ h2, he, hr1⟩
theorem primR_nstr (h : RdPC P C.E.tRd C.E.f_pkbin_Reader_NullableString RNStr rdNStr) (hc : C.fx = true → RdPC P C.E.tRd C.E.f_pkbin_Reader_CompactNullableString RNStr rdCNStr) : PrimR P C .nstr := by
  intro fl hx
  cases fl
  · exact primRP_of rfl h rfl (fun w0 D w v x h => show StrPtr w (fun b => b = D ∨ w0.heap.size ≤ b) v x from StrPtr.mono (fun _ hb => Or.inr hb) h)
  · exact primRP_of rfl (hc (hx rfl)) rfl (fun w0 D w v x h => show StrPtr w (fun b => b = D ∨ w0.heap.size ≤ b) v x from StrPtr.mono (fun _ hb => Or.inr hb) h)
theorem endC0_of (ht : TyRs P C.E) (kErr : kindOf P C.E.tErr = .scl) (h2 : FnIs P C.E.f_pkbin_Reader_Complete nt_pkbin_Reader_Complete (rs_pkbin_Reader_Complete C.E) (ir_pkbin_Reader_Complete C.E)) : EndC0 P C :=
  { complete := fun w pb D rs ev hr hev => c_Complete ht kErr h2 hr hev }
end
end Go.Kg

set_option linter.unusedSimpArgs false
set_option linter.unusedVariables false
namespace Go.Kg
open Go
def irNewPtr (C : Cfg) (T PT fDef : Nat) : Ir :=
  .seq (.reg [⟨none, some 0, .assign (.const (.pointer none)), PT⟩]) (.seq (.reg [⟨none, some 1, .alloc T, C.E.tNil⟩])
  (.seq (.reg [⟨none, some 2, .call { callee := .value (.func fDef), args := #[.tmp 1], argTypes := #[T] }, C.E.tNil⟩])
  (.seq (.reg [⟨none, some 0, .assign (.tmp 1), PT⟩]) .ret)))
def irSetV (C : Cfg) (T PT : Nat) : Ir :=
  .reg [⟨none, some 4, .move (.tmp 0), PT⟩, ⟨none, some 5, .move (.tmp 1), C.E.tI16⟩, ⟨none, some 6, .nilCheck (.tmp 4), C.E.tNil⟩, ⟨none, some 7, .fieldAddr T (.tmp 6) 0, C.E.tNil⟩, ⟨none, none, .store C.E.tI16 (.tmp 7) (.tmp 5), C.E.tNil⟩]
theorem newPtrC {P : Program} {C : Cfg} {T PT n g nt fDef : Nat} {S : Sch} {z : Array Value} (hI : FnIs P g nt [.t 0] (irNewPtr C T PT fDef)) (hz : zeroOf P T = some (.agg z)) (hn : n ≤ z.size)
    (hD : ∀ {w : World} {b a : Nat} {c : Array Value} {e : TypeId}, w.heap[b]? = some (.cells c e (0, 0)) → a + n ≤ c.size → Ret P fDef #[.pointer (some ⟨b, a, none⟩)] w fun _ w' => w' = w.setBlk b (.cells (setD a (S.dst C) c) e (0, 0))) (w : World) :
    Ret P g #[] w fun v w' => v = .pointer (some ⟨w.heap.size, 0, none⟩) ∧ w'.heap[w.heap.size]? = some (.cells (setD 0 (S.dst C) z) T (0, 0)) ∧ Ext none1 w w' ∧ w.heap.size < w'.heap.size := by
  refine hI.call (args := []) (by simp) ?_
  simp [irNewPtr, hz, Value.cells]
  refine (hD (b := w.heap.size) (a := 0) (c := z) (e := T) alloc_new (by omega)).mono ?_
  rintro v w' rfl
  have h1 : ((w.alloc (.cells z T)).setBlk w.heap.size (.cells (setD 0 (S.dst C) z) T (0, 0))).heap[w.heap.size]? = some (.cells (setD 0 (S.dst C) z) T (0, 0)) := setBlk_same alloc_new
  have h2 : Ext none1 w ((w.alloc (.cells z T)).setBlk w.heap.size (.cells (setD 0 (S.dst C) z) T (0, 0))) := ((Ext.refl none1 w).alloc _).setBlk (.inl (Nat.le_refl _)) _
  first | exact ⟨rfl, h1, h2, by simp⟩ | exact ⟨h1, h2, by simp⟩
theorem setVC {P : Program} {C : Cfg} {T PT g nt : Nat} (hnt : 2 ≤ nt) (hI : FnIs P g nt [] (irSetV C T PT)) (h0 : fldOff P T 0 = some 0) (hk : kindOf P C.E.tI16 = .scl) {w : World} {b : Nat} {c : Array Value} {e : TypeId} (hb : w.heap[b]? = some (.cells c e (0, 0))) (hc : 0 < c.size) (ver : Int) :
    Ret P g #[.pointer (some ⟨b, 0, none⟩), .int .i16 ver] w fun _ w' => w' = w.setBlk b (.cells (c.setIfInBounds 0 (.int .i16 ver)) e (0, 0)) := by
  refine hI.call (args := [_, _]) hnt ?_
  simp [irSetV, h0, Addr.add_mk, store_scl hk, Value.oneCell', put1K_blk hb, hc]
end Go.Kg

set_option linter.unusedSimpArgs false
set_option linter.unusedVariables false
set_option linter.unusedSectionVars false
namespace Go.Kg
open Go
/-- what is told of a thing lies in blocks that are there -/
theorem Sch.Rep_lt {w : World} {K : Nat → Prop} : ∀ (S : Sch) {cs : List Value} {x : S.T}, S.Rep w K cs x → S.Rep w (fun k => k < w.heap.size) cs x := by
  have hB : ∀ {v : Value} {s : List UInt8}, BytesAt w K v s → BytesAt w (fun k => k < w.heap.size) v s := by
    rintro v s (h | ⟨b, o, c, h1, h2, h3, h4⟩)
    · exact .inl h
    · refine .inr ⟨b, o, c, h1, h2, fun hs => ?_, h4⟩
      cases s with
      | nil => exact absurd rfl hs
      | cons y s => exact World.block_lt_of_cell? w _ (h4 0 y rfl)
  have hP : ∀ {p : Prim} {v : Value} {x : p.T}, p.rep1 w K v x → p.rep1 w (fun k => k < w.heap.size) v x := by
    intro p v x h
    cases p with
    | bytes => exact hB h
    | nstr =>
      cases x with
      | none => exact h
      | some l => obtain ⟨a, h1, _, h3⟩ := h; exact ⟨a, h1, World.block_lt_of_cell? w _ h3, h3⟩
    | nbytes =>
      cases x with
      | none => exact h
      | some l => exact ⟨hB h.1, h.2⟩
    | _ => exact h
  intro S
  induction S with
  | fin => intro cs x h; trivial
  | tags k o =>
    intro cs x ⟨v, h1, h2⟩
    refine ⟨v, h1, ?_⟩
    rcases h2 with h | ⟨b, es, clock, rfl, hk, hb, hs, hn, hl, hx⟩
    · exact .inl h
    · refine .inr ⟨b, es, clock, rfl, lt_of_heap hb, hb, hs, hn, hl, fun i e x h1 h2 => ?_⟩
      obtain ⟨a1, a2, a3, a4⟩ := hx i e x h1 h2
      exact ⟨a1, a2, a3, hB a4⟩
  | prim g k o p en d rest ih => intro cs x ⟨⟨v, h1, h2⟩, h3⟩; exact ⟨⟨v, h1, hP h2⟩, ih h3⟩
  | arrP g k o sT nul p rest ih =>
    intro cs x ⟨⟨v, ls, h1, h2, h3, h4, h5⟩, h6⟩
    refine ⟨⟨v, ls, h1, ?_, h3, h4, fun i es y hi hy => ?_⟩, ih h6⟩
    · cases ls with
      | none => exact h2
      | some ls => obtain ⟨b, o, c, rfl, hk, hn, hx⟩ := h2; exact ⟨b, o, c, rfl, h3.2 _ _ _ rfl, hn, hx⟩
    · obtain ⟨u, a1, a2⟩ := h5 i es y hi hy
      exact ⟨u, a1, hP a2⟩
  | arrS g k o sT nul T PT sz df e rest ihe ih =>
    intro cs x ⟨⟨v, ls, h1, h2, h3, h4, h5⟩, h6⟩
    refine ⟨⟨v, ls, h1, ?_, h3, h4, fun i es y hi hy => ihe (h5 i es y hi hy)⟩, ih h6⟩
    cases ls with
    | none => exact h2
    | some ls => obtain ⟨b, o, c, rfl, hk, hn, hx⟩ := h2; exact ⟨b, o, c, rfl, h3.2 _ _ _ rfl, hn, hx⟩
  | sub g k o T PT sz df e rest ihe ih => intro cs x ⟨h1, h2⟩; exact ⟨ihe h1, ih h2⟩
  | opt g k o T PT PP sz df e rest ihe ih =>
    intro cs x ⟨⟨v, h1, h2, h3⟩, h4⟩
    refine ⟨⟨v, h1, h2, fun y hy => ?_⟩, ih h4⟩
    obtain ⟨b, c, es, a1, a2, a3, a4, a5, a6⟩ := h3 y hy
    exact ⟨b, c, es, a1, a3, a3, a4, a5, ihe a6⟩
def irRF (C : Cfg) (PT fR : Nat) : Ir :=
  .seq (.reg [⟨none, some 4, .assign (.const .nilIface), C.E.tErr⟩])
  (.seq (.reg [⟨none, some 5, .move (.tmp 0), PT⟩, ⟨none, some 6, .move (.tmp 1), C.E.tBs⟩, ⟨none, some 7, .call { callee := .value (.func fR), args := #[.tmp 5, .tmp 6, .const (.bool false)], argTypes := #[PT, C.E.tBs, C.E.tB] }, C.E.tErr⟩,
    ⟨none, some 4, .assign (.tmp 7), C.E.tErr⟩]) .ret)
theorem c_RF {P : Program} {C : Cfg} {PT fR g nt : Nat} (hnt : 2 ≤ nt) (hI : FnIs P g nt [.t 4] (irRF C PT fR)) {u v : Value} {w : World} {X : Value → World → Prop} (h : Ret P fR #[u, v, .bool false] w X) : Ret P g #[u, v] w X := by
  refine hI.call (args := [_, _]) hnt ?_
  simp [irRF]
  refine h.mono ?_
  intro v' w' hx
  simpa using hx
theorem BytesAt.oneD {w : World} {K : Nat → Prop} {v : Value} {s : List UInt8} (h : BytesAt w K v s) (D0 : Nat) : ∃ D, BytesAt w (· = D) v s ∧ (D = D0 ∨ (K D ∧ D < w.heap.size)) := by
  rcases h with h | ⟨b, o, c, rfl, h1, h2, h3⟩
  · exact ⟨D0, .inl h, .inl rfl⟩
  · cases s with
    | nil => exact ⟨D0, .inr ⟨b, o, c, rfl, h1, by simp, by simp⟩, .inl rfl⟩
    | cons x s => exact ⟨b, .inr ⟨b, o, c, rfl, h1, fun _ => rfl, h3⟩, .inr ⟨h2 (by simp), World.block_lt_of_cell? w _ (h3 0 x rfl)⟩⟩
/-- what Again hands back -/
def AgainPost (S : Sch) (ver : Int) (fl : Bool) (src : List UInt8) (w : World) (u : Value) (w' : World) : Prop :=
  Ext none1 w w' ∧ ∃ nn, match S.rd ver fl ⟨src, false, nn⟩ with
    | some (x, rs) => if rs.bad then u = .tuple #[.slice none 0 0, .bool false] else ∃ v, u = .tuple #[v, .bool true] ∧ BytesAt w' (fun k => w.heap.size ≤ k) v (S.wr ver fl x)
    | none => u = .tuple #[.slice none 0 0, .bool false]
end Go.Kg

set_option linter.unusedSimpArgs false
set_option linter.unusedVariables false
set_option linter.unusedSectionVars false
namespace Go.Kg
open Go
end Go.Kg

set_option linter.unusedVariables false
namespace Go.Kg
open Go
def ir_laws_version (E : Env) : Ir := (.seq (.reg [ ⟨none, some 4, .assign (.const (.int .i64 0)), E.tInt⟩]) (.seq (.reg [ ⟨none, some 5, .move (.tmp 0), E.tU8⟩, ⟨none, some 6, .convert E.tU8 E.tInt (.tmp 5), E.tInt⟩, ⟨none, some 7, .move (.tmp 1), E.tInt⟩, ⟨none, some 8, .binOp .add E.tInt (.tmp 7) (.const (.int .i64 1)) E.tInt, E.tInt⟩, ⟨none, some 9, .binOp .rem E.tInt (.tmp 6) (.tmp 8) E.tInt, E.tInt⟩, ⟨none, some 4, .assign (.tmp 9), E.tInt⟩]) .ret))
def nt_laws_version : Nat := 10
def rs_laws_version (E : Env) : List Rv := [.t 4]
def ir_laws_zzFits2 (E : Env) : Ir := (.seq (.reg [ ⟨none, some 1, .box E.t_spec_Tree (.tmp 0), E.tNil⟩, ⟨none, some 2, .assign (.const (.bool false)), E.tB⟩]) (.seq (.seq (.reg [ ⟨none, some 3, .fieldAddr E.t_spec_Tree (.tmp 1) 1, E.tNil⟩, ⟨none, some 4, .load E.tBs (.tmp 3), E.tBs⟩, ⟨none, some 5, .call { callee := .builtin .len, args := #[.tmp 4], argTypes := #[E.tBs] }, E.tInt⟩, ⟨none, some 6, .binOp .gtr E.tInt (.tmp 5) (.const (.int .i64 2147483647)) E.tInt, E.tB⟩]) (.cond 6 (.seq (.reg [ ⟨none, some 2, .assign (.const (.bool false)), E.tB⟩]) .ret) .skip)) (.seq (.seq (.reg [ ⟨none, some 7, .fieldAddr E.t_spec_Tree (.tmp 1) 3, E.tNil⟩, ⟨none, some 8, .load E.t_l_spec_Tree (.tmp 7), E.t_l_spec_Tree⟩, ⟨none, some 9, .call { callee := .builtin .len, args := #[.tmp 8], argTypes := #[E.t_l_spec_Tree] }, E.tInt⟩, ⟨none, some 10, .binOp .gtr E.tInt (.tmp 9) (.const (.int .i64 2147483647)) E.tInt, E.tB⟩]) (.cond 10 (.seq (.reg [ ⟨none, some 2, .assign (.const (.bool false)), E.tB⟩]) .ret) .skip)) (.seq (.seq (.reg [ ⟨none, some 11, .fieldAddr E.t_spec_Tree (.tmp 1) 4, E.tNil⟩, ⟨none, some 12, .load E.t_l_spec_Tag (.tmp 11), E.t_l_spec_Tag⟩, ⟨none, some 13, .call { callee := .value (.func E.f_laws_zzFits3), args := #[.tmp 12], argTypes := #[E.t_l_spec_Tag] }, E.tB⟩, ⟨none, some 14, .unOp .not E.tB (.tmp 13), E.tB⟩]) (.cond 14 (.seq (.reg [ ⟨none, some 2, .assign (.const (.bool false)), E.tB⟩]) .ret) .skip)) (.seq (.reg [ ⟨none, some 2, .assign (.const (.bool true)), E.tB⟩]) .ret)))))
def nt_laws_zzFits2 : Nat := 15
def rs_laws_zzFits2 (E : Env) : List Rv := [.t 2]
def ir_laws_zzFits3 (E : Env) : Ir := (.seq (.reg [ ⟨none, some 2, .assign (.const (.bool false)), E.tB⟩]) (.seq (.seq (.reg [ ⟨none, some 5, .move (.tmp 0), E.t_l_spec_Tag⟩, ⟨none, some 6, .call { callee := .builtin .len, args := #[.tmp 5], argTypes := #[E.t_l_spec_Tag] }, E.tInt⟩, ⟨none, some 7, .binOp .gtr E.tInt (.tmp 6) (.const (.int .i64 2147483647)) E.tInt, E.tB⟩]) (.cond 7 (.seq (.reg [ ⟨none, some 2, .assign (.const (.bool false)), E.tB⟩]) .ret) .skip)) (.seq (.seq (.reg [ ⟨none, some 8, .move (.tmp 0), E.t_l_spec_Tag⟩, ⟨none, some 9, .call { callee := .builtin .len, args := #[.tmp 8], argTypes := #[E.t_l_spec_Tag] }, E.tInt⟩, ⟨none, some 10, .move (.const (.int .i64 0)), E.tInt⟩]) (.block 0 (.loop (.seq (.reg [ ⟨none, some 11, .binOp .lss E.tInt (.tmp 10) (.tmp 9) E.tInt, E.tNil⟩]) (.seq (.cond 11 .skip (.exit 0)) (.seq (.block 1 (.seq (.reg [ ⟨none, some 12, .indexAddr E.t_l_spec_Tag (.tmp 8) (.tmp 10), E.tNil⟩, ⟨none, some 13, .load E.t_spec_Tag (.tmp 12), E.t_spec_Tag⟩, ⟨none, some 4, .alloc E.t_spec_Tag, E.tNil⟩, ⟨none, none, .store E.t_spec_Tag (.tmp 4) (.tmp 13), E.tNil⟩]) (.seq (.reg [ ⟨none, some 14, .load E.t_spec_Tag (.tmp 4), E.t_spec_Tag⟩, ⟨none, some 15, .call { callee := .value (.func E.f_laws_zzFits4), args := #[.tmp 14], argTypes := #[E.t_spec_Tag] }, E.tB⟩, ⟨none, some 16, .unOp .not E.tB (.tmp 15), E.tB⟩]) (.cond 16 (.seq (.reg [ ⟨none, some 2, .assign (.const (.bool false)), E.tB⟩]) .ret) .skip)))) (.reg [ ⟨none, some 17, .binOp .add E.tInt (.tmp 10) (.const (.int .i64 1)) E.tInt, E.tInt⟩, ⟨none, some 10, .move (.tmp 17), E.tInt⟩]))))))) (.seq (.reg [ ⟨none, some 2, .assign (.const (.bool true)), E.tB⟩]) .ret))))
def nt_laws_zzFits3 : Nat := 18
def rs_laws_zzFits3 (E : Env) : List Rv := [.t 2]
def ir_laws_zzFits4 (E : Env) : Ir := (.seq (.reg [ ⟨none, some 1, .box E.t_spec_Tag (.tmp 0), E.tNil⟩, ⟨none, some 2, .assign (.const (.bool false)), E.tB⟩]) (.seq (.seq (.reg [ ⟨none, some 3, .fieldAddr E.t_spec_Tag (.tmp 1) 1, E.tNil⟩, ⟨none, some 4, .load E.tBs (.tmp 3), E.tBs⟩, ⟨none, some 5, .call { callee := .builtin .len, args := #[.tmp 4], argTypes := #[E.tBs] }, E.tInt⟩, ⟨none, some 6, .binOp .gtr E.tInt (.tmp 5) (.const (.int .i64 2147483647)) E.tInt, E.tB⟩]) (.cond 6 (.seq (.reg [ ⟨none, some 2, .assign (.const (.bool false)), E.tB⟩]) .ret) .skip)) (.seq (.reg [ ⟨none, some 2, .assign (.const (.bool true)), E.tB⟩]) .ret)))
def nt_laws_zzFits4 : Nat := 7
def rs_laws_zzFits4 (E : Env) : List Rv := [.t 2]
end Go.Kg

set_option linter.unusedSimpArgs false
set_option linter.unusedVariables false
namespace Go.Kg
open Go
def irMaxV (E : Env) (M : Int) : Ir := .seq (.reg [⟨none, some 2, .assign (.const (.int .i16 0)), E.tI16⟩]) (.seq (.reg [⟨none, some 2, .assign (.const (.int .i16 M)), E.tI16⟩]) .ret)
def irMax (E : Env) (PT fPtr fMaxV : Nat) : Ir := .seq (.reg [⟨none, some 0, .assign (.const (.int .i64 0)), E.tInt⟩])
  (.seq (.reg [⟨none, some 1, .call { callee := .value (.func fPtr), args := #[], argTypes := #[] }, PT⟩, ⟨none, some 2, .call { callee := .value (.func fMaxV), args := #[.tmp 1], argTypes := #[PT] }, E.tI16⟩,
    ⟨none, some 3, .convert E.tI16 E.tInt (.tmp 2), E.tInt⟩, ⟨none, some 0, .assign (.tmp 3), E.tInt⟩]) .ret)
/-- the version that a law takes -/
def verOf (n M : Nat) : Nat := n % (M + 1)
section
variable {P : Program} {E : Env}
theorem c_maxV {g nt : Nat} (hnt : 1 ≤ nt) {M : Int} (hI : FnIs P g nt [.t 2] (irMaxV E M)) (v : Value) (w : World) : Ret P g #[v] w fun u w' => u = .int .i16 M ∧ w' = w := by
  refine hI.call (args := [_]) hnt ?_
  simp [irMaxV]
theorem c_max {PT fPtr fMaxV g nt : Nat} {M : Nat} (hM : M < 32768) (hI : FnIs P g nt [.t 0] (irMax E PT fPtr fMaxV)) (iI16 : intKind? P E.tI16 = some .i16) (iInt : intKind? P E.tInt = some .i64)
    (hPtr : ∀ w, Ret P fPtr #[] w fun v w' => Ext none1 w w') (hMv : ∀ v w, Ret P fMaxV #[v] w fun u w' => u = .int .i16 M ∧ w' = w) (w : World) :
    Ret P g #[] w fun u w' => u = .int .i64 M ∧ Ext none1 w w' := by
  refine hI.call (args := []) (by simp) ?_
  simp [irMax]
  refine (hPtr w).mono ?_
  intro v w1 he
  try simp
  refine (hMv v w1).mono ?_
  rintro _ w2 ⟨rfl, rfl⟩
  have e : IntKind.i64.wrap (M : Int) = M := i64_small (by omega) (by omega)
  simp [iI16, iInt, e, he]
theorem c_version (hI : FnIs P E.f_laws_version nt_laws_version (rs_laws_version E) (ir_laws_version E)) (iU8 : intKind? P E.tU8 = some .u8) (iInt : intKind? P E.tInt = some .i64) (n M : Nat) (hn : n < 256) (hM : M < 32768) (w : World) :
    Ret P E.f_laws_version #[.int .u8 n, .int .i64 M] w fun u w' => u = .int .i64 (verOf n M) ∧ w' = w := by
  refine hI.call (args := [_, _]) (by simp [nt_laws_version]) ?_
  have e1 : IntKind.i64.wrap (n : Int) = n := i64_small (by omega) (by omega)
  have e2 : IntKind.i64.wrap ((M : Int) + 1) = (M : Int) + 1 := i64_small (by omega) (by omega)
  have e3 : ¬ ((M : Int) + 1 = 0) := by omega
  simp [ir_laws_version, rs_laws_version, iU8, iInt, e1, e2, bin?, e3, verOf]
  rw [Int.tmod_eq_emod_of_nonneg (by omega)]
end
end Go.Kg

set_option linter.unusedSimpArgs false
set_option linter.unusedVariables false
namespace Go.Kg
open Go
/-- what the laws ask of impl's functions -/
structure AgL (P : Program) (E : Env) (fMax fAg M : Nat) (S : Sch) (flx : Nat → Bool) (ev : Value) : Prop where
  max : ∀ w, Ret P fMax #[] w fun u w' => u = .int .i64 M ∧ Ext none1 w w'
  again : ∀ v : Nat, v ≤ M → ∀ {w : World} {K : Nat → Prop} {sv : Value} {src : List UInt8}, BytesAt w K sv src → src.length ≤ 1099511627776 → w.cell? ⟨E.g_kbin_ErrNotEnoughData, 0, none⟩ = some ev →
    (∀ nn x rs, S.rd v (flx v) ⟨src, false, nn⟩ = some (x, rs) → rs.bad = false → S.TagsOk tagsOk x ∧ (S.wr v (flx v) x).length ≤ 1099511627776) →
    Ret P fAg #[.int .i64 v, sv] w fun u w' => AgainPost S v (flx v) src w u w'
  hM : M < 32768
  pos : ∀ v : Nat, v ≤ M → S.posE v (flx v) = true
section
variable {P : Program} {E : Env}
end
end Go.Kg

set_option linter.unusedSimpArgs false
set_option linter.unusedVariables false
namespace Go.Kg
open Go
/-- An own row of trees. -/
def OwnTr (w : World) (base T : Nat) (v : Value) (rows : List (List Value)) : Prop := Own w base T 5 v rows.flatten ∧ ∀ c ∈ rows, c.length = 5
theorem flatten5 : ∀ {rows : List (List Value)}, (∀ c ∈ rows, c.length = 5) → rows.flatten.length = rows.length * 5
  | [], _ => rfl
  | c :: r, h => by
    have := flatten5 (rows := r) (fun c hc => h c (List.mem_cons_of_mem _ hc))
    have := h c List.mem_cons_self
    simp only [List.flatten_cons, List.length_append, List.length_cons]; omega
theorem flatten5_get : ∀ {rows : List (List Value)}, (∀ c ∈ rows, c.length = 5) → ∀ {i : Nat} {c : List Value}, rows[i]? = some c → ∀ j u, c[j]? = some u → rows.flatten[i * 5 + j]? = some u
  | [], _, i, c, hc => by simp at hc
  | d :: r, h, i, c, hc => by
    intro j u hj
    have hd := h d List.mem_cons_self
    cases i with
    | zero =>
      simp at hc; subst hc
      have hlt := (List.getElem?_eq_some_iff.1 hj).1
      rw [List.flatten_cons, List.getElem?_append_left (by omega)]
      simpa using hj
    | succ i =>
      have := flatten5_get (rows := r) (fun c hc => h c (List.mem_cons_of_mem _ hc)) (i := i) (by simpa using hc) j u hj
      rw [List.flatten_cons, List.getElem?_append_right (by omega), show (i + 1) * 5 + j - d.length = i * 5 + j by omega]
      exact this
theorem OwnTr.arr {w : World} {base T : Nat} {v : Value} {rows : List (List Value)} (h : OwnTr w base T v rows) (hn : rows.length ≤ 1099511627776) : ∃ ls, ArrAt w (fun b => base ≤ b ∧ b < w.heap.size) 5 v ls ∧ ls.getD [] = rows := by
  obtain ⟨⟨n, h1, h2⟩, h5⟩ := h
  have hn' : n = rows.length := by rw [flatten5 h5] at h1; omega
  subst hn'
  rcases h2 with ⟨rfl, h0⟩ | ⟨g, cap, cur, rfl, hb, hg, hnc, hcm, hcs, htake⟩
  · exact ⟨none, rfl, (List.eq_nil_of_length_eq_zero h0).symm⟩
  · refine ⟨some rows, ⟨g, 0, cap, rfl, ⟨hb, lt_of_heap hg⟩, ⟨hnc, hn⟩, fun i cs hi => ⟨h5 cs (List.mem_of_getElem? hi), fun j u hj => ?_⟩⟩, rfl⟩
    have := flatten5_get h5 hi j u hj
    rw [← htake, List.getElem?_take] at this
    rw [cell_of_blk hg, Nat.zero_add]
    split at this
    · simpa using this
    · cases this
/-- No cell of the tree's box but the list's. -/
def zT (lv : Value) : List Value := [.int .i64 0, .slice none 0 0, .bool false, lv, .slice none 0 0]
/-- A tree that says no text and no tags, its lists in blocks of K. -/
inductive DTr (w : World) (K : Nat → Prop) : List Value → Tr → Prop where
  | mk {n : Int} {nul : Bool} {l : List Tr} {lv : Value} {ls : Option (List (List Value))} (hn : fits n) (ha : ArrAt w K 5 lv ls) (hl : (ls.getD []).length = l.length)
      (he : ∀ (i : Nat) c t, (ls.getD [])[i]? = some c → l[i]? = some t → DTr w K c t) : DTr w K [.int .i64 n, .slice none 0 0, .bool nul, lv, .slice none 0 0] (.mk n [] nul l [])
theorem DTr.ext {C K : Nat → Prop} {w w' : World} (he : Ext C w w') (hK : ∀ b, b < w.heap.size → K b → ¬ C b) {cs : List Value} {t : Tr} (h : DTr w K cs t) : DTr w' K cs t := by
  induction h with
  | mk hn ha hl _ ih => exact .mk hn (ha.ext he hK) hl ih
theorem ArrAt.mono {w : World} {K K' : Nat → Prop} (h : ∀ b, K b → K' b) {sz : Nat} {v : Value} {ls : Option (List (List Value))} (ha : ArrAt w K sz v ls) : ArrAt w K' sz v ls := by
  cases ls with
  | none => exact ha
  | some ls => obtain ⟨b, o, c, rfl, hk, hn, hx⟩ := ha; exact ⟨b, o, c, rfl, h b hk, hn, hx⟩
theorem DTr.mono {K K' : Nat → Prop} {w : World} (hK : ∀ b, K b → K' b) {cs : List Value} {t : Tr} (h : DTr w K cs t) : DTr w K' cs t := by
  induction h with
  | mk hn ha hl _ ih => exact .mk hn (ha.mono hK) hl ih
theorem DTr.tree {K : Nat → Prop} {w : World} {cs : List Value} {t : Tr} (h : DTr w K cs t) : TreeAt w cs t := by
  induction h with
  | mk hn ha hl _ ih => exact .mk ⟨hn, by simp⟩ (.inl ⟨⟨_, rfl⟩, rfl⟩) (ha.mono (fun _ _ => trivial)).toE hl ih ⟨none, ⟨_, rfl⟩, rfl, by simp⟩
structure TyD (P : Program) (E : Env) : Prop extends TyM P E where
  pT5 : places P E.t_spec_Tree = some [(0, 1), (1, 1), (2, 1), (3, 1), (4, 1)]
  fT3 : ∀ (a b c d e : Value), fld? P E.t_spec_Tree 3 #[a, b, c, d, e] = some d
section
variable {P : Program} {E : Env} (ht : TyD P E)
include ht
end
end Go.Kg

set_option linter.unusedSimpArgs false
set_option linter.unusedVariables false
namespace Go.Kg
open Go
theorem FS.okAll.dflt : ∀ {F : FS}, F.okAll → ∀ h ∈ F.heads, fits h.dflt
  | .nil, _, h, hh => by cases hh
  | .cons h' s r, ho, h, hh => by
    rcases List.mem_cons.1 hh with rfl | hh
    · exact ho.2.1
    · exact FS.okAll.dflt ho.2.2.2.2 h hh
def FH.zero : FH := ⟨0, 0, 0, 0, 0, 0, 0⟩
def FH.set (h : FH) (k : Nat) (n : Int) : FH :=
  match k with
  | 0 => { h with kind := n } | 1 => { h with frm := n } | 2 => { h with to := n } | 3 => { h with null := n } | 4 => { h with tag := n } | 5 => { h with dflt := n } | _ => { h with of_ := n }
/-- A field's text: its parts in order, and the function of its own fields (with these). -/
structure FSrc where
  ps : List (Nat × Int)
  sub : Option (Nat × FS)
def FSrc.h (x : FSrc) : FH := x.ps.foldl (fun h p => h.set p.1 p.2) FH.zero
def FSrc.subF (x : FSrc) : FS := match x.sub with | some (_, F) => F | none => .nil
def mkFS : List FSrc → FS
  | [] => .nil
  | x :: r => .cons x.h x.subF (mkFS r)
def psOp (ps : List (Nat × Int)) : List (Nat × Operand) := ps.map fun p => (p.1, .const (.int .i64 p.2))
def FSrc.sz (x : FSrc) : Nat := match x.sub with | some _ => 2 | none => 1
def FSrc.ro (E : Env) (x : FSrc) (t : Nat) : List Ro := match x.sub with
  | none => [⟨none, some t, .build E.t_spec_Field (psOp x.ps).toArray, E.t_spec_Field⟩]
  | some (g, _) => [⟨none, some t, .call { callee := .value (.func g), args := #[], argTypes := #[] }, E.t_l_spec_Field⟩, ⟨none, some (t + 1), .build E.t_spec_Field (psOp x.ps ++ [(7, Operand.tmp t)]).toArray, E.t_spec_Field⟩]
def genSr (E : Env) : List FSrc → Nat → List Ro
  | [], _ => []
  | x :: r, t => x.ro E t ++ genSr E r (t + x.sz)
def slotsS : List FSrc → Nat → List Nat
  | [], _ => []
  | x :: r, t => (t + x.sz - 1) :: slotsS r (t + x.sz)
def endS : List FSrc → Nat → Nat
  | [], t => t
  | x :: r, t => endS r (t + x.sz)
def bslOp (sl : List Nat) : Array (Nat × Operand) := (sl.zipIdx.map fun p => (p.2, Operand.tmp p.1)).toArray
/-- func X() Message -/
def irMsg (E : Env) (xs : List FSrc) (fx : Int) : Ir :=
  .seq (.reg [⟨none, some 0, .alloc E.t_spec_Message, E.tNil⟩])
  (.seq (.reg (genSr E xs 1 ++ [⟨none, some (endS xs 1), .buildSlice E.t_l_spec_Field xs.length (bslOp (slotsS xs 1)), E.t_l_spec_Field⟩,
    ⟨none, some (endS xs 1 + 1), .build E.t_spec_Message #[(1, .const (.int .i64 fx)), (0, .tmp (endS xs 1))], E.t_spec_Message⟩, ⟨none, none, .store E.t_spec_Message (.tmp 0) (.tmp (endS xs 1 + 1)), E.tNil⟩])) .ret)
def psOk : List (Nat × Int) → Bool
  | [] => true
  | p :: r => decide (p.1 < 7) && psOk r
structure TyK (P : Program) (E : Env) : Prop extends TyD P E where
  pF8 : places P E.t_spec_Field = some [(0, 1), (1, 1), (2, 1), (3, 1), (4, 1), (5, 1), (6, 1), (7, 1)]
  gF : SliI P E.t_l_spec_Field E.t_spec_Field 8 80 (.agg zField)
  pM : places P E.t_spec_Message = some [(0, 1), (1, 1)]
  zM : zeroOf P E.t_spec_Message = some (.agg #[.slice none 0 0, .int .i64 0])
  kM : kindOf P E.t_spec_Message = .agg 2
theorem FH.set_cells (h : FH) (sv : Value) (k : Nat) (n : Int) (hk : k < 7) : (h.cells ++ [sv]).toArray.setIfInBounds k (.int .i64 n) = ((h.set k n).cells ++ [sv]).toArray := by
  match k, hk with
  | 0, _ => rfl
  | 1, _ => rfl
  | 2, _ => rfl
  | 3, _ => rfl
  | 4, _ => rfl
  | 5, _ => rfl
  | 6, _ => rfl
def pl8 : List (Nat × Nat) := [(0, 1), (1, 1), (2, 1), (3, 1), (4, 1), (5, 1), (6, 1), (7, 1)]
theorem pl8_get {k : Nat} (hk : k < 8) : pl8[k]? = some (k, 1) := by
  match k, hk with
  | 0, _ => rfl | 1, _ => rfl | 2, _ => rfl | 3, _ => rfl | 4, _ => rfl | 5, _ => rfl | 6, _ => rfl | 7, _ => rfl
theorem fill_one {k : Nat} (hk : k < 8) {v : Value} (hv : v.cells = #[v]) {c : Array Value} (hc : c.size = 8) (rest : List (Nat × Value)) :
    Instr.fill (fun i => pl8[i]?) c ((k, v) :: rest) = Instr.fill (fun i => pl8[i]?) (c.setIfInBounds k v) rest := by
  simp only [Instr.fill, pl8_get hk, hv]
  rw [if_neg (by simp; omega)]
  simp
theorem fill_ps : ∀ (ps : List (Nat × Int)) (h : FH) (sv : Value) (rest : List (Nat × Value)), psOk ps = true →
    Instr.fill (fun i => pl8[i]?) (h.cells ++ [sv]).toArray (ps.map (fun p => (p.1, Value.int .i64 p.2)) ++ rest) = Instr.fill (fun i => pl8[i]?) ((ps.foldl (fun h p => h.set p.1 p.2) h).cells ++ [sv]).toArray rest
  | [], h, sv, rest, _ => rfl
  | p :: r, h, sv, rest, hok => by
    simp only [psOk, Bool.and_eq_true, decide_eq_true_eq] at hok
    rw [List.map_cons, List.cons_append, fill_one (by omega) rfl (by simp), FH.set_cells h sv p.1 p.2 hok.1]
    exact fill_ps r _ sv rest hok.2
theorem zField_eq : zField = (FH.zero.cells ++ [Value.slice none 0 0]).toArray := rfl
/-- Fields whose rows lie in blocks of K. -/
def FsCellsK (w : World) (K : Nat → Prop) : List (List Value) → FS → Prop
  | [], .nil => True
  | c :: cs, .cons h sub rest => (∃ sv ls, c = h.cells ++ [sv] ∧ ArrAt w K 8 sv ls ∧ FsCellsK w K (ls.getD []) sub) ∧ FsCellsK w K cs rest
  | _, _ => False
def FsAtK (w : World) (K : Nat → Prop) (v : Value) (F : FS) : Prop := ∃ ls, ArrAt w K 8 v ls ∧ FsCellsK w K (ls.getD []) F
theorem FsCellsK.ext {C K K' : Nat → Prop} {w w' : World} (he : Ext C w w') (hK : ∀ b, b < w.heap.size → K b → ¬ C b) (hm : ∀ b, K b → K' b) : ∀ {F : FS} {ls : List (List Value)}, FsCellsK w K ls F → FsCellsK w' K' ls F := by
  intro F
  induction F with
  | nil => intro ls h; cases ls with
    | nil => trivial
    | cons c cs => exact h.elim
  | cons h sub rest ihs ihr =>
    intro ls hh
    cases ls with
    | nil => exact hh.elim
    | cons c cs =>
      obtain ⟨⟨sv, l, h1, h2, h3⟩, h4⟩ := hh
      exact ⟨⟨sv, l, h1, (h2.ext he hK).mono hm, ihs h3⟩, ihr h4⟩
theorem FsAtK.ext {C K K' : Nat → Prop} {w w' : World} (he : Ext C w w') (hK : ∀ b, b < w.heap.size → K b → ¬ C b) (hm : ∀ b, K b → K' b) {v : Value} {F : FS} (h : FsAtK w K v F) : FsAtK w' K' v F := by
  obtain ⟨ls, h1, h2⟩ := h; exact ⟨ls, (h1.ext he hK).mono hm, h2.ext he hK hm⟩
theorem FsCellsK.all {K : Nat → Prop} {w : World} : ∀ {F : FS} {ls : List (List Value)}, FsCellsK w K ls F → FsCells w ls F := by
  intro F
  induction F with
  | nil => intro ls h; cases ls with
    | nil => trivial
    | cons c cs => exact h.elim
  | cons h sub rest ihs ihr =>
    intro ls hh
    cases ls with
    | nil => exact hh.elim
    | cons c cs =>
      obtain ⟨⟨sv, l, h1, h2, h3⟩, h4⟩ := hh
      exact ⟨⟨sv, l, h1, h2.mono (fun _ _ => trivial), ihs h3⟩, ihr h4⟩
theorem FsAtK.all {K : Nat → Prop} {w : World} {v : Value} {F : FS} (h : FsAtK w K v F) : FsAt w v F := by
  obtain ⟨ls, h1, h2⟩ := h; exact ⟨ls, h1.mono (fun _ _ => trivial), h2.all⟩
/-- What the fields are, once made: their rows at base and above. -/
def FldsV (w : World) (base : Nat) : List FSrc → List Value → Prop
  | [], [] => True
  | x :: r, v :: vs => (∃ sv, v = .agg (x.h.cells ++ [sv]).toArray ∧ FsAtK w (base ≤ ·) sv x.subF) ∧ FldsV w base r vs
  | _, _ => False
theorem FldsV.ext {w w' : World} {base : Nat} (he : Ext none1 w w') : ∀ {xs : List FSrc} {vs : List Value}, FldsV w base xs vs → FldsV w' base xs vs
  | [], [], _ => trivial
  | x :: r, v :: vs, h => ⟨by obtain ⟨sv, h1, h2⟩ := h.1; exact ⟨sv, h1, h2.ext he (fun _ _ _ h => h) (fun _ h => h)⟩, FldsV.ext he h.2⟩
  | [], _ :: _, h => h.elim
  | _ :: _, [], h => h.elim
theorem FldsV.len {w : World} {base : Nat} : ∀ {xs : List FSrc} {vs : List Value}, FldsV w base xs vs → vs.length = xs.length ∧ ∀ v ∈ vs, v.cells.size = 8
  | [], [], _ => ⟨rfl, by simp⟩
  | x :: r, v :: vs, h => by
    obtain ⟨h1, h2⟩ := FldsV.len h.2
    obtain ⟨sv, rfl, _⟩ := h.1
    refine ⟨by simp [h1], fun u hu => ?_⟩
    rcases List.mem_cons.1 hu with rfl | hu
    · simp [Value.cells]
    · exact h2 u hu
  | [], _ :: _, h => h.elim
  | _ :: _, [], h => h.elim
def SubC (P : Program) (g : Nat) (F : FS) : Prop := ∀ w, Ret P g #[] w fun v w' => FsAtK w' (w.heap.size ≤ ·) v F ∧ Ext none1 w w'
def srcOk (P : Program) : List FSrc → Prop
  | [] => True
  | x :: r => psOk x.ps = true ∧ (∀ g F, x.sub = some (g, F) → SubC P g F) ∧ srcOk P r
theorem FsAtK.nil (w : World) (K : Nat → Prop) : FsAtK w K (.slice none 0 0) .nil := ⟨none, rfl, trivial⟩
theorem endS_ge : ∀ (xs : List FSrc) (t : Nat), t ≤ endS xs t
  | [], t => Nat.le_refl _
  | x :: r, t => Nat.le_trans (Nat.le_add_right _ _) (endS_ge r (t + x.sz))
theorem slotsS_len : ∀ (xs : List FSrc) (t : Nat), (slotsS xs t).length = xs.length
  | [], _ => rfl
  | x :: r, t => by simp [slotsS, slotsS_len r]
theorem stp_build {P : Program} {f : Nat → Value} {ty T : TypeId} {w : World} {K : Value → World → Prop} {ps : List (Nat × Operand)} (h : ps ≠ []) : stp P f (.build T ps.toArray) ty w K = optK (bld? P T (ps.map fun p => (p.1, evF f p.2))) fun v => K v w := by
  cases ps with
  | nil => exact absurd rfl h
  | cons p r => simp only [stp]
theorem psOp_eval (f : Nat → Value) (ps : List (Nat × Int)) : (psOp ps).map (fun p => (p.1, evF f p.2)) = ps.map fun p => (p.1, Value.int .i64 p.2) := by simp [psOp, evF]
def MsgC (P : Program) (g : Nat) (F : FS) (fx : Int) : Prop := ∀ w, Ret P g #[] w fun v w' => ∃ fv, v = .agg #[fv, .int .i64 fx] ∧ FsAt w' fv F ∧ Ext none1 w w'
theorem dense_bsl : ∀ (sl : List Nat) (k : Nat), denseFrom k ((sl.zipIdx k).map fun p => (p.2, Operand.tmp p.1)) = true
  | [], _ => rfl
  | s :: r, k => by simp only [List.zipIdx_cons, List.map_cons, denseFrom, beq_self_eq_true, Bool.true_and]; exact dense_bsl r (k + 1)
theorem bsl_vals (f : Nat → Value) : ∀ (sl : List Nat) (k : Nat), ((sl.zipIdx k).map fun p => (p.2, Operand.tmp p.1)).map (fun p => evF f p.2) = sl.map f
  | [], _ => rfl
  | s :: r, k => by simp only [List.zipIdx_cons, List.map_cons, bsl_vals f r (k + 1)]; rfl
theorem allSz_of {s : Nat} : ∀ {l : List Value}, (∀ v ∈ l, v.cells.size = s) → allSz s l = true
  | [], _ => rfl
  | v :: l, h => by simp only [allSz, h v List.mem_cons_self, beq_self_eq_true, Bool.true_and]; exact allSz_of fun u hu => h u (List.mem_cons_of_mem _ hu)
theorem flds_cells {w : World} {base : Nat} : ∀ {xs : List FSrc} {vs : List Value}, FldsV w base xs vs → ∃ rows : List (List Value), vs = rows.map (fun c => Value.agg c.toArray) ∧ FsCellsK w (base ≤ ·) rows (mkFS xs) ∧ ∀ c ∈ rows, c.length = 8
  | [], [], _ => ⟨[], rfl, trivial, by simp⟩
  | x :: r, v :: vs, h => by
    obtain ⟨rows, h1, h2, h3⟩ := flds_cells h.2
    obtain ⟨sv, rfl, ls, ha, hc⟩ := h.1
    refine ⟨(x.h.cells ++ [sv]) :: rows, by rw [h1]; rfl, ⟨⟨sv, ls, rfl, ha, hc⟩, h2⟩, fun c hc' => ?_⟩
    rcases List.mem_cons.1 hc' with rfl | hc'
    · simp
    · exact h3 c hc'
  | [], _ :: _, h => h.elim
  | _ :: _, [], h => h.elim
section
variable {P : Program} {E : Env} (ht : TyK P E)
include ht
theorem bld_field {ps : List (Nat × Int)} (hok : psOk ps = true) : bld? P E.t_spec_Field (ps.map fun p => (p.1, Value.int .i64 p.2)) = some (.agg ((ps.foldl (fun h p => h.set p.1 p.2) FH.zero).cells ++ [Value.slice none 0 0]).toArray) := by
  have := fill_ps ps FH.zero (Value.slice none 0 0) [] hok
  rw [List.append_nil] at this
  have hz : zeroOf P E.t_spec_Field = some (.agg zField) := ht.zF
  have hp : places P E.t_spec_Field = some pl8 := ht.pF8
  simp only [bld?, hz, hp]
  show (Instr.fill (fun i => pl8[i]?) zField _).map Value.agg = _
  rw [zField_eq, this]
  rfl
theorem bld_fieldS {ps : List (Nat × Int)} {sv : Value} (hok : psOk ps = true) (hs : sv.cells = #[sv]) : bld? P E.t_spec_Field (ps.map (fun p => (p.1, Value.int .i64 p.2)) ++ [(7, sv)]) = some (.agg ((ps.foldl (fun h p => h.set p.1 p.2) FH.zero).cells ++ [sv]).toArray) := by
  have := fill_ps ps FH.zero (Value.slice none 0 0) [(7, sv)] hok
  have hz : zeroOf P E.t_spec_Field = some (.agg zField) := ht.zF
  have hp : places P E.t_spec_Field = some pl8 := ht.pF8
  simp only [bld?, hz, hp]
  show (Instr.fill (fun i => pl8[i]?) zField _).map Value.agg = _
  rw [zField_eq, this, fill_one (by omega) hs (by simp)]
  rfl
theorem gen_sound {base : Nat} : ∀ (xs : List FSrc) (t : Nat) (f : Nat → Value) (w : World) (rest : List Ro) (R : (Nat → Value) → World → Prop), srcOk P xs → (∀ x ∈ xs, x.ps ≠ []) → base ≤ w.heap.size →
    (∀ f' w', (∀ s, s < t → f' s = f s) → Ext none1 w w' → FldsV w' base xs ((slotsS xs t).map f') → regW P R rest f' w') → regW P R (genSr E xs t ++ rest) f w := by
  intro xs
  induction xs with
  | nil => intro t f w rest R _ _ _ h; exact h f w (fun _ _ => rfl) (Ext.refl _ _) trivial
  | cons x r ih =>
    intro t f w rest R hok hne hbs h
    obtain ⟨hps, hsub, hrest⟩ := hok
    have hxne := hne x List.mem_cons_self
    have hne' : ∀ y ∈ r, y.ps ≠ [] := fun y hy => hne y (List.mem_cons_of_mem _ hy)
    have hpo : psOp x.ps ≠ [] := by intro h0; apply hxne; simpa [psOp] using h0
    cases hs : x.sub with
    | none =>
      have e1 : genSr E (x :: r) t ++ rest = ⟨none, some t, .build E.t_spec_Field (psOp x.ps).toArray, E.t_spec_Field⟩ :: (genSr E r (t + 1) ++ rest) := by simp [genSr, FSrc.ro, FSrc.sz, hs]
      rw [e1, regW_plain, stp_build hpo, psOp_eval, bld_field ht hps, optK_some]
      refine ih (t + 1) _ w rest R hrest hne' hbs ?_
      intro f' w' hk he hv
      refine h f' w' (fun s hs' => by rw [hk s (by omega), updO_some, upd_apply, if_neg (by omega)]) he ?_
      have e2 : slotsS (x :: r) t = t :: slotsS r (t + 1) := by simp [slotsS, FSrc.sz, hs]
      rw [e2, List.map_cons]
      refine ⟨⟨.slice none 0 0, ?_, ?_⟩, hv⟩
      · rw [hk t (by omega), updO_some, upd_apply, if_pos rfl]; rfl
      · have : x.subF = .nil := by simp [FSrc.subF, hs]
        rw [this]; exact FsAtK.nil w' _
    | some gF =>
      obtain ⟨g, F⟩ := gF
      have hSC := hsub g F hs
      have e1 : genSr E (x :: r) t ++ rest = ⟨none, some t, .call { callee := .value (.func g), args := #[], argTypes := #[] }, E.t_l_spec_Field⟩ :: ⟨none, some (t + 1), .build E.t_spec_Field (psOp x.ps ++ [(7, Operand.tmp t)]).toArray, E.t_spec_Field⟩ :: (genSr E r (t + 2) ++ rest) := by
        simp [genSr, FSrc.ro, FSrc.sz, hs]
      rw [e1, regW_plain, stp_call]
      refine Ret.mono (R := fun v w' => FsAtK w' (w.heap.size ≤ ·) v F ∧ Ext none1 w w') (by simpa using hSC w) ?_
      rintro sv w1 ⟨hF, he1⟩
      have hsv : sv.cells = #[sv] := by
        obtain ⟨ls, ha, _⟩ := hF
        obtain ⟨a, c, rfl, _⟩ := ha.form
        rfl
      rw [regW_plain, stp_build (by simp), List.map_append, psOp_eval]
      have e3 : List.map (fun p : Nat × Operand => (p.1, evF (updO f (some t) sv) p.2)) [(7, Operand.tmp t)] = [(7, sv)] := by simp
      rw [e3, bld_fieldS ht hps hsv, optK_some]
      refine ih (t + 2) _ w1 rest R hrest hne' (Nat.le_trans hbs he1.size) ?_
      intro f' w' hk he hv
      refine h f' w' (fun s hs' => by rw [hk s (by omega)]; simp only [updO_some, upd_apply]; rw [if_neg (by omega), if_neg (by omega)]) (he1.trans he) ?_
      have e2 : slotsS (x :: r) t = (t + 1) :: slotsS r (t + 2) := by simp [slotsS, FSrc.sz, hs]
      rw [e2, List.map_cons]
      refine ⟨⟨sv, ?_, ?_⟩, hv⟩
      · rw [hk (t + 1) (by omega)]; simp only [updO_some, upd_apply, if_true]; rfl
      · have : x.subF = F := by simp [FSrc.subF, hs]
        rw [this]; exact hF.ext he (fun _ _ _ h => h) (fun b hb => Nat.le_trans hbs hb)
/-- the slice of the fields that were made -/
theorem bsl_sound {xs : List FSrc} {t base : Nat} {f : Nat → Value} {w : World} {K : Value → World → Prop} {ty : TypeId} (hx : xs ≠ []) (hn : xs.length ≤ 1000) (hbs : base ≤ w.heap.size) (hv : FldsV w base xs ((slotsS xs t).map f))
    (h : ∀ v w', FsAtK w' (base ≤ ·) v (mkFS xs) → Ext none1 w w' → K v w') : stepF P f (.buildSlice E.t_l_spec_Field xs.length (bslOp (slotsS xs t))) ty w K := by
  obtain ⟨h1, h2⟩ := hv.len
  have hx0 : 0 < xs.length := by cases xs with | nil => exact absurd rfl hx | cons => simp
  have hvals : (bslOp (slotsS xs t)).toList.map (fun p => evF f p.2) = (slotsS xs t).map f := by
    simp only [bslOp]
    exact bsl_vals f _ 0
  rw [st_bsl ht.gF (by omega) (by simp only [bslOp]; exact dense_bsl _ 0) (by simp [bslOp, slotsS_len]) hx0 (by omega) (by rw [hvals]; exact allSz_of h2)]
  rw [hvals]
  obtain ⟨rows, hr, hc, h8⟩ := flds_cells hv
  rw [hr] at h1 ⊢
  simp at h1
  have hE := (Ext.refl none1 w).alloc (.cells (flat (rows.map fun c => Value.agg c.toArray)).toArray E.t_spec_Field)
  refine h _ _ ⟨some rows, ⟨w.heap.size, 0, xs.length, by rw [h1], hbs, ⟨by omega, by omega⟩, ?_⟩, hc.ext hE (fun _ _ _ h => h) (fun _ h => h)⟩ hE
  intro i c hi
  refine ⟨h8 c (List.mem_of_getElem? hi), fun j u hj => ?_⟩
  rw [cell_of_blk alloc_new, Nat.zero_add, List.getElem?_toArray]
  have hsz : ∀ v ∈ (rows.map fun c => Value.agg c.toArray), v.cells.size = 8 := by
    intro v hv'
    obtain ⟨c', hc', rfl⟩ := List.mem_map.1 hv'
    simpa [Value.cells] using h8 c' hc'
  have hj8 : j < 8 := by have := (List.getElem?_eq_some_iff.1 hj).1; rw [h8 c (List.mem_of_getElem? hi)] at this; exact this
  rw [flat_get (by omega) hsz, show (i * 8 + j) / 8 = i by omega, show (i * 8 + j) % 8 = j by omega]
  simp [hi, Value.cells, hj]
theorem bld_msg (v : Value) (hv : v.cells = #[v]) (fx : Int) : bld? P E.t_spec_Message [(1, .int .i64 fx), (0, v)] = some (.agg #[v, .int .i64 fx]) := by
  have hz := ht.zM
  have hp := ht.pM
  have hi : (Value.int .i64 fx).cells = #[Value.int .i64 fx] := rfl
  have hc : (Value.agg #[Value.slice none 0 0, .int .i64 0]).cells = #[Value.slice none 0 0, .int .i64 0] := rfl
  simp [bld?, hz, hp, Instr.fill, hi, hc, hv]
theorem msg_sound {g nt : Nat} {xs : List FSrc} {fx : Int} (hI : FnIs P g nt [.c 0 E.t_spec_Message] (irMsg E xs fx)) (hx : xs ≠ []) (hn : xs.length ≤ 1000) (hok : srcOk P xs) (hne : ∀ x ∈ xs, x.ps ≠ []) : MsgC P g (mkFS xs) fx := by
  intro w
  refine hI.call (args := []) (by simp) ?_
  have hzM : zeroOf P E.t_spec_Message = some (.agg #[.slice none 0 0, .int .i64 0]) := ht.zM
  simp only [irMsg, cw_seq, cw_reg, regW_plain, stp_alloc, hzM, optK_some, thenF_normal, regW_nil]
  have hE := (Ext.refl none1 w).alloc (.cells (Value.agg #[.slice none 0 0, .int .i64 0]).cells E.t_spec_Message)
  have hb : (w.alloc (.cells (Value.agg #[.slice none 0 0, .int .i64 0]).cells E.t_spec_Message)).heap[w.heap.size]? = some (.cells #[.slice none 0 0, .int .i64 0] E.t_spec_Message (0, 0)) := alloc_new
  refine gen_sound ht (base := w.heap.size + 1) xs 1 _ _ _ _ hok hne (by simp) ?_
  intro f' w' hk he hv
  rw [regW_plain, stp_buildSlice]
  refine bsl_sound ht hx hn (Nat.le_trans (by simp) he.size) hv ?_
  intro v w2 hF he2
  have hf0 : f' 0 = .pointer (some ⟨w.heap.size, 0, none⟩) := by rw [hk 0 (by omega)]; simp
  have he0 := endS_ge xs 1
  have hv1 : v.cells = #[v] := by
    obtain ⟨ls, ha, _⟩ := hF
    obtain ⟨a, c, rfl, _⟩ := ha.form
    rfl
  have hvo : v.oneCell' = true := by
    obtain ⟨ls, ha, _⟩ := hF
    obtain ⟨a, c, rfl, _⟩ := ha.form
    rfl
  have hb2 := he2.old (he.old hb (fun h => h)) (fun h => h)
  have z0 : (0 = endS xs 1) = False := by simp; omega
  have z1 : ∀ k, (0 = endS xs 1 + k) = False := by intro k; simp; omega
  have hx2 : Ext none1 w w2 := hE.trans (he.trans he2)
  have ho : allOne [v, Value.int .i64 fx] = true := by simp only [allOne, hvo, Bool.true_and]; rfl
  have hov : over #[Value.slice none 0 0, .int .i64 0] 0 [v, Value.int .i64 fx] = #[v, .int .i64 fx] := by simp [over]
  simp [bld_msg ht v hv1 fx, hf0, z0, z1, store_agg ht.kM, ho, putK_blk hb2, hov]
  have hb3 : (w2.setBlk w.heap.size (.cells #[v, .int .i64 fx] E.t_spec_Message (0, 0))).heap[w.heap.size]? = some (.cells #[v, .int .i64 fx] E.t_spec_Message (0, 0)) := setBlk_same hb2
  have hx3 : Ext none1 w (w2.setBlk w.heap.size (.cells #[v, .int .i64 fx] E.t_spec_Message (0, 0))) := hx2.setBlk (.inl (Nat.le_refl _)) _
  have lT := cellsFrom_row hb3
  simp at lT
  simp [ld_agg ht.kM, lT]
  exact ⟨(hF.ext (K' := All) ((Ext.refl (fun b => b = w.heap.size) w2).setBlk (.inr rfl) _) (fun b _ hb h => by omega) (fun _ _ => trivial)).all, hx3⟩
end
end Go.Kg

set_option linter.unusedSimpArgs false
set_option linter.unusedVariables false
namespace Go.Kg
open Go
def SomeB (w : World) (u : Value) (w' : World) : Prop := (∃ b, u = .bool b) ∧ Ext none1 w w'
section
variable {P : Program} {E : Env} (ht : TyF P E)
include ht
theorem c_zzFits4 (hI : FnIs P E.f_laws_zzFits4 nt_laws_zzFits4 (rs_laws_zzFits4 E) (ir_laws_zzFits4 E)) (w : World) (k bv : Value) (x : List UInt8) (hb : BytesAt w All bv x) (hk : k.oneCell' = true) :
    Ret P E.f_laws_zzFits4 #[.agg #[k, bv]] w (SomeB w) := by
  obtain ⟨a, c, rfl, _⟩ := hb.len
  refine hI.call (args := [_]) (by simp [nt_laws_zzFits4]) ?_
  have hcs : (Value.agg #[k, .slice a x.length c]).cells = #[k, .slice a x.length c] := rfl
  simp [ir_laws_zzFits4, rs_laws_zzFits4, hcs]
  generalize hw1 : w.alloc (.cells #[k, .slice a x.length c] E.t_spec_Tag) = w1
  have hE : Ext none1 w w1 := by subst hw1; exact (Ext.refl none1 w).alloc _
  have hb1 : w1.heap[w.heap.size]? = some (.cells #[k, .slice a x.length c] E.t_spec_Tag (0, 0)) := by subst hw1; exact alloc_new
  have c1 : w1.cell? ⟨w.heap.size, 1, none⟩ = some (.slice a x.length c) := by rw [cell_of_blk hb1]; rfl
  simp [ht.u1, Addr.add_mk, ld_scl ht.kBs, c1, len_slice ht.uBs]
  refine cw_bool (c := decide ((2147483647 : Int) < x.length)) (by simp) ?_ ?_
  · intro _
    simp
    exact ⟨⟨_, rfl⟩, hE⟩
  · intro _
    simp
    exact ⟨⟨_, rfl⟩, hE⟩
/-- what holds in the loop over tags -/
def FzInv (w : World) (vs : Value) (n : Nat) (f : Nat → Value) (w' : World) : Prop := ∃ i, i ≤ n ∧ f 10 = .int .i64 i ∧ f 9 = .int .i64 n ∧ f 8 = vs ∧ Ext none1 w w'
theorem c_zzFits3 (hI : FnIs P E.f_laws_zzFits3 nt_laws_zzFits3 (rs_laws_zzFits3 E) (ir_laws_zzFits3 E))
    (h4 : ∀ (w : World) (k bv : Value) (x : List UInt8), BytesAt w All bv x → k.oneCell' = true → Ret P E.f_laws_zzFits4 #[.agg #[k, bv]] w (SomeB w)) (hzU : zeroOf P E.t_spec_Tag = some (.agg #[.int .u32 0, .slice none 0 0])) (w : World) (uv : Value) (u : List (Nat × List UInt8)) (hu : UAt w uv u) :
    Ret P E.f_laws_zzFits3 #[uv] w (SomeB w) := by
  obtain ⟨ls, ha, hlen, hget⟩ := hu
  obtain ⟨a, c, rfl, _, hmax⟩ := ha.form
  refine hI.call (args := [_]) (by simp [nt_laws_zzFits3]) ?_
  obtain ⟨Et, jt, hut, _, _⟩ := sliSz_spec ht.sU
  simp [ir_laws_zzFits3, rs_laws_zzFits3, len_slice hut]
  refine cw_bool (c := decide ((2147483647 : Int) < (ls.getD []).length)) (by simp) ?_ ?_
  · intro _
    simp
    exact ⟨⟨_, rfl⟩, Ext.refl _ _⟩
  · intro _
    simp [len_slice hut]
    refine cw_loop (FzInv w (.slice a (ls.getD []).length c) (ls.getD []).length) (fun f _ => match f 10 with | .int _ i => (((ls.getD []).length : Int) - i).toNat | _ => 0) ⟨0, by omega, by simp, by simp, by simp, Ext.refl _ _⟩ ?_
    rintro f w' ⟨i, hi, h10, h9, h8, he⟩
    simp [h10, h9]
    by_cases hlt : i < (ls.getD []).length
    rotate_left
    · refine cw_false (by simp; omega) ?_
      simp
      exact ⟨⟨_, rfl⟩, he⟩
    refine cw_true (by simp; omega) ?_
    cases ls with
    | none => simp at hlt
    | some ls =>
    obtain ⟨bb, oo, cc, hvv, _, ⟨hnn, _⟩, hx⟩ := ha
    cases hvv
    simp only [Option.getD_some] at hlt hlen hget hmax h9 h8
    obtain ⟨q, hq⟩ : ∃ q, ls[i]? = some q := ⟨_, List.getElem?_eq_getElem hlt⟩
    obtain ⟨x, hxx⟩ : ∃ x, u[i]? = some x := ⟨_, List.getElem?_eq_getElem (by omega)⟩
    obtain ⟨bv, rfl, _, hbv⟩ := hget i q x hq hxx
    obtain ⟨ab, cb, rfl, _⟩ := hbv.len
    have hcx := (hx i _ hq).2.ext (K := All) he (fun _ _ _ h => h) trivial
    have hcf := cellsFrom_list0 hcx
    have hl2 : [Value.int .u32 x.1, .slice ab x.2.length cb].length = 2 := rfl
    rw [hl2] at hcf
    have ho2 : allOne [Value.int .u32 x.1, .slice ab x.2.length cb] = true := rfl
    have hzc : (Value.agg #[.int .u32 0, .slice none 0 0]).cells = #[.int .u32 0, .slice none 0 0] := rfl
    have hov : over #[Value.int .u32 0, .slice none 0 0] 0 [Value.int .u32 x.1, .slice ab x.2.length cb] = #[Value.int .u32 x.1, .slice ab x.2.length cb] := rfl
    simp [h10, h8, idx?, ht.sU, hlt, Addr.add_mk, ld_agg ht.kU, hcf, hzU, hzc, store_agg ht.kU, ho2, putK_blk alloc_new, hov]
    generalize hw3 : (w'.alloc (.cells #[.int .u32 0, .slice none 0 0] E.t_spec_Tag)).setBlk w'.heap.size (.cells #[Value.int .u32 x.1, .slice ab x.2.length cb] E.t_spec_Tag (0, 0)) = w3
    have hb3 : w3.heap[w'.heap.size]? = some (.cells #[Value.int .u32 x.1, .slice ab x.2.length cb] E.t_spec_Tag (0, 0)) := by subst hw3; exact setBlk_same alloc_new
    have hx3 : Ext none1 w' w3 := by subst hw3; exact ((Ext.refl none1 w').alloc _).setBlk (.inl (Nat.le_refl _)) _
    have he3 : Ext none1 w w3 := he.trans hx3
    have hcb := cellsFrom_row hb3
    simp only [List.size_toArray, List.length_cons, List.length_nil] at hcb
    simp [hcb]
    refine (h4 w3 _ _ x.2 (hbv.ext he3 (fun _ _ _ h => h)) rfl).mono ?_
    rintro _ w4 ⟨⟨b, rfl⟩, he4⟩
    simp
    have ei : IntKind.i64.wrap ((i : Int) + 1) = ((i + 1 : Nat) : Int) := by rw [i64_small (by omega) (by omega)]; rfl
    cases b
    · refine cw_true (by simp) ?_
      simp
      exact ⟨⟨_, rfl⟩, he3.trans he4⟩
    · refine cw_false (by simp) ?_
      simp [h10, ei]
      refine ⟨⟨i + 1, by omega, by simp, by simp [h9], by simp [h8], he3.trans he4⟩, by omega⟩
theorem c_zzFits2 (hI : FnIs P E.f_laws_zzFits2 nt_laws_zzFits2 (rs_laws_zzFits2 E) (ir_laws_zzFits2 E))
    (h3 : ∀ (w : World) (uv : Value) (u : List (Nat × List UInt8)), UAt w uv u → Ret P E.f_laws_zzFits3 #[uv] w (SomeB w)) (w : World) (cs : List Value) (t : Tr) (hT : TreeAt w cs t) :
    Ret P E.f_laws_zzFits2 #[.agg cs.toArray] w (SomeB w) := by
  obtain ⟨hn, hs, ha, hl, he, hu⟩ := hT
  rename_i n s nul l u sv lv uv ls
  obtain ⟨a1, c1, rfl, _⟩ := hs.len
  obtain ⟨a2, c2, rfl, _, _⟩ := ha.form
  refine hI.call (args := [_]) (by simp [nt_laws_zzFits2]) ?_
  have hv : ∀ (a : Array Value), (Value.agg a).cells = a := fun a => rfl
  obtain ⟨Et, jt, hut, _, _⟩ := sliSz_spec ht.sT
  simp [ir_laws_zzFits2, rs_laws_zzFits2, hv]
  generalize hw1 : w.alloc (.cells #[.int .i64 n, .slice a1 s.length c1, .bool nul, .slice a2 (ls.getD []).length c2, uv] E.t_spec_Tree) = w1
  have hE : Ext none1 w w1 := by subst hw1; exact (Ext.refl none1 w).alloc _
  have hb1 : w1.heap[w.heap.size]? = some (.cells #[.int .i64 n, .slice a1 s.length c1, .bool nul, .slice a2 (ls.getD []).length c2, uv] E.t_spec_Tree (0, 0)) := by subst hw1; exact alloc_new
  have k1 : w1.cell? ⟨w.heap.size, 1, none⟩ = some (.slice a1 s.length c1) := by rw [cell_of_blk hb1]; rfl
  have k3 : w1.cell? ⟨w.heap.size, 3, none⟩ = some (.slice a2 (ls.getD []).length c2) := by rw [cell_of_blk hb1]; rfl
  have k4 : w1.cell? ⟨w.heap.size, 4, none⟩ = some uv := by rw [cell_of_blk hb1]; rfl
  simp [ht.t1, Addr.add_mk, ld_scl ht.kBs, k1, len_slice ht.uBs]
  refine cw_bool (c := decide ((2147483647 : Int) < s.length)) (by simp) ?_ ?_
  · intro _
    simp
    exact ⟨⟨_, rfl⟩, hE⟩
  intro _
  simp [ht.t3, Addr.add_mk, ld_scl ht.kLT, k3, len_slice hut]
  refine cw_bool (c := decide ((2147483647 : Int) < (ls.getD []).length)) (by simp) ?_ ?_
  · intro _
    simp
    exact ⟨⟨_, rfl⟩, hE⟩
  intro _
  simp [ht.t4, Addr.add_mk, ld_scl ht.kLU, k4]
  refine (h3 w1 uv u (hu.ext hE)).mono ?_
  rintro _ w2 ⟨⟨b, rfl⟩, he2⟩
  simp
  cases b
  · refine cw_true (by simp) ?_
    simp
    exact ⟨⟨_, rfl⟩, hE.trans he2⟩
  · refine cw_false (by simp) ?_
    simp
    exact ⟨⟨_, rfl⟩, hE.trans he2⟩
end
end Go.Kg

set_option linter.unusedSimpArgs false
set_option linter.unusedVariables false
namespace Go.Kg
open Go
/-- what the laws Again and Cut ask beside AgL -/
structure AgW (P : Program) (fMsg M : Nat) (S : Sch) (flx : Nat → Bool) (F : FS) (fx : Int) : Prop where
  msg : MsgC P fMsg F fx
  ok : F.okAll
  len : F.len ≤ 1000
  flex : ∀ v : Nat, v ≤ M → flexAt fx v = flx v
  fit : fitS M flx F S = true
theorem TreeAt.five {w : World} {cs : List Value} {t : Tr} (h : TreeAt w cs t) : cs.length = 5 ∧ allOne cs = true := by
  cases h with
  | mk hn hs ha hl he hu =>
    obtain ⟨a1, c1, rfl, _⟩ := hs.len
    obtain ⟨a2, c2, rfl, _⟩ := ha.form
    obtain ⟨lu, hu1, _⟩ := hu
    obtain ⟨a3, c3, rfl, _⟩ := hu1.form
    simp [allOne, Value.oneCell']
section
variable {P : Program} {E : Env} (ht : TyK P E) (hs : SpecFns P E)
include ht hs
end
end Go.Kg

set_option linter.unusedSimpArgs false
set_option linter.unusedVariables false
set_option linter.unusedSectionVars false
namespace Go.Kg
open Go
end Go.Kg

set_option linter.unusedSimpArgs false
set_option linter.unusedVariables false
set_option linter.unusedSectionVars false
namespace Go.Kg
open Go
section
variable {P : Program} {C : Cfg} {ok : TagL → Prop}
/-- each cell is one field's -/
def Sch.cov (sz : Nat) : Sch → Nat → Bool
  | .fin, i => i == sz
  | .tags _ o, i => o == i && i + 1 == sz
  | .prim _ _ o p _ _ rest, i => o == i && p != .uuid && rest.cov sz (i + 1)
  | _, _ => false
/-- what of a schema may stand in a variable of its own: plain fields without a guard, tags -/
def Sch.tyL (P : Program) (C : Cfg) (T : Nat) : Sch → Bool
  | .fin => true
  | .tags k o => C.fx && fldOff P T k == some o
  | .prim g k o p en _ rest => g.lo.isNone && en == 0 && p != .uuid && fldOff P T k == some o && p.kOk P (p.ty C.E) && rest.tyL P C T
  | _ => false
end
end Go.Kg

set_option linter.unusedSimpArgs false
set_option linter.unusedVariables false
set_option linter.unusedSectionVars false
namespace Go.Kg
open Go
/-- How a known tag's field stands in a struct's cells. -/
def Kn.Rep (w : World) (K : Nat → Prop) (cs : List Value) (o : Nat) : (c : Kn) → c.T → Prop
  | .prim p _, x => ∃ v, seg cs o v.cells.toList ∧ p.rep1 w K v x
  | .arr _ _ _ sz _ e, a => ∃ v ls, cs[o]? = some v ∧ ArrAt w K sz v ls ∧ (ls.isSome = (show Option (List e.T) from a).isSome ∧ InHeap w v) ∧ (ls.getD []).length = ((show Option (List e.T) from a).getD []).length ∧
      ∀ (i : Nat) (es : List Value) x, (ls.getD [])[i]? = some es → ((show Option (List e.T) from a).getD [])[i]? = some x → e.Rep w K es x
  | .str _ _ sz _ _ _ e, x => ((cs.drop o).take sz).length = sz ∧ e.Rep w K ((cs.drop o).take sz) x
theorem Kn.Rep_ext {w w' : World} {K C : Nat → Prop} (he : Ext C w w') (hK : ∀ b, b < w.heap.size → K b → ¬ C b) {cs : List Value} {o : Nat} (c : Kn) {x : c.T} (h : c.Rep w K cs o x) : c.Rep w' K cs o x := by
  cases c with
  | prim p d => obtain ⟨v, h1, h2⟩ := h; exact ⟨v, h1, Prim.rep1_ext he hK h2⟩
  | arr sT T PT sz df e =>
    obtain ⟨v, ls, h1, h2, h3, h4, h5⟩ := h
    exact ⟨v, ls, h1, h2.ext he hK, ⟨h3.1, h3.2.ext he⟩, h4, fun i es y hi hy => Sch.Rep_ext he hK e (h5 i es y hi hy)⟩
  | str T PT sz df sm mk e => exact ⟨h.1, Sch.Rep_ext he hK e h.2⟩
def Prim.eqOk (P : Program) (E : Env) : Prim → Bool
  | .bool => match P.underlying E.tB with | some .bool => true | _ => false
  | .i8 | .i16 | .i32 | .i64 => true
  | .uuid => true
  | .nstr => isPtrT P E.tPS
  | _ => false
def KF.tyW (P : Program) (C : Cfg) (T : Nat) (f : KF) : Bool := fldOff P T f.k == some f.o && decide (f.num < 4294967296) && match f.c with
  | .prim p _ => p.kOk P (p.ty C.E) && p.eqOk P C.E
  | .arr sT T' _ sz _ e => isScl (kindOf P sT) && sliSz P sT == some sz && e.tyW P C T'
  | .str T' _ sz _ _ _ e => (match kindOf P T' with | .agg n => n == sz | _ => false) && e.tyL P C T' && (match zeroOf P T' with | some (.agg z) => z.size == sz | _ => false) && e.cov sz 0
/-- zzSame, against what is by default -/
def SameK (P : Program) (same : Nat) (e : Sch) : Prop := ∀ (w : World) (K : Nat → Prop) (cs ds : Array Value) (x : e.T), e.Rep w K cs.toList x → e.chkD ds.toList = true → Ret P same #[.agg cs, .agg ds] w fun v w' => v = .bool (e.isD x) ∧ Ext none1 w w'
/-- the function that makes what is by default -/
def MkC (P : Program) (mk : Nat) (e : Sch) : Prop := ∀ w : World, Ret P mk #[] w fun v w' => (∃ ds : Array Value, v = .agg ds ∧ e.chkD ds.toList = true) ∧ Ext none1 w w'
def Kn.NeedW (P : Program) (C : Cfg) (ok : TagL → Prop) : Kn → Prop
  | .prim p _ => PrimW P C p ∧ p.text = false
  | .arr _ _ _ _ _ e => LenWC P C none ∧ e.NeedW P C ok
  | .str _ _ _ _ same mk e => e.NeedW P C ok ∧ SameK P same e ∧ MkC P mk e
section
variable {P : Program} {C : Cfg} {ok : TagL → Prop}
/-- ahead of the count: L holds the numbers of those to be written, so far -/
structure PreS (C : Cfg) (L tm : Nat) (w0 : World) (f0 : Nat → Value) (d : List Nat) (f : Nat → Value) (w : World) : Prop where
  ext : Ext none1 w0 w
  own : Own w w0.heap.size C.E.tU32 1 (f L) (d.map fun n => .int .u32 (n : Nat))
  keep : ∀ x, x < tm → x ≠ L → f x = f0 x
theorem PreS.upd {L tm : Nat} {w0 : World} {f0 : Nat → Value} {d : List Nat} {f : Nat → Value} {w : World} (h : PreS C L tm w0 f0 d f w) {t : Nat} (ht : tm ≤ t) (hL : L < tm) (v : Value) : PreS C L tm w0 f0 d (upd f t v) w :=
  ⟨h.ext, by rw [upd_apply, if_neg (by omega)]; exact h.own, fun x hx hxL => by rw [upd_apply, if_neg (by omega)]; exact h.keep x hx hxL⟩
end
end Go.Kg

set_option linter.unusedSimpArgs false
set_option linter.unusedVariables false
set_option linter.unusedSectionVars false
namespace Go.Kg
open Go
theorem Own.form {w : World} {base e : Nat} {v : Value} {xs : List Value} (h : Own w base e 1 v xs) : ∃ a c, v = .slice a xs.length c ∧ xs.length ≤ c := by
  obtain ⟨n, h1, h2⟩ := h
  have hn : n = xs.length := by omega
  subst hn
  rcases h2 with ⟨rfl, hn⟩ | ⟨g, cap, cur, rfl, hb, hg, hnc, hcm, hcs, htake⟩
  · exact ⟨none, 0, by rw [hn], by omega⟩
  · exact ⟨_, cap, rfl, hnc⟩
section
variable {P : Program} {C : Cfg}
theorem Wrote.upd {f g : Nat → Value} {w w' : World} {base n m t : Nat} {s out : List UInt8} (h : Wrote C f w base s out n m t g w') (hn : n ≤ t) {x : Nat} (hx : t ≤ x) (hx1 : x ≠ 1) (v : Value) : Wrote C f w base s out n m t (upd g x v) w' := by
  have e : (Go.Kg.upd g x v) 1 = g 1 := by rw [upd_apply, if_neg (by omega)]
  refine ⟨?_, ?_, ?_⟩
  · have := h.dst; unfold Dst at this ⊢; rwa [e]
  · have := h.grew; rwa [e]
  · intro y hy1 hy
    by_cases hyx : y < t
    · rw [upd_apply, if_neg (by omega)]; exact h.keep y hy1 hy
    · exact absurd hy (by omega)
/-- dst = kbin.AppendUvarint(dst, n) -/
theorem w_uv (hU : ∀ n : Nat, n < 4294967296 → WrC P C.E.tU8 C.E.f_kbin_AppendUvarint [.int .u32 n] (uvOut n)) {n t : Nat} (hn : n < 4294967296) {Q : Post} {f : Nat → Value} {w : World} {base : Nat} {s : List UInt8} (ht1 : 1 < t) (hd : Dst C f w base s) (hsz : s.length + (uvOut n).length ≤ 1099511627776)
    (h : ∀ f' w', OwnB C.E.tU8 w' base (f' 1) (s ++ uvOut n) → Grew w (f 1) w' (f' 1) → Keeps f f' t → Q .normal f' w') : (uvI C n t).wp P Q f w := by
  refine wp_reg ?_
  simp [uvI]
  refine (hU n hn w base (f 1) s hd.1 hd.2 hsz).mono ?_
  rintro v' w' ⟨ho', hg⟩
  refine h _ _ (by simpa using ho') (by simpa using hg) ?_
  exact keeps_one (keeps_upd (keeps_upd (Keeps.refl _ _) (by omega)) (by omega))
end
end Go.Kg

set_option linter.unusedSimpArgs false
set_option linter.unusedVariables false
set_option linter.unusedSectionVars false
namespace Go.Kg
open Go
section
variable {P : Program} {C : Cfg}
theorem LocVal.grew {p : Prim} {l : Nat} {u : Value} {f f' : Nat → Value} {w w' : World} {v v' : Value} (h : LocVal w f p l u) (hx : p = .uuid → ∃ bb, f l = .pointer (some ⟨bb, 0, none⟩) ∧ ¬ own1 v bb) (hg : Grew w v w' v') (hl : f' l = f l) : LocVal w' f' p l u := by
  unfold LocVal at h ⊢
  by_cases hp : p = .uuid
  · rw [if_pos hp] at h ⊢
    obtain ⟨b, cs, e, fz, hf, hb, hu, h16⟩ := h
    obtain ⟨bb, hbb, hn⟩ := hx hp
    rw [hf] at hbb
    cases hbb
    exact ⟨b, cs, e, fz, hl.trans hf, hg.ext.old hb hn, hu, h16⟩
  · rw [if_neg hp] at h ⊢
    rw [hl]; exact h
variable {ok : TagL → Prop}
end
end Go.Kg

set_option linter.unusedSimpArgs false
set_option linter.unusedVariables false
set_option linter.unusedSectionVars false
namespace Go.Kg
open Go
section
variable {P : Program} {C : Cfg}
variable {ok : TagL → Prop}
end
end Go.Kg

set_option linter.unusedSimpArgs false
set_option linter.unusedVariables false
namespace Go.Kg
open Go
structure TyTg (P : Program) (E : Env) : Prop extends TyWs P E where
  g0 : fldOff P E.t_kmsg_Tags 0 = some 0
  kM : kindOf P E.t_map_uint32_l_uint8 = .scl
  uM : P.underlying E.t_map_uint32_l_uint8 = some (.map E.tU32 E.tBs)
  kBs : kindOf P E.tBs = .scl
section
variable {P : Program} {E : Env} (ht : TyTg P E)
include ht
theorem isM : isMapT P E.t_map_uint32_l_uint8 = true := by simp [isMapT, ht.uM]
theorem c_TLen (hI : FnIs P E.f_pkmsg_Tags_Len nt_pkmsg_Tags_Len (rs_pkmsg_Tags_Len E) (ir_pkmsg_Tags_Len E)) (w : World) (K : Nat → Prop) (b o : Nat) (v : Value) (l : TagL) (hc : w.cell? ⟨b, o, none⟩ = some v) (hl : TagsAt w K v l) :
    Ret P E.f_pkmsg_Tags_Len #[.pointer (some ⟨b, o, none⟩)] w fun u w' => u = .int .i64 l.length ∧ w' = w := by
  refine hI.call (args := [_]) (by simp [nt_pkmsg_Tags_Len]) ?_
  simp [ir_pkmsg_Tags_Len, rs_pkmsg_Tags_Len, ht.g0, Addr.add_mk, ld_scl ht.kM, hc]
  rcases hl with ⟨rfl, rfl⟩ | ⟨bb, es, clock, rfl, _, hb, hs, _⟩
  · simp [isM ht, mapLen?]
  · simp [isM ht, mapLen?, hb, hs]
/-- No tags: Each does nothing. -/
theorem c_Each0 (hI : FnIs P E.f_pkmsg_Tags_Each nt_pkmsg_Tags_Each (rs_pkmsg_Tags_Each E) (ir_pkmsg_Tags_Each E)) (w : World) (b o : Nat) (v fn : Value) (K : Nat → Prop) (hc : w.cell? ⟨b, o, none⟩ = some v) (hl : TagsAt w K v []) :
    Ret P E.f_pkmsg_Tags_Each #[.pointer (some ⟨b, o, none⟩), fn] w fun u w' => w' = w := by
  refine hI.call (args := [_, _]) (by simp [nt_pkmsg_Tags_Each]) ?_
  have hlen : mapLen? w (match v with | .map m => m | _ => none) = some (.int .i64 0) ∧ ∃ m, v = .map m := by
    rcases hl with ⟨rfl, _⟩ | ⟨bb, es, clock, rfl, _, hb, hs, _⟩
    · exact ⟨rfl, _, rfl⟩
    · refine ⟨?_, _, rfl⟩
      simp only [mapLen?, hb]
      simp at hs
      simp [hs]
  obtain ⟨h1, m, rfl⟩ := hlen
  simp only at h1
  simp [ir_pkmsg_Tags_Each, rs_pkmsg_Tags_Each, ht.g0, Addr.add_mk, ld_scl ht.kM, hc, isM ht, h1]
  refine cw_true (by simp) ?_
  simp
end
end Go.Kg

set_option linter.unusedSimpArgs false
set_option linter.unusedVariables false
namespace Go.Kg
open Go
/-- An entry of the map says a tag. -/
def EntAt (w : World) (K : Nat → Prop) (c : Nat) (e : MapEntry) (x : Nat × List UInt8) : Prop := e.key = .int .u32 x.1 ∧ x.1 < 4294967296 ∧ e.born < c ∧ BytesAt w K e.val x.2
def EL (w : World) (K : Nat → Prop) (c : Nat) : List MapEntry → TagL → Prop
  | [], [] => True
  | e :: L, x :: l => EntAt w K c e x ∧ EL w K c L l
  | _, _ => False
theorem EL.of {w : World} {K : Nat → Prop} {c : Nat} : ∀ {L : List MapEntry} {l : TagL}, L.length = l.length → (∀ (i : Nat) e x, L[i]? = some e → l[i]? = some x → EntAt w K c e x) → EL w K c L l
  | [], [], _, _ => trivial
  | e :: L, x :: l, h, hx => ⟨hx 0 e x rfl rfl, EL.of (by simpa using h) (fun i e x h1 h2 => hx (i + 1) e x (by simpa using h1) (by simpa using h2))⟩
  | [], _ :: _, h, _ => by simp at h
  | _ :: _, [], h, _ => by simp at h
theorem EL.get {w : World} {K : Nat → Prop} {c : Nat} : ∀ {L : List MapEntry} {l : TagL}, EL w K c L l → L.length = l.length ∧ ∀ (i : Nat) e x, L[i]? = some e → l[i]? = some x → EntAt w K c e x
  | [], [], _ => ⟨rfl, fun i e x h => by simp at h⟩
  | e :: L, x :: l, h => ⟨by simpa using (EL.get h.2).1, fun i e' x' h1 h2 => by
      cases i with
      | zero => simp at h1 h2; subst h1; subst h2; exact h.1
      | succ i => exact (EL.get h.2).2 i e' x' (by simpa using h1) (by simpa using h2)⟩
  | [], _ :: _, h => h.elim
  | _ :: _, [], h => h.elim
theorem EL.up {w : World} {K : Nat → Prop} {c c' : Nat} (hc : c ≤ c') : ∀ {L : List MapEntry} {l : TagL}, EL w K c L l → EL w K c' L l
  | [], [], _ => trivial
  | e :: L, x :: l, h => ⟨⟨h.1.1, h.1.2.1, Nat.lt_of_lt_of_le h.1.2.2.1 hc, h.1.2.2.2⟩, EL.up hc h.2⟩
  | [], _ :: _, h => h.elim
  | _ :: _, [], h => h.elim
theorem EL.mem {w : World} {K : Nat → Prop} {c : Nat} : ∀ {L : List MapEntry} {l : TagL}, EL w K c L l → ∀ e ∈ L, ∃ x ∈ l, EntAt w K c e x
  | e :: L, x :: l, h, e', he => by
    rcases List.mem_cons.1 he with rfl | he
    · exact ⟨x, List.mem_cons_self .., h.1⟩
    · obtain ⟨y, hy, hh⟩ := EL.mem h.2 e' he; exact ⟨y, List.mem_cons_of_mem _ hy, hh⟩
/-- Tags as lists -/
theorem tagsAt_iff {w : World} {K : Nat → Prop} {v : Value} {l : TagL} : TagsAt w K v l ↔ (v = .map none ∧ l = []) ∨ ∃ b es clock, v = .map (some b) ∧ K b ∧ w.heap[b]? = some (.map es clock) ∧ EL w K clock es.toList l ∧ (l.map (·.1)).Nodup ∧ (es.toList.map (·.born)).Nodup ∧ (l.length < 4294967296 ∧ l ≠ []) := by
  constructor
  · rintro (h | ⟨b, es, clock, rfl, hk, hb, hs, hn, hl, hx⟩)
    · exact .inl h
    · exact .inr ⟨b, es, clock, rfl, hk, hb, EL.of (by simpa using hs) (fun i e x h1 h2 => hx i e x (by simpa using h1) h2), hn.1, hn.2, hl⟩
  · rintro (h | ⟨b, es, clock, rfl, hk, hb, he, h1, h2, hl⟩)
    · exact .inl h
    · have := he.get
      exact .inr ⟨b, es, clock, rfl, hk, hb, by simpa using this.1, ⟨h1, h2⟩, hl, fun i e x h1 h2 => this.2 i e x (by simpa using h1) h2⟩
theorem findNow_spec {w : World} {K : Nat → Prop} {c k : Nat} {v : Value} {s : List UInt8} (hk : k < 4294967296) (hv : BytesAt w K v s) : ∀ {L : List MapEntry} {l : TagL} (i : Nat), EL w K c L l →
    (Instr.findNow (.int .u32) (.int .u32 k) L i = some none ∧ EL w K (c + 1) (L ++ [{ key := .int .u32 k, val := v, born := c }]) (setTag k s l)) ∨
    (∃ j e, Instr.findNow (.int .u32) (.int .u32 k) L i = some (some (i + j, e.val)) ∧ L[j]? = some e ∧ e.key = .int .u32 k ∧ EL w K c (L.modify j fun e => { e with key := .int .u32 k, val := v }) (setTag k s l))
  | [], [], i, _ => .inl ⟨rfl, ⟨rfl, hk, Nat.lt_succ_self c, hv⟩, trivial⟩
  | e :: L, x :: l, i, h => by
    obtain ⟨⟨h1, h2, h3, h4⟩, h5⟩ := h
    by_cases hx : x.1 = k
    · refine .inr ⟨0, e, ?_, rfl, by rw [h1, hx], ?_⟩
      · simp [Instr.findNow, Instr.sameNow, h1, hx]
      · simp only [List.modify_zero_cons, setTag, if_pos hx]
        exact ⟨⟨rfl, hk, h3, hv⟩, h5⟩
    · have hne : ((k : Int) == (x.1 : Int)) = false := by simp; omega
      have hf : Instr.findNow (.int .u32) (.int .u32 k) (e :: L) i = Instr.findNow (.int .u32) (.int .u32 k) L (i + 1) := by
        simp [Instr.findNow, Instr.sameNow, h1, hne]
      rw [hf]
      rcases findNow_spec hk hv (i + 1) h5 with ⟨a1, a2⟩ | ⟨j, e', a1, a2, a3, a4⟩
      · refine .inl ⟨a1, ?_⟩
        simp only [setTag, if_neg hx]
        exact ⟨⟨h1, h2, Nat.lt_succ_of_lt h3, h4⟩, a2⟩
      · refine .inr ⟨j + 1, e', by rw [a1]; congr 3; omega, by simpa using a2, a3, ?_⟩
        simp only [setTag, if_neg hx, List.modify_succ_cons]
        exact ⟨⟨h1, h2, h3, h4⟩, a4⟩
  | [], _ :: _, i, h => h.elim
  | _ :: _, [], i, h => h.elim
theorem modify_born {j : Nat} {f : MapEntry → MapEntry} (hf : ∀ e, (f e).born = e.born) : ∀ L : List MapEntry, (L.modify j f).map (·.born) = L.map (·.born) := by
  induction j with
  | zero => intro L; cases L <;> simp [hf]
  | succ j ih => intro L; cases L with
    | nil => simp
    | cons e L => simp [ih L]
theorem check_u32 {P : Program} {T : TypeId} (hT : P.underlying T = some (.int .u32)) {w : World} {b : Bool} {k : Int} : (Instr.checkKey b 10000 T (.int .u32 k)).run P w = .ok () w := by
  have : ∀ n, (Instr.checkKey b (n + 1) T (.int .u32 k)).run P w = .ok () w := by intro n; simp [Instr.checkKey, run_underlying hT]
  exact this 9999
/-- m[k] = v -/
theorem run_mapUpdate {P : Program} {T KT VT : TypeId} (hT : P.underlying T = some (.map KT VT)) (hK : P.underlying KT = some (.int .u32)) {w : World} {K : Nat → Prop} {b k clock : Nat} {v : Value} {s : List UInt8} {es : Array MapEntry} {l : TagL}
    (hk : k < 4294967296) (hv : BytesAt w K v s) (hb : w.heap[b]? = some (.map es clock)) (he : EL w K clock es.toList l) (hn : (es.toList.map (·.born)).Nodup) :
    ∃ es' clock', (Instr.mapUpdate T (.map (some b)) (.int .u32 k) v).run P w = .ok () (w.setBlk b (.map es' clock')) ∧ EL w K clock' es'.toList (setTag k s l) ∧ (es'.toList.map (·.born)).Nodup := by
  have hget : (getObj b).run P w = .ok (.map es clock) w := by simp [getObj, Sem.run, hb]
  have hset : ∀ o, (setObj b o).run P w = .ok () (w.setBlk b o) := by intro o; simp [setObj, Sem.run, hb, World.setBlk]
  have hfk : ∀ r, Instr.findNow (.int .u32) (.int .u32 k) es.toList 0 = some r → (Instr.findKey KT (.int .u32 k) es.toList).run P w = .ok r w := by
    intro r hr; simp [Instr.findKey, run_underlying hK, hr]
  rcases findNow_spec hk hv 0 he with ⟨a1, a2⟩ | ⟨j, e, a1, a2, a3, a4⟩
  · refine ⟨es.push { key := .int .u32 k, val := v, born := clock }, clock + 1, ?_, by simpa using a2, ?_⟩
    · simp [Instr.mapUpdate, run_underlying hT, hget, check_u32 hK, hfk _ a1, hset]
    · simp only [Array.toList_push, List.map_append, List.map_cons, List.map_nil]
      rw [List.nodup_append]
      refine ⟨hn, by simp, ?_⟩
      intro a ha b hb
      simp only [List.mem_singleton] at hb
      obtain ⟨e, he1, rfl⟩ := List.mem_map.1 ha
      obtain ⟨x, _, hx⟩ := he.mem e he1
      have := hx.2.2.1
      omega
  · refine ⟨es.modify j fun e => { e with key := .int .u32 k, val := v }, clock, ?_, by simpa using a4, ?_⟩
    · have hj : es[j]? = some e := by simpa using a2
      have hsame : (Instr.sameBits 10000 (.int .u32 (k : Int)) (.int .u32 (k : Int))) = true := by simp [Instr.sameBits]
      simp [Instr.mapUpdate, run_underlying hT, hget, check_u32 hK, hfk _ a1, hset, Instr.keyThatStays, hj, a3, hsame]
    · simp only [Array.toList_modify]
      rw [modify_born]
      · exact hn
      · intro e; rfl
theorem EL.ext {C : Nat → Prop} {w w' : World} {D c : Nat} (he : Ext C w w') (hD : ¬ C D) : ∀ {L : List MapEntry} {l : TagL}, EL w (· = D) c L l → EL w' (· = D) c L l
  | [], [], _ => trivial
  | e :: L, x :: l, h => ⟨⟨h.1.1, h.1.2.1, h.1.2.2.1, h.1.2.2.2.ext he (fun b _ hb => by subst hb; exact hD)⟩, EL.ext he hD h.2⟩
  | [], _ :: _, h => h.elim
  | _ :: _, [], h => h.elim
theorem setTag_ne (k : Nat) (v : List UInt8) (l : TagL) : setTag k v l ≠ [] := by
  cases l with
  | nil => simp [setTag]
  | cons x l => simp only [setTag]; split <;> simp
/-- the map lies in a block from base on, the bytes in D -/
def TagsM (w : World) (D base : Nat) (u : Value) (l : TagL) : Prop :=
  (u = .map none ∧ l = []) ∨ ∃ m es clock, u = .map (some m) ∧ base ≤ m ∧ w.heap[m]? = some (.map es clock) ∧ EL w (· = D) clock es.toList l ∧ (es.toList.map (·.born)).Nodup ∧ l ≠ []
theorem TagsM.one {w : World} {D base : Nat} {u : Value} {l : TagL} (h : TagsM w D base u l) : u.oneCell' = true ∧ u.cells = #[u] := by
  rcases h with ⟨rfl, _⟩ | ⟨_, _, _, rfl, _⟩ <;> exact ⟨rfl, rfl⟩
@[simp] theorem stp_mapUpdate {P : Program} {f : Nat → Value} {ty : TypeId} {w : World} {K : Value → World → Prop} {T : TypeId} {a b c : Operand} : stp P f (.mapUpdate T a b c) ty w K = stepF P f (.mapUpdate T a b c) ty w K := (rfl)
@[simp] theorem stp_makeMap {P : Program} {f : Nat → Value} {ty : TypeId} {w : World} {K : Value → World → Prop} {T : TypeId} : stp P f (.makeMap T none) ty w K = K (.map (some w.heap.size)) (w.alloc (.map #[] 0)) := by
  show stepF P f (.makeMap T none) ty w K = _
  rw [stepF_ok (v := .map (some w.heap.size)) (w' := w.alloc (.map #[] 0))]
  simp [runF, execOp, Instr.makeMap, newObj, Sem.run]
section
variable {P : Program} {E : Env} (ht : TyTg P E)
include ht
/-- t.Set(key, val); t's cell lies in a block of its own. -/
theorem c_TSet (hu : P.underlying E.tU32 = some (.int .u32)) (hI : FnIs P E.f_pkmsg_Tags_Set nt_pkmsg_Tags_Set (rs_pkmsg_Tags_Set E) (ir_pkmsg_Tags_Set E)) {w : World} {D base b k : Nat} {u v : Value} {s : List UInt8} {l : TagL} {et : TypeId}
    (hk : k < 4294967296) (hv : BytesAt w (· = D) v s) (hc : w.heap[b]? = some (.cells #[u] et (0, 0))) (hl : TagsM w D base u l) (hD : D < base) (hb : base ≤ b) (hbs : base ≤ w.heap.size) :
    Ret P E.f_pkmsg_Tags_Set #[.pointer (some ⟨b, 0, none⟩), .int .u32 k, v] w fun _ w' => ∃ u', w'.heap[b]? = some (.cells #[u'] et (0, 0)) ∧ TagsM w' D base u' (setTag k s l) ∧ Ext (fun x => base ≤ x) w w' := by
  refine hI.call (args := [_, _, _]) (by simp [nt_pkmsg_Tags_Set]) ?_
  have c0 : w.cell? ⟨b, 0, none⟩ = some u := by rw [cell_of_blk hc]; rfl
  rcases hl with ⟨rfl, rfl⟩ | ⟨m, es, clock, rfl, hm, hmb, he, hn, _⟩
  · simp [ir_pkmsg_Tags_Set, rs_pkmsg_Tags_Set, ht.g0, Addr.add_mk, ld_scl ht.kM, c0, bin_nil_map ht.uM]
    refine cw_true (by simp) ?_
    have hb2 : (w.alloc (.map #[] 0)).heap[b]? = some (.cells #[.map none] et (0, 0)) := alloc_old hc
    have hne : w.heap.size ≠ b := fun h => by have := lt_of_heap hc; omega
    simp [ht.g0, Addr.add_mk, store_scl ht.kM, put1K_blk hb2]
    generalize hw1 : (w.alloc (.map #[] 0)).setBlk b (.cells #[.map (some w.heap.size)] et (0, 0)) = w1
    have hE : Ext (fun x => base ≤ x) w w1 := by subst hw1; exact ((Ext.refl _ w).alloc _).setBlk (Or.inr hb) _
    have hb1 : w1.heap[b]? = some (.cells #[.map (some w.heap.size)] et (0, 0)) := by subst hw1; exact setBlk_same hb2
    have hm1 : w1.heap[w.heap.size]? = some (.map #[] 0) := by subst hw1; rw [setBlk_other hne]; exact alloc_new
    have c1 : w1.cell? ⟨b, 0, none⟩ = some (.map (some w.heap.size)) := by rw [cell_of_blk hb1]; rfl
    obtain ⟨es', clock', hr, he', hn'⟩ := run_mapUpdate (es := #[]) (l := []) ht.uM hu hk (hv.ext hE (fun x _ hx => by subst hx; omega)) hm1 trivial (by simp)
    simp [c1, ld_scl ht.kM]
    refine ⟨rfl, ?_⟩
    rw [stepF_skip (w' := w1.setBlk w.heap.size (.map es' clock'))]
    · refine ⟨_, (by rw [setBlk_other (Ne.symm hne)]; exact hb1), .inr ⟨w.heap.size, es', clock', rfl, hbs, setBlk_same hm1, ?_, hn', setTag_ne _ _ _⟩, hE.setBlk (Or.inr hbs) _⟩
      exact EL.ext ((Ext.refl (fun x => base ≤ x) w1).setBlk (Or.inr hbs) _) (by omega) he'
    · simp [runF, execOp, hr]
  · simp [ir_pkmsg_Tags_Set, rs_pkmsg_Tags_Set, ht.g0, Addr.add_mk, ld_scl ht.kM, c0, bin_nil_map ht.uM]
    refine cw_false (by simp) ?_
    obtain ⟨es', clock', hr, he', hn'⟩ := run_mapUpdate ht.uM hu hk hv hmb he hn
    have hne : m ≠ b := fun h => by subst h; rw [hc] at hmb; cases hmb
    simp [ht.g0, Addr.add_mk, ld_scl ht.kM, c0]
    rw [stepF_skip (w' := w.setBlk m (.map es' clock'))]
    · refine ⟨_, (by rw [setBlk_other (Ne.symm hne)]; exact hc), .inr ⟨m, es', clock', rfl, hm, setBlk_same hmb, ?_, hn', setTag_ne _ _ _⟩, (Ext.refl _ w).setBlk (Or.inr hm) _⟩
      exact EL.ext ((Ext.refl (fun x => base ≤ x) w).setBlk (Or.inr hm) _) (by omega) he'
    · simp [runF, execOp, hr]
end
/-- what is kept while tags are read -/
structure RTs (E : Env) (w0 : World) (pb D : Nat) (rs0 : RS) (n : Nat) (f : Nat → Value) (w : World) (l : TagL) (rs : RS) (k : Nat) : Prop where
  f0 : f 0 = .pointer (some ⟨pb, 0, none⟩)
  f3 : f 3 = .pointer (some ⟨w0.heap.size + 1, 0, none⟩)
  f4 : f 4 = .int .u32 k
  f2 : f 2 = .pointer (some ⟨w0.heap.size, 0, none⟩)
  ext : Ext (· = pb) w0 w
  rd : RdAt E.tRd w pb D rs
  cell : ∃ u, w.heap[w0.heap.size + 1]? = some (.cells #[u] E.t_kmsg_Tags (0, 0)) ∧ TagsM w D (w0.heap.size + 1) u l
  res : w.heap[w0.heap.size]? = some (.cells #[.map none] E.t_kmsg_Tags (0, 0))
  nd : (l.map (·.1)).Nodup
  len : l.length + k ≤ n
  todo : rdTagN k l rs = rdTagN n [] rs0
  kn : n < 4294967296
theorem Ext.grow {C : Nat → Prop} {a b c : World} {n : Nat} (h : Ext C a b) (k : Ext (fun x => n ≤ x) b c) (hn : a.heap.size ≤ n) : Ext C a c :=
  ⟨k.os.trans h.os, k.tape.trans h.tape, k.output.trans h.output, Nat.le_trans h.size k.size, fun i hi hc => (k.block i (Nat.lt_of_lt_of_le hi h.size) (by omega)).trans (h.block i hi hc)⟩
theorem EL.mono {w : World} {K K' : Nat → Prop} {c : Nat} (hk : ∀ b, K b → K' b) : ∀ {L : List MapEntry} {l : TagL}, EL w K c L l → EL w K' c L l
  | [], [], _ => trivial
  | e :: L, x :: l, h => ⟨⟨h.1.1, h.1.2.1, h.1.2.2.1, h.1.2.2.2.mono (fun b _ => hk b)⟩, EL.mono hk h.2⟩
  | [], _ :: _, h => h.elim
  | _ :: _, [], h => h.elim
theorem setTag_len1 (k : Nat) (v : List UInt8) (l : TagL) : (setTag k v l).length ≤ l.length + 1 := (setTag_len k v l).1
theorem TagsM.ext {C : Nat → Prop} {w w' : World} {D base : Nat} {u : Value} {l : TagL} (h : TagsM w D base u l) (he : Ext C w w') (hD : ¬ C D) (hC : ∀ k, k < w.heap.size → base ≤ k → ¬ C k) : TagsM w' D base u l := by
  rcases h with h | ⟨m, es, clock, rfl, hm, hb, h1, h2⟩
  · exact .inl h
  · exact .inr ⟨m, es, clock, rfl, hm, he.old hb (hC m (lt_of_heap hb) hm), h1.ext he hD, h2⟩
section
variable {P : Program} {E : Env} (ht : TyTg P E)
include ht
set_option maxHeartbeats 1000000 in
theorem c_readTags (C : CfgR) (hE : C.E = E) (hu : P.underlying E.tU32 = some (.int .u32)) (hi : intKind? P E.tU32 = some .u32) (hi' : intKind? P E.tInt = some .i64) (hk : kindOf P E.t_kmsg_Tags = .agg 1) (hz : zeroOf P E.t_kmsg_Tags = some (.agg #[.map none]))
    (hI : FnIs P E.f_kmsg_internalReadTags nt_kmsg_internalReadTags (rs_kmsg_internalReadTags E) (ir_kmsg_internalReadTags E))
    (hU : RdC P E.tRd E.f_pkbin_Reader_Uvarint fun rs => (.int .u32 (rdUv rs).1, (rdUv rs).2)) (hS : SpanC P E.tRd E.f_pkbin_Reader_Span)
    (hT : ∀ {w : World} {D base b k : Nat} {u v : Value} {s : List UInt8} {l : TagL} {et : TypeId}, k < 4294967296 → BytesAt w (· = D) v s → w.heap[b]? = some (.cells #[u] et (0, 0)) → TagsM w D base u l → D < base → base ≤ b → base ≤ w.heap.size →
      Ret P E.f_pkmsg_Tags_Set #[.pointer (some ⟨b, 0, none⟩), .int .u32 k, v] w fun _ w' => ∃ u', w'.heap[b]? = some (.cells #[u'] et (0, 0)) ∧ TagsM w' D base u' (setTag k s l) ∧ Ext (fun x => base ≤ x) w w') : TagsRC P C := by
  subst hE
  intro w pb D rs hne hD hr
  refine hI.call (args := [_]) (by simp [nt_kmsg_internalReadTags]) ?_
  have hlt : pb < w.heap.size := by obtain ⟨sv, hb, _⟩ := hr; exact lt_of_heap hb
  simp [ir_kmsg_internalReadTags, rs_kmsg_internalReadTags, hz, Value.cells]
  generalize hw1 : w.alloc (.cells #[.map none] C.E.t_kmsg_Tags) = w1
  have hs1 : w1.heap.size = w.heap.size + 1 := by subst hw1; simp
  have hx1 : Ext none1 w w1 := by subst hw1; exact (Ext.refl _ w).alloc _
  have hb0 : w1.heap[w.heap.size]? = some (.cells #[.map none] C.E.t_kmsg_Tags (0, 0)) := by subst hw1; exact alloc_new
  generalize hw2 : w1.alloc (.cells #[.map none] C.E.t_kmsg_Tags) = w2
  have hs2 : w2.heap.size = w.heap.size + 2 := by subst hw2; simp [hs1]
  have hx2 : Ext none1 w w2 := by subst hw2; exact hx1.alloc _
  have hb1 : w2.heap[w.heap.size + 1]? = some (.cells #[.map none] C.E.t_kmsg_Tags (0, 0)) := by subst hw2; rw [← hs1]; exact alloc_new
  have hb02 : w2.heap[w.heap.size]? = some (.cells #[.map none] C.E.t_kmsg_Tags (0, 0)) := by subst hw2; exact alloc_old hb0
  have hr2 : RdAt C.E.tRd w2 pb D rs := RdAt.ext hr hx2 (fun h => h) (fun h => h)
  refine (hU w2 pb D rs hne hr2).mono ?_
  rintro _ w3 ⟨rfl, hx3, hr3⟩
  simp
  have hx03 : Ext (· = pb) w w3 := (hx2.mono (fun _ _ h => h.elim)).trans hx3
  refine cw_loop (fun f w' => ∃ l rs' k, RTs C.E w pb D (rdUv rs).2 (rdUv rs).1 f w' l rs' k) (fun f _ => match f 4 with | .int _ n => n.toNat | _ => 0) ?_ ?_
  · refine ⟨[], (rdUv rs).2, (rdUv rs).1, by simp, by simp [hs1], by simp, by simp, hx03, hr3, ⟨.map none, hx3.old hb1 (by omega), .inl ⟨rfl, rfl⟩⟩, hx3.old hb02 (by omega), by simp, by simp, rfl, rdUv_lt rs⟩
  · rintro f w4 ⟨l, rs4, k, h⟩
    simp [h.f4]
    by_cases hk0 : k = 0
    · refine cw_false (by simp [hk0]) ?_
      obtain ⟨u, hc, hM⟩ := h.cell
      have c0 : w4.cell? ⟨w.heap.size + 1, 0, none⟩ = some u := by rw [cell_of_blk hc]; rfl
      have hone := hM.one
      simp [h.f3, h.f2, ld_agg hk, cellsFrom, Addr.add_mk, c0, store_agg hk, allOne, hone.1, putK_blk h.res]
      have hov : over #[Value.map none] 0 [u] = #[u] := rfl
      simp only [hov]
      generalize hw5 : w4.setBlk w.heap.size (.cells #[u] C.E.t_kmsg_Tags (0, 0)) = w5
      have hb5 : w5.heap[w.heap.size]? = some (.cells #[u] C.E.t_kmsg_Tags (0, 0)) := by subst hw5; exact setBlk_same h.res
      have c5 : w5.cell? ⟨w.heap.size, 0, none⟩ = some u := by rw [cell_of_blk hb5]; rfl
      simp [c5]
      have hx5 : Ext (fun x => x = w.heap.size) w4 w5 := by subst hw5; exact (Ext.refl (fun x => x = w.heap.size) w4).setBlk (b := w.heap.size) (Or.inr rfl) _
      have hlen := h.len
      have hkn := h.kn
      have htodo := h.todo
      subst hk0
      simp only [rdTagN] at htodo
      have hl1 : (rdTags rs).1 = l := by rw [rdTags, ← htodo]
      have hl2 : (rdTags rs).2 = rs4 := by rw [rdTags, ← htodo]
      refine ⟨?_, by subst hw5; exact h.ext.setBlk (Or.inl (Nat.le_refl _)) _, ?_⟩
      · rw [hl1, tagsAt_iff]
        rcases hM with ⟨rfl, rfl⟩ | ⟨m, es, clock, rfl, hm, hmb, he, hn, hne⟩
        · exact .inl ⟨rfl, rfl⟩
        · refine .inr ⟨m, es, clock, rfl, .inr (by omega), hx5.old hmb ?_, ?_, h.nd, hn, by omega, hne⟩
          · intro e; subst e; rw [h.res] at hmb; cases hmb
          · exact EL.mono (fun b hb => .inl hb) (he.ext hx5 (by omega))
      · rw [hl2]
        exact RdAt.ext h.rd hx5 (by omega) (by omega)
    · refine cw_true (by simp; omega) ?_
      simp [h.f0]
      refine (hU w4 pb D rs4 hne h.rd).mono ?_
      rintro _ w5 ⟨rfl, hx5, hr5⟩
      simp [h.f0]
      refine (hU w5 pb D _ hne hr5).mono ?_
      rintro _ w6 ⟨rfl, hx6, hr6⟩
      simp [h.f0, hi, hi']
      have hwr : IntKind.i64.wrap ((rdUv (rdUv rs4).2).1 : Int) = ((rdUv (rdUv rs4).2).1 : Int) := i64_small (by omega) (by have := rdUv_lt (rdUv rs4).2; omega)
      rw [hwr]
      refine (hS w6 pb D _ _ hne hr6).mono ?_
      rintro v w7 ⟨hv, _, hx7, hr7⟩
      simp [h.f3]
      have hx47 : Ext (· = pb) w4 w7 := (hx5.trans hx6).trans hx7
      obtain ⟨u, hc, hM⟩ := h.cell
      have hsz := h.ext.size
      have hc7 : w7.heap[w.heap.size + 1]? = some (.cells #[u] C.E.t_kmsg_Tags (0, 0)) := hx47.old hc (by omega)
      refine (hT (rdUv_lt rs4) hv hc7 (hM.ext hx47 (fun e => hne e.symm) (by intro k _ hk e; omega)) (by omega) (by omega) (by have := lt_of_heap hc7; omega)).mono ?_
      rintro _ w8 ⟨u', hc8, hM8, hx8⟩
      simp [h.f4]
      have hkn := h.kn
      have hln := h.len
      have hwk : IntKind.u32.wrap ((k : Int) - 1) = ((k - 1 : Nat) : Int) := by simp [IntKind.wrap, IntKind.signed, IntKind.bits]; omega
      refine ⟨⟨_, _, k - 1, ⟨by simp [h.f0], by simp [h.f3], by simp [hwk], by simp [h.f2], ?_, hr7.ext hx8 (by omega) (by omega), ⟨u', hc8, hM8⟩, ?_, setTag_nodup _ _ _ h.nd, ?_, ?_, hkn⟩⟩, ?_⟩
      · exact (h.ext.trans hx47).grow hx8 (by omega)
      · exact hx8.old (hx47.old h.res (by omega)) (by omega)
      · exact Nat.le_trans (Nat.add_le_add_right (setTag_len1 _ _ l) _) (by omega)
      · rw [← h.todo]
        obtain ⟨k', rfl⟩ : ∃ k', k = k' + 1 := ⟨k - 1, by omega⟩
        simp only [Nat.add_sub_cancel, rdTagN, rdTag]
      · rw [hwk]; omega
end
end Go.Kg

set_option linter.unusedSimpArgs false
set_option linter.unusedVariables false
set_option linter.unusedSectionVars false
namespace Go.Kg
open Go
def KF.sv : (f : KF) → f.c.T → f.sch.T
  | ⟨_, _, _, .prim _ _⟩, x => (x, ())
  | ⟨_, _, _, .arr _ _ _ _ _ _⟩, x => (x, ())
  | ⟨_, _, _, .str _ _ _ _ _ _ _⟩, x => (x, ())
/-- how many cells a known tag's field has -/
def KF.sz (f : KF) : Nat := match f.c with
  | .prim p _ => p.sz
  | .arr _ _ _ _ _ _ => 1
  | .str _ _ sz _ _ _ _ => sz
section
variable {P : Program} {E : Env} (ht : TyTg P E)
include ht
end
end Go.Kg

set_option linter.unusedSimpArgs false
set_option linter.unusedVariables false
set_option linter.unusedSectionVars false
namespace Go.Kg
open Go
def Sch.flatB : Sch → Bool
  | .fin => true
  | .tags _ _ => true
  | .prim g _ _ _ en _ rest => g.lo.isNone && en == 0 && rest.flatB
  | _ => false
section
variable {P : Program} {C : CfgR}
end
end Go.Kg

set_option linter.unusedSimpArgs false
set_option linter.unusedVariables false
set_option linter.unusedSectionVars false
namespace Go.Kg
open Go
def Kn.NeedR (P : Program) (C : CfgR) : Kn → Prop
  | .prim p _ => PrimR P C p
  | .arr _ _ _ sz df e => LenRC P C ∧ EndC P C ∧ DefRC P C.toCfg sz df e ∧ e.NeedR P C
  | .str _ _ sz df _ _ e => DefRC P C.toCfg sz df e ∧ e.NeedR P C
/-- the checks on a known tag's types, for reading -/
def KF.tyR (P : Program) (C : CfgR) (T : Nat) (f : KF) : Bool := match f.c with
  | .str T' _ sz _ _ _ e => fldOff P T f.k == some f.o && e.flatB && e.tyR P C T' sz 0 && ((e.dst C.toCfg).all fun x => decide (x.o < sz))
  | _ => f.sch.tyR P C T (f.o + f.sz) f.o
section
variable {P : Program} {C : CfgR} {R : Rdr} {Q : Post} {f : Nat → Value} {w : World}
end
end Go.Kg

set_option linter.unusedSimpArgs false
set_option linter.unusedVariables false
set_option linter.unusedSectionVars false
namespace Go.Kg
open Go
section
variable {P : Program} {C : CfgR} {R : Rdr}
end
end Go.Kg

set_option linter.unusedSimpArgs false
set_option linter.unusedVariables false
set_option linter.unusedSectionVars false
namespace Go.Kg
open Go
section
variable {P : Program} {C : CfgR} {R : Rdr}
end
end Go.Kg

set_option linter.unusedSimpArgs false
set_option linter.unusedVariables false
set_option linter.unusedSectionVars false
namespace Go.Kg
open Go
end Go.Kg

set_option linter.unusedSimpArgs false
set_option linter.unusedVariables false
set_option linter.unusedSectionVars false
namespace Go.Kg
open Go
end Go.Kg

set_option linter.unusedSimpArgs false
set_option linter.unusedVariables false
set_option linter.unusedSectionVars false
namespace Go.Kg
open Go
end Go.Kg

set_option linter.unusedSimpArgs false
set_option linter.unusedVariables false
namespace Go.Kg
open Go
section
variable {P : Program} {E : Env}
end
end Go.Kg

set_option linter.unusedSimpArgs false
set_option linter.unusedVariables false
namespace Go.Kg
open Go
section
variable {P : Program} {C : Cfg}
theorem primW_i32 (h : ∀ n : Int, WrC P C.E.tU8 C.E.f_kbin_AppendInt32 [.int .i32 n] (bigE 4 (n % 4294967296).toNat)) : PrimW P C .i32 := by
  intro fl _ x u w base v s hp
  have : u = .int .i32 x := hp
  subst this
  exact h x w base v s
theorem primW_str (h : ∀ l, WrC P C.E.tU8 C.E.f_kbin_AppendString [strV l] (wStr l)) (hc : C.fx = true → ∀ l, WrC P C.E.tU8 C.E.f_kbin_AppendCompactString [strV l] (wCStr l)) : PrimW P C .str := by
  intro fl hfl x u w base v s hp
  have : u = strV x := hp
  subst this
  cases fl
  · exact h x w base v s
  · exact hc (hfl rfl) x w base v s
theorem primW_nstr (h : ∀ o u, WrP P C.E.tU8 C.E.f_kbin_AppendNullableString (fun w base => StrPtr w (· < base) u o) [u] (wNStr o))
    (hc : C.fx = true → ∀ o u, WrP P C.E.tU8 C.E.f_kbin_AppendCompactNullableString (fun w base => StrPtr w (· < base) u o) [u] (wCNStr o)) : PrimW P C .nstr := by
  intro fl hfl x u
  cases fl
  · exact h x u
  · exact hc (hfl rfl) x u
end
end Go.Kg

set_option linter.unusedSimpArgs false
set_option linter.unusedVariables false
namespace Go.Kg
open Go Go.ChangeShapes Go.WideShapes Go.ChangeAt Go.RowKit
theorem FnIs.of {P : Program} {g N : Nat} {rs : List Rv} {ir : Ir} {fn : Func} (hm : P.follows .mixedOrders = true) (h1 : P.funcs[g]? = some fn) (h2 : fn.body.bind (erase N) = some ir) (h3 : fn.ntmps = N)
    (h4 : fn.results = (rs.map Rv.var).toArray) (h5 : (fn.name == "runtime.NumGoroutine") = false) : FnIs P g N rs ir := by
  refine ⟨hm, ?_⟩
  cases hb : fn.body with
  | none => rw [hb] at h2; cases h2
  | some c => rw [hb] at h2; exact ⟨fn, c, h1, hb, h3, h4, h5, h2⟩
theorem sli_of {P : Program} {t e s bytes : Nat} {z : Value} (hu : P.underlying t = some (.slice e)) (hi : (P.info? e).map (fun i => (i.zero, i.size, i.bytes)) = some (some z, s, bytes)) (hz : z.cells.size = s) : SliI P t e s bytes z := by
  refine ⟨hu, ?_, hz⟩
  cases h : P.info? e with
  | none => rw [h] at hi; cases hi
  | some i => rw [h] at hi; simp at hi; exact ⟨i, rfl, hi.1, hi.2.1, hi.2.2⟩
def FH.okB (h : FH) : Bool := decide (-1 ≤ h.tag) && decide (h.tag < 1000) && decide (-9223372036854775808 ≤ h.dflt) && decide (h.dflt < 9223372036854775808)
def FS.okB : FS → Bool
  | .nil => true
  | .cons h sub rest => h.okB && decide (sub.len ≤ 1000) && sub.okB && rest.okB
theorem FS.ok_of : ∀ {F : FS}, F.okB = true → F.okAll
  | .nil, _ => trivial
  | .cons h sub rest, hb => by
    simp only [FS.okB, FH.okB, Bool.and_eq_true, decide_eq_true_eq] at hb
    exact ⟨⟨hb.1.1.1.1.1.1, hb.1.1.1.1.1.2⟩, ⟨hb.1.1.1.1.2, hb.1.1.1.2⟩, hb.1.1.2, FS.ok_of hb.1.2, FS.ok_of hb.2⟩
def psNe (xs : List FSrc) : Bool := !xs.isEmpty && decide (xs.length ≤ 1000) && xs.all fun x => !x.ps.isEmpty && psOk x.ps
theorem psNe_of {xs : List FSrc} (h : psNe xs = true) : xs ≠ [] ∧ xs.length ≤ 1000 ∧ (∀ x ∈ xs, x.ps ≠ []) ∧ ∀ x ∈ xs, psOk x.ps = true := by
  simp only [psNe, Bool.and_eq_true, List.all_eq_true, Bool.not_eq_true', List.isEmpty_eq_false_iff, decide_eq_true_eq] at h
  exact ⟨h.1.1, h.1.2, fun x hx => (h.2 x hx).1, fun x hx => (h.2 x hx).2⟩
/-- the functions of a message's own lists -/
def subsOk (P : Program) : List FSrc → Prop
  | [] => True
  | x :: r => (∀ g F, x.sub = some (g, F) → SubC P g F) ∧ subsOk P r
theorem srcOk_of {P : Program} : ∀ {xs : List FSrc}, (∀ x ∈ xs, psOk x.ps = true) → subsOk P xs → srcOk P xs
  | [], _, _ => trivial
  | x :: r, h, hs => ⟨h x List.mem_cons_self, hs.1, srcOk_of (fun y hy => h y (List.mem_cons_of_mem _ hy)) hs.2⟩
theorem msg_of {P : Program} {E : Env} (ht : TyK P E) {g nt : Nat} {xs : List FSrc} {fx : Int} (hI : FnIs P g nt [.c 0 E.t_spec_Message] (irMsg E xs fx)) (hb : psNe xs = true) (hs : subsOk P xs) : MsgC P g (mkFS xs) fx := by
  obtain ⟨h1, h2, h3, h4⟩ := psNe_of hb
  exact msg_sound ht hI h1 h2 (srcOk_of h4 hs) h3
theorem ext_kept {w w' : World} (h : Ext none1 w w') (may : MemPlace → Prop) : w.keptBut w' may := by
  refine ⟨h.os, h.output, fun i hi => ?_⟩
  rw [h.block i hi (fun h => h)]
  have : ∃ o, w.heap[i]? = some o := ⟨_, Array.getElem?_eq_getElem hi⟩
  obtain ⟨o, ho⟩ := this
  rw [ho]
  cases o <;> simp
theorem ext_frozen {w w' : World} (h : Ext none1 w w') (a : Addr) (ha : a.block < w.heap.size) : w'.frozen? a = w.frozen? a := by
  simp only [World.frozen?, h.block a.block ha (fun h => h)]
theorem post_of_ext {H : Type} {enc : TypeId × Value → H} {P : Program} {f : Func} {s : ChangeSpec} {apart fresh handsOn again : Bool} {W W' : World} {args : Array Value} {v : Value} {ds gs : List (DataW H)} {before pa pv : List MemPlace}
    (hW : DataW.Whole enc P f.params.toList s.vars apart W args.toList ds gs before)
    (hres : ∀ (b : Nat) (sp : Nat → Bool) (hd : Bool), DataW.TrodAll enc P W' b sp hd f.resultTypes.toList (v.resultList f.resultTypes.size) (s.fn H (ds ++ gs)).results [])
    (hargs : ∀ sp : Nat → Bool, (∀ p ∈ before, sp p.block = true) → DataW.TrodAll enc P W' 0 sp true f.params.toList args.toList (s.fn H (ds ++ gs)).args pa)
    (hvars : ∀ sp : Nat → Bool, (∀ p ∈ before, sp p.block = true) → DataW.TrodVars enc P W' sp s.vars (s.fn H (ds ++ gs)).vars pv)
    (hps : before = pa ++ pv) (he : Ext none1 W W')
    (hok : ∀ (j : Nat) (t : TypeId) (r : Value), f.resultTypes[j]? = some t → (v.resultList f.resultTypes.size)[j]? = some r → Value.okWide P W' .any 0 t r) :
    s.post enc P f apart fresh handsOn again W args v W' := by
  have hold : ∀ p ∈ before, (fun b => decide (b < W.heap.size)) p.block = true := fun p hp => by simpa using hW.lt p hp
  have hlt := hW.lt
  refine ⟨ds, gs, before, [], pa, pv, hW, hres _ _ _, hargs _ hold, hvars _ hold, World.keptBut_mono (fun p hp => ⟨hp, ?_⟩) (ext_kept he (· ∈ before)), fun _ => ?_⟩
  · rw [hps, List.mem_append] at hp
    exact Or.inr hp
  · obtain ⟨_, _, _, _, _, hz, hn⟩ := hW
    refine ⟨hok, _, _, ([] ++ pa) ++ pv, ⟨[] ++ pa, pv, trodAll_append (hargs _ (fun _ _ => rfl)) (hres _ _ _), hvars _ (fun _ _ => rfl), rfl, ?_, ?_⟩, ?_⟩
    · intro b off hp
      have hp' : MemPlace.cell b off ∈ before := by rw [hps]; simpa using hp
      rw [ext_frozen he _ (hlt _ hp')]
      exact hz b off hp'
    · intro ha
      have := hn ha
      rw [hps] at this
      simpa using this
    · intro p hp _
      rw [hps]
      simpa using hp
end Go.Kg

set_option linter.unusedSimpArgs false
set_option linter.unusedVariables false
namespace Go.Kg
open Go Go.ChangeShapes Go.WideShapes Go.ChangeAt Go.RowKit
/-- an argument reads behind the call as it did -/
theorem ext_trod {H : Type} {enc : TypeId × Value → H} {P : Program} {t : TypeId} (hl : laidOutB P = true) (hr : P.readableRec t = true) (hrow : t < P.types.size) {W W' : World} {v : Value} {d : DataW H} {ps : List MemPlace}
    (h : DataW.Trod enc P W 0 (fun _ => true) true t v d ps) (he : Ext none1 W W') (hlt : ∀ x ∈ ps, x.block < W.heap.size) {sp : Nat → Bool} (hs : ∀ p ∈ ps, sp p.block = true) : DataW.Trod enc P W' 0 sp true t v d ps := by
  have hb : Below W.heap.size W W' := ⟨he.os, he.tape, he.output, he.size, fun k hk => he.block k hk (fun h => h)⟩
  exact WideElems.Trod_stays hl hr hrow h (fun x hx => hb.same (hlt x hx)) hs
end Go.Kg

set_option linter.unusedSimpArgs false
set_option linter.unusedVariables false
namespace Go.Kg
open Go Go.ChangeShapes Go.WideShapes Go.ChangeAt Go.RowKit
mutual
def Tr.sz : Tr → Nat
  | .mk _ s _ l u => 1 + s.length + Tr.szL l + (u.map fun x => 1 + x.2.length).sum
def Tr.szL : List Tr → Nat
  | [] => 0
  | t :: l => t.sz + Tr.szL l
end
theorem Tr.sz_pos (t : Tr) : 1 ≤ t.sz := by cases t; simp only [Tr.sz]; omega
theorem Tr.sz_mem : ∀ {l : List Tr} {t : Tr}, t ∈ l → t.sz ≤ Tr.szL l
  | x :: l, t, h => by
    simp only [Tr.szL]
    rcases List.mem_cons.1 h with rfl | h
    · omega
    · have := Tr.sz_mem h; omega
theorem Tr.szL_le (t : Tr) : Tr.szL t.l + 1 ≤ t.sz := by cases t; simp only [Tr.sz, Tr.l]; omega
theorem Tr.sz_at (t : Tr) (i : Nat) : (t.at i).sz ≤ t.sz := by
  unfold Tr.at
  cases h : t.l[i]? with
  | none => simp only [Option.getD_none]; have := t.sz_pos; simp [Tr.none, Tr.sz, Tr.szL]; omega
  | some x => have := Tr.sz_mem (List.mem_of_getElem? h); have := t.szL_le; simp only [Option.getD_some]; omega
def Prim.wt : Prim → Nat
  | .str | .nstr | .bytes | .nbytes => 32772
  | _ => 16
def Sch.wt : Sch → Nat
  | .fin => 1
  | .tags _ _ => 15
  | .prim _ _ _ p _ _ r => p.wt + r.wt
  | .arrP _ _ _ _ _ p r => 5 + p.wt + r.wt
  | .arrS _ _ _ _ _ _ _ _ _ e r => 5 + e.wt + r.wt
  | .sub _ _ _ _ _ _ _ e r => e.wt + r.wt
  | .opt _ _ _ _ _ _ _ _ e r => 1 + e.wt + r.wt
theorem prim_wt (p : Prim) (fl : Bool) (x : p.T) (h : p.wf x) : (p.wr fl x).length ≤ p.wt := by
  have hc := prim_cap p fl x h
  cases p <;> first | exact hc | skip
  all_goals simp [Prim.wr, Prim.wt, num]
  · have hx : (x : List UInt8).length = 16 := h
    exact Nat.le_of_eq hx
theorem counted_len (fl nul : Bool) (n k : Nat) (hn : n ≤ 32767) (hk : k ≤ 4) : (countedS fl nul n k).length ≤ 5 := by
  unfold countedS
  split
  · simp
  · split
    · exact @uvS_len 4 (n + 1) (by omega)
    · split <;> simp [fixE_len] <;> omega
theorem flat_wt {f : Tr → List UInt8} {c : Nat} : ∀ (l : List Tr) (k : Nat), (∀ t ∈ l, (f t).length ≤ c * t.sz) → ((l.take k).flatMap f).length ≤ c * Tr.szL l
  | [], k, _ => by simp
  | t :: l, 0, _ => by simp
  | t :: l, k + 1, h => by
    have h1 := h t List.mem_cons_self
    have h2 := flat_wt l k (fun x hx => h x (List.mem_cons_of_mem _ hx))
    simp only [List.take_succ_cons, List.flatMap_cons, List.length_append, Tr.szL, Nat.mul_add]; omega
def tagWt (l : TagL) : Nat := (l.map fun x => 10 + x.2.length).sum
theorem insU_wt {least : Nat} {x : Nat × List UInt8} : ∀ {l : TagL}, tagWt (insU least x l) ≤ 10 + x.2.length + tagWt l
  | [] => by unfold insU; split <;> simp [tagWt]
  | y :: l => by
    have ih := @insU_wt least x l
    simp only [tagWt] at ih ⊢
    unfold insU; split
    · simp
    · simp only
      split
      · simp only [List.map_cons, List.sum_cons]; omega
      · split
        · simp
        · simp
theorem unkS_wt (least : Nat) (u : TagL) : tagWt (unkS least u) ≤ tagWt u := by
  have : ∀ (l out : TagL), tagWt (l.foldl (fun out x => insU least x out) out) ≤ tagWt out + tagWt l := by
    intro l
    induction l with
    | nil => intro out; simp [tagWt]
    | cons y l ih =>
      intro out
      have h1 := ih (insU least y out)
      have h2 := @insU_wt least y out
      have h3 : tagWt (y :: l) = 10 + y.2.length + tagWt l := by simp [tagWt]
      simp only [List.foldl_cons]
      omega
  have h1 : tagWt (unkS least u) ≤ tagWt ([] : TagL) + tagWt (u.take 32767) := this (u.take 32767) []
  have h2 : ∀ (l : TagL) (k : Nat), tagWt (l.take k) ≤ tagWt l := by
    intro l
    induction l with
    | nil => intro k; simp [tagWt]
    | cons y l ih =>
      intro k
      cases k with
      | zero => simp [tagWt]
      | succ k =>
        have h3 : tagWt (y :: l) = 10 + y.2.length + tagWt l := by simp [tagWt]
        have h4 : tagWt (y :: l.take k) = 10 + y.2.length + tagWt (l.take k) := by simp [tagWt]
        have := ih k
        rw [List.take_succ_cons]; omega
  have h3 := h2 u 32767
  have h4 : tagWt ([] : TagL) = 0 := rfl
  omega
theorem tagWt_sz (u : TagL) : tagWt u ≤ 10 * (u.map fun x => 1 + x.2.length).sum := by
  induction u with
  | nil => simp [tagWt]
  | cons x u ih =>
    have h3 : tagWt (x :: u) = 10 + x.2.length + tagWt u := by simp [tagWt]
    simp only [List.map_cons, List.sum_cons]; omega
theorem tail_wt (fl : Bool) (t : Tr) (ht : t.Ok) : (tailS fl t).length ≤ 15 * t.sz := by
  unfold tailS
  cases fl
  · simp
  simp only [if_true, List.length_append]
  obtain ⟨_, h2, h3⟩ := unkS_spec 0 t.u
  have hw := unkS_wt 0 t.u
  have hz := tagWt_sz t.u
  have hsz : (t.u.map fun x => 1 + x.2.length).sum + 1 ≤ t.sz := by cases t; simp only [Tr.sz, Tr.u]; omega
  have hq : ∀ (q : TagL), (∀ x ∈ q, x ∈ t.u) → ((q.map fun x => (x.1, x.2.take 32767)).flatMap fun x => tagS x.1 x.2).length ≤ tagWt q := by
    intro q
    induction q with
    | nil => intro _; simp
    | cons x q ih =>
      intro hx
      have h1 := ih (fun y hy => hx y (List.mem_cons_of_mem _ hy))
      have hx1 := ht.u x (hx x List.mem_cons_self)
      have a := @uvS_len 4 x.1 (by omega)
      have b := @uvS_len 4 (x.2.take 32767).length (by simp; omega)
      have c : tagWt (x :: q) = 10 + x.2.length + tagWt q := by simp [tagWt]
      have d : (x.2.take 32767).length ≤ x.2.length := by simp; omega
      have e : (tagS x.1 (x.2.take 32767)).length = (uvS x.1).length + (uvS (x.2.take 32767).length).length + (x.2.take 32767).length := by simp only [tagS, List.length_append]
      simp only [List.map_cons, List.flatMap_cons, List.length_append]
      omega
  have h5 := hq _ h3
  have h6 := @uvS_len 4 ((unkS 0 t.u).map fun x => (x.1, x.2.take 32767)).length (by simp; omega)
  omega
theorem part_wt {M : Nat} {flx : Nat → Bool} {v : Nat} (hv : v ≤ M) : ∀ (S : Sch) (F : FS) (n : Nat) (t : Tr), fitS M flx F S = true → t.Ok → (plainS F v (flx v) n t ++ tailS (flx v) t).length ≤ S.wt * t.sz := by
  intro S
  induction S with
  | fin =>
    intro F n t hb ht
    cases F with
    | cons h sub rest => simp [fitS] at hb
    | nil =>
      have := List.all_eq_true.1 hb v (by simp; omega)
      have hf : flx v = false := by simpa using this
      simp [plainS, tailS, hf, FS.list]
  | tags k o =>
    intro F n t hb ht
    cases F with
    | cons h sub rest => simp [fitS] at hb
    | nil =>
      have := tail_wt (flx v) t ht
      simpa [plainS, FS.list, Sch.wt] using this
  | prim g k o p en d r ih =>
    intro F n t hb ht
    cases F with
    | nil => simp [fitS] at hb
    | cons h sub rest =>
      simp only [fitS, Bool.and_eq_true, decide_eq_true_eq, Bool.or_eq_true, Bool.not_eq_true'] at hb
      obtain ⟨⟨⟨⟨htag, hon⟩, hkind⟩, hnul⟩, hrest⟩ := hb
      have h1 := ih rest (n + 1) t hrest ht
      have hgo := onAt_of hon hv
      have hps : plainS (.cons h sub rest) v (flx v) n t = (if h.tag < 0 ∧ h.has v = true then fieldS ⟨h, partL (sub.list v (flx v)) v (flx v), usualL (sub.list v (flx v)), knownL ((sub.list v (flx v)).map (·.h))⟩ v (flx v) (t.at n) else []) ++ plainS rest v (flx v) (n + 1) t := by
        simp [plainS, FS.list, List.zipIdx_cons]
      rw [hps, ← hgo]
      have hp := t.sz_pos
      have hwp : p.wt ≤ p.wt * t.sz := Nat.le_mul_of_pos_right _ hp
      simp only [List.length_append] at h1 ⊢
      simp only [Sch.wt, Nat.add_mul]
      cases hg : g.on v
      · simp; omega
      · have hfk : fieldS ⟨h, partL (sub.list v (flx v)) v (flx v), usualL (sub.list v (flx v)), knownL ((sub.list v (flx v)).map (·.h))⟩ v (flx v) (t.at n) = valS (primK p) (partL (sub.list v (flx v)) v (flx v)) (h.isNull v (t.at n).nul) (flx v) (t.at n) := by
          have h11 : ¬ (primK p = 11) := by cases p <;> simp [primK]
          have h10 : ¬ (primK p = 10) := by cases p <;> simp [primK]
          simp only [fieldS, hkind, if_neg h11, h10, false_and, if_false]
        obtain ⟨x, hx1, hx2⟩ := valS_prim p (partL (sub.list v (flx v)) v (flx v)) (h.isNull v (t.at n).nul) (flx v) (t.at n) (fun htx => by
          rcases hnul with h' | h'
          · rw [htx] at h'; cases h'
          · exact nnAt_of h' hv hg _)
        have := prim_wt p (flx v) x hx2
        rw [hx1] at this
        simp only [htag, true_and, if_true, hfk]; omega
  | arrP g k o sT nul p r ih =>
    intro F n t hb ht
    cases F with
    | nil => simp [fitS] at hb
    | cons h sub rest =>
      simp only [fitS, Bool.and_eq_true, decide_eq_true_eq] at hb
      obtain ⟨⟨⟨⟨⟨htag, hon⟩, hkind⟩, hof⟩, hnul⟩, hrest⟩ := hb
      have h1 := ih rest (n + 1) t hrest ht
      have hgo := onAt_of hon hv
      have hps : plainS (.cons h sub rest) v (flx v) n t = (if h.tag < 0 ∧ h.has v = true then fieldS ⟨h, partL (sub.list v (flx v)) v (flx v), usualL (sub.list v (flx v)), knownL ((sub.list v (flx v)).map (·.h))⟩ v (flx v) (t.at n) else []) ++ plainS rest v (flx v) (n + 1) t := by
        simp [plainS, FS.list, List.zipIdx_cons]
      rw [hps, ← hgo]
      have hp := t.sz_pos
      simp only [List.length_append] at h1 ⊢
      simp only [Sch.wt, Nat.add_mul]
      cases hg : g.on v
      · simp; omega
      · have hc := counted_len (flx v) (h.isNull v (t.at n).nul) (if h.isNull v (t.at n).nul then [] else (t.at n).l.take 32767).length 4 (by split <;> simp <;> omega) (by omega)
        have hf : ((if h.isNull v (t.at n).nul then [] else (t.at n).l.take 32767).flatMap (valS (primK p) (partL (sub.list v (flx v)) v (flx v)) false (flx v))).length ≤ p.wt * t.sz := by
          have h2 := flat_wt (c := p.wt) (f := valS (primK p) (partL (sub.list v (flx v)) v (flx v)) false (flx v)) (t.at n).l 32767 (fun x _ => by
            obtain ⟨y, hy1, hy2⟩ := valS_prim p (partL (sub.list v (flx v)) v (flx v)) false (flx v) x (fun _ => rfl)
            have := prim_wt p (flx v) y hy2
            rw [hy1] at this
            exact Nat.le_trans this (Nat.le_mul_of_pos_right _ x.sz_pos))
          have h3 : p.wt * Tr.szL (t.at n).l ≤ p.wt * t.sz := Nat.mul_le_mul_left _ (by have := (t.at n).szL_le; have := t.sz_at n; omega)
          split
          · simp
          · omega
        simp only [htag, true_and, if_true, fieldS, hkind, hof, List.length_append]; omega
  | arrS g k o sT nul T PT sz df e r ihe ih =>
    intro F n t hb ht
    cases F with
    | nil => simp [fitS] at hb
    | cons h sub rest =>
      simp only [fitS, Bool.and_eq_true, decide_eq_true_eq] at hb
      obtain ⟨⟨⟨⟨⟨⟨htag, hon⟩, hkind⟩, hof⟩, hnul⟩, hsub⟩, hrest⟩ := hb
      have h1 := ih rest (n + 1) t hrest ht
      have hgo := onAt_of hon hv
      have hps : plainS (.cons h sub rest) v (flx v) n t = (if h.tag < 0 ∧ h.has v = true then fieldS ⟨h, partL (sub.list v (flx v)) v (flx v), usualL (sub.list v (flx v)), knownL ((sub.list v (flx v)).map (·.h))⟩ v (flx v) (t.at n) else []) ++ plainS rest v (flx v) (n + 1) t := by
        simp [plainS, FS.list, List.zipIdx_cons]
      rw [hps, ← hgo]
      have hp := t.sz_pos
      simp only [List.length_append] at h1 ⊢
      simp only [Sch.wt, Nat.add_mul]
      cases hg : g.on v
      · simp; omega
      · have hc := counted_len (flx v) (h.isNull v (t.at n).nul) (if h.isNull v (t.at n).nul then [] else (t.at n).l.take 32767).length 4 (by split <;> simp <;> omega) (by omega)
        have hf : ((if h.isNull v (t.at n).nul then [] else (t.at n).l.take 32767).flatMap (valS 10 (partL (sub.list v (flx v)) v (flx v)) false (flx v))).length ≤ e.wt * t.sz := by
          have h2 := flat_wt (c := e.wt) (f := valS 10 (partL (sub.list v (flx v)) v (flx v)) false (flx v)) (t.at n).l 32767 (fun x hx => by
            have := ihe sub 0 x hsub ((ht.at n).l x hx)
            rw [← partS_plain (fitS_noTag hsub)] at this
            exact this)
          have h3 : e.wt * Tr.szL (t.at n).l ≤ e.wt * t.sz := Nat.mul_le_mul_left _ (by have := (t.at n).szL_le; have := t.sz_at n; omega)
          split
          · simp
          · omega
        simp only [htag, true_and, if_true, fieldS, hkind, hof, List.length_append]; omega
  | sub g k o T PT sz df e r ihe ih =>
    intro F n t hb ht
    cases F with
    | nil => simp [fitS] at hb
    | cons h sub rest =>
      simp only [fitS, Bool.and_eq_true, decide_eq_true_eq] at hb
      obtain ⟨⟨⟨⟨⟨htag, hon⟩, hkind⟩, hnul⟩, hsub⟩, hrest⟩ := hb
      have h1 := ih rest (n + 1) t hrest ht
      have hgo := onAt_of hon hv
      have hps : plainS (.cons h sub rest) v (flx v) n t = (if h.tag < 0 ∧ h.has v = true then fieldS ⟨h, partL (sub.list v (flx v)) v (flx v), usualL (sub.list v (flx v)), knownL ((sub.list v (flx v)).map (·.h))⟩ v (flx v) (t.at n) else []) ++ plainS rest v (flx v) (n + 1) t := by
        simp [plainS, FS.list, List.zipIdx_cons]
      rw [hps, ← hgo]
      have hp := t.sz_pos
      simp only [List.length_append] at h1 ⊢
      simp only [Sch.wt, Nat.add_mul]
      cases hg : g.on v
      · simp; omega
      · have hf : (partL (sub.list v (flx v)) v (flx v) (t.at n)).length ≤ e.wt * t.sz := by
          have := ihe sub 0 (t.at n) hsub (ht.at n)
          rw [← partS_plain (fitS_noTag hsub)] at this
          exact Nat.le_trans this (Nat.mul_le_mul_left _ (t.sz_at n))
        have hnn : ¬ (0 ≤ h.null) := by omega
        simp only [htag, true_and, if_true, fieldS, hkind]
        simp [hnn, valS]; omega
  | opt g k o T PT PP sz df e r ihe ih =>
    intro F n t hb ht
    cases F with
    | nil => simp [fitS] at hb
    | cons h sub rest =>
      simp only [fitS, Bool.and_eq_true, decide_eq_true_eq] at hb
      obtain ⟨⟨⟨⟨⟨htag, hon⟩, hkind⟩, hnul⟩, hsub⟩, hrest⟩ := hb
      have h1 := ih rest (n + 1) t hrest ht
      have hgo := onAt_of hon hv
      have hps : plainS (.cons h sub rest) v (flx v) n t = (if h.tag < 0 ∧ h.has v = true then fieldS ⟨h, partL (sub.list v (flx v)) v (flx v), usualL (sub.list v (flx v)), knownL ((sub.list v (flx v)).map (·.h))⟩ v (flx v) (t.at n) else []) ++ plainS rest v (flx v) (n + 1) t := by
        simp [plainS, FS.list, List.zipIdx_cons]
      rw [hps, ← hgo]
      have hp := t.sz_pos
      simp only [List.length_append] at h1 ⊢
      simp only [Sch.wt, Nat.add_mul]
      cases hg : g.on v
      · simp; omega
      · have hf : (partL (sub.list v (flx v)) v (flx v) (t.at n)).length ≤ e.wt * t.sz := by
          have := ihe sub 0 (t.at n) hsub (ht.at n)
          rw [← partS_plain (fitS_noTag hsub)] at this
          exact Nat.le_trans this (Nat.mul_le_mul_left _ (t.sz_at n))
        simp only [htag, true_and, if_true, fieldS, hkind, hnul, and_self]
        rw [if_neg (show ¬ (10 : Int) = 11 by decide)]
        split
        · rw [fixE_len]; omega
        · rw [List.length_append, fixE_len]; omega
end Go.Kg

set_option linter.unusedSimpArgs false
set_option linter.unusedVariables false
set_option linter.unusedSectionVars false
namespace Go.Kg
open Go
end Go.Kg

set_option linter.unusedSimpArgs false
set_option linter.unusedVariables false
set_option linter.unusedSectionVars false
namespace Go.Kg
open Go
end Go.Kg

set_option linter.unusedSimpArgs false
set_option linter.unusedVariables false
set_option linter.unusedSectionVars false
namespace Go.Kg
open Go
end Go.Kg

set_option linter.unusedSimpArgs false
set_option linter.unusedVariables false
set_option linter.unusedSectionVars false
namespace Go.Kg
open Go
end Go.Kg

set_option linter.unusedSimpArgs false
set_option linter.unusedVariables false
set_option linter.unusedSectionVars false
namespace Go.Kg
open Go
section
variable {P : Program} {E : Env} (ht : TyK P E) (hs : SpecFns P E)
include ht hs
end
end Go.Kg

set_option linter.unusedSimpArgs false
set_option linter.unusedVariables false
set_option linter.unusedSectionVars false
namespace Go.Kg
open Go
section
variable {P : Program} {E : Env} (ht : TyK P E) (hs : SpecFns P E)
include ht hs
end
end Go.Kg

set_option linter.unusedSimpArgs false
set_option linter.unusedVariables false
set_option linter.unusedSectionVars false
namespace Go.Kg
open Go
section
variable {P : Program} {E : Env} (ht : TyK P E) (hs : SpecFns P E)
include ht hs
end
end Go.Kg

set_option linter.unusedSimpArgs false
set_option linter.unusedVariables false
set_option linter.unusedSectionVars false
namespace Go.Kg
open Go
section
variable {P : Program} {E : Env} (ht : TyK P E) (hs : SpecFns P E)
include ht hs
end
end Go.Kg

set_option linter.unusedSimpArgs false
set_option linter.unusedVariables false
set_option linter.unusedSectionVars false
namespace Go.Kg
open Go
section
variable {P : Program} {C : Cfg} {ok : TagL → Prop}
end
def Ir.lt : Ir → Ir
  | .seq a _ => a
  | c => c
end Go.Kg

set_option linter.unusedSimpArgs false
set_option linter.unusedVariables false
namespace Go.Kg
open Go
/-- where what is written stands while tags are written: the cell bd; nothing of 'prot' is touched -/
structure DstAt (E : Env) (base bd : Nat) (w0 : World) (v0 : Value) (prot : Nat → Prop) (s : List UInt8) (w : World) (v : Value) : Prop where
  cell : w.heap[bd]? = some (.cells #[v] E.tBs (0, 0))
  own : OwnB E.tU8 w base v s
  grew : Grew w0 v0 w v
  off : ∀ k, prot k → k < w.heap.size ∧ ¬ own1 v k
theorem ownB_cells {e : Nat} {w : World} {base : Nat} {v : Value} {s : List UInt8} (h : OwnB e w base v s) : v.cells = #[v] ∧ v.oneCell' = true := by
  obtain ⟨n, _, h⟩ := h
  rcases h with ⟨rfl, _⟩ | ⟨g, cap, cur, rfl, _⟩ <;> exact ⟨rfl, rfl⟩
theorem DstAt.step {E : Env} {base bd : Nat} {w0 w w' : World} {v0 v v' : Value} {prot : Nat → Prop} {s out : List UInt8} (hD : DstAt E base bd w0 v0 prot s w v) (hbd : w0.heap.size ≤ bd) (hnp : ¬ prot bd) (hnb : ¬ own1 v bd)
    (ho : OwnB E.tU8 w' base v' (s ++ out)) (hg : Grew w v w' v') :
    w'.heap[bd]? = some (.cells #[v] E.tBs (0, 0)) ∧ DstAt E base bd w0 v0 prot (s ++ out) (w'.setBlk bd (.cells #[v'] E.tBs (0, 0))) v' ∧ ¬ own1 v' bd ∧ ∀ k, prot k → (w'.setBlk bd (.cells #[v'] E.tBs (0, 0))).heap[k]? = w.heap[k]? := by
  have hlt := lt_of_heap hD.cell
  have hc : w'.heap[bd]? = some (.cells #[v] E.tBs (0, 0)) := hg.ext.old hD.cell hnb
  have hnb' : ¬ own1 v' bd := fun h => (hg.own bd h).elim hnb (fun h => by omega)
  have hoff : ∀ k, prot k → k < w'.heap.size ∧ ¬ own1 v' k := fun k hk => ⟨Nat.lt_of_lt_of_le (hD.off k hk).1 hg.ext.size, fun h => (hg.own k h).elim (hD.off k hk).2 (fun h' => by have := (hD.off k hk).1; omega)⟩
  have hG := hD.grew.trans hg
  refine ⟨hc, ⟨setBlk_same hc, Own.ext ho ((Ext.refl (fun x => x = bd) w').setBlk (b := bd) (Or.inr rfl) _) (fun b h e => hnb' (by subst e; exact h)), ⟨hG.ext.setBlk (Or.inl hbd) _, hG.own⟩, by simpa using hoff⟩, hnb', ?_⟩
  intro k hk
  have hne : k ≠ bd := fun e => hnp (by subst e; exact hk)
  rw [setBlk_other hne]
  exact hg.ext.block k (hD.off k hk).1 (hD.off k hk).2
section
variable {P : Program} {E : Env} (ht : TyTg P E)
include ht
theorem c_AE1 (hS : SliI P E.tBs E.tU8 1 1 (.int .u8 0)) (hi : intKind? P E.tU32 = some .u32) (hi' : intKind? P E.tInt = some .i64) (hI : FnIs P E.f_pkmsg_Tags_AppendEach_1 nt_pkmsg_Tags_AppendEach_1 (rs_pkmsg_Tags_AppendEach_1 E) (ir_pkmsg_Tags_AppendEach_1 E))
    (hU : ∀ n : Nat, n < 4294967296 → WrC P E.tU8 E.f_kbin_AppendUvarint [.int .u32 n] (uvOut n))
    {base bd : Nat} {w0 w : World} {v0 v val : Value} {prot : Nat → Prop} {s : List UInt8} {x : Nat × List UInt8} {K : Nat → Prop}
    (hD : DstAt E base bd w0 v0 prot s w v) (hbd : w0.heap.size ≤ bd) (hb : base ≤ w0.heap.size) (hnp : ¬ prot bd) (hnb : ¬ own1 v bd) (hx : x.1 < 4294967296) (hxl : x.2.length < 4294967296) (hv : BytesAt w K val x.2) (hK : ∀ k, K k → k < base) (hsz : s.length + (tagW x).length ≤ 1099511627776) :
    Ret P E.f_pkmsg_Tags_AppendEach_1 #[.int .u32 x.1, val, .pointer (some ⟨bd, 0, none⟩)] w fun _ w' => ∃ v', DstAt E base bd w0 v0 prot (s ++ tagW x) w' v' ∧ ¬ own1 v' bd ∧ ∀ k, prot k → w'.heap[k]? = w.heap[k]? := by
  have hbdlt := lt_of_heap hD.cell
  have hxu : uvOut x.1 ++ uvOut x.2.length ++ x.2 = tagW x := by simp [tagW, Nat.mod_eq_of_lt hxl]
  have hsz' : s.length + ((uvOut x.1).length + (uvOut x.2.length).length + x.2.length) ≤ 1099511627776 := by rw [← hxu] at hsz; simp only [List.length_append] at hsz; omega
  refine hI.call (args := [_, _, _]) (by simp [nt_pkmsg_Tags_AppendEach_1]) ?_
  have c0 : w.cell? ⟨bd, 0, none⟩ = some v := by rw [cell_of_blk hD.cell]; rfl
  have hsw : base ≤ w.heap.size := Nat.le_trans hb hD.grew.size
  simp [ir_pkmsg_Tags_AppendEach_1, rs_pkmsg_Tags_AppendEach_1, ld_scl ht.kBs, c0]
  refine (hU x.1 hx w base v s hD.own hsw (by omega)).mono ?_
  rintro v1 w1 ⟨ho1, hg1⟩
  obtain ⟨hc1, hD1, hn1, hp1⟩ := hD.step hbd hnp hnb ho1 hg1
  have hva : BytesAt w1 K val x.2 := hv.ext hg1.ext (fun b _ hk h => by have := (Own.below hD.own h).1; have := hK b hk; omega)
  simp [store_scl ht.kBs, (ownB_cells ho1).2, put1K_blk hc1]
  generalize hw1' : w1.setBlk bd (.cells #[v1] E.tBs (0, 0)) = w1' at *
  have hva1 : BytesAt w1' K val x.2 := by subst hw1'; exact hva.ext ((Ext.refl (fun k => k = bd) w1).setBlk (b := bd) (Or.inr rfl) _) (fun b _ hk e => by have := hK b hk; omega)
  have c1 : w1'.cell? ⟨bd, 0, none⟩ = some v1 := by rw [cell_of_blk hD1.cell]; rfl
  obtain ⟨a, c, rfl, _⟩ := hva1.len
  have hw32 : IntKind.u32.wrap (x.2.length : Int) = (x.2.length : Int) := by simp [IntKind.wrap, IntKind.signed, IntKind.bits]; omega
  have uBs := hS.und
  simp [ld_scl ht.kBs, c1, len_slice uBs, hi, hi', hw32]
  refine (hU x.2.length hxl w1' base v1 _ hD1.own (Nat.le_trans hb hD1.grew.size) (by simp; omega)).mono ?_
  rintro v2 w2 ⟨ho2, hg2⟩
  obtain ⟨hc2, hD2, hn2, hp2⟩ := hD1.step hbd hnp hn1 ho2 hg2
  have hvb : BytesAt w2 K (.slice a x.2.length c) x.2 := hva1.ext hg2.ext (fun b _ hk h => by have := (Own.below hD1.own h).1; have := hK b hk; omega)
  simp [store_scl ht.kBs, (ownB_cells ho2).2, put1K_blk hc2]
  generalize hw2' : w2.setBlk bd (.cells #[v2] E.tBs (0, 0)) = w2' at *
  have hvb1 : BytesAt w2' K (.slice a x.2.length c) x.2 := by subst hw2'; exact hvb.ext ((Ext.refl (fun k => k = bd) w2).setBlk (b := bd) (Or.inr rfl) _) (fun b _ hk e => by have := hK b hk; omega)
  have c2 : w2'.cell? ⟨bd, 0, none⟩ = some v2 := by rw [cell_of_blk hD2.cell]; rfl
  simp [ld_scl ht.kBs, c2]
  refine st_app_bytes hS (by simp) hD2.own (Nat.le_trans hb hD2.grew.size) (by simpa using hvb1) (by simp; omega) ?_
  intro v3 w3 ho3 hg3
  obtain ⟨hc3, hD3, hn3, hp3⟩ := hD2.step hbd hnp hn2 ho3 hg3
  simp [store_scl ht.kBs, (ownB_cells ho3).2, put1K_blk hc3]
  refine ⟨v3, ?_, hn3, fun k hk => ?_⟩
  · rw [← hxu]; simpa [List.append_assoc] using hD3
  · rw [hp3 k hk, hp2 k hk, hp1 k hk]
end
end Go.Kg

set_option linter.unusedSimpArgs false
set_option linter.unusedVariables false
namespace Go.Kg
open Go
theorem DstAt.ext {E : Env} {base bd n0 : Nat} {w0 w w' : World} {v0 v : Value} {prot : Nat → Prop} {s : List UInt8} (hD : DstAt E base bd w0 v0 prot s w v) (he : Ext (fun x => n0 ≤ x) w w') (hbd : bd < n0) (hv : ∀ k, own1 v k → k < n0) (h0 : w0.heap.size ≤ n0) :
    DstAt E base bd w0 v0 (fun k => n0 ≤ k ∧ k < w'.heap.size) s w' v :=
  ⟨he.old hD.cell (by omega), Own.ext hD.own he (fun b h h' => by have := hv b h; omega), ⟨hD.grew.ext.grow he h0, hD.grew.own⟩, fun k hk => ⟨hk.2, fun h => by have := hv k h; omega⟩⟩
theorem DstAt.tags {E : Env} {base bd : Nat} {w0 w : World} {v0 v : Value} {prot : Nat → Prop} {s s0 : List UInt8} (hD : DstAt E base bd w0 v0 prot s w v) (ho : OwnB E.tU8 w0 base v0 s0) {b o : Nat} {u : Value} {l : TagL} (hb : ¬ own1 v0 b) (hc : w0.cell? ⟨b, o, none⟩ = some u) (hl : TagsAt w0 (· < base) u l) :
    w.cell? ⟨b, o, none⟩ = some u ∧ TagsAt w (· < base) u l :=
  ⟨hD.grew.ext.cell hc hb, hl.ext hD.grew.ext (fun b _ hb h => by have := (Own.below ho h).1; omega)⟩
theorem EL.find {w : World} {K : Nat → Prop} {c : Nat} : ∀ {L : List MapEntry} {l : TagL} (i : Nat), EL w K c L l → (l.map (·.1)).Nodup → ∀ x ∈ l, x.1 < 4294967296 ∧ ∃ j v, Instr.findNow (.int .u32) (.int .u32 x.1) L i = some (some (j, v)) ∧ BytesAt w K v x.2
  | e :: L, y :: l, i, ⟨⟨h1, h2, h3, h4⟩, h5⟩, hn, x, hx => by
    simp only [List.map_cons, List.nodup_cons] at hn
    by_cases hxy : y.1 = x.1
    · have : x = y := by
        rcases List.mem_cons.1 hx with h | h
        · exact h
        · exact absurd (List.mem_map.2 ⟨x, h, hxy.symm⟩) hn.1
      subst this
      exact ⟨h2, i, e.val, by simp [Instr.findNow, Instr.sameNow, h1], h4⟩
    · have hx' : x ∈ l := by
        rcases List.mem_cons.1 hx with h | h
        · subst h; exact absurd rfl hxy
        · exact h
      obtain ⟨a, j, v, b1, b2⟩ := EL.find (i + 1) h5 hn.2 x hx'
      have hne : ((x.1 : Int) == (y.1 : Int)) = false := by simp; omega
      exact ⟨a, j, v, by simp [Instr.findNow, Instr.sameNow, h1, hne, b1], b2⟩
  | [], _ :: _, _, h, _, _, _ => h.elim
theorem run_lookup {P : Program} {T KT VT : TypeId} (hT : P.underlying T = some (.map KT VT)) (hK : P.underlying KT = some (.int .u32)) {w : World} {b clock j : Nat} {k : Int} {v : Value} {es : Array MapEntry}
    (hb : w.heap[b]? = some (.map es clock)) (hf : Instr.findNow (.int .u32) (.int .u32 k) es.toList 0 = some (some (j, v))) :
    (Instr.lookup T (.map (some b)) (.int .u32 k) false).run P w = .ok v w := by
  have hget : (getObj b).run P w = .ok (.map es clock) w := by simp [getObj, Sem.run, hb]
  simp [Instr.lookup, run_underlying hT, hget, check_u32 hK, Instr.findKey, run_underlying hK, hf]
theorem EL.keys {w : World} {K : Nat → Prop} {c : Nat} : ∀ {L : List MapEntry} {l : TagL}, EL w K c L l → L.map (·.key) = l.map fun x => Value.int .u32 x.1
  | [], [], _ => rfl
  | e :: L, x :: l, h => by simp [h.1.1, EL.keys h.2]
  | [], _ :: _, h => h.elim
  | _ :: _, [], h => h.elim
theorem left_perm {seen : Array Nat} {e : MapEntry} : ∀ {L : List MapEntry}, (L.map (·.born)).Nodup → e ∈ L → seen.contains e.born = false →
    ((L.filter fun x => !seen.contains x.born).map (·.key)).Perm (e.key :: (L.filter fun x => !(seen.push e.born).contains x.born).map (·.key))
  | x :: L, hn, he, hs => by
    simp only [List.map_cons, List.nodup_cons] at hn
    have hc : ∀ y : MapEntry, (seen.push e.born).contains y.born = (seen.contains y.born || (y.born == e.born)) := by
      intro y; rw [contains_push]
    by_cases hxe : x.born = e.born
    · have hx : x = e := by
        rcases List.mem_cons.1 he with h | h
        · exact h.symm
        · exact absurd (List.mem_map.2 ⟨e, h, hxe.symm⟩) hn.1
      subst hx
      have hrest : (L.filter fun y => !(seen.push x.born).contains y.born) = L.filter fun y => !seen.contains y.born := by
        refine List.filter_congr fun y hy => ?_
        have : (y.born == x.born) = false := by simp; intro h; exact hn.1 (h ▸ List.mem_map.2 ⟨y, hy, rfl⟩)
        rw [hc, this]; simp
      have h1 : (List.filter (fun y : MapEntry => !seen.contains y.born) (x :: L)) = x :: L.filter fun y => !seen.contains y.born := by rw [List.filter_cons, hs]; rfl
      have h2 : (List.filter (fun y : MapEntry => !(seen.push x.born).contains y.born) (x :: L)) = L.filter fun y => !(seen.push x.born).contains y.born := by rw [List.filter_cons, hc]; simp
      rw [h1, h2, hrest]
      exact List.Perm.refl _
    · have he' : e ∈ L := by
        rcases List.mem_cons.1 he with h | h
        · subst h; exact absurd rfl hxe
        · exact h
      have ih := left_perm hn.2 he' hs
      have hxb : (x.born == e.born) = false := by simpa using hxe
      cases hsx : seen.contains x.born
      · have h1 : (List.filter (fun y : MapEntry => !seen.contains y.born) (x :: L)) = x :: L.filter fun y => !seen.contains y.born := by rw [List.filter_cons, hsx]; rfl
        have h2 : (List.filter (fun y : MapEntry => !(seen.push e.born).contains y.born) (x :: L)) = x :: L.filter fun y => !(seen.push e.born).contains y.born := by rw [List.filter_cons, hc, hsx, hxb]; rfl
        rw [h1, h2]
        simp only [List.map_cons]
        exact (List.Perm.cons _ ih).trans (List.Perm.swap _ _ _)
      · have h1 : (List.filter (fun y : MapEntry => !seen.contains y.born) (x :: L)) = L.filter fun y => !seen.contains y.born := by rw [List.filter_cons, hsx]; rfl
        have h2 : (List.filter (fun y : MapEntry => !(seen.push e.born).contains y.born) (x :: L)) = L.filter fun y => !(seen.push e.born).contains y.born := by rw [List.filter_cons, hc, hsx]; simp
        rw [h1, h2]; exact ih
theorem sorted_keys {l : TagL} {d : List Nat} (hn : (l.map (·.1)).Nodup) (hp : d.Perm (l.map (·.1))) (hs : d.Pairwise (· ≤ ·)) : d = (sortTags l).map (·.1) := by
  have hp2 : ((sortTags l).map (·.1)).Perm (l.map (·.1)) := by
    refine List.Perm.map _ ?_
    clear hn hp hs
    induction l with
    | nil => exact List.Perm.refl _
    | cons x l ih =>
      have hi : ∀ (x : Nat × List UInt8) (l : TagL), (insTag x l).Perm (x :: l) := by
        intro x l
        induction l with
        | nil => exact List.Perm.refl _
        | cons y l ih =>
          simp only [insTag]
          split
          · exact List.Perm.refl _
          · exact (List.Perm.cons _ ih).trans (List.Perm.swap _ _ _)
      exact (hi x (sortTags l)).trans (List.Perm.cons _ ih)
  have hs2 : ((sortTags l).map (·.1)).Pairwise (· ≤ ·) := by
    rw [List.pairwise_map]; exact sortTags_sorted l
  exact List.Perm.eq_of_pairwise (fun a b _ _ h1 h2 => Nat.le_antisymm h1 h2) hs hs2 (hp.trans hp2.symm)
/-- sort.Slice over ordered, by the literal in Each -/
def SortC (P : Program) (E : Env) : Prop := ∀ (w : World) (Bs blk c : Nat) (d : List Nat) (row : Array Value), w.cell? ⟨Bs, 0, none⟩ = some (.slice (some ⟨blk, 0, none⟩) d.length c) → Bs ≠ blk → w.heap[blk]? = some (.cells row E.tU32 (0, 0)) →
  (∀ (i x : Nat), d[i]? = some x → row[i]? = some (Value.int .u32 (x : Int))) → 0 < d.length → d.length < 4294967296 →
  Ret P E.f_sort_Slice #[.iface E.t_l_uint32 (.slice (some ⟨blk, 0, none⟩) d.length c), .func (.func E.f_pkmsg_Tags_Each_1) #[] #[.pointer (some ⟨Bs, 0, none⟩)]] w fun _ w' => ∃ d' : List Nat, d'.Perm d ∧ d'.Pairwise (· ≤ ·) ∧ Ext (· = blk) w w' ∧
    ∀ (i x : Nat), d'[i]? = some x → w'.cell? ⟨blk, i, none⟩ = some (Value.int .u32 (x : Int))
@[simp] theorem stp_range {P : Program} {f : Nat → Value} {ty : TypeId} {w : World} {K : Value → World → Prop} {T : TypeId} {a : Operand} : stp P f (.range T a) ty w K = stepF P f (.range T a) ty w K := (rfl)
@[simp] theorem stp_next {P : Program} {f : Nat → Value} {ty : TypeId} {w : World} {K : Value → World → Prop} {a : Operand} {b : Bool} : stp P f (.next a b) ty w K = stepF P f (.next a b) ty w K := (rfl)
@[simp] theorem stp_entry {P : Program} {f : Nat → Value} {ty : TypeId} {w : World} {K : Value → World → Prop} {a : Operand} : stp P f (.entry a) ty w K = stepF P f (.entry a) ty w K := (rfl)
@[simp] theorem stp_lookup {P : Program} {f : Nat → Value} {ty : TypeId} {w : World} {K : Value → World → Prop} {T : TypeId} {a b : Operand} {c : Bool} : stp P f (.lookup T a b c) ty w K = stepF P f (.lookup T a b c) ty w K := (rfl)
@[simp] theorem stp_mkI {P : Program} {f : Nat → Value} {ty : TypeId} {w : World} {K : Value → World → Prop} {T : TypeId} {a : Operand} : stp P f (.makeInterface T a) ty w K = stepF P f (.makeInterface T a) ty w K := (rfl)
def rLeft (w : World) (b r : Nat) : Nat :=
  match w.heap[b]?, w.heap[r]? with
  | some (.map es _), some (.mapIter _ _ seen _) => (leftOf es seen).size
  | _, _ => 0
theorem rLeft_of {w : World} {b r c s c0 : Nat} {es : Array MapEntry} {seen : Array Nat} {m : Option Nat} (h1 : w.heap[b]? = some (.map es c)) (h2 : w.heap[r]? = some (.mapIter m s seen c0)) : rLeft w b r = (leftOf es seen).size := by
  simp [rLeft, h1, h2]
/-- while the keys are gathered -/
structure RngI (E : Env) (base bd n0 : Nat) (w0 : World) (v0 : Value) (s : List UInt8) (v : Value) (it bp m : Nat) (es : Array MapEntry) (clock : Nat) (pt fn : Value) (ww : World) (f : Nat → Value) (w : World) : Prop where
  ext : Ext (fun x => n0 ≤ x) ww w
  f0 : f 0 = pt
  f1 : f 1 = fn
  f4 : f 4 = .pointer (some ⟨bp, 0, none⟩)
  f24 : f 24 = .pointer (some ⟨it, 0, none⟩)
  st : ∃ seen c0 ov done, w.heap[it]? = some (.mapIter (some m) clock seen c0) ∧ clock ≤ c0 ∧ w.heap[bp]? = some (.cells #[ov] E.t_l_uint32 (0, 0)) ∧ Own w n0 E.tU32 1 ov done ∧ (∀ k, own1 ov k → k ≠ it ∧ k ≠ bp) ∧
    (((es.toList.filter fun x => !seen.contains x.born).map (·.key)) ++ done).Perm (es.toList.map (·.key)) ∧ done.length ≤ es.size
section
variable {P : Program} {E : Env} (ht : TyTg P E)
include ht
set_option maxHeartbeats 1000000 in
/-- 'for key := range t.keyvals' -/
theorem c_round (kS : kindOf P E.t_l_uint32 = .scl) (hS : SliI P E.t_l_uint32 E.tU32 1 4 (.int .u32 0)) (hi : intKind? P E.tU32 = some .u32)
    {base bd n0 : Nat} {w0 ww : World} {v0 v : Value} {s : List UInt8} {it bp m : Nat} {es : Array MapEntry} {clock : Nat} {pt fn : Value} {f : Nat → Value} {w : World} {K : Nat → Prop} {l : TagL}
    (h : RngI E base bd n0 w0 v0 s v it bp m es clock pt fn ww f w) (hm : w.heap[m]? = some (.map es clock)) (he : EL w K clock es.toList l) (hn : (es.toList.map (·.born)).Nodup) (hlen : es.size ≤ 40000) (hit : n0 ≤ it ∧ it < w.heap.size) (hbp : n0 ≤ bp ∧ bp < w.heap.size) (hib : it ≠ bp) (hm0 : m < n0) {Q : Post}
    (hdone : ∀ f' w', w' = w → (∀ x, x ≠ 25 → x ≠ 26 → f' x = f x) → leftOf es #[] = leftOf es #[] → (∃ seen c0, w.heap[it]? = some (.mapIter (some m) clock seen c0) ∧ (leftOf es seen).size = 0) → Q (.exit 0) f' w')
    (hnext : ∀ f' w', RngI E base bd n0 w0 v0 s v it bp m es clock pt fn ww f' w' → rLeft w' m it < rLeft w m it → Q .normal f' w') :
    ((Ir.seq
          (.reg [
              ⟨none, some 25, .next (.tmp 24) false, E.tNil⟩,
              ⟨none, some 26, .extract (.tmp 25) 0, E.tB⟩])
        (.seq
          (.cond 26
            .skip
            (.exit 0))
        (.block 1
          (.seq
            (.reg [
                ⟨none, some 27, .entry (.tmp 24), E.tNil⟩,
                ⟨none, some 28, .extract (.tmp 27) 0, E.tU32⟩,
                ⟨none, some 5, .assign (.tmp 28), E.tU32⟩])
          (.reg [
              ⟨none, some 29, .load E.t_l_uint32 (.tmp 4), E.t_l_uint32⟩,
              ⟨none, some 30, .move (.tmp 5), E.tU32⟩,
              ⟨none, some 31, .buildSlice E.t_l_uint32 1 #[(0, .tmp 30)], E.t_l_uint32⟩,
              ⟨none, some 32, .call { callee := .builtin .append, args := #[.tmp 29, .tmp 31], argTypes := #[E.t_l_uint32, E.t_l_uint32] }, E.t_l_uint32⟩,
              ⟨none, none, .store E.t_l_uint32 (.tmp 4) (.tmp 32), E.tNil⟩])))))).cw P Q f w := by
  obtain ⟨seen, c0, ov, done, hr, hc0, hbo, ho, hoff, hperm, hdl⟩ := h.st
  have hold : ∀ x ∈ es.toList, x.born < clock := fun x hx => by
    obtain ⟨y, _, hy⟩ := he.mem x hx
    exact hy.2.2.1
  simp [h.f24]
  rcases run_next_at (P := P) w E.tNil it m clock c0 seen es clock hr hm hold hc0 with ⟨h0, hrun⟩ | ⟨e, hel, w1, hal, hrun⟩
  · rw [stepF_ok (v := .tuple #[.bool false]) (w' := w) (by simp [runF, execOp, h.f24, hrun])]
    simp
    refine cw_false (by simp) ?_
    simp
    exact hdone _ _ rfl (fun x h1 h2 => by simp [h1, h2]) rfl ⟨seen, c0, hr, h0⟩
  · obtain ⟨hem, hes⟩ := mem_left hel
    generalize hw2 : ChangeMaps.setBlock w1 it (.mapIter (some m) clock (seen.push e.born) clock) = w2 at hrun
    rw [stepF_ok (v := .tuple #[.bool true, e.key, e.val]) (w' := w2) (by simp [runF, execOp, h.f24, hrun])]
    have hE12 : Ext (fun x => n0 ≤ x) w w1 := by rcases hal with rfl | rfl <;> first | exact Ext.refl _ _ | exact (Ext.refl _ _).drew
    have hr1 : w1.heap[it]? = some (.mapIter (some m) clock seen c0) := by rcases hal with rfl | rfl <;> exact hr
    have hw2' : w1.setBlk it (.mapIter (some m) clock (seen.push e.born) clock) = w2 := hw2
    have hE2 : Ext (fun x => x = it) w w2 := by
      subst hw2'
      refine Ext.setBlk (C := fun x => x = it) (b := it) ?_ (Or.inr rfl) _
      rcases hal with rfl | rfl <;> first | exact Ext.refl _ _ | exact (Ext.refl _ _).drew
    have hr2 : w2.heap[it]? = some (.mapIter (some m) clock (seen.push e.born) clock) := by subst hw2'; exact setBlk_same hr1
    have hm2 : w2.heap[m]? = some (.map es clock) := hE2.old hm (by omega)
    have hent := run_entry_at (P := P) w2 it m clock seen es clock e hr2 hm2 hem hn
    have hb2 : w2.heap[bp]? = some (.cells #[ov] E.t_l_uint32 (0, 0)) := hE2.old hbo (Ne.symm hib)
    have ho2 : Own w2 n0 E.tU32 1 ov done := Own.ext ho hE2 (fun b hb => (hoff b hb).1)
    obtain ⟨y, hy, hy1, hy2, _⟩ := he.mem e hem
    have cb : w2.cell? ⟨bp, 0, none⟩ = some ov := by rw [cell_of_blk hb2]; rfl
    simp
    refine cw_true (by simp) ?_
    simp [h.f24]
    rw [stepF_ok (v := .tuple #[e.key, e.val]) (w' := w2) (by simp [runF, execOp, h.f24, hent])]
    simp [h.f4, ld_scl kS, cb]
    rw [st_bsl (n := 1) (parts := #[(0, .tmp 30)]) hS (by omega) (by rfl) rfl (by omega) (by omega) (by simp [allSz, hy1, Value.cells])]
    simp [flat, hy1, Value.cells]
    generalize hw3 : w2.alloc (.cells #[.int .u32 y.1] E.tU32) = w3
    have hE3 : Ext none1 w2 w3 := by subst hw3; exact (Ext.refl _ _).alloc _
    have hs3 : w2.heap.size < w3.heap.size := by subst hw3; simp
    have ho3 : Own w3 n0 E.tU32 1 ov done := Own.ext ho2 hE3 (fun _ _ h => h)
    have hb3 : w3.heap[w2.heap.size]? = some (.cells #[.int .u32 y.1] E.tU32 (0, 0)) := by subst hw3; exact alloc_new
    have hs2 : w2.heap.size = w.heap.size := by subst hw2'; rcases hal with rfl | rfl <;> simp
    have hp2 := left_perm hn hem hes
    have hlt : done.length < es.size := by
      have h1 := hperm.length_eq
      have h2 := hp2.length_eq
      simp only [List.length_append, List.length_map, List.length_cons, Array.length_toList] at h1 h2
      omega
    refine st_append hS (by omega) (base := n0) (xs := done) (by simpa using ho3) (ad := some ⟨w2.heap.size, 0, none⟩) (m := 1) (c := 1) (news := [.int .u32 y.1]) (by simp) (by simp) (by simp) ?_ (by simp [Value.oneCell']) (by simp [maxLen]; omega) (by simp; omega) (by omega) ?_
    · intro a ha j u hj
      cases ha
      cases j with
      | zero => simp at hj; subst hj; simp [Addr.add_mk, cell_of_blk hb3]
      | succ j => simp at hj
    · intro v' w4 ho4 hg4
      have hv' : v'.oneCell' = true ∧ v'.cells = #[v'] := by
        obtain ⟨n, _, h⟩ := ho4
        rcases h with ⟨rfl, _⟩ | ⟨g, cap, cur, rfl, _⟩ <;> exact ⟨rfl, rfl⟩
      simp at hg4
      have hb4 : w4.heap[bp]? = some (.cells #[ov] E.t_l_uint32 (0, 0)) := hg4.ext.old (hE3.old hb2 (fun h => h)) (fun h => (hoff bp h).2 rfl)
      have hit4 : w4.heap[it]? = some (.mapIter (some m) clock (seen.push e.born) clock) := hg4.ext.old (hE3.old hr2 (fun h => h)) (fun h => (hoff it h).1 rfl)
      have hm4 : w4.heap[m]? = some (.map es clock) := hg4.ext.old (hE3.old hm2 (fun h => h)) (fun h => by have := (Own.below ho h).1; omega)
      simp [h.f4, store_scl kS, hv'.1, put1K_blk hb4]
      generalize hw5 : w4.setBlk bp (.cells #[v'] E.t_l_uint32 (0, 0)) = w5
      have hE5 : Ext (fun x => x = bp) w4 w5 := by subst hw5; exact (Ext.refl (fun x => x = bp) _).setBlk (b := bp) (Or.inr rfl) _
      have hsz4 := hg4.ext.size
      have hov4 : ∀ k, own1 v' k → k ≠ it ∧ k ≠ bp := fun k hk => (hg4.own k hk).elim (hoff k) (fun h => by omega)
      have hit5 : w5.heap[it]? = some (.mapIter (some m) clock (seen.push e.born) clock) := hE5.old hit4 hib
      have hm5 : w5.heap[m]? = some (.map es clock) := hE5.old hm4 (by omega)
      refine hnext _ _ ⟨?_, by simp [h.f0], by simp [h.f1], by simp [h.f4], by simp [h.f24], seen.push e.born, clock, v', done ++ [.int .u32 y.1], hit5, Nat.le_refl _, ?_, Own.ext ho4 hE5 (fun b hb => (hov4 b hb).2), hov4, ?_, ?_⟩ ?_
      · refine h.ext.trans ?_
        refine (hE2.mono (fun _ _ e => by omega)).trans ?_
        refine (hE3.mono (fun _ _ e => e.elim)).trans ?_
        refine (hg4.ext.mono (fun k _ hk => (Own.below ho hk).1)).trans ?_
        exact hE5.mono (fun _ _ e => by omega)
      · subst hw5; exact setBlk_same hb4
      · refine List.Perm.trans ?_ hperm
        have := hp2.append_right done
        refine List.Perm.trans ?_ this.symm
        simp only [hy1, List.cons_append]
        rw [← List.append_assoc]
        exact List.perm_append_singleton _ _
      · simp; omega
      · rw [rLeft_of hm5 hit5, rLeft_of hm hr]
        exact left_shrinks es seen e hel
end
end Go.Kg

set_option linter.unusedSimpArgs false
set_option linter.unusedVariables false
set_option linter.unusedSectionVars false
namespace Go.Kg
open Go
section
variable {P : Program} {E : Env}
end
section
variable {P : Program} {C : Cfg} {sT : Nat} (hT : ∀ (w : World) (K : Nat → Prop) (u : Value) (l : TagL), TagsAt w K u l → Ret P sT #[.agg #[u], .agg #[.map none]] w fun v w' => v = .bool l.isEmpty ∧ Ext none1 w w')
include hT
end
end Go.Kg

set_option linter.unusedSimpArgs false
set_option linter.unusedVariables false
set_option linter.unusedSectionVars false
namespace Go.Kg
open Go
section
variable {P : Program} {C : Cfg}
end
end Go.Kg
