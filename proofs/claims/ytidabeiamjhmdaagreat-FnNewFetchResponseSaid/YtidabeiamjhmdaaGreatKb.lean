/- What is proved here: how the code of the messages runs, in general: a semantics of calls by their texts, and contracts of the functions of kbin and of the reference. No condition but those that each theorem names. -/
import Derived.Test.YtidabeiamjhmdaaGreatKa
set_option linter.unusedSectionVars false
set_option linter.unusedSimpArgs false
set_option linter.unusedVariables false
set_option linter.unusedSimpArgs false
set_option linter.unusedVariables false
namespace Go.Kg
open Go
theorem flatMap_take {α : Type} (g : α → List UInt8) (l : List α) (i : Nat) (x : α) (h : l[i]? = some x) : (l.take (i + 1)).flatMap g = (l.take i).flatMap g ++ g x := by
  rw [List.take_add_one, h]; simp
theorem flatMap_take_le {α : Type} (g : α → List UInt8) (l : List α) (i : Nat) : ((l.take i).flatMap g).length ≤ (l.flatMap g).length := by
  have : l.flatMap g = (l.take i).flatMap g ++ (l.drop i).flatMap g := by rw [← List.flatMap_append, List.take_append_drop]
  rw [this, List.length_append]; omega
/-- What a field of a list is loaded as: one cell. -/
theorem loc_slice {w : World} {f : Nat → Value} {l : Nat} {u : Value} (h : LocVal w f .i8 l u) : f l = u := by simpa [LocVal] using h
theorem rep1_one {w : World} {K : Nat → Prop} {p : Prim} {u : Value} {x : p.T} (h : p.rep1 w K u x) : if p = .uuid then ∃ c : Array Value, u = .agg c ∧ c.size = 16 ∧ allOne c.toList = true else u.oneCell' = true := by
  cases p with
  | uuid => exact ⟨_, h.1, by rw [List.size_toArray]; exact (cellsOf_length (s := x)).trans h.2, by simpa using allOne_cells _⟩
  | bool => have h' : u = .bool x := h; subst h'; simp [Value.oneCell']
  | i8 => have h' : u = .int .i8 x := h; subst h'; simp [Value.oneCell']
  | i16 => have h' : u = .int .i16 x := h; subst h'; simp [Value.oneCell']
  | u16 => obtain ⟨m, _, _, rfl⟩ := h; simp [Value.oneCell']
  | i32 => have h' : u = .int .i32 x := h; subst h'; simp [Value.oneCell']
  | i64 => have h' : u = .int .i64 x := h; subst h'; simp [Value.oneCell']
  | str => have h' : u = strV x := h; subst h'; simp [Value.oneCell', strV]
  | nstr =>
    cases x with
    | none => have h' : u = .pointer none := h; subst h'; simp [Value.oneCell']
    | some l => obtain ⟨a, rfl, _⟩ := h; simp [Value.oneCell']
  | bytes =>
    obtain ⟨a, c, rfl, _⟩ := BytesAt.len h; simp [Value.oneCell']
  | nbytes =>
    cases x with
    | none => have h' : u = .slice none 0 0 := h; subst h'; simp [Value.oneCell']
    | some l => obtain ⟨a, c, rfl, _⟩ := BytesAt.len h.1; simp [Value.oneCell']
theorem seg_one {cs : List Value} {o : Nat} {v : Value} (h : cs[o]? = some v) (h1 : v.oneCell' = true) : seg cs o v.cells.toList := by
  have : v.cells = #[v] := by cases v <;> simp_all [Value.oneCell', Value.cells]
  intro j u hj
  rw [this] at hj
  cases j with
  | zero => simp at hj; subst hj; simpa using h
  | succ j => simp at hj
section
variable {P : Program} {C : Cfg}
/-- What the frame holds while a struct is written. -/
structure FrW (C : Cfg) (f : Nat → Value) (pv b a : Nat) (ver : Int) (fl : Bool) (n : Nat) : Prop where
  ptr : f pv = .pointer (some ⟨b, a, none⟩)
  ptrN : pv < n ∧ pv ≠ 1
  svv : f C.sv = .int .i16 ver
  svN : C.sv < n ∧ C.sv ≠ 1
  flg : flagOk C f fl
  sfN : C.fx = true → C.sf < n
  one : 1 < n
theorem FrW.keep {f f' : Nat → Value} {pv b a n : Nat} {ver : Int} {fl : Bool} (h : FrW C f pv b a ver fl n) {t : Nat} (hk : Keeps f f' t) (ht : n ≤ t) : FrW C f' pv b a ver fl n :=
  ⟨(hk _ (by have := h.ptrN; omega) h.ptrN.2).trans h.ptr, h.ptrN, (hk _ (by have := h.svN; omega) h.svN.2).trans h.svv, h.svN,
   ⟨fun hx => ⟨(hk _ (by have := h.sfN hx; omega) (h.flg.1 hx).2).trans (h.flg.1 hx).1, (h.flg.1 hx).2⟩, h.flg.2⟩, h.sfN, h.one⟩
theorem FrW.up {f : Nat → Value} {pv b a n m : Nat} {ver : Int} {fl : Bool} (h : FrW C f pv b a ver fl n) (hm : n ≤ m) : FrW C f pv b a ver fl m :=
  ⟨h.ptr, ⟨by have := h.ptrN; omega, h.ptrN.2⟩, h.svv, ⟨by have := h.svN; omega, h.svN.2⟩, h.flg, fun hx => by have := h.sfN hx; omega, by have := h.one; omega⟩
/-- The destination. -/
def Dst (C : Cfg) (f : Nat → Value) (w : World) (base : Nat) (s : List UInt8) : Prop := OwnB C.E.tU8 w base (f 1) s ∧ base ≤ w.heap.size
/-- Only slot 1, the locals from n up to m, and the temporaries from t on have turned. -/
def KeepR (f f' : Nat → Value) (n m t : Nat) : Prop := ∀ x, x ≠ 1 → (x < n ∨ (m ≤ x ∧ x < t)) → f' x = f x
theorem KeepR.keeps {f f' : Nat → Value} {n m t : Nat} (h : KeepR f f' n m t) : Keeps f f' n := fun x hx h1 => h x h1 (.inl hx)
theorem KeepR.of {f f' : Nat → Value} {n m t : Nat} (h : Keeps f f' t) (hn : n ≤ t) : KeepR f f' n m t := fun x h1 hx => h x (by omega) h1
theorem KeepR.refl (f : Nat → Value) (n m t : Nat) : KeepR f f n m t := fun _ _ _ => rfl
theorem KeepR.trans {f g h : Nat → Value} {n m t n' m' t' : Nat} (a : KeepR f g n m t) (b : KeepR g h n' m' t') (hn : n ≤ n') (hm : m ≤ m') (ht : t ≤ t') : KeepR f h n m' t :=
  fun x h1 hx => (b x h1 (by omega)).trans (a x h1 (by omega))
theorem KeepR.mono {f g : Nat → Value} {n m t m' : Nat} (a : KeepR f g n m t) (hm : m ≤ m') : KeepR f g n m' t := fun x h1 hx => a x h1 (by omega)
/-- from (f, w) to (f', w'): out was written -/
structure Wrote (C : Cfg) (f : Nat → Value) (w : World) (base : Nat) (s out : List UInt8) (n m t : Nat) (f' : Nat → Value) (w' : World) : Prop where
  dst : Dst C f' w' base (s ++ out)
  grew : Grew w (f 1) w' (f' 1)
  keep : KeepR f f' n m t
theorem Wrote.refl {f : Nat → Value} {w : World} {base : Nat} {s : List UInt8} (h : Dst C f w base s) (n m t : Nat) : Wrote C f w base s [] n m t f w := ⟨by simpa using h, Grew.refl _ _, KeepR.refl _ _ _ _⟩
theorem Wrote.trans {f g h : Nat → Value} {w1 w2 w3 : World} {base n m t n' m' t' : Nat} {s a b : List UInt8} (x : Wrote C f w1 base s a n m t g w2) (y : Wrote C g w2 base (s ++ a) b n' m' t' h w3) (hn : n ≤ n') (hm : m ≤ m') (ht : t ≤ t') : Wrote C f w1 base s (a ++ b) n m' t h w3 :=
  ⟨by have := y.dst; rwa [List.append_assoc] at this, x.grew.trans y.grew, x.keep.trans y.keep hn hm ht⟩
theorem Wrote.mk' {f f' : Nat → Value} {w w' : World} {base n m t : Nat} {s out : List UInt8} {v v' : Value} (hb : base ≤ w.heap.size) (h1 : f 1 = v) (h1' : f' 1 = v') (ho : OwnB C.E.tU8 w' base v' (s ++ out)) (hg : Grew w v w' v') (hk : KeepR f f' n m t) : Wrote C f w base s out n m t f' w' := by
  subst h1; subst h1'
  exact ⟨⟨ho, Nat.le_trans hb hg.size⟩, hg, hk⟩
theorem Wrote.own {f g : Nat → Value} {w w' : World} {base n m t : Nat} {s a : List UInt8} (hd : Dst C f w base s) (x : Wrote C f w base s a n m t g w') : ∀ b, b < w.heap.size → b < base → ¬ own1 (f 1) b :=
  fun b _ hb ho => by have := (Own.below hd.1 ho).1; omega
def SoundW (P : Program) (C : Cfg) (ok : TagL → Prop) (S : Sch) : Prop := ∀ (T PT pv : Nat) (c : Ct) (Q : Post) (f : Nat → Value) (w : World) (b a : Nat) (cs : List Value) (x : S.T) (ver : Int) (fl : Bool) (base : Nat) (s : List UInt8),
  S.tyW P C T = true → S.NeedW P C ok → FrW C f pv b a ver fl c.l → (S.genW C T PT pv c).2.l ≤ c.t → b < base → CellsAt w b a cs → S.Rep w (· < base) cs x → S.TagsOk ok x → Dst C f w base s → s.length + (S.wr ver fl x).length ≤ 1099511627776 →
  (∀ f' w', Wrote C f w base s (S.wr ver fl x) c.l (S.genW C T PT pv c).2.l c.t f' w' → Q .normal f' w') → (seqL (S.genW C T PT pv c).1).wp P Q f w
variable {ok : TagL → Prop}
theorem soundW_fin : SoundW P C ok .fin := by
  intro T PT pv c Q f w b a cs x ver fl base s _ _ hf _ _ _ _ _ hd _ h
  exact h f w (Wrote.refl hd _ _ _)
theorem soundW_tags (ht : TyC P C) (k o : Nat) : SoundW P C ok (.tags k o) := by
  intro T PT pv c Q f w b a cs x ver fl base s hty hN hf hc hb hcs hr hok hd hsz h
  simp only [Sch.tyW, Bool.and_eq_true, beq_iff_eq] at hty
  obtain ⟨u, hu, hl⟩ := hr
  have hlt : c.l ≤ c.t := hc
  refine w_tags ht hN hty.1 hf.flg (by have := hf.sfN hty.1; omega) (by have := hf.one; omega) (by have := hf.ptrN; omega) hf.ptrN.2 hf.ptr hty.2 hb hcs hu hl hok rfl hd.1 hd.2 hsz ?_
  intro f' w' v' h1 ho hg hk
  exact h f' w' (Wrote.mk' hd.2 rfl h1 ho hg (KeepR.of hk hlt))
theorem soundW_prim (ht : TyC P C) (g : Gd) (k o : Nat) (p : Prim) (en : Nat) (d : Int) (rest : Sch) (ih : SoundW P C ok rest) : SoundW P C ok (.prim g k o p en d rest) := by
  intro T PT pv c Q f w b a cs x ver fl base s hty hN hf hc hb hcs hr hok hd hsz h
  obtain ⟨x, xr⟩ := x
  obtain ⟨⟨u, hu, hrep⟩, hrr⟩ := hr
  simp only [Sch.tyW, Bool.and_eq_true, beq_iff_eq] at hty
  obtain ⟨⟨⟨hF, hk⟩, hen⟩, htr⟩ := hty
  have hq : p = .uuid → isAgg16 (kindOf P C.E.tUu) = true := by
    rintro rfl
    have he0 : en = 0 := by simpa using hen
    subst he0
    simpa [Prim.kOk, Prim.ty] using hk
  obtain ⟨hNp, hNr⟩ := hN
  have h1c := hf.one
  -- what comes behind
  have behind : ∀ (c' : Ct) (f1 : Nat → Value) (w1 : World), c.l ≤ c'.l → c.t ≤ c'.t → (rest.genW C T PT pv c').2.l ≤ c'.t → (∀ f' w', Wrote C f w base s (Sch.wr ver fl (.prim g k o p en d rest) (x, xr)) c.l (rest.genW C T PT pv c').2.l c.t f' w' → Q .normal f' w') → Wrote C f w base s (if g.on ver then p.wr fl x else []) c.l c'.l c.t f1 w1 → (seqL (rest.genW C T PT pv c').1).wp P Q f1 w1 := by
    intro c' f1 w1 hl htt hc' h hw
    have hgrew := hw.grew
    refine ih T PT pv c' Q f1 w1 b a cs xr ver fl base (s ++ (if g.on ver then p.wr fl x else [])) htr hNr ((hf.keep hw.keep.keeps (Nat.le_refl _)).up hl) hc' hb ?_ ?_ hok hw.dst ?_ ?_
    · exact CellsAt.ext (K := (· < base)) hgrew.ext (hw.own hd) hcs hb
    · exact Sch.Rep_ext hgrew.ext (hw.own hd) rest hrr
    · simp only [Sch.wr, List.length_append] at hsz; simp only [List.length_append]; omega
    · intro f2 w2 hw2
      exact h f2 w2 (hw.trans hw2 hl (genW_mono (C := C) rest T PT pv c').1 htt)
  have hszp : g.on ver = true → s.length + (p.wr fl x).length ≤ 1099511627776 := by
    intro hon; simp only [Sch.wr, hon, if_true, List.length_append] at hsz; omega
  by_cases he : en = 0
  · subst he
    simp only [Sch.genW, if_true] at hc ⊢
    simp only [if_true] at hk
    have hm := (genW_mono (C := C) rest T PT pv ⟨c.l + 1, c.t + gdN g + 4 + emitN C p, c.k⟩).1
    simp only at hm
    refine seqL_cons ?_
    refine w_guard ht hf.svv (by have := hf.svN; omega) (by omega) ?_ ?_
    · intro hon f1 hk1 h11
      have hf1 := hf.keep hk1 (by omega)
      refine seqL_cons ?_
      refine w_load ht hq hf1.ptr hF hk hcs hu (rep1_one hrep) (by omega) (by omega) ?_
      intro f2 w2 hv2 he2 hk2'
      have hk2 : Keeps f1 f2 c.l := fun x hx _ => hk2' x (by omega) (by omega)
      have h21 : f2 1 = f1 1 := hk2' 1 (by omega) (by omega)
      have hf2 := hf1.keep hk2 (Nat.le_refl _)
      have hd2 : OwnB C.E.tU8 w2 base (f 1) s := Own.ext hd.1 he2 (fun _ _ h => h)
      show (emitW C p c.l (c.t + gdN g + 4)).wp P _ f2 w2
      refine w_emit ht hq (x := x) (fl := fl) (by omega) (by omega) (by omega) hv2 (h21.trans h11) hf2.flg (fun hx => by have := hf2.sfN hx; omega) hNp
        (Prim.rep1_ext he2 (fun _ _ _ h => h) hrep) hd2 (Nat.le_trans hd.2 he2.size) (hszp hon) ?_
      intro f3 w3 v3 h31 ho3 hg3 hk3
      refine behind ⟨c.l + 1, c.t + gdN g + 4 + emitN C p, c.k⟩ f3 w3 (by simp) (by simp; omega) (by simp; omega) h ?_
      rw [hon]
      exact Wrote.mk' hd.2 rfl h31 ho3 (Grew.pre he2 hg3) (fun x hx1 hx => ((hk3 x (by simp only at hx; omega) hx1).trans (hk2' x (by omega) (by simp only at hx; omega))).trans (hk1 x (by omega) hx1))
    · intro hoff f1 hk1 h11
      refine behind ⟨c.l + 1, c.t + gdN g + 4 + emitN C p, c.k⟩ f1 w (by simp) (by simp; omega) (by simp; omega) h ?_
      rw [hoff]
      exact ⟨by simp only [List.append_nil, if_false, Bool.false_eq_true]; exact ⟨by rw [h11]; exact hd.1, hd.2⟩, by rw [h11]; exact Grew.refl _ _, KeepR.of hk1 (by omega)⟩
  · have hpu : p ≠ .uuid := by
      simp only [Bool.or_eq_true, beq_iff_eq, bne_iff_ne] at hen
      rcases hen with h | h
      · exact absurd h he
      · exact h
    simp only [Sch.genW, if_neg he] at hc h ⊢
    simp only [if_neg he] at hk
    have hm := (genW_mono (C := C) rest T PT pv ⟨c.l + 2, c.t + gdN g + 5 + emitN C p, c.k⟩).1
    simp only at hm
    refine seqL_cons ?_
    refine w_guard ht hf.svv (by have := hf.svN; omega) (by omega) ?_ ?_
    · intro hon f1 hk1 h11
      have hf1 := hf.keep hk1 (by omega)
      refine seqL_cons ?_
      refine w_load ht hq hf1.ptr hF hk hcs hu (rep1_one hrep) (by omega) (by omega) ?_
      intro f2 w2 hv2 he2 hk2'
      have hk2 : Keeps f1 f2 c.l := fun x hx _ => hk2' x (by omega) (by omega)
      have h21 : f2 1 = f1 1 := hk2' 1 (by omega) (by omega)
      have hf2 := hf1.keep hk2 (Nat.le_refl _)
      have hd2 : OwnB C.E.tU8 w2 base (f 1) s := Own.ext hd.1 he2 (fun _ _ h => h)
      simp only [LocVal, if_neg hpu] at hv2
      refine seqL_cons ?_
      show (Ir.reg _).wp P _ f2 w2
      refine wp_reg ?_
      simp [hv2]
      show (emitW C p (c.l + 1) (c.t + gdN g + 5)).wp P _ _ w2
      refine w_emit ht hq (x := x) (fl := fl) (u := u) (v := f 1) (by omega) (by omega) (by omega) ?_ ?_ ?_ (fun hx => by have := hf2.sfN hx; omega) hNp
        (Prim.rep1_ext he2 (fun _ _ _ h => h) hrep) hd2 (Nat.le_trans hd.2 he2.size) (hszp hon) ?_
      · simp [LocVal, hpu]
      · rw [upd_apply, if_neg (by omega), upd_apply, if_neg (by omega)]; exact h21.trans h11
      · exact (hf2.keep (keeps_upd (keeps_upd (Keeps.refl _ c.l) (by omega)) (by omega)) (Nat.le_refl _)).flg
      · intro f3 w3 v3 h31 ho3 hg3 hk3
        refine behind ⟨c.l + 2, c.t + gdN g + 5 + emitN C p, c.k⟩ f3 w3 (by simp) (by simp; omega) (by simp; omega) h ?_
        rw [hon]
        refine Wrote.mk' hd.2 rfl h31 ho3 (Grew.pre he2 hg3) (fun x hx1 hx => ?_)
        simp only at hx
        rw [hk3 x (by omega) hx1, upd_apply, if_neg (by omega), upd_apply, if_neg (by omega), hk2' x (by omega) (by omega)]
        exact hk1 x (by omega) hx1
    · intro hoff f1 hk1 h11
      refine behind ⟨c.l + 2, c.t + gdN g + 5 + emitN C p, c.k⟩ f1 w (by simp) (by simp; omega) (by simp; omega) h ?_
      rw [hoff]
      exact ⟨by simp only [List.append_nil, if_false, Bool.false_eq_true]; exact ⟨by rw [h11]; exact hd.1, hd.2⟩, by rw [h11]; exact Grew.refl _ _, KeepR.of hk1 (by omega)⟩
theorem kOk_scl {P : Program} {T : Nat} (h : isScl (kindOf P T) = true) : Prim.kOk P T .i8 = true := by
  simp [Prim.kOk, h]
/-- Both kinds of lists: what comes ahead of the loop, and the loop over a list of so many elements. -/
theorem w_list (ht : TyC P C) {T PT pv k o sT l m t t1 t' kk sz b a base : Nat} {nul : Option Nat} {cs : List Value} {v : Value} {ls : Option (List (List Value))} {Q : Post} {f : Nat → Value} {w : World} {ver : Int} {fl : Bool} {s : List UInt8} {body : Ir}
    {α : Type} (el : List α) (wrE : α → List UInt8) (hF : fldOff P T k = some o) (hk : isScl (kindOf P sT) = true) (hsl : sliSz P sT = some sz) (hW : LenWC P C nul) (hf : FrW C f pv b a ver fl l) (hlt : l + 1 ≤ t) (hlm : l + 1 ≤ m) (h1l : 1 < l) (ht1 : t1 = t + 4 + lenN C nul) (htt : t1 + 4 ≤ t')
    (hb : b < base) (hcs : CellsAt w b a cs) (hu : cs[o]? = some v) (ha : ArrAt w (· < base) sz v ls) (hn : (ls.getD []).length = el.length) (hd : Dst C f w base s)
    (hsz : s.length + (lenW nul fl el.length ls.isNone ++ el.flatMap wrE).length ≤ 1099511627776)
    (hbody : ∀ (i : Nat) (y : α) (s' : List UInt8) (f' : Nat → Value) (w' : World), el[i]? = some y → FrW C f' pv b a ver fl l → f' l = v → f' (t1 + 2) = .int .i64 i → f' (t1 + 1) = .int .i64 el.length → Dst C f' w' base s' → s'.length + (wrE y).length ≤ 1099511627776 →
      Grew w (f 1) w' (f' 1) →
      body.wp P (fun e f'' w'' => e = .normal ∧ Wrote C f' w' base s' (wrE y) l m t f'' w'' ∧ f'' l = v ∧ f'' (t1 + 2) = .int .i64 i ∧ f'' (t1 + 1) = .int .i64 el.length) f' w')
    (h : ∀ f' w', Wrote C f w base s (lenW nul fl el.length ls.isNone ++ el.flatMap wrE) l m t f' w' → Q .normal f' w') :
    (seqL [loadI C T PT pv k sT l t .i8, lenI C nul sT l (t + 4), rangeI C sT l t1 t' kk body]).wp P Q f w := by
  obtain ⟨ad, cp, rfl, hnone, hmax⟩ := ha.form
  rw [hn] at *
  refine seqL_cons ?_
  refine w_load ht (fun h => by cases h) hf.ptr hF (kOk_scl hk) hcs (seg_one hu rfl) (by simp [Value.oneCell']) (by omega) (by omega) ?_
  intro f2 w2 hv2 he2 hk2'
  have hk2 : Keeps f f2 l := fun x hx _ => hk2' x (by omega) (by omega)
  have h21 : f2 1 = f 1 := hk2' 1 (by omega) (by omega)
  have hv2' := loc_slice hv2
  have hf2 := hf.keep hk2 (Nat.le_refl _)
  have hd2 : OwnB C.E.tU8 w2 base (f 1) s := Own.ext hd.1 he2 (fun _ _ h => h)
  refine seqL_cons ?_
  refine w_len (v := f 1) hsl (by omega) (by omega) (by omega) hv2' h21 hf2.flg (fun hx => by have := hf2.sfN hx; omega) hW hd2 (Nat.le_trans hd.2 he2.size) (fl := fl) ?_ ?_
  · rw [hnone]; simp only [List.length_append] at hsz; omega
  intro f3 w3 v3 h31 ho3 hg3 hk3
  rw [hnone] at ho3
  have hf3 := hf2.keep (hk3.mono (t' := l) (by omega)) (Nat.le_refl _)
  have hv3 : f3 l = .slice ad el.length cp := (hk3 l (by omega) (by omega)).trans hv2'
  have hw3 : Wrote C f w base s (lenW nul fl el.length ls.isNone) l m t f3 w3 := Wrote.mk' hd.2 rfl h31 ho3 (Grew.pre he2 hg3) (fun x hx1 hx => (hk3 x (by omega) hx1).trans (hk2' x (by omega) (by omega)))
  show (rangeI C sT l t1 t' kk body).wp P Q f3 w3
  refine w_range hsl (by omega) (by omega) htt hmax hv3
    (fun i f' w' => Wrote C f w base s (lenW nul fl el.length ls.isNone ++ (el.take i).flatMap wrE) l m t f' w' ∧ f' l = .slice ad el.length cp) ?_ ?_ ?_ ?_
  · rintro i f1 f1' w' hx ⟨hw, hl⟩
    refine ⟨⟨?_, ?_, ?_⟩, (hx l (by omega)).trans hl⟩
    · have := hw.dst; unfold Dst at this ⊢; rwa [hx 1 (by omega)]
    · have := hw.grew; rwa [hx 1 (by omega)]
    · intro x hx1 hxl; rw [hx x (by omega)]; exact hw.keep x hx1 hxl
  · simpa using ⟨hw3, hv3⟩
  · rintro i hi f' w' ⟨hw, hl⟩ h2 h1
    obtain ⟨y, hy⟩ : ∃ y, el[i]? = some y := ⟨_, List.getElem?_eq_getElem hi⟩
    have hfm := flatMap_take wrE el i y hy
    have hle := flatMap_take_le wrE el (i + 1)
    rw [hfm] at hle
    refine Ir.wp_mono body ?_ (hbody i y (s ++ (lenW nul fl el.length ls.isNone ++ (el.take i).flatMap wrE)) f' w' hy (hf.keep hw.keep.keeps (Nat.le_refl _)) hl h2 h1 hw.dst ?_ hw.grew)
    · rintro e f'' w'' ⟨rfl, hw2, hl2, h22, h12⟩
      refine ⟨rfl, ⟨?_, hl2⟩, h22, h12⟩
      have := hw.trans hw2 (Nat.le_refl _) (Nat.le_refl _) (Nat.le_refl _)
      rw [hfm]
      rwa [List.append_assoc] at this
    · simp only [List.length_append] at hsz hle ⊢; omega
  · rintro f' w' ⟨hw, _⟩
    rw [List.take_length] at hw
    exact h f' w' hw
/-- v := v[i], a thing without fields -/
theorem w_elemP (ht : TyC P C) {sT ty l2 t s1 s2 n i c b o sz : Nat} {p : Prim} (hq : p = .uuid → isAgg16 (kindOf P C.E.tUu) = true) {Q : Post} {f : Nat → Value} {w : World} {es : List Value} {u : Value} (hsl : sliSz P sT = some sz) (hk : p.kOk P ty = true) (h1 : f s1 = .slice (some ⟨b, o, none⟩) n c) (h2 : f s2 = .int .i64 i) (hi : i < n)
    (hs1 : s1 < t) (hs2 : s2 < t) (hl2 : l2 < t) (hc : CellsAt w b (o + i * sz) es) (he : es = u.cells.toList) (hu : if p = .uuid then ∃ c : Array Value, u = .agg c ∧ c.size = 16 ∧ allOne c.toList = true else u.oneCell' = true)
    (h : ∀ f' w', LocVal w' f' p l2 u → Ext none1 w w' → (∀ x, x < t → x ≠ l2 → f' x = f x) → Q .normal f' w') :
    (Ir.reg ([⟨none, some t, .move (.tmp s1), sT⟩, ⟨none, some (t + 1), .move (.tmp s2), C.E.tInt⟩, ⟨none, some (t + 2), .indexAddr sT (.tmp t) (.tmp (t + 1)), C.E.tNil⟩, ⟨none, some (t + 3), .load ty (.tmp (t + 2)), ty⟩] ++ putL C p ty l2 (t + 3))).wp P Q f w := by
  subst he
  have e3 : ∀ n, (t + n = l2) = False := by intro n; simp; omega
  have e2 : ∀ n, (s2 = t + n) = False := by intro n; simp; omega
  have e4 : (s2 = t) = False := by simp; omega
  have keep : ∀ a b c d e, ∀ x, x < t → x ≠ l2 → upd (upd (upd (upd (upd f t a) (t + 1) b) (t + 2) c) (t + 3) d) l2 e x = f x := by
    intro a b c d e x hx hx2
    have x3 : ∀ n, (x = t + n) = False := by intro n; simp; omega
    have x4 : (x = t) = False := by simp; omega
    simp [x3, x4, hx2]
  by_cases hp : p = .uuid
  · subst hp
    simp only [if_true] at hu
    obtain ⟨cc, rfl, hc16, hone⟩ := hu
    have hk' : kindOf P ty = .agg 16 := by
      simp only [Prim.kOk, if_true] at hk
      revert hk; cases kindOf P ty <;> simp [isAgg16]
      intro h'; split at h' <;> simp_all
    have hl' := cellsFrom_seg (o := 0) hc (u := cc) (fun j v hj => by simpa [Value.cells] using hj)
    rw [hc16] at hl'
    simp only [Nat.add_zero] at hl'
    refine wp_reg ?_
    have hz : zeroOf P C.E.tUu = some (.agg z16) := (ht.uu (hq rfl)).zUu
    simp [putL, h1, h2, e2, e4, idx?, hsl, hi, Addr.add_mk, ld_agg hk', hl', hz, Value.cells, e3, store_agg (ht.uu (hq rfl)).kUu, hc16, hone, putK_blk alloc_new, z16_size]
    refine h _ _ ?_ ?_ ?_
    · simp only [LocVal, if_true]
      refine ⟨w.heap.size, cc, C.E.tUu, (0, 0), by simp, ?_, rfl, hc16⟩
      have hov : over z16 0 cc.toList = cc := by
        have hd : z16.toList.drop (0 + cc.toList.length) = [] := List.drop_eq_nil_of_le (by simp [z16_size, hc16])
        simp only [over, hd]; simp
      rw [hov]
      exact setBlk_same alloc_new
    · exact ((Ext.refl none1 w).alloc _).setBlk (.inl (Nat.le_refl _)) _
    · exact keep _ _ _ _ _
  · simp only [if_neg hp] at hu
    have hk' : kindOf P ty = .scl := by simp only [Prim.kOk, if_neg hp] at hk; exact isScl_spec hk
    have huc : u.cells = #[u] := by cases u <;> simp_all [Value.oneCell', Value.cells]
    have hl' : w.cell? ⟨b, o + i * sz, none⟩ = some u := by have := hc 0 u (by simp [huc]); simpa using this
    refine wp_reg ?_
    simp [putL, hp, h1, h2, e2, e4, idx?, hsl, hi, Addr.add_mk, ld_scl hk', hl']
    refine h _ _ ?_ (Ext.refl _ _) (keep _ _ _ _ _)
    · simp [LocVal, hp]
theorem soundW_arrP (ht : TyC P C) (g : Gd) (k o sT : Nat) (nul : Option Nat) (p : Prim) (rest : Sch) (ih : SoundW P C ok rest) : SoundW P C ok (.arrP g k o sT nul p rest) := by
  intro T PT pv c Q f w b a cs x ver fl base s hty hN hf hc hb hcs hr hok hd hsz h
  obtain ⟨x, xr⟩ := x
  obtain ⟨⟨u, ls, hu, harr, ⟨hsome, _⟩, hlen, hel⟩, hrr⟩ := hr
  have hokr : rest.TagsOk ok xr := hok
  simp only [Sch.tyW, Bool.and_eq_true, beq_iff_eq] at hty
  obtain ⟨⟨⟨⟨hF, hk⟩, hsl⟩, hkp⟩, htr⟩ := hty
  obtain ⟨hNp, hNl, hNr⟩ := hN
  have h1c := hf.one
  have hnil : ls.isNone = x.isNone := by cases ls <;> cases x <;> simp_all
  simp only [Sch.genW] at hc h ⊢
  generalize ht1 : c.t + gdN g + 4 + lenN C nul = t1 at hc h ⊢
  generalize ht2 : t1 + 9 + emitN C p = t2 at hc h ⊢
  have hm := (genW_mono (C := C) rest T PT pv ⟨c.l + 3, t2 + 1, c.k + 2⟩).1
  simp only at hm
  have behind : ∀ (f1 : Nat → Value) (w1 : World), Wrote C f w base s (if g.on ver then lenW nul fl (x.getD []).length x.isNone ++ (x.getD []).flatMap (p.wr fl) else []) c.l (c.l + 3) c.t f1 w1 →
      (seqL (rest.genW C T PT pv ⟨c.l + 3, t2 + 1, c.k + 2⟩).1).wp P Q f1 w1 := by
    intro f1 w1 hw
    have hgrew := hw.grew
    refine ih T PT pv _ Q f1 w1 b a cs xr ver fl base _ htr hNr ((hf.keep hw.keep.keeps (Nat.le_refl _)).up (by simp)) (by simp only; omega) hb ?_ ?_ hokr hw.dst ?_ ?_
    · exact CellsAt.ext (K := (· < base)) hgrew.ext (hw.own hd) hcs hb
    · exact Sch.Rep_ext hgrew.ext (hw.own hd) rest hrr
    · simp only [Sch.wr, List.length_append] at hsz; simp only [List.length_append]; omega
    · intro f2 w2 hw2
      exact h f2 w2 (hw.trans hw2 (by simp) hm (by simp only; omega))
  refine seqL_cons ?_
  refine w_guard ht hf.svv (by have := hf.svN; omega) (by omega) ?_ ?_
  · intro hon f1 hk1 h11
    have hf1 := hf.keep hk1 (by omega)
    have hd1 : Dst C f1 w base s := by unfold Dst at hd ⊢; rwa [h11]
    refine w_list ht (x.getD []) (p.wr fl) hF hk hsl hNl hf1 (m := c.l + 3) (by omega) (by omega) (by omega) ht1.symm (by omega) hb hcs hu harr hlen hd1 (fl := fl) ?_ ?_ ?_
    · rw [hnil]; simp only [Sch.wr, hon, if_true, List.length_append] at hsz; simp only [List.length_append]; omega
    · intro i y s' f' w' hy hf' hl' h2' h1' hd' hsz' hg0
      obtain ⟨es, hes⟩ : ∃ es, (ls.getD [])[i]? = some es := by
        have : i < (ls.getD []).length := by rw [hlen]; exact (List.getElem?_eq_some_iff.1 hy).1
        exact ⟨_, List.getElem?_eq_getElem this⟩
      obtain ⟨ue, rfl, hrep⟩ := hel i es y hes hy
      have hK : ∀ b, b < w.heap.size → b < base → ¬ own1 (f1 1) b := fun b _ hb ho => by have := (Own.below hd1.1 ho).1; omega
      have harr' := harr.ext (K := (· < base)) hg0.ext hK
      have hrep' := Prim.rep1_ext (K := (· < base)) hg0.ext hK hrep
      cases ls with
      | none => simp at hes
      | some ls =>
        obtain ⟨bb, oo, cc, rfl, hbb, hmax, hcells⟩ := harr'
        have hce := hcells i _ hes
        refine seqL_cons ?_
        refine wp_reg ?_
        simp [idxI, h2']
        refine seqL_cons ?_
        have hln : (ls : List (List Value)).length = (x.getD []).length := hlen
        refine w_elemP ht (kOk_uu hkp) (s1 := c.l) (s2 := c.l + 1) (i := i) hsl hkp (n := ls.length) (c := cc) (b := bb) (o := oo) ?_ ?_ ?_ (by omega) (by omega) (by omega) hce.2 rfl (rep1_one hrep) ?_
        · rw [upd_apply, if_neg (by omega), upd_apply, if_neg (by omega)]; exact hl'
        · simp
        · rw [hln]; exact (List.getElem?_eq_some_iff.1 hy).1
        intro f3 w3 hv3 he3 hk3
        have keep3 : Keeps f' f3 c.l := by
          intro z hz hz1
          rw [hk3 z (by omega) (by omega), upd_apply, if_neg (by omega), upd_apply, if_neg (by omega)]
        have hf3 := hf'.keep keep3 (Nat.le_refl _)
        have h31 : f3 1 = f' 1 := by rw [hk3 1 (by omega) (by omega), upd_apply, if_neg (by omega), upd_apply, if_neg (by omega)]
        show (emitW C p (c.l + 2) (t1 + 9)).wp P _ f3 w3
        refine w_emit ht (kOk_uu hkp) (x := y) (fl := fl) (v := f' 1) (by omega) (by omega) (by omega) hv3 h31 hf3.flg (fun hx => by have := hf3.sfN hx; omega) hNp
          (Prim.rep1_ext he3 (fun _ _ _ h => h) hrep') (Own.ext hd'.1 he3 (fun _ _ h => h)) (Nat.le_trans hd'.2 he3.size) hsz' ?_
        intro f4 w4 v4 h41 ho4 hg4 hk4
        refine ⟨rfl, Wrote.mk' hd'.2 rfl h41 ho4 (Grew.pre he3 hg4) (fun z hz1 hz => ?_), ?_, ?_, ?_⟩
        · rw [hk4 z (by omega) hz1, hk3 z (by omega) (by omega), upd_apply, if_neg (by omega), upd_apply, if_neg (by omega)]
        · rw [hk4 c.l (by omega) (by omega), hk3 c.l (by omega) (by omega), upd_apply, if_neg (by omega), upd_apply, if_neg (by omega)]; exact hl'
        · rw [hk4 _ (by omega) (by omega), hk3 _ (by omega) (by omega), upd_apply, if_neg (by omega), upd_apply, if_neg (by omega)]; exact h2'
        · rw [hk4 _ (by omega) (by omega), hk3 _ (by omega) (by omega), upd_apply, if_neg (by omega), upd_apply, if_neg (by omega)]; exact h1'
    · intro f2 w2 hw2
      refine behind f2 w2 ?_
      rw [hon, ← hnil]
      exact ⟨hw2.dst, by have := hw2.grew; rwa [h11] at this, (KeepR.of (m := 0) hk1 (by omega)).trans hw2.keep (Nat.le_refl _) (by omega) (by omega)⟩
  · intro hoff f1 hk1 h11
    refine behind f1 w ?_
    rw [hoff]
    exact ⟨by simp only [List.append_nil, if_false, Bool.false_eq_true]; exact ⟨by rw [h11]; exact hd.1, hd.2⟩, by rw [h11]; exact Grew.refl _ _, KeepR.of hk1 (by omega)⟩
theorem soundW_arrS (ht : TyC P C) (g : Gd) (k o sT : Nat) (nul : Option Nat) (T' PT' sz df : Nat) (e rest : Sch) (ihe : SoundW P C ok e) (ih : SoundW P C ok rest) : SoundW P C ok (.arrS g k o sT nul T' PT' sz df e rest) := by
  intro T PT pv c Q f w b a cs x ver fl base s hty hN hf hc hb hcs hr hok hd hsz h
  obtain ⟨x, xr⟩ := x
  obtain ⟨⟨u, ls, hu, harr, ⟨hsome, _⟩, hlen, hel⟩, hrr⟩ := hr
  obtain ⟨hoke, hokr⟩ : (∀ (i : Nat) y, (x.getD [])[i]? = some y → e.TagsOk ok y) ∧ rest.TagsOk ok xr := hok
  simp only [Sch.tyW, Bool.and_eq_true, beq_iff_eq] at hty
  obtain ⟨⟨⟨⟨hF, hk⟩, hsl⟩, hte⟩, htr⟩ := hty
  obtain ⟨hNl, hNe, hNr⟩ := hN
  have h1c := hf.one
  have hnil : ls.isNone = x.isNone := by cases ls <;> cases x <;> simp_all
  simp only [Sch.genW] at hc h ⊢
  generalize ht1 : c.t + gdN g + 4 + lenN C nul = t1 at hc h ⊢
  have hme := genW_mono (C := C) e T' PT' (c.l + 2) ⟨c.l + 3, t1 + 8, c.k + 2⟩
  have hse : ∀ Q f w b a cs x ver fl base s, _ := fun Q f w b a cs x ver fl base s => ihe T' PT' (c.l + 2) ⟨c.l + 3, t1 + 8, c.k + 2⟩ Q f w b a cs x ver fl base s
  generalize hz : e.genW C T' PT' (c.l + 2) ⟨c.l + 3, t1 + 8, c.k + 2⟩ = z at hc h hme hse ⊢
  obtain ⟨eb, c1⟩ := z
  simp only at hc h hme hse ⊢
  have hm := (genW_mono (C := C) rest T PT pv ⟨c1.l, c1.t + 1, c1.k⟩).1
  simp only at hm
  have behind : ∀ (f1 : Nat → Value) (w1 : World), Wrote C f w base s (if g.on ver then lenW nul fl (x.getD []).length x.isNone ++ (x.getD []).flatMap (e.wr ver fl) else []) c.l c1.l c.t f1 w1 →
      (seqL (rest.genW C T PT pv ⟨c1.l, c1.t + 1, c1.k⟩).1).wp P Q f1 w1 := by
    intro f1 w1 hw
    have hgrew := hw.grew
    refine ih T PT pv _ Q f1 w1 b a cs xr ver fl base _ htr hNr ((hf.keep hw.keep.keeps (Nat.le_refl _)).up (by simp only; omega)) (by simp only; omega) hb ?_ ?_ hokr hw.dst ?_ ?_
    · exact CellsAt.ext (K := (· < base)) hgrew.ext (hw.own hd) hcs hb
    · exact Sch.Rep_ext hgrew.ext (hw.own hd) rest hrr
    · simp only [Sch.wr, List.length_append] at hsz; simp only [List.length_append]; omega
    · intro f2 w2 hw2
      exact h f2 w2 (hw.trans hw2 (by simp only; omega) hm (by simp only; omega))
  refine seqL_cons ?_
  refine w_guard ht hf.svv (by have := hf.svN; omega) (by omega) ?_ ?_
  · intro hon f1 hk1 h11
    have hf1 := hf.keep hk1 (by omega)
    have hd1 : Dst C f1 w base s := by unfold Dst at hd ⊢; rwa [h11]
    refine w_list ht (x.getD []) (e.wr ver fl) hF hk hsl hNl hf1 (m := c1.l) (by omega) (by omega) (by omega) ht1.symm (by omega) hb hcs hu harr hlen hd1 (fl := fl) ?_ ?_ ?_
    · rw [hnil]; simp only [Sch.wr, hon, if_true, List.length_append] at hsz; simp only [List.length_append]; omega
    · intro i y s' f' w' hy hf' hl' h2' h1' hd' hsz' hg0
      obtain ⟨es, hes⟩ : ∃ es, (ls.getD [])[i]? = some es := by
        have : i < (ls.getD []).length := by rw [hlen]; exact (List.getElem?_eq_some_iff.1 hy).1
        exact ⟨_, List.getElem?_eq_getElem this⟩
      have hrep := hel i es y hes hy
      have hK : ∀ b, b < w.heap.size → b < base → ¬ own1 (f1 1) b := fun b _ hb ho => by have := (Own.below hd1.1 ho).1; omega
      have harr' := harr.ext (K := (· < base)) hg0.ext hK
      have hrep' := Sch.Rep_ext (K := (· < base)) hg0.ext hK e hrep
      cases ls with
      | none => simp at hes
      | some ls =>
        obtain ⟨bb, oo, cc, rfl, hbb, hmax, hcells⟩ := harr'
        have hce := hcells i _ hes
        refine seqL_cons ?_
        refine wp_reg ?_
        simp [idxI, h2']
        refine seqL_cons ?_
        refine wp_reg ?_
        have hi : i < ls.length := by have := (List.getElem?_eq_some_iff.1 hes).1; simpa using this
        have e1 : ∀ n, (c.l = t1 + n) = False := by intro n; simp; omega
        have e2 : ∀ n, (c.l + 1 = t1 + n) = False := by intro n; simp; omega
        simp [e1, e2, hl', idx?, hsl, hi, Addr.add_mk]
        have up : ∀ z, z < t1 + 4 → z ≠ c.l + 1 → z ≠ c.l + 2 → ∀ v1 v2 v3 v4 v5 v6, upd (upd (upd (upd (upd (upd f' (t1 + 4) v1) (c.l + 1) v2) (t1 + 5) v3) (t1 + 6) v4) (t1 + 7) v5) (c.l + 2) v6 z = f' z := by
          intro z hz hz1 hz2 v1 v2 v3 v4 v5 v6
          have a3 : ∀ n, 4 ≤ n → (z = t1 + n) = False := by intro n hn; simp; omega
          simp [a3, hz1, hz2]
        refine hse _ _ w' bb (oo + i * sz) es y ver fl base s' hte hNe ?_ (by omega) hbb hce.2 hrep' (hoke i y hy) ?_ hsz' ?_
        · refine ⟨by simp, ⟨by omega, by omega⟩, ?_, ⟨by have := hf'.svN; omega, hf'.svN.2⟩, ⟨fun hx => ⟨?_, (hf'.flg.1 hx).2⟩, hf'.flg.2⟩, fun hx => by have := hf'.sfN hx; omega, by omega⟩
          · rw [up _ (by have := hf'.svN; omega) (by have := hf'.svN; omega) (by have := hf'.svN; omega)]; exact hf'.svv
          · rw [up _ (by have := hf'.sfN hx; omega) (by have := hf'.sfN hx; omega) (by have := hf'.sfN hx; omega)]; exact (hf'.flg.1 hx).1
        · unfold Dst at hd' ⊢
          rwa [up 1 (by omega) (by omega) (by omega)]
        · intro f4 w4 hw4
          have kp : ∀ z, z ≠ 1 → z ≠ c.l + 1 → z ≠ c.l + 2 → (z < c.l + 3 ∨ (c1.l ≤ z ∧ z < t1 + 4)) → f4 z = f' z := by
            intro z hz0 hz1 hz2 hz
            rw [hw4.keep z hz0 (by omega)]
            exact up z (by omega) hz1 hz2 _ _ _ _ _ _
          refine ⟨rfl, ⟨hw4.dst, ?_, ?_⟩, ?_, ?_, ?_⟩
          · have := hw4.grew
            rwa [up 1 (by omega) (by omega) (by omega)] at this
          · intro z hz1 hz
            exact kp z hz1 (by omega) (by omega) (by omega)
          · rw [kp c.l (by omega) (by omega) (by omega) (by omega)]; exact hl'
          · rw [kp _ (by omega) (by omega) (by omega) (by omega)]; exact h2'
          · rw [kp _ (by omega) (by omega) (by omega) (by omega)]; exact h1'
    · intro f2 w2 hw2
      refine behind f2 w2 ?_
      rw [hon, ← hnil]
      exact ⟨hw2.dst, by have := hw2.grew; rwa [h11] at this, (KeepR.of (m := 0) hk1 (by omega)).trans hw2.keep (Nat.le_refl _) (by omega) (by omega)⟩
  · intro hoff f1 hk1 h11
    refine behind f1 w ?_
    rw [hoff]
    exact ⟨by simp only [List.append_nil, if_false, Bool.false_eq_true]; exact ⟨by rw [h11]; exact hd.1, hd.2⟩, by rw [h11]; exact Grew.refl _ _, KeepR.of hk1 (by omega)⟩
theorem CellsAt.seg {w : World} {b a : Nat} {cs : List Value} (h : CellsAt w b a cs) (o sz : Nat) : CellsAt w b (a + o) ((cs.drop o).take sz) := by
  intro j u hj
  rw [List.getElem?_take] at hj
  split at hj
  · rw [List.getElem?_drop] at hj
    rw [← h _ _ hj]; congr 2; omega
  · cases hj
theorem soundW_sub (ht : TyC P C) (g : Gd) (k o T' PT' sz df : Nat) (e rest : Sch) (ihe : SoundW P C ok e) (ih : SoundW P C ok rest) : SoundW P C ok (.sub g k o T' PT' sz df e rest) := by
  intro T PT pv c Q f w b a cs x ver fl base s hty hN hf hc hb hcs hr hok hd hsz h
  obtain ⟨x, xr⟩ := x
  obtain ⟨hre, hrr⟩ := hr
  obtain ⟨hoke, hokr⟩ : e.TagsOk ok x ∧ rest.TagsOk ok xr := hok
  simp only [Sch.tyW, Bool.and_eq_true, beq_iff_eq] at hty
  obtain ⟨⟨hF, hte⟩, htr⟩ := hty
  obtain ⟨hNe, hNr⟩ := hN
  have h1c := hf.one
  simp only [Sch.genW] at hc h ⊢
  generalize ht1 : c.t + gdN g = t1 at hc h ⊢
  have hme := genW_mono (C := C) e T' PT' c.l ⟨c.l + 1, t1 + 3, c.k⟩
  have hse : ∀ Q f w b a cs x ver fl base s, _ := fun Q f w b a cs x ver fl base s => ihe T' PT' c.l ⟨c.l + 1, t1 + 3, c.k⟩ Q f w b a cs x ver fl base s
  generalize hz : e.genW C T' PT' c.l ⟨c.l + 1, t1 + 3, c.k⟩ = z at hc h hme hse ⊢
  obtain ⟨eb, c1⟩ := z
  simp only at hc h hme hse ⊢
  have hm := (genW_mono (C := C) rest T PT pv c1).1
  have behind : ∀ (f1 : Nat → Value) (w1 : World), Wrote C f w base s (if g.on ver then e.wr ver fl x else []) c.l c1.l c.t f1 w1 →
      (seqL (rest.genW C T PT pv c1).1).wp P Q f1 w1 := by
    intro f1 w1 hw
    have hgrew := hw.grew
    refine ih T PT pv _ Q f1 w1 b a cs xr ver fl base _ htr hNr ((hf.keep hw.keep.keeps (Nat.le_refl _)).up (by omega)) (by omega) hb ?_ ?_ hokr hw.dst ?_ ?_
    · exact CellsAt.ext (K := (· < base)) hgrew.ext (hw.own hd) hcs hb
    · exact Sch.Rep_ext hgrew.ext (hw.own hd) rest hrr
    · simp only [Sch.wr, List.length_append] at hsz; simp only [List.length_append]; omega
    · intro f2 w2 hw2
      exact h f2 w2 (hw.trans hw2 (by omega) hm (by omega))
  refine seqL_cons ?_
  refine w_guard ht hf.svv (by have := hf.svN; omega) (by omega) ?_ ?_
  · intro hon f1 hk1 h11
    have hf1 := hf.keep hk1 (by omega)
    have hpt := hf1.ptrN
    refine seqL_cons ?_
    refine wp_reg ?_
    simp [addrR, hf1.ptr, hF, Addr.add_mk]
    have up : ∀ z, z < t1 → z ≠ c.l → ∀ v1 v2 v3 v4, upd (upd (upd (upd f1 t1 v1) (t1 + 1) v2) (t1 + 2) v3) c.l v4 z = f1 z := by
      intro z hz hz1 v1 v2 v3 v4
      have a3 : ∀ n, (z = t1 + n) = False := by intro n; simp; omega
      have a4 : (z = t1) = False := by simp; omega
      simp [a3, a4, hz1]
    refine hse _ _ w b (a + o) ((cs.drop o).take sz) x ver fl base s hte hNe ?_ (by omega) hb (hcs.seg o sz) hre hoke ?_ ?_ ?_
    · refine ⟨by simp, ⟨by omega, by omega⟩, ?_, ⟨by have := hf1.svN; omega, hf1.svN.2⟩, ⟨fun hx => ⟨?_, (hf1.flg.1 hx).2⟩, hf1.flg.2⟩, fun hx => by have := hf1.sfN hx; omega, by omega⟩
      · rw [up _ (by have := hf1.svN; omega) (by have := hf1.svN; omega)]; exact hf1.svv
      · rw [up _ (by have := hf1.sfN hx; omega) (by have := hf1.sfN hx; omega)]; exact (hf1.flg.1 hx).1
    · unfold Dst at hd ⊢
      rw [up 1 (by omega) (by omega), h11]; exact hd
    · simp only [Sch.wr, hon, if_true, List.length_append] at hsz; omega
    · intro f4 w4 hw4
      refine behind f4 w4 ?_
      rw [hon]
      simp only [if_true]
      refine ⟨hw4.dst, ?_, ?_⟩
      · have := hw4.grew
        rwa [up 1 (by omega) (by omega), h11] at this
      · intro z hz1 hz
        rw [hw4.keep z hz1 (by omega), up z (by omega) (by omega)]
        exact hk1 z (by omega) hz1
  · intro hoff f1 hk1 h11
    refine behind f1 w ?_
    rw [hoff]
    exact ⟨by simp only [List.append_nil, if_false, Bool.false_eq_true]; exact ⟨by rw [h11]; exact hd.1, hd.2⟩, by rw [h11]; exact Grew.refl _ _, KeepR.of hk1 (by omega)⟩
/-- dst = append(dst, n) -/
theorem w_app1 {Q : Post} {f : Nat → Value} {w : World} (hS : SliI P C.E.tBs C.E.tU8 1 1 (.int .u8 0)) {n t base : Nat} {s : List UInt8} (hn : n = 255 ∨ n = 1) (ht1 : 1 < t) (hd : Dst C f w base s) (hsz : s.length + 1 ≤ 1099511627776)
    (h : ∀ f' w', Dst C f' w' base (s ++ [UInt8.ofNat n]) → Grew w (f 1) w' (f' 1) → Keeps f f' t → Q .normal f' w') : (app1I C n t).wp P Q f w := by
  obtain ⟨ho, hb⟩ := hd
  have kk : ∀ v1 v2 v3 v4, Keeps f (upd (upd (upd (upd f t v1) (t + 1) v2) (t + 2) v3) 1 v4) t := fun v1 v2 v3 v4 => keeps_one (keeps_upd (keeps_upd (keeps_upd (Keeps.refl _ _) (by omega)) (by omega)) (by omega))
  have e1 : ∀ n, (1 = t + n) = False := by intro n; simp; omega
  have e1' : (1 = t) = False := by simp; omega
  rcases hn with rfl | rfl
  · refine wp_reg ?_
    simp [e1, e1', st_bsl hS, denseFrom, allSz, flat, Value.cells]
    refine st_app_lit hS (by simp) ho hb [255] (by simp [flat, cellsOf, Value.cells]) (by simp) (by simpa using hsz) ?_
    intro v' w' h1 h2
    refine h _ w' ⟨by simpa using h1, Nat.le_trans hb h2.size⟩ (by simpa using h2) (by simpa using kk _ _ _ _)
  · refine wp_reg ?_
    simp [e1, e1', st_bsl hS, denseFrom, allSz, flat, Value.cells]
    refine st_app_lit hS (by simp) ho hb [1] (by simp [flat, cellsOf, Value.cells]) (by simp) (by simpa using hsz) ?_
    intro v' w' h1 h2
    refine h _ w' ⟨by simpa using h1, Nat.le_trans hb h2.size⟩ (by simpa using h2) (by simpa using kk _ _ _ _)
theorem soundW_opt (ht : TyC P C) (g : Gd) (k o T' PT' PP sz df : Nat) (e rest : Sch) (ihe : SoundW P C ok e) (ih : SoundW P C ok rest) : SoundW P C ok (.opt g k o T' PT' PP sz df e rest) := by
  intro T PT pv c Q f w b a cs x ver fl base s hty hN hf hc hb hcs hr hok hd hsz h
  obtain ⟨x, xr⟩ := x
  obtain ⟨⟨u, hu, hnone, hsome⟩, hrr⟩ := hr
  obtain ⟨hoke, hokr⟩ : (∀ y, x = some y → e.TagsOk ok y) ∧ rest.TagsOk ok xr := hok
  simp only [Sch.tyW, Bool.and_eq_true, beq_iff_eq] at hty
  obtain ⟨⟨⟨⟨hF, hk⟩, hptr⟩, hte⟩, htr⟩ := hty
  obtain ⟨EP, hptr⟩ := isPtrT_spec hptr
  obtain ⟨hS, hNe, hNr⟩ := hN
  have h1c := hf.one
  simp only [Sch.genW] at hc h ⊢
  generalize ht1 : c.t + gdN g = t1 at hc h ⊢
  have hme := genW_mono (C := C) e T' PT' c.l ⟨c.l + 1, t1 + 12, c.k⟩
  have hse : ∀ Q f w b a cs x ver fl base s, _ := fun Q f w b a cs x ver fl base s => ihe T' PT' c.l ⟨c.l + 1, t1 + 12, c.k⟩ Q f w b a cs x ver fl base s
  generalize hz : e.genW C T' PT' c.l ⟨c.l + 1, t1 + 12, c.k⟩ = z at hc h hme hse ⊢
  obtain ⟨eb, c1⟩ := z
  simp only at hc h hme hse ⊢
  have hm := (genW_mono (C := C) rest T PT pv c1).1
  have behind : ∀ (f1 : Nat → Value) (w1 : World), Wrote C f w base s (if g.on ver then optW (e.wr ver fl) x else []) c.l c1.l c.t f1 w1 →
      (seqL (rest.genW C T PT pv c1).1).wp P Q f1 w1 := by
    intro f1 w1 hw
    have hgrew := hw.grew
    refine ih T PT pv _ Q f1 w1 b a cs xr ver fl base _ htr hNr ((hf.keep hw.keep.keeps (Nat.le_refl _)).up (by omega)) (by omega) hb ?_ ?_ hokr hw.dst ?_ ?_
    · exact CellsAt.ext (K := (· < base)) hgrew.ext (hw.own hd) hcs hb
    · exact Sch.Rep_ext hgrew.ext (hw.own hd) rest hrr
    · simp only [Sch.wr, List.length_append] at hsz; simp only [List.length_append]; omega
    · intro f2 w2 hw2
      exact h f2 w2 (hw.trans hw2 (by omega) hm (by omega))
  refine seqL_cons ?_
  refine w_guard ht hf.svv (by have := hf.svN; omega) (by omega) ?_ ?_
  · intro hon f1 hk1 h11
    have hf1 := hf.keep hk1 (by omega)
    have hpt := hf1.ptrN
    have hone : u.oneCell' = true := by
      cases x with
      | none => rw [hnone rfl]; rfl
      | some y => obtain ⟨b', c', es, rfl, _⟩ := hsome y rfl; rfl
    refine seqL_cons ?_
    refine w_load ht (fun h => by cases h) hf1.ptr hF (kOk_scl hk) hcs (seg_one hu hone) (by simp [hone]) (by omega) (by omega) ?_
    intro f2 w2 hv2 he2 hk2
    have hl2 : f2 c.l = u := loc_slice hv2
    have h21 : f2 1 = f 1 := (hk2 1 (by omega) (by omega)).trans h11
    have k2 : ∀ z, z < t1 → z ≠ c.l → f2 z = f1 z := fun z hz hz1 => hk2 z hz hz1
    have hd2 : Dst C f2 w2 base s := by
      unfold Dst at hd ⊢; rw [h21]
      exact ⟨Own.ext hd.1 he2 (fun _ _ h => h), Nat.le_trans hd.2 he2.size⟩
    show (Ir.seq _ _).wp P _ f2 w2
    refine wp_seqI (wp_reg ?_)
    have hsz1 : s.length + (optW (e.wr ver fl) x).length ≤ 1099511627776 := by simp only [Sch.wr, hon, if_true, List.length_append] at hsz; omega
    have up : ∀ z, z < t1 → z ≠ c.l → ∀ v1 v2, upd (upd f2 (t1 + 4) v1) (t1 + 5) v2 z = f1 z := by
      intro z hz hz1 v1 v2
      have a3 : ∀ n, (z = t1 + n) = False := by intro n; simp; omega
      simp [a3]
      exact k2 z hz hz1
    have upl : ∀ v1 v2, upd (upd f2 (t1 + 4) v1) (t1 + 5) v2 c.l = u := by
      intro v1 v2
      have a3 : ∀ n, (c.l = t1 + n) = False := by intro n; simp; omega
      simp [a3, hl2]
    have up1 : ∀ v1 v2, upd (upd f2 (t1 + 4) v1) (t1 + 5) v2 1 = f 1 := fun v1 v2 => (up 1 (by omega) (by omega) v1 v2).trans h11
    have hgr : Grew w (f 1) w2 (f 1) := (Grew.refl w (f 1)).post he2
    cases x with
    | none =>
      have hu0 := hnone rfl
      subst hu0
      simp [hl2, bin_nil_ptr hptr]
      refine .inl ⟨by simp, ?_⟩
      refine w_app1 hS (.inl rfl) (by omega) (by unfold Dst at hd2 ⊢; rw [up1, ← h21]; exact hd2) (by simpa [optW] using hsz1) ?_
      intro f3 w3 hd3 hg3 hk3
      refine behind f3 w3 ?_
      rw [hon]
      simp only [if_true]
      refine ⟨hd3, ?_, ?_⟩
      · rw [up1] at hg3; exact hgr.trans hg3
      · intro z hz1 hz
        rw [hk3 z (by omega) hz1, up z (by omega) (by omega)]
        exact hk1 z (by omega) hz1
    | some y =>
      obtain ⟨b', c', es, rfl, hb', hblt, hes, hces, hre⟩ := hsome y rfl
      simp [hl2, bin_nil_ptr hptr]
      refine .inr ⟨by simp, ?_⟩
      refine seqL_cons ?_
      refine w_app1 hS (.inr rfl) (by omega) (by unfold Dst at hd2 ⊢; rw [up1, ← h21]; exact hd2) (by simp only [optW, List.length_cons] at hsz1; omega) ?_
      intro f3 w3 hd3 hg3 hk3
      rw [up1] at hg3
      have hgr3 := hgr.trans hg3
      have hK : ∀ k, k < w.heap.size → k < base → ¬ own1 (f 1) k := fun k _ hk ho => by have := (Own.below hd.1 ho).1; omega
      refine hse _ _ w3 b' c' es y ver fl base (s ++ [UInt8.ofNat 1]) hte hNe ?_ (by omega) hb' (CellsAt.ext (K := (· < base)) hgr3.ext hK hces hb') (Sch.Rep_ext hgr3.ext hK e hre) (hoke y rfl) hd3 ?_ ?_
      · have k3 : ∀ z, z < c.l → z ≠ 1 → f3 z = f1 z := fun z hz hz1 => (hk3 z (by omega) hz1).trans (up z (by omega) (by omega) _ _)
        refine ⟨(hk3 c.l (by omega) (by omega)).trans (upl _ _), ⟨by omega, by omega⟩, ?_, ⟨by have := hf1.svN; omega, hf1.svN.2⟩, ⟨fun hx => ⟨?_, (hf1.flg.1 hx).2⟩, hf1.flg.2⟩, fun hx => by have := hf1.sfN hx; omega, by omega⟩
        · exact (k3 _ (by have := hf1.svN; omega) hf1.svN.2).trans hf1.svv
        · exact (k3 _ (by have := hf1.sfN hx; omega) (hf1.flg.1 hx).2).trans (hf1.flg.1 hx).1
      · simp only [optW, List.length_cons] at hsz1; simp only [List.length_append, List.length_cons, List.length_nil]; omega
      · intro f4 w4 hw4
        refine behind f4 w4 ?_
        rw [hon]
        simp only [if_true]
        refine ⟨?_, hgr3.trans hw4.grew, ?_⟩
        · have := hw4.dst
          rw [List.append_assoc] at this
          exact this
        · intro z hz1 hz
          rw [hw4.keep z hz1 (by omega), hk3 z (by omega) hz1, up z (by omega) (by omega)]
          exact hk1 z (by omega) hz1
  · intro hoff f1 hk1 h11
    refine behind f1 w ?_
    rw [hoff]
    exact ⟨by simp only [List.append_nil, if_false, Bool.false_eq_true]; exact ⟨by rw [h11]; exact hd.1, hd.2⟩, by rw [h11]; exact Grew.refl _ _, KeepR.of hk1 (by omega)⟩
theorem soundW (ht : TyC P C) : ∀ S : Sch, SoundW P C ok S := by
  intro S
  induction S with
  | fin => exact soundW_fin
  | tags k o => exact soundW_tags ht k o
  | prim g k o p en d rest ih => exact soundW_prim ht g k o p en d rest ih
  | arrP g k o sT nul p rest ih => exact soundW_arrP ht g k o sT nul p rest ih
  | arrS g k o sT nul T PT sz df e rest ihe ih => exact soundW_arrS ht g k o sT nul T PT sz df e rest ihe ih
  | sub g k o T PT sz df e rest ihe ih => exact soundW_sub ht g k o T PT sz df e rest ihe ih
  | opt g k o T PT PP sz df e rest ihe ih => exact soundW_opt ht g k o T PT PP sz df e rest ihe ih
end
end Go.Kg

set_option linter.unusedSimpArgs false
set_option linter.unusedVariables false
namespace Go.Kg
open Go
theorem seqL_append {P : Program} {Q : Post} : ∀ {A B : List Ir} {f : Nat → Value} {w : World}, (seqL A).wp P (thenF ((seqL B).wp P Q) Q) f w → (seqL (A ++ B)).wp P Q f w := by
  intro A
  induction A with
  | nil => intro B f w h; exact h
  | cons x r ih =>
    intro B f w h
    rw [List.cons_append]
    refine seqL_cons ?_
    cases r with
    | nil => exact h
    | cons y r =>
      have h' : x.wp P (thenF ((seqL (y :: r)).wp P (thenF ((seqL B).wp P Q) Q)) (thenF ((seqL B).wp P Q) Q)) f w := h
      refine Ir.wp_mono x ?_ h'
      intro e f w hq
      cases e <;> first | exact ih hq | exact hq
/-- The flag at a version. -/
def flagAt (C : Cfg) (flex : Nat) (ver : Int) : Bool := C.fx && decide ((flex : Int) ≤ ver)
end Go.Kg

set_option linter.unusedSimpArgs false
set_option linter.unusedVariables false
namespace Go.Kg
open Go
/-- the default of a number, as a value -/
def Prim.dval : Prim → Int → Option Value
  | .bool, d => if d = 0 then none else some (.bool true)
  | .i8, d => if d = 0 then none else some (.int .i8 d)
  | .i16, d => if d = 0 then none else some (.int .i16 d)
  | .u16, d => if d = 0 then none else some (.int .u16 d)
  | .i32, d => if d = 0 then none else some (.int .i32 d)
  | .i64, d => if d = 0 then none else some (.int .i64 d)
  | _, _ => none
structure DSt where
  k : Nat
  o : Nat
  ty : Nat
  v : Value
def Sch.dst (C : Cfg) : Sch → List DSt
  | .fin => []
  | .tags _ _ => []
  | .prim _ k o p en d rest => (match p.dval d with | some v => [⟨k, o, if en = 0 then p.ty C.E else en, v⟩] | none => []) ++ rest.dst C
  | .arrP _ _ _ _ _ _ rest => rest.dst C
  | .arrS _ _ _ _ _ _ _ _ _ _ rest => rest.dst C
  | .sub _ _ _ _ _ _ _ _ rest => rest.dst C
  | .opt _ _ _ _ _ _ _ _ _ rest => rest.dst C
def genD (C : Cfg) (T PT : Nat) : List DSt → Nat → List Ir
  | [], _ => []
  | x :: l, t => .reg (addrR C T PT 0 x.k t ++ [⟨none, none, .store x.ty (.tmp (t + 2)) (.const x.v), C.E.tNil⟩]) :: genD C T PT l (t + 3)
def setD (a : Nat) : List DSt → Array Value → Array Value
  | [], c => c
  | x :: l, c => setD a l (c.setIfInBounds (a + x.o) x.v)
def defOk (P : Program) (T n : Nat) : List DSt → Bool
  | [] => true
  | x :: l => fldOff P T x.k == some x.o && isScl (kindOf P x.ty) && decide (x.o < n) && defOk P T n l
theorem default_sound {P : Program} {C : Cfg} {T PT n : Nat} : ∀ (l : List DSt) (t : Nat) {f : Nat → Value} {w : World} {b a : Nat} {c : Array Value} {e : TypeId} {R : Value → World → Prop}, (∀ x ∈ l, x.v.oneCell' = true) → defOk P T n l = true → 0 < t →
    f 0 = .pointer (some ⟨b, a, none⟩) → w.heap[b]? = some (.cells c e (0, 0)) → a + n ≤ c.size → R (.tuple #[]) (w.setBlk b (.cells (setD a l c) e (0, 0))) → (seqL (genD C T PT l t)).wp P (retPost P [] R) f w := by
  intro l
  induction l with
  | nil =>
    intro t f w b a c e R _ _ _ h0 hb hn hR
    show retPost P [] R .normal f w
    have : w.setBlk b (.cells c e (0, 0)) = w := by
      simp only [World.setBlk]
      have : w.heap.setIfInBounds b (.cells c e (0, 0)) = w.heap := by
        apply Array.ext_getElem?
        intro k
        rw [Array.getElem?_setIfInBounds]
        split
        · rename_i h; subst h
          rw [hb, if_pos (lt_of_heap hb)]
        · rfl
      rw [this]
    simp only [setD, this] at hR
    simpa using hR
  | cons x l ih =>
    intro t f w b a c e R h1 hok ht h0 hb hn hR
    simp only [defOk, Bool.and_eq_true, beq_iff_eq, decide_eq_true_eq] at hok
    obtain ⟨⟨⟨hF, hk⟩, hlt⟩, hokl⟩ := hok
    refine seqL_cons (wp_reg ?_)
    have ho := h1 x List.mem_cons_self
    have z1 : (0 = t) = False := by simp; omega
    have z2 : ∀ k, (0 = t + k) = False := by intro k; simp; omega
    simp [addrR, h0, hF, Addr.add_mk, store_scl (isScl_spec hk), ho, put1K_blk hb]
    refine ⟨by omega, ?_⟩
    refine ih (t + 3) (fun y hy => h1 y (List.mem_cons_of_mem _ hy)) hokl (by omega) ?_ (setBlk_same hb) (by simpa using hn) ?_
    · simp [z1, z2, h0]
    · rw [setBlk_setBlk]; exact hR
theorem defaultC {P : Program} {C : Cfg} {T PT n g nt : Nat} {S : Sch} (hnt : 1 ≤ nt) (hI : FnIs P g nt [] (seqL (genD C T PT (S.dst C) 2))) (hok : defOk P T n (S.dst C) = true) (h1 : ∀ x ∈ S.dst C, x.v.oneCell' = true)
    {w : World} {b a : Nat} {c : Array Value} {e : TypeId} (hb : w.heap[b]? = some (.cells c e (0, 0))) (hn : a + n ≤ c.size) :
    Ret P g #[.pointer (some ⟨b, a, none⟩)] w fun _ w' => w' = w.setBlk b (.cells (setD a (S.dst C) c) e (0, 0)) := by
  refine hI.ret (args := [_]) hnt ?_
  exact default_sound (S.dst C) 2 h1 hok (by omega) rfl hb hn rfl
theorem dst_one (C : Cfg) : ∀ (S : Sch), ∀ x ∈ S.dst C, x.v.oneCell' = true := by
  intro S
  induction S with
  | fin => intro x hx; cases hx
  | tags k o => intro x hx; cases hx
  | prim g k o p en d rest ih =>
    intro x hx
    simp only [Sch.dst, List.mem_append] at hx
    rcases hx with hx | hx
    · split at hx
      · rename_i v hv
        simp at hx; subst hx
        cases p <;> simp only [Prim.dval] at hv <;> first | (split at hv <;> cases hv <;> rfl) | cases hv
      · cases hx
    · exact ih x hx
  | arrP g k o sT nul p rest ih => intro x hx; exact ih x hx
  | arrS g k o sT nul T PT sz df e rest ihe ih => intro x hx; exact ih x hx
  | sub g k o T PT sz df e rest ihe ih => intro x hx; exact ih x hx
  | opt g k o T PT PP sz df e rest ihe ih => intro x hx; exact ih x hx
end Go.Kg

set_option linter.unusedSimpArgs false
set_option linter.unusedVariables false
namespace Go.Kg
open Go
/-- What a new thing says. -/
def Prim.dfl : (p : Prim) → Int → p.T
  | .bool, d => (show Bool from decide (d ≠ 0))
  | .i8, d => (show Int from d)
  | .i16, d => (show Int from d)
  | .u16, d => (show Int from d)
  | .i32, d => (show Int from d)
  | .i64, d => (show Int from d)
  | .uuid, _ => (show List UInt8 from List.replicate 16 0)
  | .str, _ => (show List UInt8 from [])
  | .bytes, _ => (show List UInt8 from [])
  | .nstr, _ => (show Option (List UInt8) from none)
  | .nbytes, _ => (show Option (List UInt8) from none)
def Sch.dfl : (S : Sch) → S.T
  | .fin => ()
  | .tags _ _ => []
  | .prim _ _ _ p _ d rest => (p.dfl d, rest.dfl)
  | .arrP _ _ _ _ _ _ rest => (none, rest.dfl)
  | .arrS _ _ _ _ _ _ _ _ _ _ rest => (none, rest.dfl)
  | .sub _ _ _ _ _ _ _ e rest => (e.dfl, rest.dfl)
  | .opt _ _ _ _ _ _ _ _ _ rest => (none, rest.dfl)
def isInt (k : IntKind) (d : Int) : Option Value → Bool
  | some (.int k' n) => (k == k') && (n == d)
  | _ => false
def isNilSli : Option Value → Bool
  | some (.slice none 0 0) => true
  | _ => false
def isNilMap : Option Value → Bool
  | some (.map none) => true
  | _ => false
def isNilPtr : Option Value → Bool
  | some (.pointer none) => true
  | _ => false
def isBoolV (b : Bool) : Option Value → Bool
  | some (.bool c) => b == c
  | _ => false
def isEmpStr : Option Value → Bool
  | some (.string s) => s.data.toList.isEmpty
  | _ => false
def zeros16 (cs : List Value) (o : Nat) : Nat → Bool
  | 0 => true
  | k + 1 => isInt .u8 0 cs[o + k]? && zeros16 cs o k
def Prim.chkD (cs : List Value) (o : Nat) : Prim → Int → Bool
  | .bool, d => isBoolV (decide (d ≠ 0)) cs[o]?
  | .i8, d => isInt .i8 d cs[o]?
  | .i16, d => isInt .i16 d cs[o]?
  | .u16, d => isInt .u16 d cs[o]? && decide (0 ≤ d) && decide (d < 65536)
  | .i32, d => isInt .i32 d cs[o]?
  | .i64, d => isInt .i64 d cs[o]?
  | .uuid, _ => zeros16 cs o 16
  | .str, _ => isEmpStr cs[o]?
  | .bytes, _ => isNilSli cs[o]?
  | .nstr, _ => isNilPtr cs[o]?
  | .nbytes, _ => isNilSli cs[o]?
def Sch.chkD (cs : List Value) : Sch → Bool
  | .fin => true
  | .tags _ o => isNilMap cs[o]?
  | .prim _ _ o p _ d rest => p.chkD cs o d && rest.chkD cs
  | .arrP _ _ o _ _ _ rest => isNilSli cs[o]? && rest.chkD cs
  | .arrS _ _ o _ _ _ _ _ _ _ rest => isNilSli cs[o]? && rest.chkD cs
  | .sub _ _ o _ _ sz _ e rest => e.chkD ((cs.drop o).take sz) && rest.chkD cs
  | .opt _ _ o _ _ _ _ _ _ rest => isNilPtr cs[o]? && rest.chkD cs
theorem isInt_spec {k : IntKind} {d : Int} {v : Option Value} (h : isInt k d v = true) : v = some (.int k d) := by
  unfold isInt at h
  split at h
  · simp only [Bool.and_eq_true, beq_iff_eq] at h; obtain ⟨rfl, rfl⟩ := h; rfl
  · cases h
theorem isNilSli_spec {v : Option Value} (h : isNilSli v = true) : v = some (.slice none 0 0) := by
  unfold isNilSli at h; split at h
  · rfl
  · cases h
theorem isNilMap_spec {v : Option Value} (h : isNilMap v = true) : v = some (.map none) := by
  unfold isNilMap at h; split at h
  · rfl
  · cases h
theorem isNilPtr_spec {v : Option Value} (h : isNilPtr v = true) : v = some (.pointer none) := by
  unfold isNilPtr at h; split at h
  · rfl
  · cases h
theorem isBoolV_spec {b : Bool} {v : Option Value} (h : isBoolV b v = true) : v = some (.bool b) := by
  unfold isBoolV at h; split at h
  · rw [beq_iff_eq.1 h]
  · cases h
theorem isEmpStr_spec {v : Option Value} (h : isEmpStr v = true) : v = some (strV []) := by
  unfold isEmpStr at h
  split at h
  · rename_i s
    obtain ⟨d⟩ := s
    have : d.toList = [] := by simpa using h
    have : d = #[] := by rw [← Array.toArray_toList (xs := d), this]
    subst this; rfl
  · cases h
theorem zeros16_spec {cs : List Value} {o : Nat} : ∀ {n : Nat}, zeros16 cs o n = true → ∀ j, j < n → cs[o + j]? = some (.int .u8 0)
  | 0, _, j, hj => by omega
  | n + 1, h, j, hj => by
    simp only [zeros16, Bool.and_eq_true] at h
    by_cases e : j = n
    · subst e; exact isInt_spec h.1
    · exact zeros16_spec h.2 j (by omega)
theorem seg_val {cs : List Value} {o : Nat} {v : Value} (h : cs[o]? = some v) (h1 : v.oneCell' = true) : seg cs o v.cells.toList := seg_one h h1
theorem Prim.repD {w : World} {K : Nat → Prop} {cs : List Value} {o : Nat} (p : Prim) (d : Int) (h : p.chkD cs o d = true) : ∃ v, seg cs o v.cells.toList ∧ p.rep1 w K v (p.dfl d) := by
  cases p with
  | bool => exact ⟨_, seg_val (isBoolV_spec h) rfl, rfl⟩
  | i8 => exact ⟨_, seg_val (isInt_spec h) rfl, rfl⟩
  | i16 => exact ⟨_, seg_val (isInt_spec h) rfl, rfl⟩
  | u16 =>
    simp only [Prim.chkD, Bool.and_eq_true, decide_eq_true_eq] at h
    refine ⟨_, seg_val (isInt_spec h.1.1) rfl, d.toNat, ?_, by omega, ?_⟩
    · show d = _; omega
    · have : ((d.toNat : Nat) : Int) = d := by omega
      rw [this]
  | i32 => exact ⟨_, seg_val (isInt_spec h) rfl, rfl⟩
  | i64 => exact ⟨_, seg_val (isInt_spec h) rfl, rfl⟩
  | str => exact ⟨_, seg_val (isEmpStr_spec h) rfl, rfl⟩
  | nstr => exact ⟨_, seg_val (isNilPtr_spec h) rfl, rfl⟩
  | bytes => exact ⟨_, seg_val (isNilSli_spec h) rfl, .inl ⟨⟨_, rfl⟩, rfl⟩⟩
  | nbytes => exact ⟨_, seg_val (isNilSli_spec h) rfl, rfl⟩
  | uuid =>
    refine ⟨.agg (cellsOf (List.replicate 16 0)).toArray, ?_, rfl, by simp [Prim.dfl]⟩
    intro j u hj
    have hj' : j < 16 := by
      have := (List.getElem?_eq_some_iff.1 hj).1
      simpa [Value.cells] using this
    rw [zeros16_spec h j hj']
    have : (cellsOf (List.replicate 16 0))[j]? = some (.int .u8 0) := by
      simp only [cellsOf, List.getElem?_map, List.getElem?_replicate, if_pos hj', Option.map_some]
      rfl
    rw [← this]
    simpa [Value.cells] using hj
theorem Sch.repD {w : World} {K : Nat → Prop} {cs : List Value} : ∀ S : Sch, S.chkD cs = true → S.Rep w K cs S.dfl := by
  intro S
  induction S generalizing cs with
  | fin => intro _; trivial
  | tags k o => intro h; exact ⟨_, isNilMap_spec h, .inl ⟨rfl, rfl⟩⟩
  | prim g k o p en d rest ih =>
    intro h
    simp only [Sch.chkD, Bool.and_eq_true] at h
    exact ⟨p.repD d h.1, ih h.2⟩
  | arrP g k o sT nul p rest ih =>
    intro h
    simp only [Sch.chkD, Bool.and_eq_true] at h
    exact ⟨⟨_, none, isNilSli_spec h.1, rfl, ⟨rfl, InHeap.nil _⟩, rfl, by simp⟩, ih h.2⟩
  | arrS g k o sT nul T PT sz df e rest ihe ih =>
    intro h
    simp only [Sch.chkD, Bool.and_eq_true] at h
    exact ⟨⟨_, none, isNilSli_spec h.1, rfl, ⟨rfl, InHeap.nil _⟩, rfl, by simp⟩, ih h.2⟩
  | sub g k o T PT sz df e rest ihe ih =>
    intro h
    simp only [Sch.chkD, Bool.and_eq_true] at h
    exact ⟨ihe h.1, ih h.2⟩
  | opt g k o T PT PP sz df e rest ihe ih =>
    intro h
    simp only [Sch.chkD, Bool.and_eq_true] at h
    exact ⟨⟨_, isNilPtr_spec h.1, fun _ => rfl, fun x hx => by cases hx⟩, ih h.2⟩
theorem Sch.tagsD : ∀ S : Sch, S.TagsOk (· = []) S.dfl := by
  intro S
  induction S with
  | fin => trivial
  | tags k o => rfl
  | prim g k o p en d rest ih => exact ih
  | arrP g k o sT nul p rest ih => exact ih
  | arrS g k o sT nul T PT sz df e rest ihe ih => exact ⟨by simp [Sch.dfl], ih⟩
  | sub g k o T PT sz df e rest ihe ih => exact ⟨ihe, ih⟩
  | opt g k o T PT PP sz df e rest ihe ih => exact ⟨fun x hx => (by cases hx), ih⟩
end Go.Kg

set_option linter.unusedSimpArgs false
set_option linter.unusedVariables false
namespace Go.Kg
open Go
def rdCNBytes (rs : RS) : Option (List UInt8) × RS := if ((rdUv rs).1 : Int) - 1 < 0 then (none, (rdUv rs).2) else optOf (rdSpan ((rdUv rs).1 - 1) (rdUv rs).2)
def Prim.rd : (p : Prim) → Bool → RS → p.T × RS
  | .bool, _, rs => (boolOf (rdFixed 1 rs).1, (rdFixed 1 rs).2)
  | .i8, _, rs => (IntKind.i8.wrap (rdFixed 1 rs).1, (rdFixed 1 rs).2)
  | .i16, _, rs => (IntKind.i16.wrap (rdFixed 2 rs).1, (rdFixed 2 rs).2)
  | .u16, _, rs => (((rdFixed 2 rs).1 : Int), (rdFixed 2 rs).2)
  | .i32, _, rs => (IntKind.i32.wrap (rdFixed 4 rs).1, (rdFixed 4 rs).2)
  | .i64, _, rs => (IntKind.i64.wrap (rdFixed 8 rs).1, (rdFixed 8 rs).2)
  | .uuid, _, rs => rdUuid rs
  | .str, fl, rs => if fl then rdCStr rs else rdStr rs
  | .nstr, fl, rs => if fl then rdCNStr rs else rdNStr rs
  | .bytes, fl, rs => if fl then rdCBytes rs else rdBytes rs
  | .nbytes, fl, rs => if fl then rdCNBytes rs else rdNBytes rs
/-- a tag is set: in the place of the one of its number, or behind all -/
def setTag (k : Nat) (v : List UInt8) : TagL → TagL
  | [] => [(k, v)]
  | x :: l => if x.1 = k then (k, v) :: l else x :: setTag k v l
def rdTag (l : TagL) (rs : RS) : TagL × RS :=
  let a := rdUv rs
  let b := rdUv a.2
  let c := rdSpan b.1 b.2
  (setTag a.1 c.1 l, c.2)
def rdTagN : Nat → TagL → RS → TagL × RS
  | 0, l, rs => (l, rs)
  | n + 1, l, rs => rdTagN n (rdTag l rs).1 (rdTag l rs).2
def rdTags (rs : RS) : TagL × RS := rdTagN (rdUv rs).1 [] (rdUv rs).2
def rdN {α : Type} (f : RS → Option (α × RS)) : Nat → RS → Option (List α × RS)
  | 0, rs => some ([], rs)
  | n + 1, rs => match f rs with
    | none => none
    | some (x, rs1) => match rdN f n rs1 with
      | none => none
      | some (l, rs2) => some (x :: l, rs2)
/-- a list's length; what a list is that has none -/
def lenRd (fl : Bool) (rs : RS) : Int × RS := if fl then rdCLen rs else rdLen rs
def emptyOf {α : Type} (nul : Option Nat) (ver l : Int) : Option (List α) := match nul with
  | none => none
  | some m => if ver < (m : Int) ∨ l = 0 then some [] else none
def arrRd {α : Type} (nul : Option Nat) (ver : Int) (fl : Bool) (f : RS → Option (α × RS)) (rs : RS) : Option (Option (List α) × RS) :=
  if (lenRd fl rs).2.bad then none
  else if 0 < (lenRd fl rs).1 then match rdN f (lenRd fl rs).1.toNat (lenRd fl rs).2 with
    | none => none
    | some (l, rs2) => some (some l, rs2)
  else some (emptyOf nul ver (lenRd fl rs).1, (lenRd fl rs).2)
/-- present := b.Int8(); present != -1 && b.Ok() -/
def optRd {α : Type} (f : RS → Option (α × RS)) (rs : RS) : Option (Option α × RS) :=
  if Prim.rd .i8 false rs |>.2.bad then some (none, (Prim.rd .i8 false rs).2)
  else if (show Int from (Prim.rd .i8 false rs).1) = -1 then some (none, (Prim.rd .i8 false rs).2)
  else (f (Prim.rd .i8 false rs).2).map fun x => (some x.1, x.2)
/-- none: the early return behind a list's length. -/
def Sch.rd (ver : Int) (fl : Bool) : (S : Sch) → RS → Option (S.T × RS)
  | .fin, rs => some ((), rs)
  | .tags _ _, rs => some (if fl then rdTags rs else ([], rs))
  | .prim g _ _ p _ d rest, rs =>
    if g.on ver then (rest.rd ver fl (p.rd fl rs).2).map fun y => (((p.rd fl rs).1, y.1), y.2)
    else (rest.rd ver fl rs).map fun y => ((p.dfl d, y.1), y.2)
  | .arrP g _ _ _ nul p rest, rs =>
    if g.on ver then match arrRd nul ver fl (fun rs => some (p.rd fl rs)) rs with
      | none => none
      | some (a, rs1) => (rest.rd ver fl rs1).map fun y => ((a, y.1), y.2)
    else (rest.rd ver fl rs).map fun y => ((none, y.1), y.2)
  | .arrS g _ _ _ nul _ _ _ _ e rest, rs =>
    if g.on ver then match arrRd nul ver fl (e.rd ver fl) rs with
      | none => none
      | some (a, rs1) => (rest.rd ver fl rs1).map fun y => ((a, y.1), y.2)
    else (rest.rd ver fl rs).map fun y => ((none, y.1), y.2)
  | .sub g _ _ _ _ _ _ e rest, rs =>
    if g.on ver then match e.rd ver fl rs with
      | none => none
      | some (a, rs1) => (rest.rd ver fl rs1).map fun y => ((a, y.1), y.2)
    else (rest.rd ver fl rs).map fun y => ((e.dfl, y.1), y.2)
  | .opt g _ _ _ _ _ _ _ e rest, rs =>
    if g.on ver then match optRd (e.rd ver fl) rs with
      | none => none
      | some (a, rs1) => (rest.rd ver fl rs1).map fun y => ((a, y.1), y.2)
    else (rest.rd ver fl rs).map fun y => ((none, y.1), y.2)
section
variable {w : World} {K K' : Nat → Prop} (hK : ∀ b, K b → K' b)
include hK
theorem StrPtr.mono {v : Value} {o : Option (List UInt8)} (h : StrPtr w K v o) : StrPtr w K' v o := by
  cases o with
  | none => exact h
  | some l => obtain ⟨a, rfl, hk, hc⟩ := h; exact ⟨a, rfl, hK _ hk, hc⟩
theorem BytesOpt.mono {v : Value} {o : Option (List UInt8)} (h : BytesOpt w K v o) : BytesOpt w K' v o := by
  cases o with
  | none => exact h
  | some l => exact ⟨h.1.mono (fun b _ => hK b), h.2⟩
theorem Prim.rep1_mono {p : Prim} {v : Value} {x : p.T} (h : p.rep1 w K v x) : p.rep1 w K' v x := by
  cases p <;> first | exact h | exact StrPtr.mono hK h | exact BytesAt.mono h (fun b _ => hK b) | exact BytesOpt.mono hK h
theorem TagsAt.mono {v : Value} {l : TagL} (h : TagsAt w K v l) : TagsAt w K' v l := by
  rcases h with h | ⟨b, es, clock, rfl, hk, hb, hs, hn, hl, hx⟩
  · exact .inl h
  · refine .inr ⟨b, es, clock, rfl, hK _ hk, hb, hs, hn, hl, fun i e x h1 h2 => ?_⟩
    obtain ⟨a1, a2, a3, a4⟩ := hx i e x h1 h2
    exact ⟨a1, a2, a3, a4.mono (fun b _ => hK b)⟩
theorem ArrAt.mono' {sz : Nat} {v : Value} {ls : Option (List (List Value))} (h : ArrAt w K sz v ls) : ArrAt w K' sz v ls := by
  cases ls with
  | none => exact h
  | some ls => obtain ⟨b, o, c, rfl, hk, hn, hx⟩ := h; exact ⟨b, o, c, rfl, hK b hk, hn, hx⟩
theorem Sch.Rep_mono : ∀ (S : Sch) {cs : List Value} {x : S.T}, S.Rep w K cs x → S.Rep w K' cs x := by
  intro S
  induction S with
  | fin => intro cs x h; trivial
  | tags k o => intro cs x ⟨v, h1, h2⟩; exact ⟨v, h1, TagsAt.mono hK h2⟩
  | prim g k o p en d rest ih => intro cs x ⟨⟨v, h1, h2⟩, h3⟩; exact ⟨⟨v, h1, Prim.rep1_mono hK h2⟩, ih h3⟩
  | arrP g k o sT nul p rest ih =>
    intro cs x ⟨⟨v, ls, h1, h2, h3, h4, h5⟩, h6⟩
    refine ⟨⟨v, ls, h1, ArrAt.mono' hK h2, h3, h4, fun i es y hi hy => ?_⟩, ih h6⟩
    obtain ⟨u, a1, a2⟩ := h5 i es y hi hy
    exact ⟨u, a1, Prim.rep1_mono hK a2⟩
  | arrS g k o sT nul T PT sz df e rest ihe ih =>
    intro cs x ⟨⟨v, ls, h1, h2, h3, h4, h5⟩, h6⟩
    exact ⟨⟨v, ls, h1, ArrAt.mono' hK h2, h3, h4, fun i es y hi hy => ihe (h5 i es y hi hy)⟩, ih h6⟩
  | sub g k o T PT sz df e rest ihe ih => intro cs x ⟨h1, h2⟩; exact ⟨ihe h1, ih h2⟩
  | opt g k o T PT PP sz df e rest ihe ih =>
    intro cs x ⟨⟨v, h1, h2, h3⟩, h4⟩
    refine ⟨⟨v, h1, h2, fun y hy => ?_⟩, ih h4⟩
    obtain ⟨b, c, es, a1, a2, a3, a4, a5, a6⟩ := h3 y hy
    exact ⟨b, c, es, a1, hK _ a2, a3, a4, a5, ihe a6⟩
end
end Go.Kg

set_option linter.unusedSimpArgs false
set_option linter.unusedVariables false
set_option linter.unusedSectionVars false
namespace Go.Kg
open Go
structure Good {α : Type} (g : RS → α × RS) : Prop where
  ext : ∀ p z nn, (g ⟨p, false, nn⟩).2.bad = false → g ⟨p ++ z, false, nn⟩ = ((g ⟨p, false, nn⟩).1, ⟨(g ⟨p, false, nn⟩).2.src ++ z, false, (g ⟨p, false, nn⟩).2.nn⟩)
  bad : ∀ rs, rs.bad = true → (g rs).2.bad = true
theorem Good.pure {α : Type} (x : Bool → α) : Good (fun rs => (x rs.nn, rs)) := ⟨fun p z nn _ => rfl, fun rs h => h⟩
theorem Good.bind {α β : Type} {g : RS → α × RS} {h : α → RS → β × RS} (hg : Good g) (hh : ∀ a, Good (h a)) : Good (fun rs => h (g rs).1 (g rs).2) := by
  refine ⟨fun p z nn hb => ?_, fun rs hb => (hh _).bad _ (hg.bad rs hb)⟩
  have h1 : (g ⟨p, false, nn⟩).2.bad = false := by
    cases e : (g ⟨p, false, nn⟩).2.bad
    · rfl
    · have h3 := (hh (g ⟨p, false, nn⟩).1).bad _ e
      have h4 : (h (g ⟨p, false, nn⟩).1 (g ⟨p, false, nn⟩).2).2.bad = false := hb
      rw [h3] at h4; cases h4
  have e := hg.ext p z nn h1
  have hb' : (h (g ⟨p, false, nn⟩).1 (g ⟨p, false, nn⟩).2).2.bad = false := hb
  show h (g ⟨p ++ z, false, nn⟩).1 (g ⟨p ++ z, false, nn⟩).2 = ((h (g ⟨p, false, nn⟩).1 (g ⟨p, false, nn⟩).2).1, ⟨(h (g ⟨p, false, nn⟩).1 (g ⟨p, false, nn⟩).2).2.src ++ z, false, (h (g ⟨p, false, nn⟩).1 (g ⟨p, false, nn⟩).2).2.nn⟩)
  rw [e]
  clear e hb
  generalize g ⟨p, false, nn⟩ = y at *
  obtain ⟨a, q, bd, m⟩ := y
  simp only at h1 hb' ⊢
  subst h1
  exact (hh a).ext q z m hb'
theorem Good.map {α β : Type} {g : RS → α × RS} (hg : Good g) (f : α → Bool → β) : Good (fun rs => (f (g rs).1 (g rs).2.nn, (g rs).2)) :=
  hg.bind (h := fun a rs => (f a rs.nn, rs)) (fun a => Good.pure (f a))
theorem Good.fail {α : Type} (x : α) : Good (fun _ => (x, .fail)) := ⟨fun p z nn h => (by cases h), fun rs _ => rfl⟩
theorem Good.congr {α : Type} {f g : RS → α × RS} (h : Good f) (e : ∀ rs, g rs = f rs) : Good g := (funext e : g = f) ▸ h
/-- the same of readers that may end early -/
structure GoodO {α : Type} (g : RS → Option (α × RS)) : Prop where
  ext : ∀ p z nn y rs, g ⟨p, false, nn⟩ = some (y, rs) → rs.bad = false → g ⟨p ++ z, false, nn⟩ = some (y, ⟨rs.src ++ z, false, rs.nn⟩)
  bad : ∀ rs y rs', g rs = some (y, rs') → rs.bad = true → rs'.bad = true
theorem Good.toO {α : Type} {g : RS → α × RS} (h : Good g) : GoodO (fun rs => some (g rs)) := by
  refine ⟨fun p z nn y rs e hb => ?_, fun rs y rs' e hb => ?_⟩
  · simp only [Option.some.injEq] at e ⊢
    rw [h.ext p z nn (by rw [e]; exact hb), e]
  · simp only [Option.some.injEq] at e
    have := h.bad rs hb
    rwa [e] at this
theorem GoodO.bind {α β : Type} {g : RS → Option (α × RS)} {h : α → RS → Option (β × RS)} (hg : GoodO g) (hh : ∀ a, GoodO (h a)) : GoodO (fun rs => (g rs).bind fun x => h x.1 x.2) := by
  refine ⟨fun p z nn y rs e hb => ?_, fun rs y rs' e hb => ?_⟩
  · obtain ⟨⟨a, r1⟩, e1, e2⟩ := Option.bind_eq_some_iff.1 e
    have h1 : r1.bad = false := by
      cases hx : r1.bad
      · rfl
      · have := (hh a).bad r1 y rs e2 hx
        rw [this] at hb; cases hb
    have e1' := hg.ext p z nn a r1 e1 h1
    rw [e1']
    obtain ⟨s1, b1, n1⟩ := r1
    simp only at h1
    subst h1
    exact (hh a).ext s1 z n1 y rs e2 hb
  · obtain ⟨⟨a, r1⟩, e1, e2⟩ := Option.bind_eq_some_iff.1 e
    exact (hh a).bad r1 y rs' e2 (hg.bad rs a r1 e1 hb)
theorem GoodO.congr {α : Type} {f g : RS → Option (α × RS)} (h : GoodO f) (e : ∀ rs, g rs = f rs) : GoodO g := (funext e : g = f) ▸ h
theorem GoodO.pure {α : Type} (x : α) : GoodO (fun rs => some (x, rs)) := (Good.pure (fun _ => x)).toO
end Go.Kg

set_option linter.unusedSimpArgs false
set_option linter.unusedVariables false
set_option linter.unusedSectionVars false
namespace Go.Kg
open Go
/-- what a thing may be, to be written and read -/
def Prim.wf : (p : Prim) → p.T → Prop
  | .bool, _ => True
  | .i8, n => -128 ≤ (show Int from n) ∧ (show Int from n) < 128
  | .i16, n => -32768 ≤ (show Int from n) ∧ (show Int from n) < 32768
  | .u16, n => 0 ≤ (show Int from n) ∧ (show Int from n) < 65536
  | .i32, n => -2147483648 ≤ (show Int from n) ∧ (show Int from n) < 2147483648
  | .i64, n => -9223372036854775808 ≤ (show Int from n) ∧ (show Int from n) < 9223372036854775808
  | .uuid, l => (show List UInt8 from l).length = 16
  | .str, l => (show List UInt8 from l).length ≤ 32767
  | .bytes, l => (show List UInt8 from l).length ≤ 32767
  | .nstr, o => ((show Option (List UInt8) from o).getD []).length ≤ 32767
  | .nbytes, o => ((show Option (List UInt8) from o).getD []).length ≤ 32767
def tagsOk (l : TagL) : Prop := l.length ≤ 40000 ∧ (l.map (·.1)).Nodup ∧ ∀ x ∈ l, x.1 < 4294967296 ∧ x.2.length ≤ 32767
end Go.Kg

set_option linter.unusedSimpArgs false
set_option linter.unusedVariables false
set_option linter.unusedSectionVars false
namespace Go.Kg
open Go
def arrWf {α : Type} (nul : Option Nat) (ver : Int) (a : Option (List α)) : Prop := (a.getD []).length ≤ 32767 ∧ ∀ m : Nat, nul = some m → ver < (m : Int) → a ≠ none
def Sch.pos (ver : Int) (fl : Bool) : Sch → Bool
  | .fin => false
  | .tags _ _ => fl
  | .prim g _ _ _ _ _ rest => g.on ver || rest.pos ver fl
  | .arrP g _ _ _ _ _ rest => g.on ver || rest.pos ver fl
  | .arrS g _ _ _ _ _ _ _ _ _ rest => g.on ver || rest.pos ver fl
  | .sub g _ _ _ _ _ _ e rest => (g.on ver && e.pos ver fl) || rest.pos ver fl
  | .opt g _ _ _ _ _ _ _ _ rest => g.on ver || rest.pos ver fl
def Sch.posE (ver : Int) (fl : Bool) : Sch → Bool
  | .fin => true
  | .tags _ _ => true
  | .prim _ _ _ _ _ _ rest => rest.posE ver fl
  | .arrP _ _ _ _ _ _ rest => rest.posE ver fl
  | .arrS g _ _ _ _ _ _ _ _ e rest => (!g.on ver || (e.pos ver fl && e.posE ver fl)) && rest.posE ver fl
  | .sub g _ _ _ _ _ _ e rest => (!g.on ver || e.posE ver fl) && rest.posE ver fl
  | .opt g _ _ _ _ _ _ _ e rest => (!g.on ver || e.posE ver fl) && rest.posE ver fl
def Sch.wf (ver : Int) (fl : Bool) : (S : Sch) → S.T → Prop
  | .fin, _ => True
  | .tags _ _, l => fl = true → tagsOk l
  | .prim g _ _ p _ _ rest, (x, r) => (g.on ver = true → p.wf x) ∧ rest.wf ver fl r
  | .arrP g _ _ _ nul p rest, (a, r) => (g.on ver = true → arrWf nul ver a ∧ ∀ x ∈ a.getD [], p.wf x) ∧ rest.wf ver fl r
  | .arrS g _ _ _ nul _ _ _ _ e rest, (a, r) => (g.on ver = true → arrWf nul ver a ∧ ∀ x ∈ a.getD [], e.wf ver fl x) ∧ rest.wf ver fl r
  | .sub g _ _ _ _ _ _ e rest, (x, r) => (g.on ver = true → e.wf ver fl x) ∧ rest.wf ver fl r
  | .opt g _ _ _ _ _ _ _ e rest, (a, r) => (g.on ver = true → ∀ x, a = some x → e.wf ver fl x) ∧ rest.wf ver fl r
end Go.Kg

set_option linter.unusedSimpArgs false
set_option linter.unusedVariables false
set_option linter.unusedSectionVars false
namespace Go.Kg
open Go
end Go.Kg

set_option linter.unusedSimpArgs false
set_option linter.unusedVariables false
set_option linter.unusedSectionVars false
namespace Go.Kg
open Go
end Go.Kg

set_option linter.unusedSimpArgs false
set_option linter.unusedVariables false
set_option linter.unusedSectionVars false
namespace Go.Kg
open Go
end Go.Kg

set_option linter.unusedSimpArgs false
set_option linter.unusedVariables false
set_option linter.unusedSectionVars false
namespace Go.Kg
open Go
end Go.Kg

set_option linter.unusedVariables false
namespace Go.Kg
open Go
def ir_spec_Write (E : Env) : Ir := (.seq (.reg [ ⟨none, some 3, .box E.t_spec_Message (.tmp 0), E.tNil⟩, ⟨none, some 5, .box E.t_spec_Tree (.tmp 2), E.tNil⟩, ⟨none, some 6, .assign (.const (.slice none 0 0)), E.tBs⟩]) (.seq (.reg [ ⟨none, some 7, .fieldAddr E.t_spec_Message (.tmp 3) 0, E.tNil⟩, ⟨none, some 8, .load E.t_l_spec_Field (.tmp 7), E.t_l_spec_Field⟩, ⟨none, some 9, .move (.tmp 1), E.tInt⟩, ⟨none, some 10, .fieldAddr E.t_spec_Message (.tmp 3) 1, E.tNil⟩, ⟨none, some 11, .load E.tInt (.tmp 10), E.tInt⟩, ⟨none, some 12, .binOp .geq E.tInt (.tmp 11) (.const (.int .i64 0)) E.tInt, E.tB⟩, ⟨none, some 13, .move (.tmp 12), E.tB⟩, ⟨(some (13, true)), some 14, .move (.tmp 1), E.tInt⟩, ⟨(some (13, true)), some 15, .fieldAddr E.t_spec_Message (.tmp 3) 1, E.tNil⟩, ⟨(some (13, true)), some 16, .load E.tInt (.tmp 15), E.tInt⟩, ⟨(some (13, true)), some 17, .binOp .geq E.tInt (.tmp 14) (.tmp 16) E.tInt, E.tB⟩, ⟨none, some 18, .pick (.tmp 13) (.tmp 17) (.const (.bool false)), E.tB⟩, ⟨none, some 19, .load E.t_spec_Tree (.tmp 5), E.t_spec_Tree⟩, ⟨none, some 20, .call { callee := .value (.func E.f_spec_part), args := #[.tmp 8, .tmp 9, .tmp 18, .tmp 19], argTypes := #[E.t_l_spec_Field, E.tInt, E.tB, E.t_spec_Tree] }, E.tBs⟩, ⟨none, some 6, .assign (.tmp 20), E.tBs⟩]) .ret))
def nt_spec_Write : Nat := 21
def rs_spec_Write (E : Env) : List Rv := [.t 6]
def ir_spec_part (E : Env) : Ir := (.seq (.reg [ ⟨none, some 7, .box E.t_spec_Tree (.tmp 3), E.tNil⟩, ⟨none, some 8, .assign (.const (.slice none 0 0)), E.tBs⟩]) (.seq (.reg [ ⟨none, some 9, .assign (.const (.slice none 0 0)), E.tBs⟩, ⟨none, some 10, .assign (.const (.slice none 0 0)), E.tBs⟩]) (.seq (.reg [ ⟨none, some 11, .assign (.const (.int .i64 0)), E.tInt⟩]) (.seq (.seq (.reg [ ⟨none, some 21, .move (.tmp 0), E.t_l_spec_Field⟩, ⟨none, some 22, .call { callee := .builtin .len, args := #[.tmp 21], argTypes := #[E.t_l_spec_Field] }, E.tInt⟩, ⟨none, some 23, .move (.const (.int .i64 0)), E.tInt⟩]) (.block 0 (.loop (.seq (.reg [ ⟨none, some 24, .binOp .lss E.tInt (.tmp 23) (.tmp 22) E.tInt, E.tNil⟩]) (.seq (.cond 24 .skip (.exit 0)) (.seq (.block 1 (.seq (.reg [ ⟨none, some 25, .move (.tmp 23), E.tInt⟩, ⟨none, some 26, .indexAddr E.t_l_spec_Field (.tmp 21) (.tmp 23), E.tNil⟩, ⟨none, some 27, .load E.t_spec_Field (.tmp 26), E.t_spec_Field⟩, ⟨none, some 13, .alloc E.t_spec_Field, E.tNil⟩, ⟨none, some 12, .assign (.tmp 25), E.tInt⟩, ⟨none, none, .store E.t_spec_Field (.tmp 13) (.tmp 27), E.tNil⟩]) (.seq (.reg [ ⟨none, some 28, .fieldAddr E.t_spec_Field (.tmp 13) 4, E.tNil⟩, ⟨none, some 29, .load E.tInt (.tmp 28), E.tInt⟩, ⟨none, some 30, .binOp .lss E.tInt (.tmp 29) (.const (.int .i64 0)) E.tInt, E.tB⟩, ⟨none, some 31, .move (.tmp 30), E.tB⟩, ⟨(some (31, true)), some 32, .load E.t_spec_Field (.tmp 13), E.t_spec_Field⟩, ⟨(some (31, true)), some 33, .move (.tmp 1), E.tInt⟩, ⟨(some (31, true)), some 34, .call { callee := .value (.func E.f_spec_Field_has), args := #[.tmp 32, .tmp 33], argTypes := #[E.t_spec_Field, E.tInt] }, E.tB⟩, ⟨none, some 35, .pick (.tmp 31) (.tmp 34) (.const (.bool false)), E.tB⟩]) (.cond 35 (.regH [ (true, ⟨none, some 36, .move (.tmp 9), E.tBs⟩), (true, ⟨none, some 37, .load E.t_spec_Field (.tmp 13), E.t_spec_Field⟩), (true, ⟨none, some 38, .move (.tmp 1), E.tInt⟩), (true, ⟨none, some 39, .move (.tmp 2), E.tB⟩), (true, ⟨none, some 40, .load E.t_spec_Tree (.tmp 7), E.t_spec_Tree⟩), (true, ⟨none, some 41, .move (.tmp 12), E.tInt⟩), (false, ⟨none, some 42, .call { callee := .value (.func E.f_spec_at), args := #[.tmp 40, .tmp 41], argTypes := #[E.t_spec_Tree, E.tInt] }, E.t_spec_Tree⟩), (false, ⟨none, some 43, .call { callee := .value (.func E.f_spec_field), args := #[.tmp 37, .tmp 38, .tmp 39, .tmp 42], argTypes := #[E.t_spec_Field, E.tInt, E.tB, E.t_spec_Tree] }, E.tBs⟩), (false, ⟨none, some 44, .call { callee := .builtin .append, args := #[.tmp 36, .tmp 43], argTypes := #[E.tBs, E.tBs] }, E.tBs⟩), (true, ⟨none, some 9, .assign (.tmp 44), E.tBs⟩)]) .skip)))) (.reg [ ⟨none, some 45, .binOp .add E.tInt (.tmp 23) (.const (.int .i64 1)) E.tInt, E.tInt⟩, ⟨none, some 23, .move (.tmp 45), E.tInt⟩]))))))) (.seq (.seq (.reg [ ⟨none, some 46, .move (.tmp 2), E.tB⟩, ⟨none, some 47, .unOp .not E.tB (.tmp 46), E.tB⟩]) (.cond 47 (.seq (.reg [ ⟨none, some 48, .move (.tmp 9), E.tBs⟩, ⟨none, some 8, .assign (.tmp 48), E.tBs⟩]) .ret) .skip)) (.seq (.seq (.reg [ ⟨none, some 49, .move (.tmp 0), E.t_l_spec_Field⟩, ⟨none, some 50, .call { callee := .value (.func E.f_spec_known), args := #[.tmp 49], argTypes := #[E.t_l_spec_Field] }, E.tU32⟩, ⟨none, some 51, .convert E.tU32 E.tInt (.tmp 50), E.tInt⟩, ⟨none, some 52, .move (.const (.int .i64 0)), E.tInt⟩]) (.block 2 (.loop (.seq (.reg [ ⟨none, some 53, .binOp .lss E.tInt (.tmp 52) (.tmp 51) E.tInt, E.tB⟩]) (.seq (.cond 53 .skip (.exit 2)) (.seq (.block 3 (.seq (.reg [ ⟨none, some 54, .move (.tmp 52), E.tInt⟩, ⟨none, some 14, .assign (.tmp 54), E.tInt⟩]) (.seq (.reg [ ⟨none, some 55, .move (.tmp 0), E.t_l_spec_Field⟩, ⟨none, some 56, .call { callee := .builtin .len, args := #[.tmp 55], argTypes := #[E.t_l_spec_Field] }, E.tInt⟩, ⟨none, some 57, .move (.const (.int .i64 0)), E.tInt⟩]) (.block 4 (.loop (.seq (.reg [ ⟨none, some 58, .binOp .lss E.tInt (.tmp 57) (.tmp 56) E.tInt, E.tNil⟩]) (.seq (.cond 58 .skip (.exit 4)) (.seq (.block 5 (.seq (.reg [ ⟨none, some 59, .move (.tmp 57), E.tInt⟩, ⟨none, some 60, .indexAddr E.t_l_spec_Field (.tmp 55) (.tmp 57), E.tNil⟩, ⟨none, some 61, .load E.t_spec_Field (.tmp 60), E.t_spec_Field⟩, ⟨none, some 16, .alloc E.t_spec_Field, E.tNil⟩, ⟨none, some 15, .assign (.tmp 59), E.tInt⟩, ⟨none, none, .store E.t_spec_Field (.tmp 16) (.tmp 61), E.tNil⟩]) (.seq (.regH [ (true, ⟨none, some 62, .fieldAddr E.t_spec_Field (.tmp 16) 4, E.tNil⟩), (true, ⟨none, some 63, .load E.tInt (.tmp 62), E.tInt⟩), (true, ⟨none, some 64, .move (.tmp 14), E.tInt⟩), (true, ⟨none, some 65, .binOp .eql E.tInt (.tmp 63) (.tmp 64) E.tInt, E.tB⟩), (true, ⟨none, some 66, .move (.tmp 65), E.tB⟩), (true, ⟨(some (66, true)), some 67, .load E.t_spec_Field (.tmp 16), E.t_spec_Field⟩), (true, ⟨(some (66, true)), some 68, .load E.t_spec_Tree (.tmp 7), E.t_spec_Tree⟩), (true, ⟨(some (66, true)), some 69, .move (.tmp 15), E.tInt⟩), (false, ⟨(some (66, true)), some 70, .call { callee := .value (.func E.f_spec_at), args := #[.tmp 68, .tmp 69], argTypes := #[E.t_spec_Tree, E.tInt] }, E.t_spec_Tree⟩), (false, ⟨(some (66, true)), some 71, .call { callee := .value (.func E.f_spec_usual), args := #[.tmp 67, .tmp 70], argTypes := #[E.t_spec_Field, E.t_spec_Tree] }, E.tB⟩), (true, ⟨(some (66, true)), some 72, .unOp .not E.tB (.tmp 71), E.tB⟩), (true, ⟨none, some 73, .pick (.tmp 66) (.tmp 72) (.const (.bool false)), E.tB⟩)]) (.cond 73 (.seq (.regH [ (true, ⟨none, some 74, .load E.t_spec_Field (.tmp 16), E.t_spec_Field⟩), (true, ⟨none, some 75, .move (.tmp 1), E.tInt⟩), (true, ⟨none, some 76, .move (.tmp 2), E.tB⟩), (true, ⟨none, some 77, .load E.t_spec_Tree (.tmp 7), E.t_spec_Tree⟩), (true, ⟨none, some 78, .move (.tmp 15), E.tInt⟩), (false, ⟨none, some 79, .call { callee := .value (.func E.f_spec_at), args := #[.tmp 77, .tmp 78], argTypes := #[E.t_spec_Tree, E.tInt] }, E.t_spec_Tree⟩), (false, ⟨none, some 80, .call { callee := .value (.func E.f_spec_field), args := #[.tmp 74, .tmp 75, .tmp 76, .tmp 79], argTypes := #[E.t_spec_Field, E.tInt, E.tB, E.t_spec_Tree] }, E.tBs⟩), (true, ⟨none, some 17, .assign (.tmp 80), E.tBs⟩)]) (.seq (.reg [ ⟨none, some 81, .move (.tmp 10), E.tBs⟩, ⟨none, some 82, .move (.tmp 14), E.tInt⟩, ⟨none, some 83, .convert E.tInt E.tU64 (.tmp 82), E.tU64⟩, ⟨none, some 84, .call { callee := .value (.func E.f_spec_Uvarint), args := #[.tmp 83], argTypes := #[E.tU64] }, E.tBs⟩, ⟨none, some 85, .call { callee := .builtin .append, args := #[.tmp 81, .tmp 84], argTypes := #[E.tBs, E.tBs] }, E.tBs⟩, ⟨none, some 86, .move (.tmp 17), E.tBs⟩, ⟨none, some 87, .call { callee := .builtin .len, args := #[.tmp 86], argTypes := #[E.tBs] }, E.tInt⟩, ⟨none, some 88, .convert E.tInt E.tU64 (.tmp 87), E.tU64⟩, ⟨none, some 89, .call { callee := .value (.func E.f_spec_Uvarint), args := #[.tmp 88], argTypes := #[E.tU64] }, E.tBs⟩, ⟨none, some 90, .call { callee := .builtin .append, args := #[.tmp 85, .tmp 89], argTypes := #[E.tBs, E.tBs] }, E.tBs⟩, ⟨none, some 91, .move (.tmp 17), E.tBs⟩, ⟨none, some 92, .call { callee := .builtin .append, args := #[.tmp 90, .tmp 91], argTypes := #[E.tBs, E.tBs] }, E.tBs⟩, ⟨none, some 10, .assign (.tmp 92), E.tBs⟩]) (.reg [ ⟨none, some 93, .move (.tmp 11), E.tInt⟩, ⟨none, some 94, .binOp .add E.tInt (.tmp 93) (.const (.int .i64 1)) E.tInt, E.tInt⟩, ⟨none, some 11, .assign (.tmp 94), E.tInt⟩]))) .skip)))) (.reg [ ⟨none, some 95, .binOp .add E.tInt (.tmp 57) (.const (.int .i64 1)) E.tInt, E.tInt⟩, ⟨none, some 57, .move (.tmp 95), E.tInt⟩]))))))))) (.reg [ ⟨none, some 96, .binOp .add E.tInt (.tmp 52) (.const (.int .i64 1)) E.tInt, E.tInt⟩, ⟨none, some 52, .move (.tmp 96), E.tInt⟩]))))))) (.seq (.seq (.reg [ ⟨none, some 97, .move (.tmp 0), E.t_l_spec_Field⟩, ⟨none, some 98, .fieldAddr E.t_spec_Tree (.tmp 7) 4, E.tNil⟩, ⟨none, some 99, .load E.t_l_spec_Tag (.tmp 98), E.t_l_spec_Tag⟩, ⟨none, some 100, .call { callee := .value (.func E.f_spec_unknown), args := #[.tmp 97, .tmp 99], argTypes := #[E.t_l_spec_Field, E.t_l_spec_Tag] }, E.t_l_spec_Tag⟩, ⟨none, some 101, .call { callee := .builtin .len, args := #[.tmp 100], argTypes := #[E.t_l_spec_Tag] }, E.tInt⟩, ⟨none, some 102, .move (.const (.int .i64 0)), E.tInt⟩]) (.block 6 (.loop (.seq (.reg [ ⟨none, some 103, .binOp .lss E.tInt (.tmp 102) (.tmp 101) E.tInt, E.tNil⟩]) (.seq (.cond 103 .skip (.exit 6)) (.seq (.block 7 (.seq (.reg [ ⟨none, some 104, .indexAddr E.t_l_spec_Tag (.tmp 100) (.tmp 102), E.tNil⟩, ⟨none, some 105, .load E.t_spec_Tag (.tmp 104), E.t_spec_Tag⟩, ⟨none, some 19, .alloc E.t_spec_Tag, E.tNil⟩, ⟨none, none, .store E.t_spec_Tag (.tmp 19) (.tmp 105), E.tNil⟩]) (.seq (.reg [ ⟨none, some 106, .fieldAddr E.t_spec_Tag (.tmp 19) 1, E.tNil⟩, ⟨none, some 107, .load E.tBs (.tmp 106), E.tBs⟩, ⟨none, some 108, .call { callee := .value (.func E.f_spec_whole), args := #[.tmp 107], argTypes := #[E.tBs] }, E.tBs⟩, ⟨none, some 20, .assign (.tmp 108), E.tBs⟩]) (.seq (.reg [ ⟨none, some 109, .move (.tmp 10), E.tBs⟩, ⟨none, some 110, .fieldAddr E.t_spec_Tag (.tmp 19) 0, E.tNil⟩, ⟨none, some 111, .load E.tU32 (.tmp 110), E.tU32⟩, ⟨none, some 112, .convert E.tU32 E.tU64 (.tmp 111), E.tU64⟩, ⟨none, some 113, .call { callee := .value (.func E.f_spec_Uvarint), args := #[.tmp 112], argTypes := #[E.tU64] }, E.tBs⟩, ⟨none, some 114, .call { callee := .builtin .append, args := #[.tmp 109, .tmp 113], argTypes := #[E.tBs, E.tBs] }, E.tBs⟩, ⟨none, some 115, .move (.tmp 20), E.tBs⟩, ⟨none, some 116, .call { callee := .builtin .len, args := #[.tmp 115], argTypes := #[E.tBs] }, E.tInt⟩, ⟨none, some 117, .convert E.tInt E.tU64 (.tmp 116), E.tU64⟩, ⟨none, some 118, .call { callee := .value (.func E.f_spec_Uvarint), args := #[.tmp 117], argTypes := #[E.tU64] }, E.tBs⟩, ⟨none, some 119, .call { callee := .builtin .append, args := #[.tmp 114, .tmp 118], argTypes := #[E.tBs, E.tBs] }, E.tBs⟩, ⟨none, some 120, .move (.tmp 20), E.tBs⟩, ⟨none, some 121, .call { callee := .builtin .append, args := #[.tmp 119, .tmp 120], argTypes := #[E.tBs, E.tBs] }, E.tBs⟩, ⟨none, some 10, .assign (.tmp 121), E.tBs⟩]) (.reg [ ⟨none, some 122, .move (.tmp 11), E.tInt⟩, ⟨none, some 123, .binOp .add E.tInt (.tmp 122) (.const (.int .i64 1)) E.tInt, E.tInt⟩, ⟨none, some 11, .assign (.tmp 123), E.tInt⟩]))))) (.reg [ ⟨none, some 124, .binOp .add E.tInt (.tmp 102) (.const (.int .i64 1)) E.tInt, E.tInt⟩, ⟨none, some 102, .move (.tmp 124), E.tInt⟩]))))))) (.seq (.reg [ ⟨none, some 125, .move (.tmp 9), E.tBs⟩, ⟨none, some 126, .move (.tmp 11), E.tInt⟩, ⟨none, some 127, .convert E.tInt E.tU64 (.tmp 126), E.tU64⟩, ⟨none, some 128, .call { callee := .value (.func E.f_spec_Uvarint), args := #[.tmp 127], argTypes := #[E.tU64] }, E.tBs⟩, ⟨none, some 129, .call { callee := .builtin .append, args := #[.tmp 125, .tmp 128], argTypes := #[E.tBs, E.tBs] }, E.tBs⟩, ⟨none, some 130, .move (.tmp 10), E.tBs⟩, ⟨none, some 131, .call { callee := .builtin .append, args := #[.tmp 129, .tmp 130], argTypes := #[E.tBs, E.tBs] }, E.tBs⟩, ⟨none, some 8, .assign (.tmp 131), E.tBs⟩]) .ret))))))))
def nt_spec_part : Nat := 132
def rs_spec_part (E : Env) : List Rv := [.t 8]
def ir_spec_field (E : Env) : Ir := (.seq (.reg [ ⟨none, some 4, .box E.t_spec_Field (.tmp 0), E.tNil⟩, ⟨none, some 7, .box E.t_spec_Tree (.tmp 3), E.tNil⟩, ⟨none, some 8, .assign (.const (.slice none 0 0)), E.tBs⟩]) (.seq (.reg [ ⟨none, some 13, .load E.t_spec_Field (.tmp 4), E.t_spec_Field⟩, ⟨none, some 14, .move (.tmp 1), E.tInt⟩, ⟨none, some 15, .load E.t_spec_Tree (.tmp 7), E.t_spec_Tree⟩, ⟨none, some 16, .call { callee := .value (.func E.f_spec_Field_null), args := #[.tmp 13, .tmp 14, .tmp 15], argTypes := #[E.t_spec_Field, E.tInt, E.t_spec_Tree] }, E.tB⟩, ⟨none, some 9, .assign (.tmp 16), E.tB⟩]) (.seq (.seq (.reg [ ⟨none, some 17, .fieldAddr E.t_spec_Field (.tmp 4) 0, E.tNil⟩, ⟨none, some 18, .load E.tInt (.tmp 17), E.tInt⟩, ⟨none, some 19, .binOp .eql E.tInt (.tmp 18) (.const (.int .i64 11)) E.tInt, E.tB⟩]) (.cond 19 (.seq (.reg [ ⟨none, some 20, .fieldAddr E.t_spec_Tree (.tmp 7) 3, E.tNil⟩, ⟨none, some 21, .load E.t_l_spec_Tree (.tmp 20), E.t_l_spec_Tree⟩, ⟨none, some 22, .call { callee := .value (.func E.f_spec_things), args := #[.tmp 21], argTypes := #[E.t_l_spec_Tree] }, E.t_l_spec_Tree⟩, ⟨none, some 10, .assign (.tmp 22), E.t_l_spec_Tree⟩]) (.seq (.seq (.reg [ ⟨none, some 23, .move (.tmp 9), E.tB⟩]) (.cond 23 (.reg [ ⟨none, some 10, .assign (.const (.slice none 0 0)), E.t_l_spec_Tree⟩]) .skip)) (.seq (.reg [ ⟨none, some 24, .move (.tmp 2), E.tB⟩, ⟨none, some 25, .move (.tmp 9), E.tB⟩, ⟨none, some 26, .move (.tmp 10), E.t_l_spec_Tree⟩, ⟨none, some 27, .call { callee := .builtin .len, args := #[.tmp 26], argTypes := #[E.t_l_spec_Tree] }, E.tInt⟩, ⟨none, some 28, .call { callee := .value (.func E.f_spec_counted), args := #[.tmp 24, .tmp 25, .tmp 27, .const (.int .i64 4)], argTypes := #[E.tB, E.tB, E.tInt, E.tInt] }, E.tBs⟩, ⟨none, some 11, .assign (.tmp 28), E.tBs⟩]) (.seq (.seq (.reg [ ⟨none, some 29, .move (.tmp 10), E.t_l_spec_Tree⟩, ⟨none, some 30, .call { callee := .builtin .len, args := #[.tmp 29], argTypes := #[E.t_l_spec_Tree] }, E.tInt⟩, ⟨none, some 31, .move (.const (.int .i64 0)), E.tInt⟩]) (.block 0 (.loop (.seq (.reg [ ⟨none, some 32, .binOp .lss E.tInt (.tmp 31) (.tmp 30) E.tInt, E.tNil⟩]) (.seq (.cond 32 .skip (.exit 0)) (.seq (.block 1 (.seq (.reg [ ⟨none, some 33, .move (.tmp 31), E.tInt⟩, ⟨none, some 12, .assign (.tmp 33), E.tInt⟩]) (.regH [ (true, ⟨none, some 34, .move (.tmp 11), E.tBs⟩), (true, ⟨none, some 35, .fieldAddr E.t_spec_Field (.tmp 4) 6, E.tNil⟩), (true, ⟨none, some 36, .load E.tInt (.tmp 35), E.tInt⟩), (true, ⟨none, some 37, .fieldAddr E.t_spec_Field (.tmp 4) 7, E.tNil⟩), (true, ⟨none, some 38, .load E.t_l_spec_Field (.tmp 37), E.t_l_spec_Field⟩), (true, ⟨none, some 39, .move (.tmp 1), E.tInt⟩), (true, ⟨none, some 40, .move (.tmp 2), E.tB⟩), (true, ⟨none, some 41, .move (.tmp 10), E.t_l_spec_Tree⟩), (true, ⟨none, some 42, .move (.tmp 12), E.tInt⟩), (true, ⟨none, some 43, .indexAddr E.t_l_spec_Tree (.tmp 41) (.tmp 42), E.tNil⟩), (true, ⟨none, some 44, .load E.t_spec_Tree (.tmp 43), E.t_spec_Tree⟩), (false, ⟨none, some 45, .call { callee := .value (.func E.f_spec_value), args := #[.tmp 36, .tmp 38, .const (.bool false), .tmp 39, .tmp 40, .tmp 44], argTypes := #[E.tInt, E.t_l_spec_Field, E.tB, E.tInt, E.tB, E.t_spec_Tree] }, E.tBs⟩), (false, ⟨none, some 46, .call { callee := .builtin .append, args := #[.tmp 34, .tmp 45], argTypes := #[E.tBs, E.tBs] }, E.tBs⟩), (true, ⟨none, some 11, .assign (.tmp 46), E.tBs⟩)]))) (.reg [ ⟨none, some 47, .binOp .add E.tInt (.tmp 31) (.const (.int .i64 1)) E.tInt, E.tInt⟩, ⟨none, some 31, .move (.tmp 47), E.tInt⟩]))))))) (.seq (.reg [ ⟨none, some 48, .move (.tmp 11), E.tBs⟩, ⟨none, some 8, .assign (.tmp 48), E.tBs⟩]) .ret))))) .skip)) (.seq (.seq (.reg [ ⟨none, some 49, .fieldAddr E.t_spec_Field (.tmp 4) 0, E.tNil⟩, ⟨none, some 50, .load E.tInt (.tmp 49), E.tInt⟩, ⟨none, some 51, .binOp .eql E.tInt (.tmp 50) (.const (.int .i64 10)) E.tInt, E.tB⟩, ⟨none, some 52, .move (.tmp 51), E.tB⟩, ⟨(some (52, true)), some 53, .fieldAddr E.t_spec_Field (.tmp 4) 3, E.tNil⟩, ⟨(some (52, true)), some 54, .load E.tInt (.tmp 53), E.tInt⟩, ⟨(some (52, true)), some 55, .binOp .geq E.tInt (.tmp 54) (.const (.int .i64 0)) E.tInt, E.tB⟩, ⟨none, some 56, .pick (.tmp 52) (.tmp 55) (.const (.bool false)), E.tB⟩]) (.cond 56 (.seq (.seq (.reg [ ⟨none, some 57, .move (.tmp 9), E.tB⟩]) (.cond 57 (.seq (.reg [ ⟨none, some 58, .call { callee := .value (.func E.f_spec_Fixed), args := #[.const (.int .i64 (-1)), .const (.int .i64 1)], argTypes := #[E.tI64, E.tInt] }, E.tBs⟩, ⟨none, some 8, .assign (.tmp 58), E.tBs⟩]) .ret) .skip)) (.seq (.regH [ (true, ⟨none, some 60, .fieldAddr E.t_spec_Field (.tmp 4) 7, E.tNil⟩), (true, ⟨none, some 61, .load E.t_l_spec_Field (.tmp 60), E.t_l_spec_Field⟩), (true, ⟨none, some 62, .move (.tmp 1), E.tInt⟩), (true, ⟨none, some 63, .move (.tmp 2), E.tB⟩), (true, ⟨none, some 64, .load E.t_spec_Tree (.tmp 7), E.t_spec_Tree⟩), (false, ⟨none, some 59, .call { callee := .value (.func E.f_spec_Fixed), args := #[.const (.int .i64 1), .const (.int .i64 1)], argTypes := #[E.tI64, E.tInt] }, E.tBs⟩), (false, ⟨none, some 65, .call { callee := .value (.func E.f_spec_part), args := #[.tmp 61, .tmp 62, .tmp 63, .tmp 64], argTypes := #[E.t_l_spec_Field, E.tInt, E.tB, E.t_spec_Tree] }, E.tBs⟩), (false, ⟨none, some 66, .call { callee := .builtin .append, args := #[.tmp 59, .tmp 65], argTypes := #[E.tBs, E.tBs] }, E.tBs⟩), (true, ⟨none, some 8, .assign (.tmp 66), E.tBs⟩)]) .ret)) .skip)) (.seq (.reg [ ⟨none, some 67, .fieldAddr E.t_spec_Field (.tmp 4) 0, E.tNil⟩, ⟨none, some 68, .load E.tInt (.tmp 67), E.tInt⟩, ⟨none, some 69, .fieldAddr E.t_spec_Field (.tmp 4) 7, E.tNil⟩, ⟨none, some 70, .load E.t_l_spec_Field (.tmp 69), E.t_l_spec_Field⟩, ⟨none, some 71, .move (.tmp 9), E.tB⟩, ⟨none, some 72, .move (.tmp 1), E.tInt⟩, ⟨none, some 73, .move (.tmp 2), E.tB⟩, ⟨none, some 74, .load E.t_spec_Tree (.tmp 7), E.t_spec_Tree⟩, ⟨none, some 75, .call { callee := .value (.func E.f_spec_value), args := #[.tmp 68, .tmp 70, .tmp 71, .tmp 72, .tmp 73, .tmp 74], argTypes := #[E.tInt, E.t_l_spec_Field, E.tB, E.tInt, E.tB, E.t_spec_Tree] }, E.tBs⟩, ⟨none, some 8, .assign (.tmp 75), E.tBs⟩]) .ret)))))
def nt_spec_field : Nat := 76
def rs_spec_field (E : Env) : List Rv := [.t 8]
def ir_spec_value (E : Env) : Ir := (.seq (.reg [ ⟨none, some 11, .box E.t_spec_Tree (.tmp 5), E.tNil⟩, ⟨none, some 12, .assign (.const (.slice none 0 0)), E.tBs⟩]) (.seq (.seq (.reg [ ⟨none, some 16, .move (.tmp 0), E.tInt⟩]) (.block 0 (.seq (.reg [ ⟨none, some 18, .binOp .eql E.tInt (.tmp 16) (.const (.int .i64 0)) E.tInt, E.tB⟩, ⟨none, some 17, .assign (.tmp 18), E.tB⟩]) (.cond 17 (.seq (.reg [ ⟨none, some 19, .fieldAddr E.t_spec_Tree (.tmp 11) 0, E.tNil⟩, ⟨none, some 20, .load E.tI64 (.tmp 19), E.tI64⟩, ⟨none, some 21, .binOp .and E.tI64 (.tmp 20) (.const (.int .i64 1)) E.tI64, E.tI64⟩, ⟨none, some 22, .convert E.tI64 E.tU8 (.tmp 21), E.tU8⟩, ⟨none, some 23, .buildSlice E.tBs 1 #[(0, .tmp 22)], E.tBs⟩, ⟨none, some 12, .assign (.tmp 23), E.tBs⟩]) .ret) (.seq (.reg [ ⟨none, some 25, .binOp .eql E.tInt (.tmp 16) (.const (.int .i64 7)) E.tInt, E.tB⟩, ⟨none, some 24, .assign (.tmp 25), E.tB⟩]) (.cond 24 (.seq (.reg [ ⟨none, some 26, .makeSlice E.tBs (.const (.int .i64 16)) (.const (.int .i64 16)), E.tBs⟩, ⟨none, some 13, .assign (.tmp 26), E.tBs⟩]) (.seq (.reg [ ⟨none, some 27, .move (.tmp 13), E.tBs⟩, ⟨none, some 28, .fieldAddr E.t_spec_Tree (.tmp 11) 1, E.tNil⟩, ⟨none, some 29, .load E.tBs (.tmp 28), E.tBs⟩, ⟨none, some 30, .call { callee := .builtin .copy, args := #[.tmp 27, .tmp 29], argTypes := #[E.tBs, E.tBs] }, E.tInt⟩]) (.seq (.reg [ ⟨none, some 31, .move (.tmp 13), E.tBs⟩, ⟨none, some 12, .assign (.tmp 31), E.tBs⟩]) .ret))) (.seq (.reg [ ⟨none, some 33, .binOp .eql E.tInt (.tmp 16) (.const (.int .i64 8)) E.tInt, E.tB⟩, ⟨none, some 32, .assign (.tmp 33), E.tB⟩]) (.cond 32 (.seq (.reg [ ⟨none, some 34, .fieldAddr E.t_spec_Tree (.tmp 11) 1, E.tNil⟩, ⟨none, some 35, .load E.tBs (.tmp 34), E.tBs⟩, ⟨none, some 36, .call { callee := .value (.func E.f_spec_whole), args := #[.tmp 35], argTypes := #[E.tBs] }, E.tBs⟩, ⟨none, some 14, .assign (.tmp 36), E.tBs⟩]) (.seq (.seq (.reg [ ⟨none, some 37, .move (.tmp 2), E.tB⟩]) (.cond 37 (.reg [ ⟨none, some 14, .assign (.const (.slice none 0 0)), E.tBs⟩]) .skip)) (.seq (.reg [ ⟨none, some 38, .move (.tmp 4), E.tB⟩, ⟨none, some 39, .move (.tmp 2), E.tB⟩, ⟨none, some 40, .move (.tmp 14), E.tBs⟩, ⟨none, some 41, .call { callee := .builtin .len, args := #[.tmp 40], argTypes := #[E.tBs] }, E.tInt⟩, ⟨none, some 42, .call { callee := .value (.func E.f_spec_counted), args := #[.tmp 38, .tmp 39, .tmp 41, .const (.int .i64 2)], argTypes := #[E.tB, E.tB, E.tInt, E.tInt] }, E.tBs⟩, ⟨none, some 43, .move (.tmp 14), E.tBs⟩, ⟨none, some 44, .call { callee := .builtin .append, args := #[.tmp 42, .tmp 43], argTypes := #[E.tBs, E.tBs] }, E.tBs⟩, ⟨none, some 12, .assign (.tmp 44), E.tBs⟩]) .ret))) (.seq (.reg [ ⟨none, some 46, .binOp .eql E.tInt (.tmp 16) (.const (.int .i64 9)) E.tInt, E.tB⟩, ⟨none, some 45, .assign (.tmp 46), E.tB⟩]) (.cond 45 (.seq (.reg [ ⟨none, some 47, .fieldAddr E.t_spec_Tree (.tmp 11) 1, E.tNil⟩, ⟨none, some 48, .load E.tBs (.tmp 47), E.tBs⟩, ⟨none, some 49, .call { callee := .value (.func E.f_spec_whole), args := #[.tmp 48], argTypes := #[E.tBs] }, E.tBs⟩, ⟨none, some 15, .assign (.tmp 49), E.tBs⟩]) (.seq (.seq (.reg [ ⟨none, some 50, .move (.tmp 2), E.tB⟩]) (.cond 50 (.reg [ ⟨none, some 15, .assign (.const (.slice none 0 0)), E.tBs⟩]) .skip)) (.seq (.reg [ ⟨none, some 51, .move (.tmp 4), E.tB⟩, ⟨none, some 52, .move (.tmp 2), E.tB⟩, ⟨none, some 53, .move (.tmp 15), E.tBs⟩, ⟨none, some 54, .call { callee := .builtin .len, args := #[.tmp 53], argTypes := #[E.tBs] }, E.tInt⟩, ⟨none, some 55, .call { callee := .value (.func E.f_spec_counted), args := #[.tmp 51, .tmp 52, .tmp 54, .const (.int .i64 4)], argTypes := #[E.tB, E.tB, E.tInt, E.tInt] }, E.tBs⟩, ⟨none, some 56, .move (.tmp 15), E.tBs⟩, ⟨none, some 57, .call { callee := .builtin .append, args := #[.tmp 55, .tmp 56], argTypes := #[E.tBs, E.tBs] }, E.tBs⟩, ⟨none, some 12, .assign (.tmp 57), E.tBs⟩]) .ret))) (.seq (.reg [ ⟨none, some 59, .binOp .eql E.tInt (.tmp 16) (.const (.int .i64 10)) E.tInt, E.tB⟩, ⟨none, some 58, .assign (.tmp 59), E.tB⟩]) (.cond 58 (.seq (.reg [ ⟨none, some 60, .move (.tmp 1), E.t_l_spec_Field⟩, ⟨none, some 61, .move (.tmp 3), E.tInt⟩, ⟨none, some 62, .move (.tmp 4), E.tB⟩, ⟨none, some 63, .load E.t_spec_Tree (.tmp 11), E.t_spec_Tree⟩, ⟨none, some 64, .call { callee := .value (.func E.f_spec_part), args := #[.tmp 60, .tmp 61, .tmp 62, .tmp 63], argTypes := #[E.t_l_spec_Field, E.tInt, E.tB, E.t_spec_Tree] }, E.tBs⟩, ⟨none, some 12, .assign (.tmp 64), E.tBs⟩]) .ret) .skip)))))))))))) (.seq (.regH [ (true, ⟨none, some 65, .fieldAddr E.t_spec_Tree (.tmp 11) 0, E.tNil⟩), (true, ⟨none, some 66, .load E.tI64 (.tmp 65), E.tI64⟩), (true, ⟨none, some 67, .move (.tmp 0), E.tInt⟩), (false, ⟨none, some 68, .call { callee := .value (.func E.f_spec_width), args := #[.tmp 67], argTypes := #[E.tInt] }, E.tInt⟩), (false, ⟨none, some 69, .call { callee := .value (.func E.f_spec_Fixed), args := #[.tmp 66, .tmp 68], argTypes := #[E.tI64, E.tInt] }, E.tBs⟩), (true, ⟨none, some 12, .assign (.tmp 69), E.tBs⟩)]) .ret)))
def nt_spec_value : Nat := 70
def rs_spec_value (E : Env) : List Rv := [.t 12]
def ir_spec_at (E : Env) : Ir := (.seq (.reg [ ⟨none, some 2, .box E.t_spec_Tree (.tmp 0), E.tNil⟩, ⟨none, some 4, .alloc E.t_spec_Tree, E.tNil⟩]) (.seq (.seq (.reg [ ⟨none, some 5, .move (.tmp 1), E.tInt⟩, ⟨none, some 6, .fieldAddr E.t_spec_Tree (.tmp 2) 3, E.tNil⟩, ⟨none, some 7, .load E.t_l_spec_Tree (.tmp 6), E.t_l_spec_Tree⟩, ⟨none, some 8, .call { callee := .builtin .len, args := #[.tmp 7], argTypes := #[E.t_l_spec_Tree] }, E.tInt⟩, ⟨none, some 9, .binOp .lss E.tInt (.tmp 5) (.tmp 8) E.tInt, E.tB⟩]) (.cond 9 (.seq (.reg [ ⟨none, some 10, .fieldAddr E.t_spec_Tree (.tmp 2) 3, E.tNil⟩, ⟨none, some 11, .load E.t_l_spec_Tree (.tmp 10), E.t_l_spec_Tree⟩, ⟨none, some 12, .move (.tmp 1), E.tInt⟩, ⟨none, some 13, .indexAddr E.t_l_spec_Tree (.tmp 11) (.tmp 12), E.tNil⟩, ⟨none, some 14, .load E.t_spec_Tree (.tmp 13), E.t_spec_Tree⟩, ⟨none, none, .store E.t_spec_Tree (.tmp 4) (.tmp 14), E.tNil⟩]) .ret) .skip)) (.seq (.reg [ ⟨none, some 15, .build E.t_spec_Tree #[], E.t_spec_Tree⟩, ⟨none, none, .store E.t_spec_Tree (.tmp 4) (.tmp 15), E.tNil⟩]) .ret)))
def nt_spec_at : Nat := 16
def rs_spec_at (E : Env) : List Rv := [.c 4 E.t_spec_Tree]
def ir_spec_known (E : Env) : Ir := (.seq (.reg [ ⟨none, some 2, .assign (.const (.int .u32 0)), E.tU32⟩]) (.seq (.reg [ ⟨none, some 3, .assign (.const (.int .u32 0)), E.tU32⟩]) (.seq (.seq (.reg [ ⟨none, some 6, .move (.tmp 0), E.t_l_spec_Field⟩, ⟨none, some 7, .call { callee := .builtin .len, args := #[.tmp 6], argTypes := #[E.t_l_spec_Field] }, E.tInt⟩, ⟨none, some 8, .move (.const (.int .i64 0)), E.tInt⟩]) (.block 0 (.loop (.seq (.reg [ ⟨none, some 9, .binOp .lss E.tInt (.tmp 8) (.tmp 7) E.tInt, E.tNil⟩]) (.seq (.cond 9 .skip (.exit 0)) (.seq (.block 1 (.seq (.reg [ ⟨none, some 10, .indexAddr E.t_l_spec_Field (.tmp 6) (.tmp 8), E.tNil⟩, ⟨none, some 11, .load E.t_spec_Field (.tmp 10), E.t_spec_Field⟩, ⟨none, some 5, .alloc E.t_spec_Field, E.tNil⟩, ⟨none, none, .store E.t_spec_Field (.tmp 5) (.tmp 11), E.tNil⟩]) (.seq (.reg [ ⟨none, some 12, .fieldAddr E.t_spec_Field (.tmp 5) 4, E.tNil⟩, ⟨none, some 13, .load E.tInt (.tmp 12), E.tInt⟩, ⟨none, some 14, .binOp .geq E.tInt (.tmp 13) (.const (.int .i64 0)) E.tInt, E.tB⟩]) (.cond 14 (.reg [ ⟨none, some 15, .move (.tmp 3), E.tU32⟩, ⟨none, some 16, .fieldAddr E.t_spec_Field (.tmp 5) 4, E.tNil⟩, ⟨none, some 17, .load E.tInt (.tmp 16), E.tInt⟩, ⟨none, some 18, .convert E.tInt E.tU32 (.tmp 17), E.tU32⟩, ⟨none, some 19, .binOp .add E.tU32 (.tmp 18) (.const (.int .u32 1)) E.tU32, E.tU32⟩, ⟨none, some 20, .call { callee := .builtin .max, args := #[.tmp 15, .tmp 19], argTypes := #[E.tU32, E.tU32] }, E.tU32⟩, ⟨none, some 3, .assign (.tmp 20), E.tU32⟩]) .skip)))) (.reg [ ⟨none, some 21, .binOp .add E.tInt (.tmp 8) (.const (.int .i64 1)) E.tInt, E.tInt⟩, ⟨none, some 8, .move (.tmp 21), E.tInt⟩]))))))) (.seq (.reg [ ⟨none, some 22, .move (.tmp 3), E.tU32⟩, ⟨none, some 2, .assign (.tmp 22), E.tU32⟩]) .ret))))
def nt_spec_known : Nat := 23
def rs_spec_known (E : Env) : List Rv := [.t 2]
def ir_spec_usual (E : Env) : Ir := (.seq (.reg [ ⟨none, some 2, .box E.t_spec_Field (.tmp 0), E.tNil⟩, ⟨none, some 3, .box E.t_spec_Tree (.tmp 1), E.tNil⟩, ⟨none, some 4, .assign (.const (.bool false)), E.tB⟩]) (.seq (.seq (.reg [ ⟨none, some 9, .fieldAddr E.t_spec_Field (.tmp 2) 0, E.tNil⟩, ⟨none, some 10, .load E.tInt (.tmp 9), E.tInt⟩]) (.block 0 (.seq (.reg [ ⟨none, some 12, .binOp .eql E.tInt (.tmp 10) (.const (.int .i64 0)) E.tInt, E.tB⟩, ⟨none, some 11, .assign (.tmp 12), E.tB⟩]) (.cond 11 (.seq (.reg [ ⟨none, some 13, .fieldAddr E.t_spec_Tree (.tmp 3) 0, E.tNil⟩, ⟨none, some 14, .load E.tI64 (.tmp 13), E.tI64⟩, ⟨none, some 15, .binOp .and E.tI64 (.tmp 14) (.const (.int .i64 1)) E.tI64, E.tI64⟩, ⟨none, some 16, .fieldAddr E.t_spec_Field (.tmp 2) 5, E.tNil⟩, ⟨none, some 17, .load E.tI64 (.tmp 16), E.tI64⟩, ⟨none, some 18, .binOp .eql E.tI64 (.tmp 15) (.tmp 17) E.tI64, E.tB⟩, ⟨none, some 4, .assign (.tmp 18), E.tB⟩]) .ret) (.seq (.reg [ ⟨none, some 20, .binOp .eql E.tInt (.tmp 10) (.const (.int .i64 7)) E.tInt, E.tB⟩, ⟨none, some 19, .assign (.tmp 20), E.tB⟩]) (.cond 19 (.seq (.seq (.reg [ ⟨none, some 21, .fieldAddr E.t_spec_Tree (.tmp 3) 1, E.tNil⟩, ⟨none, some 22, .load E.tBs (.tmp 21), E.tBs⟩, ⟨none, some 23, .call { callee := .builtin .len, args := #[.tmp 22], argTypes := #[E.tBs] }, E.tInt⟩, ⟨none, some 24, .move (.const (.int .i64 0)), E.tInt⟩]) (.block 1 (.loop (.seq (.reg [ ⟨none, some 25, .binOp .lss E.tInt (.tmp 24) (.tmp 23) E.tInt, E.tNil⟩]) (.seq (.cond 25 .skip (.exit 1)) (.seq (.block 2 (.seq (.reg [ ⟨none, some 26, .move (.tmp 24), E.tInt⟩, ⟨none, some 27, .indexAddr E.tBs (.tmp 22) (.tmp 24), E.tNil⟩, ⟨none, some 28, .load E.tU8 (.tmp 27), E.tU8⟩, ⟨none, some 5, .assign (.tmp 26), E.tInt⟩, ⟨none, some 6, .assign (.tmp 28), E.tU8⟩]) (.seq (.reg [ ⟨none, some 29, .move (.tmp 5), E.tInt⟩, ⟨none, some 30, .binOp .lss E.tInt (.tmp 29) (.const (.int .i64 16)) E.tInt, E.tB⟩, ⟨none, some 31, .move (.tmp 30), E.tB⟩, ⟨(some (31, true)), some 32, .move (.tmp 6), E.tU8⟩, ⟨(some (31, true)), some 33, .binOp .neq E.tU8 (.tmp 32) (.const (.int .u8 0)) E.tU8, E.tB⟩, ⟨none, some 34, .pick (.tmp 31) (.tmp 33) (.const (.bool false)), E.tB⟩]) (.cond 34 (.seq (.reg [ ⟨none, some 4, .assign (.const (.bool false)), E.tB⟩]) .ret) .skip)))) (.reg [ ⟨none, some 35, .binOp .add E.tInt (.tmp 24) (.const (.int .i64 1)) E.tInt, E.tInt⟩, ⟨none, some 24, .move (.tmp 35), E.tInt⟩]))))))) (.seq (.reg [ ⟨none, some 4, .assign (.const (.bool true)), E.tB⟩]) .ret)) (.seq (.seq (.reg [ ⟨none, some 37, .binOp .eql E.tInt (.tmp 10) (.const (.int .i64 8)) E.tInt, E.tB⟩, ⟨none, some 36, .assign (.tmp 37), E.tB⟩]) (.cond 36 .skip (.reg [ ⟨none, some 38, .binOp .eql E.tInt (.tmp 10) (.const (.int .i64 9)) E.tInt, E.tB⟩, ⟨none, some 36, .assign (.tmp 38), E.tB⟩]))) (.cond 36 (.seq (.seq (.reg [ ⟨none, some 39, .fieldAddr E.t_spec_Field (.tmp 2) 3, E.tNil⟩, ⟨none, some 40, .load E.tInt (.tmp 39), E.tInt⟩, ⟨none, some 41, .binOp .geq E.tInt (.tmp 40) (.const (.int .i64 0)) E.tInt, E.tB⟩]) (.cond 41 (.seq (.reg [ ⟨none, some 42, .fieldAddr E.t_spec_Tree (.tmp 3) 2, E.tNil⟩, ⟨none, some 43, .load E.tB (.tmp 42), E.tB⟩, ⟨none, some 4, .assign (.tmp 43), E.tB⟩]) .ret) .skip)) (.seq (.reg [ ⟨none, some 44, .fieldAddr E.t_spec_Tree (.tmp 3) 1, E.tNil⟩, ⟨none, some 45, .load E.tBs (.tmp 44), E.tBs⟩, ⟨none, some 46, .call { callee := .builtin .len, args := #[.tmp 45], argTypes := #[E.tBs] }, E.tInt⟩, ⟨none, some 47, .binOp .eql E.tInt (.tmp 46) (.const (.int .i64 0)) E.tInt, E.tB⟩, ⟨none, some 4, .assign (.tmp 47), E.tB⟩]) .ret)) (.seq (.reg [ ⟨none, some 49, .binOp .eql E.tInt (.tmp 10) (.const (.int .i64 11)) E.tInt, E.tB⟩, ⟨none, some 48, .assign (.tmp 49), E.tB⟩]) (.cond 48 (.seq (.reg [ ⟨none, some 50, .fieldAddr E.t_spec_Tree (.tmp 3) 3, E.tNil⟩, ⟨none, some 51, .load E.t_l_spec_Tree (.tmp 50), E.t_l_spec_Tree⟩, ⟨none, some 52, .call { callee := .builtin .len, args := #[.tmp 51], argTypes := #[E.t_l_spec_Tree] }, E.tInt⟩, ⟨none, some 53, .binOp .eql E.tInt (.tmp 52) (.const (.int .i64 0)) E.tInt, E.tB⟩, ⟨none, some 4, .assign (.tmp 53), E.tB⟩]) .ret) (.seq (.reg [ ⟨none, some 55, .binOp .eql E.tInt (.tmp 10) (.const (.int .i64 10)) E.tInt, E.tB⟩, ⟨none, some 54, .assign (.tmp 55), E.tB⟩]) (.cond 54 (.seq (.seq (.reg [ ⟨none, some 56, .fieldAddr E.t_spec_Field (.tmp 2) 7, E.tNil⟩, ⟨none, some 57, .load E.t_l_spec_Field (.tmp 56), E.t_l_spec_Field⟩, ⟨none, some 58, .call { callee := .builtin .len, args := #[.tmp 57], argTypes := #[E.t_l_spec_Field] }, E.tInt⟩, ⟨none, some 59, .move (.const (.int .i64 0)), E.tInt⟩]) (.block 3 (.loop (.seq (.reg [ ⟨none, some 60, .binOp .lss E.tInt (.tmp 59) (.tmp 58) E.tInt, E.tNil⟩]) (.seq (.cond 60 .skip (.exit 3)) (.seq (.block 4 (.seq (.reg [ ⟨none, some 61, .move (.tmp 59), E.tInt⟩, ⟨none, some 62, .indexAddr E.t_l_spec_Field (.tmp 57) (.tmp 59), E.tNil⟩, ⟨none, some 63, .load E.t_spec_Field (.tmp 62), E.t_spec_Field⟩, ⟨none, some 8, .alloc E.t_spec_Field, E.tNil⟩, ⟨none, some 7, .assign (.tmp 61), E.tInt⟩, ⟨none, none, .store E.t_spec_Field (.tmp 8) (.tmp 63), E.tNil⟩]) (.seq (.regH [ (true, ⟨none, some 64, .load E.t_spec_Field (.tmp 8), E.t_spec_Field⟩), (true, ⟨none, some 65, .load E.t_spec_Tree (.tmp 3), E.t_spec_Tree⟩), (true, ⟨none, some 66, .move (.tmp 7), E.tInt⟩), (false, ⟨none, some 67, .call { callee := .value (.func E.f_spec_at), args := #[.tmp 65, .tmp 66], argTypes := #[E.t_spec_Tree, E.tInt] }, E.t_spec_Tree⟩), (false, ⟨none, some 68, .call { callee := .value (.func E.f_spec_usual), args := #[.tmp 64, .tmp 67], argTypes := #[E.t_spec_Field, E.t_spec_Tree] }, E.tB⟩), (true, ⟨none, some 69, .unOp .not E.tB (.tmp 68), E.tB⟩)]) (.cond 69 (.seq (.reg [ ⟨none, some 4, .assign (.const (.bool false)), E.tB⟩]) .ret) .skip)))) (.reg [ ⟨none, some 70, .binOp .add E.tInt (.tmp 59) (.const (.int .i64 1)) E.tInt, E.tInt⟩, ⟨none, some 59, .move (.tmp 70), E.tInt⟩]))))))) (.seq (.reg [ ⟨none, some 71, .fieldAddr E.t_spec_Field (.tmp 2) 7, E.tNil⟩, ⟨none, some 72, .load E.t_l_spec_Field (.tmp 71), E.t_l_spec_Field⟩, ⟨none, some 73, .fieldAddr E.t_spec_Tree (.tmp 3) 4, E.tNil⟩, ⟨none, some 74, .load E.t_l_spec_Tag (.tmp 73), E.t_l_spec_Tag⟩, ⟨none, some 75, .call { callee := .value (.func E.f_spec_unknown), args := #[.tmp 72, .tmp 74], argTypes := #[E.t_l_spec_Field, E.t_l_spec_Tag] }, E.t_l_spec_Tag⟩, ⟨none, some 76, .call { callee := .builtin .len, args := #[.tmp 75], argTypes := #[E.t_l_spec_Tag] }, E.tInt⟩, ⟨none, some 77, .binOp .eql E.tInt (.tmp 76) (.const (.int .i64 0)) E.tInt, E.tB⟩, ⟨none, some 4, .assign (.tmp 77), E.tB⟩]) .ret)) .skip)))))))))))) (.seq (.regH [ (true, ⟨none, some 78, .fieldAddr E.t_spec_Tree (.tmp 3) 0, E.tNil⟩), (true, ⟨none, some 79, .load E.tI64 (.tmp 78), E.tI64⟩), (true, ⟨none, some 80, .fieldAddr E.t_spec_Field (.tmp 2) 0, E.tNil⟩), (true, ⟨none, some 81, .load E.tInt (.tmp 80), E.tInt⟩), (true, ⟨none, some 84, .fieldAddr E.t_spec_Field (.tmp 2) 5, E.tNil⟩), (true, ⟨none, some 85, .load E.tI64 (.tmp 84), E.tI64⟩), (true, ⟨none, some 86, .fieldAddr E.t_spec_Field (.tmp 2) 0, E.tNil⟩), (true, ⟨none, some 87, .load E.tInt (.tmp 86), E.tInt⟩), (false, ⟨none, some 82, .call { callee := .value (.func E.f_spec_width), args := #[.tmp 81], argTypes := #[E.tInt] }, E.tInt⟩), (false, ⟨none, some 83, .call { callee := .value (.func E.f_spec_Fixed), args := #[.tmp 79, .tmp 82], argTypes := #[E.tI64, E.tInt] }, E.tBs⟩), (false, ⟨none, some 88, .call { callee := .value (.func E.f_spec_width), args := #[.tmp 87], argTypes := #[E.tInt] }, E.tInt⟩), (false, ⟨none, some 89, .call { callee := .value (.func E.f_spec_Fixed), args := #[.tmp 85, .tmp 88], argTypes := #[E.tI64, E.tInt] }, E.tBs⟩), (false, ⟨none, some 90, .call { callee := .value (.func E.f_spec_Same), args := #[.tmp 83, .tmp 89], argTypes := #[E.tBs, E.tBs] }, E.tB⟩), (true, ⟨none, some 4, .assign (.tmp 90), E.tB⟩)]) .ret)))
def nt_spec_usual : Nat := 91
def rs_spec_usual (E : Env) : List Rv := [.t 4]
def ir_spec_Uvarint (E : Env) : Ir := (.seq (.reg [ ⟨none, some 2, .assign (.const (.slice none 0 0)), E.tBs⟩]) (.seq (.reg [ ⟨none, some 3, .assign (.const (.slice none 0 0)), E.tBs⟩]) (.seq (.block 0 (.loop (.seq (.seq (.reg [ ⟨none, some 4, .move (.tmp 0), E.tU64⟩, ⟨none, some 5, .binOp .gtr E.tU64 (.tmp 4) (.const (.int .u64 127)) E.tU64, E.tB⟩]) (.cond 5 .skip (.exit 0))) (.block 1 (.seq (.reg [ ⟨none, some 6, .move (.tmp 3), E.tBs⟩, ⟨none, some 7, .move (.tmp 0), E.tU64⟩, ⟨none, some 8, .binOp .and E.tU64 (.tmp 7) (.const (.int .u64 127)) E.tU64, E.tU64⟩, ⟨none, some 9, .convert E.tU64 E.tU8 (.tmp 8), E.tU8⟩, ⟨none, some 10, .binOp .or E.tU8 (.tmp 9) (.const (.int .u8 128)) E.tU8, E.tU8⟩, ⟨none, some 11, .buildSlice E.tBs 1 #[(0, .tmp 10)], E.tBs⟩, ⟨none, some 12, .call { callee := .builtin .append, args := #[.tmp 6, .tmp 11], argTypes := #[E.tBs, E.tBs] }, E.tBs⟩, ⟨none, some 3, .assign (.tmp 12), E.tBs⟩]) (.reg [ ⟨none, some 13, .move (.tmp 0), E.tU64⟩, ⟨none, some 14, .binOp .shr E.tU64 (.tmp 13) (.const (.int .u64 7)) E.tUint, E.tU64⟩, ⟨none, some 0, .assign (.tmp 14), E.tU64⟩])))))) (.seq (.reg [ ⟨none, some 15, .move (.tmp 3), E.tBs⟩, ⟨none, some 16, .move (.tmp 0), E.tU64⟩, ⟨none, some 17, .convert E.tU64 E.tU8 (.tmp 16), E.tU8⟩, ⟨none, some 18, .buildSlice E.tBs 1 #[(0, .tmp 17)], E.tBs⟩, ⟨none, some 19, .call { callee := .builtin .append, args := #[.tmp 15, .tmp 18], argTypes := #[E.tBs, E.tBs] }, E.tBs⟩, ⟨none, some 2, .assign (.tmp 19), E.tBs⟩]) .ret))))
def nt_spec_Uvarint : Nat := 20
def rs_spec_Uvarint (E : Env) : List Rv := [.t 2]
def ir_spec_unknown (E : Env) : Ir := (.seq (.reg [ ⟨none, some 4, .assign (.const (.slice none 0 0)), E.t_l_spec_Tag⟩]) (.seq (.reg [ ⟨none, some 11, .move (.tmp 0), E.t_l_spec_Field⟩, ⟨none, some 12, .call { callee := .value (.func E.f_spec_known), args := #[.tmp 11], argTypes := #[E.t_l_spec_Field] }, E.tU32⟩, ⟨none, some 5, .assign (.tmp 12), E.tU32⟩]) (.seq (.reg [ ⟨none, some 6, .assign (.const (.slice none 0 0)), E.t_l_spec_Tag⟩]) (.seq (.seq (.reg [ ⟨none, some 13, .move (.tmp 1), E.t_l_spec_Tag⟩, ⟨none, some 14, .move (.tmp 1), E.t_l_spec_Tag⟩, ⟨none, some 15, .call { callee := .builtin .len, args := #[.tmp 14], argTypes := #[E.t_l_spec_Tag] }, E.tInt⟩, ⟨none, some 16, .call { callee := .builtin .min, args := #[.tmp 15, .const (.int .i64 32767)], argTypes := #[E.tInt, E.tInt] }, E.tInt⟩, ⟨none, some 17, .slice E.t_l_spec_Tag (.tmp 13) none (some (.tmp 16)) none, E.t_l_spec_Tag⟩, ⟨none, some 18, .call { callee := .builtin .len, args := #[.tmp 17], argTypes := #[E.t_l_spec_Tag] }, E.tInt⟩, ⟨none, some 19, .move (.const (.int .i64 0)), E.tInt⟩]) (.block 0 (.loop (.seq (.reg [ ⟨none, some 20, .binOp .lss E.tInt (.tmp 19) (.tmp 18) E.tInt, E.tNil⟩]) (.seq (.cond 20 .skip (.exit 0)) (.seq (.block 1 (.seq (.reg [ ⟨none, some 21, .indexAddr E.t_l_spec_Tag (.tmp 17) (.tmp 19), E.tNil⟩, ⟨none, some 22, .load E.t_spec_Tag (.tmp 21), E.t_spec_Tag⟩, ⟨none, some 8, .alloc E.t_spec_Tag, E.tNil⟩, ⟨none, none, .store E.t_spec_Tag (.tmp 8) (.tmp 22), E.tNil⟩]) (.seq (.reg [ ⟨none, some 9, .assign (.const (.int .i64 0)), E.tInt⟩]) (.seq (.block 2 (.loop (.seq (.seq (.regH [ (true, ⟨none, some 23, .move (.tmp 9), E.tInt⟩), (true, ⟨none, some 24, .move (.tmp 6), E.t_l_spec_Tag⟩), (true, ⟨none, some 25, .call { callee := .builtin .len, args := #[.tmp 24], argTypes := #[E.t_l_spec_Tag] }, E.tInt⟩), (true, ⟨none, some 26, .binOp .lss E.tInt (.tmp 23) (.tmp 25) E.tInt, E.tB⟩), (true, ⟨none, some 27, .move (.tmp 26), E.tB⟩), (true, ⟨(some (27, true)), some 28, .move (.tmp 6), E.t_l_spec_Tag⟩), (true, ⟨(some (27, true)), some 29, .move (.tmp 9), E.tInt⟩), (true, ⟨(some (27, true)), some 30, .indexAddr E.t_l_spec_Tag (.tmp 28) (.tmp 29), E.tNil⟩), (true, ⟨(some (27, true)), some 31, .fieldAddr E.t_spec_Tag (.tmp 30) 0, E.tNil⟩), (true, ⟨(some (27, true)), some 32, .load E.tU32 (.tmp 31), E.tU32⟩), (true, ⟨(some (27, true)), some 33, .fieldAddr E.t_spec_Tag (.tmp 8) 0, E.tNil⟩), (true, ⟨(some (27, true)), some 34, .load E.tU32 (.tmp 33), E.tU32⟩), (true, ⟨(some (27, true)), some 35, .binOp .lss E.tU32 (.tmp 32) (.tmp 34) E.tU32, E.tB⟩), (true, ⟨none, some 36, .pick (.tmp 27) (.tmp 35) (.const (.bool false)), E.tB⟩)]) (.cond 36 .skip (.exit 2))) (.block 3 (.reg [ ⟨none, some 37, .move (.tmp 9), E.tInt⟩, ⟨none, some 38, .binOp .add E.tInt (.tmp 37) (.const (.int .i64 1)) E.tInt, E.tInt⟩, ⟨none, some 9, .assign (.tmp 38), E.tInt⟩]))))) (.seq (.seq (.regH [ (true, ⟨none, some 39, .fieldAddr E.t_spec_Tag (.tmp 8) 0, E.tNil⟩), (true, ⟨none, some 40, .load E.tU32 (.tmp 39), E.tU32⟩), (true, ⟨none, some 41, .move (.tmp 5), E.tU32⟩), (true, ⟨none, some 42, .binOp .lss E.tU32 (.tmp 40) (.tmp 41) E.tU32, E.tB⟩), (true, ⟨none, some 43, .move (.tmp 42), E.tB⟩), (true, ⟨(some (43, false)), some 44, .move (.tmp 9), E.tInt⟩), (true, ⟨(some (43, false)), some 45, .move (.tmp 6), E.t_l_spec_Tag⟩), (true, ⟨(some (43, false)), some 46, .call { callee := .builtin .len, args := #[.tmp 45], argTypes := #[E.t_l_spec_Tag] }, E.tInt⟩), (true, ⟨(some (43, false)), some 47, .binOp .lss E.tInt (.tmp 44) (.tmp 46) E.tInt, E.tB⟩), (true, ⟨(some (43, false)), some 48, .move (.tmp 47), E.tB⟩), (true, ⟨(some (48, true)), some 49, .move (.tmp 6), E.t_l_spec_Tag⟩), (true, ⟨(some (48, true)), some 50, .move (.tmp 9), E.tInt⟩), (true, ⟨(some (48, true)), some 51, .indexAddr E.t_l_spec_Tag (.tmp 49) (.tmp 50), E.tNil⟩), (true, ⟨(some (48, true)), some 52, .fieldAddr E.t_spec_Tag (.tmp 51) 0, E.tNil⟩), (true, ⟨(some (48, true)), some 53, .load E.tU32 (.tmp 52), E.tU32⟩), (true, ⟨(some (48, true)), some 54, .fieldAddr E.t_spec_Tag (.tmp 8) 0, E.tNil⟩), (true, ⟨(some (48, true)), some 55, .load E.tU32 (.tmp 54), E.tU32⟩), (true, ⟨(some (48, true)), some 56, .binOp .eql E.tU32 (.tmp 53) (.tmp 55) E.tU32, E.tB⟩), (true, ⟨(some (43, false)), some 57, .pick (.tmp 48) (.tmp 56) (.const (.bool false)), E.tB⟩), (true, ⟨none, some 58, .pick (.tmp 43) (.const (.bool true)) (.tmp 57), E.tB⟩)]) (.cond 58 (.exit 1) .skip)) (.seq (.reg [ ⟨none, some 59, .move (.tmp 6), E.t_l_spec_Tag⟩, ⟨none, some 60, .build E.t_spec_Tag #[], E.t_spec_Tag⟩, ⟨none, some 61, .buildSlice E.t_l_spec_Tag 1 #[(0, .tmp 60)], E.t_l_spec_Tag⟩, ⟨none, some 62, .call { callee := .builtin .append, args := #[.tmp 59, .tmp 61], argTypes := #[E.t_l_spec_Tag, E.t_l_spec_Tag] }, E.t_l_spec_Tag⟩, ⟨none, some 6, .assign (.tmp 62), E.t_l_spec_Tag⟩]) (.seq (.seq (.reg [ ⟨none, some 63, .move (.tmp 6), E.t_l_spec_Tag⟩, ⟨none, some 64, .call { callee := .builtin .len, args := #[.tmp 63], argTypes := #[E.t_l_spec_Tag] }, E.tInt⟩, ⟨none, some 65, .binOp .sub E.tInt (.tmp 64) (.const (.int .i64 1)) E.tInt, E.tInt⟩, ⟨none, some 10, .assign (.tmp 65), E.tInt⟩]) (.block 4 (.loop (.seq (.seq (.reg [ ⟨none, some 66, .move (.tmp 10), E.tInt⟩, ⟨none, some 67, .move (.tmp 9), E.tInt⟩, ⟨none, some 68, .binOp .gtr E.tInt (.tmp 66) (.tmp 67) E.tInt, E.tB⟩]) (.cond 68 .skip (.exit 4))) (.seq (.block 5 (.reg [ ⟨none, some 71, .move (.tmp 6), E.t_l_spec_Tag⟩, ⟨none, some 72, .move (.tmp 10), E.tInt⟩, ⟨none, some 73, .move (.tmp 6), E.t_l_spec_Tag⟩, ⟨none, some 74, .move (.tmp 10), E.tInt⟩, ⟨none, some 75, .binOp .sub E.tInt (.tmp 74) (.const (.int .i64 1)) E.tInt, E.tInt⟩, ⟨none, some 76, .indexAddr E.t_l_spec_Tag (.tmp 73) (.tmp 75), E.tNil⟩, ⟨none, some 77, .load E.t_spec_Tag (.tmp 76), E.t_spec_Tag⟩, ⟨none, some 78, .indexAddr E.t_l_spec_Tag (.tmp 71) (.tmp 72), E.tNil⟩, ⟨none, none, .store E.t_spec_Tag (.tmp 78) (.tmp 77), E.tNil⟩])) (.reg [ ⟨none, some 69, .move (.tmp 10), E.tInt⟩, ⟨none, some 70, .binOp .sub E.tInt (.tmp 69) (.const (.int .i64 1)) E.tInt, E.tInt⟩, ⟨none, some 10, .assign (.tmp 70), E.tInt⟩])))))) (.reg [ ⟨none, some 79, .move (.tmp 6), E.t_l_spec_Tag⟩, ⟨none, some 80, .move (.tmp 9), E.tInt⟩, ⟨none, some 81, .load E.t_spec_Tag (.tmp 8), E.t_spec_Tag⟩, ⟨none, some 82, .indexAddr E.t_l_spec_Tag (.tmp 79) (.tmp 80), E.tNil⟩, ⟨none, none, .store E.t_spec_Tag (.tmp 82) (.tmp 81), E.tNil⟩])))))))) (.reg [ ⟨none, some 83, .binOp .add E.tInt (.tmp 19) (.const (.int .i64 1)) E.tInt, E.tInt⟩, ⟨none, some 19, .move (.tmp 83), E.tInt⟩]))))))) (.seq (.reg [ ⟨none, some 84, .move (.tmp 6), E.t_l_spec_Tag⟩, ⟨none, some 4, .assign (.tmp 84), E.t_l_spec_Tag⟩]) .ret)))))
def nt_spec_unknown : Nat := 85
def rs_spec_unknown (E : Env) : List Rv := [.t 4]
def ir_spec_whole (E : Env) : Ir := (.seq (.reg [ ⟨none, some 2, .assign (.const (.slice none 0 0)), E.tBs⟩]) (.seq (.reg [ ⟨none, some 3, .move (.tmp 0), E.tBs⟩, ⟨none, some 4, .move (.tmp 0), E.tBs⟩, ⟨none, some 5, .call { callee := .builtin .len, args := #[.tmp 4], argTypes := #[E.tBs] }, E.tInt⟩, ⟨none, some 6, .call { callee := .builtin .min, args := #[.tmp 5, .const (.int .i64 32767)], argTypes := #[E.tInt, E.tInt] }, E.tInt⟩, ⟨none, some 7, .slice E.tBs (.tmp 3) none (some (.tmp 6)) none, E.tBs⟩, ⟨none, some 2, .assign (.tmp 7), E.tBs⟩]) .ret))
def nt_spec_whole : Nat := 8
def rs_spec_whole (E : Env) : List Rv := [.t 2]
def ir_spec_things (E : Env) : Ir := (.seq (.reg [ ⟨none, some 2, .assign (.const (.slice none 0 0)), E.t_l_spec_Tree⟩]) (.seq (.reg [ ⟨none, some 3, .move (.tmp 0), E.t_l_spec_Tree⟩, ⟨none, some 4, .move (.tmp 0), E.t_l_spec_Tree⟩, ⟨none, some 5, .call { callee := .builtin .len, args := #[.tmp 4], argTypes := #[E.t_l_spec_Tree] }, E.tInt⟩, ⟨none, some 6, .call { callee := .builtin .min, args := #[.tmp 5, .const (.int .i64 32767)], argTypes := #[E.tInt, E.tInt] }, E.tInt⟩, ⟨none, some 7, .slice E.t_l_spec_Tree (.tmp 3) none (some (.tmp 6)) none, E.t_l_spec_Tree⟩, ⟨none, some 2, .assign (.tmp 7), E.t_l_spec_Tree⟩]) .ret))
def nt_spec_things : Nat := 8
def rs_spec_things (E : Env) : List Rv := [.t 2]
def ir_spec_counted (E : Env) : Ir := (.seq (.reg [ ⟨none, some 8, .assign (.const (.slice none 0 0)), E.tBs⟩]) (.seq (.block 0 (.seq (.reg [ ⟨none, some 10, .move (.tmp 0), E.tB⟩, ⟨none, some 11, .move (.tmp 10), E.tB⟩, ⟨(some (11, true)), some 12, .move (.tmp 1), E.tB⟩, ⟨none, some 13, .pick (.tmp 11) (.tmp 12) (.const (.bool false)), E.tB⟩, ⟨none, some 9, .assign (.tmp 13), E.tB⟩]) (.cond 9 (.seq (.reg [ ⟨none, some 14, .buildSlice E.tBs 1 #[(0, .const (.int .u8 0))], E.tBs⟩, ⟨none, some 8, .assign (.tmp 14), E.tBs⟩]) .ret) (.seq (.reg [ ⟨none, some 16, .move (.tmp 0), E.tB⟩, ⟨none, some 15, .assign (.tmp 16), E.tB⟩]) (.cond 15 (.seq (.reg [ ⟨none, some 17, .move (.tmp 2), E.tInt⟩, ⟨none, some 18, .convert E.tInt E.tU64 (.tmp 17), E.tU64⟩, ⟨none, some 19, .binOp .add E.tU64 (.tmp 18) (.const (.int .u64 1)) E.tU64, E.tU64⟩, ⟨none, some 20, .call { callee := .value (.func E.f_spec_Uvarint), args := #[.tmp 19], argTypes := #[E.tU64] }, E.tBs⟩, ⟨none, some 8, .assign (.tmp 20), E.tBs⟩]) .ret) (.seq (.reg [ ⟨none, some 22, .move (.tmp 1), E.tB⟩, ⟨none, some 21, .assign (.tmp 22), E.tB⟩]) (.cond 21 (.seq (.reg [ ⟨none, some 23, .move (.tmp 3), E.tInt⟩, ⟨none, some 24, .call { callee := .value (.func E.f_spec_Fixed), args := #[.const (.int .i64 (-1)), .tmp 23], argTypes := #[E.tI64, E.tInt] }, E.tBs⟩, ⟨none, some 8, .assign (.tmp 24), E.tBs⟩]) .ret) .skip))))))) (.seq (.reg [ ⟨none, some 25, .move (.tmp 2), E.tInt⟩, ⟨none, some 26, .move (.tmp 3), E.tInt⟩, ⟨none, some 27, .call { callee := .value (.func E.f_spec_Fixed), args := #[.tmp 25, .tmp 26], argTypes := #[E.tI64, E.tInt] }, E.tBs⟩, ⟨none, some 8, .assign (.tmp 27), E.tBs⟩]) .ret)))
def nt_spec_counted : Nat := 28
def rs_spec_counted (E : Env) : List Rv := [.t 8]
def ir_spec_width (E : Env) : Ir := (.seq (.reg [ ⟨none, some 2, .assign (.const (.int .i64 0)), E.tInt⟩]) (.seq (.seq (.reg [ ⟨none, some 3, .move (.tmp 0), E.tInt⟩]) (.block 0 (.seq (.reg [ ⟨none, some 5, .binOp .eql E.tInt (.tmp 3) (.const (.int .i64 1)) E.tInt, E.tB⟩, ⟨none, some 4, .assign (.tmp 5), E.tB⟩]) (.cond 4 (.seq (.reg [ ⟨none, some 2, .assign (.const (.int .i64 1)), E.tInt⟩]) .ret) (.seq (.seq (.reg [ ⟨none, some 7, .binOp .eql E.tInt (.tmp 3) (.const (.int .i64 2)) E.tInt, E.tB⟩, ⟨none, some 6, .assign (.tmp 7), E.tB⟩]) (.cond 6 .skip (.reg [ ⟨none, some 8, .binOp .eql E.tInt (.tmp 3) (.const (.int .i64 5)) E.tInt, E.tB⟩, ⟨none, some 6, .assign (.tmp 8), E.tB⟩]))) (.cond 6 (.seq (.reg [ ⟨none, some 2, .assign (.const (.int .i64 2)), E.tInt⟩]) .ret) (.seq (.reg [ ⟨none, some 10, .binOp .eql E.tInt (.tmp 3) (.const (.int .i64 3)) E.tInt, E.tB⟩, ⟨none, some 9, .assign (.tmp 10), E.tB⟩]) (.cond 9 (.seq (.reg [ ⟨none, some 2, .assign (.const (.int .i64 4)), E.tInt⟩]) .ret) .skip)))))))) (.seq (.reg [ ⟨none, some 2, .assign (.const (.int .i64 8)), E.tInt⟩]) .ret)))
def nt_spec_width : Nat := 11
def rs_spec_width (E : Env) : List Rv := [.t 2]
def ir_spec_Fixed (E : Env) : Ir := (.seq (.reg [ ⟨none, some 4, .assign (.const (.slice none 0 0)), E.tBs⟩]) (.seq (.reg [ ⟨none, some 5, .assign (.const (.slice none 0 0)), E.tBs⟩]) (.seq (.seq (.reg [ ⟨none, some 7, .move (.tmp 1), E.tInt⟩, ⟨none, some 8, .binOp .sub E.tInt (.tmp 7) (.const (.int .i64 1)) E.tInt, E.tInt⟩, ⟨none, some 6, .assign (.tmp 8), E.tInt⟩]) (.block 0 (.loop (.seq (.seq (.reg [ ⟨none, some 9, .move (.tmp 6), E.tInt⟩, ⟨none, some 10, .binOp .geq E.tInt (.tmp 9) (.const (.int .i64 0)) E.tInt, E.tB⟩]) (.cond 10 .skip (.exit 0))) (.seq (.block 1 (.reg [ ⟨none, some 13, .move (.tmp 5), E.tBs⟩, ⟨none, some 14, .move (.tmp 0), E.tI64⟩, ⟨none, some 15, .move (.tmp 6), E.tInt⟩, ⟨none, some 16, .binOp .mul E.tInt (.const (.int .i64 8)) (.tmp 15) E.tInt, E.tInt⟩, ⟨none, some 17, .binOp .shr E.tI64 (.tmp 14) (.tmp 16) E.tInt, E.tI64⟩, ⟨none, some 18, .convert E.tI64 E.tU8 (.tmp 17), E.tU8⟩, ⟨none, some 19, .buildSlice E.tBs 1 #[(0, .tmp 18)], E.tBs⟩, ⟨none, some 20, .call { callee := .builtin .append, args := #[.tmp 13, .tmp 19], argTypes := #[E.tBs, E.tBs] }, E.tBs⟩, ⟨none, some 5, .assign (.tmp 20), E.tBs⟩])) (.reg [ ⟨none, some 11, .move (.tmp 6), E.tInt⟩, ⟨none, some 12, .binOp .sub E.tInt (.tmp 11) (.const (.int .i64 1)) E.tInt, E.tInt⟩, ⟨none, some 6, .assign (.tmp 12), E.tInt⟩])))))) (.seq (.reg [ ⟨none, some 21, .move (.tmp 5), E.tBs⟩, ⟨none, some 4, .assign (.tmp 21), E.tBs⟩]) .ret))))
def nt_spec_Fixed : Nat := 22
def rs_spec_Fixed (E : Env) : List Rv := [.t 4]
def ir_spec_Same (E : Env) : Ir := (.seq (.reg [ ⟨none, some 4, .assign (.const (.bool false)), E.tB⟩]) (.seq (.seq (.reg [ ⟨none, some 6, .move (.tmp 0), E.tBs⟩, ⟨none, some 7, .call { callee := .builtin .len, args := #[.tmp 6], argTypes := #[E.tBs] }, E.tInt⟩, ⟨none, some 8, .move (.tmp 1), E.tBs⟩, ⟨none, some 9, .call { callee := .builtin .len, args := #[.tmp 8], argTypes := #[E.tBs] }, E.tInt⟩, ⟨none, some 10, .binOp .neq E.tInt (.tmp 7) (.tmp 9) E.tInt, E.tB⟩]) (.cond 10 (.seq (.reg [ ⟨none, some 4, .assign (.const (.bool false)), E.tB⟩]) .ret) .skip)) (.seq (.seq (.reg [ ⟨none, some 11, .move (.tmp 0), E.tBs⟩, ⟨none, some 12, .call { callee := .builtin .len, args := #[.tmp 11], argTypes := #[E.tBs] }, E.tInt⟩, ⟨none, some 13, .move (.const (.int .i64 0)), E.tInt⟩]) (.block 0 (.loop (.seq (.reg [ ⟨none, some 14, .binOp .lss E.tInt (.tmp 13) (.tmp 12) E.tInt, E.tNil⟩]) (.seq (.cond 14 .skip (.exit 0)) (.seq (.block 1 (.seq (.reg [ ⟨none, some 15, .move (.tmp 13), E.tInt⟩, ⟨none, some 5, .assign (.tmp 15), E.tInt⟩]) (.seq (.regH [ (true, ⟨none, some 16, .move (.tmp 0), E.tBs⟩), (true, ⟨none, some 17, .move (.tmp 5), E.tInt⟩), (true, ⟨none, some 18, .indexAddr E.tBs (.tmp 16) (.tmp 17), E.tNil⟩), (true, ⟨none, some 19, .load E.tU8 (.tmp 18), E.tU8⟩), (true, ⟨none, some 20, .move (.tmp 1), E.tBs⟩), (true, ⟨none, some 21, .move (.tmp 5), E.tInt⟩), (true, ⟨none, some 22, .indexAddr E.tBs (.tmp 20) (.tmp 21), E.tNil⟩), (true, ⟨none, some 23, .load E.tU8 (.tmp 22), E.tU8⟩), (true, ⟨none, some 24, .binOp .neq E.tU8 (.tmp 19) (.tmp 23) E.tU8, E.tB⟩)]) (.cond 24 (.seq (.reg [ ⟨none, some 4, .assign (.const (.bool false)), E.tB⟩]) .ret) .skip)))) (.reg [ ⟨none, some 25, .binOp .add E.tInt (.tmp 13) (.const (.int .i64 1)) E.tInt, E.tInt⟩, ⟨none, some 13, .move (.tmp 25), E.tInt⟩]))))))) (.seq (.reg [ ⟨none, some 4, .assign (.const (.bool true)), E.tB⟩]) .ret))))
def nt_spec_Same : Nat := 26
def rs_spec_Same (E : Env) : List Rv := [.t 4]
def ir_spec_Default (E : Env) : Ir := (.seq (.reg [ ⟨none, some 2, .alloc E.t_spec_Tree, E.tNil⟩]) (.seq (.reg [ ⟨none, some 3, .alloc E.t_spec_Tree, E.tNil⟩]) (.seq (.seq (.reg [ ⟨none, some 7, .move (.tmp 0), E.t_l_spec_Field⟩, ⟨none, some 8, .call { callee := .builtin .len, args := #[.tmp 7], argTypes := #[E.t_l_spec_Field] }, E.tInt⟩, ⟨none, some 9, .move (.const (.int .i64 0)), E.tInt⟩]) (.block 0 (.loop (.seq (.reg [ ⟨none, some 10, .binOp .lss E.tInt (.tmp 9) (.tmp 8) E.tInt, E.tNil⟩]) (.seq (.cond 10 .skip (.exit 0)) (.seq (.block 1 (.seq (.reg [ ⟨none, some 11, .indexAddr E.t_l_spec_Field (.tmp 7) (.tmp 9), E.tNil⟩, ⟨none, some 12, .load E.t_spec_Field (.tmp 11), E.t_spec_Field⟩, ⟨none, some 5, .alloc E.t_spec_Field, E.tNil⟩, ⟨none, none, .store E.t_spec_Field (.tmp 5) (.tmp 12), E.tNil⟩]) (.seq (.reg [ ⟨none, some 13, .fieldAddr E.t_spec_Field (.tmp 5) 5, E.tNil⟩, ⟨none, some 14, .load E.tI64 (.tmp 13), E.tI64⟩, ⟨none, some 15, .fieldAddr E.t_spec_Field (.tmp 5) 3, E.tNil⟩, ⟨none, some 16, .load E.tInt (.tmp 15), E.tInt⟩, ⟨none, some 17, .binOp .geq E.tInt (.tmp 16) (.const (.int .i64 0)) E.tInt, E.tB⟩, ⟨none, some 18, .build E.t_spec_Tree #[(0, .tmp 14), (2, .tmp 17)], E.t_spec_Tree⟩, ⟨none, some 6, .alloc E.t_spec_Tree, E.tNil⟩, ⟨none, none, .store E.t_spec_Tree (.tmp 6) (.tmp 18), E.tNil⟩]) (.seq (.seq (.reg [ ⟨none, some 19, .fieldAddr E.t_spec_Field (.tmp 5) 0, E.tNil⟩, ⟨none, some 20, .load E.tInt (.tmp 19), E.tInt⟩, ⟨none, some 21, .binOp .eql E.tInt (.tmp 20) (.const (.int .i64 10)) E.tInt, E.tB⟩]) (.cond 21 (.reg [ ⟨none, some 22, .fieldAddr E.t_spec_Field (.tmp 5) 7, E.tNil⟩, ⟨none, some 23, .load E.t_l_spec_Field (.tmp 22), E.t_l_spec_Field⟩, ⟨none, some 24, .call { callee := .value (.func E.f_spec_Default), args := #[.tmp 23], argTypes := #[E.t_l_spec_Field] }, E.t_spec_Tree⟩, ⟨none, some 25, .field E.t_spec_Tree (.tmp 24) 3, E.t_l_spec_Tree⟩, ⟨none, some 26, .fieldAddr E.t_spec_Tree (.tmp 6) 3, E.tNil⟩, ⟨none, none, .store E.t_l_spec_Tree (.tmp 26) (.tmp 25), E.tNil⟩]) .skip)) (.reg [ ⟨none, some 27, .fieldAddr E.t_spec_Tree (.tmp 3) 3, E.tNil⟩, ⟨none, some 28, .load E.t_l_spec_Tree (.tmp 27), E.t_l_spec_Tree⟩, ⟨none, some 29, .load E.t_spec_Tree (.tmp 6), E.t_spec_Tree⟩, ⟨none, some 30, .buildSlice E.t_l_spec_Tree 1 #[(0, .tmp 29)], E.t_l_spec_Tree⟩, ⟨none, some 31, .call { callee := .builtin .append, args := #[.tmp 28, .tmp 30], argTypes := #[E.t_l_spec_Tree, E.t_l_spec_Tree] }, E.t_l_spec_Tree⟩, ⟨none, some 32, .fieldAddr E.t_spec_Tree (.tmp 3) 3, E.tNil⟩, ⟨none, none, .store E.t_l_spec_Tree (.tmp 32) (.tmp 31), E.tNil⟩]))))) (.reg [ ⟨none, some 33, .binOp .add E.tInt (.tmp 9) (.const (.int .i64 1)) E.tInt, E.tInt⟩, ⟨none, some 9, .move (.tmp 33), E.tInt⟩]))))))) (.seq (.reg [ ⟨none, some 34, .load E.t_spec_Tree (.tmp 3), E.t_spec_Tree⟩, ⟨none, none, .store E.t_spec_Tree (.tmp 2) (.tmp 34), E.tNil⟩]) .ret))))
def nt_spec_Default : Nat := 35
def rs_spec_Default (E : Env) : List Rv := [.c 2 E.t_spec_Tree]
def ir_spec_Field_has (E : Env) : Ir := (.seq (.reg [ ⟨none, some 2, .box E.t_spec_Field (.tmp 0), E.tNil⟩, ⟨none, some 4, .assign (.const (.bool false)), E.tB⟩]) (.seq (.reg [ ⟨none, some 5, .fieldAddr E.t_spec_Field (.tmp 2) 1, E.tNil⟩, ⟨none, some 6, .load E.tInt (.tmp 5), E.tInt⟩, ⟨none, some 7, .move (.tmp 1), E.tInt⟩, ⟨none, some 8, .binOp .leq E.tInt (.tmp 6) (.tmp 7) E.tInt, E.tB⟩, ⟨none, some 9, .move (.tmp 8), E.tB⟩, ⟨(some (9, true)), some 10, .fieldAddr E.t_spec_Field (.tmp 2) 2, E.tNil⟩, ⟨(some (9, true)), some 11, .load E.tInt (.tmp 10), E.tInt⟩, ⟨(some (9, true)), some 12, .binOp .lss E.tInt (.tmp 11) (.const (.int .i64 0)) E.tInt, E.tB⟩, ⟨(some (9, true)), some 13, .move (.tmp 12), E.tB⟩, ⟨(some (13, false)), some 14, .move (.tmp 1), E.tInt⟩, ⟨(some (13, false)), some 15, .fieldAddr E.t_spec_Field (.tmp 2) 2, E.tNil⟩, ⟨(some (13, false)), some 16, .load E.tInt (.tmp 15), E.tInt⟩, ⟨(some (13, false)), some 17, .binOp .leq E.tInt (.tmp 14) (.tmp 16) E.tInt, E.tB⟩, ⟨(some (9, true)), some 18, .pick (.tmp 13) (.const (.bool true)) (.tmp 17), E.tB⟩, ⟨none, some 19, .pick (.tmp 9) (.tmp 18) (.const (.bool false)), E.tB⟩, ⟨none, some 4, .assign (.tmp 19), E.tB⟩]) .ret))
def nt_spec_Field_has : Nat := 20
def rs_spec_Field_has (E : Env) : List Rv := [.t 4]
def ir_spec_Field_null (E : Env) : Ir := (.seq (.reg [ ⟨none, some 3, .box E.t_spec_Field (.tmp 0), E.tNil⟩, ⟨none, some 5, .box E.t_spec_Tree (.tmp 2), E.tNil⟩, ⟨none, some 6, .assign (.const (.bool false)), E.tB⟩]) (.seq (.reg [ ⟨none, some 7, .fieldAddr E.t_spec_Tree (.tmp 5) 2, E.tNil⟩, ⟨none, some 8, .load E.tB (.tmp 7), E.tB⟩, ⟨none, some 9, .move (.tmp 8), E.tB⟩, ⟨(some (9, true)), some 10, .fieldAddr E.t_spec_Field (.tmp 3) 3, E.tNil⟩, ⟨(some (9, true)), some 11, .load E.tInt (.tmp 10), E.tInt⟩, ⟨(some (9, true)), some 12, .binOp .geq E.tInt (.tmp 11) (.const (.int .i64 0)) E.tInt, E.tB⟩, ⟨none, some 13, .pick (.tmp 9) (.tmp 12) (.const (.bool false)), E.tB⟩, ⟨none, some 14, .move (.tmp 13), E.tB⟩, ⟨(some (14, true)), some 15, .move (.tmp 1), E.tInt⟩, ⟨(some (14, true)), some 16, .fieldAddr E.t_spec_Field (.tmp 3) 3, E.tNil⟩, ⟨(some (14, true)), some 17, .load E.tInt (.tmp 16), E.tInt⟩, ⟨(some (14, true)), some 18, .binOp .geq E.tInt (.tmp 15) (.tmp 17) E.tInt, E.tB⟩, ⟨none, some 19, .pick (.tmp 14) (.tmp 18) (.const (.bool false)), E.tB⟩, ⟨none, some 6, .assign (.tmp 19), E.tB⟩]) .ret))
def nt_spec_Field_null : Nat := 20
def rs_spec_Field_null (E : Env) : List Rv := [.t 6]
end Go.Kg

set_option linter.unusedSimpArgs false
set_option linter.unusedVariables false
namespace Go.Kg
open Go
/-- f hands back fresh bytes. -/
def Fresh (u8 : Nat) (w : World) (v : Value) (w' : World) (out : List UInt8) : Prop := OwnB u8 w' w.heap.size v out ∧ Ext none1 w w'
def SpC (P : Program) (u8 f : Nat) (args : List Value) (out : List UInt8) : Prop := ∀ w, Ret P f args.toArray w fun v w' => Fresh u8 w v w' out
theorem Own.base {w : World} {base base' e s : Nat} {v : Value} {xs : List Value} (h : Own w base' e s v xs) (hb : base ≤ base') : Own w base e s v xs := by
  obtain ⟨n, h1, h2⟩ := h
  refine ⟨n, h1, ?_⟩
  rcases h2 with h | ⟨g, cap, cur, rfl, hg, rest⟩
  · exact .inl h
  · exact .inr ⟨g, cap, cur, rfl, Nat.le_trans hb hg, rest⟩
/-- a fresh row grows on: still fresh -/
theorem Fresh.grow {u8 : Nat} {w w1 w2 : World} {v v2 : Value} {s out : List UInt8} (h : Fresh u8 w v w1 s) (ho : OwnB u8 w2 w.heap.size v2 (s ++ out)) (hg : Grew w1 v w2 v2) : Fresh u8 w v2 w2 (s ++ out) := by
  refine ⟨ho, ⟨hg.ext.os.trans h.2.os, hg.ext.tape.trans h.2.tape, hg.ext.output.trans h.2.output, Nat.le_trans h.2.size hg.ext.size, fun k hk _ => ?_⟩⟩
  rw [hg.ext.block k (Nat.lt_of_lt_of_le hk h.2.size) (fun ho' => by have := (Own.below h.1 ho').1; omega)]
  exact h.2.block k hk (fun h => h)
theorem Fresh.nil {u8 : Nat} {w w' : World} (h : Ext none1 w w') : Fresh u8 w (.slice none 0 0) w' [] := ⟨by simpa [OwnB, cellsOf] using Own.nil w' w.heap.size u8 1, h⟩
theorem Fresh.post {u8 : Nat} {w w1 w2 : World} {v : Value} {s : List UInt8} (h : Fresh u8 w v w1 s) (he : Ext none1 w1 w2) : Fresh u8 w v w2 s := ⟨Own.ext h.1 he (fun _ _ h => h), h.2.trans he⟩
theorem Fresh.pre {u8 : Nat} {w0 w w1 : World} {v : Value} {s : List UInt8} (he : Ext none1 w0 w) (h : Fresh u8 w v w1 s) : Fresh u8 w0 v w1 s := ⟨Own.base h.1 he.size, he.trans h.2⟩
/-- a literal of bytes is fresh -/
theorem fresh_lit {u8 : Nat} {w : World} {bs : List UInt8} {cs : Array Value} (hcs : cs = (cellsOf bs).toArray) (hn : bs.length ≤ 1000) : Fresh u8 w (.slice (some ⟨w.heap.size, 0, none⟩) bs.length bs.length) (w.alloc (.cells cs u8)) bs := by
  subst hcs
  refine ⟨⟨bs.length, ?_⟩, (Ext.refl none1 w).alloc _⟩
  have := World.ownsRow_lit (e := u8) (size := 1) (base := w.heap.size) w (cellsOf bs).toArray bs.length (Nat.le_refl _) (by simp [maxLen]; omega) (by simp)
  simpa using this
def fixE : Nat → Int → List UInt8
  | 0, _ => []
  | k + 1, n => bval (n.fdiv (2 ^ (8 * k))) :: fixE k n
theorem fixE_len {k : Nat} {n : Int} : (fixE k n).length = k := by induction k with
  | zero => rfl
  | succ k ih => simp [fixE, ih]
structure TySp (P : Program) (E : Env) : Prop extends TyWr P E where
  kU8 : kindOf P E.tU8 = .scl
def FixInv (u8 k : Nat) (n : Int) (w : World) (f : Nat → Value) (w' : World) : Prop := ∃ j s, j ≤ k ∧ s ++ fixE j n = fixE k n ∧ f 6 = .int .i64 ((j : Int) - 1) ∧ f 0 = .int .i64 n ∧ Fresh u8 w (f 5) w' s
theorem c_Fixed {P : Program} {E : Env} (ht : TyWr P E) (hI : FnIs P E.f_spec_Fixed nt_spec_Fixed (rs_spec_Fixed E) (ir_spec_Fixed E)) (n : Int) (k : Nat) (hk : k ≤ 8) :
    SpC P E.tU8 E.f_spec_Fixed [.int .i64 n, .int .i64 k] (fixE k n) := by
  intro w
  refine hI.call (args := [_, _]) (by simp [nt_spec_Fixed]) ?_
  have e0 : IntKind.i64.wrap ((k : Int) - 1) = (k : Int) - 1 := i64_small (by omega) (by omega)
  simp [ir_spec_Fixed, rs_spec_Fixed, bin?, e0]
  refine cw_loop (FixInv E.tU8 k n w) (fun f _ => match f 6 with | .int _ i => (i + 1).toNat | _ => 0) ?_ ?_
  · exact ⟨k, [], Nat.le_refl _, rfl, by simp, by simp, by simpa using Fresh.nil (Ext.refl _ _)⟩
  · rintro f w' ⟨j, s, hj, hs, h6, h0, hf⟩
    cases j with
    | zero =>
      simp [h6]
      refine cw_false (by simp) ?_
      simp [fixE] at hs
      subst hs
      simpa using hf
    | succ j =>
      rw [show ((j + 1 : Nat) : Int) - 1 = (j : Int) by omega] at h6
      simp [h6]
      refine cw_true (by simp) ?_
      have e1 : IntKind.i64.wrap (8 * (j : Int)) = ((8 * j : Nat) : Int) := by rw [i64_small (by omega) (by omega)]; omega
      have e3 : (0 : Int) ≤ ((8 * j : Nat) : Int) := by omega
      have e4 : min (8 * j) 64 = 8 * j := by omega
      have e6 : (0 : Int) ≤ 8 * (j : Int) := by omega
      have e7 : (8 * (j : Int)).toNat = 8 * j := by omega
      simp [h6, h0, bin?, e1, e6, e7, e4, IntKind.bits, ht.iI64, ht.iU8, u8wrap, st_bsl ht.sBs, denseFrom, allSz, flat, Value.cells]
      have hlen : s.length + 1 ≤ 9 := by have := congrArg List.length hs; simp [fixE_len] at this; omega
      refine st_app_lit ht.sBs (by simp) hf.1 hf.2.size [bval (n.fdiv (2 ^ (8 * j)))] (by simp [cellsOf]) (by simp) (by simp; omega) ?_
      intro v' w2 ho hg
      have e5 : IntKind.i64.wrap ((j : Int) - 1) = (j : Int) - 1 := i64_small (by omega) (by omega)
      simp [h6, h0, bin?, e5]
      refine ⟨⟨j, s ++ [bval (n.fdiv (2 ^ (8 * j)))], by omega, by rw [← hs]; simp [fixE], by simp, by simp [h0], ?_⟩, by omega⟩
      simpa using hf.grow ho hg
/-- the width of numbers of a kind -/
def widthS (kind : Int) : Nat := if kind = 1 then 1 else if kind = 2 ∨ kind = 5 then 2 else if kind = 3 then 4 else 8
theorem c_width {P : Program} {E : Env} (hI : FnIs P E.f_spec_width nt_spec_width (rs_spec_width E) (ir_spec_width E)) (kind : Int) (w : World) :
    Ret P E.f_spec_width #[.int .i64 kind] w fun v w' => v = .int .i64 (widthS kind) ∧ w' = w := by
  refine hI.call (args := [_]) (by simp [nt_spec_width]) ?_
  simp [ir_spec_width, rs_spec_width, bin?]
  by_cases h1 : kind = 1
  · refine cw_true (by simp [h1]) ?_
    simp [widthS, h1]
  refine cw_false (by simp [h1]) ?_
  simp [bin?]
  by_cases h2 : kind = 2
  · refine cw_true (by simp [h2]) ?_
    simp
    refine cw_true (by simp [h2]) ?_
    simp [widthS, h2]
  refine cw_false (by simp [h2]) ?_
  simp [bin?]
  by_cases h5 : kind = 5
  · refine cw_true (by simp [h5]) ?_
    simp [widthS, h5]
  refine cw_false (by simp [h5]) ?_
  simp [bin?]
  by_cases h3 : kind = 3
  · refine cw_true (by simp [h3]) ?_
    simp [widthS, h3]
  refine cw_false (by simp [h3]) ?_
  simp [widthS, h1, h2, h3, h5]
def uvF : Nat → Nat → List UInt8
  | 0, n => [UInt8.ofNat n]
  | k + 1, n => if 127 < n then UInt8.ofNat (n % 128 + 128) :: uvF k (n / 128) else [UInt8.ofNat n]
def uvS (n : Nat) : List UInt8 := uvF n n
theorem uvF_fuel : ∀ {k k' n : Nat}, n ≤ k → n ≤ k' → uvF k n = uvF k' n
  | 0, 0, n, _, _ => rfl
  | 0, k' + 1, n, h, _ => by simp only [uvF]; rw [if_neg (by omega)]
  | k + 1, 0, n, _, h => by simp only [uvF]; rw [if_neg (by omega)]
  | k + 1, k' + 1, n, h, h' => by
    simp only [uvF]
    split
    · rw [uvF_fuel (k := k) (k' := k') (by omega) (by omega)]
    · rfl
theorem uvS_eq (n : Nat) : uvS n = if 127 < n then UInt8.ofNat (n % 128 + 128) :: uvS (n / 128) else [UInt8.ofNat n] := by
  unfold uvS
  cases n with
  | zero => rfl
  | succ n =>
    show uvF (n + 1) (n + 1) = _
    rw [uvF]
    split
    · rw [uvF_fuel (k := n) (k' := (n + 1) / 128) (by omega) (Nat.le_refl _)]
    · rfl
theorem uvS_len {k : Nat} : ∀ {n : Nat}, n < 128 ^ (k + 1) → (uvS n).length ≤ k + 1 := by
  induction k with
  | zero => intro n h; rw [uvS_eq, if_neg (by omega)]; simp
  | succ k ih =>
    intro n h
    rw [uvS_eq]
    split
    · have := ih (n := n / 128) (by rw [Nat.pow_succ] at h; omega)
      simp; omega
    · simp
theorem g7u8 (x : Nat) (h : x < 128) : bits .or .u8 (x : Int) 128 = ((x + 128 : Nat) : Int) := by
  have key : ∀ n : Fin 128, bits .or .u8 (n.val : Int) 128 = ((n.val + 128 : Nat) : Int) := by decide +kernel
  exact key ⟨x, h⟩
def UvInv (u8 : Nat) (n : Nat) (w : World) (f : Nat → Value) (w' : World) : Prop := ∃ m s, m ≤ n ∧ s ++ uvS m = uvS n ∧ f 0 = .int .u64 m ∧ Fresh u8 w (f 3) w' s
theorem c_SUvarint {P : Program} {E : Env} (ht : TyWr P E) (hI : FnIs P E.f_spec_Uvarint nt_spec_Uvarint (rs_spec_Uvarint E) (ir_spec_Uvarint E)) (n : Nat) (hn : n < 18446744073709551616) :
    SpC P E.tU8 E.f_spec_Uvarint [.int .u64 n] (uvS n) := by
  intro w
  have hlen := uvS_len (k := 9) (n := n) (by simp; omega)
  refine hI.call (args := [_]) (by simp [nt_spec_Uvarint]) ?_
  simp [ir_spec_Uvarint, rs_spec_Uvarint, bin?]
  refine cw_loop (UvInv E.tU8 n w) (fun f _ => match f 0 with | .int _ i => i.toNat | _ => 0) ?_ ?_
  · exact ⟨n, [], Nat.le_refl _, rfl, by simp, by simpa using Fresh.nil (Ext.refl _ _)⟩
  · rintro f w' ⟨m, s, hm, hs, h0, hf⟩
    have hl2 := congrArg List.length hs
    simp at hl2
    simp [h0, bin?]
    by_cases hc : 127 < m
    · refine cw_true (by simp; omega) ?_
      have e1 : bits .and .u64 (m : Int) 127 = ((m % 128 : Nat) : Int) := by
        rw [bits_mask7 .u64 64 (by decide) (by decide) wraps_u64 (m : Int) (by omega) (by omega)]; omega
      have e2 : IntKind.u8.wrap ((m % 128 : Nat) : Int) = ((m % 128 : Nat) : Int) := by simp [IntKind.wrap, IntKind.signed, IntKind.bits]; omega
      have e3 := g7u8 (m % 128) (by omega)
      have e4 : (UInt8.ofNat (m % 128 + 128)).toNat = m % 128 + 128 := by simp; omega
      simp [h0, bin?, e1, e2, e3, IntKind.bits, ht.iU64, ht.iU8, st_bsl ht.sBs, denseFrom, allSz, flat, Value.cells, Int.fdiv_eq_ediv_of_nonneg]
      have e5 : bits .or .u8 (IntKind.u8.wrap ((m : Int) % 128)) 128 = ((UInt8.ofNat (m % 128 + 128)).toNat : Int) := by
        have : ((m : Int) % 128) = ((m % 128 : Nat) : Int) := by omega
        rw [this, e2, e3, e4]
      have e6 : ((m : Int) / 128) = ((m / 128 : Nat) : Int) := by omega
      have hs2 : (s ++ [UInt8.ofNat (m % 128 + 128)]) ++ uvS (m / 128) = uvS n := by rw [← hs, uvS_eq m, if_pos hc]; simp
      have hl3 := congrArg List.length hs2
      simp only [List.length_append] at hl3
      refine st_app_lit ht.sBs (by simp) hf.1 hf.2.size [UInt8.ofNat (m % 128 + 128)] ?_ (by simp) (by simp at hl3 ⊢; omega) ?_
      · rw [e5]; rfl
      intro v' w2 ho hg
      refine ⟨⟨m / 128, s ++ [UInt8.ofNat (m % 128 + 128)], by omega, hs2, by simp, ?_⟩, by omega⟩
      simpa using hf.grow ho hg
    · refine cw_false (by simp; omega) ?_
      simp [h0, ht.iU64, ht.iU8, st_bsl ht.sBs, denseFrom, allSz, flat, Value.cells, u8wrap]
      rw [uvS_eq, if_neg hc] at hs
      have hlen2 : s.length ≤ 9 := by have := congrArg List.length hs; simp at this; omega
      refine st_app_lit ht.sBs (by simp) hf.1 hf.2.size [bval m] (by simp [cellsOf]) (by simp) (by simp; omega) ?_
      intro v' w2 ho hg
      have := hf.grow ho hg
      rw [bval_nat (x := (m : Int)) rfl, hs] at this
      simpa using this
end Go.Kg

set_option linter.unusedSimpArgs false
set_option linter.unusedVariables false
namespace Go.Kg
open Go
section
variable {P : Program} {f : Nat → Value} {ty : TypeId} {w : World} {K : Value → World → Prop} {x y : Operand} {xs : Array TypeId} {k : IntKind} {a b : Int}
theorem st_min (hx : evF f x = .int k a) (hy : evF f y = .int k b) : stepF P f (.call { callee := .builtin .min, args := #[x, y], argTypes := xs }) ty w K = K (.int k (if b < a then b else a)) w := by
  refine stepF_ok ?_
  simp [runF, execOp, resolve, invoke, builtin, hx, hy, Builtin.min_, Builtin.min2]
theorem st_max (hx : evF f x = .int k a) (hy : evF f y = .int k b) : stepF P f (.call { callee := .builtin .max, args := #[x, y], argTypes := xs }) ty w K = K (.int k (if b > a then b else a)) w := by
  refine stepF_ok ?_
  simp [runF, execOp, resolve, invoke, builtin, hx, hy, Builtin.max_, Builtin.max2]
@[simp] theorem stp_min : stp P f (.call { callee := .builtin .min, args := #[x, y], argTypes := xs }) ty w K = stepF P f (.call { callee := .builtin .min, args := #[x, y], argTypes := xs }) ty w K := (rfl)
@[simp] theorem stp_max : stp P f (.call { callee := .builtin .max, args := #[x, y], argTypes := xs }) ty w K = stepF P f (.call { callee := .builtin .max, args := #[x, y], argTypes := xs }) ty w K := (rfl)
end
@[simp] theorem isB_undef {b : Bool} : isB undef b = false := (rfl)
/-- A field, but for its parts. -/
structure FH where
  kind : Int
  frm : Int
  to : Int
  null : Int
  tag : Int
  dflt : Int
  of_ : Int
def FH.cells (h : FH) : List Value := [.int .i64 h.kind, .int .i64 h.frm, .int .i64 h.to, .int .i64 h.null, .int .i64 h.tag, .int .i64 h.dflt, .int .i64 h.of_]
def FH.has (h : FH) (v : Int) : Bool := decide (h.frm ≤ v) && (decide (h.to < 0) || decide (v ≤ h.to))
def FH.isNull (h : FH) (v : Int) (nul : Bool) : Bool := nul && decide (0 ≤ h.null) && decide (h.null ≤ v)
inductive FS where
  | nil
  | cons (h : FH) (sub rest : FS)
inductive Tr where
  | mk (n : Int) (s : List UInt8) (nul : Bool) (l : List Tr) (u : List (Nat × List UInt8))
def Tr.n : Tr → Int | .mk n _ _ _ _ => n
def Tr.s : Tr → List UInt8 | .mk _ s _ _ _ => s
def Tr.nul : Tr → Bool | .mk _ _ b _ _ => b
def Tr.l : Tr → List Tr | .mk _ _ _ l _ => l
def Tr.u : Tr → List (Nat × List UInt8) | .mk _ _ _ _ u => u
def Tr.none : Tr := .mk 0 [] false [] []
def Tr.at (t : Tr) (i : Nat) : Tr := (t.l[i]?).getD .none
def All : Nat → Prop := fun _ => True
def FsCells (w : World) : List (List Value) → FS → Prop
  | [], .nil => True
  | c :: cs, .cons h sub rest => (∃ sv ls, c = h.cells ++ [sv] ∧ ArrAt w All 8 sv ls ∧ FsCells w (ls.getD []) sub) ∧ FsCells w cs rest
  | _, _ => False
def FsAt (w : World) (v : Value) (F : FS) : Prop := ∃ ls, ArrAt w All 8 v ls ∧ FsCells w (ls.getD []) F
def UAtK (w : World) (K : Nat → Prop) (v : Value) (u : List (Nat × List UInt8)) : Prop := ∃ ls, ArrAt w K 2 v ls ∧ (ls.getD []).length = u.length ∧
  ∀ (i : Nat) c x, (ls.getD [])[i]? = some c → u[i]? = some x → ∃ bv, c = [.int .u32 x.1, bv] ∧ x.1 < 4294967296 ∧ BytesAt w K bv x.2
/-- the same, but that a slice without a place may bear any address -/
def ArrE (w : World) (K : Nat → Prop) (sz : Nat) (v : Value) : Option (List (List Value)) → Prop
  | none => ∃ a, v = .slice a 0 0
  | some ls => ArrAt w K sz v (some ls)
theorem ArrAt.toE {w : World} {K : Nat → Prop} {sz : Nat} {v : Value} {ls : Option (List (List Value))} (h : ArrAt w K sz v ls) : ArrE w K sz v ls := by
  cases ls with
  | none => exact ⟨_, h⟩
  | some ls => exact h
theorem ArrE.ext {C K : Nat → Prop} {w w' : World} (he : Ext C w w') (hK : ∀ b, b < w.heap.size → K b → ¬ C b) {sz : Nat} {v : Value} {ls : Option (List (List Value))} (h : ArrE w K sz v ls) : ArrE w' K sz v ls := by
  cases ls with
  | none => exact h
  | some ls => exact ArrAt.ext he hK (show ArrAt w K sz v (some ls) from h)
theorem ArrE.form {w : World} {K : Nat → Prop} {sz : Nat} {v : Value} {ls : Option (List (List Value))} (h : ArrE w K sz v ls) : ∃ a c, v = .slice a (ls.getD []).length c ∧ True ∧ (ls.getD []).length ≤ 1099511627776 := by
  cases ls with
  | none => obtain ⟨a, rfl⟩ := h; exact ⟨a, 0, rfl, trivial, by simp⟩
  | some ls =>
    obtain ⟨a, c, h1, _, h3⟩ := (show ArrAt w K sz v (some ls) from h).form
    exact ⟨a, c, h1, trivial, h3⟩
def UAt (w : World) (v : Value) (u : List (Nat × List UInt8)) : Prop := ∃ ls, ArrE w All 2 v ls ∧ (ls.getD []).length = u.length ∧
  ∀ (i : Nat) c x, (ls.getD [])[i]? = some c → u[i]? = some x → ∃ bv, c = [.int .u32 x.1, bv] ∧ x.1 < 4294967296 ∧ BytesAt w All bv x.2
inductive TreeAt (w : World) : List Value → Tr → Prop where
  | mk {n : Int} {s : List UInt8} {nul : Bool} {l : List Tr} {u : List (Nat × List UInt8)} {sv lv uv : Value} {ls : Option (List (List Value))} (hn : (-9223372036854775808 ≤ n ∧ n < 9223372036854775808) ∧ s.length ≤ 140737488355328)
      (hs : BytesAt w All sv s) (ha : ArrE w All 5 lv ls) (hl : (ls.getD []).length = l.length) (he : ∀ (i : Nat) c t, (ls.getD [])[i]? = some c → l[i]? = some t → TreeAt w c t) (hu : UAt w uv u) :
      TreeAt w [.int .i64 n, sv, .bool nul, lv, uv] (.mk n s nul l u)
theorem FsCells.ext {w w' : World} (he : Ext none1 w w') : ∀ {F : FS} {ls : List (List Value)}, FsCells w ls F → FsCells w' ls F := by
  intro F
  induction F with
  | nil => intro ls h; cases ls with
    | nil => trivial
    | cons c cs => exact h.elim
  | cons h sub rest ihs ihr =>
    intro ls hh
    cases ls with
    | nil => exact hh.elim
    | cons c cs =>
      obtain ⟨⟨sv, l, h1, h2, h3⟩, h4⟩ := hh
      exact ⟨⟨sv, l, h1, h2.ext he (fun _ _ _ h => h), ihs h3⟩, ihr h4⟩
theorem FsAt.ext {w w' : World} (he : Ext none1 w w') {v : Value} {F : FS} (h : FsAt w v F) : FsAt w' v F := by
  obtain ⟨ls, h1, h2⟩ := h; exact ⟨ls, h1.ext he (fun _ _ _ h => h), h2.ext he⟩
theorem UAt.ext {w w' : World} (he : Ext none1 w w') {v : Value} {u : List (Nat × List UInt8)} (h : UAt w v u) : UAt w' v u := by
  obtain ⟨ls, h1, h2, h3⟩ := h
  refine ⟨ls, ArrE.ext he (fun _ _ _ h => h) h1, h2, fun i c x hc hx => ?_⟩
  obtain ⟨bv, a, b, d⟩ := h3 i c x hc hx
  exact ⟨bv, a, b, d.ext he (fun _ _ _ h => h)⟩
theorem TreeAt.ext {w w' : World} (he : Ext none1 w w') {cs : List Value} {t : Tr} (h : TreeAt w cs t) : TreeAt w' cs t := by
  induction h with
  | mk hn hs ha hl _ hu ih => exact .mk hn (hs.ext he (fun _ _ _ h => h)) (ArrE.ext he (fun _ _ _ h => h) ha) hl ih (hu.ext he)
theorem TreeAt.slen {w : World} {cs : List Value} {t : Tr} (h : TreeAt w cs t) : t.s.length ≤ 140737488355328 := by
  cases h with
  | mk hn hs ha hl he hu => exact hn.2
theorem TreeAt.none (w : World) : TreeAt w [.int .i64 0, .slice Option.none 0 0, .bool false, .slice Option.none 0 0, .slice Option.none 0 0] Tr.none :=
  .mk (by simp) (.inl ⟨⟨_, rfl⟩, rfl⟩) (ls := Option.none) ⟨_, rfl⟩ rfl (by simp) ⟨Option.none, ⟨_, rfl⟩, rfl, by simp⟩
/-- What the reference asks of the types. -/
structure TyF (P : Program) (E : Env) : Prop extends TySp P E where
  uBs : P.underlying E.tBs = some (.slice E.tU8)
  kBs : kindOf P E.tBs = .scl
  kInt : kindOf P E.tInt = .scl
  kI64 : kindOf P E.tI64 = .scl
  kB : kindOf P E.tB = .scl
  kU32 : kindOf P E.tU32 = .scl
  kLF : kindOf P E.t_l_spec_Field = .scl
  kLT : kindOf P E.t_l_spec_Tree = .scl
  kLU : kindOf P E.t_l_spec_Tag = .scl
  kF : kindOf P E.t_spec_Field = .agg 8
  kT : kindOf P E.t_spec_Tree = .agg 5
  kU : kindOf P E.t_spec_Tag = .agg 2
  f0 : fldOff P E.t_spec_Field 0 = some 0
  f1 : fldOff P E.t_spec_Field 1 = some 1
  f2 : fldOff P E.t_spec_Field 2 = some 2
  f3 : fldOff P E.t_spec_Field 3 = some 3
  f4 : fldOff P E.t_spec_Field 4 = some 4
  f5 : fldOff P E.t_spec_Field 5 = some 5
  f6 : fldOff P E.t_spec_Field 6 = some 6
  f7 : fldOff P E.t_spec_Field 7 = some 7
  t0 : fldOff P E.t_spec_Tree 0 = some 0
  t1 : fldOff P E.t_spec_Tree 1 = some 1
  t2 : fldOff P E.t_spec_Tree 2 = some 2
  t3 : fldOff P E.t_spec_Tree 3 = some 3
  t4 : fldOff P E.t_spec_Tree 4 = some 4
  u0 : fldOff P E.t_spec_Tag 0 = some 0
  u1 : fldOff P E.t_spec_Tag 1 = some 1
  sF : sliSz P E.t_l_spec_Field = some 8
  sT : sliSz P E.t_l_spec_Tree = some 5
  sU : sliSz P E.t_l_spec_Tag = some 2
  sTr : ∃ fs, P.underlying E.t_spec_Tree = some (.struct fs)
  pT : (places P E.t_spec_Tree).isSome = true
  zF : zeroOf P E.t_spec_Field = some (.agg #[.int .i64 0, .int .i64 0, .int .i64 0, .int .i64 0, .int .i64 0, .int .i64 0, .int .i64 0, .slice Option.none 0 0])
  zT : zeroOf P E.t_spec_Tree = some (.agg #[.int .i64 0, .slice Option.none 0 0, .bool false, .slice Option.none 0 0, .slice Option.none 0 0])
  zU : zeroOf P E.t_spec_Tag = some (.agg #[.int .u32 0, .slice Option.none 0 0])
section
variable {P : Program} {E : Env} (ht : TyF P E)
include ht
theorem c_has (hI : FnIs P E.f_spec_Field_has nt_spec_Field_has (rs_spec_Field_has E) (ir_spec_Field_has E)) (h : FH) (sv : Value) (v : Int) (w : World) :
    Ret P E.f_spec_Field_has #[.agg (h.cells ++ [sv]).toArray, .int .i64 v] w fun u w' => u = .bool (h.has v) ∧ Ext none1 w w' := by
  refine hI.call (args := [_, _]) (by simp [nt_spec_Field_has]) ?_
  have hE := (Ext.refl none1 w).alloc (.cells (h.cells ++ [sv]).toArray E.t_spec_Field)
  have hc : ∀ j u, (h.cells ++ [sv])[j]? = some u → (w.alloc (.cells (h.cells ++ [sv]).toArray E.t_spec_Field)).cell? ⟨w.heap.size, j, Option.none⟩ = some u := by
    intro j u hj; rw [cell_of_blk alloc_new]; simpa using hj
  have c1 := hc 1 _ rfl
  have c2 := hc 2 _ rfl
  have hv : ∀ (a : Array Value), (Value.agg a).cells = a := fun a => rfl
  simp only [ir_spec_Field_has, rs_spec_Field_has]
  simp [hv, ht.f1, ht.f2, Addr.add_mk, ld_scl ht.kInt, c1, c2]
  by_cases h1 : h.frm ≤ v
  · by_cases h2 : h.to < 0
    · have h2' : ¬ 0 ≤ h.to := by omega
      simp [h1, h2, h2', FH.has, hE]
    · have h2' : 0 ≤ h.to := by omega
      by_cases h3 : v ≤ h.to
      · simp [h1, h2, h2', h3, FH.has, hE]
      · simp [h1, h2, h2', h3, FH.has, hE]
  · simp [h1, FH.has, hE]
theorem c_null (hI : FnIs P E.f_spec_Field_null nt_spec_Field_null (rs_spec_Field_null E) (ir_spec_Field_null E)) (h : FH) (sv : Value) (v : Int) (w : World) (n s l u : Value) (nul : Bool) :
    Ret P E.f_spec_Field_null #[.agg (h.cells ++ [sv]).toArray, .int .i64 v, .agg #[n, s, .bool nul, l, u]] w fun r w' => r = .bool (h.isNull v nul) ∧ Ext none1 w w' := by
  refine hI.call (args := [_, _, _]) (by simp [nt_spec_Field_null]) ?_
  have hE := ((Ext.refl none1 w).alloc (.cells (h.cells ++ [sv]).toArray E.t_spec_Field)).alloc (.cells #[n, s, .bool nul, l, u] E.t_spec_Tree)
  generalize hw2 : (w.alloc (.cells (h.cells ++ [sv]).toArray E.t_spec_Field)).alloc (.cells #[n, s, .bool nul, l, u] E.t_spec_Tree) = w2 at hE
  have hb0 : w2.heap[w.heap.size]? = some (.cells (h.cells ++ [sv]).toArray E.t_spec_Field (0, 0)) := by subst hw2; exact alloc_old alloc_new
  have hb1 : w2.heap[w.heap.size + 1]? = some (.cells #[n, s, .bool nul, l, u] E.t_spec_Tree (0, 0)) := by
    subst hw2
    have := alloc_new (w := w.alloc (.cells (h.cells ++ [sv]).toArray E.t_spec_Field)) (o := .cells #[n, s, .bool nul, l, u] E.t_spec_Tree)
    simpa using this
  have c3 : w2.cell? ⟨w.heap.size, 3, Option.none⟩ = some (.int .i64 h.null) := by rw [cell_of_blk hb0]; rfl
  have c2 : w2.cell? ⟨w.heap.size + 1, 2, Option.none⟩ = some (.bool nul) := by rw [cell_of_blk hb1]; rfl
  have hv : ∀ (a : Array Value), (Value.agg a).cells = a := fun a => rfl
  simp only [ir_spec_Field_null, rs_spec_Field_null]
  simp [hv, ht.f3, ht.t2, Addr.add_mk, ld_scl ht.kInt, ld_scl ht.kB, hw2, c2, c3]
  cases nul
  · simp [FH.isNull, hE]
  · by_cases h1 : 0 ≤ h.null
    · by_cases h2 : h.null ≤ v
      · simp [FH.isNull, hE, h1, h2]
      · simp [FH.isNull, hE, h1, h2]
    · simp [FH.isNull, hE, h1]
theorem c_whole (hI : FnIs P E.f_spec_whole nt_spec_whole (rs_spec_whole E) (ir_spec_whole E)) (w : World) (K : Nat → Prop) (v : Value) (s : List UInt8) (hs : BytesAt w K v s) :
    Ret P E.f_spec_whole #[v] w fun r w' => BytesAt w K r (s.take 32767) ∧ w' = w := by
  obtain ⟨a, c, rfl, hc⟩ := hs.len
  refine hI.call (args := [_]) (by simp [nt_spec_whole]) ?_
  simp [ir_spec_whole, rs_spec_whole, len_slice ht.uBs]
  rw [st_min (k := .i64) (a := s.length) (b := 32767) (by simp) (by simp)]
  obtain ⟨m, hm⟩ : ∃ m : Nat, m = min s.length 32767 := ⟨_, rfl⟩
  have e : (if (32767 : Int) < (s.length : Int) then (32767 : Int) else (s.length : Int)) = (m : Int) := by split <;> omega
  have hmc : m ≤ c := by omega
  simp [e, slice_hi ht.sBs.siz hmc]
  rcases hs with ⟨⟨a', hv⟩, rfl⟩ | ⟨b, o, c', hv, h2, hk, h3⟩
  · cases hv
    have : m = 0 := by simpa using hm
    subst this
    exact .inl ⟨⟨a, by simp⟩, by simp⟩
  · cases hv
    refine .inr ⟨b, o, c, ?_, by simp; omega, fun h => hk (by rintro rfl; simp at h), ?_⟩
    · simp [Addr.add_mk]; omega
    · intro i x hx
      rw [List.getElem?_take] at hx
      split at hx
      · exact h3 _ _ hx
      · cases hx
end
end Go.Kg

set_option linter.unusedSimpArgs false
set_option linter.unusedVariables false
namespace Go.Kg
open Go
def countedS (flex nul : Bool) (n : Nat) (size : Nat) : List UInt8 :=
  if flex && nul then [0] else if flex then uvS (n + 1) else if nul then fixE size (-1) else fixE size n
/-- the fields of a list, one after another -/
def FS.len : FS → Nat
  | .nil => 0
  | .cons _ _ r => r.len + 1
theorem FsCells.len {w : World} : ∀ {F : FS} {ls : List (List Value)}, FsCells w ls F → ls.length = F.len
  | .nil, [], _ => rfl
  | .cons h sub rest, c :: cs, hh => by simp [FS.len, FsCells.len hh.2]
  | .nil, c :: cs, hh => hh.elim
  | .cons h sub rest, [], hh => hh.elim
/-- the greatest known tag and one -/
def FS.known : FS → Nat
  | .nil => 0
  | .cons h _ r => max (if 0 ≤ h.tag then (h.tag.toNat + 1) % 4294967296 else 0) r.known
section
variable {P : Program} {E : Env} (ht : TyF P E)
include ht
theorem c_things (hI : FnIs P E.f_spec_things nt_spec_things (rs_spec_things E) (ir_spec_things E)) (w : World) (v : Value) (ls : Option (List (List Value))) (hs : ArrE w All 5 v ls) :
    Ret P E.f_spec_things #[v] w fun r w' => ArrE w All 5 r (ls.map (·.take 32767)) ∧ w' = w := by
  obtain ⟨a, c, rfl, hnone, hmax⟩ := hs.form
  refine hI.call (args := [_]) (by simp [nt_spec_things]) ?_
  obtain ⟨Et, j, hu, _, _⟩ := sliSz_spec ht.sT
  simp [ir_spec_things, rs_spec_things, len_slice hu]
  rw [st_min (k := .i64) (a := (ls.getD []).length) (b := 32767) (by simp) (by simp)]
  obtain ⟨m, hm⟩ : ∃ m : Nat, m = min (ls.getD []).length 32767 := ⟨_, rfl⟩
  have e : (if (32767 : Int) < ((ls.getD []).length : Int) then (32767 : Int) else ((ls.getD []).length : Int)) = (m : Int) := by split <;> omega
  have hc : (ls.getD []).length ≤ c := by
    cases ls with
    | none => simp
    | some ls => obtain ⟨b, o, c', h, _, hn, _⟩ := hs; cases h; exact hn.1
  have hmc : m ≤ c := by omega
  simp [e, slice_hi ht.sT hmc]
  cases ls with
  | none =>
    have hm0 : m = 0 := by simp at hm; exact hm
    subst hm0
    obtain ⟨a', h0⟩ := (show ∃ a', Value.slice a 0 c = .slice a' 0 0 from hs)
    cases h0
    exact ⟨a, by simp⟩
  | some ls =>
    obtain ⟨b, o, c', h, hk, hn, hx⟩ := hs
    cases h
    refine ⟨b, o, c, ?_, trivial, ⟨by simp; omega, by simp; omega⟩, ?_⟩
    · simp [Addr.add_mk]; simp at hm; omega
    · intro i cs hi
      rw [List.getElem?_take] at hi
      split at hi
      · exact hx i cs hi
      · cases hi
theorem c_counted (hI : FnIs P E.f_spec_counted nt_spec_counted (rs_spec_counted E) (ir_spec_counted E)) (hF : ∀ (n : Int) (k : Nat), k ≤ 8 → SpC P E.tU8 E.f_spec_Fixed [.int .i64 n, .int .i64 k] (fixE k n))
    (hU : ∀ n : Nat, n < 18446744073709551616 → SpC P E.tU8 E.f_spec_Uvarint [.int .u64 n] (uvS n)) (flex nul : Bool) (n size : Nat) (hn : n ≤ 1099511627776) (hz : size ≤ 8) :
    SpC P E.tU8 E.f_spec_counted [.bool flex, .bool nul, .int .i64 n, .int .i64 size] (countedS flex nul n size) := by
  intro w
  refine hI.call (args := [_, _, _, _]) (by simp [nt_spec_counted]) ?_
  have e1 : IntKind.u64.wrap (n : Int) = (n : Nat) := by simp [IntKind.wrap, IntKind.signed, IntKind.bits]; omega
  have e2 : IntKind.u64.wrap ((n : Int) + 1) = ((n + 1 : Nat) : Int) := by simp [IntKind.wrap, IntKind.signed, IntKind.bits]; omega
  cases flex
  · simp [ir_spec_counted, rs_spec_counted]
    refine cw_false (by simp) ?_
    simp
    refine cw_false (by simp) ?_
    cases nul
    · simp
      refine cw_false (by simp) ?_
      simpa [countedS] using hF n size hz w
    · simp
      refine cw_true (by simp) ?_
      simpa [countedS] using hF (-1) size hz w
  · cases nul
    · simp [ir_spec_counted, rs_spec_counted]
      refine cw_false (by simp) ?_
      simp
      refine cw_true (by simp) ?_
      simp [ht.iInt, ht.iU64, e1, e2]
      simpa [countedS] using hU (n + 1) (by omega) w
    · simp [ir_spec_counted, rs_spec_counted]
      refine cw_true (by simp) ?_
      simp [st_bsl ht.sBs, denseFrom, allSz, flat, Value.cells]
      simpa [countedS] using fresh_lit (u8 := E.tU8) (w := w) (bs := [0]) (by simp [cellsOf]) (by simp)
theorem c_at (hI : FnIs P E.f_spec_at nt_spec_at (rs_spec_at E) (ir_spec_at E)) (w : World) (cs : List Value) (t : Tr) (hT : TreeAt w cs t) (i : Nat) (hi : i ≤ 1099511627776) :
    Ret P E.f_spec_at #[.agg cs.toArray, .int .i64 i] w fun r w' => ∃ cs', r = .agg cs'.toArray ∧ TreeAt w' cs' (t.at i) ∧ Ext none1 w w' := by
  refine hI.call (args := [_, _]) (by simp [nt_spec_at]) ?_
  obtain ⟨hn, hs, ha, hl, he, hu⟩ := hT
  rename_i n s nul l u sv lv uv ls
  have hv : ∀ (a : Array Value), (Value.agg a).cells = a := fun a => rfl
  generalize hw1 : (w.alloc (.cells #[.int .i64 n, sv, .bool nul, lv, uv] E.t_spec_Tree)).alloc (.cells #[.int .i64 0, .slice none 0 0, .bool false, .slice none 0 0, .slice none 0 0] E.t_spec_Tree) = w1
  have hE : Ext none1 w w1 := by subst hw1; exact ((Ext.refl none1 w).alloc _).alloc _
  have hsz : w1.heap.size = w.heap.size + 2 := by subst hw1; simp
  have hb0 : w1.heap[w.heap.size]? = some (.cells #[.int .i64 n, sv, .bool nul, lv, uv] E.t_spec_Tree (0, 0)) := by subst hw1; exact alloc_old alloc_new
  have hb1 : w1.heap[w.heap.size + 1]? = some (.cells #[.int .i64 0, .slice none 0 0, .bool false, .slice none 0 0, .slice none 0 0] E.t_spec_Tree (0, 0)) := by
    subst hw1
    have := alloc_new (w := w.alloc (.cells #[.int .i64 n, sv, .bool nul, lv, uv] E.t_spec_Tree)) (o := .cells #[.int .i64 0, .slice none 0 0, .bool false, .slice none 0 0, .slice none 0 0] E.t_spec_Tree)
    simpa using this
  have c3 : w1.cell? ⟨w.heap.size, 3, none⟩ = some lv := by rw [cell_of_blk hb0]; rfl
  obtain ⟨a, c, rfl, hnone, hmax⟩ := ha.form
  obtain ⟨Et, jt, hut, _, _⟩ := sliSz_spec ht.sT
  simp [ir_spec_at, rs_spec_at, hv, ht.zT, ht.t3, Addr.add_mk, ld_scl ht.kLT, hw1, c3, len_slice hut]
  have hbs : ∀ (x : List Value), x.length = 5 → over #[.int .i64 0, .slice none 0 0, .bool false, .slice none 0 0, .slice none 0 0] 0 x = x.toArray := by
    intro x hx
    simp [over, hx]
  -- what is stored in the second box
  have fin : ∀ (x : List Value) (t' : Tr), x.length = 5 → TreeAt w x t' → t' = Tr.at (.mk n s nul l u) i →
      optK (((cellsFrom (w1.setBlk (w.heap.size + 1) (.cells x.toArray E.t_spec_Tree (0, 0))) ⟨w.heap.size + 1, 0, none⟩ 0 5).map fun cs => Value.agg cs.toArray).bind fun v => some [v]) fun vs =>
        ∃ cs', tupOf vs = .agg cs'.toArray ∧ TreeAt (w1.setBlk (w.heap.size + 1) (.cells x.toArray E.t_spec_Tree (0, 0))) cs' (Tr.at (.mk n s nul l u) i) ∧ Ext none1 w (w1.setBlk (w.heap.size + 1) (.cells x.toArray E.t_spec_Tree (0, 0))) := by
    intro x t' hx hT ht'
    have := cellsFrom_row (setBlk_same (o := .cells x.toArray E.t_spec_Tree (0, 0)) hb1)
    rw [show x.toArray.size = 5 by simpa using hx] at this
    rw [this]
    have he2 : Ext none1 w (w1.setBlk (w.heap.size + 1) (.cells x.toArray E.t_spec_Tree (0, 0))) := hE.setBlk (.inl (by omega)) _
    exact ⟨x, rfl, by rw [← ht']; exact hT.ext he2, he2⟩
  have one : ∀ (x : List Value) (t' : Tr), TreeAt w x t' → x.length = 5 ∧ allOne x = true := by
    intro x t' h
    cases h with
    | mk hn hs ha hl he hu =>
      obtain ⟨a1, c1, rfl, _⟩ := hs.len
      obtain ⟨a2, c2, rfl, _⟩ := ha.form
      obtain ⟨lu, hu1, _⟩ := hu
      obtain ⟨a3, c3, rfl, _⟩ := hu1.form
      simp [allOne, Value.oneCell']
  by_cases hlt : i < (ls.getD []).length
  · refine cw_true (by simp; omega) ?_
    cases ls with
    | none => simp at hlt
    | some ls =>
      obtain ⟨bb, oo, cc, hv', _, _, hx⟩ := ha
      cases hv'
      simp only [Option.getD_some] at hlt he hl
      obtain ⟨x, hxx⟩ : ∃ x, ls[i]? = some x := ⟨_, List.getElem?_eq_getElem hlt⟩
      obtain ⟨t', htt⟩ : ∃ t', l[i]? = some t' := ⟨_, List.getElem?_eq_getElem (by omega)⟩
      have hTx := he i x t' hxx htt
      obtain ⟨h5, h1⟩ := one x t' hTx
      have hcx := (hx i x hxx).2.ext (K := All) hE (fun _ _ _ h => h) trivial
      have hcf := cellsFrom_seg (o := 0) hcx (u := x.toArray) (fun j v hj => by simpa using hj)
      simp only [Nat.add_zero, List.size_toArray, h5] at hcf
      simp [ht.t3, Addr.add_mk, ld_scl ht.kLT, c3, idx?, ht.sT, hlt, ld_agg ht.kT, hcf, store_agg ht.kT, h5, h1, putK_blk hb1]
      rw [hbs x h5]
      have hat : t' = Tr.at (.mk n s nul l u) i := by simp [Tr.at, Tr.l, htt]
      simpa using fin x t' h5 hTx hat
  · refine cw_false (by simp; omega) ?_
    obtain ⟨fs, hfs⟩ : ∃ fs, P.underlying E.t_spec_Tree = some (.struct fs) := ht.sTr
    have hb : bldA? P E.t_spec_Tree = some (.agg #[.int .i64 0, .slice none 0 0, .bool false, .slice none 0 0, .slice none 0 0]) := by
      simp [bldA?, hfs, ht.zT, ht.pT, Value.cells]
    simp [hb, ld_agg ht.kT, store_agg ht.kT, putK_blk hb1, allOne, Value.oneCell']
    rw [hbs _ rfl]
    have hl0 : (Tr.at (.mk n s nul l u) i) = Tr.none := by
      have : l[i]? = none := List.getElem?_eq_none (by omega)
      simp [Tr.at, Tr.l, this]
    simpa using fin [.int .i64 0, .slice none 0 0, .bool false, .slice none 0 0, .slice none 0 0] Tr.none rfl (TreeAt.none w) hl0.symm
end
end Go.Kg

set_option linter.unusedSimpArgs false
set_option linter.unusedVariables false
namespace Go.Kg
open Go
/-- the fields' heads -/
def FS.heads : FS → List FH
  | .nil => []
  | .cons h _ r => h :: r.heads
def FS.subs : FS → List FS
  | .nil => []
  | .cons _ s r => s :: r.subs
theorem FS.heads_len : ∀ F : FS, F.heads.length = F.len
  | .nil => rfl
  | .cons h s r => by simp [FS.heads, FS.len, FS.heads_len r]
theorem FsCells.get {w : World} : ∀ {F : FS} {ls : List (List Value)} {i : Nat} {c : List Value}, FsCells w ls F → ls[i]? = some c → ∃ h sub sv l, F.heads[i]? = some h ∧ F.subs[i]? = some sub ∧ c = h.cells ++ [sv] ∧ ArrAt w All 8 sv l ∧ FsCells w (l.getD []) sub := by
  intro F
  induction F with
  | nil => intro ls i c hh hc; cases ls with
    | nil => simp at hc
    | cons c cs => exact hh.elim
  | cons h sub rest ihs ihr =>
    intro ls i c hh hc
    cases ls with
    | nil => exact hh.elim
    | cons d cs =>
      obtain ⟨⟨sv, l, h1, h2, h3⟩, h4⟩ := hh
      cases i with
      | zero => simp at hc; subst hc; exact ⟨h, sub, sv, l, rfl, rfl, h1, h2, h3⟩
      | succ i => exact ihr h4 (by simpa using hc)
/-- a number fits 64 bits -/
def fits (n : Int) : Prop := -9223372036854775808 ≤ n ∧ n < 9223372036854775808
def FH.ok (h : FH) : Prop := -1 ≤ h.tag ∧ h.tag < 1000
/-- The known tags, from the left. -/
def knownL (l : List FH) : Nat := l.foldl (fun n h => if 0 ≤ h.tag then max n (h.tag.toNat + 1) else n) 0
def KnInv (E : Env) (fv : Value) (l : List FH) (w : World) (f : Nat → Value) (w' : World) : Prop :=
  ∃ i, i ≤ l.length ∧ f 8 = .int .i64 i ∧ f 7 = .int .i64 l.length ∧ f 6 = fv ∧ f 3 = .int .u32 (knownL (l.take i)) ∧ Ext none1 w w'
theorem knownL_lt (l : List FH) (hl : ∀ h ∈ l, FH.ok h) : knownL l ≤ 1000 := by
  have : ∀ (l : List FH) (n : Nat), n ≤ 1000 → (∀ h ∈ l, FH.ok h) → l.foldl (fun n h => if 0 ≤ h.tag then max n (h.tag.toNat + 1) else n) n ≤ 1000 := by
    intro l
    induction l with
    | nil => intro n hn _; simpa using hn
    | cons a l ih =>
      intro n hn hl
      rw [List.foldl_cons]
      refine ih _ ?_ (fun h hh => hl h (List.mem_cons_of_mem _ hh))
      have := hl a List.mem_cons_self
      unfold FH.ok at this
      split <;> omega
  exact this l 0 (by omega) hl
theorem cellsFrom_list0 {w : World} {b o : Nat} {cs : List Value} (h : CellsAt w b o cs) : cellsFrom w ⟨b, o, none⟩ 0 cs.length = some cs := by
  have := cellsFrom_list (w := w) cs b o 0 (fun j v hj => by have := h j v hj; rwa [Nat.zero_add])
  exact this
@[simp] theorem FH.cells_len7 (h : FH) : h.cells.length = 7 := rfl
theorem FH.cells_len (h : FH) (sv : Value) : (h.cells ++ [sv]).length = 8 := by simp [FH.cells]
theorem FH.cells_one (h : FH) {sv : Value} (hs : sv.oneCell' = true) : allOne (h.cells ++ [sv]) = true := by
  simp only [FH.cells, List.cons_append, List.nil_append, allOne, hs, Bool.and_true]
  rfl
def zField : Array Value := #[.int .i64 0, .int .i64 0, .int .i64 0, .int .i64 0, .int .i64 0, .int .i64 0, .int .i64 0, .slice none 0 0]
theorem over_z8 {x : List Value} (hx : x.length = 8) : over zField 0 x = x.toArray := by simp [over, hx, zField]
section
variable {P : Program} {E : Env} (ht : TyF P E)
include ht
theorem c_known (hI : FnIs P E.f_spec_known nt_spec_known (rs_spec_known E) (ir_spec_known E)) (w : World) (fv : Value) (F : FS) (hF : FsAt w fv F) (hok : ∀ h ∈ F.heads, FH.ok h) :
    Ret P E.f_spec_known #[fv] w fun r w' => r = .int .u32 (knownL F.heads) ∧ Ext none1 w w' := by
  obtain ⟨ls, ha, hc⟩ := hF
  obtain ⟨a, c, rfl, hnone, hmax⟩ := ha.form
  have hlen : (ls.getD []).length = F.heads.length := by rw [hc.len, FS.heads_len]
  refine hI.call (args := [_]) (by simp [nt_spec_known]) ?_
  obtain ⟨Et, jt, hut, _, _⟩ := sliSz_spec ht.sF
  simp [ir_spec_known, rs_spec_known, len_slice hut]
  refine cw_loop (KnInv E (.slice a (ls.getD []).length c) F.heads w) (fun f _ => match f 8 with | .int _ i => ((F.heads.length : Int) - i).toNat | _ => 0) ?_ ?_
  · exact ⟨0, by omega, by simp, by simp [hlen], by simp, by simp [knownL], Ext.refl _ _⟩
  · rintro f w' ⟨i, hi, h8, h7, h6, h3, he⟩
    simp [h8, h7]
    by_cases hlt : i < F.heads.length
    · refine cw_true (by simp; omega) ?_
      cases ls with
      | none => simp at hlen; omega
      | some ls =>
        obtain ⟨bb, oo, cc, hv', _, _, hx⟩ := ha
        cases hv'
        simp only [Option.getD_some] at hlen hc hmax
        obtain ⟨x, hxx⟩ : ∃ x, ls[i]? = some x := ⟨_, List.getElem?_eq_getElem (by omega)⟩
        obtain ⟨h, sub, sv, l, hh, hsub, rfl, hsv, hsc⟩ := hc.get hxx
        have hcx := (hx i _ hxx).2.ext (K := All) he (fun _ _ _ h => h) trivial
        have hcf := cellsFrom_list0 hcx
        rw [FH.cells_len] at hcf
        obtain ⟨sa, sc, rfl, _⟩ := hsv.form
        have hi' : i < ls.length := by omega
        have hz : zeroOf P E.t_spec_Field = some (.agg zField) := ht.zF
        have hzz : zField.size = 8 := rfl
        have hzc : (Value.agg zField).cells = zField := rfl
        have hone := FH.cells_one h (sv := Value.slice sa (l.getD []).length sc) rfl
        simp [h8, h7, h6, h3, idx?, ht.sF, hi', Addr.add_mk, ld_agg ht.kF, hcf, hz, hzc, store_agg ht.kF, hone, putK_blk alloc_new, hzz]
        have hcl := FH.cells_len h (.slice sa (l.getD []).length sc)
        rw [over_z8 hcl]
        generalize hw2 : (w'.alloc (.cells zField E.t_spec_Field)).setBlk w'.heap.size (.cells (h.cells ++ [Value.slice sa (l.getD []).length sc]).toArray E.t_spec_Field (0, 0)) = w2
        have hb2 : w2.heap[w'.heap.size]? = some (.cells (h.cells ++ [Value.slice sa (l.getD []).length sc]).toArray E.t_spec_Field (0, 0)) := by subst hw2; exact setBlk_same alloc_new
        have he2 : Ext none1 w w2 := by subst hw2; exact (he.alloc _).setBlk (.inl he.size) _
        have c4 : w2.cell? ⟨w'.heap.size, 4, none⟩ = some (.int .i64 h.tag) := by rw [cell_of_blk hb2]; rfl
        have hhk := hok h (List.mem_of_getElem? hh)
        unfold FH.ok at hhk
        have hkl := knownL_lt (F.heads.take i) (fun h hh => hok h (List.mem_of_mem_take hh))
        have hks : knownL (F.heads.take (i + 1)) = (if 0 ≤ h.tag then max (knownL (F.heads.take i)) (h.tag.toNat + 1) else knownL (F.heads.take i)) := by
          unfold knownL
          rw [List.take_add_one, hh]
          simp
        have ei : IntKind.i64.wrap ((i : Int) + 1) = ((i + 1 : Nat) : Int) := by rw [i64_small (by omega) (by omega)]; rfl
        simp [ht.f4, Addr.add_mk, ld_scl ht.kInt, c4]
        by_cases htag : 0 ≤ h.tag
        · refine cw_true (by simp [htag]) ?_
          have e1 : IntKind.u32.wrap h.tag = h.tag := by simp [IntKind.wrap, IntKind.signed, IntKind.bits]; omega
          have e2 : IntKind.u32.wrap (h.tag + 1) = h.tag + 1 := by simp [IntKind.wrap, IntKind.signed, IntKind.bits]; omega
          simp [ht.f4, Addr.add_mk, ld_scl ht.kInt, c4, ht.iInt, ht.iU32, e1, e2, h3]
          rw [st_max (k := .u32) (a := knownL (F.heads.take i)) (b := h.tag + 1) (by simp [h3]) (by simp)]
          have e3 : (if (h.tag + 1 : Int) > (knownL (F.heads.take i) : Int) then h.tag + 1 else (knownL (F.heads.take i) : Int)) = (knownL (F.heads.take (i + 1)) : Int) := by
            rw [hks, if_pos htag]; split <;> omega
          simp [h8, h7, h6, ei, e3]
          exact ⟨⟨i + 1, by omega, by simp, by simp [h7], by simp [h6], by simp, he2⟩, by omega⟩
        · refine cw_false (by simp [htag]) ?_
          simp [h8, h7, h6, ei]
          refine ⟨⟨i + 1, by omega, by simp, by simp [h7], by simp [h6], ?_, he2⟩, by omega⟩
          rw [hks, if_neg htag]; simp [h3]
    · refine cw_false (by simp; omega) ?_
      have : i = F.heads.length := by omega
      subst this
      simp [h3, he]
end
end Go.Kg

set_option linter.unusedSimpArgs false
set_option linter.unusedVariables false
namespace Go.Kg
open Go
def SmInv (va vb : Value) (s t : List UInt8) (w : World) (f : Nat → Value) (w' : World) : Prop :=
  ∃ i, i ≤ s.length ∧ s.take i = t.take i ∧ f 13 = .int .i64 i ∧ f 12 = .int .i64 s.length ∧ f 0 = va ∧ f 1 = vb ∧ Ext none1 w w'
theorem take_eq_succ {s t : List UInt8} {i : Nat} {x : UInt8} (h : s.take i = t.take i) (hs : s[i]? = some x) (ht : t[i]? = some x) : s.take (i + 1) = t.take (i + 1) := by
  rw [List.take_add_one, List.take_add_one, h, hs, ht]
theorem c_Same {P : Program} {E : Env} (ht : TyF P E) (hI : FnIs P E.f_spec_Same nt_spec_Same (rs_spec_Same E) (ir_spec_Same E)) (w : World) (K K' : Nat → Prop) (va vb : Value) (s t : List UInt8) (hs : BytesAt w K va s) (hb : BytesAt w K' vb t) (hls : s.length ≤ 1099511627776) :
    Ret P E.f_spec_Same #[va, vb] w fun r w' => r = .bool (s == t) ∧ Ext none1 w w' := by
  obtain ⟨a1, c1, rfl, _⟩ := hs.len
  obtain ⟨a2, c2, rfl, _⟩ := hb.len
  refine hI.call (args := [_, _]) (by simp [nt_spec_Same]) ?_
  simp [ir_spec_Same, rs_spec_Same, len_slice ht.uBs]
  by_cases hl : s.length = t.length
  · refine cw_false (by simp [hl]) ?_
    simp [len_slice ht.uBs]
    refine cw_loop (SmInv (.slice a1 s.length c1) (.slice a2 t.length c2) s t w) (fun f _ => match f 13 with | .int _ i => ((s.length : Int) - i).toNat | _ => 0) ?_ ?_
    · exact ⟨0, by omega, by simp, by simp, by simp, by simp, by simp, Ext.refl _ _⟩
    · rintro f w' ⟨i, hi, hp, h13, h12, h0, h1, he⟩
      simp [h13, h12]
      by_cases hlt : i < s.length
      · refine cw_true (by simp; omega) ?_
        obtain ⟨x, hx⟩ : ∃ x, s[i]? = some x := ⟨_, List.getElem?_eq_getElem hlt⟩
        obtain ⟨y, hy⟩ : ∃ y, t[i]? = some y := ⟨_, List.getElem?_eq_getElem (by omega)⟩
        rcases hs with ⟨_, h⟩ | ⟨b1, o1, c1', hv1, _, _, hc1⟩
        · subst h; simp at hx
        cases hv1
        rcases hb with ⟨_, h⟩ | ⟨b2, o2, c2', hv2, _, _, hc2⟩
        · subst h; simp at hy
        cases hv2
        simp [h13]
        refine cw_regH (Ext none1 w) he.drew ?_
        have heD := he.drew
        have x1 : ∀ w', Ext none1 w w' → w'.cell? ⟨b1, o1 + i, none⟩ = some (.int .u8 x.toNat) := fun w' h => h.cell (hc1 i x hx) (fun h => h)
        have y1 : ∀ w', Ext none1 w w' → w'.cell? ⟨b2, o2 + i, none⟩ = some (.int .u8 y.toNat) := fun w' h => h.cell (hc2 i y hy) (fun h => h)
        have hlt2 : i < t.length := by omega
        have ei : IntKind.i64.wrap ((i : Int) + 1) = ((i + 1 : Nat) : Int) := by rw [i64_small (by omega) (by omega)]; rfl
        simp +contextual [h13, h12, h0, h1, idx?, ht.sBs.siz, hlt, hlt2, Addr.add_mk, ld_scl ht.kU8, x1, y1, x1 w' he, y1 w' he, heD]
        by_cases hxy : x = y
        · subst hxy
          refine cw_false (by simp) ?_
          simp [h13, ei]
          exact ⟨⟨i + 1, by omega, take_eq_succ hp hx hy, by simp, by simp [h12], by simp [h0], by simp [h1], heD⟩, by omega⟩
        · refine cw_true (by simp; intro h; exact hxy (UInt8.toNat_inj.1 (by omega))) ?_
          simp
          refine ⟨?_, heD⟩
          rintro rfl
          rw [hx] at hy
          exact hxy (by simpa using hy)
      · refine cw_false (by simp; omega) ?_
        have : i = s.length := by omega
        subst this
        rw [List.take_length, hl, List.take_length] at hp
        simp [hp, he]
  · refine cw_true (by simp; omega) ?_
    simp [Ext.refl]
    rintro rfl
    exact hl rfl
end Go.Kg

set_option linter.unusedSimpArgs false
set_option linter.unusedVariables false
namespace Go.Kg
open Go
/-- A field's head, what is written of its parts, and whether these are as by default. -/
structure FE where
  h : FH
  part : Tr → List UInt8
  usual : Tr → Bool
  known : Nat
/-- value -/
def valS (kind : Int) (part : Tr → List UInt8) (nul : Bool) (flex : Bool) (t : Tr) : List UInt8 :=
  if kind = 0 then [bval (t.n % 2)]
  else if kind = 7 then (t.s ++ List.replicate 16 0).take 16
  else if kind = 8 then countedS flex nul (if nul then [] else t.s.take 32767).length 2 ++ (if nul then [] else t.s.take 32767)
  else if kind = 9 then countedS flex nul (if nul then [] else t.s.take 32767).length 4 ++ (if nul then [] else t.s.take 32767)
  else if kind = 10 then part t
  else fixE (widthS kind) t.n
/-- field -/
def fieldS (x : FE) (ver : Int) (flex : Bool) (t : Tr) : List UInt8 :=
  let nul := x.h.isNull ver t.nul
  if x.h.kind = 11 then
    let l := if nul then [] else t.l.take 32767
    countedS flex nul l.length 4 ++ l.flatMap (valS x.h.of_ x.part false flex)
  else if x.h.kind = 10 ∧ 0 ≤ x.h.null then
    if nul then fixE 1 (-1) else fixE 1 1 ++ x.part t
  else valS x.h.kind x.part nul flex t
/-- usual -/
def usualS (x : FE) (t : Tr) : Bool :=
  if x.h.kind = 0 then t.n % 2 == x.h.dflt
  else if x.h.kind = 7 then (t.s.take 16).all (· == 0)
  else if x.h.kind = 8 ∨ x.h.kind = 9 then (if 0 ≤ x.h.null then t.nul else t.s.isEmpty)
  else if x.h.kind = 11 then t.l.isEmpty
  else if x.h.kind = 10 then x.usual t
  else fixE (widthS x.h.kind) t.n == fixE (widthS x.h.kind) x.h.dflt
/-- a tag goes in by rising keys; the first one of a key counts; none below 'least' -/
def insU {α : Type} (least : Nat) (x : Nat × α) (out : List (Nat × α)) : List (Nat × α) :=
  if x.1 < least then out
  else match out with
    | [] => [x]
    | y :: r => if y.1 < x.1 then y :: insU least x r else if y.1 = x.1 then y :: r else x :: y :: r
def unkS {α : Type} (least : Nat) (u : List (Nat × α)) : List (Nat × α) := (u.take 32767).foldl (fun out x => insU least x out) []
def tagS (k : Nat) (b : List UInt8) : List UInt8 := uvS k ++ uvS b.length ++ b
/-- part, of the fields' own texts -/
def partL (l : List FE) (ver : Int) (flex : Bool) (t : Tr) : List UInt8 :=
  let plain := l.zipIdx.flatMap fun (x, i) => if x.h.tag < 0 ∧ x.h.has ver = true then fieldS x ver flex (t.at i) else []
  if flex then
    let kn := (List.range (knownL (l.map (·.h)))).flatMap fun k => l.zipIdx.flatMap fun (x, i) => if x.h.tag = k ∧ usualS x (t.at i) = false then [(k, fieldS x ver flex (t.at i))] else []
    let un := (unkS (knownL (l.map (·.h))) t.u).map fun x => (x.1, x.2.take 32767)
    plain ++ uvS (kn ++ un).length ++ (kn ++ un).flatMap fun x => tagS x.1 x.2
  else plain
def usualL (l : List FE) (t : Tr) : Bool := (l.zipIdx.all fun (x, i) => usualS x (t.at i)) && (unkS (knownL (l.map (·.h))) t.u).isEmpty
def FS.list (ver : Int) (flex : Bool) : FS → List FE
  | .nil => []
  | .cons h sub rest => ⟨h, partL (sub.list ver flex) ver flex, usualL (sub.list ver flex), knownL ((sub.list ver flex).map (·.h))⟩ :: rest.list ver flex
def partS (F : FS) (ver : Int) (flex : Bool) (t : Tr) : List UInt8 := partL (F.list ver flex) ver flex t
end Go.Kg

set_option linter.unusedSimpArgs false
set_option linter.unusedVariables false
namespace Go.Kg
open Go
theorem i64_and1 (n : Int) : bits .and .i64 n 1 = n % 2 := by
  have h1 : (BitVec.ofInt 64 1).toNat = 2 ^ 1 - 1 := by decide
  have key : (BitVec.ofInt 64 n &&& BitVec.ofInt 64 1).toNat = (n % ((2 ^ 64 : Nat) : Int)).toNat % 2 ^ 1 := by
    rw [BitVec.toNat_and, BitVec.toNat_ofInt, h1, Nat.and_two_pow_sub_one_eq_mod]
  show IntKind.i64.wrap ((BitVec.ofInt 64 n &&& BitVec.ofInt 64 1).toNat : Nat) = n % 2
  rw [key, IntKind.wrap_i64]
  omega
theorem countedS_len {flex nul : Bool} {n size : Nat} (hn : n ≤ 1099511627776) (hs : size ≤ 8) : (countedS flex nul n size).length ≤ 10 := by
  unfold countedS
  split
  · simp
  · split
    · exact Nat.le_trans (uvS_len (k := 9) (by simp; omega)) (by omega)
    · split
      · rw [fixE_len]; omega
      · rw [fixE_len]; omega
theorem st_copyN {P : Program} {f : Nat → Value} {ty : TypeId} {w : World} {K : Value → World → Prop} {t e n g : Nat} {tc : TypeId} {cur : Array Value} {x y : Operand} (ht : P.underlying t = some (.slice e)) (hs : (P.info? e).map (·.size) = some 1)
    (hx : evF f x = .slice (some ⟨g, 0, none⟩) n n) (hg : w.heap[g]? = some (.cells cur tc (0, 0))) (hn : cur.size = n) {C : Nat → Prop} {s : List UInt8} (hy : BytesAt w C (evF f y) s) :
    stepF P f (.call { callee := .builtin .copy, args := #[x, y], argTypes := #[t, t] }) ty w K =
      K (.int .i64 (s.take n).length) (if s.take n = [] then w else w.setBlk g (.cells (cellsOf (s.take n) ++ cur.toList.drop (s.take n).length).toArray tc (0, 0))) := by
  have hg64 : ∀ k : Nat, goInt (k : Int) = .int .i64 k := fun k => rfl
  by_cases h0 : s.take n = []
  · rw [if_pos h0, h0]
    have hr : ∃ a m c, evF f y = .slice a m c ∧ Nat.min m n = 0 := by
      have : s.length = 0 ∨ n = 0 := by
        rcases s with _ | ⟨b, s⟩
        · exact .inl rfl
        · cases n with
          | zero => exact .inr rfl
          | succ n => simp at h0
      rcases hy with ⟨⟨_, h⟩, _⟩ | ⟨b, o, c, h, _⟩
      · exact ⟨_, _, _, h, by simp⟩
      · refine ⟨_, _, _, h, ?_⟩
        show min _ _ = 0
        omega
    obtain ⟨a, m, c, h, hm⟩ := hr
    refine stepF_ok ?_
    have := run_copy_none (P := P) w t t ty e (some ⟨g, 0, none⟩) a n n m c ht hs hm
    simp only [runF, execOp, resolve, invoke, builtin, Sem.run_bind, Sem.run_pure, Result.andThen_ok, List.map_toArray, List.map_cons, List.map_nil, hx, h, this]
    rfl
  · rw [if_neg h0]
    rcases hy with ⟨_, h⟩ | ⟨b, o, c, h, hc, _, hcc⟩
    · subst h; simp at h0
    refine stepF_ok ?_
    have := run_copy_row (P := P) w t t ty e g 0 n n ⟨b, o, none⟩ s.length c cur tc (cellsOf (s.take n)) ht hs hg (by simp [Nat.min_comm]) (by
      intro j v hj
      rw [Addr.add_mk]
      simp only [cellsOf, List.getElem?_map, Option.map_eq_some_iff] at hj
      obtain ⟨x', hx', rfl⟩ := hj
      rw [List.getElem?_take] at hx'
      split at hx'
      · exact hcc j x' hx'
      · cases hx') (by simp; omega) cellsOf_one
    simp only [runF, execOp, resolve, invoke, builtin, Sem.run_bind, Sem.run_pure, Result.andThen_ok, List.map_toArray, List.map_cons, List.map_nil, hx, h, this]
    rw [setRow_setBlk hg]
    simp
    exact hg64 _
theorem madeN (n : Nat) : madeCells (Value.int .u8 0).cells n = (cellsOf (List.replicate n 0)).toArray := by
  apply Array.ext
  · simp [madeCells, cellsOf]
  · intro j h1 h2
    simp [madeCells, cellsOf, Value.cells, Nat.mod_one]
theorem pad_take (s : List UInt8) (n : Nat) : (s ++ List.replicate n 0).take n = s.take n ++ (List.replicate n 0).drop (s.take n).length := by
  rw [List.take_append, List.take_replicate, List.drop_replicate, List.length_take]
  congr 2
  omega
/-- The tree's own box. -/
theorem tree_box {w : World} {cs : List Value} {t : Tr} (hT : TreeAt w cs t) : ∃ sv lv uv, cs = [.int .i64 t.n, sv, .bool t.nul, lv, uv] ∧ BytesAt w All sv t.s := by
  cases hT with
  | mk hn hs ha hl he hu => exact ⟨_, _, _, rfl, hs⟩
section
variable {P : Program} {E : Env} (ht : TyF P E)
include ht
theorem c_value (hI : FnIs P E.f_spec_value nt_spec_value (rs_spec_value E) (ir_spec_value E)) (hF : ∀ (n : Int) (k : Nat), k ≤ 8 → SpC P E.tU8 E.f_spec_Fixed [.int .i64 n, .int .i64 k] (fixE k n))
    (hWd : ∀ (kind : Int) (w : World), Ret P E.f_spec_width #[.int .i64 kind] w fun v w' => v = .int .i64 (widthS kind) ∧ w' = w)
    (hWh : ∀ (w : World) (K : Nat → Prop) (v : Value) (s : List UInt8), BytesAt w K v s → Ret P E.f_spec_whole #[v] w fun r w' => BytesAt w K r (s.take 32767) ∧ w' = w)
    (hC : ∀ (flex nul : Bool) (n size : Nat), n ≤ 1099511627776 → size ≤ 8 → SpC P E.tU8 E.f_spec_counted [.bool flex, .bool nul, .int .i64 n, .int .i64 size] (countedS flex nul n size))
    (kind : Int) (fv : Value) (part : Tr → List UInt8) (nul : Bool) (ver : Int) (flex : Bool) (w : World) (cs : List Value) (t : Tr) (hT : TreeAt w cs t)
    (hP : kind = 10 → ∀ w', Ext none1 w w' → Ret P E.f_spec_part #[fv, .int .i64 ver, .bool flex, .agg cs.toArray] w' fun v w2 => Fresh E.tU8 w' v w2 (part t)) :
    Ret P E.f_spec_value #[.int .i64 kind, fv, .bool nul, .int .i64 ver, .bool flex, .agg cs.toArray] w fun v w' => Fresh E.tU8 w v w' (valS kind part nul flex t) := by
  refine hI.call (args := [_, _, _, _, _, _]) (by simp [nt_spec_value]) ?_
  obtain ⟨sv, lv, uv, rfl, hs⟩ := tree_box hT
  have hv : ∀ (a : Array Value), (Value.agg a).cells = a := fun a => rfl
  generalize hw1 : w.alloc (.cells [Value.int .i64 t.n, sv, .bool t.nul, lv, uv].toArray E.t_spec_Tree) = w1
  have hE : Ext none1 w w1 := by subst hw1; exact (Ext.refl none1 w).alloc _
  have hb : w1.heap[w.heap.size]? = some (.cells [Value.int .i64 t.n, sv, .bool t.nul, lv, uv].toArray E.t_spec_Tree (0, 0)) := by subst hw1; exact alloc_new
  have c0 : w1.cell? ⟨w.heap.size, 0, none⟩ = some (.int .i64 t.n) := by rw [cell_of_blk hb]; rfl
  have c1 : w1.cell? ⟨w.heap.size, 1, none⟩ = some sv := by rw [cell_of_blk hb]; rfl
  have hs1 := hs.ext (K := All) hE (fun _ _ _ h => h)

  simp [ir_spec_value, rs_spec_value, hv, hw1]
  by_cases k0 : kind = 0
  · subst k0
    refine cw_true (by simp) ?_
    simp [ht.t0, Addr.add_mk, ld_scl ht.kI64, c0, ht.iI64, ht.iU8, u8wrap, bin?, i64_and1, st_bsl ht.sBs, denseFrom, allSz, flat, Value.cells]
    have := fresh_lit (u8 := E.tU8) (w := w1) (bs := [bval (t.n % 2)]) (cs := #[.int .u8 (bval (t.n % 2)).toNat]) (by simp [cellsOf]) (by simp)
    have h2 := Fresh.pre hE this
    simpa [valS] using h2
  refine cw_false (by simp [k0]) ?_
  simp
  by_cases k7 : kind = 7
  · subst k7
    refine cw_true (by simp) ?_
    have hsz8 : (P.info? E.tU8).map (·.size) = some 1 := by obtain ⟨i, h1, _, h3, _⟩ := ht.sBs.inf; simp [h1, h3]
    obtain ⟨i, hi, hz, hs1', hby⟩ := ht.sBs.inf
    have hmk := run_make (P := P) w1 E.tBs E.tU8 i _ ht.uBs hi hz .i64 .i64 16 16 (by omega) (by omega) (by rw [hby]; omega) (by omega)
    simp only [hs1'] at hmk
    simp only [cw_seq, cw_reg, regW_plain, stp_makeSlice]
    rw [stepF_ok (v := .slice (some ⟨w1.heap.size, 0, none⟩) 16 16) (w' := w1.alloc (.cells (madeCells (Value.int .u8 0).cells 16) E.tU8)) (by
      simp only [runF, execOp, evF_const, Sem.run_bind, hmk, Result.andThen_ok, Sem.run_pure]; rfl)]
    have hmc := madeN 16
    rw [hmc]
    have hl16 : (List.replicate 16 (0 : UInt8)).length = 16 := by simp
    generalize hzz : List.replicate 16 (0 : UInt8) = zz at *
    generalize hw2 : w1.alloc (.cells (cellsOf zz).toArray E.tU8) = w2
    have hE2 : Ext none1 w1 w2 := by subst hw2; exact (Ext.refl none1 w1).alloc _
    have hb2 : w2.heap[w1.heap.size]? = some (.cells (cellsOf zz).toArray E.tU8 (0, 0)) := by subst hw2; exact alloc_new
    have hc2 : w2.cell? ⟨w.heap.size, 1, none⟩ = some sv := hE2.cell c1 (fun h => h)
    have hs2 := hs1.ext (K := All) hE2 (fun _ _ _ h => h)
    simp [ht.t1, Addr.add_mk, ld_scl ht.kBs, hc2]
    rw [st_copyN (n := 16) (s := t.s) (C := All) ht.uBs hsz8 (by simp) hb2 (by simp [hl16]) (by simpa using hs2)]
    obtain ⟨w3, hw3, hb3, hE3⟩ : ∃ w3, (if t.s.take 16 = [] then w2 else w2.setBlk w1.heap.size (.cells (cellsOf (t.s.take 16) ++ (cellsOf zz).toArray.toList.drop (t.s.take 16).length).toArray E.tU8 (0, 0))) = w3 ∧
        w3.heap[w1.heap.size]? = some (.cells (cellsOf ((t.s ++ zz).take 16)).toArray E.tU8 (0, 0)) ∧ Ext none1 w w3 := by
      refine ⟨_, rfl, ?_, ?_⟩
      · split
        · rename_i h
          have h' : t.s = [] := by cases hh : t.s with
            | nil => rfl
            | cons a b => rw [hh] at h; simp at h
          rw [hb2, h', List.nil_append, List.take_of_length_le (by omega)]
        · rw [setBlk_same hb2]
          congr 3
          have hd : (t.s ++ zz).take 16 = t.s.take 16 ++ zz.drop (t.s.take 16).length := by rw [← hzz]; exact pad_take t.s 16
          rw [hd, cellsOf_append]
          simp [cellsOf, List.map_drop]
      · split
        · exact hE.trans hE2
        · exact (hE.trans hE2).setBlk (.inl hE.size) _
    rw [hw3]
    have hval : valS 7 part nul flex t = (t.s ++ zz).take 16 := by rw [← hzz]; rfl
    have hL : ((t.s ++ zz).take 16).length = 16 := by simp [hl16]
    rw [hval]
    generalize (t.s ++ zz).take 16 = q at hb3 hL ⊢
    refine ⟨⟨16, by simp [hL], .inr ⟨w1.heap.size, 16, _, rfl, hE.size, hb3, Nat.le_refl _, by simp [maxLen], by simp [hL], ?_⟩⟩, hE3⟩
    simp only [Nat.mul_one]
    exact List.take_of_length_le (by simp [hL])
  refine cw_false (by simp [k7]) ?_
  simp
  -- texts and octets
  have txt : ∀ (size : Nat), size ≤ 8 → ∀ (v : Value) (w2 : World), BytesAt w2 All v (if nul then [] else t.s.take 32767) → Ext none1 w w2 →
      True := fun _ _ _ _ _ _ => trivial
  by_cases k8 : kind = 8
  · subst k8
    refine cw_true (by simp) ?_
    simp [ht.t1, Addr.add_mk, ld_scl ht.kBs, c1]
    refine (hWh w1 All sv t.s hs1).mono ?_
    rintro v2 wx ⟨hv2, rfl⟩
    have hlen : (t.s.take 32767).length ≤ 32767 := by simp; omega
    cases nul
    · refine cw_false (by simp) ?_
      obtain ⟨a, c, rfl, hc⟩ := hv2.len
      simp [len_slice ht.uBs]
      refine (by simpa using hC flex false (t.s.take 32767).length 2 (by omega) (by omega) wx : Ret P _ _ _ _).mono ?_
      intro v3 w3 h3
      have hb3 := hv2.ext (K := All) h3.2 (fun _ _ _ h => h)
      refine st_app_bytes ht.sBs (by simp) h3.1 h3.2.size (k := All) (bs := t.s.take 32767) (by simpa using hb3) ?_ ?_
      · refine Nat.le_trans (Nat.add_le_add (countedS_len (by omega) (by omega)) hlen) (by omega)
      intro v4 w4 ho hg
      have h4 := Fresh.pre hE (h3.grow ho hg)
      simpa [valS] using h4
    · refine cw_true (by simp) ?_
      simp [len_slice ht.uBs]
      refine (by simpa using hC flex true 0 2 (by omega) (by omega) wx : Ret P _ _ _ _).mono ?_
      intro v3 w3 h3
      refine st_app_bytes ht.sBs (by simp) h3.1 h3.2.size (k := All) (bs := []) (.inl ⟨by simp, rfl⟩) ?_ ?_
      · refine Nat.le_trans (Nat.add_le_add (countedS_len (by omega) (by omega)) (Nat.le_refl _)) (by simp)
      intro v4 w4 ho hg
      have h4 := Fresh.pre hE (h3.grow ho hg)
      simpa [valS] using h4
  refine cw_false (by simp [k8]) ?_
  simp
  by_cases k9 : kind = 9
  · subst k9
    refine cw_true (by simp) ?_
    simp [ht.t1, Addr.add_mk, ld_scl ht.kBs, c1]
    refine (hWh w1 All sv t.s hs1).mono ?_
    rintro v2 wx ⟨hv2, rfl⟩
    have hlen : (t.s.take 32767).length ≤ 32767 := by simp; omega
    cases nul
    · refine cw_false (by simp) ?_
      obtain ⟨a, c, rfl, hc⟩ := hv2.len
      simp [len_slice ht.uBs]
      refine (by simpa using hC flex false (t.s.take 32767).length 4 (by omega) (by omega) wx : Ret P _ _ _ _).mono ?_
      intro v3 w3 h3
      have hb3 := hv2.ext (K := All) h3.2 (fun _ _ _ h => h)
      refine st_app_bytes ht.sBs (by simp) h3.1 h3.2.size (k := All) (bs := t.s.take 32767) (by simpa using hb3) ?_ ?_
      · refine Nat.le_trans (Nat.add_le_add (countedS_len (by omega) (by omega)) hlen) (by omega)
      intro v4 w4 ho hg
      have h4 := Fresh.pre hE (h3.grow ho hg)
      simpa [valS] using h4
    · refine cw_true (by simp) ?_
      simp [len_slice ht.uBs]
      refine (by simpa using hC flex true 0 4 (by omega) (by omega) wx : Ret P _ _ _ _).mono ?_
      intro v3 w3 h3
      refine st_app_bytes ht.sBs (by simp) h3.1 h3.2.size (k := All) (bs := []) (.inl ⟨by simp, rfl⟩) ?_ ?_
      · refine Nat.le_trans (Nat.add_le_add (countedS_len (by omega) (by omega)) (Nat.le_refl _)) (by simp)
      intro v4 w4 ho hg
      have h4 := Fresh.pre hE (h3.grow ho hg)
      simpa [valS] using h4
  refine cw_false (by simp [k9]) ?_
  simp
  by_cases k10 : kind = 10
  · subst k10
    refine cw_true (by simp) ?_
    have hcf := cellsFrom_row hb
    simp at hcf
    simp [ld_agg ht.kT, hcf]
    refine (by simpa using hP rfl w1 hE : Ret P _ _ _ _).mono ?_
    intro v w2 h
    have h2 := Fresh.pre hE h
    simpa [valS] using h2
  refine cw_false (by simp [k10]) ?_
  have hk : widthS kind ≤ 8 := by unfold widthS; repeat' split
                                  all_goals omega
  have r0 : ∀ w', Ext none1 w1 w' → w'.cell? ⟨w.heap.size, 0, none⟩ = some (.int .i64 t.n) := fun w' h => h.cell c0 (fun h => h)
  refine cw_regH (Ext none1 w1) (Ext.refl none1 w1).drew ?_
  have hD := (Ext.refl none1 w1).drew
  simp +contextual [ht.t0, Addr.add_mk, ld_scl ht.kI64, c0, r0]
  refine (hWd kind w1.drew).mono ?_
  rintro v w2 ⟨rfl, rfl⟩
  simp [hD]
  refine (by simpa using hF t.n (widthS kind) hk w1.drew : Ret P _ _ _ _).mono ?_
  intro v w3 h
  have h2 := Fresh.pre (hE.trans hD) h
  have h3 := hD.trans h.2
  simp [h3]
  simpa [valS, k0, k7, k8, k9, k10] using h2
end
end Go.Kg

set_option linter.unusedSimpArgs false
set_option linter.unusedVariables false
namespace Go.Kg
open Go
theorem insU_at {α : Type} (least : Nat) (x : Nat × α) : ∀ (out : List (Nat × α)) (i : Nat), i ≤ out.length → (∀ j y, j < i → out[j]? = some y → y.1 < x.1) → (∀ y, out[i]? = some y → ¬ y.1 < x.1) →
    insU least x out = if x.1 < least then out else if (out[i]?).any (fun y => y.1 == x.1) = true then out else out.take i ++ x :: out.drop i
  | [], i, hi, _, _ => by
    have : i = 0 := by simpa using hi
    subst this
    by_cases h : x.1 < least <;> simp [insU, h]
  | y :: r, 0, _, _, h3 => by
    have h0 := h3 y rfl
    by_cases h : x.1 < least
    · simp [insU, h]
    · by_cases h1 : y.1 = x.1
      · simp [insU, h, h1]
      · simp [insU, h, h0, h1]
  | y :: r, i + 1, hi, h2, h3 => by
    have hy : y.1 < x.1 := h2 0 y (by omega) rfl
    have ih := insU_at least x r i (by simpa using hi) (fun j z hj hz => h2 (j + 1) z (by omega) (by simpa using hz)) (fun z hz => h3 z (by simpa using hz))
    by_cases h : x.1 < least
    · simp [insU, h]
    · rw [insU, if_neg h]
      simp only [if_pos hy, ih, if_neg h]
      simp only [List.getElem?_cons_succ, List.take_succ_cons, List.drop_succ_cons]
      split <;> simp
theorem insU_mem {α : Type} {least : Nat} {x z : Nat × α} : ∀ {out : List (Nat × α)}, z ∈ insU least x out → z = x ∨ z ∈ out
  | [], h => by
    unfold insU at h
    split at h
    · exact .inr h
    · simpa using h
  | y :: r, h => by
    unfold insU at h
    split at h
    · exact .inr h
    · simp only at h
      split at h
      · rcases List.mem_cons.1 h with rfl | h
        · exact .inr List.mem_cons_self
        · exact (insU_mem h).imp id (List.mem_cons_of_mem _)
      · split at h
        · exact .inr h
        · rcases List.mem_cons.1 h with rfl | h
          · exact .inl rfl
          · exact .inr h
def tc (p : Nat × Value) : List Value := [.int .u32 p.1, p.2]
def flatT (os : List (Nat × Value)) : List Value := os.flatMap tc
theorem flatT_cons (q : Nat × Value) (os : List (Nat × Value)) : flatT (q :: os) = Value.int .u32 q.1 :: q.2 :: flatT os := rfl
@[simp] theorem flatT_length : ∀ (os : List (Nat × Value)), (flatT os).length = os.length * 2
  | [] => rfl
  | q :: os => by rw [flatT_cons]; simp [flatT_length os]; omega
theorem flatT_append (a b : List (Nat × Value)) : flatT (a ++ b) = flatT a ++ flatT b := by simp [flatT]
theorem flatT_get : ∀ {os : List (Nat × Value)} {k : Nat} {p : Nat × Value}, os[k]? = some p → (flatT os)[k * 2]? = some (.int .u32 p.1) ∧ (flatT os)[k * 2 + 1]? = some p.2
  | [], k, p, h => by simp at h
  | q :: os, 0, p, h => by simp at h; subst h; exact ⟨rfl, rfl⟩
  | q :: os, k + 1, p, h => by
    have := flatT_get (os := os) (k := k) (by simpa using h)
    rw [flatT_cons, show (k + 1) * 2 = k * 2 + 1 + 1 by omega]
    simpa using this
theorem flatT_set : ∀ (os : List (Nat × Value)) (k : Nat) (p : Nat × Value), k < os.length → flatT (os.set k p) = (flatT os).take (k * 2) ++ tc p ++ (flatT os).drop (k * 2 + 2)
  | [], k, p, h => by simp at h
  | q :: os, 0, p, h => by simp [flatT_cons, tc]
  | q :: os, k + 1, p, h => by
    have := flatT_set os k p (by simpa using h)
    rw [List.set_cons_succ, flatT_cons, this, flatT_cons, show (k + 1) * 2 = k * 2 + 1 + 1 by omega]
    simp
theorem ownT_len {w : World} {base e : Nat} {v : Value} {os : List (Nat × Value)} (h : Own w base e 2 v (flatT os)) : ∃ a c, v = .slice a os.length c ∧ (a = none → c = 0) := by
  obtain ⟨n, h1, h2⟩ := h
  have hn : n = os.length := by simp at h1; omega
  subst hn
  rcases h2 with ⟨rfl, h0⟩ | ⟨g, cap, cur, rfl, _⟩
  · exact ⟨none, 0, by rw [h0], fun _ => rfl⟩
  · exact ⟨_, cap, rfl, fun h => by cases h⟩
theorem ownT_set {w : World} {base e : Nat} {v : Value} {os : List (Nat × Value)} (h : Own w base e 2 v (flatT os)) {k : Nat} (hk : k < os.length) (p : Nat × Value) :
    ∃ g cap cur, v = .slice (some ⟨g, 0, none⟩) os.length cap ∧ w.heap[g]? = some (.cells cur e (0, 0)) ∧ k * 2 + 2 ≤ cur.size ∧ base ≤ g ∧ Own (w.setBlk g (.cells (over cur (k * 2) (tc p)) e (0, 0))) base e 2 v (flatT (os.set k p)) := by
  obtain ⟨n, h1, h2⟩ := h
  have hn : n = os.length := by simp at h1; omega
  subst hn
  rcases h2 with ⟨rfl, h0⟩ | ⟨g, cap, cur, rfl, hb, hg, hnc, hcm, hcs, htake⟩
  · omega
  · have hle : os.length * 2 ≤ cap * 2 := Nat.mul_le_mul_right 2 hnc
    refine ⟨g, cap, cur, rfl, hg, by omega, hb, os.length, by simp, .inr ⟨g, cap, _, rfl, hb, setBlk_same hg, hnc, hcm, ?_, ?_⟩⟩
    · simp only [over, List.size_toArray, List.length_append, List.length_take, List.length_drop, Array.length_toList, tc, List.length_cons, List.length_nil]
      omega
    · have hsp : cur.toList = flatT os ++ cur.toList.drop (os.length * 2) := by rw [← htake, List.take_append_drop]
      generalize cur.toList.drop (os.length * 2) = rest at hsp
      have : (over cur (k * 2) (tc p)).toList = flatT (os.set k p) ++ rest := by
        rw [flatT_set os k p hk]
        simp only [over, hsp]
        rw [List.take_append_of_le_length (by simp; omega), List.drop_append_of_le_length (by simp [tc]; omega)]
        simp [tc]
      rw [this, List.take_left' (by simp)]
theorem ownT_get {w : World} {base e : Nat} {v : Value} {os : List (Nat × Value)} (h : Own w base e 2 v (flatT os)) {k : Nat} {p : Nat × Value} (hk : os[k]? = some p) :
    ∃ g cap, v = .slice (some ⟨g, 0, none⟩) os.length cap ∧ base ≤ g ∧ w.cell? ⟨g, k * 2, none⟩ = some (.int .u32 p.1) ∧ w.cell? ⟨g, k * 2 + 1, none⟩ = some p.2 := by
  obtain ⟨n, h1, h2⟩ := h
  have hn : n = os.length := by simp at h1; omega
  subst hn
  have hlt := (List.getElem?_eq_some_iff.1 hk).1
  rcases h2 with ⟨rfl, h0⟩ | ⟨g, cap, cur, rfl, hb, hg, hnc, hcm, hcs, htake⟩
  · omega
  · obtain ⟨a1, a2⟩ := flatT_get hk
    rw [← htake, List.getElem?_take] at a1 a2
    refine ⟨g, cap, rfl, hb, ?_, ?_⟩
    · rw [cell_of_blk hg]
      split at a1
      · simpa using a1
      · cases a1
    · rw [cell_of_blk hg]
      split at a2
      · simpa using a2
      · cases a2
/-- what stands behind the place k has moved one place on -/
def moved {α : Type} (M out : List α) (k : Nat) (L : List α) : Prop := L.length = M.length ∧ ∀ j, L[j]? = if j ≤ k then M[j]? else if j < M.length then out[j - 1]? else none
theorem moved_end {α : Type} {out L : List α} {z x : α} {i : Nat} (hi : i ≤ out.length) (h : moved (out ++ [z]) out i L) : L.set i x = out.take i ++ x :: out.drop i := by
  apply List.ext_getElem?
  intro j
  obtain ⟨hl, h⟩ := h
  simp only [List.length_append, List.length_cons, List.length_nil] at hl h
  rw [List.getElem?_set, h j]
  by_cases h1 : i = j
  · subst h1
    rw [if_pos rfl, if_pos (by omega), List.getElem?_append_right (by simp; omega)]
    simp [Nat.min_eq_left hi]
  · rw [if_neg h1]
    by_cases h2 : j < i
    · rw [if_pos (by omega), List.getElem?_append_left (by omega), List.getElem?_append_left (by simp; omega), List.getElem?_take, if_pos h2]
    · rw [if_neg (by omega), List.getElem?_append_right (by simp; omega)]
      simp only [List.length_take, Nat.min_eq_left hi]
      rw [show j - i = (j - 1 - i) + 1 by omega, List.getElem?_cons_succ, List.getElem?_drop, show i + (j - 1 - i) = j - 1 by omega]
      split
      · rfl
      · rw [List.getElem?_eq_none (by omega)]
theorem moved_step {α : Type} {out L : List α} {z y : α} {k : Nat} (h : moved (out ++ [z]) out (k + 1) L) (hk : k + 1 ≤ out.length) (hy : out[k]? = some y) : moved (out ++ [z]) out k (L.set (k + 1) y) ∧ L[k]? = some y := by
  obtain ⟨hl, h⟩ := h
  refine ⟨⟨by simpa using hl, fun j => ?_⟩, ?_⟩
  · rw [List.getElem?_set, h j]
    simp only [List.length_append, List.length_cons, List.length_nil] at hl h ⊢
    by_cases h1 : k + 1 = j
    · subst h1
      rw [if_pos rfl, if_pos (by omega), if_neg (by omega), if_pos (by omega)]
      simp [hy]
    · rw [if_neg h1]
      by_cases h2 : j ≤ k
      · rw [if_pos (by omega), if_pos h2]
      · rw [if_neg (by omega), if_neg h2]
  · rw [h k, if_pos (by omega), List.getElem?_append_left (by omega), hy]
end Go.Kg

set_option linter.unusedSimpArgs false
set_option linter.unusedVariables false
namespace Go.Kg
open Go
section
variable {P : Program} {f : Nat → Value} {ty : TypeId} {w : World} {K K' : Value → World → Prop}
theorem optK_mono {α : Type} {x : Option α} {k k' : α → Prop} (h : ∀ a, k a → k' a) (hq : optK x k) : optK x k' := by
  cases x with
  | none => exact hq
  | some a => exact h a hq
theorem putK_mono {p : Addr} {vs : List Value} {k k' : World → Prop} (h : ∀ w, k w → k' w) (hq : putK w p vs k) : putK w p vs k' := by
  unfold putK at *; split
  · rename_i hb; rw [hb] at hq; exact ⟨hq.1, h _ hq.2⟩
  · rename_i hn
    split at hq
    · rename_i hb; exact (hn _ _ hb).elim
    · exact hq
theorem put1K_mono {p : Addr} {v : Value} {k k' : World → Prop} (h : ∀ w, k w → k' w) (hq : put1K w p v k) : put1K w p v k' := by
  unfold put1K at *; split
  · rename_i hb; rw [hb] at hq; exact ⟨hq.1, h _ hq.2⟩
  · rename_i hn
    split at hq
    · rename_i hb; exact (hn _ _ hb).elim
    · exact hq
theorem storeK_mono {T : Nat} {v : Value} {p : Addr} {k k' : World → Prop} (h : ∀ w, k w → k' w) (hq : storeK P w T v p k) : storeK P w T v p k' := by
  unfold storeK at *
  generalize kindOf P T = z at *
  cases z with
  | scl => exact ⟨hq.1, put1K_mono h hq.2⟩
  | bad => exact hq
  | agg n =>
    simp only at hq ⊢
    generalize aggCells? v = y at *
    cases y with
    | none => exact hq
    | some cs => exact ⟨hq.1, putK_mono h hq.2⟩
theorem lenK_mono {T : Nat} {v : Value} (h : ∀ v w, K v w → K' v w) (hq : lenK P T w K v) : lenK P T w K' v := by
  cases v <;> simp only [lenK] at hq ⊢ <;> first | exact ⟨hq.1, optK_mono (fun _ => h _ _) hq.2⟩ | exact optK_mono (fun _ => h _ _) hq
theorem callLenK_mono {xs : List Operand} {ts : List TypeId} (h : ∀ v w, K v w → K' v w) (hq : callLenK P f w K xs ts) : callLenK P f w K' xs ts := by
  unfold callLenK at *
  split
  · exact lenK_mono h hq
  · rename_i hn
    split at hq
    · exact (hn _ _ rfl rfl).elim
    · exact hq
theorem callK_mono {c : Call} (h : ∀ v w, K v w → K' v w) (hq : callK P f c ty w K) : callK P f c ty w K' := by
  unfold callK at *
  cases hc : c.callee with
  | builtin b =>
    rw [hc] at hq
    cases b <;> first | exact callLenK_mono h hq | exact stepF_mono h hq
  | invoke a b => rw [hc] at hq; exact stepF_mono h hq
  | value x =>
    rw [hc] at hq
    cases x with
    | func g => exact Ret.mono hq h
    | const v => exact hq
    | global g => exact hq
    | tmp t =>
      simp only at hq ⊢
      split
      · rename_i hv; rw [hv] at hq; exact Ret.mono hq h
      · rename_i hn
        split at hq
        · rename_i hv; exact (hn _ _ _ hv).elim
        · exact hq
theorem stp_mono {op : Op} (h : ∀ v w, K v w → K' v w) (hq : stp P f op ty w K) : stp P f op ty w K' := by
  cases op <;> simp only [stp] at hq ⊢ <;> first
    | exact h _ _ hq
    | exact optK_mono (fun _ => h _ _) hq
    | exact optK_mono (fun _ => optK_mono (fun _ => h _ _)) hq
    | exact optK_mono (fun _ => storeK_mono (fun _ => h _ _)) hq
    | exact callK_mono h hq
    | exact stepF_mono h hq
    | (split at hq <;> first | exact hq.elim | exact optK_mono (fun _ => h _ _) hq | exact optK_mono (fun _ => optK_mono (fun _ => h _ _)) hq | exact stepF_mono h hq)
theorem regW_mono : ∀ (l : List Ro) {Q Q' : (Nat → Value) → World → Prop} {f : Nat → Value} {w : World}, (∀ f w, Q f w → Q' f w) → regW P Q l f w → regW P Q' l f w := by
  intro l
  induction l with
  | nil => intro Q Q' f w h hq; exact h _ _ hq
  | cons x r ih =>
    intro Q Q' f w h hq
    rw [regW_cons] at hq ⊢
    split
    · rename_i hw; rw [if_pos hw] at hq; exact stp_mono (fun v w hq => ih h hq) hq
    · rename_i hw; rw [if_neg hw] at hq; exact ih h hq
theorem regHW_mono {S : World → Prop} : ∀ (l : List (Bool × Ro)) {Q Q' : (Nat → Value) → World → Prop} {f : Nat → Value} {w : World}, (∀ f w, Q f w → Q' f w) → regHW P S Q l f w → regHW P S Q' l f w := by
  intro l
  induction l with
  | nil => intro Q Q' f w h hq; exact h _ _ hq
  | cons x r ih =>
    obtain ⟨b, x⟩ := x
    intro Q Q' f w h hq
    cases b
    · rw [regHW_false] at hq ⊢
      split
      · rename_i hw; rw [if_pos hw] at hq; exact stp_mono (fun v w hq => ⟨hq.1, ih h hq.2⟩) hq
      · rename_i hw; rw [if_neg hw] at hq; exact ih h hq
    · rw [regHW_true] at hq ⊢
      split
      · rename_i hw; rw [if_pos hw] at hq; exact optK_mono (fun v hq => ⟨hq.1, ih h hq.2⟩) hq
      · rename_i hw; rw [if_neg hw] at hq; exact ih h hq
theorem Ir.cw_mono : ∀ (c : Ir) {Q Q' : Post} {f : Nat → Value} {w : World}, (∀ e f w, Q e f w → Q' e f w) → c.cw P Q f w → c.cw P Q' f w := by
  intro c
  induction c with
  | reg l => intro Q Q' f w h hq; exact regW_mono l (h _) hq
  | regH l => intro Q Q' f w h ⟨S, h1, h2⟩; exact ⟨S, h1, regHW_mono l (h _) h2⟩
  | seq a b iha ihb =>
    intro Q Q' f w h hq
    refine iha ?_ hq
    intro e f w; cases e <;> simp only [thenF] <;> first | exact ihb h | exact h _ _ _
  | cond t a b iha ihb =>
    intro Q Q' f w h hq
    rcases hq with ⟨h1, h2⟩ | ⟨h1, h2⟩
    · exact .inl ⟨h1, iha h h2⟩
    · exact .inr ⟨h1, ihb h h2⟩
  | block id b ih =>
    intro Q Q' f w h hq
    refine ih ?_ hq
    intro e f w; cases e <;> simp only [inBlockF] <;> first | exact h _ _ _ | skip
    split
    · exact h _ _ _
    · exact h _ _ _
  | loop b ih =>
    intro Q Q' f w h hq
    obtain ⟨I, μ, h0, hr⟩ := hq
    refine ⟨I, μ, h0, fun f w hI => ih ?_ (hr f w hI)⟩
    intro e f w hq
    cases e <;> first | exact hq | exact h _ _ _ hq
  | exit id => intro Q Q' f w h hq; exact h _ _ _ hq
  | ret => intro Q Q' f w h hq; exact h _ _ _ hq
  | skip => intro Q Q' f w h hq; exact h _ _ _ hq
  | label l => intro Q Q' f w h hq; exact h _ _ _ hq
  | goto l => intro Q Q' f w h hq; exact h _ _ _ hq
  | scope b l rest ihb ihr =>
    intro Q Q' f w h hq
    obtain ⟨J, μ, h0, hr⟩ := hq
    refine ⟨J, μ, ihb ?_ h0, fun f w hJ => ihr ?_ (hr f w hJ)⟩
    · intro e f w hq
      cases e <;> first | exact hq | exact h _ _ _ hq
    · intro e f w hq
      cases e <;> first | exact hq | exact h _ _ _ hq
/-- The ways meet again: what holds there. -/
def meet (R : (Nat → Value) → World → Prop) : Post
  | .normal, f, w => R f w
  | _, _, _ => False
@[simp] theorem meet_normal {R : (Nat → Value) → World → Prop} {f : Nat → Value} {w : World} : meet R .normal f w = R f w := (rfl)
theorem cw_then {a : Ir} {Q : Post} {k : (Nat → Value) → World → Prop} {f : Nat → Value} {w : World} (R : (Nat → Value) → World → Prop) (ha : a.cw P (meet R) f w) (hb : ∀ f w, R f w → k f w) : a.cw P (thenF k Q) f w :=
  Ir.cw_mono a (fun e f w h => by cases e <;> first | exact hb _ _ h | exact h.elim) ha
/-- the same, where the way may also leave -/
def meetOr (R : (Nat → Value) → World → Prop) (Q : Post) : Post
  | .normal, f, w => R f w
  | e, f, w => Q e f w
@[simp] theorem meetOr_normal {R : (Nat → Value) → World → Prop} {Q : Post} {f : Nat → Value} {w : World} : meetOr R Q .normal f w = R f w := (rfl)
@[simp] theorem meetOr_ret {R : (Nat → Value) → World → Prop} {Q : Post} {f : Nat → Value} {w : World} : meetOr R Q .ret f w = Q .ret f w := (rfl)
@[simp] theorem meetOr_exit {R : (Nat → Value) → World → Prop} {Q : Post} {f : Nat → Value} {w : World} {i : Nat} : meetOr R Q (.exit i) f w = Q (.exit i) f w := (rfl)
/-- the same, where the way may also leave by one exit -/
def meetX (R X : (Nat → Value) → World → Prop) (id : Nat) : Post
  | .normal, f, w => R f w
  | .exit i, f, w => i = id ∧ X f w
  | _, _, _ => False
@[simp] theorem meetX_normal {R X : (Nat → Value) → World → Prop} {id : Nat} {f : Nat → Value} {w : World} : meetX R X id .normal f w = R f w := (rfl)
@[simp] theorem meetX_exit {R X : (Nat → Value) → World → Prop} {id i : Nat} {f : Nat → Value} {w : World} : meetX R X id (.exit i) f w = (i = id ∧ X f w) := (rfl)
theorem cw_thenX {a : Ir} {Q : Post} {k : (Nat → Value) → World → Prop} {f : Nat → Value} {w : World} (R X : (Nat → Value) → World → Prop) (id : Nat) (ha : a.cw P (meetX R X id) f w) (hb : ∀ f w, R f w → k f w) (hx : ∀ f w, X f w → Q (.exit id) f w) : a.cw P (thenF k Q) f w :=
  Ir.cw_mono a (fun e f w h => by cases e <;> first | exact hb _ _ h | (obtain ⟨rfl, h⟩ := h; exact hx _ _ h) | exact h.elim) ha
/-- and where it may return -/
def meetR (R X : (Nat → Value) → World → Prop) : Post
  | .normal, f, w => R f w
  | .ret, f, w => X f w
  | _, _, _ => False
@[simp] theorem meetR_normal {R X : (Nat → Value) → World → Prop} {f : Nat → Value} {w : World} : meetR R X .normal f w = R f w := (rfl)
@[simp] theorem meetR_ret {R X : (Nat → Value) → World → Prop} {f : Nat → Value} {w : World} : meetR R X .ret f w = X f w := (rfl)
theorem cw_blockThenR {a : Ir} {Q : Post} {id : Nat} {k : (Nat → Value) → World → Prop} {f : Nat → Value} {w : World} (R X : (Nat → Value) → World → Prop) (ha : a.cw P (inBlockF id (meetR R X)) f w) (hb : ∀ f w, R f w → k f w) (hx : ∀ f w, X f w → Q .ret f w) : a.cw P (inBlockF id (thenF k Q)) f w :=
  Ir.cw_mono a (fun e f w h => by
    cases e <;> simp only [inBlockF] at h ⊢ <;> first | exact hb _ _ h | exact hx _ _ h | exact h.elim | skip
    split
    · rename_i e; rw [if_pos e] at h; exact hb _ _ h
    · rename_i e; rw [if_neg e] at h; exact h.elim) ha
theorem cw_blockN {a : Ir} {Q : Post} {id : Nat} {f : Nat → Value} {w : World} (R : (Nat → Value) → World → Prop) (ha : a.cw P (inBlockF id (meet R)) f w) (hb : ∀ f w, R f w → Q .normal f w) : a.cw P (inBlockF id Q) f w :=
  Ir.cw_mono a (fun e f w h => by
    cases e <;> simp only [inBlockF] at h ⊢ <;> first | exact hb _ _ h | exact h.elim | skip
    split
    · rename_i e; rw [if_pos e] at h; exact hb _ _ h
    · rename_i e; rw [if_neg e] at h; exact h.elim) ha
/-- of the frame only what is said of it -/
theorem cw_gen {c : Ir} {Q : Post} {f : Nat → Value} {w : World} (R : (Nat → Value) → Prop) (hR : R f) (h : ∀ f, R f → c.cw P Q f w) : c.cw P Q f w := h f hR
/-- a block as a whole -/
theorem cw_blockThen {a : Ir} {Q : Post} {id : Nat} {k : (Nat → Value) → World → Prop} {f : Nat → Value} {w : World} (R : (Nat → Value) → World → Prop) (ha : a.cw P (inBlockF id (meet R)) f w) (hb : ∀ f w, R f w → k f w) : a.cw P (inBlockF id (thenF k Q)) f w :=
  Ir.cw_mono a (fun e f w h => by
    cases e <;> simp only [inBlockF] at h ⊢ <;> first | exact hb _ _ h | exact h.elim | skip
    split
    · rename_i e; rw [if_pos e] at h; exact hb _ _ h
    · rename_i e; rw [if_neg e] at h; exact h.elim) ha
end
end Go.Kg

set_option linter.unusedSimpArgs false
set_option linter.unusedVariables false
namespace Go.Kg
open Go
structure TyG (P : Program) (E : Env) : Prop extends TyF P E where
  gT : SliI P E.t_l_spec_Tag E.t_spec_Tag 2 32 (.agg #[.int .u32 0, .slice none 0 0])
  uTag : ∃ fs, P.underlying E.t_spec_Tag = some (.struct fs)
  pTag : (places P E.t_spec_Tag).isSome = true
  gTr : SliI P E.t_l_spec_Tree E.t_spec_Tree 5 88 (.agg #[.int .i64 0, .slice none 0 0, .bool false, .slice none 0 0, .slice none 0 0])
theorem Ext.owned {w w1 w2 : World} {e s : Nat} {v : Value} {xs : List Value} (h : Ext none1 w w1) (ho : Own w1 w.heap.size e s v xs) (hx : Ext (own1 v) w1 w2) : Ext none1 w w2 :=
  ⟨hx.os.trans h.os, hx.tape.trans h.tape, hx.output.trans h.output, Nat.le_trans h.size hx.size, fun k hk _ => by
    rw [hx.block k (Nat.lt_of_lt_of_le hk h.size) (fun ho' => by have := (Own.below ho ho').1; omega)]
    exact h.block k hk (fun h => h)⟩
def UkInv (T : Nat) (w : World) (least : Nat) (us : List (Nat × Value)) (vs : Value) (f : Nat → Value) (w' : World) : Prop :=
  ∃ i, i ≤ us.length ∧ f 19 = .int .i64 i ∧ f 18 = .int .i64 us.length ∧ f 17 = vs ∧ f 5 = .int .u32 least ∧
    Own w' w.heap.size T 2 (f 6) (flatT ((us.take i).foldl (fun out x => insU least x out) [])) ∧ Ext none1 w w'
def SkInv (w3 : World) (out : List (Nat × Value)) (x : Nat) (v6 vs : Value) (b8 least n i : Nat) (f : Nat → Value) (w' : World) : Prop :=
  ∃ j, j ≤ out.length ∧ (∀ j' y, j' < j → out[j']? = some y → y.1 < x) ∧ f 9 = .int .i64 j ∧ f 6 = v6 ∧ f 8 = .pointer (some ⟨b8, 0, none⟩) ∧ f 5 = .int .u32 least ∧ f 17 = vs ∧ f 18 = .int .i64 n ∧ f 19 = .int .i64 i ∧ Ext none1 w3 w'
def SkEnd (w3 : World) (out : List (Nat × Value)) (x : Nat) (v6 vs : Value) (b8 least n i : Nat) (f : Nat → Value) (w' : World) : Prop :=
  ∃ j, j ≤ out.length ∧ (∀ j' y, j' < j → out[j']? = some y → y.1 < x) ∧ (∀ y, out[j]? = some y → ¬ y.1 < x) ∧ f 9 = .int .i64 j ∧ f 6 = v6 ∧ f 8 = .pointer (some ⟨b8, 0, none⟩) ∧ f 5 = .int .u32 least ∧ f 17 = vs ∧ f 18 = .int .i64 n ∧ f 19 = .int .i64 i ∧ Ext none1 w3 w'
def UkRow (T : Nat) (w0 : World) (p : Nat × Value) (vs : Value) (b8 least n i j : Nat) (M : List (Nat × Value)) (f : Nat → Value) (w' : World) : Prop :=
  f 9 = .int .i64 j ∧ f 8 = .pointer (some ⟨b8, 0, none⟩) ∧ f 5 = .int .u32 least ∧ f 17 = vs ∧ f 18 = .int .i64 n ∧ f 19 = .int .i64 i ∧
    Own w' w0.heap.size T 2 (f 6) (flatT M) ∧ Ext none1 w0 w' ∧ w'.heap[b8]? = some (.cells (tc p).toArray T (0, 0)) ∧ ¬ own1 (f 6) b8
def ShInv (T : Nat) (w0 : World) (p : Nat × Value) (vs : Value) (b8 least n i j : Nat) (out : List (Nat × Value)) (f : Nat → Value) (w' : World) : Prop :=
  ∃ k L, j ≤ k ∧ k ≤ out.length ∧ moved (out ++ [(0, Value.slice none 0 0)]) out k L ∧ f 10 = .int .i64 k ∧ UkRow T w0 p vs b8 least n i j L f w'
def ShEnd (T : Nat) (w0 : World) (p : Nat × Value) (vs : Value) (b8 least n i j : Nat) (out : List (Nat × Value)) (f : Nat → Value) (w' : World) : Prop :=
  ∃ L, moved (out ++ [(0, Value.slice none 0 0)]) out j L ∧ UkRow T w0 p vs b8 least n i j L f w'
def UkNew (w3 : World) (out : List (Nat × Value)) (x : Nat) (v6 vs : Value) (b8 least n i j : Nat) (f : Nat → Value) (w' : World) : Prop :=
  ¬ (x < least) ∧ (out[j]?).any (fun y => y.1 == x) = false ∧ f 9 = .int .i64 j ∧ f 6 = v6 ∧ f 8 = .pointer (some ⟨b8, 0, none⟩) ∧ f 5 = .int .u32 least ∧ f 17 = vs ∧ f 18 = .int .i64 n ∧ f 19 = .int .i64 i ∧ Ext none1 w3 w'
def UkPass (w3 : World) (out : List (Nat × Value)) (least : Nat) (p : Nat × Value) (v6 vs : Value) (n i : Nat) (f : Nat → Value) (w' : World) : Prop :=
  insU least p out = out ∧ f 19 = .int .i64 i ∧ f 18 = .int .i64 n ∧ f 17 = vs ∧ f 5 = .int .u32 least ∧ f 6 = v6 ∧ Ext none1 w3 w'
/-- A row's element as a tag. -/
def prOf (c : List Value) : Nat × Value := ((match c[0]? with | some (Value.int _ n) => n.toNat | _ => 0), (c[1]?).getD undef)
section
variable {P : Program} {E : Env} (ht : TyG P E)
include ht
theorem unk_walk (hI : FnIs P E.f_spec_unknown nt_spec_unknown (rs_spec_unknown E) (ir_spec_unknown E)) (least : Nat) (w : World) (fv uv : Value) (ls : Option (List (List Value)))
    (hK : Ret P E.f_spec_known #[fv] w fun r w' => r = .int .u32 least ∧ Ext none1 w w') (ha : ArrE w All 2 uv ls) (us : List (Nat × Value)) (hus : ls.getD [] = us.map tc) (hone : ∀ p ∈ us, p.2.oneCell' = true) :
    Ret P E.f_spec_unknown #[fv, uv] w fun v w' => Own w' w.heap.size E.t_spec_Tag 2 v (flatT (unkS least us)) ∧ Ext none1 w w' := by
  obtain ⟨a, c, rfl, hnone, hmax⟩ := ha.form
  refine hI.call (args := [_, _]) (by simp [nt_spec_unknown]) ?_
  simp [ir_spec_unknown, rs_spec_unknown]
  refine hK.mono ?_
  rintro _ w1 ⟨rfl, he1⟩
  have hlen : (ls.getD []).length = us.length := by rw [hus]; simp
  obtain ⟨Et, j, hu, _, _⟩ := sliSz_spec ht.sU
  simp [len_slice hu]
  rw [st_min (k := .i64) (a := (ls.getD []).length) (b := 32767) (by simp) (by simp)]
  have hc : (ls.getD []).length ≤ c := by
    cases ls with
    | none => simp
    | some ls => obtain ⟨b, o, c', h, _, hn, _⟩ := ha; cases h; exact hn.1
  have hm : (us.take 32767).length = min us.length 32767 := by simp [Nat.min_comm]
  have hm2 : (us.take 32767).length ≤ 32767 := by omega
  have e : (if (32767 : Int) < ((ls.getD []).length : Int) then (32767 : Int) else ((ls.getD []).length : Int)) = ((us.take 32767).length : Int) := by split <;> omega
  have hmc : (us.take 32767).length ≤ c := by omega
  have hmu : (us.take 32767).length ≤ us.length := by omega
  unfold unkS
  have htk : ∀ (i : Nat) (p : Nat × Value), (us.take 32767)[i]? = some p → us[i]? = some p := by
    intro i p h
    rw [List.getElem?_take] at h
    split at h
    · exact h
    · cases h
  generalize hU : us.take 32767 = U at *
  simp [e, slice_hi ht.sU hmc, len_slice hu]
  generalize hvs : (Value.slice (if c = 0 then a else Option.map (fun x => x.add 0) a) U.length c) = vs
  refine cw_blockThen (fun f w' => Own w' w.heap.size E.t_spec_Tag 2 (f 6) (flatT (U.foldl (fun out x => insU least x out) [])) ∧ Ext none1 w w') ?_ ?_
  rotate_left
  · rintro f w' ⟨h1, h2⟩
    simp
    exact ⟨h1, h2⟩
  refine cw_loop (UkInv E.t_spec_Tag w least U vs) (fun f _ => match f 19 with | .int _ i => ((U.length : Int) - i).toNat | _ => 0) ?_ ?_
  · refine ⟨0, by omega, by simp, by simp, by simp, by simp, ?_, he1⟩
    simpa [flatT] using Own.nil w1 w.heap.size E.t_spec_Tag 2
  rintro f w' ⟨i, hi, h19, h18, h17, h5, hown, he⟩
  simp [h19, h18]
  by_cases hlt : i < U.length
  rotate_left
  · refine cw_false (by simp; omega) ?_
    have : i = U.length := by omega
    subst this
    rw [List.take_length] at hown
    simp
    exact ⟨hown, he⟩
  refine cw_true (by simp; omega) ?_
  obtain ⟨p, hp⟩ : ∃ p, U[i]? = some p := ⟨_, List.getElem?_eq_getElem hlt⟩
  cases ls with
  | none => simp at hlen; omega
  | some ls =>
  obtain ⟨bb, oo, cc, hvv, _, ⟨hnn, _⟩, hx⟩ := ha
  cases hvv
  simp only [Option.getD_some] at hlen hus hmax hc e
  have hls : ls[i]? = some (tc p) := by rw [hus]; simp [htk i p hp]
  have hcx := (hx i _ hls).2.ext (K := All) he (fun _ _ _ h => h) trivial
  have hcf := cellsFrom_list0 hcx
  have hcc : c ≠ 0 := by omega
  have hvs' : vs = .slice (some ⟨bb, oo, none⟩) U.length c := by rw [← hvs]; simp [hcc, Addr.add_mk]
  subst hvs'
  have hp1 : p.2.oneCell' = true := hone p (List.mem_of_getElem? (htk i p hp))
  have htl : (tc p).length = 2 := rfl
  rw [htl] at hcf
  have ho2 : allOne (tc p) = true := by simp only [tc, allOne, hp1, Bool.and_true]; rfl
  have hz : zeroOf P E.t_spec_Tag = some (.agg #[.int .u32 0, .slice none 0 0]) := ht.zU
  have hzc : (Value.agg #[.int .u32 0, .slice none 0 0]).cells = #[.int .u32 0, .slice none 0 0] := rfl
  simp [h19, h17, idx?, ht.sU, hlt, Addr.add_mk, ld_agg ht.kU, hcf, hz, hzc, store_agg ht.kU, htl, ho2, putK_blk alloc_new]
  have hov : over #[.int .u32 0, .slice none 0 0] 0 (tc p) = (tc p).toArray := by simp [over, tc]
  rw [hov]
  generalize hw3 : (w'.alloc (.cells #[.int .u32 0, .slice none 0 0] E.t_spec_Tag)).setBlk w'.heap.size (.cells (tc p).toArray E.t_spec_Tag (0, 0)) = w3
  have hb3 : w3.heap[w'.heap.size]? = some (.cells (tc p).toArray E.t_spec_Tag (0, 0)) := by subst hw3; exact setBlk_same alloc_new
  have hx3 : Ext none1 w' w3 := by subst hw3; exact ((Ext.refl none1 w').alloc _).setBlk (.inl (Nat.le_refl _)) _
  have he3 : Ext none1 w w3 := he.trans hx3
  have hsz3 : w'.heap.size < w3.heap.size := lt_of_heap hb3
  have hown3 := Own.ext hown hx3 (fun _ _ h => h)
  have htks : (U.take (i + 1)).foldl (fun out x => insU least x out) [] = insU least p ((U.take i).foldl (fun out x => insU least x out) []) := by
    rw [List.take_add_one, hp]; simp [List.foldl_append]
  have holen : ((U.take i).foldl (fun out x => insU least x out) []).length ≤ i := by
    have key : ∀ (l : List (Nat × Value)) (o : List (Nat × Value)), (l.foldl (fun out x => insU least x out) o).length ≤ o.length + l.length := by
      have one : ∀ (x : Nat × Value) (o : List (Nat × Value)), (insU least x o).length ≤ o.length + 1 := by
        intro x o
        induction o with
        | nil => unfold insU; split <;> simp
        | cons y r ih => unfold insU; simp only []; split
                         · simp
                         · split
                           · simp; omega
                           · split <;> simp
      intro l
      induction l with
      | nil => intro o; simp
      | cons x l ih => intro o; rw [List.foldl_cons]; have := ih (insU least x o); have := one x o; simp; omega
    have := key (U.take i) []
    simp at this
    omega
  generalize hO : (U.take i).foldl (fun out x => insU least x out) [] = out at *
  obtain ⟨v6, hv6⟩ : ∃ v6, f 6 = v6 := ⟨_, rfl⟩
  rw [hv6] at hown3
  have gb : ∀ w', Ext none1 w3 w' → w'.cell? ⟨w'.heap.size, 0, none⟩ = w'.cell? ⟨w'.heap.size, 0, none⟩ := fun _ _ => rfl
  have c80 : ∀ wx, Ext none1 w3 wx → wx.cell? ⟨w'.heap.size, 0, none⟩ = some (.int .u32 p.1) := fun wx h => h.cell (by rw [cell_of_blk hb3]; rfl) (fun h => h)
  obtain ⟨av, cv, hvf, _⟩ := ownT_len hown3
  refine cw_blockThen (SkEnd w3 out p.1 v6 (.slice (some ⟨bb, oo, none⟩) U.length c) w'.heap.size least U.length i) ?_ ?_
  · refine cw_loop (SkInv w3 out p.1 v6 (.slice (some ⟨bb, oo, none⟩) U.length c) w'.heap.size least U.length i) (fun f _ => match f 9 with | .int _ i => ((out.length : Int) - i).toNat | _ => 0) ?_ ?_
    · exact ⟨0, by omega, by omega, by simp, by simp [hv6], by simp, by simp [h5], by simp [h17], by simp [h18], by simp [h19], Ext.refl _ _⟩
    · rintro f w4 ⟨j, hj, hlt2, g9, g6, g8, g5, g17, g18, g19, he4⟩
      have hD := he4.drew
      simp
      refine cw_regH (Ext none1 w3) hD ?_
      by_cases hjl : j < out.length
      · obtain ⟨y, hy⟩ : ∃ y, out[j]? = some y := ⟨_, List.getElem?_eq_getElem hjl⟩
        obtain ⟨g, cap, hvg, hbg, cy0, cy1⟩ := ownT_get hown3 hy
        have cy : ∀ wx, Ext none1 w3 wx → wx.cell? ⟨g, j * 2, none⟩ = some (.int .u32 y.1) := fun wx h => h.cell cy0 (fun h => h)
        simp +contextual [g9, g6, g8, hvg, callLen?_one, call?, len_slice hu, idx?, ht.sU, hjl, Addr.add_mk, ht.u0, ld_scl ht.kU32, cy, c80, cy w4 he4, c80 w4 he4]
        by_cases hky : y.1 < p.1
        · refine cw_true (by simp; omega) ?_
          have ei : IntKind.i64.wrap ((j : Int) + 1) = ((j + 1 : Nat) : Int) := by rw [i64_small (by omega) (by omega)]; rfl
          simp [g9, ei]
          refine ⟨⟨j + 1, by omega, ?_, by simp, by simp [g6, hvg], by simp [g8], by simp [g5], by simp [g17], by simp [g18], by simp [g19], hD⟩, by omega⟩
          intro j' z hj' hz
          by_cases hjj : j' = j
          · subst hjj; rw [hy] at hz; cases hz; exact hky
          · exact hlt2 j' z (by omega) hz
        · refine cw_false (by simp; omega) ?_
          simp
          exact ⟨j, hj, hlt2, fun z hz => by rw [hy] at hz; cases hz; exact hky, by simp [g9], by simp [g6, hvg], by simp [g8], by simp [g5], by simp [g17], by simp [g18], by simp [g19], hD⟩
      · have hjl' : ¬ (j : Int) < (out.length : Int) := by omega
        simp +contextual [g9, g6, g8, hvf, callLen?_one, call?, len_slice hu, hjl, hjl']
        refine cw_false (by simp) ?_
        simp
        have : j = out.length := by omega
        refine ⟨j, hj, hlt2, fun z hz => ?_, by simp [g9], by simp [g6, hvf], by simp [g8], by simp [g5], by simp [g17], by simp [g18], by simp [g19], hD⟩
        rw [List.getElem?_eq_none (by omega)] at hz
        cases hz
  · rintro f w4 ⟨j, hj, hlt2, hge, g9, g6, g8, g5, g17, g18, g19, he4⟩
    have hD := he4.drew
    have hat := insU_at least p out j hj hlt2 hge
    have hi1 : IntKind.i64.wrap ((i : Int) + 1) = ((i + 1 : Nat) : Int) := by rw [i64_small (by omega) (by omega)]; rfl
    rw [cw_seq]
    refine cw_thenX (UkNew w3 out p.1 v6 (.slice (some ⟨bb, oo, none⟩) U.length c) w'.heap.size least U.length i j) (UkPass w3 out least p v6 (.slice (some ⟨bb, oo, none⟩) U.length c) U.length i) 1 ?_ ?_ ?_
    · simp
      refine cw_regH (Ext none1 w3) hD ?_
      by_cases hlow : p.1 < least
      · rw [if_pos hlow] at hat
        have hlow' : (p.1 : Int) < (least : Int) := by omega
        simp +contextual [g9, g6, g8, g5, Addr.add_mk, ht.u0, ld_scl ht.kU32, c80, c80 w4 he4, hlow']
        refine cw_true (by simp) ?_
        simp
        exact ⟨hat, by simp [g19], by simp [g18], by simp [g17], by simp [g5], by simp [g6], hD⟩
      · rw [if_neg hlow] at hat
        have hlow' : ¬ (p.1 : Int) < (least : Int) := by omega
        by_cases hjl : j < out.length
        · obtain ⟨y, hy⟩ : ∃ y, out[j]? = some y := ⟨_, List.getElem?_eq_getElem hjl⟩
          obtain ⟨g, cap, hvg, hbg, cy0, cy1⟩ := ownT_get hown3 hy
          have cy : ∀ wx, Ext none1 w3 wx → wx.cell? ⟨g, j * 2, none⟩ = some (.int .u32 y.1) := fun wx h => h.cell cy0 (fun h => h)
          have hjl' : (j : Int) < (out.length : Int) := by omega
          rw [hy] at hat
          by_cases hky : y.1 = p.1
          · rw [if_pos (by simp [hky])] at hat
            have hky' : ((y.1 : Int) == (p.1 : Int)) = true := by simp [hky]
            simp +contextual [g9, g6, g8, g5, hvg, callLen?_one, call?, len_slice hu, idx?, ht.sU, hjl, hjl', hlow', Addr.add_mk, ht.u0, ld_scl ht.kU32, cy, c80, cy w4 he4, c80 w4 he4, hky', hky]
            refine cw_true (by simp) ?_
            simp
            exact ⟨hat, by simp [g19], by simp [g18], by simp [g17], by simp [g5], by simp [g6, hvg], hD⟩
          · have hky' : ((y.1 : Int) == (p.1 : Int)) = false := by simp; omega
            have hky2 : ¬ (y.1 : Int) = (p.1 : Int) := by omega
            simp +contextual [g9, g6, g8, g5, hvg, callLen?_one, call?, len_slice hu, idx?, ht.sU, hjl, hjl', hlow', Addr.add_mk, ht.u0, ld_scl ht.kU32, cy, c80, cy w4 he4, c80 w4 he4, hky', hky2]
            refine cw_false (by simp) ?_
            simp
            exact ⟨hlow, by simp [hy, hky], by simp [g9], by simp [g6, hvg], by simp [g8], by simp [g5], by simp [g17], by simp [g18], by simp [g19], hD⟩
        · have hjl' : ¬ (j : Int) < (out.length : Int) := by omega
          have hno : out[j]? = none := List.getElem?_eq_none (by omega)
          rw [hno] at hat
          simp +contextual [g9, g6, g8, g5, hvf, callLen?_one, call?, len_slice hu, hjl, hjl', hlow', Addr.add_mk, ht.u0, ld_scl ht.kU32, c80, c80 w4 he4]
          refine cw_false (by simp) ?_
          simp
          exact ⟨hlow, by simp [hno], by simp [g9], by simp [g6, hvf], by simp [g8], by simp [g5], by simp [g17], by simp [g18], by simp [g19], hD⟩
    · rintro f w5 ⟨hnl, hne, k9, k6, k8, k5, k17, k18, k19, he5⟩
      rw [if_neg hnl, if_neg (by simp [hne])] at hat
      have hown5 := Own.ext hown3 he5 (fun _ _ h => h)
      have hbl : bldA? P E.t_spec_Tag = some (.agg #[.int .u32 0, .slice none 0 0]) := by
        obtain ⟨fs, hfs⟩ := ht.uTag
        simp [bldA?, hfs, ht.zU, ht.pTag, Value.cells]
      rw [cw_seq]
      refine cw_then (UkRow E.t_spec_Tag w p (.slice (some ⟨bb, oo, none⟩) U.length c) w'.heap.size least U.length i j (out ++ [(0, Value.slice none 0 0)])) ?_ ?_
      · simp [k6, hbl]
        rw [st_bsl (n := 1) (parts := #[(0, Operand.tmp 60)]) ht.gT (by omega) rfl rfl (by omega) (by omega) rfl]
        have hx6 := (he5.alloc (.cells (flat (#[(0, Operand.tmp 60)].toList.map fun p => evF (upd (upd f 59 v6) 60 (Value.agg #[Value.int IntKind.u32 0, Value.slice none 0 0])) p.2)).toArray E.t_spec_Tag))
        have hown6 := Own.ext hown3 hx6 (fun _ _ h => h)
        have hfl : (flat (#[(0, Operand.tmp 60)].toList.map fun p => evF (upd (upd f 59 v6) 60 (Value.agg #[Value.int IntKind.u32 0, Value.slice none 0 0])) p.2)) = tc (0, Value.slice none 0 0) := by simp [flat, tc, Value.cells]
        rw [hfl] at hx6 hown6 ⊢
        generalize hw6 : w5.alloc (.cells (tc (0, Value.slice none 0 0)).toArray E.t_spec_Tag) = w6 at *
        have hb6 : w6.heap[w5.heap.size]? = some (.cells (tc (0, Value.slice none 0 0)).toArray E.t_spec_Tag (0, 0)) := by subst hw6; exact alloc_new
        have hol : out.length ≤ 32767 := by omega
        refine st_append ht.gT (by omega) (x := .tmp 59) (y := .tmp 61) (base := w.heap.size) (xs := flatT out) (by simpa using hown6) (ad := some ⟨w5.heap.size, 0, none⟩) (m := 1) (c := 1) (news := tc (0, .slice none 0 0)) (by simp) rfl (by simp) ?_ ?_ ?_ ?_ (Nat.le_trans he3.size hx6.size) ?_
        · intro a ha j' u hj'
          cases ha
          rw [Addr.add_mk, cell_of_blk hb6]
          simpa using hj'
        · intro u hu
          simp [tc] at hu
          rcases hu with rfl | rfl <;> rfl
        · simp [maxLen, tc]; omega
        · simp [tc]; omega
        · intro v7 w7 ho7 hg7
          simp at hg7
          have hn6 : ¬ own1 v6 w'.heap.size := fun h => by
            rw [hv6] at hown
            have := (Own.below hown h).2
            omega
          refine ⟨by simp [k9], by simp [k8], by simp [k5], by simp [k17], by simp [k18], by simp [k19], ?_, ?_, ?_, ?_⟩
          · rw [flatT_append, show flatT [((0 : Nat), Value.slice none 0 0)] = tc (0, Value.slice none 0 0) from rfl]; simpa using ho7
          · exact (he3.trans hx6).owned (by simpa using hown6) hg7.ext
          · exact hg7.ext.old (hx6.old hb3 (fun h => h)) hn6
          · simp
            intro h
            rcases hg7.own _ h with h | h
            · exact hn6 h
            · have := hx6.size; omega
      · rintro f w6 hrow
        rw [cw_seq]
        refine cw_then (ShEnd E.t_spec_Tag w p (.slice (some ⟨bb, oo, none⟩) U.length c) w'.heap.size least U.length i j out) ?_ ?_
        · obtain ⟨k9, k8, k5, k17, k18, k19, ho6, hx6, hb6, hn6⟩ := hrow
          obtain ⟨a6, c6, hf6, _⟩ := ownT_len ho6
          have e6 : IntKind.i64.wrap (out.length : Int) = (out.length : Int) := i64_small (by omega) (by omega)
          simp only [List.length_append, List.length_cons, List.length_nil, Nat.zero_add] at hf6
          simp [hf6, len_slice hu, e6]
          refine cw_loop (ShInv E.t_spec_Tag w p (.slice (some ⟨bb, oo, none⟩) U.length c) w'.heap.size least U.length i j out) (fun f _ => match f 10 with | .int _ k => k.toNat | _ => 0) ?_ ?_
          · refine ⟨out.length, _, hj, Nat.le_refl _, ⟨rfl, fun j' => ?_⟩, by simp, by simp [k9], by simp [k8], by simp [k5], by simp [k17], by simp [k18], by simp [k19], by simpa [hf6] using ho6, hx6, hb6, by simpa [hf6] using hn6⟩
            split
            · rfl
            · rename_i h
              rw [List.getElem?_eq_none (by simp <;> omega), if_neg (by simp <;> omega)]
          · rintro f w7 ⟨k, L, hjk, hko, hmv, k10, k9, k8, k5, k17, k18, k19, ho7, hx7, hb7, hn7⟩
            simp [k10, k9]
            by_cases hkj : j < k
            · refine cw_true (by simp; omega) ?_
              obtain ⟨k', rfl⟩ : ∃ k', k = k' + 1 := ⟨k - 1, by omega⟩
              obtain ⟨y, hy⟩ : ∃ y, out[k']? = some y := ⟨_, List.getElem?_eq_getElem (by omega)⟩
              obtain ⟨hmv', hLk⟩ := moved_step hmv hko hy
              have hLl : L.length = out.length + 1 := by have := hmv.1; simpa using this
              obtain ⟨g, cap, hvg, hbg, cy0, cy1⟩ := ownT_get ho7 hLk
              obtain ⟨g', cap', cur, hvg', hbk, hksz, hbg', hown8⟩ := ownT_set ho7 (k := k' + 1) (by omega) y
              rw [hvg] at hvg'
              cases hvg'
              have hy1 : y.2.oneCell' = true := by
                have hmem : ∀ z ∈ out, z.2.oneCell' = true := by
                  intro z hz
                  rw [← hO] at hz
                  have key : ∀ (l o : List (Nat × Value)), (∀ q ∈ l, q.2.oneCell' = true) → (∀ q ∈ o, q.2.oneCell' = true) → ∀ q ∈ l.foldl (fun out x => insU least x out) o, q.2.oneCell' = true := by
                    intro l
                    induction l with
                    | nil => intro o _ h q hq; exact h q hq
                    | cons x l ih => intro o h1 h2 q hq; exact ih _ (fun q hq => h1 q (List.mem_cons_of_mem _ hq)) (fun q hq => (insU_mem hq).elim (fun h => h ▸ h1 x List.mem_cons_self) (h2 q)) q hq
                  refine key _ _ (fun q hq => hone q ?_) (by simp) z hz
                  exact List.mem_of_mem_take (hU ▸ List.mem_of_mem_take hq)
                exact hmem y (List.mem_of_getElem? hy)
              have hcf7 : cellsFrom w7 ⟨g, k' * 2, none⟩ 0 2 = some (tc y) := by
                have h0 : w7.cell? ⟨g, k' * 2 + 0, none⟩ = some (.int .u32 y.1) := cy0
                simp only [cellsFrom, Addr.add_mk, h0, cy1, Nat.zero_add]
                rfl
              have ek : IntKind.i64.wrap (k' : Int) = (k' : Int) := i64_small (by omega) (by omega)
              have hk1 : k' < L.length := by omega
              have hk2 : k' + 1 < L.length := by omega
              have hk2' : (k' : Int) + 1 < (L.length : Int) := by omega
              have hy2 : allOne (tc y) = true := by simp only [tc, allOne, hy1, Bool.and_true]; rfl
              have htn : ((k' : Int) + 1).toNat = k' + 1 := by omega
              have htn2 : (0 : Int) ≤ (k' : Int) + 1 := by omega
              have hty : (tc y).length = 2 := rfl
              simp [k10, hvg, ek, idx?, ht.sU, hk1, hk2, htn, htn2, Addr.add_mk, ld_agg ht.kU, hcf7, store_agg ht.kU, hy2, putK_blk hbk, hty, hksz]
              refine ⟨k', _, by omega, by omega, hmv', by simp, by simp [k9], by simp [k8], by simp [k5], by simp [k17], by simp [k18], by simp [k19], ?_, ?_, ?_, ?_⟩
              · simpa [hvg] using hown8
              · exact hx7.setBlk (.inl hbg) _
              · rw [setBlk_other (by rintro h; exact hn7 (by rw [hvg, h]; rfl))]; exact hb7
              · simpa [hvg] using hn7
            · refine cw_false (by simp; omega) ?_
              have : k = j := by omega
              subst this
              simp
              exact ⟨L, hmv, by simp [k9], by simp [k8], by simp [k5], by simp [k17], by simp [k18], by simp [k19], by simpa using ho7, hx7, hb7, by simpa using hn7⟩
        · rintro f w7 ⟨L, hmv, k9, k8, k5, k17, k18, k19, ho7, hx7, hb7, hn7⟩
          have hLl : L.length = out.length + 1 := by have := hmv.1; simpa using this
          obtain ⟨g, cap, cur, hvg, hbk, hksz, hbg, hown8⟩ := ownT_set ho7 (k := j) (by omega) p
          have hcf7 := cellsFrom_row hb7
          rw [show (tc p).toArray.size = 2 from rfl] at hcf7
          have hjl : j < L.length := by omega
          rw [moved_end hj hmv] at hown8
          rw [← hat] at hown8
          simp [k9, k8, hvg, idx?, ht.sU, hjl, Addr.add_mk, ld_agg ht.kU, hcf7, store_agg ht.kU, ho2, putK_blk hbk, htl, hksz, k19, hi1]
          refine ⟨⟨i + 1, by omega, by simp, by simp [k18], by simp [k17], by simp [k5], ?_, ?_⟩, by omega⟩
          · rw [htks]; simpa [hvg] using hown8
          · exact hx7.setBlk (.inl hbg) _
    · rintro f w5 ⟨hpass, k19, k18, k17, k5, k6, hx⟩
      simp [k19, hi1]
      refine ⟨⟨i + 1, by omega, by simp, by simp [k18], by simp [k17], by simp [k5], ?_, he3.trans hx⟩, by omega⟩
      rw [htks, hpass]
      simpa [k6] using Own.ext hown3 hx (fun _ _ h => h)
end
end Go.Kg

set_option linter.unusedSimpArgs false
set_option linter.unusedVariables false
set_option linter.unusedSectionVars false
namespace Go.Kg
open Go
/-- What is asked of value and part at one field's parts. -/
def ValC (P : Program) (E : Env) (fv : Value) (part : Tr → List UInt8) (ver : Int) (flex : Bool) (w0 : World) : Prop :=
  ∀ (kind : Int) (nul : Bool) w cs t, Ext none1 w0 w → TreeAt w cs t → (valS kind part nul flex t).length ≤ 1099511627776 → Ret P E.f_spec_value #[.int .i64 kind, fv, .bool nul, .int .i64 ver, .bool flex, .agg cs.toArray] w fun v w' => Fresh E.tU8 w v w' (valS kind part nul flex t)
def PartC (P : Program) (E : Env) (fv : Value) (part : Tr → List UInt8) (ver : Int) (flex : Bool) (w0 : World) : Prop :=
  ∀ w cs t, Ext none1 w0 w → TreeAt w cs t → (part t).length ≤ 1099511627776 → Ret P E.f_spec_part #[fv, .int .i64 ver, .bool flex, .agg cs.toArray] w fun v w' => Fresh E.tU8 w v w' (part t)
theorem tree_list' {w : World} {cs : List Value} {t : Tr} (hT : TreeAt w cs t) : ∃ lv ls, cs[3]? = some lv ∧ ArrE w All 5 lv ls ∧ (ls.getD []).length = t.l.length ∧ ∀ (i : Nat) c x, (ls.getD [])[i]? = some c → t.l[i]? = some x → TreeAt w c x := by
  cases hT with
  | mk hn hs ha hl he hu => exact ⟨_, _, rfl, ha, hl, he⟩
theorem tree_list {w : World} {n s b lv u : Value} {t : Tr} (hT : TreeAt w [n, s, b, lv, u] t) : ∃ ls, ArrE w All 5 lv ls ∧ (ls.getD []).length = t.l.length ∧ ∀ (i : Nat) c x, (ls.getD [])[i]? = some c → t.l[i]? = some x → TreeAt w c x := by
  obtain ⟨lv', ls, h, rest⟩ := tree_list' hT
  cases h
  exact ⟨ls, rest⟩
def FlInv (u8 : Nat) (w2 : World) (n : Nat) (vL : Value) (ver : Int) (flex : Bool) (pb : Nat) (pre : List UInt8) (outs : List (List UInt8)) (f : Nat → Value) (w' : World) : Prop :=
  ∃ i, i ≤ n ∧ f 31 = .int .i64 i ∧ f 30 = .int .i64 n ∧ f 10 = vL ∧ f 1 = .int .i64 ver ∧ f 2 = .bool flex ∧ f 4 = .pointer (some ⟨pb, 0, none⟩) ∧ Fresh u8 w2 (f 11) w' (pre ++ (outs.take i).flatten)
/-- An own row of bytes, read. -/
theorem own_bytes {u8 : Nat} {w : World} {base : Nat} {v : Value} {s : List UInt8} (h : OwnB u8 w base v s) : BytesAt w All v s := by
  obtain ⟨n, h1, h2⟩ := h
  have hn : n = s.length := by simpa using h1.symm
  subst hn
  rcases h2 with ⟨rfl, h0⟩ | ⟨g, cap, cur, rfl, hb, hg, hnc, hcm, hcs, htake⟩
  · exact .inl ⟨⟨_, rfl⟩, List.eq_nil_of_length_eq_zero h0⟩
  · refine .inr ⟨g, 0, cap, rfl, hnc, fun _ => trivial, fun i x hx => ?_⟩
    rw [cell_of_blk hg, Nat.zero_add]
    have : (cur.toList.take (s.length * 1))[i]? = some (.int .u8 x.toNat) := by rw [htake]; simp [cellsOf, hx]
    rw [List.getElem?_take] at this
    split at this
    · simpa using this
    · cases this
section
variable {P : Program} {E : Env} (ht : TyF P E)
include ht
theorem c_field (hI : FnIs P E.f_spec_field nt_spec_field (rs_spec_field E) (ir_spec_field E)) (hF : ∀ (n : Int) (k : Nat), k ≤ 8 → SpC P E.tU8 E.f_spec_Fixed [.int .i64 n, .int .i64 k] (fixE k n))
    (hN : ∀ (h : FH) (sv : Value) (v : Int) (w : World) (n s l u : Value) (nul : Bool), Ret P E.f_spec_Field_null #[.agg (h.cells ++ [sv]).toArray, .int .i64 v, .agg #[n, s, .bool nul, l, u]] w fun r w' => r = .bool (h.isNull v nul) ∧ Ext none1 w w')
    (hTh : ∀ (w : World) (v : Value) (ls : Option (List (List Value))), ArrE w All 5 v ls → Ret P E.f_spec_things #[v] w fun r w' => ArrE w All 5 r (ls.map (·.take 32767)) ∧ w' = w)
    (hC : ∀ (flex nul : Bool) (n size : Nat), n ≤ 1099511627776 → size ≤ 8 → SpC P E.tU8 E.f_spec_counted [.bool flex, .bool nul, .int .i64 n, .int .i64 size] (countedS flex nul n size))
    (h : FH) (sv : Value) (part : Tr → List UInt8) (usual : Tr → Bool) (kn : Nat) (ver : Int) (flex : Bool) (w : World) (cs : List Value) (t : Tr) (hT : TreeAt w cs t) (hV : ValC P E sv part ver flex w) (hP : PartC P E sv part ver flex w)
    (hsz : (fieldS ⟨h, part, usual, kn⟩ ver flex t).length ≤ 1099511627776) (hsv : sv.oneCell' = true) :
    Ret P E.f_spec_field #[.agg (h.cells ++ [sv]).toArray, .int .i64 ver, .bool flex, .agg cs.toArray] w fun v w' => Fresh E.tU8 w v w' (fieldS ⟨h, part, usual, kn⟩ ver flex t) := by
  refine hI.call (args := [_, _, _, _]) (by simp [nt_spec_field]) ?_
  obtain ⟨tv, lv, uv, hcs, hs⟩ := tree_box hT
  subst hcs
  have hv : ∀ (a : Array Value), (Value.agg a).cells = a := fun a => rfl
  generalize hw1 : (w.alloc (.cells (h.cells ++ [sv]).toArray E.t_spec_Field)).alloc (.cells [Value.int .i64 t.n, tv, .bool t.nul, lv, uv].toArray E.t_spec_Tree) = w1
  have hE : Ext none1 w w1 := by subst hw1; exact ((Ext.refl none1 w).alloc _).alloc _
  have hb0 : w1.heap[w.heap.size]? = some (.cells (h.cells ++ [sv]).toArray E.t_spec_Field (0, 0)) := by subst hw1; exact alloc_old alloc_new
  have hb1 : w1.heap[w.heap.size + 1]? = some (.cells [Value.int .i64 t.n, tv, .bool t.nul, lv, uv].toArray E.t_spec_Tree (0, 0)) := by
    subst hw1
    have := alloc_new (w := w.alloc (.cells (h.cells ++ [sv]).toArray E.t_spec_Field)) (o := .cells [Value.int .i64 t.n, tv, .bool t.nul, lv, uv].toArray E.t_spec_Tree)
    simpa using this
  have lF : ∀ w', Ext none1 w1 w' → cellsFrom w' ⟨w.heap.size, 0, none⟩ 0 8 = some (h.cells ++ [sv]) := by
    intro w' he
    have := cellsFrom_row (he.old hb0 (fun h => h))
    simpa using this
  have hl5 : [Value.int .i64 t.n, tv, .bool t.nul, lv, uv].length = 5 := by rfl
  have lT : ∀ w', Ext none1 w1 w' → cellsFrom w' ⟨w.heap.size + 1, 0, none⟩ 0 5 = some [Value.int .i64 t.n, tv, .bool t.nul, lv, uv] := by
    intro w' he
    have := cellsFrom_row (he.old hb1 (fun h => h))
    rw [show [Value.int .i64 t.n, tv, .bool t.nul, lv, uv].toArray.size = 5 by rfl] at this
    simpa using this
  have cF : ∀ w', Ext none1 w1 w' → ∀ j u, (h.cells ++ [sv])[j]? = some u → w'.cell? ⟨w.heap.size, j, none⟩ = some u := by
    intro w' he j u hj
    rw [cell_of_blk (he.old hb0 (fun h => h))]; simpa using hj
  simp [ir_spec_field, rs_spec_field, hv, hw1, ld_agg ht.kF, ld_agg ht.kT, lF w1 (Ext.refl _ _), lT w1 (Ext.refl _ _)]
  have hN1 := hN h sv ver w1 (.int .i64 t.n) tv lv uv t.nul
  refine (by simpa using hN1 : Ret P _ _ _ _).mono ?_
  rintro v w2 ⟨rfl, he2⟩
  have k2 := cF w2 he2 0 _ rfl
  simp [ht.f0, Addr.add_mk, ld_scl ht.kInt, k2]
  by_cases k11 : h.kind = 11
  · refine cw_true (by simp [k11]) ?_
    obtain ⟨lsT, haT, hlT, heT⟩ : ∃ ls, ArrE w All 5 lv ls ∧ (ls.getD []).length = t.l.length ∧ ∀ (i : Nat) c x, (ls.getD [])[i]? = some c → t.l[i]? = some x → TreeAt w c x := by
      exact tree_list hT
    have cT3 : w2.cell? ⟨w.heap.size + 1, 3, none⟩ = some lv := by rw [cell_of_blk (he2.old hb1 (fun h => h))]; rfl
    have haT2 := ArrE.ext (K := All) (hE.trans he2) (fun _ _ _ h => h) haT
    simp [ht.t3, Addr.add_mk, ld_scl ht.kLT, cT3]
    refine (hTh w2 lv lsT haT2).mono ?_
    rintro v3 wx ⟨ha3, rfl⟩
    have hwx : Ext none1 w wx := hE.trans he2
    cases hnul : h.isNull ver t.nul
    · refine cw_false (by simp) ?_
      obtain ⟨aL, cL, hvL, hnoneL, hmaxL⟩ := ha3.form
      subst hvL
      have hn3 : ((lsT.map (·.take 32767)).getD []).length = (t.l.take 32767).length := by
        cases lsT with
        | none => simp at hlT; have : t.l = [] := List.eq_nil_of_length_eq_zero (by omega); simp [this]
        | some ls => simp at hlT ⊢; omega
      have hq0 : (t.l.take 32767).length ≤ 32767 := by simp; omega
      generalize hL : t.l.take 32767 = L at *
      have hn4 := hn3
      rw [hn3] at ha3 hmaxL ⊢
      obtain ⟨Et, jt, hut, _, _⟩ := sliSz_spec ht.sT
      simp [len_slice hut]
      refine (by simpa using hC flex false L.length 4 (by omega) (by omega) wx : Ret P _ _ _ _).mono ?_
      intro v4 w4 h4
      have hfs : fieldS ⟨h, part, usual, kn⟩ ver flex t = countedS flex false L.length 4 ++ (L.map (valS h.of_ part false flex)).flatten := by
        simp [fieldS, k11, hnul, List.flatMap, hL]
      rw [hfs] at hsz ⊢
      refine cw_loop (FlInv E.tU8 wx L.length (.slice aL L.length cL) ver flex w.heap.size (countedS flex false L.length 4) (L.map (valS h.of_ part false flex)))
        (fun f _ => match f 31 with | .int _ i => ((L.length : Int) - i).toNat | _ => 0) ?_ ?_
      · refine ⟨0, by omega, by simp, by simp, by simp, by simp, by simp, by simp, ?_⟩
        simpa using h4
      · rintro f w' ⟨i, hi, h31, h30, h10, h1, h2, hf4, hfr⟩
        simp [h31, h30]
        have hwf : Ext none1 w1 w' := he2.trans hfr.2
        by_cases hlt : i < L.length
        · refine cw_true (by simp; omega) ?_
          cases lsT with
          | none => simp at hn4; omega
          | some ls =>
            obtain ⟨bb, oo, cc, hvv, _, _, hx⟩ := ha3
            simp only [Value.slice.injEq] at hvv
            obtain ⟨rfl, hLn, rfl⟩ := hvv
            simp only [Option.map_some, Option.getD_some] at hn4 hx
            obtain ⟨es, hes⟩ : ∃ es, (ls.take 32767)[i]? = some es := ⟨_, List.getElem?_eq_getElem (by omega)⟩
            obtain ⟨y, hy⟩ : ∃ y, L[i]? = some y := ⟨_, List.getElem?_eq_getElem hlt⟩
            have hes' : ls[i]? = some es := by
              have h' := hes
              rw [List.getElem?_take] at h'; split at h'
              · exact h'
              · cases h'
            have hy' : t.l[i]? = some y := by
              have h' := hy
              rw [← hL, List.getElem?_take] at h'; split at h'
              · exact h'
              · cases h'
            have hTy := heT i es y hes' hy'
            obtain ⟨h5, hcx⟩ := hx i es hes
            have hcf : ∀ w', Ext none1 wx w' → cellsFrom w' ⟨bb, oo + i * 5, none⟩ 0 5 = some es := by
              intro w' he
              have := cellsFrom_list0 (hcx.ext (K := All) he (fun _ _ _ h => h) trivial)
              rwa [h5] at this
            have k6 : ∀ w', Ext none1 wx w' → w'.cell? ⟨w.heap.size, 6, none⟩ = some (.int .i64 h.of_) := fun w' he => cF w' (he2.trans he) 6 _ rfl
            have k7 : ∀ w', Ext none1 wx w' → w'.cell? ⟨w.heap.size, 7, none⟩ = some sv := fun w' he => cF w' (he2.trans he) 7 sv rfl
            have kLF := ht.kLF
            have hD := hfr.2.drew
            simp [h31]
            refine cw_regH (Ext none1 wx) hD ?_
            simp +contextual [h31, h10, h1, h2, hf4, ht.f6, ht.f7, Addr.add_mk, ld_scl ht.kInt, ld_scl kLF, k6, k7, idx?, ht.sT, hlt, ld_agg ht.kT, hcf, k6 w' hfr.2, k7 w' hfr.2, hcf w'.drew hD]
            have hget : (L.map (valS h.of_ part false flex))[i]? = some (valS h.of_ part false flex y) := by simp [hy]
            have htk : ((L.map (valS h.of_ part false flex)).take (i + 1)).flatten = ((L.map (valS h.of_ part false flex)).take i).flatten ++ valS h.of_ part false flex y := by
              rw [List.take_add_one, hget]; simp
            have hle : ((L.map (valS h.of_ part false flex)).take (i + 1)).flatten.length ≤ (L.map (valS h.of_ part false flex)).flatten.length := by
              conv => rhs; rw [← List.take_append_drop (i + 1) (L.map (valS h.of_ part false flex)), List.flatten_append, List.length_append]
              omega
            have hbound : (countedS flex false L.length 4 ++ ((L.map (valS h.of_ part false flex)).take i).flatten).length + (valS h.of_ part false flex y).length ≤ 1099511627776 := by
              rw [htk] at hle
              simp only [List.length_append] at hle hsz ⊢
              omega
            refine (by simpa using hV h.of_ false w'.drew es y (hwx.trans hD) (hTy.ext (hwx.trans hD)) (by omega) : Ret P _ _ _ _).mono ?_
            intro v5 w5 h5f
            have hD5 := hD.trans h5f.2
            simp [hD5]
            have hb5 : ∃ K, BytesAt w5 K v5 (valS h.of_ part false flex y) := ⟨_, own_bytes h5f.1⟩
            obtain ⟨K5, hb5⟩ := hb5
            have hfr5 : Fresh E.tU8 wx (f 11) w5 (countedS flex false L.length 4 ++ ((L.map (valS h.of_ part false flex)).take i).flatten) :=
              (hfr.post (Ext.refl none1 w').drew).post h5f.2
            refine st_app_bytes ht.sBs (by simp) hfr5.1 hfr5.2.size hb5 hbound ?_
            intro v6 w6 ho hg
            have h6 := hfr5.grow ho hg
            have ei : IntKind.i64.wrap ((i : Int) + 1) = ((i + 1 : Nat) : Int) := by rw [i64_small (by omega) (by omega)]; rfl
            simp [h6.2, h31, ei]
            refine ⟨⟨i + 1, by omega, by simp, by simp [h30], by simp [h10], by simp [h1], by simp [h2], by simp [hf4], ?_⟩, by omega⟩
            rw [htk, ← List.append_assoc]
            simpa using h6
        · refine cw_false (by simp; omega) ?_
          have : i = L.length := by omega
          subst this
          have h5 := Fresh.pre hwx hfr
          rw [List.take_of_length_le (by simp)] at h5
          simp
          exact h5
    · refine cw_true (by simp) ?_
      obtain ⟨Et, jt, hut, _, _⟩ := sliSz_spec ht.sT
      simp [len_slice hut]
      refine (by simpa using hC flex true 0 4 (by omega) (by omega) wx : Ret P _ _ _ _).mono ?_
      intro v4 w4 h4
      refine cw_loop (fun f w' => f 31 = .int .i64 0 ∧ f 30 = .int .i64 0 ∧ f 11 = v4 ∧ w' = w4) (fun _ _ => 0) (by simp) ?_
      rintro f w' ⟨h31, h30, h11, rfl⟩
      simp [h31, h30]
      refine cw_false (by simp) ?_
      simp [h11]
      have := Fresh.pre hwx h4
      simpa [fieldS, k11, hnul] using this
  refine cw_false (by simp [k11]) ?_
  have k3 := cF w2 he2 3 _ rfl
  have k7 := cF w2 he2 7 sv rfl
  have hT2 := (hT.ext hE).ext he2
  have lT2 := lT w2 he2
  have kLF := ht.kLF
  have fin : ∀ nul, nul = h.isNull ver t.nul → ∀ v w3, Fresh E.tU8 w2 v w3 (valS h.kind part nul flex t) → ¬ (h.kind = 10 ∧ 0 ≤ h.null) → Fresh E.tU8 w v w3 (fieldS ⟨h, part, usual, kn⟩ ver flex t) := by
    rintro nul rfl v w3 hfr hne
    have := Fresh.pre (hE.trans he2) hfr
    simpa [fieldS, k11, hne] using this
  by_cases a : h.kind = 10
  · by_cases b : 0 ≤ h.null
    · simp [ht.f0, ht.f3, Addr.add_mk, ld_scl ht.kInt, k2, k3, a, b]
      refine cw_true (by simp) ?_
      simp
      cases hnul : h.isNull ver t.nul
      · refine cw_false (by simp) ?_
        simp
        refine cw_regH (Ext none1 w2) (Ext.refl none1 w2).drew ?_
        have hD := (Ext.refl none1 w2).drew
        have k7' : ∀ w', Ext none1 w2 w' → w'.cell? ⟨w.heap.size, 7, none⟩ = some sv := fun w' he => cF w' (he2.trans he) 7 sv rfl
        have lT' : ∀ w', Ext none1 w2 w' → cellsFrom w' ⟨w.heap.size + 1, 0, none⟩ 0 5 = some [Value.int .i64 t.n, tv, .bool t.nul, lv, uv] := fun w' he => lT w' (he2.trans he)
        simp +contextual [ht.f7, Addr.add_mk, ld_scl kLF, k7', k7, ld_agg ht.kT, lT', lT' w2.drew hD]
        refine (by simpa using hF 1 1 (by omega) w2.drew : Ret P _ _ _ _).mono ?_
        intro v3 w3 h3
        have hE3 := hD.trans h3.2
        simp [hE3]
        have hlen : (fixE 1 1).length + (part t).length ≤ 1099511627776 := by
          simpa [fieldS, k11, a, b, hnul] using hsz
        refine (by simpa using hP w3 _ t ((hE.trans he2).trans hE3) (hT2.ext hE3) (by omega) : Ret P _ _ _ _).mono ?_
        intro v4 w4 h4
        have hE4 := hE3.trans h4.2
        simp [hE4]
        have hb4 : ∃ K, BytesAt w4 K v4 (part t) := ⟨_, own_bytes h4.1⟩
        obtain ⟨K4, hb4⟩ := hb4
        refine st_app_bytes ht.sBs (by simp) (Own.ext h3.1 h4.2 (fun _ _ h => h)) (h3.post h4.2).2.size hb4 hlen ?_
        intro v5 w5 ho hg
        have h5 := Fresh.pre (hE.trans he2) (Fresh.pre hD ((h3.post h4.2).grow ho hg))
        have hE5 : Ext none1 w2 w5 := hD.trans ((h3.post h4.2).grow ho hg).2
        simp [hE5]
        simpa [fieldS, k11, a, b, hnul] using h5
      · refine cw_true (by simp) ?_
        simp
        refine (by simpa using hF (-1) 1 (by omega) w2 : Ret P _ _ _ _).mono ?_
        intro v3 w3 h3
        have := Fresh.pre (hE.trans he2) h3
        simpa [fieldS, k11, a, b, hnul] using this
    · simp [ht.f0, ht.f3, Addr.add_mk, ld_scl ht.kInt, k2, k3, a, b]
      refine cw_false (by simp) ?_
      simp [ht.f0, ht.f7, Addr.add_mk, ld_scl ht.kInt, ld_scl kLF, k2, k7, ld_agg ht.kT, lT2]
      refine (by simpa using hV h.kind (h.isNull ver t.nul) w2 _ t (hE.trans he2) hT2 (by simpa [fieldS, k11, b] using hsz) : Ret P _ _ _ _).mono ?_
      intro v3 w3 h3
      exact fin _ rfl v3 w3 h3 (by simp [b])
  · simp [ht.f0, ht.f3, Addr.add_mk, ld_scl ht.kInt, k2, k3, a]
    refine cw_false (by simp) ?_
    simp [ht.f0, ht.f7, Addr.add_mk, ld_scl ht.kInt, ld_scl kLF, k2, k7, ld_agg ht.kT, lT2]
    refine (by simpa using hV h.kind (h.isNull ver t.nul) w2 _ t (hE.trans he2) hT2 (by simpa [fieldS, k11, a] using hsz) : Ret P _ _ _ _).mono ?_
    intro v3 w3 h3
    exact fin _ rfl v3 w3 h3 (by simp [a])
end
end Go.Kg

set_option linter.unusedSimpArgs false
set_option linter.unusedVariables false
namespace Go.Kg
open Go
theorem insU_map {α β : Type} (g : α → β) (least : Nat) (x : Nat × α) : ∀ out : List (Nat × α), insU least (x.1, g x.2) (out.map fun z => (z.1, g z.2)) = (insU least x out).map fun z => (z.1, g z.2)
  | [] => by unfold insU; split <;> simp
  | y :: r => by
    have ih := insU_map g least x r
    unfold insU
    split
    · rfl
    · simp only [List.map_cons]
      split
      · rw [ih]; rfl
      · split <;> rfl
theorem unkS_map {α β : Type} (g : α → β) (least : Nat) (l : List (Nat × α)) : unkS least (l.map fun z => (z.1, g z.2)) = (unkS least l).map fun z => (z.1, g z.2) := by
  have key : ∀ (l o : List (Nat × α)), (l.map fun z => (z.1, g z.2)).foldl (fun out x => insU least x out) (o.map fun z => (z.1, g z.2)) = (l.foldl (fun out x => insU least x out) o).map fun z => (z.1, g z.2) := by
    intro l
    induction l with
    | nil => intro o; rfl
    | cons x l ih => intro o; rw [List.map_cons, List.foldl_cons, List.foldl_cons, insU_map g, ih]
  unfold unkS
  rw [← List.map_take]
  exact key _ []
theorem unkS_mem {α : Type} {least : Nat} {l : List (Nat × α)} {z : Nat × α} (h : z ∈ unkS least l) : z ∈ l := by
  have key : ∀ (l o : List (Nat × α)), z ∈ l.foldl (fun out x => insU least x out) o → z ∈ l ∨ z ∈ o := by
    intro l
    induction l with
    | nil => intro o h; exact .inr h
    | cons x l ih =>
      intro o h
      rcases ih _ h with h | h
      · exact .inl (List.mem_cons_of_mem _ h)
      · rcases insU_mem h with rfl | h
        · exact .inl List.mem_cons_self
        · exact .inr h
  rcases key _ _ h with h | h
  · exact List.mem_of_mem_take h
  · cases h
theorem unkS_len {α : Type} {least : Nat} {l : List (Nat × α)} : (unkS least l).length ≤ 32767 := by
  have one : ∀ (x : Nat × α) (o : List (Nat × α)), (insU least x o).length ≤ o.length + 1 := by
    intro x o
    induction o with
    | nil => unfold insU; split <;> simp
    | cons y r ih =>
      unfold insU; simp only []; split
      · simp
      · split
        · simp; omega
        · split <;> simp
  have key : ∀ (l o : List (Nat × α)), (l.foldl (fun out x => insU least x out) o).length ≤ List.length o + l.length := by
    intro l
    induction l with
    | nil => intro o; simp
    | cons x l ih => intro o; rw [List.foldl_cons]; have := ih (insU least x o); have := one x o; simp; omega
  have h : (unkS least l).length ≤ [].length + (l.take 32767).length := key (l.take 32767) []
  simp at h
  omega
def UnkC (P : Program) (E : Env) : Prop := ∀ w0 w fv F uv u, Ext none1 w0 w → FsAt w fv F → (∀ h ∈ F.heads, FH.ok h) → UAt w0 uv u →
  Ret P E.f_spec_unknown #[fv, uv] w fun v w' => UAtK w' (fun b => b < w0.heap.size ∨ w.heap.size ≤ b) v (unkS (knownL F.heads) u) ∧ Ext none1 w w'
def KnownC (P : Program) (E : Env) : Prop := ∀ w fv F, FsAt w fv F → (∀ h ∈ F.heads, FH.ok h) → Ret P E.f_spec_known #[fv] w fun r w' => r = .int .u32 (knownL F.heads) ∧ Ext none1 w w'
def AtC (P : Program) (E : Env) : Prop := ∀ w cs t, TreeAt w cs t → ∀ i : Nat, i ≤ 1099511627776 → Ret P E.f_spec_at #[.agg cs.toArray, .int .i64 i] w fun r w' => ∃ cs', r = .agg cs'.toArray ∧ TreeAt w' cs' (t.at i) ∧ Ext none1 w w'
def FixedC (P : Program) (E : Env) : Prop := ∀ (n : Int) (k : Nat), k ≤ 8 → SpC P E.tU8 E.f_spec_Fixed [.int .i64 n, .int .i64 k] (fixE k n)
def WidthC (P : Program) (E : Env) : Prop := ∀ (kind : Int) (w : World), Ret P E.f_spec_width #[.int .i64 kind] w fun v w' => v = .int .i64 (widthS kind) ∧ w' = w
def SameC (P : Program) (E : Env) : Prop := ∀ w K K' va vb s t, BytesAt w K va s → BytesAt w K' vb t → s.length ≤ 1099511627776 → Ret P E.f_spec_Same #[va, vb] w fun r w' => r = .bool (s == t) ∧ Ext none1 w w'
/-- usual, of one field. -/
def UsC (P : Program) (E : Env) (x : FE) (sub : FS) : Prop := ∀ w sv cs t, FsAt w sv sub → TreeAt w cs t → Ret P E.f_spec_usual #[.agg (x.h.cells ++ [sv]).toArray, .agg cs.toArray] w fun r w' => r = .bool (usualS x t) ∧ Ext none1 w w'
theorem tc_prOf {n : Nat} {bv : Value} : tc (prOf [.int .u32 n, bv]) = [.int .u32 n, bv] := by simp [tc, prOf]
section
variable {P : Program} {E : Env} (ht : TyG P E)
include ht
theorem c_unknown (hI : FnIs P E.f_spec_unknown nt_spec_unknown (rs_spec_unknown E) (ir_spec_unknown E)) (hK : KnownC P E) : UnkC P E := by
  intro w0 w fv F uv u hx0 hF hok hu
  obtain ⟨ls, ha0, hlen, hget⟩ := hu
  have ha := ArrE.ext (K := All) hx0 (fun _ _ _ h => h) ha0
  have hall : ∀ (i : Nat) c, (ls.getD [])[i]? = some c → ∃ x bv, u[i]? = some x ∧ c = [.int .u32 x.1, bv] ∧ x.1 < 4294967296 ∧ BytesAt w0 All bv x.2 := by
    intro i c hc
    have hlt := (List.getElem?_eq_some_iff.1 hc).1
    obtain ⟨x, hx⟩ : ∃ x, u[i]? = some x := ⟨_, List.getElem?_eq_getElem (by omega)⟩
    obtain ⟨bv, h1, h2, h3⟩ := hget i c x hc hx
    exact ⟨x, bv, hx, h1, h2, h3⟩
  have hus : ls.getD [] = ((ls.getD []).map prOf).map tc := by
    apply List.ext_getElem?
    intro i
    simp only [List.getElem?_map]
    cases hc : (ls.getD [])[i]? with
    | none => rfl
    | some c =>
      obtain ⟨x, bv, _, rfl, _⟩ := hall i c hc
      simp [tc_prOf]
  -- pairs
  let zs : List (Nat × (Value × List UInt8)) := List.zipWith (fun c x => (x.1, ((prOf c).2, x.2))) (ls.getD []) u
  have hz1 : (zs.map fun z => (z.1, z.2.1)) = (ls.getD []).map prOf := by
    apply List.ext_getElem?
    intro i
    simp only [List.getElem?_map, zs, List.getElem?_zipWith]
    cases hc : (ls.getD [])[i]? with
    | none => rfl
    | some c =>
      obtain ⟨x, bv, hx, rfl, _⟩ := hall i c hc
      simp [hx, prOf]
  have hz2 : (zs.map fun z => (z.1, z.2.2)) = u := by
    apply List.ext_getElem?
    intro i
    simp only [List.getElem?_map, zs, List.getElem?_zipWith]
    cases hc : (ls.getD [])[i]? with
    | none =>
      have : ¬ i < (ls.getD []).length := fun h => by rw [List.getElem?_eq_getElem h] at hc; cases hc
      rw [List.getElem?_eq_none (l := u) (by omega)]
      rfl
    | some c =>
      obtain ⟨x, bv, hx, rfl, _⟩ := hall i c hc
      simp [hx]
  have hzp : ∀ z ∈ zs, z.1 < 4294967296 ∧ BytesAt w0 All z.2.1 z.2.2 := by
    intro z hz
    obtain ⟨i, hi, hzi⟩ := List.getElem_of_mem hz
    have hzi' : zs[i]? = some z := by rw [List.getElem?_eq_getElem hi, hzi]
    simp only [zs, List.getElem?_zipWith] at hzi'
    cases hc : (ls.getD [])[i]? with
    | none => rw [hc] at hzi'; simp at hzi'
    | some c =>
      obtain ⟨x, bv, hx, rfl, h2, h3⟩ := hall i c hc
      rw [hc, hx] at hzi'
      simp at hzi'
      subst hzi'
      exact ⟨h2, by simpa [prOf] using h3⟩
  have hone : ∀ p ∈ (ls.getD []).map prOf, p.2.oneCell' = true := by
    intro p hp
    rw [← hz1] at hp
    obtain ⟨z, hz, rfl⟩ := List.mem_map.1 hp
    obtain ⟨a, c, h, _⟩ := (hzp z hz).2.len
    show z.2.1.oneCell' = true
    rw [h]; rfl
  refine (unk_walk ht hI (knownL F.heads) w fv uv ls (hK w fv F hF hok) ha _ hus hone).mono ?_
  rintro v w' ⟨ho, he⟩
  refine ⟨?_, he⟩
  rw [← hz1, unkS_map] at ho
  have hlen' : (unkS (knownL F.heads) zs).length ≤ 32767 := unkS_len
  have hmem : ∀ z ∈ unkS (knownL F.heads) zs, z.1 < 4294967296 ∧ BytesAt w0 All z.2.1 z.2.2 := fun z hz => hzp z (unkS_mem hz)
  rw [← hz2, unkS_map]
  generalize unkS (knownL F.heads) zs = os at *
  obtain ⟨n, h1, h2⟩ := ho
  have hn : n = os.length := by simp at h1; omega
  subst hn
  rcases h2 with ⟨rfl, h0⟩ | ⟨g, cap, cur, rfl, hb, hg, hnc, hcm, hcs, htake⟩
  · have : os = [] := List.eq_nil_of_length_eq_zero h0
    subst this
    exact ⟨none, rfl, rfl, by simp⟩
  · refine ⟨some ((os.map fun z => (z.1, z.2.1)).map tc), ⟨g, 0, cap, by simp, .inr hb, ⟨by simp; exact hnc, by simp; omega⟩, ?_⟩, by simp, ?_⟩
    · intro i cs hi
      simp only [List.getElem?_map, Option.map_map, Option.map_eq_some_iff] at hi
      obtain ⟨z, hz, rfl⟩ := hi
      refine ⟨rfl, ?_⟩
      have hzz : (os.map fun z => (z.1, z.2.1))[i]? = some (z.1, z.2.1) := by simp [hz]
      obtain ⟨g', cap', hv', _, a1, a2⟩ := ownT_get (os := os.map fun z => (z.1, z.2.1)) ⟨os.length, by simp, .inr ⟨g, cap, cur, rfl, hb, hg, hnc, hcm, hcs, htake⟩⟩ hzz
      simp only [Value.slice.injEq, Option.some.injEq, Addr.mk.injEq] at hv'
      obtain ⟨⟨rfl, _⟩, _⟩ := hv'
      intro j u hj
      match j, hj with
      | 0, hj => simp [tc] at hj; subst hj; simpa using a1
      | 1, hj => simp [tc] at hj; subst hj; simpa using a2
      | j + 2, hj => simp [tc] at hj
    · intro i c x hc hx
      simp only [Option.getD_some, List.getElem?_map, Option.map_map, Option.map_eq_some_iff] at hc hx
      obtain ⟨z, hz, rfl⟩ := hc
      obtain ⟨z', hz', rfl⟩ := hx
      rw [hz] at hz'
      cases hz'
      have := hmem z (List.mem_of_getElem? hz)
      exact ⟨z.2.1, rfl, this.1, ((this.2.mono (K' := fun b => b < w0.heap.size ∨ w.heap.size ≤ b) (fun b hb _ => .inl hb)).ext (hx0.trans he) (fun _ _ _ h => h))⟩
end
end Go.Kg
