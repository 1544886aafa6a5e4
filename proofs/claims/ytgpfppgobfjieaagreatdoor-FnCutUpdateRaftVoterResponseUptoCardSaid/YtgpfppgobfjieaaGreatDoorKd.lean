/- What is proved here: how the code of the messages runs, in general: a semantics of calls by their texts, and contracts of the functions of kbin and of the reference. No condition but those that each theorem names. -/
import Derived.ChangeKeysEq
import Derived.Lib.AppendZerosOnto
import Derived.Test.YtgpfppgobfjieaaGreatDoorKc
set_option linter.unusedSectionVars false
set_option linter.unusedSimpArgs false
set_option linter.unusedVariables false
set_option linter.unusedSimpArgs false
set_option linter.unusedVariables false
set_option linter.unusedSectionVars false
namespace Go.Kg
open Go
structure TyUuE (P : Program) (E : Env) : Prop extends TyUu P E where
  g : P.eqGuardType P.depth E.tUu = false
  u8 : P.underlying E.tU8 = some (.int .u8)
  k8 : kindOf P E.tU8 = .scl
  i8 : ∃ i, P.info? E.tU8 = some i
  c8 : P.cellsOf E.tU8 = 1
theorem wp_reg2 {P : Program} {Q : Post} {l1 l2 : List Ro} {f : Nat → Value} {w : World} (h : regW P (fun f w => regWp P (Q .normal) l2 f w) l1 f w) : (Ir.reg (l1 ++ l2)).wp P Q f w := by
  have key : ∀ (l1 : List Ro) (f : Nat → Value) (w : World), regWp P (fun f w => regWp P (Q .normal) l2 f w) l1 f w → regWp P (Q .normal) (l1 ++ l2) f w := by
    intro l1
    induction l1 with
    | nil => intro f w h; exact h
    | cons o r ih =>
      intro f w h
      rw [List.cons_append, regWp_cons]
      rw [regWp_cons] at h
      split
      · rename_i hw; rw [if_pos hw] at h; exact stepF_mono (fun v w hq => ih _ _ hq) h
      · rename_i hw; rw [if_neg hw] at h; exact ih _ _ h
  exact key l1 f w (regW_sound l1 h)
section
variable {P : Program} {E : Env} (ht : TyUuE P E) {f : Nat → Value} {ty : TypeId} {w : World} {K : Value → World → Prop}
include ht
theorem run_items16 (w : World) (d : Nat) (l m : List UInt8) : ∀ is : List Nat, (∀ i ∈ is, i < l.length ∧ i < m.length) →
    (Op.eqItems (d + 1) E.tU8 1 (cellsOf l).toArray (cellsOf m).toArray is).run P w = .ok (is.all fun i => l[i]? == m[i]?) w := by
  intro is
  induction is with
  | nil => intro _; simp [Op.eqItems]
  | cons i is ih =>
    intro h
    obtain ⟨h1, h2⟩ := h i List.mem_cons_self
    have p1 : ∀ (l : List UInt8) (hi : i < l.length), (part E.tU8 (cellsOf l).toArray (i * 1)).run P w = .ok (.int .u8 (l[i].toNat : Int)) w := by
      intro l hi
      refine run_part ?_
      simp [part?, ht.k8, cellsOf, hi]
    simp only [Op.eqItems, Sem.run_bind, p1 l h1, p1 m h2, Result.andThen_ok, run_equalIn_int w d E.tU8 .u8 .u8 _ _ ht.u8]
    have e : ((l[i].toNat : Int) == (m[i].toNat : Int)) = (l[i]? == m[i]?) := by
      rw [List.getElem?_eq_getElem h1, List.getElem?_eq_getElem h2]
      by_cases hx : l[i] = m[i]
      · simp [hx]
      · have : ¬ l[i].toNat = m[i].toNat := fun h => hx (UInt8.toNat_inj.1 h)
        have e1 : ((l[i].toNat : Int) == (m[i].toNat : Int)) = false := by
          rw [beq_eq_false_iff_ne]; omega
        have e2 : (some l[i] == some m[i]) = false := by simpa using hx
        rw [e1, e2]
    rw [e]
    have ih' := ih (fun j hj => h j (List.mem_cons_of_mem _ hj))
    cases hh : (l[i]? == m[i]?)
    · simp [hh]
    · simp only [Bool.not_true, Bool.false_eq_true, if_false, List.all_cons, hh, Bool.true_and]
      exact ih'
theorem all_range16 {l m : List UInt8} (hl : l.length = 16) (hm : m.length = 16) : ((List.range 16).all fun i => l[i]? == m[i]?) = (l == m) := by
  by_cases h : l = m
  · subst h; simp
  · have : ((List.range 16).all fun i => l[i]? == m[i]?) = false := by
      rw [List.all_eq_false]
      apply Classical.byContradiction
      intro hn
      apply h
      apply List.ext_getElem?
      intro i
      by_cases hi : i < 16
      · have := fun hx => hn ⟨i, by simpa using hi, hx⟩
        simpa using this
      · rw [List.getElem?_eq_none (by omega), List.getElem?_eq_none (by omega)]
    rw [this]
    simpa using h
theorem st_neq16 {x y : Operand} {yT : TypeId} {l m : List UInt8} (hl : l.length = 16) (hm : m.length = 16) (hx : evF f x = .agg (cellsOf l).toArray) (hy : evF f y = .agg (cellsOf m).toArray) (h : K (.bool !(l == m)) w) : stepF P f (.binOp .neq E.tUu x y yT) ty w K := by
  obtain ⟨i, hi⟩ := ht.i8
  refine (stepF_ok (v := .bool !(l == m)) (w' := w) ?_).mpr h
  unfold runF execOp
  simp only [hx, hy, run_eqGuard_agg w .neq E.tUu x y _ _ ht.g, Sem.run_bind, Result.andThen_ok, run_neq_struct, run_equalIn_array w 9999 _ _ ht.uUu hi, ht.c8]
  rw [show (9999 : Nat) = 9998 + 1 from rfl, run_items16 ht w 9998 l m (List.range 16) (by intro i hi; simp at hi; omega), all_range16 ht hl hm]
  simp
theorem st_build16 (h : K (.agg z16) w) : stepF P f (.build E.tUu #[]) ty w K := by
  obtain ⟨i, hi⟩ := ht.i8
  refine (stepF_ok (v := .agg z16) (w' := w) ?_).mpr h
  have hz : (zeroValue E.tUu).run P w = .ok (.agg z16) w := by
    have := ht.zUu
    unfold zeroOf at this
    obtain ⟨j, hj, hz⟩ := Option.bind_eq_some_iff.1 this
    simp [zeroValue, typeInfo, hj, hz]
  simp [runF, execOp, Instr.build, hz, run_underlying ht.uUu, sizeOf, typeInfo, hi, Instr.fill, Value.cells]
end
end Go.Kg

set_option linter.unusedSimpArgs false
set_option linter.unusedVariables false
set_option linter.unusedSectionVars false
namespace Go.Kg
open Go
/-- the cells of a struct within a block -/
def segL (c : Array Value) (a n : Nat) : List Value := (c.toList.drop a).take n
theorem segL_get {c : Array Value} {a n j : Nat} (h : j < n) : (segL c a n)[j]? = c[a + j]? := by simp [segL, List.getElem?_take, h, List.getElem?_drop]
theorem segL_none {c : Array Value} {a n j : Nat} (h : n ≤ j) : (segL c a n)[j]? = none := by simp [segL, List.getElem?_take]; omega
structure Rdr where
  pb : Nat
  D : Nat
  base : Nat
  ev : Value
def RK (R : Rdr) (k : Nat) : Prop := k = R.D ∨ R.base ≤ k
def CB (R : Rdr) (b k : Nat) : Prop := k = R.pb ∨ k = b
structure RW (C : CfgR) (R : Rdr) (b : Nat) (w : World) : Prop where
  lt : R.pb < R.base ∧ b < R.base ∧ R.D < R.base ∧ R.base ≤ w.heap.size
  ne : R.pb ≠ R.D ∧ b ≠ R.D ∧ R.pb ≠ b
  err : w.cell? ⟨C.E.g_kbin_ErrNotEnoughData, 0, none⟩ = some R.ev
  errN : C.E.g_kbin_ErrNotEnoughData ≠ R.pb ∧ C.E.g_kbin_ErrNotEnoughData ≠ b
section
variable {P : Program} {C : CfgR} {R : Rdr}
theorem RW.ext {b : Nat} {w w' : World} (h : RW C R b w) (he : Ext (CB R b) w w') : RW C R b w' :=
  ⟨⟨h.lt.1, h.lt.2.1, h.lt.2.2.1, Nat.le_trans h.lt.2.2.2 he.size⟩, h.ne, he.cell h.err (by rintro (h1 | h1); exact h.errN.1 h1; exact h.errN.2 h1), h.errN⟩
theorem RW.keepK {b : Nat} {w : World} (h : RW C R b w) : ∀ k, k < w.heap.size → RK R k → ¬ CB R b k := by
  obtain ⟨⟨h1, h2, h3, h4⟩, ⟨h5, h6, h7⟩, _, _⟩ := h
  rintro k _ (hk | hk) (hc | hc) <;> omega
structure FrR (C : CfgR) (R : Rdr) (f : Nat → Value) (pv b a : Nat) (ver : Int) (fl : Bool) (n : Nat) : Prop where
  ptr : f pv = .pointer (some ⟨b, a, none⟩)
  ptrN : 8 < pv ∧ pv < n
  v0 : C.fx = true → 0 ≤ ver
  ver : f 8 = .int .i16 ver
  flg : C.fx = true → f 9 = .bool fl
  flN : C.fx = false → fl = false
  rd : f C.rs = .pointer (some ⟨R.pb, 0, none⟩)
  us : f 2 = .bool false
  nN : 10 ≤ n
  rsN : 7 ≤ C.rs ∧ C.rs < n
theorem FrR.keep {f f' : Nat → Value} {pv b a n : Nat} {ver : Int} {fl : Bool} (h : FrR C R f pv b a ver fl n) {t : Nat} (hk : Keeps f f' t) (ht : n ≤ t) : FrR C R f' pv b a ver fl n := by
  have h1 := h.ptrN
  have h2 := h.nN
  have h3 := h.rsN
  exact ⟨(hk _ (by omega) (by omega)).trans h.ptr, h1, h.v0, (hk _ (by omega) (by omega)).trans h.ver, fun hx => (hk _ (by omega) (by omega)).trans (h.flg hx), h.flN, (hk _ (by omega) (by omega)).trans h.rd, (hk _ (by omega) (by omega)).trans h.us, h2, h3⟩
theorem FrR.up {f : Nat → Value} {pv b a n m : Nat} {ver : Int} {fl : Bool} (h : FrR C R f pv b a ver fl n) (hm : n ≤ m) : FrR C R f pv b a ver fl m :=
  ⟨h.ptr, ⟨h.ptrN.1, by have := h.ptrN; omega⟩, h.v0, h.ver, h.flg, h.flN, h.rd, h.us, by have := h.nN; omega, ⟨h.rsN.1, by have := h.rsN; omega⟩⟩
structure StR (C : CfgR) (R : Rdr) (b a n : Nat) (w : World) (cc : Array Value) (e : TypeId) (rs : RS) : Prop where
  blk : w.heap[b]? = some (.cells cc e (0, 0))
  fit : a + n ≤ cc.size
  rd : RdAt C.E.tRd w R.pb R.D rs
  rw_ : RW C R b w
/-- only the reader's block has turned (and new ones) -/
theorem StR.ext1 {b a n : Nat} {w w' : World} {cc : Array Value} {e : TypeId} {rs rs' : RS} (h : StR C R b a n w cc e rs) (he : Ext (· = R.pb) w w') (hr : RdAt C.E.tRd w' R.pb R.D rs') : StR C R b a n w' cc e rs' :=
  ⟨he.old h.blk (fun h' => h.rw_.ne.2.2 h'.symm), h.fit, hr, h.rw_.ext (he.mono (fun _ _ h => .inl h))⟩
structure RdTo (C : CfgR) (R : Rdr) (b a n lo : Nat) (w : World) (cc : Array Value) (e : TypeId) (f : Nat → Value) (l m t : Nat) (rs' : RS) (f' : Nat → Value) (w' : World) (cc' : Array Value) : Prop where
  ext : Ext (CB R b) w w'
  st : StR C R b a n w' cc' e rs'
  size : cc'.size = cc.size
  same : ∀ j, (j < a + lo ∨ a + n ≤ j) → cc'[j]? = cc[j]?
  keep : KeepR f f' l m t
theorem RdTo.trans {b a n lo lo' : Nat} {w w1 w2 : World} {cc c1 c2 : Array Value} {e : TypeId} {f f1 f2 : Nat → Value} {l m t l' m' t' : Nat} {r1 r2 : RS} (x : RdTo C R b a n lo w cc e f l m t r1 f1 w1 c1) (y : RdTo C R b a n lo' w1 c1 e f1 l' m' t' r2 f2 w2 c2)
    (hlo : lo ≤ lo') (hl : l ≤ l') (hm : m ≤ m') (ht : t ≤ t') : RdTo C R b a n lo w cc e f l m' t r2 f2 w2 c2 :=
  ⟨x.ext.trans y.ext, y.st, y.size.trans x.size, fun j hj => (y.same j (by omega)).trans (x.same j hj), x.keep.trans y.keep hl hm ht⟩
/-- A field stands in a struct's cells. -/
def FldAt (w : World) (R : Rdr) (cs : List Value) (o : Nat) (p : Prim) (x : p.T) : Prop := ∃ v, seg cs o v.cells.toList ∧ p.rep1 w (RK R) v x
theorem rep1_sz {w : World} {K : Nat → Prop} {p : Prim} {u : Value} {x : p.T} (h : p.rep1 w K u x) : u.cells.size = p.sz := by
  have := rep1_one h
  by_cases hp : p = .uuid
  · subst hp
    simp only [if_true] at this
    obtain ⟨c, rfl, hc, _⟩ := this
    exact hc
  · simp only [if_neg hp] at this
    have h2 : p.sz = 1 := by cases p <;> first | rfl | exact absurd rfl hp
    rw [h2]
    cases u <;> simp_all [Value.oneCell', Value.cells]
theorem FldAt.move {w w' : World} {cs cs' : List Value} {o : Nat} {p : Prim} {x : p.T} (h : FldAt w R cs o p x) {Cx : Nat → Prop} (he : Ext Cx w w') (hK : ∀ k, k < w.heap.size → RK R k → ¬ Cx k) (hc : ∀ j, o ≤ j → j < o + p.sz → cs'[j]? = cs[j]?) : FldAt w' R cs' o p x := by
  obtain ⟨v, h1, h2⟩ := h
  refine ⟨v, fun j u hj => ?_, Prim.rep1_ext he hK h2⟩
  rw [hc (o + j) (by omega)]
  · exact h1 j u hj
  · have := (List.getElem?_eq_some_iff.1 hj).1
    have h3 := rep1_sz h2
    simp at this
    omega
def PrimR (P : Program) (C : CfgR) (p : Prim) : Prop := ∀ fl, (fl = true → C.fx = true) → ∀ w pb D rs, pb ≠ D → D < w.heap.size → RdAt C.E.tRd w pb D rs →
  Ret P (p.fR C.E fl) #[.pointer (some ⟨pb, 0, none⟩)] w fun v w' => p.rep1 w' (fun b => b = D ∨ w.heap.size ≤ b) v (p.rd fl rs).1 ∧ Ext (· = pb) w w' ∧ RdAt C.E.tRd w' pb D (p.rd fl rs).2
def LenRC (P : Program) (C : CfgR) : Prop := ∀ fl, (fl = true → C.fx = true) → ∀ w pb D rs, pb ≠ D → RdAt C.E.tRd w pb D rs →
  Ret P (if fl then C.E.f_pkbin_Reader_CompactArrayLen else C.E.f_pkbin_Reader_ArrayLen) #[.pointer (some ⟨pb, 0, none⟩)] w fun v w' => v = .int .i32 (lenRd fl rs).1 ∧ Ext (· = pb) w w' ∧ RdAt C.E.tRd w' pb D (lenRd fl rs).2
structure EndC0 (P : Program) (C : CfgR) : Prop where
  complete : ∀ w pb D rs ev, RdAt C.E.tRd w pb D rs → (rs.bad = true → w.cell? ⟨C.E.g_kbin_ErrNotEnoughData, 0, none⟩ = some ev) → Ret P C.E.f_pkbin_Reader_Complete #[.pointer (some ⟨pb, 0, none⟩)] w fun v w' => v = (if rs.bad then ev else .nilIface) ∧ w' = w
structure EndC (P : Program) (C : CfgR) : Prop extends EndC0 P C where
  ok : ∀ w pb D rs, RdAt C.E.tRd w pb D rs → Ret P C.E.f_pkbin_Reader_Ok #[.pointer (some ⟨pb, 0, none⟩)] w fun v w' => v = .bool !rs.bad ∧ w' = w
def TagsRC (P : Program) (C : CfgR) : Prop := ∀ w pb D rs, pb ≠ D → D < w.heap.size → RdAt C.E.tRd w pb D rs →
  Ret P C.E.f_kmsg_internalReadTags #[.pointer (some ⟨pb, 0, none⟩)] w fun v w' => (∃ u, v = .agg #[u] ∧ TagsAt w' (fun b => b = D ∨ w.heap.size ≤ b) u (rdTags rs).1) ∧ Ext (· = pb) w w' ∧ RdAt C.E.tRd w' pb D (rdTags rs).2
structure TyR (P : Program) (C : CfgR) : Prop where
  c : TyC P (Sch.genR.toR C)
  uu : isAgg16 (kindOf P C.E.tUu) = true → TyUu P C.E
  kTags : kindOf P C.E.t_kmsg_Tags = .agg 1
  i32 : intKind? P C.E.tI32 = some .i32
variable {Q : Post} {f : Nat → Value} {w : World}
theorem r_call (ht : TyR P C) {p : Prim} (hq : p = .uuid → isAgg16 (kindOf P C.E.tUu) = true) {g l t : Nat} {b a n : Nat} {cc : Array Value} {e : TypeId} {rs : RS} {x : p.T} {rs' : RS} (hs : StR C R b a n w cc e rs) (h7 : f C.rs = .pointer (some ⟨R.pb, 0, none⟩)) (hl : l < t) (hl7 : 9 < l)
    (hP : Ret P g #[.pointer (some ⟨R.pb, 0, none⟩)] w fun v w' => p.rep1 w' (fun b => b = R.D ∨ w.heap.size ≤ b) v x ∧ Ext (· = R.pb) w w' ∧ RdAt C.E.tRd w' R.pb R.D rs')
    (h : ∀ f' w' u, LocVal w' f' p l u → p.rep1 w' (RK R) u x → Ext (· = R.pb) w w' → RdAt C.E.tRd w' R.pb R.D rs' → (∀ y, y < t → y ≠ l → f' y = f y) → Q .normal f' w') : (callR C p g l t).wp P Q f w := by
  have e3 : (t = l) = False := by simp; omega
  have keep : ∀ a b, ∀ y, y < t → y ≠ l → upd (upd f t a) l b y = f y := by
    intro a b y hy hy2
    have x4 : (y = t) = False := by simp; omega
    simp [x4, hy2]
  have hK : ∀ k, k = R.D ∨ w.heap.size ≤ k → RK R k := by
    rintro k (h | h)
    · exact .inl h
    · exact .inr (Nat.le_trans hs.rw_.lt.2.2.2 h)
  refine wp_reg ?_
  by_cases hp : p = .uuid
  · subst hp
    have hz : zeroOf P C.E.tUu = some (.agg z16) := (ht.uu (hq rfl)).zUu
    simp [callR, putL, h7]
    refine hP.mono ?_
    rintro v w1 ⟨h1, h2, h3⟩
    have hone := rep1_one h1
    simp only [if_true] at hone
    obtain ⟨c, rfl, hc16, hone⟩ := hone
    simp [hz, Value.cells, e3, store_agg (ht.uu (hq rfl)).kUu, hc16, hone, putK_blk alloc_new, z16_size]
    have hE : Ext none1 w1 ((w1.alloc (.cells z16 C.E.tUu)).setBlk w1.heap.size (.cells (over z16 0 c.toList) C.E.tUu (0, 0))) := ((Ext.refl none1 w1).alloc _).setBlk (.inl (Nat.le_refl _)) _
    refine h _ _ (.agg c) ?_ ?_ (h2.trans (hE.mono (fun _ _ h => h.elim))) (h3.ext hE (fun h => h) (fun h => h)) (keep _ _)
    · simp only [LocVal, if_true]
      refine ⟨w1.heap.size, c, C.E.tUu, (0, 0), by simp, ?_, rfl, hc16⟩
      have hov : over z16 0 c.toList = c := by
        have hd : z16.toList.drop (0 + c.toList.length) = [] := List.drop_eq_nil_of_le (by simp [z16_size, hc16])
        simp only [over, hd]; simp
      rw [hov]
      exact setBlk_same alloc_new
    · exact Prim.rep1_ext hE (fun _ _ _ h => h) (Prim.rep1_mono hK h1)
  · simp [callR, putL, hp, h7]
    refine hP.mono ?_
    rintro v w1 ⟨h1, h2, h3⟩
    exact h _ _ v (by simp [LocVal, hp]) (Prim.rep1_mono hK h1) h2 h3 (by simpa using keep _ _)
theorem r_cond {s t : Nat} {a b : Ir} {v : Bool} (hf : f s = .bool v) (hs : s < t) (ha : v = true → ∀ f', (∀ y, y < t → f' y = f y) → a.wp P Q f' w) (hb : v = false → ∀ f', (∀ y, y < t → f' y = f y) → b.wp P Q f' w) : (condI C s t a b).wp P Q f w := by
  refine wp_seqI (wp_reg ?_)
  simp [hf]
  have k : ∀ y, y < t → upd f t (.bool v) y = f y := fun y hy => by rw [upd_apply, if_neg (by omega)]
  cases v
  · exact .inr ⟨by simp, hb rfl _ k⟩
  · exact .inl ⟨by simp, ha rfl _ k⟩
theorem seqL_one {x : Ir} (h : x.wp P Q f w) : (seqL [x]).wp P Q f w := h
/-- v = b.F() in all its forms -/
theorem r_read (ht : TyR P C) {p : Prim} (hq : p = .uuid → isAgg16 (kindOf P C.E.tUu) = true) {l t : Nat} {b a n pv b2 a2 : Nat} {ver : Int} {fl : Bool} {cc : Array Value} {e : TypeId} {rs : RS} (hP : PrimR P C p) (hs : StR C R b a n w cc e rs) (hf : FrR C R f pv b2 a2 ver fl l) (hl : l < t)
    (hA : ∀ f' w' u, LocVal w' f' p l u → p.rep1 w' (RK R) u (p.rd fl rs).1 → Ext (· = R.pb) w w' → RdAt C.E.tRd w' R.pb R.D (p.rd fl rs).2 → (∀ y, y < t → y ≠ l → f' y = f y) → Q .normal f' w') : (seqL (readI C p l t)).wp P Q f w := by
  have hn := hf.nN
  have hrs := hf.rsN
  have hD : R.D < w.heap.size := Nat.lt_of_lt_of_le hs.rw_.lt.2.2.1 hs.rw_.lt.2.2.2
  have main : ∀ (f1 : Nat → Value) (t1 : Nat) (fl' : Bool), (fl' = true → C.fx = true) → p.rd fl' rs = p.rd fl rs → t ≤ t1 → (∀ y, y < t → y ≠ l → f1 y = f y) → (callR C p (p.fR C.E fl') l t1).wp P Q f1 w := by
    intro f1 t1 fl' hx hrd ht1 hk
    have hc := hP fl' hx w R.pb R.D rs hs.rw_.ne.1 hD hs.rd
    rw [hrd] at hc
    refine r_call ht hq hs ((hk C.rs (by omega) (by omega)).trans hf.rd) (by omega) (by omega) hc ?_
    intro f' w' u h1 h2 h3 h4 h5
    exact hA f' w' u h1 h2 h3 h4 (fun y hy hyl => (h5 y (by omega) hyl).trans (hk y hy hyl))
  have k1 : ∀ (v : Value) (f1 : Nat → Value) (t1 : Nat), t ≤ t1 → (∀ y, y < t1 → f1 y = upd f l v y) → ∀ y, y < t → y ≠ l → f1 y = f y := fun v f1 t1 h1 h y hy hyl => by rw [h y (by omega), upd_apply, if_neg hyl]
  have plain : ∀ fl', p.uns = false → (p ≠ .bytes ∧ p ≠ .nbytes) → p.rd fl' rs = p.rd fl rs := by intro fl' h1 h2; cases p <;> first | rfl | exact absurd rfl h2.1 | exact absurd rfl h2.2 | cases h1
  -- one form for texts of both flags
  have two : ∀ (v : Value), p.uns = false → (if C.fx then Ir.reg [⟨none, some l, .assign (.const v), p.ty C.E⟩] :: [condI C 9 t (callR C p (p.fR C.E true) l (t + 1)) (callR C p (p.fR C.E false) l (t + 2))] else [callR C p (p.fR C.E false) l t]) = readI C p l t → (seqL (readI C p l t)).wp P Q f w := by
    intro v _ hr
    rw [← hr]
    by_cases hx : C.fx = true
    · rw [if_pos hx]
      refine seqL_cons (wp_reg ?_)
      simp
      show (condI C 9 t _ _).wp P _ _ w
      refine r_cond (v := fl) (by rw [upd_apply, if_neg (by omega)]; exact hf.flg hx) (by omega) ?_ ?_
      · rintro rfl f1 h1
        exact main f1 (t + 1) true (fun _ => hx) rfl (by omega) (k1 v f1 t (Nat.le_refl _) h1)
      · rintro rfl f1 h1
        exact main f1 (t + 2) false (by simp) rfl (by omega) (k1 v f1 t (Nat.le_refl _) h1)
    · have hx' : C.fx = false := by simpa using hx
      rw [if_neg hx]
      have := hf.flN hx'
      subst this
      exact main f t false (by simp) rfl (Nat.le_refl _) (fun _ _ _ => rfl)
  cases p with
  | str =>
    simp only [readI]
    refine seqL_cons (wp_reg ?_)
    simp
    show (if C.fx = true then _ else _ : Ir).wp P _ _ w
    have us : upd f l (zeroV .str) 2 = .bool false := by rw [upd_apply, if_neg (by omega)]; exact hf.us
    by_cases hx : C.fx = true
    · rw [if_pos hx]
      refine r_cond (v := false) us (by omega) (by simp) ?_
      rintro _ f1 h1
      refine r_cond (v := fl) (by rw [h1 9 (by omega), upd_apply, if_neg (by omega)]; exact hf.flg hx) (by omega) ?_ ?_
      · rintro rfl f2 h2
        exact main f2 (t + 5) true (fun _ => hx) rfl (by omega) (fun y hy hyl => (h2 y (by omega)).trans (k1 _ f1 t (Nat.le_refl _) h1 y hy hyl))
      · rintro rfl f2 h2
        exact main f2 (t + 6) false (by simp) rfl (by omega) (fun y hy hyl => (h2 y (by omega)).trans (k1 _ f1 t (Nat.le_refl _) h1 y hy hyl))
    · have hx' : C.fx = false := by simpa using hx
      rw [if_neg hx]
      have := hf.flN hx'
      subst this
      refine r_cond (v := false) us (by omega) (by simp) ?_
      rintro _ f1 h1
      exact main f1 (t + 2) false (by simp) rfl (by omega) (k1 _ f1 t (Nat.le_refl _) h1)
  | nstr =>
    simp only [readI]
    refine seqL_cons (wp_reg ?_)
    simp
    show (if C.fx = true then _ else _ : Ir).wp P _ _ w
    have us : upd f l (zeroV .nstr) 2 = .bool false := by rw [upd_apply, if_neg (by omega)]; exact hf.us
    by_cases hx : C.fx = true
    · rw [if_pos hx]
      refine r_cond (v := fl) (by rw [upd_apply, if_neg (by omega)]; exact hf.flg hx) (by omega) ?_ ?_
      · rintro rfl f1 h1
        refine r_cond (v := false) (by rw [h1 2 (by omega)]; exact us) (by omega) (by simp) ?_
        rintro _ f2 h2
        exact main f2 (t + 3) true (fun _ => hx) rfl (by omega) (fun y hy hyl => (h2 y (by omega)).trans (k1 _ f1 t (Nat.le_refl _) h1 y hy hyl))
      · rintro rfl f1 h1
        refine r_cond (v := false) (by rw [h1 2 (by omega)]; exact us) (by omega) (by simp) ?_
        rintro _ f2 h2
        exact main f2 (t + 6) false (by simp) rfl (by omega) (fun y hy hyl => (h2 y (by omega)).trans (k1 _ f1 t (Nat.le_refl _) h1 y hy hyl))
    · have hx' : C.fx = false := by simpa using hx
      rw [if_neg hx]
      have := hf.flN hx'
      subst this
      refine r_cond (v := false) us (by omega) (by simp) ?_
      rintro _ f1 h1
      exact main f1 (t + 2) false (by simp) rfl (by omega) (k1 _ f1 t (Nat.le_refl _) h1)
  | bytes => exact two (zeroV .bytes) rfl rfl
  | nbytes => exact two (zeroV .nbytes) rfl rfl
  | _ => exact main f t false (by simp) (plain false rfl (by simp)) (Nat.le_refl _) (fun _ _ _ => rfl)
theorem over_get {c : Array Value} {o : Nat} {vs : List Value} (h : o + vs.length ≤ c.size) (j : Nat) : (over c o vs)[j]? = if j < o then c[j]? else if j < o + vs.length then vs[j - o]? else c[j]? := by
  have hl : (c.toList.take o).length = o := by simp; omega
  simp only [over, List.getElem?_toArray, List.append_assoc]
  by_cases h1 : j < o
  · rw [if_pos h1, List.getElem?_append_left (by omega), List.getElem?_take, if_pos h1]; simp
  · rw [if_neg h1, List.getElem?_append_right (by omega), hl]
    by_cases h2 : j < o + vs.length
    · rw [if_pos h2, List.getElem?_append_left (by omega)]
    · rw [if_neg h2, List.getElem?_append_right (by omega), List.getElem?_drop, show o + vs.length + (j - o - vs.length) = j by omega]; simp
theorem over_size {c : Array Value} {o : Nat} {vs : List Value} (h : o + vs.length ≤ c.size) : (over c o vs).size = c.size := by simp [over]; omega
/-- what a store leaves: u's cells stand at o -/
structure Put (cc : Array Value) (o : Nat) (u : Value) (cc' : Array Value) : Prop where
  size : cc'.size = cc.size
  same : ∀ j, (j < o ∨ o + u.cells.size ≤ j) → cc'[j]? = cc[j]?
  new : ∀ j v, u.cells.toList[j]? = some v → cc'[o + j]? = some v
theorem put_one {cc : Array Value} {o : Nat} {u : Value} (h1 : u.oneCell' = true) (ho : o < cc.size) : Put cc o u (cc.setIfInBounds o u) := by
  have huc : u.cells = #[u] := by cases u <;> simp_all [Value.oneCell', Value.cells]
  refine ⟨by simp, fun j hj => ?_, fun j v hj => ?_⟩
  · rw [huc] at hj
    simp at hj
    rw [Array.getElem?_setIfInBounds, if_neg (by omega)]
  · rw [huc] at hj
    cases j with
    | zero => simp at hj; subst hj; simp [Array.getElem?_setIfInBounds, ho]
    | succ j => simp at hj
theorem put_over {cc : Array Value} {o : Nat} {c : Array Value} (ho : o + c.size ≤ cc.size) : Put cc o (.agg c) (over cc o c.toList) := by
  have ho' : o + c.toList.length ≤ cc.size := by simpa using ho
  refine ⟨over_size ho', fun j hj => ?_, fun j v hj => ?_⟩
  · rw [over_get ho']
    simp [Value.cells] at hj
    split
    · rfl
    · rw [if_neg (by simp; omega)]
  · have hj' : j < c.size := by have := (List.getElem?_eq_some_iff.1 hj).1; simpa [Value.cells] using this
    rw [over_get ho', if_neg (by omega), if_pos (by simp; omega), show o + j - o = j by omega]
    exact hj
/-- s.F = v -/
theorem r_store (ht : TyR P C) {T PT pv k o l t b a : Nat} {p : Prim} {u : Value} {cc : Array Value} {e : TypeId} (hpv : f pv = .pointer (some ⟨b, a, none⟩)) (hF : fldOff P T k = some o) (hk : p.kOk P (p.ty C.E) = true) (hlv : LocVal w f p l u)
    (hu : if p = .uuid then ∃ c : Array Value, u = .agg c ∧ c.size = 16 ∧ allOne c.toList = true else u.oneCell' = true) (hpt : pv < t) (hl : l < t) (hb : w.heap[b]? = some (.cells cc e (0, 0))) (ho : a + o + u.cells.size ≤ cc.size)
    (h : ∀ f' cc', Put cc (a + o) u cc' → (∀ y, y < t → f' y = f y) → Q .normal f' (w.setBlk b (.cells cc' e (0, 0)))) : (Ir.reg (storeR C T PT pv k (p.ty C.E) l t p)).wp P Q f w := by
  have e3 : ∀ n, (l = t + n) = False := by intro n; simp; omega
  have e4 : (l = t) = False := by simp; omega
  have keep : ∀ a b c d, ∀ y, y < t → upd (upd (upd (upd f t a) (t + 1) b) (t + 2) c) (t + 3) d y = f y := by
    intro a b c d y hy
    have x3 : ∀ n, (y = t + n) = False := by intro n; simp; omega
    have x4 : (y = t) = False := by simp; omega
    simp [x3, x4]
  refine wp_reg ?_
  by_cases hp : p = .uuid
  · subst hp
    simp only [if_true] at hu
    obtain ⟨c, rfl, hc16, hone⟩ := hu
    simp only [LocVal, if_true] at hlv
    obtain ⟨b', cs', e', fz', hf, hbk, hcs, h16⟩ := hlv
    cases hcs
    have hk' : kindOf P C.E.tUu = .agg 16 := (ht.uu (kOk_uu hk rfl)).kUu
    have lB := cellsFrom_row hbk
    rw [h16] at lB
    have ho' : a + o + 16 ≤ cc.size := by simpa [Value.cells, hc16] using ho
    simp [storeR, getL, hpv, hf, e3, e4, hF, Addr.add_mk, ld_agg hk', lB, Prim.ty, store_agg hk', hc16, hone, putK_blk hb]
    exact ⟨by omega, h _ _ (put_over (by omega)) (keep _ _ _ _)⟩
  · simp only [if_neg hp] at hu
    simp only [LocVal, if_neg hp] at hlv
    have hk' : kindOf P (p.ty C.E) = .scl := by simp only [Prim.kOk, if_neg hp] at hk; exact isScl_spec hk
    have huc : u.cells = #[u] := by cases u <;> simp_all [Value.oneCell', Value.cells]
    have ho' : a + o + 1 ≤ cc.size := by simpa [huc] using ho
    simp [storeR, getL, hp, hpv, hlv, e3, e4, hF, Addr.add_mk, store_scl hk', hu, put1K_blk hb]
    exact ⟨by omega, h _ _ (put_one hu (by omega)) (keep _ _ _ _)⟩
/-- the same of a type's own, one cell -/
theorem r_storeT {T PT pv k o l t b a ty : Nat} {u : Value} {cc : Array Value} {e : TypeId} (hpv : f pv = .pointer (some ⟨b, a, none⟩)) (hF : fldOff P T k = some o) (hk : isScl (kindOf P ty) = true) (hlv : f l = u) (hu : u.oneCell' = true)
    (hpt : pv < t) (hl : l < t) (hb : w.heap[b]? = some (.cells cc e (0, 0))) (ho : a + o + 1 ≤ cc.size)
    (h : ∀ f' cc', Put cc (a + o) u cc' → (∀ y, y < t → f' y = f y) → Q .normal f' (w.setBlk b (.cells cc' e (0, 0)))) : (Ir.reg (storeT C T PT pv k ty l t)).wp P Q f w := by
  have e3 : ∀ n, (l = t + n) = False := by intro n; simp; omega
  have e4 : (l = t) = False := by simp; omega
  refine wp_reg ?_
  simp [storeT, hpv, hlv, e3, e4, hF, Addr.add_mk, store_scl (isScl_spec hk), hu, put1K_blk hb]
  refine ⟨by omega, h _ _ (put_one hu (by omega)) ?_⟩
  intro y hy
  have x3 : ∀ n, (y = t + n) = False := by intro n; simp; omega
  have x4 : (y = t) = False := by simp; omega
  simp [x3, x4]
/-- a field was put -/
theorem RdTo.put {b a n lo o : Nat} {cc cc' : Array Value} {e : TypeId} {f' : Nat → Value} {l m t : Nat} {rs : RS} {u : Value} (hs : StR C R b a n w cc e rs) (hp : Put cc (a + o) u cc') (hlo : lo ≤ o) (hn : o + u.cells.size ≤ n) (hk : KeepR f f' l m t) :
    RdTo C R b a n lo w cc e f l m t rs f' (w.setBlk b (.cells cc' e (0, 0))) cc' := by
  have hE : Ext (· = b) w (w.setBlk b (.cells cc' e (0, 0))) := (Ext.refl (fun k => k = b) w).setBlk (b := b) (Or.inr rfl) _
  have hE' : Ext (CB R b) w (w.setBlk b (.cells cc' e (0, 0))) := hE.mono (fun _ _ h => .inr h)
  exact ⟨hE', ⟨setBlk_same hs.blk, by rw [hp.size]; exact hs.fit, hs.rd.ext hE (fun h => hs.rw_.ne.2.2 h) (fun h => hs.rw_.ne.2.1 h.symm), hs.rw_.ext hE'⟩, hp.size, fun j hj => hp.same j (by omega), hk⟩
theorem FldAt.put {b a n o : Nat} {cc cc' : Array Value} {e : TypeId} {rs : RS} {p : Prim} {u : Value} {x : p.T} (hs : StR C R b a n w cc e rs) (hp : Put cc (a + o) u cc') (hn : o + u.cells.size ≤ n) (hr : p.rep1 w (RK R) u x) : FldAt (w.setBlk b (.cells cc' e (0, 0))) R (segL cc' a n) o p x := by
  have hE : Ext (· = b) w (w.setBlk b (.cells cc' e (0, 0))) := (Ext.refl (fun k => k = b) w).setBlk (b := b) (Or.inr rfl) _
  refine ⟨u, fun j v hj => ?_, Prim.rep1_ext hE (fun k hk1 hk2 hk3 => hs.rw_.keepK k hk1 hk2 (.inr hk3)) hr⟩
  have hj' : j < u.cells.size := by have := (List.getElem?_eq_some_iff.1 hj).1; simpa using this
  rw [segL_get (by omega), ← Nat.add_assoc]
  exact hp.new j v hj
end
end Go.Kg

set_option linter.unusedSimpArgs false
set_option linter.unusedVariables false
set_option linter.unusedSectionVars false
namespace Go.Kg
open Go
/-- what stands in a new element -/
def sliZ (P : Program) (sT : TypeId) : Option (Array Value) := match P.underlying sT with
  | some (.slice e) => match P.info? e with
    | some i => if i.bytes ≤ 131072 ∧ 0 < i.size then match i.zero with
      | some z => if z.cells.size = i.size then some z.cells else none
      | none => none
      else none
    | none => none
  | _ => none
def sliOk (P : Program) (sT sz : Nat) : Bool := sliSz P sT == some sz && match sliZ P sT with
  | some z => z.size == sz
  | none => false
def elemOk (P : Program) (C : Cfg) (sT : Nat) (e : Sch) : Bool := match sliZ P sT with
  | some z => e.chkD (setD 0 (e.dst C) z).toList
  | none => false
/-- a list may be null at no version, or at each -/
def nulZ (fx : Bool) : Option Nat → Bool
  | none => true
  | some m => fx && m == 0
/-- what new(T) makes -/
def optOk (P : Program) (C : Cfg) (T sz : Nat) (e : Sch) : Bool := match zeroOf P T with
  | some v => v.cells.size == sz && e.chkD (setD 0 (e.dst C) v.cells).toList
  | none => false
def Sch.tyR (P : Program) (C : CfgR) : Nat → Nat → Nat → Sch → Bool
  | _, _, _, .fin => true
  | T, n, lo, .tags k o => C.fx && fldOff P T k == some o && decide (lo ≤ o) && decide (o + 1 ≤ n)
  | T, n, lo, .prim _ k o p en _ rest => fldOff P T k == some o && p.kOk P (p.ty C.E) && (en == 0 || (p == .i8 && isScl (kindOf P en))) && decide (lo ≤ o) && decide (o + p.sz ≤ n) && rest.tyR P C T n (o + p.sz)
  | T, n, lo, .arrP _ k o sT nul p rest => nulZ C.fx nul && fldOff P T k == some o && isScl (kindOf P sT) && sliOk P sT p.sz && p.kOk P (p.ty C.E) && decide (lo ≤ o) && decide (o + 1 ≤ n) && rest.tyR P C T n (o + 1)
  | T, n, lo, .arrS _ k o sT nul T' _ sz _ e rest => nulZ C.fx nul && fldOff P T k == some o && isScl (kindOf P sT) && sliOk P sT sz && elemOk P C.toCfg sT e && defOk P T' sz (e.dst C.toCfg) && e.tyR P C T' sz 0 && decide (lo ≤ o) && decide (o + 1 ≤ n) && rest.tyR P C T n (o + 1)
  | T, n, lo, .sub _ k o T' _ sz _ e rest => fldOff P T k == some o && (e.dst C.toCfg).isEmpty && e.tyR P C T' sz 0 && decide (lo ≤ o) && decide (o + sz ≤ n) && rest.tyR P C T n (o + sz)
  | T, n, lo, .opt _ k o T' PT' _ sz _ e rest => fldOff P T k == some o && isScl (kindOf P PT') && isScl (kindOf P C.E.tI8) && optOk P C.toCfg T' sz e && defOk P T' sz (e.dst C.toCfg) && e.tyR P C T' sz 0 && decide (lo ≤ o) && decide (o + 1 ≤ n) && rest.tyR P C T n (o + 1)
def DefRC (P : Program) (C : Cfg) (sz df : Nat) (e : Sch) : Prop := ∀ w (b a : Nat) c et, w.heap[b]? = some (.cells c et (0, 0)) → a + sz ≤ c.size → Ret P df #[.pointer (some ⟨b, a, none⟩)] w fun _ w' => w' = w.setBlk b (.cells (setD a (e.dst C) c) et (0, 0))
def Sch.NeedR (P : Program) (C : CfgR) : Sch → Prop
  | .fin => True
  | .tags _ _ => TagsRC P C
  | .prim _ _ _ p _ _ rest => PrimR P C p ∧ rest.NeedR P C
  | .arrP _ _ _ _ _ p rest => PrimR P C p ∧ LenRC P C ∧ EndC P C ∧ rest.NeedR P C
  | .arrS _ _ _ _ _ _ _ sz df e rest => LenRC P C ∧ EndC P C ∧ DefRC P C.toCfg sz df e ∧ e.NeedR P C ∧ rest.NeedR P C
  | .sub _ _ _ _ _ sz df e rest => DefRC P C.toCfg sz df e ∧ e.NeedR P C ∧ rest.NeedR P C
  | .opt _ _ _ _ _ _ sz df e rest => PrimR P C .i8 ∧ EndC P C ∧ DefRC P C.toCfg sz df e ∧ e.NeedR P C ∧ rest.NeedR P C
theorem prim_chkD_congr {cs cs' : List Value} {o : Nat} {p : Prim} {d : Int} (h : ∀ j, o ≤ j → j < o + p.sz → cs'[j]? = cs[j]?) (hc : p.chkD cs o d = true) : p.chkD cs' o d = true := by
  cases p with
  | uuid =>
    have : ∀ n, n ≤ 16 → zeros16 cs o n = true → zeros16 cs' o n = true := by
      intro n
      induction n with
      | zero => intro _ _; rfl
      | succ n ih =>
        intro hn hz
        simp only [zeros16, Bool.and_eq_true] at hz ⊢
        rw [h (o + n) (by omega) (by simp [Prim.sz]; omega)]
        exact ⟨hz.1, ih (by omega) hz.2⟩
    exact this 16 (Nat.le_refl _) hc
  | _ =>
    have h0 := h o (Nat.le_refl _) (by simp [Prim.sz])
    simp only [Prim.chkD] at hc ⊢
    rw [h0]; exact hc
theorem chkD_congr {P : Program} {C : CfgR} {cs cs' : List Value} : ∀ (S : Sch) {T n lo : Nat}, S.tyR P C T n lo = true → (∀ j, lo ≤ j → j < n → cs'[j]? = cs[j]?) → S.chkD cs = true → S.chkD cs' = true := by
  intro S
  induction S generalizing cs cs' with
  | fin => intros; rfl
  | tags k o =>
    intro T n lo ht h hc
    simp only [Sch.tyR, Bool.and_eq_true, decide_eq_true_eq] at ht
    simp only [Sch.chkD] at hc ⊢
    rw [h o (by omega) (by omega)]; exact hc
  | prim g k o p en d rest ih =>
    intro T n lo ht h hc
    simp only [Sch.tyR, Bool.and_eq_true, decide_eq_true_eq] at ht
    simp only [Sch.chkD, Bool.and_eq_true] at hc ⊢
    exact ⟨prim_chkD_congr (fun j h1 h2 => h j (by omega) (by omega)) hc.1, ih ht.2 (fun j h1 h2 => h j (by omega) h2) hc.2⟩
  | arrP g k o sT nul p rest ih =>
    intro T n lo ht h hc
    simp only [Sch.tyR, Bool.and_eq_true, decide_eq_true_eq] at ht
    simp only [Sch.chkD, Bool.and_eq_true] at hc ⊢
    rw [h o (by omega) (by omega)]
    exact ⟨hc.1, ih ht.2 (fun j h1 h2 => h j (by omega) h2) hc.2⟩
  | arrS g k o sT nul T' PT sz df e rest ihe ih =>
    intro T n lo ht h hc
    simp only [Sch.tyR, Bool.and_eq_true, decide_eq_true_eq] at ht
    simp only [Sch.chkD, Bool.and_eq_true] at hc ⊢
    rw [h o (by omega) (by omega)]
    exact ⟨hc.1, ih ht.2 (fun j h1 h2 => h j (by omega) h2) hc.2⟩
  | sub g k o T' PT sz df e rest ihe ih =>
    intro T n lo ht h hc
    simp only [Sch.tyR, Bool.and_eq_true, decide_eq_true_eq] at ht
    simp only [Sch.chkD, Bool.and_eq_true] at hc ⊢
    refine ⟨ihe ht.1.1.1.2 (fun j h1 h2 => ?_) hc.1, ih ht.2 (fun j h1 h2 => h j (by omega) h2) hc.2⟩
    rw [List.getElem?_take, List.getElem?_take, if_pos h2, if_pos h2, List.getElem?_drop, List.getElem?_drop]
    exact h _ (by omega) (by omega)
  | opt g k o T' PT PP sz df e rest ihe ih =>
    intro T n lo ht h hc
    simp only [Sch.tyR, Bool.and_eq_true, decide_eq_true_eq] at ht
    simp only [Sch.chkD, Bool.and_eq_true] at hc ⊢
    rw [h o (by omega) (by omega)]
    exact ⟨hc.1, ih ht.2 (fun j h1 h2 => h j (by omega) h2) hc.2⟩
section
variable {P : Program} {C : CfgR}
def SoundR (P : Program) (C : CfgR) (S : Sch) : Prop := ∀ (T PT pv : Nat) (c : Ct) (Q : Post) (f : Nat → Value) (w : World) (b a n lo : Nat) (cc : Array Value) (e : TypeId) (ver : Int) (fl : Bool) (R : Rdr) (rs : RS),
  S.tyR P C T n lo = true → S.NeedR P C → FrR C R f pv b a ver fl c.l → (S.genR C T PT pv c).2.l ≤ c.t → StR C R b a n w cc e rs → S.chkD (segL cc a n) = true →
  (S.rd ver fl rs = none → ∀ f' w', f' 6 = R.ev → Ext (CB R b) w w' → Q .ret f' w') →
  (∀ x rs', S.rd ver fl rs = some (x, rs') → ∀ f' w' cc', RdTo C R b a n lo w cc e f c.l (S.genR C T PT pv c).2.l c.t rs' f' w' cc' → S.Rep w' (RK R) (segL cc' a n) x → Q .normal f' w') →
  (seqL (S.genR C T PT pv c).1).wp P Q f w
theorem genR_mono : ∀ (S : Sch) (T PT pv : Nat) (c : Ct), c.l ≤ (S.genR C T PT pv c).2.l ∧ c.t ≤ (S.genR C T PT pv c).2.t := by
  intro S
  induction S with
  | fin => intro T PT pv c; exact ⟨Nat.le_refl _, Nat.le_refl _⟩
  | tags k o => intro T PT pv c; exact ⟨Nat.le_refl _, by simp [Sch.genR]⟩
  | prim g k o p en d rest ih =>
    intro T PT pv c
    simp only [Sch.genR]
    split
    · have := ih T PT pv ⟨c.l + 1, c.t + gdN g + readN C p + 4, c.k⟩
      constructor
      · exact Nat.le_trans (by simp) this.1
      · exact Nat.le_trans (by simp; omega) this.2
    · have := ih T PT pv ⟨c.l + 3, c.t + gdN g + 7, c.k⟩
      constructor
      · exact Nat.le_trans (by simp) this.1
      · exact Nat.le_trans (by simp; omega) this.2
  | arrP g k o sT nul p rest ih =>
    intro T PT pv c
    simp only [Sch.genR]
    have := ih T PT pv ⟨c.l + 5, c.t + gdN g + headN C nul + 5 + readN C p + 4 + 5, c.k + 2⟩
    constructor
    · exact Nat.le_trans (by simp) this.1
    · exact Nat.le_trans (by simp; omega) this.2
  | arrS g k o sT nul T' PT' sz df e rest ihe ih =>
    intro T PT pv c
    simp only [Sch.genR]
    have h1 := ihe T' PT' (c.l + 5) ⟨c.l + 6, c.t + gdN g + headN C nul + 11, c.k + 2⟩
    generalize e.genR C T' PT' (c.l + 5) ⟨c.l + 6, c.t + gdN g + headN C nul + 11, c.k + 2⟩ = z at *
    obtain ⟨eb, c1⟩ := z
    have := ih T PT pv ⟨c1.l, c1.t + 5, c1.k⟩
    simp only at h1 this ⊢
    omega
  | sub g k o T' PT' sz df e rest ihe ih =>
    intro T PT pv c
    simp only [Sch.genR]
    have h1 := ihe T' PT' (c.l + 1) ⟨c.l + 2, c.t + gdN g + 6, c.k⟩
    generalize e.genR C T' PT' (c.l + 1) ⟨c.l + 2, c.t + gdN g + 6, c.k⟩ = z at *
    obtain ⟨eb, c1⟩ := z
    have := ih T PT pv c1
    simp only at h1 this ⊢
    omega
  | opt g k o T' PT' PP sz df e rest ihe ih =>
    intro T PT pv c
    simp only [Sch.genR]
    have h1 := ihe T' PT' (c.l + 2) ⟨c.l + 3, c.t + gdN g + 17, c.k⟩
    generalize e.genR C T' PT' (c.l + 2) ⟨c.l + 3, c.t + gdN g + 17, c.k⟩ = z at *
    obtain ⟨eb, c1⟩ := z
    have := ih T PT pv c1
    simp only at h1 this ⊢
    omega
theorem RdTo.refl {R : Rdr} {b a n lo : Nat} {w : World} {cc : Array Value} {e : TypeId} {f f' : Nat → Value} {l m t : Nat} {rs : RS} (h : StR C R b a n w cc e rs) (hk : KeepR f f' l m t) : RdTo C R b a n lo w cc e f l m t rs f' w cc :=
  ⟨Ext.refl _ _, h, rfl, fun _ _ => rfl, hk⟩
/-- only the reader has turned -/
theorem RdTo.read {R : Rdr} {b a n lo : Nat} {w w' : World} {cc : Array Value} {e : TypeId} {f f' : Nat → Value} {l m t : Nat} {rs rs' : RS} (h : StR C R b a n w cc e rs) (he : Ext (· = R.pb) w w') (hr : RdAt C.E.tRd w' R.pb R.D rs') (hk : KeepR f f' l m t) : RdTo C R b a n lo w cc e f l m t rs' f' w' cc :=
  ⟨he.mono (fun _ _ h => .inl h), h.ext1 he hr, rfl, fun _ _ => rfl, hk⟩
theorem over_one {cc : Array Value} {o : Nat} {v : Value} (h : o < cc.size) : over cc o [v] = cc.setIfInBounds o v := by
  apply Array.ext_getElem?
  intro j
  simp only [over, List.length_singleton, List.getElem?_toArray, List.append_assoc]
  rw [Array.getElem?_setIfInBounds]
  by_cases h1 : j < o
  · rw [List.getElem?_append_left (by simp; omega), if_neg (by omega), List.getElem?_take, if_pos h1]; simp
  · rw [List.getElem?_append_right (by simp; omega)]
    have hl : (cc.toList.take o).length = o := by simp; omega
    rw [hl]
    by_cases h2 : j = o
    · subst h2; simp [h]
    · rw [if_neg (by omega), List.getElem?_append_right (by simp; omega)]
      simp only [List.length_singleton, List.getElem?_drop, Array.getElem?_toList]
      congr 1; omega
theorem soundR_fin : SoundR P C .fin := by
  intro T PT pv c Q f w b a n lo cc e ver fl R rs hty hN hf hc hs hd h0 h1
  exact h1 () rs rfl f w cc (RdTo.refl hs (KeepR.refl _ _ _ _)) trivial
theorem soundR_tags (ht : TyR P C) (k o : Nat) : SoundR P C (.tags k o) := by
  intro T PT pv c Q f w b a n lo cc e ver fl R rs hty hN hf hc hs hd h0 h1
  simp only [Sch.tyR, Bool.and_eq_true, beq_iff_eq, decide_eq_true_eq] at hty
  obtain ⟨⟨⟨hx, hF⟩, hlo⟩, hn⟩ := hty
  have hlt : c.l ≤ c.t := hc
  have hn10 := hf.nN
  have hpt := hf.ptrN
  have hnil := isNilMap_spec hd
  refine seqL_one ?_
  refine r_cond (hf.flg hx) (by omega) ?_ ?_
  · rintro rfl f1 hk1
    refine wp_reg ?_
    have p1 : f1 pv = .pointer (some ⟨b, a, none⟩) := (hk1 pv (by omega)).trans hf.ptr
    have hrs := hf.rsN
    have p7 : f1 C.rs = .pointer (some ⟨R.pb, 0, none⟩) := (hk1 C.rs (by omega)).trans hf.rd
    have z7 : ∀ n, (C.rs = c.t + n) = False := by intro n; simp; omega
    have zp : ∀ n, (pv = c.t + n) = False := by intro n; simp; omega
    simp [p1, p7, z7, zp]
    refine (hN w R.pb R.D rs hs.rw_.ne.1 (Nat.lt_of_lt_of_le hs.rw_.lt.2.2.1 hs.rw_.lt.2.2.2) hs.rd).mono ?_
    rintro _ w1 ⟨⟨v, rfl, hv⟩, he1, hr1⟩
    have hs1 := hs.ext1 he1 hr1
    have hv1 : v.oneCell' = true := by
      rcases hv with ⟨rfl, _⟩ | ⟨_, _, _, rfl, _⟩ <;> rfl
    have hK : ∀ k, k = R.D ∨ w.heap.size ≤ k → RK R k := by
      rintro k (h | h)
      · exact .inl h
      · exact .inr (Nat.le_trans hs.rw_.lt.2.2.2 h)
    have huc : v.cells = #[v] := by cases v <;> simp_all [Value.oneCell', Value.cells]
    have hfit := hs1.fit
    simp [hF, Addr.add_mk, store_agg ht.kTags, allOne, hv1, putK_blk hs1.blk, over_one (show a + o < cc.size by omega)]
    refine ⟨by omega, ?_⟩
    have hput := put_one (cc := cc) (o := a + o) hv1 (by omega)
    refine h1 (rdTags rs).1 (rdTags rs).2 rfl _ _ _ ((RdTo.read hs he1 hr1 (KeepR.refl _ _ _ _)).trans (RdTo.put hs1 hput hlo (by rw [huc]; exact hn) (l := c.l) (m := c.l) (t := c.t) ?_) (Nat.le_refl _) (Nat.le_refl _) (Nat.le_refl _) (Nat.le_refl _)) ?_
    · intro y hy1 hy
      have x3 : ∀ n, (y = c.t + n) = False := by intro n; simp; omega
      simp [x3]
      exact hk1 y (by omega)
    · refine ⟨v, ?_, ?_⟩
      · rw [segL_get (by omega)]
        simp [Array.getElem?_setIfInBounds]; omega
      · have hE : Ext (fun k => k = b) w1 (w1.setBlk b (.cells (cc.setIfInBounds (a + o) v) e (0, 0))) := (Ext.refl (fun k => k = b) w1).setBlk (b := b) (Or.inr rfl) _
        exact TagsAt.ext hE (fun k hk1 hk2 hk3 => hs1.rw_.keepK k hk1 hk2 (.inr hk3)) (TagsAt.mono hK hv)
  · rintro rfl f1 hk1
    refine h1 [] rs rfl f1 w cc (RdTo.refl hs (fun y _ hy => hk1 y (by omega))) ⟨_, hnil, .inl ⟨rfl, rfl⟩⟩
/-- var t E; {v := b.Int8(); t = E(v)}; v := t; s.F = v -/
theorem r_enum (ht : TyR P C) {T PT pv k o l t b a n en : Nat} {R : Rdr} {Q : Post} {f : Nat → Value} {w : World} {ver : Int} {fl : Bool} {cc : Array Value} {e : TypeId} {rs : RS} (hP : PrimR P C .i8) (hs : StR C R b a n w cc e rs) (hf : FrR C R f pv b a ver fl l)
    (hF : fldOff P T k = some o) (hk : isScl (kindOf P en) = true) (hl : l + 3 ≤ t) (hn : o + 1 ≤ n)
    (h : ∀ f' w2 u cc', Prim.i8.rep1 w2 (RK R) u (Prim.i8.rd fl rs).1 → Ext (· = R.pb) w w2 → RdAt C.E.tRd w2 R.pb R.D (Prim.i8.rd fl rs).2 → Put cc (a + o) u cc' → (∀ y, y < t → (y < l ∨ l + 3 ≤ y) → f' y = f y) → Q .normal f' (w2.setBlk b (.cells cc' e (0, 0)))) :
    (seqL [.reg [⟨none, some l, .assign (.const (.int .i8 0)), en⟩], seqL [callR C .i8 (Prim.i8.fR C.E false) (l + 1) t, .reg [⟨none, some (t + 1), .move (.tmp (l + 1)), Prim.i8.ty C.E⟩, ⟨none, some l, .assign (.tmp (t + 1)), en⟩]],
        .reg [⟨none, some (t + 2), .move (.tmp l), en⟩, ⟨none, some (l + 2), .assign (.tmp (t + 2)), en⟩], .reg (storeT C T PT pv k en (l + 2) (t + 3))]).wp P Q f w := by
  have hn10 := hf.nN
  have hpt := hf.ptrN
  have hfit := hs.fit
  refine seqL_cons ?_
  refine wp_reg ?_
  simp
  generalize hfa : upd f l (.int .i8 0) = fa
  have ka : ∀ y, y ≠ l → fa y = f y := fun y hy => by subst hfa; rw [upd_apply, if_neg hy]
  show (seqL _).wp P _ fa w
  refine seqL_cons ?_
  refine seqL_cons ?_
  have hcall := hP false (by simp) w R.pb R.D rs hs.rw_.ne.1 (Nat.lt_of_lt_of_le hs.rw_.lt.2.2.1 hs.rw_.lt.2.2.2) hs.rd
  refine r_call ht (fun h => by cases h) (x := (Prim.i8.rd fl rs).1) (rs' := (Prim.i8.rd fl rs).2) hs ((ka C.rs (by have := hf.rsN; omega)).trans hf.rd) (by omega) (by omega) hcall ?_
  intro f2 w2 u hu hrep he2 hr2 hk2
  have hs2 := hs.ext1 he2 hr2
  have hul : f2 (l + 1) = u := by simpa [LocVal] using hu
  have hu1 : u.oneCell' = true := by have := rep1_one hrep; simpa using this
  show (Ir.reg _).wp P _ f2 w2
  refine wp_reg ?_
  simp [hul]
  show (seqL _).wp P _ _ w2
  refine seqL_cons ?_
  refine wp_reg ?_
  have z1 : ∀ n, (l = t + n) = False := by intro n; simp; omega
  simp [z1]
  show (Ir.reg _).wp P _ _ w2
  refine r_storeT (u := u) (o := o) (b := b) (a := a) (cc := cc) (e := e) ?_ hF hk ?_ hu1 (by omega) (by omega) hs2.blk (by omega) ?_
  · have x3 : ∀ n, (pv = t + n) = False := by intro n; simp; omega
    have x4 : ∀ n, (pv = l + n) = False := by intro n; simp; omega
    have x5 : (pv = l) = False := by simp; omega
    simp [x3, x4, x5]
    rw [hk2 pv (by omega) (by omega), ka pv (by omega)]
    exact hf.ptr
  · simp
  · intro f3 cc3 hput hk3
    refine h f3 w2 u cc3 hrep he2 hr2 hput ?_
    intro y hy hy2
    have x3 : ∀ n, (y = t + n) = False := by intro n; simp; omega
    have x4 : (y = l + 2) = False := by simp; omega
    have x5 : (y = l) = False := by simp; omega
    rw [hk3 y (by omega)]
    simp [x3, x4, x5]
    rw [hk2 y (by omega) (by omega), ka y (by omega)]
theorem soundR_prim (ht : TyR P C) (g : Gd) (k o : Nat) (p : Prim) (en : Nat) (d : Int) (rest : Sch) (ih : SoundR P C rest) : SoundR P C (.prim g k o p en d rest) := by
  intro T PT pv c Q f w b a n lo cc e ver fl R rs hty hN hf hc hs hd h0 h1
  simp only [Sch.tyR, Bool.and_eq_true, beq_iff_eq, decide_eq_true_eq] at hty
  obtain ⟨⟨⟨⟨⟨hF, hk⟩, hen⟩, hlo⟩, hn⟩, htr⟩ := hty
  obtain ⟨hNp, hNr⟩ := hN
  simp only [Sch.chkD, Bool.and_eq_true] at hd
  have hn10 := hf.nN
  have hpt := hf.ptrN
  have hfit := hs.fit
  -- what comes behind
  have behind : ∀ (c' : Ct) (f1 : Nat → Value) (w1 : World) (cc1 : Array Value) (rs1 : RS) (x : p.T), c.l ≤ c'.l → c.t ≤ c'.t → (rest.genR C T PT pv c').2.l ≤ c'.t →
      (Sch.rd ver fl (.prim g k o p en d rest) rs = (rest.rd ver fl rs1).map fun y => ((x, y.1), y.2)) →
      RdTo C R b a n lo w cc e f c.l c'.l c.t rs1 f1 w1 cc1 → (∀ j, (j < a + lo ∨ a + o + p.sz ≤ j) → cc1[j]? = cc[j]?) → FldAt w1 R (segL cc1 a n) o p x →
      (∀ x rs', Sch.rd ver fl (.prim g k o p en d rest) rs = some (x, rs') → ∀ f' w' cc', RdTo C R b a n lo w cc e f c.l (rest.genR C T PT pv c').2.l c.t rs' f' w' cc' → Sch.Rep w' (RK R) (.prim g k o p en d rest) (segL cc' a n) x → Q .normal f' w') →
      (seqL (rest.genR C T PT pv c').1).wp P Q f1 w1 := by
    intro c' f1 w1 cc1 rs1 x hl htt hc' hrd hto hsame hfld h1
    have hd1 : rest.chkD (segL cc1 a n) = true := by
      refine chkD_congr rest htr (fun j hj1 hj2 => ?_) hd.2
      rw [segL_get hj2, segL_get hj2]
      exact hsame _ (by omega)
    refine ih T PT pv c' Q f1 w1 b a n (o + p.sz) cc1 e ver fl R rs1 htr hNr ((hf.keep hto.keep.keeps (Nat.le_refl _)).up hl) hc' hto.st hd1 ?_ ?_
    · intro hnone f2 w2 h6 he2
      exact h0 (by rw [hrd, hnone]; rfl) f2 w2 h6 (hto.ext.trans he2)
    · intro y rs2 hy f2 w2 cc2 hto2 hrep2
      refine h1 (x, y) rs2 (by rw [hrd, hy]; rfl) f2 w2 cc2 (hto.trans hto2 (by omega) hl (genR_mono (C := C) rest T PT pv c').1 htt) ⟨?_, hrep2⟩
      exact hfld.move hto2.ext hto.st.rw_.keepK (fun j hj1 hj2 => by rw [segL_get (by omega), segL_get (by omega)]; exact hto2.same _ (.inl (by omega)))
  have hK : ∀ k, k < w.heap.size → RK R k → ¬ CB R b k := hs.rw_.keepK
  by_cases he : en = 0
  · subst he
    simp only [Sch.genR, if_true] at hc h1 ⊢
    have hm := (genR_mono (C := C) rest T PT pv ⟨c.l + 1, c.t + gdN g + readN C p + 4, c.k⟩).1
    simp only at hm
    refine seqL_cons ?_
    refine w_guard ht.c (show f 8 = _ from hf.ver) (show 8 < c.t by omega) (by omega) ?_ ?_
    · intro hon f1 hk1 h11
      have hf1 := hf.keep hk1 (by omega)
      refine seqL_append ?_
      refine r_read ht (kOk_uu hk) hNp hs hf1 (by omega) ?_
      intro f2 w2 u hu hrep he2 hr2 hk2
      have hs2 := hs.ext1 he2 hr2
      have hsz := rep1_sz hrep
      refine seqL_one ?_
      refine r_store ht (o := o) ((hk2 pv (by omega) (by omega)).trans hf1.ptr) hF hk hu (rep1_one hrep) (by omega) (by omega) hs2.blk (by rw [hsz]; omega) ?_
      intro f3 cc3 hput hk3
      refine behind ⟨c.l + 1, c.t + gdN g + readN C p + 4, c.k⟩ f3 _ cc3 (p.rd fl rs).2 (p.rd fl rs).1 (by simp) (by simp; omega) (by simp only; omega) ?_ ?_ ?_ ?_ h1
      · simp only [Sch.rd, if_pos hon]; rfl
      · refine (RdTo.read (lo := lo) hs he2 hr2 (KeepR.refl _ c.l (c.l + 1) c.t)).trans (RdTo.put hs2 hput hlo (by rw [hsz]; exact hn) (l := c.l) (m := c.l + 1) (t := c.t) ?_) (Nat.le_refl _) (Nat.le_refl _) (Nat.le_refl _) (Nat.le_refl _)
        intro y hy1 hy
        rw [hk3 y (by omega), hk2 y (by omega) (by omega)]
        exact hk1 y (by omega) hy1
      · intro j hj
        exact hput.same j (by rw [hsz]; omega)
      · exact FldAt.put hs2 hput (by rw [hsz]; exact hn) hrep
    · intro hoff f1 hk1 h11
      refine behind ⟨c.l + 1, c.t + gdN g + readN C p + 4, c.k⟩ f1 w cc rs (p.dfl d) (by simp) (by simp; omega) (by simp only; omega) ?_ (RdTo.refl hs (KeepR.of hk1 (by omega))) (fun _ _ => rfl) (Prim.repD p d hd.1) h1
      simp only [Sch.rd, hoff, Bool.false_eq_true, if_false]; rfl
  · have hen' : p = .i8 ∧ isScl (kindOf P en) = true := by
      simp only [Bool.or_eq_true, beq_iff_eq, Bool.and_eq_true] at hen
      rcases hen with h | h
      · exact absurd h he
      · exact h
    obtain ⟨rfl, hken⟩ := hen'
    simp only [Sch.genR, if_neg he] at hc h1 ⊢
    have hm := (genR_mono (C := C) rest T PT pv ⟨c.l + 3, c.t + gdN g + 7, c.k⟩).1
    simp only at hm
    refine seqL_cons ?_
    refine w_guard ht.c (show f 8 = _ from hf.ver) (show 8 < c.t by omega) (by omega) ?_ ?_
    · intro hon f1 hk1 h11
      have hf1 := hf.keep hk1 (by omega)
      refine r_enum ht (o := o) hNp hs hf1 hF hken (by omega) hn ?_
      intro f3 w2 u cc3 hrep he2 hr2 hput hk3
      have hs2 := hs.ext1 he2 hr2
      have hsz := rep1_sz hrep
      refine behind ⟨c.l + 3, c.t + gdN g + 7, c.k⟩ f3 _ cc3 (Prim.i8.rd fl rs).2 (Prim.i8.rd fl rs).1 (by simp) (by simp; omega) (by simp only; omega) ?_ ?_ ?_ ?_ h1
      · simp only [Sch.rd, if_pos hon]; rfl
      · refine (RdTo.read (lo := lo) hs he2 hr2 (KeepR.refl _ c.l (c.l + 3) c.t)).trans (RdTo.put hs2 hput hlo (by rw [hsz]; exact hn) (l := c.l) (m := c.l + 3) (t := c.t) ?_) (Nat.le_refl _) (Nat.le_refl _) (Nat.le_refl _) (Nat.le_refl _)
        intro y hy1 hy
        rw [hk3 y (by omega) (by omega)]
        exact hk1 y (by omega) hy1
      · intro j hj
        exact hput.same j (by rw [hsz]; omega)
      · exact FldAt.put hs2 hput (by rw [hsz]; exact hn) hrep
    · intro hoff f1 hk1 h11
      refine behind ⟨c.l + 3, c.t + gdN g + 7, c.k⟩ f1 w cc rs (Prim.i8.dfl d) (by simp) (by simp; omega) (by simp only; omega) ?_ (RdTo.refl hs (KeepR.of hk1 (by omega))) (fun _ _ => rfl) (Prim.repD .i8 d hd.1) h1
      simp only [Sch.rd, hoff, Bool.false_eq_true, if_false]; rfl
end
end Go.Kg

set_option linter.unusedSimpArgs false
set_option linter.unusedVariables false
set_option linter.unusedSectionVars false
namespace Go.Kg
open Go
theorem intKind_und {P : Program} {T : Nat} {k : IntKind} (h : intKind? P T = some k) : P.underlying T = some (.int k) := by
  unfold intKind? at h
  split at h
  · rename_i k' hu; cases h; exact hu
  · cases h
theorem sliZ_spec {P : Program} {sT : Nat} {z : Array Value} (h : sliZ P sT = some z) : ∃ e i v, P.underlying sT = some (.slice e) ∧ P.info? e = some i ∧ i.bytes ≤ 131072 ∧ 0 < i.size ∧ i.zero = some v ∧ v.cells = z ∧ z.size = i.size := by
  unfold sliZ at h
  split at h
  · rename_i e hu
    split at h
    · rename_i i hi
      split at h
      · rename_i hb
        split at h
        · rename_i v hv
          split at h
          · rename_i hs
            cases h
            exact ⟨e, i, v, hu, hi, hb.1, hb.2, hv, rfl, hs⟩
          · cases h
        · cases h
      · cases h
    · cases h
  · cases h
theorem zeroCells_get {z : Array Value} {n i j : Nat} (hi : i < n) (hj : j < z.size) (more : Array Value) : (Builtin.zeroCells z n ++ more)[i * z.size + j]? = z[j]? := by
  have hlt : i * z.size + j < n * z.size := by
    have h1 : (i + 1) * z.size ≤ n * z.size := Nat.mul_le_mul_right _ hi
    rw [Nat.add_mul] at h1
    omega
  have hs : (Builtin.zeroCells z n).size = n * z.size := size_zeroCells z n
  rw [Array.getElem?_append_left (by omega)]
  simp only [Builtin.zeroCells, Array.getElem?_map]
  rw [Array.getElem?_range]
  simp [hlt]
  rw [Nat.mod_eq_of_lt hj]
  simp [hj, getElem!_pos]
/-- append(nil, make([]T, n)...) -/
theorem st_appz {P : Program} {f : Nat → Value} {w : World} {sT tn ty : Nat} {z : Array Value} {kn : IntKind} {x y : Operand} {K : Value → World → Prop} {lv : Int} (hz : sliZ P sT = some z) (htn : intKind? P tn = some kn) (hx : evF f x = .slice none 0 0) (hy : evF f y = .int .i32 lv) (h0 : 0 < lv) (h1 : lv < 2147483648)
    (h : ∀ cap more e, lv.toNat ≤ cap → K (.slice (some ⟨w.heap.size, 0, none⟩) lv.toNat cap) (w.drew.alloc (.cells (Builtin.zeroCells z lv.toNat ++ more) e))) :
    stepF P f (.call { callee := .builtin .append, args := #[x, y], argTypes := #[sT, tn] }) ty w K := by
  obtain ⟨e, i, v, hu, hi, hb, hs, hv, rfl, hzs⟩ := sliZ_spec hz
  have hn : ((lv.toNat : Nat) : Int) = lv := by omega
  have h48 : lv.toNat * i.bytes ≤ 281474976710656 := by
    have : lv.toNat * i.bytes ≤ 2147483648 * 131072 := Nat.mul_le_mul (by omega) hb
    omega
  have hr := Lib.run_append_nil_zeros (P := P) w sT tn ty e i v .i32 kn hu (intKind_und htn) hi hv lv.toNat (by omega) hs (by omega) h48
  rw [hn] at hr
  rw [stepF_ok (v := .slice (some ⟨w.heap.size, 0, none⟩) lv.toNat (grownCap w lv.toNat 0 e)) (w' := w.drew.alloc (.cells (Builtin.zeroCells v.cells lv.toNat ++ Builtin.zeroCells v.cells (grownCap w lv.toNat 0 e - lv.toNat)) e))]
  · exact h _ _ _ (grownCap_ge w lv.toNat 0 e)
  · simp only [runF, execOp, resolve, invoke, builtin, Sem.run_bind, Sem.run_pure, Result.andThen_ok, List.map_toArray, List.map_cons, List.map_nil, hx, hy, hr]
section
variable {P : Program} {C : CfgR} {R : Rdr}
/-- What a list's head leaves: the row of a list that is not empty. -/
structure Row (z : Array Value) (w w' : World) (N : Nat) (av : Value) (ab : Nat) (cur : Array Value) (et : TypeId) : Prop where
  av : ∃ cap, av = .slice (some ⟨ab, 0, none⟩) N cap ∧ N ≤ cap
  new : w.heap.size ≤ ab
  blk : w'.heap[ab]? = some (.cells cur et (0, 0))
  fit : N * z.size ≤ cur.size
  zero : ∀ i, i < N → segL cur (i * z.size) z.size = z.toList
/-- what a list is that has nothing in it -/
def NulPost (nul : Option Nat) (lv : Int) (w w' : World) (av : Value) : Prop := if nul.isSome = true ∧ lv = 0 then ∃ ab, av = .slice (some ⟨ab, 0, none⟩) 0 0 ∧ w.heap.size ≤ ab ∧ ab < w'.heap.size else av = .slice none 0 0
def HeadPost (nul : Option Nat) (z : Array Value) (lv : Int) (w w' : World) (av : Value) : Prop := if 0 < lv then ∃ ab cur et, Row z w w' lv.toNat av ab cur et else NulPost nul lv w w' av
theorem lenRd_lt (fl : Bool) (rs : RS) : (lenRd fl rs).1 < 2147483648 ∧ -2147483648 ≤ (lenRd fl rs).1 := by
  have cap : ∀ n rs, n < 2147483648 ∧ -2147483648 ≤ n → (capLen n rs).1 < 2147483648 ∧ -2147483648 ≤ (capLen n rs).1 := by
    intro n rs h; unfold capLen; split
    · simp
    · exact h
  cases fl
  · exact cap _ _ (by simp [i32, IntKind.wrap, IntKind.signed, IntKind.bits]; omega)
  · exact cap _ _ (by simp [i32, IntKind.wrap, IntKind.signed, IntKind.bits]; omega)
theorem cellsAt_seg {w : World} {b a n : Nat} {cc : Array Value} {e : TypeId} {fz : Nat × Nat} (h : w.heap[b]? = some (.cells cc e fz)) : CellsAt w b a (segL cc a n) := by
  intro j u hj
  have hj' : j < n := by
    rcases Nat.lt_or_ge j n with h1 | h1
    · exact h1
    · rw [segL_none h1] at hj; cases hj
  rw [cell_of_blk h]
  rwa [segL_get hj'] at hj
variable {Q : Post} {f : Nat → Value} {w : World}
/-- l = b.ArrayLen() -/
theorem r_len {l t b a n : Nat} {fl : Bool} {cc : Array Value} {e : TypeId} {rs : RS} (hN : LenRC P C) (hs : StR C R b a n w cc e rs) (hff : C.fx = true → f 9 = .bool fl) (hfn : C.fx = false → fl = false) (hrt : C.rs < t) (h7 : f C.rs = .pointer (some ⟨R.pb, 0, none⟩)) (hl : l < t) (hl9 : 9 < l)
    (h : ∀ f' w', f' l = .int .i32 (lenRd fl rs).1 → Ext (· = R.pb) w w' → RdAt C.E.tRd w' R.pb R.D (lenRd fl rs).2 → (∀ y, y < t → y ≠ l → f' y = f y) → Q .normal f' w') : (lenIR C l t).wp P Q f w := by
  have main : ∀ (f1 : Nat → Value) (t1 : Nat) (fl' : Bool), (fl' = true → C.fx = true) → fl' = fl → t ≤ t1 → (∀ y, y < t → f1 y = f y) →
      (Ir.reg [⟨none, some t1, .call { callee := .value (.func (if fl' then C.E.f_pkbin_Reader_CompactArrayLen else C.E.f_pkbin_Reader_ArrayLen)), args := #[.tmp C.rs], argTypes := #[C.E.tRd] }, C.E.tI32⟩, ⟨none, some l, .assign (.tmp t1), C.E.tI32⟩]).wp P Q f1 w := by
    rintro f1 t1 fl' hx rfl ht1 hk
    refine wp_reg ?_
    have z7 := (hk C.rs (by omega)).trans h7
    simp [z7]
    refine (hN fl' hx w R.pb R.D rs hs.rw_.ne.1 hs.rd).mono ?_
    rintro v w1 ⟨rfl, he, hr⟩
    refine h _ _ (by simp) he hr ?_
    intro y hy hyl
    have x4 : (y = t1) = False := by simp; omega
    simp [x4, hyl]
    exact hk y hy
  unfold lenIR
  by_cases hx : C.fx = true
  · simp only [if_pos hx]
    refine r_cond (hff hx) (by omega) ?_ ?_
    · rintro rfl f1 hk
      exact main f1 (t + 1) true (fun _ => hx) rfl (by omega) hk
    · rintro rfl f1 hk
      exact main f1 (t + 2) false (by simp) rfl (by omega) hk
  · have hx' : C.fx = false := by simpa using hx
    simp only [if_neg hx]
    have := hfn hx'
    subst this
    exact main f t false (by simp) rfl (Nat.le_refl _) (fun _ _ => rfl)
/-- return b.Complete(), where the reader is bad -/
theorem r_complete {t b a n : Nat} {cc : Array Value} {e : TypeId} {rs : RS} (hE : EndC0 P C) (hs : StR C R b a n w cc e rs) (h7 : f C.rs = .pointer (some ⟨R.pb, 0, none⟩))
    (h : ∀ f', f' 6 = (if rs.bad then R.ev else .nilIface) → Q .ret f' w) : (seqL (completeI C t)).wp P Q f w := by
  refine seqL_cons ?_
  refine wp_reg ?_
  simp [h7]
  refine (hE.complete w R.pb R.D rs R.ev hs.rd (fun _ => hs.rw_.err)).mono ?_
  rintro v w1 ⟨rfl, rfl⟩
  exact h _ (by simp)
/-- if !b.Ok() {return b.Complete()} -/
theorem r_ok {t b a n : Nat} {cc : Array Value} {e : TypeId} {rs : RS} (hE : EndC P C) (hs : StR C R b a n w cc e rs) (h7 : f C.rs = .pointer (some ⟨R.pb, 0, none⟩)) (ht : C.rs < t)
    (h0 : rs.bad = true → ∀ f', f' 6 = R.ev → Q .ret f' w) (h1 : rs.bad = false → ∀ f', (∀ y, y < t → f' y = f y) → Q .normal f' w) : (okI C t).wp P Q f w := by
  refine wp_seqI (wp_reg ?_)
  simp [h7]
  refine (hE.ok w R.pb R.D rs hs.rd).mono ?_
  rintro v w1 ⟨rfl, rfl⟩
  simp
  cases hb : rs.bad
  · refine .inr ⟨by simp, ?_⟩
    refine h1 hb _ ?_
    intro y hy
    have x3 : ∀ n, (y = t + n) = False := by intro n; simp; omega
    have x4 : (y = t) = False := by simp; omega
    simp [x3, x4]
  · refine .inl ⟨by simp, ?_⟩
    have z7 : ∀ n, (C.rs = t + n) = False := by intro n; simp; omega
    have z7' : (C.rs = t) = False := by simp; omega
    refine r_complete hE.toEndC0 hs (by simp [z7, z7', h7]) ?_
    intro f' h6
    exact h0 hb f' (by rw [h6, hb]; rfl)
end
end Go.Kg

set_option linter.unusedSimpArgs false
set_option linter.unusedVariables false
set_option linter.unusedSectionVars false
namespace Go.Kg
open Go
section
variable {P : Program} {C : CfgR} {R : Rdr} {Q : Post} {f : Nat → Value} {w : World}
/-- if version < 0 || l == 0 {a = []T{}} -/
def nulL (C : CfgR) (nul : Option Nat) (sT l t : Nat) : List Ir := match nul with
  | none => []
  | some m => [nulI C m sT l t]
theorem r_nul {nul : Option Nat} {sT l t : Nat} {ver lv : Int} {z : Array Value} (hnz : nulZ C.fx nul = true) (hz : sliZ P sT = some z) (hv0 : C.fx = true → 0 ≤ ver) (h8 : f 8 = .int .i16 ver) (hl8 : 8 < l) (hl : l + 3 ≤ t) (ha : f (l + 1) = .slice none 0 0) (hlv : f (l + 2) = .int .i32 lv)
    (h : ∀ f' w' av, f' (l + 1) = av → (∀ y, y < t → y ≠ l + 1 → f' y = f y) → Ext none1 w w' → NulPost nul lv w w' av → Q .normal f' w') : (seqL (nulL C nul sT l t)).wp P Q f w := by
  cases nul with
  | none => exact h f w _ ha (fun _ _ _ => rfl) (Ext.refl _ _) (by unfold NulPost; rw [if_neg (by simp)])
  | some m =>
    simp only [nulZ, Bool.and_eq_true, beq_iff_eq] at hnz
    obtain ⟨hfx, rfl⟩ := hnz
    have hv0' := hv0 hfx
    obtain ⟨e, i, v, hu, hi, hb, hs, hv, rfl, hzs⟩ := sliZ_spec hz
    have hS : SliI P sT e i.size i.bytes v := ⟨hu, ⟨i, hi, hv, rfl, rfl⟩, hzs⟩
    show (nulI C 0 sT l t).wp P Q f w
    have x8 : ∀ n, (8 = t + n) = False := by intro n; simp; omega
    have x8' : (8 = t) = False := by simp; omega
    have x2 : ∀ n, (l + 2 = t + n) = False := by intro n; simp; omega
    have x2' : (l + 2 = t) = False := by simp; omega
    have x1 : ∀ n, (l + 1 = t + n) = False := by intro n; simp; omega
    have x1' : (l + 1 = t) = False := by simp; omega
    have x0 : ∀ n, (l = t + n) = False := by intro n; simp; omega
    have x0' : (l = t) = False := by simp; omega
    have nv : ¬ ver < 0 := by omega
    refine wp_seqI (wp_reg ?_)
    simp [h8, x8, x8', x2, x2', x1, x1', x0, x0', hlv, nv]
    have kk : ∀ v1 v2 v3 v4 v5 v6, ∀ y, y < t → y ≠ l + 1 → upd (upd (upd (upd (upd (upd f t v1) (t + 1) v2) (t + 2) v3) (t + 3) v4) (t + 4) v5) (t + 5) v6 y = f y := by
      intro v1 v2 v3 v4 v5 v6 y hy hy2
      have y1 : ∀ n, (y = t + n) = False := by intro n; simp; omega
      have y2 : (y = t) = False := by simp; omega
      simp [y1, y2]
    by_cases h0 : lv = 0
    · refine .inl ⟨by simp [h0], ?_⟩
      refine wp_reg ?_
      simp [st_bsl0 hS]
      refine h _ _ (.slice (some ⟨w.heap.size, 0, none⟩) 0 0) (by simp) ?_ ((Ext.refl none1 w).alloc _) ?_
      · intro y hy hy2
        have y1 : ∀ n, (y = t + n) = False := by intro n; simp; omega
        have y2 : (y = t) = False := by simp; omega
        simp [y1, y2, hy2]
      · unfold NulPost
        rw [if_pos ⟨rfl, h0⟩]
        exact ⟨_, rfl, Nat.le_refl _, lt_of_heap alloc_new⟩
    · refine .inr ⟨by simp [h0], ?_⟩
      refine h _ w (.slice none 0 0) ?_ (kk _ _ _ _ _ _) (Ext.refl _ _) ?_
      · simp [x1, x1', x0, x0', ha]
      · unfold NulPost
        rw [if_neg (by simp [h0])]
/-- the head of a list's field, ahead of the question for null, and behind it -/
def headA (C : CfgR) (T PT pv k sT l t : Nat) : List Ir :=
  [loadI C.toCfg T PT pv k sT l t .i8, .reg [⟨none, some (t + 4), .move (.tmp l), sT⟩, ⟨none, some (l + 1), .assign (.tmp (t + 4)), sT⟩], .reg [⟨none, some (l + 2), .assign (.const (.int .i32 0)), C.E.tI32⟩], lenIR C (l + 2) (t + 5)]
def headB (C : CfgR) (sT l t2 : Nat) : List Ir :=
  [okI C t2, .reg [⟨none, some (t2 + 3), .move (.tmp (l + 1)), sT⟩, ⟨none, some (t2 + 4), .slice sT (.tmp (t2 + 3)) none (some (.const (.int .i64 0))) none, sT⟩, ⟨none, some (l + 1), .assign (.tmp (t2 + 4)), sT⟩],
   .seq (.reg [⟨none, some (t2 + 5), .move (.tmp (l + 2)), C.E.tI32⟩, ⟨none, some (t2 + 6), .binOp .gtr C.E.tI32 (.tmp (t2 + 5)) (.const (.int .i32 0)) C.E.tI32, C.E.tB⟩])
    (.cond (t2 + 6) (.reg [⟨none, some (t2 + 7), .move (.tmp (l + 1)), sT⟩, ⟨none, some (t2 + 8), .move (.tmp (l + 2)), C.E.tI32⟩,
      ⟨none, some (t2 + 9), .call { callee := .builtin .append, args := #[.tmp (t2 + 7), .tmp (t2 + 8)], argTypes := #[sT, C.E.tI32] }, sT⟩, ⟨none, some (l + 1), .assign (.tmp (t2 + 9)), sT⟩]) .skip)]
/-- A list's head: the field is nil. -/
theorem r_head (ht : TyR P C) {nul : Option Nat} (hnz : nulZ C.fx nul = true) {T PT pv k o sT l t b a n : Nat} {ver : Int} {fl : Bool} {cc : Array Value} {e : TypeId} {rs : RS} {z : Array Value} {sz : Nat} (hF : fldOff P T k = some o) (hk : isScl (kindOf P sT) = true) (hsz : sliSz P sT = some sz) (hz : sliZ P sT = some z)
    (hN : LenRC P C) (hE : EndC P C) (hs : StR C R b a n w cc e rs) (hf : FrR C R f pv b a ver fl l) (hl : l + 3 ≤ t) (hon : o < n) (hnil : (segL cc a n)[o]? = some (.slice none 0 0))
    (h0 : (lenRd fl rs).2.bad = true → ∀ f' w', f' 6 = R.ev → Ext (· = R.pb) w w' → Q .ret f' w')
    (h1 : (lenRd fl rs).2.bad = false → ∀ f' w' av, f' (l + 1) = av → f' (l + 2) = .int .i32 (lenRd fl rs).1 → HeadPost nul z (lenRd fl rs).1 w w' av → Ext (· = R.pb) w w' → RdAt C.E.tRd w' R.pb R.D (lenRd fl rs).2 → (∀ y, y < t → (y < l ∨ l + 3 ≤ y) → f' y = f y) → Q .normal f' w') :
    (seqL (headR C T PT pv k sT l t nul)).wp P Q f w := by
  have hn10 := hf.nN
  have hpt := hf.ptrN
  have hrs := hf.rsN
  have hnl : headR C T PT pv k sT l t nul = headA C T PT pv k sT l t ++ (nulL C nul sT l (t + 5 + lenIN C) ++ headB C sT l (t + 5 + lenIN C + nulN nul)) := by cases nul <;> rfl
  rw [hnl]
  refine seqL_append ?_
  unfold headA
  refine seqL_cons ?_
  show (loadI (Sch.genR.toR C) T PT pv k sT l t .i8).wp P _ f w
  refine w_load ht.c (fun h => by cases h) hf.ptr hF (kOk_scl hk) (cellsAt_seg hs.blk) (seg_one hnil rfl) (by simp [Value.oneCell']) (by omega) (by omega) ?_
  intro f2 w2 hv2 he2 hk2
  have hv2' : f2 l = .slice none 0 0 := loc_slice hv2
  have hs2 : StR C R b a n w2 cc e rs := hs.ext1 (he2.mono (fun _ _ h => h.elim)) (hs.rd.ext he2 (fun h => h) (fun h => h))
  -- a := v; var l int32
  show (seqL _).wp P _ f2 w2
  refine seqL_cons ?_
  refine wp_reg ?_
  have zl : (l = t + 4) = False := by simp; omega
  simp [hv2', zl]
  show (seqL _).wp P _ _ w2
  refine seqL_cons ?_
  refine wp_reg ?_
  simp
  generalize hf3 : upd (upd (upd f2 (t + 4) (.slice none 0 0)) (l + 1) (.slice none 0 0)) (l + 2) (.int .i32 0) = f3
  have k3 : ∀ y, y < t → (y < l ∨ l + 3 ≤ y) → f3 y = f y := by
    intro y hy hy2
    subst hf3
    have x1 : (y = l + 2) = False := by simp; omega
    have x2 : (y = l + 1) = False := by simp; omega
    have x3 : (y = t + 4) = False := by simp; omega
    simp [x1, x2, x3]
    exact hk2 y hy (by omega)
  have a3 : f3 (l + 1) = .slice none 0 0 := by subst hf3; simp
  show (lenIR C (l + 2) (t + 5)).wp P _ f3 w2
  refine r_len (fl := fl) hN hs2 (fun hx => (k3 9 (by omega) (by omega)).trans (hf.flg hx)) hf.flN (by omega) ((k3 C.rs (by omega) (by omega)).trans hf.rd) (by omega) (by omega) ?_
  intro f4 w4 hl4 he4 hr4 hk4
  have hs4 := hs2.ext1 he4 hr4
  have he24 : Ext (· = R.pb) w w4 := (he2.mono (fun _ _ h => h.elim)).trans he4
  have k4 : ∀ y, y < t → (y < l ∨ l + 3 ≤ y) → f4 y = f y := fun y hy hy2 => (hk4 y (by omega) (by omega)).trans (k3 y hy hy2)
  have a4 : f4 (l + 1) = .slice none 0 0 := (hk4 _ (by omega) (by omega)).trans a3
  have hlen := lenIN C
  generalize hT0 : t + 5 + lenIN C = t1 at *
  have ht1 : t + 5 ≤ t1 := by omega
  show (seqL _).wp P _ f4 w4
  refine seqL_append ?_
  refine r_nul hnz hz hf.v0 ((k4 8 (by omega) (by omega)).trans hf.ver) (by omega) (by omega) a4 hl4 ?_
  intro f6 w6 av0 a6 hk6 he6 hp6
  have hs6 : StR C R b a n w6 cc e (lenRd fl rs).2 := hs4.ext1 (he6.mono (fun _ _ h => h.elim)) (hr4.ext he6 (fun h => h) (fun h => h))
  have hr6 := hs6.rd
  have he26 : Ext (· = R.pb) w w6 := he24.trans (he6.mono (fun _ _ h => h.elim))
  have k6 : ∀ y, y < t → (y < l ∨ l + 3 ≤ y) → f6 y = f y := fun y hy hy2 => (hk6 y (by omega) (by omega)).trans (k4 y hy hy2)
  have l6 : f6 (l + 2) = .int .i32 (lenRd fl rs).1 := (hk6 _ (by omega) (by omega)).trans hl4
  generalize hT : t1 + nulN nul = t2 at *
  have ht2 : t1 ≤ t2 := by omega
  unfold headB
  show (seqL _).wp P _ f6 w6
  refine seqL_cons ?_
  refine r_ok hE hs6 ((k6 C.rs (by omega) (by omega)).trans hf.rd) (by omega) ?_ ?_
  · intro hb f5 h6
    exact h0 hb f5 w6 h6 he26
  · intro hb f5 hk5
    have k5 : ∀ y, y < t → (y < l ∨ l + 3 ≤ y) → f5 y = f y := fun y hy hy2 => (hk5 y (by omega)).trans (k6 y hy hy2)
    have a5 : f5 (l + 1) = av0 := (hk5 _ (by omega)).trans a6
    have l5 : f5 (l + 2) = .int .i32 (lenRd fl rs).1 := (hk5 _ (by omega)).trans l6
    show (seqL _).wp P _ f5 w6
    refine seqL_cons ?_
    refine wp_reg ?_
    have hsl : slice? P sT av0 none (some (.int .i64 0)) none = some av0 := by
      unfold NulPost at hp6
      split at hp6
      · obtain ⟨g, rfl, _⟩ := hp6; simp [slice?, hsz, Addr.add_mk]
      · subst hp6; simp [slice?, hsz]
    simp [a5, hsl]
    show (Ir.seq _ _).wp P _ _ w6
    refine wp_seqI (wp_reg ?_)
    have z2 : ∀ n, (l + 2 = t2 + n) = False := by intro n; simp; omega
    have z1 : ∀ n, (l + 1 = t2 + n) = False := by intro n; simp; omega
    have z0 : ∀ n, (l = t2 + n) = False := by intro n; simp; omega
    simp [z0, z1, z2, l5]
    have kk : ∀ v1 v2 v3 v4 v5, ∀ y, y < t → (y < l ∨ l + 3 ≤ y) → upd (upd (upd (upd (upd f5 (t2 + 3) v1) (t2 + 4) v2) (l + 1) v3) (t2 + 5) v4) (t2 + 6) v5 y = f y := by
      intro v1 v2 v3 v4 v5 y hy hy2
      have x1 : (y = l + 1) = False := by simp; omega
      have x3 : ∀ n, (y = t2 + n) = False := by intro n; simp; omega
      simp [x1, x3]
      exact k5 y hy hy2
    by_cases hp : 0 < (lenRd fl rs).1
    · have hav0 : av0 = .slice none 0 0 := by
        unfold NulPost at hp6
        rwa [if_neg (by omega)] at hp6
      subst hav0
      refine .inl ⟨by simp [hp], ?_⟩
      show (Ir.reg _).wp P _ _ w6
      refine wp_reg ?_
      simp [z0, z1, z2, l5]
      refine st_appz hz ht.i32 (lv := (lenRd fl rs).1) (by simp) (by simp) hp (lenRd_lt fl rs).1 ?_
      intro cap more et hcap
      have hE5 : Ext none1 w6 (w6.drew.alloc (.cells (Builtin.zeroCells z (lenRd fl rs).1.toNat ++ more) et)) := ((Ext.refl none1 w6).drew).alloc _
      refine h1 hb _ _ (.slice (some ⟨w6.heap.size, 0, none⟩) (lenRd fl rs).1.toNat cap) (by simp) (by simp [z0, z2, l5]) ?_ (he26.trans (hE5.mono (fun _ _ h => h.elim))) (hr6.ext hE5 (fun h => h) (fun h => h)) ?_
      · unfold HeadPost
        rw [if_pos hp]
        refine ⟨w6.heap.size, _, et, ⟨⟨cap, rfl, hcap⟩, he26.size, alloc_new, ?_, ?_⟩⟩
        · simp [size_zeroCells]
        · intro i hi
          apply List.ext_getElem?
          intro j
          by_cases hj : j < z.size
          · rw [segL_get hj, zeroCells_get hi hj]; simp
          · rw [segL_none (by omega)]; simp; omega
      · intro y hy hy2
        have x1 : (y = l + 1) = False := by simp; omega
        have x3 : ∀ n, (y = t2 + n) = False := by intro n; simp; omega
        simp [x1, x3]
        exact k5 y hy hy2
    · refine .inr ⟨by simp; omega, ?_⟩
      refine h1 hb _ w6 av0 (by simp [z0, z1]) (by simp [z0, z2, l5]) ?_ he26 hr6 (kk _ _ _ _ _)
      unfold HeadPost
      rw [if_neg hp]
      unfold NulPost at hp6 ⊢
      split at hp6
      · rename_i hc
        rw [if_pos hc]
        obtain ⟨g, h7, h8, h9⟩ := hp6
        exact ⟨g, h7, Nat.le_trans he24.size h8, h9⟩
      · rename_i hc
        rw [if_neg hc]; exact hp6
end
end Go.Kg

set_option linter.unusedSimpArgs false
set_option linter.unusedVariables false
set_option linter.unusedSectionVars false
namespace Go.Kg
open Go
section
variable {P : Program} {C : CfgR} {R : Rdr} {Q : Post} {f : Nat → Value} {w : World}
/-- for i := int32(0); i < l; i++ -/
theorem r_for {l t k N : Nat} {body : Ir} {lv : Int} (h32 : lv < 2147483648 ∧ -2147483648 ≤ lv) (hN : N = lv.toNat) (hl : l + 4 ≤ t) (h2 : f (l + 2) = .int .i32 lv) (J : Nat → (Nat → Value) → World → Prop)
    (hJ : ∀ i f f' w, (∀ x, x < t → x ≠ l + 3 → f' x = f x) → J i f w → J i f' w) (h0 : J 0 f w)
    (hb : ∀ i, i < N → ∀ f w, J i f w → f (l + 3) = .int .i32 i → f (l + 2) = .int .i32 lv → body.wp P (fun e f' w' => (e = .normal ∧ J (i + 1) f' w' ∧ f' (l + 3) = .int .i32 i ∧ f' (l + 2) = .int .i32 lv) ∨ (e = .ret ∧ Q .ret f' w')) f w)
    (h : ∀ f' w', J N f' w' → Q .normal f' w') : (forI C l t k body).wp P Q f w := by
  have z3 : ∀ n, (l + 3 = t + n) = False := by intro n; simp; omega
  have z2 : ∀ n, (l + 2 = t + n) = False := by intro n; simp; omega
  have z1 : ∀ n, (l + 1 = t + n) = False := by intro n; simp; omega
  have z0 : ∀ n, (l = t + n) = False := by intro n; simp; omega
  have z3' : (l + 3 = t) = False := by simp; omega
  have z2' : (l + 2 = t) = False := by simp; omega
  refine wp_seqI (wp_reg ?_)
  simp
  show (Ir.loop _).wp P _ _ _
  refine ⟨fun f w => ∃ i : Nat, i ≤ N ∧ f (l + 3) = .int .i32 i ∧ f (l + 2) = .int .i32 lv ∧ J i f w, fun f _ => match f (l + 3) with | .int _ i => ((N : Int) - i).toNat | _ => 0, ?_, ?_⟩
  · refine ⟨0, by omega, by simp, by simp [h2], hJ _ _ _ _ ?_ h0⟩
    intro x hx hx3
    simp [hx3]
  · rintro f w ⟨i, hi, h3, h2, hj⟩
    refine wp_seqI ?_
    refine wp_seqI (wp_reg ?_)
    simp [h2, h3, z2, z2', z3, z3']
    generalize hfa : upd (upd (upd f t (.int .i32 i)) (t + 1) (.int .i32 lv)) (t + 2) (.bool (decide ((i : Int) < lv))) = fa
    have ka : ∀ x, x < t → fa x = f x := by
      intro x hx
      subst hfa
      have x3 : ∀ n, (x = t + n) = False := by intro n; simp; omega
      have x4 : (x = t) = False := by simp; omega
      simp [x3, x4]
    have hja : J i fa w := hJ _ _ _ _ (fun x hx _ => ka x hx) hj
    by_cases hlt : (i : Int) < lv
    · refine .inl ⟨by subst hfa; simp [hlt], ?_⟩
      show (Ir.seq _ _).wp P _ _ _
      refine wp_seqI ?_
      show body.wp P _ _ _
      refine Ir.wp_mono body ?_ (hb i (by omega) fa w hja ((ka _ (by omega)).trans h3) ((ka _ (by omega)).trans h2))
      rintro e f' w' (⟨rfl, hj', h3', h2'⟩ | ⟨rfl, hq⟩)
      · show (Ir.reg _).wp P _ _ _
        refine wp_reg ?_
        have wr : IntKind.i32.wrap ((i : Int) + 1) = ((i + 1 : Nat) : Int) := by simp [IntKind.wrap, IntKind.signed, IntKind.bits]; omega
        simp [h3', z2, z2', z3, z3', wr]
        refine ⟨⟨i + 1, by omega, by simp, by simp [z2, z1, z0, h2'], hJ _ _ _ _ ?_ hj'⟩, ?_⟩
        · intro x hx hx3
          have x3 : ∀ n, (x = t + n) = False := by intro n; simp; omega
          simp [x3, hx3]
        · omega
      · exact hq
    · have : i = N := by omega
      subst this
      refine .inr ⟨by subst hfa; simp [hlt], ?_⟩
      show inBlockF k Q (.exit k) _ _
      rw [inBlockF_exit, if_pos rfl]
      exact h _ _ hja
end
end Go.Kg

set_option linter.unusedSimpArgs false
set_option linter.unusedVariables false
set_option linter.unusedSectionVars false
namespace Go.Kg
open Go
theorem segL_eq {c c' : Array Value} {a n : Nat} (h : ∀ j, a ≤ j → j < a + n → c'[j]? = c[j]?) : segL c' a n = segL c a n := by
  apply List.ext_getElem?
  intro j
  by_cases hj : j < n
  · rw [segL_get hj, segL_get hj]; exact h _ (by omega) (by omega)
  · rw [segL_none (by omega), segL_none (by omega)]
theorem segL_len {c : Array Value} {a n : Nat} (h : a + n ≤ c.size) : (segL c a n).length = n := by simp [segL]; omega
theorem Ext.trans' {C D E : Nat → Prop} {a b c : World} (h : Ext C a b) (k : Ext D b c) (hD : ∀ x, x < a.heap.size → D x → E x) (hC : ∀ x, x < a.heap.size → C x → E x := by intro x _ h; first | exact h | exact .inl h) : Ext E a c :=
  ⟨k.os.trans h.os, k.tape.trans h.tape, k.output.trans h.output, Nat.le_trans h.size k.size,
   fun i hi hc => (k.block i (Nat.lt_of_lt_of_le hi h.size) (fun hd => hc (hD i hi hd))).trans (h.block i hi (fun hd => hc (hC i hi hd)))⟩
/-- inside a list's row -/
def rdr' (R : Rdr) (ab : Nat) : Rdr := { R with base := ab + 1 }
section
variable {P : Program} {C : CfgR} {R : Rdr} {Q : Post} {f : Nat → Value} {w : World}
/-- v = a; s.F = v -/
theorem r_tail {T PT pv k o sT l t b a : Nat} {av : Value} {cc : Array Value} {e : TypeId} (hpv : f pv = .pointer (some ⟨b, a, none⟩)) (hF : fldOff P T k = some o) (hk : isScl (kindOf P sT) = true) (hav : f (l + 1) = av) (h1 : av.oneCell' = true) (hpt : pv < l) (hl : l + 1 < t)
    (hb : w.heap[b]? = some (.cells cc e (0, 0))) (ho : a + o + 1 ≤ cc.size)
    (h : ∀ f' cc', Put cc (a + o) av cc' → (∀ y, y < t → y ≠ l → f' y = f y) → Q .normal f' (w.setBlk b (.cells cc' e (0, 0)))) : (seqL (tailR C T PT pv k sT l t)).wp P Q f w := by
  refine seqL_cons ?_
  refine wp_reg ?_
  simp [hav]
  show (Ir.reg _).wp P _ _ w
  refine r_storeT (u := av) (o := o) (b := b) (a := a) (cc := cc) (e := e) ?_ hF hk ?_ h1 (by omega) (by omega) hb ho ?_
  · have x1 : (pv = l) = False := by simp; omega
    have x2 : (pv = t) = False := by simp; omega
    simp [x1, x2, hpv]
  · simp
  · intro f' cc' hput hk'
    refine h f' cc' hput ?_
    intro y hy hyl
    have x2 : (y = t) = False := by simp; omega
    rw [hk' y (by omega)]
    simp [hyl, x2]
structure Loop (C : CfgR) (R : Rdr) {α : Type} (fE : RS → Option (α × RS)) (Relt : World → (Nat → Prop) → List Value → α → Prop) (z : Array Value) (rs1 : RS) (w1 : World) (f1 : Nat → Value) (ab N sz l m t1 et : Nat) (i : Nat) (f' : Nat → Value) (w' : World) : Prop where
  ex : ∃ ys rsi cur, (rdN fE N rs1 = match rdN fE (N - i) rsi with | none => none | some (x, r) => some (ys ++ x, r)) ∧ ys.length = i ∧ StR C (rdr' R ab) ab 0 (N * sz) w' cur et rsi ∧ Ext (CB R ab) w1 w' ∧
    (∀ (j : Nat) y, ys[j]? = some y → Relt w' (RK (rdr' R ab)) (segL cur (j * sz) sz) y) ∧ (∀ j, i ≤ j → j < N → segL cur (j * sz) sz = z.toList)
  keep : KeepR f1 f' (l + 3) m t1
theorem rowBound {i N sz : Nat} (h : i < N) : i * sz + sz ≤ N * sz := by
  have := Nat.mul_le_mul_right sz (show i + 1 ≤ N from h)
  rwa [Nat.add_mul, Nat.one_mul] at this
theorem rowStep {i j sz : Nat} (h : j < i) : j * sz + sz ≤ i * sz := rowBound h
/-- The loop over a list's row. -/
theorem r_loop {α : Type} (fE : RS → Option (α × RS)) (Relt : World → (Nat → Prop) → List Value → α → Prop) (hRext : ∀ w w' K X es y, Relt w K es y → Ext X w w' → (∀ k, k < w.heap.size → K k → ¬ X k) → Relt w' K es y)
    {pv l m t kk b a N sz ab : Nat} {lv : Int} {ver : Int} {fl : Bool} {z : Array Value} {body : Ir} {av : Value} {cur0 : Array Value} {et : TypeId} {rs1 : RS} {cap : Nat} (h32 : lv < 2147483648 ∧ -2147483648 ≤ lv) (hN : N = lv.toNat) (hl : l + 4 ≤ m) (hm : m ≤ t) (hlv : f (l + 2) = .int .i32 lv) (hav : f (l + 1) = av)
    (hav' : av = .slice (some ⟨ab, 0, none⟩) N cap) (hcap : N ≤ cap) (hf : FrR C R f pv b a ver fl l) (hbase : R.base ≤ ab) (hst : StR C (rdr' R ab) ab 0 (N * sz) w cur0 et rs1) (hz : ∀ i, i < N → segL cur0 (i * sz) sz = z.toList)
    (hbody : ∀ (i : Nat) (f' : Nat → Value) (w' : World) (cur : Array Value) (rsi : RS), i < N → FrR C R f' pv b a ver fl l → f' (l + 1) = av → f' (l + 3) = .int .i32 i → StR C (rdr' R ab) ab 0 (N * sz) w' cur et rsi → segL cur (i * sz) sz = z.toList →
      ∀ Q' : Post, (fE rsi = none → ∀ f'' w'', f'' 6 = R.ev → Ext (CB R ab) w' w'' → Q' .ret f'' w'') →
        (∀ y rs'', fE rsi = some (y, rs'') → ∀ f'' w'' cur', StR C (rdr' R ab) ab 0 (N * sz) w'' cur' et rs'' → Ext (CB R ab) w' w'' → (∀ j, (j < i * sz ∨ i * sz + sz ≤ j) → cur'[j]? = cur[j]?) → Relt w'' (RK (rdr' R ab)) (segL cur' (i * sz) sz) y → KeepR f' f'' (l + 4) m (t + 5) → Q' .normal f'' w'') →
        body.wp P Q' f' w')
    (h0 : rdN fE N rs1 = none → ∀ f' w', f' 6 = R.ev → Ext (CB R ab) w w' → Q .ret f' w')
    (h1 : ∀ ys rs', rdN fE N rs1 = some (ys, rs') → ∀ f' w' cur, ys.length = N → StR C (rdr' R ab) ab 0 (N * sz) w' cur et rs' → Ext (CB R ab) w w' → (∀ (j : Nat) y, ys[j]? = some y → Relt w' (RK (rdr' R ab)) (segL cur (j * sz) sz) y) → KeepR f f' (l + 3) m t → Q .normal f' w') :
    (forI C l t kk body).wp P Q f w := by
  have hn10 := hf.nN
  refine r_for h32 hN (by omega) hlv (fun i f' w' => Loop C R fE Relt z rs1 w f ab N sz l m t et i f' w') ?_ ?_ ?_ ?_
  · rintro i f1 f2 w' hx ⟨hex, hk⟩
    refine ⟨hex, ?_⟩
    intro y hy1 hy
    rw [hx y (by omega) (by omega)]
    exact hk y hy1 hy
  · refine ⟨⟨[], rs1, cur0, ?_, rfl, hst, Ext.refl _ _, by simp, fun j _ hj => hz j hj⟩, KeepR.refl _ _ _ _⟩
    simp only [Nat.sub_zero]
    cases rdN fE N rs1 with
    | none => rfl
    | some a => simp
  · rintro i hi f' w' ⟨⟨ys, rsi, cur, hrel, hlen, hst', hext, helt, hnew⟩, hk⟩ h3 h2
    obtain ⟨k, hkN⟩ : ∃ k, N - i = k + 1 := ⟨N - i - 1, by omega⟩
    have hf' : FrR C R f' pv b a ver fl l := hf.keep (t := l + 3) hk.keeps (by omega)
    refine hbody i f' w' cur rsi hi hf' ((hk (l + 1) (by omega) (.inl (by omega))).trans hav) h3 hst' (hnew i (Nat.le_refl _) hi) _ ?_ ?_
    · intro hnone f'' w'' h6 he
      refine .inr ⟨rfl, h0 ?_ f'' w'' h6 (hext.trans he)⟩
      rw [hrel, hkN]
      simp only [rdN, hnone]
    · intro y rs'' hy f'' w'' cur' hst'' he hsame hrel' hk''
      have hsz : cur'.size = cur'.size := rfl
      refine .inl ⟨rfl, ⟨⟨ys ++ [y], rs'', cur', ?_, by simp [hlen], hst'', hext.trans he, ?_, ?_⟩, ?_⟩, ?_, ?_⟩
      · rw [hrel, hkN, show N - (i + 1) = k by omega]
        simp only [rdN, hy]
        cases rdN fE k rs'' with
        | none => rfl
        | some p => simp
      · intro j y' hj
        rcases Nat.lt_or_ge j i with hji | hji
        · rw [List.getElem?_append_left (by omega)] at hj
          rw [segL_eq (c := cur) (fun x hx1 hx2 => hsame x (.inl (by have := rowStep (sz := sz) hji; omega)))]
          exact hRext _ _ _ _ _ _ (helt j y' hj) he (hst'.rw_.keepK)
        · have hji' : j = i := by
            have := (List.getElem?_eq_some_iff.1 hj).1
            simp at this; omega
          subst hji'
          rw [List.getElem?_append_right (by omega), hlen, Nat.sub_self] at hj
          simp at hj
          subst hj
          exact hrel'
      · intro j hj hjN
        rw [segL_eq (c := cur) (fun x hx1 hx2 => hsame x (.inr (by have := rowStep (sz := sz) (show i < j by omega); omega)))]
        exact hnew j (by omega) hjN
      · intro x hx1 hx
        rw [hk'' x hx1 (by omega)]
        exact hk x hx1 hx
      · rw [hk'' _ (by omega) (.inl (by omega))]; exact h3
      · rw [hk'' _ (by omega) (.inl (by omega))]; exact h2
  · rintro f' w' ⟨⟨ys, rsi, cur, hrel, hlen, hst', hext, helt, hnew⟩, hk⟩
    refine h1 ys rsi ?_ f' w' cur hlen hst' hext helt hk
    rw [hrel, Nat.sub_self]
    simp [rdN]
end
end Go.Kg

set_option linter.unusedSimpArgs false
set_option linter.unusedVariables false
set_option linter.unusedSectionVars false
namespace Go.Kg
open Go
theorem cells_one {v : Value} (h : v.oneCell' = true) : v.cells = #[v] := by cases v <;> simp_all [Value.oneCell', Value.cells]
section
variable {P : Program} {C : CfgR} {R : Rdr} {Q : Post} {f : Nat → Value} {w : World}
/-- A list's field as a whole. -/
theorem r_list (ht : TyR P C) {nul : Option Nat} (hnz : nulZ C.fx nul = true) {α : Type} (fE : RS → Option (α × RS)) (Relt : World → (Nat → Prop) → List Value → α → Prop) (hRext : ∀ w w' K X es y, Relt w K es y → Ext X w w' → (∀ k, k < w.heap.size → K k → ¬ X k) → Relt w' K es y) (hRmono : ∀ w (K K' : Nat → Prop) es y, Relt w K es y → (∀ k, K k → K' k) → Relt w K' es y)
    {T PT pv k o sT l m t t2 kk b a n lo sz : Nat} {ver : Int} {fl : Bool} {cc : Array Value} {e : TypeId} {rs : RS} {z : Array Value} {body : Ir} (hF : fldOff P T k = some o) (hk : isScl (kindOf P sT) = true) (hsz : sliSz P sT = some sz) (hz : sliZ P sT = some z) (hzs : z.size = sz)
    (hN : LenRC P C) (hE : EndC P C) (hs : StR C R b a n w cc e rs) (hf : FrR C R f pv b a ver fl l) (hl : l + 4 ≤ m) (hm : m ≤ t) (ht2 : t + headN C nul + 5 ≤ t2) (hon : o + 1 ≤ n) (hlo : lo ≤ o) (hnil : (segL cc a n)[o]? = some (.slice none 0 0))
    (hbody : ∀ (ab N cap : Nat) (et : TypeId) (i : Nat) (av : Value) (f' : Nat → Value) (w' : World) (cur : Array Value) (rsi : RS), R.base ≤ ab → i < N → av = .slice (some ⟨ab, 0, none⟩) N cap → FrR C R f' pv b a ver fl l → f' (l + 1) = av → f' (l + 3) = .int .i32 i → StR C (rdr' R ab) ab 0 (N * sz) w' cur et rsi → segL cur (i * sz) sz = z.toList →
      ∀ Q' : Post, (fE rsi = none → ∀ f'' w'', f'' 6 = R.ev → Ext (CB R ab) w' w'' → Q' .ret f'' w'') →
        (∀ y rs'', fE rsi = some (y, rs'') → ∀ f'' w'' cur', StR C (rdr' R ab) ab 0 (N * sz) w'' cur' et rs'' → Ext (CB R ab) w' w'' → (∀ j, (j < i * sz ∨ i * sz + sz ≤ j) → cur'[j]? = cur[j]?) → Relt w'' (RK (rdr' R ab)) (segL cur' (i * sz) sz) y → KeepR f' f'' (l + 4) m (t + headN C nul + 5) → Q' .normal f'' w'') →
        body.wp P Q' f' w')
    (h0 : arrRd nul ver fl fE rs = none → ∀ f' w', f' 6 = R.ev → Ext (CB R b) w w' → Q .ret f' w')
    (h1 : ∀ A rs', arrRd nul ver fl fE rs = some (A, rs') → ∀ f' w' cc' av ls, RdTo C R b a n lo w cc e f l m t rs' f' w' cc' → (∀ j, (j < a + lo ∨ a + o + 1 ≤ j) → cc'[j]? = cc[j]?) → (segL cc' a n)[o]? = some av → ArrAt w' (RK R) sz av ls → (ls.isSome = A.isSome ∧ InHeap w' av) → (ls.getD []).length = (A.getD []).length →
      (∀ (i : Nat) es y, (ls.getD [])[i]? = some es → (A.getD [])[i]? = some y → Relt w' (RK R) es y) → Q .normal f' w') :
    (seqL (headR C T PT pv k sT l t nul ++ [forI C l (t + headN C nul) kk body] ++ tailR C T PT pv k sT l t2)).wp P Q f w := by
  have hn10 := hf.nN
  have hpt := hf.ptrN
  have hfit := hs.fit
  have hlen := lenRd_lt fl rs
  have hhead : headN C nul = 5 + lenIN C + nulN nul + 10 := rfl
  rw [List.append_assoc]
  refine seqL_append ?_
  refine r_head ht hnz hF hk hsz hz hN hE hs hf (by omega) (by omega) hnil ?_ ?_
  · intro hb f' w' h6 he
    exact h0 (by simp [arrRd, hb]) f' w' h6 (he.mono (fun _ _ h => .inl h))
  · intro hb f1 w1 av hav hlv hpost he1 hr1 hk1
    have hs1 := hs.ext1 he1 hr1
    have kR1 : KeepR f f1 l m t := fun y hy1 hy => hk1 y (by omega) (by omega)
    have hf1 := hf.keep kR1.keeps (Nat.le_refl _)
    -- the tail, from what the loop left
    have fin : ∀ (A : Option (List α)) (rs' : RS) (f2 : Nat → Value) (w2 : World) (ls : Option (List (List Value))), arrRd nul ver fl fE rs = some (A, rs') → KeepR f f2 l m t → f2 (l + 1) = av → Ext (· = R.pb) w w2 → RdAt C.E.tRd w2 R.pb R.D rs' → av.oneCell' = true →
        ArrAt w2 (RK R) sz av ls → (ls.isSome = A.isSome ∧ InHeap w2 av) → (ls.getD []).length = (A.getD []).length → (∀ (i : Nat) es y, (ls.getD [])[i]? = some es → (A.getD [])[i]? = some y → Relt w2 (RK R) es y) → (seqL (tailR C T PT pv k sT l t2)).wp P Q f2 w2 := by
      intro A rs' f2 w2 ls hA hk2 hav2 he2 hr2 hone harr hsome hlen2 helt
      have hs2 := hs.ext1 he2 hr2
      have hf2 := hf.keep hk2.keeps (Nat.le_refl _)
      have huc : av.cells = #[av] := cells_one hone
      refine r_tail (o := o) (b := b) (a := a) (cc := cc) (e := e) hf2.ptr hF hk hav2 hone hpt.2 (by omega) hs2.blk (by omega) ?_
      intro f3 cc3 hput hk3
      have hE3 : Ext (fun x => x = b) w2 (w2.setBlk b (.cells cc3 e (0, 0))) := (Ext.refl (fun x => x = b) w2).setBlk (b := b) (Or.inr rfl) _
      have hK3 : ∀ k, k < w2.heap.size → RK R k → ¬ k = b := fun k h1 h2 h3 => hs2.rw_.keepK k h1 h2 (.inr h3)
      refine h1 A rs' hA f3 _ cc3 av ls ?_ ?_ ?_ (ArrAt.ext hE3 hK3 harr) ⟨hsome.1, hsome.2.ext hE3⟩ hlen2 ?_
      · refine (RdTo.read (lo := lo) hs he2 hr2 hk2).trans (RdTo.put hs2 hput hlo (by rw [huc]; exact hon) (l := l) (m := m) (t := t) ?_) (Nat.le_refl _) (Nat.le_refl _) (Nat.le_refl _) (Nat.le_refl _)
        intro y hy1 hy
        exact hk3 y (by omega) (by omega)
      · intro j hj
        exact hput.same j (by rw [huc]; simp; omega)
      · rw [segL_get (by omega)]
        have := hput.new 0 av (by simp [huc])
        simpa using this
      · intro i es y hi hy
        exact hRext _ _ _ _ _ _ (helt i es y hi hy) hE3 hK3
    have hpost' := hpost
    unfold HeadPost at hpost'
    show (seqL _).wp P _ f1 w1
    refine seqL_cons ?_
    by_cases hp : 0 < (lenRd fl rs).1
    · rw [if_pos hp] at hpost'
      obtain ⟨ab, cur, et, ⟨⟨cap, hcapE, hcap⟩, hnew, hblk, hfit2, hzero⟩⟩ := hpost'
      have hb1 := hs.rw_.lt
      have hbase : R.base ≤ ab := Nat.le_trans hb1.2.2.2 hnew
      have hg : C.E.g_kbin_ErrNotEnoughData < w.heap.size := World.block_lt_of_cell? w _ hs.rw_.err
      have hst : StR C (rdr' R ab) ab 0 ((lenRd fl rs).1.toNat * sz) w1 cur et (lenRd fl rs).2 := by
        refine ⟨hblk, by rw [← hzs]; omega, hr1, ⟨⟨?_, ?_, ?_, ?_⟩, ⟨hs.rw_.ne.1, ?_, ?_⟩, hs1.rw_.err, ⟨hs1.rw_.errN.1, ?_⟩⟩⟩
        · show R.pb < ab + 1; omega
        · show ab < ab + 1; omega
        · show R.D < ab + 1; omega
        · exact lt_of_heap hblk
        · show ab ≠ R.D; omega
        · show R.pb ≠ ab; omega
        · omega
      refine r_loop (z := z) (cap := cap) fE Relt hRext hlen rfl hl (by omega) hlv hav hcapE hcap hf1 hbase hst (by rw [← hzs]; exact hzero) ?_ ?_ ?_
      · intro i f' w' cur' rsi hi hf' hav' h3 hst' hz' Q' q0 q1
        exact hbody ab _ cap et i av f' w' cur' rsi hbase hi hcapE hf' hav' h3 hst' hz' Q' q0 (fun y rs'' hy f'' w'' cur'' a1 a2 a3 a4 a5 => q1 y rs'' hy f'' w'' cur'' a1 a2 a3 a4 a5)
      · intro hnone f' w' h6 he
        refine h0 ?_ f' w' h6 ?_
        · simp only [arrRd, hb, hp, hnone]; simp
        · exact he1.trans' (E := CB R b) he (fun x hx hc => by
            rcases hc with h | h
            · exact .inl h
            · omega)
      · intro ys rs' hys f' w' cur' hlenY hst' he helt hk'
        have heT : Ext (· = R.pb) w w' := he1.trans' he (fun x hx hc => by
          rcases hc with h | h
          · exact h
          · omega)
        have hav1 : av.oneCell' = true := by rw [hcapE]; rfl
        refine fin (some ys) rs' f' w' (some ((List.range (lenRd fl rs).1.toNat).map fun j => segL cur' (j * sz) sz)) ?_ ?_ ?_ heT hst'.rd hav1 ?_ ⟨rfl, fun a' n' c' e' => by rw [hcapE] at e'; cases e'; exact lt_of_heap hst'.blk⟩ (by simp [hlenY]) ?_
        · simp only [arrRd, hb, hp, hys]; simp
        · intro y hy1 hy
          rw [hk' y hy1 (by omega)]
          exact kR1 y hy1 hy
        · rw [hk' (l + 1) (by omega) (.inl (by omega))]; exact hav
        · refine ⟨ab, 0, cap, by rw [hcapE]; simp, .inr hbase, ⟨by simpa using hcap, by simp; omega⟩, ?_⟩
          intro i cs hi
          simp only [List.getElem?_map, Option.map_eq_some_iff] at hi
          obtain ⟨j, hj, rfl⟩ := hi
          have hjl := (List.getElem?_eq_some_iff.1 hj).1
          have hji : j = i := by
            obtain ⟨_, h2⟩ := List.getElem?_eq_some_iff.1 hj
            simpa using h2.symm
          subst hji
          have hjN : j < (lenRd fl rs).1.toNat := by simpa using hjl
          have hfitJ := rowBound (sz := sz) hjN
          have hfit' := hst'.fit
          exact ⟨segL_len (by omega), by rw [Nat.zero_add]; exact cellsAt_seg hst'.blk⟩
        · intro i es y hi hy
          simp only [Option.getD_some, List.getElem?_map, Option.map_eq_some_iff] at hi hy
          obtain ⟨j, hj, rfl⟩ := hi
          have hji : j = i := by
            obtain ⟨_, h2⟩ := List.getElem?_eq_some_iff.1 hj
            simpa using h2.symm
          subst hji
          exact hRmono _ _ _ _ _ (helt j y hy) (fun k hk => by
            rcases hk with h | h
            · exact .inl h
            · exact .inr (by have : ab + 1 ≤ k := h; omega))
    · rw [if_neg hp] at hpost'
      have hone : av.oneCell' = true := by
        unfold NulPost at hpost'
        split at hpost'
        · obtain ⟨g, rfl, _⟩ := hpost'; rfl
        · subst hpost'; rfl
      refine r_for (N := 0) hlen (by omega) (by omega) hlv (fun _ f' w' => w' = w1 ∧ ∀ x, x < t + headN C nul → x ≠ l + 3 → f' x = f1 x) ?_ ⟨rfl, fun _ _ _ => rfl⟩ (fun i hi => by omega) ?_
      · rintro i fa fb w' hx ⟨rfl, h2⟩
        exact ⟨rfl, fun x hx1 hx2 => (hx x hx1 hx2).trans (h2 x hx1 hx2)⟩
      · rintro f' w' ⟨rfl, h2⟩
        have kk : KeepR f f' l m t := by
          intro y hy1 hy
          rw [h2 y (by omega) (by omega)]
          exact kR1 y hy1 hy
        have he : (emptyOf nul ver (lenRd fl rs).1 : Option (List α)) = if nul.isSome = true ∧ (lenRd fl rs).1 = 0 then some [] else none := by
          have hv0 := hf.v0
          cases nul with
          | none => simp [emptyOf]
          | some m0 =>
            simp only [nulZ, Bool.and_eq_true, beq_iff_eq] at hnz
            obtain ⟨hfx, rfl⟩ := hnz
            have := hv0 hfx
            have : ¬ ver < 0 := by omega
            simp [emptyOf, this]
        unfold NulPost at hpost'
        split at hpost'
        · rename_i hc
          obtain ⟨ab, rfl, hab1, hab2⟩ := hpost'
          rw [if_pos hc] at he
          refine fin (some []) (lenRd fl rs).2 f' w' (some []) ?_ kk ((h2 _ (by omega) (by omega)).trans hav) he1 hr1 rfl ⟨ab, 0, 0, rfl, .inr (Nat.le_trans hs.rw_.lt.2.2.2 hab1), ⟨Nat.le_refl _, by simp⟩, by simp⟩ ⟨rfl, fun a' n' c' e' => by cases e'; exact hab2⟩ rfl (by simp)
          simp only [arrRd, hb, hp, he]; simp
        · rename_i hc
          subst hpost'
          rw [if_neg hc] at he
          refine fin none (lenRd fl rs).2 f' w' none ?_ kk ((h2 _ (by omega) (by omega)).trans hav) he1 hr1 rfl rfl ⟨rfl, InHeap.nil _⟩ rfl (by simp)
          simp only [arrRd, hb, hp, he]; simp
end
end Go.Kg

set_option linter.unusedSimpArgs false
set_option linter.unusedVariables false
set_option linter.unusedSectionVars false
namespace Go.Kg
open Go
section
variable {P : Program} {C : CfgR}
theorem FrR.inner {R : Rdr} {f : Nat → Value} {pv b a n ab : Nat} {ver : Int} {fl : Bool} (h : FrR C R f pv b a ver fl n) : FrR C (rdr' R ab) f pv b a ver fl n := ⟨h.ptr, h.ptrN, h.v0, h.ver, h.flg, h.flN, h.rd, h.us, h.nN, h.rsN⟩
def EltP (p : Prim) (w : World) (K : Nat → Prop) (es : List Value) (y : p.T) : Prop := ∃ u, es = u.cells.toList ∧ p.rep1 w K u y
def EltS (S : Sch) (w : World) (K : Nat → Prop) (es : List Value) (y : S.T) : Prop := S.Rep w K es y
theorem EltP.ext (p : Prim) : ∀ w w' K X es y, EltP p w K es y → Ext X w w' → (∀ k, k < w.heap.size → K k → ¬ X k) → EltP p w' K es y := by
  rintro w w' K X es y ⟨u, h1, h2⟩ he hK
  exact ⟨u, h1, Prim.rep1_ext he hK h2⟩
theorem EltP.mono (p : Prim) : ∀ w (K K' : Nat → Prop) es y, EltP p w K es y → (∀ k, K k → K' k) → EltP p w K' es y := by
  rintro w K K' es y ⟨u, h1, h2⟩ hK
  exact ⟨u, h1, Prim.rep1_mono hK h2⟩
theorem EltS.ext (S : Sch) : ∀ w w' K X es y, EltS S w K es y → Ext X w w' → (∀ k, k < w.heap.size → K k → ¬ X k) → EltS S w' K es y := fun w w' K X es y h he hK => Sch.Rep_ext he hK S h
theorem EltS.mono (S : Sch) : ∀ w (K K' : Nat → Prop) es y, EltS S w K es y → (∀ k, K k → K' k) → EltS S w K' es y := fun w K K' es y h hK => Sch.Rep_mono hK S h
/-- A list's field stands in a struct's cells. -/
def ArrFld {α : Type} (Relt : World → (Nat → Prop) → List Value → α → Prop) (w : World) (K : Nat → Prop) (sz : Nat) (cs : List Value) (o : Nat) (A : Option (List α)) : Prop :=
  ∃ v ls, cs[o]? = some v ∧ ArrAt w K sz v ls ∧ (ls.isSome = A.isSome ∧ InHeap w v) ∧ (ls.getD []).length = (A.getD []).length ∧ ∀ (i : Nat) (es : List Value) x, (ls.getD [])[i]? = some es → (A.getD [])[i]? = some x → Relt w K es x
theorem ArrFld.move {α : Type} {Relt : World → (Nat → Prop) → List Value → α → Prop} (hRext : ∀ w w' K X es y, Relt w K es y → Ext X w w' → (∀ k, k < w.heap.size → K k → ¬ X k) → Relt w' K es y) {w w' : World} {K X : Nat → Prop} {sz o : Nat} {cs cs' : List Value} {A : Option (List α)} (h : ArrFld Relt w K sz cs o A) (he : Ext X w w') (hK : ∀ k, k < w.heap.size → K k → ¬ X k) (hc : cs'[o]? = cs[o]?) : ArrFld Relt w' K sz cs' o A := by
  obtain ⟨v, ls, h1, h2, h3, h4, h5⟩ := h
  exact ⟨v, ls, hc.trans h1, ArrAt.ext he hK h2, ⟨h3.1, h3.2.ext he⟩, h4, fun i es x hi hx => hRext _ _ _ _ _ _ (h5 i es x hi hx) he hK⟩
theorem sliOk_spec {sT sz : Nat} (h : sliOk P sT sz = true) : sliSz P sT = some sz ∧ ∃ z, sliZ P sT = some z ∧ z.size = sz := by
  simp only [sliOk, Bool.and_eq_true, beq_iff_eq] at h
  obtain ⟨h1, h2⟩ := h
  refine ⟨h1, ?_⟩
  cases hz : sliZ P sT with
  | none => rw [hz] at h2; cases h2
  | some z => rw [hz] at h2; exact ⟨z, rfl, by simpa using h2⟩
/-- a[i] = v -/
theorem r_storeE (ht : TyR P C) {sT l t ab N cap i sz : Nat} {p : Prim} {u : Value} {cur : Array Value} {et : TypeId} {Q : Post} {f : Nat → Value} {w : World} (hsl : sliSz P sT = some sz) (h1 : f (l + 1) = .slice (some ⟨ab, 0, none⟩) N cap) (h3 : f (l + 3) = .int .i32 i) (hi : i < N) (hk : p.kOk P (p.ty C.E) = true) (hlv : LocVal w f p (l + 4) u)
    (hu : if p = .uuid then ∃ c : Array Value, u = .agg c ∧ c.size = 16 ∧ allOne c.toList = true else u.oneCell' = true) (hl : l + 4 < t) (hb : w.heap[ab]? = some (.cells cur et (0, 0))) (ho : i * sz + u.cells.size ≤ cur.size)
    (h : ∀ f' cur', Put cur (i * sz) u cur' → (∀ y, y < t → f' y = f y) → Q .normal f' (w.setBlk ab (.cells cur' et (0, 0)))) : (storeE C p sT l t).wp P Q f w := by
  have e3 : ∀ n, (l + 3 = t + n) = False := by intro n; simp; omega
  have e2 : ∀ n, (l + 2 = t + n) = False := by intro n; simp; omega
  have e1 : ∀ n, (l + 1 = t + n) = False := by intro n; simp; omega
  have e0 : ∀ n, (l = t + n) = False := by intro n; simp; omega
  have e4 : ∀ n, (l + 4 = t + n) = False := by intro n; simp; omega
  have e3' : (l + 3 = t) = False := by simp; omega
  have e1' : (l + 1 = t) = False := by simp; omega
  have e4' : (l + 4 = t) = False := by simp; omega
  have keep : ∀ a b c d, ∀ y, y < t → upd (upd (upd (upd f t a) (t + 1) b) (t + 2) c) (t + 3) d y = f y := by
    intro a b c d y hy
    have x3 : ∀ n, (y = t + n) = False := by intro n; simp; omega
    have x4 : (y = t) = False := by simp; omega
    simp [x3, x4]
  refine wp_reg ?_
  by_cases hp : p = .uuid
  · subst hp
    simp only [if_true] at hu
    obtain ⟨c, rfl, hc16, hone⟩ := hu
    simp only [LocVal, if_true] at hlv
    obtain ⟨b', cs', e', fz', hf, hbk, hcs, h16⟩ := hlv
    cases hcs
    have hk' : kindOf P C.E.tUu = .agg 16 := (ht.uu (kOk_uu hk rfl)).kUu
    have lB := cellsFrom_row hbk
    rw [h16] at lB
    have ho' : i * sz + 16 ≤ cur.size := by simpa [Value.cells, hc16] using ho
    simp [storeE, getL, h1, h3, hf, e0, e1, e2, e3, e4, e1', e3', e4', idx?, hsl, hi, Addr.add_mk, ld_agg hk', lB, Prim.ty, store_agg hk', hc16, hone, putK_blk hb]
    exact ⟨by omega, h _ _ (put_over (by omega)) (keep _ _ _ _)⟩
  · simp only [if_neg hp] at hu
    simp only [LocVal, if_neg hp] at hlv
    have hk' : kindOf P (p.ty C.E) = .scl := by simp only [Prim.kOk, if_neg hp] at hk; exact isScl_spec hk
    have huc : u.cells = #[u] := cells_one hu
    have ho' : i * sz + 1 ≤ cur.size := by simpa [huc] using ho
    simp [storeE, getL, hp, h1, h3, hlv, e0, e1, e2, e3, e4, e1', e3', e4', idx?, hsl, hi, Addr.add_mk, store_scl hk', hu, put1K_blk hb]
    exact ⟨by omega, h _ _ (put_one hu (by omega)) (keep _ _ _ _)⟩
/-- the body of a loop over things without fields -/
theorem r_bodyP (ht : TyR P C) {p : Prim} {R : Rdr} {sT l t b a pv ab N cap i : Nat} {av : Value} {ver : Int} {fl : Bool} {et : TypeId} {f' : Nat → Value} {w' : World} {cur : Array Value} {rsi : RS} (hP : PrimR P C p) (hsl : sliSz P sT = some p.sz) (hk : p.kOk P (p.ty C.E) = true) (hlt : l + 5 ≤ t) (hbase : R.base ≤ ab) (hi : i < N) (hav : av = .slice (some ⟨ab, 0, none⟩) N cap)
    (hf : FrR C R f' pv b a ver fl l) (h1 : f' (l + 1) = av) (h3 : f' (l + 3) = .int .i32 i) (hst : StR C (rdr' R ab) ab 0 (N * p.sz) w' cur et rsi) (Q' : Post)
    (q1 : ∀ f'' w'' cur', StR C (rdr' R ab) ab 0 (N * p.sz) w'' cur' et (p.rd fl rsi).2 → Ext (CB R ab) w' w'' → (∀ j, (j < i * p.sz ∨ i * p.sz + p.sz ≤ j) → cur'[j]? = cur[j]?) → EltP p w'' (RK (rdr' R ab)) (segL cur' (i * p.sz) p.sz) (p.rd fl rsi).1 → KeepR f' f'' (l + 4) (l + 5) t → Q' .normal f'' w'') :
    (seqL (readI C p (l + 4) t ++ [storeE C p sT l (t + readN C p)])).wp P Q' f' w' := by
  have hrow := rowBound (sz := p.sz) hi
  have hfit := hst.fit
  refine seqL_append ?_
  refine r_read ht (kOk_uu hk) (fl := fl) hP hst (hf.inner.up (by omega : l ≤ l + 4)) (by omega) ?_
  intro f2 w2 u hu hrep he2 hr2 hk2
  have hs2 := hst.ext1 he2 hr2
  have hszu := rep1_sz hrep
  show (storeE C p sT l (t + readN C p)).wp P _ f2 w2
  refine r_storeE ht (cap := cap) hsl (by rw [hk2 _ (by omega) (by omega), h1, hav]) (by rw [hk2 _ (by omega) (by omega), h3]) hi hk hu (rep1_one hrep) (by omega) hs2.blk (by rw [hszu]; omega) ?_
  intro f3 cur3 hput hk3
  have hE3 : Ext (fun x => x = ab) w2 (w2.setBlk ab (.cells cur3 et (0, 0))) := (Ext.refl (fun x => x = ab) w2).setBlk (b := ab) (Or.inr rfl) _
  have hE3' : Ext (CB (rdr' R ab) ab) w2 (w2.setBlk ab (.cells cur3 et (0, 0))) := hE3.mono (fun _ _ h => .inr h)
  refine q1 f3 _ cur3 ?_ ?_ ?_ ?_ ?_
  · exact ⟨setBlk_same hs2.blk, by rw [hput.size]; exact hfit, hs2.rd.ext hE3 (fun h => hs2.rw_.ne.2.2 h) (fun h => hs2.rw_.ne.2.1 h.symm), hs2.rw_.ext hE3'⟩
  · exact (he2.mono (fun _ _ h => .inl h) : Ext (CB R ab) w' w2).trans hE3'
  · intro j hj
    exact hput.same j (by rw [hszu]; omega)
  · refine ⟨u, ?_, Prim.rep1_ext hE3 (fun k a1 a2 a3 => hs2.rw_.keepK k a1 a2 (.inr a3)) hrep⟩
    apply List.ext_getElem?
    intro j
    by_cases hj : j < p.sz
    · rw [segL_get hj]
      have hj' : j < u.cells.toList.length := by simpa [hszu] using hj
      rw [List.getElem?_eq_getElem hj']
      exact hput.new j _ (List.getElem?_eq_getElem hj')
    · rw [segL_none (by omega), List.getElem?_eq_none (by simp [hszu]; omega)]
  · intro y hy1 hy
    rw [hk3 y (by omega), hk2 y (by omega) (by omega)]
end
end Go.Kg

set_option linter.unusedSimpArgs false
set_option linter.unusedVariables false
set_option linter.unusedSectionVars false
namespace Go.Kg
open Go
section
variable {P : Program} {C : CfgR}
theorem soundR_arrP (ht : TyR P C) (g : Gd) (k o sT : Nat) (nul : Option Nat) (p : Prim) (rest : Sch) (ih : SoundR P C rest) : SoundR P C (.arrP g k o sT nul p rest) := by
  intro T PT pv c Q f w b a n lo cc e ver fl R rs hty hN hf hc hs hd h0 h1
  simp only [Sch.tyR, Bool.and_eq_true, beq_iff_eq, decide_eq_true_eq] at hty
  obtain ⟨⟨⟨⟨⟨⟨⟨hnul, hF⟩, hk⟩, hsli⟩, hkp⟩, hlo⟩, hn⟩, htr⟩ := hty
  obtain ⟨hsz, z, hz, hzs⟩ := sliOk_spec hsli
  obtain ⟨hNp, hNl, hNe, hNr⟩ := hN
  simp only [Sch.chkD, Bool.and_eq_true] at hd
  have hnil := isNilSli_spec hd.1
  have hn10 := hf.nN
  have hpt := hf.ptrN
  have hhead : headN C nul = 5 + lenIN C + nulN nul + 10 := rfl
  simp only [Sch.genR] at hc h1 ⊢
  generalize ht1 : c.t + gdN g + headN C nul = t1 at hc h1 ⊢
  generalize ht2 : t1 + 5 + readN C p + 4 = t2 at hc h1 ⊢
  have hm := (genR_mono (C := C) rest T PT pv ⟨c.l + 5, t2 + 5, c.k + 2⟩).1
  simp only at hm
  have behind : ∀ (f1 : Nat → Value) (w1 : World) (cc1 : Array Value) (rs1 : RS) (A : Option (List p.T)),
      (Sch.rd ver fl (.arrP g k o sT nul p rest) rs = (rest.rd ver fl rs1).map fun y => ((A, y.1), y.2)) →
      RdTo C R b a n lo w cc e f c.l (c.l + 5) c.t rs1 f1 w1 cc1 → (∀ j, (j < a + lo ∨ a + o + 1 ≤ j) → cc1[j]? = cc[j]?) → ArrFld (EltP p) w1 (RK R) p.sz (segL cc1 a n) o A →
      (seqL (rest.genR C T PT pv ⟨c.l + 5, t2 + 5, c.k + 2⟩).1).wp P Q f1 w1 := by
    intro f1 w1 cc1 rs1 A hrd hto hsame hfld
    have hd1 : rest.chkD (segL cc1 a n) = true := by
      refine chkD_congr rest htr (fun j hj1 hj2 => ?_) hd.2
      rw [segL_get hj2, segL_get hj2]
      exact hsame _ (by omega)
    refine ih T PT pv _ Q f1 w1 b a n (o + 1) cc1 e ver fl R rs1 htr hNr ((hf.keep hto.keep.keeps (Nat.le_refl _)).up (by simp)) (by simp only; omega) hto.st hd1 ?_ ?_
    · intro hnone f2 w2 h6 he2
      exact h0 (by rw [hrd, hnone]; rfl) f2 w2 h6 (hto.ext.trans he2)
    · intro y rs2 hy f2 w2 cc2 hto2 hrep2
      refine h1 (A, y) rs2 (by rw [hrd, hy]; rfl) f2 w2 cc2 (hto.trans hto2 (by omega) (by simp) hm (by simp only; omega)) ⟨?_, hrep2⟩
      exact hfld.move (EltP.ext p) hto2.ext hto.st.rw_.keepK (by rw [segL_get (by omega), segL_get (by omega)]; exact hto2.same _ (.inl (by omega)))
  refine seqL_cons ?_
  refine w_guard ht.c (show f 8 = _ from hf.ver) (show 8 < c.t by omega) (by omega) ?_ ?_
  · intro hon f1 hk1 h11
    have hf1 := hf.keep hk1 (by omega)
    rw [← ht1]
    refine r_list ht hnul (fun rs => some (p.rd fl rs)) (EltP p) (EltP.ext p) (EltP.mono p) (lo := lo) (m := c.l + 5) (ver := ver) (fl := fl) (sz := p.sz) hF hk hsz hz hzs hNl hNe hs hf1 (by omega) (by omega) (by omega) hn hlo hnil ?_ ?_ ?_
    · intro ab N cap et i av f' w' cur rsi hbase hi hav hf' hav' h3 hst hzero Q' q0 q1
      rw [ht1]
      refine r_bodyP ht (cap := cap) hNp hsz hkp (by omega) hbase hi hav hf' hav' h3 hst Q' ?_
      intro f'' w'' cur' a1 a2 a3 a4 a5
      exact q1 _ _ rfl f'' w'' cur' a1 a2 a3 a4 (by rw [ht1]; exact a5)
    · intro hnone f' w' h6 he
      refine h0 ?_ f' w' h6 he
      simp only [Sch.rd, if_pos hon, hnone]
    · intro A rs' hA f' w' cc' av ls hto hsame hav harr hsome hlen helt
      refine behind f' w' cc' rs' A ?_ ?_ hsame ⟨av, ls, hav, harr, hsome, hlen, helt⟩
      · simp only [Sch.rd, if_pos hon, hA]; rfl
      · exact (RdTo.refl (m := c.l + 5) hs (KeepR.of hk1 (by omega))).trans { hto with keep := fun y h1 hy => hto.keep y h1 (by omega) } (Nat.le_refl _) (Nat.le_refl _) (Nat.le_refl _) (Nat.le_refl c.t)
  · intro hoff f1 hk1 h11
    refine behind f1 w cc rs none ?_ (RdTo.refl hs (KeepR.of hk1 (by omega))) (fun _ _ => rfl) ⟨_, none, hnil, rfl, ⟨rfl, InHeap.nil _⟩, rfl, by simp⟩
    simp only [Sch.rd, hoff, Bool.false_eq_true, if_false]; rfl
theorem segL_set (P : Program) {T' : Nat} : ∀ (l : List DSt) (c z : Array Value) (a n : Nat), defOk P T' n l = true → z.size = n → segL c a n = z.toList → segL (setD a l c) a n = (setD 0 l z).toList
  | [], c, z, a, n, _, _, h => h
  | x :: l, c, z, a, n, hok, hz, h => by
    simp only [defOk, Bool.and_eq_true, decide_eq_true_eq] at hok
    simp only [setD]
    refine segL_set P l _ _ a n hok.2 (by simp [hz]) ?_
    apply List.ext_getElem?
    intro j
    by_cases hj : j < n
    · have h1 : (segL c a n)[j]? = z.toList[j]? := by rw [h]
      rw [segL_get hj] at h1
      rw [segL_get hj]
      simp only [Array.getElem?_setIfInBounds, Array.getElem?_toList, Nat.zero_add]
      by_cases e : x.o = j
      · subst e
        have hlt : a + x.o < c.size := by
          rcases Nat.lt_or_ge (a + x.o) c.size with h2 | h2
          · exact h2
          · rw [Array.getElem?_eq_none h2] at h1
            have : z[x.o]? = none := by simpa using h1.symm
            rw [Array.getElem?_eq_none_iff] at this
            omega
        simp [hlt, hz, hj]
      · rw [if_neg (by omega), if_neg e]
        simpa using h1
    · rw [segL_none (by omega)]
      symm
      apply List.getElem?_eq_none
      simp [hz]; omega
theorem setD_same (P : Program) {T' : Nat} : ∀ (l : List DSt) (c : Array Value) (a n : Nat), defOk P T' n l = true → ∀ j, (j < a ∨ a + n ≤ j) → (setD a l c)[j]? = c[j]?
  | [], c, a, n, _, j, _ => rfl
  | x :: l, c, a, n, hok, j, hj => by
    simp only [defOk, Bool.and_eq_true, decide_eq_true_eq] at hok
    simp only [setD]
    rw [setD_same P l _ a n hok.2 j hj, Array.getElem?_setIfInBounds, if_neg (by omega)]
/-- v := &a[i]; v.Default(); s := v -/
theorem r_elem {R : Rdr} {sT PT' df l t b a pv ab N cap i sz T' : Nat} {S : Sch} {av : Value} {ver : Int} {fl : Bool} {et : TypeId} {f : Nat → Value} {w : World} {cur : Array Value} {rsi : RS} {Q : Post} {z : Array Value} (hsl : sliSz P sT = some sz) (hD : DefRC P C.toCfg sz df S) (hok : defOk P T' sz (S.dst C.toCfg) = true) (hzs : z.size = sz) (hi : i < N) (hav : av = .slice (some ⟨ab, 0, none⟩) N cap)
    (hf : FrR C R f pv b a ver fl l) (h1 : f (l + 1) = av) (h3 : f (l + 3) = .int .i32 i) (hl : l + 6 ≤ t) (hst : StR C (rdr' R ab) ab 0 (N * sz) w cur et rsi) (hzero : segL cur (i * sz) sz = z.toList)
    (h : ∀ f' w' cur', FrR C (rdr' R ab) f' (l + 5) ab (i * sz) ver fl (l + 6) → StR C (rdr' R ab) ab (i * sz) sz w' cur' et rsi → cur'.size = cur.size → Ext (CB R ab) w w' → (∀ j, (j < i * sz ∨ i * sz + sz ≤ j) → cur'[j]? = cur[j]?) → segL cur' (i * sz) sz = (setD 0 (S.dst C.toCfg) z).toList → (∀ y, y < t → (y < l + 4 ∨ l + 6 ≤ y) → f' y = f y) → Q .normal f' w') :
    (seqL (elemR C sT PT' df l t)).wp P Q f w := by
  have hn10 := hf.nN
  have hpt := hf.ptrN
  have hrow := rowBound (sz := sz) hi
  have hfit := hst.fit
  have e3 : ∀ n, (l + 3 = t + n) = False := by intro n; simp; omega
  have e1 : ∀ n, (l + 1 = t + n) = False := by intro n; simp; omega
  have e2 : ∀ n, (l + 2 = t + n) = False := by intro n; simp; omega
  have e4 : ∀ n, (l + 4 = t + n) = False := by intro n; simp; omega
  have e0 : ∀ n, (l = t + n) = False := by intro n; simp; omega
  have e3' : (l + 3 = t) = False := by simp; omega
  have e1' : (l + 1 = t) = False := by simp; omega
  have e0' : (l = t) = False := by simp; omega
  subst hav
  refine seqL_cons ?_
  refine wp_reg ?_
  simp [h1, h3, e0', e0, e1, e2, e3, e4, e1', e3', idx?, hsl, hi, Addr.add_mk]
  show (seqL _).wp P _ _ w
  refine seqL_cons ?_
  refine wp_reg ?_
  simp [e0', e0, e1, e2, e3, e4]
  refine (hD w ab (i * sz) cur et hst.blk (by omega)).mono ?_
  rintro v w1 ⟨rfl⟩
  show (Ir.reg _).wp P _ _ _
  refine wp_reg ?_
  simp [e0', e0, e1, e2, e3, e4]
  have hE : Ext (fun x => x = ab) w (w.setBlk ab (.cells (setD (i * sz) (S.dst C.toCfg) cur) et (0, 0))) := (Ext.refl (fun x => x = ab) w).setBlk (b := ab) (Or.inr rfl) _
  have hE' : Ext (CB (rdr' R ab) ab) w (w.setBlk ab (.cells (setD (i * sz) (S.dst C.toCfg) cur) et (0, 0))) := hE.mono (fun _ _ h => .inr h)
  refine h _ _ _ ?_ ?_ (setD_size _ _ _) hE' (setD_same P _ _ _ _ hok) (segL_set P _ _ _ _ _ hok hzs hzero) ?_
  · have lo : ∀ y, y < l → ∀ v1 v2 v3 v4 v5 v6 v7 v8, upd (upd (upd (upd (upd (upd (upd (upd f t v1) (t + 1) v2) (t + 2) v3) (l + 4) v4) (t + 3) v5) (t + 4) v6) (t + 5) v7) (l + 5) v8 y = f y := by
      intro y hy v1 v2 v3 v4 v5 v6 v7 v8
      have x1 : ∀ n, (y = t + n) = False := by intro n; simp; omega
      have x2 : (y = t) = False := by simp; omega
      have x3 : ∀ n, (y = l + n) = False := by intro n; simp; omega
      simp [x1, x2, x3]
    exact ⟨by simp [e0'], by omega, hf.v0, (lo 8 (by omega) _ _ _ _ _ _ _ _).trans hf.ver, fun hx => (lo 9 (by omega) _ _ _ _ _ _ _ _).trans (hf.flg hx), hf.flN, (lo C.rs (by have := hf.rsN; omega) _ _ _ _ _ _ _ _).trans hf.rd, (lo 2 (by omega) _ _ _ _ _ _ _ _).trans hf.us, by omega, ⟨hf.rsN.1, by have := hf.rsN; omega⟩⟩
  · exact ⟨setBlk_same hst.blk, by rw [setD_size]; omega, hst.rd.ext hE (fun h => hst.rw_.ne.2.2 h) (fun h => hst.rw_.ne.2.1 h.symm), hst.rw_.ext hE'⟩
  · intro y hy hy2
    have x1 : ∀ n, (y = t + n) = False := by intro n; simp; omega
    have x2 : (y = t) = False := by simp; omega
    have x3 : (y = l + 4) = False := by simp; omega
    have x4 : (y = l + 5) = False := by simp; omega
    simp [x1, x2, x3, x4, e0']
end
end Go.Kg

set_option linter.unusedSimpArgs false
set_option linter.unusedVariables false
set_option linter.unusedSectionVars false
namespace Go.Kg
open Go
section
variable {P : Program} {C : CfgR}
theorem elemOk_spec {sT : Nat} {S : Sch} {z : Array Value} (h : elemOk P C.toCfg sT S = true) (hz : sliZ P sT = some z) : S.chkD (setD 0 (S.dst C.toCfg) z).toList = true := by
  unfold elemOk at h
  rw [hz] at h
  exact h
/-- the body of a loop over structs -/
theorem r_bodyS (ht : TyR P C) {S : Sch} (ihe : SoundR P C S) {R : Rdr} {sT T' PT' df l t k b a pv ab N cap i sz m : Nat} {av : Value} {ver : Int} {fl : Bool} {et : TypeId} {f' : Nat → Value} {w' : World} {cur : Array Value} {rsi : RS} {z : Array Value} (hte : S.tyR P C T' sz 0 = true) (hNe : S.NeedR P C)
    (hsl : sliSz P sT = some sz) (hD : DefRC P C.toCfg sz df S) (hok : defOk P T' sz (S.dst C.toCfg) = true) (hzs : z.size = sz) (hchk : S.chkD (setD 0 (S.dst C.toCfg) z).toList = true) (hlt : l + 6 ≤ t) (hm : (S.genR C T' PT' (l + 5) ⟨l + 6, t + 6, k⟩).2.l = m) (hmt : m ≤ t) (hi : i < N) (hav : av = .slice (some ⟨ab, 0, none⟩) N cap)
    (hf : FrR C R f' pv b a ver fl l) (h1 : f' (l + 1) = av) (h3 : f' (l + 3) = .int .i32 i) (hst : StR C (rdr' R ab) ab 0 (N * sz) w' cur et rsi) (hzero : segL cur (i * sz) sz = z.toList) (Q' : Post)
    (q0 : S.rd ver fl rsi = none → ∀ f'' w'', f'' 6 = R.ev → Ext (CB R ab) w' w'' → Q' .ret f'' w'')
    (q1 : ∀ y rs'', S.rd ver fl rsi = some (y, rs'') → ∀ f'' w'' cur', StR C (rdr' R ab) ab 0 (N * sz) w'' cur' et rs'' → Ext (CB R ab) w' w'' → (∀ j, (j < i * sz ∨ i * sz + sz ≤ j) → cur'[j]? = cur[j]?) → EltS S w'' (RK (rdr' R ab)) (segL cur' (i * sz) sz) y → KeepR f' f'' (l + 4) m t → Q' .normal f'' w'') :
    (seqL (elemR C sT PT' df l t ++ (S.genR C T' PT' (l + 5) ⟨l + 6, t + 6, k⟩).1)).wp P Q' f' w' := by
  have hml := (genR_mono (C := C) S T' PT' (l + 5) ⟨l + 6, t + 6, k⟩).1
  rw [hm] at hml
  simp only at hml
  refine seqL_append ?_
  refine r_elem hsl hD hok hzs hi hav hf h1 h3 hlt hst hzero ?_
  intro f2 w2 cur2 hf2 hst2 hsz2 he2 hsame2 hseg2 hk2
  have hfit := hst.fit
  refine ihe T' PT' (l + 5) ⟨l + 6, t + 6, k⟩ Q' f2 w2 ab (i * sz) sz 0 cur2 et ver fl (rdr' R ab) rsi hte hNe hf2 (by rw [hm]; simp only; omega) hst2 (by rw [hseg2]; exact hchk) ?_ ?_
  · intro hnone f3 w3 h6 he3
    exact q0 hnone f3 w3 h6 (he2.trans he3)
  · intro y rs'' hy f3 w3 cur3 hto hrep
    refine q1 y rs'' hy f3 w3 cur3 ?_ (he2.trans hto.ext) ?_ hrep ?_
    · exact ⟨hto.st.blk, by rw [hto.size, hsz2]; exact hfit, hto.st.rd, hto.st.rw_⟩
    · intro j hj
      rw [hto.same j (by omega)]
      exact hsame2 j hj
    · intro y hy1 hy
      have h4 := hto.keep y hy1
      rw [hm] at h4
      simp only at h4
      rw [h4 (by omega), hk2 y (by omega) (by omega)]
theorem soundR_arrS (ht : TyR P C) (g : Gd) (k o sT : Nat) (nul : Option Nat) (T' PT' sz df : Nat) (S rest : Sch) (ihe : SoundR P C S) (ih : SoundR P C rest) : SoundR P C (.arrS g k o sT nul T' PT' sz df S rest) := by
  intro T PT pv c Q f w b a n lo cc e ver fl R rs hty hN hf hc hs hd h0 h1
  simp only [Sch.tyR, Bool.and_eq_true, beq_iff_eq, decide_eq_true_eq] at hty
  obtain ⟨⟨⟨⟨⟨⟨⟨⟨⟨hnul, hF⟩, hk⟩, hsli⟩, hel⟩, hok⟩, hte⟩, hlo⟩, hn⟩, htr⟩ := hty
  obtain ⟨hsz, z, hz, hzs⟩ := sliOk_spec hsli
  have hchk := elemOk_spec hel hz
  obtain ⟨hNl, hNe, hND, hNs, hNr⟩ := hN
  simp only [Sch.chkD, Bool.and_eq_true] at hd
  have hnil := isNilSli_spec hd.1
  have hn10 := hf.nN
  have hpt := hf.ptrN
  have hhead : headN C nul = 5 + lenIN C + nulN nul + 10 := rfl
  simp only [Sch.genR] at hc h1 ⊢
  generalize ht1 : c.t + gdN g + headN C nul = t1 at hc h1 ⊢
  have hme := genR_mono (C := C) S T' PT' (c.l + 5) ⟨c.l + 6, t1 + 5 + 6, c.k + 2⟩
  have e11 : t1 + 11 = t1 + 5 + 6 := by omega
  rw [e11] at hc h1 ⊢
  generalize hz1 : S.genR C T' PT' (c.l + 5) ⟨c.l + 6, t1 + 5 + 6, c.k + 2⟩ = zz at hc h1 hme ⊢
  obtain ⟨eb, c1⟩ := zz
  simp only at hc h1 hme ⊢
  have hm := (genR_mono (C := C) rest T PT pv ⟨c1.l, c1.t + 5, c1.k⟩).1
  simp only at hm
  have behind : ∀ (f1 : Nat → Value) (w1 : World) (cc1 : Array Value) (rs1 : RS) (A : Option (List S.T)),
      (Sch.rd ver fl (.arrS g k o sT nul T' PT' sz df S rest) rs = (rest.rd ver fl rs1).map fun y => ((A, y.1), y.2)) →
      RdTo C R b a n lo w cc e f c.l c1.l c.t rs1 f1 w1 cc1 → (∀ j, (j < a + lo ∨ a + o + 1 ≤ j) → cc1[j]? = cc[j]?) → ArrFld (EltS S) w1 (RK R) sz (segL cc1 a n) o A →
      (seqL (rest.genR C T PT pv ⟨c1.l, c1.t + 5, c1.k⟩).1).wp P Q f1 w1 := by
    intro f1 w1 cc1 rs1 A hrd hto hsame hfld
    have hd1 : rest.chkD (segL cc1 a n) = true := by
      refine chkD_congr rest htr (fun j hj1 hj2 => ?_) hd.2
      rw [segL_get hj2, segL_get hj2]
      exact hsame _ (by omega)
    refine ih T PT pv _ Q f1 w1 b a n (o + 1) cc1 e ver fl R rs1 htr hNr ((hf.keep hto.keep.keeps (Nat.le_refl _)).up (by simp only; omega)) (by simp only; omega) hto.st hd1 ?_ ?_
    · intro hnone f2 w2 h6 he2
      exact h0 (by rw [hrd, hnone]; rfl) f2 w2 h6 (hto.ext.trans he2)
    · intro y rs2 hy f2 w2 cc2 hto2 hrep2
      refine h1 (A, y) rs2 (by rw [hrd, hy]; rfl) f2 w2 cc2 (hto.trans hto2 (by omega) (by simp only; omega) hm (by simp only; omega)) ⟨?_, hrep2⟩
      exact hfld.move (EltS.ext S) hto2.ext hto.st.rw_.keepK (by rw [segL_get (by omega), segL_get (by omega)]; exact hto2.same _ (.inl (by omega)))
  refine seqL_cons ?_
  refine w_guard ht.c (show f 8 = _ from hf.ver) (show 8 < c.t by omega) (by omega) ?_ ?_
  · intro hon f1 hk1 h11
    have hf1 := hf.keep hk1 (by omega)
    rw [← ht1]
    refine r_list ht hnul (S.rd ver fl) (EltS S) (EltS.ext S) (EltS.mono S) (lo := lo) (m := c1.l) (ver := ver) (fl := fl) (sz := sz) hF hk hsz hz hzs hNl hNe hs hf1 (by omega) (by omega) (by omega) hn hlo hnil ?_ ?_ ?_
    · intro ab N cap et i av f' w' cur rsi hbase hi hav hf' hav' h3 hst hzero Q' q0 q1
      rw [ht1]
      have hb := r_bodyS ht ihe (k := c.k + 2) (t := t1 + 5) (m := c1.l) (cap := cap) (PT' := PT') hte hNs hsz hND hok hzs hchk (by omega) (by rw [hz1]) (by omega) hi hav hf' hav' h3 hst hzero Q' q0 (fun y rs'' hy f'' w'' cur' a1 a2 a3 a4 a5 => q1 y rs'' hy f'' w'' cur' a1 a2 a3 a4 (by rw [ht1]; exact a5))
      rw [hz1] at hb
      exact hb
    · intro hnone f' w' h6 he
      refine h0 ?_ f' w' h6 he
      simp only [Sch.rd, if_pos hon, hnone]
    · intro A rs' hA f' w' cc' av ls hto hsame hav harr hsome hlen helt
      refine behind f' w' cc' rs' A ?_ ?_ hsame ⟨av, ls, hav, harr, hsome, hlen, helt⟩
      · simp only [Sch.rd, if_pos hon, hA]; rfl
      · exact (RdTo.refl (m := c1.l) hs (KeepR.of hk1 (by omega))).trans { hto with keep := fun y h1 hy => hto.keep y h1 (by omega) } (Nat.le_refl _) (Nat.le_refl _) (Nat.le_refl _) (Nat.le_refl c.t)
  · intro hoff f1 hk1 h11
    refine behind f1 w cc rs none ?_ (RdTo.refl hs (KeepR.of hk1 (by omega))) (fun _ _ => rfl) ⟨_, none, hnil, rfl, ⟨rfl, InHeap.nil _⟩, rfl, by simp⟩
    simp only [Sch.rd, hoff, Bool.false_eq_true, if_false]; rfl
theorem segL_sub {c : Array Value} {a n o sz : Nat} (h : o + sz ≤ n) : ((segL c a n).drop o).take sz = segL c (a + o) sz := by
  apply List.ext_getElem?
  intro j
  by_cases hj : j < sz
  · rw [List.getElem?_take, if_pos hj, List.getElem?_drop, segL_get (by omega), segL_get hj, Nat.add_assoc]
  · rw [segL_none (by omega), List.getElem?_take, if_neg hj]
theorem setBlk_self {w : World} {b : Nat} {x : Obj} (h : w.heap[b]? = some x) : w.setBlk b x = w := by
  simp only [World.setBlk]
  have : w.heap.setIfInBounds b x = w.heap := by
    apply Array.ext_getElem?
    intro k
    rw [Array.getElem?_setIfInBounds]
    split
    · rename_i h'; subst h'
      rw [h, if_pos (lt_of_heap h)]
    · rfl
  rw [this]
theorem soundR_sub (ht : TyR P C) (g : Gd) (k o T' PT' sz df : Nat) (S rest : Sch) (ihe : SoundR P C S) (ih : SoundR P C rest) : SoundR P C (.sub g k o T' PT' sz df S rest) := by
  intro T PT pv c Q f w b a n lo cc e ver fl R rs hty hN hf hc hs hd h0 h1
  simp only [Sch.tyR, Bool.and_eq_true, beq_iff_eq, decide_eq_true_eq] at hty
  obtain ⟨⟨⟨⟨⟨hF, hemp⟩, hte⟩, hlo⟩, hn⟩, htr⟩ := hty
  have hemp' : S.dst C.toCfg = [] := List.isEmpty_iff.1 hemp
  obtain ⟨hND, hNs, hNr⟩ := hN
  simp only [Sch.chkD, Bool.and_eq_true] at hd
  have hde := hd.1
  rw [segL_sub hn] at hde
  have hn10 := hf.nN
  have hpt := hf.ptrN
  have hfit := hs.fit
  simp only [Sch.genR] at hc h1 ⊢
  generalize ht1 : c.t + gdN g = t1 at hc h1 ⊢
  have hme := genR_mono (C := C) S T' PT' (c.l + 1) ⟨c.l + 2, t1 + 6, c.k⟩
  have hse : ∀ Q f w b a n lo cc e ver fl R rs, _ := fun Q f w b a n lo cc e ver fl R rs => ihe T' PT' (c.l + 1) ⟨c.l + 2, t1 + 6, c.k⟩ Q f w b a n lo cc e ver fl R rs
  generalize hz1 : S.genR C T' PT' (c.l + 1) ⟨c.l + 2, t1 + 6, c.k⟩ = zz at hc h1 hme hse ⊢
  obtain ⟨eb, c1⟩ := zz
  simp only at hc h1 hme hse ⊢
  have hm := (genR_mono (C := C) rest T PT pv c1).1
  have behind : ∀ (f1 : Nat → Value) (w1 : World) (cc1 : Array Value) (rs1 : RS) (A : S.T),
      (Sch.rd ver fl (.sub g k o T' PT' sz df S rest) rs = (rest.rd ver fl rs1).map fun y => ((A, y.1), y.2)) →
      RdTo C R b a n lo w cc e f c.l c1.l c.t rs1 f1 w1 cc1 → (∀ j, (j < a + lo ∨ a + o + sz ≤ j) → cc1[j]? = cc[j]?) → (fun w1 (cc1 : Array Value) (A : S.T) => S.Rep w1 (RK R) (segL cc1 (a + o) sz) A) w1 cc1 A →
      (seqL (rest.genR C T PT pv c1).1).wp P Q f1 w1 := by
    intro f1 w1 cc1 rs1 A hrd hto hsame hfld
    have hd1 : rest.chkD (segL cc1 a n) = true := by
      refine chkD_congr rest htr (fun j hj1 hj2 => ?_) hd.2
      rw [segL_get hj2, segL_get hj2]
      exact hsame _ (by omega)
    refine ih T PT pv _ Q f1 w1 b a n (o + sz) cc1 e ver fl R rs1 htr hNr ((hf.keep hto.keep.keeps (Nat.le_refl _)).up (by omega)) (by omega) hto.st hd1 ?_ ?_
    · intro hnone f2 w2 h6 he2
      exact h0 (by rw [hrd, hnone]; rfl) f2 w2 h6 (hto.ext.trans he2)
    · intro y rs2 hy f2 w2 cc2 hto2 hrep2
      refine h1 (A, y) rs2 (by rw [hrd, hy]; rfl) f2 w2 cc2 (hto.trans hto2 (by omega) (by omega) hm (by omega)) ⟨?_, hrep2⟩
      rw [segL_sub hn, segL_eq (c := cc1) (fun j hj1 hj2 => hto2.same j (by omega))]
      exact Sch.Rep_ext hto2.ext hto.st.rw_.keepK S hfld
  refine seqL_cons ?_
  refine w_guard ht.c (show f 8 = _ from hf.ver) (show 8 < c.t by omega) (by omega) ?_ ?_
  · intro hon f1 hk1 h11
    have hf1 := hf.keep hk1 (by omega)
    have zl : ∀ m, (c.l = t1 + m) = False := by intro m; simp; omega
    have zl' : (c.l = t1) = False := by simp; omega
    refine seqL_append ?_
    refine seqL_cons (wp_reg ?_)
    simp [addrR, hf1.ptr, hF, Addr.add_mk]
    show (seqL _).wp P _ _ w
    refine seqL_cons (wp_reg ?_)
    simp [zl, zl']
    refine (hND w b (a + o) cc e hs.blk (by omega)).mono ?_
    rintro v w1 rfl
    rw [hemp']
    simp only [setD]
    rw [setBlk_self hs.blk]
    show (Ir.reg _).wp P _ _ _
    refine wp_reg ?_
    simp [zl, zl']
    have up : ∀ z, z < t1 → z ≠ c.l → z ≠ c.l + 1 → ∀ v1 v2 v3 v4 v5 v6 v7 v8, upd (upd (upd (upd (upd (upd (upd (upd f1 t1 v1) (t1 + 1) v2) (t1 + 2) v3) c.l v4) (t1 + 3) v5) (t1 + 4) v6) (t1 + 5) v7) (c.l + 1) v8 z = f1 z := by
      intro z hz hz1 hz2 v1 v2 v3 v4 v5 v6 v7 v8
      have a3 : ∀ n, (z = t1 + n) = False := by intro n; simp; omega
      have a4 : (z = t1) = False := by simp; omega
      simp [a3, a4, hz1, hz2]
    refine hse _ _ w b (a + o) sz 0 cc e ver fl R rs hte hNs ?_ (by omega) ⟨hs.blk, by omega, hs.rd, hs.rw_⟩ hde ?_ ?_
    · refine ⟨by simp [zl, zl'], ⟨by omega, by omega⟩, hf1.v0, ?_, fun hx => ?_, hf1.flN, ?_, ?_, by omega, ⟨hf1.rsN.1, by have := hf1.rsN; omega⟩⟩
      · rw [up 8 (by omega) (by omega) (by omega)]; exact hf1.ver
      · rw [up 9 (by omega) (by omega) (by omega)]; exact hf1.flg hx
      · rw [up C.rs (by have := hf1.rsN; omega) (by have := hf1.rsN; omega) (by have := hf1.rsN; omega)]; exact hf1.rd
      · rw [up 2 (by omega) (by omega) (by omega)]; exact hf1.us
    · intro hnone f3 w3 h6 he3
      exact h0 (by simp only [Sch.rd, if_pos hon, hnone]) f3 w3 h6 he3
    · intro x rs1 hx f3 w3 cc3 hto hrep
      refine behind f3 w3 cc3 rs1 x ?_ ?_ (fun j hj => hto.same j (by omega)) hrep
      · simp only [Sch.rd, if_pos hon, hx]; rfl
      · refine ⟨hto.ext, ⟨hto.st.blk, by rw [hto.size]; exact hfit, hto.st.rd, hto.st.rw_⟩, hto.size, fun j hj => hto.same j (by omega), ?_⟩
        intro z hz1 hz
        rw [hto.keep z hz1 (by omega), up z (by omega) (by omega) (by omega)]
        exact hk1 z (by omega) hz1
  · intro hoff f1 hk1 h11
    refine behind f1 w cc rs S.dfl ?_ (RdTo.refl hs (KeepR.of hk1 (by omega))) (fun _ _ => rfl) (Sch.repD S hde)
    simp only [Sch.rd, hoff, Bool.false_eq_true, if_false]; rfl
/-- A pointer's field stands in a struct's cells. -/
def OptFld (S : Sch) (R : Rdr) (a n o sz : Nat) (w : World) (cc : Array Value) (A : Option S.T) : Prop :=
  ∃ v, (segL cc a n)[o]? = some v ∧ (A = none → v = .pointer none) ∧ ∀ x, A = some x → ∃ b c es, v = .pointer (some ⟨b, c, none⟩) ∧ RK R b ∧ b < w.heap.size ∧ es.length = sz ∧ CellsAt w b c es ∧ S.Rep w (RK R) es x
theorem optOk_spec {T sz : Nat} {S : Sch} (h : optOk P C.toCfg T sz S = true) : ∃ v, zeroOf P T = some v ∧ v.cells.size = sz ∧ S.chkD (setD 0 (S.dst C.toCfg) v.cells).toList = true := by
  unfold optOk at h
  split at h
  · rename_i v hv
    simp only [Bool.and_eq_true, beq_iff_eq] at h
    exact ⟨v, hv, h.1, h.2⟩
  · cases h
theorem soundR_opt (ht : TyR P C) (g : Gd) (k o T' PT' PP sz df : Nat) (S rest : Sch) (ihe : SoundR P C S) (ih : SoundR P C rest) : SoundR P C (.opt g k o T' PT' PP sz df S rest) := by
  intro T PT pv c Q f w b a n lo cc e ver fl R rs hty hN hf hc hs hd h0 h1
  simp only [Sch.tyR, Bool.and_eq_true, beq_iff_eq, decide_eq_true_eq] at hty
  obtain ⟨⟨⟨⟨⟨⟨⟨⟨hF, hk⟩, hk8⟩, hopt⟩, hok⟩, hte⟩, hlo⟩, hn⟩, htr⟩ := hty
  obtain ⟨zv, hzv, hzs, hchk⟩ := optOk_spec hopt
  obtain ⟨hN8, hNe, hND, hNs, hNr⟩ := hN
  simp only [Sch.chkD, Bool.and_eq_true] at hd
  have hnil := isNilPtr_spec hd.1
  have hn10 := hf.nN
  have hpt := hf.ptrN
  have hfit := hs.fit
  simp only [Sch.genR] at hc h1 ⊢
  generalize ht1 : c.t + gdN g = t1 at hc h1 ⊢
  have hme := genR_mono (C := C) S T' PT' (c.l + 2) ⟨c.l + 3, t1 + 17, c.k⟩
  have hse : ∀ Q f w b a n lo cc e ver fl R rs, _ := fun Q f w b a n lo cc e ver fl R rs => ihe T' PT' (c.l + 2) ⟨c.l + 3, t1 + 17, c.k⟩ Q f w b a n lo cc e ver fl R rs
  generalize hz1 : S.genR C T' PT' (c.l + 2) ⟨c.l + 3, t1 + 17, c.k⟩ = zz at hc h1 hme hse ⊢
  obtain ⟨eb, c1⟩ := zz
  simp only at hc h1 hme hse ⊢
  have hm := (genR_mono (C := C) rest T PT pv c1).1
  have behind : ∀ (f1 : Nat → Value) (w1 : World) (cc1 : Array Value) (rs1 : RS) (A : Option S.T),
      (Sch.rd ver fl (.opt g k o T' PT' PP sz df S rest) rs = (rest.rd ver fl rs1).map fun y => ((A, y.1), y.2)) →
      RdTo C R b a n lo w cc e f c.l c1.l c.t rs1 f1 w1 cc1 → (∀ j, (j < a + lo ∨ a + o + 1 ≤ j) → cc1[j]? = cc[j]?) → OptFld S R a n o sz w1 cc1 A →
      (seqL (rest.genR C T PT pv c1).1).wp P Q f1 w1 := by
    intro f1 w1 cc1 rs1 A hrd hto hsame hfld
    have hd1 : rest.chkD (segL cc1 a n) = true := by
      refine chkD_congr rest htr (fun j hj1 hj2 => ?_) hd.2
      rw [segL_get hj2, segL_get hj2]
      exact hsame _ (by omega)
    refine ih T PT pv _ Q f1 w1 b a n (o + 1) cc1 e ver fl R rs1 htr hNr ((hf.keep hto.keep.keeps (Nat.le_refl _)).up (by omega)) (by omega) hto.st hd1 ?_ ?_
    · intro hnone f2 w2 h6 he2
      exact h0 (by rw [hrd, hnone]; rfl) f2 w2 h6 (hto.ext.trans he2)
    · intro y rs2 hy f2 w2 cc2 hto2 hrep2
      refine h1 (A, y) rs2 (by rw [hrd, hy]; rfl) f2 w2 cc2 (hto.trans hto2 (by omega) (by omega) hm (by omega)) ⟨?_, hrep2⟩
      obtain ⟨v, q1, q2, q3⟩ := hfld
      refine ⟨v, ?_, q2, fun x hx => ?_⟩
      · rw [← q1, segL_get (by omega), segL_get (by omega)]
        exact hto2.same _ (.inl (by omega))
      · obtain ⟨b', c', es, p1, p2, p3, p4, p5, p6⟩ := q3 x hx
        exact ⟨b', c', es, p1, p2, Nat.lt_of_lt_of_le p3 hto2.ext.size, p4, CellsAt.ext hto2.ext hto.st.rw_.keepK p5 p2, Sch.Rep_ext hto2.ext hto.st.rw_.keepK S p6⟩
  refine seqL_cons ?_
  refine w_guard ht.c (show f 8 = _ from hf.ver) (show 8 < c.t by omega) (by omega) ?_ ?_
  · intro hon f1 hk1 h11
    have hf1 := hf.keep hk1 (by omega)
    have hD : R.D < w.heap.size := Nat.lt_of_lt_of_le hs.rw_.lt.2.2.1 hs.rw_.lt.2.2.2
    refine seqL_cons ?_
    have hcall := hN8 false (by simp) w R.pb R.D rs hs.rw_.ne.1 hD hs.rd
    refine r_call ht (fun h => by cases h) (x := (Prim.i8.rd false rs).1) (rs' := (Prim.i8.rd false rs).2) hs hf1.rd (by omega) (by omega) hcall ?_
    intro f2 w2 u hu hrep he2 hr2 hk2
    have hs2 := hs.ext1 he2 hr2
    have hul : f2 c.l = .int .i8 (show Int from (Prim.i8.rd false rs).1) := by
      have h1 : f2 c.l = u := by simpa [LocVal] using hu
      have h2 : u = .int .i8 (Prim.i8.rd false rs).1 := hrep
      rw [h1, h2]
    have hf2 : FrR C R f2 pv b a ver fl c.l := hf1.keep (t := c.l) (fun y hy hy1 => hk2 y (by omega) (by omega)) (Nat.le_refl _)
    have zl : ∀ m, (c.l = t1 + m) = False := by intro m; simp; omega
    have zl' : (c.l = t1) = False := by simp; omega
    have hrs := hf1.rsN
    have z7 : ∀ m, (C.rs = t1 + m) = False := by intro m; simp; omega
    have z71 : ∀ m, (C.rs = t1 + 1 + m) = False := by intro m; simp; omega
    have z7' : (C.rs = t1 + 1) = False := by simp; omega
    have absent : ∀ f' : Nat → Value, (∀ y, y < t1 → y ≠ c.l → f' y = f1 y) → optRd (S.rd ver fl) rs = some (none, (Prim.i8.rd false rs).2) → (seqL (rest.genR C T PT pv c1).1).wp P Q f' w2 := by
      intro f' hk' hrd
      refine behind f' w2 cc (Prim.i8.rd false rs).2 none ?_ ?_ (fun _ _ => rfl) ⟨_, hnil, fun _ => rfl, fun x hx => by cases hx⟩
      · simp only [Sch.rd, if_pos hon, hrd]; rfl
      · refine RdTo.read hs he2 hr2 (fun z hz1 hz => ?_)
        rw [hk' z (by omega) (by omega)]; exact hk1 z (by omega) hz1
    show (presI C c.l (t1 + 1) _).wp P _ f2 w2
    refine wp_seqI (wp_reg ?_)
    generalize hnn : (show Int from (Prim.i8.rd false rs).1) = nn at *
    have upA : ∀ y, y < t1 → y ≠ c.l → ∀ v1 v2 v3 v5, upd (upd (upd (upd f2 (t1 + 1) v1) (t1 + 1 + 1) v2) (t1 + 1 + 2) v3) (t1 + 1 + 4) v5 y = f1 y := by
      intro y hy hy1 v1 v2 v3 v5
      have a3 : ∀ n, (y = t1 + n) = False := by intro n; simp; omega
      have a4 : ∀ n, (y = t1 + 1 + n) = False := by intro n; simp; omega
      simp [a3, a4]
      exact hk2 y hy hy1
    have upB : ∀ y, y < t1 → y ≠ c.l → ∀ v1 v2 v3 v4 v5, upd (upd (upd (upd (upd f2 (t1 + 1) v1) (t1 + 1 + 1) v2) (t1 + 1 + 2) v3) (t1 + 1 + 3) v4) (t1 + 1 + 4) v5 y = f1 y := by
      intro y hy hy1 v1 v2 v3 v4 v5
      have a3 : ∀ n, (y = t1 + n) = False := by intro n; simp; omega
      have a4 : ∀ n, (y = t1 + 1 + n) = False := by intro n; simp; omega
      simp [a3, a4]
      exact hk2 y hy hy1
    by_cases hm1 : nn = -1
    · subst hm1
      simp [hul, zl, zl', bin?]
      refine .inr ⟨by simp, absent _ (fun y hy hy1 => ?_) ?_⟩
      · first | exact upA y hy hy1 _ _ _ _ | exact upB y hy hy1 _ _ _ _ _
      · unfold optRd
        have hnn' : (Prim.i8.rd false rs).1 = (show Int from -1) := hnn
        split
        · rfl
        · first | rfl | rw [if_pos hnn']
    · have hr7 : f2 C.rs = .pointer (some ⟨R.pb, 0, none⟩) := hf2.rd
      simp [hul, zl, zl', z7, z71, z7', bin?, hm1, hr7]
      refine (hNe.ok w2 R.pb R.D _ hr2).mono ?_
      rintro v w3 ⟨rfl, hw3⟩
      have hw3' := hw3.symm
      subst hw3'
      cases hb : (Prim.i8.rd false rs).2.bad
      · refine .inl ⟨by simp, ?_⟩
        generalize hf3 : upd (upd (upd (upd (upd f2 (t1 + 1) _) (t1 + 1 + 1) _) (t1 + 1 + 2) _) (t1 + 1 + 3) _) (t1 + 1 + 4) _ = f3
        have k3 : ∀ y, y < t1 → y ≠ c.l → f3 y = f1 y := fun y hy hy1 => by subst hf3; exact upB y hy hy1 _ _ _ _ _
        have p3 : f3 pv = .pointer (some ⟨b, a, none⟩) := (k3 pv (by omega) (by omega)).trans hf1.ptr
        refine seqL_append ?_
        have hb1 := hs.rw_.lt
        have hg : C.E.g_kbin_ErrNotEnoughData < w.heap.size := World.block_lt_of_cell? w _ hs.rw_.err
        have hsz2 := he2.size
        have zp : ∀ m, (pv = t1 + m) = False := by intro m; simp; omega
        have zp1 : ∀ m, (pv = c.l + m) = False := by intro m; simp; omega
        have zp6 : ∀ m, (pv = t1 + 6 + m) = False := by intro m; simp; omega
        have zl16 : ∀ m, (c.l + 1 = t1 + 6 + m) = False := by intro m; simp; omega
        have zl26 : ∀ m, (c.l + 2 = t1 + 6 + m) = False := by intro m; simp; omega
        have zp' : (pv = t1 + 6) = False := by simp; omega
        have zl1 : ∀ m, (c.l + 1 = t1 + m) = False := by intro m; simp; omega
        have zl2 : ∀ m, (c.l + 2 = t1 + m) = False := by intro m; simp; omega
        have hEA : Ext none1 w2 (w2.alloc (.cells zv.cells T')) := (Ext.refl none1 w2).alloc _
        have hbA : (w2.alloc (.cells zv.cells T')).heap[b]? = some (.cells cc e (0, 0)) := hEA.old hs2.blk (fun h => h)
        have haA : (w2.alloc (.cells zv.cells T')).heap[w2.heap.size]? = some (.cells zv.cells T' (0, 0)) := alloc_new
        refine seqL_cons (wp_reg ?_)
        simp [p3, zp, zp6, zp', hzv, hF, Addr.add_mk, store_scl (isScl_spec hk), Value.oneCell', put1K_blk hbA]
        refine ⟨by omega, ?_⟩
        generalize hab : w2.heap.size = ab at *
        generalize hccB : cc.setIfInBounds (a + o) (.pointer (some ⟨ab, 0, none⟩)) = ccB
        have hszB : ccB.size = cc.size := by subst hccB; simp
        generalize hwB : (w2.alloc (.cells zv.cells T')).setBlk b (.cells ccB e (0, 0)) = wB
        have hnab : b ≠ ab := by omega
        have hbB : wB.heap[b]? = some (.cells ccB e (0, 0)) := by subst hwB; exact setBlk_same hbA
        have hEA' : Ext (fun x => x = b) w2 (w2.alloc (.cells zv.cells T')) := hEA.mono (fun _ _ h => h.elim)
        have hEB : Ext (fun x => x = b) w2 wB := by subst hwB; exact hEA'.setBlk (b := b) (Or.inr rfl) _
        have haB : wB.heap[ab]? = some (.cells zv.cells T' (0, 0)) := by
          subst hwB
          exact ((Ext.refl (fun x => x = b) (w2.alloc (.cells zv.cells T'))).setBlk (b := b) (Or.inr rfl) _).old haA (fun h => hnab h.symm)
        have cB : wB.cell? ⟨b, a + o, none⟩ = some (.pointer (some ⟨ab, 0, none⟩)) := by
          rw [cell_of_blk hbB, ← hccB]
          simp [Array.getElem?_setIfInBounds]; omega
        show (seqL _).wp P _ _ wB
        refine seqL_cons (wp_reg ?_)
        simp [addrR, p3, zp, zp1, zp6, zp', hF, Addr.add_mk, ld_scl (isScl_spec hk), cB]
        show (seqL _).wp P _ _ wB
        refine seqL_cons (wp_reg ?_)
        simp [zl1, zl16]
        refine (hND wB ab 0 zv.cells T' haB (by omega)).mono ?_
        rintro v w3 rfl
        generalize hcur : setD 0 (S.dst C.toCfg) zv.cells = cur
        have hcurs : cur.size = sz := by subst hcur; rw [setD_size]; exact hzs
        have hchk' : S.chkD cur.toList = true := by subst hcur; exact hchk
        generalize hwC : wB.setBlk ab (.cells cur T' (0, 0)) = wC
        have haC : wC.heap[ab]? = some (.cells cur T' (0, 0)) := by subst hwC; exact setBlk_same haB
        have hEC : Ext (fun x => x = ab) wB wC := by subst hwC; exact (Ext.refl (fun x => x = ab) wB).setBlk (b := ab) (Or.inr rfl) _
        have hbC : wC.heap[b]? = some (.cells ccB e (0, 0)) := hEC.old hbB hnab
        have hE2C : Ext (fun x => x = b) w2 wC := hEB.trans' hEC (fun x hx hx2 => by rw [hab] at hx; omega)
        show (Ir.reg _).wp P _ _ wC
        refine wp_reg ?_
        simp [zl1, zl2, zl16, zl26]
        have hseg : segL cur 0 sz = cur.toList := by rw [← hcurs]; simp only [segL, List.drop_zero]; exact List.take_of_length_le (by simp)
        have hrC : RdAt C.E.tRd wC R.pb R.D (Prim.i8.rd false rs).2 := hr2.ext hE2C (fun h => hs.rw_.ne.2.2 h) (fun h => hs.rw_.ne.2.1 h.symm)
        have hstC : StR C (rdr' R ab) ab 0 sz wC cur T' (Prim.i8.rd false rs).2 := by
          refine ⟨haC, by omega, hrC, ⟨⟨?_, ?_, ?_, ?_⟩, ⟨hs.rw_.ne.1, ?_, ?_⟩, ?_, ⟨hs.rw_.errN.1, ?_⟩⟩⟩
          · show R.pb < ab + 1; omega
          · show ab < ab + 1; omega
          · show R.D < ab + 1; omega
          · exact lt_of_heap haC
          · show ab ≠ R.D; omega
          · show R.pb ≠ ab; omega
          · exact hE2C.cell hs2.rw_.err (fun h => hs.rw_.errN.2 h)
          · omega
        have tot : ∀ w', Ext (CB R ab) wC w' → Ext (CB R b) w w' := by
          intro w' h
          have h02 : Ext (CB R b) w wC := (he2.mono (fun _ _ h => .inl h)).trans (hE2C.mono (fun _ _ h => .inr h))
          exact h02.trans' (E := CB R b) h (fun x hx hc => by
            rcases hc with h | h
            · exact .inl h
            · omega) (fun x hx hc => hc)
        suffices H : ∀ F : Nat → Value, F (c.l + 2) = .pointer (some ⟨ab, 0, none⟩) → (∀ z, z < t1 → z ≠ c.l + 1 → z ≠ c.l + 2 → F z = f3 z) → (seqL eb).wp P (thenF ((seqL (Sch.genR C T PT pv rest c1).1).wp P Q) Q) F wC by
          refine H _ ?_ ?_
          · simp [zl1, zl2, zl16, zl26, zl]
          · intro z hz1 hz2 hz3
            have a3 : ∀ n, (z = t1 + n) = False := by intro n; simp; omega
            have a6 : ∀ n, (z = t1 + 6 + n) = False := by intro n; simp; omega
            have a6' : (z = t1 + 6) = False := by simp; omega
            have a7 : ∀ n, (z = t1 + 6 + 4 + n) = False := by intro n; simp; omega
            simp [a3, a6, a6', a7, hz2, hz3]
        intro F hF2 hFk
        refine hse _ _ wC ab 0 sz 0 cur T' ver fl (rdr' R ab) (Prim.i8.rd false rs).2 hte hNs ?_ (by omega) hstC (by rw [hseg]; exact hchk') ?_ ?_
        · have lo : ∀ y, y < c.l → F y = f3 y := fun y hy => hFk y (by omega) (by omega) (by omega)
          refine ⟨hF2, ⟨by omega, by omega⟩, hf1.v0, ?_, fun hx => ?_, hf1.flN, ?_, ?_, by omega, ⟨hf1.rsN.1, by have := hf1.rsN; omega⟩⟩
          · rw [lo 8 (by omega), k3 8 (by omega) (by omega)]; exact hf1.ver
          · rw [lo 9 (by omega), k3 9 (by omega) (by omega)]; exact hf1.flg hx
          · rw [lo C.rs (by omega), k3 C.rs (by omega) (by omega)]; exact hf1.rd
          · rw [lo 2 (by omega), k3 2 (by omega) (by omega)]; exact hf1.us
        · intro hnone f4 w4 h6 he4
          refine h0 ?_ f4 w4 h6 (tot w4 he4)
          have hrd : optRd (S.rd ver fl) rs = none := by
            unfold optRd
            rw [hb]
            simp only [Bool.false_eq_true, if_false]
            rw [if_neg (by intro h; exact hm1 (hnn.symm.trans h)), hnone]; rfl
          simp only [Sch.rd, if_pos hon, hrd]
        · intro x rs1 hx f4 w4 cc4 hto hrep
          have hrd : optRd (S.rd ver fl) rs = some (some x, rs1) := by
            unfold optRd
            rw [hb]
            simp only [Bool.false_eq_true, if_false]
            rw [if_neg (by intro h; exact hm1 (hnn.symm.trans h)), hx]; rfl
          have hb4 : w4.heap[b]? = some (.cells ccB e (0, 0)) := hto.ext.old hbC (by
            rintro (h | h)
            · exact hs.rw_.ne.2.2 h.symm
            · exact hnab h)
          have hext := tot w4 hto.ext
          refine behind f4 w4 ccB rs1 (some x) ?_ ?_ ?_ ?_
          · simp only [Sch.rd, if_pos hon, hrd]; rfl
          · refine ⟨hext, ⟨hb4, by omega, hto.st.rd, hs.rw_.ext hext⟩, hszB, ?_, ?_⟩
            · intro j hj
              rw [← hccB, Array.getElem?_setIfInBounds, if_neg (by omega)]
            · intro z hz1 hz
              rw [hto.keep z hz1 (by omega)]
              rw [hFk z (by omega) (by omega) (by omega), k3 z (by omega) (by omega)]
              exact hk1 z (by omega) hz1
          · intro j hj
            rw [← hccB, Array.getElem?_setIfInBounds, if_neg (by omega)]
          · refine ⟨.pointer (some ⟨ab, 0, none⟩), ?_, fun h => (by cases h), fun y hy => ?_⟩
            · rw [segL_get (by omega), ← hccB, Array.getElem?_setIfInBounds, if_pos rfl]
              simp; omega
            · cases hy
              refine ⟨ab, 0, segL cc4 0 sz, rfl, .inr (by omega), lt_of_heap hto.st.blk, segL_len (by have := hto.st.fit; omega), ?_, Sch.Rep_mono (fun k hk => ?_) S hrep⟩
              · have := cellsAt_seg (a := 0) (n := sz) hto.st.blk
                exact this
              · rcases hk with h | h
                · exact .inl h
                · exact .inr (by have h' : ab + 1 ≤ k := h; omega)
      · refine .inr ⟨by simp, absent _ (fun y hy hy1 => ?_) ?_⟩
        · exact upB y hy hy1 _ _ _ _ _
        · unfold optRd
          rw [if_pos hb]
  · intro hoff f1 hk1 h11
    refine behind f1 w cc rs none ?_ (RdTo.refl hs (KeepR.of hk1 (by omega))) (fun _ _ => rfl) ⟨_, hnil, fun _ => rfl, fun x hx => by cases hx⟩
    simp only [Sch.rd, hoff, Bool.false_eq_true, if_false]; rfl
theorem soundR (ht : TyR P C) : ∀ S : Sch, SoundR P C S := by
  intro S
  induction S with
  | fin => exact soundR_fin
  | tags k o => exact soundR_tags ht k o
  | prim g k o p en d rest ih => exact soundR_prim ht g k o p en d rest ih
  | arrP g k o sT nul p rest ih => exact soundR_arrP ht g k o sT nul p rest ih
  | arrS g k o sT nul T PT sz df e rest ihe ih => exact soundR_arrS ht g k o sT nul T PT sz df e rest ihe ih
  | sub g k o T PT sz df e rest ihe ih => exact soundR_sub ht g k o T PT sz df e rest ihe ih
  | opt g k o T PT PP sz df e rest ihe ih => exact soundR_opt ht g k o T PT PP sz df e rest ihe ih
end
end Go.Kg

set_option linter.unusedSimpArgs false
set_option linter.unusedVariables false
set_option linter.unusedSectionVars false
namespace Go.Kg
open Go
/-- a reader's cells -/
structure TyRb (P : Program) (E : Env) : Prop where
  z : zeroOf P E.tRd = some (.agg #[.slice none 0 0, .bool false])
  pl : places P E.tRd = some [(0, 1), (1, 1)]
  k : kindOf P E.tRd = .agg 2
structure MsgRk (P : Program) (C : CfgR) (T PT flex df n : Nat) (S : Sch) (nl : Nat) : Prop where
  rs7 : C.rs = 7
  ty : TyR P C
  rb : TyRb P C.E
  tyR : S.tyR P C T n 1 = true
  need : S.NeedR P C
  endc : EndC0 P C
  dfl : DefRC P C.toCfg n df S
  f0 : fldOff P T 0 = some 0
  nl : (S.genR C T PT (if C.fx then 10 else 9) (ctR C false nl)).2.l ≤ nl
theorem bld_rd {P : Program} {E : Env} (ht : TyRb P E) {sv : Value} (h : sv.cells = #[sv]) : bld? P E.tRd [(0, sv)] = some (.agg #[sv, .bool false]) := by
  have hz : (Value.agg #[.slice none 0 0, .bool false]).cells = #[.slice none 0 0, .bool false] := rfl
  simp only [bld?, ht.z, ht.pl, Instr.fill, hz]
  simp [h]
theorem bytes_one {w : World} {K : Nat → Prop} {v : Value} {s : List UInt8} (h : BytesAt w K v s) : v.oneCell' = true := by
  obtain ⟨a, c, rfl, _⟩ := h.len; rfl
def ReadPost (C : CfgR) (S : Sch) (flex b a n D : Nat) (w : World) (cc : Array Value) (e : TypeId) (ver : Int) (ev : Value) (rs : RS) (v : Value) (w' : World) : Prop :=
  Ext (· = b) w w' ∧ (S.rd ver (flagAt C.toCfg flex ver) rs = none → v = ev) ∧
  ∀ x rs', S.rd ver (flagAt C.toCfg flex ver) rs = some (x, rs') → v = (if rs'.bad then ev else .nilIface) ∧
    ∃ cc', w'.heap[b]? = some (.cells cc' e (0, 0)) ∧ cc'.size = cc.size ∧ (∀ j, (j < a + 1 ∨ a + n ≤ j) → cc'[j]? = cc[j]?) ∧ S.Rep w' (fun k => k = D ∨ w.heap.size < k) (segL cc' a n) x
theorem readFrom {P : Program} {C : CfgR} {T PT flex df n nl nt g : Nat} {S : Sch} (hm : MsgRk P C T PT flex df n S nl) (hnt : 3 ≤ nt) (hI : FnIs P g nt [.t 6] (msgR C T PT flex df false S nl)) {w : World} {b a D : Nat} {cc : Array Value} {e : TypeId} {sv : Value} {src : List UInt8} {ver : Int} {ev : Value}
    (hb : w.heap[b]? = some (.cells cc e (0, 0))) (hfit : a + n ≤ cc.size) (hver : (setD a (S.dst C.toCfg) cc)[a]? = some (.int .i16 ver)) (hchk : S.chkD (segL (setD a (S.dst C.toCfg) cc) a n) = true) (hsrc : BytesAt w (· = D) sv src) (hD : D < w.heap.size) (hbD : b ≠ D)
    (herr : w.cell? ⟨C.E.g_kbin_ErrNotEnoughData, 0, none⟩ = some ev) (hgb : C.E.g_kbin_ErrNotEnoughData ≠ b) (hv0 : 0 ≤ ver) :
    Ret P g #[.pointer (some ⟨b, a, none⟩), sv, .bool false] w fun v w' => ReadPost C S flex b a n D w (setD a (S.dst C.toCfg) cc) e ver ev ⟨src, false, nonNil sv⟩ v w' := by
  obtain ⟨hrs, ht, hrb, htyR, hN, hE, hdef, hf0, hnl⟩ := hm
  have hlt := lt_of_heap hb
  have hl7 := (genR_mono (C := C) S T PT (if C.fx then 10 else 9) (ctR C false nl)).1
  have q6 : 10 ≤ (ctR C false nl).l := by simp only [ctR]; split <;> omega
  have q7 : C.fx = true → 11 ≤ (ctR C false nl).l := by intro h; simp [ctR, h]
  have qt : nl + 10 ≤ (ctR C false nl).t := by simp [ctR]; split <;> omega
  have hnl10 : 10 ≤ nl := by omega
  refine hI.ret (args := [_, _, _]) hnt ?_
  generalize hccD : setD a (S.dst C.toCfg) cc = ccD at *
  have hszD : ccD.size = cc.size := by subst hccD; exact setD_size _ _ _
  have hsv1 := bytes_one hsrc
  have hgw : C.E.g_kbin_ErrNotEnoughData < w.heap.size := World.block_lt_of_cell? w _ herr
  generalize hR : (⟨w.heap.size, D, w.heap.size + 1, ev⟩ : Rdr) = R
  have rpb : R.pb = w.heap.size := by subst hR; rfl
  have rD : R.D = D := by subst hR; rfl
  have rbase : R.base = w.heap.size + 1 := by subst hR; rfl
  have rev : R.ev = ev := by subst hR; rfl
  -- behind the head
  have behind : ∀ (f : Nat → Value) (w1 : World), Ext (· = b) w w1 → StR C R b a n w1 ccD e ⟨src, false, nonNil sv⟩ → f (if C.fx then 10 else 9) = .pointer (some ⟨b, a, none⟩) → f 2 = .bool false → f 7 = .pointer (some ⟨w.heap.size, 0, none⟩) → f 8 = .int .i16 ver → (C.fx = true → f 9 = .bool (flagAt C.toCfg flex ver)) →
      (seqL ((S.genR C T PT (if C.fx then 10 else 9) (ctR C false nl)).1 ++ completeI C (S.genR C T PT (if C.fx then 10 else 9) (ctR C false nl)).2.t)).wp P (retPost P [.t 6] fun v w' => ReadPost C S flex b a n D w ccD e ver ev ⟨src, false, nonNil sv⟩ v w') f w1 := by
    intro f w1 he1 hst fpv f2 f7 f8 f9
    have tot : ∀ w', Ext (CB R b) w1 w' → Ext (· = b) w w' := by
      intro w' h
      refine he1.trans' h ?_
      rintro x hx (h | h)
      · rw [rpb] at h; omega
      · exact h
    refine seqL_append ?_
    refine soundR ht S T PT _ (ctR C false nl) _ f w1 b a n 1 ccD e ver (flagAt C.toCfg flex ver) R ⟨src, false, nonNil sv⟩ htyR hN ?_ (by omega) hst hchk ?_ ?_
    · refine ⟨fpv, ?_, fun _ => hv0, f8, f9, fun hx => by simp [flagAt, hx], by rw [hrs, rpb]; exact f7, f2, q6, ⟨by omega, by omega⟩⟩
      split
      · rename_i hx; exact ⟨by omega, by have := q7 hx; omega⟩
      · exact ⟨by omega, by omega⟩
    · intro hnone f' w' h6 he
      show retPost P [.t 6] (fun v w' => ReadPost C S flex b a n D w ccD e ver ev ⟨src, false, nonNil sv⟩ v w') .ret f' w'
      simp [h6, rev]
      exact ⟨tot w' he, fun _ => rfl, fun x rs' h => by rw [hnone] at h; cases h⟩
    · intro x rs' hx f' w' cc' hto hrep
      have k7 : f' C.rs = .pointer (some ⟨R.pb, 0, none⟩) := by rw [hrs, hto.keep 7 (by omega) (.inl (by omega)), rpb]; exact f7
      show (seqL (completeI C _)).wp P _ f' w'
      refine r_complete hE hto.st k7 ?_
      intro f'' h6
      show retPost P [.t 6] (fun v w' => ReadPost C S flex b a n D w ccD e ver ev ⟨src, false, nonNil sv⟩ v w') .ret f'' w'
      simp [h6, rev]
      refine ⟨tot w' hto.ext, fun h => (by rw [hx] at h; cases h), fun x2 rs2 h2 => ?_⟩
      rw [hx] at h2
      cases h2
      refine ⟨rfl, cc', hto.st.blk, hto.size, hto.same, Sch.Rep_mono (fun k hk => ?_) S hrep⟩
      rcases hk with h | h
      · exact .inl (by rw [← rD]; exact h)
      · exact .inr (by rw [rbase] at h; omega)
  -- the head
  have n0 : ∀ k, (0 = nl + k) = False := by intro k; simp; omega
  have n1 : ∀ k, (1 = nl + k) = False := by intro k; simp; omega
  have n2 : ∀ k, (2 = nl + k) = False := by intro k; simp; omega
  have n6 : ∀ k, (6 = nl + k) = False := by intro k; simp; omega
  have n7 : ∀ k, (7 = nl + k) = False := by intro k; simp; omega
  have n8 : ∀ k, (8 = nl + k) = False := by intro k; simp; omega
  have n9 : ∀ k, (9 = nl + k) = False := by intro k; simp; omega
  have n0' : (0 = nl) = False := by simp; omega
  have n1' : (1 = nl) = False := by simp; omega
  have n2' : (2 = nl) = False := by simp; omega
  have n7' : (7 = nl) = False := by simp; omega
  have n8' : (8 = nl) = False := by simp; omega
  have n9' : (9 = nl) = False := by simp; omega
  have m0 : (nl = 0) = False := by simp; omega
  have m1 : (nl = 1) = False := by simp; omega
  have m2 : (nl = 2) = False := by simp; omega
  have m3 : (nl = 3) = False := by simp; omega
  have m4 : (nl = 4) = False := by simp; omega
  have m5 : (nl = 5) = False := by simp; omega
  have m6 : (nl = 6) = False := by simp; omega
  have m7 : (nl = 7) = False := by simp; omega
  have m8 : (nl = 8) = False := by simp; omega
  have m9 : (nl = 9) = False := by simp; omega
  have kI16 : kindOf P C.E.tI16 = .scl := ht.c.kI16
  -- the world behind the head
  generalize hw1 : w.setBlk b (.cells ccD e (0, 0)) = w1
  have hw1s : w1.heap.size = w.heap.size := by subst hw1; simp
  have hbw1 : w1.heap[b]? = some (.cells ccD e (0, 0)) := by subst hw1; exact setBlk_same hb
  have hE1 : Ext (fun k => k = b) w w1 := by subst hw1; exact (Ext.refl (fun k => k = b) w).setBlk (b := b) (Or.inr rfl) _
  generalize hw2 : (w1.alloc (.cells #[.slice none 0 0, .bool false] C.E.tRd)).setBlk w1.heap.size (.cells #[sv, .bool false] C.E.tRd (0, 0)) = w2
  have hE2 : Ext none1 w1 w2 := by subst hw2; exact ((Ext.refl none1 w1).alloc _).setBlk (.inl (Nat.le_refl _)) _
  have hpb2 : w2.heap[w.heap.size]? = some (.cells #[sv, .bool false] C.E.tRd (0, 0)) := by subst hw2; rw [← hw1s]; exact setBlk_same alloc_new
  have hbw2 : w2.heap[b]? = some (.cells ccD e (0, 0)) := hE2.old hbw1 (fun h => h)
  have hE12 : Ext (fun k => k = b) w w2 := hE1.trans (hE2.mono (fun _ _ h => h.elim))
  have hst : StR C R b a n w2 ccD e ⟨src, false, nonNil sv⟩ := by
    refine ⟨hbw2, by omega, ?_, ⟨⟨?_, ?_, ?_, ?_⟩, ⟨?_, ?_, ?_⟩, ?_, ⟨?_, ?_⟩⟩⟩
    · rw [rpb, rD]
      exact ⟨sv, hpb2, hsrc.ext hE12 (by rintro k _ rfl h; exact hbD h.symm), rfl⟩
    · rw [rpb, rbase]; omega
    · rw [rbase]; omega
    · rw [rD, rbase]; omega
    · rw [rbase]; exact lt_of_heap hpb2
    · rw [rpb, rD]; omega
    · rw [rD]; exact hbD
    · rw [rpb]; omega
    · rw [rev]; exact hE12.cell herr (fun h => hgb h)
    · rw [rpb]; omega
    · exact hgb
  have cv : w2.cell? ⟨b, a, none⟩ = some (.int .i16 ver) := by rw [cell_of_blk hbw2]; exact hver
  have key : ∀ (fl : List Ir) (pv t' : Nat), pv = (if C.fx then 10 else 9) → t' = nl + (if C.fx then 12 else 9) → (if C.fx then [Ir.reg [⟨none, some (nl + 9), .move (.tmp 8), C.E.tI16⟩, ⟨none, some (nl + 10), .binOp .geq C.E.tI16 (.tmp (nl + 9)) (.const (.int .i16 flex)) C.E.tI16, C.E.tB⟩, ⟨none, some 9, .assign (.tmp (nl + 10)), C.E.tB⟩],
      .reg [⟨none, some (nl + 11), .move (.tmp 9), C.E.tB⟩]] else []) = fl →
      (seqL ([.reg [⟨none, some 6, .assign (.const .nilIface), C.E.tErr⟩],
    .reg [⟨none, some nl, .move (.tmp 0), PT⟩, ⟨none, some (nl + 1), .call { callee := .value (.func df), args := #[.tmp nl], argTypes := #[PT] }, C.E.tNil⟩],
    .reg [⟨none, some (nl + 2), .move (.tmp 1), C.E.tBs⟩, ⟨none, some (nl + 3), .build C.E.tRd #[(0, .tmp (nl + 2))], C.E.tRd⟩, ⟨none, some 7, .alloc C.E.tRd, C.E.tNil⟩, ⟨none, none, .store C.E.tRd (.tmp 7) (.tmp (nl + 3)), C.E.tNil⟩],
    .reg (addrR C.toCfg T PT 0 0 (nl + 4) ++ [⟨none, some (nl + 7), .load C.E.tI16 (.tmp (nl + 6)), C.E.tI16⟩, ⟨none, some 8, .assign (.tmp (nl + 7)), C.E.tI16⟩]),
    .reg [⟨none, some (nl + 8), .move (.tmp 8), C.E.tI16⟩]] ++ (fl ++ ([.reg [⟨none, some t', .move (.tmp 0), PT⟩, ⟨none, some pv, .assign (.tmp t'), PT⟩]] ++ ((S.genR C T PT (if C.fx then 10 else 9) (ctR C false nl)).1 ++ completeI C (S.genR C T PT (if C.fx then 10 else 9) (ctR C false nl)).2.t))))).wp P
        (retPost P [.t 6] fun v w' => ReadPost C S flex b a n D w ccD e ver ev ⟨src, false, nonNil sv⟩ v w') (frame0 [.pointer (some ⟨b, a, none⟩), sv, .bool false]) w := by
    intro fl pv t' hpv ht' hfl
    simp only [List.cons_append, List.nil_append]
    refine seqL_cons (wp_reg ?_)
    simp
    refine seqL_cons (wp_reg ?_)
    simp
    refine (hdef w b a cc e hb hfit).mono ?_
    rintro v w1' ⟨rfl⟩
    rw [hccD, hw1]
    refine seqL_cons (wp_reg ?_)
    simp [n0, n0', n1, n1', n2, n2', n6, n7, n7', n8, n8', n9, n9', m0, m1, m2, m3, m4, m5, m6, m7, m8, m9, bld_rd hrb (cells_one hsv1), hrb.z, Value.cells, store_agg hrb.k, putK_blk alloc_new, hsv1]
    have hov : over #[.slice none 0 0, .bool false] 0 [sv, .bool false] = #[sv, .bool false] := by simp [over]
    rw [hov, hw2]
    refine ⟨by simp only [allOne, hsv1, Bool.true_and]; rfl, ?_⟩
    show (seqL _).wp P _ _ w2
    refine seqL_cons (wp_reg ?_)
    simp [n0, n0', n1, n1', n2, n2', n6, n7, n7', n8, n8', n9, n9', m0, m1, m2, m3, m4, m5, m6, m7, m8, m9, addrR, hf0, Addr.add_mk, ld_scl kI16, cv]
    refine seqL_cons (wp_reg ?_)
    simp [n0, n0', n1, n1', n2, n2', n6, n7, n7', n8, n8', n9, n9', m0, m1, m2, m3, m4, m5, m6, m7, m8, m9]
    refine seqL_append ?_
    have e1w : w1.heap.size = w.heap.size := hw1s
    by_cases hx : C.fx = true
    · rw [if_pos hx] at hfl
      subst hfl
      rw [if_pos hx] at hpv ht'
      subst hpv
      subst ht'
      refine seqL_cons (wp_reg ?_)
      simp [n0, n0', n1, n1', n2, n2', n6, n7, n7', n8, n8', n9, n9', m0, m1, m2, m3, m4, m5, m6, m7, m8, m9]
      show (Ir.reg _).wp P _ _ _
      refine wp_reg ?_
      simp [n0, n0', n1, n1', n2, n2', n6, n7, n7', n8, n8', n9, n9', m0, m1, m2, m3, m4, m5, m6, m7, m8, m9]
      refine seqL_cons (wp_reg ?_)
      simp [n0, n0', n1, n1', n2, n2', n6, n7, n7', n8, n8', n9, n9', m0, m1, m2, m3, m4, m5, m6, m7, m8, m9]
      refine behind _ w2 hE12 hst ?_ ?_ ?_ ?_ ?_
      · simp [n0, n0', n1, n1', n2, n2', n6, n7, n7', n8, n8', n9, n9', m0, m1, m2, m3, m4, m5, m6, m7, m8, m9, hx]
      · simp [n0, n0', n1, n1', n2, n2', n6, n7, n7', n8, n8', n9, n9', m0, m1, m2, m3, m4, m5, m6, m7, m8, m9]
      · simp [n0, n0', n1, n1', n2, n2', n6, n7, n7', n8, n8', n9, n9', m0, m1, m2, m3, m4, m5, m6, m7, m8, m9, e1w]
      · simp [n0, n0', n1, n1', n2, n2', n6, n7, n7', n8, n8', n9, n9', m0, m1, m2, m3, m4, m5, m6, m7, m8, m9]
      · intro _; simp [n0, n0', n1, n1', n2, n2', n6, n7, n7', n8, n8', n9, n9', m0, m1, m2, m3, m4, m5, m6, m7, m8, m9, flagAt, hx]
    · rw [if_neg hx] at hfl
      subst hfl
      rw [if_neg hx] at hpv ht'
      subst hpv
      subst ht'
      show (seqL _).wp P _ _ w2
      refine seqL_cons (wp_reg ?_)
      simp [n0, n0', n1, n1', n2, n2', n6, n7, n7', n8, n8', n9, n9', m0, m1, m2, m3, m4, m5, m6, m7, m8, m9]
      refine behind _ w2 hE12 hst ?_ ?_ ?_ ?_ ?_
      · simp [n0, n0', n1, n1', n2, n2', n6, n7, n7', n8, n8', n9, n9', m0, m1, m2, m3, m4, m5, m6, m7, m8, m9, hx]
      · simp [n0, n0', n1, n1', n2, n2', n6, n7, n7', n8, n8', n9, n9', m0, m1, m2, m3, m4, m5, m6, m7, m8, m9]
      · simp [n0, n0', n1, n1', n2, n2', n6, n7, n7', n8, n8', n9, n9', m0, m1, m2, m3, m4, m5, m6, m7, m8, m9, e1w]
      · simp [n0, n0', n1, n1', n2, n2', n6, n7, n7', n8, n8', n9, n9', m0, m1, m2, m3, m4, m5, m6, m7, m8, m9]
      · intro h; exact absurd h hx
  have := key _ _ _ rfl rfl rfl
  simp only [← List.append_assoc] at this
  exact this
end Go.Kg

set_option linter.unusedSimpArgs false
set_option linter.unusedVariables false
set_option linter.unusedSectionVars false
namespace Go.Kg
open Go
section
variable {P : Program} {C : CfgR}
theorem primR_of {p : Prim} {f : Nat} {g : RS → Value × RS} {fl : Bool} (hf : p.fR C.E fl = f) (h : RdC P C.E.tRd f g) (h1 : ∀ w K rs, p.rep1 w K (g rs).1 (p.rd fl rs).1) (h2 : ∀ rs, (g rs).2 = (p.rd fl rs).2) : ∀ w pb D rs, pb ≠ D → D < w.heap.size → RdAt C.E.tRd w pb D rs →
    Ret P (p.fR C.E fl) #[.pointer (some ⟨pb, 0, none⟩)] w fun v w' => p.rep1 w' (fun b => b = D ∨ w.heap.size ≤ b) v (p.rd fl rs).1 ∧ Ext (· = pb) w w' ∧ RdAt C.E.tRd w' pb D (p.rd fl rs).2 := by
  intro w pb D rs hne hD hr
  subst hf
  refine (h w pb D rs hne hr).mono ?_
  rintro v w1 ⟨rfl, he, hr1⟩
  exact ⟨h1 _ _ _, he, by rw [← h2]; exact hr1⟩
theorem primR_i16 (h : RdC P C.E.tRd C.E.f_pkbin_Reader_Int16 fun rs => (.int .i16 (IntKind.i16.wrap (rdFixed 2 rs).1), (rdFixed 2 rs).2)) : PrimR P C .i16 := fun fl _ => primR_of rfl h (fun _ _ _ => rfl) (fun _ => rfl)
theorem primR_i32 (h : RdC P C.E.tRd C.E.f_pkbin_Reader_Int32 fun rs => (.int .i32 (IntKind.i32.wrap (rdFixed 4 rs).1), (rdFixed 4 rs).2)) : PrimR P C .i32 := fun fl _ => primR_of rfl h (fun _ _ _ => rfl) (fun _ => rfl)
theorem primR_str (h : RdC P C.E.tRd C.E.f_pkbin_Reader_String fun rs => (strV (rdStr rs).1, (rdStr rs).2)) (hc : C.fx = true → RdC P C.E.tRd C.E.f_pkbin_Reader_CompactString fun rs => (strV (rdCStr rs).1, (rdCStr rs).2)) : PrimR P C .str := by
  intro fl hx
  cases fl
  · exact primR_of rfl h (fun _ _ _ => rfl) (fun _ => rfl)
  · exact primR_of rfl (hc (hx rfl)) (fun _ _ _ => rfl) (fun _ => rfl)
theorem endC0_of (ht : TyRs P C.E) (kErr : kindOf P C.E.tErr = .scl) (h2 : FnIs P C.E.f_pkbin_Reader_Complete nt_pkbin_Reader_Complete (rs_pkbin_Reader_Complete C.E) (ir_pkbin_Reader_Complete C.E)) : EndC0 P C :=
  { complete := fun w pb D rs ev hr hev => c_Complete ht kErr h2 hr hev }
end
end Go.Kg

set_option linter.unusedSimpArgs false
set_option linter.unusedVariables false
namespace Go.Kg
open Go
def irNewPtr (C : Cfg) (T PT fDef : Nat) : Ir :=
  .seq (.reg [⟨none, some 0, .assign (.const (.pointer none)), PT⟩]) (.seq (.reg [⟨none, some 1, .alloc T, C.E.tNil⟩])
  (.seq (.reg [⟨none, some 2, .call { callee := .value (.func fDef), args := #[.tmp 1], argTypes := #[T] }, C.E.tNil⟩])
  (.seq (.reg [⟨none, some 0, .assign (.tmp 1), PT⟩]) .ret)))
def irSetV (C : Cfg) (T PT : Nat) : Ir :=
  .reg [⟨none, some 4, .move (.tmp 0), PT⟩, ⟨none, some 5, .move (.tmp 1), C.E.tI16⟩, ⟨none, some 6, .nilCheck (.tmp 4), C.E.tNil⟩, ⟨none, some 7, .fieldAddr T (.tmp 6) 0, C.E.tNil⟩, ⟨none, none, .store C.E.tI16 (.tmp 7) (.tmp 5), C.E.tNil⟩]
theorem newPtrC {P : Program} {C : Cfg} {T PT n g nt fDef : Nat} {S : Sch} {z : Array Value} (hI : FnIs P g nt [.t 0] (irNewPtr C T PT fDef)) (hz : zeroOf P T = some (.agg z)) (hn : n ≤ z.size)
    (hD : ∀ {w : World} {b a : Nat} {c : Array Value} {e : TypeId}, w.heap[b]? = some (.cells c e (0, 0)) → a + n ≤ c.size → Ret P fDef #[.pointer (some ⟨b, a, none⟩)] w fun _ w' => w' = w.setBlk b (.cells (setD a (S.dst C) c) e (0, 0))) (w : World) :
    Ret P g #[] w fun v w' => v = .pointer (some ⟨w.heap.size, 0, none⟩) ∧ w'.heap[w.heap.size]? = some (.cells (setD 0 (S.dst C) z) T (0, 0)) ∧ Ext none1 w w' ∧ w.heap.size < w'.heap.size := by
  refine hI.call (args := []) (by simp) ?_
  simp [irNewPtr, hz, Value.cells]
  refine (hD (b := w.heap.size) (a := 0) (c := z) (e := T) alloc_new (by omega)).mono ?_
  rintro v w' rfl
  have h1 : ((w.alloc (.cells z T)).setBlk w.heap.size (.cells (setD 0 (S.dst C) z) T (0, 0))).heap[w.heap.size]? = some (.cells (setD 0 (S.dst C) z) T (0, 0)) := setBlk_same alloc_new
  have h2 : Ext none1 w ((w.alloc (.cells z T)).setBlk w.heap.size (.cells (setD 0 (S.dst C) z) T (0, 0))) := ((Ext.refl none1 w).alloc _).setBlk (.inl (Nat.le_refl _)) _
  first | exact ⟨rfl, h1, h2, by simp⟩ | exact ⟨h1, h2, by simp⟩
theorem setVC {P : Program} {C : Cfg} {T PT g nt : Nat} (hnt : 2 ≤ nt) (hI : FnIs P g nt [] (irSetV C T PT)) (h0 : fldOff P T 0 = some 0) (hk : kindOf P C.E.tI16 = .scl) {w : World} {b : Nat} {c : Array Value} {e : TypeId} (hb : w.heap[b]? = some (.cells c e (0, 0))) (hc : 0 < c.size) (ver : Int) :
    Ret P g #[.pointer (some ⟨b, 0, none⟩), .int .i16 ver] w fun _ w' => w' = w.setBlk b (.cells (c.setIfInBounds 0 (.int .i16 ver)) e (0, 0)) := by
  refine hI.call (args := [_, _]) hnt ?_
  simp [irSetV, h0, Addr.add_mk, store_scl hk, Value.oneCell', put1K_blk hb, hc]
end Go.Kg

set_option linter.unusedSimpArgs false
set_option linter.unusedVariables false
set_option linter.unusedSectionVars false
namespace Go.Kg
open Go
/-- what is told of a thing lies in blocks that are there -/
theorem Sch.Rep_lt {w : World} {K : Nat → Prop} : ∀ (S : Sch) {cs : List Value} {x : S.T}, S.Rep w K cs x → S.Rep w (fun k => k < w.heap.size) cs x := by
  have hB : ∀ {v : Value} {s : List UInt8}, BytesAt w K v s → BytesAt w (fun k => k < w.heap.size) v s := by
    rintro v s (h | ⟨b, o, c, h1, h2, h3, h4⟩)
    · exact .inl h
    · refine .inr ⟨b, o, c, h1, h2, fun hs => ?_, h4⟩
      cases s with
      | nil => exact absurd rfl hs
      | cons y s => exact World.block_lt_of_cell? w _ (h4 0 y rfl)
  have hP : ∀ {p : Prim} {v : Value} {x : p.T}, p.rep1 w K v x → p.rep1 w (fun k => k < w.heap.size) v x := by
    intro p v x h
    cases p with
    | bytes => exact hB h
    | nstr =>
      cases x with
      | none => exact h
      | some l => obtain ⟨a, h1, _, h3⟩ := h; exact ⟨a, h1, World.block_lt_of_cell? w _ h3, h3⟩
    | nbytes =>
      cases x with
      | none => exact h
      | some l => exact ⟨hB h.1, h.2⟩
    | _ => exact h
  intro S
  induction S with
  | fin => intro cs x h; trivial
  | tags k o =>
    intro cs x ⟨v, h1, h2⟩
    refine ⟨v, h1, ?_⟩
    rcases h2 with h | ⟨b, es, clock, rfl, hk, hb, hs, hn, hl, hx⟩
    · exact .inl h
    · refine .inr ⟨b, es, clock, rfl, lt_of_heap hb, hb, hs, hn, hl, fun i e x h1 h2 => ?_⟩
      obtain ⟨a1, a2, a3, a4⟩ := hx i e x h1 h2
      exact ⟨a1, a2, a3, hB a4⟩
  | prim g k o p en d rest ih => intro cs x ⟨⟨v, h1, h2⟩, h3⟩; exact ⟨⟨v, h1, hP h2⟩, ih h3⟩
  | arrP g k o sT nul p rest ih =>
    intro cs x ⟨⟨v, ls, h1, h2, h3, h4, h5⟩, h6⟩
    refine ⟨⟨v, ls, h1, ?_, h3, h4, fun i es y hi hy => ?_⟩, ih h6⟩
    · cases ls with
      | none => exact h2
      | some ls => obtain ⟨b, o, c, rfl, hk, hn, hx⟩ := h2; exact ⟨b, o, c, rfl, h3.2 _ _ _ rfl, hn, hx⟩
    · obtain ⟨u, a1, a2⟩ := h5 i es y hi hy
      exact ⟨u, a1, hP a2⟩
  | arrS g k o sT nul T PT sz df e rest ihe ih =>
    intro cs x ⟨⟨v, ls, h1, h2, h3, h4, h5⟩, h6⟩
    refine ⟨⟨v, ls, h1, ?_, h3, h4, fun i es y hi hy => ihe (h5 i es y hi hy)⟩, ih h6⟩
    cases ls with
    | none => exact h2
    | some ls => obtain ⟨b, o, c, rfl, hk, hn, hx⟩ := h2; exact ⟨b, o, c, rfl, h3.2 _ _ _ rfl, hn, hx⟩
  | sub g k o T PT sz df e rest ihe ih => intro cs x ⟨h1, h2⟩; exact ⟨ihe h1, ih h2⟩
  | opt g k o T PT PP sz df e rest ihe ih =>
    intro cs x ⟨⟨v, h1, h2, h3⟩, h4⟩
    refine ⟨⟨v, h1, h2, fun y hy => ?_⟩, ih h4⟩
    obtain ⟨b, c, es, a1, a2, a3, a4, a5, a6⟩ := h3 y hy
    exact ⟨b, c, es, a1, a3, a3, a4, a5, ihe a6⟩
def irRF (C : Cfg) (PT fR : Nat) : Ir :=
  .seq (.reg [⟨none, some 4, .assign (.const .nilIface), C.E.tErr⟩])
  (.seq (.reg [⟨none, some 5, .move (.tmp 0), PT⟩, ⟨none, some 6, .move (.tmp 1), C.E.tBs⟩, ⟨none, some 7, .call { callee := .value (.func fR), args := #[.tmp 5, .tmp 6, .const (.bool false)], argTypes := #[PT, C.E.tBs, C.E.tB] }, C.E.tErr⟩,
    ⟨none, some 4, .assign (.tmp 7), C.E.tErr⟩]) .ret)
theorem c_RF {P : Program} {C : Cfg} {PT fR g nt : Nat} (hnt : 2 ≤ nt) (hI : FnIs P g nt [.t 4] (irRF C PT fR)) {u v : Value} {w : World} {X : Value → World → Prop} (h : Ret P fR #[u, v, .bool false] w X) : Ret P g #[u, v] w X := by
  refine hI.call (args := [_, _]) hnt ?_
  simp [irRF]
  refine h.mono ?_
  intro v' w' hx
  simpa using hx
def irAgain (C : Cfg) (PT fPtr fSet fRF fApp : Nat) : Ir :=
  .seq (.reg [⟨none, some 4, .assign (.const (.slice none 0 0)), C.E.tBs⟩, ⟨none, some 5, .assign (.const (.bool false)), C.E.tB⟩])
  (.seq (.reg [⟨none, some 7, .call { callee := .value (.func fPtr), args := #[], argTypes := #[] }, PT⟩, ⟨none, some 6, .assign (.tmp 7), PT⟩])
  (.seq (.reg [⟨none, some 8, .move (.tmp 6), PT⟩, ⟨none, some 9, .move (.tmp 0), C.E.tInt⟩, ⟨none, some 10, .convert C.E.tInt C.E.tI16 (.tmp 9), C.E.tI16⟩,
    ⟨none, some 11, .call { callee := .value (.func fSet), args := #[.tmp 8, .tmp 10], argTypes := #[PT, C.E.tI16] }, C.E.tNil⟩])
  (.seq (.seq (.reg [⟨none, some 12, .move (.tmp 6), PT⟩, ⟨none, some 13, .move (.tmp 1), C.E.tBs⟩, ⟨none, some 14, .call { callee := .builtin .append, args := #[.const (.slice none 0 0), .tmp 13], argTypes := #[C.E.tBs, C.E.tBs] }, C.E.tBs⟩,
      ⟨none, some 15, .call { callee := .value (.func fRF), args := #[.tmp 12, .tmp 14], argTypes := #[PT, C.E.tBs] }, C.E.tErr⟩, ⟨none, some 16, .binOp .neq C.E.tErr (.tmp 15) (.const .nilIface) C.E.tErr, C.E.tB⟩])
    (.cond 16 (.seq (.reg [⟨none, some 4, .assign (.const (.slice none 0 0)), C.E.tBs⟩, ⟨none, some 5, .assign (.const (.bool false)), C.E.tB⟩]) .ret) .skip))
  (.seq (.reg [⟨none, some 17, .move (.tmp 6), PT⟩, ⟨none, some 18, .call { callee := .value (.func fApp), args := #[.tmp 17, .const (.slice none 0 0)], argTypes := #[PT, C.E.tBs] }, C.E.tBs⟩,
    ⟨none, some 4, .assign (.tmp 18), C.E.tBs⟩, ⟨none, some 5, .assign (.const (.bool true)), C.E.tB⟩]) .ret))))
theorem BytesAt.oneD {w : World} {K : Nat → Prop} {v : Value} {s : List UInt8} (h : BytesAt w K v s) (D0 : Nat) : ∃ D, BytesAt w (· = D) v s ∧ (D = D0 ∨ (K D ∧ D < w.heap.size)) := by
  rcases h with h | ⟨b, o, c, rfl, h1, h2, h3⟩
  · exact ⟨D0, .inl h, .inl rfl⟩
  · cases s with
    | nil => exact ⟨D0, .inr ⟨b, o, c, rfl, h1, by simp, by simp⟩, .inl rfl⟩
    | cons x s => exact ⟨b, .inr ⟨b, o, c, rfl, h1, fun _ => rfl, h3⟩, .inr ⟨h2 (by simp), World.block_lt_of_cell? w _ (h3 0 x rfl)⟩⟩
end Go.Kg

set_option linter.unusedSimpArgs false
set_option linter.unusedVariables false
set_option linter.unusedSectionVars false
namespace Go.Kg
open Go
end Go.Kg

set_option linter.unusedVariables false
namespace Go.Kg
open Go
def ir_laws_version (E : Env) : Ir := (.seq (.reg [ ⟨none, some 4, .assign (.const (.int .i64 0)), E.tInt⟩]) (.seq (.reg [ ⟨none, some 5, .move (.tmp 0), E.tU8⟩, ⟨none, some 6, .convert E.tU8 E.tInt (.tmp 5), E.tInt⟩, ⟨none, some 7, .move (.tmp 1), E.tInt⟩, ⟨none, some 8, .binOp .add E.tInt (.tmp 7) (.const (.int .i64 1)) E.tInt, E.tInt⟩, ⟨none, some 9, .binOp .rem E.tInt (.tmp 6) (.tmp 8) E.tInt, E.tInt⟩, ⟨none, some 4, .assign (.tmp 9), E.tInt⟩]) .ret))
def nt_laws_version : Nat := 10
def rs_laws_version (E : Env) : List Rv := [.t 4]
def ir_laws_zzFits2 (E : Env) : Ir := (.seq (.reg [ ⟨none, some 1, .box E.t_spec_Tree (.tmp 0), E.tNil⟩, ⟨none, some 2, .assign (.const (.bool false)), E.tB⟩]) (.seq (.seq (.reg [ ⟨none, some 3, .fieldAddr E.t_spec_Tree (.tmp 1) 1, E.tNil⟩, ⟨none, some 4, .load E.tBs (.tmp 3), E.tBs⟩, ⟨none, some 5, .call { callee := .builtin .len, args := #[.tmp 4], argTypes := #[E.tBs] }, E.tInt⟩, ⟨none, some 6, .binOp .gtr E.tInt (.tmp 5) (.const (.int .i64 2147483647)) E.tInt, E.tB⟩]) (.cond 6 (.seq (.reg [ ⟨none, some 2, .assign (.const (.bool false)), E.tB⟩]) .ret) .skip)) (.seq (.seq (.reg [ ⟨none, some 7, .fieldAddr E.t_spec_Tree (.tmp 1) 3, E.tNil⟩, ⟨none, some 8, .load E.t_l_spec_Tree (.tmp 7), E.t_l_spec_Tree⟩, ⟨none, some 9, .call { callee := .builtin .len, args := #[.tmp 8], argTypes := #[E.t_l_spec_Tree] }, E.tInt⟩, ⟨none, some 10, .binOp .gtr E.tInt (.tmp 9) (.const (.int .i64 2147483647)) E.tInt, E.tB⟩]) (.cond 10 (.seq (.reg [ ⟨none, some 2, .assign (.const (.bool false)), E.tB⟩]) .ret) .skip)) (.seq (.seq (.reg [ ⟨none, some 11, .fieldAddr E.t_spec_Tree (.tmp 1) 4, E.tNil⟩, ⟨none, some 12, .load E.t_l_spec_Tag (.tmp 11), E.t_l_spec_Tag⟩, ⟨none, some 13, .call { callee := .value (.func E.f_laws_zzFits3), args := #[.tmp 12], argTypes := #[E.t_l_spec_Tag] }, E.tB⟩, ⟨none, some 14, .unOp .not E.tB (.tmp 13), E.tB⟩]) (.cond 14 (.seq (.reg [ ⟨none, some 2, .assign (.const (.bool false)), E.tB⟩]) .ret) .skip)) (.seq (.reg [ ⟨none, some 2, .assign (.const (.bool true)), E.tB⟩]) .ret)))))
def nt_laws_zzFits2 : Nat := 15
def rs_laws_zzFits2 (E : Env) : List Rv := [.t 2]
def ir_laws_zzFits3 (E : Env) : Ir := (.seq (.reg [ ⟨none, some 2, .assign (.const (.bool false)), E.tB⟩]) (.seq (.seq (.reg [ ⟨none, some 5, .move (.tmp 0), E.t_l_spec_Tag⟩, ⟨none, some 6, .call { callee := .builtin .len, args := #[.tmp 5], argTypes := #[E.t_l_spec_Tag] }, E.tInt⟩, ⟨none, some 7, .binOp .gtr E.tInt (.tmp 6) (.const (.int .i64 2147483647)) E.tInt, E.tB⟩]) (.cond 7 (.seq (.reg [ ⟨none, some 2, .assign (.const (.bool false)), E.tB⟩]) .ret) .skip)) (.seq (.seq (.reg [ ⟨none, some 8, .move (.tmp 0), E.t_l_spec_Tag⟩, ⟨none, some 9, .call { callee := .builtin .len, args := #[.tmp 8], argTypes := #[E.t_l_spec_Tag] }, E.tInt⟩, ⟨none, some 10, .move (.const (.int .i64 0)), E.tInt⟩]) (.block 0 (.loop (.seq (.reg [ ⟨none, some 11, .binOp .lss E.tInt (.tmp 10) (.tmp 9) E.tInt, E.tNil⟩]) (.seq (.cond 11 .skip (.exit 0)) (.seq (.block 1 (.seq (.reg [ ⟨none, some 12, .indexAddr E.t_l_spec_Tag (.tmp 8) (.tmp 10), E.tNil⟩, ⟨none, some 13, .load E.t_spec_Tag (.tmp 12), E.t_spec_Tag⟩, ⟨none, some 4, .alloc E.t_spec_Tag, E.tNil⟩, ⟨none, none, .store E.t_spec_Tag (.tmp 4) (.tmp 13), E.tNil⟩]) (.seq (.reg [ ⟨none, some 14, .load E.t_spec_Tag (.tmp 4), E.t_spec_Tag⟩, ⟨none, some 15, .call { callee := .value (.func E.f_laws_zzFits4), args := #[.tmp 14], argTypes := #[E.t_spec_Tag] }, E.tB⟩, ⟨none, some 16, .unOp .not E.tB (.tmp 15), E.tB⟩]) (.cond 16 (.seq (.reg [ ⟨none, some 2, .assign (.const (.bool false)), E.tB⟩]) .ret) .skip)))) (.reg [ ⟨none, some 17, .binOp .add E.tInt (.tmp 10) (.const (.int .i64 1)) E.tInt, E.tInt⟩, ⟨none, some 10, .move (.tmp 17), E.tInt⟩]))))))) (.seq (.reg [ ⟨none, some 2, .assign (.const (.bool true)), E.tB⟩]) .ret))))
def nt_laws_zzFits3 : Nat := 18
def rs_laws_zzFits3 (E : Env) : List Rv := [.t 2]
def ir_laws_zzFits4 (E : Env) : Ir := (.seq (.reg [ ⟨none, some 1, .box E.t_spec_Tag (.tmp 0), E.tNil⟩, ⟨none, some 2, .assign (.const (.bool false)), E.tB⟩]) (.seq (.seq (.reg [ ⟨none, some 3, .fieldAddr E.t_spec_Tag (.tmp 1) 1, E.tNil⟩, ⟨none, some 4, .load E.tBs (.tmp 3), E.tBs⟩, ⟨none, some 5, .call { callee := .builtin .len, args := #[.tmp 4], argTypes := #[E.tBs] }, E.tInt⟩, ⟨none, some 6, .binOp .gtr E.tInt (.tmp 5) (.const (.int .i64 2147483647)) E.tInt, E.tB⟩]) (.cond 6 (.seq (.reg [ ⟨none, some 2, .assign (.const (.bool false)), E.tB⟩]) .ret) .skip)) (.seq (.reg [ ⟨none, some 2, .assign (.const (.bool true)), E.tB⟩]) .ret)))
def nt_laws_zzFits4 : Nat := 7
def rs_laws_zzFits4 (E : Env) : List Rv := [.t 2]
end Go.Kg

set_option linter.unusedSimpArgs false
set_option linter.unusedVariables false
namespace Go.Kg
open Go
def irMaxV (E : Env) (M : Int) : Ir := .seq (.reg [⟨none, some 2, .assign (.const (.int .i16 0)), E.tI16⟩]) (.seq (.reg [⟨none, some 2, .assign (.const (.int .i16 M)), E.tI16⟩]) .ret)
def irMax (E : Env) (PT fPtr fMaxV : Nat) : Ir := .seq (.reg [⟨none, some 0, .assign (.const (.int .i64 0)), E.tInt⟩])
  (.seq (.reg [⟨none, some 1, .call { callee := .value (.func fPtr), args := #[], argTypes := #[] }, PT⟩, ⟨none, some 2, .call { callee := .value (.func fMaxV), args := #[.tmp 1], argTypes := #[PT] }, E.tI16⟩,
    ⟨none, some 3, .convert E.tI16 E.tInt (.tmp 2), E.tInt⟩, ⟨none, some 0, .assign (.tmp 3), E.tInt⟩]) .ret)
/-- the version that a law takes -/
def verOf (n M : Nat) : Nat := n % (M + 1)
section
variable {P : Program} {E : Env}
theorem c_maxV {g nt : Nat} (hnt : 1 ≤ nt) {M : Int} (hI : FnIs P g nt [.t 2] (irMaxV E M)) (v : Value) (w : World) : Ret P g #[v] w fun u w' => u = .int .i16 M ∧ w' = w := by
  refine hI.call (args := [_]) hnt ?_
  simp [irMaxV]
theorem c_max {PT fPtr fMaxV g nt : Nat} {M : Nat} (hM : M < 32768) (hI : FnIs P g nt [.t 0] (irMax E PT fPtr fMaxV)) (iI16 : intKind? P E.tI16 = some .i16) (iInt : intKind? P E.tInt = some .i64)
    (hPtr : ∀ w, Ret P fPtr #[] w fun v w' => Ext none1 w w') (hMv : ∀ v w, Ret P fMaxV #[v] w fun u w' => u = .int .i16 M ∧ w' = w) (w : World) :
    Ret P g #[] w fun u w' => u = .int .i64 M ∧ Ext none1 w w' := by
  refine hI.call (args := []) (by simp) ?_
  simp [irMax]
  refine (hPtr w).mono ?_
  intro v w1 he
  try simp
  refine (hMv v w1).mono ?_
  rintro _ w2 ⟨rfl, rfl⟩
  have e : IntKind.i64.wrap (M : Int) = M := i64_small (by omega) (by omega)
  simp [iI16, iInt, e, he]
theorem c_version (hI : FnIs P E.f_laws_version nt_laws_version (rs_laws_version E) (ir_laws_version E)) (iU8 : intKind? P E.tU8 = some .u8) (iInt : intKind? P E.tInt = some .i64) (n M : Nat) (hn : n < 256) (hM : M < 32768) (w : World) :
    Ret P E.f_laws_version #[.int .u8 n, .int .i64 M] w fun u w' => u = .int .i64 (verOf n M) ∧ w' = w := by
  refine hI.call (args := [_, _]) (by simp [nt_laws_version]) ?_
  have e1 : IntKind.i64.wrap (n : Int) = n := i64_small (by omega) (by omega)
  have e2 : IntKind.i64.wrap ((M : Int) + 1) = (M : Int) + 1 := i64_small (by omega) (by omega)
  have e3 : ¬ ((M : Int) + 1 = 0) := by omega
  simp [ir_laws_version, rs_laws_version, iU8, iInt, e1, e2, bin?, e3, verOf]
  rw [Int.tmod_eq_emod_of_nonneg (by omega)]
end
end Go.Kg

set_option linter.unusedSimpArgs false
set_option linter.unusedVariables false
namespace Go.Kg
open Go
section
variable {P : Program} {E : Env}
end
end Go.Kg

set_option linter.unusedSimpArgs false
set_option linter.unusedVariables false
namespace Go.Kg
open Go
/-- An own row of trees. -/
def OwnTr (w : World) (base T : Nat) (v : Value) (rows : List (List Value)) : Prop := Own w base T 5 v rows.flatten ∧ ∀ c ∈ rows, c.length = 5
theorem flatten5 : ∀ {rows : List (List Value)}, (∀ c ∈ rows, c.length = 5) → rows.flatten.length = rows.length * 5
  | [], _ => rfl
  | c :: r, h => by
    have := flatten5 (rows := r) (fun c hc => h c (List.mem_cons_of_mem _ hc))
    have := h c List.mem_cons_self
    simp only [List.flatten_cons, List.length_append, List.length_cons]; omega
theorem flatten5_get : ∀ {rows : List (List Value)}, (∀ c ∈ rows, c.length = 5) → ∀ {i : Nat} {c : List Value}, rows[i]? = some c → ∀ j u, c[j]? = some u → rows.flatten[i * 5 + j]? = some u
  | [], _, i, c, hc => by simp at hc
  | d :: r, h, i, c, hc => by
    intro j u hj
    have hd := h d List.mem_cons_self
    cases i with
    | zero =>
      simp at hc; subst hc
      have hlt := (List.getElem?_eq_some_iff.1 hj).1
      rw [List.flatten_cons, List.getElem?_append_left (by omega)]
      simpa using hj
    | succ i =>
      have := flatten5_get (rows := r) (fun c hc => h c (List.mem_cons_of_mem _ hc)) (i := i) (by simpa using hc) j u hj
      rw [List.flatten_cons, List.getElem?_append_right (by omega), show (i + 1) * 5 + j - d.length = i * 5 + j by omega]
      exact this
theorem OwnTr.arr {w : World} {base T : Nat} {v : Value} {rows : List (List Value)} (h : OwnTr w base T v rows) (hn : rows.length ≤ 1099511627776) : ∃ ls, ArrAt w (fun b => base ≤ b ∧ b < w.heap.size) 5 v ls ∧ ls.getD [] = rows := by
  obtain ⟨⟨n, h1, h2⟩, h5⟩ := h
  have hn' : n = rows.length := by rw [flatten5 h5] at h1; omega
  subst hn'
  rcases h2 with ⟨rfl, h0⟩ | ⟨g, cap, cur, rfl, hb, hg, hnc, hcm, hcs, htake⟩
  · exact ⟨none, rfl, (List.eq_nil_of_length_eq_zero h0).symm⟩
  · refine ⟨some rows, ⟨g, 0, cap, rfl, ⟨hb, lt_of_heap hg⟩, ⟨hnc, hn⟩, fun i cs hi => ⟨h5 cs (List.mem_of_getElem? hi), fun j u hj => ?_⟩⟩, rfl⟩
    have := flatten5_get h5 hi j u hj
    rw [← htake, List.getElem?_take] at this
    rw [cell_of_blk hg, Nat.zero_add]
    split at this
    · simpa using this
    · cases this
/-- No cell of the tree's box but the list's. -/
def zT (lv : Value) : List Value := [.int .i64 0, .slice none 0 0, .bool false, lv, .slice none 0 0]
/-- A tree that says no text and no tags, its lists in blocks of K. -/
inductive DTr (w : World) (K : Nat → Prop) : List Value → Tr → Prop where
  | mk {n : Int} {nul : Bool} {l : List Tr} {lv : Value} {ls : Option (List (List Value))} (hn : fits n) (ha : ArrAt w K 5 lv ls) (hl : (ls.getD []).length = l.length)
      (he : ∀ (i : Nat) c t, (ls.getD [])[i]? = some c → l[i]? = some t → DTr w K c t) : DTr w K [.int .i64 n, .slice none 0 0, .bool nul, lv, .slice none 0 0] (.mk n [] nul l [])
theorem DTr.ext {C K : Nat → Prop} {w w' : World} (he : Ext C w w') (hK : ∀ b, b < w.heap.size → K b → ¬ C b) {cs : List Value} {t : Tr} (h : DTr w K cs t) : DTr w' K cs t := by
  induction h with
  | mk hn ha hl _ ih => exact .mk hn (ha.ext he hK) hl ih
theorem ArrAt.mono {w : World} {K K' : Nat → Prop} (h : ∀ b, K b → K' b) {sz : Nat} {v : Value} {ls : Option (List (List Value))} (ha : ArrAt w K sz v ls) : ArrAt w K' sz v ls := by
  cases ls with
  | none => exact ha
  | some ls => obtain ⟨b, o, c, rfl, hk, hn, hx⟩ := ha; exact ⟨b, o, c, rfl, h b hk, hn, hx⟩
theorem DTr.mono {K K' : Nat → Prop} {w : World} (hK : ∀ b, K b → K' b) {cs : List Value} {t : Tr} (h : DTr w K cs t) : DTr w K' cs t := by
  induction h with
  | mk hn ha hl _ ih => exact .mk hn (ha.mono hK) hl ih
theorem DTr.tree {K : Nat → Prop} {w : World} {cs : List Value} {t : Tr} (h : DTr w K cs t) : TreeAt w cs t := by
  induction h with
  | mk hn ha hl _ ih => exact .mk ⟨hn, by simp⟩ (.inl ⟨⟨_, rfl⟩, rfl⟩) (ha.mono (fun _ _ => trivial)).toE hl ih ⟨none, ⟨_, rfl⟩, rfl, by simp⟩
structure TyD (P : Program) (E : Env) : Prop extends TyM P E where
  pT5 : places P E.t_spec_Tree = some [(0, 1), (1, 1), (2, 1), (3, 1), (4, 1)]
  fT3 : ∀ (a b c d e : Value), fld? P E.t_spec_Tree 3 #[a, b, c, d, e] = some d
section
variable {P : Program} {E : Env} (ht : TyD P E)
include ht
end
end Go.Kg

set_option linter.unusedSimpArgs false
set_option linter.unusedVariables false
namespace Go.Kg
open Go
theorem FS.okAll.dflt : ∀ {F : FS}, F.okAll → ∀ h ∈ F.heads, fits h.dflt
  | .nil, _, h, hh => by cases hh
  | .cons h' s r, ho, h, hh => by
    rcases List.mem_cons.1 hh with rfl | hh
    · exact ho.2.1
    · exact FS.okAll.dflt ho.2.2.2.2 h hh
def FH.zero : FH := ⟨0, 0, 0, 0, 0, 0, 0⟩
def FH.set (h : FH) (k : Nat) (n : Int) : FH :=
  match k with
  | 0 => { h with kind := n } | 1 => { h with frm := n } | 2 => { h with to := n } | 3 => { h with null := n } | 4 => { h with tag := n } | 5 => { h with dflt := n } | _ => { h with of_ := n }
/-- A field's text: its parts in order, and the function of its own fields (with these). -/
structure FSrc where
  ps : List (Nat × Int)
  sub : Option (Nat × FS)
def FSrc.h (x : FSrc) : FH := x.ps.foldl (fun h p => h.set p.1 p.2) FH.zero
def FSrc.subF (x : FSrc) : FS := match x.sub with | some (_, F) => F | none => .nil
def mkFS : List FSrc → FS
  | [] => .nil
  | x :: r => .cons x.h x.subF (mkFS r)
def psOp (ps : List (Nat × Int)) : List (Nat × Operand) := ps.map fun p => (p.1, .const (.int .i64 p.2))
def FSrc.sz (x : FSrc) : Nat := match x.sub with | some _ => 2 | none => 1
def FSrc.ro (E : Env) (x : FSrc) (t : Nat) : List Ro := match x.sub with
  | none => [⟨none, some t, .build E.t_spec_Field (psOp x.ps).toArray, E.t_spec_Field⟩]
  | some (g, _) => [⟨none, some t, .call { callee := .value (.func g), args := #[], argTypes := #[] }, E.t_l_spec_Field⟩, ⟨none, some (t + 1), .build E.t_spec_Field (psOp x.ps ++ [(7, Operand.tmp t)]).toArray, E.t_spec_Field⟩]
def genSr (E : Env) : List FSrc → Nat → List Ro
  | [], _ => []
  | x :: r, t => x.ro E t ++ genSr E r (t + x.sz)
def slotsS : List FSrc → Nat → List Nat
  | [], _ => []
  | x :: r, t => (t + x.sz - 1) :: slotsS r (t + x.sz)
def endS : List FSrc → Nat → Nat
  | [], t => t
  | x :: r, t => endS r (t + x.sz)
def bslOp (sl : List Nat) : Array (Nat × Operand) := (sl.zipIdx.map fun p => (p.2, Operand.tmp p.1)).toArray
/-- func sX() []Field -/
def irSub (E : Env) (xs : List FSrc) : Ir :=
  .seq (.reg [⟨none, some 0, .assign (.const (.slice none 0 0)), E.t_l_spec_Field⟩])
  (.seq (.reg (genSr E xs 1 ++ [⟨none, some (endS xs 1), .buildSlice E.t_l_spec_Field xs.length (bslOp (slotsS xs 1)), E.t_l_spec_Field⟩, ⟨none, some 0, .assign (.tmp (endS xs 1)), E.t_l_spec_Field⟩])) .ret)
/-- func X() Message -/
def irMsg (E : Env) (xs : List FSrc) (fx : Int) : Ir :=
  .seq (.reg [⟨none, some 0, .alloc E.t_spec_Message, E.tNil⟩])
  (.seq (.reg (genSr E xs 1 ++ [⟨none, some (endS xs 1), .buildSlice E.t_l_spec_Field xs.length (bslOp (slotsS xs 1)), E.t_l_spec_Field⟩,
    ⟨none, some (endS xs 1 + 1), .build E.t_spec_Message #[(1, .const (.int .i64 fx)), (0, .tmp (endS xs 1))], E.t_spec_Message⟩, ⟨none, none, .store E.t_spec_Message (.tmp 0) (.tmp (endS xs 1 + 1)), E.tNil⟩])) .ret)
def psOk : List (Nat × Int) → Bool
  | [] => true
  | p :: r => decide (p.1 < 7) && psOk r
structure TyK (P : Program) (E : Env) : Prop extends TyD P E where
  pF8 : places P E.t_spec_Field = some [(0, 1), (1, 1), (2, 1), (3, 1), (4, 1), (5, 1), (6, 1), (7, 1)]
  gF : SliI P E.t_l_spec_Field E.t_spec_Field 8 80 (.agg zField)
  pM : places P E.t_spec_Message = some [(0, 1), (1, 1)]
  zM : zeroOf P E.t_spec_Message = some (.agg #[.slice none 0 0, .int .i64 0])
  kM : kindOf P E.t_spec_Message = .agg 2
theorem FH.set_cells (h : FH) (sv : Value) (k : Nat) (n : Int) (hk : k < 7) : (h.cells ++ [sv]).toArray.setIfInBounds k (.int .i64 n) = ((h.set k n).cells ++ [sv]).toArray := by
  match k, hk with
  | 0, _ => rfl
  | 1, _ => rfl
  | 2, _ => rfl
  | 3, _ => rfl
  | 4, _ => rfl
  | 5, _ => rfl
  | 6, _ => rfl
def pl8 : List (Nat × Nat) := [(0, 1), (1, 1), (2, 1), (3, 1), (4, 1), (5, 1), (6, 1), (7, 1)]
theorem pl8_get {k : Nat} (hk : k < 8) : pl8[k]? = some (k, 1) := by
  match k, hk with
  | 0, _ => rfl | 1, _ => rfl | 2, _ => rfl | 3, _ => rfl | 4, _ => rfl | 5, _ => rfl | 6, _ => rfl | 7, _ => rfl
theorem fill_one {k : Nat} (hk : k < 8) {v : Value} (hv : v.cells = #[v]) {c : Array Value} (hc : c.size = 8) (rest : List (Nat × Value)) :
    Instr.fill (fun i => pl8[i]?) c ((k, v) :: rest) = Instr.fill (fun i => pl8[i]?) (c.setIfInBounds k v) rest := by
  simp only [Instr.fill, pl8_get hk, hv]
  rw [if_neg (by simp; omega)]
  simp
theorem fill_ps : ∀ (ps : List (Nat × Int)) (h : FH) (sv : Value) (rest : List (Nat × Value)), psOk ps = true →
    Instr.fill (fun i => pl8[i]?) (h.cells ++ [sv]).toArray (ps.map (fun p => (p.1, Value.int .i64 p.2)) ++ rest) = Instr.fill (fun i => pl8[i]?) ((ps.foldl (fun h p => h.set p.1 p.2) h).cells ++ [sv]).toArray rest
  | [], h, sv, rest, _ => rfl
  | p :: r, h, sv, rest, hok => by
    simp only [psOk, Bool.and_eq_true, decide_eq_true_eq] at hok
    rw [List.map_cons, List.cons_append, fill_one (by omega) rfl (by simp), FH.set_cells h sv p.1 p.2 hok.1]
    exact fill_ps r _ sv rest hok.2
theorem zField_eq : zField = (FH.zero.cells ++ [Value.slice none 0 0]).toArray := rfl
/-- Fields whose rows lie in blocks of K. -/
def FsCellsK (w : World) (K : Nat → Prop) : List (List Value) → FS → Prop
  | [], .nil => True
  | c :: cs, .cons h sub rest => (∃ sv ls, c = h.cells ++ [sv] ∧ ArrAt w K 8 sv ls ∧ FsCellsK w K (ls.getD []) sub) ∧ FsCellsK w K cs rest
  | _, _ => False
def FsAtK (w : World) (K : Nat → Prop) (v : Value) (F : FS) : Prop := ∃ ls, ArrAt w K 8 v ls ∧ FsCellsK w K (ls.getD []) F
theorem FsCellsK.ext {C K K' : Nat → Prop} {w w' : World} (he : Ext C w w') (hK : ∀ b, b < w.heap.size → K b → ¬ C b) (hm : ∀ b, K b → K' b) : ∀ {F : FS} {ls : List (List Value)}, FsCellsK w K ls F → FsCellsK w' K' ls F := by
  intro F
  induction F with
  | nil => intro ls h; cases ls with
    | nil => trivial
    | cons c cs => exact h.elim
  | cons h sub rest ihs ihr =>
    intro ls hh
    cases ls with
    | nil => exact hh.elim
    | cons c cs =>
      obtain ⟨⟨sv, l, h1, h2, h3⟩, h4⟩ := hh
      exact ⟨⟨sv, l, h1, (h2.ext he hK).mono hm, ihs h3⟩, ihr h4⟩
theorem FsAtK.ext {C K K' : Nat → Prop} {w w' : World} (he : Ext C w w') (hK : ∀ b, b < w.heap.size → K b → ¬ C b) (hm : ∀ b, K b → K' b) {v : Value} {F : FS} (h : FsAtK w K v F) : FsAtK w' K' v F := by
  obtain ⟨ls, h1, h2⟩ := h; exact ⟨ls, (h1.ext he hK).mono hm, h2.ext he hK hm⟩
theorem FsCellsK.all {K : Nat → Prop} {w : World} : ∀ {F : FS} {ls : List (List Value)}, FsCellsK w K ls F → FsCells w ls F := by
  intro F
  induction F with
  | nil => intro ls h; cases ls with
    | nil => trivial
    | cons c cs => exact h.elim
  | cons h sub rest ihs ihr =>
    intro ls hh
    cases ls with
    | nil => exact hh.elim
    | cons c cs =>
      obtain ⟨⟨sv, l, h1, h2, h3⟩, h4⟩ := hh
      exact ⟨⟨sv, l, h1, h2.mono (fun _ _ => trivial), ihs h3⟩, ihr h4⟩
theorem FsAtK.all {K : Nat → Prop} {w : World} {v : Value} {F : FS} (h : FsAtK w K v F) : FsAt w v F := by
  obtain ⟨ls, h1, h2⟩ := h; exact ⟨ls, h1.mono (fun _ _ => trivial), h2.all⟩
/-- What the fields are, once made: their rows at base and above. -/
def FldsV (w : World) (base : Nat) : List FSrc → List Value → Prop
  | [], [] => True
  | x :: r, v :: vs => (∃ sv, v = .agg (x.h.cells ++ [sv]).toArray ∧ FsAtK w (base ≤ ·) sv x.subF) ∧ FldsV w base r vs
  | _, _ => False
theorem FldsV.ext {w w' : World} {base : Nat} (he : Ext none1 w w') : ∀ {xs : List FSrc} {vs : List Value}, FldsV w base xs vs → FldsV w' base xs vs
  | [], [], _ => trivial
  | x :: r, v :: vs, h => ⟨by obtain ⟨sv, h1, h2⟩ := h.1; exact ⟨sv, h1, h2.ext he (fun _ _ _ h => h) (fun _ h => h)⟩, FldsV.ext he h.2⟩
  | [], _ :: _, h => h.elim
  | _ :: _, [], h => h.elim
theorem FldsV.len {w : World} {base : Nat} : ∀ {xs : List FSrc} {vs : List Value}, FldsV w base xs vs → vs.length = xs.length ∧ ∀ v ∈ vs, v.cells.size = 8
  | [], [], _ => ⟨rfl, by simp⟩
  | x :: r, v :: vs, h => by
    obtain ⟨h1, h2⟩ := FldsV.len h.2
    obtain ⟨sv, rfl, _⟩ := h.1
    refine ⟨by simp [h1], fun u hu => ?_⟩
    rcases List.mem_cons.1 hu with rfl | hu
    · simp [Value.cells]
    · exact h2 u hu
  | [], _ :: _, h => h.elim
  | _ :: _, [], h => h.elim
def SubC (P : Program) (g : Nat) (F : FS) : Prop := ∀ w, Ret P g #[] w fun v w' => FsAtK w' (w.heap.size ≤ ·) v F ∧ Ext none1 w w'
def srcOk (P : Program) : List FSrc → Prop
  | [] => True
  | x :: r => psOk x.ps = true ∧ (∀ g F, x.sub = some (g, F) → SubC P g F) ∧ srcOk P r
theorem FsAtK.nil (w : World) (K : Nat → Prop) : FsAtK w K (.slice none 0 0) .nil := ⟨none, rfl, trivial⟩
theorem endS_ge : ∀ (xs : List FSrc) (t : Nat), t ≤ endS xs t
  | [], t => Nat.le_refl _
  | x :: r, t => Nat.le_trans (Nat.le_add_right _ _) (endS_ge r (t + x.sz))
theorem slotsS_len : ∀ (xs : List FSrc) (t : Nat), (slotsS xs t).length = xs.length
  | [], _ => rfl
  | x :: r, t => by simp [slotsS, slotsS_len r]
theorem stp_build {P : Program} {f : Nat → Value} {ty T : TypeId} {w : World} {K : Value → World → Prop} {ps : List (Nat × Operand)} (h : ps ≠ []) : stp P f (.build T ps.toArray) ty w K = optK (bld? P T (ps.map fun p => (p.1, evF f p.2))) fun v => K v w := by
  cases ps with
  | nil => exact absurd rfl h
  | cons p r => simp only [stp]
theorem psOp_eval (f : Nat → Value) (ps : List (Nat × Int)) : (psOp ps).map (fun p => (p.1, evF f p.2)) = ps.map fun p => (p.1, Value.int .i64 p.2) := by simp [psOp, evF]
def MsgC (P : Program) (g : Nat) (F : FS) (fx : Int) : Prop := ∀ w, Ret P g #[] w fun v w' => ∃ fv, v = .agg #[fv, .int .i64 fx] ∧ FsAt w' fv F ∧ Ext none1 w w'
theorem dense_bsl : ∀ (sl : List Nat) (k : Nat), denseFrom k ((sl.zipIdx k).map fun p => (p.2, Operand.tmp p.1)) = true
  | [], _ => rfl
  | s :: r, k => by simp only [List.zipIdx_cons, List.map_cons, denseFrom, beq_self_eq_true, Bool.true_and]; exact dense_bsl r (k + 1)
theorem bsl_vals (f : Nat → Value) : ∀ (sl : List Nat) (k : Nat), ((sl.zipIdx k).map fun p => (p.2, Operand.tmp p.1)).map (fun p => evF f p.2) = sl.map f
  | [], _ => rfl
  | s :: r, k => by simp only [List.zipIdx_cons, List.map_cons, bsl_vals f r (k + 1)]; rfl
theorem allSz_of {s : Nat} : ∀ {l : List Value}, (∀ v ∈ l, v.cells.size = s) → allSz s l = true
  | [], _ => rfl
  | v :: l, h => by simp only [allSz, h v List.mem_cons_self, beq_self_eq_true, Bool.true_and]; exact allSz_of fun u hu => h u (List.mem_cons_of_mem _ hu)
theorem flds_cells {w : World} {base : Nat} : ∀ {xs : List FSrc} {vs : List Value}, FldsV w base xs vs → ∃ rows : List (List Value), vs = rows.map (fun c => Value.agg c.toArray) ∧ FsCellsK w (base ≤ ·) rows (mkFS xs) ∧ ∀ c ∈ rows, c.length = 8
  | [], [], _ => ⟨[], rfl, trivial, by simp⟩
  | x :: r, v :: vs, h => by
    obtain ⟨rows, h1, h2, h3⟩ := flds_cells h.2
    obtain ⟨sv, rfl, ls, ha, hc⟩ := h.1
    refine ⟨(x.h.cells ++ [sv]) :: rows, by rw [h1]; rfl, ⟨⟨sv, ls, rfl, ha, hc⟩, h2⟩, fun c hc' => ?_⟩
    rcases List.mem_cons.1 hc' with rfl | hc'
    · simp
    · exact h3 c hc'
  | [], _ :: _, h => h.elim
  | _ :: _, [], h => h.elim
section
variable {P : Program} {E : Env} (ht : TyK P E)
include ht
theorem bld_field {ps : List (Nat × Int)} (hok : psOk ps = true) : bld? P E.t_spec_Field (ps.map fun p => (p.1, Value.int .i64 p.2)) = some (.agg ((ps.foldl (fun h p => h.set p.1 p.2) FH.zero).cells ++ [Value.slice none 0 0]).toArray) := by
  have := fill_ps ps FH.zero (Value.slice none 0 0) [] hok
  rw [List.append_nil] at this
  have hz : zeroOf P E.t_spec_Field = some (.agg zField) := ht.zF
  have hp : places P E.t_spec_Field = some pl8 := ht.pF8
  simp only [bld?, hz, hp]
  show (Instr.fill (fun i => pl8[i]?) zField _).map Value.agg = _
  rw [zField_eq, this]
  rfl
theorem bld_fieldS {ps : List (Nat × Int)} {sv : Value} (hok : psOk ps = true) (hs : sv.cells = #[sv]) : bld? P E.t_spec_Field (ps.map (fun p => (p.1, Value.int .i64 p.2)) ++ [(7, sv)]) = some (.agg ((ps.foldl (fun h p => h.set p.1 p.2) FH.zero).cells ++ [sv]).toArray) := by
  have := fill_ps ps FH.zero (Value.slice none 0 0) [(7, sv)] hok
  have hz : zeroOf P E.t_spec_Field = some (.agg zField) := ht.zF
  have hp : places P E.t_spec_Field = some pl8 := ht.pF8
  simp only [bld?, hz, hp]
  show (Instr.fill (fun i => pl8[i]?) zField _).map Value.agg = _
  rw [zField_eq, this, fill_one (by omega) hs (by simp)]
  rfl
theorem gen_sound {base : Nat} : ∀ (xs : List FSrc) (t : Nat) (f : Nat → Value) (w : World) (rest : List Ro) (R : (Nat → Value) → World → Prop), srcOk P xs → (∀ x ∈ xs, x.ps ≠ []) → base ≤ w.heap.size →
    (∀ f' w', (∀ s, s < t → f' s = f s) → Ext none1 w w' → FldsV w' base xs ((slotsS xs t).map f') → regW P R rest f' w') → regW P R (genSr E xs t ++ rest) f w := by
  intro xs
  induction xs with
  | nil => intro t f w rest R _ _ _ h; exact h f w (fun _ _ => rfl) (Ext.refl _ _) trivial
  | cons x r ih =>
    intro t f w rest R hok hne hbs h
    obtain ⟨hps, hsub, hrest⟩ := hok
    have hxne := hne x List.mem_cons_self
    have hne' : ∀ y ∈ r, y.ps ≠ [] := fun y hy => hne y (List.mem_cons_of_mem _ hy)
    have hpo : psOp x.ps ≠ [] := by intro h0; apply hxne; simpa [psOp] using h0
    cases hs : x.sub with
    | none =>
      have e1 : genSr E (x :: r) t ++ rest = ⟨none, some t, .build E.t_spec_Field (psOp x.ps).toArray, E.t_spec_Field⟩ :: (genSr E r (t + 1) ++ rest) := by simp [genSr, FSrc.ro, FSrc.sz, hs]
      rw [e1, regW_plain, stp_build hpo, psOp_eval, bld_field ht hps, optK_some]
      refine ih (t + 1) _ w rest R hrest hne' hbs ?_
      intro f' w' hk he hv
      refine h f' w' (fun s hs' => by rw [hk s (by omega), updO_some, upd_apply, if_neg (by omega)]) he ?_
      have e2 : slotsS (x :: r) t = t :: slotsS r (t + 1) := by simp [slotsS, FSrc.sz, hs]
      rw [e2, List.map_cons]
      refine ⟨⟨.slice none 0 0, ?_, ?_⟩, hv⟩
      · rw [hk t (by omega), updO_some, upd_apply, if_pos rfl]; rfl
      · have : x.subF = .nil := by simp [FSrc.subF, hs]
        rw [this]; exact FsAtK.nil w' _
    | some gF =>
      obtain ⟨g, F⟩ := gF
      have hSC := hsub g F hs
      have e1 : genSr E (x :: r) t ++ rest = ⟨none, some t, .call { callee := .value (.func g), args := #[], argTypes := #[] }, E.t_l_spec_Field⟩ :: ⟨none, some (t + 1), .build E.t_spec_Field (psOp x.ps ++ [(7, Operand.tmp t)]).toArray, E.t_spec_Field⟩ :: (genSr E r (t + 2) ++ rest) := by
        simp [genSr, FSrc.ro, FSrc.sz, hs]
      rw [e1, regW_plain, stp_call]
      refine Ret.mono (R := fun v w' => FsAtK w' (w.heap.size ≤ ·) v F ∧ Ext none1 w w') (by simpa using hSC w) ?_
      rintro sv w1 ⟨hF, he1⟩
      have hsv : sv.cells = #[sv] := by
        obtain ⟨ls, ha, _⟩ := hF
        obtain ⟨a, c, rfl, _⟩ := ha.form
        rfl
      rw [regW_plain, stp_build (by simp), List.map_append, psOp_eval]
      have e3 : List.map (fun p : Nat × Operand => (p.1, evF (updO f (some t) sv) p.2)) [(7, Operand.tmp t)] = [(7, sv)] := by simp
      rw [e3, bld_fieldS ht hps hsv, optK_some]
      refine ih (t + 2) _ w1 rest R hrest hne' (Nat.le_trans hbs he1.size) ?_
      intro f' w' hk he hv
      refine h f' w' (fun s hs' => by rw [hk s (by omega)]; simp only [updO_some, upd_apply]; rw [if_neg (by omega), if_neg (by omega)]) (he1.trans he) ?_
      have e2 : slotsS (x :: r) t = (t + 1) :: slotsS r (t + 2) := by simp [slotsS, FSrc.sz, hs]
      rw [e2, List.map_cons]
      refine ⟨⟨sv, ?_, ?_⟩, hv⟩
      · rw [hk (t + 1) (by omega)]; simp only [updO_some, upd_apply, if_true]; rfl
      · have : x.subF = F := by simp [FSrc.subF, hs]
        rw [this]; exact hF.ext he (fun _ _ _ h => h) (fun b hb => Nat.le_trans hbs hb)
/-- the slice of the fields that were made -/
theorem bsl_sound {xs : List FSrc} {t base : Nat} {f : Nat → Value} {w : World} {K : Value → World → Prop} {ty : TypeId} (hx : xs ≠ []) (hn : xs.length ≤ 1000) (hbs : base ≤ w.heap.size) (hv : FldsV w base xs ((slotsS xs t).map f))
    (h : ∀ v w', FsAtK w' (base ≤ ·) v (mkFS xs) → Ext none1 w w' → K v w') : stepF P f (.buildSlice E.t_l_spec_Field xs.length (bslOp (slotsS xs t))) ty w K := by
  obtain ⟨h1, h2⟩ := hv.len
  have hx0 : 0 < xs.length := by cases xs with | nil => exact absurd rfl hx | cons => simp
  have hvals : (bslOp (slotsS xs t)).toList.map (fun p => evF f p.2) = (slotsS xs t).map f := by
    simp only [bslOp]
    exact bsl_vals f _ 0
  rw [st_bsl ht.gF (by omega) (by simp only [bslOp]; exact dense_bsl _ 0) (by simp [bslOp, slotsS_len]) hx0 (by omega) (by rw [hvals]; exact allSz_of h2)]
  rw [hvals]
  obtain ⟨rows, hr, hc, h8⟩ := flds_cells hv
  rw [hr] at h1 ⊢
  simp at h1
  have hE := (Ext.refl none1 w).alloc (.cells (flat (rows.map fun c => Value.agg c.toArray)).toArray E.t_spec_Field)
  refine h _ _ ⟨some rows, ⟨w.heap.size, 0, xs.length, by rw [h1], hbs, ⟨by omega, by omega⟩, ?_⟩, hc.ext hE (fun _ _ _ h => h) (fun _ h => h)⟩ hE
  intro i c hi
  refine ⟨h8 c (List.mem_of_getElem? hi), fun j u hj => ?_⟩
  rw [cell_of_blk alloc_new, Nat.zero_add, List.getElem?_toArray]
  have hsz : ∀ v ∈ (rows.map fun c => Value.agg c.toArray), v.cells.size = 8 := by
    intro v hv'
    obtain ⟨c', hc', rfl⟩ := List.mem_map.1 hv'
    simpa [Value.cells] using h8 c' hc'
  have hj8 : j < 8 := by have := (List.getElem?_eq_some_iff.1 hj).1; rw [h8 c (List.mem_of_getElem? hi)] at this; exact this
  rw [flat_get (by omega) hsz, show (i * 8 + j) / 8 = i by omega, show (i * 8 + j) % 8 = j by omega]
  simp [hi, Value.cells, hj]
theorem sub_sound {g nt : Nat} {xs : List FSrc} (hI : FnIs P g nt [.t 0] (irSub E xs)) (hx : xs ≠ []) (hn : xs.length ≤ 1000) (hok : srcOk P xs) (hne : ∀ x ∈ xs, x.ps ≠ []) : SubC P g (mkFS xs) := by
  intro w
  refine hI.call (args := []) (by simp) ?_
  simp only [irSub, cw_seq, cw_reg, regW_plain, stp_assign, thenF_normal, regW_nil]
  refine gen_sound ht (base := w.heap.size) xs 1 _ w _ _ hok hne (Nat.le_refl _) ?_
  intro f' w' hk he hv
  rw [regW_plain, stp_buildSlice]
  refine bsl_sound ht hx hn he.size hv ?_
  intro v w2 hF he2
  simp
  exact ⟨hF, he.trans he2⟩
theorem bld_msg (v : Value) (hv : v.cells = #[v]) (fx : Int) : bld? P E.t_spec_Message [(1, .int .i64 fx), (0, v)] = some (.agg #[v, .int .i64 fx]) := by
  have hz := ht.zM
  have hp := ht.pM
  have hi : (Value.int .i64 fx).cells = #[Value.int .i64 fx] := rfl
  have hc : (Value.agg #[Value.slice none 0 0, .int .i64 0]).cells = #[Value.slice none 0 0, .int .i64 0] := rfl
  simp [bld?, hz, hp, Instr.fill, hi, hc, hv]
theorem msg_sound {g nt : Nat} {xs : List FSrc} {fx : Int} (hI : FnIs P g nt [.c 0 E.t_spec_Message] (irMsg E xs fx)) (hx : xs ≠ []) (hn : xs.length ≤ 1000) (hok : srcOk P xs) (hne : ∀ x ∈ xs, x.ps ≠ []) : MsgC P g (mkFS xs) fx := by
  intro w
  refine hI.call (args := []) (by simp) ?_
  have hzM : zeroOf P E.t_spec_Message = some (.agg #[.slice none 0 0, .int .i64 0]) := ht.zM
  simp only [irMsg, cw_seq, cw_reg, regW_plain, stp_alloc, hzM, optK_some, thenF_normal, regW_nil]
  have hE := (Ext.refl none1 w).alloc (.cells (Value.agg #[.slice none 0 0, .int .i64 0]).cells E.t_spec_Message)
  have hb : (w.alloc (.cells (Value.agg #[.slice none 0 0, .int .i64 0]).cells E.t_spec_Message)).heap[w.heap.size]? = some (.cells #[.slice none 0 0, .int .i64 0] E.t_spec_Message (0, 0)) := alloc_new
  refine gen_sound ht (base := w.heap.size + 1) xs 1 _ _ _ _ hok hne (by simp) ?_
  intro f' w' hk he hv
  rw [regW_plain, stp_buildSlice]
  refine bsl_sound ht hx hn (Nat.le_trans (by simp) he.size) hv ?_
  intro v w2 hF he2
  have hf0 : f' 0 = .pointer (some ⟨w.heap.size, 0, none⟩) := by rw [hk 0 (by omega)]; simp
  have he0 := endS_ge xs 1
  have hv1 : v.cells = #[v] := by
    obtain ⟨ls, ha, _⟩ := hF
    obtain ⟨a, c, rfl, _⟩ := ha.form
    rfl
  have hvo : v.oneCell' = true := by
    obtain ⟨ls, ha, _⟩ := hF
    obtain ⟨a, c, rfl, _⟩ := ha.form
    rfl
  have hb2 := he2.old (he.old hb (fun h => h)) (fun h => h)
  have z0 : (0 = endS xs 1) = False := by simp; omega
  have z1 : ∀ k, (0 = endS xs 1 + k) = False := by intro k; simp; omega
  have hx2 : Ext none1 w w2 := hE.trans (he.trans he2)
  have ho : allOne [v, Value.int .i64 fx] = true := by simp only [allOne, hvo, Bool.true_and]; rfl
  have hov : over #[Value.slice none 0 0, .int .i64 0] 0 [v, Value.int .i64 fx] = #[v, .int .i64 fx] := by simp [over]
  simp [bld_msg ht v hv1 fx, hf0, z0, z1, store_agg ht.kM, ho, putK_blk hb2, hov]
  have hb3 : (w2.setBlk w.heap.size (.cells #[v, .int .i64 fx] E.t_spec_Message (0, 0))).heap[w.heap.size]? = some (.cells #[v, .int .i64 fx] E.t_spec_Message (0, 0)) := setBlk_same hb2
  have hx3 : Ext none1 w (w2.setBlk w.heap.size (.cells #[v, .int .i64 fx] E.t_spec_Message (0, 0))) := hx2.setBlk (.inl (Nat.le_refl _)) _
  have lT := cellsFrom_row hb3
  simp at lT
  simp [ld_agg ht.kM, lT]
  exact ⟨(hF.ext (K' := All) ((Ext.refl (fun b => b = w.heap.size) w2).setBlk (.inr rfl) _) (fun b _ hb h => by omega) (fun _ _ => trivial)).all, hx3⟩
end
end Go.Kg

set_option linter.unusedSimpArgs false
set_option linter.unusedVariables false
namespace Go.Kg
open Go
def SomeB (w : World) (u : Value) (w' : World) : Prop := (∃ b, u = .bool b) ∧ Ext none1 w w'
section
variable {P : Program} {E : Env} (ht : TyF P E)
include ht
theorem c_zzFits4 (hI : FnIs P E.f_laws_zzFits4 nt_laws_zzFits4 (rs_laws_zzFits4 E) (ir_laws_zzFits4 E)) (w : World) (k bv : Value) (x : List UInt8) (hb : BytesAt w All bv x) (hk : k.oneCell' = true) :
    Ret P E.f_laws_zzFits4 #[.agg #[k, bv]] w (SomeB w) := by
  obtain ⟨a, c, rfl, _⟩ := hb.len
  refine hI.call (args := [_]) (by simp [nt_laws_zzFits4]) ?_
  have hcs : (Value.agg #[k, .slice a x.length c]).cells = #[k, .slice a x.length c] := rfl
  simp [ir_laws_zzFits4, rs_laws_zzFits4, hcs]
  generalize hw1 : w.alloc (.cells #[k, .slice a x.length c] E.t_spec_Tag) = w1
  have hE : Ext none1 w w1 := by subst hw1; exact (Ext.refl none1 w).alloc _
  have hb1 : w1.heap[w.heap.size]? = some (.cells #[k, .slice a x.length c] E.t_spec_Tag (0, 0)) := by subst hw1; exact alloc_new
  have c1 : w1.cell? ⟨w.heap.size, 1, none⟩ = some (.slice a x.length c) := by rw [cell_of_blk hb1]; rfl
  simp [ht.u1, Addr.add_mk, ld_scl ht.kBs, c1, len_slice ht.uBs]
  refine cw_bool (c := decide ((2147483647 : Int) < x.length)) (by simp) ?_ ?_
  · intro _
    simp
    exact ⟨⟨_, rfl⟩, hE⟩
  · intro _
    simp
    exact ⟨⟨_, rfl⟩, hE⟩
/-- what holds in the loop over tags -/
def FzInv (w : World) (vs : Value) (n : Nat) (f : Nat → Value) (w' : World) : Prop := ∃ i, i ≤ n ∧ f 10 = .int .i64 i ∧ f 9 = .int .i64 n ∧ f 8 = vs ∧ Ext none1 w w'
theorem c_zzFits3 (hI : FnIs P E.f_laws_zzFits3 nt_laws_zzFits3 (rs_laws_zzFits3 E) (ir_laws_zzFits3 E))
    (h4 : ∀ (w : World) (k bv : Value) (x : List UInt8), BytesAt w All bv x → k.oneCell' = true → Ret P E.f_laws_zzFits4 #[.agg #[k, bv]] w (SomeB w)) (hzU : zeroOf P E.t_spec_Tag = some (.agg #[.int .u32 0, .slice none 0 0])) (w : World) (uv : Value) (u : List (Nat × List UInt8)) (hu : UAt w uv u) :
    Ret P E.f_laws_zzFits3 #[uv] w (SomeB w) := by
  obtain ⟨ls, ha, hlen, hget⟩ := hu
  obtain ⟨a, c, rfl, _, hmax⟩ := ha.form
  refine hI.call (args := [_]) (by simp [nt_laws_zzFits3]) ?_
  obtain ⟨Et, jt, hut, _, _⟩ := sliSz_spec ht.sU
  simp [ir_laws_zzFits3, rs_laws_zzFits3, len_slice hut]
  refine cw_bool (c := decide ((2147483647 : Int) < (ls.getD []).length)) (by simp) ?_ ?_
  · intro _
    simp
    exact ⟨⟨_, rfl⟩, Ext.refl _ _⟩
  · intro _
    simp [len_slice hut]
    refine cw_loop (FzInv w (.slice a (ls.getD []).length c) (ls.getD []).length) (fun f _ => match f 10 with | .int _ i => (((ls.getD []).length : Int) - i).toNat | _ => 0) ⟨0, by omega, by simp, by simp, by simp, Ext.refl _ _⟩ ?_
    rintro f w' ⟨i, hi, h10, h9, h8, he⟩
    simp [h10, h9]
    by_cases hlt : i < (ls.getD []).length
    rotate_left
    · refine cw_false (by simp; omega) ?_
      simp
      exact ⟨⟨_, rfl⟩, he⟩
    refine cw_true (by simp; omega) ?_
    cases ls with
    | none => simp at hlt
    | some ls =>
    obtain ⟨bb, oo, cc, hvv, _, ⟨hnn, _⟩, hx⟩ := ha
    cases hvv
    simp only [Option.getD_some] at hlt hlen hget hmax h9 h8
    obtain ⟨q, hq⟩ : ∃ q, ls[i]? = some q := ⟨_, List.getElem?_eq_getElem hlt⟩
    obtain ⟨x, hxx⟩ : ∃ x, u[i]? = some x := ⟨_, List.getElem?_eq_getElem (by omega)⟩
    obtain ⟨bv, rfl, _, hbv⟩ := hget i q x hq hxx
    obtain ⟨ab, cb, rfl, _⟩ := hbv.len
    have hcx := (hx i _ hq).2.ext (K := All) he (fun _ _ _ h => h) trivial
    have hcf := cellsFrom_list0 hcx
    have hl2 : [Value.int .u32 x.1, .slice ab x.2.length cb].length = 2 := rfl
    rw [hl2] at hcf
    have ho2 : allOne [Value.int .u32 x.1, .slice ab x.2.length cb] = true := rfl
    have hzc : (Value.agg #[.int .u32 0, .slice none 0 0]).cells = #[.int .u32 0, .slice none 0 0] := rfl
    have hov : over #[Value.int .u32 0, .slice none 0 0] 0 [Value.int .u32 x.1, .slice ab x.2.length cb] = #[Value.int .u32 x.1, .slice ab x.2.length cb] := rfl
    simp [h10, h8, idx?, ht.sU, hlt, Addr.add_mk, ld_agg ht.kU, hcf, hzU, hzc, store_agg ht.kU, ho2, putK_blk alloc_new, hov]
    generalize hw3 : (w'.alloc (.cells #[.int .u32 0, .slice none 0 0] E.t_spec_Tag)).setBlk w'.heap.size (.cells #[Value.int .u32 x.1, .slice ab x.2.length cb] E.t_spec_Tag (0, 0)) = w3
    have hb3 : w3.heap[w'.heap.size]? = some (.cells #[Value.int .u32 x.1, .slice ab x.2.length cb] E.t_spec_Tag (0, 0)) := by subst hw3; exact setBlk_same alloc_new
    have hx3 : Ext none1 w' w3 := by subst hw3; exact ((Ext.refl none1 w').alloc _).setBlk (.inl (Nat.le_refl _)) _
    have he3 : Ext none1 w w3 := he.trans hx3
    have hcb := cellsFrom_row hb3
    simp only [List.size_toArray, List.length_cons, List.length_nil] at hcb
    simp [hcb]
    refine (h4 w3 _ _ x.2 (hbv.ext he3 (fun _ _ _ h => h)) rfl).mono ?_
    rintro _ w4 ⟨⟨b, rfl⟩, he4⟩
    simp
    have ei : IntKind.i64.wrap ((i : Int) + 1) = ((i + 1 : Nat) : Int) := by rw [i64_small (by omega) (by omega)]; rfl
    cases b
    · refine cw_true (by simp) ?_
      simp
      exact ⟨⟨_, rfl⟩, he3.trans he4⟩
    · refine cw_false (by simp) ?_
      simp [h10, ei]
      refine ⟨⟨i + 1, by omega, by simp, by simp [h9], by simp [h8], he3.trans he4⟩, by omega⟩
theorem c_zzFits2 (hI : FnIs P E.f_laws_zzFits2 nt_laws_zzFits2 (rs_laws_zzFits2 E) (ir_laws_zzFits2 E))
    (h3 : ∀ (w : World) (uv : Value) (u : List (Nat × List UInt8)), UAt w uv u → Ret P E.f_laws_zzFits3 #[uv] w (SomeB w)) (w : World) (cs : List Value) (t : Tr) (hT : TreeAt w cs t) :
    Ret P E.f_laws_zzFits2 #[.agg cs.toArray] w (SomeB w) := by
  obtain ⟨hn, hs, ha, hl, he, hu⟩ := hT
  rename_i n s nul l u sv lv uv ls
  obtain ⟨a1, c1, rfl, _⟩ := hs.len
  obtain ⟨a2, c2, rfl, _, _⟩ := ha.form
  refine hI.call (args := [_]) (by simp [nt_laws_zzFits2]) ?_
  have hv : ∀ (a : Array Value), (Value.agg a).cells = a := fun a => rfl
  obtain ⟨Et, jt, hut, _, _⟩ := sliSz_spec ht.sT
  simp [ir_laws_zzFits2, rs_laws_zzFits2, hv]
  generalize hw1 : w.alloc (.cells #[.int .i64 n, .slice a1 s.length c1, .bool nul, .slice a2 (ls.getD []).length c2, uv] E.t_spec_Tree) = w1
  have hE : Ext none1 w w1 := by subst hw1; exact (Ext.refl none1 w).alloc _
  have hb1 : w1.heap[w.heap.size]? = some (.cells #[.int .i64 n, .slice a1 s.length c1, .bool nul, .slice a2 (ls.getD []).length c2, uv] E.t_spec_Tree (0, 0)) := by subst hw1; exact alloc_new
  have k1 : w1.cell? ⟨w.heap.size, 1, none⟩ = some (.slice a1 s.length c1) := by rw [cell_of_blk hb1]; rfl
  have k3 : w1.cell? ⟨w.heap.size, 3, none⟩ = some (.slice a2 (ls.getD []).length c2) := by rw [cell_of_blk hb1]; rfl
  have k4 : w1.cell? ⟨w.heap.size, 4, none⟩ = some uv := by rw [cell_of_blk hb1]; rfl
  simp [ht.t1, Addr.add_mk, ld_scl ht.kBs, k1, len_slice ht.uBs]
  refine cw_bool (c := decide ((2147483647 : Int) < s.length)) (by simp) ?_ ?_
  · intro _
    simp
    exact ⟨⟨_, rfl⟩, hE⟩
  intro _
  simp [ht.t3, Addr.add_mk, ld_scl ht.kLT, k3, len_slice hut]
  refine cw_bool (c := decide ((2147483647 : Int) < (ls.getD []).length)) (by simp) ?_ ?_
  · intro _
    simp
    exact ⟨⟨_, rfl⟩, hE⟩
  intro _
  simp [ht.t4, Addr.add_mk, ld_scl ht.kLU, k4]
  refine (h3 w1 uv u (hu.ext hE)).mono ?_
  rintro _ w2 ⟨⟨b, rfl⟩, he2⟩
  simp
  cases b
  · refine cw_true (by simp) ?_
    simp
    exact ⟨⟨_, rfl⟩, hE.trans he2⟩
  · refine cw_false (by simp) ?_
    simp
    exact ⟨⟨_, rfl⟩, hE.trans he2⟩
end
end Go.Kg

set_option linter.unusedSimpArgs false
set_option linter.unusedVariables false
namespace Go.Kg
open Go
def irFnCut (E : Env) (fMax fMsg fAg tup : Nat) : Ir :=
  (.seq
    (.reg [
        ⟨none, some 4, .box E.t_spec_Tree (.tmp 1), E.tNil⟩,
        ⟨none, some 6, .assign (.const (.bool false)), E.tB⟩])
  (.seq
    (.seq
      (.reg [
          ⟨none, some 13, .load E.t_spec_Tree (.tmp 4), E.t_spec_Tree⟩,
          ⟨none, some 14, .call { callee := .value (.func E.f_laws_zzFits2), args := #[.tmp 13], argTypes := #[E.t_spec_Tree] }, E.tB⟩,
          ⟨none, some 15, .unOp .not E.tB (.tmp 14), E.tB⟩])
    (.cond 15
      (.seq
        (.reg [
            ⟨none, some 6, .assign (.const (.bool true)), E.tB⟩])
      .ret)
      .skip))
  (.seq
    (.reg [
        ⟨none, some 16, .call { callee := .value (.func fMax), args := #[], argTypes := #[] }, E.tInt⟩,
        ⟨none, some 7, .assign (.tmp 16), E.tInt⟩])
  (.seq
    (.seq
      (.reg [
          ⟨none, some 17, .move (.tmp 7), E.tInt⟩,
          ⟨none, some 18, .binOp .lss E.tInt (.tmp 17) (.const (.int .i64 0)) E.tInt, E.tB⟩])
    (.cond 18
      (.seq
        (.reg [
            ⟨none, some 6, .assign (.const (.bool false)), E.tB⟩])
      .ret)
      .skip))
  (.seq
    (.regH [
        (true, ⟨none, some 20, .move (.tmp 0), E.tU8⟩),
        (true, ⟨none, some 21, .move (.tmp 7), E.tInt⟩),
        (true, ⟨none, some 23, .load E.t_spec_Tree (.tmp 4), E.t_spec_Tree⟩),
        (false, ⟨none, some 19, .call { callee := .value (.func fMsg), args := #[], argTypes := #[] }, E.t_spec_Message⟩),
        (false, ⟨none, some 22, .call { callee := .value (.func E.f_laws_version), args := #[.tmp 20, .tmp 21], argTypes := #[E.tU8, E.tInt] }, E.tInt⟩),
        (false, ⟨none, some 24, .call { callee := .value (.func E.f_spec_Write), args := #[.tmp 19, .tmp 22, .tmp 23], argTypes := #[E.t_spec_Message, E.tInt, E.t_spec_Tree] }, E.tBs⟩),
        (true, ⟨none, some 8, .assign (.tmp 24), E.tBs⟩)])
  (.seq
    (.reg [
        ⟨none, some 26, .move (.tmp 0), E.tU8⟩,
        ⟨none, some 27, .move (.tmp 7), E.tInt⟩,
        ⟨none, some 28, .call { callee := .value (.func E.f_laws_version), args := #[.tmp 26, .tmp 27], argTypes := #[E.tU8, E.tInt] }, E.tInt⟩,
        ⟨none, some 29, .move (.tmp 8), E.tBs⟩,
        ⟨none, some 30, .call { callee := .value (.func fAg), args := #[.tmp 28, .tmp 29], argTypes := #[E.tInt, E.tBs] }, tup⟩,
        ⟨none, some 25, .move (.tmp 30), tup⟩,
        ⟨none, some 31, .extract (.tmp 25) 0, E.tBs⟩,
        ⟨none, some 32, .extract (.tmp 25) 1, E.tB⟩,
        ⟨none, some 9, .assign (.tmp 31), E.tBs⟩,
        ⟨none, some 10, .assign (.tmp 32), E.tB⟩])
  (.seq
    (.seq
      (.reg [
          ⟨none, some 33, .move (.tmp 8), E.tBs⟩,
          ⟨none, some 34, .call { callee := .builtin .len, args := #[.tmp 33], argTypes := #[E.tBs] }, E.tInt⟩,
          ⟨none, some 35, .binOp .eql E.tInt (.tmp 34) (.const (.int .i64 0)) E.tInt, E.tB⟩])
    (.cond 35
      (.seq
        (.reg [
            ⟨none, some 36, .move (.tmp 10), E.tB⟩,
            ⟨none, some 6, .assign (.tmp 36), E.tB⟩])
      .ret)
      .skip))
  (.seq
    (.regH [
        (true, ⟨none, some 38, .move (.tmp 0), E.tU8⟩),
        (true, ⟨none, some 39, .move (.tmp 7), E.tInt⟩),
        (true, ⟨none, some 41, .move (.tmp 8), E.tBs⟩),
        (true, ⟨none, some 42, .move (.tmp 2), E.tU16⟩),
        (true, ⟨none, some 43, .convert E.tU16 E.tInt (.tmp 42), E.tInt⟩),
        (true, ⟨none, some 44, .move (.tmp 8), E.tBs⟩),
        (true, ⟨none, some 45, .call { callee := .builtin .len, args := #[.tmp 44], argTypes := #[E.tBs] }, E.tInt⟩),
        (true, ⟨none, some 46, .binOp .rem E.tInt (.tmp 43) (.tmp 45) E.tInt, E.tInt⟩),
        (true, ⟨none, some 47, .slice E.tBs (.tmp 41) none (some (.tmp 46)) none, E.tBs⟩),
        (false, ⟨none, some 40, .call { callee := .value (.func E.f_laws_version), args := #[.tmp 38, .tmp 39], argTypes := #[E.tU8, E.tInt] }, E.tInt⟩),
        (false, ⟨none, some 48, .call { callee := .value (.func fAg), args := #[.tmp 40, .tmp 47], argTypes := #[E.tInt, E.tBs] }, tup⟩),
        (true, ⟨none, some 37, .move (.tmp 48), tup⟩),
        (true, ⟨none, some 49, .extract (.tmp 37) 0, E.tBs⟩),
        (true, ⟨none, some 50, .extract (.tmp 37) 1, E.tB⟩),
        (true, ⟨none, some 11, .assign (.tmp 49), E.tBs⟩),
        (true, ⟨none, some 12, .assign (.tmp 50), E.tB⟩)])
  (.seq
    (.reg [
        ⟨none, some 51, .move (.tmp 10), E.tB⟩,
        ⟨none, some 52, .move (.tmp 51), E.tB⟩,
        ⟨(some (52, true)), some 53, .move (.tmp 12), E.tB⟩,
        ⟨(some (52, true)), some 54, .unOp .not E.tB (.tmp 53), E.tB⟩,
        ⟨none, some 55, .pick (.tmp 52) (.tmp 54) (.const (.bool false)), E.tB⟩,
        ⟨none, some 6, .assign (.tmp 55), E.tB⟩])
  .ret)))))))))
theorem TreeAt.five {w : World} {cs : List Value} {t : Tr} (h : TreeAt w cs t) : cs.length = 5 ∧ allOne cs = true := by
  cases h with
  | mk hn hs ha hl he hu =>
    obtain ⟨a1, c1, rfl, _⟩ := hs.len
    obtain ⟨a2, c2, rfl, _⟩ := ha.form
    obtain ⟨lu, hu1, _⟩ := hu
    obtain ⟨a3, c3, rfl, _⟩ := hu1.form
    simp [allOne, Value.oneCell']
/-- s[:l] of bytes -/
theorem BytesAt.upTo {w : World} {K : Nat → Prop} {a : Option Addr} {n c : Nat} {s : List UInt8} (h : BytesAt w K (.slice a n c) s) {l : Nat} (hl : l ≤ s.length) : BytesAt w K (.slice (if c = 0 then a else a.map (·.add 0)) l c) (s.take l) := by
  rcases h with ⟨⟨a', hv⟩, rfl⟩ | ⟨b, o, c', hv, h2, hk, h3⟩
  · cases hv
    have : l = 0 := by simpa using hl
    subst this
    exact .inl ⟨⟨a, by simp⟩, by simp⟩
  · cases hv
    refine .inr ⟨b, o, c, by simp [Nat.min_eq_left hl, Addr.add_mk], by simp; omega, fun h => hk (by rintro rfl; simp at h), ?_⟩
    intro i x hx
    rw [List.getElem?_take] at hx
    split at hx
    · exact h3 _ _ hx
    · cases hx
section
variable {P : Program} {E : Env} (ht : TyK P E) (hs : SpecFns P E)
include ht hs
end
end Go.Kg

set_option linter.unusedSimpArgs false
set_option linter.unusedVariables false
set_option linter.unusedSectionVars false
namespace Go.Kg
open Go
def irNewK (C : Cfg) (T fDef : Nat) : Ir :=
  .seq (.reg [⟨none, some 0, .alloc T, C.E.tNil⟩]) (.seq (.reg [⟨none, some 1, .alloc T, C.E.tNil⟩]) (.seq (.reg [⟨none, some 2, .call { callee := .value (.func fDef), args := #[.tmp 1], argTypes := #[T] }, C.E.tNil⟩])
  (.seq (.reg [⟨none, some 3, .load T (.tmp 1), T⟩, ⟨none, none, .store T (.tmp 0) (.tmp 3), C.E.tNil⟩]) .ret)))
theorem over_all {z c : Array Value} (h : z.size = c.size) : over z 0 c.toList = c := by
  have hd : z.toList.drop (0 + c.toList.length) = [] := List.drop_eq_nil_of_le (by simp [h])
  simp only [over, hd]; simp
theorem newKC {P : Program} {C : Cfg} {T n g nt fDef : Nat} {S : Sch} {z : Array Value} (hI : FnIs P g nt [.c 0 T] (irNewK C T fDef)) (hz : zeroOf P T = some (.agg z)) (hn : z.size = n) (hk : kindOf P T = .agg n) (hone : allOne (setD 0 (S.dst C) z).toList = true)
    (hD : DefRC P C n fDef S) (w : World) : Ret P g #[] w fun v w' => v = .agg (setD 0 (S.dst C) z) ∧ Ext none1 w w' := by
  generalize hzD : setD 0 (S.dst C) z = zD at *
  have hzDs : zD.size = n := by subst hzD; rw [setD_size]; exact hn
  refine hI.call (args := []) (by simp) ?_
  simp [irNewK, hz, Value.cells]
  generalize hw1 : w.alloc (.cells z T) = w1
  have hb1 : w1.heap[w.heap.size]? = some (.cells z T (0, 0)) := by subst hw1; exact alloc_new
  have hs1 : w1.heap.size = w.heap.size + 1 := by subst hw1; simp
  have hE1 : Ext none1 w w1 := by subst hw1; exact (Ext.refl none1 w).alloc _
  rw [← hs1]
  refine (hD (w1.alloc (.cells z T)) w1.heap.size 0 z T alloc_new (by omega)).mono ?_
  rintro v w2 rfl
  rw [hzD]
  generalize hw2 : (w1.alloc (.cells z T)).setBlk w1.heap.size (.cells zD T (0, 0)) = w2
  have hb2 : w2.heap[w1.heap.size]? = some (.cells zD T (0, 0)) := by subst hw2; exact setBlk_same alloc_new
  have hE2 : Ext none1 w1 w2 := by subst hw2; exact ((Ext.refl none1 w1).alloc _).setBlk (.inl (Nat.le_refl _)) _
  have hb20 := hE2.old hb1 (fun h => h)
  have l2 := cellsFrom_row hb2
  rw [hzDs] at l2
  simp [ld_agg hk, l2, store_agg hk, hzDs, hone, putK_blk hb20, over_all (show z.size = zD.size by omega)]
  refine ⟨by omega, ?_⟩
  have hb3 : (w2.setBlk w.heap.size (.cells zD T (0, 0))).heap[w.heap.size]? = some (.cells zD T (0, 0)) := setBlk_same hb20
  have l3 := cellsFrom_row hb3
  rw [hzDs] at l3
  simp [ld_agg hk, l3]
  exact (hE1.trans hE2).setBlk (.inl (Nat.le_refl _)) _
end Go.Kg

set_option linter.unusedSimpArgs false
set_option linter.unusedVariables false
set_option linter.unusedSectionVars false
namespace Go.Kg
open Go
section
variable {P : Program} {C : Cfg} {ok : TagL → Prop}
/-- v := v.F, the field's address being one operation -/
theorem w_loadL {f : Nat → Value} {w : World} {Q : Post} {T lv k o l t b : Nat} {p : Prim} {cs : List Value} {v : Value} (hp : p ≠ .uuid) (hpv : f lv = .pointer (some ⟨b, 0, none⟩)) (hlt : lv < t) (hF : fldOff P T k = some o) (hk : p.kOk P (p.ty C.E) = true) (hc : CellsAt w b 0 cs) (hs : seg cs o v.cells.toList) (hu : v.oneCell' = true) (hl : l < t)
    (h : ∀ f', LocVal w f' p l v → (∀ x, x < t → x ≠ l → f' x = f x) → Q .normal f' w) :
    (Ir.reg [⟨none, some t, .fieldAddr T (.tmp lv) k, C.E.tNil⟩, ⟨none, some (t + 1), .load (p.ty C.E) (.tmp t), p.ty C.E⟩, ⟨none, some l, .assign (.tmp (t + 1)), p.ty C.E⟩]).wp P Q f w := by
  have hk' : kindOf P (p.ty C.E) = .scl := by simp only [Prim.kOk, if_neg hp] at hk; exact isScl_spec hk
  have huc : v.cells = #[v] := by cases v <;> simp_all [Value.oneCell', Value.cells]
  have hl' : w.cell? ⟨b, o, none⟩ = some v := by simpa using hc o v (by simpa using hs 0 v (by simp [huc]))
  refine wp_reg ?_
  simp [hpv, hF, Addr.add_mk, ld_scl hk', hl']
  refine h _ ?_ ?_
  · simp [LocVal, hp]
  · intro x hx hxl
    have x3 : ∀ n, (x = t + n) = False := by intro n; simp; omega
    have x4 : (x = t) = False := by simp; omega
    simp [x3, x4, hxl]
theorem w_tagsL {Q : Post} {f : Nat → Value} {w : World} (ht : TyC P C) (hT : TagsC P C.E ok) {T lv k o t b base : Nat} {cs : List Value} {v u : Value} {s : List UInt8} {l : TagL} {fl : Bool} (hx : C.fx = true) (hfl : flagOk C f fl) (hsf : C.sf < t) (ht1 : 1 < t) (hpt : lv < t) (hp1 : lv ≠ 1)
    (hpv : f lv = .pointer (some ⟨b, 0, none⟩)) (hF : fldOff P T k = some o) (h1 : f 1 = v) (hb : ¬ own1 v b) (hbw : b < w.heap.size) (hc : CellsAt w b 0 cs) (hu : cs[o]? = some u) (hl : TagsAt w (· < base) u l) (hok : ok l) (ho : OwnB C.E.tU8 w base v s) (hbs : base ≤ w.heap.size)
    (hsz : s.length + (if fl then uvOut (l.length % 4294967296) ++ tagsOut l else []).length ≤ 1099511627776)
    (h : ∀ f' w' v', f' 1 = v' → OwnB C.E.tU8 w' base v' (s ++ (if fl then uvOut (l.length % 4294967296) ++ tagsOut l else [])) → Grew w v w' v' → Keeps f f' t → Q .normal f' w') : (tagsWL C T lv k t).wp P Q f w := by
  have hca : w.cell? ⟨b, o, none⟩ = some u := by simpa using hc o u hu
  refine w_flex (hfl.1 hx).1 hsf ht1 ?_ ?_
  · rintro rfl f1 hk hk1
    have hpv1 : f1 lv = .pointer (some ⟨b, 0, none⟩) := (hk lv hpt hp1).trans hpv
    have hv1 : f1 1 = v := hk1.trans h1
    have hlen : l.length < 4294967296 := by
      rcases hl with ⟨_, rfl⟩ | ⟨_, _, _, _, _, _, _, _, h, _⟩
      · simp
      · exact h.1
    have hm : l.length % 4294967296 = l.length := Nat.mod_eq_of_lt hlen
    simp only [if_true, List.length_append] at hsz
    refine wp_seqI (wp_reg ?_)
    have ew : IntKind.u32.wrap (l.length : Int) = l.length := u32_id _ hlen
    have e3 : ∀ n, (lv = t + n) = False := by intro n; simp; omega
    have e4 : ∀ n, (1 = t + n) = False := by intro n; simp; omega
    have e5 : ∀ m n, (lv = t + m + n) = False := by intro m n; simp; omega
    simp [hpv1, hF, Addr.add_mk, e3, e4, hv1]
    refine (hT.len w _ _ _ _ _ hca hl).mono ?_
    rintro _ w1 ⟨rfl, rfl⟩
    simp [ht.iInt, ht.iU32, ew, bin?]
    refine (hT.uv l.length hlen w1 base v s ho hbs (by rw [hm] at hsz; omega)).mono ?_
    rintro v2 w2 ⟨ho2, hg2⟩
    have hsz2 := hg2.size
    show (Ir.reg _).wp P _ _ _
    refine wp_reg ?_
    simp [hpv1, hF, Addr.add_mk, e3, e4, e5, hp1]
    have hl2 : TagsAt w2 (· < base) u l := hl.ext hg2.ext (fun b _ hb' ho' => by have := (Own.below ho ho').1; omega)
    have hb2 : ¬ own1 v2 b := fun h => (hg2.own b h).elim hb (fun h' => by omega)
    refine (hT.each w2 base v2 _ _ _ _ _ hok hb2 (hg2.ext.cell hca hb) hl2 ho2 (by omega) (by rw [hm] at hsz; simp; omega)).mono ?_
    rintro v3 w3 ⟨ho3, hg3⟩
    refine h _ _ v3 (by simp) ?_ (hg2.trans hg3) ?_
    · simp only [if_true, hm]
      rw [← List.append_assoc]; exact ho3
    · refine hk.trans (t' := t) ?_ (Nat.le_refl _)
      refine keeps_one ?_
      intro x hx h1
      have x3 : ∀ n, (x = t + n) = False := by intro n; simp; omega
      have x5 : ∀ m n, (x = t + m + n) = False := by intro m n; simp; omega
      simp [x3, x5, h1]
  · rintro rfl f1 hk hk1
    show Q .normal f1 w
    exact h f1 w v (hk1.trans h1) (by simpa using ho) (Grew.refl _ _) hk
/-- v := v.F, a struct, into a block of its own -/
theorem w_loadS {f : Nat → Value} {w : World} {Q : Post} {T PT pv k o T' sz l t b a : Nat} {z : Array Value} {cs : List Value} (hpv : f pv = .pointer (some ⟨b, a, none⟩)) (hF : fldOff P T k = some o) (hk : kindOf P T' = .agg sz) (hz : zeroOf P T' = some (.agg z)) (hzs : z.size = sz) (hc : CellsAt w b a cs)
    (hlen : ((cs.drop o).take sz).length = sz) (hone : allOne ((cs.drop o).take sz) = true) (hl : l < t)
    (h : ∀ f' w', f' l = .pointer (some ⟨w.heap.size, 0, none⟩) → w.heap.size < w'.heap.size → CellsAt w' w.heap.size 0 ((cs.drop o).take sz) → Ext none1 w w' → (∀ x, x < t → x ≠ l → f' x = f x) → Q .normal f' w') :
    (Ir.reg (addrR C T PT pv k t ++ [⟨none, some (t + 3), .load T' (.tmp (t + 2)), T'⟩, ⟨none, some l, .alloc T', C.E.tNil⟩, ⟨none, none, .store T' (.tmp l) (.tmp (t + 3)), C.E.tNil⟩])).wp P Q f w := by
  generalize hes : (cs.drop o).take sz = es at *
  have hsl : es.length = sz := hlen
  have hcf : cellsFrom w ⟨b, a + o, none⟩ 0 sz = some es := by
    have := cellsFrom_seg hc (u := es.toArray) (o := o) (by
      intro j u hj
      subst hes
      simp only [List.getElem?_take] at hj
      split at hj
      · rw [List.getElem?_drop] at hj; exact hj
      · cases hj)
    rwa [List.size_toArray, hsl] at this
  have e3 : ∀ n, (t + n = l) = False := by intro n; simp; omega
  have hov : over z 0 es = es.toArray := by
    have := over_all (z := z) (c := es.toArray) (by simp [hsl, hzs])
    simpa using this
  refine wp_reg ?_
  simp [addrR, hpv, hF, Addr.add_mk, ld_agg hk, hcf, hz, Value.cells, e3, store_agg hk, hsl, hone, putK_blk alloc_new, hov, hzs]
  refine h _ _ ?_ ?_ ?_ ?_ ?_
  · simp
  · simp
  · intro j u hj
    rw [cell_of_blk (setBlk_same alloc_new)]
    simpa using hj
  · exact ((Ext.refl none1 w).alloc _).setBlk (.inl (Nat.le_refl _)) _
  · intro x hx hxl
    have x3 : ∀ n, (x = t + n) = False := by intro n; simp; omega
    have x4 : (x = t) = False := by simp; omega
    simp [x3, x4, hxl]
/-- each cell is one field's -/
def Sch.cov (sz : Nat) : Sch → Nat → Bool
  | .fin, i => i == sz
  | .tags _ o, i => o == i && i + 1 == sz
  | .prim _ _ o p _ _ rest, i => o == i && p != .uuid && rest.cov sz (i + 1)
  | _, _ => false
theorem cov_one {w : World} {K : Nat → Prop} {es : List Value} {sz : Nat} (hl : es.length = sz) : ∀ (S : Sch) (x : S.T) (i : Nat), S.cov sz i = true → S.Rep w K es x → allOne (es.drop i) = true := by
  intro S
  have cons : ∀ (i : Nat) (v : Value), es[i]? = some v → v.oneCell' = true → allOne (es.drop (i + 1)) = true → allOne (es.drop i) = true := by
    intro i v hv h1 hr
    have hi := (List.getElem?_eq_some_iff.1 hv)
    rw [List.drop_eq_getElem_cons hi.1, hi.2]
    simp only [allOne, List.all_cons, Bool.and_eq_true] at hr ⊢
    exact ⟨h1, hr⟩
  induction S with
  | fin => intro x i h _; simp only [Sch.cov, beq_iff_eq] at h; subst h; rw [← hl, List.drop_length]; rfl
  | tags k o =>
    intro l i h hr
    simp only [Sch.cov, Bool.and_eq_true, beq_iff_eq] at h
    obtain ⟨rfl, h⟩ := h
    obtain ⟨u, hu, ht⟩ := hr
    refine cons o u hu ?_ ?_
    · rcases ht with ⟨rfl, _⟩ | ⟨_, _, _, rfl, _⟩ <;> rfl
    · rw [h, ← hl, List.drop_length]; rfl
  | prim g k o p en d rest ih =>
    intro x i h hr
    obtain ⟨x, xr⟩ := x
    obtain ⟨⟨v, hv, hr1⟩, hrr⟩ := hr
    simp only [Sch.cov, Bool.and_eq_true, beq_iff_eq, bne_iff_ne] at h
    obtain ⟨⟨rfl, hp⟩, h⟩ := h
    have hone := rep1_one hr1
    rw [if_neg hp] at hone
    have huc : v.cells = #[v] := by cases v <;> simp_all [Value.oneCell', Value.cells]
    exact cons o v (by simpa using hv 0 v (by simp [huc])) hone (ih xr (o + 1) h hrr)
  | arrP g k o sT nul p rest ih => intro x i h; simp [Sch.cov] at h
  | arrS g k o sT nul T' PT' sz df e rest ihe ih => intro x i h; simp [Sch.cov] at h
  | sub g k o T' PT' sz df e rest ihe ih => intro x i h; simp [Sch.cov] at h
  | opt g k o T' PT' PP sz df e rest ihe ih => intro x i h; simp [Sch.cov] at h
/-- what of a schema may stand in a variable of its own: plain fields without a guard, tags -/
def Sch.tyL (P : Program) (C : Cfg) (T : Nat) : Sch → Bool
  | .fin => true
  | .tags k o => C.fx && fldOff P T k == some o
  | .prim g k o p en _ rest => g.lo.isNone && en == 0 && p != .uuid && fldOff P T k == some o && p.kOk P (p.ty C.E) && rest.tyL P C T
  | _ => false
theorem genWL_mono : ∀ (S : Sch) (T l : Nat) (c : Ct), c.l ≤ (S.genWL C T l c).2.l ∧ c.t ≤ (S.genWL C T l c).2.t := by
  intro S
  induction S with
  | fin => intro T l c; exact ⟨Nat.le_refl _, Nat.le_refl _⟩
  | tags k o => intro T l c; exact ⟨Nat.le_refl _, by simp [Sch.genWL]⟩
  | prim g k o p en d rest ih =>
    intro T l c
    have := ih T l ⟨c.l + 1, c.t + 2 + emitN C p, c.k⟩
    simp only [Sch.genWL]
    simp only at this
    omega
  | arrP g k o sT nul p rest ih => intro T l c; exact ⟨Nat.le_refl _, Nat.le_refl _⟩
  | arrS g k o sT nul T' PT' sz df e rest ihe ih => intro T l c; exact ⟨Nat.le_refl _, Nat.le_refl _⟩
  | sub g k o T' PT' sz df e rest ihe ih => intro T l c; exact ⟨Nat.le_refl _, Nat.le_refl _⟩
  | opt g k o T' PT' PP sz df e rest ihe ih => intro T l c; exact ⟨Nat.le_refl _, Nat.le_refl _⟩
def SoundWL (P : Program) (C : Cfg) (ok : TagL → Prop) (S : Sch) : Prop := ∀ (T lv : Nat) (c : Ct) (Q : Post) (f : Nat → Value) (w : World) (b : Nat) (cs : List Value) (x : S.T) (ver : Int) (fl : Bool) (base : Nat) (s : List UInt8),
  S.tyL P C T = true → S.NeedW P C ok → FrW C f lv b 0 ver fl c.l → (S.genWL C T lv c).2.l ≤ c.t → ¬ own1 (f 1) b → b < w.heap.size → CellsAt w b 0 cs → S.Rep w (· < base) cs x → S.TagsOk ok x → Dst C f w base s → s.length + (S.wr ver fl x).length ≤ 1099511627776 →
  (∀ f' w', Wrote C f w base s (S.wr ver fl x) c.l (S.genWL C T lv c).2.l c.t f' w' → Q .normal f' w') → (seqL (S.genWL C T lv c).1).wp P Q f w
theorem soundWL (ht : TyC P C) : ∀ S : Sch, SoundWL P C ok S := by
  intro S
  induction S with
  | fin =>
    intro T lv c Q f w b cs x ver fl base s _ _ hf _ _ _ _ _ _ hd _ h
    exact h f w (Wrote.refl hd _ _ _)
  | tags k o =>
    intro T lv c Q f w b cs x ver fl base s hty hN hf hc hnb hbw hcs hr hok hd hsz h
    simp only [Sch.tyL, Bool.and_eq_true, beq_iff_eq] at hty
    obtain ⟨u, hu, hl⟩ := hr
    have hlt : c.l ≤ c.t := hc
    refine w_tagsL ht hN hty.1 hf.flg (by have := hf.sfN hty.1; omega) (by have := hf.one; omega) (by have := hf.ptrN; omega) hf.ptrN.2 hf.ptr hty.2 rfl hnb hbw hcs hu hl hok hd.1 hd.2 hsz ?_
    intro f' w' v' h1 ho hg hk
    exact h f' w' (Wrote.mk' hd.2 rfl h1 ho hg (KeepR.of hk hlt))
  | prim g k o p en d rest ih =>
    intro T lv c Q f w b cs x ver fl base s hty hN hf hc hnb hbw hcs hr hok hd hsz h
    obtain ⟨x, xr⟩ := x
    obtain ⟨⟨u, hu, hrep⟩, hrr⟩ := hr
    simp only [Sch.tyL, Bool.and_eq_true, beq_iff_eq, bne_iff_ne, Option.isNone_iff_eq_none] at hty
    obtain ⟨⟨⟨⟨⟨hg, hen⟩, hpu⟩, hF⟩, hk⟩, htr⟩ := hty
    have hon : g.on ver = true := by obtain ⟨lo, hi⟩ := g; simp only at hg; subst hg; rfl
    obtain ⟨hNp, hNr⟩ := hN
    have h1c := hf.one
    have hwr : Sch.wr ver fl (.prim g k o p en d rest) (x, xr) = p.wr fl x ++ rest.wr ver fl xr := by simp [Sch.wr, hon]
    rw [hwr] at hsz h
    simp only [List.length_append] at hsz
    have hm := genWL_mono (C := C) rest T lv ⟨c.l + 1, c.t + 2 + emitN C p, c.k⟩
    simp only [Sch.genWL] at hc h ⊢
    simp only at hm
    have hone := rep1_one hrep
    rw [if_neg hpu] at hone
    refine seqL_cons ?_
    refine wp_seqI ?_
    refine w_loadL (cs := cs) hpu hf.ptr (by have := hf.ptrN; omega) hF hk hcs hu hone (by omega) ?_
    intro f1 hv1 hk1
    have h11 : f1 1 = f 1 := hk1 1 (by omega) (by omega)
    have hf1 : FrW C f1 lv b 0 ver fl c.l := hf.keep (fun z hz _ => hk1 z (by omega) (by omega)) (Nat.le_refl _)
    show (emitW C p c.l (c.t + 2)).wp P _ f1 w
    refine w_emit ht (fun hp => absurd hp hpu) (x := x) (fl := fl) (u := u) (v := f 1) (by omega) (by omega) (by omega) hv1 h11 hf1.flg (fun hx => by have := hf1.sfN hx; omega) hNp hrep hd.1 hd.2 (by omega) ?_
    intro f2 w2 v2 h21 ho2 hg2 hk2
    have hd2 : Dst C f2 w2 base (s ++ p.wr fl x) := ⟨by rw [h21]; exact ho2, Nat.le_trans hd.2 hg2.size⟩
    have hK : ∀ z, z < w.heap.size → z < base → ¬ own1 (f 1) z := fun z _ hz ho => by have := (Own.below hd.1 ho).1; omega
    refine ih T lv ⟨c.l + 1, c.t + 2 + emitN C p, c.k⟩ Q f2 w2 b cs xr ver fl base (s ++ p.wr fl x) htr hNr ?_ (by simp only; omega) ?_ (Nat.lt_of_lt_of_le hbw hg2.size) ?_ (Sch.Rep_ext hg2.ext hK rest hrr) hok hd2 (by simp only [List.length_append]; omega) ?_
    · exact (hf1.keep (fun z hz hz1 => hk2 z (by omega) hz1) (Nat.le_refl _)).up (by simp only; omega)
    · rw [h21]; exact fun h' => (hg2.own b h').elim hnb (fun h'' => by omega)
    · intro j y hj
      exact hg2.ext.cell (hcs j y hj) hnb
    · intro f3 w3 hw3
      refine h f3 w3 ?_
      have hw2 : Wrote C f w base s (p.wr fl x) c.l (c.l + 1) c.t f2 w2 := Wrote.mk' hd.2 rfl h21 ho2 hg2 (fun z hz1 hz => (hk2 z (by omega) hz1).trans (hk1 z (by omega) (by omega)))
      exact hw2.trans hw3 (by simp) hm.1 (by simp only; omega)
  | arrP g k o sT nul p rest ih => intro T lv c Q f w b cs x ver fl base s hty; simp [Sch.tyL] at hty
  | arrS g k o sT nul T' PT' sz df e rest ihe ih => intro T lv c Q f w b cs x ver fl base s hty; simp [Sch.tyL] at hty
  | sub g k o T' PT' sz df e rest ihe ih => intro T lv c Q f w b cs x ver fl base s hty; simp [Sch.tyL] at hty
  | opt g k o T' PT' PP sz df e rest ihe ih => intro T lv c Q f w b cs x ver fl base s hty; simp [Sch.tyL] at hty
end
end Go.Kg

set_option linter.unusedSimpArgs false
set_option linter.unusedVariables false
set_option linter.unusedSectionVars false
namespace Go.Kg
open Go
/-- How a known tag's field stands in a struct's cells. -/
def Kn.Rep (w : World) (K : Nat → Prop) (cs : List Value) (o : Nat) : (c : Kn) → c.T → Prop
  | .prim p _, x => ∃ v, seg cs o v.cells.toList ∧ p.rep1 w K v x
  | .arr _ _ _ sz _ e, a => ∃ v ls, cs[o]? = some v ∧ ArrAt w K sz v ls ∧ (ls.isSome = (show Option (List e.T) from a).isSome ∧ InHeap w v) ∧ (ls.getD []).length = ((show Option (List e.T) from a).getD []).length ∧
      ∀ (i : Nat) (es : List Value) x, (ls.getD [])[i]? = some es → ((show Option (List e.T) from a).getD [])[i]? = some x → e.Rep w K es x
  | .str _ _ sz _ _ _ e, x => ((cs.drop o).take sz).length = sz ∧ e.Rep w K ((cs.drop o).take sz) x
def KsRep (w : World) (K : Nat → Prop) (cs : List Value) : (l : List KF) → KsT l → Prop
  | [], _ => True
  | f :: l, (v, r) => f.c.Rep w K cs f.o v ∧ KsRep w K cs l r
theorem Kn.Rep_ext {w w' : World} {K C : Nat → Prop} (he : Ext C w w') (hK : ∀ b, b < w.heap.size → K b → ¬ C b) {cs : List Value} {o : Nat} (c : Kn) {x : c.T} (h : c.Rep w K cs o x) : c.Rep w' K cs o x := by
  cases c with
  | prim p d => obtain ⟨v, h1, h2⟩ := h; exact ⟨v, h1, Prim.rep1_ext he hK h2⟩
  | arr sT T PT sz df e =>
    obtain ⟨v, ls, h1, h2, h3, h4, h5⟩ := h
    exact ⟨v, ls, h1, h2.ext he hK, ⟨h3.1, h3.2.ext he⟩, h4, fun i es y hi hy => Sch.Rep_ext he hK e (h5 i es y hi hy)⟩
  | str T PT sz df sm mk e => exact ⟨h.1, Sch.Rep_ext he hK e h.2⟩
theorem KsRep_ext {w w' : World} {K C : Nat → Prop} (he : Ext C w w') (hK : ∀ b, b < w.heap.size → K b → ¬ C b) {cs : List Value} : ∀ (l : List KF) {x : KsT l}, KsRep w K cs l x → KsRep w' K cs l x
  | [], _, _ => trivial
  | f :: l, (v, r), h => ⟨Kn.Rep_ext he hK f.c h.1, KsRep_ext he hK l h.2⟩
/-- which are written: their numbers and texts -/
def ksOuts (ver : Int) : (l : List KF) → KsT l → List (Nat × List UInt8)
  | [], _ => []
  | f :: l, (v, r) => (if f.c.set v then [(f.num, f.c.wr ver v)] else []) ++ ksOuts ver l r
theorem ksOuts_len (ver : Int) : ∀ (l : List KF) (x : KsT l), (ksOuts ver l x).length = ksN l x
  | [], _ => rfl
  | f :: l, (v, r) => by simp only [ksOuts, ksN, List.length_append, ksOuts_len ver l r]; split <;> simp
theorem ksOuts_wr (ver : Int) : ∀ (l : List KF) (x : KsT l), ksW ver l x = (ksOuts ver l x).flatMap fun y => kTag y.1 y.2
  | [], _ => rfl
  | f :: l, (v, r) => by simp only [ksOuts, ksW, List.flatMap_append, ksOuts_wr ver l r]; split <;> simp
def Prim.eqOk (P : Program) (E : Env) : Prim → Bool
  | .bool => match P.underlying E.tB with | some .bool => true | _ => false
  | .i8 | .i16 | .i32 | .i64 => true
  | .uuid => true
  | .nstr => isPtrT P E.tPS
  | _ => false
def KF.tyW (P : Program) (C : Cfg) (T : Nat) (f : KF) : Bool := fldOff P T f.k == some f.o && decide (f.num < 4294967296) && match f.c with
  | .prim p _ => p.kOk P (p.ty C.E) && p.eqOk P C.E
  | .arr sT T' _ sz _ e => isScl (kindOf P sT) && sliSz P sT == some sz && e.tyW P C T'
  | .str T' _ sz _ _ _ e => (match kindOf P T' with | .agg n => n == sz | _ => false) && e.tyL P C T' && (match zeroOf P T' with | some (.agg z) => z.size == sz | _ => false) && e.cov sz 0
/-- zzSame, against what is by default -/
def SameK (P : Program) (same : Nat) (e : Sch) : Prop := ∀ (w : World) (K : Nat → Prop) (cs ds : Array Value) (x : e.T), e.Rep w K cs.toList x → e.chkD ds.toList = true → Ret P same #[.agg cs, .agg ds] w fun v w' => v = .bool (e.isD x) ∧ Ext none1 w w'
/-- the function that makes what is by default -/
def MkC (P : Program) (mk : Nat) (e : Sch) : Prop := ∀ w : World, Ret P mk #[] w fun v w' => (∃ ds : Array Value, v = .agg ds ∧ e.chkD ds.toList = true) ∧ Ext none1 w w'
def Kn.NeedW (P : Program) (C : Cfg) (ok : TagL → Prop) : Kn → Prop
  | .prim p _ => PrimW P C p ∧ p.text = false
  | .arr _ _ _ _ _ e => LenWC P C none ∧ e.NeedW P C ok
  | .str _ _ _ _ same mk e => e.NeedW P C ok ∧ SameK P same e ∧ MkC P mk e
def KsNeedW (P : Program) (C : Cfg) (ok : TagL → Prop) : List KF → Prop
  | [] => True
  | f :: l => f.c.NeedW P C ok ∧ KsNeedW P C ok l
section
variable {P : Program} {C : Cfg} {ok : TagL → Prop}
/-- ahead of the count: L holds the numbers of those to be written, so far -/
structure PreS (C : Cfg) (L tm : Nat) (w0 : World) (f0 : Nat → Value) (d : List Nat) (f : Nat → Value) (w : World) : Prop where
  ext : Ext none1 w0 w
  own : Own w w0.heap.size C.E.tU32 1 (f L) (d.map fun n => .int .u32 (n : Nat))
  keep : ∀ x, x < tm → x ≠ L → f x = f0 x
theorem PreS.upd {L tm : Nat} {w0 : World} {f0 : Nat → Value} {d : List Nat} {f : Nat → Value} {w : World} (h : PreS C L tm w0 f0 d f w) {t : Nat} (ht : tm ≤ t) (hL : L < tm) (v : Value) : PreS C L tm w0 f0 d (upd f t v) w :=
  ⟨h.ext, by rw [upd_apply, if_neg (by omega)]; exact h.own, fun x hx hxL => by rw [upd_apply, if_neg (by omega)]; exact h.keep x hx hxL⟩
theorem w_enc {sl L n t tm : Nat} (hS : SliI P sl C.E.tU32 1 4 (.int .u32 0)) {w0 : World} {f0 f : Nat → Value} {w : World} {d : List Nat} {Q : Post} (h : PreS C L tm w0 f0 d f w) (hd : d.length ≤ 1000) (hL : L < tm) (ht : tm ≤ t)
    (hq : ∀ f' w', PreS C L tm w0 f0 (d ++ [n]) f' w' → Q .normal f' w') : (encI C sl L n t).wp P Q f w := by
  have e1 : ∀ m, (L = t + m) = False := by intro m; simp; omega
  have e2 : (L = t) = False := by simp; omega
  have hsz := h.ext.size
  refine wp_reg ?_
  simp [encI]
  rw [st_bsl (n := 1) (parts := #[(0, .const (.int .u32 n))]) hS (by omega) (by rfl) rfl (by omega) (by omega) (by simp [allSz, Value.cells])]
  simp [flat, Value.cells]
  generalize hw1 : w.alloc (.cells #[.int .u32 n] C.E.tU32) = w1
  have hE1 : Ext none1 w w1 := by subst hw1; exact (Ext.refl _ _).alloc _
  have hb1 : w1.heap[w.heap.size]? = some (.cells #[.int .u32 n] C.E.tU32 (0, 0)) := by subst hw1; exact alloc_new
  have hs1 : w.heap.size < w1.heap.size := lt_of_heap hb1
  refine st_append hS (by omega) (base := w0.heap.size) (xs := d.map fun n => .int .u32 (n : Nat)) (by simpa using Own.ext h.own hE1 (fun _ _ h => h)) (ad := some ⟨w.heap.size, 0, none⟩) (m := 1) (c := 1) (news := [.int .u32 n]) (by simp) (by simp) (by simp) ?_ (by simp [Value.oneCell']) (by simp [maxLen]; omega) (by simp; omega) (by omega) ?_
  · intro a ha j u hj
    cases ha
    cases j with
    | zero => simp at hj; subst hj; simp [Addr.add_mk, cell_of_blk hb1]
    | succ j => simp at hj
  · intro v' w2 ho2 hg2
    simp at hg2
    try simp
    refine hq _ _ ⟨?_, ?_, ?_⟩
    · have hx := (h.ext.trans hE1)
      exact ⟨hg2.ext.os.trans hx.os, hg2.ext.tape.trans hx.tape, hg2.ext.output.trans hx.output, Nat.le_trans hx.size hg2.ext.size,
        fun i hi hc => (hg2.ext.block i (Nat.lt_of_lt_of_le hi hx.size) (fun ho => by have := (Own.below h.own ho).1; omega)).trans (hx.block i hi hc)⟩
    · simpa using ho2
    · intro x hx hxL
      have a1 : ∀ m, (x = t + m) = False := by intro m; simp; omega
      have a2 : (x = t) = False := by simp; omega
      simp [a1, a2, hxL]
      exact h.keep x hx hxL
/-- the test of a known tag -/
theorem w_preR (ht : TyC P C) (hu : isAgg16 (kindOf P C.E.tUu) = true → TyUuE P C.E) {T PT pv t tm L : Nat} {kf : KF} (hty : kf.tyW P C T = true) {w0 : World} {f0 f : Nat → Value} {w : World} {dn : List Nat} {Q : Post} {b a : Nat} {cs : List Value} {x : kf.c.T} {K : Nat → Prop}
    (h : PreS C L tm w0 f0 dn f w) (hL : L < tm) (htm : tm ≤ t) (hpv : f pv = .pointer (some ⟨b, a, none⟩)) (hptm : pv < t) (hcs : CellsAt w b a cs) (hrep : kf.c.Rep w K cs kf.o x)
    (hN : kf.c.NeedW P C ok)
    (hq : ∀ f' w', PreS C L tm w0 f0 dn f' w' → f' (t + (preR C T PT pv kf t).2) = .bool (kf.c.set x) → Q .normal f' w') : (preR C T PT pv kf t).1.wp P Q f w := by
  obtain ⟨num, k, o, c⟩ := kf
  simp only [KF.tyW, Bool.and_eq_true, beq_iff_eq] at hty
  obtain ⟨⟨hF, _⟩, hty⟩ := hty
  simp only at hF hrep x
  have e1 : ∀ m, (pv = t + m) = False := by intro m; simp; omega
  have e2 : (pv = t) = False := by simp; omega
  have up : ∀ {g : Nat → Value}, PreS C L tm w0 f0 dn g w → ∀ m v, PreS C L tm w0 f0 dn (upd g (t + m) v) w := fun hg m v => hg.upd (by omega) hL v
  have up0 : ∀ {g : Nat → Value}, PreS C L tm w0 f0 dn g w → ∀ v, PreS C L tm w0 f0 dn (upd g t v) w := fun hg v => hg.upd htm hL v
  cases c with
  | str T' PT' sz df sm mk e =>
    obtain ⟨hlen, hre⟩ := hrep
    obtain ⟨_, hSame, hMk⟩ := hN
    simp only [Bool.and_eq_true] at hty
    have hk' : kindOf P T' = .agg sz := by
      have := hty.1.1.1
      split at this
      · rename_i n hn; rw [hn]; simp only [beq_iff_eq] at this; rw [this]
      · cases this
    have hsegL := hlen
    have hl' : ∀ w' : World, CellsAt w' b a cs → cellsFrom w' ⟨b, a + o, none⟩ 0 sz = some ((cs.drop o).take sz) := by
      intro w' hc'
      have := cellsFrom_seg hc' (u := ((cs.drop o).take sz).toArray) (o := o) (by
        intro j u hj
        simp only [List.getElem?_take] at hj
        split at hj
        · rw [List.getElem?_drop] at hj; exact hj
        · cases hj)
      rwa [List.size_toArray, hsegL] at this
    have hD := (Ext.refl none1 w).drew
    have hcD : CellsAt w.drew b a cs := CellsAt.ext (K := fun _ => True) hD (fun _ _ _ h => h) hcs trivial
    have hreD := Sch.Rep_ext hD (fun _ _ _ h => h) e hre
    refine Ir.cw_sound _ ?_
    refine cw_regH (fun w' => CellsAt w' b a cs) hcD ?_
    simp +contextual [preR, addrR, hpv, hF, Addr.add_mk, ld_agg hk', hl', hcD]
    refine (hMk w.drew).mono ?_
    rintro _ w1 ⟨⟨ds, rfl, hds⟩, hE1⟩
    have hc1 : CellsAt w1 b a cs := CellsAt.ext (K := fun _ => True) hE1 (fun _ _ _ h => h) hcD trivial
    refine ⟨hc1, ?_⟩
    refine (hSame w1 K ((cs.drop o).take sz).toArray ds x (by simpa using Sch.Rep_ext hE1 (fun _ _ _ h => h) e hreD) hds).mono ?_
    rintro _ w2 ⟨rfl, hE2⟩
    have hc2 : CellsAt w2 b a cs := CellsAt.ext (K := fun _ => True) hE2 (fun _ _ _ h => h) hc1 trivial
    refine ⟨hc2, ?_⟩
    simp +contextual [un?]
    have hE := (hD.trans hE1).trans hE2
    have h' : PreS C L tm w0 f0 dn f w2 := ⟨h.ext.trans hE, Own.ext h.own hE (fun _ _ h => h), h.keep⟩
    have up' : ∀ {g : Nat → Value}, PreS C L tm w0 f0 dn g w2 → ∀ m v, PreS C L tm w0 f0 dn (upd g (t + m) v) w2 := fun hg m v => hg.upd (by omega) hL v
    refine hq _ w2 (up' (up' (up' (up' (up' (up' (h'.upd htm hL _) _ _) _ _) _ _) _ _) _ _) _ _) ?_
    simp [preR, Kn.set]
  | arr sT T' PT' sz df e =>
    obtain ⟨v, ls, hv, harr, ⟨hsome, _⟩, hlen, _⟩ := hrep
    simp only [Bool.and_eq_true, beq_iff_eq] at hty
    obtain ⟨⟨hk, hsl⟩, _⟩ := hty
    obtain ⟨ad, cp, rfl, _, hmax⟩ := harr.form
    obtain ⟨E, j, hus, _, _⟩ := sliSz_spec hsl
    have cv : w.cell? ⟨b, a + o, none⟩ = some (.slice ad (ls.getD []).length cp) := hcs _ _ hv
    refine wp_reg ?_
    simp [preR, addrR, hpv, hF, Addr.add_mk, ld_scl (isScl_spec hk), cv, len_slice hus]
    refine hq _ w (up (up (up (up (up (up0 h _) _ _) _ _) _ _) _ _) _ _) ?_
    simp only [preR, upd_apply, if_true]
    congr 1
    show _ = !((show Option (List e.T) from x).getD []).isEmpty
    rw [hlen]
    cases hx : (show Option (List e.T) from x).getD [] with
    | nil => simp
    | cons y l => simp
  | prim p d =>
    obtain ⟨v, hv, hr1⟩ := hrep
    simp only [Bool.and_eq_true] at hty
    obtain ⟨hk, heq⟩ := hty
    by_cases hp : p = .uuid
    · subst hp
      have hTu := hu (kOk_uu hk rfl)
      obtain ⟨rfl, h16⟩ := hr1
      have hk' : kindOf P C.E.tUu = .agg 16 := hTu.kUu
      have hl' := cellsFrom_seg hcs (u := (cellsOf x).toArray) hv
      rw [show (cellsOf x).toArray.size = 16 by rw [List.size_toArray]; exact cellsOf_length.trans h16] at hl'
      refine wp_reg2 (l1 := addrR C T PT pv k t ++ [⟨none, some (t + 3), .load C.E.tUu (.tmp (t + 2)), C.E.tUu⟩]) (l2 := [⟨none, some (t + 4), .build C.E.tUu #[], C.E.tUu⟩, ⟨none, some (t + 5), .binOp .neq C.E.tUu (.tmp (t + 3)) (.tmp (t + 4)) C.E.tUu, C.E.tB⟩]) ?_
      simp [addrR, hpv, hF, Addr.add_mk, ld_agg hk', hl']
      rw [regWp_cons]
      simp only [wantedF_none, if_true]
      refine st_build16 hTu ?_
      rw [regWp_cons]
      simp only [wantedF_none, if_true]
      refine st_neq16 hTu (l := x) (m := List.replicate 16 0) h16 (by simp) ?_ ?_ ?_
      · simp [updO]
      · simp [updO, z16]
      · show Q .normal _ w
        refine hq _ w ?_ ?_
        · simp only [updO]; exact up (up (up (up (up (up0 h _) _ _) _ _) _ _) _ _) _ _
        · simp only [preR, updO, upd_apply, if_true]; rfl
    · have hk' : kindOf P (p.ty C.E) = .scl := by simp only [Prim.kOk, if_neg hp] at hk; exact isScl_spec hk
      have hone := rep1_one hr1
      rw [if_neg hp] at hone
      have huc : v.cells = #[v] := by cases v <;> simp_all [Value.oneCell', Value.cells]
      have cv : w.cell? ⟨b, a + o, none⟩ = some v := hcs _ _ (by simpa using hv 0 v (by simp [huc]))
      have fin : bin? P .neq (p.ty C.E) (.const (p.constV d)) v (p.constV d) = some (.bool (Kn.set (.prim p d) x)) := by
        cases p with
        | bool =>
          have h' : v = .bool x := hr1
          have hb : P.underlying C.E.tB = some .bool := by simp only [Prim.eqOk] at heq; split at heq <;> first | assumption | cases heq
          subst h'
          exact bin_bool_neq hb
        | i8 => have h' : v = .int .i8 x := hr1; subst h'; exact bin_neq
        | i16 => have h' : v = .int .i16 x := hr1; subst h'; exact bin_neq
        | i32 => have h' : v = .int .i32 x := hr1; subst h'; exact bin_neq
        | i64 => have h' : v = .int .i64 x := hr1; subst h'; exact bin_neq
        | nstr =>
          obtain ⟨E, hE⟩ := isPtrT_spec (show isPtrT P C.E.tPS = true from heq)
          cases x with
          | none => have h' : v = .pointer none := hr1; subst h'; exact bin_nnil_ptr hE
          | some l => obtain ⟨ad, rfl, _⟩ := hr1; exact bin_nnil_ptr hE
        | uuid => exact absurd rfl hp
        | u16 => cases heq
        | str => cases heq
        | bytes => cases heq
        | nbytes => cases heq
      have hpre : preR C T PT pv ⟨num, k, o, .prim p d⟩ t = (.reg (addrR C T PT pv k t ++ [⟨none, some (t + 3), .load (p.ty C.E) (.tmp (t + 2)), p.ty C.E⟩, ⟨none, some (t + 4), .binOp .neq (p.ty C.E) (.tmp (t + 3)) (.const (p.constV d)) (p.ty C.E), C.E.tB⟩]), 4) := by
        cases p <;> first | rfl | exact absurd rfl hp
      rw [hpre] at hq ⊢
      refine wp_reg ?_
      simp [addrR, hpv, hF, Addr.add_mk, ld_scl hk', cv, fin]
      refine hq _ w (up (up (up (up (up0 h _) _ _) _ _) _ _) _ _) ?_
      simp
/-- which are set, in order -/
def ksSet : (l : List KF) → KsT l → List Nat
  | [], _ => []
  | f :: l, (v, r) => (if f.c.set v then [f.num] else []) ++ ksSet l r
theorem ksOuts_set (ver : Int) : ∀ (l : List KF) (x : KsT l), (ksOuts ver l x).map (·.1) = ksSet l x
  | [], _ => rfl
  | f :: l, (v, r) => by simp only [ksOuts, ksSet, List.map_append, ksOuts_set ver l r]; split <;> simp
theorem ksSet_len : ∀ (l : List KF) (x : KsT l), (ksSet l x).length ≤ l.length
  | [], _ => Nat.le_refl _
  | f :: l, (v, r) => by have := ksSet_len l r; simp only [ksSet, List.length_append, List.length_cons]; split <;> simp <;> omega
theorem preW_t (C : Cfg) (T PT pv sl L : Nat) : ∀ (ks : List KF) (t : Nat), t ≤ (preW C T PT pv sl L ks t).2
  | [], t => Nat.le_refl _
  | f :: r, t => by
    have := preW_t C T PT pv sl L r (t + (preR C T PT pv f t).2 + 4)
    simp only [preW]; omega
theorem w_pre (ht : TyC P C) (hu : isAgg16 (kindOf P C.E.tUu) = true → TyUuE P C.E) {sl L T PT pv tm : Nat} (hS : SliI P sl C.E.tU32 1 4 (.int .u32 0)) {w0 : World} {f0 : Nat → Value} {Q : Post} {b a : Nat} {cs : List Value} {K : Nat → Prop} (hL : L < tm) (hpL : pv ≠ L) (hptm : pv < tm) (hcs : CellsAt w0 b a cs) (hb : ∀ b, K b → b < w0.heap.size → True) (hpv : f0 pv = .pointer (some ⟨b, a, none⟩)) :
    ∀ (ks : List KF) (x : KsT ks) (dn : List Nat) (t : Nat) (f : Nat → Value) (w : World), (ks.all (·.tyW P C T)) = true → KsRep w0 K cs ks x → dn.length + ks.length ≤ 1000 → tm ≤ t → PreS C L tm w0 f0 dn f w →
      KsNeedW P C ok ks → (∀ f' w', PreS C L tm w0 f0 (dn ++ ksSet ks x) f' w' → Q .normal f' w') → (seqL (preW C T PT pv sl L ks t).1).wp P Q f w := by
  intro ks
  induction ks with
  | nil =>
    intro x dn t f w _ _ _ _ h _ hq
    exact hq f w (by simpa [ksSet] using h)
  | cons kf r ih =>
    rintro ⟨v, xr⟩ dn t f w hty ⟨hr, hrr⟩ hd htm h ⟨hN, hNr⟩ hq
    simp only [List.all_cons, Bool.and_eq_true] at hty
    simp only [List.length_cons] at hd
    simp only [preW]
    refine seqL_cons ?_
    have hex : Ext none1 w0 w := h.ext
    refine wp_seqI ?_
    refine w_preR ht hu hty.1 h hL htm ((h.keep pv hptm hpL).trans hpv) (by omega) (CellsAt.ext (K := fun _ => True) (C := none1) hex (fun _ _ _ h => h) hcs trivial) (Kn.Rep_ext hex (fun _ _ _ h => h) kf.c hr) hN ?_
    intro f1 w1 h1 hc
    have next : ∀ f2 w2, PreS C L tm w0 f0 (dn ++ if kf.c.set v then [kf.num] else []) f2 w2 → (seqL (preW C T PT pv sl L r (t + (preR C T PT pv kf t).2 + 4)).1).wp P Q f2 w2 := by
      intro f2 w2 h2
      refine ih xr _ _ f2 w2 hty.2 hrr ?_ (by omega) h2 hNr ?_
      · simp only [List.length_append]; split <;> simp <;> omega
      · intro f' w' h'
        refine hq f' w' ?_
        simpa only [ksSet, List.append_assoc] using h'
    cases hset : kf.c.set v
    · rw [hset] at hc next
      exact .inr ⟨hc, next f1 w1 (by simpa using h1)⟩
    · rw [hset] at hc next
      refine .inl ⟨hc, ?_⟩
      refine w_enc hS h1 (by omega) hL (by omega) ?_
      intro f2 w2 h2
      exact next f2 w2 (by simpa using h2)
end
end Go.Kg

set_option linter.unusedSimpArgs false
set_option linter.unusedVariables false
set_option linter.unusedSectionVars false
namespace Go.Kg
open Go
theorem Own.form {w : World} {base e : Nat} {v : Value} {xs : List Value} (h : Own w base e 1 v xs) : ∃ a c, v = .slice a xs.length c ∧ xs.length ≤ c := by
  obtain ⟨n, h1, h2⟩ := h
  have hn : n = xs.length := by omega
  subst hn
  rcases h2 with ⟨rfl, hn⟩ | ⟨g, cap, cur, rfl, hb, hg, hnc, hcm, hcs, htake⟩
  · exact ⟨none, 0, by rw [hn], by omega⟩
  · exact ⟨_, cap, rfl, hnc⟩
/-- v[:k] -/
theorem Own.upTo {w : World} {base e : Nat} {a : Option Addr} {n c : Nat} {xs : List Value} (h : Own w base e 1 (.slice a n c) xs) {k : Nat} (hk : k ≤ xs.length) : Own w base e 1 (.slice (if c = 0 then a else a.map (·.add 0)) k c) (xs.take k) := by
  obtain ⟨n', h1, h2⟩ := h
  refine ⟨k, by simp; omega, ?_⟩
  rcases h2 with ⟨hv, hn⟩ | ⟨g, cap, cur, hv, hb, hg, hnc, hcm, hcs, htake⟩
  · cases hv
    have : k = 0 := by omega
    subst this
    exact .inl ⟨by simp, rfl⟩
  · cases hv
    refine .inr ⟨g, c, cur, by simp [Addr.add_mk], hb, hg, by omega, hcm, hcs, ?_⟩
    rw [← htake, List.take_take]
    congr 1
    omega
theorem OwnB.upTo {u8 : Nat} {w : World} {base : Nat} {a : Option Addr} {n c : Nat} {s : List UInt8} (h : OwnB u8 w base (.slice a n c) s) {k : Nat} (hk : k ≤ s.length) : OwnB u8 w base (.slice (if c = 0 then a else a.map (·.add 0)) k c) (s.take k) := by
  have := Own.upTo (k := k) h (by simpa using hk)
  unfold OwnB
  have e : cellsOf (s.take k) = (cellsOf s).take k := by simp [cellsOf]
  rw [e]; exact this
theorem own1_upTo {a : Option Addr} {n c k m : Nat} {b : Nat} (h : own1 (.slice (if c = 0 then a else a.map (·.add 0)) k m) b) : own1 (.slice a n c) b := by
  cases a with
  | none =>
    have e : (if c = 0 then (none : Option Addr) else (none : Option Addr).map (·.add 0)) = none := by split <;> rfl
    rw [e] at h; exact h
  | some a =>
    by_cases hc : c = 0
    · rw [if_pos hc] at h; exact h
    · rw [if_neg hc] at h; exact h
/-- where the elements stand -/
theorem Own.cells1 {w : World} {base e : Nat} {v : Value} {xs : List Value} (h : Own w base e 1 v xs) (hne : xs ≠ []) : ∃ g c, v = .slice (some ⟨g, 0, none⟩) xs.length c ∧ base ≤ g ∧ g < w.heap.size ∧ ∀ i u, xs[i]? = some u → w.cell? ⟨g, i, none⟩ = some u := by
  obtain ⟨n, h1, h2⟩ := h
  have hn : n = xs.length := by omega
  subst hn
  rcases h2 with ⟨rfl, hn⟩ | ⟨g, cap, cur, rfl, hb, hg, hnc, hcm, hcs, htake⟩
  · exact absurd (List.eq_nil_of_length_eq_zero hn) hne
  · refine ⟨g, cap, rfl, hb, lt_of_heap hg, fun i u hi => ?_⟩
    rw [cell_of_blk hg]
    have : (cur.toList.take (xs.length * 1))[i]? = some u := by rw [htake]; exact hi
    rw [List.getElem?_take] at this
    split at this
    · simpa using this
    · cases this
section
variable {P : Program} {C : Cfg}
theorem Wrote.upd {f g : Nat → Value} {w w' : World} {base n m t : Nat} {s out : List UInt8} (h : Wrote C f w base s out n m t g w') (hn : n ≤ t) {x : Nat} (hx : t ≤ x) (hx1 : x ≠ 1) (v : Value) : Wrote C f w base s out n m t (upd g x v) w' := by
  have e : (Go.Kg.upd g x v) 1 = g 1 := by rw [upd_apply, if_neg (by omega)]
  refine ⟨?_, ?_, ?_⟩
  · have := h.dst; unfold Dst at this ⊢; rwa [e]
  · have := h.grew; rwa [e]
  · intro y hy1 hy
    by_cases hyx : y < t
    · rw [upd_apply, if_neg (by omega)]; exact h.keep y hy1 hy
    · exact absurd hy (by omega)
/-- dst = kbin.AppendUvarint(dst, n) -/
theorem w_uv (hU : ∀ n : Nat, n < 4294967296 → WrC P C.E.tU8 C.E.f_kbin_AppendUvarint [.int .u32 n] (uvOut n)) {n t : Nat} (hn : n < 4294967296) {Q : Post} {f : Nat → Value} {w : World} {base : Nat} {s : List UInt8} (ht1 : 1 < t) (hd : Dst C f w base s) (hsz : s.length + (uvOut n).length ≤ 1099511627776)
    (h : ∀ f' w', OwnB C.E.tU8 w' base (f' 1) (s ++ uvOut n) → Grew w (f 1) w' (f' 1) → Keeps f f' t → Q .normal f' w') : (uvI C n t).wp P Q f w := by
  refine wp_reg ?_
  simp [uvI]
  refine (hU n hn w base (f 1) s hd.1 hd.2 hsz).mono ?_
  rintro v' w' ⟨ho', hg⟩
  refine h _ _ (by simpa using ho') (by simpa using hg) ?_
  exact keeps_one (keeps_upd (keeps_upd (Keeps.refl _ _) (by omega)) (by omega))
theorem prim_szW {w : World} {K : Nat → Prop} {p : Prim} {x : p.T} {v : Value} (h : p.rep1 w K v x) (hp : p.text = false) : (p.wr true x).length = p.szW := by
  cases p with
  | uuid => exact h.2
  | bool => rfl
  | i8 => rfl
  | i16 => simp [Prim.wr, num, Prim.szW]
  | u16 => simp [Prim.wr, num, Prim.szW]
  | i32 => simp [Prim.wr, num, Prim.szW]
  | i64 => simp [Prim.wr, num, Prim.szW]
  | str => cases hp
  | nstr => cases hp
  | bytes => cases hp
  | nbytes => cases hp
theorem szW_lt (p : Prim) : p.szW < 4294967296 := by cases p <;> simp [Prim.szW]
/-- a list, its value in l: what comes ahead of the loop, and the loop; q: the locals below it stay -/
theorem w_list2 {sT l n q m t t1 t' kk sz b a base pv : Nat} {nul : Option Nat} {v : Value} {ls : Option (List (List Value))} {Q : Post} {f : Nat → Value} {w : World} {ver : Int} {fl : Bool} {s : List UInt8} {body : Ir}
    {α : Type} (el : List α) (wrE : α → List UInt8) (hsl : sliSz P sT = some sz) (hW : LenWC P C nul) (hf : FrW C f pv b a ver fl n) (hnq : n ≤ q) (hlq : l < q) (hqm : q ≤ m) (hmt : m ≤ t) (h1l : 1 < l) (ht1 : t1 = t + lenN C nul) (htt : t1 + 4 ≤ t')
    (hv : f l = v) (ha : ArrAt w (· < base) sz v ls) (hn : (ls.getD []).length = el.length) (hd : Dst C f w base s)
    (hsz : s.length + (lenW nul fl el.length ls.isNone ++ el.flatMap wrE).length ≤ 1099511627776)
    (hbody : ∀ (i : Nat) (y : α) (s' : List UInt8) (f' : Nat → Value) (w' : World), el[i]? = some y → FrW C f' pv b a ver fl n → f' l = v → f' (t1 + 2) = .int .i64 i → f' (t1 + 1) = .int .i64 el.length → Dst C f' w' base s' → s'.length + (wrE y).length ≤ 1099511627776 →
      Grew w (f 1) w' (f' 1) →
      body.wp P (fun e f'' w'' => e = .normal ∧ Wrote C f' w' base s' (wrE y) q m t f'' w'' ∧ f'' (t1 + 2) = .int .i64 i ∧ f'' (t1 + 1) = .int .i64 el.length) f' w')
    (h : ∀ f' w', Wrote C f w base s (lenW nul fl el.length ls.isNone ++ el.flatMap wrE) q m t f' w' → Q .normal f' w') :
    (seqL [lenI C nul sT l t, rangeI C sT l t1 t' kk body]).wp P Q f w := by
  obtain ⟨ad, cp, rfl, hnone, hmax⟩ := ha.form
  rw [hn] at *
  have h1n := hf.one
  refine seqL_cons ?_
  refine w_len (v := f 1) hsl (by omega) (by omega) (by omega) hv rfl hf.flg (fun hx => by have := hf.sfN hx; omega) hW hd.1 hd.2 (fl := fl) ?_ ?_
  · rw [hnone]; simp only [List.length_append] at hsz; omega
  intro f3 w3 v3 h31 ho3 hg3 hk3
  rw [hnone] at ho3
  have hv3 : f3 l = .slice ad el.length cp := (hk3 l (by omega) (by omega)).trans hv
  have hw3 : Wrote C f w base s (lenW nul fl el.length ls.isNone) q m t f3 w3 := Wrote.mk' hd.2 rfl h31 ho3 hg3 (fun x hx1 hx => hk3 x (by omega) hx1)
  show (rangeI C sT l t1 t' kk body).wp P Q f3 w3
  refine w_range hsl (by omega) (by omega) htt hmax hv3
    (fun i f' w' => Wrote C f w base s (lenW nul fl el.length ls.isNone ++ (el.take i).flatMap wrE) q m t f' w') ?_ ?_ ?_ ?_
  · rintro i f1 f1' w' hx hw
    refine ⟨?_, ?_, ?_⟩
    · have := hw.dst; unfold Dst at this ⊢; rwa [hx 1 (by omega)]
    · have := hw.grew; rwa [hx 1 (by omega)]
    · intro x hx1 hxl; rw [hx x (by omega)]; exact hw.keep x hx1 hxl
  · simpa using hw3
  · rintro i hi f' w' hw h2 h1
    obtain ⟨y, hy⟩ : ∃ y, el[i]? = some y := ⟨_, List.getElem?_eq_getElem hi⟩
    have hfm := flatMap_take wrE el i y hy
    have hle := flatMap_take_le wrE el (i + 1)
    rw [hfm] at hle
    have hl' : f' l = .slice ad el.length cp := (hw.keep l (by omega) (.inl (by omega))).trans hv
    refine Ir.wp_mono body ?_ (hbody i y (s ++ (lenW nul fl el.length ls.isNone ++ (el.take i).flatMap wrE)) f' w' hy (hf.keep (fun x hx hx1 => hw.keep x hx1 (.inl (by omega))) (Nat.le_refl _)) hl' h2 h1 hw.dst ?_ hw.grew)
    · rintro e f'' w'' ⟨rfl, hw2, h22, h12⟩
      refine ⟨rfl, ?_, h22, h12⟩
      have := hw.trans hw2 (Nat.le_refl _) (Nat.le_refl _) (Nat.le_refl _)
      rw [hfm]
      rwa [List.append_assoc] at this
    · simp only [List.length_append] at hsz hle ⊢; omega
  · rintro f' w' hw
    refine h f' w' ?_
    have : el.take el.length = el := List.take_length
    rwa [this] at hw
/-- a text that is written twice. St: what the text needs, in every frame and world that has come of these -/
theorem w_twice (ht : TyC P C) (hB : sliSz P C.E.tBs = some 1) (uB : P.underlying C.E.tBs = some (.slice C.E.tU8)) (hU : ∀ n : Nat, n < 4294967296 → WrC P C.E.tU8 C.E.f_kbin_AppendUvarint [.int .u32 n] (uvOut n)) {load : Ir} {num l m lab t ts : Nat} {body0 : List Ir} (hnum : num < 4294967296) {Q : Post} {f : Nat → Value} {w : World} {base tm : Nat} {s out : List UInt8} {n : Nat} {St : (Nat → Value) → World → Prop}
    (hl1 : 1 < n) (hln : n ≤ l) (hlm : l + 3 ≤ m) (hmt : m ≤ tm) (htm : tm ≤ t) (hts : tm ≤ ts) (hd : Dst C f w base s) (hsz : s.length + (kTag num out).length ≤ 1099511627776)
    (hload : ∀ Q' : Post, (∀ f' w', St f' w' → Ext none1 w w' → (∀ x, x < tm → x ≠ l → f' x = f x) → Q' .normal f' w') → load.wp P Q' f w)
    (hSt : ∀ f w f' w' s', St f w → Dst C f w base s' → Grew w (f 1) w' (f' 1) → (∀ x, x < tm → x ≠ 1 → x ≠ l + 1 → x ≠ l + 2 → (x < l + 3 ∨ m ≤ x) → f' x = f x) → St f' w')
    (hbody : ∀ (Q' : Post) f w s', St f w → Dst C f w base s' → s'.length + out.length ≤ 1099511627776 → (∀ f' w', Wrote C f w base s' out (l + 3) m tm f' w' → Q' .normal f' w') → (seqL body0).wp P Q' f w)
    (h : ∀ f' w', Wrote C f w base s (kTag num out) n m tm f' w' → Q .normal f' w') : (twiceI C load num l lab t (body0 ++ [sizedI C (l + 1) lab ts])).wp P Q f w := by
  have hsum : (kTag num out).length = (uvOut num).length + (uvOut (out.length % 4294967296)).length + out.length := by simp only [kTag, List.length_append]
  have e1 : ∀ x, x < tm → ∀ k, (x = ts + k) = False := by intro x hx k; simp; omega
  have e1' : ∀ x, x < tm → (x = ts) = False := by intro x hx; simp; omega
  have e2 : ∀ x, x < tm → ∀ k, (x = t + k) = False := by intro x hx k; simp; omega
  have e2' : ∀ x, x < tm → (x = t) = False := by intro x hx; simp; omega
  have p1 : (1 = l + 1) = False := by simp; omega
  have p2 : (1 = l + 2) = False := by simp
  have l0 : (l = 0) = False := by simp; omega
  refine ⟨fun f' w' => f' (l + 1) = .bool true ∧ Wrote C f w base s (uvOut num ++ uvOut (out.length % 4294967296)) n m tm f' w' ∧ St f' w', fun _ _ => 0, ?_, ?_⟩
  · -- the first time
    simp only [List.cons_append, List.nil_append]
    refine seqL_cons ?_
    refine hload _ ?_
    intro f1 w1 hS1 he1 hk1
    have h11 : f1 1 = f 1 := hk1 1 (by omega) (by omega)
    have hd1 : Dst C f1 w1 base s := by unfold Dst at hd ⊢; rw [h11]; exact ⟨Own.ext hd.1 he1 (fun _ _ h => h), Nat.le_trans hd.2 he1.size⟩
    refine seqL_cons ?_
    refine w_uv hU hnum (by omega) hd1 (by omega) ?_
    intro f2 w2 ho2 hg2 hk2
    refine seqL_cons (wp_reg ?_)
    simp
    refine seqL_cons (wp_reg ?_)
    obtain ⟨ad, cp, hform, _⟩ := Own.form ho2
    simp only [cellsOf_length] at hform
    simp [hform, len_slice uB, l0, e2 1 (by omega), e2' 1 (by omega)]
    refine seqL_cons ?_
    show (seqL (body0 ++ _)).wp P _ _ _
    generalize hf3 : upd (upd (upd (upd f2 (l + 1) _) (t + 2) _) (t + 3) _) (l + 2) _ = f3
    have k3 : ∀ x, x < tm → x ≠ l + 1 → x ≠ l + 2 → f3 x = f2 x := by
      intro x hx h1 h2
      subst hf3
      simp [e2 x hx, h1, h2]
    have k3s : f3 (l + 1) = .bool false := by subst hf3; simp [e2 l (by omega), e2 (l + 1) (by omega)]
    have k3n : f3 (l + 2) = .int .i64 ((s ++ uvOut num).length : Nat) := by subst hf3; simp
    have h31 : f3 1 = f2 1 := k3 1 (by omega) (by omega) (by omega)
    have hd3 : Dst C f3 w2 base (s ++ uvOut num) := ⟨by rw [h31]; exact ho2, Nat.le_trans hd1.2 hg2.size⟩
    have hS3 : St f3 w2 := hSt f1 w1 f3 w2 s hS1 hd1 (by rw [h31]; exact hg2) (fun x hx hx1 hxa hxb _ => by rw [k3 x hx hxa hxb]; exact hk2 x (by omega) hx1)
    refine seqL_append ?_
    refine hbody _ f3 w2 _ hS3 hd3 (by simp only [List.length_append]; omega) ?_
    intro f4 w4 hw4
    have k4s : f4 (l + 1) = .bool false := (hw4.keep (l + 1) (by omega) (.inl (by omega))).trans k3s
    have k4n : f4 (l + 1 + 1) = .int .i64 ((s ++ uvOut num).length : Nat) := (hw4.keep (l + 2) (by omega) (.inl (by omega))).trans k3n
    show (sizedI C (l + 1) lab ts).wp P _ f4 w4
    refine wp_seqI (wp_reg ?_)
    simp [k4s, e1 (l + 1) (by omega), e1' (l + 1) (by omega), un?]
    refine .inl ⟨by simp, ?_⟩
    refine seqL_cons ?_
    refine Ir.cw_sound _ ?_
    have hD := (Ext.refl none1 w4).drew
    refine cw_regH (fun _ => True) trivial ?_
    obtain ⟨a4, c4, hform4, hc4⟩ := Own.form hw4.dst.1
    simp only [cellsOf_length] at hform4 hc4
    have sl1 := slice_hi (P := P) (T := C.E.tBs) hB (a := a4) (n := (s ++ uvOut num ++ out).length) (c := c4) (k := .i64) (l := (s ++ uvOut num).length) (by simp only [List.length_append] at hc4 ⊢; omega)
    have sl2 := slice_lo (P := P) (T := C.E.tBs) hB (a := a4) (n := (s ++ uvOut num ++ out).length) (c := c4) (k := .i64) (l := (s ++ uvOut num).length) (by simp only [List.length_append]; omega)
    have hsub : (s ++ uvOut num ++ out).length - (s ++ uvOut num).length = out.length := by simp only [List.length_append]; omega
    rw [hsub] at sl2
    have hwr : IntKind.u32.wrap (out.length : Int) = ((out.length % 4294967296 : Nat) : Int) := by simp [IntKind.wrap, IntKind.signed, IntKind.bits]
    have n1 : ∀ k, (1 = ts + k) = False := fun k => e1 1 (by omega) k
    have n1' : (1 = ts) = False := e1' 1 (by omega)
    have n2 : ∀ k, (l + 1 + 1 = ts + k) = False := fun k => e1 (l + 1 + 1) (by omega) k
    have n2' : (l + 1 + 1 = ts) = False := e1' (l + 1 + 1) (by omega)
    have hdst4 := hw4.dst.1
    have hgr4 := hw4.grew
    rw [hform4] at hdst4 hgr4
    have hO := OwnB.upTo hdst4 (k := (s ++ uvOut num).length) (by simp only [List.length_append]; omega)
    rw [List.take_left] at hO
    generalize hnn : (s ++ uvOut num).length = nn at k4n sl1 sl2 hO
    generalize hnt : (s ++ uvOut num ++ out).length = ntt at hform4 sl1 sl2 hdst4 hgr4
    have t0 : (ts = 0) = False := by simp; omega
    have q1 : ∀ k, (l = ts + k) = False := fun k => e1 l (by omega) k
    have q1' : (l = ts) = False := e1' l (by omega)
    have q2' : (l + 1 = ts) = False := e1' (l + 1) (by omega)
    have q3 : (ts + 1 + 1 = ts) = False := by simp; omega
    simp +contextual [hform4, k4n, t0, q1, q1', q2', q3, n1, n1', n2, n2', sl1, sl2, len_slice uB, ht.iInt, ht.iU32, hwr]
    refine (hU (out.length % 4294967296) (Nat.mod_lt _ (by omega)) w4.drew base _ _ (Own.ext hO hD (fun _ _ h => h)) (Nat.le_trans hw4.dst.2 hD.size) (by simp only [List.length_append]; omega)).mono ?_
    rintro v5 w5 ⟨ho5, hg5⟩
    try simp
    refine seqL_cons (wp_reg ?_)
    simp
    show lab = lab ∧ _
    refine ⟨rfl, ?_⟩
    have hg1 : Grew w (f 1) w1 (f1 1) := by rw [h11]; exact Grew.post (Grew.refl _ _) he1
    have hgs : Grew w4 (.slice a4 ntt c4) w4.drew (.slice (if c4 = 0 then a4 else a4.map (·.add 0)) nn c4) := ⟨hD.mono (fun _ _ h => h.elim), fun b hb => .inl (own1_upTo hb)⟩
    have hg25 : Grew w1 (f1 1) w5 v5 := by
      rw [h31] at hgr4
      exact ((hg2.trans hgr4).trans hgs).trans hg5
    have keep : ∀ x, x < tm → x ≠ 1 → x ≠ l + 1 → x ≠ l + 2 → (x < l + 3 ∨ m ≤ x) → ∀ a0 a1 a2 a3 a4 a5 a6 a7 a8 a9 a10, upd (upd (upd (upd (upd (upd (upd (upd (upd (upd (upd (upd (upd f4 ts a0) (ts + 1) a1) (ts + 2) a2) (ts + 3) a3) (ts + 4) a4) (ts + 5) a5) (ts + 6) a6) (ts + 7) a7) (ts + 8) a8) (ts + 9) a9) (ts + 10) a10) 1 v5) (l + 1) (.bool true) x = f1 x := by
      intro x hx hx1 hxa hxb hxm a0 a1 a2 a3 a4 a5 a6 a7 a8 a9 a10
      simp [e1 x hx, e1' x hx, hx1, hxa]
      rw [hw4.keep x hx1 (by omega), k3 x hx hxa hxb]
      exact hk2 x (by omega) hx1
    refine ⟨by simp, ⟨?_, ?_, ?_⟩, ?_⟩
    · refine ⟨?_, ?_⟩
      · simp [l0]
        rw [← List.append_assoc]; exact ho5
      · exact Nat.le_trans (Nat.le_trans hd.2 hg1.size) hg25.size
    · simp [l0]
      exact hg1.trans hg25
    · intro x hx1 hx
      exact (keep x (by omega) hx1 (by omega) (by omega) (by omega) _ _ _ _ _ _ _ _ _ _ _).trans (hk1 x (by omega) (by omega))
    · refine hSt f1 w1 _ w5 s hS1 hd1 (by simpa [l0] using hg25) ?_
      intro x hx hx1 hxa hxb hxm
      exact keep x hx hx1 hxa hxb hxm _ _ _ _ _ _ _ _ _ _ _
  · -- the second time
    rintro g w6 ⟨gs, hw6, hS6⟩
    show (seqL (body0 ++ _)).wp P _ g w6
    refine seqL_append ?_
    refine hbody _ g w6 _ hS6 hw6.dst (by simp only [List.length_append]; omega) ?_
    intro f7 w7 hw7
    have k7s : f7 (l + 1) = .bool true := (hw7.keep (l + 1) (by omega) (.inl (by omega))).trans gs
    show (sizedI C (l + 1) lab ts).wp P _ f7 w7
    refine wp_seqI (wp_reg ?_)
    simp [k7s, e1 (l + 1) (by omega), e1' (l + 1) (by omega), un?]
    refine .inr ⟨by simp, ?_⟩
    show Q .normal _ w7
    refine h _ _ ?_
    have := hw6.trans hw7 (by omega) (Nat.le_refl _) (Nat.le_refl _)
    exact (this.upd (by omega) hts (by omega) _).upd (by omega) (by omega) (by omega) _
end
end Go.Kg
