/- What is proved here: how the code of the messages runs, in general: a semantics of calls by their texts, and contracts of the functions of kbin and of the reference. No condition but those that each theorem names. -/
import Derived.ChangeKeysEq
import Derived.Lib.AppendZerosOnto
import Derived.Test.YtidabeiamjhmdaaGreatKb
set_option linter.unusedSectionVars false
set_option linter.unusedSimpArgs false
set_option linter.unusedVariables false
set_option linter.unusedSimpArgs false
set_option linter.unusedVariables false
namespace Go.Kg
open Go
theorem FS.list_get {ver : Int} {flex : Bool} : ∀ {F : FS} {i : Nat} {y : FE}, (F.list ver flex)[i]? = some y → ∃ h s, F.heads[i]? = some h ∧ F.subs[i]? = some s ∧
    y = ⟨h, partL (s.list ver flex) ver flex, usualL (s.list ver flex), knownL ((s.list ver flex).map (·.h))⟩
  | .nil, i, y, h => by simp [FS.list] at h
  | .cons h s r, 0, y, hy => by simp [FS.list] at hy; exact ⟨h, s, rfl, rfl, hy.symm⟩
  | .cons h s r, i + 1, y, hy => by
    rw [FS.list, List.getElem?_cons_succ] at hy
    obtain ⟨h', s', h1, h2, h3⟩ := FS.list_get hy
    exact ⟨h', s', by simpa [FS.heads] using h1, by simpa [FS.subs] using h2, h3⟩
theorem FS.list_len {ver : Int} {flex : Bool} : ∀ F : FS, (F.list ver flex).length = F.len
  | .nil => rfl
  | .cons h s r => by simp [FS.list, FS.len, FS.list_len r]
theorem FS.list_heads {ver : Int} {flex : Bool} : ∀ F : FS, (F.list ver flex).map (·.h) = F.heads
  | .nil => rfl
  | .cons h s r => by simp [FS.list, FS.heads, FS.list_heads r]
theorem all_zipIdx {α : Type} (p : α → Nat → Bool) : ∀ (l : List α) (k : Nat), (l.zipIdx k).all (fun x => p x.1 x.2) = true ↔ ∀ i y, l[i]? = some y → p y (k + i) = true
  | [], k => by simp
  | x :: l, k => by
    rw [List.zipIdx_cons, List.all_cons, Bool.and_eq_true, all_zipIdx p l (k + 1)]
    constructor
    · rintro ⟨h1, h2⟩ i y hy
      cases i with
      | zero => simp at hy; subst hy; exact h1
      | succ i => have := h2 i y (by simpa using hy); rwa [show k + (i + 1) = k + 1 + i by omega]
    · intro h
      refine ⟨h 0 x rfl, fun i y hy => ?_⟩
      have := h (i + 1) y (by simpa using hy)
      rwa [show k + (i + 1) = k + 1 + i by omega] at this
theorem usualL_iff (l : List FE) (t : Tr) : usualL l t = true ↔ (∀ (i : Nat) y, l[i]? = some y → usualS y (t.at i) = true) ∧ (unkS (knownL (l.map (·.h))) t.u).isEmpty = true := by
  unfold usualL
  rw [Bool.and_eq_true]
  refine and_congr_left fun _ => ?_
  have := all_zipIdx (fun (x : FE) i => usualS x (t.at i)) l 0
  simpa using this
def UuInv (w1 : World) (s : List UInt8) (sv : Value) (b0 b1 : Nat) (f : Nat → Value) (w' : World) : Prop :=
  ∃ i, i ≤ s.length ∧ ((s.take i).take 16).all (· == 0) = true ∧ f 24 = .int .i64 i ∧ f 23 = .int .i64 s.length ∧ f 22 = sv ∧ Ext none1 w1 w'
def UsInv (w1 : World) (L : List FE) (t : Tr) (sv : Value) (b0 b1 : Nat) (f : Nat → Value) (w' : World) : Prop :=
  ∃ i, i ≤ L.length ∧ (∀ (j : Nat) y, j < i → L[j]? = some y → usualS y (t.at j) = true) ∧ f 59 = .int .i64 i ∧ f 58 = .int .i64 L.length ∧ f 57 = sv ∧ f 2 = .pointer (some ⟨b0, 0, none⟩) ∧ f 3 = .pointer (some ⟨b1, 0, none⟩) ∧ Ext none1 w1 w'
theorem tree_u {w : World} {n s b l uv : Value} {t : Tr} (hT : TreeAt w [n, s, b, l, uv] t) : UAt w uv t.u := by
  have key : ∀ cs, TreeAt w cs t → ∃ uv, cs[4]? = some uv ∧ UAt w uv t.u := by
    intro cs h
    cases h with
    | mk hn hs ha hl he hu => exact ⟨_, rfl, hu⟩
  obtain ⟨uv', h, hu⟩ := key _ hT
  cases h
  exact hu
section
variable {P : Program} {E : Env} (ht : TyG P E)
include ht
theorem c_usual (hI : FnIs P E.f_spec_usual nt_spec_usual (rs_spec_usual E) (ir_spec_usual E)) (hAt : AtC P E) (hUn : UnkC P E) (hF : FixedC P E) (hWd : WidthC P E) (hSm : SameC P E) (h : FH) (sub : FS) (ver : Int) (flex : Bool)
    (part : Tr → List UInt8) (kn : Nat) (hok : ∀ g ∈ sub.heads, FH.ok g) (hsub : ∀ (i : Nat) y s, (sub.list ver flex)[i]? = some y → sub.subs[i]? = some s → UsC P E y s) : UsC P E ⟨h, part, usualL (sub.list ver flex), kn⟩ sub := by
  intro w sv cs t hSv hT
  refine hI.call (args := [_, _]) (by simp [nt_spec_usual]) ?_
  obtain ⟨tv, lv, uv, hcs, hs⟩ := tree_box hT
  subst hcs
  have hv : ∀ (a : Array Value), (Value.agg a).cells = a := fun a => rfl
  show Ir.cw P (ir_spec_usual E) _ (frame0 [.agg (h.cells ++ [sv]).toArray, .agg [Value.int .i64 t.n, tv, .bool t.nul, lv, uv].toArray]) w
  generalize hw1 : (w.alloc (.cells (h.cells ++ [sv]).toArray E.t_spec_Field)).alloc (.cells [Value.int .i64 t.n, tv, .bool t.nul, lv, uv].toArray E.t_spec_Tree) = w1
  have hE : Ext none1 w w1 := by subst hw1; exact ((Ext.refl none1 w).alloc _).alloc _
  have hb0 : w1.heap[w.heap.size]? = some (.cells (h.cells ++ [sv]).toArray E.t_spec_Field (0, 0)) := by subst hw1; exact alloc_old alloc_new
  have hb1 : w1.heap[w.heap.size + 1]? = some (.cells [Value.int .i64 t.n, tv, .bool t.nul, lv, uv].toArray E.t_spec_Tree (0, 0)) := by
    subst hw1
    have := alloc_new (w := w.alloc (.cells (h.cells ++ [sv]).toArray E.t_spec_Field)) (o := .cells [Value.int .i64 t.n, tv, .bool t.nul, lv, uv].toArray E.t_spec_Tree)
    simpa using this
  have cF : ∀ w', Ext none1 w1 w' → ∀ j u, (h.cells ++ [sv])[j]? = some u → w'.cell? ⟨w.heap.size, j, none⟩ = some u := by
    intro w' he j u hj
    rw [cell_of_blk (he.old hb0 (fun h => h))]; simpa using hj
  have cT : ∀ w', Ext none1 w1 w' → ∀ j u, [Value.int .i64 t.n, tv, .bool t.nul, lv, uv][j]? = some u → w'.cell? ⟨w.heap.size + 1, j, none⟩ = some u := by
    intro w' he j u hj
    rw [cell_of_blk (he.old hb1 (fun h => h))]; simpa using hj
  have r0 := Ext.refl none1 w1
  have k0 := cF w1 r0 0 _ rfl
  have hT1 := hT.ext hE
  have hs1 := hs.ext (K := All) hE (fun _ _ _ h => h)
  simp [ir_spec_usual, rs_spec_usual, hv, hw1, ht.f0, Addr.add_mk, ld_scl ht.kInt, k0, bin?]
  by_cases e0 : h.kind = 0
  · refine cw_true (by simp [e0]) ?_
    have c0 := cT w1 r0 0 _ rfl
    have c5 := cF w1 r0 5 _ rfl
    simp [ht.t0, ht.f5, Addr.add_mk, ld_scl ht.kI64, c0, c5, bin?, i64_and1, usualS, e0, hE]
  refine cw_false (by simp [e0]) ?_
  simp [bin?]
  by_cases e7 : h.kind = 7
  · refine cw_true (by simp [e7]) ?_
    have c1 := cT w1 r0 1 _ rfl
    obtain ⟨a, c, rfl, hc⟩ := hs1.len
    simp [ht.t1, Addr.add_mk, ld_scl ht.kBs, c1, len_slice ht.uBs]
    have hval : usualS ⟨h, part, usualL (sub.list ver flex), kn⟩ t = (t.s.take 16).all (· == 0) := by simp [usualS, e7]
    rw [hval]
    refine cw_loop (UuInv w1 t.s (.slice a t.s.length c) w.heap.size (w.heap.size + 1)) (fun f _ => match f 24 with | .int _ i => ((t.s.length : Int) - i).toNat | _ => 0) ?_ ?_
    · exact ⟨0, by omega, by simp, by simp, by simp, by simp, r0⟩
    · rintro f w' ⟨i, hi, hz, h24, h23, h22, he⟩
      simp [h24, h23]
      by_cases hlt : i < t.s.length
      · refine cw_true (by simp; omega) ?_
        obtain ⟨x, hx⟩ : ∃ x, t.s[i]? = some x := ⟨_, List.getElem?_eq_getElem hlt⟩
        have ei : IntKind.i64.wrap ((i : Int) + 1) = ((i + 1 : Nat) : Int) := by
          rw [i64_small (by omega) ?_]
          · rfl
          · have := hT.slen
            omega
        rcases hs1 with ⟨_, h0⟩ | ⟨b, o, c', hv1, _, _, hc1⟩
        · rw [h0] at hx; simp at hx
        cases hv1
        have hcx := he.cell (hc1 i x hx) (fun h => h)
        simp [h24, h22, idx?, ht.sBs.siz, hlt, Addr.add_mk, ld_scl ht.kU8, hcx]
        by_cases h16 : i < 16
        · have h16' : (i : Int) < 16 := by omega
          by_cases hx0 : x = 0
          · subst hx0
            simp [h16']
            refine cw_false (by simp) ?_
            simp [h24, ei]
            refine ⟨⟨i + 1, by omega, ?_, by simp, by simp [h23], by simp [h22], he⟩, by omega⟩
            rw [show t.s.take (i + 1) = t.s.take i ++ [0] by rw [List.take_add_one, hx]; rfl]
            rw [List.take_take, show min 16 i = i by omega] at hz
            rw [List.take_of_length_le (by simp; omega), List.all_append, hz]
            rfl
          · have hx0' : ¬ (x.toNat : Int) = 0 := by
              intro h'; apply hx0; apply UInt8.toNat_inj.1; simpa using h'
            simp [h16', hx0']
            refine cw_true (by simp; intro h'; exact hx0 (UInt8.toNat_inj.1 (by simpa using h'))) ?_
            simp
            refine ⟨⟨x, ?_, hx0⟩, hE.trans he⟩
            rw [List.mem_take_iff_getElem]
            obtain ⟨hi', hxe⟩ := List.getElem?_eq_some_iff.1 hx
            exact ⟨i, by omega, hxe⟩
        · have h16' : ¬ (i : Int) < 16 := by omega
          simp [h16']
          refine cw_false (by simp) ?_
          simp [h24, ei]
          refine ⟨⟨i + 1, by omega, ?_, by simp, by simp [h23], by simp [h22], he⟩, by omega⟩
          rw [List.take_take] at hz ⊢
          rw [show min 16 i = 16 by omega] at hz
          rw [show min 16 (i + 1) = 16 by omega]
          exact hz
      · refine cw_false (by simp; omega) ?_
        have : i = t.s.length := by omega
        subst this
        rw [List.take_length] at hz
        simp only [inBlockF_exit, if_true, thenF_normal, cw_seq, cw_reg, cw_exit]
        simp
        refine ⟨?_, hE.trans he⟩
        simpa using hz
  refine cw_false (by simp [e7]) ?_
  have c3 := cF w1 r0 3 _ rfl
  by_cases e89 : h.kind = 8 ∨ h.kind = 9
  · have hval : usualS ⟨h, part, usualL (sub.list ver flex), kn⟩ t = (if 0 ≤ h.null then t.nul else t.s.isEmpty) := by rcases e89 with e | e <;> simp [usualS, e]
    rw [hval]
    have c1 := cT w1 r0 1 _ rfl
    have c2 := cT w1 r0 2 _ rfl
    obtain ⟨a, c, rfl, hc⟩ := hs1.len
    rcases e89 with e | e
    · simp [e, bin?]
      refine cw_true (by simp) ?_
      simp
      refine cw_true (by simp) ?_
      simp [ht.f3, Addr.add_mk, ld_scl ht.kInt, c3]
      by_cases hn : 0 ≤ h.null
      · refine cw_true (by simp [hn]) ?_
        simp [ht.t2, Addr.add_mk, ld_scl ht.kB, c2, hn, hE]
      · refine cw_false (by simp [hn]) ?_
        simp [ht.t1, Addr.add_mk, ld_scl ht.kBs, c1, len_slice ht.uBs, bin?, hn, hE]
        cases t.s <;> simp <;> omega
    · simp [e, bin?]
      refine cw_false (by simp) ?_
      simp [bin?]
      refine cw_true (by simp) ?_
      simp [ht.f3, Addr.add_mk, ld_scl ht.kInt, c3]
      by_cases hn : 0 ≤ h.null
      · refine cw_true (by simp [hn]) ?_
        simp [ht.t2, Addr.add_mk, ld_scl ht.kB, c2, hn, hE]
      · refine cw_false (by simp [hn]) ?_
        simp [ht.t1, Addr.add_mk, ld_scl ht.kBs, c1, len_slice ht.uBs, bin?, hn, hE]
        cases t.s <;> simp <;> omega
  have e8 : ¬ h.kind = 8 := fun e => e89 (.inl e)
  have e9 : ¬ h.kind = 9 := fun e => e89 (.inr e)
  simp [bin?]
  refine cw_false (by simp [e8]) ?_
  simp [bin?]
  refine cw_false (by simp [e9]) ?_
  simp [bin?]
  by_cases e11 : h.kind = 11
  · refine cw_true (by simp [e11]) ?_
    have hval : usualS ⟨h, part, usualL (sub.list ver flex), kn⟩ t = t.l.isEmpty := by simp [usualS, e11]
    rw [hval]
    have c3 := cT w1 r0 3 _ rfl
    obtain ⟨lsT, haT, hlT, heT⟩ := tree_list hT1
    obtain ⟨aL, cL, rfl, _⟩ := haT.form
    obtain ⟨Et, jt, hut, _, _⟩ := sliSz_spec ht.sT
    simp [ht.t3, Addr.add_mk, ld_scl ht.kLT, c3, len_slice hut, bin?, hE, hlT]
    cases t.l <;> simp <;> omega
  refine cw_false (by simp [e11]) ?_
  simp [bin?]
  by_cases e10 : h.kind = 10
  · refine cw_true (by simp [e10]) ?_
    have hval : usualS ⟨h, part, usualL (sub.list ver flex), kn⟩ t = usualL (sub.list ver flex) t := by simp [usualS, e10]
    rw [hval]
    have c7 := cF w1 r0 7 sv rfl
    obtain ⟨ls, haS, hcS⟩ := hSv.ext hE
    obtain ⟨aS, cS, rfl, _, hmaxS⟩ := haS.form
    obtain ⟨Et, jt, hut, _, _⟩ := sliSz_spec ht.sF
    have hlen : (ls.getD []).length = (sub.list ver flex).length := by rw [hcS.len, FS.list_len]
    simp [ht.f7, Addr.add_mk, ld_scl ht.kLF, c7, len_slice hut]
    generalize hL : sub.list ver flex = L at *
    have iff := usualL_iff L t
    refine cw_blockThenR (fun f w' => (∀ (i : Nat) y, L[i]? = some y → usualS y (t.at i) = true) ∧ f 2 = .pointer (some ⟨w.heap.size, 0, none⟩) ∧ f 3 = .pointer (some ⟨w.heap.size + 1, 0, none⟩) ∧ Ext none1 w1 w')
      (fun f w' => f 4 = .bool false ∧ usualL L t = false ∧ Ext none1 w1 w') ?_ ?_ ?_
    · refine cw_loop (UsInv w1 L t (.slice aS (ls.getD []).length cS) w.heap.size (w.heap.size + 1)) (fun f _ => match f 59 with | .int _ i => ((L.length : Int) - i).toNat | _ => 0) ?_ ?_
      · exact ⟨0, by omega, by omega, by simp, by simp [hlen], by simp, by simp, by simp, r0⟩
      · rintro f w' ⟨i, hi, hall, h59, h58, h57, h2, h3, he⟩
        simp [h59, h58]
        by_cases hlt : i < L.length
        · refine cw_true (by simp; omega) ?_
          cases ls with
          | none => simp at hlen; omega
          | some ls =>
          obtain ⟨bb, oo, cc, hvv, _, _, hx⟩ := haS
          simp only [Option.getD_some] at hlen hcS hmaxS hvv
          simp only [Value.slice.injEq] at hvv
          obtain ⟨rfl, _, rfl⟩ := hvv
          obtain ⟨x, hxx⟩ : ∃ x, ls[i]? = some x := ⟨_, List.getElem?_eq_getElem (by omega)⟩
          obtain ⟨y, hy⟩ : ∃ y, L[i]? = some y := ⟨_, List.getElem?_eq_getElem hlt⟩
          obtain ⟨g, s, sv', l', hg, hss, rfl, hsv', hsc⟩ := hcS.get hxx
          have hUy := hsub i y s hy hss
          obtain ⟨g', s', hg', _, rfl⟩ := FS.list_get (by rw [hL]; exact hy)
          rw [hg] at hg'
          cases hg'
          have hcx := (hx i _ hxx).2.ext (K := All) he (fun _ _ _ h => h) trivial
          have hcf := cellsFrom_list0 hcx
          rw [FH.cells_len] at hcf
          have hFs : FsAt w1 sv' s := ⟨l', hsv', hsc⟩
          have hone : allOne (g.cells ++ [sv']) = true := by
            obtain ⟨sa, sc, h', _⟩ := hsv'.form
            exact FH.cells_one g (by rw [h']; rfl)
          have hi' : i < ls.length := by omega
          have hz : zeroOf P E.t_spec_Field = some (.agg zField) := ht.zF
          have hzz : zField.size = 8 := rfl
          have hzc : (Value.agg zField).cells = zField := rfl
          have hcl := FH.cells_len g sv'
          simp [h59, h57, idx?, ht.sF, hi', Addr.add_mk, ld_agg ht.kF, hcf, hz, hzc, store_agg ht.kF, hone, putK_blk alloc_new, hzz]
          rw [over_z8 hcl]
          generalize hw2 : (w'.alloc (.cells zField E.t_spec_Field)).setBlk w'.heap.size (.cells (g.cells ++ [sv']).toArray E.t_spec_Field (0, 0)) = w2
          have hb2 : w2.heap[w'.heap.size]? = some (.cells (g.cells ++ [sv']).toArray E.t_spec_Field (0, 0)) := by subst hw2; exact setBlk_same alloc_new
          have he2 : Ext none1 w1 w2 := by subst hw2; exact (he.alloc _).setBlk (.inl he.size) _
          have hD := (Ext.refl none1 w2).drew
          have lF2 : ∀ wx, Ext none1 w2 wx → cellsFrom wx ⟨w'.heap.size, 0, none⟩ 0 8 = some (g.cells ++ [sv']) := by
            intro wx h'
            have := cellsFrom_row (h'.old hb2 (fun h => h))
            simpa using this
          have lT2 : ∀ wx, Ext none1 w2 wx → cellsFrom wx ⟨w.heap.size + 1, 0, none⟩ 0 5 = some [Value.int .i64 t.n, tv, .bool t.nul, lv, uv] := by
            intro wx h'
            have := cellsFrom_row ((he2.trans h').old hb1 (fun h => h))
            rw [show [Value.int .i64 t.n, tv, .bool t.nul, lv, uv].toArray.size = 5 by rfl] at this
            simpa using this
          refine cw_regH (Ext none1 w2) hD ?_
          simp +contextual [h3, ld_agg ht.kF, ld_agg ht.kT, lF2, lT2, lF2 w2.drew hD, lT2 w2.drew hD]
          have hT2 := hT1.ext (he2.trans hD)
          refine (by simpa using hAt w2.drew _ t hT2 i (by omega) : Ret P _ _ _ _).mono ?_
          rintro _ w3 ⟨cs', rfl, hT3, he3⟩
          have hD3 := hD.trans he3
          simp [hD3]
          refine (by simpa using hUy w3 sv' cs' (t.at i) (hFs.ext (he2.trans hD3)) hT3 : Ret P _ _ _ _).mono ?_
          rintro _ w4 ⟨rfl, he4⟩
          have hD4 := hD3.trans he4
          simp [hD4]
          have ei : IntKind.i64.wrap ((i : Int) + 1) = ((i + 1 : Nat) : Int) := by rw [i64_small (by omega) (by omega)]; rfl
          cases hus : usualS ⟨g, partL (s'.list ver flex) ver flex, usualL (s'.list ver flex), knownL ((s'.list ver flex).map (·.h))⟩ (t.at i) with
          | false =>
            refine cw_true (by simp [hus]) ?_
            simp
            refine ⟨?_, he2.trans hD4⟩
            cases hq : usualL L t with
            | false => rfl
            | true =>
              have := (iff.1 hq).1 i _ hy
              rw [hus] at this
              cases this
          | true =>
            refine cw_false (by simp [hus]) ?_
            simp [h59, ei]
            refine ⟨⟨i + 1, by omega, ?_, by simp, by simp [h58], by simp [h57], by simp [h2], by simp [h3], he2.trans hD4⟩, by omega⟩
            intro j z hj hz
            by_cases hji : j = i
            · subst hji
              rw [hy] at hz
              cases hz
              exact hus
            · exact hall j z (by omega) hz
        · refine cw_false (by simp; omega) ?_
          simp [h2, h3, he]
          intro j z hz
          exact hall j z (by have := (List.getElem?_eq_some_iff.1 hz).1; omega) hz
    · rintro f w' ⟨hall, h2, h3, he⟩
      have c7' := cF w' he 7 _ rfl
      have c4' := cT w' he 4 uv rfl
      simp [h2, h3, ht.f7, ht.t4, Addr.add_mk, ld_scl ht.kLF, ld_scl ht.kLU, c7', c4']
      refine (hUn w' w' _ sub uv t.u (Ext.refl _ _) (hSv.ext (hE.trans he)) hok (tree_u (hT1.ext he))).mono ?_
      rintro v w2 ⟨hu2, he2⟩
      obtain ⟨lu, hau, hlu, _⟩ := hu2
      obtain ⟨au, cu, rfl, _⟩ := hau.form
      obtain ⟨Eu, ju, huu, _, _⟩ := sliSz_spec ht.sU
      simp [len_slice huu, bin?]
      refine ⟨?_, hE.trans (he.trans he2)⟩
      have hkn : knownL (L.map (·.h)) = knownL sub.heads := by rw [← hL, FS.list_heads]
      rw [hkn] at iff
      rw [hlu]
      cases hq : usualL L t with
      | true =>
        have := (iff.1 hq).2
        simp at this
        simp [this]
      | false =>
        have : (unkS (knownL sub.heads) t.u).isEmpty = false := by
          cases hq2 : (unkS (knownL sub.heads) t.u).isEmpty with
          | false => rfl
          | true =>
            have := iff.2 ⟨hall, hq2⟩
            rw [hq] at this
            cases this
        simp at this
        simp [this]
    · rintro f w' ⟨h4, hq, he⟩
      simp [h4, hq]
      exact hE.trans he
  refine cw_false (by simp [e10]) ?_
  have hval : usualS ⟨h, part, usualL (sub.list ver flex), kn⟩ t = (fixE (widthS h.kind) t.n == fixE (widthS h.kind) h.dflt) := by simp [usualS, e0, e7, e8, e9, e10, e11]
  rw [hval]
  have hk8 : widthS h.kind ≤ 8 := by unfold widthS; repeat' split
                                     all_goals omega
  have c0' : ∀ wx, Ext none1 w1 wx → wx.cell? ⟨w.heap.size + 1, 0, none⟩ = some (.int .i64 t.n) := fun wx he => cT wx he 0 _ rfl
  have f0' : ∀ wx, Ext none1 w1 wx → wx.cell? ⟨w.heap.size, 0, none⟩ = some (.int .i64 h.kind) := fun wx he => cF wx he 0 _ rfl
  have f5' : ∀ wx, Ext none1 w1 wx → wx.cell? ⟨w.heap.size, 5, none⟩ = some (.int .i64 h.dflt) := fun wx he => cF wx he 5 _ rfl
  have hD := (Ext.refl none1 w1).drew
  simp
  refine cw_regH (Ext none1 w1) hD ?_
  simp +contextual [ht.t0, ht.f0, ht.f5, Addr.add_mk, ld_scl ht.kI64, ld_scl ht.kInt, c0', f0', f5', c0' w1 r0, f0' w1 r0, f5' w1 r0]
  refine (hWd h.kind w1.drew).mono ?_
  rintro v w2 ⟨rfl, rfl⟩
  simp [hD]
  refine (by simpa using hF t.n (widthS h.kind) hk8 w1.drew : Ret P _ _ _ _).mono ?_
  intro v3 w3 h3
  have hD3 := hD.trans h3.2
  simp [hD3]
  refine (hWd h.kind w3).mono ?_
  rintro v w4 ⟨rfl, rfl⟩
  simp [hD3]
  refine (by simpa using hF h.dflt (widthS h.kind) hk8 w4 : Ret P _ _ _ _).mono ?_
  intro v5 w5 h5
  have hD5 := hD3.trans h5.2
  simp [hD5]
  refine (hSm w5 All All v3 v5 _ _ ((own_bytes h3.1).ext (K := All) h5.2 (fun _ _ _ h => h)) (own_bytes h5.1) (by rw [fixE_len]; omega)).mono ?_
  rintro _ w6 ⟨rfl, he6⟩
  have hD6 := hD5.trans he6
  simp [hD6, hE.trans hD6]
end
end Go.Kg

set_option linter.unusedSimpArgs false
set_option linter.unusedVariables false
namespace Go.Kg
open Go
def plainE (ver : Int) (flex : Bool) (t : Tr) (x : FE × Nat) : List UInt8 := if x.1.h.tag < 0 ∧ x.1.h.has ver = true then fieldS x.1 ver flex (t.at x.2) else []
def knE (ver : Int) (flex : Bool) (t : Tr) (k : Nat) (x : FE × Nat) : List (Nat × List UInt8) := if x.1.h.tag = k ∧ usualS x.1 (t.at x.2) = false then [(k, fieldS x.1 ver flex (t.at x.2))] else []
def tagE (x : Nat × List UInt8) : List UInt8 := tagS x.1 x.2
def entsL (l : List FE) (ver : Int) (flex : Bool) (t : Tr) : List (Nat × List UInt8) :=
  ((List.range (knownL (l.map (·.h)))).flatMap fun k => l.zipIdx.flatMap (knE ver flex t k)) ++ (unkS (knownL (l.map (·.h))) t.u).map fun x => (x.1, x.2.take 32767)
theorem partL_eq (l : List FE) (ver : Int) (flex : Bool) (t : Tr) : partL l ver flex t =
    if flex then l.zipIdx.flatMap (plainE ver flex t) ++ uvS (entsL l ver flex t).length ++ (entsL l ver flex t).flatMap tagE else l.zipIdx.flatMap (plainE ver flex t) := by
  have e1 : (fun (x : FE × Nat) => match x with | (x, i) => if x.h.tag < 0 ∧ x.h.has ver = true then fieldS x ver flex (t.at i) else []) = plainE ver flex t := by
    funext x; obtain ⟨x, i⟩ := x; rfl
  have e2 : ∀ k : Nat, (fun (x : FE × Nat) => match x with | (x, i) => if x.h.tag = k ∧ usualS x (t.at i) = false then [(k, fieldS x ver flex (t.at i))] else []) = knE ver flex t k := by
    intro k; funext x; obtain ⟨x, i⟩ := x; rfl
  unfold partL entsL
  simp only [e1, e2]
  rfl
theorem flatMap_takeS {α β : Type} (g : α → List β) (l : List α) (i : Nat) (x : α) (h : l[i]? = some x) : (l.take (i + 1)).flatMap g = (l.take i).flatMap g ++ g x := by
  rw [List.take_add_one, h]; simp
theorem flatMap_take_leS {α β : Type} (g : α → List β) (l : List α) (i : Nat) : ((l.take i).flatMap g).length ≤ (l.flatMap g).length := by
  have : l.flatMap g = (l.take i).flatMap g ++ (l.drop i).flatMap g := by rw [← List.flatMap_append, List.take_append_drop]
  rw [this, List.length_append]; omega
theorem own_bytesK {u8 : Nat} {w : World} {base : Nat} {v : Value} {s : List UInt8} (h : OwnB u8 w base v s) : BytesAt w (fun b => base ≤ b ∧ b < w.heap.size) v s := by
  have hb := fun b hb => Own.below h (b := b) hb
  rcases own_bytes h with h | ⟨b, o, c, rfl, h2, _, h3⟩
  · exact .inl h
  · exact .inr ⟨b, o, c, rfl, h2, fun _ => hb b rfl, h3⟩
def FieldC (P : Program) (E : Env) (x : FE) (sub : FS) (ver : Int) (flex : Bool) : Prop := ∀ w sv cs t, FsAt w sv sub → TreeAt w cs t → (fieldS x ver flex t).length ≤ 1099511627776 →
  Ret P E.f_spec_field #[.agg (x.h.cells ++ [sv]).toArray, .int .i64 ver, .bool flex, .agg cs.toArray] w fun v w' => Fresh E.tU8 w v w' (fieldS x ver flex t)
def HasC (P : Program) (E : Env) : Prop := ∀ (h : FH) sv (v : Int) w, Ret P E.f_spec_Field_has #[.agg (h.cells ++ [sv]).toArray, .int .i64 v] w fun u w' => u = .bool (h.has v) ∧ Ext none1 w w'
def UvC (P : Program) (E : Env) : Prop := ∀ n : Nat, n < 18446744073709551616 → SpC P E.tU8 E.f_spec_Uvarint [.int .u64 n] (uvS n)
def WholeC (P : Program) (E : Env) : Prop := ∀ (w : World) (K : Nat → Prop) (v : Value) (s : List UInt8), BytesAt w K v s → Ret P E.f_spec_whole #[v] w fun r w' => BytesAt w K r (s.take 32767) ∧ w' = w
/-- what stays through part -/
def PtB (fv : Value) (ver : Int) (flex : Bool) (b7 : Nat) (f : Nat → Value) : Prop := f 0 = fv ∧ f 1 = .int .i64 ver ∧ f 2 = .bool flex ∧ f 7 = .pointer (some ⟨b7, 0, none⟩)
def PtInv1 (u8 : Nat) (w1 : World) (fv : Value) (ver : Int) (flex : Bool) (b7 : Nat) (l : List FE) (t : Tr) (f : Nat → Value) (w' : World) : Prop :=
  ∃ i, i ≤ l.length ∧ f 23 = .int .i64 i ∧ f 22 = .int .i64 l.length ∧ f 21 = fv ∧ PtB fv ver flex b7 f ∧ f 10 = .slice none 0 0 ∧ f 11 = .int .i64 0 ∧ Fresh u8 w1 (f 9) w' ((l.zipIdx.take i).flatMap (plainE ver flex t))
def PtEnd1 (u8 : Nat) (w1 : World) (fv : Value) (ver : Int) (flex : Bool) (b7 : Nat) (l : List FE) (t : Tr) (f : Nat → Value) (w' : World) : Prop :=
  PtB fv ver flex b7 f ∧ f 10 = .slice none 0 0 ∧ f 11 = .int .i64 0 ∧ Fresh u8 w1 (f 9) w' (l.zipIdx.flatMap (plainE ver flex t))
def TgSt (u8 : Nat) (wp : World) (fv : Value) (ver : Int) (flex : Bool) (b7 : Nat) (v9 : Value) (ents : List (Nat × List UInt8)) (f : Nat → Value) (w' : World) : Prop :=
  PtB fv ver flex b7 f ∧ f 9 = v9 ∧ f 11 = .int .i64 ents.length ∧ Fresh u8 wp (f 10) w' (ents.flatMap tagE)
def Tg2 (u8 : Nat) (wp : World) (fv : Value) (ver : Int) (b7 : Nat) (v9 : Value) (l : List FE) (t : Tr) (K : Nat) (f : Nat → Value) (w' : World) : Prop :=
  ∃ k, k ≤ K ∧ f 52 = .int .i64 k ∧ f 51 = .int .i64 K ∧ TgSt u8 wp fv ver true b7 v9 ((List.range k).flatMap fun k => l.zipIdx.flatMap (knE ver true t k)) f w'
def Tg3 (u8 : Nat) (wp : World) (fv : Value) (ver : Int) (b7 : Nat) (v9 : Value) (l : List FE) (t : Tr) (K k : Nat) (f : Nat → Value) (w' : World) : Prop :=
  ∃ i, i ≤ l.length ∧ f 57 = .int .i64 i ∧ f 56 = .int .i64 l.length ∧ f 55 = fv ∧ f 14 = .int .i64 k ∧ f 52 = .int .i64 k ∧ f 51 = .int .i64 K ∧
    TgSt u8 wp fv ver true b7 v9 (((List.range k).flatMap fun k => l.zipIdx.flatMap (knE ver true t k)) ++ (l.zipIdx.take i).flatMap (knE ver true t k)) f w'
def Tg3End (u8 : Nat) (wp : World) (fv : Value) (ver : Int) (b7 : Nat) (v9 : Value) (l : List FE) (t : Tr) (K k : Nat) (f : Nat → Value) (w' : World) : Prop :=
  f 52 = .int .i64 k ∧ f 51 = .int .i64 K ∧ TgSt u8 wp fv ver true b7 v9 ((List.range (k + 1)).flatMap fun k => l.zipIdx.flatMap (knE ver true t k)) f w'
def Tg4 (fv : Value) (ver : Int) (b7 : Nat) (v9 v10 v11 : Value) (n k i KK b16 : Nat) (f : Nat → Value) : Prop :=
  f 57 = .int .i64 i ∧ f 56 = .int .i64 n ∧ f 55 = fv ∧ f 14 = .int .i64 k ∧ f 52 = .int .i64 k ∧ f 51 = .int .i64 KK ∧ PtB fv ver true b7 f ∧ f 9 = v9 ∧ f 11 = v11 ∧ f 10 = v10 ∧ f 16 = .pointer (some ⟨b16, 0, none⟩) ∧ f 15 = .int .i64 i
def Tg4A (fv : Value) (ver : Int) (b7 : Nat) (v9 v10 v11 : Value) (n k i KK b16 : Nat) (w3 : World) (p : Prop) (f : Nat → Value) (w' : World) : Prop :=
  ∃ b, f 73 = .bool b ∧ (b = true ↔ p) ∧ Tg4 fv ver b7 v9 v10 v11 n k i KK b16 f ∧ Ext none1 w3 w'
def Tg4B (u8 : Nat) (fv : Value) (ver : Int) (b7 : Nat) (v9 v10 v11 : Value) (n k i KK b16 : Nat) (w4 : World) (s : List UInt8) (f : Nat → Value) (w' : World) : Prop :=
  ∃ wa, Ext none1 w4 wa ∧ Fresh u8 wa (f 17) w' s ∧ Tg4 fv ver b7 v9 v10 v11 n k i KK b16 f
def Tg4C (u8 : Nat) (fv : Value) (ver : Int) (b7 : Nat) (v9 v11 : Value) (n k i KK b16 : Nat) (w2 : World) (s : List UInt8) (f : Nat → Value) (w' : World) : Prop :=
  ∃ v10, Fresh u8 w2 v10 w' s ∧ Tg4 fv ver b7 v9 v10 v11 n k i KK b16 f
def cutV (x : Nat × List UInt8) : Nat × List UInt8 := (x.1, x.2.take 32767)
def Tg5 (u8 : Nat) (w2 w4 : World) (fv : Value) (ver : Int) (b7 : Nat) (v9 v10q v100 : Value) (E1 U : List (Nat × List UInt8)) (f : Nat → Value) (w' : World) : Prop :=
  ∃ i v10, i ≤ U.length ∧ f 102 = .int .i64 i ∧ f 101 = .int .i64 U.length ∧ f 100 = v100 ∧ f 9 = v9 ∧ f 10 = v10 ∧ f 11 = .int .i64 ((E1 ++ (U.take i).map cutV).length : Nat) ∧ Fresh u8 w2 v10 w' ((E1 ++ (U.take i).map cutV).flatMap tagE) ∧ Grew w4 v10q w' v10
def Tg6 (fv : Value) (v9 v10 v11 v100 vb : Value) (n i b19 : Nat) (key : Nat) (f : Nat → Value) : Prop :=
  f 102 = .int .i64 i ∧ f 101 = .int .i64 n ∧ f 100 = v100 ∧ f 9 = v9 ∧ f 10 = v10 ∧ f 11 = v11 ∧ f 19 = .pointer (some ⟨b19, 0, none⟩) ∧ f 20 = vb
def Tg6S (fv : Value) (v9 v10 v11 v100 : Value) (n i b19 : Nat) (key : Nat) (wb : World) (cs : List Value) (T : Nat) (f : Nat → Value) (w' : World) : Prop :=
  ∃ vb, Tg6 fv v9 v10 v11 v100 vb n i b19 key f ∧ Ext none1 wb w' ∧ w'.heap[b19]? = some (.cells cs.toArray T (0, 0))
def Tg6A (fv : Value) (v9 v10 v11 v100 : Value) (n i b19 : Nat) (key : Nat) (w5 : World) (K : Nat → Prop) (s : List UInt8) (f : Nat → Value) (w' : World) : Prop :=
  ∃ vb, Tg6 fv v9 v10 v11 v100 vb n i b19 key f ∧ BytesAt w5 K vb s ∧ w' = w5
def Tg6B (u8 : Nat) (fv : Value) (v9 v11 v100 v10q : Value) (n i b19 : Nat) (key : Nat) (w2 w4 : World) (s : List UInt8) (f : Nat → Value) (w' : World) : Prop :=
  ∃ v10 vb, Tg6 fv v9 v10 v11 v100 vb n i b19 key f ∧ Fresh u8 w2 v10 w' s ∧ Grew w4 v10q w' v10
def Tg5End (u8 : Nat) (w2 : World) (v9 : Value) (ents : List (Nat × List UInt8)) (f : Nat → Value) (w' : World) : Prop :=
  f 9 = v9 ∧ f 11 = .int .i64 ents.length ∧ Fresh u8 w2 (f 10) w' (ents.flatMap tagE)
theorem uvS_pos (n : Nat) : 1 ≤ (uvS n).length := by rw [uvS_eq]; split <;> simp
theorem tagE_pos (x : Nat × List UInt8) : 1 ≤ (tagE x).length := by have := uvS_pos x.1; simp only [tagE, tagS, List.length_append]; omega
theorem ents_len : ∀ (l : List (Nat × List UInt8)), l.length ≤ (l.flatMap tagE).length
  | [] => by simp
  | x :: l => by have := ents_len l; have := tagE_pos x; simp only [List.length_cons, List.flatMap_cons, List.length_append]; omega
/-- The boxes of a field and of the tree, and a field taken out of its list. -/
theorem fs_elem {w w' : World} {fv : Value} {F : FS} {ver : Int} {flex : Bool} (hF : FsAt w fv F) (he : Ext none1 w w') {i : Nat} (hi : i < (F.list ver flex).length) :
    ∃ bb oo cc h s sv y, fv = .slice (some ⟨bb, oo, none⟩) (F.list ver flex).length cc ∧ (F.list ver flex)[i]? = some y ∧ y.h = h ∧ F.subs[i]? = some s ∧ FsAt w' sv s ∧ sv.oneCell' = true ∧
      cellsFrom w' ⟨bb, oo + i * 8, none⟩ 0 8 = some (h.cells ++ [sv]) := by
  obtain ⟨ls, ha, hc⟩ := hF.ext he
  have hlen : (ls.getD []).length = (F.list ver flex).length := by rw [hc.len, FS.list_len]
  cases ls with
  | none => simp at hlen; omega
  | some ls =>
    obtain ⟨bb, oo, cc, rfl, _, _, hx⟩ := ha
    simp only [Option.getD_some] at hlen hc
    obtain ⟨x, hxx⟩ : ∃ x, ls[i]? = some x := ⟨_, List.getElem?_eq_getElem (by omega)⟩
    obtain ⟨y, hy⟩ : ∃ y, (F.list ver flex)[i]? = some y := ⟨_, List.getElem?_eq_getElem hi⟩
    obtain ⟨h, s, sv, l, hh, hs, rfl, hsv, hsc⟩ := hc.get hxx
    obtain ⟨h', s', hh', _, hyy⟩ := FS.list_get hy
    rw [hh] at hh'
    cases hh'
    obtain ⟨sa, sc, hsv', _⟩ := hsv.form
    have hcf := cellsFrom_list0 (hx i _ hxx).2
    rw [FH.cells_len] at hcf
    exact ⟨bb, oo, cc, h, s, sv, y, by rw [hlen], hy, by rw [hyy], hs, ⟨l, hsv, hsc⟩, by rw [hsv']; rfl, hcf⟩
section
variable {P : Program} {E : Env} (ht : TyG P E)
include ht
set_option maxHeartbeats 1000000 in
theorem c_part (hI : FnIs P E.f_spec_part nt_spec_part (rs_spec_part E) (ir_spec_part E)) (hAt : AtC P E) (hUn : UnkC P E) (hKn : KnownC P E) (hHas : HasC P E) (hUv : UvC P E) (hWh : WholeC P E) (F : FS) (ver : Int) (flex : Bool)
    (hok : ∀ g ∈ F.heads, FH.ok g) (hlen : F.len ≤ 1000) (hsub : ∀ (i : Nat) y s, (F.list ver flex)[i]? = some y → F.subs[i]? = some s → FieldC P E y s ver flex ∧ UsC P E y s)
    (w : World) (fv : Value) (cs : List Value) (t : Tr) (hF : FsAt w fv F) (hT : TreeAt w cs t) (hsz : (partS F ver flex t).length ≤ 1099511627776) :
    Ret P E.f_spec_part #[fv, .int .i64 ver, .bool flex, .agg cs.toArray] w fun v w' => Fresh E.tU8 w v w' (partS F ver flex t) := by
  refine hI.call (args := [_, _, _, _]) (by simp [nt_spec_part]) ?_
  obtain ⟨tv, lv, uv, hcs, hs⟩ := tree_box hT
  subst hcs
  have hv : ∀ (a : Array Value), (Value.agg a).cells = a := fun a => rfl
  generalize hw1 : w.alloc (.cells [Value.int .i64 t.n, tv, .bool t.nul, lv, uv].toArray E.t_spec_Tree) = w1
  have hE : Ext none1 w w1 := by subst hw1; exact (Ext.refl none1 w).alloc _
  have hb1 : w1.heap[w.heap.size]? = some (.cells [Value.int .i64 t.n, tv, .bool t.nul, lv, uv].toArray E.t_spec_Tree (0, 0)) := by subst hw1; exact alloc_new
  have lT : ∀ wx, Ext none1 w1 wx → cellsFrom wx ⟨w.heap.size, 0, none⟩ 0 5 = some [Value.int .i64 t.n, tv, .bool t.nul, lv, uv] := by
    intro wx h'
    have := cellsFrom_row (h'.old hb1 (fun h => h))
    rw [show [Value.int .i64 t.n, tv, .bool t.nul, lv, uv].toArray.size = 5 by rfl] at this
    simpa using this
  have hF1 := hF.ext hE
  have hT1 := hT.ext hE
  obtain ⟨lsF, haF, hcF⟩ := hF1
  obtain ⟨aF, cF, rfl, _, hmaxF⟩ := haF.form
  have hF1 : FsAt w1 (.slice aF (lsF.getD []).length cF) F := ⟨lsF, haF, hcF⟩
  have hlenF : (lsF.getD []).length = (F.list ver flex).length := by rw [hcF.len, FS.list_len]
  have hl1000 : (F.list ver flex).length ≤ 1000 := by rw [FS.list_len]; exact hlen
  unfold partS at hsz ⊢
  rw [partL_eq] at hsz ⊢
  obtain ⟨Et, jt, hut, _, _⟩ := sliSz_spec ht.sF
  have hz : zeroOf P E.t_spec_Field = some (.agg zField) := ht.zF
  have hzz : zField.size = 8 := rfl
  have hzc : (Value.agg zField).cells = zField := rfl
  simp [ir_spec_part, rs_spec_part, hv, hw1, len_slice hut]
  rw [hlenF] at hF1 ⊢
  generalize hfv : Value.slice aF (F.list ver flex).length cF = fv at *
  have hlenfv : ∀ (wx : World) (KK : Value → World → Prop), lenK P E.t_l_spec_Field wx KK fv = KK (.int .i64 (F.list ver flex).length) wx := by
    intro wx KK; rw [← hfv]; simp [len_slice hut]
  have hkh : knownL ((F.list ver flex).map (·.h)) = knownL F.heads := by rw [FS.list_heads]
  generalize hL : F.list ver flex = L at *
  have hplain : (L.zipIdx.flatMap (plainE ver flex t)).length ≤ 1099511627776 := by
    revert hsz
    split
    · simp only [List.length_append]; intro h; omega
    · exact fun h => h
  refine cw_blockThen (PtEnd1 E.tU8 w1 fv ver flex w.heap.size L t) ?_ ?_
  · refine cw_loop (PtInv1 E.tU8 w1 fv ver flex w.heap.size L t) (fun f _ => match f 23 with | .int _ i => ((L.length : Int) - i).toNat | _ => 0) ?_ ?_
    · refine ⟨0, by omega, by simp, by simp, by simp, ⟨by simp, by simp, by simp, by simp⟩, by simp, by simp, ?_⟩
      simpa using Fresh.nil (Ext.refl none1 w1)
    · rintro f w' ⟨i, hi, h23, h22, h21, ⟨h0, h1, h2, h7⟩, h10, h11, hfr⟩
      simp [h23, h22]
      by_cases hlt : i < L.length
      · refine cw_true (by simp; omega) ?_
        obtain ⟨bb, oo, cc, h, s, sv, y, hfvv, hy, rfl, hss, hFs, hsv1, hcf⟩ := fs_elem (ver := ver) (flex := flex) hF1 hfr.2 (i := i) (by rw [hL]; exact hlt)
        rw [hL] at hfvv hy
        have hone : allOne (y.h.cells ++ [sv]) = true := FH.cells_one y.h hsv1
        have hcl := FH.cells_len y.h sv
        have hyz : L.zipIdx[i]? = some (y, i) := by rw [List.getElem?_zipIdx, hy]; simp
        have hnext := flatMap_takeS (plainE ver flex t) L.zipIdx i _ hyz
        have hle := flatMap_take_leS (plainE ver flex t) L.zipIdx (i + 1)
        rw [hnext, List.length_append] at hle
        have ei : IntKind.i64.wrap ((i : Int) + 1) = ((i + 1 : Nat) : Int) := by rw [i64_small (by omega) (by omega)]; rfl
        rw [hfvv] at h21
        simp [h23, h21, idx?, ht.sF, hlt, Addr.add_mk, ld_agg ht.kF, hcf, hz, hzc, store_agg ht.kF, hone, putK_blk alloc_new, hzz]
        rw [over_z8 hcl]
        generalize hw2 : (w'.alloc (.cells zField E.t_spec_Field)).setBlk w'.heap.size (.cells (y.h.cells ++ [sv]).toArray E.t_spec_Field (0, 0)) = w2
        have hb2 : w2.heap[w'.heap.size]? = some (.cells (y.h.cells ++ [sv]).toArray E.t_spec_Field (0, 0)) := by subst hw2; exact setBlk_same alloc_new
        have he2 : Ext none1 w' w2 := by subst hw2; exact ((Ext.refl none1 w').alloc _).setBlk (.inl (Nat.le_refl _)) _
        have hfr2 := hfr.post he2
        have c4 : w2.cell? ⟨w'.heap.size, 4, none⟩ = some (.int .i64 y.h.tag) := by rw [cell_of_blk hb2]; rfl
        obtain ⟨v9, hv9⟩ : ∃ v9, f 9 = v9 := ⟨_, rfl⟩
        rw [hv9] at hfr hfr2
        have hn9 : ∀ b, own1 v9 b → w1.heap.size ≤ b ∧ b < w'.heap.size := fun b hb => Own.below hfr.1 hb
        have hsz1 : w.heap.size < w1.heap.size := lt_of_heap hb1
        have lF2 : ∀ wx, Ext (own1 v9) w2 wx → cellsFrom wx ⟨w'.heap.size, 0, none⟩ 0 8 = some (y.h.cells ++ [sv]) := by
          intro wx h'
          have := cellsFrom_row (h'.old hb2 (fun h => by have := hn9 _ h; omega))
          simpa using this
        have hb12 : w2.heap[w.heap.size]? = some (.cells [Value.int .i64 t.n, tv, .bool t.nul, lv, uv].toArray E.t_spec_Tree (0, 0)) := hfr2.2.old hb1 (fun h => h)
        have lT2 : ∀ wx, Ext (own1 v9) w2 wx → cellsFrom wx ⟨w.heap.size, 0, none⟩ 0 5 = some [Value.int .i64 t.n, tv, .bool t.nul, lv, uv] := by
          intro wx h'
          have := cellsFrom_row (h'.old hb12 (fun h => by have := hn9 _ h; omega))
          rw [show [Value.int .i64 t.n, tv, .bool t.nul, lv, uv].toArray.size = 5 by rfl] at this
          simpa using this
        have r2 := Ext.refl (own1 v9) w2
        -- nothing is written
        have pass : plainE ver flex t (y, i) = [] → ∀ f' w3, f' 21 = .slice (some ⟨bb, oo, none⟩) L.length cc → f' 22 = .int .i64 L.length → PtB fv ver flex w.heap.size f' → f' 10 = .slice none 0 0 → f' 11 = .int .i64 0 → f' 9 = v9 → Ext none1 w2 w3 →
            f' 23 = .int .i64 ((i + 1 : Nat) : Int) → PtInv1 E.tU8 w1 fv ver flex w.heap.size L t f' w3 := by
          intro hp f' w3 k21 k22 kB k10 k11 k9 hx k23
          refine ⟨i + 1, by omega, k23, k22, by rw [k21, hfvv], kB, k10, k11, ?_⟩
          rw [hnext, hp, List.append_nil, k9]
          exact hfr2.post hx
        by_cases htag : y.h.tag < 0
        · simp [h1, ht.f4, Addr.add_mk, ld_scl ht.kInt, c4, htag, ld_agg ht.kF, lF2 w2 r2]
          refine (by simpa using hHas y.h sv ver w2 : Ret P _ _ _ _).mono ?_
          rintro _ w3 ⟨rfl, he3⟩
          have hx3 : Ext (own1 v9) w2 w3 := he3.mono (fun _ _ h => h.elim)
          try simp
          cases hhas : y.h.has ver with
          | false =>
            refine cw_false (by simp) ?_
            simp [h23, ei]
            refine ⟨pass (by simp [plainE, hhas]) _ w3 (by simp [h21]) (by simp [h22]) ⟨by simp [h0], by simp [h1], by simp [h2], by simp [h7]⟩ (by simp [h10]) (by simp [h11]) (by simp [hv9]) he3 (by simp), by omega⟩
          | true =>
            have hpl : plainE ver flex t (y, i) = fieldS y ver flex (t.at i) := by simp [plainE, htag, hhas]
            rw [hpl] at hnext hle
            refine cw_true (by simp) ?_
            have hD := hx3.drew
            refine cw_regH (Ext (own1 v9) w2) hD ?_
            simp +contextual [h1, h2, h7, hv9, ld_agg ht.kF, ld_agg ht.kT, lF2, lT2, lF2 w3.drew hD, lT2 w3.drew hD]
            have hxD : Ext none1 w1 w3.drew := hfr2.2.trans he3.drew
            refine (by simpa using hAt w3.drew _ t (hT1.ext hxD) i (by omega) : Ret P _ _ _ _).mono ?_
            rintro _ w4 ⟨cs', rfl, hT4, he4⟩
            have hx4 : Ext (own1 v9) w2 w4 := hD.trans (he4.mono (fun _ _ h => h.elim))
            have hn4 : Ext none1 w2 w4 := he3.drew.trans he4
            simp [hx4]
            have hfc := (hsub i y s hy hss).1 w4 sv cs' (t.at i) (hFs.ext (he2.trans hn4)) hT4 (by omega)
            refine (by simpa using hfc : Ret P _ _ _ _).mono ?_
            intro v5 w5 h5
            have hx5 : Ext (own1 v9) w2 w5 := hx4.trans (h5.2.mono (fun _ _ h => h.elim))
            simp [hx5]
            have hfr5 := hfr2.post (hn4.trans h5.2)
            refine st_app_bytes ht.sBs (by simp) hfr5.1 hfr5.2.size (own_bytes h5.1) (by omega) ?_
            intro v6 w6 ho hg
            have h6 := hfr5.grow ho hg
            have hx6 := hx5.trans hg.ext
            simp [hx6, h23, ei]
            refine ⟨⟨i + 1, by omega, by simp, by simp [h22], by simp [h21, hfvv], ⟨by simp [h0], by simp [h1], by simp [h2], by simp [h7]⟩, by simp [h10], by simp [h11], ?_⟩, by omega⟩
            rw [hnext]
            simpa using h6
        · have htag' : ¬ y.h.tag < 0 := htag
          simp [ht.f4, Addr.add_mk, ld_scl ht.kInt, c4, htag]
          refine cw_false (by simp) ?_
          simp [h23, ei]
          refine ⟨pass (by simp [plainE, htag]) _ w2 (by simp [h21]) (by simp [h22]) ⟨by simp [h0], by simp [h1], by simp [h2], by simp [h7]⟩ (by simp [h10]) (by simp [h11]) (by simp [hv9]) (Ext.refl _ _) (by simp), by omega⟩
      · refine cw_false (by simp; omega) ?_
        have : i = L.length := by omega
        subst this
        rw [List.take_of_length_le (by simp)] at hfr
        simp
        exact ⟨⟨by simp [h0], by simp [h1], by simp [h2], by simp [h7]⟩, by simp [h10], by simp [h11], by simpa using hfr⟩
  · rintro f wp ⟨⟨h0, h1, h2, h7⟩, h10, h11, hfr⟩
    cases flex with
    | false =>
      simp [h2]
      refine cw_true (by simp) ?_
      simp
      exact Fresh.pre hE hfr
    | true =>
      simp only [if_true] at hsz ⊢
      simp [h0, h2]
      refine cw_false (by simp) ?_
      simp [h0]
      refine (hKn wp fv F (hF1.ext hfr.2) hok).mono ?_
      rintro _ w2 ⟨rfl, he2⟩
      have hK1 := knownL_lt F.heads hok
      have eK : IntKind.i64.wrap (knownL F.heads : Int) = (knownL F.heads : Int) := i64_small (by omega) (by omega)
      obtain ⟨v9, hv9⟩ : ∃ v9, f 9 = v9 := ⟨_, rfl⟩
      rw [hv9] at hfr
      have hfr2 := hfr.post he2
      have hx12 : Ext none1 w1 w2 := hfr2.2
      simp [ht.iInt, ht.iU32, eK]
      have hents : entsL L ver true t = ((List.range (knownL F.heads)).flatMap fun k => L.zipIdx.flatMap (knE ver true t k)) ++ (unkS (knownL F.heads) t.u).map fun x => (x.1, x.2.take 32767) := by
        unfold entsL; rw [hkh]
      generalize hKK : knownL F.heads = KK at *
      rw [hents] at hsz ⊢
      have hszE : ((((List.range KK).flatMap fun k => L.zipIdx.flatMap (knE ver true t k)) ++ (unkS KK t.u).map fun x => (x.1, x.2.take 32767)).flatMap tagE).length ≤ 1099511627776 := by
        simp only [List.length_append] at hsz ⊢; omega
      -- any beginning of what the tags say is short
      have hbeg : ∀ a b, a ++ b = (((List.range KK).flatMap fun k => L.zipIdx.flatMap (knE ver true t k)) ++ (unkS KK t.u).map fun x => (x.1, x.2.take 32767)) → (a.flatMap tagE).length ≤ 1099511627776 := by
        intro a b hab
        rw [← hab, List.flatMap_append, List.length_append] at hszE
        omega
      have hbeg2 : ∀ k, k < KK → ∀ i, ∃ b, (((List.range k).flatMap fun k => L.zipIdx.flatMap (knE ver true t k)) ++ (L.zipIdx.take i).flatMap (knE ver true t k)) ++ b = (((List.range KK).flatMap fun k => L.zipIdx.flatMap (knE ver true t k)) ++ (unkS KK t.u).map fun x => (x.1, x.2.take 32767)) := by
        intro k hk i
        have e1 : List.range KK = List.range k ++ k :: ((List.range KK).drop (k + 1)) := by
          have := List.take_append_drop k (List.range KK)
          rw [List.take_range, Nat.min_eq_left (by omega), List.drop_eq_getElem_cons (by simpa using hk)] at this
          simpa using this.symm
        rw [e1]
        simp only [List.flatMap_append, List.flatMap_cons]
        have e2 : L.zipIdx.flatMap (knE ver true t k) = (L.zipIdx.take i).flatMap (knE ver true t k) ++ (L.zipIdx.drop i).flatMap (knE ver true t k) := by rw [← List.flatMap_append, List.take_append_drop]
        rw [e2]
        exact ⟨(L.zipIdx.drop i).flatMap (knE ver true t k) ++ ((((List.range KK).drop (k + 1)).flatMap fun k => L.zipIdx.flatMap (knE ver true t k)) ++ (unkS KK t.u).map fun x => (x.1, x.2.take 32767)), by simp only [List.append_assoc]⟩
      refine cw_blockThen (TgSt E.tU8 w2 fv ver true w.heap.size v9 ((List.range KK).flatMap fun k => L.zipIdx.flatMap (knE ver true t k))) ?_ ?_
      · refine cw_loop (Tg2 E.tU8 w2 fv ver w.heap.size v9 L t KK) (fun f _ => match f 52 with | .int _ i => ((KK : Int) - i).toNat | _ => 0) ?_ ?_
        · refine ⟨0, by omega, by simp, by simp, ⟨by simp [h0], by simp [h1], by simp [h2], by simp [h7]⟩, by simp [hv9], by simp [h11], ?_⟩
          simpa [h10] using Fresh.nil (Ext.refl none1 w2)
        · rintro f w' ⟨k, hk, h52, h51, ⟨h0, h1, h2, h7⟩, h9, h11, hfr⟩
          simp [h52, h51]
          by_cases hlt : k < KK
          · refine cw_true (by simp; omega) ?_
            simp [h52, h0, hlenfv]
            have ek : IntKind.i64.wrap ((k : Int) + 1) = ((k + 1 : Nat) : Int) := by rw [i64_small (by omega) (by omega)]; rfl
            refine cw_blockN (Tg3End E.tU8 w2 fv ver w.heap.size v9 L t KK k) ?_ ?_
            · refine cw_loop (Tg3 E.tU8 w2 fv ver w.heap.size v9 L t KK k) (fun f _ => match f 57 with | .int _ i => ((L.length : Int) - i).toNat | _ => 0) ?_ ?_
              · refine ⟨0, by omega, by simp, by simp, by simp, by simp, by simp [h52], by simp [h51], ⟨by simp [h0], by simp [h1], by simp [h2], by simp [h7]⟩, by simp [h9], by simp [h11], ?_⟩
                simpa using hfr
              · rintro f w' ⟨i, hi, h57, h56, h55, h14, h52, h51, ⟨h0, h1, h2, h7⟩, h9, h11, hfr⟩
                simp [h57, h56]
                by_cases hlt2 : i < L.length
                · refine cw_true (by simp; omega) ?_
                  obtain ⟨bb, oo, cc, h, s, sv, y, hfvv, hy, rfl, hss, hFs, hsv1, hcf⟩ := fs_elem (ver := ver) (flex := true) (hF1.ext hx12) hfr.2 (i := i) (by rw [hL]; exact hlt2)
                  rw [hL] at hfvv hy
                  have hone : allOne (y.h.cells ++ [sv]) = true := FH.cells_one y.h hsv1
                  have hcl := FH.cells_len y.h sv
                  have hyz : L.zipIdx[i]? = some (y, i) := by rw [List.getElem?_zipIdx, hy]; simp
                  have hnext := flatMap_takeS (knE ver true t k) L.zipIdx i _ hyz
                  have ei : IntKind.i64.wrap ((i : Int) + 1) = ((i + 1 : Nat) : Int) := by rw [i64_small (by omega) (by omega)]; rfl
                  rw [hfvv] at h55
                  simp [h57, h55, idx?, ht.sF, hlt2, Addr.add_mk, ld_agg ht.kF, hcf, hz, hzc, store_agg ht.kF, hone, putK_blk alloc_new, hzz]
                  rw [over_z8 hcl]
                  generalize hw3 : (w'.alloc (.cells zField E.t_spec_Field)).setBlk w'.heap.size (.cells (y.h.cells ++ [sv]).toArray E.t_spec_Field (0, 0)) = w3
                  have hb3 : w3.heap[w'.heap.size]? = some (.cells (y.h.cells ++ [sv]).toArray E.t_spec_Field (0, 0)) := by subst hw3; exact setBlk_same alloc_new
                  have he3 : Ext none1 w' w3 := by subst hw3; exact ((Ext.refl none1 w').alloc _).setBlk (.inl (Nat.le_refl _)) _
                  have hx3 : Ext none1 w1 w3 := hx12.trans (hfr.2.trans he3)
                  have c4 : ∀ wx, Ext none1 w3 wx → wx.cell? ⟨w'.heap.size, 4, none⟩ = some (.int .i64 y.h.tag) := fun wx h' => by rw [cell_of_blk (h'.old hb3 (fun h => h))]; rfl
                  have lF3 : ∀ wx, Ext none1 w3 wx → cellsFrom wx ⟨w'.heap.size, 0, none⟩ 0 8 = some (y.h.cells ++ [sv]) := by
                    intro wx h'
                    have := cellsFrom_row (h'.old hb3 (fun h => h))
                    simpa using this
                  have lT3 : ∀ wx, Ext none1 w3 wx → cellsFrom wx ⟨w.heap.size, 0, none⟩ 0 5 = some [Value.int .i64 t.n, tv, .bool t.nul, lv, uv] := fun wx h' => lT wx (hx3.trans h')
                  have r3 := Ext.refl none1 w3
                  have hD := r3.drew
                  obtain ⟨v10, hv10⟩ : ∃ v10, f 10 = v10 := ⟨_, rfl⟩
                  rw [hv10] at hfr
                  refine cw_gen (Tg4 fv ver w.heap.size v9 v10 (f 11) L.length k i KK w'.heap.size) ⟨by simp [h57], by simp [h56], by simp [h55, hfvv], by simp [h14], by simp [h52], by simp [h51], ⟨by simp [h0], by simp [h1], by simp [h2], by simp [h7]⟩, by simp [h9], by simp, by simp [hv10], by simp, by simp⟩ ?_
                  obtain ⟨v11, hv11⟩ : ∃ v11, f 11 = v11 := ⟨_, rfl⟩
                  rw [hv11] at h11
                  rw [hv11]
                  clear h57 h56 h55 h14 h52 h51 h0 h1 h2 h7 h9 hv10 hv11
                  clear f
                  intro f hTg
                  refine cw_then (Tg4A fv ver w.heap.size v9 v10 v11 L.length k i KK w'.heap.size w3 (y.h.tag = k ∧ usualS y (t.at i) = false)) ?_ ?_
                  · obtain ⟨k57, k56, k55, k14, k52, k51, ⟨k0, k1, k2, k7⟩, k9, k11, k10, k16, k15⟩ := hTg
                    refine cw_regH (Ext none1 w3) hD ?_
                    by_cases htk : y.h.tag = k
                    · simp +contextual [k16, k14, k15, k7, htk, ht.f4, Addr.add_mk, ld_scl ht.kInt, c4, c4 w3 r3, ld_agg ht.kF, ld_agg ht.kT, lF3, lT3, lF3 w3.drew hD, lT3 w3.drew hD]
                      refine (by simpa using hAt w3.drew _ t (hT1.ext (hx3.trans hD)) i (by omega) : Ret P _ _ _ _).mono ?_
                      rintro _ w4 ⟨cs', rfl, hT4, he4⟩
                      have hD4 := hD.trans he4
                      simp [hD4]
                      refine (by simpa using (hsub i y s hy hss).2 w4 sv cs' (t.at i) (hFs.ext (he3.trans hD4)) hT4 : Ret P _ _ _ _).mono ?_
                      rintro _ w5 ⟨rfl, he5⟩
                      have hD5 := hD4.trans he5
                      simp [hD5]
                      refine ⟨!usualS y (t.at i), by simp, by simp [htk], ⟨by simp [k57], by simp [k56], by simp [k55], by simp [k14], by simp [k52], by simp [k51], ⟨by simp [k0], by simp [k1], by simp [k2], by simp [k7]⟩, by simp [k9], by simp [k11], by simp [k10], by simp [k16], by simp [k15]⟩, hD5⟩
                    · have htk' : ((y.h.tag : Int) == (k : Int)) = false := by simp [htk]
                      simp +contextual [k16, k14, htk', htk, ht.f4, Addr.add_mk, ld_scl ht.kInt, c4, c4 w3 r3]
                      refine ⟨false, by simp, by simp [htk], ⟨by simp [k57], by simp [k56], by simp [k55], by simp [k14], by simp [k52], by simp [k51], ⟨by simp [k0], by simp [k1], by simp [k2], by simp [k7]⟩, by simp [k9], by simp [k11], by simp [k10], by simp [k16], by simp [k15]⟩, hD⟩
                  · rintro f w4 ⟨b, k73, hb, ⟨k57, k56, k55, k14, k52, k51, ⟨k0, k1, k2, k7⟩, k9, k11, k10, k16, k15⟩, he4⟩
                    cases b with
                    | false =>
                      have hnil : knE ver true t k (y, i) = [] := by
                        unfold knE
                        rw [if_neg (fun h => by have := hb.2 h; cases this)]
                      refine cw_false k73 ?_
                      simp [k57, ei]
                      refine ⟨⟨i + 1, by omega, by simp, by simp [k56], by simp [k55], by simp [k14], by simp [k52], by simp [k51], ⟨by simp [k0], by simp [k1], by simp [k2], by simp [k7]⟩, by simp [k9], ?_, ?_⟩, by omega⟩
                      · rw [hnext, hnil, List.append_nil]; simpa [k11] using h11
                      · rw [hnext, hnil, List.append_nil]; simpa [k10] using hfr.post (he3.trans he4)
                    | true =>
                      obtain ⟨htk, hus⟩ := hb.1 rfl
                      have hone' : knE ver true t k (y, i) = [(k, fieldS y ver true (t.at i))] := by
                        unfold knE
                        rw [if_pos ⟨htk, hus⟩]
                      rw [hone'] at hnext
                      refine cw_true k73 ?_
                      have hx4 : Ext none1 w1 w4 := hx3.trans he4
                      have hall := hbeg2 k hlt (i + 1)
                      rw [hnext] at hall
                      obtain ⟨bE, hall⟩ := hall
                      have hbd := hbeg _ _ hall
                      rw [← List.append_assoc, List.flatMap_append] at hbd
                      have hb1 : ([(k, fieldS y ver true (t.at i))].flatMap tagE) = uvS k ++ uvS (fieldS y ver true (t.at i)).length ++ fieldS y ver true (t.at i) := by simp [tagE, tagS]
                      rw [hb1] at hbd
                      simp only [List.length_append] at hbd
                      have hel := ents_len (((List.range k).flatMap fun k => L.zipIdx.flatMap (knE ver true t k)) ++ (L.zipIdx.take i).flatMap (knE ver true t k))
                      generalize hEE : ((List.range k).flatMap fun k => L.zipIdx.flatMap (knE ver true t k)) ++ (L.zipIdx.take i).flatMap (knE ver true t k) = EE at *
                      generalize hFS : fieldS y ver true (t.at i) = fs at *
                      rw [cw_seq]
                      refine cw_then (Tg4B E.tU8 fv ver w.heap.size v9 v10 v11 L.length k i KK w'.heap.size w4 fs) ?_ ?_
                      · have hD4 := (Ext.refl none1 w4).drew
                        have lF4 : ∀ wx, Ext none1 w4 wx → cellsFrom wx ⟨w'.heap.size, 0, none⟩ 0 8 = some (y.h.cells ++ [sv]) := fun wx h' => lF3 wx (he4.trans h')
                        have lT4 : ∀ wx, Ext none1 w4 wx → cellsFrom wx ⟨w.heap.size, 0, none⟩ 0 5 = some [Value.int .i64 t.n, tv, .bool t.nul, lv, uv] := fun wx h' => lT3 wx (he4.trans h')
                        refine cw_regH (Ext none1 w4) hD4 ?_
                        simp +contextual [k16, k15, k1, k2, k7, ld_agg ht.kF, ld_agg ht.kT, lF4, lT4, lF4 w4.drew hD4, lT4 w4.drew hD4]
                        refine (by simpa using hAt w4.drew _ t (hT1.ext (hx4.trans hD4)) i (by omega) : Ret P _ _ _ _).mono ?_
                        rintro _ w5 ⟨cs', rfl, hT5, he5⟩
                        have hD5 := hD4.trans he5
                        simp [hD5]
                        have hfc := (hsub i y s hy hss).1 w5 sv cs' (t.at i) (hFs.ext (he3.trans (he4.trans hD5))) hT5 (by rw [hFS]; omega)
                        rw [hFS] at hfc
                        refine (by simpa using hfc : Ret P _ _ _ _).mono ?_
                        intro v6 w6 h6
                        have hD6 := hD5.trans h6.2
                        simp [hD6]
                        exact ⟨w5, hD5, by simpa using h6, by simp [k57], by simp [k56], by simp [k55], by simp [k14], by simp [k52], by simp [k51], ⟨by simp [k0], by simp [k1], by simp [k2], by simp [k7]⟩, by simp [k9], by simp [k11], by simp [k10], by simp [k16], by simp [k15]⟩
                      · clear k57 k56 k55 k14 k52 k51 k0 k1 k2 k7 k9 k11 k10 k16 k15 k73
                        clear f
                        rintro f w5 ⟨wa, hea, hfb, k57, k56, k55, k14, k52, k51, ⟨k0, k1, k2, k7⟩, k9, k11, k10, k16, k15⟩
                        have hx5 : Ext none1 w' w5 := he3.trans (he4.trans (hea.trans hfb.2))
                        have hxa : Ext none1 w' wa := he3.trans (he4.trans hea)
                        rw [cw_seq]
                        refine cw_then (Tg4C E.tU8 fv ver w.heap.size v9 v11 L.length k i KK w'.heap.size w2 (EE.flatMap tagE ++ (uvS k ++ uvS fs.length ++ fs))) ?_ ?_
                        · obtain ⟨vb, hvb⟩ : ∃ vb, f 17 = vb := ⟨_, rfl⟩
                          rw [hvb] at hfb
                          have hbK := own_bytesK hfb.1
                          obtain ⟨ab, cb, rfl, _⟩ := hbK.len
                          have ek1 : IntKind.u64.wrap (k : Int) = (k : Nat) := by simp [IntKind.wrap, IntKind.signed, IntKind.bits]; omega
                          have ek2 : IntKind.u64.wrap (fs.length : Int) = (fs.length : Nat) := by simp [IntKind.wrap, IntKind.signed, IntKind.bits]; omega
                          simp [k10, k14, hvb, ht.iInt, ht.iU64, ek1]
                          refine (by simpa using hUv k (by omega) w5 : Ret P _ _ _ _).mono ?_
                          intro v84 w6 h6
                          have hfr6 := hfr.post (hx5.trans h6.2)
                          have hn10 : ∀ b, own1 v10 b → b < w'.heap.size := fun b hb => (Own.below hfr.1 hb).2
                          have hbk6 := hbK.ext h6.2 (fun _ _ _ h => h)
                          refine st_app_bytes ht.sBs (by simp) hfr6.1 hfr6.2.size (own_bytes h6.1) (by omega) ?_
                          intro v85 w7 ho7 hg7
                          have hfr7 := hfr6.grow ho7 hg7
                          have hbk7 := hbk6.ext hg7.ext (fun b _ hb h => by have := hn10 b h; have := hxa.size; omega)
                          simp [hvb, len_slice ht.uBs, ht.iInt, ht.iU64, ek2]
                          refine (by simpa using hUv fs.length (by omega) w7 : Ret P _ _ _ _).mono ?_
                          intro v89 w8 h8
                          have hfr8 := hfr7.post h8.2
                          have hbk8 := hbk7.ext h8.2 (fun _ _ _ h => h)
                          have hn85 : ∀ b, own1 v85 b → b < w'.heap.size ∨ w6.heap.size ≤ b := fun b hb => (hg7.own b hb).imp (hn10 b) id
                          refine st_app_bytes ht.sBs (by simp) hfr8.1 hfr8.2.size (own_bytes h8.1) (by simp only [List.length_append]; omega) ?_
                          intro v90 w9 ho9 hg9
                          have hfr9 := hfr8.grow ho9 hg9
                          have hbk9 := hbk8.ext hg9.ext (fun b _ hb h => by have := hn85 b h; have := hxa.size; have := h6.2.size; omega)
                          try simp [hvb]
                          refine st_app_bytes ht.sBs (by simp) hfr9.1 hfr9.2.size (by simpa using hbk9) (by simp only [List.length_append]; omega) ?_
                          intro v92 w10 ho10 hg10
                          have hfr10 := hfr9.grow ho10 hg10
                          refine ⟨v92, ?_, by simp [k57], by simp [k56], by simp [k55], by simp [k14], by simp [k52], by simp [k51], ⟨by simp [k0], by simp [k1], by simp [k2], by simp [k7]⟩, by simp [k9], by simp [k11], by simp, by simp [k16], by simp [k15]⟩
                          simpa [List.append_assoc] using hfr10
                        · clear k57 k56 k55 k14 k52 k51 k0 k1 k2 k7 k9 k11 k10 k16 k15
                          clear hfb hea hx5 hxa f
                          rintro f w6 ⟨v10', hfr6, k57, k56, k55, k14, k52, k51, ⟨k0, k1, k2, k7⟩, k9, k11, k10, k16, k15⟩
                          have em : IntKind.i64.wrap ((EE.length : Int) + 1) = ((EE.length + 1 : Nat) : Int) := by rw [i64_small (by omega) (by omega)]; rfl
                          simp [k11, h11, em, k57, ei]
                          refine ⟨⟨i + 1, by omega, by simp, by simp [k56], by simp [k55], by simp [k14], by simp [k52], by simp [k51], ⟨by simp [k0], by simp [k1], by simp [k2], by simp [k7]⟩, by simp [k9], ?_, ?_⟩, by omega⟩
                          · rw [hnext, ← List.append_assoc, hEE]; simp
                          · rw [hnext, ← List.append_assoc, hEE, List.flatMap_append, hb1]; simpa [k10] using hfr6
                · refine cw_false (by simp; omega) ?_
                  have : i = L.length := by omega
                  subst this
                  rw [List.take_of_length_le (by simp)] at hfr h11
                  simp
                  refine ⟨by simp [h52], by simp [h51], ⟨by simp [h0], by simp [h1], by simp [h2], by simp [h7]⟩, by simp [h9], ?_, ?_⟩
                  · rw [List.range_succ, List.flatMap_append]; simpa using h11
                  · rw [List.range_succ, List.flatMap_append]; simpa using hfr
            · rintro f w3 ⟨g52, g51, ⟨g0, g1, g2, g7⟩, g9, g11, gfr⟩
              simp [g52, ek]
              exact ⟨⟨k + 1, by omega, by simp, by simp [g51], ⟨by simp [g0], by simp [g1], by simp [g2], by simp [g7]⟩, by simp [g9], by simpa using g11, by simpa using gfr⟩, by omega⟩
          · refine cw_false (by simp; omega) ?_
            have : k = KK := by omega
            subst this
            simp
            exact ⟨⟨by simp [h0], by simp [h1], by simp [h2], by simp [h7]⟩, by simp [h9], by simpa using h11, by simpa using hfr⟩
      · rintro f w3 ⟨⟨h0, h1, h2, h7⟩, h9, h11, hfr3⟩
        generalize hE1 : ((List.range KK).flatMap fun k => L.zipIdx.flatMap (knE ver true t k)) = E1 at *
        have hx13 : Ext none1 w1 w3 := hx12.trans hfr3.2
        have c4 : w3.cell? ⟨w.heap.size, 4, none⟩ = some uv := by rw [cell_of_blk (hx13.old hb1 (fun h => h))]; rfl
        obtain ⟨v10q, hv10q⟩ : ∃ v10q, f 10 = v10q := ⟨_, rfl⟩
        rw [hv10q] at hfr3
        simp [h0, h7, ht.t4, Addr.add_mk, ld_scl ht.kLU, c4]
        have hun := hUn w1 w3 fv F uv t.u hx13 (hF1.ext hx13) hok (tree_u hT1)
        rw [hKK] at hun
        refine hun.mono ?_
        rintro v100 w4 ⟨hu4, he4⟩
        have hU32 : (unkS KK t.u).length ≤ 32767 := unkS_len
        generalize hU : unkS KK t.u = U at *
        obtain ⟨lu, hau, hlu, hgu⟩ := hu4
        obtain ⟨au, cu, rfl, _, hmaxu⟩ := hau.form
        obtain ⟨Eu, ju, huu, _, _⟩ := sliSz_spec ht.sU
        rw [hlu] at hau ⊢
        simp [len_slice huu]
        have hown3 : ∀ b, own1 v10q b → w2.heap.size ≤ b ∧ b < w3.heap.size := fun b hb => Own.below hfr3.1 hb
        have hKd : ∀ b, (b < w1.heap.size ∨ w3.heap.size ≤ b) → ¬ own1 v10q b := fun b hb h => by have := hown3 b h; have := hx12.size; omega
        have hcut : (fun x : Nat × List UInt8 => (x.1, x.2.take 32767)) = cutV := rfl
        rw [hcut] at hszE hsz hbeg ⊢
        refine cw_blockThen (Tg5End E.tU8 w2 v9 (E1 ++ U.map cutV)) ?_ ?_
        · refine cw_loop (Tg5 E.tU8 w2 w4 fv ver w.heap.size v9 v10q (.slice au U.length cu) E1 U) (fun f _ => match f 102 with | .int _ i => ((U.length : Int) - i).toNat | _ => 0) ?_ ?_
          · refine ⟨0, v10q, by omega, by simp, by simp, by simp, by simp [h9], by simp [hv10q], by simp [h11], by simpa using hfr3.post he4, Grew.refl _ _⟩
          · rintro f w' ⟨i, v10, hi, k102, k101, k100, k9, k10, k11, hfr, hgr⟩
            simp [k102, k101]
            by_cases hlt : i < U.length
            · refine cw_true (by simp; omega) ?_
              have ei : IntKind.i64.wrap ((i : Int) + 1) = ((i + 1 : Nat) : Int) := by rw [i64_small (by omega) (by omega)]; rfl
              cases lu with
              | none => simp at hlu; omega
              | some lu =>
              obtain ⟨bb, oo, cc, hvv, hKb, _, hx⟩ := hau
              simp only [Option.getD_some] at hlu hmaxu hgu
              simp only [Value.slice.injEq] at hvv
              obtain ⟨rfl, _, rfl⟩ := hvv
              obtain ⟨c, hc⟩ : ∃ c, lu[i]? = some c := ⟨_, List.getElem?_eq_getElem (by omega)⟩
              obtain ⟨x, hxU⟩ : ∃ x, U[i]? = some x := ⟨_, List.getElem?_eq_getElem hlt⟩
              obtain ⟨bv, rfl, hx32, hbv⟩ := hgu i c x hc hxU
              have hcx := (hx i _ hc).2.ext (K := fun b => b < w1.heap.size ∨ w3.heap.size ≤ b) hgr.ext (fun b _ hb => hKd b hb) hKb
              have hcf := cellsFrom_list0 hcx
              have hbv4 := (hbv.mono (K' := fun b => (b < w1.heap.size ∨ w3.heap.size ≤ b) ∧ b < w4.heap.size) (fun b hb h => ⟨h, hb⟩)).ext hgr.ext (fun b _ hb => hKd b hb.1)
              obtain ⟨ab, cb, hbvf, _⟩ := hbv4.len
              have hone : allOne [Value.int .u32 x.1, bv] = true := by rw [hbvf]; rfl
              have hzT : zeroOf P E.t_spec_Tag = some (.agg #[.int .u32 0, .slice none 0 0]) := ht.zU
              have hzTc : (Value.agg #[.int .u32 0, .slice none 0 0]).cells = #[.int .u32 0, .slice none 0 0] := rfl
              have hl2 : [Value.int .u32 x.1, bv].length = 2 := rfl
              rw [hl2] at hcf
              have hone2 : bv.oneCell' = true := by rw [hbvf]; rfl
              have hone3 : (Value.int .u32 x.1).oneCell' = true := rfl
              simp only [cw_skip, thenF_normal]
              rw [cw_seq, cw_block, cw_seq]
              refine cw_then (Tg6S fv v9 v10 (.int .i64 ((E1 ++ (U.take i).map cutV).length : Nat)) (.slice (some ⟨bb, oo, none⟩) U.length cu) U.length i w'.heap.size x.1 w' [Value.int .u32 x.1, bv] E.t_spec_Tag) ?_ ?_
              · simp [k102, k100, idx?, ht.sU, hlt, Addr.add_mk, ld_agg ht.kU, hcf, hzT, hzTc, store_agg ht.kU, putK_blk alloc_new, allOne, hone2, hone3]
                have hov : over #[.int .u32 0, .slice none 0 0] 0 [Value.int .u32 x.1, bv] = #[Value.int .u32 x.1, bv] := by simp [over]
                rw [hov]
                exact ⟨_, ⟨by simp [k102], by simp [k101], by simp [k100], by simp [k9], by simp [k10], by simp [k11], by simp, rfl⟩, ((Ext.refl none1 w').alloc _).setBlk (.inl (Nat.le_refl _)) _, setBlk_same alloc_new⟩
              clear k102 k101 k100 k9 k10 k11
              clear f
              rintro f w5 ⟨v20, ⟨k102, k101, k100, k9, k10, k11, k19, k20⟩, he5, hb5⟩
              clear k20
              have hfr5 := hfr.post he5
              have hgr5 := hgr.post he5
              have hbv5 := hbv4.ext he5 (fun _ _ _ h => h)
              have hown10 : ∀ b, own1 v10 b → (w2.heap.size ≤ b ∧ b < w3.heap.size) ∨ w4.heap.size ≤ b := fun b hb => (hgr.own b hb).imp (hown3 b) id
              have htk : (U.take (i + 1)).map cutV = (U.take i).map cutV ++ [cutV x] := by rw [List.take_add_one, hxU]; simp
              have hbd := hbeg (E1 ++ (U.take (i + 1)).map cutV) ((U.drop (i + 1)).map cutV) (by rw [List.append_assoc, ← List.map_append, List.take_append_drop])
              rw [htk, ← List.append_assoc, List.flatMap_append] at hbd
              have hb1' : [cutV x].flatMap tagE = uvS x.1 ++ uvS (x.2.take 32767).length ++ x.2.take 32767 := by simp [tagE, tagS, cutV]
              rw [hb1'] at hbd
              simp only [List.length_append] at hbd
              have hel := ents_len (E1 ++ (U.take i).map cutV)
              have hts32 : (x.2.take 32767).length ≤ 32767 := by simp; omega
              generalize hEE : E1 ++ (U.take i).map cutV = EE at *
              generalize hS : x.2.take 32767 = s at *
              rw [cw_seq]
              refine cw_then (Tg6A fv v9 v10 (.int .i64 (EE.length : Nat)) (.slice (some ⟨bb, oo, none⟩) U.length cu) U.length i w'.heap.size x.1 w5 (fun b => (b < w1.heap.size ∨ w3.heap.size ≤ b) ∧ b < w4.heap.size) s) ?_ ?_
              · have c1 : w5.cell? ⟨w'.heap.size, 1, none⟩ = some bv := by rw [cell_of_blk hb5]; rfl
                simp [k19, ht.u1, Addr.add_mk, ld_scl ht.kBs, c1]
                refine (hWh w5 _ bv x.2 hbv5).mono ?_
                rintro vb wx ⟨hvb, rfl⟩
                rw [hS] at hvb
                exact ⟨vb, ⟨by simp [k102], by simp [k101], by simp [k100], by simp [k9], by simp [k10], by simp [k11], by simp [k19], by simp⟩, hvb, rfl⟩
              · clear k102 k101 k100 k9 k10 k11 k19
                clear f
                rintro f w5' ⟨vb, ⟨k102, k101, k100, k9, k10, k11, k19, k20⟩, hvb, hw5'⟩
                rw [hw5']
                rw [cw_seq]
                refine cw_then (Tg6B E.tU8 fv v9 (.int .i64 (EE.length : Nat)) (.slice (some ⟨bb, oo, none⟩) U.length cu) v10q U.length i w'.heap.size x.1 w2 w4 (EE.flatMap tagE ++ (uvS x.1 ++ uvS s.length ++ s))) ?_ ?_
                · obtain ⟨a2, c2, rfl, _⟩ := hvb.len
                  have c0 : w5.cell? ⟨w'.heap.size, 0, none⟩ = some (.int .u32 x.1) := by rw [cell_of_blk hb5]; rfl
                  have ek1 : IntKind.u64.wrap (x.1 : Int) = (x.1 : Nat) := by simp [IntKind.wrap, IntKind.signed, IntKind.bits]; omega
                  have ek2 : IntKind.u64.wrap (s.length : Int) = (s.length : Nat) := by simp [IntKind.wrap, IntKind.signed, IntKind.bits]; omega
                  simp [k10, k19, k20, ht.u0, Addr.add_mk, ld_scl ht.kU32, c0, ht.iU32, ht.iU64, ek1]
                  refine (by simpa using hUv x.1 (by omega) w5 : Ret P _ _ _ _).mono ?_
                  intro v84 w6 h6
                  have hfr6 := hfr5.post h6.2
                  have hbk6 := hvb.ext h6.2 (fun _ _ _ h => h)
                  refine st_app_bytes ht.sBs (by simp) hfr6.1 hfr6.2.size (own_bytes h6.1) (by omega) ?_
                  intro v85 w7 ho7 hg7
                  have hfr7 := hfr6.grow ho7 hg7
                  have hbk7 := hbk6.ext hg7.ext (fun b _ hb h => by have := hown10 b h; have := hx12.size; omega)
                  simp [k20, len_slice ht.uBs, ht.iInt, ht.iU64, ek2]
                  refine (by simpa using hUv s.length (by omega) w7 : Ret P _ _ _ _).mono ?_
                  intro v89 w8 h8
                  have hfr8 := hfr7.post h8.2
                  have hbk8 := hbk7.ext h8.2 (fun _ _ _ h => h)
                  have hs46 : w4.heap.size ≤ w6.heap.size := Nat.le_trans hgr5.ext.size h6.2.size
                  have hn85 : ∀ b, own1 v85 b → ((w2.heap.size ≤ b ∧ b < w3.heap.size) ∨ w4.heap.size ≤ b) := fun b hb => (hg7.own b hb).elim (hown10 b) (fun h => .inr (by omega))
                  refine st_app_bytes ht.sBs (by simp) hfr8.1 hfr8.2.size (own_bytes h8.1) (by simp only [List.length_append]; omega) ?_
                  intro v90 w9 ho9 hg9
                  have hfr9 := hfr8.grow ho9 hg9
                  have hbk9 := hbk8.ext hg9.ext (fun b _ hb h => by have := hn85 b h; have := hx12.size; omega)
                  try simp [k20]
                  refine st_app_bytes ht.sBs (by simp) hfr9.1 hfr9.2.size (by simpa using hbk9) (by simp only [List.length_append]; omega) ?_
                  intro v92 w10 ho10 hg10
                  have hfr10 := hfr9.grow ho10 hg10
                  refine ⟨v92, _, ⟨by simp [k102], by simp [k101], by simp [k100], by simp [k9], by simp, by simp [k11], by simp [k19], rfl⟩, ?_, ?_⟩
                  · simpa [List.append_assoc] using hfr10
                  · exact (((hgr5.post h6.2).trans hg7).post h8.2).trans (hg9.trans hg10)
                · clear k102 k101 k100 k9 k10 k11 k19 k20
                  clear f
                  rintro f w6 ⟨v10', vb', ⟨k102, k101, k100, k9, k10, k11, k19, k20⟩, hfr6, hgr6⟩
                  have em : IntKind.i64.wrap ((EE.length : Int) + 1) = ((EE.length + 1 : Nat) : Int) := by rw [i64_small (by omega) (by omega)]; rfl
                  simp [k11, em, k102, ei]
                  refine ⟨⟨i + 1, v10', by omega, by simp, by simp [k101], by simp [k100], by simp [k9], by simp [k10], ?_, ?_, hgr6⟩, by omega⟩
                  · rw [htk, ← List.append_assoc, hEE]; simp
                  · rw [htk, ← List.append_assoc, hEE, List.flatMap_append, hb1']; exact hfr6
            · refine cw_false (by simp; omega) ?_
              have : i = U.length := by omega
              subst this
              rw [List.take_length] at hfr k11
              simp
              exact ⟨by simp [k9], by simpa using k11, by simpa [k10] using hfr⟩
        · rintro f w5 ⟨k9, k11, hfr5⟩
          have hel := ents_len (E1 ++ U.map cutV)
          have hfr9 : Fresh E.tU8 w1 v9 w5 (L.zipIdx.flatMap (plainE ver true t)) := hfr2.post hfr5.2
          have hbk := own_bytesK hfr5.1
          have hn9 : ∀ b, own1 v9 b → b < w2.heap.size := fun b hb => (Own.below hfr2.1 hb).2
          generalize hEE : E1 ++ U.map cutV = EE at *
          generalize L.zipIdx.flatMap (plainE ver true t) = pl at *
          obtain ⟨v10, hv10⟩ : ∃ v10, f 10 = v10 := ⟨_, rfl⟩
          rw [hv10] at hbk
          simp only [List.length_append] at hsz
          have em : IntKind.u64.wrap (EE.length : Int) = (EE.length : Nat) := by simp [IntKind.wrap, IntKind.signed, IntKind.bits]; omega
          simp [k9, k11, ht.iInt, ht.iU64, em]
          refine (by simpa using hUv EE.length (by omega) w5 : Ret P _ _ _ _).mono ?_
          intro v6 w6 h6
          have hfr6 := hfr9.post h6.2
          have hbk6 := hbk.ext h6.2 (fun _ _ _ h => h)
          refine st_app_bytes ht.sBs (by simp) hfr6.1 hfr6.2.size (own_bytes h6.1) (by omega) ?_
          intro v7 w7 ho7 hg7
          have hfr7 := hfr6.grow ho7 hg7
          have hbk7 := hbk6.ext hg7.ext (fun b _ hb h => by have := hn9 b h; omega)
          simp [hv10]
          refine st_app_bytes ht.sBs (by simp) hfr7.1 hfr7.2.size (by simpa using hbk7) (by simp only [List.length_append]; omega) ?_
          intro v8 w8 ho8 hg8
          have hfr8 := hfr7.grow ho8 hg8
          try simp
          have hfin := Fresh.pre hE hfr8
          rw [← hEE] at hfin
          simpa [List.append_assoc] using hfin
end
end Go.Kg

set_option linter.unusedSimpArgs false
set_option linter.unusedVariables false
namespace Go.Kg
open Go
def FS.okAll : FS → Prop
  | .nil => True
  | .cons h sub rest => FH.ok h ∧ fits h.dflt ∧ sub.len ≤ 1000 ∧ sub.okAll ∧ rest.okAll
theorem FS.okAll.heads : ∀ {F : FS}, F.okAll → ∀ g ∈ F.heads, FH.ok g
  | .nil, _, g, hg => by cases hg
  | .cons h sub rest, ho, g, hg => by
    rcases List.mem_cons.1 hg with rfl | hg
    · exact ho.1
    · exact FS.okAll.heads ho.2.2.2.2 g hg
/-- The functions of package spec that write. -/
structure SpecFns (P : Program) (E : Env) : Prop where
  Fixed : FnIs P E.f_spec_Fixed nt_spec_Fixed (rs_spec_Fixed E) (ir_spec_Fixed E)
  width : FnIs P E.f_spec_width nt_spec_width (rs_spec_width E) (ir_spec_width E)
  Uvarint : FnIs P E.f_spec_Uvarint nt_spec_Uvarint (rs_spec_Uvarint E) (ir_spec_Uvarint E)
  has : FnIs P E.f_spec_Field_has nt_spec_Field_has (rs_spec_Field_has E) (ir_spec_Field_has E)
  null : FnIs P E.f_spec_Field_null nt_spec_Field_null (rs_spec_Field_null E) (ir_spec_Field_null E)
  whole : FnIs P E.f_spec_whole nt_spec_whole (rs_spec_whole E) (ir_spec_whole E)
  things : FnIs P E.f_spec_things nt_spec_things (rs_spec_things E) (ir_spec_things E)
  counted : FnIs P E.f_spec_counted nt_spec_counted (rs_spec_counted E) (ir_spec_counted E)
  at_ : FnIs P E.f_spec_at nt_spec_at (rs_spec_at E) (ir_spec_at E)
  known : FnIs P E.f_spec_known nt_spec_known (rs_spec_known E) (ir_spec_known E)
  unknown : FnIs P E.f_spec_unknown nt_spec_unknown (rs_spec_unknown E) (ir_spec_unknown E)
  Same : FnIs P E.f_spec_Same nt_spec_Same (rs_spec_Same E) (ir_spec_Same E)
  value : FnIs P E.f_spec_value nt_spec_value (rs_spec_value E) (ir_spec_value E)
  field : FnIs P E.f_spec_field nt_spec_field (rs_spec_field E) (ir_spec_field E)
  usual : FnIs P E.f_spec_usual nt_spec_usual (rs_spec_usual E) (ir_spec_usual E)
  part : FnIs P E.f_spec_part nt_spec_part (rs_spec_part E) (ir_spec_part E)
  Write : FnIs P E.f_spec_Write nt_spec_Write (rs_spec_Write E) (ir_spec_Write E)
section
variable {P : Program} {E : Env} (ht : TyG P E) (hs : SpecFns P E)
include ht hs
theorem sp_Fixed : FixedC P E := fun n k hk => c_Fixed ht.toTyWr hs.Fixed n k hk
theorem sp_Width : WidthC P E := fun k w => c_width hs.width k w
theorem sp_Uv : UvC P E := fun n hn => c_SUvarint ht.toTyWr hs.Uvarint n hn
theorem sp_Has : HasC P E := fun h sv v w => c_has ht.toTyF hs.has h sv v w
theorem sp_Whole : WholeC P E := fun w K v s h => c_whole ht.toTyF hs.whole w K v s h
theorem sp_At : AtC P E := fun w cs t hT i hi => c_at ht.toTyF hs.at_ w cs t hT i hi
theorem sp_Known : KnownC P E := fun w fv F hF hok => c_known ht.toTyF hs.known w fv F hF hok
theorem sp_Unk : UnkC P E := c_unknown ht hs.unknown (sp_Known ht hs)
theorem sp_Same : SameC P E := fun w K K' va vb s t h1 h2 h3 => c_Same ht.toTyF hs.Same w K K' va vb s t h1 h2 h3
theorem sp_Counted : ∀ (flex nul : Bool) (n size : Nat), n ≤ 1099511627776 → size ≤ 8 → SpC P E.tU8 E.f_spec_counted [.bool flex, .bool nul, .int .i64 n, .int .i64 size] (countedS flex nul n size) :=
  fun flex nul n size hn hz => c_counted ht.toTyF hs.counted (sp_Fixed ht hs) (sp_Uv ht hs) flex nul n size hn hz
/-- part of fields whose own functions stand -/
theorem sp_partOf {F : FS} {ver : Int} {flex : Bool} (hok : F.okAll) (hlen : F.len ≤ 1000) (hsub : ∀ (i : Nat) y s, (F.list ver flex)[i]? = some y → F.subs[i]? = some s → FieldC P E y s ver flex ∧ UsC P E y s)
    (w : World) (fv : Value) (cs : List Value) (t : Tr) (hF : FsAt w fv F) (hT : TreeAt w cs t) (hsz : (partS F ver flex t).length ≤ 1099511627776) :
    Ret P E.f_spec_part #[fv, .int .i64 ver, .bool flex, .agg cs.toArray] w fun v w' => Fresh E.tU8 w v w' (partS F ver flex t) :=
  c_part ht hs.part (sp_At ht hs) (sp_Unk ht hs) (sp_Known ht hs) (sp_Has ht hs) (sp_Uv ht hs) (sp_Whole ht hs) F ver flex hok.heads hlen hsub w fv cs t hF hT hsz
theorem sp_fields (ver : Int) (flex : Bool) : ∀ F : FS, F.okAll → ∀ (i : Nat) y s, (F.list ver flex)[i]? = some y → F.subs[i]? = some s → FieldC P E y s ver flex ∧ UsC P E y s := by
  intro F
  induction F with
  | nil => intro _ i y s hy; simp [FS.list] at hy
  | cons h sub rest ihs ihr =>
    intro ho i y s hy hss
    cases i with
    | succ i => exact ihr ho.2.2.2.2 i y s (by simpa [FS.list] using hy) (by simpa [FS.subs] using hss)
    | zero =>
      simp only [FS.list, FS.subs, List.getElem?_cons_zero, Option.some.injEq] at hy hss
      subst hy hss
      have hS := ihs ho.2.2.2.1
      have hP := sp_partOf ht hs ho.2.2.2.1 ho.2.2.1 hS
      refine ⟨?_, ?_⟩
      · intro w sv cs t hF hT hsz
        have hPC : PartC P E sv (partL (sub.list ver flex) ver flex) ver flex w := fun w' cs' t' he hT' hb => hP w' sv cs' t' (hF.ext he) hT' hb
        have hVC : ValC P E sv (partL (sub.list ver flex) ver flex) ver flex w := by
          intro kind nul w' cs' t' he hT' hb
          refine c_value ht.toTyF hs.value (sp_Fixed ht hs) (sp_Width ht hs) (sp_Whole ht hs) (sp_Counted ht hs) kind sv _ nul ver flex w' cs' t' hT' ?_
          intro hk w2 he2
          refine hP w2 sv cs' t' (hF.ext (he.trans he2)) (hT'.ext he2) ?_
          subst hk
          simpa [valS, partS] using hb
        have hsv : sv.oneCell' = true := by
          obtain ⟨ls, ha, _⟩ := hF
          obtain ⟨a, c, rfl, _⟩ := ha.form
          rfl
        exact c_field ht.toTyF hs.field (sp_Fixed ht hs) (fun h sv v w n s l u nul => c_null ht.toTyF hs.null h sv v w n s l u nul) (fun w v ls hs' => c_things ht.toTyF hs.things w v ls hs') (sp_Counted ht hs) h sv _ _ _ ver flex w cs t hT hVC hPC hsz hsv
      · exact c_usual ht hs.usual (sp_At ht hs) (sp_Unk ht hs) (sp_Fixed ht hs) (sp_Width ht hs) (sp_Same ht hs) h sub ver flex _ _ ho.2.2.2.1.heads (fun i y s hy hss => (hS i y s hy hss).2)
theorem sp_part {F : FS} {ver : Int} {flex : Bool} (hok : F.okAll) (hlen : F.len ≤ 1000) (w : World) (fv : Value) (cs : List Value) (t : Tr) (hF : FsAt w fv F) (hT : TreeAt w cs t) (hsz : (partS F ver flex t).length ≤ 1099511627776) :
    Ret P E.f_spec_part #[fv, .int .i64 ver, .bool flex, .agg cs.toArray] w fun v w' => Fresh E.tU8 w v w' (partS F ver flex t) :=
  sp_partOf ht hs hok hlen (sp_fields ht hs ver flex F hok) w fv cs t hF hT hsz
end
/-- What a message's type is in memory. -/
structure TyM (P : Program) (E : Env) : Prop extends TyG P E where
  m0 : fldOff P E.t_spec_Message 0 = some 0
  m1 : fldOff P E.t_spec_Message 1 = some 1
def flexAt (fx ver : Int) : Bool := decide (0 ≤ fx) && decide (fx ≤ ver)
section
variable {P : Program} {E : Env} (ht : TyM P E) (hs : SpecFns P E)
include ht hs
theorem sp_Write {F : FS} {fx ver : Int} (hok : F.okAll) (hlen : F.len ≤ 1000) (w : World) (fv : Value) (cs : List Value) (t : Tr) (hF : FsAt w fv F) (hT : TreeAt w cs t) (hsz : (partS F ver (flexAt fx ver) t).length ≤ 1099511627776) :
    Ret P E.f_spec_Write #[.agg #[fv, .int .i64 fx], .int .i64 ver, .agg cs.toArray] w fun v w' => Fresh E.tU8 w v w' (partS F ver (flexAt fx ver) t) := by
  refine hs.Write.call (args := [_, _, _]) (by simp [nt_spec_Write]) ?_
  obtain ⟨tv, lv, uv, hcs, hss⟩ := tree_box hT
  subst hcs
  have hv : ∀ (a : Array Value), (Value.agg a).cells = a := fun a => rfl
  generalize hw1 : (w.alloc (.cells #[fv, .int .i64 fx] E.t_spec_Message)).alloc (.cells [Value.int .i64 t.n, tv, .bool t.nul, lv, uv].toArray E.t_spec_Tree) = w1
  have hE : Ext none1 w w1 := by subst hw1; exact ((Ext.refl none1 w).alloc _).alloc _
  have hb0 : w1.heap[w.heap.size]? = some (.cells #[fv, .int .i64 fx] E.t_spec_Message (0, 0)) := by subst hw1; exact alloc_old alloc_new
  have hb1 : w1.heap[w.heap.size + 1]? = some (.cells [Value.int .i64 t.n, tv, .bool t.nul, lv, uv].toArray E.t_spec_Tree (0, 0)) := by
    subst hw1
    have := alloc_new (w := w.alloc (.cells #[fv, .int .i64 fx] E.t_spec_Message)) (o := .cells [Value.int .i64 t.n, tv, .bool t.nul, lv, uv].toArray E.t_spec_Tree)
    simpa using this
  have c0 : w1.cell? ⟨w.heap.size, 0, none⟩ = some fv := by rw [cell_of_blk hb0]; rfl
  have c1 : w1.cell? ⟨w.heap.size, 1, none⟩ = some (.int .i64 fx) := by rw [cell_of_blk hb0]; rfl
  have lT : cellsFrom w1 ⟨w.heap.size + 1, 0, none⟩ 0 5 = some [Value.int .i64 t.n, tv, .bool t.nul, lv, uv] := by
    have := cellsFrom_row hb1
    rw [show [Value.int .i64 t.n, tv, .bool t.nul, lv, uv].toArray.size = 5 by rfl] at this
    simpa using this
  have key : ∀ fl, fl = flexAt fx ver → Ret P E.f_spec_part #[fv, .int .i64 ver, .bool fl, .agg [Value.int .i64 t.n, tv, .bool t.nul, lv, uv].toArray] w1 fun v w' => Fresh E.tU8 w1 v w' (partS F ver (flexAt fx ver) t) := by
    rintro fl rfl
    exact sp_part ht.toTyG hs hok hlen w1 fv _ t (hF.ext hE) (hT.ext hE) hsz
  have hFl := ht.m1
  simp [ir_spec_Write, rs_spec_Write, hv, hw1, ht.m0, ht.m1, Addr.add_mk, ld_scl ht.kLF, ld_scl ht.kInt, c0, c1, ld_agg ht.kT, lT]
  by_cases h1 : 0 ≤ fx
  · by_cases h2 : fx ≤ ver
    · simp [h1, h2]
      refine (by simpa using key true (by simp [flexAt, h1, h2]) : Ret P _ _ _ _).mono ?_
      intro v w' h
      simpa using Fresh.pre hE h
    · simp [h1, h2]
      refine (by simpa using key false (by simp [flexAt, h1, h2]) : Ret P _ _ _ _).mono ?_
      intro v w' h
      simpa using Fresh.pre hE h
  · simp [h1]
    refine (by simpa using key false (by simp [flexAt, h1]) : Ret P _ _ _ _).mono ?_
    intro v w' h
    simpa using Fresh.pre hE h
end
end Go.Kg

set_option linter.unusedSimpArgs false
set_option linter.unusedVariables false
namespace Go.Kg
open Go
/-- the tags of a tree have numbers of 32 bits -/
inductive Tr.Ok : Tr → Prop where
  | mk {n : Int} {s : List UInt8} {nul : Bool} {l : List Tr} {u : List (Nat × List UInt8)} (hu : ∀ x ∈ u, x.1 < 4294967296) (hl : ∀ t ∈ l, Tr.Ok t) : Tr.Ok (.mk n s nul l u)
theorem Tr.Ok.l {t : Tr} (h : t.Ok) : ∀ x ∈ t.l, x.Ok := by cases h with | mk _ hl => exact hl
theorem Tr.Ok.u {t : Tr} (h : t.Ok) : ∀ x ∈ t.u, x.1 < 4294967296 := by cases h with | mk hu _ => exact hu
theorem Tr.Ok.none : Tr.none.Ok := .mk (by simp) (by simp)
theorem Tr.Ok.at {t : Tr} (h : t.Ok) (i : Nat) : (t.at i).Ok := by
  unfold Tr.at
  cases hi : t.l[i]? with
  | none => exact Tr.Ok.none
  | some x => exact h.l x (List.mem_of_getElem? hi)
theorem TreeAt.ok {w : World} : ∀ {t : Tr} {cs : List Value}, TreeAt w cs t → t.Ok := by
  intro t cs h
  induction h with
  | mk hn hs ha hl he hu ih =>
    rename_i n s nul l u sv lv uv ls
    refine .mk ?_ ?_
    · obtain ⟨ls', _, hlen, hx⟩ := hu
      intro x hxm
      obtain ⟨i, hi⟩ := List.getElem?_of_mem hxm
      have hlt := (List.getElem?_eq_some_iff.1 hi).1
      obtain ⟨c, hc⟩ : ∃ c, (ls'.getD [])[i]? = some c := ⟨_, List.getElem?_eq_getElem (by omega)⟩
      exact (hx i c x hc hi).choose_spec.2.1
    · intro x hxm
      obtain ⟨i, hi⟩ := List.getElem?_of_mem hxm
      have hlt := (List.getElem?_eq_some_iff.1 hi).1
      obtain ⟨c, hc⟩ : ∃ c, (ls.getD [])[i]? = some c := ⟨_, List.getElem?_eq_getElem (by omega)⟩
      exact ih i c x hc hi
def Prim.txt : Prim → Bool
  | .str | .bytes => true
  | _ => false
end Go.Kg

set_option linter.unusedSimpArgs false
set_option linter.unusedVariables false
namespace Go.Kg
open Go
def Sch.cap : Sch → Nat
  | .fin => 0
  | .tags _ _ => 5 + 40000 * 32777
  | .prim _ _ _ _ _ _ r => 32772 + r.cap
  | .arrP _ _ _ _ _ _ r => 5 + 32767 * 32772 + r.cap
  | .arrS _ _ _ _ _ _ _ _ _ e r => 5 + 32767 * e.cap + r.cap
  | .sub _ _ _ _ _ _ _ e r => e.cap + r.cap
  | .opt _ _ _ _ _ _ _ _ e r => 1 + e.cap + r.cap
end Go.Kg

set_option linter.unusedSimpArgs false
set_option linter.unusedVariables false
set_option linter.unusedSectionVars false
namespace Go.Kg
open Go
end Go.Kg

set_option linter.unusedSimpArgs false
set_option linter.unusedVariables false
set_option linter.unusedSectionVars false
namespace Go.Kg
open Go
/-- What a known tag holds. d: a number's default; same, mk: the numbers of zzSame and of the function that makes the default. -/
inductive Kn where
  | prim (p : Prim) (d : Int)
  | arr (sT T PT sz df : Nat) (e : Sch)
  | str (T PT sz df same mk : Nat) (e : Sch)
/-- A known tag: its number, its field's place, its first cell. -/
structure KF where
  num : Nat
  k : Nat
  o : Nat
  c : Kn
def Kn.T : Kn → Type
  | .prim p _ => p.T
  | .arr _ _ _ _ _ e => Option (List e.T)
  | .str _ _ _ _ _ _ e => e.T
def KsT : List KF → Type
  | [] => Unit
  | x :: l => x.c.T × KsT l
/-- is a number as by default -/
def Prim.isD : (p : Prim) → Int → p.T → Bool
  | .bool, d, b => (show Bool from b) == decide (d ≠ 0)
  | .i8, d, n => (show Int from n) == d
  | .i16, d, n => (show Int from n) == d
  | .u16, d, n => (show Int from n) == d
  | .i32, d, n => (show Int from n) == d
  | .i64, d, n => (show Int from n) == d
  | .uuid, _, l => (show List UInt8 from l) == List.replicate 16 0
  | .str, _, l => (show List UInt8 from l).isEmpty
  | .bytes, _, l => (show List UInt8 from l).isEmpty
  | .nstr, _, o => (show Option (List UInt8) from o).isNone
  | .nbytes, _, o => (show Option (List UInt8) from o).isNone
/-- a struct of numbers, texts and tags: as by default -/
def Sch.isD : (S : Sch) → S.T → Bool
  | .fin, _ => true
  | .tags _ _, l => (show TagL from l).isEmpty
  | .prim _ _ _ p _ d rest, (x, r) => p.isD d x && rest.isD r
  | .arrP _ _ _ _ _ _ rest, (a, r) => a.isNone && rest.isD r
  | .arrS _ _ _ _ _ _ _ _ _ _ rest, (a, r) => a.isNone && rest.isD r
  | .sub _ _ _ _ _ _ _ e rest, (x, r) => e.isD x && rest.isD r
  | .opt _ _ _ _ _ _ _ _ _ rest, (a, r) => a.isNone && rest.isD r
def Kn.dfl : (c : Kn) → c.T
  | .prim p d => p.dfl d
  | .arr _ _ _ _ _ _ => none
  | .str _ _ _ _ _ _ e => e.dfl
/-- is it written -/
def Kn.set : (c : Kn) → c.T → Bool
  | .prim p d, x => !p.isD d x
  | .arr _ _ _ _ _ _, a => !(a.getD []).isEmpty
  | .str _ _ _ _ _ _ e, x => !e.isD x
def Kn.wr (ver : Int) : (c : Kn) → c.T → List UInt8
  | .prim p _, x => p.wr true x
  | .arr _ _ _ _ _ e, a => lenW none true (a.getD []).length a.isNone ++ (a.getD []).flatMap (e.wr ver true)
  | .str _ _ _ _ _ _ e, x => e.wr ver true x
def kTag (n : Nat) (b : List UInt8) : List UInt8 := uvOut n ++ uvOut (b.length % 4294967296) ++ b
def ksN : (l : List KF) → KsT l → Nat
  | [], _ => 0
  | x :: l, (v, r) => (if x.c.set v then 1 else 0) + ksN l r
def ksW (ver : Int) : (l : List KF) → KsT l → List UInt8
  | [], _ => []
  | x :: l, (v, r) => (if x.c.set v then kTag x.num (x.c.wr ver v) else []) ++ ksW ver l r
/-- the section of tags -/
def secW (ver : Int) (fl : Bool) (l : List KF) (x : KsT l) (u : TagL) : List UInt8 :=
  if fl then uvOut ((ksN l x + u.length) % 4294967296) ++ ksW ver l x ++ tagsOut u else []
/-- err: an error is handed back at once; dup: a list is read a second time (nothing is said of that) -/
inductive KO (α : Type) where
  | err
  | dup
  | ok (x : α)
def KO.map {α β : Type} (f : α → β) : KO α → KO β
  | .err => .err
  | .dup => .dup
  | .ok x => .ok (f x)
theorem KO.map_map {α β γ : Type} (f : α → β) (g : β → γ) (x : KO α) : (x.map f).map g = x.map (fun a => g (f a)) := by cases x <;> rfl
/-- what a reader of its own gives, and 'return err' -/
def KO.of {α : Type} : Option (α × RS) → KO α
  | none => .err
  | some (x, rs) => if rs.bad then .err else .ok x
def Kn.rd (ver : Int) : (c : Kn) → c.T → RS → KO c.T
  | .prim p _, _, rs => KO.of (some (p.rd true rs))
  | .arr _ _ _ _ _ e, a, rs => if (lenRd true rs).2.bad then .err else if (show Option (List e.T) from a).isSome then .dup else KO.of (arrRd none ver true (e.rd ver true) rs)
  | .str _ _ _ _ _ _ e, _, rs => KO.of (e.rd ver true rs)
/-- ok none: the number is not known -/
def ksStep (ver : Int) : (l : List KF) → Nat → KsT l → RS → KO (Option (KsT l))
  | [], _, _, _ => .ok none
  | x :: l, key, (v, r), rs => if key = x.num then (x.c.rd ver v rs).map (fun y => some (y, r)) else (ksStep ver l key r rs).map (Option.map fun r => (v, r))
/-- so many tags; st: what a number and its octets do -/
def kLoop {σ : Type} (st : Nat → σ → RS → KO (Option σ)) : Nat → σ → TagL → RS → Option (Option (σ × TagL) × RS)
  | 0, s, u, rs => some (some (s, u), rs)
  | n + 1, s, u, rs =>
    let a := rdUv rs
    let b := rdUv a.2
    let c := rdSpan b.1 b.2
    match st a.1 s ⟨c.1, false, c.2.nn⟩ with
    | .err => none
    | .dup => some (none, c.2)
    | .ok none => kLoop st n s (setTag a.1 c.1 u) c.2
    | .ok (some s') => kLoop st n s' u c.2
def ksDfl : (l : List KF) → KsT l
  | [] => ()
  | x :: l => (x.c.dfl, ksDfl l)
def secRd (ver : Int) (fl : Bool) (l : List KF) (rs : RS) : Option (Option (KsT l × TagL) × RS) :=
  if fl then kLoop (ksStep ver l) (rdUv rs).1 (ksDfl l) [] (rdUv rs).2 else some (some (ksDfl l, []), rs)
end Go.Kg

set_option linter.unusedSimpArgs false
set_option linter.unusedVariables false
set_option linter.unusedSectionVars false
namespace Go.Kg
open Go
def Kn.wf (ver : Int) : (c : Kn) → c.T → Prop
  | .prim p _, x => p.wf x
  | .arr _ _ _ _ _ e, a => arrWf none ver a ∧ ∀ x ∈ a.getD [], e.wf ver true x
  | .str _ _ _ _ _ _ e, x => e.wf ver true x
/-- only numbers, texts and tags, and all of them stand at this version -/
def Sch.flat (ver : Int) : Sch → Bool
  | .fin => true
  | .tags _ _ => true
  | .prim g _ _ _ _ _ rest => g.on ver && rest.flat ver
  | _ => false
def Kn.posE (ver : Int) : Kn → Bool
  | .prim _ _ => true
  | .arr _ _ _ _ _ e => e.pos ver true && e.posE ver true
  | .str _ _ _ _ _ _ e => e.flat ver
def Kn.TagsOk (ok : TagL → Prop) : (c : Kn) → c.T → Prop
  | .prim _ _, _ => True
  | .arr _ _ _ _ _ e, a => ∀ (i : Nat) y, (a.getD [])[i]? = some y → e.TagsOk ok y
  | .str _ _ _ _ _ _ e, x => e.TagsOk ok x
def KsOk (ok : TagL → Prop) : (l : List KF) → KsT l → Prop
  | [], _ => True
  | x :: l, (v, r) => x.c.TagsOk ok v ∧ KsOk ok l r
def KsWf (ver : Int) : (l : List KF) → KsT l → Prop
  | [], _ => True
  | x :: l, (v, r) => (x.c.wf ver v ∧ (x.c.set v = true → (x.c.wr ver v).length < 4294967296)) ∧ KsWf ver l r
/-- what the section's parts must be -/
structure SecOk (ver : Int) (l : List KF) : Prop where
  nd : (l.map (·.num)).Nodup
  ok : ∀ f ∈ l, f.num < 4294967296 ∧ f.c.posE ver = true
  len : l.length ≤ 1000
def RS.fine (rs : RS) : Prop := rs.bad = true → rs.src = []
end Go.Kg

set_option linter.unusedSimpArgs false
set_option linter.unusedVariables false
set_option linter.unusedSectionVars false
namespace Go.Kg
open Go
def Fine {α : Type} (g : RS → α × RS) : Prop := ∀ rs, rs.fine → (g rs).2.fine
theorem Fine.pure {α : Type} (x : Bool → α) : Fine (fun rs => (x rs.nn, rs)) := fun rs h => h
theorem Fine.bind {α β : Type} {g : RS → α × RS} {h : α → RS → β × RS} (hg : Fine g) (hh : ∀ a, Fine (h a)) : Fine (fun rs => h (g rs).1 (g rs).2) := fun rs hf => hh _ _ (hg rs hf)
theorem Fine.map {α β : Type} {g : RS → α × RS} (hg : Fine g) (f : α → Bool → β) : Fine (fun rs => (f (g rs).1 (g rs).2.nn, (g rs).2)) := fun rs hf => hg rs hf
/-- S: its plain fields, up to fin; ks: its known tags; tk, to: where the unknown ones stand. -/
structure KM where
  S : Sch
  ks : List KF
  tk : Nat
  to : Nat
def KM.T (M : KM) : Type := M.S.T × KsT M.ks × TagL
def KM.wr (ver : Int) (fl : Bool) (M : KM) (x : M.T) : List UInt8 := M.S.wr ver fl x.1 ++ secW ver fl M.ks x.2.1 x.2.2
/-- some (none, _): as in kLoop -/
def KM.rd (ver : Int) (fl : Bool) (M : KM) (rs : RS) : Option (Option M.T × RS) := (M.S.rd ver fl rs).bind fun a => (secRd ver fl M.ks a.2).map fun b => (b.1.map fun y => (a.1, y.1, y.2), b.2)
def KM.TagsOk (ok : TagL → Prop) (M : KM) (x : M.T) : Prop := M.S.TagsOk ok x.1 ∧ KsOk ok M.ks x.2.1 ∧ ok x.2.2
structure KM.Ok (ver : Int) (fl : Bool) (M : KM) : Prop where
  S : M.S.posE ver fl = true
  sec : fl = true → SecOk ver M.ks
structure KM.wf (ver : Int) (fl : Bool) (M : KM) (x : M.T) : Prop where
  S : M.S.wf ver fl x.1
  ks : fl = true → KsWf ver M.ks x.2.1
  u : fl = true → tagsOk x.2.2
  un : fl = true → ∀ t ∈ x.2.2, t.1 ∉ M.ks.map (·.num)
end Go.Kg

set_option linter.unusedSimpArgs false
set_option linter.unusedVariables false
namespace Go.Kg
open Go
/-- u: the numbers of the readers that are 'unsafe' (String, CompactString, NullableString, CompactNullableString). rs: where the reader stands. -/
structure CfgR extends Cfg where
  rs : Nat
  u : Nat × Nat × Nat × Nat
end Go.Kg

set_option linter.unusedSimpArgs false
set_option linter.unusedVariables false
namespace Go.Kg
open Go
def Prim.constV : Prim → Int → Value
  | .bool, d => .bool (decide (d ≠ 0))
  | .i8, d => .int .i8 d
  | .i16, d => .int .i16 d
  | .u16, d => .int .u16 d
  | .i32, d => .int .i32 d
  | .i64, d => .int .i64 d
  | .nstr, _ => .pointer none
  | .str, _ => .string ⟨#[]⟩
  | _, _ => .slice none 0 0
def Prim.szW : Prim → Nat
  | .bool | .i8 => 1
  | .i16 | .u16 => 2
  | .i32 => 4
  | .i64 => 8
  | .uuid => 16
  | _ => 0
/-- toEncode = append(toEncode, n) -/
def encI (C : Cfg) (sl L n t : Nat) : Ir :=
  .reg [⟨none, some t, .move (.tmp L), sl⟩, ⟨none, some (t + 1), .buildSlice sl 1 #[(0, .const (.int .u32 n))], sl⟩, ⟨none, some (t + 2), .call { callee := .builtin .append, args := #[.tmp t, .tmp (t + 1)], argTypes := #[sl, sl] }, sl⟩, ⟨none, some L, .assign (.tmp (t + 2)), sl⟩]
/-- is it written: the operations, where the answer stands, how many temporaries -/
def preR (C : Cfg) (T PT pv : Nat) (f : KF) (t : Nat) : Ir × Nat :=
  match f.c with
  | .prim .uuid _ => (.reg (addrR C T PT pv f.k t ++ [⟨none, some (t + 3), .load C.E.tUu (.tmp (t + 2)), C.E.tUu⟩, ⟨none, some (t + 4), .build C.E.tUu #[], C.E.tUu⟩, ⟨none, some (t + 5), .binOp .neq C.E.tUu (.tmp (t + 3)) (.tmp (t + 4)) C.E.tUu, C.E.tB⟩]), 5)
  | .prim p d => (.reg (addrR C T PT pv f.k t ++ [⟨none, some (t + 3), .load (p.ty C.E) (.tmp (t + 2)), p.ty C.E⟩, ⟨none, some (t + 4), .binOp .neq (p.ty C.E) (.tmp (t + 3)) (.const (p.constV d)) (p.ty C.E), C.E.tB⟩]), 4)
  | .arr sT _ _ _ _ _ => (.reg (addrR C T PT pv f.k t ++ [⟨none, some (t + 3), .load sT (.tmp (t + 2)), sT⟩, ⟨none, some (t + 4), .call { callee := .builtin .len, args := #[.tmp (t + 3)], argTypes := #[sT] }, C.E.tInt⟩, ⟨none, some (t + 5), .binOp .gtr C.E.tInt (.tmp (t + 4)) (.const (.int .i64 0)) C.E.tInt, C.E.tB⟩]), 5)
  | .str T' _ _ _ same mk _ => (.regH (List.map (fun o : Ro => (true, o)) (addrR C T PT pv f.k t ++ [⟨none, some (t + 3), .load T' (.tmp (t + 2)), T'⟩]) ++
      [(false, ⟨none, some (t + 4), .call { callee := .value (.func mk), args := #[], argTypes := #[] }, T'⟩), (false, ⟨none, some (t + 5), .call { callee := .value (.func same), args := #[.tmp (t + 3), .tmp (t + 4)], argTypes := #[T', T'] }, C.E.tB⟩), (true, ⟨none, some (t + 6), .unOp .not C.E.tB (.tmp (t + 5)), C.E.tB⟩)]), 6)
def preW (C : Cfg) (T PT pv sl L : Nat) : List KF → Nat → List Ir × Nat
  | [], t => ([], t)
  | f :: r, t =>
    let n := (preR C T PT pv f t).2
    let (q, t') := preW C T PT pv sl L r (t + n + 4)
    (.seq (preR C T PT pv f t).1 (.cond (t + n) (encI C sl L f.num (t + n + 1)) .skip) :: q, t')
/-- dst = kbin.AppendUvarint(dst, n) -/
def uvI (C : Cfg) (n t : Nat) : Ir := .reg [⟨none, some t, .move (.tmp 1), C.E.tBs⟩, ⟨none, some (t + 1), .call { callee := .value (.func C.E.f_kbin_AppendUvarint), args := #[.tmp t, .const (.int .u32 n)], argTypes := #[C.E.tBs, C.E.tU32] }, C.E.tBs⟩, ⟨none, some 1, .assign (.tmp (t + 1)), C.E.tBs⟩]
/-- if !sized {dst = kbin.AppendUvarint(dst[:lenAt], uint32(len(dst[lenAt:]))); sized = true; goto lab} -/
def sizedI (C : Cfg) (s lab t : Nat) : Ir :=
  .seq (.reg [⟨none, some t, .move (.tmp s), C.E.tB⟩, ⟨none, some (t + 1), .unOp .not C.E.tB (.tmp t), C.E.tB⟩])
    (.cond (t + 1) (seqL [.regH [(true, ⟨none, some (t + 2), .move (.tmp 1), C.E.tBs⟩), (true, ⟨none, some (t + 3), .move (.tmp (s + 1)), C.E.tInt⟩), (true, ⟨none, some (t + 4), .slice C.E.tBs (.tmp (t + 2)) none (some (.tmp (t + 3))) none, C.E.tBs⟩),
      (true, ⟨none, some (t + 5), .move (.tmp 1), C.E.tBs⟩), (true, ⟨none, some (t + 6), .move (.tmp (s + 1)), C.E.tInt⟩), (true, ⟨none, some (t + 7), .slice C.E.tBs (.tmp (t + 5)) (some (.tmp (t + 6))) none none, C.E.tBs⟩),
      (true, ⟨none, some (t + 8), .call { callee := .builtin .len, args := #[.tmp (t + 7)], argTypes := #[C.E.tBs] }, C.E.tInt⟩), (true, ⟨none, some (t + 9), .convert C.E.tInt C.E.tU32 (.tmp (t + 8)), C.E.tU32⟩),
      (false, ⟨none, some (t + 10), .call { callee := .value (.func C.E.f_kbin_AppendUvarint), args := #[.tmp (t + 4), .tmp (t + 9)], argTypes := #[C.E.tBs, C.E.tU32] }, C.E.tBs⟩), (true, ⟨none, some 1, .assign (.tmp (t + 10)), C.E.tBs⟩)],
      .reg [⟨none, some s, .assign (.const (.bool true)), C.E.tB⟩], .goto lab]) .skip)
/-- a text written twice: the first time to learn its length. l: what is loaded; l + 1: sized; l + 2: lenAt -/
def twiceI (C : Cfg) (load : Ir) (num l lab t : Nat) (body : List Ir) : Ir :=
  .scope (seqL ([load, uvI C num t, .reg [⟨none, some (l + 1), .assign (.const (.bool false)), C.E.tB⟩], .reg [⟨none, some (t + 2), .move (.tmp 1), C.E.tBs⟩, ⟨none, some (t + 3), .call { callee := .builtin .len, args := #[.tmp (t + 2)], argTypes := #[C.E.tBs] }, C.E.tInt⟩, ⟨none, some (l + 2), .assign (.tmp (t + 3)), C.E.tInt⟩], .label lab] ++ body)) lab (.seq .skip (seqL body))
/-- a struct in a variable of its own: its fields' addresses are one operation -/
def tagsWL (C : Cfg) (T l k t : Nat) : Ir :=
  flexI C t (.seq (.reg ([⟨none, some (t + 1), .move (.tmp 1), C.E.tBs⟩, ⟨none, some (t + 2), .fieldAddr T (.tmp l) k, C.E.tNil⟩, ⟨none, some (t + 3), .call { callee := .value (.func C.E.f_pkmsg_Tags_Len), args := #[.tmp (t + 2)], argTypes := #[C.E.t_kmsg_Tags] }, C.E.tInt⟩,
      ⟨none, some (t + 4), .convert C.E.tInt C.E.tU32 (.tmp (t + 3)), C.E.tU32⟩, ⟨none, some (t + 5), .binOp .add C.E.tU32 (.const (.int .u32 0)) (.tmp (t + 4)) C.E.tU32, C.E.tU32⟩,
      ⟨none, some (t + 6), .call { callee := .value (.func C.E.f_kbin_AppendUvarint), args := #[.tmp (t + 1), .tmp (t + 5)], argTypes := #[C.E.tBs, C.E.tU32] }, C.E.tBs⟩, ⟨none, some 1, .assign (.tmp (t + 6)), C.E.tBs⟩]))
    (.reg [⟨none, some (t + 7), .fieldAddr T (.tmp l) k, C.E.tNil⟩, ⟨none, some (t + 8), .move (.tmp 1), C.E.tBs⟩, ⟨none, some (t + 9), .call { callee := .value (.func C.E.f_pkmsg_Tags_AppendEach), args := #[.tmp (t + 7), .tmp (t + 8)], argTypes := #[C.E.t_kmsg_Tags, C.E.tBs] }, C.E.tBs⟩,
      ⟨none, some 1, .assign (.tmp (t + 9)), C.E.tBs⟩])) .skip
def Sch.genWL (C : Cfg) (T l : Nat) : Sch → Ct → List Ir × Ct
  | .tags k _, c => ([tagsWL C T l k c.t], ⟨c.l, c.t + 10, c.k⟩)
  | .prim _ k _ p _ _ rest, c =>
    let (r, c'') := rest.genWL C T l ⟨c.l + 1, c.t + 2 + emitN C p, c.k⟩
    (.seq (.reg [⟨none, some c.t, .fieldAddr T (.tmp l) k, C.E.tNil⟩, ⟨none, some (c.t + 1), .load (p.ty C.E) (.tmp c.t), p.ty C.E⟩, ⟨none, some c.l, .assign (.tmp (c.t + 1)), p.ty C.E⟩]) (emitW C p c.l (c.t + 2)) :: r, c'')
  | _, c => ([], c)
/-- case n: .. ; lab: how many labels there were -/
def caseW (C : Cfg) (T PT pv : Nat) (f : KF) (c : Ct) (lab : Nat) : Ir × Ct × Nat :=
  match f.c with
  | .prim p _ => (seqL [loadI C T PT pv f.k (p.ty C.E) c.l c.t p, uvI C f.num (c.t + 4), uvI C p.szW (c.t + 6), emitW C p c.l (c.t + 8)], ⟨c.l + 1, c.t + 8 + emitN C p, c.k⟩, lab)
  | .arr sT T' PT' _ _ e =>
    let t := c.t + 8
    let t1 := t + lenN C none
    let (eb, c1) := e.genW C T' PT' (c.l + 4) ⟨c.l + 5, t1 + 8, c.k + 2⟩
    let body := seqL (idxI C (c.l + 3) (t1 + 4) (t1 + 2) ::
      .reg [⟨none, some (t1 + 5), .move (.tmp c.l), sT⟩, ⟨none, some (t1 + 6), .move (.tmp (c.l + 3)), C.E.tInt⟩, ⟨none, some (t1 + 7), .indexAddr sT (.tmp (t1 + 5)) (.tmp (t1 + 6)), C.E.tNil⟩, ⟨none, some (c.l + 4), .assign (.tmp (t1 + 7)), PT'⟩] :: eb)
    (twiceI C (loadI C T PT pv f.k sT c.l c.t .i8) f.num c.l lab (c.t + 4) [lenI C none sT c.l t, rangeI C sT c.l t1 c1.t c.k body, sizedI C (c.l + 1) lab (c1.t + 1)], ⟨c1.l, c1.t + 12, c1.k⟩, lab + 1)
  | .str T' PT' _ _ _ _ e =>
    let (eb, c1) := e.genWL C T' c.l ⟨c.l + 3, c.t + 8, c.k⟩
    (twiceI C (.reg (addrR C T PT pv f.k c.t ++ [⟨none, some (c.t + 3), .load T' (.tmp (c.t + 2)), T'⟩, ⟨none, some c.l, .alloc T', C.E.tNil⟩, ⟨none, none, .store T' (.tmp c.l) (.tmp (c.t + 3)), C.E.tNil⟩])) f.num c.l lab (c.t + 4) (eb ++ [sizedI C (c.l + 1) lab c1.t]), ⟨c1.l, c1.t + 11, c1.k⟩, lab + 1)
def casesW (C : Cfg) (T PT pv key : Nat) : List KF → Ct → Nat → Ir × Ct
  | [], c, _ => (.skip, c)
  | f :: r, c, lab =>
    let (b, c1, lab1) := caseW C T PT pv f ⟨c.l, c.t + 2, c.k⟩ lab
    let (q, c2) := casesW C T PT pv key r c1 lab1
    (seqL [.reg [⟨none, some (c.t + 1), .binOp .eql C.E.tU32 (.tmp key) (.const (.int .u32 f.num)) C.E.tU32, C.E.tB⟩, ⟨none, some c.t, .assign (.tmp (c.t + 1)), C.E.tB⟩], .cond c.t b q], c2)
/-- The section. sl: []uint32 -/
def secWI (C : Cfg) (T PT pv sl : Nat) (ks : List KF) (tk : Nat) (c : Ct) (lab0 : Nat := 0) : Ir × Ct :=
  let (pre, t) := preW C T PT pv sl c.l ks (c.t + 1)
  let t1 := t + 10
  let (cs, c1) := casesW C T PT pv (t1 + 6) ks ⟨c.l + 3, t1 + 7, c.k + 3⟩ lab0
  let body := seqL [.reg [⟨none, some (t1 + 4), .indexAddr sl (.tmp t1) (.tmp (t1 + 2)), C.E.tNil⟩, ⟨none, some (t1 + 5), .load C.E.tU32 (.tmp (t1 + 4)), C.E.tU32⟩, ⟨none, some (c.l + 2), .assign (.tmp (t1 + 5)), C.E.tU32⟩],
    .reg [⟨none, some (t1 + 6), .move (.tmp (c.l + 2)), C.E.tU32⟩], .block (c.k + 2) cs]
  let t2 := c1.t + 1
  (flexI C c.t (seqL ([.reg [⟨none, some c.l, .assign (.const (.slice none 0 0)), sl⟩]] ++ pre ++
    [.reg ([⟨none, some t, .move (.tmp 1), C.E.tBs⟩, ⟨none, some (t + 1), .move (.tmp c.l), sl⟩, ⟨none, some (t + 2), .call { callee := .builtin .len, args := #[.tmp (t + 1)], argTypes := #[sl] }, C.E.tInt⟩] ++ addrR C T PT pv tk (t + 3) ++
      [⟨none, some (t + 6), .call { callee := .value (.func C.E.f_pkmsg_Tags_Len), args := #[.tmp (t + 5)], argTypes := #[C.E.t_kmsg_Tags] }, C.E.tInt⟩, ⟨none, some (t + 7), .binOp .add C.E.tInt (.tmp (t + 2)) (.tmp (t + 6)) C.E.tInt, C.E.tInt⟩, ⟨none, some (t + 8), .convert C.E.tInt C.E.tU32 (.tmp (t + 7)), C.E.tU32⟩,
       ⟨none, some (t + 9), .call { callee := .value (.func C.E.f_kbin_AppendUvarint), args := #[.tmp t, .tmp (t + 8)], argTypes := #[C.E.tBs, C.E.tU32] }, C.E.tBs⟩, ⟨none, some 1, .assign (.tmp (t + 9)), C.E.tBs⟩]),
     rangeI C sl c.l t1 c1.t c.k body,
     .reg (addrR C T PT pv tk t2 ++ [⟨none, some (t2 + 3), .move (.tmp 1), C.E.tBs⟩, ⟨none, some (t2 + 4), .call { callee := .value (.func C.E.f_pkmsg_Tags_AppendEach), args := #[.tmp (t2 + 2), .tmp (t2 + 3)], argTypes := #[C.E.t_kmsg_Tags, C.E.tBs] }, C.E.tBs⟩, ⟨none, some 1, .assign (.tmp (t2 + 4)), C.E.tBs⟩])])) .skip,
   ⟨c1.l, t2 + 5, c1.k⟩)
/-- AppendTo, as msgW; Sw: the plain fields as they are written (of a kept message the version is one) -/
def msgWk (C : Cfg) (T PT sl : Nat) (flex : Nat) (Sw : Sch) (ks : List KF) (tk nl : Nat) : Ir :=
  let t := nl
  let pre : List Ir := [.reg [⟨none, some 4, .assign (.const (.slice none 0 0)), C.E.tBs⟩],
    .reg (addrR C T PT 0 0 t ++ [⟨none, some (t + 3), .load C.E.tI16 (.tmp (t + 2)), C.E.tI16⟩, ⟨none, some 5, .assign (.tmp (t + 3)), C.E.tI16⟩]),
    .reg [⟨none, some (t + 4), .move (.tmp 5), C.E.tI16⟩]]
  let fl : List Ir := [.reg [⟨none, some (t + 5), .move (.tmp 5), C.E.tI16⟩, ⟨none, some (t + 6), .binOp .geq C.E.tI16 (.tmp (t + 5)) (.const (.int .i16 flex)) C.E.tI16, C.E.tB⟩, ⟨none, some 6, .assign (.tmp (t + 6)), C.E.tB⟩],
    .reg [⟨none, some (t + 7), .move (.tmp 6), C.E.tB⟩]]
  let (b, c) := Sw.genW C T PT 0 (ct0 C nl)
  let (s, c1) := secWI C T PT 0 sl ks tk c
  seqL (pre ++ fl ++ b ++ [s, .reg [⟨none, some c1.t, .move (.tmp 1), C.E.tBs⟩, ⟨none, some 4, .assign (.tmp c1.t), C.E.tBs⟩], .ret])
/-- a known tag's field, as a schema -/
def KF.sch (f : KF) : Sch := match f.c with
  | .prim p d => .prim ⟨none, none⟩ f.k f.o p 0 d .fin
  | .arr sT T PT sz df e => .arrS ⟨none, none⟩ f.k f.o sT none T PT sz df e .fin
  | .str T PT sz df _ _ e => .sub ⟨none, none⟩ f.k f.o T PT sz df e .fin
end Go.Kg

set_option linter.unusedSimpArgs false
set_option linter.unusedVariables false
set_option linter.unusedSectionVars false
namespace Go.Kg
open Go
structure TyUuE (P : Program) (E : Env) : Prop extends TyUu P E where
  g : P.eqGuardType P.depth E.tUu = false
  u8 : P.underlying E.tU8 = some (.int .u8)
  k8 : kindOf P E.tU8 = .scl
  i8 : ∃ i, P.info? E.tU8 = some i
  c8 : P.cellsOf E.tU8 = 1
theorem wp_reg2 {P : Program} {Q : Post} {l1 l2 : List Ro} {f : Nat → Value} {w : World} (h : regW P (fun f w => regWp P (Q .normal) l2 f w) l1 f w) : (Ir.reg (l1 ++ l2)).wp P Q f w := by
  have key : ∀ (l1 : List Ro) (f : Nat → Value) (w : World), regWp P (fun f w => regWp P (Q .normal) l2 f w) l1 f w → regWp P (Q .normal) (l1 ++ l2) f w := by
    intro l1
    induction l1 with
    | nil => intro f w h; exact h
    | cons o r ih =>
      intro f w h
      rw [List.cons_append, regWp_cons]
      rw [regWp_cons] at h
      split
      · rename_i hw; rw [if_pos hw] at h; exact stepF_mono (fun v w hq => ih _ _ hq) h
      · rename_i hw; rw [if_neg hw] at h; exact ih _ _ h
  exact key l1 f w (regW_sound l1 h)
section
variable {P : Program} {E : Env} (ht : TyUuE P E) {f : Nat → Value} {ty : TypeId} {w : World} {K : Value → World → Prop}
include ht
theorem run_items16 (w : World) (d : Nat) (l m : List UInt8) : ∀ is : List Nat, (∀ i ∈ is, i < l.length ∧ i < m.length) →
    (Op.eqItems (d + 1) E.tU8 1 (cellsOf l).toArray (cellsOf m).toArray is).run P w = .ok (is.all fun i => l[i]? == m[i]?) w := by
  intro is
  induction is with
  | nil => intro _; simp [Op.eqItems]
  | cons i is ih =>
    intro h
    obtain ⟨h1, h2⟩ := h i List.mem_cons_self
    have p1 : ∀ (l : List UInt8) (hi : i < l.length), (part E.tU8 (cellsOf l).toArray (i * 1)).run P w = .ok (.int .u8 (l[i].toNat : Int)) w := by
      intro l hi
      refine run_part ?_
      simp [part?, ht.k8, cellsOf, hi]
    simp only [Op.eqItems, Sem.run_bind, p1 l h1, p1 m h2, Result.andThen_ok, run_equalIn_int w d E.tU8 .u8 .u8 _ _ ht.u8]
    have e : ((l[i].toNat : Int) == (m[i].toNat : Int)) = (l[i]? == m[i]?) := by
      rw [List.getElem?_eq_getElem h1, List.getElem?_eq_getElem h2]
      by_cases hx : l[i] = m[i]
      · simp [hx]
      · have : ¬ l[i].toNat = m[i].toNat := fun h => hx (UInt8.toNat_inj.1 h)
        have e1 : ((l[i].toNat : Int) == (m[i].toNat : Int)) = false := by
          rw [beq_eq_false_iff_ne]; omega
        have e2 : (some l[i] == some m[i]) = false := by simpa using hx
        rw [e1, e2]
    rw [e]
    have ih' := ih (fun j hj => h j (List.mem_cons_of_mem _ hj))
    cases hh : (l[i]? == m[i]?)
    · simp [hh]
    · simp only [Bool.not_true, Bool.false_eq_true, if_false, List.all_cons, hh, Bool.true_and]
      exact ih'
theorem all_range16 {l m : List UInt8} (hl : l.length = 16) (hm : m.length = 16) : ((List.range 16).all fun i => l[i]? == m[i]?) = (l == m) := by
  by_cases h : l = m
  · subst h; simp
  · have : ((List.range 16).all fun i => l[i]? == m[i]?) = false := by
      rw [List.all_eq_false]
      apply Classical.byContradiction
      intro hn
      apply h
      apply List.ext_getElem?
      intro i
      by_cases hi : i < 16
      · have := fun hx => hn ⟨i, by simpa using hi, hx⟩
        simpa using this
      · rw [List.getElem?_eq_none (by omega), List.getElem?_eq_none (by omega)]
    rw [this]
    simpa using h
theorem st_neq16 {x y : Operand} {yT : TypeId} {l m : List UInt8} (hl : l.length = 16) (hm : m.length = 16) (hx : evF f x = .agg (cellsOf l).toArray) (hy : evF f y = .agg (cellsOf m).toArray) (h : K (.bool !(l == m)) w) : stepF P f (.binOp .neq E.tUu x y yT) ty w K := by
  obtain ⟨i, hi⟩ := ht.i8
  refine (stepF_ok (v := .bool !(l == m)) (w' := w) ?_).mpr h
  unfold runF execOp
  simp only [hx, hy, run_eqGuard_agg w .neq E.tUu x y _ _ ht.g, Sem.run_bind, Result.andThen_ok, run_neq_struct, run_equalIn_array w 9999 _ _ ht.uUu hi, ht.c8]
  rw [show (9999 : Nat) = 9998 + 1 from rfl, run_items16 ht w 9998 l m (List.range 16) (by intro i hi; simp at hi; omega), all_range16 ht hl hm]
  simp
theorem st_build16 (h : K (.agg z16) w) : stepF P f (.build E.tUu #[]) ty w K := by
  obtain ⟨i, hi⟩ := ht.i8
  refine (stepF_ok (v := .agg z16) (w' := w) ?_).mpr h
  have hz : (zeroValue E.tUu).run P w = .ok (.agg z16) w := by
    have := ht.zUu
    unfold zeroOf at this
    obtain ⟨j, hj, hz⟩ := Option.bind_eq_some_iff.1 this
    simp [zeroValue, typeInfo, hj, hz]
  simp [runF, execOp, Instr.build, hz, run_underlying ht.uUu, sizeOf, typeInfo, hi, Instr.fill, Value.cells]
end
end Go.Kg

set_option linter.unusedSimpArgs false
set_option linter.unusedVariables false
set_option linter.unusedSectionVars false
namespace Go.Kg
open Go
/-- How a known tag's field stands in a struct's cells. -/
def Kn.Rep (w : World) (K : Nat → Prop) (cs : List Value) (o : Nat) : (c : Kn) → c.T → Prop
  | .prim p _, x => ∃ v, seg cs o v.cells.toList ∧ p.rep1 w K v x
  | .arr _ _ _ sz _ e, a => ∃ v ls, cs[o]? = some v ∧ ArrAt w K sz v ls ∧ (ls.isSome = (show Option (List e.T) from a).isSome ∧ InHeap w v) ∧ (ls.getD []).length = ((show Option (List e.T) from a).getD []).length ∧
      ∀ (i : Nat) (es : List Value) x, (ls.getD [])[i]? = some es → ((show Option (List e.T) from a).getD [])[i]? = some x → e.Rep w K es x
  | .str _ _ sz _ _ _ e, x => e.Rep w K ((cs.drop o).take sz) x
def KsRep (w : World) (K : Nat → Prop) (cs : List Value) : (l : List KF) → KsT l → Prop
  | [], _ => True
  | f :: l, (v, r) => f.c.Rep w K cs f.o v ∧ KsRep w K cs l r
theorem Kn.Rep_ext {w w' : World} {K C : Nat → Prop} (he : Ext C w w') (hK : ∀ b, b < w.heap.size → K b → ¬ C b) {cs : List Value} {o : Nat} (c : Kn) {x : c.T} (h : c.Rep w K cs o x) : c.Rep w' K cs o x := by
  cases c with
  | prim p d => obtain ⟨v, h1, h2⟩ := h; exact ⟨v, h1, Prim.rep1_ext he hK h2⟩
  | arr sT T PT sz df e =>
    obtain ⟨v, ls, h1, h2, h3, h4, h5⟩ := h
    exact ⟨v, ls, h1, h2.ext he hK, ⟨h3.1, h3.2.ext he⟩, h4, fun i es y hi hy => Sch.Rep_ext he hK e (h5 i es y hi hy)⟩
  | str T PT sz df sm mk e => exact Sch.Rep_ext he hK e h
theorem KsRep_ext {w w' : World} {K C : Nat → Prop} (he : Ext C w w') (hK : ∀ b, b < w.heap.size → K b → ¬ C b) {cs : List Value} : ∀ (l : List KF) {x : KsT l}, KsRep w K cs l x → KsRep w' K cs l x
  | [], _, _ => trivial
  | f :: l, (v, r), h => ⟨Kn.Rep_ext he hK f.c h.1, KsRep_ext he hK l h.2⟩
/-- which are written: their numbers and texts -/
def ksOuts (ver : Int) : (l : List KF) → KsT l → List (Nat × List UInt8)
  | [], _ => []
  | f :: l, (v, r) => (if f.c.set v then [(f.num, f.c.wr ver v)] else []) ++ ksOuts ver l r
theorem ksOuts_len (ver : Int) : ∀ (l : List KF) (x : KsT l), (ksOuts ver l x).length = ksN l x
  | [], _ => rfl
  | f :: l, (v, r) => by simp only [ksOuts, ksN, List.length_append, ksOuts_len ver l r]; split <;> simp
theorem ksOuts_wr (ver : Int) : ∀ (l : List KF) (x : KsT l), ksW ver l x = (ksOuts ver l x).flatMap fun y => kTag y.1 y.2
  | [], _ => rfl
  | f :: l, (v, r) => by simp only [ksOuts, ksW, List.flatMap_append, ksOuts_wr ver l r]; split <;> simp
def Prim.eqOk (P : Program) (E : Env) : Prim → Bool
  | .bool => match P.underlying E.tB with | some .bool => true | _ => false
  | .i8 | .i16 | .i32 | .i64 => true
  | .uuid => true
  | .nstr => isPtrT P E.tPS
  | _ => false
def KF.tyW (P : Program) (C : Cfg) (T : Nat) (f : KF) : Bool := fldOff P T f.k == some f.o && decide (f.num < 4294967296) && match f.c with
  | .prim p _ => p.kOk P (p.ty C.E) && p.eqOk P C.E
  | .arr sT T' _ sz _ e => isScl (kindOf P sT) && sliSz P sT == some sz && e.tyW P C T'
  | .str _ _ _ _ _ _ _ => false
section
variable {P : Program} {C : Cfg}
/-- ahead of the count: L holds the numbers of those to be written, so far -/
structure PreS (C : Cfg) (L tm : Nat) (w0 : World) (f0 : Nat → Value) (d : List Nat) (f : Nat → Value) (w : World) : Prop where
  ext : Ext none1 w0 w
  own : Own w w0.heap.size C.E.tU32 1 (f L) (d.map fun n => .int .u32 (n : Nat))
  keep : ∀ x, x < tm → x ≠ L → f x = f0 x
theorem PreS.upd {L tm : Nat} {w0 : World} {f0 : Nat → Value} {d : List Nat} {f : Nat → Value} {w : World} (h : PreS C L tm w0 f0 d f w) {t : Nat} (ht : tm ≤ t) (hL : L < tm) (v : Value) : PreS C L tm w0 f0 d (upd f t v) w :=
  ⟨h.ext, by rw [upd_apply, if_neg (by omega)]; exact h.own, fun x hx hxL => by rw [upd_apply, if_neg (by omega)]; exact h.keep x hx hxL⟩
theorem w_enc {sl L n t tm : Nat} (hS : SliI P sl C.E.tU32 1 4 (.int .u32 0)) {w0 : World} {f0 f : Nat → Value} {w : World} {d : List Nat} {Q : Post} (h : PreS C L tm w0 f0 d f w) (hd : d.length ≤ 1000) (hL : L < tm) (ht : tm ≤ t)
    (hq : ∀ f' w', PreS C L tm w0 f0 (d ++ [n]) f' w' → Q .normal f' w') : (encI C sl L n t).wp P Q f w := by
  have e1 : ∀ m, (L = t + m) = False := by intro m; simp; omega
  have e2 : (L = t) = False := by simp; omega
  have hsz := h.ext.size
  refine wp_reg ?_
  simp [encI]
  rw [st_bsl (n := 1) (parts := #[(0, .const (.int .u32 n))]) hS (by omega) (by rfl) rfl (by omega) (by omega) (by simp [allSz, Value.cells])]
  simp [flat, Value.cells]
  generalize hw1 : w.alloc (.cells #[.int .u32 n] C.E.tU32) = w1
  have hE1 : Ext none1 w w1 := by subst hw1; exact (Ext.refl _ _).alloc _
  have hb1 : w1.heap[w.heap.size]? = some (.cells #[.int .u32 n] C.E.tU32 (0, 0)) := by subst hw1; exact alloc_new
  have hs1 : w.heap.size < w1.heap.size := lt_of_heap hb1
  refine st_append hS (by omega) (base := w0.heap.size) (xs := d.map fun n => .int .u32 (n : Nat)) (by simpa using Own.ext h.own hE1 (fun _ _ h => h)) (ad := some ⟨w.heap.size, 0, none⟩) (m := 1) (c := 1) (news := [.int .u32 n]) (by simp) (by simp) (by simp) ?_ (by simp [Value.oneCell']) (by simp [maxLen]; omega) (by simp; omega) (by omega) ?_
  · intro a ha j u hj
    cases ha
    cases j with
    | zero => simp at hj; subst hj; simp [Addr.add_mk, cell_of_blk hb1]
    | succ j => simp at hj
  · intro v' w2 ho2 hg2
    simp at hg2
    try simp
    refine hq _ _ ⟨?_, ?_, ?_⟩
    · have hx := (h.ext.trans hE1)
      exact ⟨hg2.ext.os.trans hx.os, hg2.ext.tape.trans hx.tape, hg2.ext.output.trans hx.output, Nat.le_trans hx.size hg2.ext.size,
        fun i hi hc => (hg2.ext.block i (Nat.lt_of_lt_of_le hi hx.size) (fun ho => by have := (Own.below h.own ho).1; omega)).trans (hx.block i hi hc)⟩
    · simpa using ho2
    · intro x hx hxL
      have a1 : ∀ m, (x = t + m) = False := by intro m; simp; omega
      have a2 : (x = t) = False := by simp; omega
      simp [a1, a2, hxL]
      exact h.keep x hx hxL
/-- the test of a known tag -/
theorem w_preR (ht : TyC P C) (hu : isAgg16 (kindOf P C.E.tUu) = true → TyUuE P C.E) {T PT pv t tm L : Nat} {kf : KF} (hty : kf.tyW P C T = true) {w0 : World} {f0 f : Nat → Value} {w : World} {dn : List Nat} {Q : Post} {b a : Nat} {cs : List Value} {x : kf.c.T} {K : Nat → Prop}
    (h : PreS C L tm w0 f0 dn f w) (hL : L < tm) (htm : tm ≤ t) (hpv : f pv = .pointer (some ⟨b, a, none⟩)) (hptm : pv < t) (hcs : CellsAt w b a cs) (hrep : kf.c.Rep w K cs kf.o x)
    (hq : ∀ f', PreS C L tm w0 f0 dn f' w → f' (t + (preR C T PT pv kf t).2) = .bool (kf.c.set x) → Q .normal f' w) : (preR C T PT pv kf t).1.wp P Q f w := by
  obtain ⟨num, k, o, c⟩ := kf
  simp only [KF.tyW, Bool.and_eq_true, beq_iff_eq] at hty
  obtain ⟨⟨hF, _⟩, hty⟩ := hty
  simp only at hF hrep x
  have e1 : ∀ m, (pv = t + m) = False := by intro m; simp; omega
  have e2 : (pv = t) = False := by simp; omega
  have up : ∀ {g : Nat → Value}, PreS C L tm w0 f0 dn g w → ∀ m v, PreS C L tm w0 f0 dn (upd g (t + m) v) w := fun hg m v => hg.upd (by omega) hL v
  have up0 : ∀ {g : Nat → Value}, PreS C L tm w0 f0 dn g w → ∀ v, PreS C L tm w0 f0 dn (upd g t v) w := fun hg v => hg.upd htm hL v
  cases c with
  | str T' PT' sz df sm mk e => simp at hty
  | arr sT T' PT' sz df e =>
    obtain ⟨v, ls, hv, harr, ⟨hsome, _⟩, hlen, _⟩ := hrep
    simp only [Bool.and_eq_true, beq_iff_eq] at hty
    obtain ⟨⟨hk, hsl⟩, _⟩ := hty
    obtain ⟨ad, cp, rfl, _, hmax⟩ := harr.form
    obtain ⟨E, j, hus, _, _⟩ := sliSz_spec hsl
    have cv : w.cell? ⟨b, a + o, none⟩ = some (.slice ad (ls.getD []).length cp) := hcs _ _ hv
    refine wp_reg ?_
    simp [preR, addrR, hpv, hF, Addr.add_mk, ld_scl (isScl_spec hk), cv, len_slice hus]
    refine hq _ (up (up (up (up (up (up0 h _) _ _) _ _) _ _) _ _) _ _) ?_
    simp only [preR, upd_apply, if_true]
    congr 1
    show _ = !((show Option (List e.T) from x).getD []).isEmpty
    rw [hlen]
    cases hx : (show Option (List e.T) from x).getD [] with
    | nil => simp
    | cons y l => simp
  | prim p d =>
    obtain ⟨v, hv, hr1⟩ := hrep
    simp only [Bool.and_eq_true] at hty
    obtain ⟨hk, heq⟩ := hty
    by_cases hp : p = .uuid
    · subst hp
      have hTu := hu (kOk_uu hk rfl)
      obtain ⟨rfl, h16⟩ := hr1
      have hk' : kindOf P C.E.tUu = .agg 16 := hTu.kUu
      have hl' := cellsFrom_seg hcs (u := (cellsOf x).toArray) hv
      rw [show (cellsOf x).toArray.size = 16 by rw [List.size_toArray]; exact cellsOf_length.trans h16] at hl'
      refine wp_reg2 (l1 := addrR C T PT pv k t ++ [⟨none, some (t + 3), .load C.E.tUu (.tmp (t + 2)), C.E.tUu⟩]) (l2 := [⟨none, some (t + 4), .build C.E.tUu #[], C.E.tUu⟩, ⟨none, some (t + 5), .binOp .neq C.E.tUu (.tmp (t + 3)) (.tmp (t + 4)) C.E.tUu, C.E.tB⟩]) ?_
      simp [addrR, hpv, hF, Addr.add_mk, ld_agg hk', hl']
      rw [regWp_cons]
      simp only [wantedF_none, if_true]
      refine st_build16 hTu ?_
      rw [regWp_cons]
      simp only [wantedF_none, if_true]
      refine st_neq16 hTu (l := x) (m := List.replicate 16 0) h16 (by simp) ?_ ?_ ?_
      · simp [updO]
      · simp [updO, z16]
      · show Q .normal _ w
        refine hq _ ?_ ?_
        · simp only [updO]; exact up (up (up (up (up (up0 h _) _ _) _ _) _ _) _ _) _ _
        · simp only [preR, updO, upd_apply, if_true]; rfl
    · have hk' : kindOf P (p.ty C.E) = .scl := by simp only [Prim.kOk, if_neg hp] at hk; exact isScl_spec hk
      have hone := rep1_one hr1
      rw [if_neg hp] at hone
      have huc : v.cells = #[v] := by cases v <;> simp_all [Value.oneCell', Value.cells]
      have cv : w.cell? ⟨b, a + o, none⟩ = some v := hcs _ _ (by simpa using hv 0 v (by simp [huc]))
      have fin : bin? P .neq (p.ty C.E) (.const (p.constV d)) v (p.constV d) = some (.bool (Kn.set (.prim p d) x)) := by
        cases p with
        | bool =>
          have h' : v = .bool x := hr1
          have hb : P.underlying C.E.tB = some .bool := by simp only [Prim.eqOk] at heq; split at heq <;> first | assumption | cases heq
          subst h'
          exact bin_bool_neq hb
        | i8 => have h' : v = .int .i8 x := hr1; subst h'; exact bin_neq
        | i16 => have h' : v = .int .i16 x := hr1; subst h'; exact bin_neq
        | i32 => have h' : v = .int .i32 x := hr1; subst h'; exact bin_neq
        | i64 => have h' : v = .int .i64 x := hr1; subst h'; exact bin_neq
        | nstr =>
          obtain ⟨E, hE⟩ := isPtrT_spec (show isPtrT P C.E.tPS = true from heq)
          cases x with
          | none => have h' : v = .pointer none := hr1; subst h'; exact bin_nnil_ptr hE
          | some l => obtain ⟨ad, rfl, _⟩ := hr1; exact bin_nnil_ptr hE
        | uuid => exact absurd rfl hp
        | u16 => cases heq
        | str => cases heq
        | bytes => cases heq
        | nbytes => cases heq
      have hpre : preR C T PT pv ⟨num, k, o, .prim p d⟩ t = (.reg (addrR C T PT pv k t ++ [⟨none, some (t + 3), .load (p.ty C.E) (.tmp (t + 2)), p.ty C.E⟩, ⟨none, some (t + 4), .binOp .neq (p.ty C.E) (.tmp (t + 3)) (.const (p.constV d)) (p.ty C.E), C.E.tB⟩]), 4) := by
        cases p <;> first | rfl | exact absurd rfl hp
      rw [hpre] at hq ⊢
      refine wp_reg ?_
      simp [addrR, hpv, hF, Addr.add_mk, ld_scl hk', cv, fin]
      refine hq _ (up (up (up (up (up0 h _) _ _) _ _) _ _) _ _) ?_
      simp
/-- which are set, in order -/
def ksSet : (l : List KF) → KsT l → List Nat
  | [], _ => []
  | f :: l, (v, r) => (if f.c.set v then [f.num] else []) ++ ksSet l r
theorem ksOuts_set (ver : Int) : ∀ (l : List KF) (x : KsT l), (ksOuts ver l x).map (·.1) = ksSet l x
  | [], _ => rfl
  | f :: l, (v, r) => by simp only [ksOuts, ksSet, List.map_append, ksOuts_set ver l r]; split <;> simp
theorem ksSet_len : ∀ (l : List KF) (x : KsT l), (ksSet l x).length ≤ l.length
  | [], _ => Nat.le_refl _
  | f :: l, (v, r) => by have := ksSet_len l r; simp only [ksSet, List.length_append, List.length_cons]; split <;> simp <;> omega
theorem preW_t (C : Cfg) (T PT pv sl L : Nat) : ∀ (ks : List KF) (t : Nat), t ≤ (preW C T PT pv sl L ks t).2
  | [], t => Nat.le_refl _
  | f :: r, t => by
    have := preW_t C T PT pv sl L r (t + (preR C T PT pv f t).2 + 4)
    simp only [preW]; omega
theorem w_pre (ht : TyC P C) (hu : isAgg16 (kindOf P C.E.tUu) = true → TyUuE P C.E) {sl L T PT pv tm : Nat} (hS : SliI P sl C.E.tU32 1 4 (.int .u32 0)) {w0 : World} {f0 : Nat → Value} {Q : Post} {b a : Nat} {cs : List Value} {K : Nat → Prop} (hL : L < tm) (hpL : pv ≠ L) (hptm : pv < tm) (hcs : CellsAt w0 b a cs) (hb : ∀ b, K b → b < w0.heap.size → True) (hpv : f0 pv = .pointer (some ⟨b, a, none⟩)) :
    ∀ (ks : List KF) (x : KsT ks) (dn : List Nat) (t : Nat) (f : Nat → Value) (w : World), (ks.all (·.tyW P C T)) = true → KsRep w0 K cs ks x → dn.length + ks.length ≤ 1000 → tm ≤ t → PreS C L tm w0 f0 dn f w →
      (∀ f' w', PreS C L tm w0 f0 (dn ++ ksSet ks x) f' w' → Q .normal f' w') → (seqL (preW C T PT pv sl L ks t).1).wp P Q f w := by
  intro ks
  induction ks with
  | nil =>
    intro x dn t f w _ _ _ _ h hq
    exact hq f w (by simpa [ksSet] using h)
  | cons kf r ih =>
    rintro ⟨v, xr⟩ dn t f w hty ⟨hr, hrr⟩ hd htm h hq
    simp only [List.all_cons, Bool.and_eq_true] at hty
    simp only [List.length_cons] at hd
    simp only [preW]
    refine seqL_cons ?_
    have hex : Ext none1 w0 w := h.ext
    refine wp_seqI ?_
    refine w_preR ht hu hty.1 h hL htm ((h.keep pv hptm hpL).trans hpv) (by omega) (CellsAt.ext (K := fun _ => True) (C := none1) hex (fun _ _ _ h => h) hcs trivial) (Kn.Rep_ext hex (fun _ _ _ h => h) kf.c hr) ?_
    intro f1 h1 hc
    have next : ∀ f2 w2, PreS C L tm w0 f0 (dn ++ if kf.c.set v then [kf.num] else []) f2 w2 → (seqL (preW C T PT pv sl L r (t + (preR C T PT pv kf t).2 + 4)).1).wp P Q f2 w2 := by
      intro f2 w2 h2
      refine ih xr _ _ f2 w2 hty.2 hrr ?_ (by omega) h2 ?_
      · simp only [List.length_append]; split <;> simp <;> omega
      · intro f' w' h'
        refine hq f' w' ?_
        simpa only [ksSet, List.append_assoc] using h'
    cases hset : kf.c.set v
    · rw [hset] at hc next
      exact .inr ⟨hc, next f1 w (by simpa using h1)⟩
    · rw [hset] at hc next
      refine .inl ⟨hc, ?_⟩
      refine w_enc hS h1 (by omega) hL (by omega) ?_
      intro f2 w2 h2
      exact next f2 w2 (by simpa using h2)
end
end Go.Kg

set_option linter.unusedSimpArgs false
set_option linter.unusedVariables false
set_option linter.unusedSectionVars false
namespace Go.Kg
open Go
theorem Own.form {w : World} {base e : Nat} {v : Value} {xs : List Value} (h : Own w base e 1 v xs) : ∃ a c, v = .slice a xs.length c ∧ xs.length ≤ c := by
  obtain ⟨n, h1, h2⟩ := h
  have hn : n = xs.length := by omega
  subst hn
  rcases h2 with ⟨rfl, hn⟩ | ⟨g, cap, cur, rfl, hb, hg, hnc, hcm, hcs, htake⟩
  · exact ⟨none, 0, by rw [hn], by omega⟩
  · exact ⟨_, cap, rfl, hnc⟩
/-- v[:k] -/
theorem Own.upTo {w : World} {base e : Nat} {a : Option Addr} {n c : Nat} {xs : List Value} (h : Own w base e 1 (.slice a n c) xs) {k : Nat} (hk : k ≤ xs.length) : Own w base e 1 (.slice (if c = 0 then a else a.map (·.add 0)) k c) (xs.take k) := by
  obtain ⟨n', h1, h2⟩ := h
  refine ⟨k, by simp; omega, ?_⟩
  rcases h2 with ⟨hv, hn⟩ | ⟨g, cap, cur, hv, hb, hg, hnc, hcm, hcs, htake⟩
  · cases hv
    have : k = 0 := by omega
    subst this
    exact .inl ⟨by simp, rfl⟩
  · cases hv
    refine .inr ⟨g, c, cur, by simp [Addr.add_mk], hb, hg, by omega, hcm, hcs, ?_⟩
    rw [← htake, List.take_take]
    congr 1
    omega
theorem OwnB.upTo {u8 : Nat} {w : World} {base : Nat} {a : Option Addr} {n c : Nat} {s : List UInt8} (h : OwnB u8 w base (.slice a n c) s) {k : Nat} (hk : k ≤ s.length) : OwnB u8 w base (.slice (if c = 0 then a else a.map (·.add 0)) k c) (s.take k) := by
  have := Own.upTo (k := k) h (by simpa using hk)
  unfold OwnB
  have e : cellsOf (s.take k) = (cellsOf s).take k := by simp [cellsOf]
  rw [e]; exact this
theorem own1_upTo {a : Option Addr} {n c k m : Nat} {b : Nat} (h : own1 (.slice (if c = 0 then a else a.map (·.add 0)) k m) b) : own1 (.slice a n c) b := by
  cases a with
  | none =>
    have e : (if c = 0 then (none : Option Addr) else (none : Option Addr).map (·.add 0)) = none := by split <;> rfl
    rw [e] at h; exact h
  | some a =>
    by_cases hc : c = 0
    · rw [if_pos hc] at h; exact h
    · rw [if_neg hc] at h; exact h
/-- where the elements stand -/
theorem Own.cells1 {w : World} {base e : Nat} {v : Value} {xs : List Value} (h : Own w base e 1 v xs) (hne : xs ≠ []) : ∃ g c, v = .slice (some ⟨g, 0, none⟩) xs.length c ∧ base ≤ g ∧ g < w.heap.size ∧ ∀ i u, xs[i]? = some u → w.cell? ⟨g, i, none⟩ = some u := by
  obtain ⟨n, h1, h2⟩ := h
  have hn : n = xs.length := by omega
  subst hn
  rcases h2 with ⟨rfl, hn⟩ | ⟨g, cap, cur, rfl, hb, hg, hnc, hcm, hcs, htake⟩
  · exact absurd (List.eq_nil_of_length_eq_zero hn) hne
  · refine ⟨g, cap, rfl, hb, lt_of_heap hg, fun i u hi => ?_⟩
    rw [cell_of_blk hg]
    have : (cur.toList.take (xs.length * 1))[i]? = some u := by rw [htake]; exact hi
    rw [List.getElem?_take] at this
    split at this
    · simpa using this
    · cases this
section
variable {P : Program} {C : Cfg}
theorem Wrote.upd {f g : Nat → Value} {w w' : World} {base n m t : Nat} {s out : List UInt8} (h : Wrote C f w base s out n m t g w') (hn : n ≤ t) {x : Nat} (hx : t ≤ x) (hx1 : x ≠ 1) (v : Value) : Wrote C f w base s out n m t (upd g x v) w' := by
  have e : (Go.Kg.upd g x v) 1 = g 1 := by rw [upd_apply, if_neg (by omega)]
  refine ⟨?_, ?_, ?_⟩
  · have := h.dst; unfold Dst at this ⊢; rwa [e]
  · have := h.grew; rwa [e]
  · intro y hy1 hy
    by_cases hyx : y < t
    · rw [upd_apply, if_neg (by omega)]; exact h.keep y hy1 hy
    · exact absurd hy (by omega)
/-- dst = kbin.AppendUvarint(dst, n) -/
theorem w_uv (hU : ∀ n : Nat, n < 4294967296 → WrC P C.E.tU8 C.E.f_kbin_AppendUvarint [.int .u32 n] (uvOut n)) {n t : Nat} (hn : n < 4294967296) {Q : Post} {f : Nat → Value} {w : World} {base : Nat} {s : List UInt8} (ht1 : 1 < t) (hd : Dst C f w base s) (hsz : s.length + (uvOut n).length ≤ 1099511627776)
    (h : ∀ f' w', OwnB C.E.tU8 w' base (f' 1) (s ++ uvOut n) → Grew w (f 1) w' (f' 1) → Keeps f f' t → Q .normal f' w') : (uvI C n t).wp P Q f w := by
  refine wp_reg ?_
  simp [uvI]
  refine (hU n hn w base (f 1) s hd.1 hd.2 hsz).mono ?_
  rintro v' w' ⟨ho', hg⟩
  refine h _ _ (by simpa using ho') (by simpa using hg) ?_
  exact keeps_one (keeps_upd (keeps_upd (Keeps.refl _ _) (by omega)) (by omega))
theorem prim_szW {w : World} {K : Nat → Prop} {p : Prim} {x : p.T} {v : Value} (h : p.rep1 w K v x) (hp : p.text = false) : (p.wr true x).length = p.szW := by
  cases p with
  | uuid => exact h.2
  | bool => rfl
  | i8 => rfl
  | i16 => simp [Prim.wr, num, Prim.szW]
  | u16 => simp [Prim.wr, num, Prim.szW]
  | i32 => simp [Prim.wr, num, Prim.szW]
  | i64 => simp [Prim.wr, num, Prim.szW]
  | str => cases hp
  | nstr => cases hp
  | bytes => cases hp
  | nbytes => cases hp
theorem szW_lt (p : Prim) : p.szW < 4294967296 := by cases p <;> simp [Prim.szW]
/-- a list, its value in l: what comes ahead of the loop, and the loop; q: the locals below it stay -/
theorem w_list2 {sT l n q m t t1 t' kk sz b a base pv : Nat} {nul : Option Nat} {v : Value} {ls : Option (List (List Value))} {Q : Post} {f : Nat → Value} {w : World} {ver : Int} {fl : Bool} {s : List UInt8} {body : Ir}
    {α : Type} (el : List α) (wrE : α → List UInt8) (hsl : sliSz P sT = some sz) (hW : LenWC P C nul) (hf : FrW C f pv b a ver fl n) (hnq : n ≤ q) (hlq : l < q) (hqm : q ≤ m) (hmt : m ≤ t) (h1l : 1 < l) (ht1 : t1 = t + lenN C nul) (htt : t1 + 4 ≤ t')
    (hv : f l = v) (ha : ArrAt w (· < base) sz v ls) (hn : (ls.getD []).length = el.length) (hd : Dst C f w base s)
    (hsz : s.length + (lenW nul fl el.length ls.isNone ++ el.flatMap wrE).length ≤ 1099511627776)
    (hbody : ∀ (i : Nat) (y : α) (s' : List UInt8) (f' : Nat → Value) (w' : World), el[i]? = some y → FrW C f' pv b a ver fl n → f' l = v → f' (t1 + 2) = .int .i64 i → f' (t1 + 1) = .int .i64 el.length → Dst C f' w' base s' → s'.length + (wrE y).length ≤ 1099511627776 →
      Grew w (f 1) w' (f' 1) →
      body.wp P (fun e f'' w'' => e = .normal ∧ Wrote C f' w' base s' (wrE y) q m t f'' w'' ∧ f'' (t1 + 2) = .int .i64 i ∧ f'' (t1 + 1) = .int .i64 el.length) f' w')
    (h : ∀ f' w', Wrote C f w base s (lenW nul fl el.length ls.isNone ++ el.flatMap wrE) q m t f' w' → Q .normal f' w') :
    (seqL [lenI C nul sT l t, rangeI C sT l t1 t' kk body]).wp P Q f w := by
  obtain ⟨ad, cp, rfl, hnone, hmax⟩ := ha.form
  rw [hn] at *
  have h1n := hf.one
  refine seqL_cons ?_
  refine w_len (v := f 1) hsl (by omega) (by omega) (by omega) hv rfl hf.flg (fun hx => by have := hf.sfN hx; omega) hW hd.1 hd.2 (fl := fl) ?_ ?_
  · rw [hnone]; simp only [List.length_append] at hsz; omega
  intro f3 w3 v3 h31 ho3 hg3 hk3
  rw [hnone] at ho3
  have hv3 : f3 l = .slice ad el.length cp := (hk3 l (by omega) (by omega)).trans hv
  have hw3 : Wrote C f w base s (lenW nul fl el.length ls.isNone) q m t f3 w3 := Wrote.mk' hd.2 rfl h31 ho3 hg3 (fun x hx1 hx => hk3 x (by omega) hx1)
  show (rangeI C sT l t1 t' kk body).wp P Q f3 w3
  refine w_range hsl (by omega) (by omega) htt hmax hv3
    (fun i f' w' => Wrote C f w base s (lenW nul fl el.length ls.isNone ++ (el.take i).flatMap wrE) q m t f' w') ?_ ?_ ?_ ?_
  · rintro i f1 f1' w' hx hw
    refine ⟨?_, ?_, ?_⟩
    · have := hw.dst; unfold Dst at this ⊢; rwa [hx 1 (by omega)]
    · have := hw.grew; rwa [hx 1 (by omega)]
    · intro x hx1 hxl; rw [hx x (by omega)]; exact hw.keep x hx1 hxl
  · simpa using hw3
  · rintro i hi f' w' hw h2 h1
    obtain ⟨y, hy⟩ : ∃ y, el[i]? = some y := ⟨_, List.getElem?_eq_getElem hi⟩
    have hfm := flatMap_take wrE el i y hy
    have hle := flatMap_take_le wrE el (i + 1)
    rw [hfm] at hle
    have hl' : f' l = .slice ad el.length cp := (hw.keep l (by omega) (.inl (by omega))).trans hv
    refine Ir.wp_mono body ?_ (hbody i y (s ++ (lenW nul fl el.length ls.isNone ++ (el.take i).flatMap wrE)) f' w' hy (hf.keep (fun x hx hx1 => hw.keep x hx1 (.inl (by omega))) (Nat.le_refl _)) hl' h2 h1 hw.dst ?_ hw.grew)
    · rintro e f'' w'' ⟨rfl, hw2, h22, h12⟩
      refine ⟨rfl, ?_, h22, h12⟩
      have := hw.trans hw2 (Nat.le_refl _) (Nat.le_refl _) (Nat.le_refl _)
      rw [hfm]
      rwa [List.append_assoc] at this
    · simp only [List.length_append] at hsz hle ⊢; omega
  · rintro f' w' hw
    refine h f' w' ?_
    have : el.take el.length = el := List.take_length
    rwa [this] at hw
/-- a text that is written twice. St: what the text needs, in every frame and world that has come of these -/
theorem w_twice (ht : TyC P C) (hB : sliSz P C.E.tBs = some 1) (uB : P.underlying C.E.tBs = some (.slice C.E.tU8)) (hU : ∀ n : Nat, n < 4294967296 → WrC P C.E.tU8 C.E.f_kbin_AppendUvarint [.int .u32 n] (uvOut n)) {load : Ir} {num l m lab t ts : Nat} {body0 : List Ir} (hnum : num < 4294967296) {Q : Post} {f : Nat → Value} {w : World} {base tm : Nat} {s out : List UInt8} {n : Nat} {St : (Nat → Value) → World → Prop}
    (hl1 : 1 < n) (hln : n ≤ l) (hlm : l + 3 ≤ m) (hmt : m ≤ tm) (htm : tm ≤ t) (hts : tm ≤ ts) (hd : Dst C f w base s) (hsz : s.length + (kTag num out).length ≤ 1099511627776)
    (hload : ∀ Q' : Post, (∀ f' w', St f' w' → Ext none1 w w' → (∀ x, x < tm → x ≠ l → f' x = f x) → Q' .normal f' w') → load.wp P Q' f w)
    (hSt : ∀ f w f' w' s', St f w → Dst C f w base s' → Grew w (f 1) w' (f' 1) → (∀ x, x < tm → x ≠ 1 → x ≠ l + 1 → x ≠ l + 2 → (x < l + 3 ∨ m ≤ x) → f' x = f x) → St f' w')
    (hbody : ∀ (Q' : Post) f w s', St f w → Dst C f w base s' → s'.length + out.length ≤ 1099511627776 → (∀ f' w', Wrote C f w base s' out (l + 3) m tm f' w' → Q' .normal f' w') → (seqL body0).wp P Q' f w)
    (h : ∀ f' w', Wrote C f w base s (kTag num out) n m tm f' w' → Q .normal f' w') : (twiceI C load num l lab t (body0 ++ [sizedI C (l + 1) lab ts])).wp P Q f w := by
  have hsum : (kTag num out).length = (uvOut num).length + (uvOut (out.length % 4294967296)).length + out.length := by simp only [kTag, List.length_append]
  have e1 : ∀ x, x < tm → ∀ k, (x = ts + k) = False := by intro x hx k; simp; omega
  have e1' : ∀ x, x < tm → (x = ts) = False := by intro x hx; simp; omega
  have e2 : ∀ x, x < tm → ∀ k, (x = t + k) = False := by intro x hx k; simp; omega
  have e2' : ∀ x, x < tm → (x = t) = False := by intro x hx; simp; omega
  have p1 : (1 = l + 1) = False := by simp; omega
  have p2 : (1 = l + 2) = False := by simp
  have l0 : (l = 0) = False := by simp; omega
  refine ⟨fun f' w' => f' (l + 1) = .bool true ∧ Wrote C f w base s (uvOut num ++ uvOut (out.length % 4294967296)) n m tm f' w' ∧ St f' w', fun _ _ => 0, ?_, ?_⟩
  · -- the first time
    simp only [List.cons_append, List.nil_append]
    refine seqL_cons ?_
    refine hload _ ?_
    intro f1 w1 hS1 he1 hk1
    have h11 : f1 1 = f 1 := hk1 1 (by omega) (by omega)
    have hd1 : Dst C f1 w1 base s := by unfold Dst at hd ⊢; rw [h11]; exact ⟨Own.ext hd.1 he1 (fun _ _ h => h), Nat.le_trans hd.2 he1.size⟩
    refine seqL_cons ?_
    refine w_uv hU hnum (by omega) hd1 (by omega) ?_
    intro f2 w2 ho2 hg2 hk2
    refine seqL_cons (wp_reg ?_)
    simp
    refine seqL_cons (wp_reg ?_)
    obtain ⟨ad, cp, hform, _⟩ := Own.form ho2
    simp only [cellsOf_length] at hform
    simp [hform, len_slice uB, l0, e2 1 (by omega), e2' 1 (by omega)]
    refine seqL_cons ?_
    show (seqL (body0 ++ _)).wp P _ _ _
    generalize hf3 : upd (upd (upd (upd f2 (l + 1) _) (t + 2) _) (t + 3) _) (l + 2) _ = f3
    have k3 : ∀ x, x < tm → x ≠ l + 1 → x ≠ l + 2 → f3 x = f2 x := by
      intro x hx h1 h2
      subst hf3
      simp [e2 x hx, h1, h2]
    have k3s : f3 (l + 1) = .bool false := by subst hf3; simp [e2 l (by omega), e2 (l + 1) (by omega)]
    have k3n : f3 (l + 2) = .int .i64 ((s ++ uvOut num).length : Nat) := by subst hf3; simp
    have h31 : f3 1 = f2 1 := k3 1 (by omega) (by omega) (by omega)
    have hd3 : Dst C f3 w2 base (s ++ uvOut num) := ⟨by rw [h31]; exact ho2, Nat.le_trans hd1.2 hg2.size⟩
    have hS3 : St f3 w2 := hSt f1 w1 f3 w2 s hS1 hd1 (by rw [h31]; exact hg2) (fun x hx hx1 hxa hxb _ => by rw [k3 x hx hxa hxb]; exact hk2 x (by omega) hx1)
    refine seqL_append ?_
    refine hbody _ f3 w2 _ hS3 hd3 (by simp only [List.length_append]; omega) ?_
    intro f4 w4 hw4
    have k4s : f4 (l + 1) = .bool false := (hw4.keep (l + 1) (by omega) (.inl (by omega))).trans k3s
    have k4n : f4 (l + 1 + 1) = .int .i64 ((s ++ uvOut num).length : Nat) := (hw4.keep (l + 2) (by omega) (.inl (by omega))).trans k3n
    show (sizedI C (l + 1) lab ts).wp P _ f4 w4
    refine wp_seqI (wp_reg ?_)
    simp [k4s, e1 (l + 1) (by omega), e1' (l + 1) (by omega), un?]
    refine .inl ⟨by simp, ?_⟩
    refine seqL_cons ?_
    refine Ir.cw_sound _ ?_
    have hD := (Ext.refl none1 w4).drew
    refine cw_regH (fun _ => True) trivial ?_
    obtain ⟨a4, c4, hform4, hc4⟩ := Own.form hw4.dst.1
    simp only [cellsOf_length] at hform4 hc4
    have sl1 := slice_hi (P := P) (T := C.E.tBs) hB (a := a4) (n := (s ++ uvOut num ++ out).length) (c := c4) (k := .i64) (l := (s ++ uvOut num).length) (by simp only [List.length_append] at hc4 ⊢; omega)
    have sl2 := slice_lo (P := P) (T := C.E.tBs) hB (a := a4) (n := (s ++ uvOut num ++ out).length) (c := c4) (k := .i64) (l := (s ++ uvOut num).length) (by simp only [List.length_append]; omega)
    have hsub : (s ++ uvOut num ++ out).length - (s ++ uvOut num).length = out.length := by simp only [List.length_append]; omega
    rw [hsub] at sl2
    have hwr : IntKind.u32.wrap (out.length : Int) = ((out.length % 4294967296 : Nat) : Int) := by simp [IntKind.wrap, IntKind.signed, IntKind.bits]
    have n1 : ∀ k, (1 = ts + k) = False := fun k => e1 1 (by omega) k
    have n1' : (1 = ts) = False := e1' 1 (by omega)
    have n2 : ∀ k, (l + 1 + 1 = ts + k) = False := fun k => e1 (l + 1 + 1) (by omega) k
    have n2' : (l + 1 + 1 = ts) = False := e1' (l + 1 + 1) (by omega)
    have hdst4 := hw4.dst.1
    have hgr4 := hw4.grew
    rw [hform4] at hdst4 hgr4
    have hO := OwnB.upTo hdst4 (k := (s ++ uvOut num).length) (by simp only [List.length_append]; omega)
    rw [List.take_left] at hO
    generalize hnn : (s ++ uvOut num).length = nn at k4n sl1 sl2 hO
    generalize hnt : (s ++ uvOut num ++ out).length = ntt at hform4 sl1 sl2 hdst4 hgr4
    have t0 : (ts = 0) = False := by simp; omega
    have q1 : ∀ k, (l = ts + k) = False := fun k => e1 l (by omega) k
    have q1' : (l = ts) = False := e1' l (by omega)
    have q2' : (l + 1 = ts) = False := e1' (l + 1) (by omega)
    have q3 : (ts + 1 + 1 = ts) = False := by simp; omega
    simp +contextual [hform4, k4n, t0, q1, q1', q2', q3, n1, n1', n2, n2', sl1, sl2, len_slice uB, ht.iInt, ht.iU32, hwr]
    refine (hU (out.length % 4294967296) (Nat.mod_lt _ (by omega)) w4.drew base _ _ (Own.ext hO hD (fun _ _ h => h)) (Nat.le_trans hw4.dst.2 hD.size) (by simp only [List.length_append]; omega)).mono ?_
    rintro v5 w5 ⟨ho5, hg5⟩
    try simp
    refine seqL_cons (wp_reg ?_)
    simp
    show lab = lab ∧ _
    refine ⟨rfl, ?_⟩
    have hg1 : Grew w (f 1) w1 (f1 1) := by rw [h11]; exact Grew.post (Grew.refl _ _) he1
    have hgs : Grew w4 (.slice a4 ntt c4) w4.drew (.slice (if c4 = 0 then a4 else a4.map (·.add 0)) nn c4) := ⟨hD.mono (fun _ _ h => h.elim), fun b hb => .inl (own1_upTo hb)⟩
    have hg25 : Grew w1 (f1 1) w5 v5 := by
      rw [h31] at hgr4
      exact ((hg2.trans hgr4).trans hgs).trans hg5
    have keep : ∀ x, x < tm → x ≠ 1 → x ≠ l + 1 → x ≠ l + 2 → (x < l + 3 ∨ m ≤ x) → ∀ a0 a1 a2 a3 a4 a5 a6 a7 a8 a9 a10, upd (upd (upd (upd (upd (upd (upd (upd (upd (upd (upd (upd (upd f4 ts a0) (ts + 1) a1) (ts + 2) a2) (ts + 3) a3) (ts + 4) a4) (ts + 5) a5) (ts + 6) a6) (ts + 7) a7) (ts + 8) a8) (ts + 9) a9) (ts + 10) a10) 1 v5) (l + 1) (.bool true) x = f1 x := by
      intro x hx hx1 hxa hxb hxm a0 a1 a2 a3 a4 a5 a6 a7 a8 a9 a10
      simp [e1 x hx, e1' x hx, hx1, hxa]
      rw [hw4.keep x hx1 (by omega), k3 x hx hxa hxb]
      exact hk2 x (by omega) hx1
    refine ⟨by simp, ⟨?_, ?_, ?_⟩, ?_⟩
    · refine ⟨?_, ?_⟩
      · simp [l0]
        rw [← List.append_assoc]; exact ho5
      · exact Nat.le_trans (Nat.le_trans hd.2 hg1.size) hg25.size
    · simp [l0]
      exact hg1.trans hg25
    · intro x hx1 hx
      exact (keep x (by omega) hx1 (by omega) (by omega) (by omega) _ _ _ _ _ _ _ _ _ _ _).trans (hk1 x (by omega) (by omega))
    · refine hSt f1 w1 _ w5 s hS1 hd1 (by simpa [l0] using hg25) ?_
      intro x hx hx1 hxa hxb hxm
      exact keep x hx hx1 hxa hxb hxm _ _ _ _ _ _ _ _ _ _ _
  · -- the second time
    rintro g w6 ⟨gs, hw6, hS6⟩
    show (seqL (body0 ++ _)).wp P _ g w6
    refine seqL_append ?_
    refine hbody _ g w6 _ hS6 hw6.dst (by simp only [List.length_append]; omega) ?_
    intro f7 w7 hw7
    have k7s : f7 (l + 1) = .bool true := (hw7.keep (l + 1) (by omega) (.inl (by omega))).trans gs
    show (sizedI C (l + 1) lab ts).wp P _ f7 w7
    refine wp_seqI (wp_reg ?_)
    simp [k7s, e1 (l + 1) (by omega), e1' (l + 1) (by omega), un?]
    refine .inr ⟨by simp, ?_⟩
    show Q .normal _ w7
    refine h _ _ ?_
    have := hw6.trans hw7 (by omega) (Nat.le_refl _) (Nat.le_refl _)
    exact (this.upd (by omega) hts (by omega) _).upd (by omega) (by omega) (by omega) _
end
end Go.Kg

set_option linter.unusedSimpArgs false
set_option linter.unusedVariables false
set_option linter.unusedSectionVars false
namespace Go.Kg
open Go
def Kn.NeedW (P : Program) (C : Cfg) (ok : TagL → Prop) : Kn → Prop
  | .prim p _ => PrimW P C p ∧ p.text = false
  | .arr _ _ _ _ _ e => LenWC P C none ∧ e.NeedW P C ok
  | .str _ _ _ _ _ _ _ => False
def KsNeedW (P : Program) (C : Cfg) (ok : TagL → Prop) : List KF → Prop
  | [] => True
  | f :: l => f.c.NeedW P C ok ∧ KsNeedW P C ok l
section
variable {P : Program} {C : Cfg}
theorem genWL_mono : ∀ (S : Sch) (T l : Nat) (c : Ct), c.l ≤ (S.genWL C T l c).2.l ∧ c.t ≤ (S.genWL C T l c).2.t := by
  intro S
  induction S with
  | fin => intro T l c; exact ⟨Nat.le_refl _, Nat.le_refl _⟩
  | tags k o => intro T l c; exact ⟨Nat.le_refl _, by simp [Sch.genWL]⟩
  | prim g k o p en d rest ih =>
    intro T l c
    have := ih T l ⟨c.l + 1, c.t + 2 + emitN C p, c.k⟩
    simp only [Sch.genWL]
    simp only at this
    omega
  | arrP g k o sT nul p rest ih => intro T l c; exact ⟨Nat.le_refl _, Nat.le_refl _⟩
  | arrS g k o sT nul T' PT' sz df e rest ihe ih => intro T l c; exact ⟨Nat.le_refl _, Nat.le_refl _⟩
  | sub g k o T' PT' sz df e rest ihe ih => intro T l c; exact ⟨Nat.le_refl _, Nat.le_refl _⟩
  | opt g k o T' PT' PP sz df e rest ihe ih => intro T l c; exact ⟨Nat.le_refl _, Nat.le_refl _⟩
theorem caseW_mono (T PT pv : Nat) (kf : KF) (c : Ct) (lab : Nat) : c.l ≤ (caseW C T PT pv kf c lab).2.1.l ∧ c.t ≤ (caseW C T PT pv kf c lab).2.1.t := by
  obtain ⟨num, k, o, cc⟩ := kf
  cases cc with
  | prim p d => simp only [caseW]; omega
  | arr sT T' PT' sz df e =>
    have := genW_mono (C := C) e T' PT' (c.l + 4) ⟨c.l + 5, c.t + 8 + lenN C none + 8, c.k + 2⟩
    simp only [caseW]
    simp only at this
    omega
  | str T' PT' sz df sm mk e =>
    have := genWL_mono (C := C) e T' c.l ⟨c.l + 3, c.t + 8, c.k⟩
    simp only [caseW]
    simp only at this
    omega
theorem casesW_mono (T PT pv key : Nat) : ∀ (ks : List KF) (c : Ct) (lab : Nat), c.l ≤ (casesW C T PT pv key ks c lab).2.l ∧ c.t ≤ (casesW C T PT pv key ks c lab).2.t
  | [], c, lab => ⟨Nat.le_refl _, Nat.le_refl _⟩
  | f :: r, c, lab => by
    have h1 := caseW_mono (C := C) T PT pv f ⟨c.l, c.t + 2, c.k⟩ lab
    simp only [casesW]
    generalize caseW C T PT pv f ⟨c.l, c.t + 2, c.k⟩ lab = z at h1 ⊢
    obtain ⟨b, c1, lab1⟩ := z
    have h2 := casesW_mono T PT pv key r c1 lab1
    simp only at h1 ⊢
    omega
theorem Wrote.down {f g : Nat → Value} {w w' : World} {base n m t t' : Nat} {s out : List UInt8} (h : Wrote C f w base s out n m t g w') (ht : t' ≤ t) : Wrote C f w base s out n m t' g w' :=
  ⟨h.dst, h.grew, fun x hx1 hx => h.keep x hx1 (by omega)⟩
/-- v := v.F, and of 16 octets: they lie in a new block -/
theorem w_load2 (ht : TyC P C) {Q : Post} {f : Nat → Value} {w : World} {T PT pv k o ty l t : Nat} {p : Prim} (hq : p = .uuid → isAgg16 (kindOf P C.E.tUu) = true) {b a : Nat} {cs : List Value} {u : Value} (hpv : f pv = .pointer (some ⟨b, a, none⟩)) (hF : fldOff P T k = some o) (hk : p.kOk P ty = true)
    (hc : CellsAt w b a cs) (hs : seg cs o u.cells.toList) (hu : if p = .uuid then ∃ c : Array Value, u = .agg c ∧ c.size = 16 ∧ allOne c.toList = true else u.oneCell' = true) (hl : l < t) (hl1 : 1 < l)
    (h : ∀ f' w', LocVal w' f' p l u → (p = .uuid → ∃ bb, f' l = .pointer (some ⟨bb, 0, none⟩) ∧ w.heap.size ≤ bb) → Ext none1 w w' → (∀ x, x < t → x ≠ l → f' x = f x) → Q .normal f' w') : (loadI C T PT pv k ty l t p).wp P Q f w := by
  by_cases hp : p = .uuid
  · subst hp
    simp only [if_true] at hu
    obtain ⟨c, rfl, hc16, hone⟩ := hu
    have hk' : kindOf P ty = .agg 16 := by
      simp only [Prim.kOk, if_true] at hk
      revert hk; cases kindOf P ty <;> simp [isAgg16]
      intro h'; split at h' <;> simp_all
    have hl' := cellsFrom_seg hc (u := c) hs
    rw [hc16] at hl'
    have e1 : l ≠ t := by omega
    have e2 : ∀ n, l ≠ t + n := by omega
    have e3 : ∀ n, (t + n = l) = False := by intro n; simp; omega
    have keep : ∀ a b c d e, ∀ x, x < t → x ≠ l → upd (upd (upd (upd (upd f t a) (t + 1) b) (t + 2) c) (t + 3) d) l e x = f x := by
      intro a b c d e x hx hx2
      have x3 : ∀ n, (x = t + n) = False := by intro n; simp; omega
      have x4 : (x = t) = False := by simp; omega
      simp [x3, x4, hx2]
    refine wp_reg ?_
    have hz : zeroOf P C.E.tUu = some (.agg z16) := (ht.uu (hq rfl)).zUu
    simp [loadI, addrR, putL, hpv, hF, Addr.add_mk, ld_agg hk', hl', hz, Value.cells, e3, store_agg (ht.uu (hq rfl)).kUu, hc16, hone, putK_blk alloc_new, z16_size]
    refine h _ _ ?_ ?_ ?_ (keep _ _ _ _ _)
    · simp only [LocVal, if_true]
      refine ⟨w.heap.size, c, C.E.tUu, (0, 0), by simp, ?_, rfl, hc16⟩
      have hov : over z16 0 c.toList = c := by
        have hd : z16.toList.drop (0 + c.toList.length) = [] := List.drop_eq_nil_of_le (by simp [z16_size, hc16])
        simp only [over, hd]; simp
      rw [hov]
      exact setBlk_same alloc_new
    · intro _; exact ⟨w.heap.size, by simp, Nat.le_refl _⟩
    · exact ((Ext.refl none1 w).alloc _).setBlk (.inl (Nat.le_refl _)) _
  · exact w_load ht hq hpv hF hk hc hs hu hl hl1 (fun f' w' h1 h2 h3 => h f' w' h1 (fun e => absurd e hp) h2 h3)
theorem LocVal.grew {p : Prim} {l : Nat} {u : Value} {f f' : Nat → Value} {w w' : World} {v v' : Value} (h : LocVal w f p l u) (hx : p = .uuid → ∃ bb, f l = .pointer (some ⟨bb, 0, none⟩) ∧ ¬ own1 v bb) (hg : Grew w v w' v') (hl : f' l = f l) : LocVal w' f' p l u := by
  unfold LocVal at h ⊢
  by_cases hp : p = .uuid
  · rw [if_pos hp] at h ⊢
    obtain ⟨b, cs, e, fz, hf, hb, hu, h16⟩ := h
    obtain ⟨bb, hbb, hn⟩ := hx hp
    rw [hf] at hbb
    cases hbb
    exact ⟨b, cs, e, fz, hl.trans hf, hg.ext.old hb hn, hu, h16⟩
  · rw [if_neg hp] at h ⊢
    rw [hl]; exact h
variable {ok : TagL → Prop}
theorem w_caseW (ht : TyC P C) (hfx : C.fx = true) (hB : sliSz P C.E.tBs = some 1) (uB : P.underlying C.E.tBs = some (.slice C.E.tU8)) (hU : ∀ n : Nat, n < 4294967296 → WrC P C.E.tU8 C.E.f_kbin_AppendUvarint [.int .u32 n] (uvOut n))
    {T PT pv n mm tm : Nat} {kf : KF} (hty : kf.tyW P C T = true) (hN : kf.c.NeedW P C ok) {c : Ct} {lab : Nat} {Q : Post} {f : Nat → Value} {w : World} {b a base : Nat} {cs : List Value} {x : kf.c.T} {ver : Int} {s : List UInt8}
    (hf : FrW C f pv b a ver true n) (hn : n ≤ c.l) (hm : (caseW C T PT pv kf c lab).2.1.l ≤ mm) (hmt : mm ≤ tm) (htm : tm ≤ c.t) (hb : b < base) (hcs : CellsAt w b a cs) (hr : kf.c.Rep w (· < base) cs kf.o x) (hok : kf.c.TagsOk ok x) (hd : Dst C f w base s)
    (hsz : s.length + (kTag kf.num (kf.c.wr ver x)).length ≤ 1099511627776) (h : ∀ f' w', Wrote C f w base s (kTag kf.num (kf.c.wr ver x)) n mm tm f' w' → Q .normal f' w') : (caseW C T PT pv kf c lab).1.wp P Q f w := by
  obtain ⟨num, k, o, cc⟩ := kf
  simp only [KF.tyW, Bool.and_eq_true, beq_iff_eq, decide_eq_true_eq] at hty
  obtain ⟨⟨hF, hnum⟩, hty⟩ := hty
  simp only at hF hnum hr x hok hsz h hN
  have h1n := hf.one
  have hpt := hf.ptrN
  have hsum : ∀ out, (kTag num out).length = (uvOut num).length + (uvOut (out.length % 4294967296)).length + out.length := fun out => by simp only [kTag, List.length_append]
  cases cc with
  | str T' PT' sz df sm mk e => exact hN.elim
  | prim p d =>
    obtain ⟨v, hv, hr1⟩ := hr
    obtain ⟨hNp, htx⟩ := hN
    simp only [Bool.and_eq_true] at hty
    simp only [caseW] at hm ⊢
    have hq := kOk_uu hty.1
    have hwl : ((Kn.prim p d).wr ver x).length = p.szW := prim_szW hr1 htx
    have hsm := hsum ((Kn.prim p d).wr ver x)
    have hlt := szW_lt p
    rw [hwl, Nat.mod_eq_of_lt hlt] at hsm
    refine seqL_cons ?_
    refine w_load2 ht hq hf.ptr hF hty.1 hcs hv (rep1_one hr1) (by omega) (by omega) ?_
    intro f1 w1 hv1 hfr1 he1 hk1
    have h11 : f1 1 = f 1 := hk1 1 (by omega) (by omega)
    have hd1 : Dst C f1 w1 base s := by unfold Dst at hd ⊢; rw [h11]; exact ⟨Own.ext hd.1 he1 (fun _ _ h => h), Nat.le_trans hd.2 he1.size⟩
    have own0 : ∀ bb, own1 (f 1) bb → bb < w.heap.size := fun bb hb => (Own.below hd.1 hb).2
    refine seqL_cons ?_
    refine w_uv hU hnum (by omega) hd1 (by omega) ?_
    intro f2 w2 ho2 hg2 hk2
    have hd2 : Dst C f2 w2 base (s ++ uvOut num) := ⟨ho2, Nat.le_trans hd1.2 hg2.size⟩
    have hv2 : LocVal w2 f2 p c.l v := hv1.grew (fun hp => by
      obtain ⟨bb, hbb, hge⟩ := hfr1 hp
      exact ⟨bb, hbb, fun ho => by rw [h11] at ho; have := own0 bb ho; omega⟩) hg2 (hk2 c.l (by omega) (by omega))
    refine seqL_cons ?_
    refine w_uv hU hlt (by omega) hd2 (by simp only [List.length_append]; omega) ?_
    intro f3 w3 ho3 hg3 hk3
    have hd3 : Dst C f3 w3 base (s ++ uvOut num ++ uvOut p.szW) := ⟨ho3, Nat.le_trans hd2.2 hg3.size⟩
    have hv3 : LocVal w3 f3 p c.l v := hv2.grew (fun hp => by
      obtain ⟨bb, hbb, hge⟩ := hfr1 hp
      have hlt1 : bb < w1.heap.size := by
        unfold LocVal at hv1
        rw [if_pos hp] at hv1
        obtain ⟨b', cs', e', fz', hf', hb', _⟩ := hv1
        rw [hf'] at hbb; cases hbb
        exact lt_of_heap hb'
      refine ⟨bb, (hk2 c.l (by omega) (by omega)).trans hbb, fun ho => ?_⟩
      rcases hg2.own bb ho with h' | h'
      · rw [h11] at h'; have := own0 bb h'; omega
      · omega) hg3 (hk3 c.l (by omega) (by omega))
    have hf3 : flagOk C f3 true := ⟨fun hx => ⟨by rw [hk3 C.sf (by have := hf.sfN hx; omega) (hf.flg.1 hx).2, hk2 C.sf (by have := hf.sfN hx; omega) (hf.flg.1 hx).2, hk1 C.sf (by have := hf.sfN hx; omega) (by have := hf.sfN hx; omega)]; exact (hf.flg.1 hx).1, (hf.flg.1 hx).2⟩, hf.flg.2⟩
    have hrep3 : p.rep1 w3 (· < base) v x := by
      have r1 := Prim.rep1_ext (K := (· < base)) he1 (fun _ _ _ h => h) hr1
      have r2 := Prim.rep1_ext (K := (· < base)) hg2.ext (fun b _ hb ho => by have := (Own.below hd1.1 ho).1; omega) r1
      exact Prim.rep1_ext (K := (· < base)) hg3.ext (fun b _ hb ho => by have := (Own.below hd2.1 ho).1; omega) r2
    show (emitW C p c.l (c.t + 8)).wp P Q f3 w3
    refine w_emit ht hq (x := x) (fl := true) (by omega) (by omega) (by omega) hv3 rfl hf3 (fun hx => by have := hf.sfN hx; omega) hNp hrep3 hd3.1 hd3.2 ?_ ?_
    · have : (p.wr true x).length = p.szW := hwl
      rw [this]
      simp only [List.length_append]; omega
    · intro f4 w4 v4 h41 ho4 hg4 hk4
      have hg1 : Grew w (f 1) w1 (f1 1) := by rw [h11]; exact Grew.post (Grew.refl _ _) he1
      refine h f4 w4 ⟨⟨?_, ?_⟩, ?_, ?_⟩
      · rw [h41]
        have e : kTag num ((Kn.prim p d).wr ver x) = uvOut num ++ uvOut p.szW ++ p.wr true x := by
          simp only [kTag, hwl, Nat.mod_eq_of_lt hlt]; rfl
        rw [e, ← List.append_assoc, ← List.append_assoc]
        exact ho4
      · exact Nat.le_trans hd3.2 hg4.size
      · rw [h41]
        exact ((hg1.trans hg2).trans hg3).trans hg4
      · intro z hz1 hz
        rw [hk4 z (by omega) hz1, hk3 z (by omega) hz1, hk2 z (by omega) hz1]
        exact hk1 z (by omega) (by omega)
  | arr sT T' PT' sz df e =>
    obtain ⟨v, ls, hv, harr, ⟨hsome, _⟩, hlen, hel⟩ := hr
    obtain ⟨hNl, hNe⟩ := hN
    simp only [Bool.and_eq_true, beq_iff_eq] at hty
    obtain ⟨⟨hk, hsl⟩, hte⟩ := hty
    have hnil : ls.isNone = (show Option (List e.T) from x).isNone := by
      have hs' := hsome
      cases ls <;> cases hx : (show Option (List e.T) from x) <;> simp_all
    simp only [caseW] at hm ⊢
    generalize ht1 : c.t + 8 + lenN C none = t1 at hm ⊢
    have hme := genW_mono (C := C) e T' PT' (c.l + 4) ⟨c.l + 5, t1 + 8, c.k + 2⟩
    have hse : ∀ Q f w b a cs x ver fl base s, _ := fun Q f w b a cs x ver fl base s => soundW (ok := ok) ht e T' PT' (c.l + 4) ⟨c.l + 5, t1 + 8, c.k + 2⟩ Q f w b a cs x ver fl base s
    generalize hz : e.genW C T' PT' (c.l + 4) ⟨c.l + 5, t1 + 8, c.k + 2⟩ = z at hm hme hse ⊢
    obtain ⟨eb, c1⟩ := z
    simp only at hm hme hse ⊢
    have hout : (Kn.arr sT T' PT' sz df e).wr ver x = lenW none true ((show Option (List e.T) from x).getD []).length ls.isNone ++ ((show Option (List e.T) from x).getD []).flatMap (e.wr ver true) := by rw [hnil]; rfl
    refine w_twice (body0 := [lenI C none sT c.l (c.t + 8), rangeI C sT c.l t1 c1.t c.k _]) (m := mm) (tm := tm) (n := n) (out := (Kn.arr sT T' PT' sz df e).wr ver x) ht hB uB hU hnum
      (St := fun f' w' => FrW C f' pv b a ver true n ∧ f' c.l = v ∧ ArrAt w' (· < base) sz v ls ∧ ∀ (i : Nat) (es : List Value) y, (ls.getD [])[i]? = some es → ((show Option (List e.T) from x).getD [])[i]? = some y → e.Rep w' (· < base) es y)
      h1n hn (by omega) hmt (by omega) (by omega) hd hsz ?_ ?_ ?_ h
    · intro Q' hq
      obtain ⟨ad, cp, rfl, _, hmax⟩ := harr.form
      refine w_load ht (fun h => by cases h) hf.ptr hF (kOk_scl hk) hcs (seg_one hv rfl) (by simp [Value.oneCell']) (by omega) (by omega) ?_
      intro f1 w1 hv1 he1 hk1
      refine hq f1 w1 ⟨?_, loc_slice hv1, harr.ext he1 (fun _ _ _ h => h), fun i es y hi hy => Sch.Rep_ext he1 (fun _ _ _ h => h) e (hel i es y hi hy)⟩ he1 (fun z hz hzl => hk1 z (by omega) hzl)
      exact hf.keep (fun z hz _ => hk1 z (by omega) (by omega)) (Nat.le_refl _)
    · rintro f1 w1 f2 w2 s' ⟨q1, q2, q3, q4⟩ hd' hg hk
      have hK : ∀ b, b < w1.heap.size → b < base → ¬ own1 (f1 1) b := fun b _ hb ho => by have := (Own.below hd'.1 ho).1; omega
      exact ⟨q1.keep (fun z hz hz1 => hk z (by omega) hz1 (by omega) (by omega) (by omega)) (Nat.le_refl _), (hk c.l (by omega) (by omega) (by omega) (by omega) (by omega)).trans q2, q3.ext (K := (· < base)) hg.ext hK, fun i es y hi hy => Sch.Rep_ext (K := (· < base)) hg.ext hK e (q4 i es y hi hy)⟩
    · rintro Q' f1 w1 s' ⟨q1, q2, q3, q4⟩ hd' hsz' hq
      rw [hout] at hsz' hq
      refine w_list2 ((show Option (List e.T) from x).getD []) (e.wr ver true) hsl hNl q1 (q := c.l + 3) (m := mm) (by omega) (by omega) (by omega) (by omega) (by omega) ht1.symm (by omega) q2 q3 hlen hd' hsz' ?_ (fun f' w' hw => hq f' w' (hw.down (by omega)))
      intro i y s'' f' w' hy hf' hl' h2' h1' hd'' hsz'' hg0
      obtain ⟨es, hes⟩ : ∃ es, (ls.getD [])[i]? = some es := by
        have : i < (ls.getD []).length := by rw [hlen]; exact (List.getElem?_eq_some_iff.1 hy).1
        exact ⟨_, List.getElem?_eq_getElem this⟩
      have hrep := q4 i es y hes hy
      have hK : ∀ b, b < w1.heap.size → b < base → ¬ own1 (f1 1) b := fun b _ hb ho => by have := (Own.below hd'.1 ho).1; omega
      have harr' := q3.ext (K := (· < base)) hg0.ext hK
      have hrep' := Sch.Rep_ext (K := (· < base)) hg0.ext hK e hrep
      cases ls with
      | none => simp at hes
      | some ls =>
        obtain ⟨bb, oo, cc, rfl, hbb, hmax, hcells⟩ := harr'
        have hce := hcells i _ hes
        refine seqL_cons ?_
        refine wp_reg ?_
        simp [idxI, h2']
        refine seqL_cons ?_
        refine wp_reg ?_
        have hi : i < ls.length := by have := (List.getElem?_eq_some_iff.1 hes).1; simpa using this
        have e1 : ∀ n, (c.l = t1 + n) = False := by intro n; simp; omega
        have e2 : ∀ n, (c.l + 3 = t1 + n) = False := by intro n; simp; omega
        simp [e1, e2, hl', idx?, hsl, hi, Addr.add_mk]
        have up : ∀ z, z < t1 + 4 → z ≠ c.l + 3 → z ≠ c.l + 4 → ∀ v1 v2 v3 v4 v5 v6, upd (upd (upd (upd (upd (upd f' (t1 + 4) v1) (c.l + 3) v2) (t1 + 5) v3) (t1 + 6) v4) (t1 + 7) v5) (c.l + 4) v6 z = f' z := by
          intro z hz hz1 hz2 v1 v2 v3 v4 v5 v6
          have a3 : ∀ n, 4 ≤ n → (z = t1 + n) = False := by intro n hn; simp; omega
          simp [a3, hz1, hz2]
        refine hse _ _ w' bb (oo + i * sz) es y ver true base s'' hte hNe ?_ (by omega) hbb hce.2 hrep' (hok i y hy) ?_ hsz'' ?_
        · refine ⟨by simp, ⟨by omega, by omega⟩, ?_, ⟨by have := hf'.svN; omega, hf'.svN.2⟩, ⟨fun hx => ⟨?_, (hf'.flg.1 hx).2⟩, hf'.flg.2⟩, fun hx => by have := hf'.sfN hx; omega, by omega⟩
          · rw [up _ (by have := hf'.svN; omega) (by have := hf'.svN; omega) (by have := hf'.svN; omega)]; exact hf'.svv
          · rw [up _ (by have := hf'.sfN hx; omega) (by have := hf'.sfN hx; omega) (by have := hf'.sfN hx; omega)]; exact (hf'.flg.1 hx).1
        · unfold Dst at hd'' ⊢
          rwa [up 1 (by omega) (by omega) (by omega)]
        · intro f4 w4 hw4
          have kp : ∀ z, z ≠ 1 → z ≠ c.l + 3 → z ≠ c.l + 4 → (z < c.l + 5 ∨ (c1.l ≤ z ∧ z < t1 + 4)) → f4 z = f' z := by
            intro z hz0 hz1 hz2 hz
            rw [hw4.keep z hz0 (by omega)]
            exact up z (by omega) hz1 hz2 _ _ _ _ _ _
          refine ⟨rfl, ⟨hw4.dst, ?_, ?_⟩, ?_, ?_⟩
          · have := hw4.grew
            rwa [up 1 (by omega) (by omega) (by omega)] at this
          · intro z hz1 hz
            exact kp z hz1 (by omega) (by omega) (by omega)
          · rw [kp _ (by omega) (by omega) (by omega) (by omega)]; exact h2'
          · rw [kp _ (by omega) (by omega) (by omega) (by omega)]; exact h1'
theorem ksSet_num : ∀ (l : List KF) (z : KsT l) {y : Nat}, y ∈ ksSet l z → y ∈ l.map (·.num)
  | [], _, y, h => h
  | f :: l, (v, r), y, h => by
    simp only [ksSet, List.mem_append] at h
    simp only [List.map_cons, List.mem_cons]
    rcases h with h | h
    · split at h
      · left; simpa using h
      · simp at h
    · right; exact ksSet_num l r h
/-- the switch -/
theorem w_casesW (ht : TyC P C) (hfx : C.fx = true) (hB : sliSz P C.E.tBs = some 1) (uB : P.underlying C.E.tBs = some (.slice C.E.tU8)) (hU : ∀ n : Nat, n < 4294967296 → WrC P C.E.tU8 C.E.f_kbin_AppendUvarint [.int .u32 n] (uvOut n))
    {T PT pv key n mm tm : Nat} {Q : Post} {b a base : Nat} {cs : List Value} {ver : Int} {s : List UInt8} {num : Nat} {out : List UInt8} (hmt : mm ≤ tm) (hb : b < base) (hsz : s.length + (kTag num out).length ≤ 1099511627776) :
    ∀ (ks : List KF) (x : KsT ks) (c : Ct) (lab : Nat) (f : Nat → Value) (w : World), (ks.all (·.tyW P C T)) = true → KsNeedW P C ok ks → (ks.map (·.num)).Nodup → KsRep w (· < base) cs ks x → KsOk ok ks x → (num, out) ∈ ksOuts ver ks x → f key = .int .u32 num →
      FrW C f pv b a ver true n → n ≤ c.l → (casesW C T PT pv key ks c lab).2.l ≤ mm → tm ≤ c.t → key < c.t → CellsAt w b a cs → Dst C f w base s →
      (∀ f' w', Wrote C f w base s (kTag num out) n mm tm f' w' → Q .normal f' w') → (casesW C T PT pv key ks c lab).1.wp P Q f w := by
  intro ks
  induction ks with
  | nil => intro x c lab f w _ _ _ _ _ hmem; simp [ksOuts] at hmem
  | cons kf r ih =>
    rintro ⟨v, xr⟩ c lab f w hty ⟨hN, hNr⟩ hnd ⟨hr, hrr⟩ ⟨hok, hokr⟩ hmem hkey hf hn hm htm hkt hcs hd h
    simp only [List.all_cons, Bool.and_eq_true] at hty
    simp only [List.map_cons, List.nodup_cons] at hnd
    simp only [ksOuts, List.mem_append] at hmem
    have m1 := caseW_mono (C := C) T PT pv kf ⟨c.l, c.t + 2, c.k⟩ lab
    have hcase := fun (Q : Post) (f : Nat → Value) (s : List UInt8) => w_caseW (ok := ok) (P := P) (C := C) (T := T) (PT := PT) (pv := pv) (n := n) (mm := mm) (tm := tm) (kf := kf) (c := ⟨c.l, c.t + 2, c.k⟩) (lab := lab) (Q := Q) (f := f) (w := w) (b := b) (a := a) (base := base) (cs := cs) (x := v) (ver := ver) (s := s) ht hfx hB uB hU hty.1 hN
    simp only [casesW] at hm ⊢
    generalize caseW C T PT pv kf ⟨c.l, c.t + 2, c.k⟩ lab = z at m1 hm hcase ⊢
    obtain ⟨bb, c1, lab1⟩ := z
    have m2 := casesW_mono (C := C) T PT pv key r c1 lab1
    simp only at m1 hm hcase ⊢
    have h1n := hf.one
    have hkc : (key = c.t + 1) = False := by simp; omega
    have hkc' : (key = c.t) = False := by simp; omega
    have tail : ∀ y, (y, out) ∈ ksOuts ver r xr → y ∈ r.map (·.num) := by
      intro y hy
      have h1 : y ∈ (ksOuts ver r xr).map (fun z => z.1) := List.mem_map.2 ⟨(y, out), hy, rfl⟩
      rw [show (fun z : Nat × List UInt8 => z.1) = (·.1) from rfl, ksOuts_set] at h1
      exact ksSet_num r xr h1
    refine seqL_cons (wp_reg ?_)
    simp [hkey]
    generalize hBv : ((num : Int) == (kf.num : Int)) = Bv
    have hfu : FrW C (upd (upd f (c.t + 1) (.bool Bv)) c.t (.bool Bv)) pv b a ver true n := hf.keep (keeps_upd (keeps_upd (Keeps.refl _ _) (by omega)) (by omega)) (Nat.le_refl _)
    have hdu : Dst C (upd (upd f (c.t + 1) (.bool Bv)) c.t (.bool Bv)) w base s := by
      unfold Dst at hd ⊢
      rw [upd_apply, if_neg (by omega), upd_apply, if_neg (by omega)]
      exact hd
    have back : ∀ f' w', Wrote C (upd (upd f (c.t + 1) (.bool Bv)) c.t (.bool Bv)) w base s (kTag num out) n mm tm f' w' → Wrote C f w base s (kTag num out) n mm tm f' w' := by
      intro f' w' hw
      refine ⟨hw.dst, ?_, ?_⟩
      · have := hw.grew
        rwa [upd_apply, if_neg (by omega), upd_apply, if_neg (by omega)] at this
      · intro z hz1 hz
        rw [hw.keep z hz1 hz, upd_apply, if_neg (by omega), upd_apply, if_neg (by omega)]
    by_cases heq : num = kf.num
    · subst heq
      have hBt : Bv = true := by rw [← hBv]; simp
      have hset : kf.c.set v = true ∧ out = kf.c.wr ver v := by
        rcases hmem with h' | h'
        · split at h'
          · rename_i hs; simp at h'; exact ⟨hs, h'⟩
          · simp at h'
        · exact absurd (tail _ h') hnd.1
      obtain ⟨_, rfl⟩ := hset
      refine .inl ⟨by simp [hBt], ?_⟩
      refine hcase _ _ _ hfu hn (by omega) hmt (by omega) hb hcs hr hok hdu hsz ?_
      intro f' w' hw
      exact h f' w' (back f' w' hw)
    · have hBf : Bv = false := by rw [← hBv, beq_eq_false_iff_ne]; omega
      refine .inr ⟨by simp [hBf], ?_⟩
      have hmem' : (num, out) ∈ ksOuts ver r xr := by
        rcases hmem with h' | h'
        · split at h'
          · simp at h'; exact absurd h'.1 heq
          · simp at h'
        · exact h'
      refine ih xr _ _ _ w hty.2 hNr hnd.2 hrr hokr hmem' ?_ hfu (by omega) hm (by omega) (by omega) hcs hdu (fun f' w' hw => h f' w' (back f' w' hw))
      rw [upd_apply, if_neg (by omega), upd_apply, if_neg (by omega)]
      exact hkey
end
end Go.Kg

set_option linter.unusedSimpArgs false
set_option linter.unusedVariables false
set_option linter.unusedSectionVars false
namespace Go.Kg
open Go
section
variable {P : Program} {C : Cfg}
/-- w_range, where the body reads the list through the loop's own copy. -/
theorem w_rangeT {Q : Post} {f : Nat → Value} {w : World} {sT l t t' k n c sz : Nat} {a : Option Addr} {body : Ir} (hs : sliSz P sT = some sz) (hl : l < t) (ht1 : 1 < t) (htt : t + 4 ≤ t') (hn : n ≤ 1099511627776) (hv : f l = .slice a n c) (J : Nat → (Nat → Value) → World → Prop)
    (hJ : ∀ i f f' w, (∀ x, x < t → f' x = f x) → J i f w → J i f' w) (h0 : J 0 f w)
    (hb : ∀ i, i < n → ∀ f w, J i f w → f t = .slice a n c → f (t + 2) = .int .i64 i → f (t + 1) = .int .i64 n → body.wp P (fun e f' w' => e = .normal ∧ J (i + 1) f' w' ∧ f' t = .slice a n c ∧ f' (t + 2) = .int .i64 i ∧ f' (t + 1) = .int .i64 n) f w)
    (h : ∀ f' w', J n f' w' → Q .normal f' w') : (rangeI C sT l t t' k body).wp P Q f w := by
  obtain ⟨E, j, hu, _, _⟩ := sliSz_spec hs
  have e3 : ∀ n, (l = t + n) = False := by intro n; simp; omega
  have e4 : (l = t) = False := by simp; omega
  refine wp_seqI (wp_reg ?_)
  simp [hv, e3, e4, len_slice hu]
  show (Ir.loop _).wp P _ _ _
  refine ⟨fun f w => ∃ i : Nat, i ≤ n ∧ f t = .slice a n c ∧ f (t + 2) = .int .i64 i ∧ f (t + 1) = .int .i64 n ∧ J i f w, fun f _ => match f (t + 2) with | .int _ i => ((n : Int) - i).toNat | _ => 0, ?_, ?_⟩
  · refine ⟨0, by omega, by simp, by simp, by simp, hJ _ _ _ _ ?_ h0⟩
    intro x hx
    have x3 : ∀ n, (x = t + n) = False := by intro n; simp; omega
    have x4 : (x = t) = False := by simp; omega
    simp [x3, x4]
  · rintro f w ⟨i, hi, hft, h2, h3, hj⟩
    refine wp_seqI (wp_reg ?_)
    simp [h2, h3]
    by_cases hlt : i < n
    · refine .inl ⟨by simp; omega, ?_⟩
      show (Ir.seq _ _).wp P _ _ _
      refine wp_seqI ?_
      show body.wp P _ _ _
      refine Ir.wp_mono body ?_ (hb i hlt _ _ (hJ i _ _ _ ?_ hj) (by simpa using hft) (by simpa using h2) (by simpa using h3))
      · rintro e f' w' ⟨rfl, hj', hft', h2', h3'⟩
        show (Ir.reg _).wp P _ _ _
        refine wp_reg ?_
        have t3 : ∀ n, (t + 2 = t' + n) = False := by intro n; simp; omega
        have t4 : (t + 2 = t') = False := by simp; omega
        have t5 : (t + 1 = t') = False := by simp; omega
        have t6 : (t = t') = False := by simp; omega
        have wr : IntKind.i64.wrap ((i : Int) + 1) = ((i + 1 : Nat) : Int) := by rw [i64_small (by omega) (by omega)]; rfl
        simp [h2', t4, wr]
        refine ⟨⟨i + 1, by omega, by simp [t6, hft'], by simp, by simp [t5, h3'], hJ _ _ _ _ ?_ hj'⟩, ?_⟩
        · intro x hx
          have x3 : ∀ n, (x = t + n) = False := by intro n; simp; omega
          have x4 : (x = t') = False := by simp; omega
          simp [x3, x4]
        · first | omega | (simp only [h2]; omega)
      · intro x hx
        have x3 : ∀ n, (x = t + n) = False := by intro n; simp; omega
        simp [x3]
    · have : i = n := by omega
      subst this
      refine .inr ⟨by simp, ?_⟩
      show inBlockF k Q (.exit k) _ _
      rw [inBlockF_exit, if_pos rfl]
      refine h _ _ (hJ _ _ _ _ ?_ hj)
      intro x hx
      have x3 : ∀ n, (x = t + n) = False := by intro n; simp; omega
      simp [x3]
theorem secWI_mono (T PT pv sl : Nat) (ks : List KF) (tk : Nat) (c : Ct) (lab0 : Nat := 0) : c.l + 3 ≤ (secWI C T PT pv sl ks tk c lab0).2.l ∧ c.t ≤ (secWI C T PT pv sl ks tk c lab0).2.t := by
  have h1 := preW_t C T PT pv sl c.l ks (c.t + 1)
  have h2 := casesW_mono (C := C) T PT pv ((preW C T PT pv sl c.l ks (c.t + 1)).2 + 10 + 6) ks ⟨c.l + 3, (preW C T PT pv sl c.l ks (c.t + 1)).2 + 10 + 7, c.k + 3⟩ lab0
  simp only [secWI]
  simp only at h2
  omega
variable {ok : TagL → Prop}
theorem w_sec (ht : TyC P C) (hfx : C.fx = true) (hu : isAgg16 (kindOf P C.E.tUu) = true → TyUuE P C.E) (hB : sliSz P C.E.tBs = some 1) (uB : P.underlying C.E.tBs = some (.slice C.E.tU8)) (kU : kindOf P C.E.tU32 = .scl) (hT : TagsC P C.E ok)
    {T PT pv sl tk to lab0 : Nat} {ks : List KF} (hS : SliI P sl C.E.tU32 1 4 (.int .u32 0)) (hty : (ks.all (·.tyW P C T)) = true) (hN : KsNeedW P C ok ks) (hnd : (ks.map (·.num)).Nodup) (hlen : ks.length ≤ 1000) (hF : fldOff P T tk = some to) {c : Ct} {Q : Post} {f : Nat → Value} {w : World} {b a base : Nat} {cs : List Value} {x : KsT ks} {u : TagL} {uv : Value} {ver : Int} {fl : Bool} {s : List UInt8}
    (hf : FrW C f pv b a ver fl c.l) (hc : (secWI C T PT pv sl ks tk c lab0).2.l ≤ c.t) (hb : b < base) (hcs : CellsAt w b a cs) (hr : KsRep w (· < base) cs ks x) (hok : KsOk ok ks x) (huv : cs[to]? = some uv) (hl : TagsAt w (· < base) uv u) (hok2 : ok u) (hd : Dst C f w base s)
    (hsz : s.length + (secW ver fl ks x u).length ≤ 1099511627776) (h : ∀ f' w', Wrote C f w base s (secW ver fl ks x u) c.l (secWI C T PT pv sl ks tk c lab0).2.l c.t f' w' → Q .normal f' w') : (secWI C T PT pv sl ks tk c lab0).1.wp P Q f w := by
  have h1c := hf.one
  have hpt := hf.ptrN
  have hsf := hf.sfN hfx
  have hmono := secWI_mono (C := C) T PT pv sl ks tk c lab0
  have hU := hT.uv
  simp only [secWI] at hc h hmono ⊢
  generalize htp : (preW C T PT pv sl c.l ks (c.t + 1)).2 = tp at hc h hmono ⊢
  have htp1 : c.t + 1 ≤ tp := by rw [← htp]; exact preW_t C T PT pv sl c.l ks (c.t + 1)
  have hcm := casesW_mono (C := C) T PT pv (tp + 10 + 6) ks ⟨c.l + 3, tp + 10 + 7, c.k + 3⟩ lab0
  have hcw : ∀ {num : Nat} {out : List UInt8} {Q : Post} {f : Nat → Value} {w : World} {s : List UInt8}, _ := fun {num out Q f w s} => w_casesW (ok := ok) (P := P) (C := C) (T := T) (PT := PT) (pv := pv) (key := tp + 10 + 6) (n := c.l) (mm := (casesW C T PT pv (tp + 10 + 6) ks ⟨c.l + 3, tp + 10 + 7, c.k + 3⟩ lab0).2.l) (tm := tp + 10 + 4) (Q := Q) (b := b) (a := a) (base := base) (cs := cs) (ver := ver) (s := s) (num := num) (out := out) ht hfx hB uB hU (by omega) hb (x := x) (ks := ks) (c := ⟨c.l + 3, tp + 10 + 7, c.k + 3⟩) (lab := lab0) (f := f) (w := w)
  generalize hcs1 : casesW C T PT pv (tp + 10 + 6) ks ⟨c.l + 3, tp + 10 + 7, c.k + 3⟩ lab0 = z at hc h hmono hcm hcw ⊢
  obtain ⟨cw, c1⟩ := z
  simp only at hc h hmono hcm hcw ⊢
  refine w_flex (hf.flg.1 hfx).1 (by omega) (by omega) ?_ ?_
  · rintro rfl f1 hk1 h11
    simp only [secW, if_true, List.length_append] at hsz h
    simp only [List.cons_append, List.nil_append]
    refine seqL_cons (wp_reg ?_)
    simp
    generalize hf2 : upd f1 c.l (.slice none 0 0) = f2
    have k2 : ∀ z, z < c.t → z ≠ 1 → z ≠ c.l → f2 z = f z := by
      intro z hz hz1 hzl
      subst hf2
      rw [upd_apply, if_neg hzl]
      exact hk1 z hz hz1
    have k21 : f2 1 = f 1 := by subst hf2; rw [upd_apply, if_neg (by omega)]; exact h11
    show (seqL (_ ++ _)).wp P _ f2 w
    refine seqL_append ?_
    refine w_pre ht hu hS (w0 := w) (f0 := f2) (tm := c.t) (K := (· < base)) (by omega) (by omega) (by omega) hcs (fun _ _ _ => trivial) ((k2 pv (by omega) (by omega) (by omega)).trans hf.ptr) ks x [] (c.t + 1) f2 w hty hr (by simpa using hlen) (by omega) ⟨Ext.refl _ _, by subst hf2; simpa using Own.nil w w.heap.size C.E.tU32 1, fun _ _ _ => rfl⟩ ?_
    intro f3 w3 h3
    simp only [List.nil_append] at h3
    have he3 := h3.ext
    have f3k : ∀ z, z < c.t → z ≠ 1 → z ≠ c.l → f3 z = f z := fun z hz hz1 hzl => (h3.keep z hz hzl).trans (k2 z hz hz1 hzl)
    have f31 : f3 1 = f 1 := (h3.keep 1 (by omega) (by omega)).trans k21
    have hd3 : Dst C f3 w3 base s := by unfold Dst at hd ⊢; rw [f31]; exact ⟨Own.ext hd.1 he3 (fun _ _ h => h), Nat.le_trans hd.2 he3.size⟩
    have hcs3 : CellsAt w3 b a cs := CellsAt.ext (K := fun _ => True) (C := none1) he3 (fun _ _ _ h => h) hcs trivial
    have hr3 := KsRep_ext he3 (K := (· < base)) (fun _ _ _ h => h) ks hr
    have hl3 : TagsAt w3 (· < base) uv u := hl.ext he3 (fun _ _ _ h => h)
    have hca := hcs3 to uv huv
    obtain ⟨ad, cp, hve, hcp⟩ := Own.form h3.own
    have hnum : ((ksSet ks x).map fun n => (Value.int .u32 (n : Nat))).length = (ksSet ks x).length := by simp
    rw [hnum] at hve hcp
    have hsl := ksSet_len ks x
    have hksn : (ksSet ks x).length = ksN ks x := by rw [← ksOuts_set ver, List.length_map, ksOuts_len]
    have hul : u.length < 4294967296 := by
      rcases hl with ⟨_, rfl⟩ | ⟨_, _, _, _, _, _, _, _, h, _⟩
      · simp
      · exact h
    have q0 : ∀ z, z < c.t → ∀ k, (z = tp + k) = False := by intro z hz k; simp; omega
    have q0' : ∀ z, z < c.t → (z = tp) = False := by intro z hz; simp; omega
    have q03 : ∀ z, z < c.t → ∀ k, (z = tp + 3 + k) = False := by intro z hz k; simp; omega
    have w64 : IntKind.i64.wrap (((ksSet ks x).length : Int) + (u.length : Int)) = ((ksSet ks x).length : Int) + (u.length : Int) := i64_small (by omega) (by omega)
    have w32 : IntKind.u32.wrap (((ksSet ks x).length : Int) + (u.length : Int)) = (((ksN ks x + u.length) % 4294967296 : Nat) : Int) := by rw [hksn]; simp [IntKind.wrap, IntKind.signed, IntKind.bits]
    have q9 : ∀ k, (tp = tp + 3 + k) = False := by intro k; simp; omega
    refine seqL_cons (wp_reg ?_)
    have hpv3 : f3 pv = .pointer (some ⟨b, a, none⟩) := (f3k pv (by omega) (by omega) (by omega)).trans hf.ptr
    simp [addrR, hpv3, hve, hF, Addr.add_mk, len_slice hS.und, q0 pv (by omega), q0' pv (by omega), q0 c.l (by omega), q0' c.l (by omega)]
    refine (hT.len w3 _ _ _ _ _ hca hl3).mono ?_
    rintro _ w3' ⟨rfl, rfl⟩
    simp [ht.iInt, ht.iU32, w64, bin?, q9, f31]
    rw [w32]
    refine (hU _ (Nat.mod_lt _ (by omega)) w3' base (f 1) s (by have := hd3.1; rwa [f31] at this) hd3.2 (by omega)).mono ?_
    rintro v4 w4 ⟨ho4, hg4⟩
    simp
    generalize hf4 : upd (upd _ (tp + 9) v4) 1 v4 = f4
    have f4k : ∀ z, z < c.t → z ≠ 1 → z ≠ c.l → f4 z = f z := by
      intro z hz hz1 hzl
      subst hf4
      simp [q0 z hz, q0' z hz, q03 z hz, hz1]
      exact f3k z hz hz1 hzl
    have f41 : f4 1 = v4 := by subst hf4; simp
    have f4L : f4 c.l = .slice ad (ksSet ks x).length cp := by
      subst hf4
      have : (c.l = 1) = False := by simp; omega
      simp [q0 c.l (by omega), q0' c.l (by omega), q03 c.l (by omega), this, hve]
    have hd4 : Dst C f4 w4 base (s ++ uvOut ((ksN ks x + u.length) % 4294967296)) := ⟨by rw [f41]; exact ho4, Nat.le_trans hd3.2 hg4.size⟩
    have hg04 : Grew w (f 1) w4 (f4 1) := by rw [f41]; exact Grew.pre he3 hg4
    -- what the loop reads
    have hrow : ksSet ks x ≠ [] → ∃ g, ad = some ⟨g, 0, none⟩ ∧ ¬ own1 (f4 1) g ∧ ∀ i n, (ksSet ks x)[i]? = some n → w4.cell? ⟨g, i, none⟩ = some (.int .u32 (n : Nat)) := by
      intro hne
      obtain ⟨g, c', hve', hg, hglt, hcell⟩ := Own.cells1 h3.own (by simpa using hne)
      rw [hve, hnum] at hve'
      cases hve'
      have hno : ¬ own1 (f 1) g := fun ho => by have := (Own.below hd.1 ho).2; omega
      refine ⟨g, rfl, ?_, ?_⟩
      · rw [f41]
        intro ho
        rcases hg4.own g ho with h' | h'
        · exact hno h'
        · omega
      · intro i n hi
        exact hg4.ext.cell (hcell i _ (by simp [hi])) hno
    have hfr4 : FrW C f4 pv b a ver true c.l := hf.keep (fun z hz hz1 => f4k z (by omega) hz1 (by omega)) (Nat.le_refl _)
    refine seqL_cons ?_
    refine w_rangeT hS.siz (by omega) (by omega) (by omega) (by omega) f4L (fun i f' w' => Wrote C f4 w4 base (s ++ uvOut ((ksN ks x + u.length) % 4294967296)) (((ksOuts ver ks x).take i).flatMap fun y => kTag y.1 y.2) c.l c1.l c.t f' w') ?_ ?_ ?_ ?_
    · rintro i g g' w' hx hw
      refine ⟨?_, ?_, ?_⟩
      · have := hw.dst; unfold Dst at this ⊢; rwa [hx 1 (by omega)]
      · have := hw.grew; rwa [hx 1 (by omega)]
      · intro z hz1 hz; rw [hx z (by omega)]; exact hw.keep z hz1 hz
    · simpa using Wrote.refl hd4 c.l c1.l c.t
    · rintro i hi f5 w5 hw5 ht5 hi5 hn5
      have hlen2 : (ksOuts ver ks x).length = (ksSet ks x).length := by rw [ksOuts_len, hksn]
      obtain ⟨⟨num, out⟩, hy⟩ : ∃ y, (ksOuts ver ks x)[i]? = some y := ⟨_, List.getElem?_eq_getElem (by omega)⟩
      have hny : (ksSet ks x)[i]? = some num := by rw [← ksOuts_set ver, List.getElem?_map, hy]; rfl
      have hne : ksSet ks x ≠ [] := by intro h; rw [h] at hny; simp at hny
      obtain ⟨g, rfl, hng, hcell⟩ := hrow hne
      have c5 : w5.cell? ⟨g, i, none⟩ = some (.int .u32 (num : Nat)) := hw5.grew.ext.cell (hcell i num hny) hng
      have hfm := flatMap_take (fun y : Nat × List UInt8 => kTag y.1 y.2) (ksOuts ver ks x) i (num, out) hy
      have hle := flatMap_take_le (fun y : Nat × List UInt8 => kTag y.1 y.2) (ksOuts ver ks x) (i + 1)
      rw [hfm, ← ksOuts_wr] at hle
      simp only [List.length_append] at hle
      have e5 : ∀ k, k < 4 → ∀ j, 4 ≤ j → (tp + 10 + k = tp + 10 + j) = False := by intro k hk j hj; simp; omega
      refine seqL_cons (wp_reg ?_)
      simp [ht5, hi5, idx?, hS.siz, hi, Addr.add_mk, ld_scl kU, c5]
      refine seqL_cons (wp_reg ?_)
      simp
      show Ir.wp P (Ir.block (c.k + 2) cw) _ _ w5
      generalize hf6 : upd (upd (upd (upd f5 (tp + 10 + 4) _) (tp + 10 + 5) _) (c.l + 2) _) (tp + 10 + 6) _ = f6
      have k6 : ∀ z, z < tp + 10 + 4 → z ≠ c.l + 2 → f6 z = f5 z := by
        intro z hz hz2
        subst hf6
        have a3 : ∀ n, 4 ≤ n → (z = tp + 10 + n) = False := by intro n hn; simp; omega
        simp [a3, hz2]
      have k6k : f6 (tp + 10 + 6) = .int .u32 (num : Nat) := by subst hf6; simp
      have hfr6 : FrW C f6 pv b a ver true c.l := hfr4.keep (fun z hz hz1 => (k6 z (by omega) (by omega)).trans (hw5.keep z hz1 (.inl hz))) (Nat.le_refl _)
      have hd6 : Dst C f6 w5 base (s ++ uvOut ((ksN ks x + u.length) % 4294967296) ++ ((ksOuts ver ks x).take i).flatMap fun y => kTag y.1 y.2) := by
        have := hw5.dst
        unfold Dst at this ⊢
        rwa [k6 1 (by omega) (by omega)]
      have hK4 : ∀ b, b < w3'.heap.size → b < base → ¬ own1 (f 1) b := fun b _ hb ho => by have := (Own.below hd.1 ho).1; omega
      have hK5 : ∀ b, b < w4.heap.size → b < base → ¬ own1 (f4 1) b := fun b _ hb ho => by have := (Own.below hd4.1 ho).1; omega
      have hcs5 : CellsAt w5 b a cs := CellsAt.ext (K := (· < base)) hw5.grew.ext hK5 (CellsAt.ext (K := (· < base)) hg4.ext hK4 hcs3 hb) hb
      have hr5 := KsRep_ext hw5.grew.ext (K := (· < base)) hK5 ks (KsRep_ext hg4.ext (K := (· < base)) hK4 ks hr3)
      refine hcw (num := num) (out := out) (s := s ++ uvOut ((ksN ks x + u.length) % 4294967296) ++ ((ksOuts ver ks x).take i).flatMap fun y => kTag y.1 y.2) (by simp only [List.length_append]; omega) hty hN hnd hr5 hok (List.mem_of_getElem? hy) k6k hfr6 (by omega) (Nat.le_refl _) (by omega) (by omega) hcs5 hd6 ?_
      intro f7 w7 hw7
      show Exit.normal = Exit.normal ∧ _
      have hw57 : Wrote C f5 w5 base (s ++ uvOut ((ksN ks x + u.length) % 4294967296) ++ ((ksOuts ver ks x).take i).flatMap fun y => kTag y.1 y.2) (kTag num out) c.l c1.l c.t f7 w7 := by
        refine ⟨hw7.dst, ?_, ?_⟩
        · have := hw7.grew
          rwa [k6 1 (by omega) (by omega)] at this
        · intro z hz1 hz
          rw [hw7.keep z hz1 (by omega), k6 z (by omega) (by omega)]
      have hw47 := hw5.trans hw57 (Nat.le_refl _) (Nat.le_refl _) (Nat.le_refl _)
      refine ⟨rfl, by rw [hfm]; exact hw47, ?_, ?_, ?_⟩
      · rw [hw7.keep (tp + 10) (by omega) (by omega), k6 (tp + 10) (by omega) (by omega)]; exact ht5
      · rw [hw7.keep (tp + 10 + 2) (by omega) (by omega), k6 (tp + 10 + 2) (by omega) (by omega)]; exact hi5
      · rw [hw7.keep (tp + 10 + 1) (by omega) (by omega), k6 (tp + 10 + 1) (by omega) (by omega)]; exact hn5
    · intro f8 w8 hw8
      have hall : (ksOuts ver ks x).take (ksSet ks x).length = ksOuts ver ks x := by rw [hksn, ← ksOuts_len ver, List.take_length]
      rw [hall, ← ksOuts_wr] at hw8
      have hpv8 : f8 pv = .pointer (some ⟨b, a, none⟩) := ((hw8.keep pv (by omega) (.inl (by omega))).trans (f4k pv (by omega) (by omega) (by omega))).trans hf.ptr
      have hK4 : ∀ b, b < w3'.heap.size → b < base → ¬ own1 (f 1) b := fun b _ hb ho => by have := (Own.below hd.1 ho).1; omega
      have hK5 : ∀ b, b < w4.heap.size → b < base → ¬ own1 (f4 1) b := fun b _ hb ho => by have := (Own.below hd4.1 ho).1; omega
      have hcs8 : CellsAt w8 b a cs := CellsAt.ext (K := (· < base)) hw8.grew.ext hK5 (CellsAt.ext (K := (· < base)) hg4.ext hK4 hcs3 hb) hb
      have hl8 : TagsAt w8 (· < base) uv u := (hl3.ext hg4.ext (K := (· < base)) hK4).ext hw8.grew.ext (K := (· < base)) hK5
      have q8 : ∀ k, (pv = c1.t + 1 + k) = False := by intro k; simp; omega
      have q8' : (pv = c1.t + 1) = False := by simp; omega
      have o8 : ∀ k, (1 = c1.t + 1 + k) = False := by intro k; simp; omega
      have o8' : (1 = c1.t + 1) = False := by simp; omega
      have o9 : (c1.t = 0) = False := by simp; omega
      show (Ir.reg _).wp P Q f8 w8
      refine wp_reg ?_
      simp [addrR, hpv8, hF, Addr.add_mk, q8, q8', o8, o8', o9]
      refine (hT.each w8 base (f8 1) _ b (a + to) uv u hok2 hb (hcs8 to uv huv) hl8 hw8.dst.1 hw8.dst.2 (by simp only [List.length_append]; omega)).mono ?_
      rintro v9 w9 ⟨ho9, hg9⟩
      try simp
      refine h _ w9 ⟨⟨?_, ?_⟩, ?_, ?_⟩
      · simp
        simp only [List.append_assoc] at ho9 ⊢
        exact ho9
      · exact Nat.le_trans hw8.dst.2 hg9.size
      · simp
        exact (hg04.trans hw8.grew).trans hg9
      · intro z hz1 hz
        have z8 : ∀ k, (z = c1.t + 1 + k) = False := by intro k; simp; omega
        have z8' : (z = c1.t + 1) = False := by simp; omega
        simp [z8, z8', hz1]
        rw [hw8.keep z hz1 hz]
        exact f4k z (by omega) hz1 (by omega)
  · rintro rfl f1 hk1 h11
    show Q .normal f1 w
    refine h f1 w ?_
    simp only [secW, Bool.false_eq_true, if_false]
    exact ⟨by rw [List.append_nil]; unfold Dst at hd ⊢; rwa [h11], by rw [h11]; exact Grew.refl _ _, KeepR.of hk1 (by omega)⟩
end
end Go.Kg

set_option linter.unusedSimpArgs false
set_option linter.unusedVariables false
namespace Go.Kg
open Go
structure TyTg (P : Program) (E : Env) : Prop extends TyWs P E where
  g0 : fldOff P E.t_kmsg_Tags 0 = some 0
  kM : kindOf P E.t_map_uint32_l_uint8 = .scl
  uM : P.underlying E.t_map_uint32_l_uint8 = some (.map E.tU32 E.tBs)
  kBs : kindOf P E.tBs = .scl
section
variable {P : Program} {E : Env} (ht : TyTg P E)
include ht
theorem isM : isMapT P E.t_map_uint32_l_uint8 = true := by simp [isMapT, ht.uM]
theorem c_TLen (hI : FnIs P E.f_pkmsg_Tags_Len nt_pkmsg_Tags_Len (rs_pkmsg_Tags_Len E) (ir_pkmsg_Tags_Len E)) (w : World) (K : Nat → Prop) (b o : Nat) (v : Value) (l : TagL) (hc : w.cell? ⟨b, o, none⟩ = some v) (hl : TagsAt w K v l) :
    Ret P E.f_pkmsg_Tags_Len #[.pointer (some ⟨b, o, none⟩)] w fun u w' => u = .int .i64 l.length ∧ w' = w := by
  refine hI.call (args := [_]) (by simp [nt_pkmsg_Tags_Len]) ?_
  simp [ir_pkmsg_Tags_Len, rs_pkmsg_Tags_Len, ht.g0, Addr.add_mk, ld_scl ht.kM, hc]
  rcases hl with ⟨rfl, rfl⟩ | ⟨bb, es, clock, rfl, _, hb, hs, _⟩
  · simp [isM ht, mapLen?]
  · simp [isM ht, mapLen?, hb, hs]
/-- No tags: Each does nothing. -/
theorem c_Each0 (hI : FnIs P E.f_pkmsg_Tags_Each nt_pkmsg_Tags_Each (rs_pkmsg_Tags_Each E) (ir_pkmsg_Tags_Each E)) (w : World) (b o : Nat) (v fn : Value) (K : Nat → Prop) (hc : w.cell? ⟨b, o, none⟩ = some v) (hl : TagsAt w K v []) :
    Ret P E.f_pkmsg_Tags_Each #[.pointer (some ⟨b, o, none⟩), fn] w fun u w' => w' = w := by
  refine hI.call (args := [_, _]) (by simp [nt_pkmsg_Tags_Each]) ?_
  have hlen : mapLen? w (match v with | .map m => m | _ => none) = some (.int .i64 0) ∧ ∃ m, v = .map m := by
    rcases hl with ⟨rfl, _⟩ | ⟨bb, es, clock, rfl, _, hb, hs, _⟩
    · exact ⟨rfl, _, rfl⟩
    · refine ⟨?_, _, rfl⟩
      simp only [mapLen?, hb]
      simp at hs
      simp [hs]
  obtain ⟨h1, m, rfl⟩ := hlen
  simp only at h1
  simp [ir_pkmsg_Tags_Each, rs_pkmsg_Tags_Each, ht.g0, Addr.add_mk, ld_scl ht.kM, hc, isM ht, h1]
  refine cw_true (by simp) ?_
  simp
theorem c_AppendEach0 (hI : FnIs P E.f_pkmsg_Tags_AppendEach nt_pkmsg_Tags_AppendEach (rs_pkmsg_Tags_AppendEach E) (ir_pkmsg_Tags_AppendEach E))
    (hE : ∀ w b o v fn K, w.cell? ⟨b, o, none⟩ = some v → TagsAt w K v [] → Ret P E.f_pkmsg_Tags_Each #[.pointer (some ⟨b, o, none⟩), fn] w fun u w' => w' = w)
    (w : World) (base : Nat) (v : Value) (s : List UInt8) (b o : Nat) (u : Value) (hb : b < base) (hc : w.cell? ⟨b, o, none⟩ = some u) (hl : TagsAt w (· < base) u []) (ho : OwnB E.tU8 w base v s) (hbs : base ≤ w.heap.size) :
    Ret P E.f_pkmsg_Tags_AppendEach #[.pointer (some ⟨b, o, none⟩), v] w fun v' w' => OwnB E.tU8 w' base v' s ∧ Grew w v w' v' := by
  refine hI.call (args := [_, _]) (by simp [nt_pkmsg_Tags_AppendEach]) ?_
  have hvc : v.cells = #[v] := by
    obtain ⟨n, _, h⟩ := ho
    rcases h with ⟨rfl, _⟩ | ⟨g, cap, cur, rfl, _⟩ <;> rfl
  have hX := (Ext.refl none1 w).alloc (.cells #[v] E.tBs)
  have hb2 : (w.alloc (.cells #[v] E.tBs)).heap[w.heap.size]? = some (.cells #[v] E.tBs (0, 0)) := alloc_new
  simp [ir_pkmsg_Tags_AppendEach, rs_pkmsg_Tags_AppendEach, hvc]
  refine (hE _ b o u _ (· < base) (hX.cell hc (fun h => h)) (hl.ext hX (fun _ _ _ h => h))).mono ?_
  rintro _ w' rfl
  have c0 : (w.alloc (.cells #[v] E.tBs)).cell? ⟨w.heap.size, 0, none⟩ = some v := by rw [cell_of_blk hb2]; rfl
  simp [ld_scl ht.kBs, c0]
  exact ⟨Own.ext ho hX (fun _ _ h => h), ⟨hX.mono (fun _ _ h => h.elim), fun _ h => .inl h⟩⟩
/-- Where no tags are met. -/
theorem tagsC0 (hL : ∀ w K b o v l, w.cell? ⟨b, o, none⟩ = some v → TagsAt w K v l → Ret P E.f_pkmsg_Tags_Len #[.pointer (some ⟨b, o, none⟩)] w fun u w' => u = .int .i64 (l : TagL).length ∧ w' = w)
    (hA : ∀ w base v s b o u, b < base → w.cell? ⟨b, o, none⟩ = some u → TagsAt w (· < base) u [] → OwnB E.tU8 w base v s → base ≤ w.heap.size →
      Ret P E.f_pkmsg_Tags_AppendEach #[.pointer (some ⟨b, o, none⟩), v] w fun v' w' => OwnB E.tU8 w' base v' s ∧ Grew w v w' v')
    (hU : ∀ n : Nat, n < 4294967296 → WrC P E.tU8 E.f_kbin_AppendUvarint [.int .u32 n] (uvOut n)) : TagsC P E (· = []) := by
  refine ⟨hL, ?_, hU⟩
  rintro w base v s b o u l rfl hb hc hl ho hbs _
  have := hA w base v s b o u hb hc hl ho hbs
  simpa [tagsOut, sortTags] using this
end
end Go.Kg

set_option linter.unusedSimpArgs false
set_option linter.unusedVariables false
set_option linter.unusedSectionVars false
namespace Go.Kg
open Go
/-- the cells of a struct within a block -/
def segL (c : Array Value) (a n : Nat) : List Value := (c.toList.drop a).take n
theorem segL_get {c : Array Value} {a n j : Nat} (h : j < n) : (segL c a n)[j]? = c[a + j]? := by simp [segL, List.getElem?_take, h, List.getElem?_drop]
structure Rdr where
  pb : Nat
  D : Nat
  base : Nat
  ev : Value
def RK (R : Rdr) (k : Nat) : Prop := k = R.D ∨ R.base ≤ k
def CB (R : Rdr) (b k : Nat) : Prop := k = R.pb ∨ k = b
structure RW (C : CfgR) (R : Rdr) (b : Nat) (w : World) : Prop where
  lt : R.pb < R.base ∧ b < R.base ∧ R.D < R.base ∧ R.base ≤ w.heap.size
  ne : R.pb ≠ R.D ∧ b ≠ R.D ∧ R.pb ≠ b
  err : w.cell? ⟨C.E.g_kbin_ErrNotEnoughData, 0, none⟩ = some R.ev
  errN : C.E.g_kbin_ErrNotEnoughData ≠ R.pb ∧ C.E.g_kbin_ErrNotEnoughData ≠ b
section
variable {P : Program} {C : CfgR} {R : Rdr}
theorem RW.ext {b : Nat} {w w' : World} (h : RW C R b w) (he : Ext (CB R b) w w') : RW C R b w' :=
  ⟨⟨h.lt.1, h.lt.2.1, h.lt.2.2.1, Nat.le_trans h.lt.2.2.2 he.size⟩, h.ne, he.cell h.err (by rintro (h1 | h1); exact h.errN.1 h1; exact h.errN.2 h1), h.errN⟩
theorem RW.keepK {b : Nat} {w : World} (h : RW C R b w) : ∀ k, k < w.heap.size → RK R k → ¬ CB R b k := by
  obtain ⟨⟨h1, h2, h3, h4⟩, ⟨h5, h6, h7⟩, _, _⟩ := h
  rintro k _ (hk | hk) (hc | hc) <;> omega
structure FrR (C : CfgR) (R : Rdr) (f : Nat → Value) (pv b a : Nat) (ver : Int) (fl : Bool) (n : Nat) : Prop where
  ptr : f pv = .pointer (some ⟨b, a, none⟩)
  ptrN : 8 < pv ∧ pv < n
  v0 : C.fx = true → 0 ≤ ver
  ver : f 8 = .int .i16 ver
  flg : C.fx = true → f 9 = .bool fl
  flN : C.fx = false → fl = false
  rd : f C.rs = .pointer (some ⟨R.pb, 0, none⟩)
  us : f 2 = .bool false
  nN : 10 ≤ n
  rsN : 7 ≤ C.rs ∧ C.rs < n
theorem FrR.keep {f f' : Nat → Value} {pv b a n : Nat} {ver : Int} {fl : Bool} (h : FrR C R f pv b a ver fl n) {t : Nat} (hk : Keeps f f' t) (ht : n ≤ t) : FrR C R f' pv b a ver fl n := by
  have h1 := h.ptrN
  have h2 := h.nN
  have h3 := h.rsN
  exact ⟨(hk _ (by omega) (by omega)).trans h.ptr, h1, h.v0, (hk _ (by omega) (by omega)).trans h.ver, fun hx => (hk _ (by omega) (by omega)).trans (h.flg hx), h.flN, (hk _ (by omega) (by omega)).trans h.rd, (hk _ (by omega) (by omega)).trans h.us, h2, h3⟩
theorem FrR.up {f : Nat → Value} {pv b a n m : Nat} {ver : Int} {fl : Bool} (h : FrR C R f pv b a ver fl n) (hm : n ≤ m) : FrR C R f pv b a ver fl m :=
  ⟨h.ptr, ⟨h.ptrN.1, by have := h.ptrN; omega⟩, h.v0, h.ver, h.flg, h.flN, h.rd, h.us, by have := h.nN; omega, ⟨h.rsN.1, by have := h.rsN; omega⟩⟩
structure StR (C : CfgR) (R : Rdr) (b a n : Nat) (w : World) (cc : Array Value) (e : TypeId) (rs : RS) : Prop where
  blk : w.heap[b]? = some (.cells cc e (0, 0))
  fit : a + n ≤ cc.size
  rd : RdAt C.E.tRd w R.pb R.D rs
  rw_ : RW C R b w
/-- only the reader's block has turned (and new ones) -/
theorem StR.ext1 {b a n : Nat} {w w' : World} {cc : Array Value} {e : TypeId} {rs rs' : RS} (h : StR C R b a n w cc e rs) (he : Ext (· = R.pb) w w') (hr : RdAt C.E.tRd w' R.pb R.D rs') : StR C R b a n w' cc e rs' :=
  ⟨he.old h.blk (fun h' => h.rw_.ne.2.2 h'.symm), h.fit, hr, h.rw_.ext (he.mono (fun _ _ h => .inl h))⟩
structure RdTo (C : CfgR) (R : Rdr) (b a n lo : Nat) (w : World) (cc : Array Value) (e : TypeId) (f : Nat → Value) (l m t : Nat) (rs' : RS) (f' : Nat → Value) (w' : World) (cc' : Array Value) : Prop where
  ext : Ext (CB R b) w w'
  st : StR C R b a n w' cc' e rs'
  size : cc'.size = cc.size
  same : ∀ j, (j < a + lo ∨ a + n ≤ j) → cc'[j]? = cc[j]?
  keep : KeepR f f' l m t
theorem RdTo.trans {b a n lo lo' : Nat} {w w1 w2 : World} {cc c1 c2 : Array Value} {e : TypeId} {f f1 f2 : Nat → Value} {l m t l' m' t' : Nat} {r1 r2 : RS} (x : RdTo C R b a n lo w cc e f l m t r1 f1 w1 c1) (y : RdTo C R b a n lo' w1 c1 e f1 l' m' t' r2 f2 w2 c2)
    (hlo : lo ≤ lo') (hl : l ≤ l') (hm : m ≤ m') (ht : t ≤ t') : RdTo C R b a n lo w cc e f l m' t r2 f2 w2 c2 :=
  ⟨x.ext.trans y.ext, y.st, y.size.trans x.size, fun j hj => (y.same j (by omega)).trans (x.same j hj), x.keep.trans y.keep hl hm ht⟩
/-- A field stands in a struct's cells. -/
def FldAt (w : World) (R : Rdr) (cs : List Value) (o : Nat) (p : Prim) (x : p.T) : Prop := ∃ v, seg cs o v.cells.toList ∧ p.rep1 w (RK R) v x
theorem rep1_sz {w : World} {K : Nat → Prop} {p : Prim} {u : Value} {x : p.T} (h : p.rep1 w K u x) : u.cells.size = p.sz := by
  have := rep1_one h
  by_cases hp : p = .uuid
  · subst hp
    simp only [if_true] at this
    obtain ⟨c, rfl, hc, _⟩ := this
    exact hc
  · simp only [if_neg hp] at this
    have h2 : p.sz = 1 := by cases p <;> first | rfl | exact absurd rfl hp
    rw [h2]
    cases u <;> simp_all [Value.oneCell', Value.cells]
theorem FldAt.move {w w' : World} {cs cs' : List Value} {o : Nat} {p : Prim} {x : p.T} (h : FldAt w R cs o p x) {Cx : Nat → Prop} (he : Ext Cx w w') (hK : ∀ k, k < w.heap.size → RK R k → ¬ Cx k) (hc : ∀ j, o ≤ j → j < o + p.sz → cs'[j]? = cs[j]?) : FldAt w' R cs' o p x := by
  obtain ⟨v, h1, h2⟩ := h
  refine ⟨v, fun j u hj => ?_, Prim.rep1_ext he hK h2⟩
  rw [hc (o + j) (by omega)]
  · exact h1 j u hj
  · have := (List.getElem?_eq_some_iff.1 hj).1
    have h3 := rep1_sz h2
    simp at this
    omega
variable {Q : Post} {f : Nat → Value} {w : World}
/-- what a store leaves: u's cells stand at o -/
structure Put (cc : Array Value) (o : Nat) (u : Value) (cc' : Array Value) : Prop where
  size : cc'.size = cc.size
  same : ∀ j, (j < o ∨ o + u.cells.size ≤ j) → cc'[j]? = cc[j]?
  new : ∀ j v, u.cells.toList[j]? = some v → cc'[o + j]? = some v
/-- a field was put -/
theorem RdTo.put {b a n lo o : Nat} {cc cc' : Array Value} {e : TypeId} {f' : Nat → Value} {l m t : Nat} {rs : RS} {u : Value} (hs : StR C R b a n w cc e rs) (hp : Put cc (a + o) u cc') (hlo : lo ≤ o) (hn : o + u.cells.size ≤ n) (hk : KeepR f f' l m t) :
    RdTo C R b a n lo w cc e f l m t rs f' (w.setBlk b (.cells cc' e (0, 0))) cc' := by
  have hE : Ext (· = b) w (w.setBlk b (.cells cc' e (0, 0))) := (Ext.refl (fun k => k = b) w).setBlk (b := b) (Or.inr rfl) _
  have hE' : Ext (CB R b) w (w.setBlk b (.cells cc' e (0, 0))) := hE.mono (fun _ _ h => .inr h)
  exact ⟨hE', ⟨setBlk_same hs.blk, by rw [hp.size]; exact hs.fit, hs.rd.ext hE (fun h => hs.rw_.ne.2.2 h) (fun h => hs.rw_.ne.2.1 h.symm), hs.rw_.ext hE'⟩, hp.size, fun j hj => hp.same j (by omega), hk⟩
theorem FldAt.put {b a n o : Nat} {cc cc' : Array Value} {e : TypeId} {rs : RS} {p : Prim} {u : Value} {x : p.T} (hs : StR C R b a n w cc e rs) (hp : Put cc (a + o) u cc') (hn : o + u.cells.size ≤ n) (hr : p.rep1 w (RK R) u x) : FldAt (w.setBlk b (.cells cc' e (0, 0))) R (segL cc' a n) o p x := by
  have hE : Ext (· = b) w (w.setBlk b (.cells cc' e (0, 0))) := (Ext.refl (fun k => k = b) w).setBlk (b := b) (Or.inr rfl) _
  refine ⟨u, fun j v hj => ?_, Prim.rep1_ext hE (fun k hk1 hk2 hk3 => hs.rw_.keepK k hk1 hk2 (.inr hk3)) hr⟩
  have hj' : j < u.cells.size := by have := (List.getElem?_eq_some_iff.1 hj).1; simpa using this
  rw [segL_get (by omega), ← Nat.add_assoc]
  exact hp.new j v hj
end
end Go.Kg

set_option linter.unusedSimpArgs false
set_option linter.unusedVariables false
namespace Go.Kg
open Go
/-- An entry of the map says a tag. -/
def EntAt (w : World) (K : Nat → Prop) (c : Nat) (e : MapEntry) (x : Nat × List UInt8) : Prop := e.key = .int .u32 x.1 ∧ x.1 < 4294967296 ∧ e.born < c ∧ BytesAt w K e.val x.2
def EL (w : World) (K : Nat → Prop) (c : Nat) : List MapEntry → TagL → Prop
  | [], [] => True
  | e :: L, x :: l => EntAt w K c e x ∧ EL w K c L l
  | _, _ => False
theorem EL.of {w : World} {K : Nat → Prop} {c : Nat} : ∀ {L : List MapEntry} {l : TagL}, L.length = l.length → (∀ (i : Nat) e x, L[i]? = some e → l[i]? = some x → EntAt w K c e x) → EL w K c L l
  | [], [], _, _ => trivial
  | e :: L, x :: l, h, hx => ⟨hx 0 e x rfl rfl, EL.of (by simpa using h) (fun i e x h1 h2 => hx (i + 1) e x (by simpa using h1) (by simpa using h2))⟩
  | [], _ :: _, h, _ => by simp at h
  | _ :: _, [], h, _ => by simp at h
theorem EL.get {w : World} {K : Nat → Prop} {c : Nat} : ∀ {L : List MapEntry} {l : TagL}, EL w K c L l → L.length = l.length ∧ ∀ (i : Nat) e x, L[i]? = some e → l[i]? = some x → EntAt w K c e x
  | [], [], _ => ⟨rfl, fun i e x h => by simp at h⟩
  | e :: L, x :: l, h => ⟨by simpa using (EL.get h.2).1, fun i e' x' h1 h2 => by
      cases i with
      | zero => simp at h1 h2; subst h1; subst h2; exact h.1
      | succ i => exact (EL.get h.2).2 i e' x' (by simpa using h1) (by simpa using h2)⟩
  | [], _ :: _, h => h.elim
  | _ :: _, [], h => h.elim
theorem EL.up {w : World} {K : Nat → Prop} {c c' : Nat} (hc : c ≤ c') : ∀ {L : List MapEntry} {l : TagL}, EL w K c L l → EL w K c' L l
  | [], [], _ => trivial
  | e :: L, x :: l, h => ⟨⟨h.1.1, h.1.2.1, Nat.lt_of_lt_of_le h.1.2.2.1 hc, h.1.2.2.2⟩, EL.up hc h.2⟩
  | [], _ :: _, h => h.elim
  | _ :: _, [], h => h.elim
theorem EL.ext {C : Nat → Prop} {w w' : World} {D c : Nat} (he : Ext C w w') (hD : ¬ C D) : ∀ {L : List MapEntry} {l : TagL}, EL w (· = D) c L l → EL w' (· = D) c L l
  | [], [], _ => trivial
  | e :: L, x :: l, h => ⟨⟨h.1.1, h.1.2.1, h.1.2.2.1, h.1.2.2.2.ext he (fun b _ hb => by subst hb; exact hD)⟩, EL.ext he hD h.2⟩
  | [], _ :: _, h => h.elim
  | _ :: _, [], h => h.elim
/-- the map lies in a block from base on, the bytes in D -/
def TagsM (w : World) (D base : Nat) (u : Value) (l : TagL) : Prop :=
  (u = .map none ∧ l = []) ∨ ∃ m es clock, u = .map (some m) ∧ base ≤ m ∧ w.heap[m]? = some (.map es clock) ∧ EL w (· = D) clock es.toList l ∧ (es.toList.map (·.born)).Nodup
theorem TagsM.one {w : World} {D base : Nat} {u : Value} {l : TagL} (h : TagsM w D base u l) : u.oneCell' = true ∧ u.cells = #[u] := by
  rcases h with ⟨rfl, _⟩ | ⟨_, _, _, rfl, _⟩ <;> exact ⟨rfl, rfl⟩
@[simp] theorem stp_mapUpdate {P : Program} {f : Nat → Value} {ty : TypeId} {w : World} {K : Value → World → Prop} {T : TypeId} {a b c : Operand} : stp P f (.mapUpdate T a b c) ty w K = stepF P f (.mapUpdate T a b c) ty w K := (rfl)
@[simp] theorem stp_makeMap {P : Program} {f : Nat → Value} {ty : TypeId} {w : World} {K : Value → World → Prop} {T : TypeId} : stp P f (.makeMap T none) ty w K = K (.map (some w.heap.size)) (w.alloc (.map #[] 0)) := by
  show stepF P f (.makeMap T none) ty w K = _
  rw [stepF_ok (v := .map (some w.heap.size)) (w' := w.alloc (.map #[] 0))]
  simp [runF, execOp, Instr.makeMap, newObj, Sem.run]
section
variable {P : Program} {E : Env} (ht : TyTg P E)
include ht
end
theorem Ext.grow {C : Nat → Prop} {a b c : World} {n : Nat} (h : Ext C a b) (k : Ext (fun x => n ≤ x) b c) (hn : a.heap.size ≤ n) : Ext C a c :=
  ⟨k.os.trans h.os, k.tape.trans h.tape, k.output.trans h.output, Nat.le_trans h.size k.size, fun i hi hc => (k.block i (Nat.lt_of_lt_of_le hi h.size) (by omega)).trans (h.block i hi hc)⟩
theorem EL.mono {w : World} {K K' : Nat → Prop} {c : Nat} (hk : ∀ b, K b → K' b) : ∀ {L : List MapEntry} {l : TagL}, EL w K c L l → EL w K' c L l
  | [], [], _ => trivial
  | e :: L, x :: l, h => ⟨⟨h.1.1, h.1.2.1, h.1.2.2.1, h.1.2.2.2.mono (fun b _ => hk b)⟩, EL.mono hk h.2⟩
  | [], _ :: _, h => h.elim
  | _ :: _, [], h => h.elim
theorem TagsM.ext {C : Nat → Prop} {w w' : World} {D base : Nat} {u : Value} {l : TagL} (h : TagsM w D base u l) (he : Ext C w w') (hD : ¬ C D) (hC : ∀ k, k < w.heap.size → base ≤ k → ¬ C k) : TagsM w' D base u l := by
  rcases h with h | ⟨m, es, clock, rfl, hm, hb, h1, h2⟩
  · exact .inl h
  · exact .inr ⟨m, es, clock, rfl, hm, he.old hb (hC m (lt_of_heap hb) hm), h1.ext he hD, h2⟩
section
variable {P : Program} {E : Env} (ht : TyTg P E)
include ht
end
end Go.Kg

set_option linter.unusedSimpArgs false
set_option linter.unusedVariables false
set_option linter.unusedSectionVars false
namespace Go.Kg
open Go
section
variable {P : Program} {C : CfgR}
theorem RdTo.refl {R : Rdr} {b a n lo : Nat} {w : World} {cc : Array Value} {e : TypeId} {f f' : Nat → Value} {l m t : Nat} {rs : RS} (h : StR C R b a n w cc e rs) (hk : KeepR f f' l m t) : RdTo C R b a n lo w cc e f l m t rs f' w cc :=
  ⟨Ext.refl _ _, h, rfl, fun _ _ => rfl, hk⟩
/-- only the reader has turned -/
theorem RdTo.read {R : Rdr} {b a n lo : Nat} {w w' : World} {cc : Array Value} {e : TypeId} {f f' : Nat → Value} {l m t : Nat} {rs rs' : RS} (h : StR C R b a n w cc e rs) (he : Ext (· = R.pb) w w') (hr : RdAt C.E.tRd w' R.pb R.D rs') (hk : KeepR f f' l m t) : RdTo C R b a n lo w cc e f l m t rs' f' w' cc :=
  ⟨he.mono (fun _ _ h => .inl h), h.ext1 he hr, rfl, fun _ _ => rfl, hk⟩
end
end Go.Kg

set_option linter.unusedSimpArgs false
set_option linter.unusedVariables false
set_option linter.unusedSectionVars false
namespace Go.Kg
open Go
section
variable {P : Program} {C : CfgR} {R : Rdr}
variable {Q : Post} {f : Nat → Value} {w : World}
end
end Go.Kg

set_option linter.unusedSimpArgs false
set_option linter.unusedVariables false
set_option linter.unusedSectionVars false
namespace Go.Kg
open Go
section
variable {P : Program} {C : CfgR} {R : Rdr} {Q : Post} {f : Nat → Value} {w : World}
end
end Go.Kg

set_option linter.unusedSimpArgs false
set_option linter.unusedVariables false
set_option linter.unusedSectionVars false
namespace Go.Kg
open Go
section
variable {P : Program} {C : CfgR} {R : Rdr} {Q : Post} {f : Nat → Value} {w : World}
end
end Go.Kg

set_option linter.unusedSimpArgs false
set_option linter.unusedVariables false
set_option linter.unusedSectionVars false
namespace Go.Kg
open Go
section
variable {P : Program} {C : CfgR} {R : Rdr} {Q : Post} {f : Nat → Value} {w : World}
end
end Go.Kg

set_option linter.unusedSimpArgs false
set_option linter.unusedVariables false
set_option linter.unusedSectionVars false
namespace Go.Kg
open Go
theorem cells_one {v : Value} (h : v.oneCell' = true) : v.cells = #[v] := by cases v <;> simp_all [Value.oneCell', Value.cells]
section
variable {P : Program} {C : CfgR} {R : Rdr} {Q : Post} {f : Nat → Value} {w : World}
end
end Go.Kg

set_option linter.unusedSimpArgs false
set_option linter.unusedVariables false
set_option linter.unusedSectionVars false
namespace Go.Kg
open Go
section
variable {P : Program} {C : CfgR}
def EltP (p : Prim) (w : World) (K : Nat → Prop) (es : List Value) (y : p.T) : Prop := ∃ u, es = u.cells.toList ∧ p.rep1 w K u y
def EltS (S : Sch) (w : World) (K : Nat → Prop) (es : List Value) (y : S.T) : Prop := S.Rep w K es y
theorem EltP.ext (p : Prim) : ∀ w w' K X es y, EltP p w K es y → Ext X w w' → (∀ k, k < w.heap.size → K k → ¬ X k) → EltP p w' K es y := by
  rintro w w' K X es y ⟨u, h1, h2⟩ he hK
  exact ⟨u, h1, Prim.rep1_ext he hK h2⟩
theorem EltP.mono (p : Prim) : ∀ w (K K' : Nat → Prop) es y, EltP p w K es y → (∀ k, K k → K' k) → EltP p w K' es y := by
  rintro w K K' es y ⟨u, h1, h2⟩ hK
  exact ⟨u, h1, Prim.rep1_mono hK h2⟩
theorem EltS.ext (S : Sch) : ∀ w w' K X es y, EltS S w K es y → Ext X w w' → (∀ k, k < w.heap.size → K k → ¬ X k) → EltS S w' K es y := fun w w' K X es y h he hK => Sch.Rep_ext he hK S h
theorem EltS.mono (S : Sch) : ∀ w (K K' : Nat → Prop) es y, EltS S w K es y → (∀ k, K k → K' k) → EltS S w K' es y := fun w K K' es y h hK => Sch.Rep_mono hK S h
/-- A list's field stands in a struct's cells. -/
def ArrFld {α : Type} (Relt : World → (Nat → Prop) → List Value → α → Prop) (w : World) (K : Nat → Prop) (sz : Nat) (cs : List Value) (o : Nat) (A : Option (List α)) : Prop :=
  ∃ v ls, cs[o]? = some v ∧ ArrAt w K sz v ls ∧ (ls.isSome = A.isSome ∧ InHeap w v) ∧ (ls.getD []).length = (A.getD []).length ∧ ∀ (i : Nat) (es : List Value) x, (ls.getD [])[i]? = some es → (A.getD [])[i]? = some x → Relt w K es x
theorem ArrFld.move {α : Type} {Relt : World → (Nat → Prop) → List Value → α → Prop} (hRext : ∀ w w' K X es y, Relt w K es y → Ext X w w' → (∀ k, k < w.heap.size → K k → ¬ X k) → Relt w' K es y) {w w' : World} {K X : Nat → Prop} {sz o : Nat} {cs cs' : List Value} {A : Option (List α)} (h : ArrFld Relt w K sz cs o A) (he : Ext X w w') (hK : ∀ k, k < w.heap.size → K k → ¬ X k) (hc : cs'[o]? = cs[o]?) : ArrFld Relt w' K sz cs' o A := by
  obtain ⟨v, ls, h1, h2, h3, h4, h5⟩ := h
  exact ⟨v, ls, hc.trans h1, ArrAt.ext he hK h2, ⟨h3.1, h3.2.ext he⟩, h4, fun i es x hi hx => hRext _ _ _ _ _ _ (h5 i es x hi hx) he hK⟩
end
end Go.Kg

set_option linter.unusedSimpArgs false
set_option linter.unusedVariables false
set_option linter.unusedSectionVars false
namespace Go.Kg
open Go
section
variable {P : Program} {C : CfgR}
end
end Go.Kg

set_option linter.unusedSimpArgs false
set_option linter.unusedVariables false
set_option linter.unusedSectionVars false
namespace Go.Kg
open Go
section
variable {P : Program} {C : CfgR}
end
end Go.Kg

set_option linter.unusedSimpArgs false
set_option linter.unusedVariables false
set_option linter.unusedSectionVars false
namespace Go.Kg
open Go
end Go.Kg

set_option linter.unusedSimpArgs false
set_option linter.unusedVariables false
set_option linter.unusedSectionVars false
namespace Go.Kg
open Go
section
variable {P : Program} {C : CfgR}
end
end Go.Kg

set_option linter.unusedSimpArgs false
set_option linter.unusedVariables false
namespace Go.Kg
open Go
def irNewPtr (C : Cfg) (T PT fDef : Nat) : Ir :=
  .seq (.reg [⟨none, some 0, .assign (.const (.pointer none)), PT⟩]) (.seq (.reg [⟨none, some 1, .alloc T, C.E.tNil⟩])
  (.seq (.reg [⟨none, some 2, .call { callee := .value (.func fDef), args := #[.tmp 1], argTypes := #[T] }, C.E.tNil⟩])
  (.seq (.reg [⟨none, some 0, .assign (.tmp 1), PT⟩]) .ret)))
def irSetV (C : Cfg) (T PT : Nat) : Ir :=
  .reg [⟨none, some 4, .move (.tmp 0), PT⟩, ⟨none, some 5, .move (.tmp 1), C.E.tI16⟩, ⟨none, some 6, .nilCheck (.tmp 4), C.E.tNil⟩, ⟨none, some 7, .fieldAddr T (.tmp 6) 0, C.E.tNil⟩, ⟨none, none, .store C.E.tI16 (.tmp 7) (.tmp 5), C.E.tNil⟩]
def irNew (C : Cfg) (PT fPtr fSet fApp : Nat) : Ir :=
  .seq (.reg [⟨none, some 2, .assign (.const (.slice none 0 0)), C.E.tBs⟩])
  (.seq (.reg [⟨none, some 4, .call { callee := .value (.func fPtr), args := #[], argTypes := #[] }, PT⟩, ⟨none, some 3, .assign (.tmp 4), PT⟩])
  (.seq (.reg [⟨none, some 5, .move (.tmp 3), PT⟩, ⟨none, some 6, .move (.tmp 0), C.E.tInt⟩, ⟨none, some 7, .convert C.E.tInt C.E.tI16 (.tmp 6), C.E.tI16⟩,
    ⟨none, some 8, .call { callee := .value (.func fSet), args := #[.tmp 5, .tmp 7], argTypes := #[PT, C.E.tI16] }, C.E.tNil⟩])
  (.seq (.reg [⟨none, some 9, .move (.tmp 3), PT⟩, ⟨none, some 10, .call { callee := .value (.func fApp), args := #[.tmp 9, .const (.slice none 0 0)], argTypes := #[PT, C.E.tBs] }, C.E.tBs⟩,
    ⟨none, some 2, .assign (.tmp 10), C.E.tBs⟩]) .ret)))
theorem newPtrC {P : Program} {C : Cfg} {T PT n g nt fDef : Nat} {S : Sch} {z : Array Value} (hI : FnIs P g nt [.t 0] (irNewPtr C T PT fDef)) (hz : zeroOf P T = some (.agg z)) (hn : n ≤ z.size)
    (hD : ∀ {w : World} {b a : Nat} {c : Array Value} {e : TypeId}, w.heap[b]? = some (.cells c e (0, 0)) → a + n ≤ c.size → Ret P fDef #[.pointer (some ⟨b, a, none⟩)] w fun _ w' => w' = w.setBlk b (.cells (setD a (S.dst C) c) e (0, 0))) (w : World) :
    Ret P g #[] w fun v w' => v = .pointer (some ⟨w.heap.size, 0, none⟩) ∧ w'.heap[w.heap.size]? = some (.cells (setD 0 (S.dst C) z) T (0, 0)) ∧ Ext none1 w w' ∧ w.heap.size < w'.heap.size := by
  refine hI.call (args := []) (by simp) ?_
  simp [irNewPtr, hz, Value.cells]
  refine (hD (b := w.heap.size) (a := 0) (c := z) (e := T) alloc_new (by omega)).mono ?_
  rintro v w' rfl
  have h1 : ((w.alloc (.cells z T)).setBlk w.heap.size (.cells (setD 0 (S.dst C) z) T (0, 0))).heap[w.heap.size]? = some (.cells (setD 0 (S.dst C) z) T (0, 0)) := setBlk_same alloc_new
  have h2 : Ext none1 w ((w.alloc (.cells z T)).setBlk w.heap.size (.cells (setD 0 (S.dst C) z) T (0, 0))) := ((Ext.refl none1 w).alloc _).setBlk (.inl (Nat.le_refl _)) _
  first | exact ⟨rfl, h1, h2, by simp⟩ | exact ⟨h1, h2, by simp⟩
theorem setVC {P : Program} {C : Cfg} {T PT g nt : Nat} (hnt : 2 ≤ nt) (hI : FnIs P g nt [] (irSetV C T PT)) (h0 : fldOff P T 0 = some 0) (hk : kindOf P C.E.tI16 = .scl) {w : World} {b : Nat} {c : Array Value} {e : TypeId} (hb : w.heap[b]? = some (.cells c e (0, 0))) (hc : 0 < c.size) (ver : Int) :
    Ret P g #[.pointer (some ⟨b, 0, none⟩), .int .i16 ver] w fun _ w' => w' = w.setBlk b (.cells (c.setIfInBounds 0 (.int .i16 ver)) e (0, 0)) := by
  refine hI.call (args := [_, _]) hnt ?_
  simp [irSetV, h0, Addr.add_mk, store_scl hk, Value.oneCell', put1K_blk hb, hc]
end Go.Kg

set_option linter.unusedSimpArgs false
set_option linter.unusedVariables false
set_option linter.unusedSectionVars false
namespace Go.Kg
open Go
end Go.Kg

set_option linter.unusedSimpArgs false
set_option linter.unusedVariables false
set_option linter.unusedSectionVars false
namespace Go.Kg
open Go
def KF.sv : (f : KF) → f.c.T → f.sch.T
  | ⟨_, _, _, .prim _ _⟩, x => (x, ())
  | ⟨_, _, _, .arr _ _ _ _ _ _⟩, x => (x, ())
  | ⟨_, _, _, .str _ _ _ _ _ _ _⟩, x => (x, ())
theorem KF.rep_iff {w : World} {K : Nat → Prop} {cs : List Value} (f : KF) (x : f.c.T) : f.c.Rep w K cs f.o x ↔ f.sch.Rep w K cs (f.sv x) := by
  obtain ⟨num, k, o, c⟩ := f
  cases c with
  | prim p d => exact ⟨fun h => ⟨h, trivial⟩, fun h => h.1⟩
  | arr sT T PT sz df e => exact ⟨fun h => ⟨h, trivial⟩, fun h => h.1⟩
  | str T PT sz df sm mk e => exact ⟨fun h => ⟨h, trivial⟩, fun h => h.1⟩
/-- how many cells a known tag's field has -/
def KF.sz (f : KF) : Nat := match f.c with
  | .prim p _ => p.sz
  | .arr _ _ _ _ _ _ => 1
  | .str _ _ sz _ _ _ _ => sz
section
variable {P : Program} {E : Env} (ht : TyTg P E)
include ht
end
end Go.Kg

set_option linter.unusedSimpArgs false
set_option linter.unusedVariables false
set_option linter.unusedSectionVars false
namespace Go.Kg
open Go
section
variable {P : Program} {C : CfgR} {R : Rdr} {Q : Post} {f : Nat → Value} {w : World}
end
end Go.Kg

set_option linter.unusedSimpArgs false
set_option linter.unusedVariables false
set_option linter.unusedSectionVars false
namespace Go.Kg
open Go
section
variable {P : Program} {C : CfgR} {R : Rdr}
end
end Go.Kg

set_option linter.unusedSimpArgs false
set_option linter.unusedVariables false
set_option linter.unusedSectionVars false
namespace Go.Kg
open Go
section
variable {P : Program} {C : CfgR} {R : Rdr}
end
end Go.Kg

set_option linter.unusedSimpArgs false
set_option linter.unusedVariables false
set_option linter.unusedSectionVars false
namespace Go.Kg
open Go
end Go.Kg

set_option linter.unusedSimpArgs false
set_option linter.unusedVariables false
set_option linter.unusedSectionVars false
namespace Go.Kg
open Go
/-- the known tags' cells are those of defaults -/
def ksChkD (cs : List Value) : List KF → Bool
  | [] => true
  | f :: l => f.sch.chkD cs && ksChkD cs l
theorem KF.sv_dfl (f : KF) : f.sv f.c.dfl = f.sch.dfl := by
  obtain ⟨num, k, o, c⟩ := f
  cases c <;> rfl
theorem KsRep_dfl {w : World} {K : Nat → Prop} {cs : List Value} : ∀ (l : List KF), ksChkD cs l = true → KsRep w K cs l (ksDfl l)
  | [], _ => trivial
  | f :: l, h => by
    simp only [ksChkD, Bool.and_eq_true] at h
    exact ⟨(f.rep_iff _).2 (by rw [f.sv_dfl]; exact Sch.repD f.sch h.1), KsRep_dfl l h.2⟩
end Go.Kg

set_option linter.unusedSimpArgs false
set_option linter.unusedVariables false
set_option linter.unusedSectionVars false
namespace Go.Kg
open Go
end Go.Kg

set_option linter.unusedVariables false
namespace Go.Kg
open Go
def ir_laws_version (E : Env) : Ir := (.seq (.reg [ ⟨none, some 4, .assign (.const (.int .i64 0)), E.tInt⟩]) (.seq (.reg [ ⟨none, some 5, .move (.tmp 0), E.tU8⟩, ⟨none, some 6, .convert E.tU8 E.tInt (.tmp 5), E.tInt⟩, ⟨none, some 7, .move (.tmp 1), E.tInt⟩, ⟨none, some 8, .binOp .add E.tInt (.tmp 7) (.const (.int .i64 1)) E.tInt, E.tInt⟩, ⟨none, some 9, .binOp .rem E.tInt (.tmp 6) (.tmp 8) E.tInt, E.tInt⟩, ⟨none, some 4, .assign (.tmp 9), E.tInt⟩]) .ret))
def nt_laws_version : Nat := 10
def rs_laws_version (E : Env) : List Rv := [.t 4]
end Go.Kg

set_option linter.unusedSimpArgs false
set_option linter.unusedVariables false
namespace Go.Kg
open Go
def irMaxV (E : Env) (M : Int) : Ir := .seq (.reg [⟨none, some 2, .assign (.const (.int .i16 0)), E.tI16⟩]) (.seq (.reg [⟨none, some 2, .assign (.const (.int .i16 M)), E.tI16⟩]) .ret)
def irMax (E : Env) (PT fPtr fMaxV : Nat) : Ir := .seq (.reg [⟨none, some 0, .assign (.const (.int .i64 0)), E.tInt⟩])
  (.seq (.reg [⟨none, some 1, .call { callee := .value (.func fPtr), args := #[], argTypes := #[] }, PT⟩, ⟨none, some 2, .call { callee := .value (.func fMaxV), args := #[.tmp 1], argTypes := #[PT] }, E.tI16⟩,
    ⟨none, some 3, .convert E.tI16 E.tInt (.tmp 2), E.tInt⟩, ⟨none, some 0, .assign (.tmp 3), E.tInt⟩]) .ret)
/-- the version that a law takes -/
def verOf (n M : Nat) : Nat := n % (M + 1)
section
variable {P : Program} {E : Env}
theorem c_maxV {g nt : Nat} (hnt : 1 ≤ nt) {M : Int} (hI : FnIs P g nt [.t 2] (irMaxV E M)) (v : Value) (w : World) : Ret P g #[v] w fun u w' => u = .int .i16 M ∧ w' = w := by
  refine hI.call (args := [_]) hnt ?_
  simp [irMaxV]
theorem c_max {PT fPtr fMaxV g nt : Nat} {M : Nat} (hM : M < 32768) (hI : FnIs P g nt [.t 0] (irMax E PT fPtr fMaxV)) (iI16 : intKind? P E.tI16 = some .i16) (iInt : intKind? P E.tInt = some .i64)
    (hPtr : ∀ w, Ret P fPtr #[] w fun v w' => Ext none1 w w') (hMv : ∀ v w, Ret P fMaxV #[v] w fun u w' => u = .int .i16 M ∧ w' = w) (w : World) :
    Ret P g #[] w fun u w' => u = .int .i64 M ∧ Ext none1 w w' := by
  refine hI.call (args := []) (by simp) ?_
  simp [irMax]
  refine (hPtr w).mono ?_
  intro v w1 he
  try simp
  refine (hMv v w1).mono ?_
  rintro _ w2 ⟨rfl, rfl⟩
  have e : IntKind.i64.wrap (M : Int) = M := i64_small (by omega) (by omega)
  simp [iI16, iInt, e, he]
theorem c_version (hI : FnIs P E.f_laws_version nt_laws_version (rs_laws_version E) (ir_laws_version E)) (iU8 : intKind? P E.tU8 = some .u8) (iInt : intKind? P E.tInt = some .i64) (n M : Nat) (hn : n < 256) (hM : M < 32768) (w : World) :
    Ret P E.f_laws_version #[.int .u8 n, .int .i64 M] w fun u w' => u = .int .i64 (verOf n M) ∧ w' = w := by
  refine hI.call (args := [_, _]) (by simp [nt_laws_version]) ?_
  have e1 : IntKind.i64.wrap (n : Int) = n := i64_small (by omega) (by omega)
  have e2 : IntKind.i64.wrap ((M : Int) + 1) = (M : Int) + 1 := i64_small (by omega) (by omega)
  have e3 : ¬ ((M : Int) + 1 = 0) := by omega
  simp [ir_laws_version, rs_laws_version, iU8, iInt, e1, e2, bin?, e3, verOf]
  rw [Int.tmod_eq_emod_of_nonneg (by omega)]
end
end Go.Kg

set_option linter.unusedSimpArgs false
set_option linter.unusedVariables false
namespace Go.Kg
open Go
section
variable {P : Program} {E : Env}
end
end Go.Kg

set_option linter.unusedSimpArgs false
set_option linter.unusedVariables false
namespace Go.Kg
open Go
def FS.dflL : FS → List Tr
  | .nil => []
  | .cons h sub rest => .mk h.dflt [] (decide (0 ≤ h.null)) (if h.kind = 10 then sub.dflL else []) [] :: rest.dflL
def FS.dflT (F : FS) : Tr := .mk 0 [] false F.dflL []
theorem FS.dflL_len : ∀ F : FS, F.dflL.length = F.len
  | .nil => rfl
  | .cons h s r => by simp [FS.dflL, FS.len, FS.dflL_len r]
theorem FS.dflL_get : ∀ {F : FS} {i : Nat} {h : FH} {s : FS}, F.heads[i]? = some h → F.subs[i]? = some s → F.dflL[i]? = some (.mk h.dflt [] (decide (0 ≤ h.null)) (if h.kind = 10 then s.dflL else []) [])
  | .nil, i, h, s, hh, hs => by simp [FS.heads] at hh
  | .cons h' s' r, 0, h, s, hh, hs => by simp [FS.heads, FS.subs] at hh hs; subst hh hs; rfl
  | .cons h' s' r, i + 1, h, s, hh, hs => by
    simp only [FS.heads, FS.subs, List.getElem?_cons_succ] at hh hs
    simpa [FS.dflL] using FS.dflL_get hh hs
/-- An own row of trees. -/
def OwnTr (w : World) (base T : Nat) (v : Value) (rows : List (List Value)) : Prop := Own w base T 5 v rows.flatten ∧ ∀ c ∈ rows, c.length = 5
theorem flatten5 : ∀ {rows : List (List Value)}, (∀ c ∈ rows, c.length = 5) → rows.flatten.length = rows.length * 5
  | [], _ => rfl
  | c :: r, h => by
    have := flatten5 (rows := r) (fun c hc => h c (List.mem_cons_of_mem _ hc))
    have := h c List.mem_cons_self
    simp only [List.flatten_cons, List.length_append, List.length_cons]; omega
theorem flatten5_get : ∀ {rows : List (List Value)}, (∀ c ∈ rows, c.length = 5) → ∀ {i : Nat} {c : List Value}, rows[i]? = some c → ∀ j u, c[j]? = some u → rows.flatten[i * 5 + j]? = some u
  | [], _, i, c, hc => by simp at hc
  | d :: r, h, i, c, hc => by
    intro j u hj
    have hd := h d List.mem_cons_self
    cases i with
    | zero =>
      simp at hc; subst hc
      have hlt := (List.getElem?_eq_some_iff.1 hj).1
      rw [List.flatten_cons, List.getElem?_append_left (by omega)]
      simpa using hj
    | succ i =>
      have := flatten5_get (rows := r) (fun c hc => h c (List.mem_cons_of_mem _ hc)) (i := i) (by simpa using hc) j u hj
      rw [List.flatten_cons, List.getElem?_append_right (by omega), show (i + 1) * 5 + j - d.length = i * 5 + j by omega]
      exact this
theorem OwnTr.arr {w : World} {base T : Nat} {v : Value} {rows : List (List Value)} (h : OwnTr w base T v rows) (hn : rows.length ≤ 1099511627776) : ∃ ls, ArrAt w (fun b => base ≤ b ∧ b < w.heap.size) 5 v ls ∧ ls.getD [] = rows := by
  obtain ⟨⟨n, h1, h2⟩, h5⟩ := h
  have hn' : n = rows.length := by rw [flatten5 h5] at h1; omega
  subst hn'
  rcases h2 with ⟨rfl, h0⟩ | ⟨g, cap, cur, rfl, hb, hg, hnc, hcm, hcs, htake⟩
  · exact ⟨none, rfl, (List.eq_nil_of_length_eq_zero h0).symm⟩
  · refine ⟨some rows, ⟨g, 0, cap, rfl, ⟨hb, lt_of_heap hg⟩, ⟨hnc, hn⟩, fun i cs hi => ⟨h5 cs (List.mem_of_getElem? hi), fun j u hj => ?_⟩⟩, rfl⟩
    have := flatten5_get h5 hi j u hj
    rw [← htake, List.getElem?_take] at this
    rw [cell_of_blk hg, Nat.zero_add]
    split at this
    · simpa using this
    · cases this
/-- No cell of the tree's box but the list's. -/
def zT (lv : Value) : List Value := [.int .i64 0, .slice none 0 0, .bool false, lv, .slice none 0 0]
/-- A tree that says no text and no tags, its lists in blocks of K. -/
inductive DTr (w : World) (K : Nat → Prop) : List Value → Tr → Prop where
  | mk {n : Int} {nul : Bool} {l : List Tr} {lv : Value} {ls : Option (List (List Value))} (hn : fits n) (ha : ArrAt w K 5 lv ls) (hl : (ls.getD []).length = l.length)
      (he : ∀ (i : Nat) c t, (ls.getD [])[i]? = some c → l[i]? = some t → DTr w K c t) : DTr w K [.int .i64 n, .slice none 0 0, .bool nul, lv, .slice none 0 0] (.mk n [] nul l [])
theorem DTr.ext {C K : Nat → Prop} {w w' : World} (he : Ext C w w') (hK : ∀ b, b < w.heap.size → K b → ¬ C b) {cs : List Value} {t : Tr} (h : DTr w K cs t) : DTr w' K cs t := by
  induction h with
  | mk hn ha hl _ ih => exact .mk hn (ha.ext he hK) hl ih
theorem ArrAt.mono {w : World} {K K' : Nat → Prop} (h : ∀ b, K b → K' b) {sz : Nat} {v : Value} {ls : Option (List (List Value))} (ha : ArrAt w K sz v ls) : ArrAt w K' sz v ls := by
  cases ls with
  | none => exact ha
  | some ls => obtain ⟨b, o, c, rfl, hk, hn, hx⟩ := ha; exact ⟨b, o, c, rfl, h b hk, hn, hx⟩
theorem DTr.mono {K K' : Nat → Prop} {w : World} (hK : ∀ b, K b → K' b) {cs : List Value} {t : Tr} (h : DTr w K cs t) : DTr w K' cs t := by
  induction h with
  | mk hn ha hl _ ih => exact .mk hn (ha.mono hK) hl ih
theorem DTr.tree {K : Nat → Prop} {w : World} {cs : List Value} {t : Tr} (h : DTr w K cs t) : TreeAt w cs t := by
  induction h with
  | mk hn ha hl _ ih => exact .mk ⟨hn, by simp⟩ (.inl ⟨⟨_, rfl⟩, rfl⟩) (ha.mono (fun _ _ => trivial)).toE hl ih ⟨none, ⟨_, rfl⟩, rfl, by simp⟩
theorem DTr.len5 {K : Nat → Prop} {w : World} {cs : List Value} {t : Tr} (h : DTr w K cs t) : cs.length = 5 ∧ allOne cs = true := by
  cases h with
  | mk hn ha hl he => obtain ⟨a, c, rfl, _⟩ := ha.form; exact ⟨rfl, rfl⟩
def DfK (b3 : Nat) (w' : World) (lv : Value) (b : Nat) : Prop := b3 < b ∧ b < w'.heap.size ∧ ¬ own1 lv b
def DfInv (T : Nat) (w : World) (fv : Value) (F : FS) (b2 b3 : Nat) (f : Nat → Value) (w' : World) : Prop :=
  ∃ i lv rows, i ≤ F.len ∧ f 9 = .int .i64 i ∧ f 8 = .int .i64 F.len ∧ f 7 = fv ∧ f 2 = .pointer (some ⟨b2, 0, none⟩) ∧ f 3 = .pointer (some ⟨b3, 0, none⟩) ∧ w'.heap[b2]? = some (.cells (zT (.slice none 0 0)).toArray T (0, 0)) ∧
    w'.heap[b3]? = some (.cells (zT lv).toArray T (0, 0)) ∧ OwnTr w' (b3 + 1) T lv rows ∧ rows.length = i ∧ (∀ (j : Nat) c t, rows[j]? = some c → F.dflL[j]? = some t → DTr w' (DfK b3 w' lv) c t) ∧ Ext none1 w w'
def DfEnd (T : Nat) (w : World) (F : FS) (b2 b3 : Nat) (f : Nat → Value) (w' : World) : Prop :=
  ∃ lv rows, f 2 = .pointer (some ⟨b2, 0, none⟩) ∧ f 3 = .pointer (some ⟨b3, 0, none⟩) ∧ w'.heap[b2]? = some (.cells (zT (.slice none 0 0)).toArray T (0, 0)) ∧
    w'.heap[b3]? = some (.cells (zT lv).toArray T (0, 0)) ∧ OwnTr w' (b3 + 1) T lv rows ∧ rows.length = F.len ∧ (∀ (j : Nat) c t, rows[j]? = some c → F.dflL[j]? = some t → DTr w' (DfK b3 w' lv) c t) ∧ Ext none1 w w'
/-- one tree, in its box -/
def DfOne (T : Nat) (w : World) (fv : Value) (F : FS) (b2 b3 : Nat) (i : Nat) (w6 : World) (lv : Value) (t1 : Tr) (f : Nat → Value) (w' : World) : Prop :=
  ∃ b6 cs, f 6 = .pointer (some ⟨b6, 0, none⟩) ∧ w'.heap[b6]? = some (.cells cs.toArray T (0, 0)) ∧ DTr w' (DfK b3 w' lv) cs t1 ∧ f 9 = .int .i64 i ∧ f 8 = .int .i64 F.len ∧ f 7 = fv ∧ f 2 = .pointer (some ⟨b2, 0, none⟩) ∧ f 3 = .pointer (some ⟨b3, 0, none⟩) ∧
    Ext none1 w6 w' ∧ w6.heap.size ≤ b6
def DfA (T : Nat) (wb : World) (fv : Value) (n i b5 : Nat) (v2 v3 : Value) (cs : List Value) (f : Nat → Value) (w' : World) : Prop :=
  f 5 = .pointer (some ⟨b5, 0, none⟩) ∧ f 9 = .int .i64 i ∧ f 8 = .int .i64 n ∧ f 7 = fv ∧ f 2 = v2 ∧ f 3 = v3 ∧ Ext none1 wb w' ∧ w'.heap[b5]? = some (.cells cs.toArray T (0, 0))
def DfB (T : Nat) (w5 : World) (fv : Value) (n i b5 b2 b3 : Nat) (cs : List Value) (f : Nat → Value) (w' : World) : Prop :=
  ∃ b6, f 6 = .pointer (some ⟨b6, 0, none⟩) ∧ w'.heap[b6]? = some (.cells cs.toArray T (0, 0)) ∧ w5.heap.size ≤ b6 ∧ Ext none1 w5 w' ∧
    f 5 = .pointer (some ⟨b5, 0, none⟩) ∧ f 9 = .int .i64 i ∧ f 8 = .int .i64 n ∧ f 7 = fv ∧ f 2 = .pointer (some ⟨b2, 0, none⟩) ∧ f 3 = .pointer (some ⟨b3, 0, none⟩)
structure TyD (P : Program) (E : Env) : Prop extends TyM P E where
  pT5 : places P E.t_spec_Tree = some [(0, 1), (1, 1), (2, 1), (3, 1), (4, 1)]
  fT3 : ∀ (a b c d e : Value), fld? P E.t_spec_Tree 3 #[a, b, c, d, e] = some d
def DefC (P : Program) (E : Env) (F : FS) : Prop := ∀ w fv, FsAt w fv F → Ret P E.f_spec_Default #[fv] w fun r w' => ∃ lv, r = .agg (zT lv).toArray ∧ DTr w' (fun b => w.heap.size ≤ b ∧ b < w'.heap.size) (zT lv) F.dflT ∧ Ext none1 w w'
section
variable {P : Program} {E : Env} (ht : TyD P E)
include ht
theorem bld_one (n : Int) (b : Bool) : bld? P E.t_spec_Tree [(0, .int .i64 n), (2, .bool b)] = some (.agg #[.int .i64 n, .slice none 0 0, .bool b, .slice none 0 0, .slice none 0 0]) := by
  simp [bld?, ht.zT, ht.pT5, Instr.fill, Value.cells]
set_option maxHeartbeats 1000000 in
theorem c_Default (hI : FnIs P E.f_spec_Default nt_spec_Default (rs_spec_Default E) (ir_spec_Default E)) (F : FS) (hok : F.okAll) (hlen : F.len ≤ 1000) (hsub : ∀ (i : Nat) s, F.subs[i]? = some s → DefC P E s)
    (hdf : ∀ h ∈ F.heads, fits h.dflt) : DefC P E F := by
  intro w fv hF
  refine hI.call (args := [_]) (by simp [nt_spec_Default]) ?_
  obtain ⟨ls, haF, hcF⟩ := hF
  obtain ⟨aF, cF, rfl, _, hmaxF⟩ := haF.form
  have hF : FsAt w (.slice aF (ls.getD []).length cF) F := ⟨ls, haF, hcF⟩
  have hl : (ls.getD []).length = F.len := hcF.len
  obtain ⟨Et, jt, hut, _, _⟩ := sliSz_spec ht.sF
  have hzT : zeroOf P E.t_spec_Tree = some (.agg (zT (.slice none 0 0)).toArray) := ht.zT
  have hzc : ∀ a : Array Value, (Value.agg a).cells = a := fun a => rfl
  have hz : zeroOf P E.t_spec_Field = some (.agg zField) := ht.zF
  have hzz : zField.size = 8 := rfl
  have hzfc : (Value.agg zField).cells = zField := rfl
  generalize hw1 : (w.alloc (.cells (zT (.slice none 0 0)).toArray E.t_spec_Tree)).alloc (.cells (zT (.slice none 0 0)).toArray E.t_spec_Tree) = w1
  have hE : Ext none1 w w1 := by subst hw1; exact ((Ext.refl none1 w).alloc _).alloc _
  have hb2 : w1.heap[w.heap.size]? = some (.cells (zT (.slice none 0 0)).toArray E.t_spec_Tree (0, 0)) := by subst hw1; exact alloc_old alloc_new
  have hb3 : w1.heap[w.heap.size + 1]? = some (.cells (zT (.slice none 0 0)).toArray E.t_spec_Tree (0, 0)) := by
    subst hw1
    have := alloc_new (w := w.alloc (.cells (zT (.slice none 0 0)).toArray E.t_spec_Tree)) (o := .cells (zT (.slice none 0 0)).toArray E.t_spec_Tree)
    simpa using this
  rw [hl] at hF ⊢
  simp [ir_spec_Default, rs_spec_Default, hzT, hzc, hw1, len_slice hut]
  generalize hfv : Value.slice aF F.len cF = fv at *
  refine cw_blockThen (DfEnd E.t_spec_Tree w F w.heap.size (w.heap.size + 1)) ?_ ?_
  · refine cw_loop (DfInv E.t_spec_Tree w fv F w.heap.size (w.heap.size + 1)) (fun f _ => match f 9 with | .int _ i => ((F.len : Int) - i).toNat | _ => 0) ?_ ?_
    · exact ⟨0, .slice none 0 0, [], by omega, by simp, by simp, by simp, by simp, by simp, hb2, hb3, ⟨Own.nil _ _ _ _, by simp⟩, rfl, by simp, hE⟩
    · rintro f w' ⟨i, lv, rows, hi, k9, k8, k7, k2, k3, hb2', hb3', hown, hrl, hrows, he⟩
      simp [k9, k8]
      by_cases hlt : i < F.len
      · refine cw_true (by simp; omega) ?_
        obtain ⟨bb, oo, cc, h, s, sv, y, hfvv, hy, rfl, hss, hFs, hsv1, hcf⟩ := fs_elem (ver := 0) (flex := false) hF he (i := i) (by rw [FS.list_len]; exact hlt)
        obtain ⟨h', s', hh, _, hyh⟩ := FS.list_get hy
        have hyh' : y.h = h' := by rw [hyh]
        rw [hyh'] at hcf
        have hone : allOne (h'.cells ++ [sv]) = true := FH.cells_one h' hsv1
        have hcl := FH.cells_len h' sv
        have ei : IntKind.i64.wrap ((i : Int) + 1) = ((i + 1 : Nat) : Int) := by rw [i64_small (by omega) (by omega)]; rfl
        have hdt := FS.dflL_get hh hss
        rw [FS.list_len] at hfvv
        have hfit := hdf h' (List.mem_of_getElem? hh)
        simp only [cw_skip, thenF_normal]
        rw [cw_seq, cw_block, cw_seq]
        refine cw_then (DfA E.t_spec_Field w' fv F.len i w'.heap.size (f 2) (f 3) (h'.cells ++ [sv])) ?_ ?_
        · rw [hfvv] at k7
          simp [k9, k7, idx?, ht.sF, hlt, Addr.add_mk, ld_agg ht.kF, hcf, hz, hzfc, store_agg ht.kF, hone, putK_blk alloc_new, hzz]
          rw [over_z8 hcl]
          exact ⟨by simp, by simp [k9], by simp [k8], by simp [hfvv, k7], by simp, by simp, ((Ext.refl none1 w').alloc _).setBlk (.inl (Nat.le_refl _)) _, setBlk_same alloc_new⟩
        · rintro f5 w5 ⟨j5, j9, j8, j7, j2, j3, he5, hb5⟩
          rw [k2] at j2
          rw [k3] at j3
          clear k9 k8 k7 k2 k3
          clear f
          have hx5 : Ext none1 w w5 := he.trans he5
          have cF5 : ∀ wx, Ext none1 w5 wx → ∀ j u, (h'.cells ++ [sv])[j]? = some u → wx.cell? ⟨w'.heap.size, j, none⟩ = some u := by
            intro wx hx j u hj
            rw [cell_of_blk (hx.old hb5 (fun h => h))]; simpa using hj
          have d5 := cF5 w5 (Ext.refl _ _) 5 _ rfl
          have d3 := cF5 w5 (Ext.refl _ _) 3 _ rfl
          have hb3lt : w.heap.size + 1 < w'.heap.size := lt_of_heap hb3'
          have hol : ∀ b, own1 lv b → b < w'.heap.size := fun b hb => (Own.below hown.1 hb).2
          rw [cw_seq]
          refine cw_then (DfB E.t_spec_Tree w5 fv F.len i w'.heap.size w.heap.size (w.heap.size + 1) [.int .i64 h'.dflt, .slice none 0 0, .bool (decide (0 ≤ h'.null)), .slice none 0 0, .slice none 0 0]) ?_ ?_
          · have hbo := bld_one ht h'.dflt (decide (0 ≤ h'.null))
            simp [j5, ht.f5, ht.f3, Addr.add_mk, ld_scl ht.kI64, ld_scl ht.kInt, d5, d3, hbo, hzT, hzc, store_agg ht.kT, putK_blk alloc_new]
            have hsz5 : (zT (.slice none 0 0)).length = 5 := rfl
            have ha5 : allOne [Value.int .i64 h'.dflt, .slice none 0 0, .bool (decide (0 ≤ h'.null)), .slice none 0 0, .slice none 0 0] = true := rfl
            have hov : over (zT (.slice none 0 0)).toArray 0 [Value.int .i64 h'.dflt, .slice none 0 0, .bool (decide (0 ≤ h'.null)), .slice none 0 0, .slice none 0 0] = #[Value.int .i64 h'.dflt, .slice none 0 0, .bool (decide (0 ≤ h'.null)), .slice none 0 0, .slice none 0 0] := by simp [over, zT]
            rw [hov]
            refine ⟨ha5, by simp [hsz5], ?_⟩
            exact ⟨w5.heap.size, by simp, setBlk_same alloc_new, Nat.le_refl _, ((Ext.refl none1 w5).alloc _).setBlk (.inl (Nat.le_refl _)) _, by simp [j5], by simp [j9], by simp [j8], by simp [j7], by simp [j2], by simp [j3]⟩
          · clear j5 j9 j8 j7 j2 j3
            clear f5
            rintro f w6 ⟨b6, k6, hb6, hb6le, he6, k5, k9, k8, k7, k2, k3⟩
            rw [cw_seq]
            refine cw_then (DfOne E.t_spec_Tree w fv F w.heap.size (w.heap.size + 1) i w5 lv (.mk h'.dflt [] (decide (0 ≤ h'.null)) (if h'.kind = 10 then s.dflL else []) [])) ?_ ?_
            · have d0 := cF5 w6 he6 0 _ rfl
              have d7 := cF5 w6 he6 7 sv rfl
              simp [k5, ht.f0, Addr.add_mk, ld_scl ht.kInt, d0]
              by_cases h10 : h'.kind = 10
              · refine cw_true (by simp [h10]) ?_
                simp [k5, ht.f7, Addr.add_mk, ld_scl ht.kLF, d7]
                refine (hsub i s hss w6 sv (hFs.ext (he5.trans he6))).mono ?_
                rintro _ w7 ⟨lvs, rfl, hD7, he7⟩
                have hb67 : w7.heap[b6]? = some (.cells (([.int .i64 h'.dflt, .slice none 0 0, .bool (decide (0 ≤ h'.null)), .slice none 0 0, .slice none 0 0] : List Value)).toArray E.t_spec_Tree (0, 0)) := he7.old hb6 (fun h => h)
                obtain ⟨lss, hda, hdl, hde⟩ : ∃ lss, ArrAt w7 (fun b => w6.heap.size ≤ b ∧ b < w7.heap.size) 5 lvs lss ∧ (lss.getD []).length = s.dflL.length ∧ ∀ (i : Nat) c t, (lss.getD [])[i]? = some c → s.dflL[i]? = some t → DTr w7 (fun b => w6.heap.size ≤ b ∧ b < w7.heap.size) c t := by
                  have key : ∀ cs t, DTr w7 (fun b => w6.heap.size ≤ b ∧ b < w7.heap.size) cs t → ∃ lv lss, cs[3]? = some lv ∧ ArrAt w7 (fun b => w6.heap.size ≤ b ∧ b < w7.heap.size) 5 lv lss ∧ (lss.getD []).length = t.l.length ∧ ∀ (i : Nat) c t', (lss.getD [])[i]? = some c → t.l[i]? = some t' → DTr w7 (fun b => w6.heap.size ≤ b ∧ b < w7.heap.size) c t' := by
                    intro cs t h
                    cases h with
                    | mk hn ha hl he => exact ⟨_, _, rfl, ha, hl, he⟩
                  obtain ⟨lv', lss, h1, h2, h3, h4⟩ := key _ _ hD7
                  cases h1
                  exact ⟨lss, h2, h3, h4⟩
                have hlv1 : lvs.oneCell' = true := by obtain ⟨a, c, h', _⟩ := hda.form; rw [h']; rfl
                have hfl : fld? P E.t_spec_Tree 3 (zT lvs).toArray = some lvs := ht.fT3 _ _ _ _ _
                simp [hfl, k6, ht.t3, Addr.add_mk, store_scl ht.kLT, hlv1, put1K_blk hb67]
                have hset : (#[Value.int .i64 h'.dflt, .slice none 0 0, .bool (decide (0 ≤ h'.null)), .slice none 0 0, .slice none 0 0]).setIfInBounds 3 lvs = #[Value.int .i64 h'.dflt, .slice none 0 0, .bool (decide (0 ≤ h'.null)), lvs, .slice none 0 0] := rfl
                try rw [hset]
                have hx78 : Ext none1 w5 (w7.setBlk b6 (.cells #[Value.int .i64 h'.dflt, .slice none 0 0, .bool (decide (0 ≤ h'.null)), lvs, .slice none 0 0] E.t_spec_Tree (0, 0))) := (he6.trans he7).setBlk (.inl hb6le) _
                have hb6lt : b6 < w6.heap.size := lt_of_heap hb6
                have hx77 : Ext (· = b6) w7 (w7.setBlk b6 (.cells #[Value.int .i64 h'.dflt, .slice none 0 0, .bool (decide (0 ≤ h'.null)), lvs, .slice none 0 0] E.t_spec_Tree (0, 0))) := (Ext.refl (fun x => x = b6) w7).setBlk (.inr rfl) _
                have hKK : ∀ b, (w6.heap.size ≤ b ∧ b < w7.heap.size) → DfK (w.heap.size + 1) (w7.setBlk b6 (.cells #[Value.int .i64 h'.dflt, .slice none 0 0, .bool (decide (0 ≤ h'.null)), lvs, .slice none 0 0] E.t_spec_Tree (0, 0))) lv b := by
                  intro b hb
                  have := he5.size
                  have := he6.size
                  exact ⟨by omega, by simpa using hb.2, fun h => by have := hol b h; omega⟩
                refine ⟨b6, [Value.int .i64 h'.dflt, .slice none 0 0, .bool (decide (0 ≤ h'.null)), lvs, .slice none 0 0], by simp [k6], setBlk_same hb67, ?_, by simp [k9], by simp [k8], by simp [k7], by simp [k2], by simp [k3], hx78, hb6le⟩
                rw [if_pos h10]
                refine .mk hfit ((hda.ext hx77 (fun b _ hb => by omega)).mono hKK) hdl ?_
                intro j c t hc ht'
                exact ((hde j c t hc ht').ext hx77 (fun b _ hb => by omega)).mono hKK
              · refine cw_false (by simp [h10]) ?_
                simp
                refine ⟨b6, _, by simp [k6], hb6, ?_, by simp [k9], by simp [k8], by simp [k7], by simp [k2], by simp [k3], he6, hb6le⟩
                rw [if_neg h10]
                exact .mk (ls := none) hfit rfl rfl (by simp)
            · clear k5 k6 k9 k8 k7 k2 k3 hb6 hb6le he6
              clear f w6 b6
              rintro f w7 ⟨b6, cs, k6, hb6, hD1, k9, k8, k7, k2, k3, he7, hb6le⟩
              obtain ⟨hcs5, hcs1⟩ := hD1.len5
              have hx7 : Ext none1 w' w7 := he5.trans he7
              have hb37 : w7.heap[w.heap.size + 1]? = some (.cells (zT lv).toArray E.t_spec_Tree (0, 0)) := hx7.old hb3' (fun h => h)
              have c3 : w7.cell? ⟨w.heap.size + 1, 3, none⟩ = some lv := by rw [cell_of_blk hb37]; rfl
              have lT6 : cellsFrom w7 ⟨b6, 0, none⟩ 0 5 = some cs := by
                have := cellsFrom_row hb6
                rw [List.size_toArray, hcs5] at this
                simpa using this
              have hrlen : rows.flatten.length = rows.length * 5 := flatten5 hown.2
              simp [k3, k6, ht.t3, Addr.add_mk, ld_scl ht.kLT, c3, ld_agg ht.kT, lT6]
              rw [st_bsl (n := 1) (parts := #[(0, Operand.tmp 29)]) ht.gTr (by omega) rfl rfl (by omega) (by omega) (by simp [allSz, Value.cells, hcs5])]
              have hfl : flat [Value.agg cs.toArray] = cs := by simp [flat, Value.cells]
              simp only [List.map_cons, List.map_nil, evF_tmp, upd_apply, if_true, hfl]
              try simp [hfl]
              generalize hw8 : w7.alloc (.cells cs.toArray E.t_spec_Tree) = w8
              have hx8 : Ext none1 w7 w8 := by subst hw8; exact (Ext.refl none1 w7).alloc _
              have hb8 : w8.heap[w7.heap.size]? = some (.cells cs.toArray E.t_spec_Tree (0, 0)) := by subst hw8; exact alloc_new
              have hown8 := Own.ext hown.1 (hx7.trans hx8) (fun _ _ h => h)
              refine st_append ht.gTr (by omega) (x := .tmp 28) (y := .tmp 30) (base := w.heap.size + 1 + 1) (xs := rows.flatten) (by simpa using hown8) (ad := some ⟨w7.heap.size, 0, none⟩) (m := 1) (c := 1) (news := cs) (by simp) (by omega) (by simp) ?_ (allOne_spec hcs1) ?_ ?_ ?_ ?_
              · intro a ha j u hj
                cases ha
                rw [Addr.add_mk, cell_of_blk hb8]
                simpa using hj
              · simp only [maxLen]; omega
              · omega
              · have := hx7.size; have := hx8.size; omega
              · intro v' w9 ho9 hg9
                simp at hg9
                have hn3 : ¬ own1 lv (w.heap.size + 1) := fun h => by have := (Own.below hown.1 h).1; omega
                have hb39 : w9.heap[w.heap.size + 1]? = some (.cells (zT lv).toArray E.t_spec_Tree (0, 0)) := hg9.ext.old (hx8.old hb37 (fun h => h)) hn3
                have hv1 : v'.oneCell' = true := by
                  obtain ⟨n, _, h⟩ := ho9
                  rcases h with ⟨rfl, _⟩ | ⟨g, cap, cur, rfl, _⟩ <;> rfl
                have hz5 : (zT lv).length = 5 := rfl
                have hset : (zT lv).toArray.setIfInBounds 3 v' = (zT v').toArray := rfl
                simp [k3, ht.t3, Addr.add_mk, store_scl ht.kLT, hv1, put1K_blk hb39, hz5]
                have hset' : (zT lv).set 3 v' = zT v' := rfl
                try rw [hset']
                try rw [hset]
                have hx9 : Ext (fun k => k = w.heap.size + 1) w9 (w9.setBlk (w.heap.size + 1) (.cells (zT v').toArray E.t_spec_Tree (0, 0))) := (Ext.refl (fun k => k = w.heap.size + 1) w9).setBlk (.inr rfl) _
                generalize hw10 : w9.setBlk (w.heap.size + 1) (.cells (zT v').toArray E.t_spec_Tree (0, 0)) = w10 at *
                have hb310 : w10.heap[w.heap.size + 1]? = some (.cells (zT v').toArray E.t_spec_Tree (0, 0)) := by subst hw10; exact setBlk_same hb39
                have hs89 := hg9.ext.size
                have hs910 := hx9.size
                have hs78 := hx8.size
                have hs77 := hx7.size
                have hx08 : Ext none1 w w8 := he.trans (hx7.trans hx8)
                have hx09 : Ext none1 w w9 := hx08.owned (Own.base hown8 (by omega)) hg9.ext
                have carry : ∀ c t, DTr w7 (DfK (w.heap.size + 1) w7 lv) c t → DTr w10 (DfK (w.heap.size + 1) w10 v') c t := by
                  intro c t h
                  refine (((h.ext hx8 (fun _ _ _ h => h)).ext hg9.ext (fun b _ hb h => hb.2.2 h)).ext hx9 (fun b _ hb h => by have := hb.1; omega)).mono ?_
                  intro b hb
                  refine ⟨hb.1, by have := hb.2.1; omega, fun h => ?_⟩
                  rcases hg9.own b h with h | h
                  · exact hb.2.2 h
                  · have := hb.2.1; omega
                have carry0 : ∀ c t, DTr w' (DfK (w.heap.size + 1) w' lv) c t → DTr w10 (DfK (w.heap.size + 1) w10 v') c t := by
                  intro c t h
                  refine carry c t ((h.ext hx7 (fun _ _ _ h => h)).mono ?_)
                  intro b hb
                  exact ⟨hb.1, by have := hb.2.1; omega, hb.2.2⟩
                simp [k9, ei]
                refine ⟨⟨i + 1, v', rows ++ [cs], by omega, by simp, by simp [k8], by simp [k7], by simp [k2], by simp [k3], ?_, hb310, ⟨?_, ?_⟩, by simp [hrl], ?_, ?_⟩, by omega⟩
                · have hb2lt := lt_of_heap hb2'
                  have : w9.heap[w.heap.size]? = some (.cells (zT (.slice none 0 0)).toArray E.t_spec_Tree (0, 0)) := hg9.ext.old (hx8.old (hx7.old hb2' (fun h => h)) (fun h => h)) (fun h => by have := (Own.below hown.1 h).1; omega)
                  exact hx9.old this (by omega)
                · rw [List.flatten_append]
                  simpa using Own.ext ho9 hx9 (fun b hb h => by have := (Own.below ho9 hb).1; omega)
                · intro c hc
                  rcases List.mem_append.1 hc with h | h
                  · exact hown.2 c h
                  · simp at h; rw [h]; exact hcs5
                · intro j c t hc ht'
                  by_cases hj : j < rows.length
                  · rw [List.getElem?_append_left hj] at hc
                    exact carry0 c t (hrows j c t hc ht')
                  · rw [List.getElem?_append_right (by omega)] at hc
                    have hji : j = i := by
                      have := (List.getElem?_eq_some_iff.1 hc).1
                      simp at this; omega
                    subst hji
                    rw [hrl] at hc
                    simp at hc
                    subst hc
                    rw [hdt] at ht'
                    cases ht'
                    exact carry _ _ hD1
                · subst hw10
                  exact hx09.setBlk (.inl (by omega)) _
      · refine cw_false (by simp; omega) ?_
        have : i = F.len := by omega
        subst this
        simp
        exact ⟨lv, rows, by simp [k2], by simp [k3], hb2', hb3', hown, hrl, hrows, he⟩
  · rintro f w2 ⟨lv, rows, k2, k3, hb2', hb3', hown, hrl, hrows, he⟩
    have lT3 : cellsFrom w2 ⟨w.heap.size + 1, 0, none⟩ 0 5 = some (zT lv) := by
      have := cellsFrom_row hb3'
      rw [show (zT lv).toArray.size = 5 from rfl] at this
      simpa using this
    obtain ⟨lss, harr, hlss⟩ := hown.arr (by omega)
    have hlv1 : lv.oneCell' = true := by obtain ⟨a, c, h', _⟩ := harr.form; rw [h']; rfl
    have hone : allOne (zT lv) = true := by obtain ⟨a, c, h', _⟩ := harr.form; rw [h']; rfl
    have hz5 : (zT lv).length = 5 := rfl
    have hz5' : (zT (.slice none 0 0)).length = 5 := rfl
    have hov : over (zT (.slice none 0 0)).toArray 0 (zT lv) = (zT lv).toArray := by simp [over, zT]
    simp [k2, k3, ld_agg ht.kT, lT3, store_agg ht.kT, hone, hz5, hz5', putK_blk hb2', hov]
    have hx3 : Ext (fun k => k = w.heap.size) w2 (w2.setBlk w.heap.size (.cells (zT lv).toArray E.t_spec_Tree (0, 0))) := (Ext.refl (fun k => k = w.heap.size) w2).setBlk (.inr rfl) _
    have hb23 : (w2.setBlk w.heap.size (.cells (zT lv).toArray E.t_spec_Tree (0, 0))).heap[w.heap.size]? = some (.cells (zT lv).toArray E.t_spec_Tree (0, 0)) := setBlk_same hb2'
    have hxx : Ext none1 w (w2.setBlk w.heap.size (.cells (zT lv).toArray E.t_spec_Tree (0, 0))) := he.setBlk (.inl (Nat.le_refl _)) _
    generalize hw3 : w2.setBlk w.heap.size (.cells (zT lv).toArray E.t_spec_Tree (0, 0)) = w3 at *
    have lT2 : cellsFrom w3 ⟨w.heap.size, 0, none⟩ 0 5 = some (zT lv) := by
      have := cellsFrom_row hb23
      rw [show (zT lv).toArray.size = 5 from rfl] at this
      simpa using this
    simp [lT2]
    refine ⟨lv, rfl, ?_, hxx⟩
    have hs23 := hx3.size
    refine .mk (ls := lss) ⟨by omega, by omega⟩ ((harr.ext hx3 (fun b _ hb h => by omega)).mono (fun b hb => by omega)) ?_ ?_
    · rw [hlss, hrl, FS.dflL_len]
    · intro j c t hc ht'
      rw [hlss] at hc
      refine ((hrows j c t hc ht').ext hx3 (fun b _ hb h => by have := hb.1; omega)).mono ?_
      intro b hb
      have := hb.1
      have := hb.2.1
      exact ⟨by omega, by omega⟩
end
end Go.Kg

set_option linter.unusedSimpArgs false
set_option linter.unusedVariables false
namespace Go.Kg
open Go
theorem FS.okAll.dflt : ∀ {F : FS}, F.okAll → ∀ h ∈ F.heads, fits h.dflt
  | .nil, _, h, hh => by cases hh
  | .cons h' s r, ho, h, hh => by
    rcases List.mem_cons.1 hh with rfl | hh
    · exact ho.2.1
    · exact FS.okAll.dflt ho.2.2.2.2 h hh
theorem sp_Default {P : Program} {E : Env} (ht : TyD P E) (hI : FnIs P E.f_spec_Default nt_spec_Default (rs_spec_Default E) (ir_spec_Default E)) : ∀ F : FS, F.okAll → F.len ≤ 1000 → DefC P E F := by
  have key : ∀ F : FS, F.okAll → ∀ (i : Nat) s, F.subs[i]? = some s → DefC P E s := by
    intro F
    induction F with
    | nil => intro _ i s h; simp [FS.subs] at h
    | cons h sub rest ihs ihr =>
      intro ho i s hs
      cases i with
      | zero =>
        simp [FS.subs] at hs; subst hs
        exact c_Default ht hI sub ho.2.2.2.1 ho.2.2.1 (ihs ho.2.2.2.1) ho.2.2.2.1.dflt
      | succ i => exact ihr ho.2.2.2.2 i s (by simpa [FS.subs] using hs)
  intro F ho hl
  exact c_Default ht hI F ho hl (key F ho) ho.dflt
def FH.zero : FH := ⟨0, 0, 0, 0, 0, 0, 0⟩
def FH.set (h : FH) (k : Nat) (n : Int) : FH :=
  match k with
  | 0 => { h with kind := n } | 1 => { h with frm := n } | 2 => { h with to := n } | 3 => { h with null := n } | 4 => { h with tag := n } | 5 => { h with dflt := n } | _ => { h with of_ := n }
/-- A field's text: its parts in order, and the function of its own fields (with these). -/
structure FSrc where
  ps : List (Nat × Int)
  sub : Option (Nat × FS)
def FSrc.h (x : FSrc) : FH := x.ps.foldl (fun h p => h.set p.1 p.2) FH.zero
def FSrc.subF (x : FSrc) : FS := match x.sub with | some (_, F) => F | none => .nil
def mkFS : List FSrc → FS
  | [] => .nil
  | x :: r => .cons x.h x.subF (mkFS r)
def psOp (ps : List (Nat × Int)) : List (Nat × Operand) := ps.map fun p => (p.1, .const (.int .i64 p.2))
def FSrc.sz (x : FSrc) : Nat := match x.sub with | some _ => 2 | none => 1
def FSrc.ro (E : Env) (x : FSrc) (t : Nat) : List Ro := match x.sub with
  | none => [⟨none, some t, .build E.t_spec_Field (psOp x.ps).toArray, E.t_spec_Field⟩]
  | some (g, _) => [⟨none, some t, .call { callee := .value (.func g), args := #[], argTypes := #[] }, E.t_l_spec_Field⟩, ⟨none, some (t + 1), .build E.t_spec_Field (psOp x.ps ++ [(7, Operand.tmp t)]).toArray, E.t_spec_Field⟩]
def genSr (E : Env) : List FSrc → Nat → List Ro
  | [], _ => []
  | x :: r, t => x.ro E t ++ genSr E r (t + x.sz)
def slotsS : List FSrc → Nat → List Nat
  | [], _ => []
  | x :: r, t => (t + x.sz - 1) :: slotsS r (t + x.sz)
def endS : List FSrc → Nat → Nat
  | [], t => t
  | x :: r, t => endS r (t + x.sz)
def bslOp (sl : List Nat) : Array (Nat × Operand) := (sl.zipIdx.map fun p => (p.2, Operand.tmp p.1)).toArray
/-- func sX() []Field -/
def irSub (E : Env) (xs : List FSrc) : Ir :=
  .seq (.reg [⟨none, some 0, .assign (.const (.slice none 0 0)), E.t_l_spec_Field⟩])
  (.seq (.reg (genSr E xs 1 ++ [⟨none, some (endS xs 1), .buildSlice E.t_l_spec_Field xs.length (bslOp (slotsS xs 1)), E.t_l_spec_Field⟩, ⟨none, some 0, .assign (.tmp (endS xs 1)), E.t_l_spec_Field⟩])) .ret)
/-- func X() Message -/
def irMsg (E : Env) (xs : List FSrc) (fx : Int) : Ir :=
  .seq (.reg [⟨none, some 0, .alloc E.t_spec_Message, E.tNil⟩])
  (.seq (.reg (genSr E xs 1 ++ [⟨none, some (endS xs 1), .buildSlice E.t_l_spec_Field xs.length (bslOp (slotsS xs 1)), E.t_l_spec_Field⟩,
    ⟨none, some (endS xs 1 + 1), .build E.t_spec_Message #[(1, .const (.int .i64 fx)), (0, .tmp (endS xs 1))], E.t_spec_Message⟩, ⟨none, none, .store E.t_spec_Message (.tmp 0) (.tmp (endS xs 1 + 1)), E.tNil⟩])) .ret)
def psOk : List (Nat × Int) → Bool
  | [] => true
  | p :: r => decide (p.1 < 7) && psOk r
structure TyK (P : Program) (E : Env) : Prop extends TyD P E where
  pF8 : places P E.t_spec_Field = some [(0, 1), (1, 1), (2, 1), (3, 1), (4, 1), (5, 1), (6, 1), (7, 1)]
  gF : SliI P E.t_l_spec_Field E.t_spec_Field 8 80 (.agg zField)
  pM : places P E.t_spec_Message = some [(0, 1), (1, 1)]
  zM : zeroOf P E.t_spec_Message = some (.agg #[.slice none 0 0, .int .i64 0])
  kM : kindOf P E.t_spec_Message = .agg 2
theorem FH.set_cells (h : FH) (sv : Value) (k : Nat) (n : Int) (hk : k < 7) : (h.cells ++ [sv]).toArray.setIfInBounds k (.int .i64 n) = ((h.set k n).cells ++ [sv]).toArray := by
  match k, hk with
  | 0, _ => rfl
  | 1, _ => rfl
  | 2, _ => rfl
  | 3, _ => rfl
  | 4, _ => rfl
  | 5, _ => rfl
  | 6, _ => rfl
def pl8 : List (Nat × Nat) := [(0, 1), (1, 1), (2, 1), (3, 1), (4, 1), (5, 1), (6, 1), (7, 1)]
theorem pl8_get {k : Nat} (hk : k < 8) : pl8[k]? = some (k, 1) := by
  match k, hk with
  | 0, _ => rfl | 1, _ => rfl | 2, _ => rfl | 3, _ => rfl | 4, _ => rfl | 5, _ => rfl | 6, _ => rfl | 7, _ => rfl
theorem fill_one {k : Nat} (hk : k < 8) {v : Value} (hv : v.cells = #[v]) {c : Array Value} (hc : c.size = 8) (rest : List (Nat × Value)) :
    Instr.fill (fun i => pl8[i]?) c ((k, v) :: rest) = Instr.fill (fun i => pl8[i]?) (c.setIfInBounds k v) rest := by
  simp only [Instr.fill, pl8_get hk, hv]
  rw [if_neg (by simp; omega)]
  simp
theorem fill_ps : ∀ (ps : List (Nat × Int)) (h : FH) (sv : Value) (rest : List (Nat × Value)), psOk ps = true →
    Instr.fill (fun i => pl8[i]?) (h.cells ++ [sv]).toArray (ps.map (fun p => (p.1, Value.int .i64 p.2)) ++ rest) = Instr.fill (fun i => pl8[i]?) ((ps.foldl (fun h p => h.set p.1 p.2) h).cells ++ [sv]).toArray rest
  | [], h, sv, rest, _ => rfl
  | p :: r, h, sv, rest, hok => by
    simp only [psOk, Bool.and_eq_true, decide_eq_true_eq] at hok
    rw [List.map_cons, List.cons_append, fill_one (by omega) rfl (by simp), FH.set_cells h sv p.1 p.2 hok.1]
    exact fill_ps r _ sv rest hok.2
theorem zField_eq : zField = (FH.zero.cells ++ [Value.slice none 0 0]).toArray := rfl
/-- Fields whose rows lie in blocks of K. -/
def FsCellsK (w : World) (K : Nat → Prop) : List (List Value) → FS → Prop
  | [], .nil => True
  | c :: cs, .cons h sub rest => (∃ sv ls, c = h.cells ++ [sv] ∧ ArrAt w K 8 sv ls ∧ FsCellsK w K (ls.getD []) sub) ∧ FsCellsK w K cs rest
  | _, _ => False
def FsAtK (w : World) (K : Nat → Prop) (v : Value) (F : FS) : Prop := ∃ ls, ArrAt w K 8 v ls ∧ FsCellsK w K (ls.getD []) F
theorem FsCellsK.ext {C K K' : Nat → Prop} {w w' : World} (he : Ext C w w') (hK : ∀ b, b < w.heap.size → K b → ¬ C b) (hm : ∀ b, K b → K' b) : ∀ {F : FS} {ls : List (List Value)}, FsCellsK w K ls F → FsCellsK w' K' ls F := by
  intro F
  induction F with
  | nil => intro ls h; cases ls with
    | nil => trivial
    | cons c cs => exact h.elim
  | cons h sub rest ihs ihr =>
    intro ls hh
    cases ls with
    | nil => exact hh.elim
    | cons c cs =>
      obtain ⟨⟨sv, l, h1, h2, h3⟩, h4⟩ := hh
      exact ⟨⟨sv, l, h1, (h2.ext he hK).mono hm, ihs h3⟩, ihr h4⟩
theorem FsAtK.ext {C K K' : Nat → Prop} {w w' : World} (he : Ext C w w') (hK : ∀ b, b < w.heap.size → K b → ¬ C b) (hm : ∀ b, K b → K' b) {v : Value} {F : FS} (h : FsAtK w K v F) : FsAtK w' K' v F := by
  obtain ⟨ls, h1, h2⟩ := h; exact ⟨ls, (h1.ext he hK).mono hm, h2.ext he hK hm⟩
theorem FsCellsK.all {K : Nat → Prop} {w : World} : ∀ {F : FS} {ls : List (List Value)}, FsCellsK w K ls F → FsCells w ls F := by
  intro F
  induction F with
  | nil => intro ls h; cases ls with
    | nil => trivial
    | cons c cs => exact h.elim
  | cons h sub rest ihs ihr =>
    intro ls hh
    cases ls with
    | nil => exact hh.elim
    | cons c cs =>
      obtain ⟨⟨sv, l, h1, h2, h3⟩, h4⟩ := hh
      exact ⟨⟨sv, l, h1, h2.mono (fun _ _ => trivial), ihs h3⟩, ihr h4⟩
theorem FsAtK.all {K : Nat → Prop} {w : World} {v : Value} {F : FS} (h : FsAtK w K v F) : FsAt w v F := by
  obtain ⟨ls, h1, h2⟩ := h; exact ⟨ls, h1.mono (fun _ _ => trivial), h2.all⟩
/-- What the fields are, once made: their rows at base and above. -/
def FldsV (w : World) (base : Nat) : List FSrc → List Value → Prop
  | [], [] => True
  | x :: r, v :: vs => (∃ sv, v = .agg (x.h.cells ++ [sv]).toArray ∧ FsAtK w (base ≤ ·) sv x.subF) ∧ FldsV w base r vs
  | _, _ => False
theorem FldsV.ext {w w' : World} {base : Nat} (he : Ext none1 w w') : ∀ {xs : List FSrc} {vs : List Value}, FldsV w base xs vs → FldsV w' base xs vs
  | [], [], _ => trivial
  | x :: r, v :: vs, h => ⟨by obtain ⟨sv, h1, h2⟩ := h.1; exact ⟨sv, h1, h2.ext he (fun _ _ _ h => h) (fun _ h => h)⟩, FldsV.ext he h.2⟩
  | [], _ :: _, h => h.elim
  | _ :: _, [], h => h.elim
theorem FldsV.len {w : World} {base : Nat} : ∀ {xs : List FSrc} {vs : List Value}, FldsV w base xs vs → vs.length = xs.length ∧ ∀ v ∈ vs, v.cells.size = 8
  | [], [], _ => ⟨rfl, by simp⟩
  | x :: r, v :: vs, h => by
    obtain ⟨h1, h2⟩ := FldsV.len h.2
    obtain ⟨sv, rfl, _⟩ := h.1
    refine ⟨by simp [h1], fun u hu => ?_⟩
    rcases List.mem_cons.1 hu with rfl | hu
    · simp [Value.cells]
    · exact h2 u hu
  | [], _ :: _, h => h.elim
  | _ :: _, [], h => h.elim
def SubC (P : Program) (g : Nat) (F : FS) : Prop := ∀ w, Ret P g #[] w fun v w' => FsAtK w' (w.heap.size ≤ ·) v F ∧ Ext none1 w w'
def srcOk (P : Program) : List FSrc → Prop
  | [] => True
  | x :: r => psOk x.ps = true ∧ (∀ g F, x.sub = some (g, F) → SubC P g F) ∧ srcOk P r
theorem FsAtK.nil (w : World) (K : Nat → Prop) : FsAtK w K (.slice none 0 0) .nil := ⟨none, rfl, trivial⟩
theorem endS_ge : ∀ (xs : List FSrc) (t : Nat), t ≤ endS xs t
  | [], t => Nat.le_refl _
  | x :: r, t => Nat.le_trans (Nat.le_add_right _ _) (endS_ge r (t + x.sz))
theorem slotsS_len : ∀ (xs : List FSrc) (t : Nat), (slotsS xs t).length = xs.length
  | [], _ => rfl
  | x :: r, t => by simp [slotsS, slotsS_len r]
theorem stp_build {P : Program} {f : Nat → Value} {ty T : TypeId} {w : World} {K : Value → World → Prop} {ps : List (Nat × Operand)} (h : ps ≠ []) : stp P f (.build T ps.toArray) ty w K = optK (bld? P T (ps.map fun p => (p.1, evF f p.2))) fun v => K v w := by
  cases ps with
  | nil => exact absurd rfl h
  | cons p r => simp only [stp]
theorem psOp_eval (f : Nat → Value) (ps : List (Nat × Int)) : (psOp ps).map (fun p => (p.1, evF f p.2)) = ps.map fun p => (p.1, Value.int .i64 p.2) := by simp [psOp, evF]
def MsgC (P : Program) (g : Nat) (F : FS) (fx : Int) : Prop := ∀ w, Ret P g #[] w fun v w' => ∃ fv, v = .agg #[fv, .int .i64 fx] ∧ FsAt w' fv F ∧ Ext none1 w w'
theorem dense_bsl : ∀ (sl : List Nat) (k : Nat), denseFrom k ((sl.zipIdx k).map fun p => (p.2, Operand.tmp p.1)) = true
  | [], _ => rfl
  | s :: r, k => by simp only [List.zipIdx_cons, List.map_cons, denseFrom, beq_self_eq_true, Bool.true_and]; exact dense_bsl r (k + 1)
theorem bsl_vals (f : Nat → Value) : ∀ (sl : List Nat) (k : Nat), ((sl.zipIdx k).map fun p => (p.2, Operand.tmp p.1)).map (fun p => evF f p.2) = sl.map f
  | [], _ => rfl
  | s :: r, k => by simp only [List.zipIdx_cons, List.map_cons, bsl_vals f r (k + 1)]; rfl
theorem allSz_of {s : Nat} : ∀ {l : List Value}, (∀ v ∈ l, v.cells.size = s) → allSz s l = true
  | [], _ => rfl
  | v :: l, h => by simp only [allSz, h v List.mem_cons_self, beq_self_eq_true, Bool.true_and]; exact allSz_of fun u hu => h u (List.mem_cons_of_mem _ hu)
theorem flds_cells {w : World} {base : Nat} : ∀ {xs : List FSrc} {vs : List Value}, FldsV w base xs vs → ∃ rows : List (List Value), vs = rows.map (fun c => Value.agg c.toArray) ∧ FsCellsK w (base ≤ ·) rows (mkFS xs) ∧ ∀ c ∈ rows, c.length = 8
  | [], [], _ => ⟨[], rfl, trivial, by simp⟩
  | x :: r, v :: vs, h => by
    obtain ⟨rows, h1, h2, h3⟩ := flds_cells h.2
    obtain ⟨sv, rfl, ls, ha, hc⟩ := h.1
    refine ⟨(x.h.cells ++ [sv]) :: rows, by rw [h1]; rfl, ⟨⟨sv, ls, rfl, ha, hc⟩, h2⟩, fun c hc' => ?_⟩
    rcases List.mem_cons.1 hc' with rfl | hc'
    · simp
    · exact h3 c hc'
  | [], _ :: _, h => h.elim
  | _ :: _, [], h => h.elim
section
variable {P : Program} {E : Env} (ht : TyK P E)
include ht
theorem bld_field {ps : List (Nat × Int)} (hok : psOk ps = true) : bld? P E.t_spec_Field (ps.map fun p => (p.1, Value.int .i64 p.2)) = some (.agg ((ps.foldl (fun h p => h.set p.1 p.2) FH.zero).cells ++ [Value.slice none 0 0]).toArray) := by
  have := fill_ps ps FH.zero (Value.slice none 0 0) [] hok
  rw [List.append_nil] at this
  have hz : zeroOf P E.t_spec_Field = some (.agg zField) := ht.zF
  have hp : places P E.t_spec_Field = some pl8 := ht.pF8
  simp only [bld?, hz, hp]
  show (Instr.fill (fun i => pl8[i]?) zField _).map Value.agg = _
  rw [zField_eq, this]
  rfl
theorem bld_fieldS {ps : List (Nat × Int)} {sv : Value} (hok : psOk ps = true) (hs : sv.cells = #[sv]) : bld? P E.t_spec_Field (ps.map (fun p => (p.1, Value.int .i64 p.2)) ++ [(7, sv)]) = some (.agg ((ps.foldl (fun h p => h.set p.1 p.2) FH.zero).cells ++ [sv]).toArray) := by
  have := fill_ps ps FH.zero (Value.slice none 0 0) [(7, sv)] hok
  have hz : zeroOf P E.t_spec_Field = some (.agg zField) := ht.zF
  have hp : places P E.t_spec_Field = some pl8 := ht.pF8
  simp only [bld?, hz, hp]
  show (Instr.fill (fun i => pl8[i]?) zField _).map Value.agg = _
  rw [zField_eq, this, fill_one (by omega) hs (by simp)]
  rfl
theorem gen_sound {base : Nat} : ∀ (xs : List FSrc) (t : Nat) (f : Nat → Value) (w : World) (rest : List Ro) (R : (Nat → Value) → World → Prop), srcOk P xs → (∀ x ∈ xs, x.ps ≠ []) → base ≤ w.heap.size →
    (∀ f' w', (∀ s, s < t → f' s = f s) → Ext none1 w w' → FldsV w' base xs ((slotsS xs t).map f') → regW P R rest f' w') → regW P R (genSr E xs t ++ rest) f w := by
  intro xs
  induction xs with
  | nil => intro t f w rest R _ _ _ h; exact h f w (fun _ _ => rfl) (Ext.refl _ _) trivial
  | cons x r ih =>
    intro t f w rest R hok hne hbs h
    obtain ⟨hps, hsub, hrest⟩ := hok
    have hxne := hne x List.mem_cons_self
    have hne' : ∀ y ∈ r, y.ps ≠ [] := fun y hy => hne y (List.mem_cons_of_mem _ hy)
    have hpo : psOp x.ps ≠ [] := by intro h0; apply hxne; simpa [psOp] using h0
    cases hs : x.sub with
    | none =>
      have e1 : genSr E (x :: r) t ++ rest = ⟨none, some t, .build E.t_spec_Field (psOp x.ps).toArray, E.t_spec_Field⟩ :: (genSr E r (t + 1) ++ rest) := by simp [genSr, FSrc.ro, FSrc.sz, hs]
      rw [e1, regW_plain, stp_build hpo, psOp_eval, bld_field ht hps, optK_some]
      refine ih (t + 1) _ w rest R hrest hne' hbs ?_
      intro f' w' hk he hv
      refine h f' w' (fun s hs' => by rw [hk s (by omega), updO_some, upd_apply, if_neg (by omega)]) he ?_
      have e2 : slotsS (x :: r) t = t :: slotsS r (t + 1) := by simp [slotsS, FSrc.sz, hs]
      rw [e2, List.map_cons]
      refine ⟨⟨.slice none 0 0, ?_, ?_⟩, hv⟩
      · rw [hk t (by omega), updO_some, upd_apply, if_pos rfl]; rfl
      · have : x.subF = .nil := by simp [FSrc.subF, hs]
        rw [this]; exact FsAtK.nil w' _
    | some gF =>
      obtain ⟨g, F⟩ := gF
      have hSC := hsub g F hs
      have e1 : genSr E (x :: r) t ++ rest = ⟨none, some t, .call { callee := .value (.func g), args := #[], argTypes := #[] }, E.t_l_spec_Field⟩ :: ⟨none, some (t + 1), .build E.t_spec_Field (psOp x.ps ++ [(7, Operand.tmp t)]).toArray, E.t_spec_Field⟩ :: (genSr E r (t + 2) ++ rest) := by
        simp [genSr, FSrc.ro, FSrc.sz, hs]
      rw [e1, regW_plain, stp_call]
      refine Ret.mono (R := fun v w' => FsAtK w' (w.heap.size ≤ ·) v F ∧ Ext none1 w w') (by simpa using hSC w) ?_
      rintro sv w1 ⟨hF, he1⟩
      have hsv : sv.cells = #[sv] := by
        obtain ⟨ls, ha, _⟩ := hF
        obtain ⟨a, c, rfl, _⟩ := ha.form
        rfl
      rw [regW_plain, stp_build (by simp), List.map_append, psOp_eval]
      have e3 : List.map (fun p : Nat × Operand => (p.1, evF (updO f (some t) sv) p.2)) [(7, Operand.tmp t)] = [(7, sv)] := by simp
      rw [e3, bld_fieldS ht hps hsv, optK_some]
      refine ih (t + 2) _ w1 rest R hrest hne' (Nat.le_trans hbs he1.size) ?_
      intro f' w' hk he hv
      refine h f' w' (fun s hs' => by rw [hk s (by omega)]; simp only [updO_some, upd_apply]; rw [if_neg (by omega), if_neg (by omega)]) (he1.trans he) ?_
      have e2 : slotsS (x :: r) t = (t + 1) :: slotsS r (t + 2) := by simp [slotsS, FSrc.sz, hs]
      rw [e2, List.map_cons]
      refine ⟨⟨sv, ?_, ?_⟩, hv⟩
      · rw [hk (t + 1) (by omega)]; simp only [updO_some, upd_apply, if_true]; rfl
      · have : x.subF = F := by simp [FSrc.subF, hs]
        rw [this]; exact hF.ext he (fun _ _ _ h => h) (fun b hb => Nat.le_trans hbs hb)
/-- the slice of the fields that were made -/
theorem bsl_sound {xs : List FSrc} {t base : Nat} {f : Nat → Value} {w : World} {K : Value → World → Prop} {ty : TypeId} (hx : xs ≠ []) (hn : xs.length ≤ 1000) (hbs : base ≤ w.heap.size) (hv : FldsV w base xs ((slotsS xs t).map f))
    (h : ∀ v w', FsAtK w' (base ≤ ·) v (mkFS xs) → Ext none1 w w' → K v w') : stepF P f (.buildSlice E.t_l_spec_Field xs.length (bslOp (slotsS xs t))) ty w K := by
  obtain ⟨h1, h2⟩ := hv.len
  have hx0 : 0 < xs.length := by cases xs with | nil => exact absurd rfl hx | cons => simp
  have hvals : (bslOp (slotsS xs t)).toList.map (fun p => evF f p.2) = (slotsS xs t).map f := by
    simp only [bslOp]
    exact bsl_vals f _ 0
  rw [st_bsl ht.gF (by omega) (by simp only [bslOp]; exact dense_bsl _ 0) (by simp [bslOp, slotsS_len]) hx0 (by omega) (by rw [hvals]; exact allSz_of h2)]
  rw [hvals]
  obtain ⟨rows, hr, hc, h8⟩ := flds_cells hv
  rw [hr] at h1 ⊢
  simp at h1
  have hE := (Ext.refl none1 w).alloc (.cells (flat (rows.map fun c => Value.agg c.toArray)).toArray E.t_spec_Field)
  refine h _ _ ⟨some rows, ⟨w.heap.size, 0, xs.length, by rw [h1], hbs, ⟨by omega, by omega⟩, ?_⟩, hc.ext hE (fun _ _ _ h => h) (fun _ h => h)⟩ hE
  intro i c hi
  refine ⟨h8 c (List.mem_of_getElem? hi), fun j u hj => ?_⟩
  rw [cell_of_blk alloc_new, Nat.zero_add, List.getElem?_toArray]
  have hsz : ∀ v ∈ (rows.map fun c => Value.agg c.toArray), v.cells.size = 8 := by
    intro v hv'
    obtain ⟨c', hc', rfl⟩ := List.mem_map.1 hv'
    simpa [Value.cells] using h8 c' hc'
  have hj8 : j < 8 := by have := (List.getElem?_eq_some_iff.1 hj).1; rw [h8 c (List.mem_of_getElem? hi)] at this; exact this
  rw [flat_get (by omega) hsz, show (i * 8 + j) / 8 = i by omega, show (i * 8 + j) % 8 = j by omega]
  simp [hi, Value.cells, hj]
theorem sub_sound {g nt : Nat} {xs : List FSrc} (hI : FnIs P g nt [.t 0] (irSub E xs)) (hx : xs ≠ []) (hn : xs.length ≤ 1000) (hok : srcOk P xs) (hne : ∀ x ∈ xs, x.ps ≠ []) : SubC P g (mkFS xs) := by
  intro w
  refine hI.call (args := []) (by simp) ?_
  simp only [irSub, cw_seq, cw_reg, regW_plain, stp_assign, thenF_normal, regW_nil]
  refine gen_sound ht (base := w.heap.size) xs 1 _ w _ _ hok hne (Nat.le_refl _) ?_
  intro f' w' hk he hv
  rw [regW_plain, stp_buildSlice]
  refine bsl_sound ht hx hn he.size hv ?_
  intro v w2 hF he2
  simp
  exact ⟨hF, he.trans he2⟩
theorem bld_msg (v : Value) (hv : v.cells = #[v]) (fx : Int) : bld? P E.t_spec_Message [(1, .int .i64 fx), (0, v)] = some (.agg #[v, .int .i64 fx]) := by
  have hz := ht.zM
  have hp := ht.pM
  have hi : (Value.int .i64 fx).cells = #[Value.int .i64 fx] := rfl
  have hc : (Value.agg #[Value.slice none 0 0, .int .i64 0]).cells = #[Value.slice none 0 0, .int .i64 0] := rfl
  simp [bld?, hz, hp, Instr.fill, hi, hc, hv]
theorem msg_sound {g nt : Nat} {xs : List FSrc} {fx : Int} (hI : FnIs P g nt [.c 0 E.t_spec_Message] (irMsg E xs fx)) (hx : xs ≠ []) (hn : xs.length ≤ 1000) (hok : srcOk P xs) (hne : ∀ x ∈ xs, x.ps ≠ []) : MsgC P g (mkFS xs) fx := by
  intro w
  refine hI.call (args := []) (by simp) ?_
  have hzM : zeroOf P E.t_spec_Message = some (.agg #[.slice none 0 0, .int .i64 0]) := ht.zM
  simp only [irMsg, cw_seq, cw_reg, regW_plain, stp_alloc, hzM, optK_some, thenF_normal, regW_nil]
  have hE := (Ext.refl none1 w).alloc (.cells (Value.agg #[.slice none 0 0, .int .i64 0]).cells E.t_spec_Message)
  have hb : (w.alloc (.cells (Value.agg #[.slice none 0 0, .int .i64 0]).cells E.t_spec_Message)).heap[w.heap.size]? = some (.cells #[.slice none 0 0, .int .i64 0] E.t_spec_Message (0, 0)) := alloc_new
  refine gen_sound ht (base := w.heap.size + 1) xs 1 _ _ _ _ hok hne (by simp) ?_
  intro f' w' hk he hv
  rw [regW_plain, stp_buildSlice]
  refine bsl_sound ht hx hn (Nat.le_trans (by simp) he.size) hv ?_
  intro v w2 hF he2
  have hf0 : f' 0 = .pointer (some ⟨w.heap.size, 0, none⟩) := by rw [hk 0 (by omega)]; simp
  have he0 := endS_ge xs 1
  have hv1 : v.cells = #[v] := by
    obtain ⟨ls, ha, _⟩ := hF
    obtain ⟨a, c, rfl, _⟩ := ha.form
    rfl
  have hvo : v.oneCell' = true := by
    obtain ⟨ls, ha, _⟩ := hF
    obtain ⟨a, c, rfl, _⟩ := ha.form
    rfl
  have hb2 := he2.old (he.old hb (fun h => h)) (fun h => h)
  have z0 : (0 = endS xs 1) = False := by simp; omega
  have z1 : ∀ k, (0 = endS xs 1 + k) = False := by intro k; simp; omega
  have hx2 : Ext none1 w w2 := hE.trans (he.trans he2)
  have ho : allOne [v, Value.int .i64 fx] = true := by simp only [allOne, hvo, Bool.true_and]; rfl
  have hov : over #[Value.slice none 0 0, .int .i64 0] 0 [v, Value.int .i64 fx] = #[v, .int .i64 fx] := by simp [over]
  simp [bld_msg ht v hv1 fx, hf0, z0, z1, store_agg ht.kM, ho, putK_blk hb2, hov]
  have hb3 : (w2.setBlk w.heap.size (.cells #[v, .int .i64 fx] E.t_spec_Message (0, 0))).heap[w.heap.size]? = some (.cells #[v, .int .i64 fx] E.t_spec_Message (0, 0)) := setBlk_same hb2
  have hx3 : Ext none1 w (w2.setBlk w.heap.size (.cells #[v, .int .i64 fx] E.t_spec_Message (0, 0))) := hx2.setBlk (.inl (Nat.le_refl _)) _
  have lT := cellsFrom_row hb3
  simp at lT
  simp [ld_agg ht.kM, lT]
  exact ⟨(hF.ext (K' := All) ((Ext.refl (fun b => b = w.heap.size) w2).setBlk (.inr rfl) _) (fun b _ hb h => by omega) (fun _ _ => trivial)).all, hx3⟩
end
end Go.Kg

set_option linter.unusedSimpArgs false
set_option linter.unusedVariables false
namespace Go.Kg
open Go
section
variable {P : Program} {E : Env} (ht : TyF P E)
include ht
end
end Go.Kg

set_option linter.unusedSimpArgs false
set_option linter.unusedVariables false
namespace Go.Kg
open Go
/-- s[:l] of bytes -/
theorem BytesAt.upTo {w : World} {K : Nat → Prop} {a : Option Addr} {n c : Nat} {s : List UInt8} (h : BytesAt w K (.slice a n c) s) {l : Nat} (hl : l ≤ s.length) : BytesAt w K (.slice (if c = 0 then a else a.map (·.add 0)) l c) (s.take l) := by
  rcases h with ⟨⟨a', hv⟩, rfl⟩ | ⟨b, o, c', hv, h2, hk, h3⟩
  · cases hv
    have : l = 0 := by simpa using hl
    subst this
    exact .inl ⟨⟨a, by simp⟩, by simp⟩
  · cases hv
    refine .inr ⟨b, o, c, by simp [Nat.min_eq_left hl, Addr.add_mk], by simp; omega, fun h => hk (by rintro rfl; simp at h), ?_⟩
    intro i x hx
    rw [List.getElem?_take] at hx
    split at hx
    · exact h3 _ _ hx
    · cases hx
section
variable {P : Program} {E : Env} (ht : TyK P E) (hs : SpecFns P E)
include ht hs
end
end Go.Kg

set_option linter.unusedSimpArgs false
set_option linter.unusedVariables false
set_option linter.unusedSectionVars false
namespace Go.Kg
open Go
end Go.Kg

set_option linter.unusedSimpArgs false
set_option linter.unusedVariables false
set_option linter.unusedSectionVars false
namespace Go.Kg
open Go
end Go.Kg

set_option linter.unusedSimpArgs false
set_option linter.unusedVariables false
namespace Go.Kg
open Go
def irFnNew (E : Env) (fMax fMsg fNew : Nat) : Ir :=
  .seq (.reg [⟨none, some 2, .assign (.const (.bool false)), E.tB⟩])
  (.seq (.reg [⟨none, some 5, .call { callee := .value (.func fMax), args := #[], argTypes := #[] }, E.tInt⟩, ⟨none, some 3, .assign (.tmp 5), E.tInt⟩])
  (.seq (.seq (.reg [⟨none, some 6, .move (.tmp 3), E.tInt⟩, ⟨none, some 7, .binOp .lss E.tInt (.tmp 6) (.const (.int .i64 0)) E.tInt, E.tB⟩])
    (.cond 7 (.seq (.reg [⟨none, some 2, .assign (.const (.bool false)), E.tB⟩]) .ret) .skip))
  (.seq (.reg [⟨none, some 8, .call { callee := .value (.func fMsg), args := #[], argTypes := #[] }, E.t_spec_Message⟩, ⟨none, some 4, .alloc E.t_spec_Message, E.tNil⟩, ⟨none, none, .store E.t_spec_Message (.tmp 4) (.tmp 8), E.tNil⟩])
  (.seq (.regH [
        (true, ⟨none, some 9, .move (.tmp 0), E.tU8⟩),
        (true, ⟨none, some 10, .move (.tmp 3), E.tInt⟩),
        (true, ⟨none, some 13, .load E.t_spec_Message (.tmp 4), E.t_spec_Message⟩),
        (true, ⟨none, some 14, .move (.tmp 0), E.tU8⟩),
        (true, ⟨none, some 15, .move (.tmp 3), E.tInt⟩),
        (true, ⟨none, some 17, .fieldAddr E.t_spec_Message (.tmp 4) 0, E.tNil⟩),
        (true, ⟨none, some 18, .load E.t_l_spec_Field (.tmp 17), E.t_l_spec_Field⟩),
        (false, ⟨none, some 11, .call { callee := .value (.func E.f_laws_version), args := #[.tmp 9, .tmp 10], argTypes := #[E.tU8, E.tInt] }, E.tInt⟩),
        (false, ⟨none, some 12, .call { callee := .value (.func fNew), args := #[.tmp 11], argTypes := #[E.tInt] }, E.tBs⟩),
        (false, ⟨none, some 16, .call { callee := .value (.func E.f_laws_version), args := #[.tmp 14, .tmp 15], argTypes := #[E.tU8, E.tInt] }, E.tInt⟩),
        (false, ⟨none, some 19, .call { callee := .value (.func E.f_spec_Default), args := #[.tmp 18], argTypes := #[E.t_l_spec_Field] }, E.t_spec_Tree⟩),
        (false, ⟨none, some 20, .call { callee := .value (.func E.f_spec_Write), args := #[.tmp 13, .tmp 16, .tmp 19], argTypes := #[E.t_spec_Message, E.tInt, E.t_spec_Tree] }, E.tBs⟩),
        (false, ⟨none, some 21, .call { callee := .value (.func E.f_spec_Same), args := #[.tmp 12, .tmp 20], argTypes := #[E.tBs, E.tBs] }, E.tB⟩),
        (true, ⟨none, some 2, .assign (.tmp 21), E.tB⟩)]) .ret))))
section
variable {P : Program} {E : Env}
structure NewLaw (P : Program) (E : Env) (fMax fMsg fNew : Nat) (M : Nat) (F : FS) (fx : Int) (N : Nat → List UInt8) : Prop where
  max : ∀ w, Ret P fMax #[] w fun u w' => u = .int .i64 M ∧ Ext none1 w w'
  msg : MsgC P fMsg F fx
  new : ∀ v : Nat, v ≤ M → SpC P E.tU8 fNew [.int .i64 v] (N v)
  hM : M < 32768
  ok : F.okAll
  len : F.len ≤ 1000
  same : ∀ v : Nat, v ≤ M → partS F v (flexAt fx v) F.dflT = N v
  short : ∀ v : Nat, v ≤ M → (N v).length ≤ 1099511627776
theorem c_FnNew (ht : TyK P E) (hs : SpecFns P E) (hDf : FnIs P E.f_spec_Default nt_spec_Default (rs_spec_Default E) (ir_spec_Default E)) (hVe : FnIs P E.f_laws_version nt_laws_version (rs_laws_version E) (ir_laws_version E))
    {fMax fMsg fNew M g nt : Nat} {F : FS} {fx : Int} {N : Nat → List UInt8} (hL : NewLaw P E fMax fMsg fNew M F fx N) (hnt : 1 ≤ nt) (hI : FnIs P g nt [.t 2] (irFnNew E fMax fMsg fNew)) (n : Nat) (hn : n < 256) (w : World) :
    Ret P g #[.int .u8 n] w fun u w' => u = .bool true ∧ Ext none1 w w' := by
  have hvM : verOf n M ≤ M := by have := Nat.mod_lt n (show 0 < M + 1 by omega); simp only [verOf]; omega
  have hV := fun w => c_version hVe ht.iU8 ht.iInt n M hn hL.hM w
  refine hI.call (args := [_]) hnt ?_
  simp [irFnNew]
  refine (hL.max w).mono ?_
  rintro _ w1 ⟨rfl, he1⟩
  simp
  refine cw_false (by simp) ?_
  simp
  refine (hL.msg w1).mono ?_
  rintro _ w2 ⟨fv, rfl, hF, he2⟩
  have hzM : zeroOf P E.t_spec_Message = some (.agg #[.slice none 0 0, .int .i64 0]) := ht.zM
  have hzc : (Value.agg #[.slice none 0 0, .int .i64 0]).cells = #[.slice none 0 0, .int .i64 0] := rfl
  have hvo : fv.oneCell' = true := by
    obtain ⟨ls, ha, _⟩ := hF
    obtain ⟨a, c, rfl, _⟩ := ha.form
    rfl
  have ho : allOne [fv, Value.int .i64 fx] = true := by simp only [allOne, hvo, Bool.true_and]; rfl
  have hov : over #[Value.slice none 0 0, .int .i64 0] 0 [fv, Value.int .i64 fx] = #[fv, .int .i64 fx] := by simp [over]
  simp [hzM, hzc, store_agg ht.kM, ho, putK_blk alloc_new, hov]
  generalize hw3 : (w2.alloc (.cells #[.slice none 0 0, .int .i64 0] E.t_spec_Message)).setBlk w2.heap.size (.cells #[fv, .int .i64 fx] E.t_spec_Message (0, 0)) = w3
  have hb3 : w3.heap[w2.heap.size]? = some (.cells #[fv, .int .i64 fx] E.t_spec_Message (0, 0)) := by subst hw3; exact setBlk_same alloc_new
  have he3 : Ext none1 w2 w3 := by subst hw3; exact ((Ext.refl none1 w2).alloc _).setBlk (.inl (Nat.le_refl _)) _
  have lM : ∀ wx, Ext none1 w3 wx → cellsFrom wx ⟨w2.heap.size, 0, none⟩ 0 2 = some [fv, .int .i64 fx] := by
    intro wx hx
    have := cellsFrom_row (hx.old hb3 (fun h => h))
    simpa using this
  have cM : ∀ wx, Ext none1 w3 wx → wx.cell? ⟨w2.heap.size, 0, none⟩ = some fv := by
    intro wx hx
    rw [cell_of_blk (hx.old hb3 (fun h => h))]; rfl
  have hD := (Ext.refl none1 w3).drew
  have hE := he1.trans (he2.trans he3)
  refine cw_regH (Ext none1 w3) hD ?_
  have r3 := Ext.refl none1 w3
  simp +contextual [ld_agg ht.kM, lM, lM w3.drew hD, ht.m0, Addr.add_mk, ld_scl ht.kLF, cM, cM w3 r3]
  refine (hV w3.drew).mono ?_
  rintro _ w4 ⟨rfl, rfl⟩
  simp [hD]
  refine (by simpa using hL.new (verOf n M) hvM w3.drew : Ret P _ _ _ _).mono ?_
  intro v12 w5 h5
  have hD5 := hD.trans h5.2
  simp [hD5]
  refine (hV w5).mono ?_
  rintro _ w6 ⟨rfl, rfl⟩
  simp [hD5]
  refine (sp_Default ht.toTyD hDf F hL.ok hL.len w6 fv (hF.ext (he3.trans hD5))).mono ?_
  rintro _ w7 ⟨lv, rfl, hT, he7⟩
  have hD7 := hD5.trans he7
  simp [hD7]
  have hb := hL.short _ hvM
  have hW := sp_Write ht.toTyM hs (fx := fx) (ver := (verOf n M : Int)) hL.ok hL.len w7 fv _ _ (hF.ext (he3.trans hD7)) hT.tree (by rw [hL.same _ hvM]; exact hb)
  refine hW.mono ?_
  intro v8 w8 h8
  rw [hL.same _ hvM] at h8
  have hD8 := hD7.trans h8.2
  simp [hD8]
  refine (sp_Same ht.toTyG hs w8 All All v12 v8 _ _ ((own_bytes h5.1).ext (K := All) (he7.trans h8.2) (fun _ _ _ h => h)) (own_bytes h8.1) hb).mono ?_
  rintro _ w9 ⟨rfl, he9⟩
  have hD9 := hD8.trans he9
  simp [hD9]
  exact hE.trans hD9
end
end Go.Kg
