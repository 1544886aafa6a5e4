/- What is proved here: how the code of the messages runs, in general: a semantics of calls by their texts, and contracts of the functions of kbin and of the reference. No condition but those that each theorem names. -/
import Derived.ProofKit
import Derived.Test.YthbigiookgemhaaDoorKc
set_option linter.unusedSectionVars false
set_option linter.unusedSimpArgs false
set_option linter.unusedVariables false
set_option linter.unusedSimpArgs false
set_option linter.unusedVariables false
namespace Go.Kg
open Go

/-! ## part -/
def plainE (ver : Int) (flex : Bool) (t : Tr) (x : FE × Nat) : List UInt8 := if x.1.h.tag < 0 ∧ x.1.h.has ver = true then fieldS x.1 ver flex (t.at x.2) else []
def knE (ver : Int) (flex : Bool) (t : Tr) (k : Nat) (x : FE × Nat) : List (Nat × List UInt8) := if x.1.h.tag = k ∧ usualS x.1 (t.at x.2) = false then [(k, fieldS x.1 ver flex (t.at x.2))] else []
def tagE (x : Nat × List UInt8) : List UInt8 := tagS x.1 x.2
def entsL (l : List FE) (ver : Int) (flex : Bool) (t : Tr) : List (Nat × List UInt8) :=
  ((List.range (knownL (l.map (·.h)))).flatMap fun k => l.zipIdx.flatMap (knE ver flex t k)) ++ (unkS (knownL (l.map (·.h))) t.u).map fun x => (x.1, x.2.take 32767)

theorem partL_eq (l : List FE) (ver : Int) (flex : Bool) (t : Tr) : partL l ver flex t =
    if flex then l.zipIdx.flatMap (plainE ver flex t) ++ uvS (entsL l ver flex t).length ++ (entsL l ver flex t).flatMap tagE else l.zipIdx.flatMap (plainE ver flex t) := by
  have e1 : (fun (x : FE × Nat) => match x with | (x, i) => if x.h.tag < 0 ∧ x.h.has ver = true then fieldS x ver flex (t.at i) else []) = plainE ver flex t := by
    funext x; obtain ⟨x, i⟩ := x; rfl
  have e2 : ∀ k : Nat, (fun (x : FE × Nat) => match x with | (x, i) => if x.h.tag = k ∧ usualS x (t.at i) = false then [(k, fieldS x ver flex (t.at i))] else []) = knE ver flex t k := by
    intro k; funext x; obtain ⟨x, i⟩ := x; rfl
  unfold partL entsL
  simp only [e1, e2]
  rfl

theorem flatMap_takeS {α β : Type} (g : α → List β) (l : List α) (i : Nat) (x : α) (h : l[i]? = some x) : (l.take (i + 1)).flatMap g = (l.take i).flatMap g ++ g x := by
  rw [List.take_add_one, h]; simp
theorem flatMap_take_leS {α β : Type} (g : α → List β) (l : List α) (i : Nat) : ((l.take i).flatMap g).length ≤ (l.flatMap g).length := by
  have : l.flatMap g = (l.take i).flatMap g ++ (l.drop i).flatMap g := by rw [← List.flatMap_append, List.take_append_drop]
  rw [this, List.length_append]; omega

theorem own_bytesK {u8 : Nat} {w : World} {base : Nat} {v : Value} {s : List UInt8} (h : OwnB u8 w base v s) : BytesAt w (fun b => base ≤ b ∧ b < w.heap.size) v s := by
  have hb := fun b hb => Own.below h (b := b) hb
  rcases own_bytes h with h | ⟨b, o, c, rfl, h2, _, h3⟩
  · exact .inl h
  · exact .inr ⟨b, o, c, rfl, h2, fun _ => hb b rfl, h3⟩

def FieldC (P : Program) (E : Env) (x : FE) (sub : FS) (ver : Int) (flex : Bool) : Prop := ∀ w sv cs t, FsAt w sv sub → TreeAt w cs t → (fieldS x ver flex t).length ≤ 1099511627776 →
  Ret P E.f_spec_field #[.agg (x.h.cells ++ [sv]).toArray, .int .i64 ver, .bool flex, .agg cs.toArray] w fun v w' => Fresh E.tU8 w v w' (fieldS x ver flex t)
def HasC (P : Program) (E : Env) : Prop := ∀ (h : FH) sv (v : Int) w, Ret P E.f_spec_Field_has #[.agg (h.cells ++ [sv]).toArray, .int .i64 v] w fun u w' => u = .bool (h.has v) ∧ Ext none1 w w'
def UvC (P : Program) (E : Env) : Prop := ∀ n : Nat, n < 18446744073709551616 → SpC P E.tU8 E.f_spec_Uvarint [.int .u64 n] (uvS n)
def WholeC (P : Program) (E : Env) : Prop := ∀ (w : World) (K : Nat → Prop) (v : Value) (s : List UInt8), BytesAt w K v s → Ret P E.f_spec_whole #[v] w fun r w' => BytesAt w K r (s.take 32767) ∧ w' = w

/-- what stays through part -/
def PtB (fv : Value) (ver : Int) (flex : Bool) (b7 : Nat) (f : Nat → Value) : Prop := f 0 = fv ∧ f 1 = .int .i64 ver ∧ f 2 = .bool flex ∧ f 7 = .pointer (some ⟨b7, 0, none⟩)
def PtInv1 (u8 : Nat) (w1 : World) (fv : Value) (ver : Int) (flex : Bool) (b7 : Nat) (l : List FE) (t : Tr) (f : Nat → Value) (w' : World) : Prop :=
  ∃ i, i ≤ l.length ∧ f 23 = .int .i64 i ∧ f 22 = .int .i64 l.length ∧ f 21 = fv ∧ PtB fv ver flex b7 f ∧ f 10 = .slice none 0 0 ∧ f 11 = .int .i64 0 ∧ Fresh u8 w1 (f 9) w' ((l.zipIdx.take i).flatMap (plainE ver flex t))
def PtEnd1 (u8 : Nat) (w1 : World) (fv : Value) (ver : Int) (flex : Bool) (b7 : Nat) (l : List FE) (t : Tr) (f : Nat → Value) (w' : World) : Prop :=
  PtB fv ver flex b7 f ∧ f 10 = .slice none 0 0 ∧ f 11 = .int .i64 0 ∧ Fresh u8 w1 (f 9) w' (l.zipIdx.flatMap (plainE ver flex t))
def TgSt (u8 : Nat) (wp : World) (fv : Value) (ver : Int) (flex : Bool) (b7 : Nat) (v9 : Value) (ents : List (Nat × List UInt8)) (f : Nat → Value) (w' : World) : Prop :=
  PtB fv ver flex b7 f ∧ f 9 = v9 ∧ f 11 = .int .i64 ents.length ∧ Fresh u8 wp (f 10) w' (ents.flatMap tagE)

def Tg2 (u8 : Nat) (wp : World) (fv : Value) (ver : Int) (b7 : Nat) (v9 : Value) (l : List FE) (t : Tr) (K : Nat) (f : Nat → Value) (w' : World) : Prop :=
  ∃ k, k ≤ K ∧ f 52 = .int .i64 k ∧ f 51 = .int .i64 K ∧ TgSt u8 wp fv ver true b7 v9 ((List.range k).flatMap fun k => l.zipIdx.flatMap (knE ver true t k)) f w'
def Tg3 (u8 : Nat) (wp : World) (fv : Value) (ver : Int) (b7 : Nat) (v9 : Value) (l : List FE) (t : Tr) (K k : Nat) (f : Nat → Value) (w' : World) : Prop :=
  ∃ i, i ≤ l.length ∧ f 57 = .int .i64 i ∧ f 56 = .int .i64 l.length ∧ f 55 = fv ∧ f 14 = .int .i64 k ∧ f 52 = .int .i64 k ∧ f 51 = .int .i64 K ∧
    TgSt u8 wp fv ver true b7 v9 (((List.range k).flatMap fun k => l.zipIdx.flatMap (knE ver true t k)) ++ (l.zipIdx.take i).flatMap (knE ver true t k)) f w'
def Tg3End (u8 : Nat) (wp : World) (fv : Value) (ver : Int) (b7 : Nat) (v9 : Value) (l : List FE) (t : Tr) (K k : Nat) (f : Nat → Value) (w' : World) : Prop :=
  f 52 = .int .i64 k ∧ f 51 = .int .i64 K ∧ TgSt u8 wp fv ver true b7 v9 ((List.range (k + 1)).flatMap fun k => l.zipIdx.flatMap (knE ver true t k)) f w'
def Tg4 (fv : Value) (ver : Int) (b7 : Nat) (v9 v10 v11 : Value) (n k i KK b16 : Nat) (f : Nat → Value) : Prop :=
  f 57 = .int .i64 i ∧ f 56 = .int .i64 n ∧ f 55 = fv ∧ f 14 = .int .i64 k ∧ f 52 = .int .i64 k ∧ f 51 = .int .i64 KK ∧ PtB fv ver true b7 f ∧ f 9 = v9 ∧ f 11 = v11 ∧ f 10 = v10 ∧ f 16 = .pointer (some ⟨b16, 0, none⟩) ∧ f 15 = .int .i64 i
def Tg4A (fv : Value) (ver : Int) (b7 : Nat) (v9 v10 v11 : Value) (n k i KK b16 : Nat) (w3 : World) (p : Prop) (f : Nat → Value) (w' : World) : Prop :=
  ∃ b, f 73 = .bool b ∧ (b = true ↔ p) ∧ Tg4 fv ver b7 v9 v10 v11 n k i KK b16 f ∧ Ext none1 w3 w'
def Tg4B (u8 : Nat) (fv : Value) (ver : Int) (b7 : Nat) (v9 v10 v11 : Value) (n k i KK b16 : Nat) (w4 : World) (s : List UInt8) (f : Nat → Value) (w' : World) : Prop :=
  ∃ wa, Ext none1 w4 wa ∧ Fresh u8 wa (f 17) w' s ∧ Tg4 fv ver b7 v9 v10 v11 n k i KK b16 f
def Tg4C (u8 : Nat) (fv : Value) (ver : Int) (b7 : Nat) (v9 v11 : Value) (n k i KK b16 : Nat) (w2 : World) (s : List UInt8) (f : Nat → Value) (w' : World) : Prop :=
  ∃ v10, Fresh u8 w2 v10 w' s ∧ Tg4 fv ver b7 v9 v10 v11 n k i KK b16 f
def cutV (x : Nat × List UInt8) : Nat × List UInt8 := (x.1, x.2.take 32767)
def Tg5 (u8 : Nat) (w2 w4 : World) (fv : Value) (ver : Int) (b7 : Nat) (v9 v10q v100 : Value) (E1 U : List (Nat × List UInt8)) (f : Nat → Value) (w' : World) : Prop :=
  ∃ i v10, i ≤ U.length ∧ f 102 = .int .i64 i ∧ f 101 = .int .i64 U.length ∧ f 100 = v100 ∧ f 9 = v9 ∧ f 10 = v10 ∧ f 11 = .int .i64 ((E1 ++ (U.take i).map cutV).length : Nat) ∧ Fresh u8 w2 v10 w' ((E1 ++ (U.take i).map cutV).flatMap tagE) ∧ Grew w4 v10q w' v10
def Tg6 (fv : Value) (v9 v10 v11 v100 vb : Value) (n i b19 : Nat) (key : Nat) (f : Nat → Value) : Prop :=
  f 102 = .int .i64 i ∧ f 101 = .int .i64 n ∧ f 100 = v100 ∧ f 9 = v9 ∧ f 10 = v10 ∧ f 11 = v11 ∧ f 19 = .pointer (some ⟨b19, 0, none⟩) ∧ f 20 = vb
def Tg6S (fv : Value) (v9 v10 v11 v100 : Value) (n i b19 : Nat) (key : Nat) (wb : World) (cs : List Value) (T : Nat) (f : Nat → Value) (w' : World) : Prop :=
  ∃ vb, Tg6 fv v9 v10 v11 v100 vb n i b19 key f ∧ Ext none1 wb w' ∧ w'.heap[b19]? = some (.cells cs.toArray T (0, 0))
def Tg6A (fv : Value) (v9 v10 v11 v100 : Value) (n i b19 : Nat) (key : Nat) (w5 : World) (K : Nat → Prop) (s : List UInt8) (f : Nat → Value) (w' : World) : Prop :=
  ∃ vb, Tg6 fv v9 v10 v11 v100 vb n i b19 key f ∧ BytesAt w5 K vb s ∧ w' = w5
def Tg6B (u8 : Nat) (fv : Value) (v9 v11 v100 v10q : Value) (n i b19 : Nat) (key : Nat) (w2 w4 : World) (s : List UInt8) (f : Nat → Value) (w' : World) : Prop :=
  ∃ v10 vb, Tg6 fv v9 v10 v11 v100 vb n i b19 key f ∧ Fresh u8 w2 v10 w' s ∧ Grew w4 v10q w' v10
def Tg5End (u8 : Nat) (w2 : World) (v9 : Value) (ents : List (Nat × List UInt8)) (f : Nat → Value) (w' : World) : Prop :=
  f 9 = v9 ∧ f 11 = .int .i64 ents.length ∧ Fresh u8 w2 (f 10) w' (ents.flatMap tagE)
theorem uvS_pos (n : Nat) : 1 ≤ (uvS n).length := by rw [uvS_eq]; split <;> simp
theorem tagE_pos (x : Nat × List UInt8) : 1 ≤ (tagE x).length := by have := uvS_pos x.1; simp only [tagE, tagS, List.length_append]; omega
theorem ents_len : ∀ (l : List (Nat × List UInt8)), l.length ≤ (l.flatMap tagE).length
  | [] => by simp
  | x :: l => by have := ents_len l; have := tagE_pos x; simp only [List.length_cons, List.flatMap_cons, List.length_append]; omega

/-- The boxes of a field and of the tree, and a field taken out of its list. -/
theorem fs_elem {w w' : World} {fv : Value} {F : FS} {ver : Int} {flex : Bool} (hF : FsAt w fv F) (he : Ext none1 w w') {i : Nat} (hi : i < (F.list ver flex).length) :
    ∃ bb oo cc h s sv y, fv = .slice (some ⟨bb, oo, none⟩) (F.list ver flex).length cc ∧ (F.list ver flex)[i]? = some y ∧ y.h = h ∧ F.subs[i]? = some s ∧ FsAt w' sv s ∧ sv.oneCell' = true ∧
      cellsFrom w' ⟨bb, oo + i * 8, none⟩ 0 8 = some (h.cells ++ [sv]) := by
  obtain ⟨ls, ha, hc⟩ := hF.ext he
  have hlen : (ls.getD []).length = (F.list ver flex).length := by rw [hc.len, FS.list_len]
  cases ls with
  | none => simp at hlen; omega
  | some ls =>
    obtain ⟨bb, oo, cc, rfl, _, _, hx⟩ := ha
    simp only [Option.getD_some] at hlen hc
    obtain ⟨x, hxx⟩ : ∃ x, ls[i]? = some x := ⟨_, List.getElem?_eq_getElem (by omega)⟩
    obtain ⟨y, hy⟩ : ∃ y, (F.list ver flex)[i]? = some y := ⟨_, List.getElem?_eq_getElem hi⟩
    obtain ⟨h, s, sv, l, hh, hs, rfl, hsv, hsc⟩ := hc.get hxx
    obtain ⟨h', s', hh', _, hyy⟩ := FS.list_get hy
    rw [hh] at hh'
    cases hh'
    obtain ⟨sa, sc, hsv', _⟩ := hsv.form
    have hcf := cellsFrom_list0 (hx i _ hxx).2
    rw [FH.cells_len] at hcf
    exact ⟨bb, oo, cc, h, s, sv, y, by rw [hlen], hy, by rw [hyy], hs, ⟨l, hsv, hsc⟩, by rw [hsv']; rfl, hcf⟩

section
variable {P : Program} {E : Env} (ht : TyG P E)
include ht

set_option maxHeartbeats 1000000 in
theorem c_part (hI : FnIs P E.f_spec_part nt_spec_part (rs_spec_part E) (ir_spec_part E)) (hAt : AtC P E) (hUn : UnkC P E) (hKn : KnownC P E) (hHas : HasC P E) (hUv : UvC P E) (hWh : WholeC P E) (F : FS) (ver : Int) (flex : Bool)
    (hok : ∀ g ∈ F.heads, FH.ok g) (hlen : F.len ≤ 1000) (hsub : ∀ (i : Nat) y s, (F.list ver flex)[i]? = some y → F.subs[i]? = some s → FieldC P E y s ver flex ∧ UsC P E y s)
    (w : World) (fv : Value) (cs : List Value) (t : Tr) (hF : FsAt w fv F) (hT : TreeAt w cs t) (hsz : (partS F ver flex t).length ≤ 1099511627776) :
    Ret P E.f_spec_part #[fv, .int .i64 ver, .bool flex, .agg cs.toArray] w fun v w' => Fresh E.tU8 w v w' (partS F ver flex t) := by
  refine hI.call (args := [_, _, _, _]) (by simp [nt_spec_part]) ?_
  obtain ⟨tv, lv, uv, hcs, hs⟩ := tree_box hT
  subst hcs
  have hv : ∀ (a : Array Value), (Value.agg a).cells = a := fun a => rfl
  generalize hw1 : w.alloc (.cells [Value.int .i64 t.n, tv, .bool t.nul, lv, uv].toArray E.t_spec_Tree) = w1
  have hE : Ext none1 w w1 := by subst hw1; exact (Ext.refl none1 w).alloc _
  have hb1 : w1.heap[w.heap.size]? = some (.cells [Value.int .i64 t.n, tv, .bool t.nul, lv, uv].toArray E.t_spec_Tree (0, 0)) := by subst hw1; exact alloc_new
  have lT : ∀ wx, Ext none1 w1 wx → cellsFrom wx ⟨w.heap.size, 0, none⟩ 0 5 = some [Value.int .i64 t.n, tv, .bool t.nul, lv, uv] := by
    intro wx h'
    have := cellsFrom_row (h'.old hb1 (fun h => h))
    rw [show [Value.int .i64 t.n, tv, .bool t.nul, lv, uv].toArray.size = 5 by rfl] at this
    simpa using this
  have hF1 := hF.ext hE
  have hT1 := hT.ext hE
  obtain ⟨lsF, haF, hcF⟩ := hF1
  obtain ⟨aF, cF, rfl, _, hmaxF⟩ := haF.form
  have hF1 : FsAt w1 (.slice aF (lsF.getD []).length cF) F := ⟨lsF, haF, hcF⟩
  have hlenF : (lsF.getD []).length = (F.list ver flex).length := by rw [hcF.len, FS.list_len]
  have hl1000 : (F.list ver flex).length ≤ 1000 := by rw [FS.list_len]; exact hlen
  unfold partS at hsz ⊢
  rw [partL_eq] at hsz ⊢
  obtain ⟨Et, jt, hut, _, _⟩ := sliSz_spec ht.sF
  have hz : zeroOf P E.t_spec_Field = some (.agg zField) := ht.zF
  have hzz : zField.size = 8 := rfl
  have hzc : (Value.agg zField).cells = zField := rfl
  simp [ir_spec_part, rs_spec_part, hv, hw1, len_slice hut]
  rw [hlenF] at hF1 ⊢
  generalize hfv : Value.slice aF (F.list ver flex).length cF = fv at *
  have hlenfv : ∀ (wx : World) (KK : Value → World → Prop), lenK P E.t_l_spec_Field wx KK fv = KK (.int .i64 (F.list ver flex).length) wx := by
    intro wx KK; rw [← hfv]; simp [len_slice hut]
  have hkh : knownL ((F.list ver flex).map (·.h)) = knownL F.heads := by rw [FS.list_heads]
  generalize hL : F.list ver flex = L at *
  have hplain : (L.zipIdx.flatMap (plainE ver flex t)).length ≤ 1099511627776 := by
    revert hsz
    split
    · simp only [List.length_append]; intro h; omega
    · exact fun h => h
  refine cw_blockThen (PtEnd1 E.tU8 w1 fv ver flex w.heap.size L t) ?_ ?_
  · refine cw_loop (PtInv1 E.tU8 w1 fv ver flex w.heap.size L t) (fun f _ => match f 23 with | .int _ i => ((L.length : Int) - i).toNat | _ => 0) ?_ ?_
    · refine ⟨0, by omega, by simp, by simp, by simp, ⟨by simp, by simp, by simp, by simp⟩, by simp, by simp, ?_⟩
      simpa using Fresh.nil (Ext.refl none1 w1)
    · rintro f w' ⟨i, hi, h23, h22, h21, ⟨h0, h1, h2, h7⟩, h10, h11, hfr⟩
      simp [h23, h22]
      by_cases hlt : i < L.length
      · refine cw_true (by simp; omega) ?_
        obtain ⟨bb, oo, cc, h, s, sv, y, hfvv, hy, rfl, hss, hFs, hsv1, hcf⟩ := fs_elem (ver := ver) (flex := flex) hF1 hfr.2 (i := i) (by rw [hL]; exact hlt)
        rw [hL] at hfvv hy
        have hone : allOne (y.h.cells ++ [sv]) = true := FH.cells_one y.h hsv1
        have hcl := FH.cells_len y.h sv
        have hyz : L.zipIdx[i]? = some (y, i) := by rw [List.getElem?_zipIdx, hy]; simp
        have hnext := flatMap_takeS (plainE ver flex t) L.zipIdx i _ hyz
        have hle := flatMap_take_leS (plainE ver flex t) L.zipIdx (i + 1)
        rw [hnext, List.length_append] at hle
        have ei : IntKind.i64.wrap ((i : Int) + 1) = ((i + 1 : Nat) : Int) := by rw [i64_small (by omega) (by omega)]; rfl
        rw [hfvv] at h21
        simp [h23, h21, idx?, ht.sF, hlt, Addr.add_mk, ld_agg ht.kF, hcf, hz, hzc, store_agg ht.kF, hone, putK_blk alloc_new, hzz]
        rw [over_z8 hcl]
        generalize hw2 : (w'.alloc (.cells zField E.t_spec_Field)).setBlk w'.heap.size (.cells (y.h.cells ++ [sv]).toArray E.t_spec_Field (0, 0)) = w2
        have hb2 : w2.heap[w'.heap.size]? = some (.cells (y.h.cells ++ [sv]).toArray E.t_spec_Field (0, 0)) := by subst hw2; exact setBlk_same alloc_new
        have he2 : Ext none1 w' w2 := by subst hw2; exact ((Ext.refl none1 w').alloc _).setBlk (.inl (Nat.le_refl _)) _
        have hfr2 := hfr.post he2
        have c4 : w2.cell? ⟨w'.heap.size, 4, none⟩ = some (.int .i64 y.h.tag) := by rw [cell_of_blk hb2]; rfl
        obtain ⟨v9, hv9⟩ : ∃ v9, f 9 = v9 := ⟨_, rfl⟩
        rw [hv9] at hfr hfr2
        have hn9 : ∀ b, own1 v9 b → w1.heap.size ≤ b ∧ b < w'.heap.size := fun b hb => Own.below hfr.1 hb
        have hsz1 : w.heap.size < w1.heap.size := lt_of_heap hb1
        have lF2 : ∀ wx, Ext (own1 v9) w2 wx → cellsFrom wx ⟨w'.heap.size, 0, none⟩ 0 8 = some (y.h.cells ++ [sv]) := by
          intro wx h'
          have := cellsFrom_row (h'.old hb2 (fun h => by have := hn9 _ h; omega))
          simpa using this
        have hb12 : w2.heap[w.heap.size]? = some (.cells [Value.int .i64 t.n, tv, .bool t.nul, lv, uv].toArray E.t_spec_Tree (0, 0)) := hfr2.2.old hb1 (fun h => h)
        have lT2 : ∀ wx, Ext (own1 v9) w2 wx → cellsFrom wx ⟨w.heap.size, 0, none⟩ 0 5 = some [Value.int .i64 t.n, tv, .bool t.nul, lv, uv] := by
          intro wx h'
          have := cellsFrom_row (h'.old hb12 (fun h => by have := hn9 _ h; omega))
          rw [show [Value.int .i64 t.n, tv, .bool t.nul, lv, uv].toArray.size = 5 by rfl] at this
          simpa using this
        have r2 := Ext.refl (own1 v9) w2
        -- nothing is written
        have pass : plainE ver flex t (y, i) = [] → ∀ f' w3, f' 21 = .slice (some ⟨bb, oo, none⟩) L.length cc → f' 22 = .int .i64 L.length → PtB fv ver flex w.heap.size f' → f' 10 = .slice none 0 0 → f' 11 = .int .i64 0 → f' 9 = v9 → Ext none1 w2 w3 →
            f' 23 = .int .i64 ((i + 1 : Nat) : Int) → PtInv1 E.tU8 w1 fv ver flex w.heap.size L t f' w3 := by
          intro hp f' w3 k21 k22 kB k10 k11 k9 hx k23
          refine ⟨i + 1, by omega, k23, k22, by rw [k21, hfvv], kB, k10, k11, ?_⟩
          rw [hnext, hp, List.append_nil, k9]
          exact hfr2.post hx
        by_cases htag : y.h.tag < 0
        · simp [h1, ht.f4, Addr.add_mk, ld_scl ht.kInt, c4, htag, ld_agg ht.kF, lF2 w2 r2]
          refine (by simpa using hHas y.h sv ver w2 : Ret P _ _ _ _).mono ?_
          rintro _ w3 ⟨rfl, he3⟩
          have hx3 : Ext (own1 v9) w2 w3 := he3.mono (fun _ _ h => h.elim)
          try simp
          cases hhas : y.h.has ver with
          | false =>
            refine cw_false (by simp) ?_
            simp [h23, ei]
            refine ⟨pass (by simp [plainE, hhas]) _ w3 (by simp [h21]) (by simp [h22]) ⟨by simp [h0], by simp [h1], by simp [h2], by simp [h7]⟩ (by simp [h10]) (by simp [h11]) (by simp [hv9]) he3 (by simp), by omega⟩
          | true =>
            have hpl : plainE ver flex t (y, i) = fieldS y ver flex (t.at i) := by simp [plainE, htag, hhas]
            rw [hpl] at hnext hle
            refine cw_true (by simp) ?_
            have hD := hx3.drew
            refine cw_regH (Ext (own1 v9) w2) hD ?_
            simp +contextual [h1, h2, h7, hv9, ld_agg ht.kF, ld_agg ht.kT, lF2, lT2, lF2 w3.drew hD, lT2 w3.drew hD]
            have hxD : Ext none1 w1 w3.drew := hfr2.2.trans he3.drew
            refine (by simpa using hAt w3.drew _ t (hT1.ext hxD) i (by omega) : Ret P _ _ _ _).mono ?_
            rintro _ w4 ⟨cs', rfl, hT4, he4⟩
            have hx4 : Ext (own1 v9) w2 w4 := hD.trans (he4.mono (fun _ _ h => h.elim))
            have hn4 : Ext none1 w2 w4 := he3.drew.trans he4
            simp [hx4]
            have hfc := (hsub i y s hy hss).1 w4 sv cs' (t.at i) (hFs.ext (he2.trans hn4)) hT4 (by omega)
            refine (by simpa using hfc : Ret P _ _ _ _).mono ?_
            intro v5 w5 h5
            have hx5 : Ext (own1 v9) w2 w5 := hx4.trans (h5.2.mono (fun _ _ h => h.elim))
            simp [hx5]
            have hfr5 := hfr2.post (hn4.trans h5.2)
            refine st_app_bytes ht.sBs (by simp) hfr5.1 hfr5.2.size (own_bytes h5.1) (by omega) ?_
            intro v6 w6 ho hg
            have h6 := hfr5.grow ho hg
            have hx6 := hx5.trans hg.ext
            simp [hx6, h23, ei]
            refine ⟨⟨i + 1, by omega, by simp, by simp [h22], by simp [h21, hfvv], ⟨by simp [h0], by simp [h1], by simp [h2], by simp [h7]⟩, by simp [h10], by simp [h11], ?_⟩, by omega⟩
            rw [hnext]
            simpa using h6
        · have htag' : ¬ y.h.tag < 0 := htag
          simp [ht.f4, Addr.add_mk, ld_scl ht.kInt, c4, htag]
          refine cw_false (by simp) ?_
          simp [h23, ei]
          refine ⟨pass (by simp [plainE, htag]) _ w2 (by simp [h21]) (by simp [h22]) ⟨by simp [h0], by simp [h1], by simp [h2], by simp [h7]⟩ (by simp [h10]) (by simp [h11]) (by simp [hv9]) (Ext.refl _ _) (by simp), by omega⟩
      · refine cw_false (by simp; omega) ?_
        have : i = L.length := by omega
        subst this
        rw [List.take_of_length_le (by simp)] at hfr
        simp
        exact ⟨⟨by simp [h0], by simp [h1], by simp [h2], by simp [h7]⟩, by simp [h10], by simp [h11], by simpa using hfr⟩
  · rintro f wp ⟨⟨h0, h1, h2, h7⟩, h10, h11, hfr⟩
    cases flex with
    | false =>
      simp [h2]
      refine cw_true (by simp) ?_
      simp
      exact Fresh.pre hE hfr
    | true =>
      simp only [if_true] at hsz ⊢
      simp [h0, h2]
      refine cw_false (by simp) ?_
      simp [h0]
      refine (hKn wp fv F (hF1.ext hfr.2) hok).mono ?_
      rintro _ w2 ⟨rfl, he2⟩
      have hK1 := knownL_lt F.heads hok
      have eK : IntKind.i64.wrap (knownL F.heads : Int) = (knownL F.heads : Int) := i64_small (by omega) (by omega)
      obtain ⟨v9, hv9⟩ : ∃ v9, f 9 = v9 := ⟨_, rfl⟩
      rw [hv9] at hfr
      have hfr2 := hfr.post he2
      have hx12 : Ext none1 w1 w2 := hfr2.2
      simp [ht.iInt, ht.iU32, eK]
      have hents : entsL L ver true t = ((List.range (knownL F.heads)).flatMap fun k => L.zipIdx.flatMap (knE ver true t k)) ++ (unkS (knownL F.heads) t.u).map fun x => (x.1, x.2.take 32767) := by
        unfold entsL; rw [hkh]
      generalize hKK : knownL F.heads = KK at *
      rw [hents] at hsz ⊢
      have hszE : ((((List.range KK).flatMap fun k => L.zipIdx.flatMap (knE ver true t k)) ++ (unkS KK t.u).map fun x => (x.1, x.2.take 32767)).flatMap tagE).length ≤ 1099511627776 := by
        simp only [List.length_append] at hsz ⊢; omega
      -- any beginning of what the tags say is short
      have hbeg : ∀ a b, a ++ b = (((List.range KK).flatMap fun k => L.zipIdx.flatMap (knE ver true t k)) ++ (unkS KK t.u).map fun x => (x.1, x.2.take 32767)) → (a.flatMap tagE).length ≤ 1099511627776 := by
        intro a b hab
        rw [← hab, List.flatMap_append, List.length_append] at hszE
        omega
      have hbeg2 : ∀ k, k < KK → ∀ i, ∃ b, (((List.range k).flatMap fun k => L.zipIdx.flatMap (knE ver true t k)) ++ (L.zipIdx.take i).flatMap (knE ver true t k)) ++ b = (((List.range KK).flatMap fun k => L.zipIdx.flatMap (knE ver true t k)) ++ (unkS KK t.u).map fun x => (x.1, x.2.take 32767)) := by
        intro k hk i
        have e1 : List.range KK = List.range k ++ k :: ((List.range KK).drop (k + 1)) := by
          have := List.take_append_drop k (List.range KK)
          rw [List.take_range, Nat.min_eq_left (by omega), List.drop_eq_getElem_cons (by simpa using hk)] at this
          simpa using this.symm
        rw [e1]
        simp only [List.flatMap_append, List.flatMap_cons]
        have e2 : L.zipIdx.flatMap (knE ver true t k) = (L.zipIdx.take i).flatMap (knE ver true t k) ++ (L.zipIdx.drop i).flatMap (knE ver true t k) := by rw [← List.flatMap_append, List.take_append_drop]
        rw [e2]
        exact ⟨(L.zipIdx.drop i).flatMap (knE ver true t k) ++ ((((List.range KK).drop (k + 1)).flatMap fun k => L.zipIdx.flatMap (knE ver true t k)) ++ (unkS KK t.u).map fun x => (x.1, x.2.take 32767)), by simp only [List.append_assoc]⟩
      refine cw_blockThen (TgSt E.tU8 w2 fv ver true w.heap.size v9 ((List.range KK).flatMap fun k => L.zipIdx.flatMap (knE ver true t k))) ?_ ?_
      · refine cw_loop (Tg2 E.tU8 w2 fv ver w.heap.size v9 L t KK) (fun f _ => match f 52 with | .int _ i => ((KK : Int) - i).toNat | _ => 0) ?_ ?_
        · refine ⟨0, by omega, by simp, by simp, ⟨by simp [h0], by simp [h1], by simp [h2], by simp [h7]⟩, by simp [hv9], by simp [h11], ?_⟩
          simpa [h10] using Fresh.nil (Ext.refl none1 w2)
        · rintro f w' ⟨k, hk, h52, h51, ⟨h0, h1, h2, h7⟩, h9, h11, hfr⟩
          simp [h52, h51]
          by_cases hlt : k < KK
          · refine cw_true (by simp; omega) ?_
            simp [h52, h0, hlenfv]
            have ek : IntKind.i64.wrap ((k : Int) + 1) = ((k + 1 : Nat) : Int) := by rw [i64_small (by omega) (by omega)]; rfl
            refine cw_blockN (Tg3End E.tU8 w2 fv ver w.heap.size v9 L t KK k) ?_ ?_
            · refine cw_loop (Tg3 E.tU8 w2 fv ver w.heap.size v9 L t KK k) (fun f _ => match f 57 with | .int _ i => ((L.length : Int) - i).toNat | _ => 0) ?_ ?_
              · refine ⟨0, by omega, by simp, by simp, by simp, by simp, by simp [h52], by simp [h51], ⟨by simp [h0], by simp [h1], by simp [h2], by simp [h7]⟩, by simp [h9], by simp [h11], ?_⟩
                simpa using hfr
              · rintro f w' ⟨i, hi, h57, h56, h55, h14, h52, h51, ⟨h0, h1, h2, h7⟩, h9, h11, hfr⟩
                simp [h57, h56]
                by_cases hlt2 : i < L.length
                · refine cw_true (by simp; omega) ?_
                  obtain ⟨bb, oo, cc, h, s, sv, y, hfvv, hy, rfl, hss, hFs, hsv1, hcf⟩ := fs_elem (ver := ver) (flex := true) (hF1.ext hx12) hfr.2 (i := i) (by rw [hL]; exact hlt2)
                  rw [hL] at hfvv hy
                  have hone : allOne (y.h.cells ++ [sv]) = true := FH.cells_one y.h hsv1
                  have hcl := FH.cells_len y.h sv
                  have hyz : L.zipIdx[i]? = some (y, i) := by rw [List.getElem?_zipIdx, hy]; simp
                  have hnext := flatMap_takeS (knE ver true t k) L.zipIdx i _ hyz
                  have ei : IntKind.i64.wrap ((i : Int) + 1) = ((i + 1 : Nat) : Int) := by rw [i64_small (by omega) (by omega)]; rfl
                  rw [hfvv] at h55
                  simp [h57, h55, idx?, ht.sF, hlt2, Addr.add_mk, ld_agg ht.kF, hcf, hz, hzc, store_agg ht.kF, hone, putK_blk alloc_new, hzz]
                  rw [over_z8 hcl]
                  generalize hw3 : (w'.alloc (.cells zField E.t_spec_Field)).setBlk w'.heap.size (.cells (y.h.cells ++ [sv]).toArray E.t_spec_Field (0, 0)) = w3
                  have hb3 : w3.heap[w'.heap.size]? = some (.cells (y.h.cells ++ [sv]).toArray E.t_spec_Field (0, 0)) := by subst hw3; exact setBlk_same alloc_new
                  have he3 : Ext none1 w' w3 := by subst hw3; exact ((Ext.refl none1 w').alloc _).setBlk (.inl (Nat.le_refl _)) _
                  have hx3 : Ext none1 w1 w3 := hx12.trans (hfr.2.trans he3)
                  have c4 : ∀ wx, Ext none1 w3 wx → wx.cell? ⟨w'.heap.size, 4, none⟩ = some (.int .i64 y.h.tag) := fun wx h' => by rw [cell_of_blk (h'.old hb3 (fun h => h))]; rfl
                  have lF3 : ∀ wx, Ext none1 w3 wx → cellsFrom wx ⟨w'.heap.size, 0, none⟩ 0 8 = some (y.h.cells ++ [sv]) := by
                    intro wx h'
                    have := cellsFrom_row (h'.old hb3 (fun h => h))
                    simpa using this
                  have lT3 : ∀ wx, Ext none1 w3 wx → cellsFrom wx ⟨w.heap.size, 0, none⟩ 0 5 = some [Value.int .i64 t.n, tv, .bool t.nul, lv, uv] := fun wx h' => lT wx (hx3.trans h')
                  have r3 := Ext.refl none1 w3
                  have hD := r3.drew
                  obtain ⟨v10, hv10⟩ : ∃ v10, f 10 = v10 := ⟨_, rfl⟩
                  rw [hv10] at hfr
                  refine cw_gen (Tg4 fv ver w.heap.size v9 v10 (f 11) L.length k i KK w'.heap.size) ⟨by simp [h57], by simp [h56], by simp [h55, hfvv], by simp [h14], by simp [h52], by simp [h51], ⟨by simp [h0], by simp [h1], by simp [h2], by simp [h7]⟩, by simp [h9], by simp, by simp [hv10], by simp, by simp⟩ ?_
                  obtain ⟨v11, hv11⟩ : ∃ v11, f 11 = v11 := ⟨_, rfl⟩
                  rw [hv11] at h11
                  rw [hv11]
                  clear h57 h56 h55 h14 h52 h51 h0 h1 h2 h7 h9 hv10 hv11
                  clear f
                  intro f hTg
                  refine cw_then (Tg4A fv ver w.heap.size v9 v10 v11 L.length k i KK w'.heap.size w3 (y.h.tag = k ∧ usualS y (t.at i) = false)) ?_ ?_
                  · obtain ⟨k57, k56, k55, k14, k52, k51, ⟨k0, k1, k2, k7⟩, k9, k11, k10, k16, k15⟩ := hTg
                    refine cw_regH (Ext none1 w3) hD ?_
                    by_cases htk : y.h.tag = k
                    · simp +contextual [k16, k14, k15, k7, htk, ht.f4, Addr.add_mk, ld_scl ht.kInt, c4, c4 w3 r3, ld_agg ht.kF, ld_agg ht.kT, lF3, lT3, lF3 w3.drew hD, lT3 w3.drew hD]
                      refine (by simpa using hAt w3.drew _ t (hT1.ext (hx3.trans hD)) i (by omega) : Ret P _ _ _ _).mono ?_
                      rintro _ w4 ⟨cs', rfl, hT4, he4⟩
                      have hD4 := hD.trans he4
                      simp [hD4]
                      refine (by simpa using (hsub i y s hy hss).2 w4 sv cs' (t.at i) (hFs.ext (he3.trans hD4)) hT4 : Ret P _ _ _ _).mono ?_
                      rintro _ w5 ⟨rfl, he5⟩
                      have hD5 := hD4.trans he5
                      simp [hD5]
                      refine ⟨!usualS y (t.at i), by simp, by simp [htk], ⟨by simp [k57], by simp [k56], by simp [k55], by simp [k14], by simp [k52], by simp [k51], ⟨by simp [k0], by simp [k1], by simp [k2], by simp [k7]⟩, by simp [k9], by simp [k11], by simp [k10], by simp [k16], by simp [k15]⟩, hD5⟩
                    · have htk' : ((y.h.tag : Int) == (k : Int)) = false := by simp [htk]
                      simp +contextual [k16, k14, htk', htk, ht.f4, Addr.add_mk, ld_scl ht.kInt, c4, c4 w3 r3]
                      refine ⟨false, by simp, by simp [htk], ⟨by simp [k57], by simp [k56], by simp [k55], by simp [k14], by simp [k52], by simp [k51], ⟨by simp [k0], by simp [k1], by simp [k2], by simp [k7]⟩, by simp [k9], by simp [k11], by simp [k10], by simp [k16], by simp [k15]⟩, hD⟩
                  · rintro f w4 ⟨b, k73, hb, ⟨k57, k56, k55, k14, k52, k51, ⟨k0, k1, k2, k7⟩, k9, k11, k10, k16, k15⟩, he4⟩
                    cases b with
                    | false =>
                      have hnil : knE ver true t k (y, i) = [] := by
                        unfold knE
                        rw [if_neg (fun h => by have := hb.2 h; cases this)]
                      refine cw_false k73 ?_
                      simp [k57, ei]
                      refine ⟨⟨i + 1, by omega, by simp, by simp [k56], by simp [k55], by simp [k14], by simp [k52], by simp [k51], ⟨by simp [k0], by simp [k1], by simp [k2], by simp [k7]⟩, by simp [k9], ?_, ?_⟩, by omega⟩
                      · rw [hnext, hnil, List.append_nil]; simpa [k11] using h11
                      · rw [hnext, hnil, List.append_nil]; simpa [k10] using hfr.post (he3.trans he4)
                    | true =>
                      obtain ⟨htk, hus⟩ := hb.1 rfl
                      have hone' : knE ver true t k (y, i) = [(k, fieldS y ver true (t.at i))] := by
                        unfold knE
                        rw [if_pos ⟨htk, hus⟩]
                      rw [hone'] at hnext
                      refine cw_true k73 ?_
                      have hx4 : Ext none1 w1 w4 := hx3.trans he4
                      have hall := hbeg2 k hlt (i + 1)
                      rw [hnext] at hall
                      obtain ⟨bE, hall⟩ := hall
                      have hbd := hbeg _ _ hall
                      rw [← List.append_assoc, List.flatMap_append] at hbd
                      have hb1 : ([(k, fieldS y ver true (t.at i))].flatMap tagE) = uvS k ++ uvS (fieldS y ver true (t.at i)).length ++ fieldS y ver true (t.at i) := by simp [tagE, tagS]
                      rw [hb1] at hbd
                      simp only [List.length_append] at hbd
                      have hel := ents_len (((List.range k).flatMap fun k => L.zipIdx.flatMap (knE ver true t k)) ++ (L.zipIdx.take i).flatMap (knE ver true t k))
                      generalize hEE : ((List.range k).flatMap fun k => L.zipIdx.flatMap (knE ver true t k)) ++ (L.zipIdx.take i).flatMap (knE ver true t k) = EE at *
                      generalize hFS : fieldS y ver true (t.at i) = fs at *
                      rw [cw_seq]
                      refine cw_then (Tg4B E.tU8 fv ver w.heap.size v9 v10 v11 L.length k i KK w'.heap.size w4 fs) ?_ ?_
                      · have hD4 := (Ext.refl none1 w4).drew
                        have lF4 : ∀ wx, Ext none1 w4 wx → cellsFrom wx ⟨w'.heap.size, 0, none⟩ 0 8 = some (y.h.cells ++ [sv]) := fun wx h' => lF3 wx (he4.trans h')
                        have lT4 : ∀ wx, Ext none1 w4 wx → cellsFrom wx ⟨w.heap.size, 0, none⟩ 0 5 = some [Value.int .i64 t.n, tv, .bool t.nul, lv, uv] := fun wx h' => lT3 wx (he4.trans h')
                        refine cw_regH (Ext none1 w4) hD4 ?_
                        simp +contextual [k16, k15, k1, k2, k7, ld_agg ht.kF, ld_agg ht.kT, lF4, lT4, lF4 w4.drew hD4, lT4 w4.drew hD4]
                        refine (by simpa using hAt w4.drew _ t (hT1.ext (hx4.trans hD4)) i (by omega) : Ret P _ _ _ _).mono ?_
                        rintro _ w5 ⟨cs', rfl, hT5, he5⟩
                        have hD5 := hD4.trans he5
                        simp [hD5]
                        have hfc := (hsub i y s hy hss).1 w5 sv cs' (t.at i) (hFs.ext (he3.trans (he4.trans hD5))) hT5 (by rw [hFS]; omega)
                        rw [hFS] at hfc
                        refine (by simpa using hfc : Ret P _ _ _ _).mono ?_
                        intro v6 w6 h6
                        have hD6 := hD5.trans h6.2
                        simp [hD6]
                        exact ⟨w5, hD5, by simpa using h6, by simp [k57], by simp [k56], by simp [k55], by simp [k14], by simp [k52], by simp [k51], ⟨by simp [k0], by simp [k1], by simp [k2], by simp [k7]⟩, by simp [k9], by simp [k11], by simp [k10], by simp [k16], by simp [k15]⟩
                      · clear k57 k56 k55 k14 k52 k51 k0 k1 k2 k7 k9 k11 k10 k16 k15 k73
                        clear f
                        rintro f w5 ⟨wa, hea, hfb, k57, k56, k55, k14, k52, k51, ⟨k0, k1, k2, k7⟩, k9, k11, k10, k16, k15⟩
                        have hx5 : Ext none1 w' w5 := he3.trans (he4.trans (hea.trans hfb.2))
                        have hxa : Ext none1 w' wa := he3.trans (he4.trans hea)
                        rw [cw_seq]
                        refine cw_then (Tg4C E.tU8 fv ver w.heap.size v9 v11 L.length k i KK w'.heap.size w2 (EE.flatMap tagE ++ (uvS k ++ uvS fs.length ++ fs))) ?_ ?_
                        · obtain ⟨vb, hvb⟩ : ∃ vb, f 17 = vb := ⟨_, rfl⟩
                          rw [hvb] at hfb
                          have hbK := own_bytesK hfb.1
                          obtain ⟨ab, cb, rfl, _⟩ := hbK.len
                          have ek1 : IntKind.u64.wrap (k : Int) = (k : Nat) := by simp [IntKind.wrap, IntKind.signed, IntKind.bits]; omega
                          have ek2 : IntKind.u64.wrap (fs.length : Int) = (fs.length : Nat) := by simp [IntKind.wrap, IntKind.signed, IntKind.bits]; omega
                          simp [k10, k14, hvb, ht.iInt, ht.iU64, ek1]
                          refine (by simpa using hUv k (by omega) w5 : Ret P _ _ _ _).mono ?_
                          intro v84 w6 h6
                          have hfr6 := hfr.post (hx5.trans h6.2)
                          have hn10 : ∀ b, own1 v10 b → b < w'.heap.size := fun b hb => (Own.below hfr.1 hb).2
                          have hbk6 := hbK.ext h6.2 (fun _ _ _ h => h)
                          refine st_app_bytes ht.sBs (by simp) hfr6.1 hfr6.2.size (own_bytes h6.1) (by omega) ?_
                          intro v85 w7 ho7 hg7
                          have hfr7 := hfr6.grow ho7 hg7
                          have hbk7 := hbk6.ext hg7.ext (fun b _ hb h => by have := hn10 b h; have := hxa.size; omega)
                          simp [hvb, len_slice ht.uBs, ht.iInt, ht.iU64, ek2]
                          refine (by simpa using hUv fs.length (by omega) w7 : Ret P _ _ _ _).mono ?_
                          intro v89 w8 h8
                          have hfr8 := hfr7.post h8.2
                          have hbk8 := hbk7.ext h8.2 (fun _ _ _ h => h)
                          have hn85 : ∀ b, own1 v85 b → b < w'.heap.size ∨ w6.heap.size ≤ b := fun b hb => (hg7.own b hb).imp (hn10 b) id
                          refine st_app_bytes ht.sBs (by simp) hfr8.1 hfr8.2.size (own_bytes h8.1) (by simp only [List.length_append]; omega) ?_
                          intro v90 w9 ho9 hg9
                          have hfr9 := hfr8.grow ho9 hg9
                          have hbk9 := hbk8.ext hg9.ext (fun b _ hb h => by have := hn85 b h; have := hxa.size; have := h6.2.size; omega)
                          try simp [hvb]
                          refine st_app_bytes ht.sBs (by simp) hfr9.1 hfr9.2.size (by simpa using hbk9) (by simp only [List.length_append]; omega) ?_
                          intro v92 w10 ho10 hg10
                          have hfr10 := hfr9.grow ho10 hg10
                          refine ⟨v92, ?_, by simp [k57], by simp [k56], by simp [k55], by simp [k14], by simp [k52], by simp [k51], ⟨by simp [k0], by simp [k1], by simp [k2], by simp [k7]⟩, by simp [k9], by simp [k11], by simp, by simp [k16], by simp [k15]⟩
                          simpa [List.append_assoc] using hfr10
                        · clear k57 k56 k55 k14 k52 k51 k0 k1 k2 k7 k9 k11 k10 k16 k15
                          clear hfb hea hx5 hxa f
                          rintro f w6 ⟨v10', hfr6, k57, k56, k55, k14, k52, k51, ⟨k0, k1, k2, k7⟩, k9, k11, k10, k16, k15⟩
                          have em : IntKind.i64.wrap ((EE.length : Int) + 1) = ((EE.length + 1 : Nat) : Int) := by rw [i64_small (by omega) (by omega)]; rfl
                          simp [k11, h11, em, k57, ei]
                          refine ⟨⟨i + 1, by omega, by simp, by simp [k56], by simp [k55], by simp [k14], by simp [k52], by simp [k51], ⟨by simp [k0], by simp [k1], by simp [k2], by simp [k7]⟩, by simp [k9], ?_, ?_⟩, by omega⟩
                          · rw [hnext, ← List.append_assoc, hEE]; simp
                          · rw [hnext, ← List.append_assoc, hEE, List.flatMap_append, hb1]; simpa [k10] using hfr6
                · refine cw_false (by simp; omega) ?_
                  have : i = L.length := by omega
                  subst this
                  rw [List.take_of_length_le (by simp)] at hfr h11
                  simp
                  refine ⟨by simp [h52], by simp [h51], ⟨by simp [h0], by simp [h1], by simp [h2], by simp [h7]⟩, by simp [h9], ?_, ?_⟩
                  · rw [List.range_succ, List.flatMap_append]; simpa using h11
                  · rw [List.range_succ, List.flatMap_append]; simpa using hfr
            · rintro f w3 ⟨g52, g51, ⟨g0, g1, g2, g7⟩, g9, g11, gfr⟩
              simp [g52, ek]
              exact ⟨⟨k + 1, by omega, by simp, by simp [g51], ⟨by simp [g0], by simp [g1], by simp [g2], by simp [g7]⟩, by simp [g9], by simpa using g11, by simpa using gfr⟩, by omega⟩
          · refine cw_false (by simp; omega) ?_
            have : k = KK := by omega
            subst this
            simp
            exact ⟨⟨by simp [h0], by simp [h1], by simp [h2], by simp [h7]⟩, by simp [h9], by simpa using h11, by simpa using hfr⟩
      · rintro f w3 ⟨⟨h0, h1, h2, h7⟩, h9, h11, hfr3⟩
        generalize hE1 : ((List.range KK).flatMap fun k => L.zipIdx.flatMap (knE ver true t k)) = E1 at *
        have hx13 : Ext none1 w1 w3 := hx12.trans hfr3.2
        have c4 : w3.cell? ⟨w.heap.size, 4, none⟩ = some uv := by rw [cell_of_blk (hx13.old hb1 (fun h => h))]; rfl
        obtain ⟨v10q, hv10q⟩ : ∃ v10q, f 10 = v10q := ⟨_, rfl⟩
        rw [hv10q] at hfr3
        simp [h0, h7, ht.t4, Addr.add_mk, ld_scl ht.kLU, c4]
        have hun := hUn w1 w3 fv F uv t.u hx13 (hF1.ext hx13) hok (tree_u hT1)
        rw [hKK] at hun
        refine hun.mono ?_
        rintro v100 w4 ⟨hu4, he4⟩
        have hU32 : (unkS KK t.u).length ≤ 32767 := unkS_len
        generalize hU : unkS KK t.u = U at *
        obtain ⟨lu, hau, hlu, hgu⟩ := hu4
        obtain ⟨au, cu, rfl, _, hmaxu⟩ := hau.form
        obtain ⟨Eu, ju, huu, _, _⟩ := sliSz_spec ht.sU
        rw [hlu] at hau ⊢
        simp [len_slice huu]
        have hown3 : ∀ b, own1 v10q b → w2.heap.size ≤ b ∧ b < w3.heap.size := fun b hb => Own.below hfr3.1 hb
        have hKd : ∀ b, (b < w1.heap.size ∨ w3.heap.size ≤ b) → ¬ own1 v10q b := fun b hb h => by have := hown3 b h; have := hx12.size; omega
        have hcut : (fun x : Nat × List UInt8 => (x.1, x.2.take 32767)) = cutV := rfl
        rw [hcut] at hszE hsz hbeg ⊢
        refine cw_blockThen (Tg5End E.tU8 w2 v9 (E1 ++ U.map cutV)) ?_ ?_
        · refine cw_loop (Tg5 E.tU8 w2 w4 fv ver w.heap.size v9 v10q (.slice au U.length cu) E1 U) (fun f _ => match f 102 with | .int _ i => ((U.length : Int) - i).toNat | _ => 0) ?_ ?_
          · refine ⟨0, v10q, by omega, by simp, by simp, by simp, by simp [h9], by simp [hv10q], by simp [h11], by simpa using hfr3.post he4, Grew.refl _ _⟩
          · rintro f w' ⟨i, v10, hi, k102, k101, k100, k9, k10, k11, hfr, hgr⟩
            simp [k102, k101]
            by_cases hlt : i < U.length
            · refine cw_true (by simp; omega) ?_
              have ei : IntKind.i64.wrap ((i : Int) + 1) = ((i + 1 : Nat) : Int) := by rw [i64_small (by omega) (by omega)]; rfl
              cases lu with
              | none => simp at hlu; omega
              | some lu =>
              obtain ⟨bb, oo, cc, hvv, hKb, _, hx⟩ := hau
              simp only [Option.getD_some] at hlu hmaxu hgu
              simp only [Value.slice.injEq] at hvv
              obtain ⟨rfl, _, rfl⟩ := hvv
              obtain ⟨c, hc⟩ : ∃ c, lu[i]? = some c := ⟨_, List.getElem?_eq_getElem (by omega)⟩
              obtain ⟨x, hxU⟩ : ∃ x, U[i]? = some x := ⟨_, List.getElem?_eq_getElem hlt⟩
              obtain ⟨bv, rfl, hx32, hbv⟩ := hgu i c x hc hxU
              have hcx := (hx i _ hc).2.ext (K := fun b => b < w1.heap.size ∨ w3.heap.size ≤ b) hgr.ext (fun b _ hb => hKd b hb) hKb
              have hcf := cellsFrom_list0 hcx
              have hbv4 := (hbv.mono (K' := fun b => (b < w1.heap.size ∨ w3.heap.size ≤ b) ∧ b < w4.heap.size) (fun b hb h => ⟨h, hb⟩)).ext hgr.ext (fun b _ hb => hKd b hb.1)
              obtain ⟨ab, cb, hbvf, _⟩ := hbv4.len
              have hone : allOne [Value.int .u32 x.1, bv] = true := by rw [hbvf]; rfl
              have hzT : zeroOf P E.t_spec_Tag = some (.agg #[.int .u32 0, .slice none 0 0]) := ht.zU
              have hzTc : (Value.agg #[.int .u32 0, .slice none 0 0]).cells = #[.int .u32 0, .slice none 0 0] := rfl
              have hl2 : [Value.int .u32 x.1, bv].length = 2 := rfl
              rw [hl2] at hcf
              have hone2 : bv.oneCell' = true := by rw [hbvf]; rfl
              have hone3 : (Value.int .u32 x.1).oneCell' = true := rfl
              simp only [cw_skip, thenF_normal]
              rw [cw_seq, cw_block, cw_seq]
              refine cw_then (Tg6S fv v9 v10 (.int .i64 ((E1 ++ (U.take i).map cutV).length : Nat)) (.slice (some ⟨bb, oo, none⟩) U.length cu) U.length i w'.heap.size x.1 w' [Value.int .u32 x.1, bv] E.t_spec_Tag) ?_ ?_
              · simp [k102, k100, idx?, ht.sU, hlt, Addr.add_mk, ld_agg ht.kU, hcf, hzT, hzTc, store_agg ht.kU, putK_blk alloc_new, allOne, hone2, hone3]
                have hov : over #[.int .u32 0, .slice none 0 0] 0 [Value.int .u32 x.1, bv] = #[Value.int .u32 x.1, bv] := by simp [over]
                rw [hov]
                exact ⟨_, ⟨by simp [k102], by simp [k101], by simp [k100], by simp [k9], by simp [k10], by simp [k11], by simp, rfl⟩, ((Ext.refl none1 w').alloc _).setBlk (.inl (Nat.le_refl _)) _, setBlk_same alloc_new⟩
              clear k102 k101 k100 k9 k10 k11
              clear f
              rintro f w5 ⟨v20, ⟨k102, k101, k100, k9, k10, k11, k19, k20⟩, he5, hb5⟩
              clear k20
              have hfr5 := hfr.post he5
              have hgr5 := hgr.post he5
              have hbv5 := hbv4.ext he5 (fun _ _ _ h => h)
              have hown10 : ∀ b, own1 v10 b → (w2.heap.size ≤ b ∧ b < w3.heap.size) ∨ w4.heap.size ≤ b := fun b hb => (hgr.own b hb).imp (hown3 b) id
              have htk : (U.take (i + 1)).map cutV = (U.take i).map cutV ++ [cutV x] := by rw [List.take_add_one, hxU]; simp
              have hbd := hbeg (E1 ++ (U.take (i + 1)).map cutV) ((U.drop (i + 1)).map cutV) (by rw [List.append_assoc, ← List.map_append, List.take_append_drop])
              rw [htk, ← List.append_assoc, List.flatMap_append] at hbd
              have hb1' : [cutV x].flatMap tagE = uvS x.1 ++ uvS (x.2.take 32767).length ++ x.2.take 32767 := by simp [tagE, tagS, cutV]
              rw [hb1'] at hbd
              simp only [List.length_append] at hbd
              have hel := ents_len (E1 ++ (U.take i).map cutV)
              have hts32 : (x.2.take 32767).length ≤ 32767 := by simp; omega
              generalize hEE : E1 ++ (U.take i).map cutV = EE at *
              generalize hS : x.2.take 32767 = s at *
              rw [cw_seq]
              refine cw_then (Tg6A fv v9 v10 (.int .i64 (EE.length : Nat)) (.slice (some ⟨bb, oo, none⟩) U.length cu) U.length i w'.heap.size x.1 w5 (fun b => (b < w1.heap.size ∨ w3.heap.size ≤ b) ∧ b < w4.heap.size) s) ?_ ?_
              · have c1 : w5.cell? ⟨w'.heap.size, 1, none⟩ = some bv := by rw [cell_of_blk hb5]; rfl
                simp [k19, ht.u1, Addr.add_mk, ld_scl ht.kBs, c1]
                refine (hWh w5 _ bv x.2 hbv5).mono ?_
                rintro vb wx ⟨hvb, rfl⟩
                rw [hS] at hvb
                exact ⟨vb, ⟨by simp [k102], by simp [k101], by simp [k100], by simp [k9], by simp [k10], by simp [k11], by simp [k19], by simp⟩, hvb, rfl⟩
              · clear k102 k101 k100 k9 k10 k11 k19
                clear f
                rintro f w5' ⟨vb, ⟨k102, k101, k100, k9, k10, k11, k19, k20⟩, hvb, hw5'⟩
                rw [hw5']
                rw [cw_seq]
                refine cw_then (Tg6B E.tU8 fv v9 (.int .i64 (EE.length : Nat)) (.slice (some ⟨bb, oo, none⟩) U.length cu) v10q U.length i w'.heap.size x.1 w2 w4 (EE.flatMap tagE ++ (uvS x.1 ++ uvS s.length ++ s))) ?_ ?_
                · obtain ⟨a2, c2, rfl, _⟩ := hvb.len
                  have c0 : w5.cell? ⟨w'.heap.size, 0, none⟩ = some (.int .u32 x.1) := by rw [cell_of_blk hb5]; rfl
                  have ek1 : IntKind.u64.wrap (x.1 : Int) = (x.1 : Nat) := by simp [IntKind.wrap, IntKind.signed, IntKind.bits]; omega
                  have ek2 : IntKind.u64.wrap (s.length : Int) = (s.length : Nat) := by simp [IntKind.wrap, IntKind.signed, IntKind.bits]; omega
                  simp [k10, k19, k20, ht.u0, Addr.add_mk, ld_scl ht.kU32, c0, ht.iU32, ht.iU64, ek1]
                  refine (by simpa using hUv x.1 (by omega) w5 : Ret P _ _ _ _).mono ?_
                  intro v84 w6 h6
                  have hfr6 := hfr5.post h6.2
                  have hbk6 := hvb.ext h6.2 (fun _ _ _ h => h)
                  refine st_app_bytes ht.sBs (by simp) hfr6.1 hfr6.2.size (own_bytes h6.1) (by omega) ?_
                  intro v85 w7 ho7 hg7
                  have hfr7 := hfr6.grow ho7 hg7
                  have hbk7 := hbk6.ext hg7.ext (fun b _ hb h => by have := hown10 b h; have := hx12.size; omega)
                  simp [k20, len_slice ht.uBs, ht.iInt, ht.iU64, ek2]
                  refine (by simpa using hUv s.length (by omega) w7 : Ret P _ _ _ _).mono ?_
                  intro v89 w8 h8
                  have hfr8 := hfr7.post h8.2
                  have hbk8 := hbk7.ext h8.2 (fun _ _ _ h => h)
                  have hs46 : w4.heap.size ≤ w6.heap.size := Nat.le_trans hgr5.ext.size h6.2.size
                  have hn85 : ∀ b, own1 v85 b → ((w2.heap.size ≤ b ∧ b < w3.heap.size) ∨ w4.heap.size ≤ b) := fun b hb => (hg7.own b hb).elim (hown10 b) (fun h => .inr (by omega))
                  refine st_app_bytes ht.sBs (by simp) hfr8.1 hfr8.2.size (own_bytes h8.1) (by simp only [List.length_append]; omega) ?_
                  intro v90 w9 ho9 hg9
                  have hfr9 := hfr8.grow ho9 hg9
                  have hbk9 := hbk8.ext hg9.ext (fun b _ hb h => by have := hn85 b h; have := hx12.size; omega)
                  try simp [k20]
                  refine st_app_bytes ht.sBs (by simp) hfr9.1 hfr9.2.size (by simpa using hbk9) (by simp only [List.length_append]; omega) ?_
                  intro v92 w10 ho10 hg10
                  have hfr10 := hfr9.grow ho10 hg10
                  refine ⟨v92, _, ⟨by simp [k102], by simp [k101], by simp [k100], by simp [k9], by simp, by simp [k11], by simp [k19], rfl⟩, ?_, ?_⟩
                  · simpa [List.append_assoc] using hfr10
                  · exact (((hgr5.post h6.2).trans hg7).post h8.2).trans (hg9.trans hg10)
                · clear k102 k101 k100 k9 k10 k11 k19 k20
                  clear f
                  rintro f w6 ⟨v10', vb', ⟨k102, k101, k100, k9, k10, k11, k19, k20⟩, hfr6, hgr6⟩
                  have em : IntKind.i64.wrap ((EE.length : Int) + 1) = ((EE.length + 1 : Nat) : Int) := by rw [i64_small (by omega) (by omega)]; rfl
                  simp [k11, em, k102, ei]
                  refine ⟨⟨i + 1, v10', by omega, by simp, by simp [k101], by simp [k100], by simp [k9], by simp [k10], ?_, ?_, hgr6⟩, by omega⟩
                  · rw [htk, ← List.append_assoc, hEE]; simp
                  · rw [htk, ← List.append_assoc, hEE, List.flatMap_append, hb1']; exact hfr6
            · refine cw_false (by simp; omega) ?_
              have : i = U.length := by omega
              subst this
              rw [List.take_length] at hfr k11
              simp
              exact ⟨by simp [k9], by simpa using k11, by simpa [k10] using hfr⟩
        · rintro f w5 ⟨k9, k11, hfr5⟩
          have hel := ents_len (E1 ++ U.map cutV)
          have hfr9 : Fresh E.tU8 w1 v9 w5 (L.zipIdx.flatMap (plainE ver true t)) := hfr2.post hfr5.2
          have hbk := own_bytesK hfr5.1
          have hn9 : ∀ b, own1 v9 b → b < w2.heap.size := fun b hb => (Own.below hfr2.1 hb).2
          generalize hEE : E1 ++ U.map cutV = EE at *
          generalize L.zipIdx.flatMap (plainE ver true t) = pl at *
          obtain ⟨v10, hv10⟩ : ∃ v10, f 10 = v10 := ⟨_, rfl⟩
          rw [hv10] at hbk
          simp only [List.length_append] at hsz
          have em : IntKind.u64.wrap (EE.length : Int) = (EE.length : Nat) := by simp [IntKind.wrap, IntKind.signed, IntKind.bits]; omega
          simp [k9, k11, ht.iInt, ht.iU64, em]
          refine (by simpa using hUv EE.length (by omega) w5 : Ret P _ _ _ _).mono ?_
          intro v6 w6 h6
          have hfr6 := hfr9.post h6.2
          have hbk6 := hbk.ext h6.2 (fun _ _ _ h => h)
          refine st_app_bytes ht.sBs (by simp) hfr6.1 hfr6.2.size (own_bytes h6.1) (by omega) ?_
          intro v7 w7 ho7 hg7
          have hfr7 := hfr6.grow ho7 hg7
          have hbk7 := hbk6.ext hg7.ext (fun b _ hb h => by have := hn9 b h; omega)
          simp [hv10]
          refine st_app_bytes ht.sBs (by simp) hfr7.1 hfr7.2.size (by simpa using hbk7) (by simp only [List.length_append]; omega) ?_
          intro v8 w8 ho8 hg8
          have hfr8 := hfr7.grow ho8 hg8
          try simp
          have hfin := Fresh.pre hE hfr8
          rw [← hEE] at hfin
          simpa [List.append_assoc] using hfin
end
end Go.Kg

set_option linter.unusedSimpArgs false
set_option linter.unusedVariables false
namespace Go.Kg
open Go

/-! ## The reference as a whole: by induction on the fields -/
def FS.okAll : FS → Prop
  | .nil => True
  | .cons h sub rest => FH.ok h ∧ fits h.dflt ∧ sub.len ≤ 1000 ∧ sub.okAll ∧ rest.okAll

theorem FS.okAll.heads : ∀ {F : FS}, F.okAll → ∀ g ∈ F.heads, FH.ok g
  | .nil, _, g, hg => by cases hg
  | .cons h sub rest, ho, g, hg => by
    rcases List.mem_cons.1 hg with rfl | hg
    · exact ho.1
    · exact FS.okAll.heads ho.2.2.2.2 g hg

/-- The functions of package spec that write. -/
structure SpecFns (P : Program) (E : Env) : Prop where
  Fixed : FnIs P E.f_spec_Fixed nt_spec_Fixed (rs_spec_Fixed E) (ir_spec_Fixed E)
  width : FnIs P E.f_spec_width nt_spec_width (rs_spec_width E) (ir_spec_width E)
  Uvarint : FnIs P E.f_spec_Uvarint nt_spec_Uvarint (rs_spec_Uvarint E) (ir_spec_Uvarint E)
  has : FnIs P E.f_spec_Field_has nt_spec_Field_has (rs_spec_Field_has E) (ir_spec_Field_has E)
  null : FnIs P E.f_spec_Field_null nt_spec_Field_null (rs_spec_Field_null E) (ir_spec_Field_null E)
  whole : FnIs P E.f_spec_whole nt_spec_whole (rs_spec_whole E) (ir_spec_whole E)
  things : FnIs P E.f_spec_things nt_spec_things (rs_spec_things E) (ir_spec_things E)
  counted : FnIs P E.f_spec_counted nt_spec_counted (rs_spec_counted E) (ir_spec_counted E)
  at_ : FnIs P E.f_spec_at nt_spec_at (rs_spec_at E) (ir_spec_at E)
  known : FnIs P E.f_spec_known nt_spec_known (rs_spec_known E) (ir_spec_known E)
  unknown : FnIs P E.f_spec_unknown nt_spec_unknown (rs_spec_unknown E) (ir_spec_unknown E)
  Same : FnIs P E.f_spec_Same nt_spec_Same (rs_spec_Same E) (ir_spec_Same E)
  value : FnIs P E.f_spec_value nt_spec_value (rs_spec_value E) (ir_spec_value E)
  field : FnIs P E.f_spec_field nt_spec_field (rs_spec_field E) (ir_spec_field E)
  usual : FnIs P E.f_spec_usual nt_spec_usual (rs_spec_usual E) (ir_spec_usual E)
  part : FnIs P E.f_spec_part nt_spec_part (rs_spec_part E) (ir_spec_part E)
  Write : FnIs P E.f_spec_Write nt_spec_Write (rs_spec_Write E) (ir_spec_Write E)

section
variable {P : Program} {E : Env} (ht : TyG P E) (hs : SpecFns P E)
include ht hs

theorem sp_Fixed : FixedC P E := fun n k hk => c_Fixed ht.toTyWr hs.Fixed n k hk
theorem sp_Width : WidthC P E := fun k w => c_width hs.width k w
theorem sp_Uv : UvC P E := fun n hn => c_SUvarint ht.toTyWr hs.Uvarint n hn
theorem sp_Has : HasC P E := fun h sv v w => c_has ht.toTyF hs.has h sv v w
theorem sp_Whole : WholeC P E := fun w K v s h => c_whole ht.toTyF hs.whole w K v s h
theorem sp_At : AtC P E := fun w cs t hT i hi => c_at ht.toTyF hs.at_ w cs t hT i hi
theorem sp_Known : KnownC P E := fun w fv F hF hok => c_known ht.toTyF hs.known w fv F hF hok
theorem sp_Unk : UnkC P E := c_unknown ht hs.unknown (sp_Known ht hs)
theorem sp_Same : SameC P E := fun w K K' va vb s t h1 h2 h3 => c_Same ht.toTyF hs.Same w K K' va vb s t h1 h2 h3
theorem sp_Counted : ∀ (flex nul : Bool) (n size : Nat), n ≤ 1099511627776 → size ≤ 8 → SpC P E.tU8 E.f_spec_counted [.bool flex, .bool nul, .int .i64 n, .int .i64 size] (countedS flex nul n size) :=
  fun flex nul n size hn hz => c_counted ht.toTyF hs.counted (sp_Fixed ht hs) (sp_Uv ht hs) flex nul n size hn hz

/-- part of fields whose own functions stand -/
theorem sp_partOf {F : FS} {ver : Int} {flex : Bool} (hok : F.okAll) (hlen : F.len ≤ 1000) (hsub : ∀ (i : Nat) y s, (F.list ver flex)[i]? = some y → F.subs[i]? = some s → FieldC P E y s ver flex ∧ UsC P E y s)
    (w : World) (fv : Value) (cs : List Value) (t : Tr) (hF : FsAt w fv F) (hT : TreeAt w cs t) (hsz : (partS F ver flex t).length ≤ 1099511627776) :
    Ret P E.f_spec_part #[fv, .int .i64 ver, .bool flex, .agg cs.toArray] w fun v w' => Fresh E.tU8 w v w' (partS F ver flex t) :=
  c_part ht hs.part (sp_At ht hs) (sp_Unk ht hs) (sp_Known ht hs) (sp_Has ht hs) (sp_Uv ht hs) (sp_Whole ht hs) F ver flex hok.heads hlen hsub w fv cs t hF hT hsz

theorem sp_fields (ver : Int) (flex : Bool) : ∀ F : FS, F.okAll → ∀ (i : Nat) y s, (F.list ver flex)[i]? = some y → F.subs[i]? = some s → FieldC P E y s ver flex ∧ UsC P E y s := by
  intro F
  induction F with
  | nil => intro _ i y s hy; simp [FS.list] at hy
  | cons h sub rest ihs ihr =>
    intro ho i y s hy hss
    cases i with
    | succ i => exact ihr ho.2.2.2.2 i y s (by simpa [FS.list] using hy) (by simpa [FS.subs] using hss)
    | zero =>
      simp only [FS.list, FS.subs, List.getElem?_cons_zero, Option.some.injEq] at hy hss
      subst hy hss
      have hS := ihs ho.2.2.2.1
      have hP := sp_partOf ht hs ho.2.2.2.1 ho.2.2.1 hS
      refine ⟨?_, ?_⟩
      · intro w sv cs t hF hT hsz
        have hPC : PartC P E sv (partL (sub.list ver flex) ver flex) ver flex w := fun w' cs' t' he hT' hb => hP w' sv cs' t' (hF.ext he) hT' hb
        have hVC : ValC P E sv (partL (sub.list ver flex) ver flex) ver flex w := by
          intro kind nul w' cs' t' he hT' hb
          refine c_value ht.toTyF hs.value (sp_Fixed ht hs) (sp_Width ht hs) (sp_Whole ht hs) (sp_Counted ht hs) kind sv _ nul ver flex w' cs' t' hT' ?_
          intro hk w2 he2
          refine hP w2 sv cs' t' (hF.ext (he.trans he2)) (hT'.ext he2) ?_
          subst hk
          simpa [valS, partS] using hb
        have hsv : sv.oneCell' = true := by
          obtain ⟨ls, ha, _⟩ := hF
          obtain ⟨a, c, rfl, _⟩ := ha.form
          rfl
        exact c_field ht.toTyF hs.field (sp_Fixed ht hs) (fun h sv v w n s l u nul => c_null ht.toTyF hs.null h sv v w n s l u nul) (fun w v ls hs' => c_things ht.toTyF hs.things w v ls hs') (sp_Counted ht hs) h sv _ _ _ ver flex w cs t hT hVC hPC hsz hsv
      · exact c_usual ht hs.usual (sp_At ht hs) (sp_Unk ht hs) (sp_Fixed ht hs) (sp_Width ht hs) (sp_Same ht hs) h sub ver flex _ _ ho.2.2.2.1.heads (fun i y s hy hss => (hS i y s hy hss).2)

theorem sp_part {F : FS} {ver : Int} {flex : Bool} (hok : F.okAll) (hlen : F.len ≤ 1000) (w : World) (fv : Value) (cs : List Value) (t : Tr) (hF : FsAt w fv F) (hT : TreeAt w cs t) (hsz : (partS F ver flex t).length ≤ 1099511627776) :
    Ret P E.f_spec_part #[fv, .int .i64 ver, .bool flex, .agg cs.toArray] w fun v w' => Fresh E.tU8 w v w' (partS F ver flex t) :=
  sp_partOf ht hs hok hlen (sp_fields ht hs ver flex F hok) w fv cs t hF hT hsz
end

/-- What a message's type is in memory. -/
structure TyM (P : Program) (E : Env) : Prop extends TyG P E where
  m0 : fldOff P E.t_spec_Message 0 = some 0
  m1 : fldOff P E.t_spec_Message 1 = some 1

def flexAt (fx ver : Int) : Bool := decide (0 ≤ fx) && decide (fx ≤ ver)

section
variable {P : Program} {E : Env} (ht : TyM P E) (hs : SpecFns P E)
include ht hs

theorem sp_Write {F : FS} {fx ver : Int} (hok : F.okAll) (hlen : F.len ≤ 1000) (w : World) (fv : Value) (cs : List Value) (t : Tr) (hF : FsAt w fv F) (hT : TreeAt w cs t) (hsz : (partS F ver (flexAt fx ver) t).length ≤ 1099511627776) :
    Ret P E.f_spec_Write #[.agg #[fv, .int .i64 fx], .int .i64 ver, .agg cs.toArray] w fun v w' => Fresh E.tU8 w v w' (partS F ver (flexAt fx ver) t) := by
  refine hs.Write.call (args := [_, _, _]) (by simp [nt_spec_Write]) ?_
  obtain ⟨tv, lv, uv, hcs, hss⟩ := tree_box hT
  subst hcs
  have hv : ∀ (a : Array Value), (Value.agg a).cells = a := fun a => rfl
  generalize hw1 : (w.alloc (.cells #[fv, .int .i64 fx] E.t_spec_Message)).alloc (.cells [Value.int .i64 t.n, tv, .bool t.nul, lv, uv].toArray E.t_spec_Tree) = w1
  have hE : Ext none1 w w1 := by subst hw1; exact ((Ext.refl none1 w).alloc _).alloc _
  have hb0 : w1.heap[w.heap.size]? = some (.cells #[fv, .int .i64 fx] E.t_spec_Message (0, 0)) := by subst hw1; exact alloc_old alloc_new
  have hb1 : w1.heap[w.heap.size + 1]? = some (.cells [Value.int .i64 t.n, tv, .bool t.nul, lv, uv].toArray E.t_spec_Tree (0, 0)) := by
    subst hw1
    have := alloc_new (w := w.alloc (.cells #[fv, .int .i64 fx] E.t_spec_Message)) (o := .cells [Value.int .i64 t.n, tv, .bool t.nul, lv, uv].toArray E.t_spec_Tree)
    simpa using this
  have c0 : w1.cell? ⟨w.heap.size, 0, none⟩ = some fv := by rw [cell_of_blk hb0]; rfl
  have c1 : w1.cell? ⟨w.heap.size, 1, none⟩ = some (.int .i64 fx) := by rw [cell_of_blk hb0]; rfl
  have lT : cellsFrom w1 ⟨w.heap.size + 1, 0, none⟩ 0 5 = some [Value.int .i64 t.n, tv, .bool t.nul, lv, uv] := by
    have := cellsFrom_row hb1
    rw [show [Value.int .i64 t.n, tv, .bool t.nul, lv, uv].toArray.size = 5 by rfl] at this
    simpa using this
  have key : ∀ fl, fl = flexAt fx ver → Ret P E.f_spec_part #[fv, .int .i64 ver, .bool fl, .agg [Value.int .i64 t.n, tv, .bool t.nul, lv, uv].toArray] w1 fun v w' => Fresh E.tU8 w1 v w' (partS F ver (flexAt fx ver) t) := by
    rintro fl rfl
    exact sp_part ht.toTyG hs hok hlen w1 fv _ t (hF.ext hE) (hT.ext hE) hsz
  have hFl := ht.m1
  simp [ir_spec_Write, rs_spec_Write, hv, hw1, ht.m0, ht.m1, Addr.add_mk, ld_scl ht.kLF, ld_scl ht.kInt, c0, c1, ld_agg ht.kT, lT]
  by_cases h1 : 0 ≤ fx
  · by_cases h2 : fx ≤ ver
    · simp [h1, h2]
      refine (by simpa using key true (by simp [flexAt, h1, h2]) : Ret P _ _ _ _).mono ?_
      intro v w' h
      simpa using Fresh.pre hE h
    · simp [h1, h2]
      refine (by simpa using key false (by simp [flexAt, h1, h2]) : Ret P _ _ _ _).mono ?_
      intro v w' h
      simpa using Fresh.pre hE h
  · simp [h1]
    refine (by simpa using key false (by simp [flexAt, h1]) : Ret P _ _ _ _).mono ?_
    intro v w' h
    simpa using Fresh.pre hE h
end
end Go.Kg

set_option linter.unusedSimpArgs false
set_option linter.unusedVariables false
namespace Go.Kg
open Go

/-! ## Default -/
def FS.dflL : FS → List Tr
  | .nil => []
  | .cons h sub rest => .mk h.dflt [] (decide (0 ≤ h.null)) (if h.kind = 10 then sub.dflL else []) [] :: rest.dflL
def FS.dflT (F : FS) : Tr := .mk 0 [] false F.dflL []
theorem FS.dflL_len : ∀ F : FS, F.dflL.length = F.len
  | .nil => rfl
  | .cons h s r => by simp [FS.dflL, FS.len, FS.dflL_len r]
theorem FS.dflL_get : ∀ {F : FS} {i : Nat} {h : FH} {s : FS}, F.heads[i]? = some h → F.subs[i]? = some s → F.dflL[i]? = some (.mk h.dflt [] (decide (0 ≤ h.null)) (if h.kind = 10 then s.dflL else []) [])
  | .nil, i, h, s, hh, hs => by simp [FS.heads] at hh
  | .cons h' s' r, 0, h, s, hh, hs => by simp [FS.heads, FS.subs] at hh hs; subst hh hs; rfl
  | .cons h' s' r, i + 1, h, s, hh, hs => by
    simp only [FS.heads, FS.subs, List.getElem?_cons_succ] at hh hs
    simpa [FS.dflL] using FS.dflL_get hh hs

/-- An own row of trees. -/
def OwnTr (w : World) (base T : Nat) (v : Value) (rows : List (List Value)) : Prop := Own w base T 5 v rows.flatten ∧ ∀ c ∈ rows, c.length = 5

theorem flatten5 : ∀ {rows : List (List Value)}, (∀ c ∈ rows, c.length = 5) → rows.flatten.length = rows.length * 5
  | [], _ => rfl
  | c :: r, h => by
    have := flatten5 (rows := r) (fun c hc => h c (List.mem_cons_of_mem _ hc))
    have := h c List.mem_cons_self
    simp only [List.flatten_cons, List.length_append, List.length_cons]; omega
theorem flatten5_get : ∀ {rows : List (List Value)}, (∀ c ∈ rows, c.length = 5) → ∀ {i : Nat} {c : List Value}, rows[i]? = some c → ∀ j u, c[j]? = some u → rows.flatten[i * 5 + j]? = some u
  | [], _, i, c, hc => by simp at hc
  | d :: r, h, i, c, hc => by
    intro j u hj
    have hd := h d List.mem_cons_self
    cases i with
    | zero =>
      simp at hc; subst hc
      have hlt := (List.getElem?_eq_some_iff.1 hj).1
      rw [List.flatten_cons, List.getElem?_append_left (by omega)]
      simpa using hj
    | succ i =>
      have := flatten5_get (rows := r) (fun c hc => h c (List.mem_cons_of_mem _ hc)) (i := i) (by simpa using hc) j u hj
      rw [List.flatten_cons, List.getElem?_append_right (by omega), show (i + 1) * 5 + j - d.length = i * 5 + j by omega]
      exact this

theorem OwnTr.arr {w : World} {base T : Nat} {v : Value} {rows : List (List Value)} (h : OwnTr w base T v rows) (hn : rows.length ≤ 1099511627776) : ∃ ls, ArrAt w (fun b => base ≤ b ∧ b < w.heap.size) 5 v ls ∧ ls.getD [] = rows := by
  obtain ⟨⟨n, h1, h2⟩, h5⟩ := h
  have hn' : n = rows.length := by rw [flatten5 h5] at h1; omega
  subst hn'
  rcases h2 with ⟨rfl, h0⟩ | ⟨g, cap, cur, rfl, hb, hg, hnc, hcm, hcs, htake⟩
  · exact ⟨none, rfl, (List.eq_nil_of_length_eq_zero h0).symm⟩
  · refine ⟨some rows, ⟨g, 0, cap, rfl, ⟨hb, lt_of_heap hg⟩, ⟨hnc, hn⟩, fun i cs hi => ⟨h5 cs (List.mem_of_getElem? hi), fun j u hj => ?_⟩⟩, rfl⟩
    have := flatten5_get h5 hi j u hj
    rw [← htake, List.getElem?_take] at this
    rw [cell_of_blk hg, Nat.zero_add]
    split at this
    · simpa using this
    · cases this

/-- No cell of the tree's box but the list's. -/
def zT (lv : Value) : List Value := [.int .i64 0, .slice none 0 0, .bool false, lv, .slice none 0 0]

/-- A tree that says no text and no tags, its lists in blocks of K. -/
inductive DTr (w : World) (K : Nat → Prop) : List Value → Tr → Prop where
  | mk {n : Int} {nul : Bool} {l : List Tr} {lv : Value} {ls : Option (List (List Value))} (hn : fits n) (ha : ArrAt w K 5 lv ls) (hl : (ls.getD []).length = l.length)
      (he : ∀ (i : Nat) c t, (ls.getD [])[i]? = some c → l[i]? = some t → DTr w K c t) : DTr w K [.int .i64 n, .slice none 0 0, .bool nul, lv, .slice none 0 0] (.mk n [] nul l [])

theorem DTr.ext {C K : Nat → Prop} {w w' : World} (he : Ext C w w') (hK : ∀ b, b < w.heap.size → K b → ¬ C b) {cs : List Value} {t : Tr} (h : DTr w K cs t) : DTr w' K cs t := by
  induction h with
  | mk hn ha hl _ ih => exact .mk hn (ha.ext he hK) hl ih
theorem ArrAt.mono {w : World} {K K' : Nat → Prop} (h : ∀ b, K b → K' b) {sz : Nat} {v : Value} {ls : Option (List (List Value))} (ha : ArrAt w K sz v ls) : ArrAt w K' sz v ls := by
  cases ls with
  | none => exact ha
  | some ls => obtain ⟨b, o, c, rfl, hk, hn, hx⟩ := ha; exact ⟨b, o, c, rfl, h b hk, hn, hx⟩
theorem DTr.mono {K K' : Nat → Prop} {w : World} (hK : ∀ b, K b → K' b) {cs : List Value} {t : Tr} (h : DTr w K cs t) : DTr w K' cs t := by
  induction h with
  | mk hn ha hl _ ih => exact .mk hn (ha.mono hK) hl ih
theorem DTr.tree {K : Nat → Prop} {w : World} {cs : List Value} {t : Tr} (h : DTr w K cs t) : TreeAt w cs t := by
  induction h with
  | mk hn ha hl _ ih => exact .mk ⟨hn, by simp⟩ (.inl ⟨rfl, rfl⟩) (ha.mono (fun _ _ => trivial)) hl ih ⟨none, rfl, rfl, by simp⟩
theorem DTr.len5 {K : Nat → Prop} {w : World} {cs : List Value} {t : Tr} (h : DTr w K cs t) : cs.length = 5 ∧ allOne cs = true := by
  cases h with
  | mk hn ha hl he => obtain ⟨a, c, rfl, _⟩ := ha.form; exact ⟨rfl, rfl⟩

def DfK (b3 : Nat) (w' : World) (lv : Value) (b : Nat) : Prop := b3 < b ∧ b < w'.heap.size ∧ ¬ own1 lv b
def DfInv (T : Nat) (w : World) (fv : Value) (F : FS) (b2 b3 : Nat) (f : Nat → Value) (w' : World) : Prop :=
  ∃ i lv rows, i ≤ F.len ∧ f 9 = .int .i64 i ∧ f 8 = .int .i64 F.len ∧ f 7 = fv ∧ f 2 = .pointer (some ⟨b2, 0, none⟩) ∧ f 3 = .pointer (some ⟨b3, 0, none⟩) ∧ w'.heap[b2]? = some (.cells (zT (.slice none 0 0)).toArray T (0, 0)) ∧
    w'.heap[b3]? = some (.cells (zT lv).toArray T (0, 0)) ∧ OwnTr w' (b3 + 1) T lv rows ∧ rows.length = i ∧ (∀ (j : Nat) c t, rows[j]? = some c → F.dflL[j]? = some t → DTr w' (DfK b3 w' lv) c t) ∧ Ext none1 w w'
def DfEnd (T : Nat) (w : World) (F : FS) (b2 b3 : Nat) (f : Nat → Value) (w' : World) : Prop :=
  ∃ lv rows, f 2 = .pointer (some ⟨b2, 0, none⟩) ∧ f 3 = .pointer (some ⟨b3, 0, none⟩) ∧ w'.heap[b2]? = some (.cells (zT (.slice none 0 0)).toArray T (0, 0)) ∧
    w'.heap[b3]? = some (.cells (zT lv).toArray T (0, 0)) ∧ OwnTr w' (b3 + 1) T lv rows ∧ rows.length = F.len ∧ (∀ (j : Nat) c t, rows[j]? = some c → F.dflL[j]? = some t → DTr w' (DfK b3 w' lv) c t) ∧ Ext none1 w w'
/-- one tree, in its box -/
def DfOne (T : Nat) (w : World) (fv : Value) (F : FS) (b2 b3 : Nat) (i : Nat) (w6 : World) (lv : Value) (t1 : Tr) (f : Nat → Value) (w' : World) : Prop :=
  ∃ b6 cs, f 6 = .pointer (some ⟨b6, 0, none⟩) ∧ w'.heap[b6]? = some (.cells cs.toArray T (0, 0)) ∧ DTr w' (DfK b3 w' lv) cs t1 ∧ f 9 = .int .i64 i ∧ f 8 = .int .i64 F.len ∧ f 7 = fv ∧ f 2 = .pointer (some ⟨b2, 0, none⟩) ∧ f 3 = .pointer (some ⟨b3, 0, none⟩) ∧
    Ext none1 w6 w' ∧ w6.heap.size ≤ b6

def DfA (T : Nat) (wb : World) (fv : Value) (n i b5 : Nat) (v2 v3 : Value) (cs : List Value) (f : Nat → Value) (w' : World) : Prop :=
  f 5 = .pointer (some ⟨b5, 0, none⟩) ∧ f 9 = .int .i64 i ∧ f 8 = .int .i64 n ∧ f 7 = fv ∧ f 2 = v2 ∧ f 3 = v3 ∧ Ext none1 wb w' ∧ w'.heap[b5]? = some (.cells cs.toArray T (0, 0))
def DfB (T : Nat) (w5 : World) (fv : Value) (n i b5 b2 b3 : Nat) (cs : List Value) (f : Nat → Value) (w' : World) : Prop :=
  ∃ b6, f 6 = .pointer (some ⟨b6, 0, none⟩) ∧ w'.heap[b6]? = some (.cells cs.toArray T (0, 0)) ∧ w5.heap.size ≤ b6 ∧ Ext none1 w5 w' ∧
    f 5 = .pointer (some ⟨b5, 0, none⟩) ∧ f 9 = .int .i64 i ∧ f 8 = .int .i64 n ∧ f 7 = fv ∧ f 2 = .pointer (some ⟨b2, 0, none⟩) ∧ f 3 = .pointer (some ⟨b3, 0, none⟩)

structure TyD (P : Program) (E : Env) : Prop extends TyM P E where
  pT5 : places P E.t_spec_Tree = some [(0, 1), (1, 1), (2, 1), (3, 1), (4, 1)]
  fT3 : ∀ (a b c d e : Value), fld? P E.t_spec_Tree 3 #[a, b, c, d, e] = some d

def DefC (P : Program) (E : Env) (F : FS) : Prop := ∀ w fv, FsAt w fv F → Ret P E.f_spec_Default #[fv] w fun r w' => ∃ lv, r = .agg (zT lv).toArray ∧ DTr w' (fun b => w.heap.size ≤ b ∧ b < w'.heap.size) (zT lv) F.dflT ∧ Ext none1 w w'

section
variable {P : Program} {E : Env} (ht : TyD P E)
include ht

theorem bld_one (n : Int) (b : Bool) : bld? P E.t_spec_Tree [(0, .int .i64 n), (2, .bool b)] = some (.agg #[.int .i64 n, .slice none 0 0, .bool b, .slice none 0 0, .slice none 0 0]) := by
  simp [bld?, ht.zT, ht.pT5, Instr.fill, Value.cells]

set_option maxHeartbeats 1000000 in
theorem c_Default (hI : FnIs P E.f_spec_Default nt_spec_Default (rs_spec_Default E) (ir_spec_Default E)) (F : FS) (hok : F.okAll) (hlen : F.len ≤ 1000) (hsub : ∀ (i : Nat) s, F.subs[i]? = some s → DefC P E s)
    (hdf : ∀ h ∈ F.heads, fits h.dflt) : DefC P E F := by
  intro w fv hF
  refine hI.call (args := [_]) (by simp [nt_spec_Default]) ?_
  obtain ⟨ls, haF, hcF⟩ := hF
  obtain ⟨aF, cF, rfl, _, hmaxF⟩ := haF.form
  have hF : FsAt w (.slice aF (ls.getD []).length cF) F := ⟨ls, haF, hcF⟩
  have hl : (ls.getD []).length = F.len := hcF.len
  obtain ⟨Et, jt, hut, _, _⟩ := sliSz_spec ht.sF
  have hzT : zeroOf P E.t_spec_Tree = some (.agg (zT (.slice none 0 0)).toArray) := ht.zT
  have hzc : ∀ a : Array Value, (Value.agg a).cells = a := fun a => rfl
  have hz : zeroOf P E.t_spec_Field = some (.agg zField) := ht.zF
  have hzz : zField.size = 8 := rfl
  have hzfc : (Value.agg zField).cells = zField := rfl
  generalize hw1 : (w.alloc (.cells (zT (.slice none 0 0)).toArray E.t_spec_Tree)).alloc (.cells (zT (.slice none 0 0)).toArray E.t_spec_Tree) = w1
  have hE : Ext none1 w w1 := by subst hw1; exact ((Ext.refl none1 w).alloc _).alloc _
  have hb2 : w1.heap[w.heap.size]? = some (.cells (zT (.slice none 0 0)).toArray E.t_spec_Tree (0, 0)) := by subst hw1; exact alloc_old alloc_new
  have hb3 : w1.heap[w.heap.size + 1]? = some (.cells (zT (.slice none 0 0)).toArray E.t_spec_Tree (0, 0)) := by
    subst hw1
    have := alloc_new (w := w.alloc (.cells (zT (.slice none 0 0)).toArray E.t_spec_Tree)) (o := .cells (zT (.slice none 0 0)).toArray E.t_spec_Tree)
    simpa using this
  rw [hl] at hF ⊢
  simp [ir_spec_Default, rs_spec_Default, hzT, hzc, hw1, len_slice hut]
  generalize hfv : Value.slice aF F.len cF = fv at *
  refine cw_blockThen (DfEnd E.t_spec_Tree w F w.heap.size (w.heap.size + 1)) ?_ ?_
  · refine cw_loop (DfInv E.t_spec_Tree w fv F w.heap.size (w.heap.size + 1)) (fun f _ => match f 9 with | .int _ i => ((F.len : Int) - i).toNat | _ => 0) ?_ ?_
    · exact ⟨0, .slice none 0 0, [], by omega, by simp, by simp, by simp, by simp, by simp, hb2, hb3, ⟨Own.nil _ _ _ _, by simp⟩, rfl, by simp, hE⟩
    · rintro f w' ⟨i, lv, rows, hi, k9, k8, k7, k2, k3, hb2', hb3', hown, hrl, hrows, he⟩
      simp [k9, k8]
      by_cases hlt : i < F.len
      · refine cw_true (by simp; omega) ?_
        obtain ⟨bb, oo, cc, h, s, sv, y, hfvv, hy, rfl, hss, hFs, hsv1, hcf⟩ := fs_elem (ver := 0) (flex := false) hF he (i := i) (by rw [FS.list_len]; exact hlt)
        obtain ⟨h', s', hh, _, hyh⟩ := FS.list_get hy
        have hyh' : y.h = h' := by rw [hyh]
        rw [hyh'] at hcf
        have hone : allOne (h'.cells ++ [sv]) = true := FH.cells_one h' hsv1
        have hcl := FH.cells_len h' sv
        have ei : IntKind.i64.wrap ((i : Int) + 1) = ((i + 1 : Nat) : Int) := by rw [i64_small (by omega) (by omega)]; rfl
        have hdt := FS.dflL_get hh hss
        rw [FS.list_len] at hfvv
        have hfit := hdf h' (List.mem_of_getElem? hh)
        simp only [cw_skip, thenF_normal]
        rw [cw_seq, cw_block, cw_seq]
        refine cw_then (DfA E.t_spec_Field w' fv F.len i w'.heap.size (f 2) (f 3) (h'.cells ++ [sv])) ?_ ?_
        · rw [hfvv] at k7
          simp [k9, k7, idx?, ht.sF, hlt, Addr.add_mk, ld_agg ht.kF, hcf, hz, hzfc, store_agg ht.kF, hone, putK_blk alloc_new, hzz]
          rw [over_z8 hcl]
          exact ⟨by simp, by simp [k9], by simp [k8], by simp [hfvv, k7], by simp, by simp, ((Ext.refl none1 w').alloc _).setBlk (.inl (Nat.le_refl _)) _, setBlk_same alloc_new⟩
        · rintro f5 w5 ⟨j5, j9, j8, j7, j2, j3, he5, hb5⟩
          rw [k2] at j2
          rw [k3] at j3
          clear k9 k8 k7 k2 k3
          clear f
          have hx5 : Ext none1 w w5 := he.trans he5
          have cF5 : ∀ wx, Ext none1 w5 wx → ∀ j u, (h'.cells ++ [sv])[j]? = some u → wx.cell? ⟨w'.heap.size, j, none⟩ = some u := by
            intro wx hx j u hj
            rw [cell_of_blk (hx.old hb5 (fun h => h))]; simpa using hj
          have d5 := cF5 w5 (Ext.refl _ _) 5 _ rfl
          have d3 := cF5 w5 (Ext.refl _ _) 3 _ rfl
          have hb3lt : w.heap.size + 1 < w'.heap.size := lt_of_heap hb3'
          have hol : ∀ b, own1 lv b → b < w'.heap.size := fun b hb => (Own.below hown.1 hb).2
          rw [cw_seq]
          refine cw_then (DfB E.t_spec_Tree w5 fv F.len i w'.heap.size w.heap.size (w.heap.size + 1) [.int .i64 h'.dflt, .slice none 0 0, .bool (decide (0 ≤ h'.null)), .slice none 0 0, .slice none 0 0]) ?_ ?_
          · have hbo := bld_one ht h'.dflt (decide (0 ≤ h'.null))
            simp [j5, ht.f5, ht.f3, Addr.add_mk, ld_scl ht.kI64, ld_scl ht.kInt, d5, d3, hbo, hzT, hzc, store_agg ht.kT, putK_blk alloc_new]
            have hsz5 : (zT (.slice none 0 0)).length = 5 := rfl
            have ha5 : allOne [Value.int .i64 h'.dflt, .slice none 0 0, .bool (decide (0 ≤ h'.null)), .slice none 0 0, .slice none 0 0] = true := rfl
            have hov : over (zT (.slice none 0 0)).toArray 0 [Value.int .i64 h'.dflt, .slice none 0 0, .bool (decide (0 ≤ h'.null)), .slice none 0 0, .slice none 0 0] = #[Value.int .i64 h'.dflt, .slice none 0 0, .bool (decide (0 ≤ h'.null)), .slice none 0 0, .slice none 0 0] := by simp [over, zT]
            rw [hov]
            refine ⟨ha5, by simp [hsz5], ?_⟩
            exact ⟨w5.heap.size, by simp, setBlk_same alloc_new, Nat.le_refl _, ((Ext.refl none1 w5).alloc _).setBlk (.inl (Nat.le_refl _)) _, by simp [j5], by simp [j9], by simp [j8], by simp [j7], by simp [j2], by simp [j3]⟩
          · clear j5 j9 j8 j7 j2 j3
            clear f5
            rintro f w6 ⟨b6, k6, hb6, hb6le, he6, k5, k9, k8, k7, k2, k3⟩
            rw [cw_seq]
            refine cw_then (DfOne E.t_spec_Tree w fv F w.heap.size (w.heap.size + 1) i w5 lv (.mk h'.dflt [] (decide (0 ≤ h'.null)) (if h'.kind = 10 then s.dflL else []) [])) ?_ ?_
            · have d0 := cF5 w6 he6 0 _ rfl
              have d7 := cF5 w6 he6 7 sv rfl
              simp [k5, ht.f0, Addr.add_mk, ld_scl ht.kInt, d0]
              by_cases h10 : h'.kind = 10
              · refine cw_true (by simp [h10]) ?_
                simp [k5, ht.f7, Addr.add_mk, ld_scl ht.kLF, d7]
                refine (hsub i s hss w6 sv (hFs.ext (he5.trans he6))).mono ?_
                rintro _ w7 ⟨lvs, rfl, hD7, he7⟩
                have hb67 : w7.heap[b6]? = some (.cells (([.int .i64 h'.dflt, .slice none 0 0, .bool (decide (0 ≤ h'.null)), .slice none 0 0, .slice none 0 0] : List Value)).toArray E.t_spec_Tree (0, 0)) := he7.old hb6 (fun h => h)
                obtain ⟨lss, hda, hdl, hde⟩ : ∃ lss, ArrAt w7 (fun b => w6.heap.size ≤ b ∧ b < w7.heap.size) 5 lvs lss ∧ (lss.getD []).length = s.dflL.length ∧ ∀ (i : Nat) c t, (lss.getD [])[i]? = some c → s.dflL[i]? = some t → DTr w7 (fun b => w6.heap.size ≤ b ∧ b < w7.heap.size) c t := by
                  have key : ∀ cs t, DTr w7 (fun b => w6.heap.size ≤ b ∧ b < w7.heap.size) cs t → ∃ lv lss, cs[3]? = some lv ∧ ArrAt w7 (fun b => w6.heap.size ≤ b ∧ b < w7.heap.size) 5 lv lss ∧ (lss.getD []).length = t.l.length ∧ ∀ (i : Nat) c t', (lss.getD [])[i]? = some c → t.l[i]? = some t' → DTr w7 (fun b => w6.heap.size ≤ b ∧ b < w7.heap.size) c t' := by
                    intro cs t h
                    cases h with
                    | mk hn ha hl he => exact ⟨_, _, rfl, ha, hl, he⟩
                  obtain ⟨lv', lss, h1, h2, h3, h4⟩ := key _ _ hD7
                  cases h1
                  exact ⟨lss, h2, h3, h4⟩
                have hlv1 : lvs.oneCell' = true := by obtain ⟨a, c, h', _⟩ := hda.form; rw [h']; rfl
                have hfl : fld? P E.t_spec_Tree 3 (zT lvs).toArray = some lvs := ht.fT3 _ _ _ _ _
                simp [hfl, k6, ht.t3, Addr.add_mk, store_scl ht.kLT, hlv1, put1K_blk hb67]
                have hset : (#[Value.int .i64 h'.dflt, .slice none 0 0, .bool (decide (0 ≤ h'.null)), .slice none 0 0, .slice none 0 0]).setIfInBounds 3 lvs = #[Value.int .i64 h'.dflt, .slice none 0 0, .bool (decide (0 ≤ h'.null)), lvs, .slice none 0 0] := rfl
                try rw [hset]
                have hx78 : Ext none1 w5 (w7.setBlk b6 (.cells #[Value.int .i64 h'.dflt, .slice none 0 0, .bool (decide (0 ≤ h'.null)), lvs, .slice none 0 0] E.t_spec_Tree (0, 0))) := (he6.trans he7).setBlk (.inl hb6le) _
                have hb6lt : b6 < w6.heap.size := lt_of_heap hb6
                have hx77 : Ext (· = b6) w7 (w7.setBlk b6 (.cells #[Value.int .i64 h'.dflt, .slice none 0 0, .bool (decide (0 ≤ h'.null)), lvs, .slice none 0 0] E.t_spec_Tree (0, 0))) := (Ext.refl (fun x => x = b6) w7).setBlk (.inr rfl) _
                have hKK : ∀ b, (w6.heap.size ≤ b ∧ b < w7.heap.size) → DfK (w.heap.size + 1) (w7.setBlk b6 (.cells #[Value.int .i64 h'.dflt, .slice none 0 0, .bool (decide (0 ≤ h'.null)), lvs, .slice none 0 0] E.t_spec_Tree (0, 0))) lv b := by
                  intro b hb
                  have := he5.size
                  have := he6.size
                  exact ⟨by omega, by simpa using hb.2, fun h => by have := hol b h; omega⟩
                refine ⟨b6, [Value.int .i64 h'.dflt, .slice none 0 0, .bool (decide (0 ≤ h'.null)), lvs, .slice none 0 0], by simp [k6], setBlk_same hb67, ?_, by simp [k9], by simp [k8], by simp [k7], by simp [k2], by simp [k3], hx78, hb6le⟩
                rw [if_pos h10]
                refine .mk hfit ((hda.ext hx77 (fun b _ hb => by omega)).mono hKK) hdl ?_
                intro j c t hc ht'
                exact ((hde j c t hc ht').ext hx77 (fun b _ hb => by omega)).mono hKK
              · refine cw_false (by simp [h10]) ?_
                simp
                refine ⟨b6, _, by simp [k6], hb6, ?_, by simp [k9], by simp [k8], by simp [k7], by simp [k2], by simp [k3], he6, hb6le⟩
                rw [if_neg h10]
                exact .mk (ls := none) hfit rfl rfl (by simp)
            · clear k5 k6 k9 k8 k7 k2 k3 hb6 hb6le he6
              clear f w6 b6
              rintro f w7 ⟨b6, cs, k6, hb6, hD1, k9, k8, k7, k2, k3, he7, hb6le⟩
              obtain ⟨hcs5, hcs1⟩ := hD1.len5
              have hx7 : Ext none1 w' w7 := he5.trans he7
              have hb37 : w7.heap[w.heap.size + 1]? = some (.cells (zT lv).toArray E.t_spec_Tree (0, 0)) := hx7.old hb3' (fun h => h)
              have c3 : w7.cell? ⟨w.heap.size + 1, 3, none⟩ = some lv := by rw [cell_of_blk hb37]; rfl
              have lT6 : cellsFrom w7 ⟨b6, 0, none⟩ 0 5 = some cs := by
                have := cellsFrom_row hb6
                rw [List.size_toArray, hcs5] at this
                simpa using this
              have hrlen : rows.flatten.length = rows.length * 5 := flatten5 hown.2
              simp [k3, k6, ht.t3, Addr.add_mk, ld_scl ht.kLT, c3, ld_agg ht.kT, lT6]
              rw [st_bsl (n := 1) (parts := #[(0, Operand.tmp 29)]) ht.gTr (by omega) rfl rfl (by omega) (by omega) (by simp [allSz, Value.cells, hcs5])]
              have hfl : flat [Value.agg cs.toArray] = cs := by simp [flat, Value.cells]
              simp only [List.map_cons, List.map_nil, evF_tmp, upd_apply, if_true, hfl]
              try simp [hfl]
              generalize hw8 : w7.alloc (.cells cs.toArray E.t_spec_Tree) = w8
              have hx8 : Ext none1 w7 w8 := by subst hw8; exact (Ext.refl none1 w7).alloc _
              have hb8 : w8.heap[w7.heap.size]? = some (.cells cs.toArray E.t_spec_Tree (0, 0)) := by subst hw8; exact alloc_new
              have hown8 := Own.ext hown.1 (hx7.trans hx8) (fun _ _ h => h)
              refine st_append ht.gTr (by omega) (x := .tmp 28) (y := .tmp 30) (base := w.heap.size + 1 + 1) (xs := rows.flatten) (by simpa using hown8) (ad := some ⟨w7.heap.size, 0, none⟩) (m := 1) (c := 1) (news := cs) (by simp) (by omega) (by simp) ?_ (allOne_spec hcs1) ?_ ?_ ?_ ?_
              · intro a ha j u hj
                cases ha
                rw [Addr.add_mk, cell_of_blk hb8]
                simpa using hj
              · simp only [maxLen]; omega
              · omega
              · have := hx7.size; have := hx8.size; omega
              · intro v' w9 ho9 hg9
                simp at hg9
                have hn3 : ¬ own1 lv (w.heap.size + 1) := fun h => by have := (Own.below hown.1 h).1; omega
                have hb39 : w9.heap[w.heap.size + 1]? = some (.cells (zT lv).toArray E.t_spec_Tree (0, 0)) := hg9.ext.old (hx8.old hb37 (fun h => h)) hn3
                have hv1 : v'.oneCell' = true := by
                  obtain ⟨n, _, h⟩ := ho9
                  rcases h with ⟨rfl, _⟩ | ⟨g, cap, cur, rfl, _⟩ <;> rfl
                have hz5 : (zT lv).length = 5 := rfl
                have hset : (zT lv).toArray.setIfInBounds 3 v' = (zT v').toArray := rfl
                simp [k3, ht.t3, Addr.add_mk, store_scl ht.kLT, hv1, put1K_blk hb39, hz5]
                have hset' : (zT lv).set 3 v' = zT v' := rfl
                try rw [hset']
                try rw [hset]
                have hx9 : Ext (fun k => k = w.heap.size + 1) w9 (w9.setBlk (w.heap.size + 1) (.cells (zT v').toArray E.t_spec_Tree (0, 0))) := (Ext.refl (fun k => k = w.heap.size + 1) w9).setBlk (.inr rfl) _
                generalize hw10 : w9.setBlk (w.heap.size + 1) (.cells (zT v').toArray E.t_spec_Tree (0, 0)) = w10 at *
                have hb310 : w10.heap[w.heap.size + 1]? = some (.cells (zT v').toArray E.t_spec_Tree (0, 0)) := by subst hw10; exact setBlk_same hb39
                have hs89 := hg9.ext.size
                have hs910 := hx9.size
                have hs78 := hx8.size
                have hs77 := hx7.size
                have hx08 : Ext none1 w w8 := he.trans (hx7.trans hx8)
                have hx09 : Ext none1 w w9 := hx08.owned (Own.base hown8 (by omega)) hg9.ext
                have carry : ∀ c t, DTr w7 (DfK (w.heap.size + 1) w7 lv) c t → DTr w10 (DfK (w.heap.size + 1) w10 v') c t := by
                  intro c t h
                  refine (((h.ext hx8 (fun _ _ _ h => h)).ext hg9.ext (fun b _ hb h => hb.2.2 h)).ext hx9 (fun b _ hb h => by have := hb.1; omega)).mono ?_
                  intro b hb
                  refine ⟨hb.1, by have := hb.2.1; omega, fun h => ?_⟩
                  rcases hg9.own b h with h | h
                  · exact hb.2.2 h
                  · have := hb.2.1; omega
                have carry0 : ∀ c t, DTr w' (DfK (w.heap.size + 1) w' lv) c t → DTr w10 (DfK (w.heap.size + 1) w10 v') c t := by
                  intro c t h
                  refine carry c t ((h.ext hx7 (fun _ _ _ h => h)).mono ?_)
                  intro b hb
                  exact ⟨hb.1, by have := hb.2.1; omega, hb.2.2⟩
                simp [k9, ei]
                refine ⟨⟨i + 1, v', rows ++ [cs], by omega, by simp, by simp [k8], by simp [k7], by simp [k2], by simp [k3], ?_, hb310, ⟨?_, ?_⟩, by simp [hrl], ?_, ?_⟩, by omega⟩
                · have hb2lt := lt_of_heap hb2'
                  have : w9.heap[w.heap.size]? = some (.cells (zT (.slice none 0 0)).toArray E.t_spec_Tree (0, 0)) := hg9.ext.old (hx8.old (hx7.old hb2' (fun h => h)) (fun h => h)) (fun h => by have := (Own.below hown.1 h).1; omega)
                  exact hx9.old this (by omega)
                · rw [List.flatten_append]
                  simpa using Own.ext ho9 hx9 (fun b hb h => by have := (Own.below ho9 hb).1; omega)
                · intro c hc
                  rcases List.mem_append.1 hc with h | h
                  · exact hown.2 c h
                  · simp at h; rw [h]; exact hcs5
                · intro j c t hc ht'
                  by_cases hj : j < rows.length
                  · rw [List.getElem?_append_left hj] at hc
                    exact carry0 c t (hrows j c t hc ht')
                  · rw [List.getElem?_append_right (by omega)] at hc
                    have hji : j = i := by
                      have := (List.getElem?_eq_some_iff.1 hc).1
                      simp at this; omega
                    subst hji
                    rw [hrl] at hc
                    simp at hc
                    subst hc
                    rw [hdt] at ht'
                    cases ht'
                    exact carry _ _ hD1
                · subst hw10
                  exact hx09.setBlk (.inl (by omega)) _
      · refine cw_false (by simp; omega) ?_
        have : i = F.len := by omega
        subst this
        simp
        exact ⟨lv, rows, by simp [k2], by simp [k3], hb2', hb3', hown, hrl, hrows, he⟩
  · rintro f w2 ⟨lv, rows, k2, k3, hb2', hb3', hown, hrl, hrows, he⟩
    have lT3 : cellsFrom w2 ⟨w.heap.size + 1, 0, none⟩ 0 5 = some (zT lv) := by
      have := cellsFrom_row hb3'
      rw [show (zT lv).toArray.size = 5 from rfl] at this
      simpa using this
    obtain ⟨lss, harr, hlss⟩ := hown.arr (by omega)
    have hlv1 : lv.oneCell' = true := by obtain ⟨a, c, h', _⟩ := harr.form; rw [h']; rfl
    have hone : allOne (zT lv) = true := by obtain ⟨a, c, h', _⟩ := harr.form; rw [h']; rfl
    have hz5 : (zT lv).length = 5 := rfl
    have hz5' : (zT (.slice none 0 0)).length = 5 := rfl
    have hov : over (zT (.slice none 0 0)).toArray 0 (zT lv) = (zT lv).toArray := by simp [over, zT]
    simp [k2, k3, ld_agg ht.kT, lT3, store_agg ht.kT, hone, hz5, hz5', putK_blk hb2', hov]
    have hx3 : Ext (fun k => k = w.heap.size) w2 (w2.setBlk w.heap.size (.cells (zT lv).toArray E.t_spec_Tree (0, 0))) := (Ext.refl (fun k => k = w.heap.size) w2).setBlk (.inr rfl) _
    have hb23 : (w2.setBlk w.heap.size (.cells (zT lv).toArray E.t_spec_Tree (0, 0))).heap[w.heap.size]? = some (.cells (zT lv).toArray E.t_spec_Tree (0, 0)) := setBlk_same hb2'
    have hxx : Ext none1 w (w2.setBlk w.heap.size (.cells (zT lv).toArray E.t_spec_Tree (0, 0))) := he.setBlk (.inl (Nat.le_refl _)) _
    generalize hw3 : w2.setBlk w.heap.size (.cells (zT lv).toArray E.t_spec_Tree (0, 0)) = w3 at *
    have lT2 : cellsFrom w3 ⟨w.heap.size, 0, none⟩ 0 5 = some (zT lv) := by
      have := cellsFrom_row hb23
      rw [show (zT lv).toArray.size = 5 from rfl] at this
      simpa using this
    simp [lT2]
    refine ⟨lv, rfl, ?_, hxx⟩
    have hs23 := hx3.size
    refine .mk (ls := lss) ⟨by omega, by omega⟩ ((harr.ext hx3 (fun b _ hb h => by omega)).mono (fun b hb => by omega)) ?_ ?_
    · rw [hlss, hrl, FS.dflL_len]
    · intro j c t hc ht'
      rw [hlss] at hc
      refine ((hrows j c t hc ht').ext hx3 (fun b _ hb h => by have := hb.1; omega)).mono ?_
      intro b hb
      have := hb.1
      have := hb.2.1
      exact ⟨by omega, by omega⟩
end
end Go.Kg

set_option linter.unusedSimpArgs false
set_option linter.unusedVariables false
namespace Go.Kg
open Go

/-! ## Default of all fields -/
theorem FS.okAll.dflt : ∀ {F : FS}, F.okAll → ∀ h ∈ F.heads, fits h.dflt
  | .nil, _, h, hh => by cases hh
  | .cons h' s r, ho, h, hh => by
    rcases List.mem_cons.1 hh with rfl | hh
    · exact ho.2.1
    · exact FS.okAll.dflt ho.2.2.2.2 h hh

theorem sp_Default {P : Program} {E : Env} (ht : TyD P E) (hI : FnIs P E.f_spec_Default nt_spec_Default (rs_spec_Default E) (ir_spec_Default E)) : ∀ F : FS, F.okAll → F.len ≤ 1000 → DefC P E F := by
  have key : ∀ F : FS, F.okAll → ∀ (i : Nat) s, F.subs[i]? = some s → DefC P E s := by
    intro F
    induction F with
    | nil => intro _ i s h; simp [FS.subs] at h
    | cons h sub rest ihs ihr =>
      intro ho i s hs
      cases i with
      | zero =>
        simp [FS.subs] at hs; subst hs
        exact c_Default ht hI sub ho.2.2.2.1 ho.2.2.1 (ihs ho.2.2.2.1) ho.2.2.2.1.dflt
      | succ i => exact ihr ho.2.2.2.2 i s (by simpa [FS.subs] using hs)
  intro F ho hl
  exact c_Default ht hI F ho hl (key F ho) ho.dflt

/-! ## The functions that make the fields of a message -/
def FH.zero : FH := ⟨0, 0, 0, 0, 0, 0, 0⟩
def FH.set (h : FH) (k : Nat) (n : Int) : FH :=
  match k with
  | 0 => { h with kind := n } | 1 => { h with frm := n } | 2 => { h with to := n } | 3 => { h with null := n } | 4 => { h with tag := n } | 5 => { h with dflt := n } | _ => { h with of_ := n }

/-- A field's text: its parts in order, and the function of its own fields (with these). -/
structure FSrc where
  ps : List (Nat × Int)
  sub : Option (Nat × FS)

def FSrc.h (x : FSrc) : FH := x.ps.foldl (fun h p => h.set p.1 p.2) FH.zero
def FSrc.subF (x : FSrc) : FS := match x.sub with | some (_, F) => F | none => .nil
def mkFS : List FSrc → FS
  | [] => .nil
  | x :: r => .cons x.h x.subF (mkFS r)

def psOp (ps : List (Nat × Int)) : List (Nat × Operand) := ps.map fun p => (p.1, .const (.int .i64 p.2))
def FSrc.sz (x : FSrc) : Nat := match x.sub with | some _ => 2 | none => 1
def FSrc.ro (E : Env) (x : FSrc) (t : Nat) : List Ro := match x.sub with
  | none => [⟨none, some t, .build E.t_spec_Field (psOp x.ps).toArray, E.t_spec_Field⟩]
  | some (g, _) => [⟨none, some t, .call { callee := .value (.func g), args := #[], argTypes := #[] }, E.t_l_spec_Field⟩, ⟨none, some (t + 1), .build E.t_spec_Field (psOp x.ps ++ [(7, Operand.tmp t)]).toArray, E.t_spec_Field⟩]
def genSr (E : Env) : List FSrc → Nat → List Ro
  | [], _ => []
  | x :: r, t => x.ro E t ++ genSr E r (t + x.sz)
def slotsS : List FSrc → Nat → List Nat
  | [], _ => []
  | x :: r, t => (t + x.sz - 1) :: slotsS r (t + x.sz)
def endS : List FSrc → Nat → Nat
  | [], t => t
  | x :: r, t => endS r (t + x.sz)
def bslOp (sl : List Nat) : Array (Nat × Operand) := (sl.zipIdx.map fun p => (p.2, Operand.tmp p.1)).toArray

/-- func sX() []Field -/
def irSub (E : Env) (xs : List FSrc) : Ir :=
  .seq (.reg [⟨none, some 0, .assign (.const (.slice none 0 0)), E.t_l_spec_Field⟩])
  (.seq (.reg (genSr E xs 1 ++ [⟨none, some (endS xs 1), .buildSlice E.t_l_spec_Field xs.length (bslOp (slotsS xs 1)), E.t_l_spec_Field⟩, ⟨none, some 0, .assign (.tmp (endS xs 1)), E.t_l_spec_Field⟩])) .ret)
/-- func X() Message -/
def irMsg (E : Env) (xs : List FSrc) (fx : Int) : Ir :=
  .seq (.reg [⟨none, some 0, .alloc E.t_spec_Message, E.tNil⟩])
  (.seq (.reg (genSr E xs 1 ++ [⟨none, some (endS xs 1), .buildSlice E.t_l_spec_Field xs.length (bslOp (slotsS xs 1)), E.t_l_spec_Field⟩,
    ⟨none, some (endS xs 1 + 1), .build E.t_spec_Message #[(1, .const (.int .i64 fx)), (0, .tmp (endS xs 1))], E.t_spec_Message⟩, ⟨none, none, .store E.t_spec_Message (.tmp 0) (.tmp (endS xs 1 + 1)), E.tNil⟩])) .ret)

def psOk : List (Nat × Int) → Bool
  | [] => true
  | p :: r => decide (p.1 < 7) && psOk r

structure TyK (P : Program) (E : Env) : Prop extends TyD P E where
  pF8 : places P E.t_spec_Field = some [(0, 1), (1, 1), (2, 1), (3, 1), (4, 1), (5, 1), (6, 1), (7, 1)]
  gF : SliI P E.t_l_spec_Field E.t_spec_Field 8 80 (.agg zField)
  pM : places P E.t_spec_Message = some [(0, 1), (1, 1)]
  zM : zeroOf P E.t_spec_Message = some (.agg #[.slice none 0 0, .int .i64 0])
  kM : kindOf P E.t_spec_Message = .agg 2

theorem FH.set_cells (h : FH) (sv : Value) (k : Nat) (n : Int) (hk : k < 7) : (h.cells ++ [sv]).toArray.setIfInBounds k (.int .i64 n) = ((h.set k n).cells ++ [sv]).toArray := by
  match k, hk with
  | 0, _ => rfl
  | 1, _ => rfl
  | 2, _ => rfl
  | 3, _ => rfl
  | 4, _ => rfl
  | 5, _ => rfl
  | 6, _ => rfl

def pl8 : List (Nat × Nat) := [(0, 1), (1, 1), (2, 1), (3, 1), (4, 1), (5, 1), (6, 1), (7, 1)]
theorem pl8_get {k : Nat} (hk : k < 8) : pl8[k]? = some (k, 1) := by
  match k, hk with
  | 0, _ => rfl | 1, _ => rfl | 2, _ => rfl | 3, _ => rfl | 4, _ => rfl | 5, _ => rfl | 6, _ => rfl | 7, _ => rfl

theorem fill_one {k : Nat} (hk : k < 8) {v : Value} (hv : v.cells = #[v]) {c : Array Value} (hc : c.size = 8) (rest : List (Nat × Value)) :
    Instr.fill (fun i => pl8[i]?) c ((k, v) :: rest) = Instr.fill (fun i => pl8[i]?) (c.setIfInBounds k v) rest := by
  simp only [Instr.fill, pl8_get hk, hv]
  rw [if_neg (by simp; omega)]
  simp

theorem fill_ps : ∀ (ps : List (Nat × Int)) (h : FH) (sv : Value) (rest : List (Nat × Value)), psOk ps = true →
    Instr.fill (fun i => pl8[i]?) (h.cells ++ [sv]).toArray (ps.map (fun p => (p.1, Value.int .i64 p.2)) ++ rest) = Instr.fill (fun i => pl8[i]?) ((ps.foldl (fun h p => h.set p.1 p.2) h).cells ++ [sv]).toArray rest
  | [], h, sv, rest, _ => rfl
  | p :: r, h, sv, rest, hok => by
    simp only [psOk, Bool.and_eq_true, decide_eq_true_eq] at hok
    rw [List.map_cons, List.cons_append, fill_one (by omega) rfl (by simp), FH.set_cells h sv p.1 p.2 hok.1]
    exact fill_ps r _ sv rest hok.2

theorem zField_eq : zField = (FH.zero.cells ++ [Value.slice none 0 0]).toArray := rfl

/-- Fields whose rows lie in blocks of K. -/
def FsCellsK (w : World) (K : Nat → Prop) : List (List Value) → FS → Prop
  | [], .nil => True
  | c :: cs, .cons h sub rest => (∃ sv ls, c = h.cells ++ [sv] ∧ ArrAt w K 8 sv ls ∧ FsCellsK w K (ls.getD []) sub) ∧ FsCellsK w K cs rest
  | _, _ => False
def FsAtK (w : World) (K : Nat → Prop) (v : Value) (F : FS) : Prop := ∃ ls, ArrAt w K 8 v ls ∧ FsCellsK w K (ls.getD []) F
theorem FsCellsK.ext {C K K' : Nat → Prop} {w w' : World} (he : Ext C w w') (hK : ∀ b, b < w.heap.size → K b → ¬ C b) (hm : ∀ b, K b → K' b) : ∀ {F : FS} {ls : List (List Value)}, FsCellsK w K ls F → FsCellsK w' K' ls F := by
  intro F
  induction F with
  | nil => intro ls h; cases ls with
    | nil => trivial
    | cons c cs => exact h.elim
  | cons h sub rest ihs ihr =>
    intro ls hh
    cases ls with
    | nil => exact hh.elim
    | cons c cs =>
      obtain ⟨⟨sv, l, h1, h2, h3⟩, h4⟩ := hh
      exact ⟨⟨sv, l, h1, (h2.ext he hK).mono hm, ihs h3⟩, ihr h4⟩
theorem FsAtK.ext {C K K' : Nat → Prop} {w w' : World} (he : Ext C w w') (hK : ∀ b, b < w.heap.size → K b → ¬ C b) (hm : ∀ b, K b → K' b) {v : Value} {F : FS} (h : FsAtK w K v F) : FsAtK w' K' v F := by
  obtain ⟨ls, h1, h2⟩ := h; exact ⟨ls, (h1.ext he hK).mono hm, h2.ext he hK hm⟩
theorem FsCellsK.all {K : Nat → Prop} {w : World} : ∀ {F : FS} {ls : List (List Value)}, FsCellsK w K ls F → FsCells w ls F := by
  intro F
  induction F with
  | nil => intro ls h; cases ls with
    | nil => trivial
    | cons c cs => exact h.elim
  | cons h sub rest ihs ihr =>
    intro ls hh
    cases ls with
    | nil => exact hh.elim
    | cons c cs =>
      obtain ⟨⟨sv, l, h1, h2, h3⟩, h4⟩ := hh
      exact ⟨⟨sv, l, h1, h2.mono (fun _ _ => trivial), ihs h3⟩, ihr h4⟩
theorem FsAtK.all {K : Nat → Prop} {w : World} {v : Value} {F : FS} (h : FsAtK w K v F) : FsAt w v F := by
  obtain ⟨ls, h1, h2⟩ := h; exact ⟨ls, h1.mono (fun _ _ => trivial), h2.all⟩

/-- What the fields are, once made: their rows at base and above. -/
def FldsV (w : World) (base : Nat) : List FSrc → List Value → Prop
  | [], [] => True
  | x :: r, v :: vs => (∃ sv, v = .agg (x.h.cells ++ [sv]).toArray ∧ FsAtK w (base ≤ ·) sv x.subF) ∧ FldsV w base r vs
  | _, _ => False
theorem FldsV.ext {w w' : World} {base : Nat} (he : Ext none1 w w') : ∀ {xs : List FSrc} {vs : List Value}, FldsV w base xs vs → FldsV w' base xs vs
  | [], [], _ => trivial
  | x :: r, v :: vs, h => ⟨by obtain ⟨sv, h1, h2⟩ := h.1; exact ⟨sv, h1, h2.ext he (fun _ _ _ h => h) (fun _ h => h)⟩, FldsV.ext he h.2⟩
  | [], _ :: _, h => h.elim
  | _ :: _, [], h => h.elim
theorem FldsV.len {w : World} {base : Nat} : ∀ {xs : List FSrc} {vs : List Value}, FldsV w base xs vs → vs.length = xs.length ∧ ∀ v ∈ vs, v.cells.size = 8
  | [], [], _ => ⟨rfl, by simp⟩
  | x :: r, v :: vs, h => by
    obtain ⟨h1, h2⟩ := FldsV.len h.2
    obtain ⟨sv, rfl, _⟩ := h.1
    refine ⟨by simp [h1], fun u hu => ?_⟩
    rcases List.mem_cons.1 hu with rfl | hu
    · simp [Value.cells]
    · exact h2 u hu
  | [], _ :: _, h => h.elim
  | _ :: _, [], h => h.elim

def SubC (P : Program) (g : Nat) (F : FS) : Prop := ∀ w, Ret P g #[] w fun v w' => FsAtK w' (w.heap.size ≤ ·) v F ∧ Ext none1 w w'
def srcOk (P : Program) : List FSrc → Prop
  | [] => True
  | x :: r => psOk x.ps = true ∧ (∀ g F, x.sub = some (g, F) → SubC P g F) ∧ srcOk P r

theorem FsAtK.nil (w : World) (K : Nat → Prop) : FsAtK w K (.slice none 0 0) .nil := ⟨none, rfl, trivial⟩

theorem slotsS_ge : ∀ (xs : List FSrc) (t : Nat), ∀ s ∈ slotsS xs t, t ≤ s
  | [], _, s, h => by cases h
  | x :: r, t, s, h => by
    have hz : 1 ≤ x.sz := by unfold FSrc.sz; split <;> omega
    rcases List.mem_cons.1 h with rfl | h
    · omega
    · have := slotsS_ge r _ s h; omega
theorem endS_ge : ∀ (xs : List FSrc) (t : Nat), t ≤ endS xs t
  | [], t => Nat.le_refl _
  | x :: r, t => Nat.le_trans (Nat.le_add_right _ _) (endS_ge r (t + x.sz))
theorem slotsS_lt : ∀ (xs : List FSrc) (t : Nat), ∀ s ∈ slotsS xs t, s < endS xs t
  | [], _, s, h => by cases h
  | x :: r, t, s, h => by
    have hz : 1 ≤ x.sz := by unfold FSrc.sz; split <;> omega
    rcases List.mem_cons.1 h with rfl | h
    · have := endS_ge r (t + x.sz)
      simp only [endS]; omega
    · exact slotsS_lt r _ s h
theorem slotsS_len : ∀ (xs : List FSrc) (t : Nat), (slotsS xs t).length = xs.length
  | [], _ => rfl
  | x :: r, t => by simp [slotsS, slotsS_len r]

theorem stp_build {P : Program} {f : Nat → Value} {ty T : TypeId} {w : World} {K : Value → World → Prop} {ps : List (Nat × Operand)} (h : ps ≠ []) : stp P f (.build T ps.toArray) ty w K = optK (bld? P T (ps.map fun p => (p.1, evF f p.2))) fun v => K v w := by
  cases ps with
  | nil => exact absurd rfl h
  | cons p r => simp only [stp]
theorem psOp_eval (f : Nat → Value) (ps : List (Nat × Int)) : (psOp ps).map (fun p => (p.1, evF f p.2)) = ps.map fun p => (p.1, Value.int .i64 p.2) := by simp [psOp, evF]

def MsgC (P : Program) (g : Nat) (F : FS) (fx : Int) : Prop := ∀ w, Ret P g #[] w fun v w' => ∃ fv, v = .agg #[fv, .int .i64 fx] ∧ FsAt w' fv F ∧ Ext none1 w w'
theorem dense_bsl : ∀ (sl : List Nat) (k : Nat), denseFrom k ((sl.zipIdx k).map fun p => (p.2, Operand.tmp p.1)) = true
  | [], _ => rfl
  | s :: r, k => by simp only [List.zipIdx_cons, List.map_cons, denseFrom, beq_self_eq_true, Bool.true_and]; exact dense_bsl r (k + 1)
theorem bsl_vals (f : Nat → Value) : ∀ (sl : List Nat) (k : Nat), ((sl.zipIdx k).map fun p => (p.2, Operand.tmp p.1)).map (fun p => evF f p.2) = sl.map f
  | [], _ => rfl
  | s :: r, k => by simp only [List.zipIdx_cons, List.map_cons, bsl_vals f r (k + 1)]; rfl

theorem allSz_of {s : Nat} : ∀ {l : List Value}, (∀ v ∈ l, v.cells.size = s) → allSz s l = true
  | [], _ => rfl
  | v :: l, h => by simp only [allSz, h v List.mem_cons_self, beq_self_eq_true, Bool.true_and]; exact allSz_of fun u hu => h u (List.mem_cons_of_mem _ hu)

theorem flds_cells {w : World} {base : Nat} : ∀ {xs : List FSrc} {vs : List Value}, FldsV w base xs vs → ∃ rows : List (List Value), vs = rows.map (fun c => Value.agg c.toArray) ∧ FsCellsK w (base ≤ ·) rows (mkFS xs) ∧ ∀ c ∈ rows, c.length = 8
  | [], [], _ => ⟨[], rfl, trivial, by simp⟩
  | x :: r, v :: vs, h => by
    obtain ⟨rows, h1, h2, h3⟩ := flds_cells h.2
    obtain ⟨sv, rfl, ls, ha, hc⟩ := h.1
    refine ⟨(x.h.cells ++ [sv]) :: rows, by rw [h1]; rfl, ⟨⟨sv, ls, rfl, ha, hc⟩, h2⟩, fun c hc' => ?_⟩
    rcases List.mem_cons.1 hc' with rfl | hc'
    · simp
    · exact h3 c hc'
  | [], _ :: _, h => h.elim
  | _ :: _, [], h => h.elim

section
variable {P : Program} {E : Env} (ht : TyK P E)
include ht

theorem bld_field {ps : List (Nat × Int)} (hok : psOk ps = true) : bld? P E.t_spec_Field (ps.map fun p => (p.1, Value.int .i64 p.2)) = some (.agg ((ps.foldl (fun h p => h.set p.1 p.2) FH.zero).cells ++ [Value.slice none 0 0]).toArray) := by
  have := fill_ps ps FH.zero (Value.slice none 0 0) [] hok
  rw [List.append_nil] at this
  have hz : zeroOf P E.t_spec_Field = some (.agg zField) := ht.zF
  have hp : places P E.t_spec_Field = some pl8 := ht.pF8
  simp only [bld?, hz, hp]
  show (Instr.fill (fun i => pl8[i]?) zField _).map Value.agg = _
  rw [zField_eq, this]
  rfl
theorem bld_fieldS {ps : List (Nat × Int)} {sv : Value} (hok : psOk ps = true) (hs : sv.cells = #[sv]) : bld? P E.t_spec_Field (ps.map (fun p => (p.1, Value.int .i64 p.2)) ++ [(7, sv)]) = some (.agg ((ps.foldl (fun h p => h.set p.1 p.2) FH.zero).cells ++ [sv]).toArray) := by
  have := fill_ps ps FH.zero (Value.slice none 0 0) [(7, sv)] hok
  have hz : zeroOf P E.t_spec_Field = some (.agg zField) := ht.zF
  have hp : places P E.t_spec_Field = some pl8 := ht.pF8
  simp only [bld?, hz, hp]
  show (Instr.fill (fun i => pl8[i]?) zField _).map Value.agg = _
  rw [zField_eq, this, fill_one (by omega) hs (by simp)]
  rfl

theorem gen_sound {base : Nat} : ∀ (xs : List FSrc) (t : Nat) (f : Nat → Value) (w : World) (rest : List Ro) (R : (Nat → Value) → World → Prop), srcOk P xs → (∀ x ∈ xs, x.ps ≠ []) → base ≤ w.heap.size →
    (∀ f' w', (∀ s, s < t → f' s = f s) → Ext none1 w w' → FldsV w' base xs ((slotsS xs t).map f') → regW P R rest f' w') → regW P R (genSr E xs t ++ rest) f w := by
  intro xs
  induction xs with
  | nil => intro t f w rest R _ _ _ h; exact h f w (fun _ _ => rfl) (Ext.refl _ _) trivial
  | cons x r ih =>
    intro t f w rest R hok hne hbs h
    obtain ⟨hps, hsub, hrest⟩ := hok
    have hxne := hne x List.mem_cons_self
    have hne' : ∀ y ∈ r, y.ps ≠ [] := fun y hy => hne y (List.mem_cons_of_mem _ hy)
    have hpo : psOp x.ps ≠ [] := by intro h0; apply hxne; simpa [psOp] using h0
    cases hs : x.sub with
    | none =>
      have e1 : genSr E (x :: r) t ++ rest = ⟨none, some t, .build E.t_spec_Field (psOp x.ps).toArray, E.t_spec_Field⟩ :: (genSr E r (t + 1) ++ rest) := by simp [genSr, FSrc.ro, FSrc.sz, hs]
      rw [e1, regW_plain, stp_build hpo, psOp_eval, bld_field ht hps, optK_some]
      refine ih (t + 1) _ w rest R hrest hne' hbs ?_
      intro f' w' hk he hv
      refine h f' w' (fun s hs' => by rw [hk s (by omega), updO_some, upd_apply, if_neg (by omega)]) he ?_
      have e2 : slotsS (x :: r) t = t :: slotsS r (t + 1) := by simp [slotsS, FSrc.sz, hs]
      rw [e2, List.map_cons]
      refine ⟨⟨.slice none 0 0, ?_, ?_⟩, hv⟩
      · rw [hk t (by omega), updO_some, upd_apply, if_pos rfl]; rfl
      · have : x.subF = .nil := by simp [FSrc.subF, hs]
        rw [this]; exact FsAtK.nil w' _
    | some gF =>
      obtain ⟨g, F⟩ := gF
      have hSC := hsub g F hs
      have e1 : genSr E (x :: r) t ++ rest = ⟨none, some t, .call { callee := .value (.func g), args := #[], argTypes := #[] }, E.t_l_spec_Field⟩ :: ⟨none, some (t + 1), .build E.t_spec_Field (psOp x.ps ++ [(7, Operand.tmp t)]).toArray, E.t_spec_Field⟩ :: (genSr E r (t + 2) ++ rest) := by
        simp [genSr, FSrc.ro, FSrc.sz, hs]
      rw [e1, regW_plain, stp_call]
      refine Ret.mono (R := fun v w' => FsAtK w' (w.heap.size ≤ ·) v F ∧ Ext none1 w w') (by simpa using hSC w) ?_
      rintro sv w1 ⟨hF, he1⟩
      have hsv : sv.cells = #[sv] := by
        obtain ⟨ls, ha, _⟩ := hF
        obtain ⟨a, c, rfl, _⟩ := ha.form
        rfl
      rw [regW_plain, stp_build (by simp), List.map_append, psOp_eval]
      have e3 : List.map (fun p : Nat × Operand => (p.1, evF (updO f (some t) sv) p.2)) [(7, Operand.tmp t)] = [(7, sv)] := by simp
      rw [e3, bld_fieldS ht hps hsv, optK_some]
      refine ih (t + 2) _ w1 rest R hrest hne' (Nat.le_trans hbs he1.size) ?_
      intro f' w' hk he hv
      refine h f' w' (fun s hs' => by rw [hk s (by omega)]; simp only [updO_some, upd_apply]; rw [if_neg (by omega), if_neg (by omega)]) (he1.trans he) ?_
      have e2 : slotsS (x :: r) t = (t + 1) :: slotsS r (t + 2) := by simp [slotsS, FSrc.sz, hs]
      rw [e2, List.map_cons]
      refine ⟨⟨sv, ?_, ?_⟩, hv⟩
      · rw [hk (t + 1) (by omega)]; simp only [updO_some, upd_apply, if_true]; rfl
      · have : x.subF = F := by simp [FSrc.subF, hs]
        rw [this]; exact hF.ext he (fun _ _ _ h => h) (fun b hb => Nat.le_trans hbs hb)

/-- the slice of the fields that were made -/
theorem bsl_sound {xs : List FSrc} {t base : Nat} {f : Nat → Value} {w : World} {K : Value → World → Prop} {ty : TypeId} (hx : xs ≠ []) (hn : xs.length ≤ 1000) (hbs : base ≤ w.heap.size) (hv : FldsV w base xs ((slotsS xs t).map f))
    (h : ∀ v w', FsAtK w' (base ≤ ·) v (mkFS xs) → Ext none1 w w' → K v w') : stepF P f (.buildSlice E.t_l_spec_Field xs.length (bslOp (slotsS xs t))) ty w K := by
  obtain ⟨h1, h2⟩ := hv.len
  have hx0 : 0 < xs.length := by cases xs with | nil => exact absurd rfl hx | cons => simp
  have hvals : (bslOp (slotsS xs t)).toList.map (fun p => evF f p.2) = (slotsS xs t).map f := by
    simp only [bslOp]
    exact bsl_vals f _ 0
  rw [st_bsl ht.gF (by omega) (by simp only [bslOp]; exact dense_bsl _ 0) (by simp [bslOp, slotsS_len]) hx0 (by omega) (by rw [hvals]; exact allSz_of h2)]
  rw [hvals]
  obtain ⟨rows, hr, hc, h8⟩ := flds_cells hv
  rw [hr] at h1 ⊢
  simp at h1
  have hE := (Ext.refl none1 w).alloc (.cells (flat (rows.map fun c => Value.agg c.toArray)).toArray E.t_spec_Field)
  refine h _ _ ⟨some rows, ⟨w.heap.size, 0, xs.length, by rw [h1], hbs, ⟨by omega, by omega⟩, ?_⟩, hc.ext hE (fun _ _ _ h => h) (fun _ h => h)⟩ hE
  intro i c hi
  refine ⟨h8 c (List.mem_of_getElem? hi), fun j u hj => ?_⟩
  rw [cell_of_blk alloc_new, Nat.zero_add, List.getElem?_toArray]
  have hsz : ∀ v ∈ (rows.map fun c => Value.agg c.toArray), v.cells.size = 8 := by
    intro v hv'
    obtain ⟨c', hc', rfl⟩ := List.mem_map.1 hv'
    simpa [Value.cells] using h8 c' hc'
  have hj8 : j < 8 := by have := (List.getElem?_eq_some_iff.1 hj).1; rw [h8 c (List.mem_of_getElem? hi)] at this; exact this
  rw [flat_get (by omega) hsz, show (i * 8 + j) / 8 = i by omega, show (i * 8 + j) % 8 = j by omega]
  simp [hi, Value.cells, hj]

theorem sub_sound {g nt : Nat} {xs : List FSrc} (hI : FnIs P g nt [.t 0] (irSub E xs)) (hx : xs ≠ []) (hn : xs.length ≤ 1000) (hok : srcOk P xs) (hne : ∀ x ∈ xs, x.ps ≠ []) : SubC P g (mkFS xs) := by
  intro w
  refine hI.call (args := []) (by simp) ?_
  simp only [irSub, cw_seq, cw_reg, regW_plain, stp_assign, thenF_normal, regW_nil]
  refine gen_sound ht (base := w.heap.size) xs 1 _ w _ _ hok hne (Nat.le_refl _) ?_
  intro f' w' hk he hv
  rw [regW_plain, stp_buildSlice]
  refine bsl_sound ht hx hn he.size hv ?_
  intro v w2 hF he2
  simp
  exact ⟨hF, he.trans he2⟩

theorem bld_msg (v : Value) (hv : v.cells = #[v]) (fx : Int) : bld? P E.t_spec_Message [(1, .int .i64 fx), (0, v)] = some (.agg #[v, .int .i64 fx]) := by
  have hz := ht.zM
  have hp := ht.pM
  have hi : (Value.int .i64 fx).cells = #[Value.int .i64 fx] := rfl
  have hc : (Value.agg #[Value.slice none 0 0, .int .i64 0]).cells = #[Value.slice none 0 0, .int .i64 0] := rfl
  simp [bld?, hz, hp, Instr.fill, hi, hc, hv]


theorem msg_sound {g nt : Nat} {xs : List FSrc} {fx : Int} (hI : FnIs P g nt [.c 0 E.t_spec_Message] (irMsg E xs fx)) (hx : xs ≠ []) (hn : xs.length ≤ 1000) (hok : srcOk P xs) (hne : ∀ x ∈ xs, x.ps ≠ []) : MsgC P g (mkFS xs) fx := by
  intro w
  refine hI.call (args := []) (by simp) ?_
  have hzM : zeroOf P E.t_spec_Message = some (.agg #[.slice none 0 0, .int .i64 0]) := ht.zM
  simp only [irMsg, cw_seq, cw_reg, regW_plain, stp_alloc, hzM, optK_some, thenF_normal, regW_nil]
  have hE := (Ext.refl none1 w).alloc (.cells (Value.agg #[.slice none 0 0, .int .i64 0]).cells E.t_spec_Message)
  have hb : (w.alloc (.cells (Value.agg #[.slice none 0 0, .int .i64 0]).cells E.t_spec_Message)).heap[w.heap.size]? = some (.cells #[.slice none 0 0, .int .i64 0] E.t_spec_Message (0, 0)) := alloc_new
  refine gen_sound ht (base := w.heap.size + 1) xs 1 _ _ _ _ hok hne (by simp) ?_
  intro f' w' hk he hv
  rw [regW_plain, stp_buildSlice]
  refine bsl_sound ht hx hn (Nat.le_trans (by simp) he.size) hv ?_
  intro v w2 hF he2
  have hf0 : f' 0 = .pointer (some ⟨w.heap.size, 0, none⟩) := by rw [hk 0 (by omega)]; simp
  have he0 := endS_ge xs 1
  have hv1 : v.cells = #[v] := by
    obtain ⟨ls, ha, _⟩ := hF
    obtain ⟨a, c, rfl, _⟩ := ha.form
    rfl
  have hvo : v.oneCell' = true := by
    obtain ⟨ls, ha, _⟩ := hF
    obtain ⟨a, c, rfl, _⟩ := ha.form
    rfl
  have hb2 := he2.old (he.old hb (fun h => h)) (fun h => h)
  have z0 : (0 = endS xs 1) = False := by simp; omega
  have z1 : ∀ k, (0 = endS xs 1 + k) = False := by intro k; simp; omega
  have hx2 : Ext none1 w w2 := hE.trans (he.trans he2)
  have ho : allOne [v, Value.int .i64 fx] = true := by simp only [allOne, hvo, Bool.true_and]; rfl
  have hov : over #[Value.slice none 0 0, .int .i64 0] 0 [v, Value.int .i64 fx] = #[v, .int .i64 fx] := by simp [over]
  simp [bld_msg ht v hv1 fx, hf0, z0, z1, store_agg ht.kM, ho, putK_blk hb2, hov]
  have hb3 : (w2.setBlk w.heap.size (.cells #[v, .int .i64 fx] E.t_spec_Message (0, 0))).heap[w.heap.size]? = some (.cells #[v, .int .i64 fx] E.t_spec_Message (0, 0)) := setBlk_same hb2
  have hx3 : Ext none1 w (w2.setBlk w.heap.size (.cells #[v, .int .i64 fx] E.t_spec_Message (0, 0))) := hx2.setBlk (.inl (Nat.le_refl _)) _
  have lT := cellsFrom_row hb3
  simp at lT
  simp [ld_agg ht.kM, lT]
  exact ⟨(hF.ext (K' := All) ((Ext.refl (fun b => b = w.heap.size) w2).setBlk (.inr rfl) _) (fun b _ hb h => by omega) (fun _ _ => trivial)).all, hx3⟩
end
end Go.Kg

set_option linter.unusedVariables false
namespace Go.Kg
open Go

def ir_laws_version (E : Env) : Ir :=
  (.seq
    (.reg [
        ⟨none, some 4, .assign (.const (.int .i64 0)), E.tInt⟩])
  (.seq
    (.reg [
        ⟨none, some 5, .move (.tmp 0), E.tU8⟩,
        ⟨none, some 6, .convert E.tU8 E.tInt (.tmp 5), E.tInt⟩,
        ⟨none, some 7, .move (.tmp 1), E.tInt⟩,
        ⟨none, some 8, .binOp .add E.tInt (.tmp 7) (.const (.int .i64 1)) E.tInt, E.tInt⟩,
        ⟨none, some 9, .binOp .rem E.tInt (.tmp 6) (.tmp 8) E.tInt, E.tInt⟩,
        ⟨none, some 4, .assign (.tmp 9), E.tInt⟩])
  .ret))
def nt_laws_version : Nat := 10
def rs_laws_version (E : Env) : List Rv := [.t 4]

def ir_laws_zzFits2 (E : Env) : Ir :=
  (.seq
    (.reg [
        ⟨none, some 1, .box E.t_spec_Tree (.tmp 0), E.tNil⟩,
        ⟨none, some 2, .assign (.const (.bool false)), E.tB⟩])
  (.seq
    (.seq
      (.reg [
          ⟨none, some 3, .fieldAddr E.t_spec_Tree (.tmp 1) 1, E.tNil⟩,
          ⟨none, some 4, .load E.tBs (.tmp 3), E.tBs⟩,
          ⟨none, some 5, .call { callee := .builtin .len, args := #[.tmp 4], argTypes := #[E.tBs] }, E.tInt⟩,
          ⟨none, some 6, .binOp .gtr E.tInt (.tmp 5) (.const (.int .i64 2147483647)) E.tInt, E.tB⟩])
    (.cond 6
      (.seq
        (.reg [
            ⟨none, some 2, .assign (.const (.bool false)), E.tB⟩])
      .ret)
      .skip))
  (.seq
    (.seq
      (.reg [
          ⟨none, some 7, .fieldAddr E.t_spec_Tree (.tmp 1) 3, E.tNil⟩,
          ⟨none, some 8, .load E.t_l_spec_Tree (.tmp 7), E.t_l_spec_Tree⟩,
          ⟨none, some 9, .call { callee := .builtin .len, args := #[.tmp 8], argTypes := #[E.t_l_spec_Tree] }, E.tInt⟩,
          ⟨none, some 10, .binOp .gtr E.tInt (.tmp 9) (.const (.int .i64 2147483647)) E.tInt, E.tB⟩])
    (.cond 10
      (.seq
        (.reg [
            ⟨none, some 2, .assign (.const (.bool false)), E.tB⟩])
      .ret)
      .skip))
  (.seq
    (.seq
      (.reg [
          ⟨none, some 11, .fieldAddr E.t_spec_Tree (.tmp 1) 4, E.tNil⟩,
          ⟨none, some 12, .load E.t_l_spec_Tag (.tmp 11), E.t_l_spec_Tag⟩,
          ⟨none, some 13, .call { callee := .value (.func E.f_laws_zzFits3), args := #[.tmp 12], argTypes := #[E.t_l_spec_Tag] }, E.tB⟩,
          ⟨none, some 14, .unOp .not E.tB (.tmp 13), E.tB⟩])
    (.cond 14
      (.seq
        (.reg [
            ⟨none, some 2, .assign (.const (.bool false)), E.tB⟩])
      .ret)
      .skip))
  (.seq
    (.reg [
        ⟨none, some 2, .assign (.const (.bool true)), E.tB⟩])
  .ret)))))
def nt_laws_zzFits2 : Nat := 15
def rs_laws_zzFits2 (E : Env) : List Rv := [.t 2]

def ir_laws_zzFits3 (E : Env) : Ir :=
  (.seq
    (.reg [
        ⟨none, some 2, .assign (.const (.bool false)), E.tB⟩])
  (.seq
    (.seq
      (.reg [
          ⟨none, some 5, .move (.tmp 0), E.t_l_spec_Tag⟩,
          ⟨none, some 6, .call { callee := .builtin .len, args := #[.tmp 5], argTypes := #[E.t_l_spec_Tag] }, E.tInt⟩,
          ⟨none, some 7, .binOp .gtr E.tInt (.tmp 6) (.const (.int .i64 2147483647)) E.tInt, E.tB⟩])
    (.cond 7
      (.seq
        (.reg [
            ⟨none, some 2, .assign (.const (.bool false)), E.tB⟩])
      .ret)
      .skip))
  (.seq
    (.seq
      (.reg [
          ⟨none, some 8, .move (.tmp 0), E.t_l_spec_Tag⟩,
          ⟨none, some 9, .call { callee := .builtin .len, args := #[.tmp 8], argTypes := #[E.t_l_spec_Tag] }, E.tInt⟩,
          ⟨none, some 10, .move (.const (.int .i64 0)), E.tInt⟩])
    (.block 0
      (.loop
        (.seq
          (.reg [
              ⟨none, some 11, .binOp .lss E.tInt (.tmp 10) (.tmp 9) E.tInt, E.tNil⟩])
        (.seq
          (.cond 11
            .skip
            (.exit 0))
        (.seq
          (.block 1
            (.seq
              (.reg [
                  ⟨none, some 12, .indexAddr E.t_l_spec_Tag (.tmp 8) (.tmp 10), E.tNil⟩,
                  ⟨none, some 13, .load E.t_spec_Tag (.tmp 12), E.t_spec_Tag⟩,
                  ⟨none, some 4, .alloc E.t_spec_Tag, E.tNil⟩,
                  ⟨none, none, .store E.t_spec_Tag (.tmp 4) (.tmp 13), E.tNil⟩])
            (.seq
              (.reg [
                  ⟨none, some 14, .load E.t_spec_Tag (.tmp 4), E.t_spec_Tag⟩,
                  ⟨none, some 15, .call { callee := .value (.func E.f_laws_zzFits4), args := #[.tmp 14], argTypes := #[E.t_spec_Tag] }, E.tB⟩,
                  ⟨none, some 16, .unOp .not E.tB (.tmp 15), E.tB⟩])
            (.cond 16
              (.seq
                (.reg [
                    ⟨none, some 2, .assign (.const (.bool false)), E.tB⟩])
              .ret)
              .skip))))
        (.reg [
            ⟨none, some 17, .binOp .add E.tInt (.tmp 10) (.const (.int .i64 1)) E.tInt, E.tInt⟩,
            ⟨none, some 10, .move (.tmp 17), E.tInt⟩])))))))
  (.seq
    (.reg [
        ⟨none, some 2, .assign (.const (.bool true)), E.tB⟩])
  .ret))))
def nt_laws_zzFits3 : Nat := 18
def rs_laws_zzFits3 (E : Env) : List Rv := [.t 2]

def ir_laws_zzFits4 (E : Env) : Ir :=
  (.seq
    (.reg [
        ⟨none, some 1, .box E.t_spec_Tag (.tmp 0), E.tNil⟩,
        ⟨none, some 2, .assign (.const (.bool false)), E.tB⟩])
  (.seq
    (.seq
      (.reg [
          ⟨none, some 3, .fieldAddr E.t_spec_Tag (.tmp 1) 1, E.tNil⟩,
          ⟨none, some 4, .load E.tBs (.tmp 3), E.tBs⟩,
          ⟨none, some 5, .call { callee := .builtin .len, args := #[.tmp 4], argTypes := #[E.tBs] }, E.tInt⟩,
          ⟨none, some 6, .binOp .gtr E.tInt (.tmp 5) (.const (.int .i64 2147483647)) E.tInt, E.tB⟩])
    (.cond 6
      (.seq
        (.reg [
            ⟨none, some 2, .assign (.const (.bool false)), E.tB⟩])
      .ret)
      .skip))
  (.seq
    (.reg [
        ⟨none, some 2, .assign (.const (.bool true)), E.tB⟩])
  .ret)))
def nt_laws_zzFits4 : Nat := 7
def rs_laws_zzFits4 (E : Env) : List Rv := [.t 2]

end Go.Kg

set_option linter.unusedSimpArgs false
set_option linter.unusedVariables false
namespace Go.Kg
open Go

/-! ## What the laws share -/
def irMaxV (E : Env) (M : Int) : Ir := .seq (.reg [⟨none, some 2, .assign (.const (.int .i16 0)), E.tI16⟩]) (.seq (.reg [⟨none, some 2, .assign (.const (.int .i16 M)), E.tI16⟩]) .ret)
def irMax (E : Env) (PT fPtr fMaxV : Nat) : Ir := .seq (.reg [⟨none, some 0, .assign (.const (.int .i64 0)), E.tInt⟩])
  (.seq (.reg [⟨none, some 1, .call { callee := .value (.func fPtr), args := #[], argTypes := #[] }, PT⟩, ⟨none, some 2, .call { callee := .value (.func fMaxV), args := #[.tmp 1], argTypes := #[PT] }, E.tI16⟩,
    ⟨none, some 3, .convert E.tI16 E.tInt (.tmp 2), E.tInt⟩, ⟨none, some 0, .assign (.tmp 3), E.tInt⟩]) .ret)
/-- the version that a law takes -/
def verOf (n M : Nat) : Nat := n % (M + 1)

section
variable {P : Program} {E : Env}

theorem c_maxV {g nt : Nat} (hnt : 1 ≤ nt) {M : Int} (hI : FnIs P g nt [.t 2] (irMaxV E M)) (v : Value) (w : World) : Ret P g #[v] w fun u w' => u = .int .i16 M ∧ w' = w := by
  refine hI.call (args := [_]) hnt ?_
  simp [irMaxV]

theorem c_max {PT fPtr fMaxV g nt : Nat} {M : Nat} (hM : M < 32768) (hI : FnIs P g nt [.t 0] (irMax E PT fPtr fMaxV)) (iI16 : intKind? P E.tI16 = some .i16) (iInt : intKind? P E.tInt = some .i64)
    (hPtr : ∀ w, Ret P fPtr #[] w fun v w' => Ext none1 w w') (hMv : ∀ v w, Ret P fMaxV #[v] w fun u w' => u = .int .i16 M ∧ w' = w) (w : World) :
    Ret P g #[] w fun u w' => u = .int .i64 M ∧ Ext none1 w w' := by
  refine hI.call (args := []) (by simp) ?_
  simp [irMax]
  refine (hPtr w).mono ?_
  intro v w1 he
  try simp
  refine (hMv v w1).mono ?_
  rintro _ w2 ⟨rfl, rfl⟩
  have e : IntKind.i64.wrap (M : Int) = M := i64_small (by omega) (by omega)
  simp [iI16, iInt, e, he]

theorem c_version (hI : FnIs P E.f_laws_version nt_laws_version (rs_laws_version E) (ir_laws_version E)) (iU8 : intKind? P E.tU8 = some .u8) (iInt : intKind? P E.tInt = some .i64) (n M : Nat) (hn : n < 256) (hM : M < 32768) (w : World) :
    Ret P E.f_laws_version #[.int .u8 n, .int .i64 M] w fun u w' => u = .int .i64 (verOf n M) ∧ w' = w := by
  refine hI.call (args := [_, _]) (by simp [nt_laws_version]) ?_
  have e1 : IntKind.i64.wrap (n : Int) = n := i64_small (by omega) (by omega)
  have e2 : IntKind.i64.wrap ((M : Int) + 1) = (M : Int) + 1 := i64_small (by omega) (by omega)
  have e3 : ¬ ((M : Int) + 1 = 0) := by omega
  simp [ir_laws_version, rs_laws_version, iU8, iInt, e1, e2, bin?, e3, verOf]
  rw [Int.tmod_eq_emod_of_nonneg (by omega)]

end
end Go.Kg

set_option linter.unusedSimpArgs false
set_option linter.unusedVariables false
namespace Go.Kg
open Go

theorem seqL_append {P : Program} {Q : Post} : ∀ {A B : List Ir} {f : Nat → Value} {w : World}, (seqL A).wp P (thenF ((seqL B).wp P Q) Q) f w → (seqL (A ++ B)).wp P Q f w := by
  intro A
  induction A with
  | nil => intro B f w h; exact h
  | cons x r ih =>
    intro B f w h
    rw [List.cons_append]
    refine seqL_cons ?_
    cases r with
    | nil => exact h
    | cons y r =>
      have h' : x.wp P (thenF ((seqL (y :: r)).wp P (thenF ((seqL B).wp P Q) Q)) (thenF ((seqL B).wp P Q) Q)) f w := h
      refine Ir.wp_mono x ?_ h'
      intro e f w hq
      cases e <;> first | exact ih hq | exact hq

/-- The flag at a version. -/
def flagAt (C : Cfg) (flex : Nat) (ver : Int) : Bool := C.fx && decide ((flex : Int) ≤ ver)

structure MsgOk (P : Program) (C : Cfg) (ok : TagL → Prop) (T PT flex : Nat) (S : Sch) (nl : Nat) : Prop where
  ty : TyC P C
  cfg : C.sv = 5 ∧ C.sf = 6
  tyW : S.tyW P C T = true
  f0 : fldOff P T 0 = some 0
  need : S.NeedW P C ok
  nl : (S.genW C T PT 0 (ct0 C nl)).2.l ≤ nl

theorem appendTo {P : Program} {C : Cfg} {T PT flex nl nt g : Nat} {S : Sch} {ok : TagL → Prop} (hm : MsgOk P C ok T PT flex S nl) (hnt : 2 ≤ nt) (hI : FnIs P g nt [.t 4] (msgW C T PT flex S nl)) {w : World} {b a base : Nat} {cs : List Value} {x : S.T} {ver : Int} {v : Value} {s : List UInt8}
    (hcs : CellsAt w b a cs) (hver : cs[0]? = some (.int .i16 ver)) (hrep : S.Rep w (· < base) cs x) (hok : S.TagsOk ok x) (hb : b < base) (ho : OwnB C.E.tU8 w base v s) (hbase : base ≤ w.heap.size) (hsz : s.length + (S.wr ver (flagAt C flex ver) x).length ≤ 1099511627776) :
    Ret P g #[.pointer (some ⟨b, a, none⟩), v] w fun v' w' => OwnB C.E.tU8 w' base v' (s ++ S.wr ver (flagAt C flex ver) x) ∧ Grew w v w' v' := by
  obtain ⟨ht, ⟨hc5, hc6⟩, hty, h0, hN, hnl⟩ := hm
  have hl7 := (genW_mono (C := C) S T PT 0 (ct0 C nl)).1
  have q6 : 6 ≤ (ct0 C nl).l := by simp only [ct0]; split <;> omega
  have q7 : C.fx = true → 7 ≤ (ct0 C nl).l := by intro h; simp [ct0, h]
  have qt : nl + 5 ≤ (ct0 C nl).t := by simp only [ct0]; split <;> omega
  have hnl6 : 6 ≤ nl := by omega
  refine hI.ret (args := [_, _]) hnt ?_
  have cv := hcs 0 _ hver
  simp only [Nat.add_zero] at cv
  have n1 : ∀ k, (1 = nl + k) = False := by intro k; simp; omega
  have n0 : ∀ k, (0 = nl + k) = False := by intro k; simp; omega
  have n5 : ∀ k, (5 = nl + k) = False := by intro k; simp; omega
  have n1' : (1 = nl) = False := by simp; omega
  have n0' : (0 = nl) = False := by simp; omega
  have n5' : (5 = nl) = False := by simp; omega
  have nz : (nl = 0) = False := by simp; omega
  -- behind the head
  have behind : ∀ (f : Nat → Value), f 0 = .pointer (some ⟨b, a, none⟩) → f 1 = v → f 5 = .int .i16 ver → (C.fx = true → f 6 = .bool (flagAt C flex ver)) →
      (seqL ((S.genW C T PT 0 (ct0 C nl)).1 ++ [.reg [⟨none, some (S.genW C T PT 0 (ct0 C nl)).2.t, .move (.tmp 1), C.E.tBs⟩,
        ⟨none, some 4, .assign (.tmp (S.genW C T PT 0 (ct0 C nl)).2.t), C.E.tBs⟩], .ret])).wp P
        (retPost P [.t 4] fun v' w' => OwnB C.E.tU8 w' base v' (s ++ S.wr ver (flagAt C flex ver) x) ∧ Grew w v w' v') f w := by
    intro f f0 f1 f5 f6
    refine seqL_append ?_
    refine soundW ht S T PT 0 (ct0 C nl) _ f w b a cs x ver (flagAt C flex ver) base s hty hN ?_ ?_ hb hcs hrep hok ⟨by rw [f1]; exact ho, hbase⟩ hsz ?_
    · exact ⟨f0, ⟨by omega, by omega⟩, by rw [hc5]; exact f5, ⟨by omega, by omega⟩, ⟨fun hx => ⟨by rw [hc6]; exact f6 hx, by omega⟩, fun hx => by simp [flagAt, hx]⟩, fun hx => by have := q7 hx; omega, by omega⟩
    · omega
    · intro f' w' hw
      have hd := hw.dst.1
      have hg := hw.grew
      rw [f1] at hg
      refine seqL_cons (wp_reg ?_)
      simp
      show retPost P _ _ .ret _ _
      simp
      exact ⟨hd, hg⟩
  have key : ∀ (fl : List Ir), (if C.fx then [Ir.reg [⟨none, some (nl + 5), .move (.tmp 5), C.E.tI16⟩, ⟨none, some (nl + 6), .binOp .geq C.E.tI16 (.tmp (nl + 5)) (.const (.int .i16 flex)) C.E.tI16, C.E.tB⟩, ⟨none, some 6, .assign (.tmp (nl + 6)), C.E.tB⟩],
      .reg [⟨none, some (nl + 7), .move (.tmp 6), C.E.tB⟩]] else []) = fl →
      (seqL ([.reg [⟨none, some 4, .assign (.const (.slice none 0 0)), C.E.tBs⟩],
    .reg (addrR C T PT 0 0 nl ++ [⟨none, some (nl + 3), .load C.E.tI16 (.tmp (nl + 2)), C.E.tI16⟩, ⟨none, some 5, .assign (.tmp (nl + 3)), C.E.tI16⟩]),
    .reg [⟨none, some (nl + 4), .move (.tmp 5), C.E.tI16⟩]] ++ fl ++ ((S.genW C T PT 0 (ct0 C nl)).1 ++ [.reg [⟨none, some (S.genW C T PT 0 (ct0 C nl)).2.t, .move (.tmp 1), C.E.tBs⟩,
        ⟨none, some 4, .assign (.tmp (S.genW C T PT 0 (ct0 C nl)).2.t), C.E.tBs⟩], .ret]))).wp P
        (retPost P [.t 4] fun v' w' => OwnB C.E.tU8 w' base v' (s ++ S.wr ver (flagAt C flex ver) x) ∧ Grew w v w' v') (frame0 [.pointer (some ⟨b, a, none⟩), v]) w := by
    intro fl hfl
    rw [List.append_assoc]
    simp only [List.cons_append, List.nil_append]
    refine seqL_cons (wp_reg ?_)
    simp
    refine seqL_cons (wp_reg ?_)
    simp [addrR, h0, Addr.add_mk, ld_scl ht.kI16, cv, n0, n0']
    refine seqL_cons (wp_reg ?_)
    simp
    refine seqL_append ?_
    by_cases hx : C.fx = true
    · rw [if_pos hx] at hfl
      subst hfl
      refine seqL_cons (wp_reg ?_)
      simp [n5, n5']
      show (Ir.reg _).wp P _ _ _
      refine wp_reg ?_
      simp
      refine behind _ ?_ ?_ ?_ ?_
      · simp [n0, n0']
      · simp [n1, n1', nz]
      · simp [n5, n5']
      · intro _; simp [flagAt, hx]
    · rw [if_neg hx] at hfl
      subst hfl
      refine behind _ ?_ ?_ ?_ ?_
      · simp [n0, n0']
      · simp [n1, n1', nz]
      · simp [n5, n5']
      · intro h; exact absurd h hx
  have := key _ rfl
  rw [← List.append_assoc] at this
  exact this
end Go.Kg

set_option linter.unusedSimpArgs false
set_option linter.unusedVariables false
namespace Go.Kg
open Go

/-! ## Default -/
/-- the default of a number, as a value -/
def Prim.dval : Prim → Int → Option Value
  | .bool, d => if d = 0 then none else some (.bool true)
  | .i8, d => if d = 0 then none else some (.int .i8 d)
  | .i16, d => if d = 0 then none else some (.int .i16 d)
  | .u16, d => if d = 0 then none else some (.int .u16 d)
  | .i32, d => if d = 0 then none else some (.int .i32 d)
  | .i64, d => if d = 0 then none else some (.int .i64 d)
  | _, _ => none

structure DSt where
  k : Nat
  o : Nat
  ty : Nat
  v : Value

def Sch.dst (C : Cfg) : Sch → List DSt
  | .fin => []
  | .tags _ _ => []
  | .prim _ k o p en d rest => (match p.dval d with | some v => [⟨k, o, if en = 0 then p.ty C.E else en, v⟩] | none => []) ++ rest.dst C
  | .arrP _ _ _ _ _ _ rest => rest.dst C
  | .arrS _ _ _ _ _ _ _ _ _ _ rest => rest.dst C

def genD (C : Cfg) (T PT : Nat) : List DSt → Nat → List Ir
  | [], _ => []
  | x :: l, t => .reg (addrR C T PT 0 x.k t ++ [⟨none, none, .store x.ty (.tmp (t + 2)) (.const x.v), C.E.tNil⟩]) :: genD C T PT l (t + 3)

def setD (a : Nat) : List DSt → Array Value → Array Value
  | [], c => c
  | x :: l, c => setD a l (c.setIfInBounds (a + x.o) x.v)

theorem setD_size (a : Nat) : ∀ (l : List DSt) (c : Array Value), (setD a l c).size = c.size
  | [], c => rfl
  | x :: l, c => by rw [setD, setD_size a l]; simp

def defOk (P : Program) (T n : Nat) : List DSt → Bool
  | [] => true
  | x :: l => fldOff P T x.k == some x.o && isScl (kindOf P x.ty) && decide (x.o < n) && defOk P T n l

theorem default_sound {P : Program} {C : Cfg} {T PT n : Nat} : ∀ (l : List DSt) (t : Nat) {f : Nat → Value} {w : World} {b a : Nat} {c : Array Value} {e : TypeId} {R : Value → World → Prop}, (∀ x ∈ l, x.v.oneCell' = true) → defOk P T n l = true → 0 < t →
    f 0 = .pointer (some ⟨b, a, none⟩) → w.heap[b]? = some (.cells c e (0, 0)) → a + n ≤ c.size → R (.tuple #[]) (w.setBlk b (.cells (setD a l c) e (0, 0))) → (seqL (genD C T PT l t)).wp P (retPost P [] R) f w := by
  intro l
  induction l with
  | nil =>
    intro t f w b a c e R _ _ _ h0 hb hn hR
    show retPost P [] R .normal f w
    have : w.setBlk b (.cells c e (0, 0)) = w := by
      simp only [World.setBlk]
      have : w.heap.setIfInBounds b (.cells c e (0, 0)) = w.heap := by
        apply Array.ext_getElem?
        intro k
        rw [Array.getElem?_setIfInBounds]
        split
        · rename_i h; subst h
          rw [hb, if_pos (lt_of_heap hb)]
        · rfl
      rw [this]
    simp only [setD, this] at hR
    simpa using hR
  | cons x l ih =>
    intro t f w b a c e R h1 hok ht h0 hb hn hR
    simp only [defOk, Bool.and_eq_true, beq_iff_eq, decide_eq_true_eq] at hok
    obtain ⟨⟨⟨hF, hk⟩, hlt⟩, hokl⟩ := hok
    refine seqL_cons (wp_reg ?_)
    have ho := h1 x List.mem_cons_self
    have z1 : (0 = t) = False := by simp; omega
    have z2 : ∀ k, (0 = t + k) = False := by intro k; simp; omega
    simp [addrR, h0, hF, Addr.add_mk, store_scl (isScl_spec hk), ho, put1K_blk hb]
    refine ⟨by omega, ?_⟩
    refine ih (t + 3) (fun y hy => h1 y (List.mem_cons_of_mem _ hy)) hokl (by omega) ?_ (setBlk_same hb) (by simpa using hn) ?_
    · simp [z1, z2, h0]
    · rw [setBlk_setBlk]; exact hR

theorem defaultC {P : Program} {C : Cfg} {T PT n g nt : Nat} {S : Sch} (hnt : 1 ≤ nt) (hI : FnIs P g nt [] (seqL (genD C T PT (S.dst C) 2))) (hok : defOk P T n (S.dst C) = true) (h1 : ∀ x ∈ S.dst C, x.v.oneCell' = true)
    {w : World} {b a : Nat} {c : Array Value} {e : TypeId} (hb : w.heap[b]? = some (.cells c e (0, 0))) (hn : a + n ≤ c.size) :
    Ret P g #[.pointer (some ⟨b, a, none⟩)] w fun _ w' => w' = w.setBlk b (.cells (setD a (S.dst C) c) e (0, 0)) := by
  refine hI.ret (args := [_]) hnt ?_
  exact default_sound (S.dst C) 2 h1 hok (by omega) rfl hb hn rfl

theorem dst_one (C : Cfg) : ∀ (S : Sch), ∀ x ∈ S.dst C, x.v.oneCell' = true := by
  intro S
  induction S with
  | fin => intro x hx; cases hx
  | tags k o => intro x hx; cases hx
  | prim g k o p en d rest ih =>
    intro x hx
    simp only [Sch.dst, List.mem_append] at hx
    rcases hx with hx | hx
    · split at hx
      · rename_i v hv
        simp at hx; subst hx
        cases p <;> simp only [Prim.dval] at hv <;> first | (split at hv <;> cases hv <;> rfl) | cases hv
      · cases hx
    · exact ih x hx
  | arrP g k o sT nul p rest ih => intro x hx; exact ih x hx
  | arrS g k o sT nul T PT sz df e rest ihe ih => intro x hx; exact ih x hx
end Go.Kg

set_option linter.unusedSimpArgs false
set_option linter.unusedVariables false
namespace Go.Kg
open Go

/-- What a new thing says. -/
def Prim.dfl : (p : Prim) → Int → p.T
  | .bool, d => (show Bool from decide (d ≠ 0))
  | .i8, d => (show Int from d)
  | .i16, d => (show Int from d)
  | .u16, d => (show Int from d)
  | .i32, d => (show Int from d)
  | .i64, d => (show Int from d)
  | .uuid, _ => (show List UInt8 from List.replicate 16 0)
  | .str, _ => (show List UInt8 from [])
  | .bytes, _ => (show List UInt8 from [])
  | .nstr, _ => (show Option (List UInt8) from none)
  | .nbytes, _ => (show Option (List UInt8) from none)

def Sch.dfl : (S : Sch) → S.T
  | .fin => ()
  | .tags _ _ => []
  | .prim _ _ _ p _ d rest => (p.dfl d, rest.dfl)
  | .arrP _ _ _ _ _ _ rest => (none, rest.dfl)
  | .arrS _ _ _ _ _ _ _ _ _ _ rest => (none, rest.dfl)

def isInt (k : IntKind) (d : Int) : Option Value → Bool
  | some (.int k' n) => (k == k') && (n == d)
  | _ => false
def isNilSli : Option Value → Bool
  | some (.slice none 0 0) => true
  | _ => false
def isNilMap : Option Value → Bool
  | some (.map none) => true
  | _ => false
def isNilPtr : Option Value → Bool
  | some (.pointer none) => true
  | _ => false
def isBoolV (b : Bool) : Option Value → Bool
  | some (.bool c) => b == c
  | _ => false
def isEmpStr : Option Value → Bool
  | some (.string s) => s.data.toList.isEmpty
  | _ => false
def zeros16 (cs : List Value) (o : Nat) : Nat → Bool
  | 0 => true
  | k + 1 => isInt .u8 0 cs[o + k]? && zeros16 cs o k

def Prim.chkD (cs : List Value) (o : Nat) : Prim → Int → Bool
  | .bool, d => isBoolV (decide (d ≠ 0)) cs[o]?
  | .i8, d => isInt .i8 d cs[o]?
  | .i16, d => isInt .i16 d cs[o]?
  | .u16, d => isInt .u16 d cs[o]? && decide (0 ≤ d) && decide (d < 65536)
  | .i32, d => isInt .i32 d cs[o]?
  | .i64, d => isInt .i64 d cs[o]?
  | .uuid, _ => zeros16 cs o 16
  | .str, _ => isEmpStr cs[o]?
  | .bytes, _ => isNilSli cs[o]?
  | .nstr, _ => isNilPtr cs[o]?
  | .nbytes, _ => isNilSli cs[o]?

def Sch.chkD (cs : List Value) : Sch → Bool
  | .fin => true
  | .tags _ o => isNilMap cs[o]?
  | .prim _ _ o p _ d rest => p.chkD cs o d && rest.chkD cs
  | .arrP _ _ o _ _ _ rest => isNilSli cs[o]? && rest.chkD cs
  | .arrS _ _ o _ _ _ _ _ _ _ rest => isNilSli cs[o]? && rest.chkD cs

theorem isInt_spec {k : IntKind} {d : Int} {v : Option Value} (h : isInt k d v = true) : v = some (.int k d) := by
  unfold isInt at h
  split at h
  · simp only [Bool.and_eq_true, beq_iff_eq] at h; obtain ⟨rfl, rfl⟩ := h; rfl
  · cases h
theorem isNilSli_spec {v : Option Value} (h : isNilSli v = true) : v = some (.slice none 0 0) := by
  unfold isNilSli at h; split at h
  · rfl
  · cases h
theorem isNilMap_spec {v : Option Value} (h : isNilMap v = true) : v = some (.map none) := by
  unfold isNilMap at h; split at h
  · rfl
  · cases h
theorem isNilPtr_spec {v : Option Value} (h : isNilPtr v = true) : v = some (.pointer none) := by
  unfold isNilPtr at h; split at h
  · rfl
  · cases h
theorem isBoolV_spec {b : Bool} {v : Option Value} (h : isBoolV b v = true) : v = some (.bool b) := by
  unfold isBoolV at h; split at h
  · rw [beq_iff_eq.1 h]
  · cases h
theorem isEmpStr_spec {v : Option Value} (h : isEmpStr v = true) : v = some (strV []) := by
  unfold isEmpStr at h
  split at h
  · rename_i s
    obtain ⟨d⟩ := s
    have : d.toList = [] := by simpa using h
    have : d = #[] := by rw [← Array.toArray_toList (xs := d), this]
    subst this; rfl
  · cases h
theorem zeros16_spec {cs : List Value} {o : Nat} : ∀ {n : Nat}, zeros16 cs o n = true → ∀ j, j < n → cs[o + j]? = some (.int .u8 0)
  | 0, _, j, hj => by omega
  | n + 1, h, j, hj => by
    simp only [zeros16, Bool.and_eq_true] at h
    by_cases e : j = n
    · subst e; exact isInt_spec h.1
    · exact zeros16_spec h.2 j (by omega)

theorem seg_val {cs : List Value} {o : Nat} {v : Value} (h : cs[o]? = some v) (h1 : v.oneCell' = true) : seg cs o v.cells.toList := seg_one h h1

theorem Prim.repD {w : World} {K : Nat → Prop} {cs : List Value} {o : Nat} (p : Prim) (d : Int) (h : p.chkD cs o d = true) : ∃ v, seg cs o v.cells.toList ∧ p.rep1 w K v (p.dfl d) := by
  cases p with
  | bool => exact ⟨_, seg_val (isBoolV_spec h) rfl, rfl⟩
  | i8 => exact ⟨_, seg_val (isInt_spec h) rfl, rfl⟩
  | i16 => exact ⟨_, seg_val (isInt_spec h) rfl, rfl⟩
  | u16 =>
    simp only [Prim.chkD, Bool.and_eq_true, decide_eq_true_eq] at h
    refine ⟨_, seg_val (isInt_spec h.1.1) rfl, d.toNat, ?_, by omega, ?_⟩
    · show d = _; omega
    · have : ((d.toNat : Nat) : Int) = d := by omega
      rw [this]
  | i32 => exact ⟨_, seg_val (isInt_spec h) rfl, rfl⟩
  | i64 => exact ⟨_, seg_val (isInt_spec h) rfl, rfl⟩
  | str => exact ⟨_, seg_val (isEmpStr_spec h) rfl, rfl⟩
  | nstr => exact ⟨_, seg_val (isNilPtr_spec h) rfl, rfl⟩
  | bytes => exact ⟨_, seg_val (isNilSli_spec h) rfl, .inl ⟨rfl, rfl⟩⟩
  | nbytes => exact ⟨_, seg_val (isNilSli_spec h) rfl, rfl⟩
  | uuid =>
    refine ⟨.agg (cellsOf (List.replicate 16 0)).toArray, ?_, rfl, by simp [Prim.dfl]⟩
    intro j u hj
    have hj' : j < 16 := by
      have := (List.getElem?_eq_some_iff.1 hj).1
      simpa [Value.cells] using this
    rw [zeros16_spec h j hj']
    have : (cellsOf (List.replicate 16 0))[j]? = some (.int .u8 0) := by
      simp only [cellsOf, List.getElem?_map, List.getElem?_replicate, if_pos hj', Option.map_some]
      rfl
    rw [← this]
    simpa [Value.cells] using hj

theorem Sch.repD {w : World} {K : Nat → Prop} {cs : List Value} : ∀ S : Sch, S.chkD cs = true → S.Rep w K cs S.dfl := by
  intro S
  induction S with
  | fin => intro _; trivial
  | tags k o => intro h; exact ⟨_, isNilMap_spec h, .inl ⟨rfl, rfl⟩⟩
  | prim g k o p en d rest ih =>
    intro h
    simp only [Sch.chkD, Bool.and_eq_true] at h
    exact ⟨p.repD d h.1, ih h.2⟩
  | arrP g k o sT nul p rest ih =>
    intro h
    simp only [Sch.chkD, Bool.and_eq_true] at h
    exact ⟨⟨_, none, isNilSli_spec h.1, rfl, ⟨rfl, InHeap.nil _⟩, rfl, by simp⟩, ih h.2⟩
  | arrS g k o sT nul T PT sz df e rest ihe ih =>
    intro h
    simp only [Sch.chkD, Bool.and_eq_true] at h
    exact ⟨⟨_, none, isNilSli_spec h.1, rfl, ⟨rfl, InHeap.nil _⟩, rfl, by simp⟩, ih h.2⟩

theorem Sch.tagsD : ∀ S : Sch, S.TagsOk (· = []) S.dfl := by
  intro S
  induction S with
  | fin => trivial
  | tags k o => rfl
  | prim g k o p en d rest ih => exact ih
  | arrP g k o sT nul p rest ih => exact ih
  | arrS g k o sT nul T PT sz df e rest ihe ih => exact ⟨by simp [Sch.dfl], ih⟩
end Go.Kg

set_option linter.unusedSimpArgs false
set_option linter.unusedVariables false
namespace Go.Kg
open Go

def irNewPtr (C : Cfg) (T PT fDef : Nat) : Ir :=
  .seq (.reg [⟨none, some 0, .assign (.const (.pointer none)), PT⟩]) (.seq (.reg [⟨none, some 1, .alloc T, C.E.tNil⟩])
  (.seq (.reg [⟨none, some 2, .call { callee := .value (.func fDef), args := #[.tmp 1], argTypes := #[T] }, C.E.tNil⟩])
  (.seq (.reg [⟨none, some 0, .assign (.tmp 1), PT⟩]) .ret)))
def irSetV (C : Cfg) (T PT : Nat) : Ir :=
  .reg [⟨none, some 4, .move (.tmp 0), PT⟩, ⟨none, some 5, .move (.tmp 1), C.E.tI16⟩, ⟨none, some 6, .nilCheck (.tmp 4), C.E.tNil⟩, ⟨none, some 7, .fieldAddr T (.tmp 6) 0, C.E.tNil⟩, ⟨none, none, .store C.E.tI16 (.tmp 7) (.tmp 5), C.E.tNil⟩]
def irNew (C : Cfg) (PT fPtr fSet fApp : Nat) : Ir :=
  .seq (.reg [⟨none, some 2, .assign (.const (.slice none 0 0)), C.E.tBs⟩])
  (.seq (.reg [⟨none, some 4, .call { callee := .value (.func fPtr), args := #[], argTypes := #[] }, PT⟩, ⟨none, some 3, .assign (.tmp 4), PT⟩])
  (.seq (.reg [⟨none, some 5, .move (.tmp 3), PT⟩, ⟨none, some 6, .move (.tmp 0), C.E.tInt⟩, ⟨none, some 7, .convert C.E.tInt C.E.tI16 (.tmp 6), C.E.tI16⟩,
    ⟨none, some 8, .call { callee := .value (.func fSet), args := #[.tmp 5, .tmp 7], argTypes := #[PT, C.E.tI16] }, C.E.tNil⟩])
  (.seq (.reg [⟨none, some 9, .move (.tmp 3), PT⟩, ⟨none, some 10, .call { callee := .value (.func fApp), args := #[.tmp 9, .const (.slice none 0 0)], argTypes := #[PT, C.E.tBs] }, C.E.tBs⟩,
    ⟨none, some 2, .assign (.tmp 10), C.E.tBs⟩]) .ret)))

theorem newPtrC {P : Program} {C : Cfg} {T PT n g nt fDef : Nat} {S : Sch} {z : Array Value} (hI : FnIs P g nt [.t 0] (irNewPtr C T PT fDef)) (hz : zeroOf P T = some (.agg z)) (hn : n ≤ z.size)
    (hD : ∀ {w : World} {b a : Nat} {c : Array Value} {e : TypeId}, w.heap[b]? = some (.cells c e (0, 0)) → a + n ≤ c.size → Ret P fDef #[.pointer (some ⟨b, a, none⟩)] w fun _ w' => w' = w.setBlk b (.cells (setD a (S.dst C) c) e (0, 0))) (w : World) :
    Ret P g #[] w fun v w' => v = .pointer (some ⟨w.heap.size, 0, none⟩) ∧ w'.heap[w.heap.size]? = some (.cells (setD 0 (S.dst C) z) T (0, 0)) ∧ Ext none1 w w' ∧ w.heap.size < w'.heap.size := by
  refine hI.call (args := []) (by simp) ?_
  simp [irNewPtr, hz, Value.cells]
  refine (hD (b := w.heap.size) (a := 0) (c := z) (e := T) alloc_new (by omega)).mono ?_
  rintro v w' rfl
  have h1 : ((w.alloc (.cells z T)).setBlk w.heap.size (.cells (setD 0 (S.dst C) z) T (0, 0))).heap[w.heap.size]? = some (.cells (setD 0 (S.dst C) z) T (0, 0)) := setBlk_same alloc_new
  have h2 : Ext none1 w ((w.alloc (.cells z T)).setBlk w.heap.size (.cells (setD 0 (S.dst C) z) T (0, 0))) := ((Ext.refl none1 w).alloc _).setBlk (.inl (Nat.le_refl _)) _
  first | exact ⟨rfl, h1, h2, by simp⟩ | exact ⟨h1, h2, by simp⟩

theorem setVC {P : Program} {C : Cfg} {T PT g nt : Nat} (hnt : 2 ≤ nt) (hI : FnIs P g nt [] (irSetV C T PT)) (h0 : fldOff P T 0 = some 0) (hk : kindOf P C.E.tI16 = .scl) {w : World} {b : Nat} {c : Array Value} {e : TypeId} (hb : w.heap[b]? = some (.cells c e (0, 0))) (hc : 0 < c.size) (ver : Int) :
    Ret P g #[.pointer (some ⟨b, 0, none⟩), .int .i16 ver] w fun _ w' => w' = w.setBlk b (.cells (c.setIfInBounds 0 (.int .i16 ver)) e (0, 0)) := by
  refine hI.call (args := [_, _]) hnt ?_
  simp [irSetV, h0, Addr.add_mk, store_scl hk, Value.oneCell', put1K_blk hb, hc]

/-- impl.New..: what a new message is written as. -/
theorem newC {P : Program} {C : Cfg} {T PT flex nl n g nt fPtr fSet fApp : Nat} {S : Sch} {z : Array Value} (hnt : 1 ≤ nt) (hI : FnIs P g nt [.t 2] (irNew C PT fPtr fSet fApp))
    (hPtr : ∀ w, Ret P fPtr #[] w fun v w' => v = .pointer (some ⟨w.heap.size, 0, none⟩) ∧ w'.heap[w.heap.size]? = some (.cells (setD 0 (S.dst C) z) T (0, 0)) ∧ Ext none1 w w' ∧ w.heap.size < w'.heap.size)
    (hSet : ∀ {w : World} {b : Nat} {c : Array Value} {e : TypeId}, w.heap[b]? = some (.cells c e (0, 0)) → 0 < c.size → ∀ ver : Int, Ret P fSet #[.pointer (some ⟨b, 0, none⟩), .int .i16 ver] w fun _ w' => w' = w.setBlk b (.cells (c.setIfInBounds 0 (.int .i16 ver)) e (0, 0)))
    (hApp : ∀ {w : World} {b a base : Nat} {cs : List Value} {x : S.T} {ver : Int} {v : Value} {s : List UInt8}, CellsAt w b a cs → cs[0]? = some (.int .i16 ver) → S.Rep w (· < base) cs x → S.TagsOk (· = []) x → b < base → OwnB C.E.tU8 w base v s → base ≤ w.heap.size →
      s.length + (S.wr ver (flagAt C flex ver) x).length ≤ 1099511627776 → Ret P fApp #[.pointer (some ⟨b, a, none⟩), v] w fun v' w' => OwnB C.E.tU8 w' base v' (s ++ S.wr ver (flagAt C flex ver) x) ∧ Grew w v w' v')
    (iI16 : intKind? P C.E.tI16 = some .i16) (iInt : intKind? P C.E.tInt = some .i64) (hzs : 0 < z.size) (hchk : ∀ ver : Int, S.chkD ((setD 0 (S.dst C) z).setIfInBounds 0 (.int .i16 ver)).toList = true) (ver : Int) (hv : 0 ≤ ver ∧ ver < 32768)
    (hsz : (S.wr ver (flagAt C flex ver) S.dfl).length ≤ 1099511627776) : SpC P C.E.tU8 g [.int .i64 ver] (S.wr ver (flagAt C flex ver) S.dfl) := by
  intro w
  refine hI.call (args := [_]) hnt ?_
  simp [irNew]
  refine (hPtr w).mono ?_
  rintro v w1 ⟨rfl, hb1, he1, hlt1⟩
  have e1 : IntKind.i16.wrap ver = ver := by simp [IntKind.wrap, IntKind.signed, IntKind.bits]; omega
  simp [iI16, iInt, e1]
  have hs0 : 0 < (setD 0 (S.dst C) z).size := by rw [setD_size]; exact hzs
  refine (hSet hb1 hs0 ver).mono ?_
  rintro v w2 rfl
  generalize hw2 : w1.setBlk w.heap.size (.cells ((setD 0 (S.dst C) z).setIfInBounds 0 (.int .i16 ver)) T (0, 0)) = w2
  have hb2 : w2.heap[w.heap.size]? = some (.cells ((setD 0 (S.dst C) z).setIfInBounds 0 (.int .i16 ver)) T (0, 0)) := by subst hw2; exact setBlk_same hb1
  have he2 : Ext none1 w w2 := by subst hw2; exact he1.setBlk (.inl (Nat.le_refl _)) _
  have hsz2 : w.heap.size < w2.heap.size := by subst hw2; simpa using hlt1
  refine (hApp (b := w.heap.size) (a := 0) (base := w2.heap.size) (cs := ((setD 0 (S.dst C) z).setIfInBounds 0 (.int .i16 ver)).toList) (x := S.dfl) (ver := ver) (s := []) ?_ ?_ (S.repD (hchk ver)) S.tagsD hsz2 (by simpa [OwnB, cellsOf] using Own.nil w2 w2.heap.size C.E.tU8 1) (Nat.le_refl _) (by simpa using hsz)).mono ?_
  · intro j u hj
    rw [Nat.zero_add, cell_of_blk hb2, ← Array.getElem?_toList]
    exact hj
  · simp [hs0]
  · rintro v w3 ⟨ho, hg⟩
    rw [List.nil_append] at ho
    refine ⟨Own.base ho (by omega), he2.trans (hg.ext.mono ?_)⟩
    intro k hk ho'
    simp [own1, Value.ownBlock] at ho'
end Go.Kg

set_option linter.unusedSimpArgs false
set_option linter.unusedVariables false
namespace Go.Kg
open Go

/-! ## The laws FnNew.. -/
def irFnNew (E : Env) (fMax fMsg fNew : Nat) : Ir :=
  .seq (.reg [⟨none, some 2, .assign (.const (.bool false)), E.tB⟩])
  (.seq (.reg [⟨none, some 5, .call { callee := .value (.func fMax), args := #[], argTypes := #[] }, E.tInt⟩, ⟨none, some 3, .assign (.tmp 5), E.tInt⟩])
  (.seq (.seq (.reg [⟨none, some 6, .move (.tmp 3), E.tInt⟩, ⟨none, some 7, .binOp .lss E.tInt (.tmp 6) (.const (.int .i64 0)) E.tInt, E.tB⟩])
    (.cond 7 (.seq (.reg [⟨none, some 2, .assign (.const (.bool false)), E.tB⟩]) .ret) .skip))
  (.seq (.reg [⟨none, some 8, .call { callee := .value (.func fMsg), args := #[], argTypes := #[] }, E.t_spec_Message⟩, ⟨none, some 4, .alloc E.t_spec_Message, E.tNil⟩, ⟨none, none, .store E.t_spec_Message (.tmp 4) (.tmp 8), E.tNil⟩])
  (.seq (.regH [
        (true, ⟨none, some 9, .move (.tmp 0), E.tU8⟩),
        (true, ⟨none, some 10, .move (.tmp 3), E.tInt⟩),
        (true, ⟨none, some 13, .load E.t_spec_Message (.tmp 4), E.t_spec_Message⟩),
        (true, ⟨none, some 14, .move (.tmp 0), E.tU8⟩),
        (true, ⟨none, some 15, .move (.tmp 3), E.tInt⟩),
        (true, ⟨none, some 17, .fieldAddr E.t_spec_Message (.tmp 4) 0, E.tNil⟩),
        (true, ⟨none, some 18, .load E.t_l_spec_Field (.tmp 17), E.t_l_spec_Field⟩),
        (false, ⟨none, some 11, .call { callee := .value (.func E.f_laws_version), args := #[.tmp 9, .tmp 10], argTypes := #[E.tU8, E.tInt] }, E.tInt⟩),
        (false, ⟨none, some 12, .call { callee := .value (.func fNew), args := #[.tmp 11], argTypes := #[E.tInt] }, E.tBs⟩),
        (false, ⟨none, some 16, .call { callee := .value (.func E.f_laws_version), args := #[.tmp 14, .tmp 15], argTypes := #[E.tU8, E.tInt] }, E.tInt⟩),
        (false, ⟨none, some 19, .call { callee := .value (.func E.f_spec_Default), args := #[.tmp 18], argTypes := #[E.t_l_spec_Field] }, E.t_spec_Tree⟩),
        (false, ⟨none, some 20, .call { callee := .value (.func E.f_spec_Write), args := #[.tmp 13, .tmp 16, .tmp 19], argTypes := #[E.t_spec_Message, E.tInt, E.t_spec_Tree] }, E.tBs⟩),
        (false, ⟨none, some 21, .call { callee := .value (.func E.f_spec_Same), args := #[.tmp 12, .tmp 20], argTypes := #[E.tBs, E.tBs] }, E.tB⟩),
        (true, ⟨none, some 2, .assign (.tmp 21), E.tB⟩)]) .ret))))

section
variable {P : Program} {E : Env}

structure NewLaw (P : Program) (E : Env) (fMax fMsg fNew : Nat) (M : Nat) (F : FS) (fx : Int) (N : Nat → List UInt8) : Prop where
  max : ∀ w, Ret P fMax #[] w fun u w' => u = .int .i64 M ∧ Ext none1 w w'
  msg : MsgC P fMsg F fx
  new : ∀ v : Nat, v ≤ M → SpC P E.tU8 fNew [.int .i64 v] (N v)
  hM : M < 32768
  ok : F.okAll
  len : F.len ≤ 1000
  same : ∀ v : Nat, v ≤ M → partS F v (flexAt fx v) F.dflT = N v
  short : ∀ v : Nat, v ≤ M → (N v).length ≤ 1099511627776

theorem c_FnNew (ht : TyK P E) (hs : SpecFns P E) (hDf : FnIs P E.f_spec_Default nt_spec_Default (rs_spec_Default E) (ir_spec_Default E)) (hVe : FnIs P E.f_laws_version nt_laws_version (rs_laws_version E) (ir_laws_version E))
    {fMax fMsg fNew M g nt : Nat} {F : FS} {fx : Int} {N : Nat → List UInt8} (hL : NewLaw P E fMax fMsg fNew M F fx N) (hnt : 1 ≤ nt) (hI : FnIs P g nt [.t 2] (irFnNew E fMax fMsg fNew)) (n : Nat) (hn : n < 256) (w : World) :
    Ret P g #[.int .u8 n] w fun u w' => u = .bool true ∧ Ext none1 w w' := by
  have hvM : verOf n M ≤ M := by have := Nat.mod_lt n (show 0 < M + 1 by omega); simp only [verOf]; omega
  have hV := fun w => c_version hVe ht.iU8 ht.iInt n M hn hL.hM w
  refine hI.call (args := [_]) hnt ?_
  simp [irFnNew]
  refine (hL.max w).mono ?_
  rintro _ w1 ⟨rfl, he1⟩
  simp
  refine cw_false (by simp) ?_
  simp
  refine (hL.msg w1).mono ?_
  rintro _ w2 ⟨fv, rfl, hF, he2⟩
  have hzM : zeroOf P E.t_spec_Message = some (.agg #[.slice none 0 0, .int .i64 0]) := ht.zM
  have hzc : (Value.agg #[.slice none 0 0, .int .i64 0]).cells = #[.slice none 0 0, .int .i64 0] := rfl
  have hvo : fv.oneCell' = true := by
    obtain ⟨ls, ha, _⟩ := hF
    obtain ⟨a, c, rfl, _⟩ := ha.form
    rfl
  have ho : allOne [fv, Value.int .i64 fx] = true := by simp only [allOne, hvo, Bool.true_and]; rfl
  have hov : over #[Value.slice none 0 0, .int .i64 0] 0 [fv, Value.int .i64 fx] = #[fv, .int .i64 fx] := by simp [over]
  simp [hzM, hzc, store_agg ht.kM, ho, putK_blk alloc_new, hov]
  generalize hw3 : (w2.alloc (.cells #[.slice none 0 0, .int .i64 0] E.t_spec_Message)).setBlk w2.heap.size (.cells #[fv, .int .i64 fx] E.t_spec_Message (0, 0)) = w3
  have hb3 : w3.heap[w2.heap.size]? = some (.cells #[fv, .int .i64 fx] E.t_spec_Message (0, 0)) := by subst hw3; exact setBlk_same alloc_new
  have he3 : Ext none1 w2 w3 := by subst hw3; exact ((Ext.refl none1 w2).alloc _).setBlk (.inl (Nat.le_refl _)) _
  have lM : ∀ wx, Ext none1 w3 wx → cellsFrom wx ⟨w2.heap.size, 0, none⟩ 0 2 = some [fv, .int .i64 fx] := by
    intro wx hx
    have := cellsFrom_row (hx.old hb3 (fun h => h))
    simpa using this
  have cM : ∀ wx, Ext none1 w3 wx → wx.cell? ⟨w2.heap.size, 0, none⟩ = some fv := by
    intro wx hx
    rw [cell_of_blk (hx.old hb3 (fun h => h))]; rfl
  have hD := (Ext.refl none1 w3).drew
  have hE := he1.trans (he2.trans he3)
  refine cw_regH (Ext none1 w3) hD ?_
  have r3 := Ext.refl none1 w3
  simp +contextual [ld_agg ht.kM, lM, lM w3.drew hD, ht.m0, Addr.add_mk, ld_scl ht.kLF, cM, cM w3 r3]
  refine (hV w3.drew).mono ?_
  rintro _ w4 ⟨rfl, rfl⟩
  simp [hD]
  refine (by simpa using hL.new (verOf n M) hvM w3.drew : Ret P _ _ _ _).mono ?_
  intro v12 w5 h5
  have hD5 := hD.trans h5.2
  simp [hD5]
  refine (hV w5).mono ?_
  rintro _ w6 ⟨rfl, rfl⟩
  simp [hD5]
  refine (sp_Default ht.toTyD hDf F hL.ok hL.len w6 fv (hF.ext (he3.trans hD5))).mono ?_
  rintro _ w7 ⟨lv, rfl, hT, he7⟩
  have hD7 := hD5.trans he7
  simp [hD7]
  have hb := hL.short _ hvM
  have hW := sp_Write ht.toTyM hs (fx := fx) (ver := (verOf n M : Int)) hL.ok hL.len w7 fv _ _ (hF.ext (he3.trans hD7)) hT.tree (by rw [hL.same _ hvM]; exact hb)
  refine hW.mono ?_
  intro v8 w8 h8
  rw [hL.same _ hvM] at h8
  have hD8 := hD7.trans h8.2
  simp [hD8]
  refine (sp_Same ht.toTyG hs w8 All All v12 v8 _ _ ((own_bytes h5.1).ext (K := All) (he7.trans h8.2) (fun _ _ _ h => h)) (own_bytes h8.1) hb).mono ?_
  rintro _ w9 ⟨rfl, he9⟩
  have hD9 := hD8.trans he9
  simp [hD9]
  exact hE.trans hD9
end
end Go.Kg

set_option linter.unusedSimpArgs false
set_option linter.unusedVariables false
namespace Go.Kg
open Go

/-! ## Tags -/
structure TyTg (P : Program) (E : Env) : Prop extends TyWs P E where
  g0 : fldOff P E.t_kmsg_Tags 0 = some 0
  kM : kindOf P E.t_map_uint32_l_uint8 = .scl
  uM : P.underlying E.t_map_uint32_l_uint8 = some (.map E.tU32 E.tBs)
  kBs : kindOf P E.tBs = .scl

section
variable {P : Program} {E : Env} (ht : TyTg P E)
include ht

theorem isM : isMapT P E.t_map_uint32_l_uint8 = true := by simp [isMapT, ht.uM]

theorem c_TLen (hI : FnIs P E.f_pkmsg_Tags_Len nt_pkmsg_Tags_Len (rs_pkmsg_Tags_Len E) (ir_pkmsg_Tags_Len E)) (w : World) (K : Nat → Prop) (b o : Nat) (v : Value) (l : TagL) (hc : w.cell? ⟨b, o, none⟩ = some v) (hl : TagsAt w K v l) :
    Ret P E.f_pkmsg_Tags_Len #[.pointer (some ⟨b, o, none⟩)] w fun u w' => u = .int .i64 l.length ∧ w' = w := by
  refine hI.call (args := [_]) (by simp [nt_pkmsg_Tags_Len]) ?_
  simp [ir_pkmsg_Tags_Len, rs_pkmsg_Tags_Len, ht.g0, Addr.add_mk, ld_scl ht.kM, hc]
  rcases hl with ⟨rfl, rfl⟩ | ⟨bb, es, clock, rfl, _, hb, hs, _⟩
  · simp [isM ht, mapLen?]
  · simp [isM ht, mapLen?, hb, hs]

/-- No tags: Each does nothing. -/
theorem c_Each0 (hI : FnIs P E.f_pkmsg_Tags_Each nt_pkmsg_Tags_Each (rs_pkmsg_Tags_Each E) (ir_pkmsg_Tags_Each E)) (w : World) (b o : Nat) (v fn : Value) (K : Nat → Prop) (hc : w.cell? ⟨b, o, none⟩ = some v) (hl : TagsAt w K v []) :
    Ret P E.f_pkmsg_Tags_Each #[.pointer (some ⟨b, o, none⟩), fn] w fun u w' => w' = w := by
  refine hI.call (args := [_, _]) (by simp [nt_pkmsg_Tags_Each]) ?_
  have hlen : mapLen? w (match v with | .map m => m | _ => none) = some (.int .i64 0) ∧ ∃ m, v = .map m := by
    rcases hl with ⟨rfl, _⟩ | ⟨bb, es, clock, rfl, _, hb, hs, _⟩
    · exact ⟨rfl, _, rfl⟩
    · refine ⟨?_, _, rfl⟩
      simp only [mapLen?, hb]
      simp at hs
      simp [hs]
  obtain ⟨h1, m, rfl⟩ := hlen
  simp only at h1
  simp [ir_pkmsg_Tags_Each, rs_pkmsg_Tags_Each, ht.g0, Addr.add_mk, ld_scl ht.kM, hc, isM ht, h1]
  refine cw_true (by simp) ?_
  simp

theorem c_AppendEach0 (hI : FnIs P E.f_pkmsg_Tags_AppendEach nt_pkmsg_Tags_AppendEach (rs_pkmsg_Tags_AppendEach E) (ir_pkmsg_Tags_AppendEach E))
    (hE : ∀ w b o v fn K, w.cell? ⟨b, o, none⟩ = some v → TagsAt w K v [] → Ret P E.f_pkmsg_Tags_Each #[.pointer (some ⟨b, o, none⟩), fn] w fun u w' => w' = w)
    (w : World) (base : Nat) (v : Value) (s : List UInt8) (b o : Nat) (u : Value) (hb : b < base) (hc : w.cell? ⟨b, o, none⟩ = some u) (hl : TagsAt w (· < base) u []) (ho : OwnB E.tU8 w base v s) (hbs : base ≤ w.heap.size) :
    Ret P E.f_pkmsg_Tags_AppendEach #[.pointer (some ⟨b, o, none⟩), v] w fun v' w' => OwnB E.tU8 w' base v' s ∧ Grew w v w' v' := by
  refine hI.call (args := [_, _]) (by simp [nt_pkmsg_Tags_AppendEach]) ?_
  have hvc : v.cells = #[v] := by
    obtain ⟨n, _, h⟩ := ho
    rcases h with ⟨rfl, _⟩ | ⟨g, cap, cur, rfl, _⟩ <;> rfl
  have hX := (Ext.refl none1 w).alloc (.cells #[v] E.tBs)
  have hb2 : (w.alloc (.cells #[v] E.tBs)).heap[w.heap.size]? = some (.cells #[v] E.tBs (0, 0)) := alloc_new
  simp [ir_pkmsg_Tags_AppendEach, rs_pkmsg_Tags_AppendEach, hvc]
  refine (hE _ b o u _ (· < base) (hX.cell hc (fun h => h)) (hl.ext hX (fun _ _ _ h => h))).mono ?_
  rintro _ w' rfl
  have c0 : (w.alloc (.cells #[v] E.tBs)).cell? ⟨w.heap.size, 0, none⟩ = some v := by rw [cell_of_blk hb2]; rfl
  simp [ld_scl ht.kBs, c0]
  exact ⟨Own.ext ho hX (fun _ _ h => h), ⟨hX.mono (fun _ _ h => h.elim), fun _ h => .inl h⟩⟩

/-- Where no tags are met. -/
theorem tagsC0 (hL : ∀ w K b o v l, w.cell? ⟨b, o, none⟩ = some v → TagsAt w K v l → Ret P E.f_pkmsg_Tags_Len #[.pointer (some ⟨b, o, none⟩)] w fun u w' => u = .int .i64 (l : TagL).length ∧ w' = w)
    (hA : ∀ w base v s b o u, b < base → w.cell? ⟨b, o, none⟩ = some u → TagsAt w (· < base) u [] → OwnB E.tU8 w base v s → base ≤ w.heap.size →
      Ret P E.f_pkmsg_Tags_AppendEach #[.pointer (some ⟨b, o, none⟩), v] w fun v' w' => OwnB E.tU8 w' base v' s ∧ Grew w v w' v')
    (hU : ∀ n : Nat, n < 4294967296 → WrC P E.tU8 E.f_kbin_AppendUvarint [.int .u32 n] (uvOut n)) : TagsC P E (· = []) := by
  refine ⟨hL, ?_, hU⟩
  rintro w base v s b o u l rfl hb hc hl ho hbs _
  have := hA w base v s b o u hb hc hl ho hbs
  simpa [tagsOut, sortTags] using this
end
end Go.Kg

set_option linter.unusedSimpArgs false
set_option linter.unusedVariables false
namespace Go.Kg
open Go

section
variable {P : Program} {C : Cfg}

theorem primW_bool (h : ∀ b, WrC P C.E.tU8 C.E.f_kbin_AppendBool [.bool b] [if b then 1 else 0]) : PrimW P C .bool := by
  intro fl _ x u w base v s hp
  have : u = .bool x := hp
  subst this
  exact h x w base v s
theorem primW_i8 (h : ∀ n : Int, WrC P C.E.tU8 C.E.f_kbin_AppendInt8 [.int .i8 n] [bval n]) : PrimW P C .i8 := by
  intro fl _ x u w base v s hp
  have : u = .int .i8 x := hp
  subst this
  exact h x w base v s
theorem primW_i16 (h : ∀ n : Int, WrC P C.E.tU8 C.E.f_kbin_AppendInt16 [.int .i16 n] (bigE 2 (n % 65536).toNat)) : PrimW P C .i16 := by
  intro fl _ x u w base v s hp
  have : u = .int .i16 x := hp
  subst this
  exact h x w base v s
theorem primW_u16 (h : ∀ n : Nat, WrC P C.E.tU8 C.E.f_kbin_AppendUint16 [.int .u16 n] (bigE 2 n)) : PrimW P C .u16 := by
  intro fl _ x u w base v s hp
  obtain ⟨m, hm, hlt, rfl⟩ := hp
  have e : Prim.wr .u16 fl x = bigE 2 m := by
    simp only [Prim.wr, num]
    have hm' : x = (m : Int) := hm
    rw [hm']
    congr 1
    omega
  rw [e]
  exact h m w base v s
theorem primW_i32 (h : ∀ n : Int, WrC P C.E.tU8 C.E.f_kbin_AppendInt32 [.int .i32 n] (bigE 4 (n % 4294967296).toNat)) : PrimW P C .i32 := by
  intro fl _ x u w base v s hp
  have : u = .int .i32 x := hp
  subst this
  exact h x w base v s
theorem primW_i64 (h : ∀ n : Int, WrC P C.E.tU8 C.E.f_kbin_AppendInt64 [.int .i64 n] (bigE 8 (n % 18446744073709551616).toNat)) : PrimW P C .i64 := by
  intro fl _ x u w base v s hp
  have : u = .int .i64 x := hp
  subst this
  exact h x w base v s
theorem primW_uuid (h : ∀ l : List UInt8, l.length = 16 → WrC P C.E.tU8 C.E.f_kbin_AppendUuid [.agg (cellsOf l).toArray] l) : PrimW P C .uuid := by
  intro fl _ x u w base v s hp
  obtain ⟨rfl, hl⟩ := hp
  exact h x hl w base v s
theorem primW_str (h : ∀ l, WrC P C.E.tU8 C.E.f_kbin_AppendString [strV l] (wStr l)) (hc : C.fx = true → ∀ l, WrC P C.E.tU8 C.E.f_kbin_AppendCompactString [strV l] (wCStr l)) : PrimW P C .str := by
  intro fl hfl x u w base v s hp
  have : u = strV x := hp
  subst this
  cases fl
  · exact h x w base v s
  · exact hc (hfl rfl) x w base v s
theorem primW_nstr (h : ∀ o u, WrP P C.E.tU8 C.E.f_kbin_AppendNullableString (fun w base => StrPtr w (· < base) u o) [u] (wNStr o))
    (hc : C.fx = true → ∀ o u, WrP P C.E.tU8 C.E.f_kbin_AppendCompactNullableString (fun w base => StrPtr w (· < base) u o) [u] (wCNStr o)) : PrimW P C .nstr := by
  intro fl hfl x u
  cases fl
  · exact h x u
  · exact hc (hfl rfl) x u
theorem primW_bytes (h : ∀ l u, WrP P C.E.tU8 C.E.f_kbin_AppendBytes (fun w base => BytesAt w (· < base) u l) [u] (wBytes l))
    (hc : C.fx = true → ∀ l u, WrP P C.E.tU8 C.E.f_kbin_AppendCompactBytes (fun w base => BytesAt w (· < base) u l) [u] (wCBytes l)) : PrimW P C .bytes := by
  intro fl hfl x u
  cases fl
  · exact h x u
  · exact hc (hfl rfl) x u
theorem primW_nbytes (h : ∀ o u, WrP P C.E.tU8 C.E.f_kbin_AppendNullableBytes (fun w base => BytesOpt w (· < base) u o) [u] (wNBytes o))
    (hc : C.fx = true → ∀ o u, WrP P C.E.tU8 C.E.f_kbin_AppendCompactNullableBytes (fun w base => BytesOpt w (· < base) u o) [u] (wCNBytes o)) : PrimW P C .nbytes := by
  intro fl hfl x u
  cases fl
  · exact h x u
  · exact hc (hfl rfl) x u
theorem lenWC_none (h : ∀ n : Nat, WrC P C.E.tU8 C.E.f_kbin_AppendArrayLen [.int .i64 n] (wLen n)) (hc : C.fx = true → ∀ n : Nat, WrC P C.E.tU8 C.E.f_kbin_AppendCompactArrayLen [.int .i64 n] (wCLen n)) : LenWC P C none := by
  intro fl hfl n b
  cases fl
  · exact h n
  · exact hc (hfl rfl) n
theorem lenWC_some {m : Nat} (h : ∀ (n : Nat) (b : Bool), WrC P C.E.tU8 C.E.f_kbin_AppendNullableArrayLen [.int .i64 n, .bool b] (wNLen n b)) (hc : C.fx = true → ∀ (n : Nat) (b : Bool), WrC P C.E.tU8 C.E.f_kbin_AppendCompactNullableArrayLen [.int .i64 n, .bool b] (wCNLen n b)) : LenWC P C (some m) := by
  intro fl hfl n b
  cases fl
  · exact h n b
  · exact hc (hfl rfl) n b
end
end Go.Kg

set_option linter.unusedSimpArgs false
set_option linter.unusedVariables false
namespace Go.Kg
open Go Go.ChangeShapes Go.WideShapes Go.ChangeAt Go.RowKit

/-! ## What a seat's text lays -/
theorem FnIs.of {P : Program} {g N : Nat} {rs : List Rv} {ir : Ir} {fn : Func} (hm : P.follows .mixedOrders = true) (h1 : P.funcs[g]? = some fn) (h2 : fn.body.bind (erase N) = some ir) (h3 : fn.ntmps = N)
    (h4 : fn.results = (rs.map Rv.var).toArray) (h5 : (fn.name == "runtime.NumGoroutine") = false) : FnIs P g N rs ir := by
  refine ⟨hm, ?_⟩
  cases hb : fn.body with
  | none => rw [hb] at h2; cases h2
  | some c => rw [hb] at h2; exact ⟨fn, c, h1, hb, h3, h4, h5, h2⟩

theorem sli_of {P : Program} {t e s bytes : Nat} {z : Value} (hu : P.underlying t = some (.slice e)) (hi : (P.info? e).map (fun i => (i.zero, i.size, i.bytes)) = some (some z, s, bytes)) (hz : z.cells.size = s) : SliI P t e s bytes z := by
  refine ⟨hu, ?_, hz⟩
  cases h : P.info? e with
  | none => rw [h] at hi; cases hi
  | some i => rw [h] at hi; simp at hi; exact ⟨i, rfl, hi.1, hi.2.1, hi.2.2⟩

def FH.okB (h : FH) : Bool := decide (-1 ≤ h.tag) && decide (h.tag < 1000) && decide (-9223372036854775808 ≤ h.dflt) && decide (h.dflt < 9223372036854775808)
def FS.okB : FS → Bool
  | .nil => true
  | .cons h sub rest => h.okB && decide (sub.len ≤ 1000) && sub.okB && rest.okB
theorem FS.ok_of : ∀ {F : FS}, F.okB = true → F.okAll
  | .nil, _ => trivial
  | .cons h sub rest, hb => by
    simp only [FS.okB, FH.okB, Bool.and_eq_true, decide_eq_true_eq] at hb
    exact ⟨⟨hb.1.1.1.1.1.1, hb.1.1.1.1.1.2⟩, ⟨hb.1.1.1.1.2, hb.1.1.1.2⟩, hb.1.1.2, FS.ok_of hb.1.2, FS.ok_of hb.2⟩

def psNe (xs : List FSrc) : Bool := !xs.isEmpty && decide (xs.length ≤ 1000) && xs.all fun x => !x.ps.isEmpty && psOk x.ps
theorem psNe_of {xs : List FSrc} (h : psNe xs = true) : xs ≠ [] ∧ xs.length ≤ 1000 ∧ (∀ x ∈ xs, x.ps ≠ []) ∧ ∀ x ∈ xs, psOk x.ps = true := by
  simp only [psNe, Bool.and_eq_true, List.all_eq_true, Bool.not_eq_true', List.isEmpty_eq_false_iff, decide_eq_true_eq] at h
  exact ⟨h.1.1, h.1.2, fun x hx => (h.2 x hx).1, fun x hx => (h.2 x hx).2⟩
/-- the functions of a message's own lists -/
def subsOk (P : Program) : List FSrc → Prop
  | [] => True
  | x :: r => (∀ g F, x.sub = some (g, F) → SubC P g F) ∧ subsOk P r
theorem srcOk_of {P : Program} : ∀ {xs : List FSrc}, (∀ x ∈ xs, psOk x.ps = true) → subsOk P xs → srcOk P xs
  | [], _, _ => trivial
  | x :: r, h, hs => ⟨h x List.mem_cons_self, hs.1, srcOk_of (fun y hy => h y (List.mem_cons_of_mem _ hy)) hs.2⟩

theorem sub_of {P : Program} {E : Env} (ht : TyK P E) {g nt : Nat} {xs : List FSrc} (hI : FnIs P g nt [.t 0] (irSub E xs)) (hb : psNe xs = true) (hs : subsOk P xs) : SubC P g (mkFS xs) := by
  obtain ⟨h1, h2, h3, h4⟩ := psNe_of hb
  exact sub_sound ht hI h1 h2 (srcOk_of h4 hs) h3
theorem msg_of {P : Program} {E : Env} (ht : TyK P E) {g nt : Nat} {xs : List FSrc} {fx : Int} (hI : FnIs P g nt [.c 0 E.t_spec_Message] (irMsg E xs fx)) (hb : psNe xs = true) (hs : subsOk P xs) : MsgC P g (mkFS xs) fx := by
  obtain ⟨h1, h2, h3, h4⟩ := psNe_of hb
  exact msg_sound ht hI h1 h2 (srcOk_of h4 hs) h3

/-- what a new message is written as, in both ways, at all versions -/
def newChk (F : FS) (fx : Int) (S : Sch) (C : Cfg) (flex M : Nat) : Bool :=
  (List.range (M + 1)).all fun v => (partS F v (flexAt fx v) F.dflT == S.wr v (flagAt C flex v) S.dfl) && decide ((S.wr v (flagAt C flex v) S.dfl).length ≤ 1099511627776)
theorem newChk_of {F : FS} {fx : Int} {S : Sch} {C : Cfg} {flex M : Nat} (h : newChk F fx S C flex M = true) : ∀ v : Nat, v ≤ M → partS F v (flexAt fx v) F.dflT = S.wr v (flagAt C flex v) S.dfl ∧ (S.wr v (flagAt C flex v) S.dfl).length ≤ 1099511627776 := by
  intro v hv
  have := List.all_eq_true.1 h v (by simp; omega)
  simp only [Bool.and_eq_true, beq_iff_eq, decide_eq_true_eq] at this
  exact this

theorem ext_kept {w w' : World} (h : Ext none1 w w') (may : MemPlace → Prop) : w.keptBut w' may := by
  refine ⟨h.os, h.output, fun i hi => ?_⟩
  rw [h.block i hi (fun h => h)]
  have : ∃ o, w.heap[i]? = some o := ⟨_, Array.getElem?_eq_getElem hi⟩
  obtain ⟨o, ho⟩ := this
  rw [ho]
  cases o <;> simp
theorem ext_frozen {w w' : World} (h : Ext none1 w w') (a : Addr) (ha : a.block < w.heap.size) : w'.frozen? a = w.frozen? a := by
  simp only [World.frozen?, h.block a.block ha (fun h => h)]

theorem post_of_ext {H : Type} {enc : TypeId × Value → H} {P : Program} {f : Func} {s : ChangeSpec} {apart fresh handsOn again : Bool} {W W' : World} {args : Array Value} {v : Value} {ds gs : List (DataW H)} {before pa pv : List MemPlace}
    (hW : DataW.Whole enc P f.params.toList s.vars apart W args.toList ds gs before)
    (hres : ∀ (b : Nat) (sp : Nat → Bool) (hd : Bool), DataW.TrodAll enc P W' b sp hd f.resultTypes.toList (v.resultList f.resultTypes.size) (s.fn H (ds ++ gs)).results [])
    (hargs : ∀ sp : Nat → Bool, (∀ p ∈ before, sp p.block = true) → DataW.TrodAll enc P W' 0 sp true f.params.toList args.toList (s.fn H (ds ++ gs)).args pa)
    (hvars : ∀ sp : Nat → Bool, (∀ p ∈ before, sp p.block = true) → DataW.TrodVars enc P W' sp s.vars (s.fn H (ds ++ gs)).vars pv)
    (hps : before = pa ++ pv) (he : Ext none1 W W')
    (hok : ∀ (j : Nat) (t : TypeId) (r : Value), f.resultTypes[j]? = some t → (v.resultList f.resultTypes.size)[j]? = some r → Value.okWide P W' .any 0 t r) :
    s.post enc P f apart fresh handsOn again W args v W' := by
  have hold : ∀ p ∈ before, (fun b => decide (b < W.heap.size)) p.block = true := fun p hp => by simpa using hW.lt p hp
  have hlt := hW.lt
  refine ⟨ds, gs, before, [], pa, pv, hW, hres _ _ _, hargs _ hold, hvars _ hold, World.keptBut_mono (fun p hp => ⟨hp, ?_⟩) (ext_kept he (· ∈ before)), fun _ => ?_⟩
  · rw [hps, List.mem_append] at hp
    exact Or.inr hp
  · obtain ⟨_, _, _, _, _, hz, hn⟩ := hW
    refine ⟨hok, _, _, ([] ++ pa) ++ pv, ⟨[] ++ pa, pv, trodAll_append (hargs _ (fun _ _ => rfl)) (hres _ _ _), hvars _ (fun _ _ => rfl), rfl, ?_, ?_⟩, ?_⟩
    · intro b off hp
      have hp' : MemPlace.cell b off ∈ before := by rw [hps]; simpa using hp
      rw [ext_frozen he _ (hlt _ hp')]
      exact hz b off hp'
    · intro ha
      have := hn ha
      rw [hps] at this
      simpa using this
    · intro p hp _
      rw [hps]
      simpa using hp
end Go.Kg

set_option linter.unusedSimpArgs false
set_option linter.unusedVariables false
namespace Go.Kg
open Go

/-! ## What is read, in plain Lean -/
def rdCNBytes (rs : RS) : Option (List UInt8) × RS := if ((rdUv rs).1 : Int) - 1 < 0 then (none, (rdUv rs).2) else optOf (rdSpan ((rdUv rs).1 - 1) (rdUv rs).2)

def Prim.rd : (p : Prim) → Bool → RS → p.T × RS
  | .bool, _, rs => (boolOf (rdFixed 1 rs).1, (rdFixed 1 rs).2)
  | .i8, _, rs => (IntKind.i8.wrap (rdFixed 1 rs).1, (rdFixed 1 rs).2)
  | .i16, _, rs => (IntKind.i16.wrap (rdFixed 2 rs).1, (rdFixed 2 rs).2)
  | .u16, _, rs => (((rdFixed 2 rs).1 : Int), (rdFixed 2 rs).2)
  | .i32, _, rs => (IntKind.i32.wrap (rdFixed 4 rs).1, (rdFixed 4 rs).2)
  | .i64, _, rs => (IntKind.i64.wrap (rdFixed 8 rs).1, (rdFixed 8 rs).2)
  | .uuid, _, rs => rdUuid rs
  | .str, fl, rs => if fl then rdCStr rs else rdStr rs
  | .nstr, fl, rs => if fl then rdCNStr rs else rdNStr rs
  | .bytes, fl, rs => if fl then rdCBytes rs else rdBytes rs
  | .nbytes, fl, rs => if fl then rdCNBytes rs else rdNBytes rs

/-- a tag is set: in the place of the one of its number, or behind all -/
def setTag (k : Nat) (v : List UInt8) : TagL → TagL
  | [] => [(k, v)]
  | x :: l => if x.1 = k then (k, v) :: l else x :: setTag k v l
def rdTag (l : TagL) (rs : RS) : TagL × RS :=
  let a := rdUv rs
  let b := rdUv a.2
  let c := rdSpan b.1 b.2
  (setTag a.1 c.1 l, c.2)
def rdTagN : Nat → TagL → RS → TagL × RS
  | 0, l, rs => (l, rs)
  | n + 1, l, rs => rdTagN n (rdTag l rs).1 (rdTag l rs).2
def rdTags (rs : RS) : TagL × RS := rdTagN (rdUv rs).1 [] (rdUv rs).2

def rdN {α : Type} (f : RS → Option (α × RS)) : Nat → RS → Option (List α × RS)
  | 0, rs => some ([], rs)
  | n + 1, rs => match f rs with
    | none => none
    | some (x, rs1) => match rdN f n rs1 with
      | none => none
      | some (l, rs2) => some (x :: l, rs2)

/-- a list's length; what a list is that has none -/
def lenRd (fl : Bool) (rs : RS) : Int × RS := if fl then rdCLen rs else rdLen rs
def emptyOf {α : Type} (nul : Option Nat) (ver l : Int) : Option (List α) := match nul with
  | none => none
  | some m => if ver < (m : Int) ∨ l = 0 then some [] else none

def arrRd {α : Type} (nul : Option Nat) (ver : Int) (fl : Bool) (f : RS → Option (α × RS)) (rs : RS) : Option (Option (List α) × RS) :=
  if (lenRd fl rs).2.bad then none
  else if 0 < (lenRd fl rs).1 then match rdN f (lenRd fl rs).1.toNat (lenRd fl rs).2 with
    | none => none
    | some (l, rs2) => some (some l, rs2)
  else some (emptyOf nul ver (lenRd fl rs).1, (lenRd fl rs).2)

/-- none: the early return behind a list's length. -/
def Sch.rd (ver : Int) (fl : Bool) : (S : Sch) → RS → Option (S.T × RS)
  | .fin, rs => some ((), rs)
  | .tags _ _, rs => some (if fl then rdTags rs else ([], rs))
  | .prim g _ _ p _ d rest, rs =>
    if g.on ver then (rest.rd ver fl (p.rd fl rs).2).map fun y => (((p.rd fl rs).1, y.1), y.2)
    else (rest.rd ver fl rs).map fun y => ((p.dfl d, y.1), y.2)
  | .arrP g _ _ _ nul p rest, rs =>
    if g.on ver then match arrRd nul ver fl (fun rs => some (p.rd fl rs)) rs with
      | none => none
      | some (a, rs1) => (rest.rd ver fl rs1).map fun y => ((a, y.1), y.2)
    else (rest.rd ver fl rs).map fun y => ((none, y.1), y.2)
  | .arrS g _ _ _ nul _ _ _ _ e rest, rs =>
    if g.on ver then match arrRd nul ver fl (e.rd ver fl) rs with
      | none => none
      | some (a, rs1) => (rest.rd ver fl rs1).map fun y => ((a, y.1), y.2)
    else (rest.rd ver fl rs).map fun y => ((none, y.1), y.2)

/-! ### In which blocks a thing stands -/
section
variable {w : World} {K K' : Nat → Prop} (hK : ∀ b, K b → K' b)
include hK
theorem StrPtr.mono {v : Value} {o : Option (List UInt8)} (h : StrPtr w K v o) : StrPtr w K' v o := by
  cases o with
  | none => exact h
  | some l => obtain ⟨a, rfl, hk, hc⟩ := h; exact ⟨a, rfl, hK _ hk, hc⟩
theorem BytesOpt.mono {v : Value} {o : Option (List UInt8)} (h : BytesOpt w K v o) : BytesOpt w K' v o := by
  cases o with
  | none => exact h
  | some l => exact ⟨h.1.mono (fun b _ => hK b), h.2⟩
theorem Prim.rep1_mono {p : Prim} {v : Value} {x : p.T} (h : p.rep1 w K v x) : p.rep1 w K' v x := by
  cases p <;> first | exact h | exact StrPtr.mono hK h | exact BytesAt.mono h (fun b _ => hK b) | exact BytesOpt.mono hK h
theorem TagsAt.mono {v : Value} {l : TagL} (h : TagsAt w K v l) : TagsAt w K' v l := by
  rcases h with h | ⟨b, es, clock, rfl, hk, hb, hs, hn, hl, hx⟩
  · exact .inl h
  · refine .inr ⟨b, es, clock, rfl, hK _ hk, hb, hs, hn, hl, fun i e x h1 h2 => ?_⟩
    obtain ⟨a1, a2, a3, a4⟩ := hx i e x h1 h2
    exact ⟨a1, a2, a3, a4.mono (fun b _ => hK b)⟩
theorem ArrAt.mono' {sz : Nat} {v : Value} {ls : Option (List (List Value))} (h : ArrAt w K sz v ls) : ArrAt w K' sz v ls := by
  cases ls with
  | none => exact h
  | some ls => obtain ⟨b, o, c, rfl, hk, hn, hx⟩ := h; exact ⟨b, o, c, rfl, hK b hk, hn, hx⟩
theorem Sch.Rep_mono : ∀ (S : Sch) {cs : List Value} {x : S.T}, S.Rep w K cs x → S.Rep w K' cs x := by
  intro S
  induction S with
  | fin => intro cs x h; trivial
  | tags k o => intro cs x ⟨v, h1, h2⟩; exact ⟨v, h1, TagsAt.mono hK h2⟩
  | prim g k o p en d rest ih => intro cs x ⟨⟨v, h1, h2⟩, h3⟩; exact ⟨⟨v, h1, Prim.rep1_mono hK h2⟩, ih h3⟩
  | arrP g k o sT nul p rest ih =>
    intro cs x ⟨⟨v, ls, h1, h2, h3, h4, h5⟩, h6⟩
    refine ⟨⟨v, ls, h1, ArrAt.mono' hK h2, h3, h4, fun i es y hi hy => ?_⟩, ih h6⟩
    obtain ⟨u, a1, a2⟩ := h5 i es y hi hy
    exact ⟨u, a1, Prim.rep1_mono hK a2⟩
  | arrS g k o sT nul T PT sz df e rest ihe ih =>
    intro cs x ⟨⟨v, ls, h1, h2, h3, h4, h5⟩, h6⟩
    exact ⟨⟨v, ls, h1, ArrAt.mono' hK h2, h3, h4, fun i es y hi hy => ihe (h5 i es y hi hy)⟩, ih h6⟩
end
end Go.Kg

set_option linter.unusedSimpArgs false
set_option linter.unusedVariables false
set_option linter.unusedSectionVars false
namespace Go.Kg
open Go

/-! ## What is written is read: numbers -/
theorem be_go : ∀ (k n m : Nat), (bigE k n).foldl (fun n b => n * 256 + b.toNat) m = m * 256 ^ k + n % 256 ^ k := by
  intro k
  induction k with
  | zero => intro n m; simp [bigE, Nat.mod_one]
  | succ k ih =>
    intro n m
    simp only [bigE, List.foldl_cons]
    rw [ih]
    have h1 : (UInt8.ofNat (n / 256 ^ k)).toNat = n / 256 ^ k % 256 := by simp
    rw [h1, Nat.pow_succ, Nat.mod_mul]
    rw [Nat.add_mul, Nat.mul_assoc, Nat.mul_comm 256 (256 ^ k), Nat.mul_comm (n / 256 ^ k % 256)]
    omega
theorem be_bigE (k n : Nat) : be (bigE k n) = n % 256 ^ k := by
  rw [be, be_go]; simp

theorem rdFixed_bigE (k n : Nat) (r : List UInt8) (bad nn : Bool) : rdFixed k ⟨bigE k n ++ r, bad, nn⟩ = (n % 256 ^ k, ⟨r, bad, true⟩) := by
  have h1 : ¬ (bigE k n ++ r).length < k := by simp
  have h2 : (bigE k n ++ r).take k = bigE k n := by rw [List.take_left' bigE_length]
  have h3 : (bigE k n ++ r).drop k = r := by rw [List.drop_left' bigE_length]
  simp only [rdFixed, if_neg h1, h2, h3, be_bigE]

theorem uvE_rd : ∀ (k n : Nat) (r : List UInt8), n < 128 ^ k * 16 → uvGo k (uvE k n ++ r) = some (n, r) := by
  intro k
  induction k with
  | zero =>
    intro n r h
    have h' : n < 16 := by simpa using h
    have h1 : (UInt8.ofNat n).toNat = n := by simp; omega
    simp only [uvE, List.cons_append, List.nil_append, uvGo, h1]
    rw [if_pos (by omega)]
  | succ k ih =>
    intro n r h
    by_cases hn : n < 128
    · have h1 : (UInt8.ofNat n).toNat = n := by simp; omega
      simp only [uvE, if_pos hn, List.cons_append, List.nil_append, uvGo, h1]
    · have h1 : (UInt8.ofNat (n % 128 + 128)).toNat = n % 128 + 128 := by simp; omega
      simp only [uvE, if_neg hn, List.cons_append, uvGo, h1]
      rw [if_neg (by omega), ih (n / 128) r (by rw [Nat.pow_succ] at h; omega)]
      simp only [Option.map_some]
      congr 2
      omega
theorem rdUv_out {n : Nat} (h : n < 4294967296) (r : List UInt8) (bad nn : Bool) : rdUv ⟨uvOut n ++ r, bad, nn⟩ = (n, ⟨r, bad, true⟩) := by
  simp only [rdUv, uv, uvOut, uvE_rd 4 n r (by simpa using h)]

theorem uvE_le : ∀ {k : Nat} {s r : List UInt8} {n : Nat}, uvGo k s = some (n, r) → (uvE k n).length + r.length ≤ s.length := by
  intro k
  induction k with
  | zero =>
    intro s r n h
    cases s with
    | nil => cases h
    | cons b s => simp only [uvGo] at h; split at h
                  · cases h; simp [uvE]; omega
                  · cases h
  | succ k ih =>
    intro s r n h
    cases s with
    | nil => cases h
    | cons b s =>
      simp only [uvGo] at h
      split at h
      · rename_i hb
        cases h
        simp only [uvE, if_pos hb, List.length_cons, List.length_nil]; omega
      · rename_i hb
        obtain ⟨⟨m, r'⟩, hm, he⟩ := Option.map_eq_some_iff.1 h
        cases he
        have := ih hm
        simp only [uvE]
        split
        · simp; omega
        · have e : (b.toNat % 128 + 128 * m) / 128 = m := by omega
          rw [e]
          simp; omega
theorem uvE_mono : ∀ {k n m : Nat}, n ≤ m → (uvE k n).length ≤ (uvE k m).length := by
  intro k
  induction k with
  | zero => intro n m h; simp [uvE]
  | succ k ih =>
    intro n m h
    simp only [uvE]
    split
    · split <;> simp
    · rename_i h1
      rw [if_neg (by omega)]
      simp
      exact ih (by omega)
theorem uvE_pos {k n : Nat} : 1 ≤ (uvE k n).length := by cases k <;> simp only [uvE] <;> first | (split <;> simp) | simp
theorem uv_ext : ∀ {k : Nat} {s r z : List UInt8} {n : Nat}, uvGo k s = some (n, r) → uvGo k (s ++ z) = some (n, r ++ z) := by
  intro k
  induction k with
  | zero =>
    intro s r z n h
    cases s with
    | nil => cases h
    | cons b s => simp only [uvGo, List.cons_append] at h ⊢; split at h
                  · cases h; rename_i hb; simp [hb]
                  · cases h
  | succ k ih =>
    intro s r z n h
    cases s with
    | nil => cases h
    | cons b s =>
      simp only [uvGo, List.cons_append] at h ⊢
      split at h
      · rename_i hb; cases h; simp [hb]
      · rename_i hb
        obtain ⟨⟨m, r'⟩, hm, he⟩ := Option.map_eq_some_iff.1 h
        cases he
        rw [if_neg hb, ih hm]
        rfl

/-! ## Readers that stand a longer text, and never heal -/
structure Good {α : Type} (g : RS → α × RS) : Prop where
  ext : ∀ p z nn, (g ⟨p, false, nn⟩).2.bad = false → g ⟨p ++ z, false, nn⟩ = ((g ⟨p, false, nn⟩).1, ⟨(g ⟨p, false, nn⟩).2.src ++ z, false, (g ⟨p, false, nn⟩).2.nn⟩)
  bad : ∀ rs, rs.bad = true → (g rs).2.bad = true

theorem Good.pure {α : Type} (x : Bool → α) : Good (fun rs => (x rs.nn, rs)) := ⟨fun p z nn _ => rfl, fun rs h => h⟩
theorem Good.bind {α β : Type} {g : RS → α × RS} {h : α → RS → β × RS} (hg : Good g) (hh : ∀ a, Good (h a)) : Good (fun rs => h (g rs).1 (g rs).2) := by
  refine ⟨fun p z nn hb => ?_, fun rs hb => (hh _).bad _ (hg.bad rs hb)⟩
  have h1 : (g ⟨p, false, nn⟩).2.bad = false := by
    cases e : (g ⟨p, false, nn⟩).2.bad
    · rfl
    · have h3 := (hh (g ⟨p, false, nn⟩).1).bad _ e
      have h4 : (h (g ⟨p, false, nn⟩).1 (g ⟨p, false, nn⟩).2).2.bad = false := hb
      rw [h3] at h4; cases h4
  have e := hg.ext p z nn h1
  have hb' : (h (g ⟨p, false, nn⟩).1 (g ⟨p, false, nn⟩).2).2.bad = false := hb
  show h (g ⟨p ++ z, false, nn⟩).1 (g ⟨p ++ z, false, nn⟩).2 = ((h (g ⟨p, false, nn⟩).1 (g ⟨p, false, nn⟩).2).1, ⟨(h (g ⟨p, false, nn⟩).1 (g ⟨p, false, nn⟩).2).2.src ++ z, false, (h (g ⟨p, false, nn⟩).1 (g ⟨p, false, nn⟩).2).2.nn⟩)
  rw [e]
  clear e hb
  generalize g ⟨p, false, nn⟩ = y at *
  obtain ⟨a, q, bd, m⟩ := y
  simp only at h1 hb' ⊢
  subst h1
  exact (hh a).ext q z m hb'
theorem Good.map {α β : Type} {g : RS → α × RS} (hg : Good g) (f : α → Bool → β) : Good (fun rs => (f (g rs).1 (g rs).2.nn, (g rs).2)) :=
  hg.bind (h := fun a rs => (f a rs.nn, rs)) (fun a => Good.pure (f a))
theorem Good.fail {α : Type} (x : α) : Good (fun _ => (x, .fail)) := ⟨fun p z nn h => (by cases h), fun rs _ => rfl⟩

theorem good_fixed (k : Nat) : Good (rdFixed k) := by
  refine ⟨fun p z nn h => ?_, fun rs h => ?_⟩
  · unfold rdFixed at h ⊢
    by_cases hl : p.length < k
    · simp only [if_pos hl] at h; cases h
    · have : ¬ (p ++ z).length < k := by simp; omega
      simp only [if_neg hl, if_neg this]
      rw [List.take_append_of_le_length (by omega), List.drop_append_of_le_length (by omega)]
  · unfold rdFixed; split
    · rfl
    · exact h
theorem good_uv : Good rdUv := by
  refine ⟨fun p z nn h => ?_, fun rs h => ?_⟩
  · unfold rdUv at h ⊢
    cases hu : uv p with
    | none => rw [hu] at h; cases h
    | some x =>
      obtain ⟨n, r⟩ := x
      have := uv_ext (z := z) hu
      simp only [uv] at hu ⊢
      simp only [this, hu]
  · unfold rdUv; split
    · exact h
    · rfl
theorem good_span (l : Int) : Good (rdSpan l) := by
  refine ⟨fun p z nn h => ?_, fun rs h => ?_⟩
  · unfold rdSpan at h ⊢
    by_cases hl : (p.length : Int) < l ∨ l < 0
    · simp only [if_pos hl] at h; cases h
    · have : ¬ (((p ++ z).length : Int) < l ∨ l < 0) := by simp; omega
      simp only [if_neg hl, if_neg this]
      rw [List.take_append_of_le_length (by omega), List.drop_append_of_le_length (by omega)]
  · unfold rdSpan; split
    · rfl
    · exact h
theorem good_cap (n : Int) : Good (capLen n) := by
  refine ⟨fun p z nn h => ?_, fun rs h => ?_⟩
  · unfold capLen at h ⊢
    by_cases hl : (p.length : Int) < n
    · simp only [if_pos hl] at h; cases h
    · have : ¬ ((p ++ z).length : Int) < n := by simp; omega
      simp only [if_neg hl, if_neg this]
  · unfold capLen; split
    · rfl
    · exact h
theorem Good.congr {α : Type} {f g : RS → α × RS} (h : Good f) (e : ∀ rs, g rs = f rs) : Good g := (funext e : g = f) ▸ h

theorem good_lenRd (fl : Bool) : Good (lenRd fl) := by
  cases fl
  · exact (good_fixed 4).bind (h := fun (a : Nat) rs => capLen (i32 a) rs) (fun a => good_cap _)
  · exact good_uv.bind (h := fun (a : Nat) rs => capLen (IntKind.i32.wrap (i32 a - 1)) rs) (fun a => good_cap _)

theorem good_opt {g : RS → List UInt8 × RS} (h : Good g) : Good (fun rs => optOf (g rs)) := h.map (fun a nn => if nn then some a else none)

theorem good_prim (p : Prim) (fl : Bool) : Good (p.rd fl) := by
  cases p with
  | bool => exact (good_fixed 1).map (fun a _ => boolOf a)
  | i8 => exact (good_fixed 1).map (fun a _ => IntKind.i8.wrap a)
  | i16 => exact (good_fixed 2).map (fun a _ => IntKind.i16.wrap a)
  | u16 => exact (good_fixed 2).map (fun a _ => (a : Int))
  | i32 => exact (good_fixed 4).map (fun a _ => IntKind.i32.wrap a)
  | i64 => exact (good_fixed 8).map (fun a _ => IntKind.i64.wrap a)
  | uuid => exact (good_span 16).map (fun a _ => if a.length = 16 then a else List.replicate 16 0)
  | str =>
    cases fl
    · exact (good_fixed 2).bind (h := fun (a : Nat) rs => rdSpan (i16 a) rs) (fun a => good_span _)
    · exact good_uv.bind (h := fun (a : Nat) rs => rdSpan ((a : Int) - 1) rs) (fun a => good_span _)
  | nstr =>
    cases fl
    · refine (good_fixed 2).bind (h := fun (a : Nat) rs => if i16 a < 0 then (none, rs) else (some (rdSpan (i16 a) rs).1, (rdSpan (i16 a) rs).2)) (fun a => ?_)
      by_cases h : i16 a < 0
      · simp only [if_pos h]; exact Good.pure (fun _ => none)
      · simp only [if_neg h]; exact (good_span _).map (fun a _ => some a)
    · refine good_uv.bind (h := fun (a : Nat) rs => if (a : Int) - 1 < 0 then (none, rs) else (some (rdSpan ((a : Int) - 1) rs).1, (rdSpan ((a : Int) - 1) rs).2)) (fun a => ?_)
      by_cases h : (a : Int) - 1 < 0
      · simp only [if_pos h]; exact Good.pure (fun _ => none)
      · simp only [if_neg h]; exact (good_span _).map (fun a _ => some a)
  | bytes =>
    cases fl
    · refine (good_fixed 4).bind (h := fun (a : Nat) rs => if i32 a = -1 then ([], rs) else rdSpan (i32 a) rs) (fun a => ?_)
      by_cases h : i32 a = -1
      · simp only [if_pos h]; exact Good.pure (fun _ => [])
      · simp only [if_neg h]; exact good_span _
    · refine good_uv.bind (h := fun (a : Nat) rs => if a = 0 then ([], rs) else rdSpan ((a : Int) - 1) rs) (fun a => ?_)
      by_cases h : a = 0
      · simp only [if_pos h]; exact Good.pure (fun _ => [])
      · simp only [if_neg h]; exact good_span _
  | nbytes =>
    cases fl
    · refine (good_fixed 4).bind (h := fun (a : Nat) rs => if i32 a < 0 then (none, rs) else optOf (rdSpan (i32 a) rs)) (fun a => ?_)
      by_cases h : i32 a < 0
      · simp only [if_pos h]; exact Good.pure (fun _ => none)
      · simp only [if_neg h]; exact good_opt (good_span _)
    · refine good_uv.bind (h := fun (a : Nat) rs => if (a : Int) - 1 < 0 then (none, rs) else optOf (rdSpan ((a : Int) - 1) rs)) (fun a => ?_)
      by_cases h : (a : Int) - 1 < 0
      · simp only [if_pos h]; exact Good.pure (fun _ => none)
      · simp only [if_neg h]; exact good_opt (good_span _)

theorem good_tag (l : TagL) : Good (rdTag l) :=
  good_uv.bind (h := fun (a : Nat) rs => (setTag a (rdSpan (rdUv rs).1 (rdUv rs).2).1 l, (rdSpan (rdUv rs).1 (rdUv rs).2).2)) (fun a =>
    (good_uv.bind (h := fun (b : Nat) rs => rdSpan (b : Int) rs) (fun b => good_span _)).map (fun v _ => setTag a v l))
theorem good_tagN : ∀ (n : Nat) (l : TagL), Good (rdTagN n l)
  | 0, l => Good.pure (fun _ => l)
  | n + 1, l => (good_tag l).bind (h := fun a rs => rdTagN n a rs) (fun a => good_tagN n a)
theorem good_tags : Good rdTags := good_uv.bind (h := fun (n : Nat) rs => rdTagN n [] rs) (fun n => good_tagN n [])

/-- the same of readers that may end early -/
structure GoodO {α : Type} (g : RS → Option (α × RS)) : Prop where
  ext : ∀ p z nn y rs, g ⟨p, false, nn⟩ = some (y, rs) → rs.bad = false → g ⟨p ++ z, false, nn⟩ = some (y, ⟨rs.src ++ z, false, rs.nn⟩)
  bad : ∀ rs y rs', g rs = some (y, rs') → rs.bad = true → rs'.bad = true
theorem Good.toO {α : Type} {g : RS → α × RS} (h : Good g) : GoodO (fun rs => some (g rs)) := by
  refine ⟨fun p z nn y rs e hb => ?_, fun rs y rs' e hb => ?_⟩
  · simp only [Option.some.injEq] at e ⊢
    rw [h.ext p z nn (by rw [e]; exact hb), e]
  · simp only [Option.some.injEq] at e
    have := h.bad rs hb
    rwa [e] at this
theorem GoodO.bind {α β : Type} {g : RS → Option (α × RS)} {h : α → RS → Option (β × RS)} (hg : GoodO g) (hh : ∀ a, GoodO (h a)) : GoodO (fun rs => (g rs).bind fun x => h x.1 x.2) := by
  refine ⟨fun p z nn y rs e hb => ?_, fun rs y rs' e hb => ?_⟩
  · obtain ⟨⟨a, r1⟩, e1, e2⟩ := Option.bind_eq_some_iff.1 e
    have h1 : r1.bad = false := by
      cases hx : r1.bad
      · rfl
      · have := (hh a).bad r1 y rs e2 hx
        rw [this] at hb; cases hb
    have e1' := hg.ext p z nn a r1 e1 h1
    rw [e1']
    obtain ⟨s1, b1, n1⟩ := r1
    simp only at h1
    subst h1
    exact (hh a).ext s1 z n1 y rs e2 hb
  · obtain ⟨⟨a, r1⟩, e1, e2⟩ := Option.bind_eq_some_iff.1 e
    exact (hh a).bad r1 y rs' e2 (hg.bad rs a r1 e1 hb)
theorem GoodO.congr {α : Type} {f g : RS → Option (α × RS)} (h : GoodO f) (e : ∀ rs, g rs = f rs) : GoodO g := (funext e : g = f) ▸ h
theorem GoodO.pure {α : Type} (x : α) : GoodO (fun rs => some (x, rs)) := (Good.pure (fun _ => x)).toO

theorem good_N {α : Type} {f : RS → Option (α × RS)} (hf : GoodO f) : ∀ n, GoodO (rdN f n)
  | 0 => GoodO.pure _
  | n + 1 => by
    refine (hf.bind (h := fun x rs => (rdN f n rs).bind fun y => some (x :: y.1, y.2)) (fun x => (good_N hf n).bind (h := fun l rs => some (x :: l, rs)) (fun l => GoodO.pure _))).congr (fun rs => ?_)
    simp only [rdN]
    cases f rs with
    | none => rfl
    | some a =>
      obtain ⟨x, r1⟩ := a
      simp only [Option.bind_some]
      cases rdN f n r1 with
      | none => rfl
      | some b => rfl

theorem good_arr {α : Type} {nul : Option Nat} {ver : Int} {fl : Bool} {f : RS → Option (α × RS)} (hf : GoodO f) : GoodO (arrRd nul ver fl f) := by
  have h1 : GoodO (fun rs => if (lenRd fl rs).2.bad then (none : Option (Int × RS)) else some (lenRd fl rs)) := by
    refine ⟨fun p z nn y rs e hb => ?_, fun rs y rs' e hb => ?_⟩
    · split at e
      · cases e
      · rename_i hn
        have e' : lenRd fl ⟨p, false, nn⟩ = (y, rs) := Option.some.inj e
        have := (good_lenRd fl).ext p z nn (by rw [e']; exact hb)
        rw [this, e']
        simp
    · split at e
      · cases e
      · rename_i hn
        exact absurd ((good_lenRd fl).bad rs hb) hn
  refine (h1.bind (h := fun l rs => if 0 < l then (rdN f l.toNat rs).bind (fun x => some (some x.1, x.2)) else some (emptyOf nul ver l, rs)) (fun l => ?_)).congr (fun rs => ?_)
  · by_cases hl : 0 < l
    · simp only [if_pos hl]; exact (good_N hf _).bind (h := fun x rs => some (some x, rs)) (fun x => GoodO.pure _)
    · simp only [if_neg hl]; exact GoodO.pure _
  · simp only [arrRd]
    split
    · rfl
    · simp only [Option.bind_some]
      split
      · cases rdN f (lenRd fl rs).1.toNat (lenRd fl rs).2 with
        | none => rfl
        | some b => rfl
      · rfl

theorem good_sch (ver : Int) (fl : Bool) : ∀ S : Sch, GoodO (S.rd ver fl) := by
  intro S
  induction S with
  | fin => exact GoodO.pure _
  | tags k o =>
    cases fl
    · exact GoodO.pure _
    · exact good_tags.toO
  | prim g k o p en d rest ih =>
    by_cases h : g.on ver = true
    · refine ((good_prim p fl).toO.bind (h := fun x rs => (rest.rd ver fl rs).bind fun y => some ((x, y.1), y.2)) (fun x => ih.bind (h := fun y rs => some ((x, y), rs)) (fun y => GoodO.pure _))).congr (fun rs => ?_)
      simp only [Sch.rd, if_pos h, Option.bind_some]
      cases rest.rd ver fl (p.rd fl rs).2 <;> rfl
    · refine (ih.bind (h := fun y rs => some ((p.dfl d, y), rs)) (fun y => GoodO.pure _)).congr (fun rs => ?_)
      simp only [Sch.rd, if_neg h]
      cases rest.rd ver fl rs <;> rfl
  | arrP g k o sT nul p rest ih =>
    by_cases h : g.on ver = true
    · refine ((good_arr (nul := nul) (ver := ver) (fl := fl) (good_prim p fl).toO).bind (h := fun x rs => (rest.rd ver fl rs).bind fun y => some ((x, y.1), y.2)) (fun x => ih.bind (h := fun y rs => some ((x, y), rs)) (fun y => GoodO.pure _))).congr (fun rs => ?_)
      simp only [Sch.rd, if_pos h]
      cases arrRd nul ver fl (fun rs => some (p.rd fl rs)) rs with
      | none => rfl
      | some a => simp only [Option.bind_some]; cases rest.rd ver fl a.2 <;> rfl
    · refine (ih.bind (h := fun y rs => some ((none, y), rs)) (fun y => GoodO.pure _)).congr (fun rs => ?_)
      simp only [Sch.rd, if_neg h]
      cases rest.rd ver fl rs <;> rfl
  | arrS g k o sT nul T PT sz df e rest ihe ih =>
    by_cases h : g.on ver = true
    · refine ((good_arr (nul := nul) (ver := ver) (fl := fl) ihe).bind (h := fun x rs => (rest.rd ver fl rs).bind fun y => some ((x, y.1), y.2)) (fun x => ih.bind (h := fun y rs => some ((x, y), rs)) (fun y => GoodO.pure _))).congr (fun rs => ?_)
      simp only [Sch.rd, if_pos h]
      cases arrRd nul ver fl (e.rd ver fl) rs with
      | none => rfl
      | some a => simp only [Option.bind_some]; cases rest.rd ver fl a.2 <;> rfl
    · refine (ih.bind (h := fun y rs => some ((none, y), rs)) (fun y => GoodO.pure _)).congr (fun rs => ?_)
      simp only [Sch.rd, if_neg h]
      cases rest.rd ver fl rs <;> rfl
end Go.Kg

set_option linter.unusedSimpArgs false
set_option linter.unusedVariables false
set_option linter.unusedSectionVars false
namespace Go.Kg
open Go

/-! ## What is written is read -/
/-- what a thing may be, to be written and read -/
def Prim.wf : (p : Prim) → p.T → Prop
  | .bool, _ => True
  | .i8, n => -128 ≤ (show Int from n) ∧ (show Int from n) < 128
  | .i16, n => -32768 ≤ (show Int from n) ∧ (show Int from n) < 32768
  | .u16, n => 0 ≤ (show Int from n) ∧ (show Int from n) < 65536
  | .i32, n => -2147483648 ≤ (show Int from n) ∧ (show Int from n) < 2147483648
  | .i64, n => -9223372036854775808 ≤ (show Int from n) ∧ (show Int from n) < 9223372036854775808
  | .uuid, l => (show List UInt8 from l).length = 16
  | .str, l => (show List UInt8 from l).length ≤ 32767
  | .bytes, l => (show List UInt8 from l).length ≤ 32767
  | .nstr, o => ((show Option (List UInt8) from o).getD []).length ≤ 32767
  | .nbytes, o => ((show Option (List UInt8) from o).getD []).length ≤ 32767

def tagsOk (l : TagL) : Prop := l.length ≤ 40000 ∧ (l.map (·.1)).Nodup ∧ ∀ x ∈ l, x.1 < 4294967296 ∧ x.2.length ≤ 32767

theorem rdNum (k : Nat) (n : Int) (r : List UInt8) (bad nn : Bool) : rdFixed k ⟨num k n ++ r, bad, nn⟩ = ((n % (256 ^ k : Nat)).toNat, ⟨r, bad, true⟩) := by
  rw [num, rdFixed_bigE]
  have h0 : (0 : Int) < (256 ^ k : Nat) := by
    have : 0 < 256 ^ k := Nat.pow_pos (by omega)
    omega
  have h1 := Int.emod_lt_of_pos n h0
  have h2 := Int.emod_nonneg n (Int.ne_of_gt h0)
  rw [Nat.mod_eq_of_lt (by omega)]

theorem span_all {l r : List UInt8} {bad nn : Bool} {n : Int} (h : n = l.length) : rdSpan n ⟨l ++ r, bad, nn⟩ = (l, ⟨r, bad, nn⟩) := by
  subst h
  have : ¬ (((l ++ r).length : Int) < l.length ∨ (l.length : Int) < 0) := by simp; omega
  simp only [rdSpan, if_neg this]
  simp

theorem i16_len {n : Nat} (h : n ≤ 32767) : i16 (n % 65536 % 256 ^ 2) = n := by simp [i16, IntKind.wrap, IntKind.signed, IntKind.bits]; omega
theorem i32_len {n : Nat} (h : n ≤ 40000) : i32 (n % 4294967296 % 256 ^ 4) = n := by simp [i32, IntKind.wrap, IntKind.signed, IntKind.bits]; omega
theorem u_len {n : Nat} (h : n ≤ 40000) : (n + 1) % 4294967296 = n + 1 := by omega

theorem rd_i8 (x : Int) (h : -128 ≤ x ∧ x < 128) (r : List UInt8) (nn : Bool) : (IntKind.i8.wrap (rdFixed 1 ⟨[bval x] ++ r, false, nn⟩).1, (rdFixed 1 ⟨[bval x] ++ r, false, nn⟩).2) = (x, (⟨r, false, true⟩ : RS)) := by
  have e := rdNum 1 x r false nn
  have e2 : num 1 x = [bval x] := by simp [num, bigE, bval]
  rw [e2] at e
  rw [e]
  have : IntKind.i8.wrap ((x % ((256 ^ 1 : Nat) : Int)).toNat : Int) = x := by simp [IntKind.wrap, IntKind.signed, IntKind.bits]; omega
  simp only [this]
theorem rd_i16 (x : Int) (h : -32768 ≤ x ∧ x < 32768) (r : List UInt8) (nn : Bool) : (IntKind.i16.wrap (rdFixed 2 ⟨num 2 x ++ r, false, nn⟩).1, (rdFixed 2 ⟨num 2 x ++ r, false, nn⟩).2) = (x, (⟨r, false, true⟩ : RS)) := by
  rw [rdNum 2 x r false nn]
  have : IntKind.i16.wrap ((x % ((256 ^ 2 : Nat) : Int)).toNat : Int) = x := by simp [IntKind.wrap, IntKind.signed, IntKind.bits]; omega
  simp only [this]
theorem rd_u16 (x : Int) (h : 0 ≤ x ∧ x < 65536) (r : List UInt8) (nn : Bool) : (((rdFixed 2 ⟨num 2 x ++ r, false, nn⟩).1 : Int), (rdFixed 2 ⟨num 2 x ++ r, false, nn⟩).2) = (x, (⟨r, false, true⟩ : RS)) := by
  rw [rdNum 2 x r false nn]
  have : ((x % ((256 ^ 2 : Nat) : Int)).toNat : Int) = x := by simp; omega
  simp only [this]
theorem rd_i32 (x : Int) (h : -2147483648 ≤ x ∧ x < 2147483648) (r : List UInt8) (nn : Bool) : (IntKind.i32.wrap (rdFixed 4 ⟨num 4 x ++ r, false, nn⟩).1, (rdFixed 4 ⟨num 4 x ++ r, false, nn⟩).2) = (x, (⟨r, false, true⟩ : RS)) := by
  rw [rdNum 4 x r false nn]
  have : IntKind.i32.wrap ((x % ((256 ^ 4 : Nat) : Int)).toNat : Int) = x := by simp [IntKind.wrap, IntKind.signed, IntKind.bits]; omega
  simp only [this]
theorem rd_i64 (x : Int) (h : -9223372036854775808 ≤ x ∧ x < 9223372036854775808) (r : List UInt8) (nn : Bool) : (IntKind.i64.wrap (rdFixed 8 ⟨num 8 x ++ r, false, nn⟩).1, (rdFixed 8 ⟨num 8 x ++ r, false, nn⟩).2) = (x, (⟨r, false, true⟩ : RS)) := by
  rw [rdNum 8 x r false nn]
  have : IntKind.i64.wrap ((x % ((256 ^ 8 : Nat) : Int)).toNat : Int) = x := by simp [IntKind.wrap, IntKind.signed, IntKind.bits]; omega
  simp only [this]
theorem rd_bool (b : Bool) (r : List UInt8) (nn : Bool) : (boolOf (rdFixed 1 ⟨[if b then 1 else 0] ++ r, false, nn⟩).1, (rdFixed 1 ⟨[if b then 1 else 0] ++ r, false, nn⟩).2) = (b, (⟨r, false, true⟩ : RS)) := by
  have e := rdFixed_bigE 1 (if b then 1 else 0) r false nn
  have e2 : bigE 1 (if b then 1 else 0) = [if b then 1 else 0] := by cases b <;> rfl
  rw [e2] at e
  rw [e]
  cases b <;> rfl
theorem rd_uuid (l : List UInt8) (h : l.length = 16) (r : List UInt8) (nn : Bool) : rdUuid ⟨l ++ r, false, nn⟩ = (l, ⟨r, false, nn⟩) := by
  have e := span_all (l := l) (r := r) (bad := false) (nn := nn) (n := 16) (by rw [h]; rfl)
  simp only [rdUuid, e, if_pos h]
theorem rd_str (l : List UInt8) (h : l.length ≤ 32767) (r : List UInt8) (nn : Bool) : rdStr ⟨wStr l ++ r, false, nn⟩ = (l, ⟨r, false, true⟩) := by
  simp only [rdStr, wStr, List.append_assoc, rdFixed_bigE]
  exact span_all (i16_len h)
theorem rd_cstr (l : List UInt8) (h : l.length ≤ 32767) (r : List UInt8) (nn : Bool) : rdCStr ⟨wCStr l ++ r, false, nn⟩ = (l, ⟨r, false, true⟩) := by
  simp only [rdCStr, wCStr, List.append_assoc, u_len (n := l.length) (by omega)]
  rw [rdUv_out (by omega)]
  exact span_all (by simp)
theorem rd_nstr (o : Option (List UInt8)) (h : (o.getD []).length ≤ 32767) (r : List UInt8) (nn : Bool) : rdNStr ⟨wNStr o ++ r, false, nn⟩ = (o, ⟨r, false, true⟩) := by
  cases o with
  | none =>
    simp only [rdNStr, wNStr, rdFixed_bigE]
    rfl
  | some l =>
    have h' : l.length ≤ 32767 := h
    have e := rd_str l h' r nn
    simp only [rdNStr, wNStr, e]
    simp only [wStr, List.append_assoc, rdFixed_bigE, i16_len h']
    rw [if_neg (by omega)]
theorem rd_cnstr (o : Option (List UInt8)) (h : (o.getD []).length ≤ 32767) (r : List UInt8) (nn : Bool) : rdCNStr ⟨wCNStr o ++ r, false, nn⟩ = (o, ⟨r, false, true⟩) := by
  cases o with
  | none =>
    have e := rdUv_out (n := 0) (by omega) r false nn
    simp only [rdCNStr, wCNStr, e]
    rfl
  | some l =>
    have h' : l.length ≤ 32767 := h
    have e := rd_cstr l h' r nn
    simp only [rdCNStr, wCNStr, e]
    simp only [wCStr, List.append_assoc, u_len (n := l.length) (by omega)]
    rw [rdUv_out (by omega)]
    simp only
    rw [if_neg (by omega)]
theorem rd_bytes (l : List UInt8) (h : l.length ≤ 32767) (r : List UInt8) (nn : Bool) : rdBytes ⟨wBytes l ++ r, false, nn⟩ = (l, ⟨r, false, true⟩) := by
  simp only [rdBytes, wBytes, List.append_assoc, rdFixed_bigE, i32_len (n := l.length) (by omega)]
  rw [if_neg (by omega)]
  exact span_all rfl
theorem rd_cbytes (l : List UInt8) (h : l.length ≤ 32767) (r : List UInt8) (nn : Bool) : rdCBytes ⟨wCBytes l ++ r, false, nn⟩ = (l, ⟨r, false, true⟩) := by
  simp only [rdCBytes, wCBytes, List.append_assoc, u_len (n := l.length) (by omega)]
  rw [rdUv_out (by omega)]
  simp only
  rw [if_neg (by omega)]
  exact span_all (by omega)
theorem rd_nbytes (o : Option (List UInt8)) (h : (o.getD []).length ≤ 32767) (r : List UInt8) (nn : Bool) : rdNBytes ⟨wNBytes o ++ r, false, nn⟩ = (o, ⟨r, false, true⟩) := by
  cases o with
  | none =>
    simp only [rdNBytes, wNBytes, rdFixed_bigE]
    rfl
  | some l =>
    have h' : l.length ≤ 32767 := h
    simp only [rdNBytes, wNBytes, wBytes, List.append_assoc, rdFixed_bigE, i32_len (n := l.length) (by omega)]
    rw [if_neg (by omega), span_all rfl]
    rfl
theorem rd_cnbytes (o : Option (List UInt8)) (h : (o.getD []).length ≤ 32767) (r : List UInt8) (nn : Bool) : rdCNBytes ⟨wCNBytes o ++ r, false, nn⟩ = (o, ⟨r, false, true⟩) := by
  cases o with
  | none =>
    have e := rdUv_out (n := 0) (by omega) r false nn
    simp only [rdCNBytes, wCNBytes, e]
    rfl
  | some l =>
    have h' : l.length ≤ 32767 := h
    simp only [rdCNBytes, wCNBytes, wCBytes, List.append_assoc, u_len (n := l.length) (by omega)]
    rw [rdUv_out (by omega)]
    simp only
    rw [if_neg (by omega), span_all (by omega)]
    rfl

theorem rd_prim (p : Prim) (fl : Bool) (x : p.T) (h : p.wf x) (r : List UInt8) (nn : Bool) : ∃ nn', p.rd fl ⟨p.wr fl x ++ r, false, nn⟩ = (x, ⟨r, false, nn'⟩) := by
  cases p with
  | bool => exact ⟨_, rd_bool x r nn⟩
  | i8 => exact ⟨_, rd_i8 x h r nn⟩
  | i16 => exact ⟨_, rd_i16 x h r nn⟩
  | u16 => exact ⟨_, rd_u16 x h r nn⟩
  | i32 => exact ⟨_, rd_i32 x h r nn⟩
  | i64 => exact ⟨_, rd_i64 x h r nn⟩
  | uuid => exact ⟨_, rd_uuid x h r nn⟩
  | str =>
    cases fl
    · exact ⟨_, rd_str x h r nn⟩
    · exact ⟨_, rd_cstr x h r nn⟩
  | nstr =>
    cases fl
    · exact ⟨_, rd_nstr x h r nn⟩
    · exact ⟨_, rd_cnstr x h r nn⟩
  | bytes =>
    cases fl
    · exact ⟨_, rd_bytes x h r nn⟩
    · exact ⟨_, rd_cbytes x h r nn⟩
  | nbytes =>
    cases fl
    · exact ⟨_, rd_nbytes x h r nn⟩
    · exact ⟨_, rd_cnbytes x h r nn⟩
end Go.Kg

set_option linter.unusedSimpArgs false
set_option linter.unusedVariables false
set_option linter.unusedSectionVars false
namespace Go.Kg
open Go

/-! ## What is written is read: tags, lists, messages -/
theorem insTag_len (x : Nat × List UInt8) : ∀ l : TagL, (insTag x l).length = l.length + 1
  | [] => rfl
  | y :: l => by simp only [insTag]; split <;> simp [insTag_len x l]
theorem sortTags_len : ∀ l : TagL, (sortTags l).length = l.length
  | [] => rfl
  | x :: l => by simp [sortTags, insTag_len, sortTags_len l]
theorem insTag_mem (x : Nat × List UInt8) : ∀ (l : TagL) (y), y ∈ insTag x l ↔ y = x ∨ y ∈ l
  | [], y => by simp [insTag]
  | z :: l, y => by
    simp only [insTag]
    split
    · simp
    · simp only [List.mem_cons, insTag_mem x l]
      constructor
      · rintro (h | h | h) <;> simp [h]
      · rintro (h | h | h) <;> simp [h]
theorem sortTags_mem : ∀ (l : TagL) (y), y ∈ sortTags l ↔ y ∈ l
  | [], y => by simp [sortTags]
  | x :: l, y => by simp [sortTags, insTag_mem, sortTags_mem l]
theorem insTag_nodup (x : Nat × List UInt8) : ∀ l : TagL, (∀ y ∈ l, y.1 ≠ x.1) → (l.map (·.1)).Nodup → ((insTag x l).map (·.1)).Nodup
  | [], _, _ => by simp [insTag]
  | z :: l, h1, h2 => by
    simp only [insTag]
    split
    · simp only [List.map_cons, List.nodup_cons]
      refine ⟨?_, by simpa using h2⟩
      intro hm
      obtain ⟨y, hy, he⟩ := List.mem_map.1 (show x.1 ∈ (z :: l).map (·.1) by simpa using hm)
      exact h1 y hy he
    · simp only [List.map_cons, List.nodup_cons] at h2 ⊢
      refine ⟨?_, insTag_nodup x l (fun y hy => h1 y (List.mem_cons_of_mem _ hy)) h2.2⟩
      intro hm
      obtain ⟨y, hy, he⟩ := List.mem_map.1 hm
      rcases (insTag_mem x l y).1 hy with rfl | hy
      · exact h1 z List.mem_cons_self he.symm
      · exact h2.1 (List.mem_map.2 ⟨y, hy, he⟩)
theorem sortTags_nodup : ∀ l : TagL, (l.map (·.1)).Nodup → ((sortTags l).map (·.1)).Nodup
  | [], _ => by simp [sortTags]
  | x :: l, h => by
    simp only [List.map_cons, List.nodup_cons] at h
    refine insTag_nodup x _ (fun y hy he => h.1 ?_) (sortTags_nodup l h.2)
    exact List.mem_map.2 ⟨y, (sortTags_mem l y).1 hy, he⟩
theorem insTag_sorted (x : Nat × List UInt8) : ∀ l : TagL, l.Pairwise (fun a b => a.1 ≤ b.1) → (insTag x l).Pairwise (fun a b => a.1 ≤ b.1)
  | [], _ => by simp [insTag]
  | z :: l, h => by
    simp only [insTag]
    split
    · rename_i hle
      rw [List.pairwise_cons]
      refine ⟨fun y hy => ?_, h⟩
      rcases List.mem_cons.1 hy with rfl | hy
      · exact hle
      · exact Nat.le_trans hle ((List.pairwise_cons.1 h).1 y hy)
    · rename_i hle
      rw [List.pairwise_cons] at h ⊢
      refine ⟨fun y hy => ?_, insTag_sorted x l h.2⟩
      rcases (insTag_mem x l y).1 hy with rfl | hy
      · omega
      · exact h.1 y hy
theorem sortTags_sorted : ∀ l : TagL, (sortTags l).Pairwise (fun a b => a.1 ≤ b.1)
  | [] => by simp [sortTags]
  | x :: l => insTag_sorted x _ (sortTags_sorted l)
theorem sortTags_of_sorted : ∀ l : TagL, l.Pairwise (fun a b => a.1 ≤ b.1) → sortTags l = l
  | [], _ => rfl
  | x :: l, h => by
    rw [List.pairwise_cons] at h
    rw [sortTags, sortTags_of_sorted l h.2]
    cases l with
    | nil => rfl
    | cons y l => simp only [insTag]; rw [if_pos (h.1 y List.mem_cons_self)]

theorem setTag_new (k : Nat) (v : List UInt8) : ∀ l : TagL, (∀ y ∈ l, y.1 ≠ k) → setTag k v l = l ++ [(k, v)]
  | [], _ => rfl
  | x :: l, h => by
    simp only [setTag]
    rw [if_neg (h x List.mem_cons_self), setTag_new k v l (fun y hy => h y (List.mem_cons_of_mem _ hy))]
    rfl

def tagW (x : Nat × List UInt8) : List UInt8 := uvOut x.1 ++ uvOut (x.2.length % 4294967296) ++ x.2
theorem rd_tag (x : Nat × List UInt8) (h : x.1 < 4294967296 ∧ x.2.length ≤ 32767) (l : TagL) (hl : ∀ y ∈ l, y.1 ≠ x.1) (r : List UInt8) (nn : Bool) : ∃ nn', rdTag l ⟨tagW x ++ r, false, nn⟩ = (l ++ [x], ⟨r, false, nn'⟩) := by
  obtain ⟨k, v⟩ := x
  refine ⟨true, ?_⟩
  have e : v.length % 4294967296 = v.length := Nat.mod_eq_of_lt (by have := h.2; simp only at this; omega)
  simp only [rdTag, tagW, List.append_assoc, e]
  rw [rdUv_out h.1]
  simp only
  rw [rdUv_out (by have := h.2; simp only at this; omega)]
  simp only
  rw [span_all rfl]
  simp only
  rw [setTag_new k v l hl]
theorem rd_tagN : ∀ (l acc : TagL) (r : List UInt8) (nn : Bool), (∀ x ∈ l, x.1 < 4294967296 ∧ x.2.length ≤ 32767) → ((acc ++ l).map (·.1)).Nodup → ∃ nn', rdTagN l.length acc ⟨l.flatMap tagW ++ r, false, nn⟩ = (acc ++ l, ⟨r, false, nn'⟩)
  | [], acc, r, nn, _, _ => ⟨nn, by simp [rdTagN]⟩
  | x :: l, acc, r, nn, h, hn => by
    have hnew : ∀ y ∈ acc, y.1 ≠ x.1 := by
      intro y hy he
      rw [List.map_append, List.nodup_append] at hn
      exact hn.2.2 _ (List.mem_map.2 ⟨y, hy, rfl⟩) _ (List.mem_map.2 ⟨x, List.mem_cons_self, rfl⟩) he
    obtain ⟨n1, e1⟩ := rd_tag x (h x List.mem_cons_self) acc hnew (l.flatMap tagW ++ r) nn
    obtain ⟨n2, e2⟩ := rd_tagN l (acc ++ [x]) r n1 (fun y hy => h y (List.mem_cons_of_mem _ hy)) (by simpa using hn)
    refine ⟨n2, ?_⟩
    simp only [List.flatMap_cons, List.append_assoc, List.length_cons, rdTagN]
    rw [e1]
    simp only
    rw [e2]
    simp
theorem rd_tags (l : TagL) (h : tagsOk l) (r : List UInt8) (nn : Bool) : ∃ nn', rdTags ⟨uvOut (l.length % 4294967296) ++ tagsOut l ++ r, false, nn⟩ = (sortTags l, ⟨r, false, nn'⟩) := by
  obtain ⟨h1, h2, h3⟩ := h
  have e : l.length % 4294967296 = (sortTags l).length := by rw [sortTags_len]; omega
  obtain ⟨n1, e1⟩ := rd_tagN (sortTags l) [] r true (fun x hx => h3 x ((sortTags_mem l x).1 hx)) (by simpa using sortTags_nodup l h2)
  refine ⟨n1, ?_⟩
  simp only [rdTags, e, List.append_assoc]
  rw [rdUv_out (by rw [sortTags_len]; omega)]
  have e2 : tagsOut l = (sortTags l).flatMap tagW := rfl
  rw [e2]
  simpa using e1
theorem tagsOk_sort {l : TagL} (h : tagsOk l) : tagsOk (sortTags l) := ⟨by rw [sortTags_len]; exact h.1, sortTags_nodup l h.2.1, fun x hx => h.2.2 x ((sortTags_mem l x).1 hx)⟩
theorem tagsOut_sort (l : TagL) : tagsOut (sortTags l) = tagsOut l := by simp only [tagsOut, sortTags_of_sorted _ (sortTags_sorted l)]

/-! ### Lists -/
theorem rd_N {α : Type} {f : RS → Option (α × RS)} {g : α → List UInt8} {W T : α → Prop} (hf : ∀ x, W x → ∀ r nn, ∃ y nn', f ⟨g x ++ r, false, nn⟩ = some (y, ⟨r, false, nn'⟩) ∧ g y = g x ∧ T y) :
    ∀ (l : List α) (r : List UInt8) (nn : Bool), (∀ x ∈ l, W x) → ∃ ys nn', rdN f l.length ⟨l.flatMap g ++ r, false, nn⟩ = some (ys, ⟨r, false, nn'⟩) ∧ ys.length = l.length ∧ ys.flatMap g = l.flatMap g ∧ ∀ y ∈ ys, T y
  | [], r, nn, _ => ⟨[], nn, by simp [rdN], rfl, rfl, by simp⟩
  | x :: l, r, nn, h => by
    obtain ⟨y, n1, e1, e2, e3⟩ := hf x (h x List.mem_cons_self) (l.flatMap g ++ r) nn
    obtain ⟨ys, n2, a1, a2, a3, a4⟩ := rd_N hf l r n1 (fun x hx => h x (List.mem_cons_of_mem _ hx))
    refine ⟨y :: ys, n2, ?_, by simp [a2], by simp [e2, a3], ?_⟩
    · simp only [List.flatMap_cons, List.append_assoc, List.length_cons, rdN, e1, a1]
    · intro z hz
      rcases List.mem_cons.1 hz with rfl | hz
      · exact e3
      · exact a4 z hz

def arrWf {α : Type} (nul : Option Nat) (ver : Int) (a : Option (List α)) : Prop := (a.getD []).length ≤ 32767 ∧ ∀ m : Nat, nul = some m → ver < (m : Int) → a ≠ none

theorem flat_len {α : Type} {g : α → List UInt8} : ∀ l : List α, (∀ x ∈ l, 1 ≤ (g x).length) → l.length ≤ (l.flatMap g).length
  | [], _ => by simp
  | x :: l, h => by
    have := h x List.mem_cons_self
    have := flat_len l (fun y hy => h y (List.mem_cons_of_mem _ hy))
    simp only [List.length_cons, List.flatMap_cons, List.length_append]; omega

theorem lenRd_W {nul : Option Nat} {fl nil : Bool} {n : Nat} {r : List UInt8} {nn : Bool} (hn : n ≤ 32767) (hr : n ≤ r.length) : lenRd fl ⟨lenW nul fl n nil ++ r, false, nn⟩ = ((if nul.isSome = true ∧ nil = true then (-1 : Int) else (n : Int)), (⟨r, false, true⟩ : RS)) := by
  have cap : capLen (n : Int) ⟨r, false, true⟩ = ((n : Int), ⟨r, false, true⟩) := by
    simp only [capLen]; rw [if_neg (by omega)]
  have capm : capLen (-1) ⟨r, false, true⟩ = (-1, ⟨r, false, true⟩) := by
    simp only [capLen]; rw [if_neg (by omega)]
  have eL : rdLen ⟨wLen n ++ r, false, nn⟩ = ((n : Int), ⟨r, false, true⟩) := by
    simp only [rdLen, wLen]
    rw [rdFixed_bigE]
    simp only [i32_len (n := n) (by omega)]
    exact cap
  have eC : rdCLen ⟨wCLen n ++ r, false, nn⟩ = ((n : Int), ⟨r, false, true⟩) := by
    simp only [rdCLen, wCLen]
    rw [u_len (by omega), rdUv_out (by omega)]
    have : IntKind.i32.wrap (i32 (n + 1) - 1) = n := by simp [i32, IntKind.wrap, IntKind.signed, IntKind.bits]; omega
    simp only [this]
    exact cap
  cases nul with
  | none => cases fl <;> simp only [lenRd, lenW, Bool.false_eq_true, if_false, if_true, Option.isSome_none, false_and] <;> assumption
  | some m =>
    cases nil
    · cases fl <;> simp only [lenRd, lenW, wNLen, wCNLen, Bool.false_eq_true, if_false, if_true, and_false] <;> assumption
    · cases fl
      · simp only [lenRd, lenW, wNLen, Bool.false_eq_true, if_false, if_true, Option.isSome_some, and_self, rdLen]
        rw [rdFixed_bigE]
        exact capm
      · simp only [lenRd, lenW, wCNLen, if_true, Option.isSome_some, and_self, rdCLen]
        rw [rdUv_out (by omega)]
        exact capm

theorem rd_arr {α : Type} {f : RS → Option (α × RS)} {g : α → List UInt8} {W T : α → Prop} (hf : ∀ x, W x → ∀ r nn, ∃ y nn', f ⟨g x ++ r, false, nn⟩ = some (y, ⟨r, false, nn'⟩) ∧ g y = g x ∧ T y) (hp : ∀ x, W x → 1 ≤ (g x).length)
    {nul : Option Nat} {ver : Int} {fl : Bool} (a : Option (List α)) (ha : arrWf nul ver a) (hW : ∀ x ∈ a.getD [], W x) (r : List UInt8) (nn : Bool) :
    ∃ b nn', arrRd nul ver fl f ⟨lenW nul fl (a.getD []).length a.isNone ++ (a.getD []).flatMap g ++ r, false, nn⟩ = some (b, ⟨r, false, nn'⟩) ∧
      lenW nul fl (b.getD []).length b.isNone ++ (b.getD []).flatMap g = lenW nul fl (a.getD []).length a.isNone ++ (a.getD []).flatMap g ∧ ∀ y ∈ b.getD [], T y := by
  have hfl := flat_len (g := g) (a.getD []) (fun x hx => hp x (hW x hx))
  have e0 := lenRd_W (nul := nul) (fl := fl) (nil := a.isNone) (r := (a.getD []).flatMap g ++ r) (nn := nn) ha.1 (by simp only [List.length_append]; omega)
  rw [List.append_assoc]
  simp only [arrRd, e0]
  by_cases h0 : (a.getD []).length = 0
  · have hnil : a.getD [] = [] := List.length_eq_zero_iff.1 h0
    have hle : ¬ (0 : Int) < (if nul.isSome = true ∧ a.isNone = true then (-1 : Int) else ((a.getD []).length : Int)) := by rw [h0]; split <;> simp
    rw [if_neg (by simp), if_neg hle]
    refine ⟨_, true, by simp only [hnil]; rfl, ?_, ?_⟩
    · cases nul with
      | none => simp [emptyOf, hnil, lenW]
      | some m =>
        cases a with
        | none =>
          have := ha.2 m rfl
          have hv : ¬ ver < (m : Int) := fun h => this h rfl
          simp [emptyOf, hv]
        | some l =>
          have : l = [] := hnil
          subst this
          simp [emptyOf]
    · cases nul with
      | none => simp [emptyOf]
      | some m => intro y hy; exfalso; revert hy; simp only [emptyOf]; split <;> split <;> simp_all
  · have hs : a.isNone = false := by cases a <;> simp_all
    obtain ⟨ys, n1, a1, a2, a3, a4⟩ := rd_N hf (a.getD []) r true hW
    have hpos : (0 : Int) < ((a.getD []).length : Int) := by omega
    simp only [hs, Bool.false_eq_true, and_false, if_false, Int.toNat_natCast, a1]
    rw [if_pos hpos]
    exact ⟨some ys, n1, rfl, by simp [a2, a3], a4⟩

/-! ### Messages -/
def Sch.pos (ver : Int) (fl : Bool) : Sch → Bool
  | .fin => false
  | .tags _ _ => fl
  | .prim g _ _ _ _ _ rest => g.on ver || rest.pos ver fl
  | .arrP g _ _ _ _ _ rest => g.on ver || rest.pos ver fl
  | .arrS g _ _ _ _ _ _ _ _ _ rest => g.on ver || rest.pos ver fl
def Sch.posE (ver : Int) (fl : Bool) : Sch → Bool
  | .fin => true
  | .tags _ _ => true
  | .prim _ _ _ _ _ _ rest => rest.posE ver fl
  | .arrP _ _ _ _ _ _ rest => rest.posE ver fl
  | .arrS g _ _ _ _ _ _ _ _ e rest => (!g.on ver || (e.pos ver fl && e.posE ver fl)) && rest.posE ver fl

def Sch.wf (ver : Int) (fl : Bool) : (S : Sch) → S.T → Prop
  | .fin, _ => True
  | .tags _ _, l => fl = true → tagsOk l
  | .prim g _ _ p _ _ rest, (x, r) => (g.on ver = true → p.wf x) ∧ rest.wf ver fl r
  | .arrP g _ _ _ nul p rest, (a, r) => (g.on ver = true → arrWf nul ver a ∧ ∀ x ∈ a.getD [], p.wf x) ∧ rest.wf ver fl r
  | .arrS g _ _ _ nul _ _ _ _ e rest, (a, r) => (g.on ver = true → arrWf nul ver a ∧ ∀ x ∈ a.getD [], e.wf ver fl x) ∧ rest.wf ver fl r

theorem wStr_pos (x : List UInt8) : 1 ≤ (wStr x).length := by simp [wStr]; omega
theorem wCStr_pos (x : List UInt8) : 1 ≤ (wCStr x).length := by simp only [wCStr, List.length_append, uvOut]; have := @uvE_pos 4 ((List.length x + 1) % 4294967296); omega
theorem wBytes_pos (x : List UInt8) : 1 ≤ (wBytes x).length := by simp [wBytes]; omega
theorem wCBytes_pos (x : List UInt8) : 1 ≤ (wCBytes x).length := by simp only [wCBytes, List.length_append, uvOut]; have := @uvE_pos 4 ((List.length x + 1) % 4294967296); omega
theorem tags_sort (l : TagL) : uvOut ((sortTags l).length % 4294967296) ++ tagsOut (sortTags l) = uvOut (l.length % 4294967296) ++ tagsOut l := by rw [sortTags_len, tagsOut_sort]
theorem prim_pos (p : Prim) (fl : Bool) (x : p.T) (h : p.wf x) : 1 ≤ (p.wr fl x).length := by
  cases p with
  | uuid => have hx : (x : List UInt8).length = 16 := h; simp only [Prim.wr]; rw [show (x : List UInt8).length = 16 from hx]; omega
  | str =>
    cases fl
    · exact wStr_pos x
    · exact wCStr_pos x
  | bytes =>
    cases fl
    · exact wBytes_pos x
    · exact wCBytes_pos x
  | nstr =>
    cases hx : (show Option (List UInt8) from x) with
    | none =>
      have hx' : x = (none : Option (List UInt8)) := hx
      subst hx'
      cases fl <;> simp [Prim.wr, wNStr, wCNStr, uvOut]
      exact uvE_pos
    | some l =>
      have hx' : x = some l := hx
      subst hx'
      cases fl <;> simp [Prim.wr, wNStr, wCNStr, wStr, wCStr, uvOut] <;> first | omega | (have := @uvE_pos 4 ((l.length + 1) % 4294967296); omega)
  | nbytes =>
    cases hx : (show Option (List UInt8) from x) with
    | none =>
      have hx' : x = (none : Option (List UInt8)) := hx
      subst hx'
      cases fl <;> simp [Prim.wr, wNBytes, wCNBytes, uvOut]
      exact uvE_pos
    | some l =>
      have hx' : x = some l := hx
      subst hx'
      cases fl <;> simp [Prim.wr, wNBytes, wCNBytes, wBytes, wCBytes, uvOut] <;> first | omega | (have := @uvE_pos 4 ((l.length + 1) % 4294967296); omega)
  | _ => simp [Prim.wr, num]
theorem lenW_pos (nul : Option Nat) (fl : Bool) (n : Nat) (nil : Bool) : 1 ≤ (lenW nul fl n nil).length := by
  have h1 : 1 ≤ (wLen n).length := by simp [wLen]
  have h2 : 1 ≤ (wCLen n).length := by simp only [wCLen, uvOut]; exact uvE_pos
  have h3 : 1 ≤ (wNLen n nil).length := by simp only [wNLen]; split <;> simp [wLen]
  have h4 : 1 ≤ (wCNLen n nil).length := by simp only [wCNLen]; split; exact uvE_pos; exact h2
  cases nul <;> simp only [lenW] <;> split <;> assumption
theorem sch_pos (ver : Int) (fl : Bool) : ∀ (S : Sch) (x : S.T), S.pos ver fl = true → S.wf ver fl x → 1 ≤ (S.wr ver fl x).length := by
  intro S
  induction S with
  | fin => intro x h; cases h
  | tags k o =>
    intro x h _
    have h' : fl = true := h
    simp only [Sch.wr, if_pos h', List.length_append, uvOut]
    have := @uvE_pos 4 (List.length x % 4294967296)
    omega
  | prim g k o p en d rest ih =>
    rintro ⟨x, r⟩ h ⟨h1, h2⟩
    simp only [Sch.pos, Bool.or_eq_true] at h
    simp only [Sch.wr, List.length_append]
    rcases h with h | h
    · rw [if_pos h]
      have := prim_pos p fl x (h1 h)
      omega
    · have := ih r h h2; omega
  | arrP g k o sT nul p rest ih =>
    rintro ⟨a, r⟩ h ⟨h1, h2⟩
    simp only [Sch.pos, Bool.or_eq_true] at h
    simp only [Sch.wr, List.length_append]
    rcases h with h | h
    · rw [if_pos h, List.length_append]
      have := lenW_pos nul fl (a.getD []).length a.isNone
      omega
    · have := ih r h h2; omega
  | arrS g k o sT nul T PT sz df e rest ihe ih =>
    rintro ⟨a, r⟩ h ⟨h1, h2⟩
    simp only [Sch.pos, Bool.or_eq_true] at h
    simp only [Sch.wr, List.length_append]
    rcases h with h | h
    · rw [if_pos h, List.length_append]
      have := lenW_pos nul fl (a.getD []).length a.isNone
      omega
    · have := ih r h h2; omega

theorem rd_sch (ver : Int) (fl : Bool) : ∀ (S : Sch) (x : S.T), S.posE ver fl = true → S.wf ver fl x → ∀ r nn, ∃ y nn', S.rd ver fl ⟨S.wr ver fl x ++ r, false, nn⟩ = some (y, ⟨r, false, nn'⟩) ∧ S.wr ver fl y = S.wr ver fl x ∧ S.TagsOk tagsOk y := by
  have ok0 : tagsOk [] := ⟨by simp, by simp, by simp⟩
  intro S
  induction S with
  | fin => intro x _ _ r nn; exact ⟨(), nn, rfl, rfl, trivial⟩
  | tags k o =>
    intro x _ h r nn
    cases fl
    · exact ⟨[], nn, rfl, by simp [Sch.wr], ok0⟩
    · obtain ⟨n1, e⟩ := rd_tags x (h rfl) r nn
      refine ⟨sortTags x, n1, ?_, ?_, tagsOk_sort (h rfl)⟩
      · exact congrArg some e
      · exact tags_sort x
  | prim g k o p en d rest ih =>
    rintro ⟨x, xr⟩ hp ⟨h1, h2⟩ r nn
    by_cases hg : g.on ver = true
    · obtain ⟨n1, e1⟩ := rd_prim p fl x (h1 hg) (rest.wr ver fl xr ++ r) nn
      obtain ⟨y, n2, e2, e3, e4⟩ := ih xr hp h2 r n1
      refine ⟨(x, y), n2, ?_, ?_, e4⟩
      · simp only [Sch.rd, Sch.wr, if_pos hg, List.append_assoc, e1, e2]; rfl
      · simp only [Sch.wr, e3]
    · obtain ⟨y, n2, e2, e3, e4⟩ := ih xr hp h2 r nn
      refine ⟨(p.dfl d, y), n2, ?_, ?_, e4⟩
      · simp only [Sch.rd, Sch.wr, if_neg hg, List.nil_append, e2]; rfl
      · simp only [Sch.wr, if_neg hg, e3]
  | arrP g k o sT nul p rest ih =>
    rintro ⟨a, xr⟩ hp ⟨h1, h2⟩ r nn
    by_cases hg : g.on ver = true
    · obtain ⟨ha, hW⟩ := h1 hg
      obtain ⟨b, n1, e1, e1', _⟩ := rd_arr (f := fun rs => some (p.rd fl rs)) (g := p.wr fl) (W := p.wf) (T := fun _ => True) (fun x hx r nn => by
        obtain ⟨n', e⟩ := rd_prim p fl x hx r nn
        exact ⟨x, n', by rw [e], rfl, trivial⟩) (prim_pos p fl) (nul := nul) (ver := ver) (fl := fl) a ha hW (rest.wr ver fl xr ++ r) nn
      obtain ⟨y, n2, e2, e3, e4⟩ := ih xr hp h2 r n1
      refine ⟨(b, y), n2, ?_, ?_, e4⟩
      · rw [List.append_assoc] at e1
        simp only [Sch.rd, Sch.wr, if_pos hg, List.append_assoc, e1, e2]; rfl
      · simp only [Sch.wr, if_pos hg, e3, e1']
    · obtain ⟨y, n2, e2, e3, e4⟩ := ih xr hp h2 r nn
      refine ⟨(none, y), n2, ?_, ?_, e4⟩
      · simp only [Sch.rd, Sch.wr, if_neg hg, List.nil_append, e2]; rfl
      · simp only [Sch.wr, if_neg hg, e3]
  | arrS g k o sT nul T PT sz df e rest ihe ih =>
    rintro ⟨a, xr⟩ hp ⟨h1, h2⟩ r nn
    simp only [Sch.posE, Bool.and_eq_true, Bool.or_eq_true, Bool.not_eq_true'] at hp
    by_cases hg : g.on ver = true
    · obtain ⟨ha, hW⟩ := h1 hg
      have hpe : e.pos ver fl = true ∧ e.posE ver fl = true := by
        rcases hp.1 with h | h
        · rw [h] at hg; cases hg
        · exact h
      obtain ⟨b, n1, e1, e1', eT⟩ := rd_arr (f := e.rd ver fl) (g := e.wr ver fl) (W := e.wf ver fl) (T := e.TagsOk tagsOk) (fun x hx r nn => ihe x hpe.2 hx r nn) (fun x hx => sch_pos ver fl e x hpe.1 hx) (nul := nul) (ver := ver) (fl := fl) a ha hW (rest.wr ver fl xr ++ r) nn
      obtain ⟨y, n2, e2, e3, e4⟩ := ih xr hp.2 h2 r n1
      refine ⟨(b, y), n2, ?_, ?_, ?_, e4⟩
      · rw [List.append_assoc] at e1
        simp only [Sch.rd, Sch.wr, if_pos hg, List.append_assoc, e1, e2]; rfl
      · simp only [Sch.wr, if_pos hg, e3, e1']
      · intro i y hy
        exact eT y (List.mem_of_getElem? hy)
    · obtain ⟨y, n2, e2, e3, e4⟩ := ih xr hp.2 h2 r nn
      refine ⟨(none, y), n2, ?_, ?_, ?_, e4⟩
      · simp only [Sch.rd, Sch.wr, if_neg hg, List.nil_append, e2]; rfl
      · simp only [Sch.wr, if_neg hg, e3]
      · intro i y hy; simp at hy

/-- What is cut is not read. -/
theorem cut_sch (ver : Int) (fl : Bool) (S : Sch) (x : S.T) (hp : S.posE ver fl = true) (hw : S.wf ver fl x) (k : Nat) (hk : k < (S.wr ver fl x).length) (nn : Bool) {y : S.T} {rs : RS} (h : S.rd ver fl ⟨(S.wr ver fl x).take k, false, nn⟩ = some (y, rs)) : rs.bad = true := by
  cases hb : rs.bad
  · obtain ⟨z, n', e1, _⟩ := rd_sch ver fl S x hp hw [] nn
    have e2 := (good_sch ver fl S).ext _ ((S.wr ver fl x).drop k) nn y rs h hb
    rw [List.take_append_drop] at e2
    rw [List.append_nil, e2] at e1
    simp only [Option.some.injEq, Prod.mk.injEq, RS.mk.injEq] at e1
    have h3 := congrArg List.length e1.2.1
    simp at h3
    omega
  · rfl
end Go.Kg

set_option linter.unusedSimpArgs false
set_option linter.unusedVariables false
namespace Go.Kg
open Go

/-! ## The code of readFrom. Slots: 0 the message, 1 the bytes, 2 unsafe, 6 the result, 7 the reader, 8 version, 9 isFlexible (where fx) -/
def Prim.fR (E : Env) : Prim → Bool → Nat
  | .bool, _ => E.f_pkbin_Reader_Bool
  | .i8, _ => E.f_pkbin_Reader_Int8
  | .i16, _ => E.f_pkbin_Reader_Int16
  | .u16, _ => E.f_pkbin_Reader_Uint16
  | .i32, _ => E.f_pkbin_Reader_Int32
  | .i64, _ => E.f_pkbin_Reader_Int64
  | .uuid, _ => E.f_pkbin_Reader_Uuid
  | .str, false => E.f_pkbin_Reader_String
  | .str, true => E.f_pkbin_Reader_CompactString
  | .nstr, false => E.f_pkbin_Reader_NullableString
  | .nstr, true => E.f_pkbin_Reader_CompactNullableString
  | .bytes, false => E.f_pkbin_Reader_Bytes
  | .bytes, true => E.f_pkbin_Reader_CompactBytes
  | .nbytes, false => E.f_pkbin_Reader_NullableBytes
  | .nbytes, true => E.f_pkbin_Reader_CompactNullableBytes

/-- u: the numbers of the readers that are 'unsafe' (String, CompactString, NullableString, CompactNullableString). -/
structure CfgR extends Cfg where
  u : Nat × Nat × Nat × Nat
def Prim.fU (C : CfgR) : Prim → Bool → Nat
  | .str, false => C.u.1
  | .str, true => C.u.2.1
  | .nstr, false => C.u.2.2.1
  | .nstr, true => C.u.2.2.2
  | _, _ => 0

/-- v = b.F() -/
def callR (C : CfgR) (p : Prim) (f l t : Nat) : Ir :=
  .reg (⟨none, some t, .call { callee := .value (.func f), args := #[.tmp 7], argTypes := #[C.E.tRd] }, p.ty C.E⟩ :: putL C.toCfg p (p.ty C.E) l t)
/-- if the slot s {a} else {b} -/
def condI (C : CfgR) (s t : Nat) (a b : Ir) : Ir := .seq (.reg [⟨none, some t, .move (.tmp s), C.E.tB⟩]) (.cond t a b)
def zeroV : Prim → Value
  | .str => .string ⟨#[]⟩
  | .nstr => .pointer none
  | _ => .slice none 0 0
def Prim.nilly : Prim → Bool
  | .nstr => true
  | _ => false
def Prim.uns : Prim → Bool
  | .str | .nstr => true
  | _ => false
/-- reading into the local l; so many temporaries -/
def readI (C : CfgR) (p : Prim) (l t : Nat) : List Ir :=
  match p with
  | .str => .reg [⟨none, some l, .assign (.const (zeroV p)), p.ty C.E⟩] ::
    [if C.fx then condI C 2 t (condI C 9 (t + 1) (callR C p (p.fU C true) l (t + 2)) (callR C p (p.fU C false) l (t + 3))) (condI C 9 (t + 4) (callR C p (p.fR C.E true) l (t + 5)) (callR C p (p.fR C.E false) l (t + 6)))
      else condI C 2 t (callR C p (p.fU C false) l (t + 1)) (callR C p (p.fR C.E false) l (t + 2))]
  | .nstr => .reg [⟨none, some l, .assign (.const (zeroV p)), p.ty C.E⟩] ::
    [if C.fx then condI C 9 t (condI C 2 (t + 1) (callR C p (p.fU C true) l (t + 2)) (callR C p (p.fR C.E true) l (t + 3))) (condI C 2 (t + 4) (callR C p (p.fU C false) l (t + 5)) (callR C p (p.fR C.E false) l (t + 6)))
      else condI C 2 t (callR C p (p.fU C false) l (t + 1)) (callR C p (p.fR C.E false) l (t + 2))]
  | .bytes | .nbytes => if C.fx then .reg [⟨none, some l, .assign (.const (zeroV p)), p.ty C.E⟩] :: [condI C 9 t (callR C p (p.fR C.E true) l (t + 1)) (callR C p (p.fR C.E false) l (t + 2))]
      else [callR C p (p.fR C.E false) l t]
  | _ => [callR C p (p.fR C.E false) l t]
def readN (C : CfgR) (p : Prim) : Nat :=
  match p with
  | .str | .nstr => if C.fx then 7 else 3
  | .bytes | .nbytes => if C.fx then 3 else 1
  | _ => 1

/-- s.F = v -/
def storeR (C : CfgR) (T PT pv k ty l t : Nat) (p : Prim) : List Ro :=
  [⟨none, some t, .move (.tmp pv), PT⟩, getL C.toCfg p l (t + 1), ⟨none, some (t + 2), .nilCheck (.tmp t), C.E.tNil⟩, ⟨none, some (t + 3), .fieldAddr T (.tmp (t + 2)) k, C.E.tNil⟩, ⟨none, none, .store ty (.tmp (t + 3)) (.tmp (t + 1)), C.E.tNil⟩]
/-- the same of a type's own -/
def storeT (C : CfgR) (T PT pv k ty l t : Nat) : List Ro :=
  [⟨none, some t, .move (.tmp pv), PT⟩, ⟨none, some (t + 1), .move (.tmp l), ty⟩, ⟨none, some (t + 2), .nilCheck (.tmp t), C.E.tNil⟩, ⟨none, some (t + 3), .fieldAddr T (.tmp (t + 2)) k, C.E.tNil⟩, ⟨none, none, .store ty (.tmp (t + 3)) (.tmp (t + 1)), C.E.tNil⟩]

def lenIR (C : CfgR) (l t : Nat) : Ir :=
  let c (f t : Nat) : Ir := .reg [⟨none, some t, .call { callee := .value (.func f), args := #[.tmp 7], argTypes := #[C.E.tRd] }, C.E.tI32⟩, ⟨none, some l, .assign (.tmp t), C.E.tI32⟩]
  if C.fx then condI C 9 t (c C.E.f_pkbin_Reader_CompactArrayLen (t + 1)) (c C.E.f_pkbin_Reader_ArrayLen (t + 2)) else c C.E.f_pkbin_Reader_ArrayLen t
def lenIN (C : CfgR) : Nat := if C.fx then 3 else 1
/-- return b.Complete() -/
def completeI (C : CfgR) (t : Nat) : List Ir := [.reg [⟨none, some t, .call { callee := .value (.func C.E.f_pkbin_Reader_Complete), args := #[.tmp 7], argTypes := #[C.E.tRd] }, C.E.tErr⟩, ⟨none, some 6, .assign (.tmp t), C.E.tErr⟩], .ret]
def okI (C : CfgR) (t : Nat) : Ir :=
  .seq (.reg [⟨none, some t, .call { callee := .value (.func C.E.f_pkbin_Reader_Ok), args := #[.tmp 7], argTypes := #[C.E.tRd] }, C.E.tB⟩, ⟨none, some (t + 1), .unOp .not C.E.tB (.tmp t), C.E.tB⟩]) (.cond (t + 1) (seqL (completeI C (t + 2))) .skip)
/-- if version < m || l == 0 {a = []T{}} -/
def nulI (C : CfgR) (m sT l t : Nat) : Ir :=
  .seq (.reg [⟨none, some t, .move (.tmp 8), C.E.tI16⟩, ⟨none, some (t + 1), .binOp .lss C.E.tI16 (.tmp t) (.const (.int .i16 m)) C.E.tI16, C.E.tB⟩, ⟨none, some (t + 2), .move (.tmp (t + 1)), C.E.tB⟩,
      ⟨some (t + 2, false), some (t + 3), .move (.tmp (l + 2)), C.E.tI32⟩, ⟨some (t + 2, false), some (t + 4), .binOp .eql C.E.tI32 (.tmp (t + 3)) (.const (.int .i32 0)) C.E.tI32, C.E.tB⟩, ⟨none, some (t + 5), .pick (.tmp (t + 2)) (.const (.bool true)) (.tmp (t + 4)), C.E.tB⟩])
    (.cond (t + 5) (.reg [⟨none, some (t + 6), .buildSlice sT 0 #[], sT⟩, ⟨none, some (l + 1), .assign (.tmp (t + 6)), sT⟩]) .skip)
def nulN : Option Nat → Nat
  | none => 0
  | some _ => 7

/-- a list's field, up to the loop: l: v, l + 1: a, l + 2: the length; the loop starts at t + headN -/
def headR (C : CfgR) (T PT pv k sT l t : Nat) (nul : Option Nat) : List Ir :=
  let t1 := t + 5 + lenIN C
  let t2 := t1 + nulN nul
  [loadI C.toCfg T PT pv k sT l t .i8, .reg [⟨none, some (t + 4), .move (.tmp l), sT⟩, ⟨none, some (l + 1), .assign (.tmp (t + 4)), sT⟩], .reg [⟨none, some (l + 2), .assign (.const (.int .i32 0)), C.E.tI32⟩], lenIR C (l + 2) (t + 5)] ++
  (match nul with | none => [] | some m => [nulI C m sT l t1]) ++
  [okI C t2, .reg [⟨none, some (t2 + 3), .move (.tmp (l + 1)), sT⟩, ⟨none, some (t2 + 4), .slice sT (.tmp (t2 + 3)) none (some (.const (.int .i64 0))) none, sT⟩, ⟨none, some (l + 1), .assign (.tmp (t2 + 4)), sT⟩],
   .seq (.reg [⟨none, some (t2 + 5), .move (.tmp (l + 2)), C.E.tI32⟩, ⟨none, some (t2 + 6), .binOp .gtr C.E.tI32 (.tmp (t2 + 5)) (.const (.int .i32 0)) C.E.tI32, C.E.tB⟩])
    (.cond (t2 + 6) (.reg [⟨none, some (t2 + 7), .move (.tmp (l + 1)), sT⟩, ⟨none, some (t2 + 8), .move (.tmp (l + 2)), C.E.tI32⟩,
      ⟨none, some (t2 + 9), .call { callee := .builtin .append, args := #[.tmp (t2 + 7), .tmp (t2 + 8)], argTypes := #[sT, C.E.tI32] }, sT⟩, ⟨none, some (l + 1), .assign (.tmp (t2 + 9)), sT⟩]) .skip)]
def headN (C : CfgR) (nul : Option Nat) : Nat := 5 + lenIN C + nulN nul + 10

/-- for i := int32(0); i < l; i++: the body starts at t + 5 -/
def forI (C : CfgR) (l t k : Nat) (body : Ir) : Ir :=
  .seq (.reg [⟨none, some (l + 3), .assign (.const (.int .i32 0)), C.E.tI32⟩])
    (.block k (.loop (.seq (.seq (.reg [⟨none, some t, .move (.tmp (l + 3)), C.E.tI32⟩, ⟨none, some (t + 1), .move (.tmp (l + 2)), C.E.tI32⟩, ⟨none, some (t + 2), .binOp .lss C.E.tI32 (.tmp t) (.tmp (t + 1)) C.E.tI32, C.E.tB⟩]) (.cond (t + 2) .skip (.exit k)))
      (.seq (.block (k + 1) body) (.reg [⟨none, some (t + 3), .move (.tmp (l + 3)), C.E.tI32⟩, ⟨none, some (t + 4), .binOp .add C.E.tI32 (.tmp (t + 3)) (.const (.int .i32 1)) C.E.tI32, C.E.tI32⟩, ⟨none, some (l + 3), .assign (.tmp (t + 4)), C.E.tI32⟩])))))
/-- v = a; s.F = v -/
def tailR (C : CfgR) (T PT pv k sT l t : Nat) : List Ir :=
  [.reg [⟨none, some t, .move (.tmp (l + 1)), sT⟩, ⟨none, some l, .assign (.tmp t), sT⟩], .reg (storeT C T PT pv k sT l (t + 1))]
/-- v := &a[i]; v.Default(); s := v -/
def elemR (C : CfgR) (sT PT' df l t : Nat) : List Ir :=
  [.reg [⟨none, some t, .move (.tmp (l + 1)), sT⟩, ⟨none, some (t + 1), .move (.tmp (l + 3)), C.E.tI32⟩, ⟨none, some (t + 2), .indexAddr sT (.tmp t) (.tmp (t + 1)), C.E.tNil⟩, ⟨none, some (l + 4), .assign (.tmp (t + 2)), PT'⟩],
   .reg [⟨none, some (t + 3), .move (.tmp (l + 4)), PT'⟩, ⟨none, some (t + 4), .call { callee := .value (.func df), args := #[.tmp (t + 3)], argTypes := #[PT'] }, C.E.tNil⟩],
   .reg [⟨none, some (t + 5), .move (.tmp (l + 4)), PT'⟩, ⟨none, some (l + 5), .assign (.tmp (t + 5)), PT'⟩]]
def storeE (C : CfgR) (p : Prim) (sT l t : Nat) : Ir :=
  .reg [⟨none, some t, .move (.tmp (l + 1)), sT⟩, ⟨none, some (t + 1), .move (.tmp (l + 3)), C.E.tI32⟩, getL C.toCfg p (l + 4) (t + 2), ⟨none, some (t + 3), .indexAddr sT (.tmp t) (.tmp (t + 1)), C.E.tNil⟩, ⟨none, none, .store (p.ty C.E) (.tmp (t + 3)) (.tmp (t + 2)), C.E.tNil⟩]

def tagsR (C : CfgR) (T PT pv k t : Nat) : Ir :=
  condI C 9 t (.reg [⟨none, some (t + 1), .move (.tmp pv), PT⟩, ⟨none, some (t + 2), .call { callee := .value (.func C.E.f_kmsg_internalReadTags), args := #[.tmp 7], argTypes := #[C.E.tPRd] }, C.E.t_kmsg_Tags⟩,
    ⟨none, some (t + 3), .nilCheck (.tmp (t + 1)), C.E.tNil⟩, ⟨none, some (t + 4), .fieldAddr T (.tmp (t + 3)) k, C.E.tNil⟩, ⟨none, none, .store C.E.t_kmsg_Tags (.tmp (t + 4)) (.tmp (t + 2)), C.E.tNil⟩]) .skip

def Sch.genR (C : CfgR) (T PT pv : Nat) : Sch → Ct → List Ir × Ct
  | .fin, c => ([], c)
  | .tags k _, c => ([tagsR C T PT pv k c.t], ⟨c.l, c.t + 5, c.k⟩)
  | .prim g k _ p en _ rest, c =>
    let t := c.t + gdN g
    let (b, c') := if en = 0 then (readI C p c.l t ++ [.reg (storeR C T PT pv k (p.ty C.E) c.l (t + readN C p) p)], (⟨c.l + 1, t + readN C p + 4, c.k⟩ : Ct))
      else ([.reg [⟨none, some c.l, .assign (.const (.int .i8 0)), en⟩], seqL [callR C p (p.fR C.E false) (c.l + 1) t, .reg [⟨none, some (t + 1), .move (.tmp (c.l + 1)), p.ty C.E⟩, ⟨none, some c.l, .assign (.tmp (t + 1)), en⟩]],
        .reg [⟨none, some (t + 2), .move (.tmp c.l), en⟩, ⟨none, some (c.l + 2), .assign (.tmp (t + 2)), en⟩], .reg (storeT C T PT pv k en (c.l + 2) (t + 3))], ⟨c.l + 3, t + 7, c.k⟩)
    let (r, c'') := rest.genR C T PT pv c'
    (gdI (toR C) g c.t (seqL b) :: r, c'')
  | .arrP g k _ sT nul p rest, c =>
    let t := c.t + gdN g
    let t1 := t + headN C nul
    let body := seqL (readI C p (c.l + 4) (t1 + 5) ++ [storeE C p sT c.l (t1 + 5 + readN C p)])
    let t2 := t1 + 5 + readN C p + 4
    let (r, c'') := rest.genR C T PT pv ⟨c.l + 5, t2 + 5, c.k + 2⟩
    (gdI (toR C) g c.t (seqL (headR C T PT pv k sT c.l t nul ++ [forI C c.l t1 c.k body] ++ tailR C T PT pv k sT c.l t2)) :: r, c'')
  | .arrS g k _ sT nul T' PT' _ df e rest, c =>
    let t := c.t + gdN g
    let t1 := t + headN C nul
    let (eb, c1) := e.genR C T' PT' (c.l + 5) ⟨c.l + 6, t1 + 11, c.k + 2⟩
    let body := seqL (elemR C sT PT' df c.l (t1 + 5) ++ eb)
    let (r, c'') := rest.genR C T PT pv ⟨c1.l, c1.t + 5, c1.k⟩
    (gdI (toR C) g c.t (seqL (headR C T PT pv k sT c.l t nul ++ [forI C c.l t1 c.k body] ++ tailR C T PT pv k sT c.l c1.t)) :: r, c'')
where toR (C : CfgR) : Cfg := { C.toCfg with sv := 8, sf := 9 }

/-- readFrom. kv: the version is read first; df: the number of Default; nl: how many locals there are -/
def ctR (C : CfgR) (kv : Bool) (nl : Nat) : Ct := ⟨if C.fx then 11 else 10, nl + 9 + (if kv then 4 else 0) + (if C.fx then 4 else 1), 0⟩
def msgR (C : CfgR) (T PT flex df : Nat) (kv : Bool) (S : Sch) (nl : Nat) : Ir :=
  let t := nl + (if kv then 4 else 0)
  let h : List Ir := [.reg [⟨none, some 6, .assign (.const .nilIface), C.E.tErr⟩],
    .reg [⟨none, some nl, .move (.tmp 0), PT⟩, ⟨none, some (nl + 1), .call { callee := .value (.func df), args := #[.tmp nl], argTypes := #[PT] }, C.E.tNil⟩],
    .reg [⟨none, some (nl + 2), .move (.tmp 1), C.E.tBs⟩, ⟨none, some (nl + 3), .build C.E.tRd #[(0, .tmp (nl + 2))], C.E.tRd⟩, ⟨none, some 7, .alloc C.E.tRd, C.E.tNil⟩, ⟨none, none, .store C.E.tRd (.tmp 7) (.tmp (nl + 3)), C.E.tNil⟩]]
  let kvI : List Ir := if kv then [.reg [⟨none, some (nl + 4), .move (.tmp 0), PT⟩, ⟨none, some (nl + 5), .call { callee := .value (.func C.E.f_pkbin_Reader_Int16), args := #[.tmp 7], argTypes := #[C.E.tRd] }, C.E.tI16⟩,
    ⟨none, some (nl + 6), .nilCheck (.tmp (nl + 4)), C.E.tNil⟩, ⟨none, some (nl + 7), .fieldAddr T (.tmp (nl + 6)) 0, C.E.tNil⟩, ⟨none, none, .store C.E.tI16 (.tmp (nl + 7)) (.tmp (nl + 5)), C.E.tNil⟩]] else []
  let v : List Ir := [.reg (addrR C.toCfg T PT 0 0 (t + 4) ++ [⟨none, some (t + 7), .load C.E.tI16 (.tmp (t + 6)), C.E.tI16⟩, ⟨none, some 8, .assign (.tmp (t + 7)), C.E.tI16⟩]),
    .reg [⟨none, some (t + 8), .move (.tmp 8), C.E.tI16⟩]]
  let fl : List Ir := if C.fx then [.reg [⟨none, some (t + 9), .move (.tmp 8), C.E.tI16⟩, ⟨none, some (t + 10), .binOp .geq C.E.tI16 (.tmp (t + 9)) (.const (.int .i16 flex)) C.E.tI16, C.E.tB⟩, ⟨none, some 9, .assign (.tmp (t + 10)), C.E.tB⟩],
    .reg [⟨none, some (t + 11), .move (.tmp 9), C.E.tB⟩]] else []
  let pv := if C.fx then 10 else 9
  let t' := t + (if C.fx then 12 else 9)
  let s : List Ir := [.reg [⟨none, some t', .move (.tmp 0), PT⟩, ⟨none, some pv, .assign (.tmp t'), PT⟩]]
  let (b, c) := S.genR C T PT pv (ctR C kv nl)
  seqL (h ++ kvI ++ v ++ fl ++ s ++ b ++ completeI C c.t)
end Go.Kg

set_option linter.unusedSimpArgs false
set_option linter.unusedVariables false
set_option linter.unusedSectionVars false
namespace Go.Kg
open Go

/-! ## The text of readFrom reads Sch.rd -/
/-- the cells of a struct within a block -/
def segL (c : Array Value) (a n : Nat) : List Value := (c.toList.drop a).take n
theorem segL_get {c : Array Value} {a n j : Nat} (h : j < n) : (segL c a n)[j]? = c[a + j]? := by simp [segL, List.getElem?_take, h, List.getElem?_drop]
theorem segL_none {c : Array Value} {a n j : Nat} (h : n ≤ j) : (segL c a n)[j]? = none := by simp [segL, List.getElem?_take]; omega

structure Rdr where
  pb : Nat
  D : Nat
  base : Nat
  ev : Value
def RK (R : Rdr) (k : Nat) : Prop := k = R.D ∨ R.base ≤ k
def CB (R : Rdr) (b k : Nat) : Prop := k = R.pb ∨ k = b

structure RW (C : CfgR) (R : Rdr) (b : Nat) (w : World) : Prop where
  lt : R.pb < R.base ∧ b < R.base ∧ R.D < R.base ∧ R.base ≤ w.heap.size
  ne : R.pb ≠ R.D ∧ b ≠ R.D ∧ R.pb ≠ b
  err : w.cell? ⟨C.E.g_kbin_ErrNotEnoughData, 0, none⟩ = some R.ev
  errN : C.E.g_kbin_ErrNotEnoughData ≠ R.pb ∧ C.E.g_kbin_ErrNotEnoughData ≠ b

section
variable {P : Program} {C : CfgR} {R : Rdr}
theorem RW.ext {b : Nat} {w w' : World} (h : RW C R b w) (he : Ext (CB R b) w w') : RW C R b w' :=
  ⟨⟨h.lt.1, h.lt.2.1, h.lt.2.2.1, Nat.le_trans h.lt.2.2.2 he.size⟩, h.ne, he.cell h.err (by rintro (h1 | h1); exact h.errN.1 h1; exact h.errN.2 h1), h.errN⟩
theorem RW.keepK {b : Nat} {w : World} (h : RW C R b w) : ∀ k, k < w.heap.size → RK R k → ¬ CB R b k := by
  obtain ⟨⟨h1, h2, h3, h4⟩, ⟨h5, h6, h7⟩, _, _⟩ := h
  rintro k _ (hk | hk) (hc | hc) <;> omega

structure FrR (C : CfgR) (R : Rdr) (f : Nat → Value) (pv b a : Nat) (ver : Int) (fl : Bool) (n : Nat) : Prop where
  ptr : f pv = .pointer (some ⟨b, a, none⟩)
  ptrN : 8 < pv ∧ pv < n
  ver : f 8 = .int .i16 ver
  flg : C.fx = true → f 9 = .bool fl
  flN : C.fx = false → fl = false
  rd : f 7 = .pointer (some ⟨R.pb, 0, none⟩)
  us : f 2 = .bool false
  nN : 10 ≤ n
theorem FrR.keep {f f' : Nat → Value} {pv b a n : Nat} {ver : Int} {fl : Bool} (h : FrR C R f pv b a ver fl n) {t : Nat} (hk : Keeps f f' t) (ht : n ≤ t) : FrR C R f' pv b a ver fl n := by
  have h1 := h.ptrN
  have h2 := h.nN
  exact ⟨(hk _ (by omega) (by omega)).trans h.ptr, h1, (hk _ (by omega) (by omega)).trans h.ver, fun hx => (hk _ (by omega) (by omega)).trans (h.flg hx), h.flN, (hk _ (by omega) (by omega)).trans h.rd, (hk _ (by omega) (by omega)).trans h.us, h2⟩
theorem FrR.up {f : Nat → Value} {pv b a n m : Nat} {ver : Int} {fl : Bool} (h : FrR C R f pv b a ver fl n) (hm : n ≤ m) : FrR C R f pv b a ver fl m :=
  ⟨h.ptr, ⟨h.ptrN.1, by have := h.ptrN; omega⟩, h.ver, h.flg, h.flN, h.rd, h.us, by have := h.nN; omega⟩

structure StR (C : CfgR) (R : Rdr) (b a n : Nat) (w : World) (cc : Array Value) (e : TypeId) (rs : RS) : Prop where
  blk : w.heap[b]? = some (.cells cc e (0, 0))
  fit : a + n ≤ cc.size
  rd : RdAt C.E.tRd w R.pb R.D rs
  rw_ : RW C R b w

/-- only the reader's block has turned (and new ones) -/
theorem StR.ext1 {b a n : Nat} {w w' : World} {cc : Array Value} {e : TypeId} {rs rs' : RS} (h : StR C R b a n w cc e rs) (he : Ext (· = R.pb) w w') (hr : RdAt C.E.tRd w' R.pb R.D rs') : StR C R b a n w' cc e rs' :=
  ⟨he.old h.blk (fun h' => h.rw_.ne.2.2 h'.symm), h.fit, hr, h.rw_.ext (he.mono (fun _ _ h => .inl h))⟩

structure RdTo (C : CfgR) (R : Rdr) (b a n lo : Nat) (w : World) (cc : Array Value) (e : TypeId) (f : Nat → Value) (l m t : Nat) (rs' : RS) (f' : Nat → Value) (w' : World) (cc' : Array Value) : Prop where
  ext : Ext (CB R b) w w'
  st : StR C R b a n w' cc' e rs'
  size : cc'.size = cc.size
  same : ∀ j, (j < a + lo ∨ a + n ≤ j) → cc'[j]? = cc[j]?
  keep : KeepR f f' l m t

theorem RdTo.trans {b a n lo lo' : Nat} {w w1 w2 : World} {cc c1 c2 : Array Value} {e : TypeId} {f f1 f2 : Nat → Value} {l m t l' m' t' : Nat} {r1 r2 : RS} (x : RdTo C R b a n lo w cc e f l m t r1 f1 w1 c1) (y : RdTo C R b a n lo' w1 c1 e f1 l' m' t' r2 f2 w2 c2)
    (hlo : lo ≤ lo') (hl : l ≤ l') (hm : m ≤ m') (ht : t ≤ t') : RdTo C R b a n lo w cc e f l m' t r2 f2 w2 c2 :=
  ⟨x.ext.trans y.ext, y.st, y.size.trans x.size, fun j hj => (y.same j (by omega)).trans (x.same j hj), x.keep.trans y.keep hl hm ht⟩

/-- A field stands in a struct's cells. -/
def FldAt (w : World) (R : Rdr) (cs : List Value) (o : Nat) (p : Prim) (x : p.T) : Prop := ∃ v, seg cs o v.cells.toList ∧ p.rep1 w (RK R) v x

theorem rep1_sz {w : World} {K : Nat → Prop} {p : Prim} {u : Value} {x : p.T} (h : p.rep1 w K u x) : u.cells.size = p.sz := by
  have := rep1_one h
  by_cases hp : p = .uuid
  · subst hp
    simp only [if_true] at this
    obtain ⟨c, rfl, hc, _⟩ := this
    exact hc
  · simp only [if_neg hp] at this
    have h2 : p.sz = 1 := by cases p <;> first | rfl | exact absurd rfl hp
    rw [h2]
    cases u <;> simp_all [Value.oneCell', Value.cells]

theorem FldAt.move {w w' : World} {cs cs' : List Value} {o : Nat} {p : Prim} {x : p.T} (h : FldAt w R cs o p x) {Cx : Nat → Prop} (he : Ext Cx w w') (hK : ∀ k, k < w.heap.size → RK R k → ¬ Cx k) (hc : ∀ j, o ≤ j → j < o + p.sz → cs'[j]? = cs[j]?) : FldAt w' R cs' o p x := by
  obtain ⟨v, h1, h2⟩ := h
  refine ⟨v, fun j u hj => ?_, Prim.rep1_ext he hK h2⟩
  rw [hc (o + j) (by omega)]
  · exact h1 j u hj
  · have := (List.getElem?_eq_some_iff.1 hj).1
    have h3 := rep1_sz h2
    simp at this
    omega

/-! ### Contracts -/
def PrimR (P : Program) (C : CfgR) (p : Prim) : Prop := ∀ fl, (fl = true → C.fx = true) → ∀ w pb D rs, pb ≠ D → D < w.heap.size → RdAt C.E.tRd w pb D rs →
  Ret P (p.fR C.E fl) #[.pointer (some ⟨pb, 0, none⟩)] w fun v w' => p.rep1 w' (fun b => b = D ∨ w.heap.size ≤ b) v (p.rd fl rs).1 ∧ Ext (· = pb) w w' ∧ RdAt C.E.tRd w' pb D (p.rd fl rs).2
def LenRC (P : Program) (C : CfgR) : Prop := ∀ fl, (fl = true → C.fx = true) → ∀ w pb D rs, pb ≠ D → RdAt C.E.tRd w pb D rs →
  Ret P (if fl then C.E.f_pkbin_Reader_CompactArrayLen else C.E.f_pkbin_Reader_ArrayLen) #[.pointer (some ⟨pb, 0, none⟩)] w fun v w' => v = .int .i32 (lenRd fl rs).1 ∧ Ext (· = pb) w w' ∧ RdAt C.E.tRd w' pb D (lenRd fl rs).2
structure EndC (P : Program) (C : CfgR) : Prop where
  ok : ∀ w pb D rs, RdAt C.E.tRd w pb D rs → Ret P C.E.f_pkbin_Reader_Ok #[.pointer (some ⟨pb, 0, none⟩)] w fun v w' => v = .bool !rs.bad ∧ w' = w
  complete : ∀ w pb D rs ev, RdAt C.E.tRd w pb D rs → (rs.bad = true → w.cell? ⟨C.E.g_kbin_ErrNotEnoughData, 0, none⟩ = some ev) → Ret P C.E.f_pkbin_Reader_Complete #[.pointer (some ⟨pb, 0, none⟩)] w fun v w' => v = (if rs.bad then ev else .nilIface) ∧ w' = w
def TagsRC (P : Program) (C : CfgR) : Prop := ∀ w pb D rs, pb ≠ D → D < w.heap.size → RdAt C.E.tRd w pb D rs →
  Ret P C.E.f_kmsg_internalReadTags #[.pointer (some ⟨pb, 0, none⟩)] w fun v w' => (∃ u, v = .agg #[u] ∧ TagsAt w' (fun b => b = D ∨ w.heap.size ≤ b) u (rdTags rs).1) ∧ Ext (· = pb) w w' ∧ RdAt C.E.tRd w' pb D (rdTags rs).2

structure TyR (P : Program) (C : CfgR) : Prop where
  c : TyC P (Sch.genR.toR C)
  uu : isAgg16 (kindOf P C.E.tUu) = true → TyUu P C.E
  kTags : kindOf P C.E.t_kmsg_Tags = .agg 1
  i32 : intKind? P C.E.tI32 = some .i32

/-! ### Pieces -/
variable {Q : Post} {f : Nat → Value} {w : World}

theorem r_call (ht : TyR P C) {p : Prim} (hq : p = .uuid → isAgg16 (kindOf P C.E.tUu) = true) {g l t : Nat} {b a n : Nat} {cc : Array Value} {e : TypeId} {rs : RS} {x : p.T} {rs' : RS} (hs : StR C R b a n w cc e rs) (h7 : f 7 = .pointer (some ⟨R.pb, 0, none⟩)) (hl : l < t) (hl7 : 9 < l)
    (hP : Ret P g #[.pointer (some ⟨R.pb, 0, none⟩)] w fun v w' => p.rep1 w' (fun b => b = R.D ∨ w.heap.size ≤ b) v x ∧ Ext (· = R.pb) w w' ∧ RdAt C.E.tRd w' R.pb R.D rs')
    (h : ∀ f' w' u, LocVal w' f' p l u → p.rep1 w' (RK R) u x → Ext (· = R.pb) w w' → RdAt C.E.tRd w' R.pb R.D rs' → (∀ y, y < t → y ≠ l → f' y = f y) → Q .normal f' w') : (callR C p g l t).wp P Q f w := by
  have e3 : (t = l) = False := by simp; omega
  have keep : ∀ a b, ∀ y, y < t → y ≠ l → upd (upd f t a) l b y = f y := by
    intro a b y hy hy2
    have x4 : (y = t) = False := by simp; omega
    simp [x4, hy2]
  have hK : ∀ k, k = R.D ∨ w.heap.size ≤ k → RK R k := by
    rintro k (h | h)
    · exact .inl h
    · exact .inr (Nat.le_trans hs.rw_.lt.2.2.2 h)
  refine wp_reg ?_
  by_cases hp : p = .uuid
  · subst hp
    have hz : zeroOf P C.E.tUu = some (.agg z16) := (ht.uu (hq rfl)).zUu
    simp [callR, putL, h7]
    refine hP.mono ?_
    rintro v w1 ⟨h1, h2, h3⟩
    have hone := rep1_one h1
    simp only [if_true] at hone
    obtain ⟨c, rfl, hc16, hone⟩ := hone
    simp [hz, Value.cells, e3, store_agg (ht.uu (hq rfl)).kUu, hc16, hone, putK_blk alloc_new, z16_size]
    have hE : Ext none1 w1 ((w1.alloc (.cells z16 C.E.tUu)).setBlk w1.heap.size (.cells (over z16 0 c.toList) C.E.tUu (0, 0))) := ((Ext.refl none1 w1).alloc _).setBlk (.inl (Nat.le_refl _)) _
    refine h _ _ (.agg c) ?_ ?_ (h2.trans (hE.mono (fun _ _ h => h.elim))) (h3.ext hE (fun h => h) (fun h => h)) (keep _ _)
    · simp only [LocVal, if_true]
      refine ⟨w1.heap.size, c, C.E.tUu, (0, 0), by simp, ?_, rfl, hc16⟩
      have hov : over z16 0 c.toList = c := by
        have hd : z16.toList.drop (0 + c.toList.length) = [] := List.drop_eq_nil_of_le (by simp [z16_size, hc16])
        simp only [over, hd]; simp
      rw [hov]
      exact setBlk_same alloc_new
    · exact Prim.rep1_ext hE (fun _ _ _ h => h) (Prim.rep1_mono hK h1)
  · simp [callR, putL, hp, h7]
    refine hP.mono ?_
    rintro v w1 ⟨h1, h2, h3⟩
    exact h _ _ v (by simp [LocVal, hp]) (Prim.rep1_mono hK h1) h2 h3 (by simpa using keep _ _)

theorem r_cond {s t : Nat} {a b : Ir} {v : Bool} (hf : f s = .bool v) (hs : s < t) (ha : v = true → ∀ f', (∀ y, y < t → f' y = f y) → a.wp P Q f' w) (hb : v = false → ∀ f', (∀ y, y < t → f' y = f y) → b.wp P Q f' w) : (condI C s t a b).wp P Q f w := by
  refine wp_seqI (wp_reg ?_)
  simp [hf]
  have k : ∀ y, y < t → upd f t (.bool v) y = f y := fun y hy => by rw [upd_apply, if_neg (by omega)]
  cases v
  · exact .inr ⟨by simp, hb rfl _ k⟩
  · exact .inl ⟨by simp, ha rfl _ k⟩

theorem seqL_one {x : Ir} (h : x.wp P Q f w) : (seqL [x]).wp P Q f w := h

/-- v = b.F() in all its forms -/
theorem r_read (ht : TyR P C) {p : Prim} (hq : p = .uuid → isAgg16 (kindOf P C.E.tUu) = true) {l t : Nat} {b a n pv b2 a2 : Nat} {ver : Int} {fl : Bool} {cc : Array Value} {e : TypeId} {rs : RS} (hP : PrimR P C p) (hs : StR C R b a n w cc e rs) (hf : FrR C R f pv b2 a2 ver fl l) (hl : l < t)
    (hA : ∀ f' w' u, LocVal w' f' p l u → p.rep1 w' (RK R) u (p.rd fl rs).1 → Ext (· = R.pb) w w' → RdAt C.E.tRd w' R.pb R.D (p.rd fl rs).2 → (∀ y, y < t → y ≠ l → f' y = f y) → Q .normal f' w') : (seqL (readI C p l t)).wp P Q f w := by
  have hn := hf.nN
  have hD : R.D < w.heap.size := Nat.lt_of_lt_of_le hs.rw_.lt.2.2.1 hs.rw_.lt.2.2.2
  have main : ∀ (f1 : Nat → Value) (t1 : Nat) (fl' : Bool), (fl' = true → C.fx = true) → p.rd fl' rs = p.rd fl rs → t ≤ t1 → (∀ y, y < t → y ≠ l → f1 y = f y) → (callR C p (p.fR C.E fl') l t1).wp P Q f1 w := by
    intro f1 t1 fl' hx hrd ht1 hk
    have hc := hP fl' hx w R.pb R.D rs hs.rw_.ne.1 hD hs.rd
    rw [hrd] at hc
    refine r_call ht hq hs ((hk 7 (by omega) (by omega)).trans hf.rd) (by omega) (by omega) hc ?_
    intro f' w' u h1 h2 h3 h4 h5
    exact hA f' w' u h1 h2 h3 h4 (fun y hy hyl => (h5 y (by omega) hyl).trans (hk y hy hyl))
  have k1 : ∀ (v : Value) (f1 : Nat → Value) (t1 : Nat), t ≤ t1 → (∀ y, y < t1 → f1 y = upd f l v y) → ∀ y, y < t → y ≠ l → f1 y = f y := fun v f1 t1 h1 h y hy hyl => by rw [h y (by omega), upd_apply, if_neg hyl]
  have plain : ∀ fl', p.uns = false → (p ≠ .bytes ∧ p ≠ .nbytes) → p.rd fl' rs = p.rd fl rs := by intro fl' h1 h2; cases p <;> first | rfl | exact absurd rfl h2.1 | exact absurd rfl h2.2 | cases h1
  -- one form for texts of both flags
  have two : ∀ (v : Value), p.uns = false → (if C.fx then Ir.reg [⟨none, some l, .assign (.const v), p.ty C.E⟩] :: [condI C 9 t (callR C p (p.fR C.E true) l (t + 1)) (callR C p (p.fR C.E false) l (t + 2))] else [callR C p (p.fR C.E false) l t]) = readI C p l t → (seqL (readI C p l t)).wp P Q f w := by
    intro v _ hr
    rw [← hr]
    by_cases hx : C.fx = true
    · rw [if_pos hx]
      refine seqL_cons (wp_reg ?_)
      simp
      show (condI C 9 t _ _).wp P _ _ w
      refine r_cond (v := fl) (by rw [upd_apply, if_neg (by omega)]; exact hf.flg hx) (by omega) ?_ ?_
      · rintro rfl f1 h1
        exact main f1 (t + 1) true (fun _ => hx) rfl (by omega) (k1 v f1 t (Nat.le_refl _) h1)
      · rintro rfl f1 h1
        exact main f1 (t + 2) false (by simp) rfl (by omega) (k1 v f1 t (Nat.le_refl _) h1)
    · have hx' : C.fx = false := by simpa using hx
      rw [if_neg hx]
      have := hf.flN hx'
      subst this
      exact main f t false (by simp) rfl (Nat.le_refl _) (fun _ _ _ => rfl)
  cases p with
  | str =>
    simp only [readI]
    refine seqL_cons (wp_reg ?_)
    simp
    show (if C.fx = true then _ else _ : Ir).wp P _ _ w
    have us : upd f l (zeroV .str) 2 = .bool false := by rw [upd_apply, if_neg (by omega)]; exact hf.us
    by_cases hx : C.fx = true
    · rw [if_pos hx]
      refine r_cond (v := false) us (by omega) (by simp) ?_
      rintro _ f1 h1
      refine r_cond (v := fl) (by rw [h1 9 (by omega), upd_apply, if_neg (by omega)]; exact hf.flg hx) (by omega) ?_ ?_
      · rintro rfl f2 h2
        exact main f2 (t + 5) true (fun _ => hx) rfl (by omega) (fun y hy hyl => (h2 y (by omega)).trans (k1 _ f1 t (Nat.le_refl _) h1 y hy hyl))
      · rintro rfl f2 h2
        exact main f2 (t + 6) false (by simp) rfl (by omega) (fun y hy hyl => (h2 y (by omega)).trans (k1 _ f1 t (Nat.le_refl _) h1 y hy hyl))
    · have hx' : C.fx = false := by simpa using hx
      rw [if_neg hx]
      have := hf.flN hx'
      subst this
      refine r_cond (v := false) us (by omega) (by simp) ?_
      rintro _ f1 h1
      exact main f1 (t + 2) false (by simp) rfl (by omega) (k1 _ f1 t (Nat.le_refl _) h1)
  | nstr =>
    simp only [readI]
    refine seqL_cons (wp_reg ?_)
    simp
    show (if C.fx = true then _ else _ : Ir).wp P _ _ w
    have us : upd f l (zeroV .nstr) 2 = .bool false := by rw [upd_apply, if_neg (by omega)]; exact hf.us
    by_cases hx : C.fx = true
    · rw [if_pos hx]
      refine r_cond (v := fl) (by rw [upd_apply, if_neg (by omega)]; exact hf.flg hx) (by omega) ?_ ?_
      · rintro rfl f1 h1
        refine r_cond (v := false) (by rw [h1 2 (by omega)]; exact us) (by omega) (by simp) ?_
        rintro _ f2 h2
        exact main f2 (t + 3) true (fun _ => hx) rfl (by omega) (fun y hy hyl => (h2 y (by omega)).trans (k1 _ f1 t (Nat.le_refl _) h1 y hy hyl))
      · rintro rfl f1 h1
        refine r_cond (v := false) (by rw [h1 2 (by omega)]; exact us) (by omega) (by simp) ?_
        rintro _ f2 h2
        exact main f2 (t + 6) false (by simp) rfl (by omega) (fun y hy hyl => (h2 y (by omega)).trans (k1 _ f1 t (Nat.le_refl _) h1 y hy hyl))
    · have hx' : C.fx = false := by simpa using hx
      rw [if_neg hx]
      have := hf.flN hx'
      subst this
      refine r_cond (v := false) us (by omega) (by simp) ?_
      rintro _ f1 h1
      exact main f1 (t + 2) false (by simp) rfl (by omega) (k1 _ f1 t (Nat.le_refl _) h1)
  | bytes => exact two (zeroV .bytes) rfl rfl
  | nbytes => exact two (zeroV .nbytes) rfl rfl
  | _ => exact main f t false (by simp) (plain false rfl (by simp)) (Nat.le_refl _) (fun _ _ _ => rfl)

/-! ### Stores -/
theorem over_get {c : Array Value} {o : Nat} {vs : List Value} (h : o + vs.length ≤ c.size) (j : Nat) : (over c o vs)[j]? = if j < o then c[j]? else if j < o + vs.length then vs[j - o]? else c[j]? := by
  have hl : (c.toList.take o).length = o := by simp; omega
  simp only [over, List.getElem?_toArray, List.append_assoc]
  by_cases h1 : j < o
  · rw [if_pos h1, List.getElem?_append_left (by omega), List.getElem?_take, if_pos h1]; simp
  · rw [if_neg h1, List.getElem?_append_right (by omega), hl]
    by_cases h2 : j < o + vs.length
    · rw [if_pos h2, List.getElem?_append_left (by omega)]
    · rw [if_neg h2, List.getElem?_append_right (by omega), List.getElem?_drop, show o + vs.length + (j - o - vs.length) = j by omega]; simp
theorem over_size {c : Array Value} {o : Nat} {vs : List Value} (h : o + vs.length ≤ c.size) : (over c o vs).size = c.size := by simp [over]; omega

/-- what a store leaves: u's cells stand at o -/
structure Put (cc : Array Value) (o : Nat) (u : Value) (cc' : Array Value) : Prop where
  size : cc'.size = cc.size
  same : ∀ j, (j < o ∨ o + u.cells.size ≤ j) → cc'[j]? = cc[j]?
  new : ∀ j v, u.cells.toList[j]? = some v → cc'[o + j]? = some v
theorem put_one {cc : Array Value} {o : Nat} {u : Value} (h1 : u.oneCell' = true) (ho : o < cc.size) : Put cc o u (cc.setIfInBounds o u) := by
  have huc : u.cells = #[u] := by cases u <;> simp_all [Value.oneCell', Value.cells]
  refine ⟨by simp, fun j hj => ?_, fun j v hj => ?_⟩
  · rw [huc] at hj
    simp at hj
    rw [Array.getElem?_setIfInBounds, if_neg (by omega)]
  · rw [huc] at hj
    cases j with
    | zero => simp at hj; subst hj; simp [Array.getElem?_setIfInBounds, ho]
    | succ j => simp at hj
theorem put_over {cc : Array Value} {o : Nat} {c : Array Value} (ho : o + c.size ≤ cc.size) : Put cc o (.agg c) (over cc o c.toList) := by
  have ho' : o + c.toList.length ≤ cc.size := by simpa using ho
  refine ⟨over_size ho', fun j hj => ?_, fun j v hj => ?_⟩
  · rw [over_get ho']
    simp [Value.cells] at hj
    split
    · rfl
    · rw [if_neg (by simp; omega)]
  · have hj' : j < c.size := by have := (List.getElem?_eq_some_iff.1 hj).1; simpa [Value.cells] using this
    rw [over_get ho', if_neg (by omega), if_pos (by simp; omega), show o + j - o = j by omega]
    exact hj

/-- s.F = v -/
theorem r_store (ht : TyR P C) {T PT pv k o l t b a : Nat} {p : Prim} {u : Value} {cc : Array Value} {e : TypeId} (hpv : f pv = .pointer (some ⟨b, a, none⟩)) (hF : fldOff P T k = some o) (hk : p.kOk P (p.ty C.E) = true) (hlv : LocVal w f p l u)
    (hu : if p = .uuid then ∃ c : Array Value, u = .agg c ∧ c.size = 16 ∧ allOne c.toList = true else u.oneCell' = true) (hpt : pv < t) (hl : l < t) (hb : w.heap[b]? = some (.cells cc e (0, 0))) (ho : a + o + u.cells.size ≤ cc.size)
    (h : ∀ f' cc', Put cc (a + o) u cc' → (∀ y, y < t → f' y = f y) → Q .normal f' (w.setBlk b (.cells cc' e (0, 0)))) : (Ir.reg (storeR C T PT pv k (p.ty C.E) l t p)).wp P Q f w := by
  have e3 : ∀ n, (l = t + n) = False := by intro n; simp; omega
  have e4 : (l = t) = False := by simp; omega
  have keep : ∀ a b c d, ∀ y, y < t → upd (upd (upd (upd f t a) (t + 1) b) (t + 2) c) (t + 3) d y = f y := by
    intro a b c d y hy
    have x3 : ∀ n, (y = t + n) = False := by intro n; simp; omega
    have x4 : (y = t) = False := by simp; omega
    simp [x3, x4]
  refine wp_reg ?_
  by_cases hp : p = .uuid
  · subst hp
    simp only [if_true] at hu
    obtain ⟨c, rfl, hc16, hone⟩ := hu
    simp only [LocVal, if_true] at hlv
    obtain ⟨b', cs', e', fz', hf, hbk, hcs, h16⟩ := hlv
    cases hcs
    have hk' : kindOf P C.E.tUu = .agg 16 := (ht.uu (kOk_uu hk rfl)).kUu
    have lB := cellsFrom_row hbk
    rw [h16] at lB
    have ho' : a + o + 16 ≤ cc.size := by simpa [Value.cells, hc16] using ho
    simp [storeR, getL, hpv, hf, e3, e4, hF, Addr.add_mk, ld_agg hk', lB, Prim.ty, store_agg hk', hc16, hone, putK_blk hb]
    exact ⟨by omega, h _ _ (put_over (by omega)) (keep _ _ _ _)⟩
  · simp only [if_neg hp] at hu
    simp only [LocVal, if_neg hp] at hlv
    have hk' : kindOf P (p.ty C.E) = .scl := by simp only [Prim.kOk, if_neg hp] at hk; exact isScl_spec hk
    have huc : u.cells = #[u] := by cases u <;> simp_all [Value.oneCell', Value.cells]
    have ho' : a + o + 1 ≤ cc.size := by simpa [huc] using ho
    simp [storeR, getL, hp, hpv, hlv, e3, e4, hF, Addr.add_mk, store_scl hk', hu, put1K_blk hb]
    exact ⟨by omega, h _ _ (put_one hu (by omega)) (keep _ _ _ _)⟩

/-- the same of a type's own, one cell -/
theorem r_storeT {T PT pv k o l t b a ty : Nat} {u : Value} {cc : Array Value} {e : TypeId} (hpv : f pv = .pointer (some ⟨b, a, none⟩)) (hF : fldOff P T k = some o) (hk : isScl (kindOf P ty) = true) (hlv : f l = u) (hu : u.oneCell' = true)
    (hpt : pv < t) (hl : l < t) (hb : w.heap[b]? = some (.cells cc e (0, 0))) (ho : a + o + 1 ≤ cc.size)
    (h : ∀ f' cc', Put cc (a + o) u cc' → (∀ y, y < t → f' y = f y) → Q .normal f' (w.setBlk b (.cells cc' e (0, 0)))) : (Ir.reg (storeT C T PT pv k ty l t)).wp P Q f w := by
  have e3 : ∀ n, (l = t + n) = False := by intro n; simp; omega
  have e4 : (l = t) = False := by simp; omega
  refine wp_reg ?_
  simp [storeT, hpv, hlv, e3, e4, hF, Addr.add_mk, store_scl (isScl_spec hk), hu, put1K_blk hb]
  refine ⟨by omega, h _ _ (put_one hu (by omega)) ?_⟩
  intro y hy
  have x3 : ∀ n, (y = t + n) = False := by intro n; simp; omega
  have x4 : (y = t) = False := by simp; omega
  simp [x3, x4]

/-- a field was put -/
theorem RdTo.put {b a n lo o : Nat} {cc cc' : Array Value} {e : TypeId} {f' : Nat → Value} {l m t : Nat} {rs : RS} {u : Value} (hs : StR C R b a n w cc e rs) (hp : Put cc (a + o) u cc') (hlo : lo ≤ o) (hn : o + u.cells.size ≤ n) (hk : KeepR f f' l m t) :
    RdTo C R b a n lo w cc e f l m t rs f' (w.setBlk b (.cells cc' e (0, 0))) cc' := by
  have hE : Ext (· = b) w (w.setBlk b (.cells cc' e (0, 0))) := (Ext.refl (fun k => k = b) w).setBlk (b := b) (Or.inr rfl) _
  have hE' : Ext (CB R b) w (w.setBlk b (.cells cc' e (0, 0))) := hE.mono (fun _ _ h => .inr h)
  exact ⟨hE', ⟨setBlk_same hs.blk, by rw [hp.size]; exact hs.fit, hs.rd.ext hE (fun h => hs.rw_.ne.2.2 h) (fun h => hs.rw_.ne.2.1 h.symm), hs.rw_.ext hE'⟩, hp.size, fun j hj => hp.same j (by omega), hk⟩
theorem FldAt.put {b a n o : Nat} {cc cc' : Array Value} {e : TypeId} {rs : RS} {p : Prim} {u : Value} {x : p.T} (hs : StR C R b a n w cc e rs) (hp : Put cc (a + o) u cc') (hn : o + u.cells.size ≤ n) (hr : p.rep1 w (RK R) u x) : FldAt (w.setBlk b (.cells cc' e (0, 0))) R (segL cc' a n) o p x := by
  have hE : Ext (· = b) w (w.setBlk b (.cells cc' e (0, 0))) := (Ext.refl (fun k => k = b) w).setBlk (b := b) (Or.inr rfl) _
  refine ⟨u, fun j v hj => ?_, Prim.rep1_ext hE (fun k hk1 hk2 hk3 => hs.rw_.keepK k hk1 hk2 (.inr hk3)) hr⟩
  have hj' : j < u.cells.size := by have := (List.getElem?_eq_some_iff.1 hj).1; simpa using this
  rw [segL_get (by omega), ← Nat.add_assoc]
  exact hp.new j v hj
end
end Go.Kg
