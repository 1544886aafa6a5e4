/- What is proved here: how the code of the messages runs, in general: a semantics of calls by their texts, and contracts of the functions of kbin and of the reference. No condition but those that each theorem names. -/
import Derived.ChangeKeysEq
import Derived.Test.YtebdoebjmipldaaGreatDoorKb
set_option linter.unusedSectionVars false
set_option linter.unusedSimpArgs false
set_option linter.unusedVariables false
set_option linter.unusedSimpArgs false
set_option linter.unusedVariables false
namespace Go.Kg
open Go
/-- the fields' heads -/
def FS.heads : FS → List FH
  | .nil => []
  | .cons h _ r => h :: r.heads
def FS.subs : FS → List FS
  | .nil => []
  | .cons _ s r => s :: r.subs
theorem FS.heads_len : ∀ F : FS, F.heads.length = F.len
  | .nil => rfl
  | .cons h s r => by simp [FS.heads, FS.len, FS.heads_len r]
theorem FsCells.get {w : World} : ∀ {F : FS} {ls : List (List Value)} {i : Nat} {c : List Value}, FsCells w ls F → ls[i]? = some c → ∃ h sub sv l, F.heads[i]? = some h ∧ F.subs[i]? = some sub ∧ c = h.cells ++ [sv] ∧ ArrAt w All 8 sv l ∧ FsCells w (l.getD []) sub := by
  intro F
  induction F with
  | nil => intro ls i c hh hc; cases ls with
    | nil => simp at hc
    | cons c cs => exact hh.elim
  | cons h sub rest ihs ihr =>
    intro ls i c hh hc
    cases ls with
    | nil => exact hh.elim
    | cons d cs =>
      obtain ⟨⟨sv, l, h1, h2, h3⟩, h4⟩ := hh
      cases i with
      | zero => simp at hc; subst hc; exact ⟨h, sub, sv, l, rfl, rfl, h1, h2, h3⟩
      | succ i => exact ihr h4 (by simpa using hc)
/-- a number fits 64 bits -/
def fits (n : Int) : Prop := -9223372036854775808 ≤ n ∧ n < 9223372036854775808
def FH.ok (h : FH) : Prop := -1 ≤ h.tag ∧ h.tag < 1000
/-- The known tags, from the left. -/
def knownL (l : List FH) : Nat := l.foldl (fun n h => if 0 ≤ h.tag then max n (h.tag.toNat + 1) else n) 0
def KnInv (E : Env) (fv : Value) (l : List FH) (w : World) (f : Nat → Value) (w' : World) : Prop :=
  ∃ i, i ≤ l.length ∧ f 8 = .int .i64 i ∧ f 7 = .int .i64 l.length ∧ f 6 = fv ∧ f 3 = .int .u32 (knownL (l.take i)) ∧ Ext none1 w w'
theorem knownL_lt (l : List FH) (hl : ∀ h ∈ l, FH.ok h) : knownL l ≤ 1000 := by
  have : ∀ (l : List FH) (n : Nat), n ≤ 1000 → (∀ h ∈ l, FH.ok h) → l.foldl (fun n h => if 0 ≤ h.tag then max n (h.tag.toNat + 1) else n) n ≤ 1000 := by
    intro l
    induction l with
    | nil => intro n hn _; simpa using hn
    | cons a l ih =>
      intro n hn hl
      rw [List.foldl_cons]
      refine ih _ ?_ (fun h hh => hl h (List.mem_cons_of_mem _ hh))
      have := hl a List.mem_cons_self
      unfold FH.ok at this
      split <;> omega
  exact this l 0 (by omega) hl
theorem cellsFrom_list0 {w : World} {b o : Nat} {cs : List Value} (h : CellsAt w b o cs) : cellsFrom w ⟨b, o, none⟩ 0 cs.length = some cs := by
  have := cellsFrom_list (w := w) cs b o 0 (fun j v hj => by have := h j v hj; rwa [Nat.zero_add])
  exact this
@[simp] theorem FH.cells_len7 (h : FH) : h.cells.length = 7 := rfl
theorem FH.cells_len (h : FH) (sv : Value) : (h.cells ++ [sv]).length = 8 := by simp [FH.cells]
theorem FH.cells_one (h : FH) {sv : Value} (hs : sv.oneCell' = true) : allOne (h.cells ++ [sv]) = true := by
  simp only [FH.cells, List.cons_append, List.nil_append, allOne, hs, Bool.and_true]
  rfl
def zField : Array Value := #[.int .i64 0, .int .i64 0, .int .i64 0, .int .i64 0, .int .i64 0, .int .i64 0, .int .i64 0, .slice none 0 0]
theorem over_z8 {x : List Value} (hx : x.length = 8) : over zField 0 x = x.toArray := by simp [over, hx, zField]
section
variable {P : Program} {E : Env} (ht : TyF P E)
include ht
theorem c_known (hI : FnIs P E.f_spec_known nt_spec_known (rs_spec_known E) (ir_spec_known E)) (w : World) (fv : Value) (F : FS) (hF : FsAt w fv F) (hok : ∀ h ∈ F.heads, FH.ok h) :
    Ret P E.f_spec_known #[fv] w fun r w' => r = .int .u32 (knownL F.heads) ∧ Ext none1 w w' := by
  obtain ⟨ls, ha, hc⟩ := hF
  obtain ⟨a, c, rfl, hnone, hmax⟩ := ha.form
  have hlen : (ls.getD []).length = F.heads.length := by rw [hc.len, FS.heads_len]
  refine hI.call (args := [_]) (by simp [nt_spec_known]) ?_
  obtain ⟨Et, jt, hut, _, _⟩ := sliSz_spec ht.sF
  simp [ir_spec_known, rs_spec_known, len_slice hut]
  refine cw_loop (KnInv E (.slice a (ls.getD []).length c) F.heads w) (fun f _ => match f 8 with | .int _ i => ((F.heads.length : Int) - i).toNat | _ => 0) ?_ ?_
  · exact ⟨0, by omega, by simp, by simp [hlen], by simp, by simp [knownL], Ext.refl _ _⟩
  · rintro f w' ⟨i, hi, h8, h7, h6, h3, he⟩
    simp [h8, h7]
    by_cases hlt : i < F.heads.length
    · refine cw_true (by simp; omega) ?_
      cases ls with
      | none => simp at hlen; omega
      | some ls =>
        obtain ⟨bb, oo, cc, hv', _, _, hx⟩ := ha
        cases hv'
        simp only [Option.getD_some] at hlen hc hmax
        obtain ⟨x, hxx⟩ : ∃ x, ls[i]? = some x := ⟨_, List.getElem?_eq_getElem (by omega)⟩
        obtain ⟨h, sub, sv, l, hh, hsub, rfl, hsv, hsc⟩ := hc.get hxx
        have hcx := (hx i _ hxx).2.ext (K := All) he (fun _ _ _ h => h) trivial
        have hcf := cellsFrom_list0 hcx
        rw [FH.cells_len] at hcf
        obtain ⟨sa, sc, rfl, _⟩ := hsv.form
        have hi' : i < ls.length := by omega
        have hz : zeroOf P E.t_spec_Field = some (.agg zField) := ht.zF
        have hzz : zField.size = 8 := rfl
        have hzc : (Value.agg zField).cells = zField := rfl
        have hone := FH.cells_one h (sv := Value.slice sa (l.getD []).length sc) rfl
        simp [h8, h7, h6, h3, idx?, ht.sF, hi', Addr.add_mk, ld_agg ht.kF, hcf, hz, hzc, store_agg ht.kF, hone, putK_blk alloc_new, hzz]
        have hcl := FH.cells_len h (.slice sa (l.getD []).length sc)
        rw [over_z8 hcl]
        generalize hw2 : (w'.alloc (.cells zField E.t_spec_Field)).setBlk w'.heap.size (.cells (h.cells ++ [Value.slice sa (l.getD []).length sc]).toArray E.t_spec_Field (0, 0)) = w2
        have hb2 : w2.heap[w'.heap.size]? = some (.cells (h.cells ++ [Value.slice sa (l.getD []).length sc]).toArray E.t_spec_Field (0, 0)) := by subst hw2; exact setBlk_same alloc_new
        have he2 : Ext none1 w w2 := by subst hw2; exact (he.alloc _).setBlk (.inl he.size) _
        have c4 : w2.cell? ⟨w'.heap.size, 4, none⟩ = some (.int .i64 h.tag) := by rw [cell_of_blk hb2]; rfl
        have hhk := hok h (List.mem_of_getElem? hh)
        unfold FH.ok at hhk
        have hkl := knownL_lt (F.heads.take i) (fun h hh => hok h (List.mem_of_mem_take hh))
        have hks : knownL (F.heads.take (i + 1)) = (if 0 ≤ h.tag then max (knownL (F.heads.take i)) (h.tag.toNat + 1) else knownL (F.heads.take i)) := by
          unfold knownL
          rw [List.take_add_one, hh]
          simp
        have ei : IntKind.i64.wrap ((i : Int) + 1) = ((i + 1 : Nat) : Int) := by rw [i64_small (by omega) (by omega)]; rfl
        simp [ht.f4, Addr.add_mk, ld_scl ht.kInt, c4]
        by_cases htag : 0 ≤ h.tag
        · refine cw_true (by simp [htag]) ?_
          have e1 : IntKind.u32.wrap h.tag = h.tag := by simp [IntKind.wrap, IntKind.signed, IntKind.bits]; omega
          have e2 : IntKind.u32.wrap (h.tag + 1) = h.tag + 1 := by simp [IntKind.wrap, IntKind.signed, IntKind.bits]; omega
          simp [ht.f4, Addr.add_mk, ld_scl ht.kInt, c4, ht.iInt, ht.iU32, e1, e2, h3]
          rw [st_max (k := .u32) (a := knownL (F.heads.take i)) (b := h.tag + 1) (by simp [h3]) (by simp)]
          have e3 : (if (h.tag + 1 : Int) > (knownL (F.heads.take i) : Int) then h.tag + 1 else (knownL (F.heads.take i) : Int)) = (knownL (F.heads.take (i + 1)) : Int) := by
            rw [hks, if_pos htag]; split <;> omega
          simp [h8, h7, h6, ei, e3]
          exact ⟨⟨i + 1, by omega, by simp, by simp [h7], by simp [h6], by simp, he2⟩, by omega⟩
        · refine cw_false (by simp [htag]) ?_
          simp [h8, h7, h6, ei]
          refine ⟨⟨i + 1, by omega, by simp, by simp [h7], by simp [h6], ?_, he2⟩, by omega⟩
          rw [hks, if_neg htag]; simp [h3]
    · refine cw_false (by simp; omega) ?_
      have : i = F.heads.length := by omega
      subst this
      simp [h3, he]
end
end Go.Kg

set_option linter.unusedSimpArgs false
set_option linter.unusedVariables false
namespace Go.Kg
open Go
def SmInv (va vb : Value) (s t : List UInt8) (w : World) (f : Nat → Value) (w' : World) : Prop :=
  ∃ i, i ≤ s.length ∧ s.take i = t.take i ∧ f 13 = .int .i64 i ∧ f 12 = .int .i64 s.length ∧ f 0 = va ∧ f 1 = vb ∧ Ext none1 w w'
theorem take_eq_succ {s t : List UInt8} {i : Nat} {x : UInt8} (h : s.take i = t.take i) (hs : s[i]? = some x) (ht : t[i]? = some x) : s.take (i + 1) = t.take (i + 1) := by
  rw [List.take_add_one, List.take_add_one, h, hs, ht]
theorem c_Same {P : Program} {E : Env} (ht : TyF P E) (hI : FnIs P E.f_spec_Same nt_spec_Same (rs_spec_Same E) (ir_spec_Same E)) (w : World) (K K' : Nat → Prop) (va vb : Value) (s t : List UInt8) (hs : BytesAt w K va s) (hb : BytesAt w K' vb t) (hls : s.length ≤ 1099511627776) :
    Ret P E.f_spec_Same #[va, vb] w fun r w' => r = .bool (s == t) ∧ Ext none1 w w' := by
  obtain ⟨a1, c1, rfl, _⟩ := hs.len
  obtain ⟨a2, c2, rfl, _⟩ := hb.len
  refine hI.call (args := [_, _]) (by simp [nt_spec_Same]) ?_
  simp [ir_spec_Same, rs_spec_Same, len_slice ht.uBs]
  by_cases hl : s.length = t.length
  · refine cw_false (by simp [hl]) ?_
    simp [len_slice ht.uBs]
    refine cw_loop (SmInv (.slice a1 s.length c1) (.slice a2 t.length c2) s t w) (fun f _ => match f 13 with | .int _ i => ((s.length : Int) - i).toNat | _ => 0) ?_ ?_
    · exact ⟨0, by omega, by simp, by simp, by simp, by simp, by simp, Ext.refl _ _⟩
    · rintro f w' ⟨i, hi, hp, h13, h12, h0, h1, he⟩
      simp [h13, h12]
      by_cases hlt : i < s.length
      · refine cw_true (by simp; omega) ?_
        obtain ⟨x, hx⟩ : ∃ x, s[i]? = some x := ⟨_, List.getElem?_eq_getElem hlt⟩
        obtain ⟨y, hy⟩ : ∃ y, t[i]? = some y := ⟨_, List.getElem?_eq_getElem (by omega)⟩
        rcases hs with ⟨_, h⟩ | ⟨b1, o1, c1', hv1, _, _, hc1⟩
        · subst h; simp at hx
        cases hv1
        rcases hb with ⟨_, h⟩ | ⟨b2, o2, c2', hv2, _, _, hc2⟩
        · subst h; simp at hy
        cases hv2
        simp [h13]
        refine cw_regH (Ext none1 w) he.drew ?_
        have heD := he.drew
        have x1 : ∀ w', Ext none1 w w' → w'.cell? ⟨b1, o1 + i, none⟩ = some (.int .u8 x.toNat) := fun w' h => h.cell (hc1 i x hx) (fun h => h)
        have y1 : ∀ w', Ext none1 w w' → w'.cell? ⟨b2, o2 + i, none⟩ = some (.int .u8 y.toNat) := fun w' h => h.cell (hc2 i y hy) (fun h => h)
        have hlt2 : i < t.length := by omega
        have ei : IntKind.i64.wrap ((i : Int) + 1) = ((i + 1 : Nat) : Int) := by rw [i64_small (by omega) (by omega)]; rfl
        simp +contextual [h13, h12, h0, h1, idx?, ht.sBs.siz, hlt, hlt2, Addr.add_mk, ld_scl ht.kU8, x1, y1, x1 w' he, y1 w' he, heD]
        by_cases hxy : x = y
        · subst hxy
          refine cw_false (by simp) ?_
          simp [h13, ei]
          exact ⟨⟨i + 1, by omega, take_eq_succ hp hx hy, by simp, by simp [h12], by simp [h0], by simp [h1], heD⟩, by omega⟩
        · refine cw_true (by simp; intro h; exact hxy (UInt8.toNat_inj.1 (by omega))) ?_
          simp
          refine ⟨?_, heD⟩
          rintro rfl
          rw [hx] at hy
          exact hxy (by simpa using hy)
      · refine cw_false (by simp; omega) ?_
        have : i = s.length := by omega
        subst this
        rw [List.take_length, hl, List.take_length] at hp
        simp [hp, he]
  · refine cw_true (by simp; omega) ?_
    simp [Ext.refl]
    rintro rfl
    exact hl rfl
end Go.Kg

set_option linter.unusedSimpArgs false
set_option linter.unusedVariables false
namespace Go.Kg
open Go
/-- A field's head, what is written of its parts, and whether these are as by default. -/
structure FE where
  h : FH
  part : Tr → List UInt8
  usual : Tr → Bool
  known : Nat
/-- value -/
def valS (kind : Int) (part : Tr → List UInt8) (nul : Bool) (flex : Bool) (t : Tr) : List UInt8 :=
  if kind = 0 then [bval (t.n % 2)]
  else if kind = 7 then (t.s ++ List.replicate 16 0).take 16
  else if kind = 8 then countedS flex nul (if nul then [] else t.s.take 32767).length 2 ++ (if nul then [] else t.s.take 32767)
  else if kind = 9 then countedS flex nul (if nul then [] else t.s.take 32767).length 4 ++ (if nul then [] else t.s.take 32767)
  else if kind = 10 then part t
  else fixE (widthS kind) t.n
/-- field -/
def fieldS (x : FE) (ver : Int) (flex : Bool) (t : Tr) : List UInt8 :=
  let nul := x.h.isNull ver t.nul
  if x.h.kind = 11 then
    let l := if nul then [] else t.l.take 32767
    countedS flex nul l.length 4 ++ l.flatMap (valS x.h.of_ x.part false flex)
  else if x.h.kind = 10 ∧ 0 ≤ x.h.null then
    if nul then fixE 1 (-1) else fixE 1 1 ++ x.part t
  else valS x.h.kind x.part nul flex t
/-- usual -/
def usualS (x : FE) (t : Tr) : Bool :=
  if x.h.kind = 0 then t.n % 2 == x.h.dflt
  else if x.h.kind = 7 then (t.s.take 16).all (· == 0)
  else if x.h.kind = 8 ∨ x.h.kind = 9 then (if 0 ≤ x.h.null then t.nul else t.s.isEmpty)
  else if x.h.kind = 11 then t.l.isEmpty
  else if x.h.kind = 10 then x.usual t
  else fixE (widthS x.h.kind) t.n == fixE (widthS x.h.kind) x.h.dflt
/-- a tag goes in by rising keys; the first one of a key counts; none below 'least' -/
def insU {α : Type} (least : Nat) (x : Nat × α) (out : List (Nat × α)) : List (Nat × α) :=
  if x.1 < least then out
  else match out with
    | [] => [x]
    | y :: r => if y.1 < x.1 then y :: insU least x r else if y.1 = x.1 then y :: r else x :: y :: r
def unkS {α : Type} (least : Nat) (u : List (Nat × α)) : List (Nat × α) := (u.take 32767).foldl (fun out x => insU least x out) []
def tagS (k : Nat) (b : List UInt8) : List UInt8 := uvS k ++ uvS b.length ++ b
/-- part, of the fields' own texts -/
def partL (l : List FE) (ver : Int) (flex : Bool) (t : Tr) : List UInt8 :=
  let plain := l.zipIdx.flatMap fun (x, i) => if x.h.tag < 0 ∧ x.h.has ver = true then fieldS x ver flex (t.at i) else []
  if flex then
    let kn := (List.range (knownL (l.map (·.h)))).flatMap fun k => l.zipIdx.flatMap fun (x, i) => if x.h.tag = k ∧ usualS x (t.at i) = false then [(k, fieldS x ver flex (t.at i))] else []
    let un := (unkS (knownL (l.map (·.h))) t.u).map fun x => (x.1, x.2.take 32767)
    plain ++ uvS (kn ++ un).length ++ (kn ++ un).flatMap fun x => tagS x.1 x.2
  else plain
def usualL (l : List FE) (t : Tr) : Bool := (l.zipIdx.all fun (x, i) => usualS x (t.at i)) && (unkS (knownL (l.map (·.h))) t.u).isEmpty
def FS.list (ver : Int) (flex : Bool) : FS → List FE
  | .nil => []
  | .cons h sub rest => ⟨h, partL (sub.list ver flex) ver flex, usualL (sub.list ver flex), knownL ((sub.list ver flex).map (·.h))⟩ :: rest.list ver flex
def partS (F : FS) (ver : Int) (flex : Bool) (t : Tr) : List UInt8 := partL (F.list ver flex) ver flex t
end Go.Kg

set_option linter.unusedSimpArgs false
set_option linter.unusedVariables false
namespace Go.Kg
open Go
theorem i64_and1 (n : Int) : bits .and .i64 n 1 = n % 2 := by
  have h1 : (BitVec.ofInt 64 1).toNat = 2 ^ 1 - 1 := by decide
  have key : (BitVec.ofInt 64 n &&& BitVec.ofInt 64 1).toNat = (n % ((2 ^ 64 : Nat) : Int)).toNat % 2 ^ 1 := by
    rw [BitVec.toNat_and, BitVec.toNat_ofInt, h1, Nat.and_two_pow_sub_one_eq_mod]
  show IntKind.i64.wrap ((BitVec.ofInt 64 n &&& BitVec.ofInt 64 1).toNat : Nat) = n % 2
  rw [key, IntKind.wrap_i64]
  omega
theorem countedS_len {flex nul : Bool} {n size : Nat} (hn : n ≤ 1099511627776) (hs : size ≤ 8) : (countedS flex nul n size).length ≤ 10 := by
  unfold countedS
  split
  · simp
  · split
    · exact Nat.le_trans (uvS_len (k := 9) (by simp; omega)) (by omega)
    · split
      · rw [fixE_len]; omega
      · rw [fixE_len]; omega
theorem st_copyN {P : Program} {f : Nat → Value} {ty : TypeId} {w : World} {K : Value → World → Prop} {t e n g : Nat} {tc : TypeId} {cur : Array Value} {x y : Operand} (ht : P.underlying t = some (.slice e)) (hs : (P.info? e).map (·.size) = some 1)
    (hx : evF f x = .slice (some ⟨g, 0, none⟩) n n) (hg : w.heap[g]? = some (.cells cur tc (0, 0))) (hn : cur.size = n) {C : Nat → Prop} {s : List UInt8} (hy : BytesAt w C (evF f y) s) :
    stepF P f (.call { callee := .builtin .copy, args := #[x, y], argTypes := #[t, t] }) ty w K =
      K (.int .i64 (s.take n).length) (if s.take n = [] then w else w.setBlk g (.cells (cellsOf (s.take n) ++ cur.toList.drop (s.take n).length).toArray tc (0, 0))) := by
  have hg64 : ∀ k : Nat, goInt (k : Int) = .int .i64 k := fun k => rfl
  by_cases h0 : s.take n = []
  · rw [if_pos h0, h0]
    have hr : ∃ a m c, evF f y = .slice a m c ∧ Nat.min m n = 0 := by
      have : s.length = 0 ∨ n = 0 := by
        rcases s with _ | ⟨b, s⟩
        · exact .inl rfl
        · cases n with
          | zero => exact .inr rfl
          | succ n => simp at h0
      rcases hy with ⟨⟨_, h⟩, _⟩ | ⟨b, o, c, h, _⟩
      · exact ⟨_, _, _, h, by simp⟩
      · refine ⟨_, _, _, h, ?_⟩
        show min _ _ = 0
        omega
    obtain ⟨a, m, c, h, hm⟩ := hr
    refine stepF_ok ?_
    have := run_copy_none (P := P) w t t ty e (some ⟨g, 0, none⟩) a n n m c ht hs hm
    simp only [runF, execOp, resolve, invoke, builtin, Sem.run_bind, Sem.run_pure, Result.andThen_ok, List.map_toArray, List.map_cons, List.map_nil, hx, h, this]
    rfl
  · rw [if_neg h0]
    rcases hy with ⟨_, h⟩ | ⟨b, o, c, h, hc, _, hcc⟩
    · subst h; simp at h0
    refine stepF_ok ?_
    have := run_copy_row (P := P) w t t ty e g 0 n n ⟨b, o, none⟩ s.length c cur tc (cellsOf (s.take n)) ht hs hg (by simp [Nat.min_comm]) (by
      intro j v hj
      rw [Addr.add_mk]
      simp only [cellsOf, List.getElem?_map, Option.map_eq_some_iff] at hj
      obtain ⟨x', hx', rfl⟩ := hj
      rw [List.getElem?_take] at hx'
      split at hx'
      · exact hcc j x' hx'
      · cases hx') (by simp; omega) cellsOf_one
    simp only [runF, execOp, resolve, invoke, builtin, Sem.run_bind, Sem.run_pure, Result.andThen_ok, List.map_toArray, List.map_cons, List.map_nil, hx, h, this]
    rw [setRow_setBlk hg]
    simp
    exact hg64 _
theorem madeN (n : Nat) : madeCells (Value.int .u8 0).cells n = (cellsOf (List.replicate n 0)).toArray := by
  apply Array.ext
  · simp [madeCells, cellsOf]
  · intro j h1 h2
    simp [madeCells, cellsOf, Value.cells, Nat.mod_one]
theorem pad_take (s : List UInt8) (n : Nat) : (s ++ List.replicate n 0).take n = s.take n ++ (List.replicate n 0).drop (s.take n).length := by
  rw [List.take_append, List.take_replicate, List.drop_replicate, List.length_take]
  congr 2
  omega
/-- The tree's own box. -/
theorem tree_box {w : World} {cs : List Value} {t : Tr} (hT : TreeAt w cs t) : ∃ sv lv uv, cs = [.int .i64 t.n, sv, .bool t.nul, lv, uv] ∧ BytesAt w All sv t.s := by
  cases hT with
  | mk hn hs ha hl he hu => exact ⟨_, _, _, rfl, hs⟩
section
variable {P : Program} {E : Env} (ht : TyF P E)
include ht
theorem c_value (hI : FnIs P E.f_spec_value nt_spec_value (rs_spec_value E) (ir_spec_value E)) (hF : ∀ (n : Int) (k : Nat), k ≤ 8 → SpC P E.tU8 E.f_spec_Fixed [.int .i64 n, .int .i64 k] (fixE k n))
    (hWd : ∀ (kind : Int) (w : World), Ret P E.f_spec_width #[.int .i64 kind] w fun v w' => v = .int .i64 (widthS kind) ∧ w' = w)
    (hWh : ∀ (w : World) (K : Nat → Prop) (v : Value) (s : List UInt8), BytesAt w K v s → Ret P E.f_spec_whole #[v] w fun r w' => BytesAt w K r (s.take 32767) ∧ w' = w)
    (hC : ∀ (flex nul : Bool) (n size : Nat), n ≤ 1099511627776 → size ≤ 8 → SpC P E.tU8 E.f_spec_counted [.bool flex, .bool nul, .int .i64 n, .int .i64 size] (countedS flex nul n size))
    (kind : Int) (fv : Value) (part : Tr → List UInt8) (nul : Bool) (ver : Int) (flex : Bool) (w : World) (cs : List Value) (t : Tr) (hT : TreeAt w cs t)
    (hP : kind = 10 → ∀ w', Ext none1 w w' → Ret P E.f_spec_part #[fv, .int .i64 ver, .bool flex, .agg cs.toArray] w' fun v w2 => Fresh E.tU8 w' v w2 (part t)) :
    Ret P E.f_spec_value #[.int .i64 kind, fv, .bool nul, .int .i64 ver, .bool flex, .agg cs.toArray] w fun v w' => Fresh E.tU8 w v w' (valS kind part nul flex t) := by
  refine hI.call (args := [_, _, _, _, _, _]) (by simp [nt_spec_value]) ?_
  obtain ⟨sv, lv, uv, rfl, hs⟩ := tree_box hT
  have hv : ∀ (a : Array Value), (Value.agg a).cells = a := fun a => rfl
  generalize hw1 : w.alloc (.cells [Value.int .i64 t.n, sv, .bool t.nul, lv, uv].toArray E.t_spec_Tree) = w1
  have hE : Ext none1 w w1 := by subst hw1; exact (Ext.refl none1 w).alloc _
  have hb : w1.heap[w.heap.size]? = some (.cells [Value.int .i64 t.n, sv, .bool t.nul, lv, uv].toArray E.t_spec_Tree (0, 0)) := by subst hw1; exact alloc_new
  have c0 : w1.cell? ⟨w.heap.size, 0, none⟩ = some (.int .i64 t.n) := by rw [cell_of_blk hb]; rfl
  have c1 : w1.cell? ⟨w.heap.size, 1, none⟩ = some sv := by rw [cell_of_blk hb]; rfl
  have hs1 := hs.ext (K := All) hE (fun _ _ _ h => h)

  simp [ir_spec_value, rs_spec_value, hv, hw1]
  by_cases k0 : kind = 0
  · subst k0
    refine cw_true (by simp) ?_
    simp [ht.t0, Addr.add_mk, ld_scl ht.kI64, c0, ht.iI64, ht.iU8, u8wrap, bin?, i64_and1, st_bsl ht.sBs, denseFrom, allSz, flat, Value.cells]
    have := fresh_lit (u8 := E.tU8) (w := w1) (bs := [bval (t.n % 2)]) (cs := #[.int .u8 (bval (t.n % 2)).toNat]) (by simp [cellsOf]) (by simp)
    have h2 := Fresh.pre hE this
    simpa [valS] using h2
  refine cw_false (by simp [k0]) ?_
  simp
  by_cases k7 : kind = 7
  · subst k7
    refine cw_true (by simp) ?_
    have hsz8 : (P.info? E.tU8).map (·.size) = some 1 := by obtain ⟨i, h1, _, h3, _⟩ := ht.sBs.inf; simp [h1, h3]
    obtain ⟨i, hi, hz, hs1', hby⟩ := ht.sBs.inf
    have hmk := run_make (P := P) w1 E.tBs E.tU8 i _ ht.uBs hi hz .i64 .i64 16 16 (by omega) (by omega) (by rw [hby]; omega) (by omega)
    simp only [hs1'] at hmk
    simp only [cw_seq, cw_reg, regW_plain, stp_makeSlice]
    rw [stepF_ok (v := .slice (some ⟨w1.heap.size, 0, none⟩) 16 16) (w' := w1.alloc (.cells (madeCells (Value.int .u8 0).cells 16) E.tU8)) (by
      simp only [runF, execOp, evF_const, Sem.run_bind, hmk, Result.andThen_ok, Sem.run_pure]; rfl)]
    have hmc := madeN 16
    rw [hmc]
    have hl16 : (List.replicate 16 (0 : UInt8)).length = 16 := by simp
    generalize hzz : List.replicate 16 (0 : UInt8) = zz at *
    generalize hw2 : w1.alloc (.cells (cellsOf zz).toArray E.tU8) = w2
    have hE2 : Ext none1 w1 w2 := by subst hw2; exact (Ext.refl none1 w1).alloc _
    have hb2 : w2.heap[w1.heap.size]? = some (.cells (cellsOf zz).toArray E.tU8 (0, 0)) := by subst hw2; exact alloc_new
    have hc2 : w2.cell? ⟨w.heap.size, 1, none⟩ = some sv := hE2.cell c1 (fun h => h)
    have hs2 := hs1.ext (K := All) hE2 (fun _ _ _ h => h)
    simp [ht.t1, Addr.add_mk, ld_scl ht.kBs, hc2]
    rw [st_copyN (n := 16) (s := t.s) (C := All) ht.uBs hsz8 (by simp) hb2 (by simp [hl16]) (by simpa using hs2)]
    obtain ⟨w3, hw3, hb3, hE3⟩ : ∃ w3, (if t.s.take 16 = [] then w2 else w2.setBlk w1.heap.size (.cells (cellsOf (t.s.take 16) ++ (cellsOf zz).toArray.toList.drop (t.s.take 16).length).toArray E.tU8 (0, 0))) = w3 ∧
        w3.heap[w1.heap.size]? = some (.cells (cellsOf ((t.s ++ zz).take 16)).toArray E.tU8 (0, 0)) ∧ Ext none1 w w3 := by
      refine ⟨_, rfl, ?_, ?_⟩
      · split
        · rename_i h
          have h' : t.s = [] := by cases hh : t.s with
            | nil => rfl
            | cons a b => rw [hh] at h; simp at h
          rw [hb2, h', List.nil_append, List.take_of_length_le (by omega)]
        · rw [setBlk_same hb2]
          congr 3
          have hd : (t.s ++ zz).take 16 = t.s.take 16 ++ zz.drop (t.s.take 16).length := by rw [← hzz]; exact pad_take t.s 16
          rw [hd, cellsOf_append]
          simp [cellsOf, List.map_drop]
      · split
        · exact hE.trans hE2
        · exact (hE.trans hE2).setBlk (.inl hE.size) _
    rw [hw3]
    have hval : valS 7 part nul flex t = (t.s ++ zz).take 16 := by rw [← hzz]; rfl
    have hL : ((t.s ++ zz).take 16).length = 16 := by simp [hl16]
    rw [hval]
    generalize (t.s ++ zz).take 16 = q at hb3 hL ⊢
    refine ⟨⟨16, by simp [hL], .inr ⟨w1.heap.size, 16, _, rfl, hE.size, hb3, Nat.le_refl _, by simp [maxLen], by simp [hL], ?_⟩⟩, hE3⟩
    simp only [Nat.mul_one]
    exact List.take_of_length_le (by simp [hL])
  refine cw_false (by simp [k7]) ?_
  simp
  -- texts and octets
  have txt : ∀ (size : Nat), size ≤ 8 → ∀ (v : Value) (w2 : World), BytesAt w2 All v (if nul then [] else t.s.take 32767) → Ext none1 w w2 →
      True := fun _ _ _ _ _ _ => trivial
  by_cases k8 : kind = 8
  · subst k8
    refine cw_true (by simp) ?_
    simp [ht.t1, Addr.add_mk, ld_scl ht.kBs, c1]
    refine (hWh w1 All sv t.s hs1).mono ?_
    rintro v2 wx ⟨hv2, rfl⟩
    have hlen : (t.s.take 32767).length ≤ 32767 := by simp; omega
    cases nul
    · refine cw_false (by simp) ?_
      obtain ⟨a, c, rfl, hc⟩ := hv2.len
      simp [len_slice ht.uBs]
      refine (by simpa using hC flex false (t.s.take 32767).length 2 (by omega) (by omega) wx : Ret P _ _ _ _).mono ?_
      intro v3 w3 h3
      have hb3 := hv2.ext (K := All) h3.2 (fun _ _ _ h => h)
      refine st_app_bytes ht.sBs (by simp) h3.1 h3.2.size (k := All) (bs := t.s.take 32767) (by simpa using hb3) ?_ ?_
      · refine Nat.le_trans (Nat.add_le_add (countedS_len (by omega) (by omega)) hlen) (by omega)
      intro v4 w4 ho hg
      have h4 := Fresh.pre hE (h3.grow ho hg)
      simpa [valS] using h4
    · refine cw_true (by simp) ?_
      simp [len_slice ht.uBs]
      refine (by simpa using hC flex true 0 2 (by omega) (by omega) wx : Ret P _ _ _ _).mono ?_
      intro v3 w3 h3
      refine st_app_bytes ht.sBs (by simp) h3.1 h3.2.size (k := All) (bs := []) (.inl ⟨by simp, rfl⟩) ?_ ?_
      · refine Nat.le_trans (Nat.add_le_add (countedS_len (by omega) (by omega)) (Nat.le_refl _)) (by simp)
      intro v4 w4 ho hg
      have h4 := Fresh.pre hE (h3.grow ho hg)
      simpa [valS] using h4
  refine cw_false (by simp [k8]) ?_
  simp
  by_cases k9 : kind = 9
  · subst k9
    refine cw_true (by simp) ?_
    simp [ht.t1, Addr.add_mk, ld_scl ht.kBs, c1]
    refine (hWh w1 All sv t.s hs1).mono ?_
    rintro v2 wx ⟨hv2, rfl⟩
    have hlen : (t.s.take 32767).length ≤ 32767 := by simp; omega
    cases nul
    · refine cw_false (by simp) ?_
      obtain ⟨a, c, rfl, hc⟩ := hv2.len
      simp [len_slice ht.uBs]
      refine (by simpa using hC flex false (t.s.take 32767).length 4 (by omega) (by omega) wx : Ret P _ _ _ _).mono ?_
      intro v3 w3 h3
      have hb3 := hv2.ext (K := All) h3.2 (fun _ _ _ h => h)
      refine st_app_bytes ht.sBs (by simp) h3.1 h3.2.size (k := All) (bs := t.s.take 32767) (by simpa using hb3) ?_ ?_
      · refine Nat.le_trans (Nat.add_le_add (countedS_len (by omega) (by omega)) hlen) (by omega)
      intro v4 w4 ho hg
      have h4 := Fresh.pre hE (h3.grow ho hg)
      simpa [valS] using h4
    · refine cw_true (by simp) ?_
      simp [len_slice ht.uBs]
      refine (by simpa using hC flex true 0 4 (by omega) (by omega) wx : Ret P _ _ _ _).mono ?_
      intro v3 w3 h3
      refine st_app_bytes ht.sBs (by simp) h3.1 h3.2.size (k := All) (bs := []) (.inl ⟨by simp, rfl⟩) ?_ ?_
      · refine Nat.le_trans (Nat.add_le_add (countedS_len (by omega) (by omega)) (Nat.le_refl _)) (by simp)
      intro v4 w4 ho hg
      have h4 := Fresh.pre hE (h3.grow ho hg)
      simpa [valS] using h4
  refine cw_false (by simp [k9]) ?_
  simp
  by_cases k10 : kind = 10
  · subst k10
    refine cw_true (by simp) ?_
    have hcf := cellsFrom_row hb
    simp at hcf
    simp [ld_agg ht.kT, hcf]
    refine (by simpa using hP rfl w1 hE : Ret P _ _ _ _).mono ?_
    intro v w2 h
    have h2 := Fresh.pre hE h
    simpa [valS] using h2
  refine cw_false (by simp [k10]) ?_
  have hk : widthS kind ≤ 8 := by unfold widthS; repeat' split
                                  all_goals omega
  have r0 : ∀ w', Ext none1 w1 w' → w'.cell? ⟨w.heap.size, 0, none⟩ = some (.int .i64 t.n) := fun w' h => h.cell c0 (fun h => h)
  refine cw_regH (Ext none1 w1) (Ext.refl none1 w1).drew ?_
  have hD := (Ext.refl none1 w1).drew
  simp +contextual [ht.t0, Addr.add_mk, ld_scl ht.kI64, c0, r0]
  refine (hWd kind w1.drew).mono ?_
  rintro v w2 ⟨rfl, rfl⟩
  simp [hD]
  refine (by simpa using hF t.n (widthS kind) hk w1.drew : Ret P _ _ _ _).mono ?_
  intro v w3 h
  have h2 := Fresh.pre (hE.trans hD) h
  have h3 := hD.trans h.2
  simp [h3]
  simpa [valS, k0, k7, k8, k9, k10] using h2
end
end Go.Kg

set_option linter.unusedSimpArgs false
set_option linter.unusedVariables false
namespace Go.Kg
open Go
theorem insU_at {α : Type} (least : Nat) (x : Nat × α) : ∀ (out : List (Nat × α)) (i : Nat), i ≤ out.length → (∀ j y, j < i → out[j]? = some y → y.1 < x.1) → (∀ y, out[i]? = some y → ¬ y.1 < x.1) →
    insU least x out = if x.1 < least then out else if (out[i]?).any (fun y => y.1 == x.1) = true then out else out.take i ++ x :: out.drop i
  | [], i, hi, _, _ => by
    have : i = 0 := by simpa using hi
    subst this
    by_cases h : x.1 < least <;> simp [insU, h]
  | y :: r, 0, _, _, h3 => by
    have h0 := h3 y rfl
    by_cases h : x.1 < least
    · simp [insU, h]
    · by_cases h1 : y.1 = x.1
      · simp [insU, h, h1]
      · simp [insU, h, h0, h1]
  | y :: r, i + 1, hi, h2, h3 => by
    have hy : y.1 < x.1 := h2 0 y (by omega) rfl
    have ih := insU_at least x r i (by simpa using hi) (fun j z hj hz => h2 (j + 1) z (by omega) (by simpa using hz)) (fun z hz => h3 z (by simpa using hz))
    by_cases h : x.1 < least
    · simp [insU, h]
    · rw [insU, if_neg h]
      simp only [if_pos hy, ih, if_neg h]
      simp only [List.getElem?_cons_succ, List.take_succ_cons, List.drop_succ_cons]
      split <;> simp
theorem insU_mem {α : Type} {least : Nat} {x z : Nat × α} : ∀ {out : List (Nat × α)}, z ∈ insU least x out → z = x ∨ z ∈ out
  | [], h => by
    unfold insU at h
    split at h
    · exact .inr h
    · simpa using h
  | y :: r, h => by
    unfold insU at h
    split at h
    · exact .inr h
    · simp only at h
      split at h
      · rcases List.mem_cons.1 h with rfl | h
        · exact .inr List.mem_cons_self
        · exact (insU_mem h).imp id (List.mem_cons_of_mem _)
      · split at h
        · exact .inr h
        · rcases List.mem_cons.1 h with rfl | h
          · exact .inl rfl
          · exact .inr h
def tc (p : Nat × Value) : List Value := [.int .u32 p.1, p.2]
def flatT (os : List (Nat × Value)) : List Value := os.flatMap tc
theorem flatT_cons (q : Nat × Value) (os : List (Nat × Value)) : flatT (q :: os) = Value.int .u32 q.1 :: q.2 :: flatT os := rfl
@[simp] theorem flatT_length : ∀ (os : List (Nat × Value)), (flatT os).length = os.length * 2
  | [] => rfl
  | q :: os => by rw [flatT_cons]; simp [flatT_length os]; omega
theorem flatT_append (a b : List (Nat × Value)) : flatT (a ++ b) = flatT a ++ flatT b := by simp [flatT]
theorem flatT_get : ∀ {os : List (Nat × Value)} {k : Nat} {p : Nat × Value}, os[k]? = some p → (flatT os)[k * 2]? = some (.int .u32 p.1) ∧ (flatT os)[k * 2 + 1]? = some p.2
  | [], k, p, h => by simp at h
  | q :: os, 0, p, h => by simp at h; subst h; exact ⟨rfl, rfl⟩
  | q :: os, k + 1, p, h => by
    have := flatT_get (os := os) (k := k) (by simpa using h)
    rw [flatT_cons, show (k + 1) * 2 = k * 2 + 1 + 1 by omega]
    simpa using this
theorem flatT_set : ∀ (os : List (Nat × Value)) (k : Nat) (p : Nat × Value), k < os.length → flatT (os.set k p) = (flatT os).take (k * 2) ++ tc p ++ (flatT os).drop (k * 2 + 2)
  | [], k, p, h => by simp at h
  | q :: os, 0, p, h => by simp [flatT_cons, tc]
  | q :: os, k + 1, p, h => by
    have := flatT_set os k p (by simpa using h)
    rw [List.set_cons_succ, flatT_cons, this, flatT_cons, show (k + 1) * 2 = k * 2 + 1 + 1 by omega]
    simp
theorem ownT_len {w : World} {base e : Nat} {v : Value} {os : List (Nat × Value)} (h : Own w base e 2 v (flatT os)) : ∃ a c, v = .slice a os.length c ∧ (a = none → c = 0) := by
  obtain ⟨n, h1, h2⟩ := h
  have hn : n = os.length := by simp at h1; omega
  subst hn
  rcases h2 with ⟨rfl, h0⟩ | ⟨g, cap, cur, rfl, _⟩
  · exact ⟨none, 0, by rw [h0], fun _ => rfl⟩
  · exact ⟨_, cap, rfl, fun h => by cases h⟩
theorem ownT_set {w : World} {base e : Nat} {v : Value} {os : List (Nat × Value)} (h : Own w base e 2 v (flatT os)) {k : Nat} (hk : k < os.length) (p : Nat × Value) :
    ∃ g cap cur, v = .slice (some ⟨g, 0, none⟩) os.length cap ∧ w.heap[g]? = some (.cells cur e (0, 0)) ∧ k * 2 + 2 ≤ cur.size ∧ base ≤ g ∧ Own (w.setBlk g (.cells (over cur (k * 2) (tc p)) e (0, 0))) base e 2 v (flatT (os.set k p)) := by
  obtain ⟨n, h1, h2⟩ := h
  have hn : n = os.length := by simp at h1; omega
  subst hn
  rcases h2 with ⟨rfl, h0⟩ | ⟨g, cap, cur, rfl, hb, hg, hnc, hcm, hcs, htake⟩
  · omega
  · have hle : os.length * 2 ≤ cap * 2 := Nat.mul_le_mul_right 2 hnc
    refine ⟨g, cap, cur, rfl, hg, by omega, hb, os.length, by simp, .inr ⟨g, cap, _, rfl, hb, setBlk_same hg, hnc, hcm, ?_, ?_⟩⟩
    · simp only [over, List.size_toArray, List.length_append, List.length_take, List.length_drop, Array.length_toList, tc, List.length_cons, List.length_nil]
      omega
    · have hsp : cur.toList = flatT os ++ cur.toList.drop (os.length * 2) := by rw [← htake, List.take_append_drop]
      generalize cur.toList.drop (os.length * 2) = rest at hsp
      have : (over cur (k * 2) (tc p)).toList = flatT (os.set k p) ++ rest := by
        rw [flatT_set os k p hk]
        simp only [over, hsp]
        rw [List.take_append_of_le_length (by simp; omega), List.drop_append_of_le_length (by simp [tc]; omega)]
        simp [tc]
      rw [this, List.take_left' (by simp)]
theorem ownT_get {w : World} {base e : Nat} {v : Value} {os : List (Nat × Value)} (h : Own w base e 2 v (flatT os)) {k : Nat} {p : Nat × Value} (hk : os[k]? = some p) :
    ∃ g cap, v = .slice (some ⟨g, 0, none⟩) os.length cap ∧ base ≤ g ∧ w.cell? ⟨g, k * 2, none⟩ = some (.int .u32 p.1) ∧ w.cell? ⟨g, k * 2 + 1, none⟩ = some p.2 := by
  obtain ⟨n, h1, h2⟩ := h
  have hn : n = os.length := by simp at h1; omega
  subst hn
  have hlt := (List.getElem?_eq_some_iff.1 hk).1
  rcases h2 with ⟨rfl, h0⟩ | ⟨g, cap, cur, rfl, hb, hg, hnc, hcm, hcs, htake⟩
  · omega
  · obtain ⟨a1, a2⟩ := flatT_get hk
    rw [← htake, List.getElem?_take] at a1 a2
    refine ⟨g, cap, rfl, hb, ?_, ?_⟩
    · rw [cell_of_blk hg]
      split at a1
      · simpa using a1
      · cases a1
    · rw [cell_of_blk hg]
      split at a2
      · simpa using a2
      · cases a2
/-- what stands behind the place k has moved one place on -/
def moved {α : Type} (M out : List α) (k : Nat) (L : List α) : Prop := L.length = M.length ∧ ∀ j, L[j]? = if j ≤ k then M[j]? else if j < M.length then out[j - 1]? else none
theorem moved_end {α : Type} {out L : List α} {z x : α} {i : Nat} (hi : i ≤ out.length) (h : moved (out ++ [z]) out i L) : L.set i x = out.take i ++ x :: out.drop i := by
  apply List.ext_getElem?
  intro j
  obtain ⟨hl, h⟩ := h
  simp only [List.length_append, List.length_cons, List.length_nil] at hl h
  rw [List.getElem?_set, h j]
  by_cases h1 : i = j
  · subst h1
    rw [if_pos rfl, if_pos (by omega), List.getElem?_append_right (by simp; omega)]
    simp [Nat.min_eq_left hi]
  · rw [if_neg h1]
    by_cases h2 : j < i
    · rw [if_pos (by omega), List.getElem?_append_left (by omega), List.getElem?_append_left (by simp; omega), List.getElem?_take, if_pos h2]
    · rw [if_neg (by omega), List.getElem?_append_right (by simp; omega)]
      simp only [List.length_take, Nat.min_eq_left hi]
      rw [show j - i = (j - 1 - i) + 1 by omega, List.getElem?_cons_succ, List.getElem?_drop, show i + (j - 1 - i) = j - 1 by omega]
      split
      · rfl
      · rw [List.getElem?_eq_none (by omega)]
theorem moved_step {α : Type} {out L : List α} {z y : α} {k : Nat} (h : moved (out ++ [z]) out (k + 1) L) (hk : k + 1 ≤ out.length) (hy : out[k]? = some y) : moved (out ++ [z]) out k (L.set (k + 1) y) ∧ L[k]? = some y := by
  obtain ⟨hl, h⟩ := h
  refine ⟨⟨by simpa using hl, fun j => ?_⟩, ?_⟩
  · rw [List.getElem?_set, h j]
    simp only [List.length_append, List.length_cons, List.length_nil] at hl h ⊢
    by_cases h1 : k + 1 = j
    · subst h1
      rw [if_pos rfl, if_pos (by omega), if_neg (by omega), if_pos (by omega)]
      simp [hy]
    · rw [if_neg h1]
      by_cases h2 : j ≤ k
      · rw [if_pos (by omega), if_pos h2]
      · rw [if_neg (by omega), if_neg h2]
  · rw [h k, if_pos (by omega), List.getElem?_append_left (by omega), hy]
end Go.Kg

set_option linter.unusedSimpArgs false
set_option linter.unusedVariables false
namespace Go.Kg
open Go
section
variable {P : Program} {f : Nat → Value} {ty : TypeId} {w : World} {K K' : Value → World → Prop}
theorem optK_mono {α : Type} {x : Option α} {k k' : α → Prop} (h : ∀ a, k a → k' a) (hq : optK x k) : optK x k' := by
  cases x with
  | none => exact hq
  | some a => exact h a hq
theorem putK_mono {p : Addr} {vs : List Value} {k k' : World → Prop} (h : ∀ w, k w → k' w) (hq : putK w p vs k) : putK w p vs k' := by
  unfold putK at *; split
  · rename_i hb; rw [hb] at hq; exact ⟨hq.1, h _ hq.2⟩
  · rename_i hn
    split at hq
    · rename_i hb; exact (hn _ _ hb).elim
    · exact hq
theorem put1K_mono {p : Addr} {v : Value} {k k' : World → Prop} (h : ∀ w, k w → k' w) (hq : put1K w p v k) : put1K w p v k' := by
  unfold put1K at *; split
  · rename_i hb; rw [hb] at hq; exact ⟨hq.1, h _ hq.2⟩
  · rename_i hn
    split at hq
    · rename_i hb; exact (hn _ _ hb).elim
    · exact hq
theorem storeK_mono {T : Nat} {v : Value} {p : Addr} {k k' : World → Prop} (h : ∀ w, k w → k' w) (hq : storeK P w T v p k) : storeK P w T v p k' := by
  unfold storeK at *
  generalize kindOf P T = z at *
  cases z with
  | scl => exact ⟨hq.1, put1K_mono h hq.2⟩
  | bad => exact hq
  | agg n =>
    simp only at hq ⊢
    generalize aggCells? v = y at *
    cases y with
    | none => exact hq
    | some cs => exact ⟨hq.1, putK_mono h hq.2⟩
theorem lenK_mono {T : Nat} {v : Value} (h : ∀ v w, K v w → K' v w) (hq : lenK P T w K v) : lenK P T w K' v := by
  cases v <;> simp only [lenK] at hq ⊢ <;> first | exact ⟨hq.1, optK_mono (fun _ => h _ _) hq.2⟩ | exact optK_mono (fun _ => h _ _) hq
theorem callLenK_mono {xs : List Operand} {ts : List TypeId} (h : ∀ v w, K v w → K' v w) (hq : callLenK P f w K xs ts) : callLenK P f w K' xs ts := by
  unfold callLenK at *
  split
  · exact lenK_mono h hq
  · rename_i hn
    split at hq
    · exact (hn _ _ rfl rfl).elim
    · exact hq
theorem callK_mono {c : Call} (h : ∀ v w, K v w → K' v w) (hq : callK P f c ty w K) : callK P f c ty w K' := by
  unfold callK at *
  cases hc : c.callee with
  | builtin b =>
    rw [hc] at hq
    cases b <;> first | exact callLenK_mono h hq | exact stepF_mono h hq
  | invoke a b => rw [hc] at hq; exact stepF_mono h hq
  | value x =>
    rw [hc] at hq
    cases x with
    | func g => exact Ret.mono hq h
    | const v => exact hq
    | global g => exact hq
    | tmp t =>
      simp only at hq ⊢
      split
      · rename_i hv; rw [hv] at hq; exact Ret.mono hq h
      · rename_i hn
        split at hq
        · rename_i hv; exact (hn _ _ _ hv).elim
        · exact hq
theorem stp_mono {op : Op} (h : ∀ v w, K v w → K' v w) (hq : stp P f op ty w K) : stp P f op ty w K' := by
  cases op <;> simp only [stp] at hq ⊢ <;> first
    | exact h _ _ hq
    | exact optK_mono (fun _ => h _ _) hq
    | exact optK_mono (fun _ => optK_mono (fun _ => h _ _)) hq
    | exact optK_mono (fun _ => storeK_mono (fun _ => h _ _)) hq
    | exact callK_mono h hq
    | exact stepF_mono h hq
    | (split at hq <;> first | exact hq.elim | exact optK_mono (fun _ => h _ _) hq | exact optK_mono (fun _ => optK_mono (fun _ => h _ _)) hq | exact stepF_mono h hq)
theorem regW_mono : ∀ (l : List Ro) {Q Q' : (Nat → Value) → World → Prop} {f : Nat → Value} {w : World}, (∀ f w, Q f w → Q' f w) → regW P Q l f w → regW P Q' l f w := by
  intro l
  induction l with
  | nil => intro Q Q' f w h hq; exact h _ _ hq
  | cons x r ih =>
    intro Q Q' f w h hq
    rw [regW_cons] at hq ⊢
    split
    · rename_i hw; rw [if_pos hw] at hq; exact stp_mono (fun v w hq => ih h hq) hq
    · rename_i hw; rw [if_neg hw] at hq; exact ih h hq
theorem regHW_mono {S : World → Prop} : ∀ (l : List (Bool × Ro)) {Q Q' : (Nat → Value) → World → Prop} {f : Nat → Value} {w : World}, (∀ f w, Q f w → Q' f w) → regHW P S Q l f w → regHW P S Q' l f w := by
  intro l
  induction l with
  | nil => intro Q Q' f w h hq; exact h _ _ hq
  | cons x r ih =>
    obtain ⟨b, x⟩ := x
    intro Q Q' f w h hq
    cases b
    · rw [regHW_false] at hq ⊢
      split
      · rename_i hw; rw [if_pos hw] at hq; exact stp_mono (fun v w hq => ⟨hq.1, ih h hq.2⟩) hq
      · rename_i hw; rw [if_neg hw] at hq; exact ih h hq
    · rw [regHW_true] at hq ⊢
      split
      · rename_i hw; rw [if_pos hw] at hq; exact optK_mono (fun v hq => ⟨hq.1, ih h hq.2⟩) hq
      · rename_i hw; rw [if_neg hw] at hq; exact ih h hq
theorem HT.cw_mono {S : World → Prop} : ∀ (t : HT) {Q Q' : (Nat → Value) → World → Prop} {f : Nat → Value} {w : World}, (∀ f w, Q f w → Q' f w) → t.cw P S Q f w → t.cw P S Q' f w := by
  intro t
  induction t with
  | done => intro Q Q' f w h hq; exact h _ _ hq
  | free o r ih =>
    intro Q Q' f w h hq
    simp only [HT.cw] at hq ⊢
    split
    · rename_i hw; rw [if_pos hw] at hq; exact optK_mono (fun v hq => ⟨hq.1, ih h hq.2⟩) hq
    · rename_i hw; rw [if_neg hw] at hq; exact ih h hq
  | act o r alt ih ih2 =>
    intro Q Q' f w h hq
    simp only [HT.cw] at hq ⊢
    refine ⟨?_, ih2 h hq.2⟩
    have hq := hq.1
    split
    · rename_i hw; rw [if_pos hw] at hq; exact stp_mono (fun v w hq => ⟨hq.1, ih h hq.2⟩) hq
    · rename_i hw; rw [if_neg hw] at hq; exact ih h hq
  | stop => intro Q Q' f w h hq; trivial
theorem Ir.cw_mono : ∀ (c : Ir) {Q Q' : Post} {f : Nat → Value} {w : World}, (∀ e f w, Q e f w → Q' e f w) → c.cw P Q f w → c.cw P Q' f w := by
  intro c
  induction c with
  | reg l => intro Q Q' f w h hq; exact regW_mono l (h _) hq
  | regH l => intro Q Q' f w h ⟨S, h1, h2⟩; exact ⟨S, h1, regHW_mono l (h _) h2⟩
  | regT t => intro Q Q' f w h ⟨S, h1, h2⟩; exact ⟨S, h1, HT.cw_mono t (h _) h2⟩
  | seq a b iha ihb =>
    intro Q Q' f w h hq
    refine iha ?_ hq
    intro e f w; cases e <;> simp only [thenF] <;> first | exact ihb h | exact h _ _ _
  | cond t a b iha ihb =>
    intro Q Q' f w h hq
    rcases hq with ⟨h1, h2⟩ | ⟨h1, h2⟩
    · exact .inl ⟨h1, iha h h2⟩
    · exact .inr ⟨h1, ihb h h2⟩
  | block id b ih =>
    intro Q Q' f w h hq
    refine ih ?_ hq
    intro e f w; cases e <;> simp only [inBlockF] <;> first | exact h _ _ _ | skip
    split
    · exact h _ _ _
    · exact h _ _ _
  | loop b ih =>
    intro Q Q' f w h hq
    obtain ⟨I, μ, h0, hr⟩ := hq
    refine ⟨I, μ, h0, fun f w hI => ih ?_ (hr f w hI)⟩
    intro e f w hq
    cases e <;> first | exact hq | exact h _ _ _ hq
  | exit id => intro Q Q' f w h hq; exact h _ _ _ hq
  | ret => intro Q Q' f w h hq; exact h _ _ _ hq
  | skip => intro Q Q' f w h hq; exact h _ _ _ hq
  | label l => intro Q Q' f w h hq; exact h _ _ _ hq
  | goto l => intro Q Q' f w h hq; exact h _ _ _ hq
  | scope b l rest ihb ihr =>
    intro Q Q' f w h hq
    obtain ⟨J, μ, h0, hr⟩ := hq
    refine ⟨J, μ, ihb ?_ h0, fun f w hJ => ihr ?_ (hr f w hJ)⟩
    · intro e f w hq
      cases e <;> first | exact hq | exact h _ _ _ hq
    · intro e f w hq
      cases e <;> first | exact hq | exact h _ _ _ hq
/-- The ways meet again: what holds there. -/
def meet (R : (Nat → Value) → World → Prop) : Post
  | .normal, f, w => R f w
  | _, _, _ => False
@[simp] theorem meet_normal {R : (Nat → Value) → World → Prop} {f : Nat → Value} {w : World} : meet R .normal f w = R f w := (rfl)
theorem cw_then {a : Ir} {Q : Post} {k : (Nat → Value) → World → Prop} {f : Nat → Value} {w : World} (R : (Nat → Value) → World → Prop) (ha : a.cw P (meet R) f w) (hb : ∀ f w, R f w → k f w) : a.cw P (thenF k Q) f w :=
  Ir.cw_mono a (fun e f w h => by cases e <;> first | exact hb _ _ h | exact h.elim) ha
/-- the same, where the way may also leave -/
def meetOr (R : (Nat → Value) → World → Prop) (Q : Post) : Post
  | .normal, f, w => R f w
  | e, f, w => Q e f w
@[simp] theorem meetOr_normal {R : (Nat → Value) → World → Prop} {Q : Post} {f : Nat → Value} {w : World} : meetOr R Q .normal f w = R f w := (rfl)
@[simp] theorem meetOr_ret {R : (Nat → Value) → World → Prop} {Q : Post} {f : Nat → Value} {w : World} : meetOr R Q .ret f w = Q .ret f w := (rfl)
@[simp] theorem meetOr_exit {R : (Nat → Value) → World → Prop} {Q : Post} {f : Nat → Value} {w : World} {i : Nat} : meetOr R Q (.exit i) f w = Q (.exit i) f w := (rfl)
/-- the same, where the way may also leave by one exit -/
def meetX (R X : (Nat → Value) → World → Prop) (id : Nat) : Post
  | .normal, f, w => R f w
  | .exit i, f, w => i = id ∧ X f w
  | _, _, _ => False
@[simp] theorem meetX_normal {R X : (Nat → Value) → World → Prop} {id : Nat} {f : Nat → Value} {w : World} : meetX R X id .normal f w = R f w := (rfl)
@[simp] theorem meetX_exit {R X : (Nat → Value) → World → Prop} {id i : Nat} {f : Nat → Value} {w : World} : meetX R X id (.exit i) f w = (i = id ∧ X f w) := (rfl)
theorem cw_thenX {a : Ir} {Q : Post} {k : (Nat → Value) → World → Prop} {f : Nat → Value} {w : World} (R X : (Nat → Value) → World → Prop) (id : Nat) (ha : a.cw P (meetX R X id) f w) (hb : ∀ f w, R f w → k f w) (hx : ∀ f w, X f w → Q (.exit id) f w) : a.cw P (thenF k Q) f w :=
  Ir.cw_mono a (fun e f w h => by cases e <;> first | exact hb _ _ h | (obtain ⟨rfl, h⟩ := h; exact hx _ _ h) | exact h.elim) ha
/-- and where it may return -/
def meetR (R X : (Nat → Value) → World → Prop) : Post
  | .normal, f, w => R f w
  | .ret, f, w => X f w
  | _, _, _ => False
@[simp] theorem meetR_normal {R X : (Nat → Value) → World → Prop} {f : Nat → Value} {w : World} : meetR R X .normal f w = R f w := (rfl)
@[simp] theorem meetR_ret {R X : (Nat → Value) → World → Prop} {f : Nat → Value} {w : World} : meetR R X .ret f w = X f w := (rfl)
theorem cw_thenR {a : Ir} {Q : Post} {k : (Nat → Value) → World → Prop} {f : Nat → Value} {w : World} (R X : (Nat → Value) → World → Prop) (ha : a.cw P (meetR R X) f w) (hb : ∀ f w, R f w → k f w) (hx : ∀ f w, X f w → Q .ret f w) : a.cw P (thenF k Q) f w :=
  Ir.cw_mono a (fun e f w h => by cases e <;> first | exact hb _ _ h | exact hx _ _ h | exact h.elim) ha
theorem cw_blockThenR {a : Ir} {Q : Post} {id : Nat} {k : (Nat → Value) → World → Prop} {f : Nat → Value} {w : World} (R X : (Nat → Value) → World → Prop) (ha : a.cw P (inBlockF id (meetR R X)) f w) (hb : ∀ f w, R f w → k f w) (hx : ∀ f w, X f w → Q .ret f w) : a.cw P (inBlockF id (thenF k Q)) f w :=
  Ir.cw_mono a (fun e f w h => by
    cases e <;> simp only [inBlockF] at h ⊢ <;> first | exact hb _ _ h | exact hx _ _ h | exact h.elim | skip
    split
    · rename_i e; rw [if_pos e] at h; exact hb _ _ h
    · rename_i e; rw [if_neg e] at h; exact h.elim) ha
theorem cw_blockN {a : Ir} {Q : Post} {id : Nat} {f : Nat → Value} {w : World} (R : (Nat → Value) → World → Prop) (ha : a.cw P (inBlockF id (meet R)) f w) (hb : ∀ f w, R f w → Q .normal f w) : a.cw P (inBlockF id Q) f w :=
  Ir.cw_mono a (fun e f w h => by
    cases e <;> simp only [inBlockF] at h ⊢ <;> first | exact hb _ _ h | exact h.elim | skip
    split
    · rename_i e; rw [if_pos e] at h; exact hb _ _ h
    · rename_i e; rw [if_neg e] at h; exact h.elim) ha
/-- of the frame only what is said of it -/
theorem cw_gen {c : Ir} {Q : Post} {f : Nat → Value} {w : World} (R : (Nat → Value) → Prop) (hR : R f) (h : ∀ f, R f → c.cw P Q f w) : c.cw P Q f w := h f hR
/-- a block as a whole -/
theorem cw_blockThen {a : Ir} {Q : Post} {id : Nat} {k : (Nat → Value) → World → Prop} {f : Nat → Value} {w : World} (R : (Nat → Value) → World → Prop) (ha : a.cw P (inBlockF id (meet R)) f w) (hb : ∀ f w, R f w → k f w) : a.cw P (inBlockF id (thenF k Q)) f w :=
  Ir.cw_mono a (fun e f w h => by
    cases e <;> simp only [inBlockF] at h ⊢ <;> first | exact hb _ _ h | exact h.elim | skip
    split
    · rename_i e; rw [if_pos e] at h; exact hb _ _ h
    · rename_i e; rw [if_neg e] at h; exact h.elim) ha
end
end Go.Kg

set_option linter.unusedSimpArgs false
set_option linter.unusedVariables false
namespace Go.Kg
open Go
structure TyG (P : Program) (E : Env) : Prop extends TyF P E where
  gT : SliI P E.t_l_spec_Tag E.t_spec_Tag 2 32 (.agg #[.int .u32 0, .slice none 0 0])
  uTag : ∃ fs, P.underlying E.t_spec_Tag = some (.struct fs)
  pTag : (places P E.t_spec_Tag).isSome = true
  gTr : SliI P E.t_l_spec_Tree E.t_spec_Tree 5 88 (.agg #[.int .i64 0, .slice none 0 0, .bool false, .slice none 0 0, .slice none 0 0])
theorem Ext.owned {w w1 w2 : World} {e s : Nat} {v : Value} {xs : List Value} (h : Ext none1 w w1) (ho : Own w1 w.heap.size e s v xs) (hx : Ext (own1 v) w1 w2) : Ext none1 w w2 :=
  ⟨hx.os.trans h.os, hx.tape.trans h.tape, hx.output.trans h.output, Nat.le_trans h.size hx.size, fun k hk _ => by
    rw [hx.block k (Nat.lt_of_lt_of_le hk h.size) (fun ho' => by have := (Own.below ho ho').1; omega)]
    exact h.block k hk (fun h => h)⟩
def UkInv (T : Nat) (w : World) (least : Nat) (us : List (Nat × Value)) (vs : Value) (f : Nat → Value) (w' : World) : Prop :=
  ∃ i, i ≤ us.length ∧ f 19 = .int .i64 i ∧ f 18 = .int .i64 us.length ∧ f 17 = vs ∧ f 5 = .int .u32 least ∧
    Own w' w.heap.size T 2 (f 6) (flatT ((us.take i).foldl (fun out x => insU least x out) [])) ∧ Ext none1 w w'
def SkInv (w3 : World) (out : List (Nat × Value)) (x : Nat) (v6 vs : Value) (b8 least n i : Nat) (f : Nat → Value) (w' : World) : Prop :=
  ∃ j, j ≤ out.length ∧ (∀ j' y, j' < j → out[j']? = some y → y.1 < x) ∧ f 9 = .int .i64 j ∧ f 6 = v6 ∧ f 8 = .pointer (some ⟨b8, 0, none⟩) ∧ f 5 = .int .u32 least ∧ f 17 = vs ∧ f 18 = .int .i64 n ∧ f 19 = .int .i64 i ∧ Ext none1 w3 w'
def SkEnd (w3 : World) (out : List (Nat × Value)) (x : Nat) (v6 vs : Value) (b8 least n i : Nat) (f : Nat → Value) (w' : World) : Prop :=
  ∃ j, j ≤ out.length ∧ (∀ j' y, j' < j → out[j']? = some y → y.1 < x) ∧ (∀ y, out[j]? = some y → ¬ y.1 < x) ∧ f 9 = .int .i64 j ∧ f 6 = v6 ∧ f 8 = .pointer (some ⟨b8, 0, none⟩) ∧ f 5 = .int .u32 least ∧ f 17 = vs ∧ f 18 = .int .i64 n ∧ f 19 = .int .i64 i ∧ Ext none1 w3 w'
def UkRow (T : Nat) (w0 : World) (p : Nat × Value) (vs : Value) (b8 least n i j : Nat) (M : List (Nat × Value)) (f : Nat → Value) (w' : World) : Prop :=
  f 9 = .int .i64 j ∧ f 8 = .pointer (some ⟨b8, 0, none⟩) ∧ f 5 = .int .u32 least ∧ f 17 = vs ∧ f 18 = .int .i64 n ∧ f 19 = .int .i64 i ∧
    Own w' w0.heap.size T 2 (f 6) (flatT M) ∧ Ext none1 w0 w' ∧ w'.heap[b8]? = some (.cells (tc p).toArray T (0, 0)) ∧ ¬ own1 (f 6) b8
def ShInv (T : Nat) (w0 : World) (p : Nat × Value) (vs : Value) (b8 least n i j : Nat) (out : List (Nat × Value)) (f : Nat → Value) (w' : World) : Prop :=
  ∃ k L, j ≤ k ∧ k ≤ out.length ∧ moved (out ++ [(0, Value.slice none 0 0)]) out k L ∧ f 10 = .int .i64 k ∧ UkRow T w0 p vs b8 least n i j L f w'
def ShEnd (T : Nat) (w0 : World) (p : Nat × Value) (vs : Value) (b8 least n i j : Nat) (out : List (Nat × Value)) (f : Nat → Value) (w' : World) : Prop :=
  ∃ L, moved (out ++ [(0, Value.slice none 0 0)]) out j L ∧ UkRow T w0 p vs b8 least n i j L f w'
def UkNew (w3 : World) (out : List (Nat × Value)) (x : Nat) (v6 vs : Value) (b8 least n i j : Nat) (f : Nat → Value) (w' : World) : Prop :=
  ¬ (x < least) ∧ (out[j]?).any (fun y => y.1 == x) = false ∧ f 9 = .int .i64 j ∧ f 6 = v6 ∧ f 8 = .pointer (some ⟨b8, 0, none⟩) ∧ f 5 = .int .u32 least ∧ f 17 = vs ∧ f 18 = .int .i64 n ∧ f 19 = .int .i64 i ∧ Ext none1 w3 w'
def UkPass (w3 : World) (out : List (Nat × Value)) (least : Nat) (p : Nat × Value) (v6 vs : Value) (n i : Nat) (f : Nat → Value) (w' : World) : Prop :=
  insU least p out = out ∧ f 19 = .int .i64 i ∧ f 18 = .int .i64 n ∧ f 17 = vs ∧ f 5 = .int .u32 least ∧ f 6 = v6 ∧ Ext none1 w3 w'
/-- A row's element as a tag. -/
def prOf (c : List Value) : Nat × Value := ((match c[0]? with | some (Value.int _ n) => n.toNat | _ => 0), (c[1]?).getD undef)
section
variable {P : Program} {E : Env} (ht : TyG P E)
include ht
theorem unk_walk (hI : FnIs P E.f_spec_unknown nt_spec_unknown (rs_spec_unknown E) (ir_spec_unknown E)) (least : Nat) (w : World) (fv uv : Value) (ls : Option (List (List Value)))
    (hK : Ret P E.f_spec_known #[fv] w fun r w' => r = .int .u32 least ∧ Ext none1 w w') (ha : ArrE w All 2 uv ls) (us : List (Nat × Value)) (hus : ls.getD [] = us.map tc) (hone : ∀ p ∈ us, p.2.oneCell' = true) :
    Ret P E.f_spec_unknown #[fv, uv] w fun v w' => Own w' w.heap.size E.t_spec_Tag 2 v (flatT (unkS least us)) ∧ Ext none1 w w' := by
  obtain ⟨a, c, rfl, hnone, hmax⟩ := ha.form
  refine hI.call (args := [_, _]) (by simp [nt_spec_unknown]) ?_
  simp [ir_spec_unknown, rs_spec_unknown]
  refine hK.mono ?_
  rintro _ w1 ⟨rfl, he1⟩
  have hlen : (ls.getD []).length = us.length := by rw [hus]; simp
  obtain ⟨Et, j, hu, _, _⟩ := sliSz_spec ht.sU
  simp [len_slice hu]
  rw [st_min (k := .i64) (a := (ls.getD []).length) (b := 32767) (by simp) (by simp)]
  have hc : (ls.getD []).length ≤ c := by
    cases ls with
    | none => simp
    | some ls => obtain ⟨b, o, c', h, _, hn, _⟩ := ha; cases h; exact hn.1
  have hm : (us.take 32767).length = min us.length 32767 := by simp [Nat.min_comm]
  have hm2 : (us.take 32767).length ≤ 32767 := by omega
  have e : (if (32767 : Int) < ((ls.getD []).length : Int) then (32767 : Int) else ((ls.getD []).length : Int)) = ((us.take 32767).length : Int) := by split <;> omega
  have hmc : (us.take 32767).length ≤ c := by omega
  have hmu : (us.take 32767).length ≤ us.length := by omega
  unfold unkS
  have htk : ∀ (i : Nat) (p : Nat × Value), (us.take 32767)[i]? = some p → us[i]? = some p := by
    intro i p h
    rw [List.getElem?_take] at h
    split at h
    · exact h
    · cases h
  generalize hU : us.take 32767 = U at *
  simp [e, slice_hi ht.sU hmc, len_slice hu]
  generalize hvs : (Value.slice (if c = 0 then a else Option.map (fun x => x.add 0) a) U.length c) = vs
  refine cw_blockThen (fun f w' => Own w' w.heap.size E.t_spec_Tag 2 (f 6) (flatT (U.foldl (fun out x => insU least x out) [])) ∧ Ext none1 w w') ?_ ?_
  rotate_left
  · rintro f w' ⟨h1, h2⟩
    simp
    exact ⟨h1, h2⟩
  refine cw_loop (UkInv E.t_spec_Tag w least U vs) (fun f _ => match f 19 with | .int _ i => ((U.length : Int) - i).toNat | _ => 0) ?_ ?_
  · refine ⟨0, by omega, by simp, by simp, by simp, by simp, ?_, he1⟩
    simpa [flatT] using Own.nil w1 w.heap.size E.t_spec_Tag 2
  rintro f w' ⟨i, hi, h19, h18, h17, h5, hown, he⟩
  simp [h19, h18]
  by_cases hlt : i < U.length
  rotate_left
  · refine cw_false (by simp; omega) ?_
    have : i = U.length := by omega
    subst this
    rw [List.take_length] at hown
    simp
    exact ⟨hown, he⟩
  refine cw_true (by simp; omega) ?_
  obtain ⟨p, hp⟩ : ∃ p, U[i]? = some p := ⟨_, List.getElem?_eq_getElem hlt⟩
  cases ls with
  | none => simp at hlen; omega
  | some ls =>
  obtain ⟨bb, oo, cc, hvv, _, ⟨hnn, _⟩, hx⟩ := ha
  cases hvv
  simp only [Option.getD_some] at hlen hus hmax hc e
  have hls : ls[i]? = some (tc p) := by rw [hus]; simp [htk i p hp]
  have hcx := (hx i _ hls).2.ext (K := All) he (fun _ _ _ h => h) trivial
  have hcf := cellsFrom_list0 hcx
  have hcc : c ≠ 0 := by omega
  have hvs' : vs = .slice (some ⟨bb, oo, none⟩) U.length c := by rw [← hvs]; simp [hcc, Addr.add_mk]
  subst hvs'
  have hp1 : p.2.oneCell' = true := hone p (List.mem_of_getElem? (htk i p hp))
  have htl : (tc p).length = 2 := rfl
  rw [htl] at hcf
  have ho2 : allOne (tc p) = true := by simp only [tc, allOne, hp1, Bool.and_true]; rfl
  have hz : zeroOf P E.t_spec_Tag = some (.agg #[.int .u32 0, .slice none 0 0]) := ht.zU
  have hzc : (Value.agg #[.int .u32 0, .slice none 0 0]).cells = #[.int .u32 0, .slice none 0 0] := rfl
  simp [h19, h17, idx?, ht.sU, hlt, Addr.add_mk, ld_agg ht.kU, hcf, hz, hzc, store_agg ht.kU, htl, ho2, putK_blk alloc_new]
  have hov : over #[.int .u32 0, .slice none 0 0] 0 (tc p) = (tc p).toArray := by simp [over, tc]
  rw [hov]
  generalize hw3 : (w'.alloc (.cells #[.int .u32 0, .slice none 0 0] E.t_spec_Tag)).setBlk w'.heap.size (.cells (tc p).toArray E.t_spec_Tag (0, 0)) = w3
  have hb3 : w3.heap[w'.heap.size]? = some (.cells (tc p).toArray E.t_spec_Tag (0, 0)) := by subst hw3; exact setBlk_same alloc_new
  have hx3 : Ext none1 w' w3 := by subst hw3; exact ((Ext.refl none1 w').alloc _).setBlk (.inl (Nat.le_refl _)) _
  have he3 : Ext none1 w w3 := he.trans hx3
  have hsz3 : w'.heap.size < w3.heap.size := lt_of_heap hb3
  have hown3 := Own.ext hown hx3 (fun _ _ h => h)
  have htks : (U.take (i + 1)).foldl (fun out x => insU least x out) [] = insU least p ((U.take i).foldl (fun out x => insU least x out) []) := by
    rw [List.take_add_one, hp]; simp [List.foldl_append]
  have holen : ((U.take i).foldl (fun out x => insU least x out) []).length ≤ i := by
    have key : ∀ (l : List (Nat × Value)) (o : List (Nat × Value)), (l.foldl (fun out x => insU least x out) o).length ≤ o.length + l.length := by
      have one : ∀ (x : Nat × Value) (o : List (Nat × Value)), (insU least x o).length ≤ o.length + 1 := by
        intro x o
        induction o with
        | nil => unfold insU; split <;> simp
        | cons y r ih => unfold insU; simp only []; split
                         · simp
                         · split
                           · simp; omega
                           · split <;> simp
      intro l
      induction l with
      | nil => intro o; simp
      | cons x l ih => intro o; rw [List.foldl_cons]; have := ih (insU least x o); have := one x o; simp; omega
    have := key (U.take i) []
    simp at this
    omega
  generalize hO : (U.take i).foldl (fun out x => insU least x out) [] = out at *
  obtain ⟨v6, hv6⟩ : ∃ v6, f 6 = v6 := ⟨_, rfl⟩
  rw [hv6] at hown3
  have gb : ∀ w', Ext none1 w3 w' → w'.cell? ⟨w'.heap.size, 0, none⟩ = w'.cell? ⟨w'.heap.size, 0, none⟩ := fun _ _ => rfl
  have c80 : ∀ wx, Ext none1 w3 wx → wx.cell? ⟨w'.heap.size, 0, none⟩ = some (.int .u32 p.1) := fun wx h => h.cell (by rw [cell_of_blk hb3]; rfl) (fun h => h)
  obtain ⟨av, cv, hvf, _⟩ := ownT_len hown3
  refine cw_blockThen (SkEnd w3 out p.1 v6 (.slice (some ⟨bb, oo, none⟩) U.length c) w'.heap.size least U.length i) ?_ ?_
  · refine cw_loop (SkInv w3 out p.1 v6 (.slice (some ⟨bb, oo, none⟩) U.length c) w'.heap.size least U.length i) (fun f _ => match f 9 with | .int _ i => ((out.length : Int) - i).toNat | _ => 0) ?_ ?_
    · exact ⟨0, by omega, by omega, by simp, by simp [hv6], by simp, by simp [h5], by simp [h17], by simp [h18], by simp [h19], Ext.refl _ _⟩
    · rintro f w4 ⟨j, hj, hlt2, g9, g6, g8, g5, g17, g18, g19, he4⟩
      have hD := he4.drew
      simp
      refine cw_regH (Ext none1 w3) hD ?_
      by_cases hjl : j < out.length
      · obtain ⟨y, hy⟩ : ∃ y, out[j]? = some y := ⟨_, List.getElem?_eq_getElem hjl⟩
        obtain ⟨g, cap, hvg, hbg, cy0, cy1⟩ := ownT_get hown3 hy
        have cy : ∀ wx, Ext none1 w3 wx → wx.cell? ⟨g, j * 2, none⟩ = some (.int .u32 y.1) := fun wx h => h.cell cy0 (fun h => h)
        simp +contextual [g9, g6, g8, hvg, callLen?_one, call?, len_slice hu, idx?, ht.sU, hjl, Addr.add_mk, ht.u0, ld_scl ht.kU32, cy, c80, cy w4 he4, c80 w4 he4]
        by_cases hky : y.1 < p.1
        · refine cw_true (by simp; omega) ?_
          have ei : IntKind.i64.wrap ((j : Int) + 1) = ((j + 1 : Nat) : Int) := by rw [i64_small (by omega) (by omega)]; rfl
          simp [g9, ei]
          refine ⟨⟨j + 1, by omega, ?_, by simp, by simp [g6, hvg], by simp [g8], by simp [g5], by simp [g17], by simp [g18], by simp [g19], hD⟩, by omega⟩
          intro j' z hj' hz
          by_cases hjj : j' = j
          · subst hjj; rw [hy] at hz; cases hz; exact hky
          · exact hlt2 j' z (by omega) hz
        · refine cw_false (by simp; omega) ?_
          simp
          exact ⟨j, hj, hlt2, fun z hz => by rw [hy] at hz; cases hz; exact hky, by simp [g9], by simp [g6, hvg], by simp [g8], by simp [g5], by simp [g17], by simp [g18], by simp [g19], hD⟩
      · have hjl' : ¬ (j : Int) < (out.length : Int) := by omega
        simp +contextual [g9, g6, g8, hvf, callLen?_one, call?, len_slice hu, hjl, hjl']
        refine cw_false (by simp) ?_
        simp
        have : j = out.length := by omega
        refine ⟨j, hj, hlt2, fun z hz => ?_, by simp [g9], by simp [g6, hvf], by simp [g8], by simp [g5], by simp [g17], by simp [g18], by simp [g19], hD⟩
        rw [List.getElem?_eq_none (by omega)] at hz
        cases hz
  · rintro f w4 ⟨j, hj, hlt2, hge, g9, g6, g8, g5, g17, g18, g19, he4⟩
    have hD := he4.drew
    have hat := insU_at least p out j hj hlt2 hge
    have hi1 : IntKind.i64.wrap ((i : Int) + 1) = ((i + 1 : Nat) : Int) := by rw [i64_small (by omega) (by omega)]; rfl
    rw [cw_seq]
    refine cw_thenX (UkNew w3 out p.1 v6 (.slice (some ⟨bb, oo, none⟩) U.length c) w'.heap.size least U.length i j) (UkPass w3 out least p v6 (.slice (some ⟨bb, oo, none⟩) U.length c) U.length i) 1 ?_ ?_ ?_
    · simp
      refine cw_regH (Ext none1 w3) hD ?_
      by_cases hlow : p.1 < least
      · rw [if_pos hlow] at hat
        have hlow' : (p.1 : Int) < (least : Int) := by omega
        simp +contextual [g9, g6, g8, g5, Addr.add_mk, ht.u0, ld_scl ht.kU32, c80, c80 w4 he4, hlow']
        refine cw_true (by simp) ?_
        simp
        exact ⟨hat, by simp [g19], by simp [g18], by simp [g17], by simp [g5], by simp [g6], hD⟩
      · rw [if_neg hlow] at hat
        have hlow' : ¬ (p.1 : Int) < (least : Int) := by omega
        by_cases hjl : j < out.length
        · obtain ⟨y, hy⟩ : ∃ y, out[j]? = some y := ⟨_, List.getElem?_eq_getElem hjl⟩
          obtain ⟨g, cap, hvg, hbg, cy0, cy1⟩ := ownT_get hown3 hy
          have cy : ∀ wx, Ext none1 w3 wx → wx.cell? ⟨g, j * 2, none⟩ = some (.int .u32 y.1) := fun wx h => h.cell cy0 (fun h => h)
          have hjl' : (j : Int) < (out.length : Int) := by omega
          rw [hy] at hat
          by_cases hky : y.1 = p.1
          · rw [if_pos (by simp [hky])] at hat
            have hky' : ((y.1 : Int) == (p.1 : Int)) = true := by simp [hky]
            simp +contextual [g9, g6, g8, g5, hvg, callLen?_one, call?, len_slice hu, idx?, ht.sU, hjl, hjl', hlow', Addr.add_mk, ht.u0, ld_scl ht.kU32, cy, c80, cy w4 he4, c80 w4 he4, hky', hky]
            refine cw_true (by simp) ?_
            simp
            exact ⟨hat, by simp [g19], by simp [g18], by simp [g17], by simp [g5], by simp [g6, hvg], hD⟩
          · have hky' : ((y.1 : Int) == (p.1 : Int)) = false := by simp; omega
            have hky2 : ¬ (y.1 : Int) = (p.1 : Int) := by omega
            simp +contextual [g9, g6, g8, g5, hvg, callLen?_one, call?, len_slice hu, idx?, ht.sU, hjl, hjl', hlow', Addr.add_mk, ht.u0, ld_scl ht.kU32, cy, c80, cy w4 he4, c80 w4 he4, hky', hky2]
            refine cw_false (by simp) ?_
            simp
            exact ⟨hlow, by simp [hy, hky], by simp [g9], by simp [g6, hvg], by simp [g8], by simp [g5], by simp [g17], by simp [g18], by simp [g19], hD⟩
        · have hjl' : ¬ (j : Int) < (out.length : Int) := by omega
          have hno : out[j]? = none := List.getElem?_eq_none (by omega)
          rw [hno] at hat
          simp +contextual [g9, g6, g8, g5, hvf, callLen?_one, call?, len_slice hu, hjl, hjl', hlow', Addr.add_mk, ht.u0, ld_scl ht.kU32, c80, c80 w4 he4]
          refine cw_false (by simp) ?_
          simp
          exact ⟨hlow, by simp [hno], by simp [g9], by simp [g6, hvf], by simp [g8], by simp [g5], by simp [g17], by simp [g18], by simp [g19], hD⟩
    · rintro f w5 ⟨hnl, hne, k9, k6, k8, k5, k17, k18, k19, he5⟩
      rw [if_neg hnl, if_neg (by simp [hne])] at hat
      have hown5 := Own.ext hown3 he5 (fun _ _ h => h)
      have hbl : bldA? P E.t_spec_Tag = some (.agg #[.int .u32 0, .slice none 0 0]) := by
        obtain ⟨fs, hfs⟩ := ht.uTag
        simp [bldA?, hfs, ht.zU, ht.pTag, Value.cells]
      rw [cw_seq]
      refine cw_then (UkRow E.t_spec_Tag w p (.slice (some ⟨bb, oo, none⟩) U.length c) w'.heap.size least U.length i j (out ++ [(0, Value.slice none 0 0)])) ?_ ?_
      · simp [k6, hbl]
        rw [st_bsl (n := 1) (parts := #[(0, Operand.tmp 60)]) ht.gT (by omega) rfl rfl (by omega) (by omega) rfl]
        have hx6 := (he5.alloc (.cells (flat (#[(0, Operand.tmp 60)].toList.map fun p => evF (upd (upd f 59 v6) 60 (Value.agg #[Value.int IntKind.u32 0, Value.slice none 0 0])) p.2)).toArray E.t_spec_Tag))
        have hown6 := Own.ext hown3 hx6 (fun _ _ h => h)
        have hfl : (flat (#[(0, Operand.tmp 60)].toList.map fun p => evF (upd (upd f 59 v6) 60 (Value.agg #[Value.int IntKind.u32 0, Value.slice none 0 0])) p.2)) = tc (0, Value.slice none 0 0) := by simp [flat, tc, Value.cells]
        rw [hfl] at hx6 hown6 ⊢
        generalize hw6 : w5.alloc (.cells (tc (0, Value.slice none 0 0)).toArray E.t_spec_Tag) = w6 at *
        have hb6 : w6.heap[w5.heap.size]? = some (.cells (tc (0, Value.slice none 0 0)).toArray E.t_spec_Tag (0, 0)) := by subst hw6; exact alloc_new
        have hol : out.length ≤ 32767 := by omega
        refine st_append ht.gT (by omega) (x := .tmp 59) (y := .tmp 61) (base := w.heap.size) (xs := flatT out) (by simpa using hown6) (ad := some ⟨w5.heap.size, 0, none⟩) (m := 1) (c := 1) (news := tc (0, .slice none 0 0)) (by simp) rfl (by simp) ?_ ?_ ?_ ?_ (Nat.le_trans he3.size hx6.size) ?_
        · intro a ha j' u hj'
          cases ha
          rw [Addr.add_mk, cell_of_blk hb6]
          simpa using hj'
        · intro u hu
          simp [tc] at hu
          rcases hu with rfl | rfl <;> rfl
        · simp [maxLen, tc]; omega
        · simp [tc]; omega
        · intro v7 w7 ho7 hg7
          simp at hg7
          have hn6 : ¬ own1 v6 w'.heap.size := fun h => by
            rw [hv6] at hown
            have := (Own.below hown h).2
            omega
          refine ⟨by simp [k9], by simp [k8], by simp [k5], by simp [k17], by simp [k18], by simp [k19], ?_, ?_, ?_, ?_⟩
          · rw [flatT_append, show flatT [((0 : Nat), Value.slice none 0 0)] = tc (0, Value.slice none 0 0) from rfl]; simpa using ho7
          · exact (he3.trans hx6).owned (by simpa using hown6) hg7.ext
          · exact hg7.ext.old (hx6.old hb3 (fun h => h)) hn6
          · simp
            intro h
            rcases hg7.own _ h with h | h
            · exact hn6 h
            · have := hx6.size; omega
      · rintro f w6 hrow
        rw [cw_seq]
        refine cw_then (ShEnd E.t_spec_Tag w p (.slice (some ⟨bb, oo, none⟩) U.length c) w'.heap.size least U.length i j out) ?_ ?_
        · obtain ⟨k9, k8, k5, k17, k18, k19, ho6, hx6, hb6, hn6⟩ := hrow
          obtain ⟨a6, c6, hf6, _⟩ := ownT_len ho6
          have e6 : IntKind.i64.wrap (out.length : Int) = (out.length : Int) := i64_small (by omega) (by omega)
          simp only [List.length_append, List.length_cons, List.length_nil, Nat.zero_add] at hf6
          simp [hf6, len_slice hu, e6]
          refine cw_loop (ShInv E.t_spec_Tag w p (.slice (some ⟨bb, oo, none⟩) U.length c) w'.heap.size least U.length i j out) (fun f _ => match f 10 with | .int _ k => k.toNat | _ => 0) ?_ ?_
          · refine ⟨out.length, _, hj, Nat.le_refl _, ⟨rfl, fun j' => ?_⟩, by simp, by simp [k9], by simp [k8], by simp [k5], by simp [k17], by simp [k18], by simp [k19], by simpa [hf6] using ho6, hx6, hb6, by simpa [hf6] using hn6⟩
            split
            · rfl
            · rename_i h
              rw [List.getElem?_eq_none (by simp <;> omega), if_neg (by simp <;> omega)]
          · rintro f w7 ⟨k, L, hjk, hko, hmv, k10, k9, k8, k5, k17, k18, k19, ho7, hx7, hb7, hn7⟩
            simp [k10, k9]
            by_cases hkj : j < k
            · refine cw_true (by simp; omega) ?_
              obtain ⟨k', rfl⟩ : ∃ k', k = k' + 1 := ⟨k - 1, by omega⟩
              obtain ⟨y, hy⟩ : ∃ y, out[k']? = some y := ⟨_, List.getElem?_eq_getElem (by omega)⟩
              obtain ⟨hmv', hLk⟩ := moved_step hmv hko hy
              have hLl : L.length = out.length + 1 := by have := hmv.1; simpa using this
              obtain ⟨g, cap, hvg, hbg, cy0, cy1⟩ := ownT_get ho7 hLk
              obtain ⟨g', cap', cur, hvg', hbk, hksz, hbg', hown8⟩ := ownT_set ho7 (k := k' + 1) (by omega) y
              rw [hvg] at hvg'
              cases hvg'
              have hy1 : y.2.oneCell' = true := by
                have hmem : ∀ z ∈ out, z.2.oneCell' = true := by
                  intro z hz
                  rw [← hO] at hz
                  have key : ∀ (l o : List (Nat × Value)), (∀ q ∈ l, q.2.oneCell' = true) → (∀ q ∈ o, q.2.oneCell' = true) → ∀ q ∈ l.foldl (fun out x => insU least x out) o, q.2.oneCell' = true := by
                    intro l
                    induction l with
                    | nil => intro o _ h q hq; exact h q hq
                    | cons x l ih => intro o h1 h2 q hq; exact ih _ (fun q hq => h1 q (List.mem_cons_of_mem _ hq)) (fun q hq => (insU_mem hq).elim (fun h => h ▸ h1 x List.mem_cons_self) (h2 q)) q hq
                  refine key _ _ (fun q hq => hone q ?_) (by simp) z hz
                  exact List.mem_of_mem_take (hU ▸ List.mem_of_mem_take hq)
                exact hmem y (List.mem_of_getElem? hy)
              have hcf7 : cellsFrom w7 ⟨g, k' * 2, none⟩ 0 2 = some (tc y) := by
                have h0 : w7.cell? ⟨g, k' * 2 + 0, none⟩ = some (.int .u32 y.1) := cy0
                simp only [cellsFrom, Addr.add_mk, h0, cy1, Nat.zero_add]
                rfl
              have ek : IntKind.i64.wrap (k' : Int) = (k' : Int) := i64_small (by omega) (by omega)
              have hk1 : k' < L.length := by omega
              have hk2 : k' + 1 < L.length := by omega
              have hk2' : (k' : Int) + 1 < (L.length : Int) := by omega
              have hy2 : allOne (tc y) = true := by simp only [tc, allOne, hy1, Bool.and_true]; rfl
              have htn : ((k' : Int) + 1).toNat = k' + 1 := by omega
              have htn2 : (0 : Int) ≤ (k' : Int) + 1 := by omega
              have hty : (tc y).length = 2 := rfl
              simp [k10, hvg, ek, idx?, ht.sU, hk1, hk2, htn, htn2, Addr.add_mk, ld_agg ht.kU, hcf7, store_agg ht.kU, hy2, putK_blk hbk, hty, hksz]
              refine ⟨k', _, by omega, by omega, hmv', by simp, by simp [k9], by simp [k8], by simp [k5], by simp [k17], by simp [k18], by simp [k19], ?_, ?_, ?_, ?_⟩
              · simpa [hvg] using hown8
              · exact hx7.setBlk (.inl hbg) _
              · rw [setBlk_other (by rintro h; exact hn7 (by rw [hvg, h]; rfl))]; exact hb7
              · simpa [hvg] using hn7
            · refine cw_false (by simp; omega) ?_
              have : k = j := by omega
              subst this
              simp
              exact ⟨L, hmv, by simp [k9], by simp [k8], by simp [k5], by simp [k17], by simp [k18], by simp [k19], by simpa using ho7, hx7, hb7, by simpa using hn7⟩
        · rintro f w7 ⟨L, hmv, k9, k8, k5, k17, k18, k19, ho7, hx7, hb7, hn7⟩
          have hLl : L.length = out.length + 1 := by have := hmv.1; simpa using this
          obtain ⟨g, cap, cur, hvg, hbk, hksz, hbg, hown8⟩ := ownT_set ho7 (k := j) (by omega) p
          have hcf7 := cellsFrom_row hb7
          rw [show (tc p).toArray.size = 2 from rfl] at hcf7
          have hjl : j < L.length := by omega
          rw [moved_end hj hmv] at hown8
          rw [← hat] at hown8
          simp [k9, k8, hvg, idx?, ht.sU, hjl, Addr.add_mk, ld_agg ht.kU, hcf7, store_agg ht.kU, ho2, putK_blk hbk, htl, hksz, k19, hi1]
          refine ⟨⟨i + 1, by omega, by simp, by simp [k18], by simp [k17], by simp [k5], ?_, ?_⟩, by omega⟩
          · rw [htks]; simpa [hvg] using hown8
          · exact hx7.setBlk (.inl hbg) _
    · rintro f w5 ⟨hpass, k19, k18, k17, k5, k6, hx⟩
      simp [k19, hi1]
      refine ⟨⟨i + 1, by omega, by simp, by simp [k18], by simp [k17], by simp [k5], ?_, he3.trans hx⟩, by omega⟩
      rw [htks, hpass]
      simpa [k6] using Own.ext hown3 hx (fun _ _ h => h)
end
end Go.Kg

set_option linter.unusedSimpArgs false
set_option linter.unusedVariables false
set_option linter.unusedSectionVars false
namespace Go.Kg
open Go
/-- What is asked of value and part at one field's parts. -/
def ValC (P : Program) (E : Env) (fv : Value) (part : Tr → List UInt8) (ver : Int) (flex : Bool) (w0 : World) : Prop :=
  ∀ (kind : Int) (nul : Bool) w cs t, Ext none1 w0 w → TreeAt w cs t → (valS kind part nul flex t).length ≤ 1099511627776 → Ret P E.f_spec_value #[.int .i64 kind, fv, .bool nul, .int .i64 ver, .bool flex, .agg cs.toArray] w fun v w' => Fresh E.tU8 w v w' (valS kind part nul flex t)
def PartC (P : Program) (E : Env) (fv : Value) (part : Tr → List UInt8) (ver : Int) (flex : Bool) (w0 : World) : Prop :=
  ∀ w cs t, Ext none1 w0 w → TreeAt w cs t → (part t).length ≤ 1099511627776 → Ret P E.f_spec_part #[fv, .int .i64 ver, .bool flex, .agg cs.toArray] w fun v w' => Fresh E.tU8 w v w' (part t)
theorem tree_list' {w : World} {cs : List Value} {t : Tr} (hT : TreeAt w cs t) : ∃ lv ls, cs[3]? = some lv ∧ ArrE w All 5 lv ls ∧ (ls.getD []).length = t.l.length ∧ ∀ (i : Nat) c x, (ls.getD [])[i]? = some c → t.l[i]? = some x → TreeAt w c x := by
  cases hT with
  | mk hn hs ha hl he hu => exact ⟨_, _, rfl, ha, hl, he⟩
theorem tree_list {w : World} {n s b lv u : Value} {t : Tr} (hT : TreeAt w [n, s, b, lv, u] t) : ∃ ls, ArrE w All 5 lv ls ∧ (ls.getD []).length = t.l.length ∧ ∀ (i : Nat) c x, (ls.getD [])[i]? = some c → t.l[i]? = some x → TreeAt w c x := by
  obtain ⟨lv', ls, h, rest⟩ := tree_list' hT
  cases h
  exact ⟨ls, rest⟩
def FlInv (u8 : Nat) (w2 : World) (n : Nat) (vL : Value) (ver : Int) (flex : Bool) (pb : Nat) (pre : List UInt8) (outs : List (List UInt8)) (f : Nat → Value) (w' : World) : Prop :=
  ∃ i, i ≤ n ∧ f 31 = .int .i64 i ∧ f 30 = .int .i64 n ∧ f 10 = vL ∧ f 1 = .int .i64 ver ∧ f 2 = .bool flex ∧ f 4 = .pointer (some ⟨pb, 0, none⟩) ∧ Fresh u8 w2 (f 11) w' (pre ++ (outs.take i).flatten)
/-- An own row of bytes, read. -/
theorem own_bytes {u8 : Nat} {w : World} {base : Nat} {v : Value} {s : List UInt8} (h : OwnB u8 w base v s) : BytesAt w All v s := by
  obtain ⟨n, h1, h2⟩ := h
  have hn : n = s.length := by simpa using h1.symm
  subst hn
  rcases h2 with ⟨rfl, h0⟩ | ⟨g, cap, cur, rfl, hb, hg, hnc, hcm, hcs, htake⟩
  · exact .inl ⟨⟨_, rfl⟩, List.eq_nil_of_length_eq_zero h0⟩
  · refine .inr ⟨g, 0, cap, rfl, hnc, fun _ => trivial, fun i x hx => ?_⟩
    rw [cell_of_blk hg, Nat.zero_add]
    have : (cur.toList.take (s.length * 1))[i]? = some (.int .u8 x.toNat) := by rw [htake]; simp [cellsOf, hx]
    rw [List.getElem?_take] at this
    split at this
    · simpa using this
    · cases this
section
variable {P : Program} {E : Env} (ht : TyF P E)
include ht
theorem c_field (hI : FnIs P E.f_spec_field nt_spec_field (rs_spec_field E) (ir_spec_field E)) (hF : ∀ (n : Int) (k : Nat), k ≤ 8 → SpC P E.tU8 E.f_spec_Fixed [.int .i64 n, .int .i64 k] (fixE k n))
    (hN : ∀ (h : FH) (sv : Value) (v : Int) (w : World) (n s l u : Value) (nul : Bool), Ret P E.f_spec_Field_null #[.agg (h.cells ++ [sv]).toArray, .int .i64 v, .agg #[n, s, .bool nul, l, u]] w fun r w' => r = .bool (h.isNull v nul) ∧ Ext none1 w w')
    (hTh : ∀ (w : World) (v : Value) (ls : Option (List (List Value))), ArrE w All 5 v ls → Ret P E.f_spec_things #[v] w fun r w' => ArrE w All 5 r (ls.map (·.take 32767)) ∧ w' = w)
    (hC : ∀ (flex nul : Bool) (n size : Nat), n ≤ 1099511627776 → size ≤ 8 → SpC P E.tU8 E.f_spec_counted [.bool flex, .bool nul, .int .i64 n, .int .i64 size] (countedS flex nul n size))
    (h : FH) (sv : Value) (part : Tr → List UInt8) (usual : Tr → Bool) (kn : Nat) (ver : Int) (flex : Bool) (w : World) (cs : List Value) (t : Tr) (hT : TreeAt w cs t) (hV : ValC P E sv part ver flex w) (hP : PartC P E sv part ver flex w)
    (hsz : (fieldS ⟨h, part, usual, kn⟩ ver flex t).length ≤ 1099511627776) (hsv : sv.oneCell' = true) :
    Ret P E.f_spec_field #[.agg (h.cells ++ [sv]).toArray, .int .i64 ver, .bool flex, .agg cs.toArray] w fun v w' => Fresh E.tU8 w v w' (fieldS ⟨h, part, usual, kn⟩ ver flex t) := by
  refine hI.call (args := [_, _, _, _]) (by simp [nt_spec_field]) ?_
  obtain ⟨tv, lv, uv, hcs, hs⟩ := tree_box hT
  subst hcs
  have hv : ∀ (a : Array Value), (Value.agg a).cells = a := fun a => rfl
  generalize hw1 : (w.alloc (.cells (h.cells ++ [sv]).toArray E.t_spec_Field)).alloc (.cells [Value.int .i64 t.n, tv, .bool t.nul, lv, uv].toArray E.t_spec_Tree) = w1
  have hE : Ext none1 w w1 := by subst hw1; exact ((Ext.refl none1 w).alloc _).alloc _
  have hb0 : w1.heap[w.heap.size]? = some (.cells (h.cells ++ [sv]).toArray E.t_spec_Field (0, 0)) := by subst hw1; exact alloc_old alloc_new
  have hb1 : w1.heap[w.heap.size + 1]? = some (.cells [Value.int .i64 t.n, tv, .bool t.nul, lv, uv].toArray E.t_spec_Tree (0, 0)) := by
    subst hw1
    have := alloc_new (w := w.alloc (.cells (h.cells ++ [sv]).toArray E.t_spec_Field)) (o := .cells [Value.int .i64 t.n, tv, .bool t.nul, lv, uv].toArray E.t_spec_Tree)
    simpa using this
  have lF : ∀ w', Ext none1 w1 w' → cellsFrom w' ⟨w.heap.size, 0, none⟩ 0 8 = some (h.cells ++ [sv]) := by
    intro w' he
    have := cellsFrom_row (he.old hb0 (fun h => h))
    simpa using this
  have hl5 : [Value.int .i64 t.n, tv, .bool t.nul, lv, uv].length = 5 := by rfl
  have lT : ∀ w', Ext none1 w1 w' → cellsFrom w' ⟨w.heap.size + 1, 0, none⟩ 0 5 = some [Value.int .i64 t.n, tv, .bool t.nul, lv, uv] := by
    intro w' he
    have := cellsFrom_row (he.old hb1 (fun h => h))
    rw [show [Value.int .i64 t.n, tv, .bool t.nul, lv, uv].toArray.size = 5 by rfl] at this
    simpa using this
  have cF : ∀ w', Ext none1 w1 w' → ∀ j u, (h.cells ++ [sv])[j]? = some u → w'.cell? ⟨w.heap.size, j, none⟩ = some u := by
    intro w' he j u hj
    rw [cell_of_blk (he.old hb0 (fun h => h))]; simpa using hj
  simp [ir_spec_field, rs_spec_field, hv, hw1, ld_agg ht.kF, ld_agg ht.kT, lF w1 (Ext.refl _ _), lT w1 (Ext.refl _ _)]
  have hN1 := hN h sv ver w1 (.int .i64 t.n) tv lv uv t.nul
  refine (by simpa using hN1 : Ret P _ _ _ _).mono ?_
  rintro v w2 ⟨rfl, he2⟩
  have k2 := cF w2 he2 0 _ rfl
  simp [ht.f0, Addr.add_mk, ld_scl ht.kInt, k2]
  by_cases k11 : h.kind = 11
  · refine cw_true (by simp [k11]) ?_
    obtain ⟨lsT, haT, hlT, heT⟩ : ∃ ls, ArrE w All 5 lv ls ∧ (ls.getD []).length = t.l.length ∧ ∀ (i : Nat) c x, (ls.getD [])[i]? = some c → t.l[i]? = some x → TreeAt w c x := by
      exact tree_list hT
    have cT3 : w2.cell? ⟨w.heap.size + 1, 3, none⟩ = some lv := by rw [cell_of_blk (he2.old hb1 (fun h => h))]; rfl
    have haT2 := ArrE.ext (K := All) (hE.trans he2) (fun _ _ _ h => h) haT
    simp [ht.t3, Addr.add_mk, ld_scl ht.kLT, cT3]
    refine (hTh w2 lv lsT haT2).mono ?_
    rintro v3 wx ⟨ha3, rfl⟩
    have hwx : Ext none1 w wx := hE.trans he2
    cases hnul : h.isNull ver t.nul
    · refine cw_false (by simp) ?_
      obtain ⟨aL, cL, hvL, hnoneL, hmaxL⟩ := ha3.form
      subst hvL
      have hn3 : ((lsT.map (·.take 32767)).getD []).length = (t.l.take 32767).length := by
        cases lsT with
        | none => simp at hlT; have : t.l = [] := List.eq_nil_of_length_eq_zero (by omega); simp [this]
        | some ls => simp at hlT ⊢; omega
      have hq0 : (t.l.take 32767).length ≤ 32767 := by simp; omega
      generalize hL : t.l.take 32767 = L at *
      have hn4 := hn3
      rw [hn3] at ha3 hmaxL ⊢
      obtain ⟨Et, jt, hut, _, _⟩ := sliSz_spec ht.sT
      simp [len_slice hut]
      refine (by simpa using hC flex false L.length 4 (by omega) (by omega) wx : Ret P _ _ _ _).mono ?_
      intro v4 w4 h4
      have hfs : fieldS ⟨h, part, usual, kn⟩ ver flex t = countedS flex false L.length 4 ++ (L.map (valS h.of_ part false flex)).flatten := by
        simp [fieldS, k11, hnul, List.flatMap, hL]
      rw [hfs] at hsz ⊢
      refine cw_loop (FlInv E.tU8 wx L.length (.slice aL L.length cL) ver flex w.heap.size (countedS flex false L.length 4) (L.map (valS h.of_ part false flex)))
        (fun f _ => match f 31 with | .int _ i => ((L.length : Int) - i).toNat | _ => 0) ?_ ?_
      · refine ⟨0, by omega, by simp, by simp, by simp, by simp, by simp, by simp, ?_⟩
        simpa using h4
      · rintro f w' ⟨i, hi, h31, h30, h10, h1, h2, hf4, hfr⟩
        simp [h31, h30]
        have hwf : Ext none1 w1 w' := he2.trans hfr.2
        by_cases hlt : i < L.length
        · refine cw_true (by simp; omega) ?_
          cases lsT with
          | none => simp at hn4; omega
          | some ls =>
            obtain ⟨bb, oo, cc, hvv, _, _, hx⟩ := ha3
            simp only [Value.slice.injEq] at hvv
            obtain ⟨rfl, hLn, rfl⟩ := hvv
            simp only [Option.map_some, Option.getD_some] at hn4 hx
            obtain ⟨es, hes⟩ : ∃ es, (ls.take 32767)[i]? = some es := ⟨_, List.getElem?_eq_getElem (by omega)⟩
            obtain ⟨y, hy⟩ : ∃ y, L[i]? = some y := ⟨_, List.getElem?_eq_getElem hlt⟩
            have hes' : ls[i]? = some es := by
              have h' := hes
              rw [List.getElem?_take] at h'; split at h'
              · exact h'
              · cases h'
            have hy' : t.l[i]? = some y := by
              have h' := hy
              rw [← hL, List.getElem?_take] at h'; split at h'
              · exact h'
              · cases h'
            have hTy := heT i es y hes' hy'
            obtain ⟨h5, hcx⟩ := hx i es hes
            have hcf : ∀ w', Ext none1 wx w' → cellsFrom w' ⟨bb, oo + i * 5, none⟩ 0 5 = some es := by
              intro w' he
              have := cellsFrom_list0 (hcx.ext (K := All) he (fun _ _ _ h => h) trivial)
              rwa [h5] at this
            have k6 : ∀ w', Ext none1 wx w' → w'.cell? ⟨w.heap.size, 6, none⟩ = some (.int .i64 h.of_) := fun w' he => cF w' (he2.trans he) 6 _ rfl
            have k7 : ∀ w', Ext none1 wx w' → w'.cell? ⟨w.heap.size, 7, none⟩ = some sv := fun w' he => cF w' (he2.trans he) 7 sv rfl
            have kLF := ht.kLF
            have hD := hfr.2.drew
            simp [h31]
            refine cw_regH (Ext none1 wx) hD ?_
            simp +contextual [h31, h10, h1, h2, hf4, ht.f6, ht.f7, Addr.add_mk, ld_scl ht.kInt, ld_scl kLF, k6, k7, idx?, ht.sT, hlt, ld_agg ht.kT, hcf, k6 w' hfr.2, k7 w' hfr.2, hcf w'.drew hD]
            have hget : (L.map (valS h.of_ part false flex))[i]? = some (valS h.of_ part false flex y) := by simp [hy]
            have htk : ((L.map (valS h.of_ part false flex)).take (i + 1)).flatten = ((L.map (valS h.of_ part false flex)).take i).flatten ++ valS h.of_ part false flex y := by
              rw [List.take_add_one, hget]; simp
            have hle : ((L.map (valS h.of_ part false flex)).take (i + 1)).flatten.length ≤ (L.map (valS h.of_ part false flex)).flatten.length := by
              conv => rhs; rw [← List.take_append_drop (i + 1) (L.map (valS h.of_ part false flex)), List.flatten_append, List.length_append]
              omega
            have hbound : (countedS flex false L.length 4 ++ ((L.map (valS h.of_ part false flex)).take i).flatten).length + (valS h.of_ part false flex y).length ≤ 1099511627776 := by
              rw [htk] at hle
              simp only [List.length_append] at hle hsz ⊢
              omega
            refine (by simpa using hV h.of_ false w'.drew es y (hwx.trans hD) (hTy.ext (hwx.trans hD)) (by omega) : Ret P _ _ _ _).mono ?_
            intro v5 w5 h5f
            have hD5 := hD.trans h5f.2
            simp [hD5]
            have hb5 : ∃ K, BytesAt w5 K v5 (valS h.of_ part false flex y) := ⟨_, own_bytes h5f.1⟩
            obtain ⟨K5, hb5⟩ := hb5
            have hfr5 : Fresh E.tU8 wx (f 11) w5 (countedS flex false L.length 4 ++ ((L.map (valS h.of_ part false flex)).take i).flatten) :=
              (hfr.post (Ext.refl none1 w').drew).post h5f.2
            refine st_app_bytes ht.sBs (by simp) hfr5.1 hfr5.2.size hb5 hbound ?_
            intro v6 w6 ho hg
            have h6 := hfr5.grow ho hg
            have ei : IntKind.i64.wrap ((i : Int) + 1) = ((i + 1 : Nat) : Int) := by rw [i64_small (by omega) (by omega)]; rfl
            simp [h6.2, h31, ei]
            refine ⟨⟨i + 1, by omega, by simp, by simp [h30], by simp [h10], by simp [h1], by simp [h2], by simp [hf4], ?_⟩, by omega⟩
            rw [htk, ← List.append_assoc]
            simpa using h6
        · refine cw_false (by simp; omega) ?_
          have : i = L.length := by omega
          subst this
          have h5 := Fresh.pre hwx hfr
          rw [List.take_of_length_le (by simp)] at h5
          simp
          exact h5
    · refine cw_true (by simp) ?_
      obtain ⟨Et, jt, hut, _, _⟩ := sliSz_spec ht.sT
      simp [len_slice hut]
      refine (by simpa using hC flex true 0 4 (by omega) (by omega) wx : Ret P _ _ _ _).mono ?_
      intro v4 w4 h4
      refine cw_loop (fun f w' => f 31 = .int .i64 0 ∧ f 30 = .int .i64 0 ∧ f 11 = v4 ∧ w' = w4) (fun _ _ => 0) (by simp) ?_
      rintro f w' ⟨h31, h30, h11, rfl⟩
      simp [h31, h30]
      refine cw_false (by simp) ?_
      simp [h11]
      have := Fresh.pre hwx h4
      simpa [fieldS, k11, hnul] using this
  refine cw_false (by simp [k11]) ?_
  have k3 := cF w2 he2 3 _ rfl
  have k7 := cF w2 he2 7 sv rfl
  have hT2 := (hT.ext hE).ext he2
  have lT2 := lT w2 he2
  have kLF := ht.kLF
  have fin : ∀ nul, nul = h.isNull ver t.nul → ∀ v w3, Fresh E.tU8 w2 v w3 (valS h.kind part nul flex t) → ¬ (h.kind = 10 ∧ 0 ≤ h.null) → Fresh E.tU8 w v w3 (fieldS ⟨h, part, usual, kn⟩ ver flex t) := by
    rintro nul rfl v w3 hfr hne
    have := Fresh.pre (hE.trans he2) hfr
    simpa [fieldS, k11, hne] using this
  by_cases a : h.kind = 10
  · by_cases b : 0 ≤ h.null
    · simp [ht.f0, ht.f3, Addr.add_mk, ld_scl ht.kInt, k2, k3, a, b]
      refine cw_true (by simp) ?_
      simp
      cases hnul : h.isNull ver t.nul
      · refine cw_false (by simp) ?_
        simp
        refine cw_regH (Ext none1 w2) (Ext.refl none1 w2).drew ?_
        have hD := (Ext.refl none1 w2).drew
        have k7' : ∀ w', Ext none1 w2 w' → w'.cell? ⟨w.heap.size, 7, none⟩ = some sv := fun w' he => cF w' (he2.trans he) 7 sv rfl
        have lT' : ∀ w', Ext none1 w2 w' → cellsFrom w' ⟨w.heap.size + 1, 0, none⟩ 0 5 = some [Value.int .i64 t.n, tv, .bool t.nul, lv, uv] := fun w' he => lT w' (he2.trans he)
        simp +contextual [ht.f7, Addr.add_mk, ld_scl kLF, k7', k7, ld_agg ht.kT, lT', lT' w2.drew hD]
        refine (by simpa using hF 1 1 (by omega) w2.drew : Ret P _ _ _ _).mono ?_
        intro v3 w3 h3
        have hE3 := hD.trans h3.2
        simp [hE3]
        have hlen : (fixE 1 1).length + (part t).length ≤ 1099511627776 := by
          simpa [fieldS, k11, a, b, hnul] using hsz
        refine (by simpa using hP w3 _ t ((hE.trans he2).trans hE3) (hT2.ext hE3) (by omega) : Ret P _ _ _ _).mono ?_
        intro v4 w4 h4
        have hE4 := hE3.trans h4.2
        simp [hE4]
        have hb4 : ∃ K, BytesAt w4 K v4 (part t) := ⟨_, own_bytes h4.1⟩
        obtain ⟨K4, hb4⟩ := hb4
        refine st_app_bytes ht.sBs (by simp) (Own.ext h3.1 h4.2 (fun _ _ h => h)) (h3.post h4.2).2.size hb4 hlen ?_
        intro v5 w5 ho hg
        have h5 := Fresh.pre (hE.trans he2) (Fresh.pre hD ((h3.post h4.2).grow ho hg))
        have hE5 : Ext none1 w2 w5 := hD.trans ((h3.post h4.2).grow ho hg).2
        simp [hE5]
        simpa [fieldS, k11, a, b, hnul] using h5
      · refine cw_true (by simp) ?_
        simp
        refine (by simpa using hF (-1) 1 (by omega) w2 : Ret P _ _ _ _).mono ?_
        intro v3 w3 h3
        have := Fresh.pre (hE.trans he2) h3
        simpa [fieldS, k11, a, b, hnul] using this
    · simp [ht.f0, ht.f3, Addr.add_mk, ld_scl ht.kInt, k2, k3, a, b]
      refine cw_false (by simp) ?_
      simp [ht.f0, ht.f7, Addr.add_mk, ld_scl ht.kInt, ld_scl kLF, k2, k7, ld_agg ht.kT, lT2]
      refine (by simpa using hV h.kind (h.isNull ver t.nul) w2 _ t (hE.trans he2) hT2 (by simpa [fieldS, k11, b] using hsz) : Ret P _ _ _ _).mono ?_
      intro v3 w3 h3
      exact fin _ rfl v3 w3 h3 (by simp [b])
  · simp [ht.f0, ht.f3, Addr.add_mk, ld_scl ht.kInt, k2, k3, a]
    refine cw_false (by simp) ?_
    simp [ht.f0, ht.f7, Addr.add_mk, ld_scl ht.kInt, ld_scl kLF, k2, k7, ld_agg ht.kT, lT2]
    refine (by simpa using hV h.kind (h.isNull ver t.nul) w2 _ t (hE.trans he2) hT2 (by simpa [fieldS, k11, a] using hsz) : Ret P _ _ _ _).mono ?_
    intro v3 w3 h3
    exact fin _ rfl v3 w3 h3 (by simp [a])
end
end Go.Kg

set_option linter.unusedSimpArgs false
set_option linter.unusedVariables false
namespace Go.Kg
open Go
theorem insU_map {α β : Type} (g : α → β) (least : Nat) (x : Nat × α) : ∀ out : List (Nat × α), insU least (x.1, g x.2) (out.map fun z => (z.1, g z.2)) = (insU least x out).map fun z => (z.1, g z.2)
  | [] => by unfold insU; split <;> simp
  | y :: r => by
    have ih := insU_map g least x r
    unfold insU
    split
    · rfl
    · simp only [List.map_cons]
      split
      · rw [ih]; rfl
      · split <;> rfl
theorem unkS_map {α β : Type} (g : α → β) (least : Nat) (l : List (Nat × α)) : unkS least (l.map fun z => (z.1, g z.2)) = (unkS least l).map fun z => (z.1, g z.2) := by
  have key : ∀ (l o : List (Nat × α)), (l.map fun z => (z.1, g z.2)).foldl (fun out x => insU least x out) (o.map fun z => (z.1, g z.2)) = (l.foldl (fun out x => insU least x out) o).map fun z => (z.1, g z.2) := by
    intro l
    induction l with
    | nil => intro o; rfl
    | cons x l ih => intro o; rw [List.map_cons, List.foldl_cons, List.foldl_cons, insU_map g, ih]
  unfold unkS
  rw [← List.map_take]
  exact key _ []
theorem unkS_mem {α : Type} {least : Nat} {l : List (Nat × α)} {z : Nat × α} (h : z ∈ unkS least l) : z ∈ l := by
  have key : ∀ (l o : List (Nat × α)), z ∈ l.foldl (fun out x => insU least x out) o → z ∈ l ∨ z ∈ o := by
    intro l
    induction l with
    | nil => intro o h; exact .inr h
    | cons x l ih =>
      intro o h
      rcases ih _ h with h | h
      · exact .inl (List.mem_cons_of_mem _ h)
      · rcases insU_mem h with rfl | h
        · exact .inl List.mem_cons_self
        · exact .inr h
  rcases key _ _ h with h | h
  · exact List.mem_of_mem_take h
  · cases h
theorem unkS_len {α : Type} {least : Nat} {l : List (Nat × α)} : (unkS least l).length ≤ 32767 := by
  have one : ∀ (x : Nat × α) (o : List (Nat × α)), (insU least x o).length ≤ o.length + 1 := by
    intro x o
    induction o with
    | nil => unfold insU; split <;> simp
    | cons y r ih =>
      unfold insU; simp only []; split
      · simp
      · split
        · simp; omega
        · split <;> simp
  have key : ∀ (l o : List (Nat × α)), (l.foldl (fun out x => insU least x out) o).length ≤ List.length o + l.length := by
    intro l
    induction l with
    | nil => intro o; simp
    | cons x l ih => intro o; rw [List.foldl_cons]; have := ih (insU least x o); have := one x o; simp; omega
  have h : (unkS least l).length ≤ [].length + (l.take 32767).length := key (l.take 32767) []
  simp at h
  omega
def UnkC (P : Program) (E : Env) : Prop := ∀ w0 w fv F uv u, Ext none1 w0 w → FsAt w fv F → (∀ h ∈ F.heads, FH.ok h) → UAt w0 uv u →
  Ret P E.f_spec_unknown #[fv, uv] w fun v w' => UAtK w' (fun b => b < w0.heap.size ∨ w.heap.size ≤ b) v (unkS (knownL F.heads) u) ∧ Ext none1 w w'
def KnownC (P : Program) (E : Env) : Prop := ∀ w fv F, FsAt w fv F → (∀ h ∈ F.heads, FH.ok h) → Ret P E.f_spec_known #[fv] w fun r w' => r = .int .u32 (knownL F.heads) ∧ Ext none1 w w'
def AtC (P : Program) (E : Env) : Prop := ∀ w cs t, TreeAt w cs t → ∀ i : Nat, i ≤ 1099511627776 → Ret P E.f_spec_at #[.agg cs.toArray, .int .i64 i] w fun r w' => ∃ cs', r = .agg cs'.toArray ∧ TreeAt w' cs' (t.at i) ∧ Ext none1 w w'
def FixedC (P : Program) (E : Env) : Prop := ∀ (n : Int) (k : Nat), k ≤ 8 → SpC P E.tU8 E.f_spec_Fixed [.int .i64 n, .int .i64 k] (fixE k n)
def WidthC (P : Program) (E : Env) : Prop := ∀ (kind : Int) (w : World), Ret P E.f_spec_width #[.int .i64 kind] w fun v w' => v = .int .i64 (widthS kind) ∧ w' = w
def SameC (P : Program) (E : Env) : Prop := ∀ w K K' va vb s t, BytesAt w K va s → BytesAt w K' vb t → s.length ≤ 1099511627776 → Ret P E.f_spec_Same #[va, vb] w fun r w' => r = .bool (s == t) ∧ Ext none1 w w'
/-- usual, of one field. -/
def UsC (P : Program) (E : Env) (x : FE) (sub : FS) : Prop := ∀ w sv cs t, FsAt w sv sub → TreeAt w cs t → Ret P E.f_spec_usual #[.agg (x.h.cells ++ [sv]).toArray, .agg cs.toArray] w fun r w' => r = .bool (usualS x t) ∧ Ext none1 w w'
theorem tc_prOf {n : Nat} {bv : Value} : tc (prOf [.int .u32 n, bv]) = [.int .u32 n, bv] := by simp [tc, prOf]
section
variable {P : Program} {E : Env} (ht : TyG P E)
include ht
theorem c_unknown (hI : FnIs P E.f_spec_unknown nt_spec_unknown (rs_spec_unknown E) (ir_spec_unknown E)) (hK : KnownC P E) : UnkC P E := by
  intro w0 w fv F uv u hx0 hF hok hu
  obtain ⟨ls, ha0, hlen, hget⟩ := hu
  have ha := ArrE.ext (K := All) hx0 (fun _ _ _ h => h) ha0
  have hall : ∀ (i : Nat) c, (ls.getD [])[i]? = some c → ∃ x bv, u[i]? = some x ∧ c = [.int .u32 x.1, bv] ∧ x.1 < 4294967296 ∧ BytesAt w0 All bv x.2 := by
    intro i c hc
    have hlt := (List.getElem?_eq_some_iff.1 hc).1
    obtain ⟨x, hx⟩ : ∃ x, u[i]? = some x := ⟨_, List.getElem?_eq_getElem (by omega)⟩
    obtain ⟨bv, h1, h2, h3⟩ := hget i c x hc hx
    exact ⟨x, bv, hx, h1, h2, h3⟩
  have hus : ls.getD [] = ((ls.getD []).map prOf).map tc := by
    apply List.ext_getElem?
    intro i
    simp only [List.getElem?_map]
    cases hc : (ls.getD [])[i]? with
    | none => rfl
    | some c =>
      obtain ⟨x, bv, _, rfl, _⟩ := hall i c hc
      simp [tc_prOf]
  -- pairs
  let zs : List (Nat × (Value × List UInt8)) := List.zipWith (fun c x => (x.1, ((prOf c).2, x.2))) (ls.getD []) u
  have hz1 : (zs.map fun z => (z.1, z.2.1)) = (ls.getD []).map prOf := by
    apply List.ext_getElem?
    intro i
    simp only [List.getElem?_map, zs, List.getElem?_zipWith]
    cases hc : (ls.getD [])[i]? with
    | none => rfl
    | some c =>
      obtain ⟨x, bv, hx, rfl, _⟩ := hall i c hc
      simp [hx, prOf]
  have hz2 : (zs.map fun z => (z.1, z.2.2)) = u := by
    apply List.ext_getElem?
    intro i
    simp only [List.getElem?_map, zs, List.getElem?_zipWith]
    cases hc : (ls.getD [])[i]? with
    | none =>
      have : ¬ i < (ls.getD []).length := fun h => by rw [List.getElem?_eq_getElem h] at hc; cases hc
      rw [List.getElem?_eq_none (l := u) (by omega)]
      rfl
    | some c =>
      obtain ⟨x, bv, hx, rfl, _⟩ := hall i c hc
      simp [hx]
  have hzp : ∀ z ∈ zs, z.1 < 4294967296 ∧ BytesAt w0 All z.2.1 z.2.2 := by
    intro z hz
    obtain ⟨i, hi, hzi⟩ := List.getElem_of_mem hz
    have hzi' : zs[i]? = some z := by rw [List.getElem?_eq_getElem hi, hzi]
    simp only [zs, List.getElem?_zipWith] at hzi'
    cases hc : (ls.getD [])[i]? with
    | none => rw [hc] at hzi'; simp at hzi'
    | some c =>
      obtain ⟨x, bv, hx, rfl, h2, h3⟩ := hall i c hc
      rw [hc, hx] at hzi'
      simp at hzi'
      subst hzi'
      exact ⟨h2, by simpa [prOf] using h3⟩
  have hone : ∀ p ∈ (ls.getD []).map prOf, p.2.oneCell' = true := by
    intro p hp
    rw [← hz1] at hp
    obtain ⟨z, hz, rfl⟩ := List.mem_map.1 hp
    obtain ⟨a, c, h, _⟩ := (hzp z hz).2.len
    show z.2.1.oneCell' = true
    rw [h]; rfl
  refine (unk_walk ht hI (knownL F.heads) w fv uv ls (hK w fv F hF hok) ha _ hus hone).mono ?_
  rintro v w' ⟨ho, he⟩
  refine ⟨?_, he⟩
  rw [← hz1, unkS_map] at ho
  have hlen' : (unkS (knownL F.heads) zs).length ≤ 32767 := unkS_len
  have hmem : ∀ z ∈ unkS (knownL F.heads) zs, z.1 < 4294967296 ∧ BytesAt w0 All z.2.1 z.2.2 := fun z hz => hzp z (unkS_mem hz)
  rw [← hz2, unkS_map]
  generalize unkS (knownL F.heads) zs = os at *
  obtain ⟨n, h1, h2⟩ := ho
  have hn : n = os.length := by simp at h1; omega
  subst hn
  rcases h2 with ⟨rfl, h0⟩ | ⟨g, cap, cur, rfl, hb, hg, hnc, hcm, hcs, htake⟩
  · have : os = [] := List.eq_nil_of_length_eq_zero h0
    subst this
    exact ⟨none, rfl, rfl, by simp⟩
  · refine ⟨some ((os.map fun z => (z.1, z.2.1)).map tc), ⟨g, 0, cap, by simp, .inr hb, ⟨by simp; exact hnc, by simp; omega⟩, ?_⟩, by simp, ?_⟩
    · intro i cs hi
      simp only [List.getElem?_map, Option.map_map, Option.map_eq_some_iff] at hi
      obtain ⟨z, hz, rfl⟩ := hi
      refine ⟨rfl, ?_⟩
      have hzz : (os.map fun z => (z.1, z.2.1))[i]? = some (z.1, z.2.1) := by simp [hz]
      obtain ⟨g', cap', hv', _, a1, a2⟩ := ownT_get (os := os.map fun z => (z.1, z.2.1)) ⟨os.length, by simp, .inr ⟨g, cap, cur, rfl, hb, hg, hnc, hcm, hcs, htake⟩⟩ hzz
      simp only [Value.slice.injEq, Option.some.injEq, Addr.mk.injEq] at hv'
      obtain ⟨⟨rfl, _⟩, _⟩ := hv'
      intro j u hj
      match j, hj with
      | 0, hj => simp [tc] at hj; subst hj; simpa using a1
      | 1, hj => simp [tc] at hj; subst hj; simpa using a2
      | j + 2, hj => simp [tc] at hj
    · intro i c x hc hx
      simp only [Option.getD_some, List.getElem?_map, Option.map_map, Option.map_eq_some_iff] at hc hx
      obtain ⟨z, hz, rfl⟩ := hc
      obtain ⟨z', hz', rfl⟩ := hx
      rw [hz] at hz'
      cases hz'
      have := hmem z (List.mem_of_getElem? hz)
      exact ⟨z.2.1, rfl, this.1, ((this.2.mono (K' := fun b => b < w0.heap.size ∨ w.heap.size ≤ b) (fun b hb _ => .inl hb)).ext (hx0.trans he) (fun _ _ _ h => h))⟩
end
end Go.Kg

set_option linter.unusedSimpArgs false
set_option linter.unusedVariables false
namespace Go.Kg
open Go
theorem FS.list_get {ver : Int} {flex : Bool} : ∀ {F : FS} {i : Nat} {y : FE}, (F.list ver flex)[i]? = some y → ∃ h s, F.heads[i]? = some h ∧ F.subs[i]? = some s ∧
    y = ⟨h, partL (s.list ver flex) ver flex, usualL (s.list ver flex), knownL ((s.list ver flex).map (·.h))⟩
  | .nil, i, y, h => by simp [FS.list] at h
  | .cons h s r, 0, y, hy => by simp [FS.list] at hy; exact ⟨h, s, rfl, rfl, hy.symm⟩
  | .cons h s r, i + 1, y, hy => by
    rw [FS.list, List.getElem?_cons_succ] at hy
    obtain ⟨h', s', h1, h2, h3⟩ := FS.list_get hy
    exact ⟨h', s', by simpa [FS.heads] using h1, by simpa [FS.subs] using h2, h3⟩
theorem FS.list_len {ver : Int} {flex : Bool} : ∀ F : FS, (F.list ver flex).length = F.len
  | .nil => rfl
  | .cons h s r => by simp [FS.list, FS.len, FS.list_len r]
theorem FS.list_heads {ver : Int} {flex : Bool} : ∀ F : FS, (F.list ver flex).map (·.h) = F.heads
  | .nil => rfl
  | .cons h s r => by simp [FS.list, FS.heads, FS.list_heads r]
theorem all_zipIdx {α : Type} (p : α → Nat → Bool) : ∀ (l : List α) (k : Nat), (l.zipIdx k).all (fun x => p x.1 x.2) = true ↔ ∀ i y, l[i]? = some y → p y (k + i) = true
  | [], k => by simp
  | x :: l, k => by
    rw [List.zipIdx_cons, List.all_cons, Bool.and_eq_true, all_zipIdx p l (k + 1)]
    constructor
    · rintro ⟨h1, h2⟩ i y hy
      cases i with
      | zero => simp at hy; subst hy; exact h1
      | succ i => have := h2 i y (by simpa using hy); rwa [show k + (i + 1) = k + 1 + i by omega]
    · intro h
      refine ⟨h 0 x rfl, fun i y hy => ?_⟩
      have := h (i + 1) y (by simpa using hy)
      rwa [show k + (i + 1) = k + 1 + i by omega] at this
theorem usualL_iff (l : List FE) (t : Tr) : usualL l t = true ↔ (∀ (i : Nat) y, l[i]? = some y → usualS y (t.at i) = true) ∧ (unkS (knownL (l.map (·.h))) t.u).isEmpty = true := by
  unfold usualL
  rw [Bool.and_eq_true]
  refine and_congr_left fun _ => ?_
  have := all_zipIdx (fun (x : FE) i => usualS x (t.at i)) l 0
  simpa using this
def UuInv (w1 : World) (s : List UInt8) (sv : Value) (b0 b1 : Nat) (f : Nat → Value) (w' : World) : Prop :=
  ∃ i, i ≤ s.length ∧ ((s.take i).take 16).all (· == 0) = true ∧ f 24 = .int .i64 i ∧ f 23 = .int .i64 s.length ∧ f 22 = sv ∧ Ext none1 w1 w'
def UsInv (w1 : World) (L : List FE) (t : Tr) (sv : Value) (b0 b1 : Nat) (f : Nat → Value) (w' : World) : Prop :=
  ∃ i, i ≤ L.length ∧ (∀ (j : Nat) y, j < i → L[j]? = some y → usualS y (t.at j) = true) ∧ f 59 = .int .i64 i ∧ f 58 = .int .i64 L.length ∧ f 57 = sv ∧ f 2 = .pointer (some ⟨b0, 0, none⟩) ∧ f 3 = .pointer (some ⟨b1, 0, none⟩) ∧ Ext none1 w1 w'
theorem tree_u {w : World} {n s b l uv : Value} {t : Tr} (hT : TreeAt w [n, s, b, l, uv] t) : UAt w uv t.u := by
  have key : ∀ cs, TreeAt w cs t → ∃ uv, cs[4]? = some uv ∧ UAt w uv t.u := by
    intro cs h
    cases h with
    | mk hn hs ha hl he hu => exact ⟨_, rfl, hu⟩
  obtain ⟨uv', h, hu⟩ := key _ hT
  cases h
  exact hu
section
variable {P : Program} {E : Env} (ht : TyG P E)
include ht
theorem c_usual (hI : FnIs P E.f_spec_usual nt_spec_usual (rs_spec_usual E) (ir_spec_usual E)) (hAt : AtC P E) (hUn : UnkC P E) (hF : FixedC P E) (hWd : WidthC P E) (hSm : SameC P E) (h : FH) (sub : FS) (ver : Int) (flex : Bool)
    (part : Tr → List UInt8) (kn : Nat) (hok : ∀ g ∈ sub.heads, FH.ok g) (hsub : ∀ (i : Nat) y s, (sub.list ver flex)[i]? = some y → sub.subs[i]? = some s → UsC P E y s) : UsC P E ⟨h, part, usualL (sub.list ver flex), kn⟩ sub := by
  intro w sv cs t hSv hT
  refine hI.call (args := [_, _]) (by simp [nt_spec_usual]) ?_
  obtain ⟨tv, lv, uv, hcs, hs⟩ := tree_box hT
  subst hcs
  have hv : ∀ (a : Array Value), (Value.agg a).cells = a := fun a => rfl
  show Ir.cw P (ir_spec_usual E) _ (frame0 [.agg (h.cells ++ [sv]).toArray, .agg [Value.int .i64 t.n, tv, .bool t.nul, lv, uv].toArray]) w
  generalize hw1 : (w.alloc (.cells (h.cells ++ [sv]).toArray E.t_spec_Field)).alloc (.cells [Value.int .i64 t.n, tv, .bool t.nul, lv, uv].toArray E.t_spec_Tree) = w1
  have hE : Ext none1 w w1 := by subst hw1; exact ((Ext.refl none1 w).alloc _).alloc _
  have hb0 : w1.heap[w.heap.size]? = some (.cells (h.cells ++ [sv]).toArray E.t_spec_Field (0, 0)) := by subst hw1; exact alloc_old alloc_new
  have hb1 : w1.heap[w.heap.size + 1]? = some (.cells [Value.int .i64 t.n, tv, .bool t.nul, lv, uv].toArray E.t_spec_Tree (0, 0)) := by
    subst hw1
    have := alloc_new (w := w.alloc (.cells (h.cells ++ [sv]).toArray E.t_spec_Field)) (o := .cells [Value.int .i64 t.n, tv, .bool t.nul, lv, uv].toArray E.t_spec_Tree)
    simpa using this
  have cF : ∀ w', Ext none1 w1 w' → ∀ j u, (h.cells ++ [sv])[j]? = some u → w'.cell? ⟨w.heap.size, j, none⟩ = some u := by
    intro w' he j u hj
    rw [cell_of_blk (he.old hb0 (fun h => h))]; simpa using hj
  have cT : ∀ w', Ext none1 w1 w' → ∀ j u, [Value.int .i64 t.n, tv, .bool t.nul, lv, uv][j]? = some u → w'.cell? ⟨w.heap.size + 1, j, none⟩ = some u := by
    intro w' he j u hj
    rw [cell_of_blk (he.old hb1 (fun h => h))]; simpa using hj
  have r0 := Ext.refl none1 w1
  have k0 := cF w1 r0 0 _ rfl
  have hT1 := hT.ext hE
  have hs1 := hs.ext (K := All) hE (fun _ _ _ h => h)
  simp [ir_spec_usual, rs_spec_usual, hv, hw1, ht.f0, Addr.add_mk, ld_scl ht.kInt, k0, bin?]
  by_cases e0 : h.kind = 0
  · refine cw_true (by simp [e0]) ?_
    have c0 := cT w1 r0 0 _ rfl
    have c5 := cF w1 r0 5 _ rfl
    simp [ht.t0, ht.f5, Addr.add_mk, ld_scl ht.kI64, c0, c5, bin?, i64_and1, usualS, e0, hE]
  refine cw_false (by simp [e0]) ?_
  simp [bin?]
  by_cases e7 : h.kind = 7
  · refine cw_true (by simp [e7]) ?_
    have c1 := cT w1 r0 1 _ rfl
    obtain ⟨a, c, rfl, hc⟩ := hs1.len
    simp [ht.t1, Addr.add_mk, ld_scl ht.kBs, c1, len_slice ht.uBs]
    have hval : usualS ⟨h, part, usualL (sub.list ver flex), kn⟩ t = (t.s.take 16).all (· == 0) := by simp [usualS, e7]
    rw [hval]
    refine cw_loop (UuInv w1 t.s (.slice a t.s.length c) w.heap.size (w.heap.size + 1)) (fun f _ => match f 24 with | .int _ i => ((t.s.length : Int) - i).toNat | _ => 0) ?_ ?_
    · exact ⟨0, by omega, by simp, by simp, by simp, by simp, r0⟩
    · rintro f w' ⟨i, hi, hz, h24, h23, h22, he⟩
      simp [h24, h23]
      by_cases hlt : i < t.s.length
      · refine cw_true (by simp; omega) ?_
        obtain ⟨x, hx⟩ : ∃ x, t.s[i]? = some x := ⟨_, List.getElem?_eq_getElem hlt⟩
        have ei : IntKind.i64.wrap ((i : Int) + 1) = ((i + 1 : Nat) : Int) := by
          rw [i64_small (by omega) ?_]
          · rfl
          · have := hT.slen
            omega
        rcases hs1 with ⟨_, h0⟩ | ⟨b, o, c', hv1, _, _, hc1⟩
        · rw [h0] at hx; simp at hx
        cases hv1
        have hcx := he.cell (hc1 i x hx) (fun h => h)
        simp [h24, h22, idx?, ht.sBs.siz, hlt, Addr.add_mk, ld_scl ht.kU8, hcx]
        by_cases h16 : i < 16
        · have h16' : (i : Int) < 16 := by omega
          by_cases hx0 : x = 0
          · subst hx0
            simp [h16']
            refine cw_false (by simp) ?_
            simp [h24, ei]
            refine ⟨⟨i + 1, by omega, ?_, by simp, by simp [h23], by simp [h22], he⟩, by omega⟩
            rw [show t.s.take (i + 1) = t.s.take i ++ [0] by rw [List.take_add_one, hx]; rfl]
            rw [List.take_take, show min 16 i = i by omega] at hz
            rw [List.take_of_length_le (by simp; omega), List.all_append, hz]
            rfl
          · have hx0' : ¬ (x.toNat : Int) = 0 := by
              intro h'; apply hx0; apply UInt8.toNat_inj.1; simpa using h'
            simp [h16', hx0']
            refine cw_true (by simp; intro h'; exact hx0 (UInt8.toNat_inj.1 (by simpa using h'))) ?_
            simp
            refine ⟨⟨x, ?_, hx0⟩, hE.trans he⟩
            rw [List.mem_take_iff_getElem]
            obtain ⟨hi', hxe⟩ := List.getElem?_eq_some_iff.1 hx
            exact ⟨i, by omega, hxe⟩
        · have h16' : ¬ (i : Int) < 16 := by omega
          simp [h16']
          refine cw_false (by simp) ?_
          simp [h24, ei]
          refine ⟨⟨i + 1, by omega, ?_, by simp, by simp [h23], by simp [h22], he⟩, by omega⟩
          rw [List.take_take] at hz ⊢
          rw [show min 16 i = 16 by omega] at hz
          rw [show min 16 (i + 1) = 16 by omega]
          exact hz
      · refine cw_false (by simp; omega) ?_
        have : i = t.s.length := by omega
        subst this
        rw [List.take_length] at hz
        simp only [inBlockF_exit, if_true, thenF_normal, cw_seq, cw_reg, cw_exit]
        simp
        refine ⟨?_, hE.trans he⟩
        simpa using hz
  refine cw_false (by simp [e7]) ?_
  have c3 := cF w1 r0 3 _ rfl
  by_cases e89 : h.kind = 8 ∨ h.kind = 9
  · have hval : usualS ⟨h, part, usualL (sub.list ver flex), kn⟩ t = (if 0 ≤ h.null then t.nul else t.s.isEmpty) := by rcases e89 with e | e <;> simp [usualS, e]
    rw [hval]
    have c1 := cT w1 r0 1 _ rfl
    have c2 := cT w1 r0 2 _ rfl
    obtain ⟨a, c, rfl, hc⟩ := hs1.len
    rcases e89 with e | e
    · simp [e, bin?]
      refine cw_true (by simp) ?_
      simp
      refine cw_true (by simp) ?_
      simp [ht.f3, Addr.add_mk, ld_scl ht.kInt, c3]
      by_cases hn : 0 ≤ h.null
      · refine cw_true (by simp [hn]) ?_
        simp [ht.t2, Addr.add_mk, ld_scl ht.kB, c2, hn, hE]
      · refine cw_false (by simp [hn]) ?_
        simp [ht.t1, Addr.add_mk, ld_scl ht.kBs, c1, len_slice ht.uBs, bin?, hn, hE]
        cases t.s <;> simp <;> omega
    · simp [e, bin?]
      refine cw_false (by simp) ?_
      simp [bin?]
      refine cw_true (by simp) ?_
      simp [ht.f3, Addr.add_mk, ld_scl ht.kInt, c3]
      by_cases hn : 0 ≤ h.null
      · refine cw_true (by simp [hn]) ?_
        simp [ht.t2, Addr.add_mk, ld_scl ht.kB, c2, hn, hE]
      · refine cw_false (by simp [hn]) ?_
        simp [ht.t1, Addr.add_mk, ld_scl ht.kBs, c1, len_slice ht.uBs, bin?, hn, hE]
        cases t.s <;> simp <;> omega
  have e8 : ¬ h.kind = 8 := fun e => e89 (.inl e)
  have e9 : ¬ h.kind = 9 := fun e => e89 (.inr e)
  simp [bin?]
  refine cw_false (by simp [e8]) ?_
  simp [bin?]
  refine cw_false (by simp [e9]) ?_
  simp [bin?]
  by_cases e11 : h.kind = 11
  · refine cw_true (by simp [e11]) ?_
    have hval : usualS ⟨h, part, usualL (sub.list ver flex), kn⟩ t = t.l.isEmpty := by simp [usualS, e11]
    rw [hval]
    have c3 := cT w1 r0 3 _ rfl
    obtain ⟨lsT, haT, hlT, heT⟩ := tree_list hT1
    obtain ⟨aL, cL, rfl, _⟩ := haT.form
    obtain ⟨Et, jt, hut, _, _⟩ := sliSz_spec ht.sT
    simp [ht.t3, Addr.add_mk, ld_scl ht.kLT, c3, len_slice hut, bin?, hE, hlT]
    cases t.l <;> simp <;> omega
  refine cw_false (by simp [e11]) ?_
  simp [bin?]
  by_cases e10 : h.kind = 10
  · refine cw_true (by simp [e10]) ?_
    have hval : usualS ⟨h, part, usualL (sub.list ver flex), kn⟩ t = usualL (sub.list ver flex) t := by simp [usualS, e10]
    rw [hval]
    have c7 := cF w1 r0 7 sv rfl
    obtain ⟨ls, haS, hcS⟩ := hSv.ext hE
    obtain ⟨aS, cS, rfl, _, hmaxS⟩ := haS.form
    obtain ⟨Et, jt, hut, _, _⟩ := sliSz_spec ht.sF
    have hlen : (ls.getD []).length = (sub.list ver flex).length := by rw [hcS.len, FS.list_len]
    simp [ht.f7, Addr.add_mk, ld_scl ht.kLF, c7, len_slice hut]
    generalize hL : sub.list ver flex = L at *
    have iff := usualL_iff L t
    refine cw_blockThenR (fun f w' => (∀ (i : Nat) y, L[i]? = some y → usualS y (t.at i) = true) ∧ f 2 = .pointer (some ⟨w.heap.size, 0, none⟩) ∧ f 3 = .pointer (some ⟨w.heap.size + 1, 0, none⟩) ∧ Ext none1 w1 w')
      (fun f w' => f 4 = .bool false ∧ usualL L t = false ∧ Ext none1 w1 w') ?_ ?_ ?_
    · refine cw_loop (UsInv w1 L t (.slice aS (ls.getD []).length cS) w.heap.size (w.heap.size + 1)) (fun f _ => match f 59 with | .int _ i => ((L.length : Int) - i).toNat | _ => 0) ?_ ?_
      · exact ⟨0, by omega, by omega, by simp, by simp [hlen], by simp, by simp, by simp, r0⟩
      · rintro f w' ⟨i, hi, hall, h59, h58, h57, h2, h3, he⟩
        simp [h59, h58]
        by_cases hlt : i < L.length
        · refine cw_true (by simp; omega) ?_
          cases ls with
          | none => simp at hlen; omega
          | some ls =>
          obtain ⟨bb, oo, cc, hvv, _, _, hx⟩ := haS
          simp only [Option.getD_some] at hlen hcS hmaxS hvv
          simp only [Value.slice.injEq] at hvv
          obtain ⟨rfl, _, rfl⟩ := hvv
          obtain ⟨x, hxx⟩ : ∃ x, ls[i]? = some x := ⟨_, List.getElem?_eq_getElem (by omega)⟩
          obtain ⟨y, hy⟩ : ∃ y, L[i]? = some y := ⟨_, List.getElem?_eq_getElem hlt⟩
          obtain ⟨g, s, sv', l', hg, hss, rfl, hsv', hsc⟩ := hcS.get hxx
          have hUy := hsub i y s hy hss
          obtain ⟨g', s', hg', _, rfl⟩ := FS.list_get (by rw [hL]; exact hy)
          rw [hg] at hg'
          cases hg'
          have hcx := (hx i _ hxx).2.ext (K := All) he (fun _ _ _ h => h) trivial
          have hcf := cellsFrom_list0 hcx
          rw [FH.cells_len] at hcf
          have hFs : FsAt w1 sv' s := ⟨l', hsv', hsc⟩
          have hone : allOne (g.cells ++ [sv']) = true := by
            obtain ⟨sa, sc, h', _⟩ := hsv'.form
            exact FH.cells_one g (by rw [h']; rfl)
          have hi' : i < ls.length := by omega
          have hz : zeroOf P E.t_spec_Field = some (.agg zField) := ht.zF
          have hzz : zField.size = 8 := rfl
          have hzc : (Value.agg zField).cells = zField := rfl
          have hcl := FH.cells_len g sv'
          simp [h59, h57, idx?, ht.sF, hi', Addr.add_mk, ld_agg ht.kF, hcf, hz, hzc, store_agg ht.kF, hone, putK_blk alloc_new, hzz]
          rw [over_z8 hcl]
          generalize hw2 : (w'.alloc (.cells zField E.t_spec_Field)).setBlk w'.heap.size (.cells (g.cells ++ [sv']).toArray E.t_spec_Field (0, 0)) = w2
          have hb2 : w2.heap[w'.heap.size]? = some (.cells (g.cells ++ [sv']).toArray E.t_spec_Field (0, 0)) := by subst hw2; exact setBlk_same alloc_new
          have he2 : Ext none1 w1 w2 := by subst hw2; exact (he.alloc _).setBlk (.inl he.size) _
          have hD := (Ext.refl none1 w2).drew
          have lF2 : ∀ wx, Ext none1 w2 wx → cellsFrom wx ⟨w'.heap.size, 0, none⟩ 0 8 = some (g.cells ++ [sv']) := by
            intro wx h'
            have := cellsFrom_row (h'.old hb2 (fun h => h))
            simpa using this
          have lT2 : ∀ wx, Ext none1 w2 wx → cellsFrom wx ⟨w.heap.size + 1, 0, none⟩ 0 5 = some [Value.int .i64 t.n, tv, .bool t.nul, lv, uv] := by
            intro wx h'
            have := cellsFrom_row ((he2.trans h').old hb1 (fun h => h))
            rw [show [Value.int .i64 t.n, tv, .bool t.nul, lv, uv].toArray.size = 5 by rfl] at this
            simpa using this
          refine cw_regH (Ext none1 w2) hD ?_
          simp +contextual [h3, ld_agg ht.kF, ld_agg ht.kT, lF2, lT2, lF2 w2.drew hD, lT2 w2.drew hD]
          have hT2 := hT1.ext (he2.trans hD)
          refine (by simpa using hAt w2.drew _ t hT2 i (by omega) : Ret P _ _ _ _).mono ?_
          rintro _ w3 ⟨cs', rfl, hT3, he3⟩
          have hD3 := hD.trans he3
          simp [hD3]
          refine (by simpa using hUy w3 sv' cs' (t.at i) (hFs.ext (he2.trans hD3)) hT3 : Ret P _ _ _ _).mono ?_
          rintro _ w4 ⟨rfl, he4⟩
          have hD4 := hD3.trans he4
          simp [hD4]
          have ei : IntKind.i64.wrap ((i : Int) + 1) = ((i + 1 : Nat) : Int) := by rw [i64_small (by omega) (by omega)]; rfl
          cases hus : usualS ⟨g, partL (s'.list ver flex) ver flex, usualL (s'.list ver flex), knownL ((s'.list ver flex).map (·.h))⟩ (t.at i) with
          | false =>
            refine cw_true (by simp [hus]) ?_
            simp
            refine ⟨?_, he2.trans hD4⟩
            cases hq : usualL L t with
            | false => rfl
            | true =>
              have := (iff.1 hq).1 i _ hy
              rw [hus] at this
              cases this
          | true =>
            refine cw_false (by simp [hus]) ?_
            simp [h59, ei]
            refine ⟨⟨i + 1, by omega, ?_, by simp, by simp [h58], by simp [h57], by simp [h2], by simp [h3], he2.trans hD4⟩, by omega⟩
            intro j z hj hz
            by_cases hji : j = i
            · subst hji
              rw [hy] at hz
              cases hz
              exact hus
            · exact hall j z (by omega) hz
        · refine cw_false (by simp; omega) ?_
          simp [h2, h3, he]
          intro j z hz
          exact hall j z (by have := (List.getElem?_eq_some_iff.1 hz).1; omega) hz
    · rintro f w' ⟨hall, h2, h3, he⟩
      have c7' := cF w' he 7 _ rfl
      have c4' := cT w' he 4 uv rfl
      simp [h2, h3, ht.f7, ht.t4, Addr.add_mk, ld_scl ht.kLF, ld_scl ht.kLU, c7', c4']
      refine (hUn w' w' _ sub uv t.u (Ext.refl _ _) (hSv.ext (hE.trans he)) hok (tree_u (hT1.ext he))).mono ?_
      rintro v w2 ⟨hu2, he2⟩
      obtain ⟨lu, hau, hlu, _⟩ := hu2
      obtain ⟨au, cu, rfl, _⟩ := hau.form
      obtain ⟨Eu, ju, huu, _, _⟩ := sliSz_spec ht.sU
      simp [len_slice huu, bin?]
      refine ⟨?_, hE.trans (he.trans he2)⟩
      have hkn : knownL (L.map (·.h)) = knownL sub.heads := by rw [← hL, FS.list_heads]
      rw [hkn] at iff
      rw [hlu]
      cases hq : usualL L t with
      | true =>
        have := (iff.1 hq).2
        simp at this
        simp [this]
      | false =>
        have : (unkS (knownL sub.heads) t.u).isEmpty = false := by
          cases hq2 : (unkS (knownL sub.heads) t.u).isEmpty with
          | false => rfl
          | true =>
            have := iff.2 ⟨hall, hq2⟩
            rw [hq] at this
            cases this
        simp at this
        simp [this]
    · rintro f w' ⟨h4, hq, he⟩
      simp [h4, hq]
      exact hE.trans he
  refine cw_false (by simp [e10]) ?_
  have hval : usualS ⟨h, part, usualL (sub.list ver flex), kn⟩ t = (fixE (widthS h.kind) t.n == fixE (widthS h.kind) h.dflt) := by simp [usualS, e0, e7, e8, e9, e10, e11]
  rw [hval]
  have hk8 : widthS h.kind ≤ 8 := by unfold widthS; repeat' split
                                     all_goals omega
  have c0' : ∀ wx, Ext none1 w1 wx → wx.cell? ⟨w.heap.size + 1, 0, none⟩ = some (.int .i64 t.n) := fun wx he => cT wx he 0 _ rfl
  have f0' : ∀ wx, Ext none1 w1 wx → wx.cell? ⟨w.heap.size, 0, none⟩ = some (.int .i64 h.kind) := fun wx he => cF wx he 0 _ rfl
  have f5' : ∀ wx, Ext none1 w1 wx → wx.cell? ⟨w.heap.size, 5, none⟩ = some (.int .i64 h.dflt) := fun wx he => cF wx he 5 _ rfl
  have hD := (Ext.refl none1 w1).drew
  simp
  refine cw_regH (Ext none1 w1) hD ?_
  simp +contextual [ht.t0, ht.f0, ht.f5, Addr.add_mk, ld_scl ht.kI64, ld_scl ht.kInt, c0', f0', f5', c0' w1 r0, f0' w1 r0, f5' w1 r0]
  refine (hWd h.kind w1.drew).mono ?_
  rintro v w2 ⟨rfl, rfl⟩
  simp [hD]
  refine (by simpa using hF t.n (widthS h.kind) hk8 w1.drew : Ret P _ _ _ _).mono ?_
  intro v3 w3 h3
  have hD3 := hD.trans h3.2
  simp [hD3]
  refine (hWd h.kind w3).mono ?_
  rintro v w4 ⟨rfl, rfl⟩
  simp [hD3]
  refine (by simpa using hF h.dflt (widthS h.kind) hk8 w4 : Ret P _ _ _ _).mono ?_
  intro v5 w5 h5
  have hD5 := hD3.trans h5.2
  simp [hD5]
  refine (hSm w5 All All v3 v5 _ _ ((own_bytes h3.1).ext (K := All) h5.2 (fun _ _ _ h => h)) (own_bytes h5.1) (by rw [fixE_len]; omega)).mono ?_
  rintro _ w6 ⟨rfl, he6⟩
  have hD6 := hD5.trans he6
  simp [hD6, hE.trans hD6]
end
end Go.Kg

set_option linter.unusedSimpArgs false
set_option linter.unusedVariables false
namespace Go.Kg
open Go
def plainE (ver : Int) (flex : Bool) (t : Tr) (x : FE × Nat) : List UInt8 := if x.1.h.tag < 0 ∧ x.1.h.has ver = true then fieldS x.1 ver flex (t.at x.2) else []
def knE (ver : Int) (flex : Bool) (t : Tr) (k : Nat) (x : FE × Nat) : List (Nat × List UInt8) := if x.1.h.tag = k ∧ usualS x.1 (t.at x.2) = false then [(k, fieldS x.1 ver flex (t.at x.2))] else []
def tagE (x : Nat × List UInt8) : List UInt8 := tagS x.1 x.2
def entsL (l : List FE) (ver : Int) (flex : Bool) (t : Tr) : List (Nat × List UInt8) :=
  ((List.range (knownL (l.map (·.h)))).flatMap fun k => l.zipIdx.flatMap (knE ver flex t k)) ++ (unkS (knownL (l.map (·.h))) t.u).map fun x => (x.1, x.2.take 32767)
theorem partL_eq (l : List FE) (ver : Int) (flex : Bool) (t : Tr) : partL l ver flex t =
    if flex then l.zipIdx.flatMap (plainE ver flex t) ++ uvS (entsL l ver flex t).length ++ (entsL l ver flex t).flatMap tagE else l.zipIdx.flatMap (plainE ver flex t) := by
  have e1 : (fun (x : FE × Nat) => match x with | (x, i) => if x.h.tag < 0 ∧ x.h.has ver = true then fieldS x ver flex (t.at i) else []) = plainE ver flex t := by
    funext x; obtain ⟨x, i⟩ := x; rfl
  have e2 : ∀ k : Nat, (fun (x : FE × Nat) => match x with | (x, i) => if x.h.tag = k ∧ usualS x (t.at i) = false then [(k, fieldS x ver flex (t.at i))] else []) = knE ver flex t k := by
    intro k; funext x; obtain ⟨x, i⟩ := x; rfl
  unfold partL entsL
  simp only [e1, e2]
  rfl
theorem flatMap_takeS {α β : Type} (g : α → List β) (l : List α) (i : Nat) (x : α) (h : l[i]? = some x) : (l.take (i + 1)).flatMap g = (l.take i).flatMap g ++ g x := by
  rw [List.take_add_one, h]; simp
theorem flatMap_take_leS {α β : Type} (g : α → List β) (l : List α) (i : Nat) : ((l.take i).flatMap g).length ≤ (l.flatMap g).length := by
  have : l.flatMap g = (l.take i).flatMap g ++ (l.drop i).flatMap g := by rw [← List.flatMap_append, List.take_append_drop]
  rw [this, List.length_append]; omega
theorem own_bytesK {u8 : Nat} {w : World} {base : Nat} {v : Value} {s : List UInt8} (h : OwnB u8 w base v s) : BytesAt w (fun b => base ≤ b ∧ b < w.heap.size) v s := by
  have hb := fun b hb => Own.below h (b := b) hb
  rcases own_bytes h with h | ⟨b, o, c, rfl, h2, _, h3⟩
  · exact .inl h
  · exact .inr ⟨b, o, c, rfl, h2, fun _ => hb b rfl, h3⟩
def FieldC (P : Program) (E : Env) (x : FE) (sub : FS) (ver : Int) (flex : Bool) : Prop := ∀ w sv cs t, FsAt w sv sub → TreeAt w cs t → (fieldS x ver flex t).length ≤ 1099511627776 →
  Ret P E.f_spec_field #[.agg (x.h.cells ++ [sv]).toArray, .int .i64 ver, .bool flex, .agg cs.toArray] w fun v w' => Fresh E.tU8 w v w' (fieldS x ver flex t)
def HasC (P : Program) (E : Env) : Prop := ∀ (h : FH) sv (v : Int) w, Ret P E.f_spec_Field_has #[.agg (h.cells ++ [sv]).toArray, .int .i64 v] w fun u w' => u = .bool (h.has v) ∧ Ext none1 w w'
def UvC (P : Program) (E : Env) : Prop := ∀ n : Nat, n < 18446744073709551616 → SpC P E.tU8 E.f_spec_Uvarint [.int .u64 n] (uvS n)
def WholeC (P : Program) (E : Env) : Prop := ∀ (w : World) (K : Nat → Prop) (v : Value) (s : List UInt8), BytesAt w K v s → Ret P E.f_spec_whole #[v] w fun r w' => BytesAt w K r (s.take 32767) ∧ w' = w
/-- what stays through part -/
def PtB (fv : Value) (ver : Int) (flex : Bool) (b7 : Nat) (f : Nat → Value) : Prop := f 0 = fv ∧ f 1 = .int .i64 ver ∧ f 2 = .bool flex ∧ f 7 = .pointer (some ⟨b7, 0, none⟩)
def PtInv1 (u8 : Nat) (w1 : World) (fv : Value) (ver : Int) (flex : Bool) (b7 : Nat) (l : List FE) (t : Tr) (f : Nat → Value) (w' : World) : Prop :=
  ∃ i, i ≤ l.length ∧ f 23 = .int .i64 i ∧ f 22 = .int .i64 l.length ∧ f 21 = fv ∧ PtB fv ver flex b7 f ∧ f 10 = .slice none 0 0 ∧ f 11 = .int .i64 0 ∧ Fresh u8 w1 (f 9) w' ((l.zipIdx.take i).flatMap (plainE ver flex t))
def PtEnd1 (u8 : Nat) (w1 : World) (fv : Value) (ver : Int) (flex : Bool) (b7 : Nat) (l : List FE) (t : Tr) (f : Nat → Value) (w' : World) : Prop :=
  PtB fv ver flex b7 f ∧ f 10 = .slice none 0 0 ∧ f 11 = .int .i64 0 ∧ Fresh u8 w1 (f 9) w' (l.zipIdx.flatMap (plainE ver flex t))
def TgSt (u8 : Nat) (wp : World) (fv : Value) (ver : Int) (flex : Bool) (b7 : Nat) (v9 : Value) (ents : List (Nat × List UInt8)) (f : Nat → Value) (w' : World) : Prop :=
  PtB fv ver flex b7 f ∧ f 9 = v9 ∧ f 11 = .int .i64 ents.length ∧ Fresh u8 wp (f 10) w' (ents.flatMap tagE)
def Tg2 (u8 : Nat) (wp : World) (fv : Value) (ver : Int) (b7 : Nat) (v9 : Value) (l : List FE) (t : Tr) (K : Nat) (f : Nat → Value) (w' : World) : Prop :=
  ∃ k, k ≤ K ∧ f 52 = .int .i64 k ∧ f 51 = .int .i64 K ∧ TgSt u8 wp fv ver true b7 v9 ((List.range k).flatMap fun k => l.zipIdx.flatMap (knE ver true t k)) f w'
def Tg3 (u8 : Nat) (wp : World) (fv : Value) (ver : Int) (b7 : Nat) (v9 : Value) (l : List FE) (t : Tr) (K k : Nat) (f : Nat → Value) (w' : World) : Prop :=
  ∃ i, i ≤ l.length ∧ f 57 = .int .i64 i ∧ f 56 = .int .i64 l.length ∧ f 55 = fv ∧ f 14 = .int .i64 k ∧ f 52 = .int .i64 k ∧ f 51 = .int .i64 K ∧
    TgSt u8 wp fv ver true b7 v9 (((List.range k).flatMap fun k => l.zipIdx.flatMap (knE ver true t k)) ++ (l.zipIdx.take i).flatMap (knE ver true t k)) f w'
def Tg3End (u8 : Nat) (wp : World) (fv : Value) (ver : Int) (b7 : Nat) (v9 : Value) (l : List FE) (t : Tr) (K k : Nat) (f : Nat → Value) (w' : World) : Prop :=
  f 52 = .int .i64 k ∧ f 51 = .int .i64 K ∧ TgSt u8 wp fv ver true b7 v9 ((List.range (k + 1)).flatMap fun k => l.zipIdx.flatMap (knE ver true t k)) f w'
def Tg4 (fv : Value) (ver : Int) (b7 : Nat) (v9 v10 v11 : Value) (n k i KK b16 : Nat) (f : Nat → Value) : Prop :=
  f 57 = .int .i64 i ∧ f 56 = .int .i64 n ∧ f 55 = fv ∧ f 14 = .int .i64 k ∧ f 52 = .int .i64 k ∧ f 51 = .int .i64 KK ∧ PtB fv ver true b7 f ∧ f 9 = v9 ∧ f 11 = v11 ∧ f 10 = v10 ∧ f 16 = .pointer (some ⟨b16, 0, none⟩) ∧ f 15 = .int .i64 i
def Tg4A (fv : Value) (ver : Int) (b7 : Nat) (v9 v10 v11 : Value) (n k i KK b16 : Nat) (w3 : World) (p : Prop) (f : Nat → Value) (w' : World) : Prop :=
  ∃ b, f 73 = .bool b ∧ (b = true ↔ p) ∧ Tg4 fv ver b7 v9 v10 v11 n k i KK b16 f ∧ Ext none1 w3 w'
def Tg4B (u8 : Nat) (fv : Value) (ver : Int) (b7 : Nat) (v9 v10 v11 : Value) (n k i KK b16 : Nat) (w4 : World) (s : List UInt8) (f : Nat → Value) (w' : World) : Prop :=
  ∃ wa, Ext none1 w4 wa ∧ Fresh u8 wa (f 17) w' s ∧ Tg4 fv ver b7 v9 v10 v11 n k i KK b16 f
def Tg4C (u8 : Nat) (fv : Value) (ver : Int) (b7 : Nat) (v9 v11 : Value) (n k i KK b16 : Nat) (w2 : World) (s : List UInt8) (f : Nat → Value) (w' : World) : Prop :=
  ∃ v10, Fresh u8 w2 v10 w' s ∧ Tg4 fv ver b7 v9 v10 v11 n k i KK b16 f
def cutV (x : Nat × List UInt8) : Nat × List UInt8 := (x.1, x.2.take 32767)
def Tg5 (u8 : Nat) (w2 w4 : World) (fv : Value) (ver : Int) (b7 : Nat) (v9 v10q v100 : Value) (E1 U : List (Nat × List UInt8)) (f : Nat → Value) (w' : World) : Prop :=
  ∃ i v10, i ≤ U.length ∧ f 102 = .int .i64 i ∧ f 101 = .int .i64 U.length ∧ f 100 = v100 ∧ f 9 = v9 ∧ f 10 = v10 ∧ f 11 = .int .i64 ((E1 ++ (U.take i).map cutV).length : Nat) ∧ Fresh u8 w2 v10 w' ((E1 ++ (U.take i).map cutV).flatMap tagE) ∧ Grew w4 v10q w' v10
def Tg6 (fv : Value) (v9 v10 v11 v100 vb : Value) (n i b19 : Nat) (key : Nat) (f : Nat → Value) : Prop :=
  f 102 = .int .i64 i ∧ f 101 = .int .i64 n ∧ f 100 = v100 ∧ f 9 = v9 ∧ f 10 = v10 ∧ f 11 = v11 ∧ f 19 = .pointer (some ⟨b19, 0, none⟩) ∧ f 20 = vb
def Tg6S (fv : Value) (v9 v10 v11 v100 : Value) (n i b19 : Nat) (key : Nat) (wb : World) (cs : List Value) (T : Nat) (f : Nat → Value) (w' : World) : Prop :=
  ∃ vb, Tg6 fv v9 v10 v11 v100 vb n i b19 key f ∧ Ext none1 wb w' ∧ w'.heap[b19]? = some (.cells cs.toArray T (0, 0))
def Tg6A (fv : Value) (v9 v10 v11 v100 : Value) (n i b19 : Nat) (key : Nat) (w5 : World) (K : Nat → Prop) (s : List UInt8) (f : Nat → Value) (w' : World) : Prop :=
  ∃ vb, Tg6 fv v9 v10 v11 v100 vb n i b19 key f ∧ BytesAt w5 K vb s ∧ w' = w5
def Tg6B (u8 : Nat) (fv : Value) (v9 v11 v100 v10q : Value) (n i b19 : Nat) (key : Nat) (w2 w4 : World) (s : List UInt8) (f : Nat → Value) (w' : World) : Prop :=
  ∃ v10 vb, Tg6 fv v9 v10 v11 v100 vb n i b19 key f ∧ Fresh u8 w2 v10 w' s ∧ Grew w4 v10q w' v10
def Tg5End (u8 : Nat) (w2 : World) (v9 : Value) (ents : List (Nat × List UInt8)) (f : Nat → Value) (w' : World) : Prop :=
  f 9 = v9 ∧ f 11 = .int .i64 ents.length ∧ Fresh u8 w2 (f 10) w' (ents.flatMap tagE)
theorem uvS_pos (n : Nat) : 1 ≤ (uvS n).length := by rw [uvS_eq]; split <;> simp
theorem tagE_pos (x : Nat × List UInt8) : 1 ≤ (tagE x).length := by have := uvS_pos x.1; simp only [tagE, tagS, List.length_append]; omega
theorem ents_len : ∀ (l : List (Nat × List UInt8)), l.length ≤ (l.flatMap tagE).length
  | [] => by simp
  | x :: l => by have := ents_len l; have := tagE_pos x; simp only [List.length_cons, List.flatMap_cons, List.length_append]; omega
/-- The boxes of a field and of the tree, and a field taken out of its list. -/
theorem fs_elem {w w' : World} {fv : Value} {F : FS} {ver : Int} {flex : Bool} (hF : FsAt w fv F) (he : Ext none1 w w') {i : Nat} (hi : i < (F.list ver flex).length) :
    ∃ bb oo cc h s sv y, fv = .slice (some ⟨bb, oo, none⟩) (F.list ver flex).length cc ∧ (F.list ver flex)[i]? = some y ∧ y.h = h ∧ F.subs[i]? = some s ∧ FsAt w' sv s ∧ sv.oneCell' = true ∧
      cellsFrom w' ⟨bb, oo + i * 8, none⟩ 0 8 = some (h.cells ++ [sv]) := by
  obtain ⟨ls, ha, hc⟩ := hF.ext he
  have hlen : (ls.getD []).length = (F.list ver flex).length := by rw [hc.len, FS.list_len]
  cases ls with
  | none => simp at hlen; omega
  | some ls =>
    obtain ⟨bb, oo, cc, rfl, _, _, hx⟩ := ha
    simp only [Option.getD_some] at hlen hc
    obtain ⟨x, hxx⟩ : ∃ x, ls[i]? = some x := ⟨_, List.getElem?_eq_getElem (by omega)⟩
    obtain ⟨y, hy⟩ : ∃ y, (F.list ver flex)[i]? = some y := ⟨_, List.getElem?_eq_getElem hi⟩
    obtain ⟨h, s, sv, l, hh, hs, rfl, hsv, hsc⟩ := hc.get hxx
    obtain ⟨h', s', hh', _, hyy⟩ := FS.list_get hy
    rw [hh] at hh'
    cases hh'
    obtain ⟨sa, sc, hsv', _⟩ := hsv.form
    have hcf := cellsFrom_list0 (hx i _ hxx).2
    rw [FH.cells_len] at hcf
    exact ⟨bb, oo, cc, h, s, sv, y, by rw [hlen], hy, by rw [hyy], hs, ⟨l, hsv, hsc⟩, by rw [hsv']; rfl, hcf⟩
section
variable {P : Program} {E : Env} (ht : TyG P E)
include ht
set_option maxHeartbeats 1000000 in
theorem c_part (hI : FnIs P E.f_spec_part nt_spec_part (rs_spec_part E) (ir_spec_part E)) (hAt : AtC P E) (hUn : UnkC P E) (hKn : KnownC P E) (hHas : HasC P E) (hUv : UvC P E) (hWh : WholeC P E) (F : FS) (ver : Int) (flex : Bool)
    (hok : ∀ g ∈ F.heads, FH.ok g) (hlen : F.len ≤ 1000) (hsub : ∀ (i : Nat) y s, (F.list ver flex)[i]? = some y → F.subs[i]? = some s → FieldC P E y s ver flex ∧ UsC P E y s)
    (w : World) (fv : Value) (cs : List Value) (t : Tr) (hF : FsAt w fv F) (hT : TreeAt w cs t) (hsz : (partS F ver flex t).length ≤ 1099511627776) :
    Ret P E.f_spec_part #[fv, .int .i64 ver, .bool flex, .agg cs.toArray] w fun v w' => Fresh E.tU8 w v w' (partS F ver flex t) := by
  refine hI.call (args := [_, _, _, _]) (by simp [nt_spec_part]) ?_
  obtain ⟨tv, lv, uv, hcs, hs⟩ := tree_box hT
  subst hcs
  have hv : ∀ (a : Array Value), (Value.agg a).cells = a := fun a => rfl
  generalize hw1 : w.alloc (.cells [Value.int .i64 t.n, tv, .bool t.nul, lv, uv].toArray E.t_spec_Tree) = w1
  have hE : Ext none1 w w1 := by subst hw1; exact (Ext.refl none1 w).alloc _
  have hb1 : w1.heap[w.heap.size]? = some (.cells [Value.int .i64 t.n, tv, .bool t.nul, lv, uv].toArray E.t_spec_Tree (0, 0)) := by subst hw1; exact alloc_new
  have lT : ∀ wx, Ext none1 w1 wx → cellsFrom wx ⟨w.heap.size, 0, none⟩ 0 5 = some [Value.int .i64 t.n, tv, .bool t.nul, lv, uv] := by
    intro wx h'
    have := cellsFrom_row (h'.old hb1 (fun h => h))
    rw [show [Value.int .i64 t.n, tv, .bool t.nul, lv, uv].toArray.size = 5 by rfl] at this
    simpa using this
  have hF1 := hF.ext hE
  have hT1 := hT.ext hE
  obtain ⟨lsF, haF, hcF⟩ := hF1
  obtain ⟨aF, cF, rfl, _, hmaxF⟩ := haF.form
  have hF1 : FsAt w1 (.slice aF (lsF.getD []).length cF) F := ⟨lsF, haF, hcF⟩
  have hlenF : (lsF.getD []).length = (F.list ver flex).length := by rw [hcF.len, FS.list_len]
  have hl1000 : (F.list ver flex).length ≤ 1000 := by rw [FS.list_len]; exact hlen
  unfold partS at hsz ⊢
  rw [partL_eq] at hsz ⊢
  obtain ⟨Et, jt, hut, _, _⟩ := sliSz_spec ht.sF
  have hz : zeroOf P E.t_spec_Field = some (.agg zField) := ht.zF
  have hzz : zField.size = 8 := rfl
  have hzc : (Value.agg zField).cells = zField := rfl
  simp [ir_spec_part, rs_spec_part, hv, hw1, len_slice hut]
  rw [hlenF] at hF1 ⊢
  generalize hfv : Value.slice aF (F.list ver flex).length cF = fv at *
  have hlenfv : ∀ (wx : World) (KK : Value → World → Prop), lenK P E.t_l_spec_Field wx KK fv = KK (.int .i64 (F.list ver flex).length) wx := by
    intro wx KK; rw [← hfv]; simp [len_slice hut]
  have hkh : knownL ((F.list ver flex).map (·.h)) = knownL F.heads := by rw [FS.list_heads]
  generalize hL : F.list ver flex = L at *
  have hplain : (L.zipIdx.flatMap (plainE ver flex t)).length ≤ 1099511627776 := by
    revert hsz
    split
    · simp only [List.length_append]; intro h; omega
    · exact fun h => h
  refine cw_blockThen (PtEnd1 E.tU8 w1 fv ver flex w.heap.size L t) ?_ ?_
  · refine cw_loop (PtInv1 E.tU8 w1 fv ver flex w.heap.size L t) (fun f _ => match f 23 with | .int _ i => ((L.length : Int) - i).toNat | _ => 0) ?_ ?_
    · refine ⟨0, by omega, by simp, by simp, by simp, ⟨by simp, by simp, by simp, by simp⟩, by simp, by simp, ?_⟩
      simpa using Fresh.nil (Ext.refl none1 w1)
    · rintro f w' ⟨i, hi, h23, h22, h21, ⟨h0, h1, h2, h7⟩, h10, h11, hfr⟩
      simp [h23, h22]
      by_cases hlt : i < L.length
      · refine cw_true (by simp; omega) ?_
        obtain ⟨bb, oo, cc, h, s, sv, y, hfvv, hy, rfl, hss, hFs, hsv1, hcf⟩ := fs_elem (ver := ver) (flex := flex) hF1 hfr.2 (i := i) (by rw [hL]; exact hlt)
        rw [hL] at hfvv hy
        have hone : allOne (y.h.cells ++ [sv]) = true := FH.cells_one y.h hsv1
        have hcl := FH.cells_len y.h sv
        have hyz : L.zipIdx[i]? = some (y, i) := by rw [List.getElem?_zipIdx, hy]; simp
        have hnext := flatMap_takeS (plainE ver flex t) L.zipIdx i _ hyz
        have hle := flatMap_take_leS (plainE ver flex t) L.zipIdx (i + 1)
        rw [hnext, List.length_append] at hle
        have ei : IntKind.i64.wrap ((i : Int) + 1) = ((i + 1 : Nat) : Int) := by rw [i64_small (by omega) (by omega)]; rfl
        rw [hfvv] at h21
        simp [h23, h21, idx?, ht.sF, hlt, Addr.add_mk, ld_agg ht.kF, hcf, hz, hzc, store_agg ht.kF, hone, putK_blk alloc_new, hzz]
        rw [over_z8 hcl]
        generalize hw2 : (w'.alloc (.cells zField E.t_spec_Field)).setBlk w'.heap.size (.cells (y.h.cells ++ [sv]).toArray E.t_spec_Field (0, 0)) = w2
        have hb2 : w2.heap[w'.heap.size]? = some (.cells (y.h.cells ++ [sv]).toArray E.t_spec_Field (0, 0)) := by subst hw2; exact setBlk_same alloc_new
        have he2 : Ext none1 w' w2 := by subst hw2; exact ((Ext.refl none1 w').alloc _).setBlk (.inl (Nat.le_refl _)) _
        have hfr2 := hfr.post he2
        have c4 : w2.cell? ⟨w'.heap.size, 4, none⟩ = some (.int .i64 y.h.tag) := by rw [cell_of_blk hb2]; rfl
        obtain ⟨v9, hv9⟩ : ∃ v9, f 9 = v9 := ⟨_, rfl⟩
        rw [hv9] at hfr hfr2
        have hn9 : ∀ b, own1 v9 b → w1.heap.size ≤ b ∧ b < w'.heap.size := fun b hb => Own.below hfr.1 hb
        have hsz1 : w.heap.size < w1.heap.size := lt_of_heap hb1
        have lF2 : ∀ wx, Ext (own1 v9) w2 wx → cellsFrom wx ⟨w'.heap.size, 0, none⟩ 0 8 = some (y.h.cells ++ [sv]) := by
          intro wx h'
          have := cellsFrom_row (h'.old hb2 (fun h => by have := hn9 _ h; omega))
          simpa using this
        have hb12 : w2.heap[w.heap.size]? = some (.cells [Value.int .i64 t.n, tv, .bool t.nul, lv, uv].toArray E.t_spec_Tree (0, 0)) := hfr2.2.old hb1 (fun h => h)
        have lT2 : ∀ wx, Ext (own1 v9) w2 wx → cellsFrom wx ⟨w.heap.size, 0, none⟩ 0 5 = some [Value.int .i64 t.n, tv, .bool t.nul, lv, uv] := by
          intro wx h'
          have := cellsFrom_row (h'.old hb12 (fun h => by have := hn9 _ h; omega))
          rw [show [Value.int .i64 t.n, tv, .bool t.nul, lv, uv].toArray.size = 5 by rfl] at this
          simpa using this
        have r2 := Ext.refl (own1 v9) w2
        -- nothing is written
        have pass : plainE ver flex t (y, i) = [] → ∀ f' w3, f' 21 = .slice (some ⟨bb, oo, none⟩) L.length cc → f' 22 = .int .i64 L.length → PtB fv ver flex w.heap.size f' → f' 10 = .slice none 0 0 → f' 11 = .int .i64 0 → f' 9 = v9 → Ext none1 w2 w3 →
            f' 23 = .int .i64 ((i + 1 : Nat) : Int) → PtInv1 E.tU8 w1 fv ver flex w.heap.size L t f' w3 := by
          intro hp f' w3 k21 k22 kB k10 k11 k9 hx k23
          refine ⟨i + 1, by omega, k23, k22, by rw [k21, hfvv], kB, k10, k11, ?_⟩
          rw [hnext, hp, List.append_nil, k9]
          exact hfr2.post hx
        by_cases htag : y.h.tag < 0
        · simp [h1, ht.f4, Addr.add_mk, ld_scl ht.kInt, c4, htag, ld_agg ht.kF, lF2 w2 r2]
          refine (by simpa using hHas y.h sv ver w2 : Ret P _ _ _ _).mono ?_
          rintro _ w3 ⟨rfl, he3⟩
          have hx3 : Ext (own1 v9) w2 w3 := he3.mono (fun _ _ h => h.elim)
          try simp
          cases hhas : y.h.has ver with
          | false =>
            refine cw_false (by simp) ?_
            simp [h23, ei]
            refine ⟨pass (by simp [plainE, hhas]) _ w3 (by simp [h21]) (by simp [h22]) ⟨by simp [h0], by simp [h1], by simp [h2], by simp [h7]⟩ (by simp [h10]) (by simp [h11]) (by simp [hv9]) he3 (by simp), by omega⟩
          | true =>
            have hpl : plainE ver flex t (y, i) = fieldS y ver flex (t.at i) := by simp [plainE, htag, hhas]
            rw [hpl] at hnext hle
            refine cw_true (by simp) ?_
            have hD := hx3.drew
            refine cw_regH (Ext (own1 v9) w2) hD ?_
            simp +contextual [h1, h2, h7, hv9, ld_agg ht.kF, ld_agg ht.kT, lF2, lT2, lF2 w3.drew hD, lT2 w3.drew hD]
            have hxD : Ext none1 w1 w3.drew := hfr2.2.trans he3.drew
            refine (by simpa using hAt w3.drew _ t (hT1.ext hxD) i (by omega) : Ret P _ _ _ _).mono ?_
            rintro _ w4 ⟨cs', rfl, hT4, he4⟩
            have hx4 : Ext (own1 v9) w2 w4 := hD.trans (he4.mono (fun _ _ h => h.elim))
            have hn4 : Ext none1 w2 w4 := he3.drew.trans he4
            simp [hx4]
            have hfc := (hsub i y s hy hss).1 w4 sv cs' (t.at i) (hFs.ext (he2.trans hn4)) hT4 (by omega)
            refine (by simpa using hfc : Ret P _ _ _ _).mono ?_
            intro v5 w5 h5
            have hx5 : Ext (own1 v9) w2 w5 := hx4.trans (h5.2.mono (fun _ _ h => h.elim))
            simp [hx5]
            have hfr5 := hfr2.post (hn4.trans h5.2)
            refine st_app_bytes ht.sBs (by simp) hfr5.1 hfr5.2.size (own_bytes h5.1) (by omega) ?_
            intro v6 w6 ho hg
            have h6 := hfr5.grow ho hg
            have hx6 := hx5.trans hg.ext
            simp [hx6, h23, ei]
            refine ⟨⟨i + 1, by omega, by simp, by simp [h22], by simp [h21, hfvv], ⟨by simp [h0], by simp [h1], by simp [h2], by simp [h7]⟩, by simp [h10], by simp [h11], ?_⟩, by omega⟩
            rw [hnext]
            simpa using h6
        · have htag' : ¬ y.h.tag < 0 := htag
          simp [ht.f4, Addr.add_mk, ld_scl ht.kInt, c4, htag]
          refine cw_false (by simp) ?_
          simp [h23, ei]
          refine ⟨pass (by simp [plainE, htag]) _ w2 (by simp [h21]) (by simp [h22]) ⟨by simp [h0], by simp [h1], by simp [h2], by simp [h7]⟩ (by simp [h10]) (by simp [h11]) (by simp [hv9]) (Ext.refl _ _) (by simp), by omega⟩
      · refine cw_false (by simp; omega) ?_
        have : i = L.length := by omega
        subst this
        rw [List.take_of_length_le (by simp)] at hfr
        simp
        exact ⟨⟨by simp [h0], by simp [h1], by simp [h2], by simp [h7]⟩, by simp [h10], by simp [h11], by simpa using hfr⟩
  · rintro f wp ⟨⟨h0, h1, h2, h7⟩, h10, h11, hfr⟩
    cases flex with
    | false =>
      simp [h2]
      refine cw_true (by simp) ?_
      simp
      exact Fresh.pre hE hfr
    | true =>
      simp only [if_true] at hsz ⊢
      simp [h0, h2]
      refine cw_false (by simp) ?_
      simp [h0]
      refine (hKn wp fv F (hF1.ext hfr.2) hok).mono ?_
      rintro _ w2 ⟨rfl, he2⟩
      have hK1 := knownL_lt F.heads hok
      have eK : IntKind.i64.wrap (knownL F.heads : Int) = (knownL F.heads : Int) := i64_small (by omega) (by omega)
      obtain ⟨v9, hv9⟩ : ∃ v9, f 9 = v9 := ⟨_, rfl⟩
      rw [hv9] at hfr
      have hfr2 := hfr.post he2
      have hx12 : Ext none1 w1 w2 := hfr2.2
      simp [ht.iInt, ht.iU32, eK]
      have hents : entsL L ver true t = ((List.range (knownL F.heads)).flatMap fun k => L.zipIdx.flatMap (knE ver true t k)) ++ (unkS (knownL F.heads) t.u).map fun x => (x.1, x.2.take 32767) := by
        unfold entsL; rw [hkh]
      generalize hKK : knownL F.heads = KK at *
      rw [hents] at hsz ⊢
      have hszE : ((((List.range KK).flatMap fun k => L.zipIdx.flatMap (knE ver true t k)) ++ (unkS KK t.u).map fun x => (x.1, x.2.take 32767)).flatMap tagE).length ≤ 1099511627776 := by
        simp only [List.length_append] at hsz ⊢; omega
      -- any beginning of what the tags say is short
      have hbeg : ∀ a b, a ++ b = (((List.range KK).flatMap fun k => L.zipIdx.flatMap (knE ver true t k)) ++ (unkS KK t.u).map fun x => (x.1, x.2.take 32767)) → (a.flatMap tagE).length ≤ 1099511627776 := by
        intro a b hab
        rw [← hab, List.flatMap_append, List.length_append] at hszE
        omega
      have hbeg2 : ∀ k, k < KK → ∀ i, ∃ b, (((List.range k).flatMap fun k => L.zipIdx.flatMap (knE ver true t k)) ++ (L.zipIdx.take i).flatMap (knE ver true t k)) ++ b = (((List.range KK).flatMap fun k => L.zipIdx.flatMap (knE ver true t k)) ++ (unkS KK t.u).map fun x => (x.1, x.2.take 32767)) := by
        intro k hk i
        have e1 : List.range KK = List.range k ++ k :: ((List.range KK).drop (k + 1)) := by
          have := List.take_append_drop k (List.range KK)
          rw [List.take_range, Nat.min_eq_left (by omega), List.drop_eq_getElem_cons (by simpa using hk)] at this
          simpa using this.symm
        rw [e1]
        simp only [List.flatMap_append, List.flatMap_cons]
        have e2 : L.zipIdx.flatMap (knE ver true t k) = (L.zipIdx.take i).flatMap (knE ver true t k) ++ (L.zipIdx.drop i).flatMap (knE ver true t k) := by rw [← List.flatMap_append, List.take_append_drop]
        rw [e2]
        exact ⟨(L.zipIdx.drop i).flatMap (knE ver true t k) ++ ((((List.range KK).drop (k + 1)).flatMap fun k => L.zipIdx.flatMap (knE ver true t k)) ++ (unkS KK t.u).map fun x => (x.1, x.2.take 32767)), by simp only [List.append_assoc]⟩
      refine cw_blockThen (TgSt E.tU8 w2 fv ver true w.heap.size v9 ((List.range KK).flatMap fun k => L.zipIdx.flatMap (knE ver true t k))) ?_ ?_
      · refine cw_loop (Tg2 E.tU8 w2 fv ver w.heap.size v9 L t KK) (fun f _ => match f 52 with | .int _ i => ((KK : Int) - i).toNat | _ => 0) ?_ ?_
        · refine ⟨0, by omega, by simp, by simp, ⟨by simp [h0], by simp [h1], by simp [h2], by simp [h7]⟩, by simp [hv9], by simp [h11], ?_⟩
          simpa [h10] using Fresh.nil (Ext.refl none1 w2)
        · rintro f w' ⟨k, hk, h52, h51, ⟨h0, h1, h2, h7⟩, h9, h11, hfr⟩
          simp [h52, h51]
          by_cases hlt : k < KK
          · refine cw_true (by simp; omega) ?_
            simp [h52, h0, hlenfv]
            have ek : IntKind.i64.wrap ((k : Int) + 1) = ((k + 1 : Nat) : Int) := by rw [i64_small (by omega) (by omega)]; rfl
            refine cw_blockN (Tg3End E.tU8 w2 fv ver w.heap.size v9 L t KK k) ?_ ?_
            · refine cw_loop (Tg3 E.tU8 w2 fv ver w.heap.size v9 L t KK k) (fun f _ => match f 57 with | .int _ i => ((L.length : Int) - i).toNat | _ => 0) ?_ ?_
              · refine ⟨0, by omega, by simp, by simp, by simp, by simp, by simp [h52], by simp [h51], ⟨by simp [h0], by simp [h1], by simp [h2], by simp [h7]⟩, by simp [h9], by simp [h11], ?_⟩
                simpa using hfr
              · rintro f w' ⟨i, hi, h57, h56, h55, h14, h52, h51, ⟨h0, h1, h2, h7⟩, h9, h11, hfr⟩
                simp [h57, h56]
                by_cases hlt2 : i < L.length
                · refine cw_true (by simp; omega) ?_
                  obtain ⟨bb, oo, cc, h, s, sv, y, hfvv, hy, rfl, hss, hFs, hsv1, hcf⟩ := fs_elem (ver := ver) (flex := true) (hF1.ext hx12) hfr.2 (i := i) (by rw [hL]; exact hlt2)
                  rw [hL] at hfvv hy
                  have hone : allOne (y.h.cells ++ [sv]) = true := FH.cells_one y.h hsv1
                  have hcl := FH.cells_len y.h sv
                  have hyz : L.zipIdx[i]? = some (y, i) := by rw [List.getElem?_zipIdx, hy]; simp
                  have hnext := flatMap_takeS (knE ver true t k) L.zipIdx i _ hyz
                  have ei : IntKind.i64.wrap ((i : Int) + 1) = ((i + 1 : Nat) : Int) := by rw [i64_small (by omega) (by omega)]; rfl
                  rw [hfvv] at h55
                  simp [h57, h55, idx?, ht.sF, hlt2, Addr.add_mk, ld_agg ht.kF, hcf, hz, hzc, store_agg ht.kF, hone, putK_blk alloc_new, hzz]
                  rw [over_z8 hcl]
                  generalize hw3 : (w'.alloc (.cells zField E.t_spec_Field)).setBlk w'.heap.size (.cells (y.h.cells ++ [sv]).toArray E.t_spec_Field (0, 0)) = w3
                  have hb3 : w3.heap[w'.heap.size]? = some (.cells (y.h.cells ++ [sv]).toArray E.t_spec_Field (0, 0)) := by subst hw3; exact setBlk_same alloc_new
                  have he3 : Ext none1 w' w3 := by subst hw3; exact ((Ext.refl none1 w').alloc _).setBlk (.inl (Nat.le_refl _)) _
                  have hx3 : Ext none1 w1 w3 := hx12.trans (hfr.2.trans he3)
                  have c4 : ∀ wx, Ext none1 w3 wx → wx.cell? ⟨w'.heap.size, 4, none⟩ = some (.int .i64 y.h.tag) := fun wx h' => by rw [cell_of_blk (h'.old hb3 (fun h => h))]; rfl
                  have lF3 : ∀ wx, Ext none1 w3 wx → cellsFrom wx ⟨w'.heap.size, 0, none⟩ 0 8 = some (y.h.cells ++ [sv]) := by
                    intro wx h'
                    have := cellsFrom_row (h'.old hb3 (fun h => h))
                    simpa using this
                  have lT3 : ∀ wx, Ext none1 w3 wx → cellsFrom wx ⟨w.heap.size, 0, none⟩ 0 5 = some [Value.int .i64 t.n, tv, .bool t.nul, lv, uv] := fun wx h' => lT wx (hx3.trans h')
                  have r3 := Ext.refl none1 w3
                  have hD := r3.drew
                  obtain ⟨v10, hv10⟩ : ∃ v10, f 10 = v10 := ⟨_, rfl⟩
                  rw [hv10] at hfr
                  refine cw_gen (Tg4 fv ver w.heap.size v9 v10 (f 11) L.length k i KK w'.heap.size) ⟨by simp [h57], by simp [h56], by simp [h55, hfvv], by simp [h14], by simp [h52], by simp [h51], ⟨by simp [h0], by simp [h1], by simp [h2], by simp [h7]⟩, by simp [h9], by simp, by simp [hv10], by simp, by simp⟩ ?_
                  obtain ⟨v11, hv11⟩ : ∃ v11, f 11 = v11 := ⟨_, rfl⟩
                  rw [hv11] at h11
                  rw [hv11]
                  clear h57 h56 h55 h14 h52 h51 h0 h1 h2 h7 h9 hv10 hv11
                  clear f
                  intro f hTg
                  refine cw_then (Tg4A fv ver w.heap.size v9 v10 v11 L.length k i KK w'.heap.size w3 (y.h.tag = k ∧ usualS y (t.at i) = false)) ?_ ?_
                  · obtain ⟨k57, k56, k55, k14, k52, k51, ⟨k0, k1, k2, k7⟩, k9, k11, k10, k16, k15⟩ := hTg
                    refine cw_regH (Ext none1 w3) hD ?_
                    by_cases htk : y.h.tag = k
                    · simp +contextual [k16, k14, k15, k7, htk, ht.f4, Addr.add_mk, ld_scl ht.kInt, c4, c4 w3 r3, ld_agg ht.kF, ld_agg ht.kT, lF3, lT3, lF3 w3.drew hD, lT3 w3.drew hD]
                      refine (by simpa using hAt w3.drew _ t (hT1.ext (hx3.trans hD)) i (by omega) : Ret P _ _ _ _).mono ?_
                      rintro _ w4 ⟨cs', rfl, hT4, he4⟩
                      have hD4 := hD.trans he4
                      simp [hD4]
                      refine (by simpa using (hsub i y s hy hss).2 w4 sv cs' (t.at i) (hFs.ext (he3.trans hD4)) hT4 : Ret P _ _ _ _).mono ?_
                      rintro _ w5 ⟨rfl, he5⟩
                      have hD5 := hD4.trans he5
                      simp [hD5]
                      refine ⟨!usualS y (t.at i), by simp, by simp [htk], ⟨by simp [k57], by simp [k56], by simp [k55], by simp [k14], by simp [k52], by simp [k51], ⟨by simp [k0], by simp [k1], by simp [k2], by simp [k7]⟩, by simp [k9], by simp [k11], by simp [k10], by simp [k16], by simp [k15]⟩, hD5⟩
                    · have htk' : ((y.h.tag : Int) == (k : Int)) = false := by simp [htk]
                      simp +contextual [k16, k14, htk', htk, ht.f4, Addr.add_mk, ld_scl ht.kInt, c4, c4 w3 r3]
                      refine ⟨false, by simp, by simp [htk], ⟨by simp [k57], by simp [k56], by simp [k55], by simp [k14], by simp [k52], by simp [k51], ⟨by simp [k0], by simp [k1], by simp [k2], by simp [k7]⟩, by simp [k9], by simp [k11], by simp [k10], by simp [k16], by simp [k15]⟩, hD⟩
                  · rintro f w4 ⟨b, k73, hb, ⟨k57, k56, k55, k14, k52, k51, ⟨k0, k1, k2, k7⟩, k9, k11, k10, k16, k15⟩, he4⟩
                    cases b with
                    | false =>
                      have hnil : knE ver true t k (y, i) = [] := by
                        unfold knE
                        rw [if_neg (fun h => by have := hb.2 h; cases this)]
                      refine cw_false k73 ?_
                      simp [k57, ei]
                      refine ⟨⟨i + 1, by omega, by simp, by simp [k56], by simp [k55], by simp [k14], by simp [k52], by simp [k51], ⟨by simp [k0], by simp [k1], by simp [k2], by simp [k7]⟩, by simp [k9], ?_, ?_⟩, by omega⟩
                      · rw [hnext, hnil, List.append_nil]; simpa [k11] using h11
                      · rw [hnext, hnil, List.append_nil]; simpa [k10] using hfr.post (he3.trans he4)
                    | true =>
                      obtain ⟨htk, hus⟩ := hb.1 rfl
                      have hone' : knE ver true t k (y, i) = [(k, fieldS y ver true (t.at i))] := by
                        unfold knE
                        rw [if_pos ⟨htk, hus⟩]
                      rw [hone'] at hnext
                      refine cw_true k73 ?_
                      have hx4 : Ext none1 w1 w4 := hx3.trans he4
                      have hall := hbeg2 k hlt (i + 1)
                      rw [hnext] at hall
                      obtain ⟨bE, hall⟩ := hall
                      have hbd := hbeg _ _ hall
                      rw [← List.append_assoc, List.flatMap_append] at hbd
                      have hb1 : ([(k, fieldS y ver true (t.at i))].flatMap tagE) = uvS k ++ uvS (fieldS y ver true (t.at i)).length ++ fieldS y ver true (t.at i) := by simp [tagE, tagS]
                      rw [hb1] at hbd
                      simp only [List.length_append] at hbd
                      have hel := ents_len (((List.range k).flatMap fun k => L.zipIdx.flatMap (knE ver true t k)) ++ (L.zipIdx.take i).flatMap (knE ver true t k))
                      generalize hEE : ((List.range k).flatMap fun k => L.zipIdx.flatMap (knE ver true t k)) ++ (L.zipIdx.take i).flatMap (knE ver true t k) = EE at *
                      generalize hFS : fieldS y ver true (t.at i) = fs at *
                      rw [cw_seq]
                      refine cw_then (Tg4B E.tU8 fv ver w.heap.size v9 v10 v11 L.length k i KK w'.heap.size w4 fs) ?_ ?_
                      · have hD4 := (Ext.refl none1 w4).drew
                        have lF4 : ∀ wx, Ext none1 w4 wx → cellsFrom wx ⟨w'.heap.size, 0, none⟩ 0 8 = some (y.h.cells ++ [sv]) := fun wx h' => lF3 wx (he4.trans h')
                        have lT4 : ∀ wx, Ext none1 w4 wx → cellsFrom wx ⟨w.heap.size, 0, none⟩ 0 5 = some [Value.int .i64 t.n, tv, .bool t.nul, lv, uv] := fun wx h' => lT3 wx (he4.trans h')
                        refine cw_regH (Ext none1 w4) hD4 ?_
                        simp +contextual [k16, k15, k1, k2, k7, ld_agg ht.kF, ld_agg ht.kT, lF4, lT4, lF4 w4.drew hD4, lT4 w4.drew hD4]
                        refine (by simpa using hAt w4.drew _ t (hT1.ext (hx4.trans hD4)) i (by omega) : Ret P _ _ _ _).mono ?_
                        rintro _ w5 ⟨cs', rfl, hT5, he5⟩
                        have hD5 := hD4.trans he5
                        simp [hD5]
                        have hfc := (hsub i y s hy hss).1 w5 sv cs' (t.at i) (hFs.ext (he3.trans (he4.trans hD5))) hT5 (by rw [hFS]; omega)
                        rw [hFS] at hfc
                        refine (by simpa using hfc : Ret P _ _ _ _).mono ?_
                        intro v6 w6 h6
                        have hD6 := hD5.trans h6.2
                        simp [hD6]
                        exact ⟨w5, hD5, by simpa using h6, by simp [k57], by simp [k56], by simp [k55], by simp [k14], by simp [k52], by simp [k51], ⟨by simp [k0], by simp [k1], by simp [k2], by simp [k7]⟩, by simp [k9], by simp [k11], by simp [k10], by simp [k16], by simp [k15]⟩
                      · clear k57 k56 k55 k14 k52 k51 k0 k1 k2 k7 k9 k11 k10 k16 k15 k73
                        clear f
                        rintro f w5 ⟨wa, hea, hfb, k57, k56, k55, k14, k52, k51, ⟨k0, k1, k2, k7⟩, k9, k11, k10, k16, k15⟩
                        have hx5 : Ext none1 w' w5 := he3.trans (he4.trans (hea.trans hfb.2))
                        have hxa : Ext none1 w' wa := he3.trans (he4.trans hea)
                        rw [cw_seq]
                        refine cw_then (Tg4C E.tU8 fv ver w.heap.size v9 v11 L.length k i KK w'.heap.size w2 (EE.flatMap tagE ++ (uvS k ++ uvS fs.length ++ fs))) ?_ ?_
                        · obtain ⟨vb, hvb⟩ : ∃ vb, f 17 = vb := ⟨_, rfl⟩
                          rw [hvb] at hfb
                          have hbK := own_bytesK hfb.1
                          obtain ⟨ab, cb, rfl, _⟩ := hbK.len
                          have ek1 : IntKind.u64.wrap (k : Int) = (k : Nat) := by simp [IntKind.wrap, IntKind.signed, IntKind.bits]; omega
                          have ek2 : IntKind.u64.wrap (fs.length : Int) = (fs.length : Nat) := by simp [IntKind.wrap, IntKind.signed, IntKind.bits]; omega
                          simp [k10, k14, hvb, ht.iInt, ht.iU64, ek1]
                          refine (by simpa using hUv k (by omega) w5 : Ret P _ _ _ _).mono ?_
                          intro v84 w6 h6
                          have hfr6 := hfr.post (hx5.trans h6.2)
                          have hn10 : ∀ b, own1 v10 b → b < w'.heap.size := fun b hb => (Own.below hfr.1 hb).2
                          have hbk6 := hbK.ext h6.2 (fun _ _ _ h => h)
                          refine st_app_bytes ht.sBs (by simp) hfr6.1 hfr6.2.size (own_bytes h6.1) (by omega) ?_
                          intro v85 w7 ho7 hg7
                          have hfr7 := hfr6.grow ho7 hg7
                          have hbk7 := hbk6.ext hg7.ext (fun b _ hb h => by have := hn10 b h; have := hxa.size; omega)
                          simp [hvb, len_slice ht.uBs, ht.iInt, ht.iU64, ek2]
                          refine (by simpa using hUv fs.length (by omega) w7 : Ret P _ _ _ _).mono ?_
                          intro v89 w8 h8
                          have hfr8 := hfr7.post h8.2
                          have hbk8 := hbk7.ext h8.2 (fun _ _ _ h => h)
                          have hn85 : ∀ b, own1 v85 b → b < w'.heap.size ∨ w6.heap.size ≤ b := fun b hb => (hg7.own b hb).imp (hn10 b) id
                          refine st_app_bytes ht.sBs (by simp) hfr8.1 hfr8.2.size (own_bytes h8.1) (by simp only [List.length_append]; omega) ?_
                          intro v90 w9 ho9 hg9
                          have hfr9 := hfr8.grow ho9 hg9
                          have hbk9 := hbk8.ext hg9.ext (fun b _ hb h => by have := hn85 b h; have := hxa.size; have := h6.2.size; omega)
                          try simp [hvb]
                          refine st_app_bytes ht.sBs (by simp) hfr9.1 hfr9.2.size (by simpa using hbk9) (by simp only [List.length_append]; omega) ?_
                          intro v92 w10 ho10 hg10
                          have hfr10 := hfr9.grow ho10 hg10
                          refine ⟨v92, ?_, by simp [k57], by simp [k56], by simp [k55], by simp [k14], by simp [k52], by simp [k51], ⟨by simp [k0], by simp [k1], by simp [k2], by simp [k7]⟩, by simp [k9], by simp [k11], by simp, by simp [k16], by simp [k15]⟩
                          simpa [List.append_assoc] using hfr10
                        · clear k57 k56 k55 k14 k52 k51 k0 k1 k2 k7 k9 k11 k10 k16 k15
                          clear hfb hea hx5 hxa f
                          rintro f w6 ⟨v10', hfr6, k57, k56, k55, k14, k52, k51, ⟨k0, k1, k2, k7⟩, k9, k11, k10, k16, k15⟩
                          have em : IntKind.i64.wrap ((EE.length : Int) + 1) = ((EE.length + 1 : Nat) : Int) := by rw [i64_small (by omega) (by omega)]; rfl
                          simp [k11, h11, em, k57, ei]
                          refine ⟨⟨i + 1, by omega, by simp, by simp [k56], by simp [k55], by simp [k14], by simp [k52], by simp [k51], ⟨by simp [k0], by simp [k1], by simp [k2], by simp [k7]⟩, by simp [k9], ?_, ?_⟩, by omega⟩
                          · rw [hnext, ← List.append_assoc, hEE]; simp
                          · rw [hnext, ← List.append_assoc, hEE, List.flatMap_append, hb1]; simpa [k10] using hfr6
                · refine cw_false (by simp; omega) ?_
                  have : i = L.length := by omega
                  subst this
                  rw [List.take_of_length_le (by simp)] at hfr h11
                  simp
                  refine ⟨by simp [h52], by simp [h51], ⟨by simp [h0], by simp [h1], by simp [h2], by simp [h7]⟩, by simp [h9], ?_, ?_⟩
                  · rw [List.range_succ, List.flatMap_append]; simpa using h11
                  · rw [List.range_succ, List.flatMap_append]; simpa using hfr
            · rintro f w3 ⟨g52, g51, ⟨g0, g1, g2, g7⟩, g9, g11, gfr⟩
              simp [g52, ek]
              exact ⟨⟨k + 1, by omega, by simp, by simp [g51], ⟨by simp [g0], by simp [g1], by simp [g2], by simp [g7]⟩, by simp [g9], by simpa using g11, by simpa using gfr⟩, by omega⟩
          · refine cw_false (by simp; omega) ?_
            have : k = KK := by omega
            subst this
            simp
            exact ⟨⟨by simp [h0], by simp [h1], by simp [h2], by simp [h7]⟩, by simp [h9], by simpa using h11, by simpa using hfr⟩
      · rintro f w3 ⟨⟨h0, h1, h2, h7⟩, h9, h11, hfr3⟩
        generalize hE1 : ((List.range KK).flatMap fun k => L.zipIdx.flatMap (knE ver true t k)) = E1 at *
        have hx13 : Ext none1 w1 w3 := hx12.trans hfr3.2
        have c4 : w3.cell? ⟨w.heap.size, 4, none⟩ = some uv := by rw [cell_of_blk (hx13.old hb1 (fun h => h))]; rfl
        obtain ⟨v10q, hv10q⟩ : ∃ v10q, f 10 = v10q := ⟨_, rfl⟩
        rw [hv10q] at hfr3
        simp [h0, h7, ht.t4, Addr.add_mk, ld_scl ht.kLU, c4]
        have hun := hUn w1 w3 fv F uv t.u hx13 (hF1.ext hx13) hok (tree_u hT1)
        rw [hKK] at hun
        refine hun.mono ?_
        rintro v100 w4 ⟨hu4, he4⟩
        have hU32 : (unkS KK t.u).length ≤ 32767 := unkS_len
        generalize hU : unkS KK t.u = U at *
        obtain ⟨lu, hau, hlu, hgu⟩ := hu4
        obtain ⟨au, cu, rfl, _, hmaxu⟩ := hau.form
        obtain ⟨Eu, ju, huu, _, _⟩ := sliSz_spec ht.sU
        rw [hlu] at hau ⊢
        simp [len_slice huu]
        have hown3 : ∀ b, own1 v10q b → w2.heap.size ≤ b ∧ b < w3.heap.size := fun b hb => Own.below hfr3.1 hb
        have hKd : ∀ b, (b < w1.heap.size ∨ w3.heap.size ≤ b) → ¬ own1 v10q b := fun b hb h => by have := hown3 b h; have := hx12.size; omega
        have hcut : (fun x : Nat × List UInt8 => (x.1, x.2.take 32767)) = cutV := rfl
        rw [hcut] at hszE hsz hbeg ⊢
        refine cw_blockThen (Tg5End E.tU8 w2 v9 (E1 ++ U.map cutV)) ?_ ?_
        · refine cw_loop (Tg5 E.tU8 w2 w4 fv ver w.heap.size v9 v10q (.slice au U.length cu) E1 U) (fun f _ => match f 102 with | .int _ i => ((U.length : Int) - i).toNat | _ => 0) ?_ ?_
          · refine ⟨0, v10q, by omega, by simp, by simp, by simp, by simp [h9], by simp [hv10q], by simp [h11], by simpa using hfr3.post he4, Grew.refl _ _⟩
          · rintro f w' ⟨i, v10, hi, k102, k101, k100, k9, k10, k11, hfr, hgr⟩
            simp [k102, k101]
            by_cases hlt : i < U.length
            · refine cw_true (by simp; omega) ?_
              have ei : IntKind.i64.wrap ((i : Int) + 1) = ((i + 1 : Nat) : Int) := by rw [i64_small (by omega) (by omega)]; rfl
              cases lu with
              | none => simp at hlu; omega
              | some lu =>
              obtain ⟨bb, oo, cc, hvv, hKb, _, hx⟩ := hau
              simp only [Option.getD_some] at hlu hmaxu hgu
              simp only [Value.slice.injEq] at hvv
              obtain ⟨rfl, _, rfl⟩ := hvv
              obtain ⟨c, hc⟩ : ∃ c, lu[i]? = some c := ⟨_, List.getElem?_eq_getElem (by omega)⟩
              obtain ⟨x, hxU⟩ : ∃ x, U[i]? = some x := ⟨_, List.getElem?_eq_getElem hlt⟩
              obtain ⟨bv, rfl, hx32, hbv⟩ := hgu i c x hc hxU
              have hcx := (hx i _ hc).2.ext (K := fun b => b < w1.heap.size ∨ w3.heap.size ≤ b) hgr.ext (fun b _ hb => hKd b hb) hKb
              have hcf := cellsFrom_list0 hcx
              have hbv4 := (hbv.mono (K' := fun b => (b < w1.heap.size ∨ w3.heap.size ≤ b) ∧ b < w4.heap.size) (fun b hb h => ⟨h, hb⟩)).ext hgr.ext (fun b _ hb => hKd b hb.1)
              obtain ⟨ab, cb, hbvf, _⟩ := hbv4.len
              have hone : allOne [Value.int .u32 x.1, bv] = true := by rw [hbvf]; rfl
              have hzT : zeroOf P E.t_spec_Tag = some (.agg #[.int .u32 0, .slice none 0 0]) := ht.zU
              have hzTc : (Value.agg #[.int .u32 0, .slice none 0 0]).cells = #[.int .u32 0, .slice none 0 0] := rfl
              have hl2 : [Value.int .u32 x.1, bv].length = 2 := rfl
              rw [hl2] at hcf
              have hone2 : bv.oneCell' = true := by rw [hbvf]; rfl
              have hone3 : (Value.int .u32 x.1).oneCell' = true := rfl
              simp only [cw_skip, thenF_normal]
              rw [cw_seq, cw_block, cw_seq]
              refine cw_then (Tg6S fv v9 v10 (.int .i64 ((E1 ++ (U.take i).map cutV).length : Nat)) (.slice (some ⟨bb, oo, none⟩) U.length cu) U.length i w'.heap.size x.1 w' [Value.int .u32 x.1, bv] E.t_spec_Tag) ?_ ?_
              · simp [k102, k100, idx?, ht.sU, hlt, Addr.add_mk, ld_agg ht.kU, hcf, hzT, hzTc, store_agg ht.kU, putK_blk alloc_new, allOne, hone2, hone3]
                have hov : over #[.int .u32 0, .slice none 0 0] 0 [Value.int .u32 x.1, bv] = #[Value.int .u32 x.1, bv] := by simp [over]
                rw [hov]
                exact ⟨_, ⟨by simp [k102], by simp [k101], by simp [k100], by simp [k9], by simp [k10], by simp [k11], by simp, rfl⟩, ((Ext.refl none1 w').alloc _).setBlk (.inl (Nat.le_refl _)) _, setBlk_same alloc_new⟩
              clear k102 k101 k100 k9 k10 k11
              clear f
              rintro f w5 ⟨v20, ⟨k102, k101, k100, k9, k10, k11, k19, k20⟩, he5, hb5⟩
              clear k20
              have hfr5 := hfr.post he5
              have hgr5 := hgr.post he5
              have hbv5 := hbv4.ext he5 (fun _ _ _ h => h)
              have hown10 : ∀ b, own1 v10 b → (w2.heap.size ≤ b ∧ b < w3.heap.size) ∨ w4.heap.size ≤ b := fun b hb => (hgr.own b hb).imp (hown3 b) id
              have htk : (U.take (i + 1)).map cutV = (U.take i).map cutV ++ [cutV x] := by rw [List.take_add_one, hxU]; simp
              have hbd := hbeg (E1 ++ (U.take (i + 1)).map cutV) ((U.drop (i + 1)).map cutV) (by rw [List.append_assoc, ← List.map_append, List.take_append_drop])
              rw [htk, ← List.append_assoc, List.flatMap_append] at hbd
              have hb1' : [cutV x].flatMap tagE = uvS x.1 ++ uvS (x.2.take 32767).length ++ x.2.take 32767 := by simp [tagE, tagS, cutV]
              rw [hb1'] at hbd
              simp only [List.length_append] at hbd
              have hel := ents_len (E1 ++ (U.take i).map cutV)
              have hts32 : (x.2.take 32767).length ≤ 32767 := by simp; omega
              generalize hEE : E1 ++ (U.take i).map cutV = EE at *
              generalize hS : x.2.take 32767 = s at *
              rw [cw_seq]
              refine cw_then (Tg6A fv v9 v10 (.int .i64 (EE.length : Nat)) (.slice (some ⟨bb, oo, none⟩) U.length cu) U.length i w'.heap.size x.1 w5 (fun b => (b < w1.heap.size ∨ w3.heap.size ≤ b) ∧ b < w4.heap.size) s) ?_ ?_
              · have c1 : w5.cell? ⟨w'.heap.size, 1, none⟩ = some bv := by rw [cell_of_blk hb5]; rfl
                simp [k19, ht.u1, Addr.add_mk, ld_scl ht.kBs, c1]
                refine (hWh w5 _ bv x.2 hbv5).mono ?_
                rintro vb wx ⟨hvb, rfl⟩
                rw [hS] at hvb
                exact ⟨vb, ⟨by simp [k102], by simp [k101], by simp [k100], by simp [k9], by simp [k10], by simp [k11], by simp [k19], by simp⟩, hvb, rfl⟩
              · clear k102 k101 k100 k9 k10 k11 k19
                clear f
                rintro f w5' ⟨vb, ⟨k102, k101, k100, k9, k10, k11, k19, k20⟩, hvb, hw5'⟩
                rw [hw5']
                rw [cw_seq]
                refine cw_then (Tg6B E.tU8 fv v9 (.int .i64 (EE.length : Nat)) (.slice (some ⟨bb, oo, none⟩) U.length cu) v10q U.length i w'.heap.size x.1 w2 w4 (EE.flatMap tagE ++ (uvS x.1 ++ uvS s.length ++ s))) ?_ ?_
                · obtain ⟨a2, c2, rfl, _⟩ := hvb.len
                  have c0 : w5.cell? ⟨w'.heap.size, 0, none⟩ = some (.int .u32 x.1) := by rw [cell_of_blk hb5]; rfl
                  have ek1 : IntKind.u64.wrap (x.1 : Int) = (x.1 : Nat) := by simp [IntKind.wrap, IntKind.signed, IntKind.bits]; omega
                  have ek2 : IntKind.u64.wrap (s.length : Int) = (s.length : Nat) := by simp [IntKind.wrap, IntKind.signed, IntKind.bits]; omega
                  simp [k10, k19, k20, ht.u0, Addr.add_mk, ld_scl ht.kU32, c0, ht.iU32, ht.iU64, ek1]
                  refine (by simpa using hUv x.1 (by omega) w5 : Ret P _ _ _ _).mono ?_
                  intro v84 w6 h6
                  have hfr6 := hfr5.post h6.2
                  have hbk6 := hvb.ext h6.2 (fun _ _ _ h => h)
                  refine st_app_bytes ht.sBs (by simp) hfr6.1 hfr6.2.size (own_bytes h6.1) (by omega) ?_
                  intro v85 w7 ho7 hg7
                  have hfr7 := hfr6.grow ho7 hg7
                  have hbk7 := hbk6.ext hg7.ext (fun b _ hb h => by have := hown10 b h; have := hx12.size; omega)
                  simp [k20, len_slice ht.uBs, ht.iInt, ht.iU64, ek2]
                  refine (by simpa using hUv s.length (by omega) w7 : Ret P _ _ _ _).mono ?_
                  intro v89 w8 h8
                  have hfr8 := hfr7.post h8.2
                  have hbk8 := hbk7.ext h8.2 (fun _ _ _ h => h)
                  have hs46 : w4.heap.size ≤ w6.heap.size := Nat.le_trans hgr5.ext.size h6.2.size
                  have hn85 : ∀ b, own1 v85 b → ((w2.heap.size ≤ b ∧ b < w3.heap.size) ∨ w4.heap.size ≤ b) := fun b hb => (hg7.own b hb).elim (hown10 b) (fun h => .inr (by omega))
                  refine st_app_bytes ht.sBs (by simp) hfr8.1 hfr8.2.size (own_bytes h8.1) (by simp only [List.length_append]; omega) ?_
                  intro v90 w9 ho9 hg9
                  have hfr9 := hfr8.grow ho9 hg9
                  have hbk9 := hbk8.ext hg9.ext (fun b _ hb h => by have := hn85 b h; have := hx12.size; omega)
                  try simp [k20]
                  refine st_app_bytes ht.sBs (by simp) hfr9.1 hfr9.2.size (by simpa using hbk9) (by simp only [List.length_append]; omega) ?_
                  intro v92 w10 ho10 hg10
                  have hfr10 := hfr9.grow ho10 hg10
                  refine ⟨v92, _, ⟨by simp [k102], by simp [k101], by simp [k100], by simp [k9], by simp, by simp [k11], by simp [k19], rfl⟩, ?_, ?_⟩
                  · simpa [List.append_assoc] using hfr10
                  · exact (((hgr5.post h6.2).trans hg7).post h8.2).trans (hg9.trans hg10)
                · clear k102 k101 k100 k9 k10 k11 k19 k20
                  clear f
                  rintro f w6 ⟨v10', vb', ⟨k102, k101, k100, k9, k10, k11, k19, k20⟩, hfr6, hgr6⟩
                  have em : IntKind.i64.wrap ((EE.length : Int) + 1) = ((EE.length + 1 : Nat) : Int) := by rw [i64_small (by omega) (by omega)]; rfl
                  simp [k11, em, k102, ei]
                  refine ⟨⟨i + 1, v10', by omega, by simp, by simp [k101], by simp [k100], by simp [k9], by simp [k10], ?_, ?_, hgr6⟩, by omega⟩
                  · rw [htk, ← List.append_assoc, hEE]; simp
                  · rw [htk, ← List.append_assoc, hEE, List.flatMap_append, hb1']; exact hfr6
            · refine cw_false (by simp; omega) ?_
              have : i = U.length := by omega
              subst this
              rw [List.take_length] at hfr k11
              simp
              exact ⟨by simp [k9], by simpa using k11, by simpa [k10] using hfr⟩
        · rintro f w5 ⟨k9, k11, hfr5⟩
          have hel := ents_len (E1 ++ U.map cutV)
          have hfr9 : Fresh E.tU8 w1 v9 w5 (L.zipIdx.flatMap (plainE ver true t)) := hfr2.post hfr5.2
          have hbk := own_bytesK hfr5.1
          have hn9 : ∀ b, own1 v9 b → b < w2.heap.size := fun b hb => (Own.below hfr2.1 hb).2
          generalize hEE : E1 ++ U.map cutV = EE at *
          generalize L.zipIdx.flatMap (plainE ver true t) = pl at *
          obtain ⟨v10, hv10⟩ : ∃ v10, f 10 = v10 := ⟨_, rfl⟩
          rw [hv10] at hbk
          simp only [List.length_append] at hsz
          have em : IntKind.u64.wrap (EE.length : Int) = (EE.length : Nat) := by simp [IntKind.wrap, IntKind.signed, IntKind.bits]; omega
          simp [k9, k11, ht.iInt, ht.iU64, em]
          refine (by simpa using hUv EE.length (by omega) w5 : Ret P _ _ _ _).mono ?_
          intro v6 w6 h6
          have hfr6 := hfr9.post h6.2
          have hbk6 := hbk.ext h6.2 (fun _ _ _ h => h)
          refine st_app_bytes ht.sBs (by simp) hfr6.1 hfr6.2.size (own_bytes h6.1) (by omega) ?_
          intro v7 w7 ho7 hg7
          have hfr7 := hfr6.grow ho7 hg7
          have hbk7 := hbk6.ext hg7.ext (fun b _ hb h => by have := hn9 b h; omega)
          simp [hv10]
          refine st_app_bytes ht.sBs (by simp) hfr7.1 hfr7.2.size (by simpa using hbk7) (by simp only [List.length_append]; omega) ?_
          intro v8 w8 ho8 hg8
          have hfr8 := hfr7.grow ho8 hg8
          try simp
          have hfin := Fresh.pre hE hfr8
          rw [← hEE] at hfin
          simpa [List.append_assoc] using hfin
end
end Go.Kg

set_option linter.unusedSimpArgs false
set_option linter.unusedVariables false
namespace Go.Kg
open Go
def FS.okAll : FS → Prop
  | .nil => True
  | .cons h sub rest => FH.ok h ∧ fits h.dflt ∧ sub.len ≤ 1000 ∧ sub.okAll ∧ rest.okAll
theorem FS.okAll.heads : ∀ {F : FS}, F.okAll → ∀ g ∈ F.heads, FH.ok g
  | .nil, _, g, hg => by cases hg
  | .cons h sub rest, ho, g, hg => by
    rcases List.mem_cons.1 hg with rfl | hg
    · exact ho.1
    · exact FS.okAll.heads ho.2.2.2.2 g hg
/-- The functions of package spec that write. -/
structure SpecFns (P : Program) (E : Env) : Prop where
  Fixed : FnIs P E.f_spec_Fixed nt_spec_Fixed (rs_spec_Fixed E) (ir_spec_Fixed E)
  width : FnIs P E.f_spec_width nt_spec_width (rs_spec_width E) (ir_spec_width E)
  Uvarint : FnIs P E.f_spec_Uvarint nt_spec_Uvarint (rs_spec_Uvarint E) (ir_spec_Uvarint E)
  has : FnIs P E.f_spec_Field_has nt_spec_Field_has (rs_spec_Field_has E) (ir_spec_Field_has E)
  null : FnIs P E.f_spec_Field_null nt_spec_Field_null (rs_spec_Field_null E) (ir_spec_Field_null E)
  whole : FnIs P E.f_spec_whole nt_spec_whole (rs_spec_whole E) (ir_spec_whole E)
  things : FnIs P E.f_spec_things nt_spec_things (rs_spec_things E) (ir_spec_things E)
  counted : FnIs P E.f_spec_counted nt_spec_counted (rs_spec_counted E) (ir_spec_counted E)
  at_ : FnIs P E.f_spec_at nt_spec_at (rs_spec_at E) (ir_spec_at E)
  known : FnIs P E.f_spec_known nt_spec_known (rs_spec_known E) (ir_spec_known E)
  unknown : FnIs P E.f_spec_unknown nt_spec_unknown (rs_spec_unknown E) (ir_spec_unknown E)
  Same : FnIs P E.f_spec_Same nt_spec_Same (rs_spec_Same E) (ir_spec_Same E)
  value : FnIs P E.f_spec_value nt_spec_value (rs_spec_value E) (ir_spec_value E)
  field : FnIs P E.f_spec_field nt_spec_field (rs_spec_field E) (ir_spec_field E)
  usual : FnIs P E.f_spec_usual nt_spec_usual (rs_spec_usual E) (ir_spec_usual E)
  part : FnIs P E.f_spec_part nt_spec_part (rs_spec_part E) (ir_spec_part E)
  Write : FnIs P E.f_spec_Write nt_spec_Write (rs_spec_Write E) (ir_spec_Write E)
section
variable {P : Program} {E : Env} (ht : TyG P E) (hs : SpecFns P E)
include ht hs
theorem sp_Fixed : FixedC P E := fun n k hk => c_Fixed ht.toTyWr hs.Fixed n k hk
theorem sp_Width : WidthC P E := fun k w => c_width hs.width k w
theorem sp_Uv : UvC P E := fun n hn => c_SUvarint ht.toTyWr hs.Uvarint n hn
theorem sp_Has : HasC P E := fun h sv v w => c_has ht.toTyF hs.has h sv v w
theorem sp_Whole : WholeC P E := fun w K v s h => c_whole ht.toTyF hs.whole w K v s h
theorem sp_At : AtC P E := fun w cs t hT i hi => c_at ht.toTyF hs.at_ w cs t hT i hi
theorem sp_Known : KnownC P E := fun w fv F hF hok => c_known ht.toTyF hs.known w fv F hF hok
theorem sp_Unk : UnkC P E := c_unknown ht hs.unknown (sp_Known ht hs)
theorem sp_Same : SameC P E := fun w K K' va vb s t h1 h2 h3 => c_Same ht.toTyF hs.Same w K K' va vb s t h1 h2 h3
theorem sp_Counted : ∀ (flex nul : Bool) (n size : Nat), n ≤ 1099511627776 → size ≤ 8 → SpC P E.tU8 E.f_spec_counted [.bool flex, .bool nul, .int .i64 n, .int .i64 size] (countedS flex nul n size) :=
  fun flex nul n size hn hz => c_counted ht.toTyF hs.counted (sp_Fixed ht hs) (sp_Uv ht hs) flex nul n size hn hz
/-- part of fields whose own functions stand -/
theorem sp_partOf {F : FS} {ver : Int} {flex : Bool} (hok : F.okAll) (hlen : F.len ≤ 1000) (hsub : ∀ (i : Nat) y s, (F.list ver flex)[i]? = some y → F.subs[i]? = some s → FieldC P E y s ver flex ∧ UsC P E y s)
    (w : World) (fv : Value) (cs : List Value) (t : Tr) (hF : FsAt w fv F) (hT : TreeAt w cs t) (hsz : (partS F ver flex t).length ≤ 1099511627776) :
    Ret P E.f_spec_part #[fv, .int .i64 ver, .bool flex, .agg cs.toArray] w fun v w' => Fresh E.tU8 w v w' (partS F ver flex t) :=
  c_part ht hs.part (sp_At ht hs) (sp_Unk ht hs) (sp_Known ht hs) (sp_Has ht hs) (sp_Uv ht hs) (sp_Whole ht hs) F ver flex hok.heads hlen hsub w fv cs t hF hT hsz
theorem sp_fields (ver : Int) (flex : Bool) : ∀ F : FS, F.okAll → ∀ (i : Nat) y s, (F.list ver flex)[i]? = some y → F.subs[i]? = some s → FieldC P E y s ver flex ∧ UsC P E y s := by
  intro F
  induction F with
  | nil => intro _ i y s hy; simp [FS.list] at hy
  | cons h sub rest ihs ihr =>
    intro ho i y s hy hss
    cases i with
    | succ i => exact ihr ho.2.2.2.2 i y s (by simpa [FS.list] using hy) (by simpa [FS.subs] using hss)
    | zero =>
      simp only [FS.list, FS.subs, List.getElem?_cons_zero, Option.some.injEq] at hy hss
      subst hy hss
      have hS := ihs ho.2.2.2.1
      have hP := sp_partOf ht hs ho.2.2.2.1 ho.2.2.1 hS
      refine ⟨?_, ?_⟩
      · intro w sv cs t hF hT hsz
        have hPC : PartC P E sv (partL (sub.list ver flex) ver flex) ver flex w := fun w' cs' t' he hT' hb => hP w' sv cs' t' (hF.ext he) hT' hb
        have hVC : ValC P E sv (partL (sub.list ver flex) ver flex) ver flex w := by
          intro kind nul w' cs' t' he hT' hb
          refine c_value ht.toTyF hs.value (sp_Fixed ht hs) (sp_Width ht hs) (sp_Whole ht hs) (sp_Counted ht hs) kind sv _ nul ver flex w' cs' t' hT' ?_
          intro hk w2 he2
          refine hP w2 sv cs' t' (hF.ext (he.trans he2)) (hT'.ext he2) ?_
          subst hk
          simpa [valS, partS] using hb
        have hsv : sv.oneCell' = true := by
          obtain ⟨ls, ha, _⟩ := hF
          obtain ⟨a, c, rfl, _⟩ := ha.form
          rfl
        exact c_field ht.toTyF hs.field (sp_Fixed ht hs) (fun h sv v w n s l u nul => c_null ht.toTyF hs.null h sv v w n s l u nul) (fun w v ls hs' => c_things ht.toTyF hs.things w v ls hs') (sp_Counted ht hs) h sv _ _ _ ver flex w cs t hT hVC hPC hsz hsv
      · exact c_usual ht hs.usual (sp_At ht hs) (sp_Unk ht hs) (sp_Fixed ht hs) (sp_Width ht hs) (sp_Same ht hs) h sub ver flex _ _ ho.2.2.2.1.heads (fun i y s hy hss => (hS i y s hy hss).2)
theorem sp_part {F : FS} {ver : Int} {flex : Bool} (hok : F.okAll) (hlen : F.len ≤ 1000) (w : World) (fv : Value) (cs : List Value) (t : Tr) (hF : FsAt w fv F) (hT : TreeAt w cs t) (hsz : (partS F ver flex t).length ≤ 1099511627776) :
    Ret P E.f_spec_part #[fv, .int .i64 ver, .bool flex, .agg cs.toArray] w fun v w' => Fresh E.tU8 w v w' (partS F ver flex t) :=
  sp_partOf ht hs hok hlen (sp_fields ht hs ver flex F hok) w fv cs t hF hT hsz
end
/-- What a message's type is in memory. -/
structure TyM (P : Program) (E : Env) : Prop extends TyG P E where
  m0 : fldOff P E.t_spec_Message 0 = some 0
  m1 : fldOff P E.t_spec_Message 1 = some 1
def flexAt (fx ver : Int) : Bool := decide (0 ≤ fx) && decide (fx ≤ ver)
section
variable {P : Program} {E : Env} (ht : TyM P E) (hs : SpecFns P E)
include ht hs
theorem sp_Write {F : FS} {fx ver : Int} (hok : F.okAll) (hlen : F.len ≤ 1000) (w : World) (fv : Value) (cs : List Value) (t : Tr) (hF : FsAt w fv F) (hT : TreeAt w cs t) (hsz : (partS F ver (flexAt fx ver) t).length ≤ 1099511627776) :
    Ret P E.f_spec_Write #[.agg #[fv, .int .i64 fx], .int .i64 ver, .agg cs.toArray] w fun v w' => Fresh E.tU8 w v w' (partS F ver (flexAt fx ver) t) := by
  refine hs.Write.call (args := [_, _, _]) (by simp [nt_spec_Write]) ?_
  obtain ⟨tv, lv, uv, hcs, hss⟩ := tree_box hT
  subst hcs
  have hv : ∀ (a : Array Value), (Value.agg a).cells = a := fun a => rfl
  generalize hw1 : (w.alloc (.cells #[fv, .int .i64 fx] E.t_spec_Message)).alloc (.cells [Value.int .i64 t.n, tv, .bool t.nul, lv, uv].toArray E.t_spec_Tree) = w1
  have hE : Ext none1 w w1 := by subst hw1; exact ((Ext.refl none1 w).alloc _).alloc _
  have hb0 : w1.heap[w.heap.size]? = some (.cells #[fv, .int .i64 fx] E.t_spec_Message (0, 0)) := by subst hw1; exact alloc_old alloc_new
  have hb1 : w1.heap[w.heap.size + 1]? = some (.cells [Value.int .i64 t.n, tv, .bool t.nul, lv, uv].toArray E.t_spec_Tree (0, 0)) := by
    subst hw1
    have := alloc_new (w := w.alloc (.cells #[fv, .int .i64 fx] E.t_spec_Message)) (o := .cells [Value.int .i64 t.n, tv, .bool t.nul, lv, uv].toArray E.t_spec_Tree)
    simpa using this
  have c0 : w1.cell? ⟨w.heap.size, 0, none⟩ = some fv := by rw [cell_of_blk hb0]; rfl
  have c1 : w1.cell? ⟨w.heap.size, 1, none⟩ = some (.int .i64 fx) := by rw [cell_of_blk hb0]; rfl
  have lT : cellsFrom w1 ⟨w.heap.size + 1, 0, none⟩ 0 5 = some [Value.int .i64 t.n, tv, .bool t.nul, lv, uv] := by
    have := cellsFrom_row hb1
    rw [show [Value.int .i64 t.n, tv, .bool t.nul, lv, uv].toArray.size = 5 by rfl] at this
    simpa using this
  have key : ∀ fl, fl = flexAt fx ver → Ret P E.f_spec_part #[fv, .int .i64 ver, .bool fl, .agg [Value.int .i64 t.n, tv, .bool t.nul, lv, uv].toArray] w1 fun v w' => Fresh E.tU8 w1 v w' (partS F ver (flexAt fx ver) t) := by
    rintro fl rfl
    exact sp_part ht.toTyG hs hok hlen w1 fv _ t (hF.ext hE) (hT.ext hE) hsz
  have hFl := ht.m1
  simp [ir_spec_Write, rs_spec_Write, hv, hw1, ht.m0, ht.m1, Addr.add_mk, ld_scl ht.kLF, ld_scl ht.kInt, c0, c1, ld_agg ht.kT, lT]
  by_cases h1 : 0 ≤ fx
  · by_cases h2 : fx ≤ ver
    · simp [h1, h2]
      refine (by simpa using key true (by simp [flexAt, h1, h2]) : Ret P _ _ _ _).mono ?_
      intro v w' h
      simpa using Fresh.pre hE h
    · simp [h1, h2]
      refine (by simpa using key false (by simp [flexAt, h1, h2]) : Ret P _ _ _ _).mono ?_
      intro v w' h
      simpa using Fresh.pre hE h
  · simp [h1]
    refine (by simpa using key false (by simp [flexAt, h1]) : Ret P _ _ _ _).mono ?_
    intro v w' h
    simpa using Fresh.pre hE h
end
end Go.Kg

set_option linter.unusedSimpArgs false
set_option linter.unusedVariables false
namespace Go.Kg
open Go
theorem uvS_uvE : ∀ (j n : Nat), n < 128 ^ (j + 1) → uvS n = uvE j n
  | 0, n, h => by rw [uvS_eq, if_neg (by omega)]; rfl
  | j + 1, n, h => by
    rw [uvS_eq]
    unfold uvE
    by_cases hn : n < 128
    · rw [if_neg (by omega), if_pos hn]
    · rw [if_pos (by omega), if_neg hn, uvS_uvE j (n / 128) (by rw [Nat.pow_succ] at h; exact Nat.div_lt_of_lt_mul (by omega))]
theorem uvS_out {n : Nat} (h : n < 4294967296) : uvS n = uvOut (n % 4294967296) := by
  rw [Nat.mod_eq_of_lt h]; exact uvS_uvE 4 n (by omega)
theorem bval_congr {a b : Int} (h : a % 256 = b % 256) : bval a = bval b := by simp only [bval, h]
theorem fixE_num : ∀ (k : Nat) (n : Int) (m : Nat), (∃ q : Int, n = m + q * (256 ^ k : Nat)) → fixE k n = bigE k m
  | 0, _, _, _ => rfl
  | k + 1, n, m, ⟨q, hq⟩ => by
    have hp : (2 : Int) ^ (8 * k) = ((256 ^ k : Nat) : Int) := by
      rw [Int.pow_mul]; simp
    have hpos : (0 : Int) < ((256 ^ k : Nat) : Int) := by
      have : 0 < 256 ^ k := Nat.pow_pos (by omega)
      omega
    simp only [fixE, bigE]
    have hq' : n = m + (q * 256) * ((256 ^ k : Nat) : Int) := by
      rw [hq, Nat.pow_succ]; simp only [Int.natCast_mul]; rw [Int.mul_assoc, Int.mul_comm 256]; rfl
    rw [fixE_num k n m ⟨q * 256, hq'⟩]
    congr 1
    rw [hp, Int.fdiv_eq_ediv_of_nonneg _ (Int.le_of_lt hpos), hq', Int.add_mul_ediv_right _ _ (Int.ne_of_gt hpos)]
    have : bval ((m : Int) / ((256 ^ k : Nat) : Int) + q * 256) = bval ((m : Int) / ((256 ^ k : Nat) : Int)) := bval_congr (by omega)
    rw [this]
    exact bval_nat (by simp)
theorem fixE_eq (k : Nat) (n : Int) : fixE k n = num k n := by
  have hpos : (0 : Int) < ((256 ^ k : Nat) : Int) := by
    have : 0 < 256 ^ k := Nat.pow_pos (by omega)
    omega
  refine fixE_num k n _ ⟨n / ((256 ^ k : Nat) : Int), ?_⟩
  have h1 := Int.emod_nonneg n (Int.ne_of_gt hpos)
  rw [Int.toNat_of_nonneg h1, Int.mul_comm]
  exact (Int.emod_add_mul_ediv _ _).symm
theorem num_nat (k n : Nat) : num k (n : Int) = bigE k (n % 256 ^ k) := by
  simp only [num]
  congr 1
theorem flat_congr {α : Type} {f g : α → List UInt8} : ∀ (l : List α), (∀ x ∈ l, f x = g x) → l.flatMap f = l.flatMap g
  | [], _ => rfl
  | x :: l, h => by
    rw [List.flatMap_cons, List.flatMap_cons, h x List.mem_cons_self, flat_congr l (fun y hy => h y (List.mem_cons_of_mem _ hy))]
theorem num_congr {k : Nat} {a b : Int} (h : a % (256 ^ k : Nat) = b % (256 ^ k : Nat)) : num k a = num k b := by simp only [num, h]
/-- the tags of a tree have numbers of 32 bits -/
inductive Tr.Ok : Tr → Prop where
  | mk {n : Int} {s : List UInt8} {nul : Bool} {l : List Tr} {u : List (Nat × List UInt8)} (hu : ∀ x ∈ u, x.1 < 4294967296) (hl : ∀ t ∈ l, Tr.Ok t) : Tr.Ok (.mk n s nul l u)
theorem Tr.Ok.l {t : Tr} (h : t.Ok) : ∀ x ∈ t.l, x.Ok := by cases h with | mk _ hl => exact hl
theorem Tr.Ok.u {t : Tr} (h : t.Ok) : ∀ x ∈ t.u, x.1 < 4294967296 := by cases h with | mk hu _ => exact hu
theorem Tr.Ok.none : Tr.none.Ok := .mk (by simp) (by simp)
theorem Tr.Ok.at {t : Tr} (h : t.Ok) (i : Nat) : (t.at i).Ok := by
  unfold Tr.at
  cases hi : t.l[i]? with
  | none => exact Tr.Ok.none
  | some x => exact h.l x (List.mem_of_getElem? hi)
theorem TreeAt.ok {w : World} : ∀ {t : Tr} {cs : List Value}, TreeAt w cs t → t.Ok := by
  intro t cs h
  induction h with
  | mk hn hs ha hl he hu ih =>
    rename_i n s nul l u sv lv uv ls
    refine .mk ?_ ?_
    · obtain ⟨ls', _, hlen, hx⟩ := hu
      intro x hxm
      obtain ⟨i, hi⟩ := List.getElem?_of_mem hxm
      have hlt := (List.getElem?_eq_some_iff.1 hi).1
      obtain ⟨c, hc⟩ : ∃ c, (ls'.getD [])[i]? = some c := ⟨_, List.getElem?_eq_getElem (by omega)⟩
      exact (hx i c x hc hi).choose_spec.2.1
    · intro x hxm
      obtain ⟨i, hi⟩ := List.getElem?_of_mem hxm
      have hlt := (List.getElem?_eq_some_iff.1 hi).1
      obtain ⟨c, hc⟩ : ∃ c, (ls.getD [])[i]? = some c := ⟨_, List.getElem?_eq_getElem (by omega)⟩
      exact ih i c x hc hi
def primK : Prim → Int
  | .bool => 0 | .i8 => 1 | .i16 => 2 | .i32 => 3 | .i64 => 4 | .u16 => 5 | .uuid => 7 | .str | .nstr => 8 | .bytes | .nbytes => 9
def Prim.txt : Prim → Bool
  | .str | .bytes => true
  | _ => false
theorem valS_prim (p : Prim) (part : Tr → List UInt8) (nul fl : Bool) (t : Tr) (h : p.txt = true → nul = false) : ∃ x : p.T, p.wr fl x = valS (primK p) part nul fl t ∧ p.wf x := by
  cases p with
  | bool =>
    refine ⟨decide (t.n % 2 = 1), ?_, trivial⟩
    simp only [Prim.wr, valS, primK]
    rcases Int.emod_two_eq t.n with h | h <;> simp [h, bval]
  | i8 =>
    refine ⟨IntKind.i8.wrap t.n, ?_, ?_⟩
    · simp only [Prim.wr, valS, primK]
      simp [widthS, fixE]
      exact bval_congr (by simp [IntKind.wrap, IntKind.signed, IntKind.bits]; omega)
    · show -128 ≤ IntKind.i8.wrap t.n ∧ IntKind.i8.wrap t.n < 128
      simp [IntKind.wrap, IntKind.signed, IntKind.bits]; omega
  | i16 =>
    refine ⟨IntKind.i16.wrap t.n, ?_, ?_⟩
    · simp only [Prim.wr, valS, primK]
      simp [widthS, fixE_eq]
      exact num_congr (by simp [IntKind.wrap, IntKind.signed, IntKind.bits]; omega)
    · show -32768 ≤ IntKind.i16.wrap t.n ∧ IntKind.i16.wrap t.n < 32768
      simp [IntKind.wrap, IntKind.signed, IntKind.bits]; omega
  | u16 =>
    refine ⟨t.n % 65536, ?_, ?_⟩
    · simp only [Prim.wr, valS, primK]
      simp [widthS, fixE_eq]
      exact num_congr (by show t.n % 65536 % ((256 ^ 2 : Nat) : Int) = t.n % ((256 ^ 2 : Nat) : Int); simp; try omega)
    · show 0 ≤ t.n % 65536 ∧ t.n % 65536 < 65536
      omega
  | i32 =>
    refine ⟨IntKind.i32.wrap t.n, ?_, ?_⟩
    · simp only [Prim.wr, valS, primK]
      simp [widthS, fixE_eq]
      exact num_congr (by simp [IntKind.wrap, IntKind.signed, IntKind.bits]; omega)
    · show -2147483648 ≤ IntKind.i32.wrap t.n ∧ IntKind.i32.wrap t.n < 2147483648
      simp [IntKind.wrap, IntKind.signed, IntKind.bits]; omega
  | i64 =>
    refine ⟨IntKind.i64.wrap t.n, ?_, ?_⟩
    · simp only [Prim.wr, valS, primK]
      simp [widthS, fixE_eq]
      exact num_congr (by simp [IntKind.wrap, IntKind.signed, IntKind.bits]; omega)
    · show -9223372036854775808 ≤ IntKind.i64.wrap t.n ∧ IntKind.i64.wrap t.n < 9223372036854775808
      simp [IntKind.wrap, IntKind.signed, IntKind.bits]; omega
  | uuid =>
    refine ⟨(t.s ++ List.replicate 16 0).take 16, ?_, ?_⟩
    · simp only [Prim.wr, valS, primK]
      simp
    · show ((t.s ++ List.replicate 16 0).take 16).length = 16
      simp
  | str =>
    have hn := h rfl
    subst hn
    have hl : (t.s.take 32767).length ≤ 32767 := by simp; omega
    refine ⟨t.s.take 32767, ?_, hl⟩
    generalize hs : t.s.take 32767 = s at hl
    simp only [Prim.wr, valS, primK]
    simp [countedS, hs]
    cases fl
    · simp [wStr, fixE_eq, num_nat]
    · simp [wCStr]; rw [uvS_out (by omega)]
  | bytes =>
    have hn := h rfl
    subst hn
    have hl : (t.s.take 32767).length ≤ 32767 := by simp; omega
    refine ⟨t.s.take 32767, ?_, hl⟩
    generalize hs : t.s.take 32767 = s at hl
    simp only [Prim.wr, valS, primK]
    simp [countedS, hs]
    cases fl
    · simp [wBytes, fixE_eq, num_nat]
    · simp [wCBytes]; rw [uvS_out (by omega)]
  | nstr =>
    cases nul
    · have hl : (t.s.take 32767).length ≤ 32767 := by simp; omega
      refine ⟨some (t.s.take 32767), ?_, hl⟩
      generalize hs : t.s.take 32767 = s at hl
      simp only [Prim.wr, valS, primK]
      simp [countedS, hs]
      cases fl
      · simp [wNStr, wStr, fixE_eq, num_nat]
      · simp [wCNStr, wCStr]; rw [uvS_out (by omega)]
    · refine ⟨none, ?_, by show ([] : List UInt8).length ≤ 32767; simp⟩
      simp only [Prim.wr, valS, primK]
      cases fl <;> simp [countedS, wNStr, wCNStr, wNBytes, wCNBytes] <;> decide
  | nbytes =>
    cases nul
    · have hl : (t.s.take 32767).length ≤ 32767 := by simp; omega
      refine ⟨some (t.s.take 32767), ?_, hl⟩
      generalize hs : t.s.take 32767 = s at hl
      simp only [Prim.wr, valS, primK]
      simp [countedS, hs]
      cases fl
      · simp [wNBytes, wBytes, fixE_eq, num_nat]
      · simp [wCNBytes, wCBytes]; rw [uvS_out (by omega)]
    · refine ⟨none, ?_, by show ([] : List UInt8).length ≤ 32767; simp⟩
      simp only [Prim.wr, valS, primK]
      cases fl <;> simp [countedS, wNStr, wCNStr, wNBytes, wCNBytes] <;> decide
theorem pick_all {α β : Type} {f : α → List UInt8} {g : β → List UInt8} {W : β → Prop} : ∀ (l : List α), (∀ t ∈ l, ∃ x : β, g x = f t ∧ W x) → ∃ xs : List β, xs.flatMap g = l.flatMap f ∧ xs.length = l.length ∧ ∀ x ∈ xs, W x
  | [], _ => ⟨[], rfl, rfl, by simp⟩
  | t :: l, h => by
    obtain ⟨x, h1, h2⟩ := h t List.mem_cons_self
    obtain ⟨xs, a1, a2, a3⟩ := pick_all l (fun t ht => h t (List.mem_cons_of_mem _ ht))
    refine ⟨x :: xs, by simp [h1, a1], by simp [a2], ?_⟩
    intro y hy
    rcases List.mem_cons.1 hy with rfl | hy
    · exact h2
    · exact a3 y hy
theorem list_conv {α : Type} {g : α → List UInt8} {W : α → Prop} {f : Tr → List UInt8} (nulO : Option Nat) (ver : Int) (nul fl : Bool) (t : Tr) (hn : nulO = none → nul = false) (hm : ∀ m : Nat, nulO = some m → nul = true → (m : Int) ≤ ver)
    (h : ∀ x ∈ t.l.take 32767, ∃ y : α, g y = f x ∧ W y) :
    ∃ a : Option (List α), lenW nulO fl (a.getD []).length a.isNone ++ (a.getD []).flatMap g = countedS fl nul (if nul then [] else t.l.take 32767).length 4 ++ (if nul then [] else t.l.take 32767).flatMap f ∧ arrWf nulO ver a ∧ ∀ x ∈ a.getD [], W x := by
  cases nul
  · obtain ⟨xs, h1, h2, h3⟩ := pick_all _ h
    have hl : (t.l.take 32767).length ≤ 32767 := by simp; omega
    refine ⟨some xs, ?_, ⟨by simp [h2]; omega, by simp⟩, by simpa using h3⟩
    simp only [Option.getD_some, h1, h2, Option.isNone_some, Bool.false_eq_true, if_false]
    congr 1
    generalize (t.l.take 32767).length = n at hl
    cases nulO <;> cases fl <;> simp [lenW, countedS, wLen, wCLen, wNLen, wCNLen, fixE_eq, num_nat]
    all_goals rw [uvS_out (by omega)]
  · cases nulO with
    | none => cases hn rfl
    | some m =>
      refine ⟨none, ?_, ⟨by simp, fun m' hm' hv => ?_⟩, by simp⟩
      · cases fl <;> simp [lenW, countedS, wNLen, wCNLen] <;> decide
      · cases hm'
        have := hm m rfl rfl
        omega
theorem insU_memT {least : Nat} {x y : Nat × List UInt8} : ∀ {l : TagL}, y ∈ insU least x l → y = x ∨ y ∈ l
  | [], h => by
    unfold insU at h; split at h
    · exact .inr h
    · simp at h; exact .inl h
  | z :: l, h => by
    unfold insU at h; split at h
    · exact .inr h
    · simp only at h
      split at h
      · rcases List.mem_cons.1 h with h | h
        · exact .inr (h ▸ List.mem_cons_self)
        · rcases insU_memT h with h | h
          · exact .inl h
          · exact .inr (List.mem_cons_of_mem _ h)
      · split at h
        · exact .inr h
        · rcases List.mem_cons.1 h with h | h
          · exact .inl h
          · exact .inr h
theorem insU_sortedT {least : Nat} {x : Nat × List UInt8} : ∀ {l : TagL}, l.Pairwise (fun a b => a.1 < b.1) → (insU least x l).Pairwise (fun a b => a.1 < b.1)
  | [], _ => by unfold insU; split <;> simp
  | z :: l, h => by
    obtain ⟨h1, h2⟩ := List.pairwise_cons.1 h
    unfold insU; split
    · exact h
    · simp only
      split
      · rename_i hlt
        refine List.pairwise_cons.2 ⟨fun y hy => ?_, insU_sortedT h2⟩
        rcases insU_memT hy with rfl | hy
        · exact hlt
        · exact h1 y hy
      · split
        · exact h
        · refine List.pairwise_cons.2 ⟨fun y hy => ?_, h⟩
          rcases List.mem_cons.1 hy with rfl | hy
          · omega
          · have := h1 y hy; omega
theorem insU_lenT {least : Nat} {x : Nat × List UInt8} : ∀ {l : TagL}, (insU least x l).length ≤ l.length + 1
  | [] => by unfold insU; split <;> simp
  | z :: l => by
    unfold insU; split
    · simp
    · simp only
      split
      · have := @insU_lenT least x l; simp; omega
      · split <;> simp
theorem unkS_spec (least : Nat) (u : TagL) : (unkS least u).Pairwise (fun a b => a.1 < b.1) ∧ (unkS least u).length ≤ 32767 ∧ ∀ x ∈ unkS least u, x ∈ u := by
  have : ∀ (l out : TagL), out.Pairwise (fun a b => a.1 < b.1) → (l.foldl (fun out x => insU least x out) out).Pairwise (fun a b => a.1 < b.1) ∧ (l.foldl (fun out x => insU least x out) out).length ≤ out.length + l.length ∧ ∀ x ∈ l.foldl (fun out x => insU least x out) out, x ∈ out ∨ x ∈ l := by
    intro l
    induction l with
    | nil => intro out h; exact ⟨h, by simp, fun x hx => .inl hx⟩
    | cons y l ih =>
      intro out h
      obtain ⟨a1, a2, a3⟩ := ih (insU least y out) (insU_sortedT h)
      refine ⟨a1, ?_, fun x hx => ?_⟩
      · have := @insU_lenT least y out
        simp only [List.foldl_cons, List.length_cons]; omega
      · rcases a3 x hx with h | h
        · rcases insU_memT h with h | h
          · exact .inr (h ▸ List.mem_cons_self)
          · exact .inl h
        · exact .inr (List.mem_cons_of_mem _ h)
  obtain ⟨h1, h2, h3⟩ := this (u.take 32767) [] List.Pairwise.nil
  refine ⟨h1, ?_, fun x hx => ?_⟩
  · have : (u.take 32767).length ≤ 32767 := by simp; omega
    simp at h2
    show ((u.take 32767).foldl _ []).length ≤ _
    omega
  · rcases h3 x hx with h | h
    · simp at h
    · exact List.mem_of_mem_take h
theorem tags_conv (least : Nat) (u : TagL) (hu : ∀ x ∈ u, x.1 < 4294967296) : ∃ l : TagL, tagsOk l ∧ uvOut (l.length % 4294967296) ++ tagsOut l = uvS ((unkS least u).map fun x => (x.1, x.2.take 32767)).length ++ ((unkS least u).map fun x => (x.1, x.2.take 32767)).flatMap fun x => tagS x.1 x.2 := by
  obtain ⟨h1, h2, h3⟩ := unkS_spec least u
  generalize unkS least u = q at h1 h2 h3
  refine ⟨q.map fun x => (x.1, x.2.take 32767), ⟨by simp; omega, ?_, ?_⟩, ?_⟩
  · rw [List.map_map]
    show (q.map (·.1)).Nodup
    rw [List.nodup_iff_pairwise_ne, List.pairwise_map]
    exact h1.imp fun h => by omega
  · intro x hx
    obtain ⟨y, hy, rfl⟩ := List.mem_map.1 hx
    exact ⟨hu y (h3 y hy), by simp; omega⟩
  · have hs : sortTags (q.map fun x => (x.1, x.2.take 32767)) = q.map fun x => (x.1, x.2.take 32767) := by
      refine sortTags_of_sorted _ ?_
      rw [List.pairwise_map]
      exact h1.imp fun h => by simp only; omega
    simp only [tagsOut, hs]
    rw [uvS_out (by simp; omega)]
    congr 1
    refine flat_congr _ fun x hx => ?_
    obtain ⟨y, hy, rfl⟩ := List.mem_map.1 hx
    have hy1 := hu y (h3 y hy)
    simp only [tagS]
    rw [uvS_out hy1, uvS_out (by simp; omega), Nat.mod_eq_of_lt hy1, List.append_assoc]
end Go.Kg

set_option linter.unusedSimpArgs false
set_option linter.unusedVariables false
namespace Go.Kg
open Go
/-- where a field stands, it may not be null -/
def nnAt (M : Nat) (g : Gd) (h : FH) : Bool := (List.range (M + 1)).all fun v => !g.on v || !(decide (0 ≤ h.null) && decide (h.null ≤ (v : Int)))
/-- where it may be null, the list's code says so -/
def nlAt (M m : Nat) (g : Gd) (h : FH) : Bool := (List.range (M + 1)).all fun v => !g.on v || !(decide (0 ≤ h.null) && decide (h.null ≤ (v : Int))) || decide (m ≤ v)
def nulOk (M : Nat) (g : Gd) (h : FH) : Option Nat → Bool
  | none => nnAt M g h
  | some m => nlAt M m g h
def onAt (M : Nat) (g : Gd) (h : FH) : Bool := (List.range (M + 1)).all fun v => g.on v == h.has v
def fitS (M : Nat) (flx : Nat → Bool) : FS → Sch → Bool
  | .nil, .fin => (List.range (M + 1)).all fun v => !flx v
  | .nil, .tags _ _ => true
  | .cons h _ rest, .prim g _ _ p _ _ r => decide (h.tag < 0) && onAt M g h && decide (h.kind = primK p) && (!p.txt || nnAt M g h) && fitS M flx rest r
  | .cons h _ rest, .arrP g _ _ _ nul p r => decide (h.tag < 0) && onAt M g h && decide (h.kind = 11) && decide (h.of_ = primK p) && nulOk M g h nul && fitS M flx rest r
  | .cons h sub rest, .arrS g _ _ _ nul _ _ _ _ e r => decide (h.tag < 0) && onAt M g h && decide (h.kind = 11) && decide (h.of_ = 10) && nulOk M g h nul && fitS M flx sub e && fitS M flx rest r
  | .cons h sub rest, .sub g _ _ _ _ _ _ e r => decide (h.tag < 0) && onAt M g h && decide (h.kind = 10) && decide (h.null < 0) && fitS M flx sub e && fitS M flx rest r
  | .cons h sub rest, .opt g _ _ _ _ _ _ _ e r => decide (h.tag < 0) && onAt M g h && decide (h.kind = 10) && decide (0 ≤ h.null) && fitS M flx sub e && fitS M flx rest r
  | _, _ => false
theorem onAt_of {M : Nat} {g : Gd} {h : FH} (hb : onAt M g h = true) {v : Nat} (hv : v ≤ M) : g.on v = h.has v := by
  have := List.all_eq_true.1 hb v (by simp; omega)
  simpa using this
theorem nnAt_of {M : Nat} {g : Gd} {h : FH} (hb : nnAt M g h = true) {v : Nat} (hv : v ≤ M) (ho : g.on v = true) (b : Bool) : h.isNull v b = false := by
  have := List.all_eq_true.1 hb v (by simp; omega)
  rw [ho] at this
  simp only [Bool.not_true, Bool.false_or, Bool.not_eq_true'] at this
  unfold FH.isNull
  rw [Bool.and_assoc, this, Bool.and_false]
theorem nlAt_of {M m : Nat} {g : Gd} {h : FH} (hb : nlAt M m g h = true) {v : Nat} (hv : v ≤ M) (ho : g.on v = true) {b : Bool} (hn : h.isNull v b = true) : (m : Int) ≤ v := by
  have := List.all_eq_true.1 hb v (by simp; omega)
  unfold FH.isNull at hn
  rw [Bool.and_assoc, Bool.and_eq_true] at hn
  rw [ho, hn.2] at this
  simp at this
  omega
/-- the fields' texts from place n on -/
def plainS (F : FS) (ver : Int) (fl : Bool) (n : Nat) (t : Tr) : List UInt8 :=
  ((F.list ver fl).zipIdx n).flatMap fun (x, i) => if x.h.tag < 0 ∧ x.h.has ver = true then fieldS x ver fl (t.at i) else []
def tailS (fl : Bool) (t : Tr) : List UInt8 :=
  if fl then uvS ((unkS 0 t.u).map fun x => (x.1, x.2.take 32767)).length ++ ((unkS 0 t.u).map fun x => (x.1, x.2.take 32767)).flatMap fun x => tagS x.1 x.2 else []
def noTag : FS → Bool
  | .nil => true
  | .cons h _ rest => decide (h.tag < 0) && noTag rest
theorem fitS_noTag {M : Nat} {flx : Nat → Bool} : ∀ {F : FS} {S : Sch}, fitS M flx F S = true → noTag F = true
  | .nil, _, _ => rfl
  | .cons h sub rest, .fin, hb => by simp [fitS] at hb
  | .cons h sub rest, .tags _ _, hb => by simp [fitS] at hb
  | .cons h sub rest, .prim .., hb => by
    simp only [fitS, Bool.and_eq_true] at hb
    simp only [noTag, hb.1.1.1.1, fitS_noTag hb.2, Bool.and_self]
  | .cons h sub rest, .arrP .., hb => by
    simp only [fitS, Bool.and_eq_true] at hb
    simp only [noTag, hb.1.1.1.1.1, fitS_noTag hb.2, Bool.and_self]
  | .cons h sub rest, .arrS .., hb => by
    simp only [fitS, Bool.and_eq_true] at hb
    simp only [noTag, hb.1.1.1.1.1.1, fitS_noTag hb.2, Bool.and_self]
  | .cons h sub rest, .sub .., hb => by
    simp only [fitS, Bool.and_eq_true] at hb
    simp only [noTag, hb.1.1.1.1.1, fitS_noTag hb.2, Bool.and_self]
  | .cons h sub rest, .opt .., hb => by
    simp only [fitS, Bool.and_eq_true] at hb
    simp only [noTag, hb.1.1.1.1.1, fitS_noTag hb.2, Bool.and_self]
theorem knownL_none : ∀ (l : List FH) (n : Nat), (∀ h ∈ l, h.tag < 0) → l.foldl (fun n h => if 0 ≤ h.tag then max n (h.tag.toNat + 1) else n) n = n
  | [], _, _ => rfl
  | h :: l, n, hh => by
    have := hh h List.mem_cons_self
    simp only [List.foldl_cons]
    rw [if_neg (by omega)]
    exact knownL_none l n (fun x hx => hh x (List.mem_cons_of_mem _ hx))
theorem noTag_heads (ver : Int) (fl : Bool) : ∀ {F : FS}, noTag F = true → ∀ h ∈ (F.list ver fl).map (·.h), h.tag < 0
  | .nil, _, h, hh => by simp [FS.list] at hh
  | .cons g sub rest, hb, h, hh => by
    simp only [noTag, Bool.and_eq_true, decide_eq_true_eq] at hb
    simp only [FS.list, List.map_cons, List.mem_cons] at hh
    rcases hh with rfl | hh
    · exact hb.1
    · exact noTag_heads ver fl hb.2 h hh
theorem partS_plain {F : FS} (h : noTag F = true) (ver : Int) (fl : Bool) (t : Tr) : partS F ver fl t = plainS F ver fl 0 t ++ tailS fl t := by
  have hk : knownL ((F.list ver fl).map (·.h)) = 0 := knownL_none _ 0 (noTag_heads ver fl h)
  unfold partS partL plainS tailS
  rw [hk]
  cases fl
  · simp
  · simp
/-- What the reference writes of a tree is what the code writes of some value that may be. -/
theorem conv_sch {M : Nat} {flx : Nat → Bool} {v : Nat} (hv : v ≤ M) : ∀ (S : Sch) (F : FS) (n : Nat) (t : Tr), fitS M flx F S = true → t.Ok → ∃ x : S.T, S.wr v (flx v) x = plainS F v (flx v) n t ++ tailS (flx v) t ∧ S.wf v (flx v) x := by
  intro S
  induction S with
  | fin =>
    intro F n t hb ht
    cases F with
    | cons h sub rest => simp [fitS] at hb
    | nil =>
      have := List.all_eq_true.1 hb v (by simp; omega)
      have hf : flx v = false := by simpa using this
      exact ⟨(), by simp [Sch.wr, plainS, tailS, hf, FS.list], trivial⟩
  | tags k o =>
    intro F n t hb ht
    cases F with
    | cons h sub rest => simp [fitS] at hb
    | nil =>
      obtain ⟨l, h1, h2⟩ := tags_conv 0 t.u ht.u
      refine ⟨l, ?_, fun _ => h1⟩
      simp only [Sch.wr, plainS, tailS, FS.list, List.zipIdx_nil, List.flatMap_nil, List.nil_append]
      cases flx v
      · rfl
      · simp only [if_true]; exact h2
  | prim g k o p en d r ih =>
    intro F n t hb ht
    cases F with
    | nil => simp [fitS] at hb
    | cons h sub rest =>
      simp only [fitS, Bool.and_eq_true, decide_eq_true_eq, Bool.or_eq_true, Bool.not_eq_true'] at hb
      obtain ⟨⟨⟨⟨htag, hon⟩, hkind⟩, hnul⟩, hrest⟩ := hb
      obtain ⟨y, hy1, hy2⟩ := ih rest (n + 1) t hrest ht
      have hgo := onAt_of hon hv
      have hps : plainS (.cons h sub rest) v (flx v) n t = (if h.tag < 0 ∧ h.has v = true then fieldS ⟨h, partL (sub.list v (flx v)) v (flx v), usualL (sub.list v (flx v)), knownL ((sub.list v (flx v)).map (·.h))⟩ v (flx v) (t.at n) else []) ++ plainS rest v (flx v) (n + 1) t := by
        simp [plainS, FS.list, List.zipIdx_cons]
      rw [hps, ← hgo]
      cases hg : g.on v
      · refine ⟨(p.dfl 0, y), ?_, fun h => (by rw [hg] at h; cases h), hy2⟩
        simp [Sch.wr, hg, hy1]
      · have hfk : fieldS ⟨h, partL (sub.list v (flx v)) v (flx v), usualL (sub.list v (flx v)), knownL ((sub.list v (flx v)).map (·.h))⟩ v (flx v) (t.at n) = valS (primK p) (partL (sub.list v (flx v)) v (flx v)) (h.isNull v (t.at n).nul) (flx v) (t.at n) := by
          have h11 : ¬ (primK p = 11) := by cases p <;> simp [primK]
          have h10 : ¬ (primK p = 10) := by cases p <;> simp [primK]
          simp only [fieldS, hkind, if_neg h11, h10, false_and, if_false]
        obtain ⟨x, hx1, hx2⟩ := valS_prim p (partL (sub.list v (flx v)) v (flx v)) (h.isNull v (t.at n).nul) (flx v) (t.at n) (fun htx => by
          rcases hnul with h' | h'
          · rw [htx] at h'; cases h'
          · exact nnAt_of h' hv hg _)
        refine ⟨(x, y), ?_, fun _ => hx2, hy2⟩
        simp [Sch.wr, hg, hy1, htag, hfk, hx1]
  | arrP g k o sT nul p r ih =>
    intro F n t hb ht
    cases F with
    | nil => simp [fitS] at hb
    | cons h sub rest =>
      simp only [fitS, Bool.and_eq_true, decide_eq_true_eq] at hb
      obtain ⟨⟨⟨⟨⟨htag, hon⟩, hkind⟩, hof⟩, hnul⟩, hrest⟩ := hb
      obtain ⟨y, hy1, hy2⟩ := ih rest (n + 1) t hrest ht
      have hgo := onAt_of hon hv
      have hps : plainS (.cons h sub rest) v (flx v) n t = (if h.tag < 0 ∧ h.has v = true then fieldS ⟨h, partL (sub.list v (flx v)) v (flx v), usualL (sub.list v (flx v)), knownL ((sub.list v (flx v)).map (·.h))⟩ v (flx v) (t.at n) else []) ++ plainS rest v (flx v) (n + 1) t := by
        simp [plainS, FS.list, List.zipIdx_cons]
      rw [hps, ← hgo]
      cases hg : g.on v
      · refine ⟨(none, y), ?_, fun h => (by rw [hg] at h; cases h), hy2⟩
        simp [Sch.wr, hg, hy1]
      · obtain ⟨a, ha1, ha2, ha3⟩ := list_conv (g := p.wr (flx v)) (W := p.wf) (f := valS (primK p) (partL (sub.list v (flx v)) v (flx v)) false (flx v)) nul v (h.isNull v (t.at n).nul) (flx v) (t.at n)
          (fun hn => by subst hn; exact nnAt_of hnul hv hg _) (fun m hm hnn => by subst hm; exact nlAt_of hnul hv hg hnn) (fun x _ => valS_prim p _ false (flx v) x (fun _ => rfl))
        refine ⟨(a, y), ?_, fun _ => ⟨ha2, ha3⟩, hy2⟩
        simp only [Sch.wr, hg, if_true, hy1, htag, true_and, fieldS, hkind, hof, ha1, List.append_assoc]
  | arrS g k o sT nul T PT sz df e r ihe ih =>
    intro F n t hb ht
    cases F with
    | nil => simp [fitS] at hb
    | cons h sub rest =>
      simp only [fitS, Bool.and_eq_true, decide_eq_true_eq] at hb
      obtain ⟨⟨⟨⟨⟨⟨htag, hon⟩, hkind⟩, hof⟩, hnul⟩, hsub⟩, hrest⟩ := hb
      obtain ⟨y, hy1, hy2⟩ := ih rest (n + 1) t hrest ht
      have hgo := onAt_of hon hv
      have hps : plainS (.cons h sub rest) v (flx v) n t = (if h.tag < 0 ∧ h.has v = true then fieldS ⟨h, partL (sub.list v (flx v)) v (flx v), usualL (sub.list v (flx v)), knownL ((sub.list v (flx v)).map (·.h))⟩ v (flx v) (t.at n) else []) ++ plainS rest v (flx v) (n + 1) t := by
        simp [plainS, FS.list, List.zipIdx_cons]
      rw [hps, ← hgo]
      cases hg : g.on v
      · refine ⟨(none, y), ?_, fun h => (by rw [hg] at h; cases h), hy2⟩
        simp [Sch.wr, hg, hy1]
      · obtain ⟨a, ha1, ha2, ha3⟩ := list_conv (g := e.wr v (flx v)) (W := e.wf v (flx v)) (f := valS 10 (partL (sub.list v (flx v)) v (flx v)) false (flx v)) nul v (h.isNull v (t.at n).nul) (flx v) (t.at n)
          (fun hn => by subst hn; exact nnAt_of hnul hv hg _) (fun m hm hnn => by subst hm; exact nlAt_of hnul hv hg hnn) (fun x hx => by
            obtain ⟨z, hz1, hz2⟩ := ihe sub 0 x hsub ((ht.at n).l x (List.mem_of_mem_take hx))
            refine ⟨z, ?_, hz2⟩
            rw [hz1, ← partS_plain (fitS_noTag hsub)]
            rfl)
        refine ⟨(a, y), ?_, fun _ => ⟨ha2, ha3⟩, hy2⟩
        simp only [Sch.wr, hg, if_true, hy1, htag, true_and, fieldS, hkind, hof, ha1, List.append_assoc]
  | sub g k o T PT sz df e r ihe ih =>
    intro F n t hb ht
    cases F with
    | nil => simp [fitS] at hb
    | cons h sub rest =>
      simp only [fitS, Bool.and_eq_true, decide_eq_true_eq] at hb
      obtain ⟨⟨⟨⟨⟨htag, hon⟩, hkind⟩, hnul⟩, hsub⟩, hrest⟩ := hb
      obtain ⟨y, hy1, hy2⟩ := ih rest (n + 1) t hrest ht
      have hgo := onAt_of hon hv
      have hps : plainS (.cons h sub rest) v (flx v) n t = (if h.tag < 0 ∧ h.has v = true then fieldS ⟨h, partL (sub.list v (flx v)) v (flx v), usualL (sub.list v (flx v)), knownL ((sub.list v (flx v)).map (·.h))⟩ v (flx v) (t.at n) else []) ++ plainS rest v (flx v) (n + 1) t := by
        simp [plainS, FS.list, List.zipIdx_cons]
      rw [hps, ← hgo]
      obtain ⟨z, hz1, hz2⟩ := ihe sub 0 (t.at n) hsub (ht.at n)
      rw [← partS_plain (fitS_noTag hsub)] at hz1
      refine ⟨(z, y), ?_, fun _ => hz2, hy2⟩
      cases hg : g.on v
      · simp [Sch.wr, hg, hy1]
      · have hnn : ¬ (0 ≤ h.null) := by omega
        simp only [Sch.wr, hg, if_true, hy1, htag, true_and, fieldS, hkind, hz1, List.append_assoc]
        simp [hnn, valS, partS]
  | opt g k o T PT PP sz df e r ihe ih =>
    intro F n t hb ht
    cases F with
    | nil => simp [fitS] at hb
    | cons h sub rest =>
      simp only [fitS, Bool.and_eq_true, decide_eq_true_eq] at hb
      obtain ⟨⟨⟨⟨⟨htag, hon⟩, hkind⟩, hnul⟩, hsub⟩, hrest⟩ := hb
      obtain ⟨y, hy1, hy2⟩ := ih rest (n + 1) t hrest ht
      have hgo := onAt_of hon hv
      have hps : plainS (.cons h sub rest) v (flx v) n t = (if h.tag < 0 ∧ h.has v = true then fieldS ⟨h, partL (sub.list v (flx v)) v (flx v), usualL (sub.list v (flx v)), knownL ((sub.list v (flx v)).map (·.h))⟩ v (flx v) (t.at n) else []) ++ plainS rest v (flx v) (n + 1) t := by
        simp [plainS, FS.list, List.zipIdx_cons]
      rw [hps, ← hgo]
      obtain ⟨z, hz1, hz2⟩ := ihe sub 0 (t.at n) hsub (ht.at n)
      rw [← partS_plain (fitS_noTag hsub)] at hz1
      have f1 : fixE 1 (-1) = [255] := by decide
      have f2 : fixE 1 1 = [1] := by decide
      refine ⟨(if h.isNull v (t.at n).nul = true then none else some z, y), ?_, fun _ x hx => ?_, hy2⟩
      · cases hg : g.on v
        · simp [Sch.wr, hg, hy1]
        · simp only [Sch.wr, hg, if_true, hy1, htag, true_and, fieldS, hkind, hnul, and_self]
          cases h.isNull v (t.at n).nul
          · simp [optW, hz1, f2, partS]
          · simp [optW, f1]
      · split at hx
        · cases hx
        · cases hx; exact hz2
theorem conv_all {M : Nat} {flx : Nat → Bool} {v : Nat} (hv : v ≤ M) {S : Sch} {F : FS} (hb : fitS M flx F S = true) {t : Tr} (ht : t.Ok) : ∃ x : S.T, S.wr v (flx v) x = partS F v (flx v) t ∧ S.wf v (flx v) x := by
  obtain ⟨x, h1, h2⟩ := conv_sch (flx := flx) hv S F 0 t hb ht
  exact ⟨x, by rw [h1, partS_plain (fitS_noTag hb)], h2⟩
def Sch.cap : Sch → Nat
  | .fin => 0
  | .tags _ _ => 5 + 40000 * 32777
  | .prim _ _ _ _ _ _ r => 32772 + r.cap
  | .arrP _ _ _ _ _ _ r => 5 + 32767 * 32772 + r.cap
  | .arrS _ _ _ _ _ _ _ _ _ e r => 5 + 32767 * e.cap + r.cap
  | .sub _ _ _ _ _ _ _ e r => e.cap + r.cap
  | .opt _ _ _ _ _ _ _ _ e r => 1 + e.cap + r.cap
theorem uvOut_len5 (n : Nat) : (uvOut n).length ≤ 5 := @uvE_len 4 n
theorem str_cap (fl : Bool) (x : List UInt8) (h : x.length ≤ 32767) : (if fl then wCStr x else wStr x).length ≤ 32772 := by
  have := uvOut_len5 ((x.length + 1) % 4294967296)
  cases fl <;> simp [wCStr, wStr] <;> omega
theorem bytes_cap (fl : Bool) (x : List UInt8) (h : x.length ≤ 32767) : (if fl then wCBytes x else wBytes x).length ≤ 32772 := by
  have := uvOut_len5 ((x.length + 1) % 4294967296)
  cases fl <;> simp [wCBytes, wBytes] <;> omega
theorem prim_cap (p : Prim) (fl : Bool) (x : p.T) (h : p.wf x) : (p.wr fl x).length ≤ 32772 := by
  cases p with
  | bool => simp [Prim.wr]
  | i8 => simp [Prim.wr]
  | i16 => simp [Prim.wr, num]
  | u16 => simp [Prim.wr, num]
  | i32 => simp [Prim.wr, num]
  | i64 => simp [Prim.wr, num]
  | uuid => have hx : (x : List UInt8).length = 16 := h; simp only [Prim.wr]; rw [show (x : List UInt8).length = 16 from hx]; omega
  | str => exact str_cap fl x h
  | bytes => exact bytes_cap fl x h
  | nstr =>
    cases x with
    | none => cases fl <;> simp [Prim.wr, wNStr, wCNStr] <;> (have := uvOut_len5 0; omega)
    | some x =>
      have := str_cap fl x h
      cases fl <;> simpa [Prim.wr, wNStr, wCNStr] using this
  | nbytes =>
    cases x with
    | none => cases fl <;> simp [Prim.wr, wNBytes, wCNBytes] <;> (have := uvOut_len5 0; omega)
    | some x =>
      have := bytes_cap fl x h
      cases fl <;> simpa [Prim.wr, wNBytes, wCNBytes] using this
end Go.Kg

set_option linter.unusedSimpArgs false
set_option linter.unusedVariables false
set_option linter.unusedSectionVars false
namespace Go.Kg
open Go
end Go.Kg

set_option linter.unusedSimpArgs false
set_option linter.unusedVariables false
set_option linter.unusedSectionVars false
namespace Go.Kg
open Go
/-- What a known tag holds. d: a number's default; same, mk: the numbers of zzSame and of the function that makes the default. -/
inductive Kn where
  | prim (p : Prim) (d : Int)
  | arr (sT T PT sz df : Nat) (e : Sch)
  | str (T PT sz df same mk : Nat) (e : Sch)
/-- A known tag: its number, its field's place, its first cell. -/
structure KF where
  num : Nat
  k : Nat
  o : Nat
  c : Kn
def Kn.T : Kn → Type
  | .prim p _ => p.T
  | .arr _ _ _ _ _ e => Option (List e.T)
  | .str _ _ _ _ _ _ e => e.T
def KsT : List KF → Type
  | [] => Unit
  | x :: l => x.c.T × KsT l
/-- is a number as by default -/
def Prim.isD : (p : Prim) → Int → p.T → Bool
  | .bool, d, b => (show Bool from b) == decide (d ≠ 0)
  | .i8, d, n => (show Int from n) == d
  | .i16, d, n => (show Int from n) == d
  | .u16, d, n => (show Int from n) == d
  | .i32, d, n => (show Int from n) == d
  | .i64, d, n => (show Int from n) == d
  | .uuid, _, l => (show List UInt8 from l) == List.replicate 16 0
  | .str, _, l => (show List UInt8 from l).isEmpty
  | .bytes, _, l => (show List UInt8 from l).isEmpty
  | .nstr, _, o => (show Option (List UInt8) from o).isNone
  | .nbytes, _, o => (show Option (List UInt8) from o).isNone
/-- a struct of numbers, texts and tags: as by default -/
def Sch.isD : (S : Sch) → S.T → Bool
  | .fin, _ => true
  | .tags _ _, l => (show TagL from l).isEmpty
  | .prim _ _ _ p _ d rest, (x, r) => p.isD d x && rest.isD r
  | .arrP _ _ _ _ _ _ rest, (a, r) => a.isNone && rest.isD r
  | .arrS _ _ _ _ _ _ _ _ _ _ rest, (a, r) => a.isNone && rest.isD r
  | .sub _ _ _ _ _ _ _ e rest, (x, r) => e.isD x && rest.isD r
  | .opt _ _ _ _ _ _ _ _ _ rest, (a, r) => a.isNone && rest.isD r
def Kn.dfl : (c : Kn) → c.T
  | .prim p d => p.dfl d
  | .arr _ _ _ _ _ _ => none
  | .str _ _ _ _ _ _ e => e.dfl
/-- is it written -/
def Kn.set : (c : Kn) → c.T → Bool
  | .prim p d, x => !p.isD d x
  | .arr _ _ _ _ _ _, a => !(a.getD []).isEmpty
  | .str _ _ _ _ _ _ e, x => !e.isD x
def Kn.wr (ver : Int) : (c : Kn) → c.T → List UInt8
  | .prim p _, x => p.wr true x
  | .arr _ _ _ _ _ e, a => lenW none true (a.getD []).length a.isNone ++ (a.getD []).flatMap (e.wr ver true)
  | .str _ _ _ _ _ _ e, x => e.wr ver true x
def kTag (n : Nat) (b : List UInt8) : List UInt8 := uvOut n ++ uvOut (b.length % 4294967296) ++ b
def ksN : (l : List KF) → KsT l → Nat
  | [], _ => 0
  | x :: l, (v, r) => (if x.c.set v then 1 else 0) + ksN l r
def ksW (ver : Int) : (l : List KF) → KsT l → List UInt8
  | [], _ => []
  | x :: l, (v, r) => (if x.c.set v then kTag x.num (x.c.wr ver v) else []) ++ ksW ver l r
/-- the section of tags -/
def secW (ver : Int) (fl : Bool) (l : List KF) (x : KsT l) (u : TagL) : List UInt8 :=
  if fl then uvOut ((ksN l x + u.length) % 4294967296) ++ ksW ver l x ++ tagsOut u else []
/-- err: an error is handed back at once; dup: a list is read a second time (nothing is said of that) -/
inductive KO (α : Type) where
  | err
  | dup
  | ok (x : α)
def KO.map {α β : Type} (f : α → β) : KO α → KO β
  | .err => .err
  | .dup => .dup
  | .ok x => .ok (f x)
theorem KO.map_map {α β γ : Type} (f : α → β) (g : β → γ) (x : KO α) : (x.map f).map g = x.map (fun a => g (f a)) := by cases x <;> rfl
/-- what a reader of its own gives, and 'return err' -/
def KO.of {α : Type} : Option (α × RS) → KO α
  | none => .err
  | some (x, rs) => if rs.bad then .err else .ok x
def Kn.rd (ver : Int) : (c : Kn) → c.T → RS → KO c.T
  | .prim p _, _, rs => KO.of (some (p.rd true rs))
  | .arr _ _ _ _ _ e, a, rs => if (lenRd true rs).2.bad then .err else if (show Option (List e.T) from a).isSome then .dup else KO.of (arrRd none ver true (e.rd ver true) rs)
  | .str _ _ _ _ _ _ e, _, rs => KO.of (e.rd ver true rs)
/-- ok none: the number is not known -/
def ksStep (ver : Int) : (l : List KF) → Nat → KsT l → RS → KO (Option (KsT l))
  | [], _, _, _ => .ok none
  | x :: l, key, (v, r), rs => if key = x.num then (x.c.rd ver v rs).map (fun y => some (y, r)) else (ksStep ver l key r rs).map (Option.map fun r => (v, r))
/-- so many tags; st: what a number and its octets do -/
def kLoop {σ : Type} (st : Nat → σ → RS → KO (Option σ)) : Nat → σ → TagL → RS → Option (Option (σ × TagL) × RS)
  | 0, s, u, rs => some (some (s, u), rs)
  | n + 1, s, u, rs =>
    let a := rdUv rs
    let b := rdUv a.2
    let c := rdSpan b.1 b.2
    match st a.1 s ⟨c.1, false, c.2.nn⟩ with
    | .err => none
    | .dup => some (none, c.2)
    | .ok none => kLoop st n s (setTag a.1 c.1 u) c.2
    | .ok (some s') => kLoop st n s' u c.2
def ksDfl : (l : List KF) → KsT l
  | [] => ()
  | x :: l => (x.c.dfl, ksDfl l)
def secRd (ver : Int) (fl : Bool) (l : List KF) (rs : RS) : Option (Option (KsT l × TagL) × RS) :=
  if fl then kLoop (ksStep ver l) (rdUv rs).1 (ksDfl l) [] (rdUv rs).2 else some (some (ksDfl l, []), rs)
end Go.Kg

set_option linter.unusedSimpArgs false
set_option linter.unusedVariables false
set_option linter.unusedSectionVars false
namespace Go.Kg
open Go
def Kn.wf (ver : Int) : (c : Kn) → c.T → Prop
  | .prim p _, x => p.wf x
  | .arr _ _ _ _ _ e, a => arrWf none ver a ∧ ∀ x ∈ a.getD [], e.wf ver true x
  | .str _ _ _ _ _ _ e, x => e.wf ver true x
/-- only numbers, texts and tags, and all of them stand at this version -/
def Sch.flat (ver : Int) : Sch → Bool
  | .fin => true
  | .tags _ _ => true
  | .prim g _ _ _ _ _ rest => g.on ver && rest.flat ver
  | _ => false
def Kn.posE (ver : Int) : Kn → Bool
  | .prim _ _ => true
  | .arr _ _ _ _ _ e => e.pos ver true && e.posE ver true
  | .str _ _ _ _ _ _ e => e.flat ver
def Kn.TagsOk (ok : TagL → Prop) : (c : Kn) → c.T → Prop
  | .prim _ _, _ => True
  | .arr _ _ _ _ _ e, a => ∀ (i : Nat) y, (a.getD [])[i]? = some y → e.TagsOk ok y
  | .str _ _ _ _ _ _ e, x => e.TagsOk ok x
def KsOk (ok : TagL → Prop) : (l : List KF) → KsT l → Prop
  | [], _ => True
  | x :: l, (v, r) => x.c.TagsOk ok v ∧ KsOk ok l r
def KsWf (ver : Int) : (l : List KF) → KsT l → Prop
  | [], _ => True
  | x :: l, (v, r) => (x.c.wf ver v ∧ (x.c.set v = true → (x.c.wr ver v).length < 4294967296)) ∧ KsWf ver l r
/-- what the section's parts must be -/
structure SecOk (ver : Int) (l : List KF) : Prop where
  nd : (l.map (·.num)).Nodup
  ok : ∀ f ∈ l, f.num < 4294967296 ∧ f.c.posE ver = true
  len : l.length ≤ 1000
def RS.fine (rs : RS) : Prop := rs.bad = true → rs.src = []
end Go.Kg

set_option linter.unusedSimpArgs false
set_option linter.unusedVariables false
set_option linter.unusedSectionVars false
namespace Go.Kg
open Go
def Fine {α : Type} (g : RS → α × RS) : Prop := ∀ rs, rs.fine → (g rs).2.fine
theorem Fine.pure {α : Type} (x : Bool → α) : Fine (fun rs => (x rs.nn, rs)) := fun rs h => h
theorem Fine.bind {α β : Type} {g : RS → α × RS} {h : α → RS → β × RS} (hg : Fine g) (hh : ∀ a, Fine (h a)) : Fine (fun rs => h (g rs).1 (g rs).2) := fun rs hf => hh _ _ (hg rs hf)
theorem Fine.map {α β : Type} {g : RS → α × RS} (hg : Fine g) (f : α → Bool → β) : Fine (fun rs => (f (g rs).1 (g rs).2.nn, (g rs).2)) := fun rs hf => hg rs hf
/-- S: its plain fields, up to fin; ks: its known tags; tk, to: where the unknown ones stand. -/
structure KM where
  S : Sch
  ks : List KF
  tk : Nat
  to : Nat
def KM.T (M : KM) : Type := M.S.T × KsT M.ks × TagL
def KM.wr (ver : Int) (fl : Bool) (M : KM) (x : M.T) : List UInt8 := M.S.wr ver fl x.1 ++ secW ver fl M.ks x.2.1 x.2.2
/-- some (none, _): as in kLoop -/
def KM.rd (ver : Int) (fl : Bool) (M : KM) (rs : RS) : Option (Option M.T × RS) := (M.S.rd ver fl rs).bind fun a => (secRd ver fl M.ks a.2).map fun b => (b.1.map fun y => (a.1, y.1, y.2), b.2)
def KM.TagsOk (ok : TagL → Prop) (M : KM) (x : M.T) : Prop := M.S.TagsOk ok x.1 ∧ KsOk ok M.ks x.2.1 ∧ ok x.2.2
structure KM.Ok (ver : Int) (fl : Bool) (M : KM) : Prop where
  S : M.S.posE ver fl = true
  sec : fl = true → SecOk ver M.ks
structure KM.wf (ver : Int) (fl : Bool) (M : KM) (x : M.T) : Prop where
  S : M.S.wf ver fl x.1
  ks : fl = true → KsWf ver M.ks x.2.1
  u : fl = true → tagsOk x.2.2
  un : fl = true → ∀ t ∈ x.2.2, t.1 ∉ M.ks.map (·.num)
end Go.Kg

set_option linter.unusedSimpArgs false
set_option linter.unusedVariables false
namespace Go.Kg
open Go
def Prim.fR (E : Env) : Prim → Bool → Nat
  | .bool, _ => E.f_pkbin_Reader_Bool
  | .i8, _ => E.f_pkbin_Reader_Int8
  | .i16, _ => E.f_pkbin_Reader_Int16
  | .u16, _ => E.f_pkbin_Reader_Uint16
  | .i32, _ => E.f_pkbin_Reader_Int32
  | .i64, _ => E.f_pkbin_Reader_Int64
  | .uuid, _ => E.f_pkbin_Reader_Uuid
  | .str, false => E.f_pkbin_Reader_String
  | .str, true => E.f_pkbin_Reader_CompactString
  | .nstr, false => E.f_pkbin_Reader_NullableString
  | .nstr, true => E.f_pkbin_Reader_CompactNullableString
  | .bytes, false => E.f_pkbin_Reader_Bytes
  | .bytes, true => E.f_pkbin_Reader_CompactBytes
  | .nbytes, false => E.f_pkbin_Reader_NullableBytes
  | .nbytes, true => E.f_pkbin_Reader_CompactNullableBytes
/-- u: the numbers of the readers that are 'unsafe' (String, CompactString, NullableString, CompactNullableString). rs: where the reader stands. -/
structure CfgR extends Cfg where
  rs : Nat
  u : Nat × Nat × Nat × Nat
def Prim.fU (C : CfgR) : Prim → Bool → Nat
  | .str, false => C.u.1
  | .str, true => C.u.2.1
  | .nstr, false => C.u.2.2.1
  | .nstr, true => C.u.2.2.2
  | _, _ => 0
/-- v = b.F() -/
def callR (C : CfgR) (p : Prim) (f l t : Nat) : Ir :=
  .reg (⟨none, some t, .call { callee := .value (.func f), args := #[.tmp C.rs], argTypes := #[C.E.tRd] }, p.ty C.E⟩ :: putL C.toCfg p (p.ty C.E) l t)
/-- if the slot s {a} else {b} -/
def condI (C : CfgR) (s t : Nat) (a b : Ir) : Ir := .seq (.reg [⟨none, some t, .move (.tmp s), C.E.tB⟩]) (.cond t a b)
def zeroV : Prim → Value
  | .str => .string ⟨#[]⟩
  | .nstr => .pointer none
  | _ => .slice none 0 0
def Prim.uns : Prim → Bool
  | .str | .nstr => true
  | _ => false
/-- reading into the local l; so many temporaries -/
def readI (C : CfgR) (p : Prim) (l t : Nat) : List Ir :=
  match p with
  | .str => .reg [⟨none, some l, .assign (.const (zeroV p)), p.ty C.E⟩] ::
    [if C.fx then condI C 2 t (condI C 9 (t + 1) (callR C p (p.fU C true) l (t + 2)) (callR C p (p.fU C false) l (t + 3))) (condI C 9 (t + 4) (callR C p (p.fR C.E true) l (t + 5)) (callR C p (p.fR C.E false) l (t + 6)))
      else condI C 2 t (callR C p (p.fU C false) l (t + 1)) (callR C p (p.fR C.E false) l (t + 2))]
  | .nstr => .reg [⟨none, some l, .assign (.const (zeroV p)), p.ty C.E⟩] ::
    [if C.fx then condI C 9 t (condI C 2 (t + 1) (callR C p (p.fU C true) l (t + 2)) (callR C p (p.fR C.E true) l (t + 3))) (condI C 2 (t + 4) (callR C p (p.fU C false) l (t + 5)) (callR C p (p.fR C.E false) l (t + 6)))
      else condI C 2 t (callR C p (p.fU C false) l (t + 1)) (callR C p (p.fR C.E false) l (t + 2))]
  | .bytes | .nbytes => if C.fx then .reg [⟨none, some l, .assign (.const (zeroV p)), p.ty C.E⟩] :: [condI C 9 t (callR C p (p.fR C.E true) l (t + 1)) (callR C p (p.fR C.E false) l (t + 2))]
      else [callR C p (p.fR C.E false) l t]
  | _ => [callR C p (p.fR C.E false) l t]
def readN (C : CfgR) (p : Prim) : Nat :=
  match p with
  | .str | .nstr => if C.fx then 7 else 3
  | .bytes | .nbytes => if C.fx then 3 else 1
  | _ => 1
/-- s.F = v -/
def storeR (C : CfgR) (T PT pv k ty l t : Nat) (p : Prim) : List Ro :=
  [⟨none, some t, .move (.tmp pv), PT⟩, getL C.toCfg p l (t + 1), ⟨none, some (t + 2), .nilCheck (.tmp t), C.E.tNil⟩, ⟨none, some (t + 3), .fieldAddr T (.tmp (t + 2)) k, C.E.tNil⟩, ⟨none, none, .store ty (.tmp (t + 3)) (.tmp (t + 1)), C.E.tNil⟩]
/-- the same of a type's own -/
def storeT (C : CfgR) (T PT pv k ty l t : Nat) : List Ro :=
  [⟨none, some t, .move (.tmp pv), PT⟩, ⟨none, some (t + 1), .move (.tmp l), ty⟩, ⟨none, some (t + 2), .nilCheck (.tmp t), C.E.tNil⟩, ⟨none, some (t + 3), .fieldAddr T (.tmp (t + 2)) k, C.E.tNil⟩, ⟨none, none, .store ty (.tmp (t + 3)) (.tmp (t + 1)), C.E.tNil⟩]
def lenIR (C : CfgR) (l t : Nat) : Ir :=
  let c (f t : Nat) : Ir := .reg [⟨none, some t, .call { callee := .value (.func f), args := #[.tmp C.rs], argTypes := #[C.E.tRd] }, C.E.tI32⟩, ⟨none, some l, .assign (.tmp t), C.E.tI32⟩]
  if C.fx then condI C 9 t (c C.E.f_pkbin_Reader_CompactArrayLen (t + 1)) (c C.E.f_pkbin_Reader_ArrayLen (t + 2)) else c C.E.f_pkbin_Reader_ArrayLen t
def lenIN (C : CfgR) : Nat := if C.fx then 3 else 1
/-- return b.Complete() -/
def completeI (C : CfgR) (t : Nat) : List Ir := [.reg [⟨none, some t, .call { callee := .value (.func C.E.f_pkbin_Reader_Complete), args := #[.tmp C.rs], argTypes := #[C.E.tRd] }, C.E.tErr⟩, ⟨none, some 6, .assign (.tmp t), C.E.tErr⟩], .ret]
def okI (C : CfgR) (t : Nat) : Ir :=
  .seq (.reg [⟨none, some t, .call { callee := .value (.func C.E.f_pkbin_Reader_Ok), args := #[.tmp C.rs], argTypes := #[C.E.tRd] }, C.E.tB⟩, ⟨none, some (t + 1), .unOp .not C.E.tB (.tmp t), C.E.tB⟩]) (.cond (t + 1) (seqL (completeI C (t + 2))) .skip)
/-- if version < m || l == 0 {a = []T{}} -/
def nulI (C : CfgR) (m sT l t : Nat) : Ir :=
  .seq (.reg [⟨none, some t, .move (.tmp 8), C.E.tI16⟩, ⟨none, some (t + 1), .binOp .lss C.E.tI16 (.tmp t) (.const (.int .i16 m)) C.E.tI16, C.E.tB⟩, ⟨none, some (t + 2), .move (.tmp (t + 1)), C.E.tB⟩,
      ⟨some (t + 2, false), some (t + 3), .move (.tmp (l + 2)), C.E.tI32⟩, ⟨some (t + 2, false), some (t + 4), .binOp .eql C.E.tI32 (.tmp (t + 3)) (.const (.int .i32 0)) C.E.tI32, C.E.tB⟩, ⟨none, some (t + 5), .pick (.tmp (t + 2)) (.const (.bool true)) (.tmp (t + 4)), C.E.tB⟩])
    (.cond (t + 5) (.reg [⟨none, some (t + 6), .buildSlice sT 0 #[], sT⟩, ⟨none, some (l + 1), .assign (.tmp (t + 6)), sT⟩]) .skip)
def nulN : Option Nat → Nat
  | none => 0
  | some _ => 7
/-- a list's field, up to the loop: l: v, l + 1: a, l + 2: the length; the loop starts at t + headN -/
def headR (C : CfgR) (T PT pv k sT l t : Nat) (nul : Option Nat) : List Ir :=
  let t1 := t + 5 + lenIN C
  let t2 := t1 + nulN nul
  [loadI C.toCfg T PT pv k sT l t .i8, .reg [⟨none, some (t + 4), .move (.tmp l), sT⟩, ⟨none, some (l + 1), .assign (.tmp (t + 4)), sT⟩], .reg [⟨none, some (l + 2), .assign (.const (.int .i32 0)), C.E.tI32⟩], lenIR C (l + 2) (t + 5)] ++
  (match nul with | none => [] | some m => [nulI C m sT l t1]) ++
  [okI C t2, .reg [⟨none, some (t2 + 3), .move (.tmp (l + 1)), sT⟩, ⟨none, some (t2 + 4), .slice sT (.tmp (t2 + 3)) none (some (.const (.int .i64 0))) none, sT⟩, ⟨none, some (l + 1), .assign (.tmp (t2 + 4)), sT⟩],
   .seq (.reg [⟨none, some (t2 + 5), .move (.tmp (l + 2)), C.E.tI32⟩, ⟨none, some (t2 + 6), .binOp .gtr C.E.tI32 (.tmp (t2 + 5)) (.const (.int .i32 0)) C.E.tI32, C.E.tB⟩])
    (.cond (t2 + 6) (.reg [⟨none, some (t2 + 7), .move (.tmp (l + 1)), sT⟩, ⟨none, some (t2 + 8), .move (.tmp (l + 2)), C.E.tI32⟩,
      ⟨none, some (t2 + 9), .call { callee := .builtin .append, args := #[.tmp (t2 + 7), .tmp (t2 + 8)], argTypes := #[sT, C.E.tI32] }, sT⟩, ⟨none, some (l + 1), .assign (.tmp (t2 + 9)), sT⟩]) .skip)]
def headN (C : CfgR) (nul : Option Nat) : Nat := 5 + lenIN C + nulN nul + 10
/-- for i := int32(0); i < l; i++: the body starts at t + 5 -/
def forI (C : CfgR) (l t k : Nat) (body : Ir) : Ir :=
  .seq (.reg [⟨none, some (l + 3), .assign (.const (.int .i32 0)), C.E.tI32⟩])
    (.block k (.loop (.seq (.seq (.reg [⟨none, some t, .move (.tmp (l + 3)), C.E.tI32⟩, ⟨none, some (t + 1), .move (.tmp (l + 2)), C.E.tI32⟩, ⟨none, some (t + 2), .binOp .lss C.E.tI32 (.tmp t) (.tmp (t + 1)) C.E.tI32, C.E.tB⟩]) (.cond (t + 2) .skip (.exit k)))
      (.seq (.block (k + 1) body) (.reg [⟨none, some (t + 3), .move (.tmp (l + 3)), C.E.tI32⟩, ⟨none, some (t + 4), .binOp .add C.E.tI32 (.tmp (t + 3)) (.const (.int .i32 1)) C.E.tI32, C.E.tI32⟩, ⟨none, some (l + 3), .assign (.tmp (t + 4)), C.E.tI32⟩])))))
/-- v = a; s.F = v -/
def tailR (C : CfgR) (T PT pv k sT l t : Nat) : List Ir :=
  [.reg [⟨none, some t, .move (.tmp (l + 1)), sT⟩, ⟨none, some l, .assign (.tmp t), sT⟩], .reg (storeT C T PT pv k sT l (t + 1))]
/-- v := &a[i]; v.Default(); s := v -/
def elemR (C : CfgR) (sT PT' df l t : Nat) : List Ir :=
  [.reg [⟨none, some t, .move (.tmp (l + 1)), sT⟩, ⟨none, some (t + 1), .move (.tmp (l + 3)), C.E.tI32⟩, ⟨none, some (t + 2), .indexAddr sT (.tmp t) (.tmp (t + 1)), C.E.tNil⟩, ⟨none, some (l + 4), .assign (.tmp (t + 2)), PT'⟩],
   .reg [⟨none, some (t + 3), .move (.tmp (l + 4)), PT'⟩, ⟨none, some (t + 4), .call { callee := .value (.func df), args := #[.tmp (t + 3)], argTypes := #[PT'] }, C.E.tNil⟩],
   .reg [⟨none, some (t + 5), .move (.tmp (l + 4)), PT'⟩, ⟨none, some (l + 5), .assign (.tmp (t + 5)), PT'⟩]]
def storeE (C : CfgR) (p : Prim) (sT l t : Nat) : Ir :=
  .reg [⟨none, some t, .move (.tmp (l + 1)), sT⟩, ⟨none, some (t + 1), .move (.tmp (l + 3)), C.E.tI32⟩, getL C.toCfg p (l + 4) (t + 2), ⟨none, some (t + 3), .indexAddr sT (.tmp t) (.tmp (t + 1)), C.E.tNil⟩, ⟨none, none, .store (p.ty C.E) (.tmp (t + 3)) (.tmp (t + 2)), C.E.tNil⟩]
def tagsR (C : CfgR) (T PT pv k t : Nat) : Ir :=
  condI C 9 t (.reg [⟨none, some (t + 1), .move (.tmp pv), PT⟩, ⟨none, some (t + 2), .call { callee := .value (.func C.E.f_kmsg_internalReadTags), args := #[.tmp C.rs], argTypes := #[C.E.tPRd] }, C.E.t_kmsg_Tags⟩,
    ⟨none, some (t + 3), .nilCheck (.tmp (t + 1)), C.E.tNil⟩, ⟨none, some (t + 4), .fieldAddr T (.tmp (t + 3)) k, C.E.tNil⟩, ⟨none, none, .store C.E.t_kmsg_Tags (.tmp (t + 4)) (.tmp (t + 2)), C.E.tNil⟩]) .skip
/-- v := &s.F; v.Default(); s := v -/
def subR (C : CfgR) (T PT pv k PT' df l t : Nat) : List Ir :=
  [.reg (addrR C.toCfg T PT pv k t ++ [⟨none, some l, .assign (.tmp (t + 2)), PT'⟩]),
   .reg [⟨none, some (t + 3), .move (.tmp l), PT'⟩, ⟨none, some (t + 4), .call { callee := .value (.func df), args := #[.tmp (t + 3)], argTypes := #[PT'] }, C.E.tNil⟩],
   .reg [⟨none, some (t + 5), .move (.tmp l), PT'⟩, ⟨none, some (l + 1), .assign (.tmp (t + 5)), PT'⟩]]
/-- if present != -1 && b.Ok() -/
def presI (C : CfgR) (l t : Nat) (body : Ir) : Ir :=
  .seq (.reg [⟨none, some t, .move (.tmp l), C.E.tI8⟩, ⟨none, some (t + 1), .binOp .neq C.E.tI8 (.tmp t) (.const (.int .i8 (-1))) C.E.tI8, C.E.tB⟩, ⟨none, some (t + 2), .move (.tmp (t + 1)), C.E.tB⟩,
      ⟨some (t + 2, true), some (t + 3), .call { callee := .value (.func C.E.f_pkbin_Reader_Ok), args := #[.tmp C.rs], argTypes := #[C.E.tRd] }, C.E.tB⟩, ⟨none, some (t + 4), .pick (.tmp (t + 2)) (.tmp (t + 3)) (.const (.bool false)), C.E.tB⟩])
    (.cond (t + 4) body .skip)
/-- s.F = new(T'); v := s.F; v.Default(); s := v -/
def optR (C : CfgR) (T PT pv k T' PT' df l t : Nat) : List Ir :=
  [.reg [⟨none, some t, .move (.tmp pv), PT⟩, ⟨none, some (t + 1), .alloc T', PT'⟩, ⟨none, some (t + 2), .nilCheck (.tmp t), C.E.tNil⟩, ⟨none, some (t + 3), .fieldAddr T (.tmp (t + 2)) k, C.E.tNil⟩, ⟨none, none, .store PT' (.tmp (t + 3)) (.tmp (t + 1)), C.E.tNil⟩],
   .reg (addrR C.toCfg T PT pv k (t + 4) ++ [⟨none, some (t + 7), .load PT' (.tmp (t + 6)), PT'⟩, ⟨none, some (l + 1), .assign (.tmp (t + 7)), PT'⟩]),
   .reg [⟨none, some (t + 8), .move (.tmp (l + 1)), PT'⟩, ⟨none, some (t + 9), .call { callee := .value (.func df), args := #[.tmp (t + 8)], argTypes := #[PT'] }, C.E.tNil⟩],
   .reg [⟨none, some (t + 10), .move (.tmp (l + 1)), PT'⟩, ⟨none, some (l + 2), .assign (.tmp (t + 10)), PT'⟩]]
def Sch.genR (C : CfgR) (T PT pv : Nat) : Sch → Ct → List Ir × Ct
  | .fin, c => ([], c)
  | .tags k _, c => ([tagsR C T PT pv k c.t], ⟨c.l, c.t + 5, c.k⟩)
  | .prim g k _ p en _ rest, c =>
    let t := c.t + gdN g
    let (b, c') := if en = 0 then (readI C p c.l t ++ [.reg (storeR C T PT pv k (p.ty C.E) c.l (t + readN C p) p)], (⟨c.l + 1, t + readN C p + 4, c.k⟩ : Ct))
      else ([.reg [⟨none, some c.l, .assign (.const (.int .i8 0)), en⟩], seqL [callR C p (p.fR C.E false) (c.l + 1) t, .reg [⟨none, some (t + 1), .move (.tmp (c.l + 1)), p.ty C.E⟩, ⟨none, some c.l, .assign (.tmp (t + 1)), en⟩]],
        .reg [⟨none, some (t + 2), .move (.tmp c.l), en⟩, ⟨none, some (c.l + 2), .assign (.tmp (t + 2)), en⟩], .reg (storeT C T PT pv k en (c.l + 2) (t + 3))], ⟨c.l + 3, t + 7, c.k⟩)
    let (r, c'') := rest.genR C T PT pv c'
    (gdI (toR C) g c.t (seqL b) :: r, c'')
  | .arrP g k _ sT nul p rest, c =>
    let t := c.t + gdN g
    let t1 := t + headN C nul
    let body := seqL (readI C p (c.l + 4) (t1 + 5) ++ [storeE C p sT c.l (t1 + 5 + readN C p)])
    let t2 := t1 + 5 + readN C p + 4
    let (r, c'') := rest.genR C T PT pv ⟨c.l + 5, t2 + 5, c.k + 2⟩
    (gdI (toR C) g c.t (seqL (headR C T PT pv k sT c.l t nul ++ [forI C c.l t1 c.k body] ++ tailR C T PT pv k sT c.l t2)) :: r, c'')
  | .arrS g k _ sT nul T' PT' _ df e rest, c =>
    let t := c.t + gdN g
    let t1 := t + headN C nul
    let (eb, c1) := e.genR C T' PT' (c.l + 5) ⟨c.l + 6, t1 + 11, c.k + 2⟩
    let body := seqL (elemR C sT PT' df c.l (t1 + 5) ++ eb)
    let (r, c'') := rest.genR C T PT pv ⟨c1.l, c1.t + 5, c1.k⟩
    (gdI (toR C) g c.t (seqL (headR C T PT pv k sT c.l t nul ++ [forI C c.l t1 c.k body] ++ tailR C T PT pv k sT c.l c1.t)) :: r, c'')
  | .sub g k _ T' PT' _ df e rest, c =>
    let t := c.t + gdN g
    let (eb, c1) := e.genR C T' PT' (c.l + 1) ⟨c.l + 2, t + 6, c.k⟩
    let (r, c'') := rest.genR C T PT pv c1
    (gdI (toR C) g c.t (seqL (subR C T PT pv k PT' df c.l t ++ eb)) :: r, c'')
  | .opt g k _ T' PT' _ _ df e rest, c =>
    let t := c.t + gdN g
    let (eb, c1) := e.genR C T' PT' (c.l + 2) ⟨c.l + 3, t + 17, c.k⟩
    let (r, c'') := rest.genR C T PT pv c1
    (gdI (toR C) g c.t (seqL [callR C .i8 (Prim.i8.fR C.E false) c.l t, presI C c.l (t + 1) (seqL (optR C T PT pv k T' PT' df c.l (t + 6) ++ eb))]) :: r, c'')
where toR (C : CfgR) : Cfg := { C.toCfg with sv := 8, sf := 9 }
/-- readFrom. kv: the version is read first; df: the number of Default; nl: how many locals there are -/
def ctR (C : CfgR) (kv : Bool) (nl : Nat) : Ct := ⟨if C.fx then 11 else 10, nl + 9 + (if kv then 4 else 0) + (if C.fx then 4 else 1), 0⟩
def msgR (C : CfgR) (T PT flex df : Nat) (kv : Bool) (S : Sch) (nl : Nat) : Ir :=
  let t := nl + (if kv then 4 else 0)
  let h : List Ir := [.reg [⟨none, some 6, .assign (.const .nilIface), C.E.tErr⟩],
    .reg [⟨none, some nl, .move (.tmp 0), PT⟩, ⟨none, some (nl + 1), .call { callee := .value (.func df), args := #[.tmp nl], argTypes := #[PT] }, C.E.tNil⟩],
    .reg [⟨none, some (nl + 2), .move (.tmp 1), C.E.tBs⟩, ⟨none, some (nl + 3), .build C.E.tRd #[(0, .tmp (nl + 2))], C.E.tRd⟩, ⟨none, some 7, .alloc C.E.tRd, C.E.tNil⟩, ⟨none, none, .store C.E.tRd (.tmp 7) (.tmp (nl + 3)), C.E.tNil⟩]]
  let kvI : List Ir := if kv then [.reg [⟨none, some (nl + 4), .move (.tmp 0), PT⟩, ⟨none, some (nl + 5), .call { callee := .value (.func C.E.f_pkbin_Reader_Int16), args := #[.tmp 7], argTypes := #[C.E.tRd] }, C.E.tI16⟩,
    ⟨none, some (nl + 6), .nilCheck (.tmp (nl + 4)), C.E.tNil⟩, ⟨none, some (nl + 7), .fieldAddr T (.tmp (nl + 6)) 0, C.E.tNil⟩, ⟨none, none, .store C.E.tI16 (.tmp (nl + 7)) (.tmp (nl + 5)), C.E.tNil⟩]] else []
  let v : List Ir := [.reg (addrR C.toCfg T PT 0 0 (t + 4) ++ [⟨none, some (t + 7), .load C.E.tI16 (.tmp (t + 6)), C.E.tI16⟩, ⟨none, some 8, .assign (.tmp (t + 7)), C.E.tI16⟩]),
    .reg [⟨none, some (t + 8), .move (.tmp 8), C.E.tI16⟩]]
  let fl : List Ir := if C.fx then [.reg [⟨none, some (t + 9), .move (.tmp 8), C.E.tI16⟩, ⟨none, some (t + 10), .binOp .geq C.E.tI16 (.tmp (t + 9)) (.const (.int .i16 flex)) C.E.tI16, C.E.tB⟩, ⟨none, some 9, .assign (.tmp (t + 10)), C.E.tB⟩],
    .reg [⟨none, some (t + 11), .move (.tmp 9), C.E.tB⟩]] else []
  let pv := if C.fx then 10 else 9
  let t' := t + (if C.fx then 12 else 9)
  let s : List Ir := [.reg [⟨none, some t', .move (.tmp 0), PT⟩, ⟨none, some pv, .assign (.tmp t'), PT⟩]]
  let (b, c) := S.genR C T PT pv (ctR C kv nl)
  seqL (h ++ kvI ++ v ++ fl ++ s ++ b ++ completeI C c.t)
end Go.Kg

set_option linter.unusedSimpArgs false
set_option linter.unusedVariables false
namespace Go.Kg
open Go
/-- dst = kbin.AppendUvarint(dst, n) -/
def uvI (C : Cfg) (n t : Nat) : Ir := .reg [⟨none, some t, .move (.tmp 1), C.E.tBs⟩, ⟨none, some (t + 1), .call { callee := .value (.func C.E.f_kbin_AppendUvarint), args := #[.tmp t, .const (.int .u32 n)], argTypes := #[C.E.tBs, C.E.tU32] }, C.E.tBs⟩, ⟨none, some 1, .assign (.tmp (t + 1)), C.E.tBs⟩]
/-- a known tag's field, as a schema -/
def KF.sch (f : KF) : Sch := match f.c with
  | .prim p d => .prim ⟨none, none⟩ f.k f.o p 0 d .fin
  | .arr sT T PT sz df e => .arrS ⟨none, none⟩ f.k f.o sT none T PT sz df e .fin
  | .str T PT sz df _ _ e => .sub ⟨none, none⟩ f.k f.o T PT sz df e .fin
end Go.Kg

set_option linter.unusedSimpArgs false
set_option linter.unusedVariables false
set_option linter.unusedSectionVars false
namespace Go.Kg
open Go
structure TyUuE (P : Program) (E : Env) : Prop extends TyUu P E where
  g : P.eqGuardType P.depth E.tUu = false
  u8 : P.underlying E.tU8 = some (.int .u8)
  k8 : kindOf P E.tU8 = .scl
  i8 : ∃ i, P.info? E.tU8 = some i
  c8 : P.cellsOf E.tU8 = 1
section
variable {P : Program} {E : Env} (ht : TyUuE P E) {f : Nat → Value} {ty : TypeId} {w : World} {K : Value → World → Prop}
include ht
end
end Go.Kg

set_option linter.unusedSimpArgs false
set_option linter.unusedVariables false
set_option linter.unusedSectionVars false
namespace Go.Kg
open Go
/-- the cells of a struct within a block -/
def segL (c : Array Value) (a n : Nat) : List Value := (c.toList.drop a).take n
theorem segL_get {c : Array Value} {a n j : Nat} (h : j < n) : (segL c a n)[j]? = c[a + j]? := by simp [segL, List.getElem?_take, h, List.getElem?_drop]
theorem segL_none {c : Array Value} {a n j : Nat} (h : n ≤ j) : (segL c a n)[j]? = none := by simp [segL, List.getElem?_take]; omega
structure Rdr where
  pb : Nat
  D : Nat
  base : Nat
  ev : Value
def RK (R : Rdr) (k : Nat) : Prop := k = R.D ∨ R.base ≤ k
def CB (R : Rdr) (b k : Nat) : Prop := k = R.pb ∨ k = b
structure RW (C : CfgR) (R : Rdr) (b : Nat) (w : World) : Prop where
  lt : R.pb < R.base ∧ b < R.base ∧ R.D < R.base ∧ R.base ≤ w.heap.size
  ne : R.pb ≠ R.D ∧ b ≠ R.D ∧ R.pb ≠ b
  err : w.cell? ⟨C.E.g_kbin_ErrNotEnoughData, 0, none⟩ = some R.ev
  errN : C.E.g_kbin_ErrNotEnoughData ≠ R.pb ∧ C.E.g_kbin_ErrNotEnoughData ≠ b
section
variable {P : Program} {C : CfgR} {R : Rdr}
theorem RW.ext {b : Nat} {w w' : World} (h : RW C R b w) (he : Ext (CB R b) w w') : RW C R b w' :=
  ⟨⟨h.lt.1, h.lt.2.1, h.lt.2.2.1, Nat.le_trans h.lt.2.2.2 he.size⟩, h.ne, he.cell h.err (by rintro (h1 | h1); exact h.errN.1 h1; exact h.errN.2 h1), h.errN⟩
theorem RW.keepK {b : Nat} {w : World} (h : RW C R b w) : ∀ k, k < w.heap.size → RK R k → ¬ CB R b k := by
  obtain ⟨⟨h1, h2, h3, h4⟩, ⟨h5, h6, h7⟩, _, _⟩ := h
  rintro k _ (hk | hk) (hc | hc) <;> omega
structure FrR (C : CfgR) (R : Rdr) (f : Nat → Value) (pv b a : Nat) (ver : Int) (fl : Bool) (n : Nat) : Prop where
  ptr : f pv = .pointer (some ⟨b, a, none⟩)
  ptrN : 8 < pv ∧ pv < n
  v0 : C.fx = true → 0 ≤ ver
  ver : f 8 = .int .i16 ver
  flg : C.fx = true → f 9 = .bool fl
  flN : C.fx = false → fl = false
  rd : f C.rs = .pointer (some ⟨R.pb, 0, none⟩)
  us : f 2 = .bool false
  nN : 10 ≤ n
  rsN : 7 ≤ C.rs ∧ C.rs < n
theorem FrR.keep {f f' : Nat → Value} {pv b a n : Nat} {ver : Int} {fl : Bool} (h : FrR C R f pv b a ver fl n) {t : Nat} (hk : Keeps f f' t) (ht : n ≤ t) : FrR C R f' pv b a ver fl n := by
  have h1 := h.ptrN
  have h2 := h.nN
  have h3 := h.rsN
  exact ⟨(hk _ (by omega) (by omega)).trans h.ptr, h1, h.v0, (hk _ (by omega) (by omega)).trans h.ver, fun hx => (hk _ (by omega) (by omega)).trans (h.flg hx), h.flN, (hk _ (by omega) (by omega)).trans h.rd, (hk _ (by omega) (by omega)).trans h.us, h2, h3⟩
theorem FrR.up {f : Nat → Value} {pv b a n m : Nat} {ver : Int} {fl : Bool} (h : FrR C R f pv b a ver fl n) (hm : n ≤ m) : FrR C R f pv b a ver fl m :=
  ⟨h.ptr, ⟨h.ptrN.1, by have := h.ptrN; omega⟩, h.v0, h.ver, h.flg, h.flN, h.rd, h.us, by have := h.nN; omega, ⟨h.rsN.1, by have := h.rsN; omega⟩⟩
structure StR (C : CfgR) (R : Rdr) (b a n : Nat) (w : World) (cc : Array Value) (e : TypeId) (rs : RS) : Prop where
  blk : w.heap[b]? = some (.cells cc e (0, 0))
  fit : a + n ≤ cc.size
  rd : RdAt C.E.tRd w R.pb R.D rs
  rw_ : RW C R b w
/-- only the reader's block has turned (and new ones) -/
theorem StR.ext1 {b a n : Nat} {w w' : World} {cc : Array Value} {e : TypeId} {rs rs' : RS} (h : StR C R b a n w cc e rs) (he : Ext (· = R.pb) w w') (hr : RdAt C.E.tRd w' R.pb R.D rs') : StR C R b a n w' cc e rs' :=
  ⟨he.old h.blk (fun h' => h.rw_.ne.2.2 h'.symm), h.fit, hr, h.rw_.ext (he.mono (fun _ _ h => .inl h))⟩
structure RdTo (C : CfgR) (R : Rdr) (b a n lo : Nat) (w : World) (cc : Array Value) (e : TypeId) (f : Nat → Value) (l m t : Nat) (rs' : RS) (f' : Nat → Value) (w' : World) (cc' : Array Value) : Prop where
  ext : Ext (CB R b) w w'
  st : StR C R b a n w' cc' e rs'
  size : cc'.size = cc.size
  same : ∀ j, (j < a + lo ∨ a + n ≤ j) → cc'[j]? = cc[j]?
  keep : KeepR f f' l m t
theorem RdTo.trans {b a n lo lo' : Nat} {w w1 w2 : World} {cc c1 c2 : Array Value} {e : TypeId} {f f1 f2 : Nat → Value} {l m t l' m' t' : Nat} {r1 r2 : RS} (x : RdTo C R b a n lo w cc e f l m t r1 f1 w1 c1) (y : RdTo C R b a n lo' w1 c1 e f1 l' m' t' r2 f2 w2 c2)
    (hlo : lo ≤ lo') (hl : l ≤ l') (hm : m ≤ m') (ht : t ≤ t') : RdTo C R b a n lo w cc e f l m' t r2 f2 w2 c2 :=
  ⟨x.ext.trans y.ext, y.st, y.size.trans x.size, fun j hj => (y.same j (by omega)).trans (x.same j hj), x.keep.trans y.keep hl hm ht⟩
/-- A field stands in a struct's cells. -/
def FldAt (w : World) (R : Rdr) (cs : List Value) (o : Nat) (p : Prim) (x : p.T) : Prop := ∃ v, seg cs o v.cells.toList ∧ p.rep1 w (RK R) v x
theorem rep1_sz {w : World} {K : Nat → Prop} {p : Prim} {u : Value} {x : p.T} (h : p.rep1 w K u x) : u.cells.size = p.sz := by
  have := rep1_one h
  by_cases hp : p = .uuid
  · subst hp
    simp only [if_true] at this
    obtain ⟨c, rfl, hc, _⟩ := this
    exact hc
  · simp only [if_neg hp] at this
    have h2 : p.sz = 1 := by cases p <;> first | rfl | exact absurd rfl hp
    rw [h2]
    cases u <;> simp_all [Value.oneCell', Value.cells]
theorem FldAt.move {w w' : World} {cs cs' : List Value} {o : Nat} {p : Prim} {x : p.T} (h : FldAt w R cs o p x) {Cx : Nat → Prop} (he : Ext Cx w w') (hK : ∀ k, k < w.heap.size → RK R k → ¬ Cx k) (hc : ∀ j, o ≤ j → j < o + p.sz → cs'[j]? = cs[j]?) : FldAt w' R cs' o p x := by
  obtain ⟨v, h1, h2⟩ := h
  refine ⟨v, fun j u hj => ?_, Prim.rep1_ext he hK h2⟩
  rw [hc (o + j) (by omega)]
  · exact h1 j u hj
  · have := (List.getElem?_eq_some_iff.1 hj).1
    have h3 := rep1_sz h2
    simp at this
    omega
def PrimR (P : Program) (C : CfgR) (p : Prim) : Prop := ∀ fl, (fl = true → C.fx = true) → ∀ w pb D rs, pb ≠ D → D < w.heap.size → RdAt C.E.tRd w pb D rs →
  Ret P (p.fR C.E fl) #[.pointer (some ⟨pb, 0, none⟩)] w fun v w' => p.rep1 w' (fun b => b = D ∨ w.heap.size ≤ b) v (p.rd fl rs).1 ∧ Ext (· = pb) w w' ∧ RdAt C.E.tRd w' pb D (p.rd fl rs).2
def LenRC (P : Program) (C : CfgR) : Prop := ∀ fl, (fl = true → C.fx = true) → ∀ w pb D rs, pb ≠ D → RdAt C.E.tRd w pb D rs →
  Ret P (if fl then C.E.f_pkbin_Reader_CompactArrayLen else C.E.f_pkbin_Reader_ArrayLen) #[.pointer (some ⟨pb, 0, none⟩)] w fun v w' => v = .int .i32 (lenRd fl rs).1 ∧ Ext (· = pb) w w' ∧ RdAt C.E.tRd w' pb D (lenRd fl rs).2
structure EndC0 (P : Program) (C : CfgR) : Prop where
  complete : ∀ w pb D rs ev, RdAt C.E.tRd w pb D rs → (rs.bad = true → w.cell? ⟨C.E.g_kbin_ErrNotEnoughData, 0, none⟩ = some ev) → Ret P C.E.f_pkbin_Reader_Complete #[.pointer (some ⟨pb, 0, none⟩)] w fun v w' => v = (if rs.bad then ev else .nilIface) ∧ w' = w
structure EndC (P : Program) (C : CfgR) : Prop extends EndC0 P C where
  ok : ∀ w pb D rs, RdAt C.E.tRd w pb D rs → Ret P C.E.f_pkbin_Reader_Ok #[.pointer (some ⟨pb, 0, none⟩)] w fun v w' => v = .bool !rs.bad ∧ w' = w
def TagsRC (P : Program) (C : CfgR) : Prop := ∀ w pb D rs, pb ≠ D → D < w.heap.size → RdAt C.E.tRd w pb D rs →
  Ret P C.E.f_kmsg_internalReadTags #[.pointer (some ⟨pb, 0, none⟩)] w fun v w' => (∃ u, v = .agg #[u] ∧ TagsAt w' (fun b => b = D ∨ w.heap.size ≤ b) u (rdTags rs).1) ∧ Ext (· = pb) w w' ∧ RdAt C.E.tRd w' pb D (rdTags rs).2
structure TyR (P : Program) (C : CfgR) : Prop where
  c : TyC P (Sch.genR.toR C)
  uu : isAgg16 (kindOf P C.E.tUu) = true → TyUu P C.E
  kTags : kindOf P C.E.t_kmsg_Tags = .agg 1
  i32 : intKind? P C.E.tI32 = some .i32
variable {Q : Post} {f : Nat → Value} {w : World}
theorem r_call (ht : TyR P C) {p : Prim} (hq : p = .uuid → isAgg16 (kindOf P C.E.tUu) = true) {g l t : Nat} {b a n : Nat} {cc : Array Value} {e : TypeId} {rs : RS} {x : p.T} {rs' : RS} (hs : StR C R b a n w cc e rs) (h7 : f C.rs = .pointer (some ⟨R.pb, 0, none⟩)) (hl : l < t) (hl7 : 9 < l)
    (hP : Ret P g #[.pointer (some ⟨R.pb, 0, none⟩)] w fun v w' => p.rep1 w' (fun b => b = R.D ∨ w.heap.size ≤ b) v x ∧ Ext (· = R.pb) w w' ∧ RdAt C.E.tRd w' R.pb R.D rs')
    (h : ∀ f' w' u, LocVal w' f' p l u → p.rep1 w' (RK R) u x → Ext (· = R.pb) w w' → RdAt C.E.tRd w' R.pb R.D rs' → (∀ y, y < t → y ≠ l → f' y = f y) → Q .normal f' w') : (callR C p g l t).wp P Q f w := by
  have e3 : (t = l) = False := by simp; omega
  have keep : ∀ a b, ∀ y, y < t → y ≠ l → upd (upd f t a) l b y = f y := by
    intro a b y hy hy2
    have x4 : (y = t) = False := by simp; omega
    simp [x4, hy2]
  have hK : ∀ k, k = R.D ∨ w.heap.size ≤ k → RK R k := by
    rintro k (h | h)
    · exact .inl h
    · exact .inr (Nat.le_trans hs.rw_.lt.2.2.2 h)
  refine wp_reg ?_
  by_cases hp : p = .uuid
  · subst hp
    have hz : zeroOf P C.E.tUu = some (.agg z16) := (ht.uu (hq rfl)).zUu
    simp [callR, putL, h7]
    refine hP.mono ?_
    rintro v w1 ⟨h1, h2, h3⟩
    have hone := rep1_one h1
    simp only [if_true] at hone
    obtain ⟨c, rfl, hc16, hone⟩ := hone
    simp [hz, Value.cells, e3, store_agg (ht.uu (hq rfl)).kUu, hc16, hone, putK_blk alloc_new, z16_size]
    have hE : Ext none1 w1 ((w1.alloc (.cells z16 C.E.tUu)).setBlk w1.heap.size (.cells (over z16 0 c.toList) C.E.tUu (0, 0))) := ((Ext.refl none1 w1).alloc _).setBlk (.inl (Nat.le_refl _)) _
    refine h _ _ (.agg c) ?_ ?_ (h2.trans (hE.mono (fun _ _ h => h.elim))) (h3.ext hE (fun h => h) (fun h => h)) (keep _ _)
    · simp only [LocVal, if_true]
      refine ⟨w1.heap.size, c, C.E.tUu, (0, 0), by simp, ?_, rfl, hc16⟩
      have hov : over z16 0 c.toList = c := by
        have hd : z16.toList.drop (0 + c.toList.length) = [] := List.drop_eq_nil_of_le (by simp [z16_size, hc16])
        simp only [over, hd]; simp
      rw [hov]
      exact setBlk_same alloc_new
    · exact Prim.rep1_ext hE (fun _ _ _ h => h) (Prim.rep1_mono hK h1)
  · simp [callR, putL, hp, h7]
    refine hP.mono ?_
    rintro v w1 ⟨h1, h2, h3⟩
    exact h _ _ v (by simp [LocVal, hp]) (Prim.rep1_mono hK h1) h2 h3 (by simpa using keep _ _)
theorem r_cond {s t : Nat} {a b : Ir} {v : Bool} (hf : f s = .bool v) (hs : s < t) (ha : v = true → ∀ f', (∀ y, y < t → f' y = f y) → a.wp P Q f' w) (hb : v = false → ∀ f', (∀ y, y < t → f' y = f y) → b.wp P Q f' w) : (condI C s t a b).wp P Q f w := by
  refine wp_seqI (wp_reg ?_)
  simp [hf]
  have k : ∀ y, y < t → upd f t (.bool v) y = f y := fun y hy => by rw [upd_apply, if_neg (by omega)]
  cases v
  · exact .inr ⟨by simp, hb rfl _ k⟩
  · exact .inl ⟨by simp, ha rfl _ k⟩
theorem seqL_one {x : Ir} (h : x.wp P Q f w) : (seqL [x]).wp P Q f w := h
/-- v = b.F() in all its forms -/
theorem r_read (ht : TyR P C) {p : Prim} (hq : p = .uuid → isAgg16 (kindOf P C.E.tUu) = true) {l t : Nat} {b a n pv b2 a2 : Nat} {ver : Int} {fl : Bool} {cc : Array Value} {e : TypeId} {rs : RS} (hP : PrimR P C p) (hs : StR C R b a n w cc e rs) (hf : FrR C R f pv b2 a2 ver fl l) (hl : l < t)
    (hA : ∀ f' w' u, LocVal w' f' p l u → p.rep1 w' (RK R) u (p.rd fl rs).1 → Ext (· = R.pb) w w' → RdAt C.E.tRd w' R.pb R.D (p.rd fl rs).2 → (∀ y, y < t → y ≠ l → f' y = f y) → Q .normal f' w') : (seqL (readI C p l t)).wp P Q f w := by
  have hn := hf.nN
  have hrs := hf.rsN
  have hD : R.D < w.heap.size := Nat.lt_of_lt_of_le hs.rw_.lt.2.2.1 hs.rw_.lt.2.2.2
  have main : ∀ (f1 : Nat → Value) (t1 : Nat) (fl' : Bool), (fl' = true → C.fx = true) → p.rd fl' rs = p.rd fl rs → t ≤ t1 → (∀ y, y < t → y ≠ l → f1 y = f y) → (callR C p (p.fR C.E fl') l t1).wp P Q f1 w := by
    intro f1 t1 fl' hx hrd ht1 hk
    have hc := hP fl' hx w R.pb R.D rs hs.rw_.ne.1 hD hs.rd
    rw [hrd] at hc
    refine r_call ht hq hs ((hk C.rs (by omega) (by omega)).trans hf.rd) (by omega) (by omega) hc ?_
    intro f' w' u h1 h2 h3 h4 h5
    exact hA f' w' u h1 h2 h3 h4 (fun y hy hyl => (h5 y (by omega) hyl).trans (hk y hy hyl))
  have k1 : ∀ (v : Value) (f1 : Nat → Value) (t1 : Nat), t ≤ t1 → (∀ y, y < t1 → f1 y = upd f l v y) → ∀ y, y < t → y ≠ l → f1 y = f y := fun v f1 t1 h1 h y hy hyl => by rw [h y (by omega), upd_apply, if_neg hyl]
  have plain : ∀ fl', p.uns = false → (p ≠ .bytes ∧ p ≠ .nbytes) → p.rd fl' rs = p.rd fl rs := by intro fl' h1 h2; cases p <;> first | rfl | exact absurd rfl h2.1 | exact absurd rfl h2.2 | cases h1
  -- one form for texts of both flags
  have two : ∀ (v : Value), p.uns = false → (if C.fx then Ir.reg [⟨none, some l, .assign (.const v), p.ty C.E⟩] :: [condI C 9 t (callR C p (p.fR C.E true) l (t + 1)) (callR C p (p.fR C.E false) l (t + 2))] else [callR C p (p.fR C.E false) l t]) = readI C p l t → (seqL (readI C p l t)).wp P Q f w := by
    intro v _ hr
    rw [← hr]
    by_cases hx : C.fx = true
    · rw [if_pos hx]
      refine seqL_cons (wp_reg ?_)
      simp
      show (condI C 9 t _ _).wp P _ _ w
      refine r_cond (v := fl) (by rw [upd_apply, if_neg (by omega)]; exact hf.flg hx) (by omega) ?_ ?_
      · rintro rfl f1 h1
        exact main f1 (t + 1) true (fun _ => hx) rfl (by omega) (k1 v f1 t (Nat.le_refl _) h1)
      · rintro rfl f1 h1
        exact main f1 (t + 2) false (by simp) rfl (by omega) (k1 v f1 t (Nat.le_refl _) h1)
    · have hx' : C.fx = false := by simpa using hx
      rw [if_neg hx]
      have := hf.flN hx'
      subst this
      exact main f t false (by simp) rfl (Nat.le_refl _) (fun _ _ _ => rfl)
  cases p with
  | str =>
    simp only [readI]
    refine seqL_cons (wp_reg ?_)
    simp
    show (if C.fx = true then _ else _ : Ir).wp P _ _ w
    have us : upd f l (zeroV .str) 2 = .bool false := by rw [upd_apply, if_neg (by omega)]; exact hf.us
    by_cases hx : C.fx = true
    · rw [if_pos hx]
      refine r_cond (v := false) us (by omega) (by simp) ?_
      rintro _ f1 h1
      refine r_cond (v := fl) (by rw [h1 9 (by omega), upd_apply, if_neg (by omega)]; exact hf.flg hx) (by omega) ?_ ?_
      · rintro rfl f2 h2
        exact main f2 (t + 5) true (fun _ => hx) rfl (by omega) (fun y hy hyl => (h2 y (by omega)).trans (k1 _ f1 t (Nat.le_refl _) h1 y hy hyl))
      · rintro rfl f2 h2
        exact main f2 (t + 6) false (by simp) rfl (by omega) (fun y hy hyl => (h2 y (by omega)).trans (k1 _ f1 t (Nat.le_refl _) h1 y hy hyl))
    · have hx' : C.fx = false := by simpa using hx
      rw [if_neg hx]
      have := hf.flN hx'
      subst this
      refine r_cond (v := false) us (by omega) (by simp) ?_
      rintro _ f1 h1
      exact main f1 (t + 2) false (by simp) rfl (by omega) (k1 _ f1 t (Nat.le_refl _) h1)
  | nstr =>
    simp only [readI]
    refine seqL_cons (wp_reg ?_)
    simp
    show (if C.fx = true then _ else _ : Ir).wp P _ _ w
    have us : upd f l (zeroV .nstr) 2 = .bool false := by rw [upd_apply, if_neg (by omega)]; exact hf.us
    by_cases hx : C.fx = true
    · rw [if_pos hx]
      refine r_cond (v := fl) (by rw [upd_apply, if_neg (by omega)]; exact hf.flg hx) (by omega) ?_ ?_
      · rintro rfl f1 h1
        refine r_cond (v := false) (by rw [h1 2 (by omega)]; exact us) (by omega) (by simp) ?_
        rintro _ f2 h2
        exact main f2 (t + 3) true (fun _ => hx) rfl (by omega) (fun y hy hyl => (h2 y (by omega)).trans (k1 _ f1 t (Nat.le_refl _) h1 y hy hyl))
      · rintro rfl f1 h1
        refine r_cond (v := false) (by rw [h1 2 (by omega)]; exact us) (by omega) (by simp) ?_
        rintro _ f2 h2
        exact main f2 (t + 6) false (by simp) rfl (by omega) (fun y hy hyl => (h2 y (by omega)).trans (k1 _ f1 t (Nat.le_refl _) h1 y hy hyl))
    · have hx' : C.fx = false := by simpa using hx
      rw [if_neg hx]
      have := hf.flN hx'
      subst this
      refine r_cond (v := false) us (by omega) (by simp) ?_
      rintro _ f1 h1
      exact main f1 (t + 2) false (by simp) rfl (by omega) (k1 _ f1 t (Nat.le_refl _) h1)
  | bytes => exact two (zeroV .bytes) rfl rfl
  | nbytes => exact two (zeroV .nbytes) rfl rfl
  | _ => exact main f t false (by simp) (plain false rfl (by simp)) (Nat.le_refl _) (fun _ _ _ => rfl)
theorem over_get {c : Array Value} {o : Nat} {vs : List Value} (h : o + vs.length ≤ c.size) (j : Nat) : (over c o vs)[j]? = if j < o then c[j]? else if j < o + vs.length then vs[j - o]? else c[j]? := by
  have hl : (c.toList.take o).length = o := by simp; omega
  simp only [over, List.getElem?_toArray, List.append_assoc]
  by_cases h1 : j < o
  · rw [if_pos h1, List.getElem?_append_left (by omega), List.getElem?_take, if_pos h1]; simp
  · rw [if_neg h1, List.getElem?_append_right (by omega), hl]
    by_cases h2 : j < o + vs.length
    · rw [if_pos h2, List.getElem?_append_left (by omega)]
    · rw [if_neg h2, List.getElem?_append_right (by omega), List.getElem?_drop, show o + vs.length + (j - o - vs.length) = j by omega]; simp
theorem over_size {c : Array Value} {o : Nat} {vs : List Value} (h : o + vs.length ≤ c.size) : (over c o vs).size = c.size := by simp [over]; omega
/-- what a store leaves: u's cells stand at o -/
structure Put (cc : Array Value) (o : Nat) (u : Value) (cc' : Array Value) : Prop where
  size : cc'.size = cc.size
  same : ∀ j, (j < o ∨ o + u.cells.size ≤ j) → cc'[j]? = cc[j]?
  new : ∀ j v, u.cells.toList[j]? = some v → cc'[o + j]? = some v
theorem put_one {cc : Array Value} {o : Nat} {u : Value} (h1 : u.oneCell' = true) (ho : o < cc.size) : Put cc o u (cc.setIfInBounds o u) := by
  have huc : u.cells = #[u] := by cases u <;> simp_all [Value.oneCell', Value.cells]
  refine ⟨by simp, fun j hj => ?_, fun j v hj => ?_⟩
  · rw [huc] at hj
    simp at hj
    rw [Array.getElem?_setIfInBounds, if_neg (by omega)]
  · rw [huc] at hj
    cases j with
    | zero => simp at hj; subst hj; simp [Array.getElem?_setIfInBounds, ho]
    | succ j => simp at hj
theorem put_over {cc : Array Value} {o : Nat} {c : Array Value} (ho : o + c.size ≤ cc.size) : Put cc o (.agg c) (over cc o c.toList) := by
  have ho' : o + c.toList.length ≤ cc.size := by simpa using ho
  refine ⟨over_size ho', fun j hj => ?_, fun j v hj => ?_⟩
  · rw [over_get ho']
    simp [Value.cells] at hj
    split
    · rfl
    · rw [if_neg (by simp; omega)]
  · have hj' : j < c.size := by have := (List.getElem?_eq_some_iff.1 hj).1; simpa [Value.cells] using this
    rw [over_get ho', if_neg (by omega), if_pos (by simp; omega), show o + j - o = j by omega]
    exact hj
/-- s.F = v -/
theorem r_store (ht : TyR P C) {T PT pv k o l t b a : Nat} {p : Prim} {u : Value} {cc : Array Value} {e : TypeId} (hpv : f pv = .pointer (some ⟨b, a, none⟩)) (hF : fldOff P T k = some o) (hk : p.kOk P (p.ty C.E) = true) (hlv : LocVal w f p l u)
    (hu : if p = .uuid then ∃ c : Array Value, u = .agg c ∧ c.size = 16 ∧ allOne c.toList = true else u.oneCell' = true) (hpt : pv < t) (hl : l < t) (hb : w.heap[b]? = some (.cells cc e (0, 0))) (ho : a + o + u.cells.size ≤ cc.size)
    (h : ∀ f' cc', Put cc (a + o) u cc' → (∀ y, y < t → f' y = f y) → Q .normal f' (w.setBlk b (.cells cc' e (0, 0)))) : (Ir.reg (storeR C T PT pv k (p.ty C.E) l t p)).wp P Q f w := by
  have e3 : ∀ n, (l = t + n) = False := by intro n; simp; omega
  have e4 : (l = t) = False := by simp; omega
  have keep : ∀ a b c d, ∀ y, y < t → upd (upd (upd (upd f t a) (t + 1) b) (t + 2) c) (t + 3) d y = f y := by
    intro a b c d y hy
    have x3 : ∀ n, (y = t + n) = False := by intro n; simp; omega
    have x4 : (y = t) = False := by simp; omega
    simp [x3, x4]
  refine wp_reg ?_
  by_cases hp : p = .uuid
  · subst hp
    simp only [if_true] at hu
    obtain ⟨c, rfl, hc16, hone⟩ := hu
    simp only [LocVal, if_true] at hlv
    obtain ⟨b', cs', e', fz', hf, hbk, hcs, h16⟩ := hlv
    cases hcs
    have hk' : kindOf P C.E.tUu = .agg 16 := (ht.uu (kOk_uu hk rfl)).kUu
    have lB := cellsFrom_row hbk
    rw [h16] at lB
    have ho' : a + o + 16 ≤ cc.size := by simpa [Value.cells, hc16] using ho
    simp [storeR, getL, hpv, hf, e3, e4, hF, Addr.add_mk, ld_agg hk', lB, Prim.ty, store_agg hk', hc16, hone, putK_blk hb]
    exact ⟨by omega, h _ _ (put_over (by omega)) (keep _ _ _ _)⟩
  · simp only [if_neg hp] at hu
    simp only [LocVal, if_neg hp] at hlv
    have hk' : kindOf P (p.ty C.E) = .scl := by simp only [Prim.kOk, if_neg hp] at hk; exact isScl_spec hk
    have huc : u.cells = #[u] := by cases u <;> simp_all [Value.oneCell', Value.cells]
    have ho' : a + o + 1 ≤ cc.size := by simpa [huc] using ho
    simp [storeR, getL, hp, hpv, hlv, e3, e4, hF, Addr.add_mk, store_scl hk', hu, put1K_blk hb]
    exact ⟨by omega, h _ _ (put_one hu (by omega)) (keep _ _ _ _)⟩
/-- the same of a type's own, one cell -/
theorem r_storeT {T PT pv k o l t b a ty : Nat} {u : Value} {cc : Array Value} {e : TypeId} (hpv : f pv = .pointer (some ⟨b, a, none⟩)) (hF : fldOff P T k = some o) (hk : isScl (kindOf P ty) = true) (hlv : f l = u) (hu : u.oneCell' = true)
    (hpt : pv < t) (hl : l < t) (hb : w.heap[b]? = some (.cells cc e (0, 0))) (ho : a + o + 1 ≤ cc.size)
    (h : ∀ f' cc', Put cc (a + o) u cc' → (∀ y, y < t → f' y = f y) → Q .normal f' (w.setBlk b (.cells cc' e (0, 0)))) : (Ir.reg (storeT C T PT pv k ty l t)).wp P Q f w := by
  have e3 : ∀ n, (l = t + n) = False := by intro n; simp; omega
  have e4 : (l = t) = False := by simp; omega
  refine wp_reg ?_
  simp [storeT, hpv, hlv, e3, e4, hF, Addr.add_mk, store_scl (isScl_spec hk), hu, put1K_blk hb]
  refine ⟨by omega, h _ _ (put_one hu (by omega)) ?_⟩
  intro y hy
  have x3 : ∀ n, (y = t + n) = False := by intro n; simp; omega
  have x4 : (y = t) = False := by simp; omega
  simp [x3, x4]
/-- a field was put -/
theorem RdTo.put {b a n lo o : Nat} {cc cc' : Array Value} {e : TypeId} {f' : Nat → Value} {l m t : Nat} {rs : RS} {u : Value} (hs : StR C R b a n w cc e rs) (hp : Put cc (a + o) u cc') (hlo : lo ≤ o) (hn : o + u.cells.size ≤ n) (hk : KeepR f f' l m t) :
    RdTo C R b a n lo w cc e f l m t rs f' (w.setBlk b (.cells cc' e (0, 0))) cc' := by
  have hE : Ext (· = b) w (w.setBlk b (.cells cc' e (0, 0))) := (Ext.refl (fun k => k = b) w).setBlk (b := b) (Or.inr rfl) _
  have hE' : Ext (CB R b) w (w.setBlk b (.cells cc' e (0, 0))) := hE.mono (fun _ _ h => .inr h)
  exact ⟨hE', ⟨setBlk_same hs.blk, by rw [hp.size]; exact hs.fit, hs.rd.ext hE (fun h => hs.rw_.ne.2.2 h) (fun h => hs.rw_.ne.2.1 h.symm), hs.rw_.ext hE'⟩, hp.size, fun j hj => hp.same j (by omega), hk⟩
theorem FldAt.put {b a n o : Nat} {cc cc' : Array Value} {e : TypeId} {rs : RS} {p : Prim} {u : Value} {x : p.T} (hs : StR C R b a n w cc e rs) (hp : Put cc (a + o) u cc') (hn : o + u.cells.size ≤ n) (hr : p.rep1 w (RK R) u x) : FldAt (w.setBlk b (.cells cc' e (0, 0))) R (segL cc' a n) o p x := by
  have hE : Ext (· = b) w (w.setBlk b (.cells cc' e (0, 0))) := (Ext.refl (fun k => k = b) w).setBlk (b := b) (Or.inr rfl) _
  refine ⟨u, fun j v hj => ?_, Prim.rep1_ext hE (fun k hk1 hk2 hk3 => hs.rw_.keepK k hk1 hk2 (.inr hk3)) hr⟩
  have hj' : j < u.cells.size := by have := (List.getElem?_eq_some_iff.1 hj).1; simpa using this
  rw [segL_get (by omega), ← Nat.add_assoc]
  exact hp.new j v hj
end
end Go.Kg
