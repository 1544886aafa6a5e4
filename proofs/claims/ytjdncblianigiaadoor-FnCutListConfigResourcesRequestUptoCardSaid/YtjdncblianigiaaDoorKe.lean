/- What is proved here: how the code of the messages runs, in general: a semantics of calls by their texts, and contracts of the functions of kbin and of the reference. No condition but those that each theorem names. -/
import Derived.ProofKit
import Derived.WideKeyArgs
import Derived.ChangeSlices
import Derived.OpenShut
import Derived.RowKit
import Derived.Maps.RangeRun
import Derived.Shelf.GgSortFunc.Whole
import Derived.Shelf.GgSortFunc.Tiny
import Derived.Test.YtjdncblianigiaaDoorKd
set_option linter.unusedSectionVars false
set_option linter.unusedSimpArgs false
set_option linter.unusedVariables false
set_option linter.unusedSimpArgs false
set_option linter.unusedVariables false
namespace Go.Kg
open Go

/-! ## The laws FnAny.. -/
def irFnAny (E : Env) (fMax fAg tup : Nat) : Ir :=
  (.seq
    (.reg [
        ⟨none, some 4, .assign (.const (.bool false)), E.tB⟩])
  (.seq
    (.seq
      (.reg [
          ⟨none, some 10, .move (.tmp 1), E.tBs⟩,
          ⟨none, some 11, .call { callee := .builtin .len, args := #[.tmp 10], argTypes := #[E.tBs] }, E.tInt⟩,
          ⟨none, some 12, .binOp .gtr E.tInt (.tmp 11) (.const (.int .i64 2147483647)) E.tInt, E.tB⟩])
    (.cond 12
      (.seq
        (.reg [
            ⟨none, some 4, .assign (.const (.bool true)), E.tB⟩])
      .ret)
      .skip))
  (.seq
    (.reg [
        ⟨none, some 13, .call { callee := .value (.func fMax), args := #[], argTypes := #[] }, E.tInt⟩,
        ⟨none, some 5, .assign (.tmp 13), E.tInt⟩])
  (.seq
    (.seq
      (.reg [
          ⟨none, some 14, .move (.tmp 5), E.tInt⟩,
          ⟨none, some 15, .binOp .lss E.tInt (.tmp 14) (.const (.int .i64 0)) E.tInt, E.tB⟩])
    (.cond 15
      (.seq
        (.reg [
            ⟨none, some 4, .assign (.const (.bool false)), E.tB⟩])
      .ret)
      .skip))
  (.seq
    (.seq
      (.reg [
          ⟨none, some 16, .move (.tmp 1), E.tBs⟩,
          ⟨none, some 17, .call { callee := .builtin .len, args := #[.tmp 16], argTypes := #[E.tBs] }, E.tInt⟩,
          ⟨none, some 18, .binOp .gtr E.tInt (.tmp 17) (.const (.int .i64 1000)) E.tInt, E.tB⟩])
    (.cond 18
      (.seq
        (.reg [
            ⟨none, some 4, .assign (.const (.bool true)), E.tB⟩])
      .ret)
      .skip))
  (.seq
    (.reg [
        ⟨none, some 20, .move (.tmp 0), E.tU8⟩,
        ⟨none, some 21, .move (.tmp 5), E.tInt⟩,
        ⟨none, some 22, .call { callee := .value (.func E.f_laws_version), args := #[.tmp 20, .tmp 21], argTypes := #[E.tU8, E.tInt] }, E.tInt⟩,
        ⟨none, some 23, .move (.tmp 1), E.tBs⟩,
        ⟨none, some 24, .call { callee := .value (.func fAg), args := #[.tmp 22, .tmp 23], argTypes := #[E.tInt, E.tBs] }, tup⟩,
        ⟨none, some 19, .move (.tmp 24), tup⟩,
        ⟨none, some 25, .extract (.tmp 19) 0, E.tBs⟩,
        ⟨none, some 26, .extract (.tmp 19) 1, E.tB⟩,
        ⟨none, some 6, .assign (.tmp 25), E.tBs⟩,
        ⟨none, some 7, .assign (.tmp 26), E.tB⟩])
  (.seq
    (.seq
      (.reg [
          ⟨none, some 27, .move (.tmp 7), E.tB⟩,
          ⟨none, some 28, .unOp .not E.tB (.tmp 27), E.tB⟩])
    (.cond 28
      (.seq
        (.reg [
            ⟨none, some 4, .assign (.const (.bool true)), E.tB⟩])
      .ret)
      .skip))
  (.seq
    (.reg [
        ⟨none, some 30, .move (.tmp 0), E.tU8⟩,
        ⟨none, some 31, .move (.tmp 5), E.tInt⟩,
        ⟨none, some 32, .call { callee := .value (.func E.f_laws_version), args := #[.tmp 30, .tmp 31], argTypes := #[E.tU8, E.tInt] }, E.tInt⟩,
        ⟨none, some 33, .move (.tmp 6), E.tBs⟩,
        ⟨none, some 34, .call { callee := .value (.func fAg), args := #[.tmp 32, .tmp 33], argTypes := #[E.tInt, E.tBs] }, tup⟩,
        ⟨none, some 29, .move (.tmp 34), tup⟩,
        ⟨none, some 35, .extract (.tmp 29) 0, E.tBs⟩,
        ⟨none, some 36, .extract (.tmp 29) 1, E.tB⟩,
        ⟨none, some 8, .assign (.tmp 35), E.tBs⟩,
        ⟨none, some 9, .assign (.tmp 36), E.tB⟩])
  (.seq
    (.reg [
        ⟨none, some 37, .move (.tmp 9), E.tB⟩,
        ⟨none, some 38, .move (.tmp 37), E.tB⟩,
        ⟨(some (38, true)), some 39, .move (.tmp 6), E.tBs⟩,
        ⟨(some (38, true)), some 40, .move (.tmp 8), E.tBs⟩,
        ⟨(some (38, true)), some 41, .call { callee := .value (.func E.f_spec_Same), args := #[.tmp 39, .tmp 40], argTypes := #[E.tBs, E.tBs] }, E.tB⟩,
        ⟨none, some 42, .pick (.tmp 38) (.tmp 41) (.const (.bool false)), E.tB⟩,
        ⟨none, some 4, .assign (.tmp 42), E.tB⟩])
  .ret)))))))))

/-- what the laws ask of impl's functions -/
structure AgL (P : Program) (E : Env) (fMax fAg M : Nat) (S : Sch) (flx : Nat → Bool) (ev : Value) : Prop where
  max : ∀ w, Ret P fMax #[] w fun u w' => u = .int .i64 M ∧ Ext none1 w w'
  again : ∀ v : Nat, v ≤ M → ∀ {w : World} {K : Nat → Prop} {sv : Value} {src : List UInt8}, BytesAt w K sv src → src.length ≤ 1099511627776 → w.cell? ⟨E.g_kbin_ErrNotEnoughData, 0, none⟩ = some ev →
    (∀ nn x rs, S.rd v (flx v) ⟨src, false, nn⟩ = some (x, rs) → rs.bad = false → S.TagsOk tagsOk x ∧ (S.wr v (flx v) x).length ≤ 1099511627776) →
    Ret P fAg #[.int .i64 v, sv] w fun u w' => AgainPost S v (flx v) src w u w'
  hM : M < 32768
  pos : ∀ v : Nat, v ≤ M → S.posE v (flx v) = true

section
variable {P : Program} {E : Env}

set_option maxHeartbeats 1000000 in
theorem c_FnAny (ht : TyF P E) (hSame : FnIs P E.f_spec_Same nt_spec_Same (rs_spec_Same E) (ir_spec_Same E)) (hVe : FnIs P E.f_laws_version nt_laws_version (rs_laws_version E) (ir_laws_version E)) (iU8 : intKind? P E.tU8 = some .u8) (iInt : intKind? P E.tInt = some .i64)
    {fMax fAg M g nt tup : Nat} {S : Sch} {flx : Nat → Bool} {ev : Value} (hL : AgL P E fMax fAg M S flx ev) (hnt : 2 ≤ nt) (hI : FnIs P g nt [.t 4] (irFnAny E fMax fAg tup)) (n : Nat) (hn : n < 256) {w : World} {K : Nat → Prop} {sv : Value} {src : List UInt8}
    (hs : BytesAt w K sv src) (herr : w.cell? ⟨E.g_kbin_ErrNotEnoughData, 0, none⟩ = some ev) :
    Ret P g #[.int .u8 n, sv] w fun u w' => u = .bool true ∧ Ext none1 w w' := by
  have hvM : verOf n M ≤ M := by have := Nat.mod_lt n (show 0 < M + 1 by omega); simp only [verOf]; omega
  have hV := fun w => c_version hVe iU8 iInt n M hn hL.hM w
  obtain ⟨a, c, rfl, _⟩ := hs.len
  refine hI.call (args := [_, _]) hnt ?_
  simp [irFnAny, len_slice ht.uBs]
  by_cases h1 : 2147483647 < src.length
  · refine cw_true (by simp; omega) ?_
    simp
    exact Ext.refl _ _
  refine cw_false (by simp; omega) ?_
  simp
  refine (hL.max w).mono ?_
  rintro _ w1 ⟨rfl, he1⟩
  simp
  refine cw_false (by simp) ?_
  simp [len_slice ht.uBs]
  by_cases h2 : 1000 < src.length
  · refine cw_true (by simp; omega) ?_
    simp
    exact he1
  refine cw_false (by simp; omega) ?_
  simp
  refine (hV w1).mono ?_
  rintro _ w2 ⟨rfl, rfl⟩
  try simp
  have hs1 := hs.ext (K := K) he1 (fun _ _ _ h => h)
  refine (hL.again _ hvM hs1 (by omega) (he1.cell herr (fun h => h)) ?_).mono ?_
  · intro nn x rs hx hb
    have hA := any_again _ _ S (hL.pos _ hvM) hx hb (by simp; omega) nn
    exact ⟨any_tags _ _ S _ _ _ hx hb (by simp; omega), by have := hA.1; simp at this; omega⟩
  rintro u w3 ⟨he3, nn, hu⟩
  cases hx : S.rd (verOf n M) (flx (verOf n M)) ⟨src, false, nn⟩ with
  | none =>
    rw [hx] at hu
    subst hu
    simp
    refine cw_true (by simp) ?_
    simp
    exact he1.trans he3
  | some p =>
    obtain ⟨x, rs⟩ := p
    rw [hx] at hu
    simp only at hu
    cases hb : rs.bad with
    | true =>
      rw [hb] at hu
      simp only [if_true] at hu
      subst hu
      simp
      refine cw_true (by simp) ?_
      simp
      exact he1.trans he3
    | false =>
      rw [hb] at hu
      simp only [Bool.false_eq_true, if_false] at hu
      obtain ⟨v, rfl, hv⟩ := hu
      simp
      refine cw_false (by simp) ?_
      simp
      refine (hV w3).mono ?_
      rintro _ w4 ⟨rfl, rfl⟩
      try simp
      obtain ⟨hlen, _⟩ := any_again _ _ S (hL.pos _ hvM) hx hb (by simp; omega) true
      simp only at hlen
      have he13 := he1.trans he3
      refine (hL.again _ hvM hv (by omega) (he13.cell herr (fun h => h)) ?_).mono ?_
      · intro nn x rs hx hb
        have hA := any_again _ _ S (hL.pos _ hvM) hx hb (by simp; omega) nn
        exact ⟨any_tags _ _ S _ _ _ hx hb (by simp; omega), by have := hA.1; simp at this; omega⟩
      rintro u w5 ⟨he5, nn2, hu⟩
      obtain ⟨_, y, nn3, hy, hyx⟩ := any_again _ _ S (hL.pos _ hvM) hx hb (by simp; omega) nn2
      rw [hy] at hu
      simp only [Bool.false_eq_true, if_false] at hu
      obtain ⟨v2, rfl, hv2⟩ := hu
      simp
      have hv' := hv.ext he5 (fun _ _ _ h => h)
      refine (c_Same ht hSame w5 _ _ v v2 _ _ hv' hv2 (by omega)).mono ?_
      rintro _ w6 ⟨rfl, he6⟩
      simp [hyx]
      exact he13.trans (he5.trans he6)
end
end Go.Kg

set_option linter.unusedSimpArgs false
set_option linter.unusedVariables false
namespace Go.Kg
open Go

/-! ## The reference as a whole: by induction on the fields -/
def FS.okAll : FS → Prop
  | .nil => True
  | .cons h sub rest => FH.ok h ∧ fits h.dflt ∧ sub.len ≤ 1000 ∧ sub.okAll ∧ rest.okAll

theorem FS.okAll.heads : ∀ {F : FS}, F.okAll → ∀ g ∈ F.heads, FH.ok g
  | .nil, _, g, hg => by cases hg
  | .cons h sub rest, ho, g, hg => by
    rcases List.mem_cons.1 hg with rfl | hg
    · exact ho.1
    · exact FS.okAll.heads ho.2.2.2.2 g hg

/-- The functions of package spec that write. -/
structure SpecFns (P : Program) (E : Env) : Prop where
  Fixed : FnIs P E.f_spec_Fixed nt_spec_Fixed (rs_spec_Fixed E) (ir_spec_Fixed E)
  width : FnIs P E.f_spec_width nt_spec_width (rs_spec_width E) (ir_spec_width E)
  Uvarint : FnIs P E.f_spec_Uvarint nt_spec_Uvarint (rs_spec_Uvarint E) (ir_spec_Uvarint E)
  has : FnIs P E.f_spec_Field_has nt_spec_Field_has (rs_spec_Field_has E) (ir_spec_Field_has E)
  null : FnIs P E.f_spec_Field_null nt_spec_Field_null (rs_spec_Field_null E) (ir_spec_Field_null E)
  whole : FnIs P E.f_spec_whole nt_spec_whole (rs_spec_whole E) (ir_spec_whole E)
  things : FnIs P E.f_spec_things nt_spec_things (rs_spec_things E) (ir_spec_things E)
  counted : FnIs P E.f_spec_counted nt_spec_counted (rs_spec_counted E) (ir_spec_counted E)
  at_ : FnIs P E.f_spec_at nt_spec_at (rs_spec_at E) (ir_spec_at E)
  known : FnIs P E.f_spec_known nt_spec_known (rs_spec_known E) (ir_spec_known E)
  unknown : FnIs P E.f_spec_unknown nt_spec_unknown (rs_spec_unknown E) (ir_spec_unknown E)
  Same : FnIs P E.f_spec_Same nt_spec_Same (rs_spec_Same E) (ir_spec_Same E)
  value : FnIs P E.f_spec_value nt_spec_value (rs_spec_value E) (ir_spec_value E)
  field : FnIs P E.f_spec_field nt_spec_field (rs_spec_field E) (ir_spec_field E)
  usual : FnIs P E.f_spec_usual nt_spec_usual (rs_spec_usual E) (ir_spec_usual E)
  part : FnIs P E.f_spec_part nt_spec_part (rs_spec_part E) (ir_spec_part E)
  Write : FnIs P E.f_spec_Write nt_spec_Write (rs_spec_Write E) (ir_spec_Write E)

section
variable {P : Program} {E : Env} (ht : TyG P E) (hs : SpecFns P E)
include ht hs

theorem sp_Fixed : FixedC P E := fun n k hk => c_Fixed ht.toTyWr hs.Fixed n k hk
theorem sp_Width : WidthC P E := fun k w => c_width hs.width k w
theorem sp_Uv : UvC P E := fun n hn => c_SUvarint ht.toTyWr hs.Uvarint n hn
theorem sp_Has : HasC P E := fun h sv v w => c_has ht.toTyF hs.has h sv v w
theorem sp_Whole : WholeC P E := fun w K v s h => c_whole ht.toTyF hs.whole w K v s h
theorem sp_At : AtC P E := fun w cs t hT i hi => c_at ht.toTyF hs.at_ w cs t hT i hi
theorem sp_Known : KnownC P E := fun w fv F hF hok => c_known ht.toTyF hs.known w fv F hF hok
theorem sp_Unk : UnkC P E := c_unknown ht hs.unknown (sp_Known ht hs)
theorem sp_Same : SameC P E := fun w K K' va vb s t h1 h2 h3 => c_Same ht.toTyF hs.Same w K K' va vb s t h1 h2 h3
theorem sp_Counted : ∀ (flex nul : Bool) (n size : Nat), n ≤ 1099511627776 → size ≤ 8 → SpC P E.tU8 E.f_spec_counted [.bool flex, .bool nul, .int .i64 n, .int .i64 size] (countedS flex nul n size) :=
  fun flex nul n size hn hz => c_counted ht.toTyF hs.counted (sp_Fixed ht hs) (sp_Uv ht hs) flex nul n size hn hz

/-- part of fields whose own functions stand -/
theorem sp_partOf {F : FS} {ver : Int} {flex : Bool} (hok : F.okAll) (hlen : F.len ≤ 1000) (hsub : ∀ (i : Nat) y s, (F.list ver flex)[i]? = some y → F.subs[i]? = some s → FieldC P E y s ver flex ∧ UsC P E y s)
    (w : World) (fv : Value) (cs : List Value) (t : Tr) (hF : FsAt w fv F) (hT : TreeAt w cs t) (hsz : (partS F ver flex t).length ≤ 1099511627776) :
    Ret P E.f_spec_part #[fv, .int .i64 ver, .bool flex, .agg cs.toArray] w fun v w' => Fresh E.tU8 w v w' (partS F ver flex t) :=
  c_part ht hs.part (sp_At ht hs) (sp_Unk ht hs) (sp_Known ht hs) (sp_Has ht hs) (sp_Uv ht hs) (sp_Whole ht hs) F ver flex hok.heads hlen hsub w fv cs t hF hT hsz

theorem sp_fields (ver : Int) (flex : Bool) : ∀ F : FS, F.okAll → ∀ (i : Nat) y s, (F.list ver flex)[i]? = some y → F.subs[i]? = some s → FieldC P E y s ver flex ∧ UsC P E y s := by
  intro F
  induction F with
  | nil => intro _ i y s hy; simp [FS.list] at hy
  | cons h sub rest ihs ihr =>
    intro ho i y s hy hss
    cases i with
    | succ i => exact ihr ho.2.2.2.2 i y s (by simpa [FS.list] using hy) (by simpa [FS.subs] using hss)
    | zero =>
      simp only [FS.list, FS.subs, List.getElem?_cons_zero, Option.some.injEq] at hy hss
      subst hy hss
      have hS := ihs ho.2.2.2.1
      have hP := sp_partOf ht hs ho.2.2.2.1 ho.2.2.1 hS
      refine ⟨?_, ?_⟩
      · intro w sv cs t hF hT hsz
        have hPC : PartC P E sv (partL (sub.list ver flex) ver flex) ver flex w := fun w' cs' t' he hT' hb => hP w' sv cs' t' (hF.ext he) hT' hb
        have hVC : ValC P E sv (partL (sub.list ver flex) ver flex) ver flex w := by
          intro kind nul w' cs' t' he hT' hb
          refine c_value ht.toTyF hs.value (sp_Fixed ht hs) (sp_Width ht hs) (sp_Whole ht hs) (sp_Counted ht hs) kind sv _ nul ver flex w' cs' t' hT' ?_
          intro hk w2 he2
          refine hP w2 sv cs' t' (hF.ext (he.trans he2)) (hT'.ext he2) ?_
          subst hk
          simpa [valS, partS] using hb
        have hsv : sv.oneCell' = true := by
          obtain ⟨ls, ha, _⟩ := hF
          obtain ⟨a, c, rfl, _⟩ := ha.form
          rfl
        exact c_field ht.toTyF hs.field (sp_Fixed ht hs) (fun h sv v w n s l u nul => c_null ht.toTyF hs.null h sv v w n s l u nul) (fun w v ls hs' => c_things ht.toTyF hs.things w v ls hs') (sp_Counted ht hs) h sv _ _ _ ver flex w cs t hT hVC hPC hsz hsv
      · exact c_usual ht hs.usual (sp_At ht hs) (sp_Unk ht hs) (sp_Fixed ht hs) (sp_Width ht hs) (sp_Same ht hs) h sub ver flex _ _ ho.2.2.2.1.heads (fun i y s hy hss => (hS i y s hy hss).2)

theorem sp_part {F : FS} {ver : Int} {flex : Bool} (hok : F.okAll) (hlen : F.len ≤ 1000) (w : World) (fv : Value) (cs : List Value) (t : Tr) (hF : FsAt w fv F) (hT : TreeAt w cs t) (hsz : (partS F ver flex t).length ≤ 1099511627776) :
    Ret P E.f_spec_part #[fv, .int .i64 ver, .bool flex, .agg cs.toArray] w fun v w' => Fresh E.tU8 w v w' (partS F ver flex t) :=
  sp_partOf ht hs hok hlen (sp_fields ht hs ver flex F hok) w fv cs t hF hT hsz
end

/-- What a message's type is in memory. -/
structure TyM (P : Program) (E : Env) : Prop extends TyG P E where
  m0 : fldOff P E.t_spec_Message 0 = some 0
  m1 : fldOff P E.t_spec_Message 1 = some 1

def flexAt (fx ver : Int) : Bool := decide (0 ≤ fx) && decide (fx ≤ ver)

section
variable {P : Program} {E : Env} (ht : TyM P E) (hs : SpecFns P E)
include ht hs

theorem sp_Write {F : FS} {fx ver : Int} (hok : F.okAll) (hlen : F.len ≤ 1000) (w : World) (fv : Value) (cs : List Value) (t : Tr) (hF : FsAt w fv F) (hT : TreeAt w cs t) (hsz : (partS F ver (flexAt fx ver) t).length ≤ 1099511627776) :
    Ret P E.f_spec_Write #[.agg #[fv, .int .i64 fx], .int .i64 ver, .agg cs.toArray] w fun v w' => Fresh E.tU8 w v w' (partS F ver (flexAt fx ver) t) := by
  refine hs.Write.call (args := [_, _, _]) (by simp [nt_spec_Write]) ?_
  obtain ⟨tv, lv, uv, hcs, hss⟩ := tree_box hT
  subst hcs
  have hv : ∀ (a : Array Value), (Value.agg a).cells = a := fun a => rfl
  generalize hw1 : (w.alloc (.cells #[fv, .int .i64 fx] E.t_spec_Message)).alloc (.cells [Value.int .i64 t.n, tv, .bool t.nul, lv, uv].toArray E.t_spec_Tree) = w1
  have hE : Ext none1 w w1 := by subst hw1; exact ((Ext.refl none1 w).alloc _).alloc _
  have hb0 : w1.heap[w.heap.size]? = some (.cells #[fv, .int .i64 fx] E.t_spec_Message (0, 0)) := by subst hw1; exact alloc_old alloc_new
  have hb1 : w1.heap[w.heap.size + 1]? = some (.cells [Value.int .i64 t.n, tv, .bool t.nul, lv, uv].toArray E.t_spec_Tree (0, 0)) := by
    subst hw1
    have := alloc_new (w := w.alloc (.cells #[fv, .int .i64 fx] E.t_spec_Message)) (o := .cells [Value.int .i64 t.n, tv, .bool t.nul, lv, uv].toArray E.t_spec_Tree)
    simpa using this
  have c0 : w1.cell? ⟨w.heap.size, 0, none⟩ = some fv := by rw [cell_of_blk hb0]; rfl
  have c1 : w1.cell? ⟨w.heap.size, 1, none⟩ = some (.int .i64 fx) := by rw [cell_of_blk hb0]; rfl
  have lT : cellsFrom w1 ⟨w.heap.size + 1, 0, none⟩ 0 5 = some [Value.int .i64 t.n, tv, .bool t.nul, lv, uv] := by
    have := cellsFrom_row hb1
    rw [show [Value.int .i64 t.n, tv, .bool t.nul, lv, uv].toArray.size = 5 by rfl] at this
    simpa using this
  have key : ∀ fl, fl = flexAt fx ver → Ret P E.f_spec_part #[fv, .int .i64 ver, .bool fl, .agg [Value.int .i64 t.n, tv, .bool t.nul, lv, uv].toArray] w1 fun v w' => Fresh E.tU8 w1 v w' (partS F ver (flexAt fx ver) t) := by
    rintro fl rfl
    exact sp_part ht.toTyG hs hok hlen w1 fv _ t (hF.ext hE) (hT.ext hE) hsz
  have hFl := ht.m1
  simp [ir_spec_Write, rs_spec_Write, hv, hw1, ht.m0, ht.m1, Addr.add_mk, ld_scl ht.kLF, ld_scl ht.kInt, c0, c1, ld_agg ht.kT, lT]
  by_cases h1 : 0 ≤ fx
  · by_cases h2 : fx ≤ ver
    · simp [h1, h2]
      refine (by simpa using key true (by simp [flexAt, h1, h2]) : Ret P _ _ _ _).mono ?_
      intro v w' h
      simpa using Fresh.pre hE h
    · simp [h1, h2]
      refine (by simpa using key false (by simp [flexAt, h1, h2]) : Ret P _ _ _ _).mono ?_
      intro v w' h
      simpa using Fresh.pre hE h
  · simp [h1]
    refine (by simpa using key false (by simp [flexAt, h1]) : Ret P _ _ _ _).mono ?_
    intro v w' h
    simpa using Fresh.pre hE h
end
end Go.Kg

set_option linter.unusedSimpArgs false
set_option linter.unusedVariables false
namespace Go.Kg
open Go

/-! ## Default -/
def FS.dflL : FS → List Tr
  | .nil => []
  | .cons h sub rest => .mk h.dflt [] (decide (0 ≤ h.null)) (if h.kind = 10 then sub.dflL else []) [] :: rest.dflL
def FS.dflT (F : FS) : Tr := .mk 0 [] false F.dflL []
theorem FS.dflL_len : ∀ F : FS, F.dflL.length = F.len
  | .nil => rfl
  | .cons h s r => by simp [FS.dflL, FS.len, FS.dflL_len r]
theorem FS.dflL_get : ∀ {F : FS} {i : Nat} {h : FH} {s : FS}, F.heads[i]? = some h → F.subs[i]? = some s → F.dflL[i]? = some (.mk h.dflt [] (decide (0 ≤ h.null)) (if h.kind = 10 then s.dflL else []) [])
  | .nil, i, h, s, hh, hs => by simp [FS.heads] at hh
  | .cons h' s' r, 0, h, s, hh, hs => by simp [FS.heads, FS.subs] at hh hs; subst hh hs; rfl
  | .cons h' s' r, i + 1, h, s, hh, hs => by
    simp only [FS.heads, FS.subs, List.getElem?_cons_succ] at hh hs
    simpa [FS.dflL] using FS.dflL_get hh hs

/-- An own row of trees. -/
def OwnTr (w : World) (base T : Nat) (v : Value) (rows : List (List Value)) : Prop := Own w base T 5 v rows.flatten ∧ ∀ c ∈ rows, c.length = 5

theorem flatten5 : ∀ {rows : List (List Value)}, (∀ c ∈ rows, c.length = 5) → rows.flatten.length = rows.length * 5
  | [], _ => rfl
  | c :: r, h => by
    have := flatten5 (rows := r) (fun c hc => h c (List.mem_cons_of_mem _ hc))
    have := h c List.mem_cons_self
    simp only [List.flatten_cons, List.length_append, List.length_cons]; omega
theorem flatten5_get : ∀ {rows : List (List Value)}, (∀ c ∈ rows, c.length = 5) → ∀ {i : Nat} {c : List Value}, rows[i]? = some c → ∀ j u, c[j]? = some u → rows.flatten[i * 5 + j]? = some u
  | [], _, i, c, hc => by simp at hc
  | d :: r, h, i, c, hc => by
    intro j u hj
    have hd := h d List.mem_cons_self
    cases i with
    | zero =>
      simp at hc; subst hc
      have hlt := (List.getElem?_eq_some_iff.1 hj).1
      rw [List.flatten_cons, List.getElem?_append_left (by omega)]
      simpa using hj
    | succ i =>
      have := flatten5_get (rows := r) (fun c hc => h c (List.mem_cons_of_mem _ hc)) (i := i) (by simpa using hc) j u hj
      rw [List.flatten_cons, List.getElem?_append_right (by omega), show (i + 1) * 5 + j - d.length = i * 5 + j by omega]
      exact this

theorem OwnTr.arr {w : World} {base T : Nat} {v : Value} {rows : List (List Value)} (h : OwnTr w base T v rows) (hn : rows.length ≤ 1099511627776) : ∃ ls, ArrAt w (fun b => base ≤ b ∧ b < w.heap.size) 5 v ls ∧ ls.getD [] = rows := by
  obtain ⟨⟨n, h1, h2⟩, h5⟩ := h
  have hn' : n = rows.length := by rw [flatten5 h5] at h1; omega
  subst hn'
  rcases h2 with ⟨rfl, h0⟩ | ⟨g, cap, cur, rfl, hb, hg, hnc, hcm, hcs, htake⟩
  · exact ⟨none, rfl, (List.eq_nil_of_length_eq_zero h0).symm⟩
  · refine ⟨some rows, ⟨g, 0, cap, rfl, ⟨hb, lt_of_heap hg⟩, ⟨hnc, hn⟩, fun i cs hi => ⟨h5 cs (List.mem_of_getElem? hi), fun j u hj => ?_⟩⟩, rfl⟩
    have := flatten5_get h5 hi j u hj
    rw [← htake, List.getElem?_take] at this
    rw [cell_of_blk hg, Nat.zero_add]
    split at this
    · simpa using this
    · cases this

/-- No cell of the tree's box but the list's. -/
def zT (lv : Value) : List Value := [.int .i64 0, .slice none 0 0, .bool false, lv, .slice none 0 0]

/-- A tree that says no text and no tags, its lists in blocks of K. -/
inductive DTr (w : World) (K : Nat → Prop) : List Value → Tr → Prop where
  | mk {n : Int} {nul : Bool} {l : List Tr} {lv : Value} {ls : Option (List (List Value))} (hn : fits n) (ha : ArrAt w K 5 lv ls) (hl : (ls.getD []).length = l.length)
      (he : ∀ (i : Nat) c t, (ls.getD [])[i]? = some c → l[i]? = some t → DTr w K c t) : DTr w K [.int .i64 n, .slice none 0 0, .bool nul, lv, .slice none 0 0] (.mk n [] nul l [])

theorem DTr.ext {C K : Nat → Prop} {w w' : World} (he : Ext C w w') (hK : ∀ b, b < w.heap.size → K b → ¬ C b) {cs : List Value} {t : Tr} (h : DTr w K cs t) : DTr w' K cs t := by
  induction h with
  | mk hn ha hl _ ih => exact .mk hn (ha.ext he hK) hl ih
theorem ArrAt.mono {w : World} {K K' : Nat → Prop} (h : ∀ b, K b → K' b) {sz : Nat} {v : Value} {ls : Option (List (List Value))} (ha : ArrAt w K sz v ls) : ArrAt w K' sz v ls := by
  cases ls with
  | none => exact ha
  | some ls => obtain ⟨b, o, c, rfl, hk, hn, hx⟩ := ha; exact ⟨b, o, c, rfl, h b hk, hn, hx⟩
theorem DTr.mono {K K' : Nat → Prop} {w : World} (hK : ∀ b, K b → K' b) {cs : List Value} {t : Tr} (h : DTr w K cs t) : DTr w K' cs t := by
  induction h with
  | mk hn ha hl _ ih => exact .mk hn (ha.mono hK) hl ih
theorem DTr.tree {K : Nat → Prop} {w : World} {cs : List Value} {t : Tr} (h : DTr w K cs t) : TreeAt w cs t := by
  induction h with
  | mk hn ha hl _ ih => exact .mk ⟨hn, by simp⟩ (.inl ⟨⟨_, rfl⟩, rfl⟩) (ha.mono (fun _ _ => trivial)).toE hl ih ⟨none, ⟨_, rfl⟩, rfl, by simp⟩
theorem DTr.len5 {K : Nat → Prop} {w : World} {cs : List Value} {t : Tr} (h : DTr w K cs t) : cs.length = 5 ∧ allOne cs = true := by
  cases h with
  | mk hn ha hl he => obtain ⟨a, c, rfl, _⟩ := ha.form; exact ⟨rfl, rfl⟩

def DfK (b3 : Nat) (w' : World) (lv : Value) (b : Nat) : Prop := b3 < b ∧ b < w'.heap.size ∧ ¬ own1 lv b
def DfInv (T : Nat) (w : World) (fv : Value) (F : FS) (b2 b3 : Nat) (f : Nat → Value) (w' : World) : Prop :=
  ∃ i lv rows, i ≤ F.len ∧ f 9 = .int .i64 i ∧ f 8 = .int .i64 F.len ∧ f 7 = fv ∧ f 2 = .pointer (some ⟨b2, 0, none⟩) ∧ f 3 = .pointer (some ⟨b3, 0, none⟩) ∧ w'.heap[b2]? = some (.cells (zT (.slice none 0 0)).toArray T (0, 0)) ∧
    w'.heap[b3]? = some (.cells (zT lv).toArray T (0, 0)) ∧ OwnTr w' (b3 + 1) T lv rows ∧ rows.length = i ∧ (∀ (j : Nat) c t, rows[j]? = some c → F.dflL[j]? = some t → DTr w' (DfK b3 w' lv) c t) ∧ Ext none1 w w'
def DfEnd (T : Nat) (w : World) (F : FS) (b2 b3 : Nat) (f : Nat → Value) (w' : World) : Prop :=
  ∃ lv rows, f 2 = .pointer (some ⟨b2, 0, none⟩) ∧ f 3 = .pointer (some ⟨b3, 0, none⟩) ∧ w'.heap[b2]? = some (.cells (zT (.slice none 0 0)).toArray T (0, 0)) ∧
    w'.heap[b3]? = some (.cells (zT lv).toArray T (0, 0)) ∧ OwnTr w' (b3 + 1) T lv rows ∧ rows.length = F.len ∧ (∀ (j : Nat) c t, rows[j]? = some c → F.dflL[j]? = some t → DTr w' (DfK b3 w' lv) c t) ∧ Ext none1 w w'
/-- one tree, in its box -/
def DfOne (T : Nat) (w : World) (fv : Value) (F : FS) (b2 b3 : Nat) (i : Nat) (w6 : World) (lv : Value) (t1 : Tr) (f : Nat → Value) (w' : World) : Prop :=
  ∃ b6 cs, f 6 = .pointer (some ⟨b6, 0, none⟩) ∧ w'.heap[b6]? = some (.cells cs.toArray T (0, 0)) ∧ DTr w' (DfK b3 w' lv) cs t1 ∧ f 9 = .int .i64 i ∧ f 8 = .int .i64 F.len ∧ f 7 = fv ∧ f 2 = .pointer (some ⟨b2, 0, none⟩) ∧ f 3 = .pointer (some ⟨b3, 0, none⟩) ∧
    Ext none1 w6 w' ∧ w6.heap.size ≤ b6

def DfA (T : Nat) (wb : World) (fv : Value) (n i b5 : Nat) (v2 v3 : Value) (cs : List Value) (f : Nat → Value) (w' : World) : Prop :=
  f 5 = .pointer (some ⟨b5, 0, none⟩) ∧ f 9 = .int .i64 i ∧ f 8 = .int .i64 n ∧ f 7 = fv ∧ f 2 = v2 ∧ f 3 = v3 ∧ Ext none1 wb w' ∧ w'.heap[b5]? = some (.cells cs.toArray T (0, 0))
def DfB (T : Nat) (w5 : World) (fv : Value) (n i b5 b2 b3 : Nat) (cs : List Value) (f : Nat → Value) (w' : World) : Prop :=
  ∃ b6, f 6 = .pointer (some ⟨b6, 0, none⟩) ∧ w'.heap[b6]? = some (.cells cs.toArray T (0, 0)) ∧ w5.heap.size ≤ b6 ∧ Ext none1 w5 w' ∧
    f 5 = .pointer (some ⟨b5, 0, none⟩) ∧ f 9 = .int .i64 i ∧ f 8 = .int .i64 n ∧ f 7 = fv ∧ f 2 = .pointer (some ⟨b2, 0, none⟩) ∧ f 3 = .pointer (some ⟨b3, 0, none⟩)

structure TyD (P : Program) (E : Env) : Prop extends TyM P E where
  pT5 : places P E.t_spec_Tree = some [(0, 1), (1, 1), (2, 1), (3, 1), (4, 1)]
  fT3 : ∀ (a b c d e : Value), fld? P E.t_spec_Tree 3 #[a, b, c, d, e] = some d

def DefC (P : Program) (E : Env) (F : FS) : Prop := ∀ w fv, FsAt w fv F → Ret P E.f_spec_Default #[fv] w fun r w' => ∃ lv, r = .agg (zT lv).toArray ∧ DTr w' (fun b => w.heap.size ≤ b ∧ b < w'.heap.size) (zT lv) F.dflT ∧ Ext none1 w w'

section
variable {P : Program} {E : Env} (ht : TyD P E)
include ht

theorem bld_one (n : Int) (b : Bool) : bld? P E.t_spec_Tree [(0, .int .i64 n), (2, .bool b)] = some (.agg #[.int .i64 n, .slice none 0 0, .bool b, .slice none 0 0, .slice none 0 0]) := by
  simp [bld?, ht.zT, ht.pT5, Instr.fill, Value.cells]

set_option maxHeartbeats 1000000 in
theorem c_Default (hI : FnIs P E.f_spec_Default nt_spec_Default (rs_spec_Default E) (ir_spec_Default E)) (F : FS) (hok : F.okAll) (hlen : F.len ≤ 1000) (hsub : ∀ (i : Nat) s, F.subs[i]? = some s → DefC P E s)
    (hdf : ∀ h ∈ F.heads, fits h.dflt) : DefC P E F := by
  intro w fv hF
  refine hI.call (args := [_]) (by simp [nt_spec_Default]) ?_
  obtain ⟨ls, haF, hcF⟩ := hF
  obtain ⟨aF, cF, rfl, _, hmaxF⟩ := haF.form
  have hF : FsAt w (.slice aF (ls.getD []).length cF) F := ⟨ls, haF, hcF⟩
  have hl : (ls.getD []).length = F.len := hcF.len
  obtain ⟨Et, jt, hut, _, _⟩ := sliSz_spec ht.sF
  have hzT : zeroOf P E.t_spec_Tree = some (.agg (zT (.slice none 0 0)).toArray) := ht.zT
  have hzc : ∀ a : Array Value, (Value.agg a).cells = a := fun a => rfl
  have hz : zeroOf P E.t_spec_Field = some (.agg zField) := ht.zF
  have hzz : zField.size = 8 := rfl
  have hzfc : (Value.agg zField).cells = zField := rfl
  generalize hw1 : (w.alloc (.cells (zT (.slice none 0 0)).toArray E.t_spec_Tree)).alloc (.cells (zT (.slice none 0 0)).toArray E.t_spec_Tree) = w1
  have hE : Ext none1 w w1 := by subst hw1; exact ((Ext.refl none1 w).alloc _).alloc _
  have hb2 : w1.heap[w.heap.size]? = some (.cells (zT (.slice none 0 0)).toArray E.t_spec_Tree (0, 0)) := by subst hw1; exact alloc_old alloc_new
  have hb3 : w1.heap[w.heap.size + 1]? = some (.cells (zT (.slice none 0 0)).toArray E.t_spec_Tree (0, 0)) := by
    subst hw1
    have := alloc_new (w := w.alloc (.cells (zT (.slice none 0 0)).toArray E.t_spec_Tree)) (o := .cells (zT (.slice none 0 0)).toArray E.t_spec_Tree)
    simpa using this
  rw [hl] at hF ⊢
  simp [ir_spec_Default, rs_spec_Default, hzT, hzc, hw1, len_slice hut]
  generalize hfv : Value.slice aF F.len cF = fv at *
  refine cw_blockThen (DfEnd E.t_spec_Tree w F w.heap.size (w.heap.size + 1)) ?_ ?_
  · refine cw_loop (DfInv E.t_spec_Tree w fv F w.heap.size (w.heap.size + 1)) (fun f _ => match f 9 with | .int _ i => ((F.len : Int) - i).toNat | _ => 0) ?_ ?_
    · exact ⟨0, .slice none 0 0, [], by omega, by simp, by simp, by simp, by simp, by simp, hb2, hb3, ⟨Own.nil _ _ _ _, by simp⟩, rfl, by simp, hE⟩
    · rintro f w' ⟨i, lv, rows, hi, k9, k8, k7, k2, k3, hb2', hb3', hown, hrl, hrows, he⟩
      simp [k9, k8]
      by_cases hlt : i < F.len
      · refine cw_true (by simp; omega) ?_
        obtain ⟨bb, oo, cc, h, s, sv, y, hfvv, hy, rfl, hss, hFs, hsv1, hcf⟩ := fs_elem (ver := 0) (flex := false) hF he (i := i) (by rw [FS.list_len]; exact hlt)
        obtain ⟨h', s', hh, _, hyh⟩ := FS.list_get hy
        have hyh' : y.h = h' := by rw [hyh]
        rw [hyh'] at hcf
        have hone : allOne (h'.cells ++ [sv]) = true := FH.cells_one h' hsv1
        have hcl := FH.cells_len h' sv
        have ei : IntKind.i64.wrap ((i : Int) + 1) = ((i + 1 : Nat) : Int) := by rw [i64_small (by omega) (by omega)]; rfl
        have hdt := FS.dflL_get hh hss
        rw [FS.list_len] at hfvv
        have hfit := hdf h' (List.mem_of_getElem? hh)
        simp only [cw_skip, thenF_normal]
        rw [cw_seq, cw_block, cw_seq]
        refine cw_then (DfA E.t_spec_Field w' fv F.len i w'.heap.size (f 2) (f 3) (h'.cells ++ [sv])) ?_ ?_
        · rw [hfvv] at k7
          simp [k9, k7, idx?, ht.sF, hlt, Addr.add_mk, ld_agg ht.kF, hcf, hz, hzfc, store_agg ht.kF, hone, putK_blk alloc_new, hzz]
          rw [over_z8 hcl]
          exact ⟨by simp, by simp [k9], by simp [k8], by simp [hfvv, k7], by simp, by simp, ((Ext.refl none1 w').alloc _).setBlk (.inl (Nat.le_refl _)) _, setBlk_same alloc_new⟩
        · rintro f5 w5 ⟨j5, j9, j8, j7, j2, j3, he5, hb5⟩
          rw [k2] at j2
          rw [k3] at j3
          clear k9 k8 k7 k2 k3
          clear f
          have hx5 : Ext none1 w w5 := he.trans he5
          have cF5 : ∀ wx, Ext none1 w5 wx → ∀ j u, (h'.cells ++ [sv])[j]? = some u → wx.cell? ⟨w'.heap.size, j, none⟩ = some u := by
            intro wx hx j u hj
            rw [cell_of_blk (hx.old hb5 (fun h => h))]; simpa using hj
          have d5 := cF5 w5 (Ext.refl _ _) 5 _ rfl
          have d3 := cF5 w5 (Ext.refl _ _) 3 _ rfl
          have hb3lt : w.heap.size + 1 < w'.heap.size := lt_of_heap hb3'
          have hol : ∀ b, own1 lv b → b < w'.heap.size := fun b hb => (Own.below hown.1 hb).2
          rw [cw_seq]
          refine cw_then (DfB E.t_spec_Tree w5 fv F.len i w'.heap.size w.heap.size (w.heap.size + 1) [.int .i64 h'.dflt, .slice none 0 0, .bool (decide (0 ≤ h'.null)), .slice none 0 0, .slice none 0 0]) ?_ ?_
          · have hbo := bld_one ht h'.dflt (decide (0 ≤ h'.null))
            simp [j5, ht.f5, ht.f3, Addr.add_mk, ld_scl ht.kI64, ld_scl ht.kInt, d5, d3, hbo, hzT, hzc, store_agg ht.kT, putK_blk alloc_new]
            have hsz5 : (zT (.slice none 0 0)).length = 5 := rfl
            have ha5 : allOne [Value.int .i64 h'.dflt, .slice none 0 0, .bool (decide (0 ≤ h'.null)), .slice none 0 0, .slice none 0 0] = true := rfl
            have hov : over (zT (.slice none 0 0)).toArray 0 [Value.int .i64 h'.dflt, .slice none 0 0, .bool (decide (0 ≤ h'.null)), .slice none 0 0, .slice none 0 0] = #[Value.int .i64 h'.dflt, .slice none 0 0, .bool (decide (0 ≤ h'.null)), .slice none 0 0, .slice none 0 0] := by simp [over, zT]
            rw [hov]
            refine ⟨ha5, by simp [hsz5], ?_⟩
            exact ⟨w5.heap.size, by simp, setBlk_same alloc_new, Nat.le_refl _, ((Ext.refl none1 w5).alloc _).setBlk (.inl (Nat.le_refl _)) _, by simp [j5], by simp [j9], by simp [j8], by simp [j7], by simp [j2], by simp [j3]⟩
          · clear j5 j9 j8 j7 j2 j3
            clear f5
            rintro f w6 ⟨b6, k6, hb6, hb6le, he6, k5, k9, k8, k7, k2, k3⟩
            rw [cw_seq]
            refine cw_then (DfOne E.t_spec_Tree w fv F w.heap.size (w.heap.size + 1) i w5 lv (.mk h'.dflt [] (decide (0 ≤ h'.null)) (if h'.kind = 10 then s.dflL else []) [])) ?_ ?_
            · have d0 := cF5 w6 he6 0 _ rfl
              have d7 := cF5 w6 he6 7 sv rfl
              simp [k5, ht.f0, Addr.add_mk, ld_scl ht.kInt, d0]
              by_cases h10 : h'.kind = 10
              · refine cw_true (by simp [h10]) ?_
                simp [k5, ht.f7, Addr.add_mk, ld_scl ht.kLF, d7]
                refine (hsub i s hss w6 sv (hFs.ext (he5.trans he6))).mono ?_
                rintro _ w7 ⟨lvs, rfl, hD7, he7⟩
                have hb67 : w7.heap[b6]? = some (.cells (([.int .i64 h'.dflt, .slice none 0 0, .bool (decide (0 ≤ h'.null)), .slice none 0 0, .slice none 0 0] : List Value)).toArray E.t_spec_Tree (0, 0)) := he7.old hb6 (fun h => h)
                obtain ⟨lss, hda, hdl, hde⟩ : ∃ lss, ArrAt w7 (fun b => w6.heap.size ≤ b ∧ b < w7.heap.size) 5 lvs lss ∧ (lss.getD []).length = s.dflL.length ∧ ∀ (i : Nat) c t, (lss.getD [])[i]? = some c → s.dflL[i]? = some t → DTr w7 (fun b => w6.heap.size ≤ b ∧ b < w7.heap.size) c t := by
                  have key : ∀ cs t, DTr w7 (fun b => w6.heap.size ≤ b ∧ b < w7.heap.size) cs t → ∃ lv lss, cs[3]? = some lv ∧ ArrAt w7 (fun b => w6.heap.size ≤ b ∧ b < w7.heap.size) 5 lv lss ∧ (lss.getD []).length = t.l.length ∧ ∀ (i : Nat) c t', (lss.getD [])[i]? = some c → t.l[i]? = some t' → DTr w7 (fun b => w6.heap.size ≤ b ∧ b < w7.heap.size) c t' := by
                    intro cs t h
                    cases h with
                    | mk hn ha hl he => exact ⟨_, _, rfl, ha, hl, he⟩
                  obtain ⟨lv', lss, h1, h2, h3, h4⟩ := key _ _ hD7
                  cases h1
                  exact ⟨lss, h2, h3, h4⟩
                have hlv1 : lvs.oneCell' = true := by obtain ⟨a, c, h', _⟩ := hda.form; rw [h']; rfl
                have hfl : fld? P E.t_spec_Tree 3 (zT lvs).toArray = some lvs := ht.fT3 _ _ _ _ _
                simp [hfl, k6, ht.t3, Addr.add_mk, store_scl ht.kLT, hlv1, put1K_blk hb67]
                have hset : (#[Value.int .i64 h'.dflt, .slice none 0 0, .bool (decide (0 ≤ h'.null)), .slice none 0 0, .slice none 0 0]).setIfInBounds 3 lvs = #[Value.int .i64 h'.dflt, .slice none 0 0, .bool (decide (0 ≤ h'.null)), lvs, .slice none 0 0] := rfl
                try rw [hset]
                have hx78 : Ext none1 w5 (w7.setBlk b6 (.cells #[Value.int .i64 h'.dflt, .slice none 0 0, .bool (decide (0 ≤ h'.null)), lvs, .slice none 0 0] E.t_spec_Tree (0, 0))) := (he6.trans he7).setBlk (.inl hb6le) _
                have hb6lt : b6 < w6.heap.size := lt_of_heap hb6
                have hx77 : Ext (· = b6) w7 (w7.setBlk b6 (.cells #[Value.int .i64 h'.dflt, .slice none 0 0, .bool (decide (0 ≤ h'.null)), lvs, .slice none 0 0] E.t_spec_Tree (0, 0))) := (Ext.refl (fun x => x = b6) w7).setBlk (.inr rfl) _
                have hKK : ∀ b, (w6.heap.size ≤ b ∧ b < w7.heap.size) → DfK (w.heap.size + 1) (w7.setBlk b6 (.cells #[Value.int .i64 h'.dflt, .slice none 0 0, .bool (decide (0 ≤ h'.null)), lvs, .slice none 0 0] E.t_spec_Tree (0, 0))) lv b := by
                  intro b hb
                  have := he5.size
                  have := he6.size
                  exact ⟨by omega, by simpa using hb.2, fun h => by have := hol b h; omega⟩
                refine ⟨b6, [Value.int .i64 h'.dflt, .slice none 0 0, .bool (decide (0 ≤ h'.null)), lvs, .slice none 0 0], by simp [k6], setBlk_same hb67, ?_, by simp [k9], by simp [k8], by simp [k7], by simp [k2], by simp [k3], hx78, hb6le⟩
                rw [if_pos h10]
                refine .mk hfit ((hda.ext hx77 (fun b _ hb => by omega)).mono hKK) hdl ?_
                intro j c t hc ht'
                exact ((hde j c t hc ht').ext hx77 (fun b _ hb => by omega)).mono hKK
              · refine cw_false (by simp [h10]) ?_
                simp
                refine ⟨b6, _, by simp [k6], hb6, ?_, by simp [k9], by simp [k8], by simp [k7], by simp [k2], by simp [k3], he6, hb6le⟩
                rw [if_neg h10]
                exact .mk (ls := none) hfit rfl rfl (by simp)
            · clear k5 k6 k9 k8 k7 k2 k3 hb6 hb6le he6
              clear f w6 b6
              rintro f w7 ⟨b6, cs, k6, hb6, hD1, k9, k8, k7, k2, k3, he7, hb6le⟩
              obtain ⟨hcs5, hcs1⟩ := hD1.len5
              have hx7 : Ext none1 w' w7 := he5.trans he7
              have hb37 : w7.heap[w.heap.size + 1]? = some (.cells (zT lv).toArray E.t_spec_Tree (0, 0)) := hx7.old hb3' (fun h => h)
              have c3 : w7.cell? ⟨w.heap.size + 1, 3, none⟩ = some lv := by rw [cell_of_blk hb37]; rfl
              have lT6 : cellsFrom w7 ⟨b6, 0, none⟩ 0 5 = some cs := by
                have := cellsFrom_row hb6
                rw [List.size_toArray, hcs5] at this
                simpa using this
              have hrlen : rows.flatten.length = rows.length * 5 := flatten5 hown.2
              simp [k3, k6, ht.t3, Addr.add_mk, ld_scl ht.kLT, c3, ld_agg ht.kT, lT6]
              rw [st_bsl (n := 1) (parts := #[(0, Operand.tmp 29)]) ht.gTr (by omega) rfl rfl (by omega) (by omega) (by simp [allSz, Value.cells, hcs5])]
              have hfl : flat [Value.agg cs.toArray] = cs := by simp [flat, Value.cells]
              simp only [List.map_cons, List.map_nil, evF_tmp, upd_apply, if_true, hfl]
              try simp [hfl]
              generalize hw8 : w7.alloc (.cells cs.toArray E.t_spec_Tree) = w8
              have hx8 : Ext none1 w7 w8 := by subst hw8; exact (Ext.refl none1 w7).alloc _
              have hb8 : w8.heap[w7.heap.size]? = some (.cells cs.toArray E.t_spec_Tree (0, 0)) := by subst hw8; exact alloc_new
              have hown8 := Own.ext hown.1 (hx7.trans hx8) (fun _ _ h => h)
              refine st_append ht.gTr (by omega) (x := .tmp 28) (y := .tmp 30) (base := w.heap.size + 1 + 1) (xs := rows.flatten) (by simpa using hown8) (ad := some ⟨w7.heap.size, 0, none⟩) (m := 1) (c := 1) (news := cs) (by simp) (by omega) (by simp) ?_ (allOne_spec hcs1) ?_ ?_ ?_ ?_
              · intro a ha j u hj
                cases ha
                rw [Addr.add_mk, cell_of_blk hb8]
                simpa using hj
              · simp only [maxLen]; omega
              · omega
              · have := hx7.size; have := hx8.size; omega
              · intro v' w9 ho9 hg9
                simp at hg9
                have hn3 : ¬ own1 lv (w.heap.size + 1) := fun h => by have := (Own.below hown.1 h).1; omega
                have hb39 : w9.heap[w.heap.size + 1]? = some (.cells (zT lv).toArray E.t_spec_Tree (0, 0)) := hg9.ext.old (hx8.old hb37 (fun h => h)) hn3
                have hv1 : v'.oneCell' = true := by
                  obtain ⟨n, _, h⟩ := ho9
                  rcases h with ⟨rfl, _⟩ | ⟨g, cap, cur, rfl, _⟩ <;> rfl
                have hz5 : (zT lv).length = 5 := rfl
                have hset : (zT lv).toArray.setIfInBounds 3 v' = (zT v').toArray := rfl
                simp [k3, ht.t3, Addr.add_mk, store_scl ht.kLT, hv1, put1K_blk hb39, hz5]
                have hset' : (zT lv).set 3 v' = zT v' := rfl
                try rw [hset']
                try rw [hset]
                have hx9 : Ext (fun k => k = w.heap.size + 1) w9 (w9.setBlk (w.heap.size + 1) (.cells (zT v').toArray E.t_spec_Tree (0, 0))) := (Ext.refl (fun k => k = w.heap.size + 1) w9).setBlk (.inr rfl) _
                generalize hw10 : w9.setBlk (w.heap.size + 1) (.cells (zT v').toArray E.t_spec_Tree (0, 0)) = w10 at *
                have hb310 : w10.heap[w.heap.size + 1]? = some (.cells (zT v').toArray E.t_spec_Tree (0, 0)) := by subst hw10; exact setBlk_same hb39
                have hs89 := hg9.ext.size
                have hs910 := hx9.size
                have hs78 := hx8.size
                have hs77 := hx7.size
                have hx08 : Ext none1 w w8 := he.trans (hx7.trans hx8)
                have hx09 : Ext none1 w w9 := hx08.owned (Own.base hown8 (by omega)) hg9.ext
                have carry : ∀ c t, DTr w7 (DfK (w.heap.size + 1) w7 lv) c t → DTr w10 (DfK (w.heap.size + 1) w10 v') c t := by
                  intro c t h
                  refine (((h.ext hx8 (fun _ _ _ h => h)).ext hg9.ext (fun b _ hb h => hb.2.2 h)).ext hx9 (fun b _ hb h => by have := hb.1; omega)).mono ?_
                  intro b hb
                  refine ⟨hb.1, by have := hb.2.1; omega, fun h => ?_⟩
                  rcases hg9.own b h with h | h
                  · exact hb.2.2 h
                  · have := hb.2.1; omega
                have carry0 : ∀ c t, DTr w' (DfK (w.heap.size + 1) w' lv) c t → DTr w10 (DfK (w.heap.size + 1) w10 v') c t := by
                  intro c t h
                  refine carry c t ((h.ext hx7 (fun _ _ _ h => h)).mono ?_)
                  intro b hb
                  exact ⟨hb.1, by have := hb.2.1; omega, hb.2.2⟩
                simp [k9, ei]
                refine ⟨⟨i + 1, v', rows ++ [cs], by omega, by simp, by simp [k8], by simp [k7], by simp [k2], by simp [k3], ?_, hb310, ⟨?_, ?_⟩, by simp [hrl], ?_, ?_⟩, by omega⟩
                · have hb2lt := lt_of_heap hb2'
                  have : w9.heap[w.heap.size]? = some (.cells (zT (.slice none 0 0)).toArray E.t_spec_Tree (0, 0)) := hg9.ext.old (hx8.old (hx7.old hb2' (fun h => h)) (fun h => h)) (fun h => by have := (Own.below hown.1 h).1; omega)
                  exact hx9.old this (by omega)
                · rw [List.flatten_append]
                  simpa using Own.ext ho9 hx9 (fun b hb h => by have := (Own.below ho9 hb).1; omega)
                · intro c hc
                  rcases List.mem_append.1 hc with h | h
                  · exact hown.2 c h
                  · simp at h; rw [h]; exact hcs5
                · intro j c t hc ht'
                  by_cases hj : j < rows.length
                  · rw [List.getElem?_append_left hj] at hc
                    exact carry0 c t (hrows j c t hc ht')
                  · rw [List.getElem?_append_right (by omega)] at hc
                    have hji : j = i := by
                      have := (List.getElem?_eq_some_iff.1 hc).1
                      simp at this; omega
                    subst hji
                    rw [hrl] at hc
                    simp at hc
                    subst hc
                    rw [hdt] at ht'
                    cases ht'
                    exact carry _ _ hD1
                · subst hw10
                  exact hx09.setBlk (.inl (by omega)) _
      · refine cw_false (by simp; omega) ?_
        have : i = F.len := by omega
        subst this
        simp
        exact ⟨lv, rows, by simp [k2], by simp [k3], hb2', hb3', hown, hrl, hrows, he⟩
  · rintro f w2 ⟨lv, rows, k2, k3, hb2', hb3', hown, hrl, hrows, he⟩
    have lT3 : cellsFrom w2 ⟨w.heap.size + 1, 0, none⟩ 0 5 = some (zT lv) := by
      have := cellsFrom_row hb3'
      rw [show (zT lv).toArray.size = 5 from rfl] at this
      simpa using this
    obtain ⟨lss, harr, hlss⟩ := hown.arr (by omega)
    have hlv1 : lv.oneCell' = true := by obtain ⟨a, c, h', _⟩ := harr.form; rw [h']; rfl
    have hone : allOne (zT lv) = true := by obtain ⟨a, c, h', _⟩ := harr.form; rw [h']; rfl
    have hz5 : (zT lv).length = 5 := rfl
    have hz5' : (zT (.slice none 0 0)).length = 5 := rfl
    have hov : over (zT (.slice none 0 0)).toArray 0 (zT lv) = (zT lv).toArray := by simp [over, zT]
    simp [k2, k3, ld_agg ht.kT, lT3, store_agg ht.kT, hone, hz5, hz5', putK_blk hb2', hov]
    have hx3 : Ext (fun k => k = w.heap.size) w2 (w2.setBlk w.heap.size (.cells (zT lv).toArray E.t_spec_Tree (0, 0))) := (Ext.refl (fun k => k = w.heap.size) w2).setBlk (.inr rfl) _
    have hb23 : (w2.setBlk w.heap.size (.cells (zT lv).toArray E.t_spec_Tree (0, 0))).heap[w.heap.size]? = some (.cells (zT lv).toArray E.t_spec_Tree (0, 0)) := setBlk_same hb2'
    have hxx : Ext none1 w (w2.setBlk w.heap.size (.cells (zT lv).toArray E.t_spec_Tree (0, 0))) := he.setBlk (.inl (Nat.le_refl _)) _
    generalize hw3 : w2.setBlk w.heap.size (.cells (zT lv).toArray E.t_spec_Tree (0, 0)) = w3 at *
    have lT2 : cellsFrom w3 ⟨w.heap.size, 0, none⟩ 0 5 = some (zT lv) := by
      have := cellsFrom_row hb23
      rw [show (zT lv).toArray.size = 5 from rfl] at this
      simpa using this
    simp [lT2]
    refine ⟨lv, rfl, ?_, hxx⟩
    have hs23 := hx3.size
    refine .mk (ls := lss) ⟨by omega, by omega⟩ ((harr.ext hx3 (fun b _ hb h => by omega)).mono (fun b hb => by omega)) ?_ ?_
    · rw [hlss, hrl, FS.dflL_len]
    · intro j c t hc ht'
      rw [hlss] at hc
      refine ((hrows j c t hc ht').ext hx3 (fun b _ hb h => by have := hb.1; omega)).mono ?_
      intro b hb
      have := hb.1
      have := hb.2.1
      exact ⟨by omega, by omega⟩
end
end Go.Kg

set_option linter.unusedSimpArgs false
set_option linter.unusedVariables false
namespace Go.Kg
open Go

/-! ## Default of all fields -/
theorem FS.okAll.dflt : ∀ {F : FS}, F.okAll → ∀ h ∈ F.heads, fits h.dflt
  | .nil, _, h, hh => by cases hh
  | .cons h' s r, ho, h, hh => by
    rcases List.mem_cons.1 hh with rfl | hh
    · exact ho.2.1
    · exact FS.okAll.dflt ho.2.2.2.2 h hh

theorem sp_Default {P : Program} {E : Env} (ht : TyD P E) (hI : FnIs P E.f_spec_Default nt_spec_Default (rs_spec_Default E) (ir_spec_Default E)) : ∀ F : FS, F.okAll → F.len ≤ 1000 → DefC P E F := by
  have key : ∀ F : FS, F.okAll → ∀ (i : Nat) s, F.subs[i]? = some s → DefC P E s := by
    intro F
    induction F with
    | nil => intro _ i s h; simp [FS.subs] at h
    | cons h sub rest ihs ihr =>
      intro ho i s hs
      cases i with
      | zero =>
        simp [FS.subs] at hs; subst hs
        exact c_Default ht hI sub ho.2.2.2.1 ho.2.2.1 (ihs ho.2.2.2.1) ho.2.2.2.1.dflt
      | succ i => exact ihr ho.2.2.2.2 i s (by simpa [FS.subs] using hs)
  intro F ho hl
  exact c_Default ht hI F ho hl (key F ho) ho.dflt

/-! ## The functions that make the fields of a message -/
def FH.zero : FH := ⟨0, 0, 0, 0, 0, 0, 0⟩
def FH.set (h : FH) (k : Nat) (n : Int) : FH :=
  match k with
  | 0 => { h with kind := n } | 1 => { h with frm := n } | 2 => { h with to := n } | 3 => { h with null := n } | 4 => { h with tag := n } | 5 => { h with dflt := n } | _ => { h with of_ := n }

/-- A field's text: its parts in order, and the function of its own fields (with these). -/
structure FSrc where
  ps : List (Nat × Int)
  sub : Option (Nat × FS)

def FSrc.h (x : FSrc) : FH := x.ps.foldl (fun h p => h.set p.1 p.2) FH.zero
def FSrc.subF (x : FSrc) : FS := match x.sub with | some (_, F) => F | none => .nil
def mkFS : List FSrc → FS
  | [] => .nil
  | x :: r => .cons x.h x.subF (mkFS r)

def psOp (ps : List (Nat × Int)) : List (Nat × Operand) := ps.map fun p => (p.1, .const (.int .i64 p.2))
def FSrc.sz (x : FSrc) : Nat := match x.sub with | some _ => 2 | none => 1
def FSrc.ro (E : Env) (x : FSrc) (t : Nat) : List Ro := match x.sub with
  | none => [⟨none, some t, .build E.t_spec_Field (psOp x.ps).toArray, E.t_spec_Field⟩]
  | some (g, _) => [⟨none, some t, .call { callee := .value (.func g), args := #[], argTypes := #[] }, E.t_l_spec_Field⟩, ⟨none, some (t + 1), .build E.t_spec_Field (psOp x.ps ++ [(7, Operand.tmp t)]).toArray, E.t_spec_Field⟩]
def genSr (E : Env) : List FSrc → Nat → List Ro
  | [], _ => []
  | x :: r, t => x.ro E t ++ genSr E r (t + x.sz)
def slotsS : List FSrc → Nat → List Nat
  | [], _ => []
  | x :: r, t => (t + x.sz - 1) :: slotsS r (t + x.sz)
def endS : List FSrc → Nat → Nat
  | [], t => t
  | x :: r, t => endS r (t + x.sz)
def bslOp (sl : List Nat) : Array (Nat × Operand) := (sl.zipIdx.map fun p => (p.2, Operand.tmp p.1)).toArray

/-- func sX() []Field -/
def irSub (E : Env) (xs : List FSrc) : Ir :=
  .seq (.reg [⟨none, some 0, .assign (.const (.slice none 0 0)), E.t_l_spec_Field⟩])
  (.seq (.reg (genSr E xs 1 ++ [⟨none, some (endS xs 1), .buildSlice E.t_l_spec_Field xs.length (bslOp (slotsS xs 1)), E.t_l_spec_Field⟩, ⟨none, some 0, .assign (.tmp (endS xs 1)), E.t_l_spec_Field⟩])) .ret)
/-- func X() Message -/
def irMsg (E : Env) (xs : List FSrc) (fx : Int) : Ir :=
  .seq (.reg [⟨none, some 0, .alloc E.t_spec_Message, E.tNil⟩])
  (.seq (.reg (genSr E xs 1 ++ [⟨none, some (endS xs 1), .buildSlice E.t_l_spec_Field xs.length (bslOp (slotsS xs 1)), E.t_l_spec_Field⟩,
    ⟨none, some (endS xs 1 + 1), .build E.t_spec_Message #[(1, .const (.int .i64 fx)), (0, .tmp (endS xs 1))], E.t_spec_Message⟩, ⟨none, none, .store E.t_spec_Message (.tmp 0) (.tmp (endS xs 1 + 1)), E.tNil⟩])) .ret)

def psOk : List (Nat × Int) → Bool
  | [] => true
  | p :: r => decide (p.1 < 7) && psOk r

structure TyK (P : Program) (E : Env) : Prop extends TyD P E where
  pF8 : places P E.t_spec_Field = some [(0, 1), (1, 1), (2, 1), (3, 1), (4, 1), (5, 1), (6, 1), (7, 1)]
  gF : SliI P E.t_l_spec_Field E.t_spec_Field 8 80 (.agg zField)
  pM : places P E.t_spec_Message = some [(0, 1), (1, 1)]
  zM : zeroOf P E.t_spec_Message = some (.agg #[.slice none 0 0, .int .i64 0])
  kM : kindOf P E.t_spec_Message = .agg 2

theorem FH.set_cells (h : FH) (sv : Value) (k : Nat) (n : Int) (hk : k < 7) : (h.cells ++ [sv]).toArray.setIfInBounds k (.int .i64 n) = ((h.set k n).cells ++ [sv]).toArray := by
  match k, hk with
  | 0, _ => rfl
  | 1, _ => rfl
  | 2, _ => rfl
  | 3, _ => rfl
  | 4, _ => rfl
  | 5, _ => rfl
  | 6, _ => rfl

def pl8 : List (Nat × Nat) := [(0, 1), (1, 1), (2, 1), (3, 1), (4, 1), (5, 1), (6, 1), (7, 1)]
theorem pl8_get {k : Nat} (hk : k < 8) : pl8[k]? = some (k, 1) := by
  match k, hk with
  | 0, _ => rfl | 1, _ => rfl | 2, _ => rfl | 3, _ => rfl | 4, _ => rfl | 5, _ => rfl | 6, _ => rfl | 7, _ => rfl

theorem fill_one {k : Nat} (hk : k < 8) {v : Value} (hv : v.cells = #[v]) {c : Array Value} (hc : c.size = 8) (rest : List (Nat × Value)) :
    Instr.fill (fun i => pl8[i]?) c ((k, v) :: rest) = Instr.fill (fun i => pl8[i]?) (c.setIfInBounds k v) rest := by
  simp only [Instr.fill, pl8_get hk, hv]
  rw [if_neg (by simp; omega)]
  simp

theorem fill_ps : ∀ (ps : List (Nat × Int)) (h : FH) (sv : Value) (rest : List (Nat × Value)), psOk ps = true →
    Instr.fill (fun i => pl8[i]?) (h.cells ++ [sv]).toArray (ps.map (fun p => (p.1, Value.int .i64 p.2)) ++ rest) = Instr.fill (fun i => pl8[i]?) ((ps.foldl (fun h p => h.set p.1 p.2) h).cells ++ [sv]).toArray rest
  | [], h, sv, rest, _ => rfl
  | p :: r, h, sv, rest, hok => by
    simp only [psOk, Bool.and_eq_true, decide_eq_true_eq] at hok
    rw [List.map_cons, List.cons_append, fill_one (by omega) rfl (by simp), FH.set_cells h sv p.1 p.2 hok.1]
    exact fill_ps r _ sv rest hok.2

theorem zField_eq : zField = (FH.zero.cells ++ [Value.slice none 0 0]).toArray := rfl

/-- Fields whose rows lie in blocks of K. -/
def FsCellsK (w : World) (K : Nat → Prop) : List (List Value) → FS → Prop
  | [], .nil => True
  | c :: cs, .cons h sub rest => (∃ sv ls, c = h.cells ++ [sv] ∧ ArrAt w K 8 sv ls ∧ FsCellsK w K (ls.getD []) sub) ∧ FsCellsK w K cs rest
  | _, _ => False
def FsAtK (w : World) (K : Nat → Prop) (v : Value) (F : FS) : Prop := ∃ ls, ArrAt w K 8 v ls ∧ FsCellsK w K (ls.getD []) F
theorem FsCellsK.ext {C K K' : Nat → Prop} {w w' : World} (he : Ext C w w') (hK : ∀ b, b < w.heap.size → K b → ¬ C b) (hm : ∀ b, K b → K' b) : ∀ {F : FS} {ls : List (List Value)}, FsCellsK w K ls F → FsCellsK w' K' ls F := by
  intro F
  induction F with
  | nil => intro ls h; cases ls with
    | nil => trivial
    | cons c cs => exact h.elim
  | cons h sub rest ihs ihr =>
    intro ls hh
    cases ls with
    | nil => exact hh.elim
    | cons c cs =>
      obtain ⟨⟨sv, l, h1, h2, h3⟩, h4⟩ := hh
      exact ⟨⟨sv, l, h1, (h2.ext he hK).mono hm, ihs h3⟩, ihr h4⟩
theorem FsAtK.ext {C K K' : Nat → Prop} {w w' : World} (he : Ext C w w') (hK : ∀ b, b < w.heap.size → K b → ¬ C b) (hm : ∀ b, K b → K' b) {v : Value} {F : FS} (h : FsAtK w K v F) : FsAtK w' K' v F := by
  obtain ⟨ls, h1, h2⟩ := h; exact ⟨ls, (h1.ext he hK).mono hm, h2.ext he hK hm⟩
theorem FsCellsK.all {K : Nat → Prop} {w : World} : ∀ {F : FS} {ls : List (List Value)}, FsCellsK w K ls F → FsCells w ls F := by
  intro F
  induction F with
  | nil => intro ls h; cases ls with
    | nil => trivial
    | cons c cs => exact h.elim
  | cons h sub rest ihs ihr =>
    intro ls hh
    cases ls with
    | nil => exact hh.elim
    | cons c cs =>
      obtain ⟨⟨sv, l, h1, h2, h3⟩, h4⟩ := hh
      exact ⟨⟨sv, l, h1, h2.mono (fun _ _ => trivial), ihs h3⟩, ihr h4⟩
theorem FsAtK.all {K : Nat → Prop} {w : World} {v : Value} {F : FS} (h : FsAtK w K v F) : FsAt w v F := by
  obtain ⟨ls, h1, h2⟩ := h; exact ⟨ls, h1.mono (fun _ _ => trivial), h2.all⟩

/-- What the fields are, once made: their rows at base and above. -/
def FldsV (w : World) (base : Nat) : List FSrc → List Value → Prop
  | [], [] => True
  | x :: r, v :: vs => (∃ sv, v = .agg (x.h.cells ++ [sv]).toArray ∧ FsAtK w (base ≤ ·) sv x.subF) ∧ FldsV w base r vs
  | _, _ => False
theorem FldsV.ext {w w' : World} {base : Nat} (he : Ext none1 w w') : ∀ {xs : List FSrc} {vs : List Value}, FldsV w base xs vs → FldsV w' base xs vs
  | [], [], _ => trivial
  | x :: r, v :: vs, h => ⟨by obtain ⟨sv, h1, h2⟩ := h.1; exact ⟨sv, h1, h2.ext he (fun _ _ _ h => h) (fun _ h => h)⟩, FldsV.ext he h.2⟩
  | [], _ :: _, h => h.elim
  | _ :: _, [], h => h.elim
theorem FldsV.len {w : World} {base : Nat} : ∀ {xs : List FSrc} {vs : List Value}, FldsV w base xs vs → vs.length = xs.length ∧ ∀ v ∈ vs, v.cells.size = 8
  | [], [], _ => ⟨rfl, by simp⟩
  | x :: r, v :: vs, h => by
    obtain ⟨h1, h2⟩ := FldsV.len h.2
    obtain ⟨sv, rfl, _⟩ := h.1
    refine ⟨by simp [h1], fun u hu => ?_⟩
    rcases List.mem_cons.1 hu with rfl | hu
    · simp [Value.cells]
    · exact h2 u hu
  | [], _ :: _, h => h.elim
  | _ :: _, [], h => h.elim

def SubC (P : Program) (g : Nat) (F : FS) : Prop := ∀ w, Ret P g #[] w fun v w' => FsAtK w' (w.heap.size ≤ ·) v F ∧ Ext none1 w w'
def srcOk (P : Program) : List FSrc → Prop
  | [] => True
  | x :: r => psOk x.ps = true ∧ (∀ g F, x.sub = some (g, F) → SubC P g F) ∧ srcOk P r

theorem FsAtK.nil (w : World) (K : Nat → Prop) : FsAtK w K (.slice none 0 0) .nil := ⟨none, rfl, trivial⟩

theorem slotsS_ge : ∀ (xs : List FSrc) (t : Nat), ∀ s ∈ slotsS xs t, t ≤ s
  | [], _, s, h => by cases h
  | x :: r, t, s, h => by
    have hz : 1 ≤ x.sz := by unfold FSrc.sz; split <;> omega
    rcases List.mem_cons.1 h with rfl | h
    · omega
    · have := slotsS_ge r _ s h; omega
theorem endS_ge : ∀ (xs : List FSrc) (t : Nat), t ≤ endS xs t
  | [], t => Nat.le_refl _
  | x :: r, t => Nat.le_trans (Nat.le_add_right _ _) (endS_ge r (t + x.sz))
theorem slotsS_lt : ∀ (xs : List FSrc) (t : Nat), ∀ s ∈ slotsS xs t, s < endS xs t
  | [], _, s, h => by cases h
  | x :: r, t, s, h => by
    have hz : 1 ≤ x.sz := by unfold FSrc.sz; split <;> omega
    rcases List.mem_cons.1 h with rfl | h
    · have := endS_ge r (t + x.sz)
      simp only [endS]; omega
    · exact slotsS_lt r _ s h
theorem slotsS_len : ∀ (xs : List FSrc) (t : Nat), (slotsS xs t).length = xs.length
  | [], _ => rfl
  | x :: r, t => by simp [slotsS, slotsS_len r]

theorem stp_build {P : Program} {f : Nat → Value} {ty T : TypeId} {w : World} {K : Value → World → Prop} {ps : List (Nat × Operand)} (h : ps ≠ []) : stp P f (.build T ps.toArray) ty w K = optK (bld? P T (ps.map fun p => (p.1, evF f p.2))) fun v => K v w := by
  cases ps with
  | nil => exact absurd rfl h
  | cons p r => simp only [stp]
theorem psOp_eval (f : Nat → Value) (ps : List (Nat × Int)) : (psOp ps).map (fun p => (p.1, evF f p.2)) = ps.map fun p => (p.1, Value.int .i64 p.2) := by simp [psOp, evF]

def MsgC (P : Program) (g : Nat) (F : FS) (fx : Int) : Prop := ∀ w, Ret P g #[] w fun v w' => ∃ fv, v = .agg #[fv, .int .i64 fx] ∧ FsAt w' fv F ∧ Ext none1 w w'
theorem dense_bsl : ∀ (sl : List Nat) (k : Nat), denseFrom k ((sl.zipIdx k).map fun p => (p.2, Operand.tmp p.1)) = true
  | [], _ => rfl
  | s :: r, k => by simp only [List.zipIdx_cons, List.map_cons, denseFrom, beq_self_eq_true, Bool.true_and]; exact dense_bsl r (k + 1)
theorem bsl_vals (f : Nat → Value) : ∀ (sl : List Nat) (k : Nat), ((sl.zipIdx k).map fun p => (p.2, Operand.tmp p.1)).map (fun p => evF f p.2) = sl.map f
  | [], _ => rfl
  | s :: r, k => by simp only [List.zipIdx_cons, List.map_cons, bsl_vals f r (k + 1)]; rfl

theorem allSz_of {s : Nat} : ∀ {l : List Value}, (∀ v ∈ l, v.cells.size = s) → allSz s l = true
  | [], _ => rfl
  | v :: l, h => by simp only [allSz, h v List.mem_cons_self, beq_self_eq_true, Bool.true_and]; exact allSz_of fun u hu => h u (List.mem_cons_of_mem _ hu)

theorem flds_cells {w : World} {base : Nat} : ∀ {xs : List FSrc} {vs : List Value}, FldsV w base xs vs → ∃ rows : List (List Value), vs = rows.map (fun c => Value.agg c.toArray) ∧ FsCellsK w (base ≤ ·) rows (mkFS xs) ∧ ∀ c ∈ rows, c.length = 8
  | [], [], _ => ⟨[], rfl, trivial, by simp⟩
  | x :: r, v :: vs, h => by
    obtain ⟨rows, h1, h2, h3⟩ := flds_cells h.2
    obtain ⟨sv, rfl, ls, ha, hc⟩ := h.1
    refine ⟨(x.h.cells ++ [sv]) :: rows, by rw [h1]; rfl, ⟨⟨sv, ls, rfl, ha, hc⟩, h2⟩, fun c hc' => ?_⟩
    rcases List.mem_cons.1 hc' with rfl | hc'
    · simp
    · exact h3 c hc'
  | [], _ :: _, h => h.elim
  | _ :: _, [], h => h.elim

section
variable {P : Program} {E : Env} (ht : TyK P E)
include ht

theorem bld_field {ps : List (Nat × Int)} (hok : psOk ps = true) : bld? P E.t_spec_Field (ps.map fun p => (p.1, Value.int .i64 p.2)) = some (.agg ((ps.foldl (fun h p => h.set p.1 p.2) FH.zero).cells ++ [Value.slice none 0 0]).toArray) := by
  have := fill_ps ps FH.zero (Value.slice none 0 0) [] hok
  rw [List.append_nil] at this
  have hz : zeroOf P E.t_spec_Field = some (.agg zField) := ht.zF
  have hp : places P E.t_spec_Field = some pl8 := ht.pF8
  simp only [bld?, hz, hp]
  show (Instr.fill (fun i => pl8[i]?) zField _).map Value.agg = _
  rw [zField_eq, this]
  rfl
theorem bld_fieldS {ps : List (Nat × Int)} {sv : Value} (hok : psOk ps = true) (hs : sv.cells = #[sv]) : bld? P E.t_spec_Field (ps.map (fun p => (p.1, Value.int .i64 p.2)) ++ [(7, sv)]) = some (.agg ((ps.foldl (fun h p => h.set p.1 p.2) FH.zero).cells ++ [sv]).toArray) := by
  have := fill_ps ps FH.zero (Value.slice none 0 0) [(7, sv)] hok
  have hz : zeroOf P E.t_spec_Field = some (.agg zField) := ht.zF
  have hp : places P E.t_spec_Field = some pl8 := ht.pF8
  simp only [bld?, hz, hp]
  show (Instr.fill (fun i => pl8[i]?) zField _).map Value.agg = _
  rw [zField_eq, this, fill_one (by omega) hs (by simp)]
  rfl

theorem gen_sound {base : Nat} : ∀ (xs : List FSrc) (t : Nat) (f : Nat → Value) (w : World) (rest : List Ro) (R : (Nat → Value) → World → Prop), srcOk P xs → (∀ x ∈ xs, x.ps ≠ []) → base ≤ w.heap.size →
    (∀ f' w', (∀ s, s < t → f' s = f s) → Ext none1 w w' → FldsV w' base xs ((slotsS xs t).map f') → regW P R rest f' w') → regW P R (genSr E xs t ++ rest) f w := by
  intro xs
  induction xs with
  | nil => intro t f w rest R _ _ _ h; exact h f w (fun _ _ => rfl) (Ext.refl _ _) trivial
  | cons x r ih =>
    intro t f w rest R hok hne hbs h
    obtain ⟨hps, hsub, hrest⟩ := hok
    have hxne := hne x List.mem_cons_self
    have hne' : ∀ y ∈ r, y.ps ≠ [] := fun y hy => hne y (List.mem_cons_of_mem _ hy)
    have hpo : psOp x.ps ≠ [] := by intro h0; apply hxne; simpa [psOp] using h0
    cases hs : x.sub with
    | none =>
      have e1 : genSr E (x :: r) t ++ rest = ⟨none, some t, .build E.t_spec_Field (psOp x.ps).toArray, E.t_spec_Field⟩ :: (genSr E r (t + 1) ++ rest) := by simp [genSr, FSrc.ro, FSrc.sz, hs]
      rw [e1, regW_plain, stp_build hpo, psOp_eval, bld_field ht hps, optK_some]
      refine ih (t + 1) _ w rest R hrest hne' hbs ?_
      intro f' w' hk he hv
      refine h f' w' (fun s hs' => by rw [hk s (by omega), updO_some, upd_apply, if_neg (by omega)]) he ?_
      have e2 : slotsS (x :: r) t = t :: slotsS r (t + 1) := by simp [slotsS, FSrc.sz, hs]
      rw [e2, List.map_cons]
      refine ⟨⟨.slice none 0 0, ?_, ?_⟩, hv⟩
      · rw [hk t (by omega), updO_some, upd_apply, if_pos rfl]; rfl
      · have : x.subF = .nil := by simp [FSrc.subF, hs]
        rw [this]; exact FsAtK.nil w' _
    | some gF =>
      obtain ⟨g, F⟩ := gF
      have hSC := hsub g F hs
      have e1 : genSr E (x :: r) t ++ rest = ⟨none, some t, .call { callee := .value (.func g), args := #[], argTypes := #[] }, E.t_l_spec_Field⟩ :: ⟨none, some (t + 1), .build E.t_spec_Field (psOp x.ps ++ [(7, Operand.tmp t)]).toArray, E.t_spec_Field⟩ :: (genSr E r (t + 2) ++ rest) := by
        simp [genSr, FSrc.ro, FSrc.sz, hs]
      rw [e1, regW_plain, stp_call]
      refine Ret.mono (R := fun v w' => FsAtK w' (w.heap.size ≤ ·) v F ∧ Ext none1 w w') (by simpa using hSC w) ?_
      rintro sv w1 ⟨hF, he1⟩
      have hsv : sv.cells = #[sv] := by
        obtain ⟨ls, ha, _⟩ := hF
        obtain ⟨a, c, rfl, _⟩ := ha.form
        rfl
      rw [regW_plain, stp_build (by simp), List.map_append, psOp_eval]
      have e3 : List.map (fun p : Nat × Operand => (p.1, evF (updO f (some t) sv) p.2)) [(7, Operand.tmp t)] = [(7, sv)] := by simp
      rw [e3, bld_fieldS ht hps hsv, optK_some]
      refine ih (t + 2) _ w1 rest R hrest hne' (Nat.le_trans hbs he1.size) ?_
      intro f' w' hk he hv
      refine h f' w' (fun s hs' => by rw [hk s (by omega)]; simp only [updO_some, upd_apply]; rw [if_neg (by omega), if_neg (by omega)]) (he1.trans he) ?_
      have e2 : slotsS (x :: r) t = (t + 1) :: slotsS r (t + 2) := by simp [slotsS, FSrc.sz, hs]
      rw [e2, List.map_cons]
      refine ⟨⟨sv, ?_, ?_⟩, hv⟩
      · rw [hk (t + 1) (by omega)]; simp only [updO_some, upd_apply, if_true]; rfl
      · have : x.subF = F := by simp [FSrc.subF, hs]
        rw [this]; exact hF.ext he (fun _ _ _ h => h) (fun b hb => Nat.le_trans hbs hb)

/-- the slice of the fields that were made -/
theorem bsl_sound {xs : List FSrc} {t base : Nat} {f : Nat → Value} {w : World} {K : Value → World → Prop} {ty : TypeId} (hx : xs ≠ []) (hn : xs.length ≤ 1000) (hbs : base ≤ w.heap.size) (hv : FldsV w base xs ((slotsS xs t).map f))
    (h : ∀ v w', FsAtK w' (base ≤ ·) v (mkFS xs) → Ext none1 w w' → K v w') : stepF P f (.buildSlice E.t_l_spec_Field xs.length (bslOp (slotsS xs t))) ty w K := by
  obtain ⟨h1, h2⟩ := hv.len
  have hx0 : 0 < xs.length := by cases xs with | nil => exact absurd rfl hx | cons => simp
  have hvals : (bslOp (slotsS xs t)).toList.map (fun p => evF f p.2) = (slotsS xs t).map f := by
    simp only [bslOp]
    exact bsl_vals f _ 0
  rw [st_bsl ht.gF (by omega) (by simp only [bslOp]; exact dense_bsl _ 0) (by simp [bslOp, slotsS_len]) hx0 (by omega) (by rw [hvals]; exact allSz_of h2)]
  rw [hvals]
  obtain ⟨rows, hr, hc, h8⟩ := flds_cells hv
  rw [hr] at h1 ⊢
  simp at h1
  have hE := (Ext.refl none1 w).alloc (.cells (flat (rows.map fun c => Value.agg c.toArray)).toArray E.t_spec_Field)
  refine h _ _ ⟨some rows, ⟨w.heap.size, 0, xs.length, by rw [h1], hbs, ⟨by omega, by omega⟩, ?_⟩, hc.ext hE (fun _ _ _ h => h) (fun _ h => h)⟩ hE
  intro i c hi
  refine ⟨h8 c (List.mem_of_getElem? hi), fun j u hj => ?_⟩
  rw [cell_of_blk alloc_new, Nat.zero_add, List.getElem?_toArray]
  have hsz : ∀ v ∈ (rows.map fun c => Value.agg c.toArray), v.cells.size = 8 := by
    intro v hv'
    obtain ⟨c', hc', rfl⟩ := List.mem_map.1 hv'
    simpa [Value.cells] using h8 c' hc'
  have hj8 : j < 8 := by have := (List.getElem?_eq_some_iff.1 hj).1; rw [h8 c (List.mem_of_getElem? hi)] at this; exact this
  rw [flat_get (by omega) hsz, show (i * 8 + j) / 8 = i by omega, show (i * 8 + j) % 8 = j by omega]
  simp [hi, Value.cells, hj]

theorem sub_sound {g nt : Nat} {xs : List FSrc} (hI : FnIs P g nt [.t 0] (irSub E xs)) (hx : xs ≠ []) (hn : xs.length ≤ 1000) (hok : srcOk P xs) (hne : ∀ x ∈ xs, x.ps ≠ []) : SubC P g (mkFS xs) := by
  intro w
  refine hI.call (args := []) (by simp) ?_
  simp only [irSub, cw_seq, cw_reg, regW_plain, stp_assign, thenF_normal, regW_nil]
  refine gen_sound ht (base := w.heap.size) xs 1 _ w _ _ hok hne (Nat.le_refl _) ?_
  intro f' w' hk he hv
  rw [regW_plain, stp_buildSlice]
  refine bsl_sound ht hx hn he.size hv ?_
  intro v w2 hF he2
  simp
  exact ⟨hF, he.trans he2⟩

theorem bld_msg (v : Value) (hv : v.cells = #[v]) (fx : Int) : bld? P E.t_spec_Message [(1, .int .i64 fx), (0, v)] = some (.agg #[v, .int .i64 fx]) := by
  have hz := ht.zM
  have hp := ht.pM
  have hi : (Value.int .i64 fx).cells = #[Value.int .i64 fx] := rfl
  have hc : (Value.agg #[Value.slice none 0 0, .int .i64 0]).cells = #[Value.slice none 0 0, .int .i64 0] := rfl
  simp [bld?, hz, hp, Instr.fill, hi, hc, hv]


theorem msg_sound {g nt : Nat} {xs : List FSrc} {fx : Int} (hI : FnIs P g nt [.c 0 E.t_spec_Message] (irMsg E xs fx)) (hx : xs ≠ []) (hn : xs.length ≤ 1000) (hok : srcOk P xs) (hne : ∀ x ∈ xs, x.ps ≠ []) : MsgC P g (mkFS xs) fx := by
  intro w
  refine hI.call (args := []) (by simp) ?_
  have hzM : zeroOf P E.t_spec_Message = some (.agg #[.slice none 0 0, .int .i64 0]) := ht.zM
  simp only [irMsg, cw_seq, cw_reg, regW_plain, stp_alloc, hzM, optK_some, thenF_normal, regW_nil]
  have hE := (Ext.refl none1 w).alloc (.cells (Value.agg #[.slice none 0 0, .int .i64 0]).cells E.t_spec_Message)
  have hb : (w.alloc (.cells (Value.agg #[.slice none 0 0, .int .i64 0]).cells E.t_spec_Message)).heap[w.heap.size]? = some (.cells #[.slice none 0 0, .int .i64 0] E.t_spec_Message (0, 0)) := alloc_new
  refine gen_sound ht (base := w.heap.size + 1) xs 1 _ _ _ _ hok hne (by simp) ?_
  intro f' w' hk he hv
  rw [regW_plain, stp_buildSlice]
  refine bsl_sound ht hx hn (Nat.le_trans (by simp) he.size) hv ?_
  intro v w2 hF he2
  have hf0 : f' 0 = .pointer (some ⟨w.heap.size, 0, none⟩) := by rw [hk 0 (by omega)]; simp
  have he0 := endS_ge xs 1
  have hv1 : v.cells = #[v] := by
    obtain ⟨ls, ha, _⟩ := hF
    obtain ⟨a, c, rfl, _⟩ := ha.form
    rfl
  have hvo : v.oneCell' = true := by
    obtain ⟨ls, ha, _⟩ := hF
    obtain ⟨a, c, rfl, _⟩ := ha.form
    rfl
  have hb2 := he2.old (he.old hb (fun h => h)) (fun h => h)
  have z0 : (0 = endS xs 1) = False := by simp; omega
  have z1 : ∀ k, (0 = endS xs 1 + k) = False := by intro k; simp; omega
  have hx2 : Ext none1 w w2 := hE.trans (he.trans he2)
  have ho : allOne [v, Value.int .i64 fx] = true := by simp only [allOne, hvo, Bool.true_and]; rfl
  have hov : over #[Value.slice none 0 0, .int .i64 0] 0 [v, Value.int .i64 fx] = #[v, .int .i64 fx] := by simp [over]
  simp [bld_msg ht v hv1 fx, hf0, z0, z1, store_agg ht.kM, ho, putK_blk hb2, hov]
  have hb3 : (w2.setBlk w.heap.size (.cells #[v, .int .i64 fx] E.t_spec_Message (0, 0))).heap[w.heap.size]? = some (.cells #[v, .int .i64 fx] E.t_spec_Message (0, 0)) := setBlk_same hb2
  have hx3 : Ext none1 w (w2.setBlk w.heap.size (.cells #[v, .int .i64 fx] E.t_spec_Message (0, 0))) := hx2.setBlk (.inl (Nat.le_refl _)) _
  have lT := cellsFrom_row hb3
  simp at lT
  simp [ld_agg ht.kM, lT]
  exact ⟨(hF.ext (K' := All) ((Ext.refl (fun b => b = w.heap.size) w2).setBlk (.inr rfl) _) (fun b _ hb h => by omega) (fun _ _ => trivial)).all, hx3⟩
end
end Go.Kg

set_option linter.unusedSimpArgs false
set_option linter.unusedVariables false
namespace Go.Kg
open Go

/-! ## What the reference writes is what the code writes of some value -/
theorem uvS_uvE : ∀ (j n : Nat), n < 128 ^ (j + 1) → uvS n = uvE j n
  | 0, n, h => by rw [uvS_eq, if_neg (by omega)]; rfl
  | j + 1, n, h => by
    rw [uvS_eq]
    unfold uvE
    by_cases hn : n < 128
    · rw [if_neg (by omega), if_pos hn]
    · rw [if_pos (by omega), if_neg hn, uvS_uvE j (n / 128) (by rw [Nat.pow_succ] at h; exact Nat.div_lt_of_lt_mul (by omega))]
theorem uvS_out {n : Nat} (h : n < 4294967296) : uvS n = uvOut (n % 4294967296) := by
  rw [Nat.mod_eq_of_lt h]; exact uvS_uvE 4 n (by omega)

theorem bval_congr {a b : Int} (h : a % 256 = b % 256) : bval a = bval b := by simp only [bval, h]

theorem fixE_num : ∀ (k : Nat) (n : Int) (m : Nat), (∃ q : Int, n = m + q * (256 ^ k : Nat)) → fixE k n = bigE k m
  | 0, _, _, _ => rfl
  | k + 1, n, m, ⟨q, hq⟩ => by
    have hp : (2 : Int) ^ (8 * k) = ((256 ^ k : Nat) : Int) := by
      rw [Int.pow_mul]; simp
    have hpos : (0 : Int) < ((256 ^ k : Nat) : Int) := by
      have : 0 < 256 ^ k := Nat.pow_pos (by omega)
      omega
    simp only [fixE, bigE]
    have hq' : n = m + (q * 256) * ((256 ^ k : Nat) : Int) := by
      rw [hq, Nat.pow_succ]; simp only [Int.natCast_mul]; rw [Int.mul_assoc, Int.mul_comm 256]; rfl
    rw [fixE_num k n m ⟨q * 256, hq'⟩]
    congr 1
    rw [hp, Int.fdiv_eq_ediv_of_nonneg _ (Int.le_of_lt hpos), hq', Int.add_mul_ediv_right _ _ (Int.ne_of_gt hpos)]
    have : bval ((m : Int) / ((256 ^ k : Nat) : Int) + q * 256) = bval ((m : Int) / ((256 ^ k : Nat) : Int)) := bval_congr (by omega)
    rw [this]
    exact bval_nat (by simp)
theorem fixE_eq (k : Nat) (n : Int) : fixE k n = num k n := by
  have hpos : (0 : Int) < ((256 ^ k : Nat) : Int) := by
    have : 0 < 256 ^ k := Nat.pow_pos (by omega)
    omega
  refine fixE_num k n _ ⟨n / ((256 ^ k : Nat) : Int), ?_⟩
  have h1 := Int.emod_nonneg n (Int.ne_of_gt hpos)
  rw [Int.toNat_of_nonneg h1, Int.mul_comm]
  exact (Int.emod_add_mul_ediv _ _).symm
theorem num_nat (k n : Nat) : num k (n : Int) = bigE k (n % 256 ^ k) := by
  simp only [num]
  congr 1
theorem flat_congr {α : Type} {f g : α → List UInt8} : ∀ (l : List α), (∀ x ∈ l, f x = g x) → l.flatMap f = l.flatMap g
  | [], _ => rfl
  | x :: l, h => by
    rw [List.flatMap_cons, List.flatMap_cons, h x List.mem_cons_self, flat_congr l (fun y hy => h y (List.mem_cons_of_mem _ hy))]
theorem num_congr {k : Nat} {a b : Int} (h : a % (256 ^ k : Nat) = b % (256 ^ k : Nat)) : num k a = num k b := by simp only [num, h]

/-- the tags of a tree have numbers of 32 bits -/
inductive Tr.Ok : Tr → Prop where
  | mk {n : Int} {s : List UInt8} {nul : Bool} {l : List Tr} {u : List (Nat × List UInt8)} (hu : ∀ x ∈ u, x.1 < 4294967296) (hl : ∀ t ∈ l, Tr.Ok t) : Tr.Ok (.mk n s nul l u)
theorem Tr.Ok.l {t : Tr} (h : t.Ok) : ∀ x ∈ t.l, x.Ok := by cases h with | mk _ hl => exact hl
theorem Tr.Ok.u {t : Tr} (h : t.Ok) : ∀ x ∈ t.u, x.1 < 4294967296 := by cases h with | mk hu _ => exact hu
theorem Tr.Ok.none : Tr.none.Ok := .mk (by simp) (by simp)
theorem Tr.Ok.at {t : Tr} (h : t.Ok) (i : Nat) : (t.at i).Ok := by
  unfold Tr.at
  cases hi : t.l[i]? with
  | none => exact Tr.Ok.none
  | some x => exact h.l x (List.mem_of_getElem? hi)
theorem TreeAt.ok {w : World} : ∀ {t : Tr} {cs : List Value}, TreeAt w cs t → t.Ok := by
  intro t cs h
  induction h with
  | mk hn hs ha hl he hu ih =>
    rename_i n s nul l u sv lv uv ls
    refine .mk ?_ ?_
    · obtain ⟨ls', _, hlen, hx⟩ := hu
      intro x hxm
      obtain ⟨i, hi⟩ := List.getElem?_of_mem hxm
      have hlt := (List.getElem?_eq_some_iff.1 hi).1
      obtain ⟨c, hc⟩ : ∃ c, (ls'.getD [])[i]? = some c := ⟨_, List.getElem?_eq_getElem (by omega)⟩
      exact (hx i c x hc hi).choose_spec.2.1
    · intro x hxm
      obtain ⟨i, hi⟩ := List.getElem?_of_mem hxm
      have hlt := (List.getElem?_eq_some_iff.1 hi).1
      obtain ⟨c, hc⟩ : ∃ c, (ls.getD [])[i]? = some c := ⟨_, List.getElem?_eq_getElem (by omega)⟩
      exact ih i c x hc hi

/-! ### One thing -/
def primK : Prim → Int
  | .bool => 0 | .i8 => 1 | .i16 => 2 | .i32 => 3 | .i64 => 4 | .u16 => 5 | .uuid => 7 | .str | .nstr => 8 | .bytes | .nbytes => 9
def Prim.nulB : Prim → Bool
  | .nstr | .nbytes => true
  | _ => false
def Prim.txt : Prim → Bool
  | .str | .bytes => true
  | _ => false

theorem valS_prim (p : Prim) (part : Tr → List UInt8) (nul fl : Bool) (t : Tr) (h : p.txt = true → nul = false) : ∃ x : p.T, p.wr fl x = valS (primK p) part nul fl t ∧ p.wf x := by
  cases p with
  | bool =>
    refine ⟨decide (t.n % 2 = 1), ?_, trivial⟩
    simp only [Prim.wr, valS, primK]
    rcases Int.emod_two_eq t.n with h | h <;> simp [h, bval]
  | i8 =>
    refine ⟨IntKind.i8.wrap t.n, ?_, ?_⟩
    · simp only [Prim.wr, valS, primK]
      simp [widthS, fixE]
      exact bval_congr (by simp [IntKind.wrap, IntKind.signed, IntKind.bits]; omega)
    · show -128 ≤ IntKind.i8.wrap t.n ∧ IntKind.i8.wrap t.n < 128
      simp [IntKind.wrap, IntKind.signed, IntKind.bits]; omega
  | i16 =>
    refine ⟨IntKind.i16.wrap t.n, ?_, ?_⟩
    · simp only [Prim.wr, valS, primK]
      simp [widthS, fixE_eq]
      exact num_congr (by simp [IntKind.wrap, IntKind.signed, IntKind.bits]; omega)
    · show -32768 ≤ IntKind.i16.wrap t.n ∧ IntKind.i16.wrap t.n < 32768
      simp [IntKind.wrap, IntKind.signed, IntKind.bits]; omega
  | u16 =>
    refine ⟨t.n % 65536, ?_, ?_⟩
    · simp only [Prim.wr, valS, primK]
      simp [widthS, fixE_eq]
      exact num_congr (by show t.n % 65536 % ((256 ^ 2 : Nat) : Int) = t.n % ((256 ^ 2 : Nat) : Int); simp; try omega)
    · show 0 ≤ t.n % 65536 ∧ t.n % 65536 < 65536
      omega
  | i32 =>
    refine ⟨IntKind.i32.wrap t.n, ?_, ?_⟩
    · simp only [Prim.wr, valS, primK]
      simp [widthS, fixE_eq]
      exact num_congr (by simp [IntKind.wrap, IntKind.signed, IntKind.bits]; omega)
    · show -2147483648 ≤ IntKind.i32.wrap t.n ∧ IntKind.i32.wrap t.n < 2147483648
      simp [IntKind.wrap, IntKind.signed, IntKind.bits]; omega
  | i64 =>
    refine ⟨IntKind.i64.wrap t.n, ?_, ?_⟩
    · simp only [Prim.wr, valS, primK]
      simp [widthS, fixE_eq]
      exact num_congr (by simp [IntKind.wrap, IntKind.signed, IntKind.bits]; omega)
    · show -9223372036854775808 ≤ IntKind.i64.wrap t.n ∧ IntKind.i64.wrap t.n < 9223372036854775808
      simp [IntKind.wrap, IntKind.signed, IntKind.bits]; omega
  | uuid =>
    refine ⟨(t.s ++ List.replicate 16 0).take 16, ?_, ?_⟩
    · simp only [Prim.wr, valS, primK]
      simp
    · show ((t.s ++ List.replicate 16 0).take 16).length = 16
      simp
  | str =>
    have hn := h rfl
    subst hn
    have hl : (t.s.take 32767).length ≤ 32767 := by simp; omega
    refine ⟨t.s.take 32767, ?_, hl⟩
    generalize hs : t.s.take 32767 = s at hl
    simp only [Prim.wr, valS, primK]
    simp [countedS, hs]
    cases fl
    · simp [wStr, fixE_eq, num_nat]
    · simp [wCStr]; rw [uvS_out (by omega)]
  | bytes =>
    have hn := h rfl
    subst hn
    have hl : (t.s.take 32767).length ≤ 32767 := by simp; omega
    refine ⟨t.s.take 32767, ?_, hl⟩
    generalize hs : t.s.take 32767 = s at hl
    simp only [Prim.wr, valS, primK]
    simp [countedS, hs]
    cases fl
    · simp [wBytes, fixE_eq, num_nat]
    · simp [wCBytes]; rw [uvS_out (by omega)]
  | nstr =>
    cases nul
    · have hl : (t.s.take 32767).length ≤ 32767 := by simp; omega
      refine ⟨some (t.s.take 32767), ?_, hl⟩
      generalize hs : t.s.take 32767 = s at hl
      simp only [Prim.wr, valS, primK]
      simp [countedS, hs]
      cases fl
      · simp [wNStr, wStr, fixE_eq, num_nat]
      · simp [wCNStr, wCStr]; rw [uvS_out (by omega)]
    · refine ⟨none, ?_, by show ([] : List UInt8).length ≤ 32767; simp⟩
      simp only [Prim.wr, valS, primK]
      cases fl <;> simp [countedS, wNStr, wCNStr, wNBytes, wCNBytes] <;> decide
  | nbytes =>
    cases nul
    · have hl : (t.s.take 32767).length ≤ 32767 := by simp; omega
      refine ⟨some (t.s.take 32767), ?_, hl⟩
      generalize hs : t.s.take 32767 = s at hl
      simp only [Prim.wr, valS, primK]
      simp [countedS, hs]
      cases fl
      · simp [wNBytes, wBytes, fixE_eq, num_nat]
      · simp [wCNBytes, wCBytes]; rw [uvS_out (by omega)]
    · refine ⟨none, ?_, by show ([] : List UInt8).length ≤ 32767; simp⟩
      simp only [Prim.wr, valS, primK]
      cases fl <;> simp [countedS, wNStr, wCNStr, wNBytes, wCNBytes] <;> decide

/-! ### Lists -/
theorem pick_all {α β : Type} {f : α → List UInt8} {g : β → List UInt8} {W : β → Prop} : ∀ (l : List α), (∀ t ∈ l, ∃ x : β, g x = f t ∧ W x) → ∃ xs : List β, xs.flatMap g = l.flatMap f ∧ xs.length = l.length ∧ ∀ x ∈ xs, W x
  | [], _ => ⟨[], rfl, rfl, by simp⟩
  | t :: l, h => by
    obtain ⟨x, h1, h2⟩ := h t List.mem_cons_self
    obtain ⟨xs, a1, a2, a3⟩ := pick_all l (fun t ht => h t (List.mem_cons_of_mem _ ht))
    refine ⟨x :: xs, by simp [h1, a1], by simp [a2], ?_⟩
    intro y hy
    rcases List.mem_cons.1 hy with rfl | hy
    · exact h2
    · exact a3 y hy

theorem list_conv {α : Type} {g : α → List UInt8} {W : α → Prop} {f : Tr → List UInt8} (nulO : Option Nat) (ver : Int) (nul fl : Bool) (t : Tr) (hn : nulO = none → nul = false) (hm : ∀ m : Nat, nulO = some m → nul = true → (m : Int) ≤ ver)
    (h : ∀ x ∈ t.l.take 32767, ∃ y : α, g y = f x ∧ W y) :
    ∃ a : Option (List α), lenW nulO fl (a.getD []).length a.isNone ++ (a.getD []).flatMap g = countedS fl nul (if nul then [] else t.l.take 32767).length 4 ++ (if nul then [] else t.l.take 32767).flatMap f ∧ arrWf nulO ver a ∧ ∀ x ∈ a.getD [], W x := by
  cases nul
  · obtain ⟨xs, h1, h2, h3⟩ := pick_all _ h
    have hl : (t.l.take 32767).length ≤ 32767 := by simp; omega
    refine ⟨some xs, ?_, ⟨by simp [h2]; omega, by simp⟩, by simpa using h3⟩
    simp only [Option.getD_some, h1, h2, Option.isNone_some, Bool.false_eq_true, if_false]
    congr 1
    generalize (t.l.take 32767).length = n at hl
    cases nulO <;> cases fl <;> simp [lenW, countedS, wLen, wCLen, wNLen, wCNLen, fixE_eq, num_nat]
    all_goals rw [uvS_out (by omega)]
  · cases nulO with
    | none => cases hn rfl
    | some m =>
      refine ⟨none, ?_, ⟨by simp, fun m' hm' hv => ?_⟩, by simp⟩
      · cases fl <;> simp [lenW, countedS, wNLen, wCNLen] <;> decide
      · cases hm'
        have := hm m rfl rfl
        omega

/-! ### Tags -/
theorem insU_memT {least : Nat} {x y : Nat × List UInt8} : ∀ {l : TagL}, y ∈ insU least x l → y = x ∨ y ∈ l
  | [], h => by
    unfold insU at h; split at h
    · exact .inr h
    · simp at h; exact .inl h
  | z :: l, h => by
    unfold insU at h; split at h
    · exact .inr h
    · simp only at h
      split at h
      · rcases List.mem_cons.1 h with h | h
        · exact .inr (h ▸ List.mem_cons_self)
        · rcases insU_memT h with h | h
          · exact .inl h
          · exact .inr (List.mem_cons_of_mem _ h)
      · split at h
        · exact .inr h
        · rcases List.mem_cons.1 h with h | h
          · exact .inl h
          · exact .inr h
theorem insU_sortedT {least : Nat} {x : Nat × List UInt8} : ∀ {l : TagL}, l.Pairwise (fun a b => a.1 < b.1) → (insU least x l).Pairwise (fun a b => a.1 < b.1)
  | [], _ => by unfold insU; split <;> simp
  | z :: l, h => by
    obtain ⟨h1, h2⟩ := List.pairwise_cons.1 h
    unfold insU; split
    · exact h
    · simp only
      split
      · rename_i hlt
        refine List.pairwise_cons.2 ⟨fun y hy => ?_, insU_sortedT h2⟩
        rcases insU_memT hy with rfl | hy
        · exact hlt
        · exact h1 y hy
      · split
        · exact h
        · refine List.pairwise_cons.2 ⟨fun y hy => ?_, h⟩
          rcases List.mem_cons.1 hy with rfl | hy
          · omega
          · have := h1 y hy; omega
theorem insU_lenT {least : Nat} {x : Nat × List UInt8} : ∀ {l : TagL}, (insU least x l).length ≤ l.length + 1
  | [] => by unfold insU; split <;> simp
  | z :: l => by
    unfold insU; split
    · simp
    · simp only
      split
      · have := @insU_lenT least x l; simp; omega
      · split <;> simp
theorem unkS_spec (least : Nat) (u : TagL) : (unkS least u).Pairwise (fun a b => a.1 < b.1) ∧ (unkS least u).length ≤ 32767 ∧ ∀ x ∈ unkS least u, x ∈ u := by
  have : ∀ (l out : TagL), out.Pairwise (fun a b => a.1 < b.1) → (l.foldl (fun out x => insU least x out) out).Pairwise (fun a b => a.1 < b.1) ∧ (l.foldl (fun out x => insU least x out) out).length ≤ out.length + l.length ∧ ∀ x ∈ l.foldl (fun out x => insU least x out) out, x ∈ out ∨ x ∈ l := by
    intro l
    induction l with
    | nil => intro out h; exact ⟨h, by simp, fun x hx => .inl hx⟩
    | cons y l ih =>
      intro out h
      obtain ⟨a1, a2, a3⟩ := ih (insU least y out) (insU_sortedT h)
      refine ⟨a1, ?_, fun x hx => ?_⟩
      · have := @insU_lenT least y out
        simp only [List.foldl_cons, List.length_cons]; omega
      · rcases a3 x hx with h | h
        · rcases insU_memT h with h | h
          · exact .inr (h ▸ List.mem_cons_self)
          · exact .inl h
        · exact .inr (List.mem_cons_of_mem _ h)
  obtain ⟨h1, h2, h3⟩ := this (u.take 32767) [] List.Pairwise.nil
  refine ⟨h1, ?_, fun x hx => ?_⟩
  · have : (u.take 32767).length ≤ 32767 := by simp; omega
    simp at h2
    show ((u.take 32767).foldl _ []).length ≤ _
    omega
  · rcases h3 x hx with h | h
    · simp at h
    · exact List.mem_of_mem_take h

theorem tags_conv (least : Nat) (u : TagL) (hu : ∀ x ∈ u, x.1 < 4294967296) : ∃ l : TagL, tagsOk l ∧ uvOut (l.length % 4294967296) ++ tagsOut l = uvS ((unkS least u).map fun x => (x.1, x.2.take 32767)).length ++ ((unkS least u).map fun x => (x.1, x.2.take 32767)).flatMap fun x => tagS x.1 x.2 := by
  obtain ⟨h1, h2, h3⟩ := unkS_spec least u
  generalize unkS least u = q at h1 h2 h3
  refine ⟨q.map fun x => (x.1, x.2.take 32767), ⟨by simp; omega, ?_, ?_⟩, ?_⟩
  · rw [List.map_map]
    show (q.map (·.1)).Nodup
    rw [List.nodup_iff_pairwise_ne, List.pairwise_map]
    exact h1.imp fun h => by omega
  · intro x hx
    obtain ⟨y, hy, rfl⟩ := List.mem_map.1 hx
    exact ⟨hu y (h3 y hy), by simp; omega⟩
  · have hs : sortTags (q.map fun x => (x.1, x.2.take 32767)) = q.map fun x => (x.1, x.2.take 32767) := by
      refine sortTags_of_sorted _ ?_
      rw [List.pairwise_map]
      exact h1.imp fun h => by simp only; omega
    simp only [tagsOut, hs]
    rw [uvS_out (by simp; omega)]
    congr 1
    refine flat_congr _ fun x hx => ?_
    obtain ⟨y, hy, rfl⟩ := List.mem_map.1 hx
    have hy1 := hu y (h3 y hy)
    simp only [tagS]
    rw [uvS_out hy1, uvS_out (by simp; omega), Nat.mod_eq_of_lt hy1, List.append_assoc]
end Go.Kg

set_option linter.unusedSimpArgs false
set_option linter.unusedVariables false
namespace Go.Kg
open Go

/-! ## The reference's fields against the schema -/
/-- where a field stands, it may not be null -/
def nnAt (M : Nat) (g : Gd) (h : FH) : Bool := (List.range (M + 1)).all fun v => !g.on v || !(decide (0 ≤ h.null) && decide (h.null ≤ (v : Int)))
/-- where it may be null, the list's code says so -/
def nlAt (M m : Nat) (g : Gd) (h : FH) : Bool := (List.range (M + 1)).all fun v => !g.on v || !(decide (0 ≤ h.null) && decide (h.null ≤ (v : Int))) || decide (m ≤ v)
def nulOk (M : Nat) (g : Gd) (h : FH) : Option Nat → Bool
  | none => nnAt M g h
  | some m => nlAt M m g h
def onAt (M : Nat) (g : Gd) (h : FH) : Bool := (List.range (M + 1)).all fun v => g.on v == h.has v

def fitS (M : Nat) (flx : Nat → Bool) : FS → Sch → Bool
  | .nil, .fin => (List.range (M + 1)).all fun v => !flx v
  | .nil, .tags _ _ => true
  | .cons h _ rest, .prim g _ _ p _ _ r => decide (h.tag < 0) && onAt M g h && decide (h.kind = primK p) && (!p.txt || nnAt M g h) && fitS M flx rest r
  | .cons h _ rest, .arrP g _ _ _ nul p r => decide (h.tag < 0) && onAt M g h && decide (h.kind = 11) && decide (h.of_ = primK p) && nulOk M g h nul && fitS M flx rest r
  | .cons h sub rest, .arrS g _ _ _ nul _ _ _ _ e r => decide (h.tag < 0) && onAt M g h && decide (h.kind = 11) && decide (h.of_ = 10) && nulOk M g h nul && fitS M flx sub e && fitS M flx rest r
  | _, _ => false

theorem onAt_of {M : Nat} {g : Gd} {h : FH} (hb : onAt M g h = true) {v : Nat} (hv : v ≤ M) : g.on v = h.has v := by
  have := List.all_eq_true.1 hb v (by simp; omega)
  simpa using this
theorem nnAt_of {M : Nat} {g : Gd} {h : FH} (hb : nnAt M g h = true) {v : Nat} (hv : v ≤ M) (ho : g.on v = true) (b : Bool) : h.isNull v b = false := by
  have := List.all_eq_true.1 hb v (by simp; omega)
  rw [ho] at this
  simp only [Bool.not_true, Bool.false_or, Bool.not_eq_true'] at this
  unfold FH.isNull
  rw [Bool.and_assoc, this, Bool.and_false]
theorem nlAt_of {M m : Nat} {g : Gd} {h : FH} (hb : nlAt M m g h = true) {v : Nat} (hv : v ≤ M) (ho : g.on v = true) {b : Bool} (hn : h.isNull v b = true) : (m : Int) ≤ v := by
  have := List.all_eq_true.1 hb v (by simp; omega)
  unfold FH.isNull at hn
  rw [Bool.and_assoc, Bool.and_eq_true] at hn
  rw [ho, hn.2] at this
  simp at this
  omega

/-- the fields' texts from place n on -/
def plainS (F : FS) (ver : Int) (fl : Bool) (n : Nat) (t : Tr) : List UInt8 :=
  ((F.list ver fl).zipIdx n).flatMap fun (x, i) => if x.h.tag < 0 ∧ x.h.has ver = true then fieldS x ver fl (t.at i) else []
def tailS (fl : Bool) (t : Tr) : List UInt8 :=
  if fl then uvS ((unkS 0 t.u).map fun x => (x.1, x.2.take 32767)).length ++ ((unkS 0 t.u).map fun x => (x.1, x.2.take 32767)).flatMap fun x => tagS x.1 x.2 else []

def noTag : FS → Bool
  | .nil => true
  | .cons h _ rest => decide (h.tag < 0) && noTag rest
theorem fitS_noTag {M : Nat} {flx : Nat → Bool} : ∀ {F : FS} {S : Sch}, fitS M flx F S = true → noTag F = true
  | .nil, _, _ => rfl
  | .cons h sub rest, .fin, hb => by simp [fitS] at hb
  | .cons h sub rest, .tags _ _, hb => by simp [fitS] at hb
  | .cons h sub rest, .prim .., hb => by
    simp only [fitS, Bool.and_eq_true] at hb
    simp only [noTag, hb.1.1.1.1, fitS_noTag hb.2, Bool.and_self]
  | .cons h sub rest, .arrP .., hb => by
    simp only [fitS, Bool.and_eq_true] at hb
    simp only [noTag, hb.1.1.1.1.1, fitS_noTag hb.2, Bool.and_self]
  | .cons h sub rest, .arrS .., hb => by
    simp only [fitS, Bool.and_eq_true] at hb
    simp only [noTag, hb.1.1.1.1.1.1, fitS_noTag hb.2, Bool.and_self]

theorem knownL_none : ∀ (l : List FH) (n : Nat), (∀ h ∈ l, h.tag < 0) → l.foldl (fun n h => if 0 ≤ h.tag then max n (h.tag.toNat + 1) else n) n = n
  | [], _, _ => rfl
  | h :: l, n, hh => by
    have := hh h List.mem_cons_self
    simp only [List.foldl_cons]
    rw [if_neg (by omega)]
    exact knownL_none l n (fun x hx => hh x (List.mem_cons_of_mem _ hx))
theorem noTag_heads (ver : Int) (fl : Bool) : ∀ {F : FS}, noTag F = true → ∀ h ∈ (F.list ver fl).map (·.h), h.tag < 0
  | .nil, _, h, hh => by simp [FS.list] at hh
  | .cons g sub rest, hb, h, hh => by
    simp only [noTag, Bool.and_eq_true, decide_eq_true_eq] at hb
    simp only [FS.list, List.map_cons, List.mem_cons] at hh
    rcases hh with rfl | hh
    · exact hb.1
    · exact noTag_heads ver fl hb.2 h hh

theorem partS_plain {F : FS} (h : noTag F = true) (ver : Int) (fl : Bool) (t : Tr) : partS F ver fl t = plainS F ver fl 0 t ++ tailS fl t := by
  have hk : knownL ((F.list ver fl).map (·.h)) = 0 := knownL_none _ 0 (noTag_heads ver fl h)
  unfold partS partL plainS tailS
  rw [hk]
  cases fl
  · simp
  · simp

/-- What the reference writes of a tree is what the code writes of some value that may be. -/
theorem conv_sch {M : Nat} {flx : Nat → Bool} {v : Nat} (hv : v ≤ M) : ∀ (S : Sch) (F : FS) (n : Nat) (t : Tr), fitS M flx F S = true → t.Ok → ∃ x : S.T, S.wr v (flx v) x = plainS F v (flx v) n t ++ tailS (flx v) t ∧ S.wf v (flx v) x := by
  intro S
  induction S with
  | fin =>
    intro F n t hb ht
    cases F with
    | cons h sub rest => simp [fitS] at hb
    | nil =>
      have := List.all_eq_true.1 hb v (by simp; omega)
      have hf : flx v = false := by simpa using this
      exact ⟨(), by simp [Sch.wr, plainS, tailS, hf, FS.list], trivial⟩
  | tags k o =>
    intro F n t hb ht
    cases F with
    | cons h sub rest => simp [fitS] at hb
    | nil =>
      obtain ⟨l, h1, h2⟩ := tags_conv 0 t.u ht.u
      refine ⟨l, ?_, fun _ => h1⟩
      simp only [Sch.wr, plainS, tailS, FS.list, List.zipIdx_nil, List.flatMap_nil, List.nil_append]
      cases flx v
      · rfl
      · simp only [if_true]; exact h2
  | prim g k o p en d r ih =>
    intro F n t hb ht
    cases F with
    | nil => simp [fitS] at hb
    | cons h sub rest =>
      simp only [fitS, Bool.and_eq_true, decide_eq_true_eq, Bool.or_eq_true, Bool.not_eq_true'] at hb
      obtain ⟨⟨⟨⟨htag, hon⟩, hkind⟩, hnul⟩, hrest⟩ := hb
      obtain ⟨y, hy1, hy2⟩ := ih rest (n + 1) t hrest ht
      have hgo := onAt_of hon hv
      have hps : plainS (.cons h sub rest) v (flx v) n t = (if h.tag < 0 ∧ h.has v = true then fieldS ⟨h, partL (sub.list v (flx v)) v (flx v), usualL (sub.list v (flx v)), knownL ((sub.list v (flx v)).map (·.h))⟩ v (flx v) (t.at n) else []) ++ plainS rest v (flx v) (n + 1) t := by
        simp [plainS, FS.list, List.zipIdx_cons]
      rw [hps, ← hgo]
      cases hg : g.on v
      · refine ⟨(p.dfl 0, y), ?_, fun h => (by rw [hg] at h; cases h), hy2⟩
        simp [Sch.wr, hg, hy1]
      · have hfk : fieldS ⟨h, partL (sub.list v (flx v)) v (flx v), usualL (sub.list v (flx v)), knownL ((sub.list v (flx v)).map (·.h))⟩ v (flx v) (t.at n) = valS (primK p) (partL (sub.list v (flx v)) v (flx v)) (h.isNull v (t.at n).nul) (flx v) (t.at n) := by
          have h11 : ¬ (primK p = 11) := by cases p <;> simp [primK]
          have h10 : ¬ (primK p = 10) := by cases p <;> simp [primK]
          simp only [fieldS, hkind, if_neg h11, h10, false_and, if_false]
        obtain ⟨x, hx1, hx2⟩ := valS_prim p (partL (sub.list v (flx v)) v (flx v)) (h.isNull v (t.at n).nul) (flx v) (t.at n) (fun htx => by
          rcases hnul with h' | h'
          · rw [htx] at h'; cases h'
          · exact nnAt_of h' hv hg _)
        refine ⟨(x, y), ?_, fun _ => hx2, hy2⟩
        simp [Sch.wr, hg, hy1, htag, hfk, hx1]
  | arrP g k o sT nul p r ih =>
    intro F n t hb ht
    cases F with
    | nil => simp [fitS] at hb
    | cons h sub rest =>
      simp only [fitS, Bool.and_eq_true, decide_eq_true_eq] at hb
      obtain ⟨⟨⟨⟨⟨htag, hon⟩, hkind⟩, hof⟩, hnul⟩, hrest⟩ := hb
      obtain ⟨y, hy1, hy2⟩ := ih rest (n + 1) t hrest ht
      have hgo := onAt_of hon hv
      have hps : plainS (.cons h sub rest) v (flx v) n t = (if h.tag < 0 ∧ h.has v = true then fieldS ⟨h, partL (sub.list v (flx v)) v (flx v), usualL (sub.list v (flx v)), knownL ((sub.list v (flx v)).map (·.h))⟩ v (flx v) (t.at n) else []) ++ plainS rest v (flx v) (n + 1) t := by
        simp [plainS, FS.list, List.zipIdx_cons]
      rw [hps, ← hgo]
      cases hg : g.on v
      · refine ⟨(none, y), ?_, fun h => (by rw [hg] at h; cases h), hy2⟩
        simp [Sch.wr, hg, hy1]
      · obtain ⟨a, ha1, ha2, ha3⟩ := list_conv (g := p.wr (flx v)) (W := p.wf) (f := valS (primK p) (partL (sub.list v (flx v)) v (flx v)) false (flx v)) nul v (h.isNull v (t.at n).nul) (flx v) (t.at n)
          (fun hn => by subst hn; exact nnAt_of hnul hv hg _) (fun m hm hnn => by subst hm; exact nlAt_of hnul hv hg hnn) (fun x _ => valS_prim p _ false (flx v) x (fun _ => rfl))
        refine ⟨(a, y), ?_, fun _ => ⟨ha2, ha3⟩, hy2⟩
        simp only [Sch.wr, hg, if_true, hy1, htag, true_and, fieldS, hkind, hof, ha1, List.append_assoc]
  | arrS g k o sT nul T PT sz df e r ihe ih =>
    intro F n t hb ht
    cases F with
    | nil => simp [fitS] at hb
    | cons h sub rest =>
      simp only [fitS, Bool.and_eq_true, decide_eq_true_eq] at hb
      obtain ⟨⟨⟨⟨⟨⟨htag, hon⟩, hkind⟩, hof⟩, hnul⟩, hsub⟩, hrest⟩ := hb
      obtain ⟨y, hy1, hy2⟩ := ih rest (n + 1) t hrest ht
      have hgo := onAt_of hon hv
      have hps : plainS (.cons h sub rest) v (flx v) n t = (if h.tag < 0 ∧ h.has v = true then fieldS ⟨h, partL (sub.list v (flx v)) v (flx v), usualL (sub.list v (flx v)), knownL ((sub.list v (flx v)).map (·.h))⟩ v (flx v) (t.at n) else []) ++ plainS rest v (flx v) (n + 1) t := by
        simp [plainS, FS.list, List.zipIdx_cons]
      rw [hps, ← hgo]
      cases hg : g.on v
      · refine ⟨(none, y), ?_, fun h => (by rw [hg] at h; cases h), hy2⟩
        simp [Sch.wr, hg, hy1]
      · obtain ⟨a, ha1, ha2, ha3⟩ := list_conv (g := e.wr v (flx v)) (W := e.wf v (flx v)) (f := valS 10 (partL (sub.list v (flx v)) v (flx v)) false (flx v)) nul v (h.isNull v (t.at n).nul) (flx v) (t.at n)
          (fun hn => by subst hn; exact nnAt_of hnul hv hg _) (fun m hm hnn => by subst hm; exact nlAt_of hnul hv hg hnn) (fun x hx => by
            obtain ⟨z, hz1, hz2⟩ := ihe sub 0 x hsub ((ht.at n).l x (List.mem_of_mem_take hx))
            refine ⟨z, ?_, hz2⟩
            rw [hz1, ← partS_plain (fitS_noTag hsub)]
            rfl)
        refine ⟨(a, y), ?_, fun _ => ⟨ha2, ha3⟩, hy2⟩
        simp only [Sch.wr, hg, if_true, hy1, htag, true_and, fieldS, hkind, hof, ha1, List.append_assoc]

theorem conv_all {M : Nat} {flx : Nat → Bool} {v : Nat} (hv : v ≤ M) {S : Sch} {F : FS} (hb : fitS M flx F S = true) {t : Tr} (ht : t.Ok) : ∃ x : S.T, S.wr v (flx v) x = partS F v (flx v) t ∧ S.wf v (flx v) x := by
  obtain ⟨x, h1, h2⟩ := conv_sch (flx := flx) hv S F 0 t hb ht
  exact ⟨x, by rw [h1, partS_plain (fitS_noTag hb)], h2⟩

/-! ## How much is written at most -/
def Sch.cap : Sch → Nat
  | .fin => 0
  | .tags _ _ => 5 + 40000 * 32777
  | .prim _ _ _ _ _ _ r => 32772 + r.cap
  | .arrP _ _ _ _ _ _ r => 5 + 32767 * 32772 + r.cap
  | .arrS _ _ _ _ _ _ _ _ _ e r => 5 + 32767 * e.cap + r.cap

theorem flat_cap {α : Type} {g : α → List UInt8} {n : Nat} : ∀ l : List α, (∀ x ∈ l, (g x).length ≤ n) → (l.flatMap g).length ≤ l.length * n
  | [], _ => by simp
  | x :: l, h => by
    have h1 := h x List.mem_cons_self
    have h2 := flat_cap l (fun y hy => h y (List.mem_cons_of_mem _ hy))
    simp only [List.flatMap_cons, List.length_append, List.length_cons, Nat.add_mul, Nat.one_mul]; omega
theorem uvOut_len5 (n : Nat) : (uvOut n).length ≤ 5 := @uvE_len 4 n
theorem str_cap (fl : Bool) (x : List UInt8) (h : x.length ≤ 32767) : (if fl then wCStr x else wStr x).length ≤ 32772 := by
  have := uvOut_len5 ((x.length + 1) % 4294967296)
  cases fl <;> simp [wCStr, wStr] <;> omega
theorem bytes_cap (fl : Bool) (x : List UInt8) (h : x.length ≤ 32767) : (if fl then wCBytes x else wBytes x).length ≤ 32772 := by
  have := uvOut_len5 ((x.length + 1) % 4294967296)
  cases fl <;> simp [wCBytes, wBytes] <;> omega
theorem prim_cap (p : Prim) (fl : Bool) (x : p.T) (h : p.wf x) : (p.wr fl x).length ≤ 32772 := by
  cases p with
  | bool => simp [Prim.wr]
  | i8 => simp [Prim.wr]
  | i16 => simp [Prim.wr, num]
  | u16 => simp [Prim.wr, num]
  | i32 => simp [Prim.wr, num]
  | i64 => simp [Prim.wr, num]
  | uuid => have hx : (x : List UInt8).length = 16 := h; simp only [Prim.wr]; rw [show (x : List UInt8).length = 16 from hx]; omega
  | str => exact str_cap fl x h
  | bytes => exact bytes_cap fl x h
  | nstr =>
    cases x with
    | none => cases fl <;> simp [Prim.wr, wNStr, wCNStr] <;> (have := uvOut_len5 0; omega)
    | some x =>
      have := str_cap fl x h
      cases fl <;> simpa [Prim.wr, wNStr, wCNStr] using this
  | nbytes =>
    cases x with
    | none => cases fl <;> simp [Prim.wr, wNBytes, wCNBytes] <;> (have := uvOut_len5 0; omega)
    | some x =>
      have := bytes_cap fl x h
      cases fl <;> simpa [Prim.wr, wNBytes, wCNBytes] using this
theorem lenW_len (nul : Option Nat) (fl : Bool) (n : Nat) (b : Bool) : (lenW nul fl n b).length ≤ 5 := by
  have h0 := uvOut_len5 0
  have h1 := uvOut_len5 ((n + 1) % 4294967296)
  cases nul <;> cases fl <;> cases b <;> simp [lenW, wLen, wCLen, wNLen, wCNLen] <;> omega
theorem tags_cap (l : TagL) (h : tagsOk l) : (uvOut (l.length % 4294967296) ++ tagsOut l).length ≤ 5 + 40000 * 32777 := by
  have h0 := uvOut_len5 (l.length % 4294967296)
  have h1 := flat_cap (g := tagW) (n := 32777) l (fun x hx => by
    have := (h.2.2 x hx).2
    have a := uvOut_len5 x.1
    have b := uvOut_len5 (x.2.length % 4294967296)
    simp only [tagW, List.length_append]; omega)
  have h2 := h.1
  rw [List.length_append, tagsOut_len]
  have h3 : l.length * 32777 ≤ 40000 * 32777 := Nat.mul_le_mul_right _ h2
  omega
theorem wr_cap (ver : Int) (fl : Bool) : ∀ (S : Sch) (x : S.T), S.wf ver fl x → (S.wr ver fl x).length ≤ S.cap := by
  intro S
  induction S with
  | fin => intro x h; simp [Sch.wr]
  | tags k o =>
    intro x h
    simp only [Sch.wr, Sch.cap]
    cases fl
    · simp
    · simp only [if_true]; exact tags_cap x (h rfl)
  | prim g k o p en d r ih =>
    rintro ⟨x, y⟩ ⟨h1, h2⟩
    have := ih y h2
    simp only [Sch.wr, Sch.cap, List.length_append]
    cases hg : g.on ver
    · simp; omega
    · have := prim_cap p fl x (h1 hg)
      simp; omega
  | arrP g k o sT nul p r ih =>
    rintro ⟨a, y⟩ ⟨h1, h2⟩
    have := ih y h2
    simp only [Sch.wr, Sch.cap, List.length_append]
    cases hg : g.on ver
    · simp; omega
    · have h3 := h1 hg
      have h4 := flat_cap (g := p.wr fl) (n := 32772) (a.getD []) (fun x hx => prim_cap p fl x (h3.2 x hx))
      have h5 : (a.getD []).length * 32772 ≤ 32767 * 32772 := Nat.mul_le_mul_right _ h3.1.1
      have h6 := lenW_len nul fl (a.getD []).length a.isNone
      simp only [if_true, List.length_append]; omega
  | arrS g k o sT nul T PT sz df e r ihe ih =>
    rintro ⟨a, y⟩ ⟨h1, h2⟩
    have := ih y h2
    simp only [Sch.wr, Sch.cap, List.length_append]
    cases hg : g.on ver
    · simp; omega
    · have h3 := h1 hg
      have h4 := flat_cap (g := e.wr ver fl) (n := e.cap) (a.getD []) (fun x hx => ihe x (h3.2 x hx))
      have h5 : (a.getD []).length * e.cap ≤ 32767 * e.cap := Nat.mul_le_mul_right _ h3.1.1
      have h6 := lenW_len nul fl (a.getD []).length a.isNone
      simp only [if_true, List.length_append]; omega
end Go.Kg

set_option linter.unusedSimpArgs false
set_option linter.unusedVariables false
namespace Go.Kg
open Go

/-! ## zzFits: whichever it answers, it ends -/
def SomeB (w : World) (u : Value) (w' : World) : Prop := (∃ b, u = .bool b) ∧ Ext none1 w w'

section
variable {P : Program} {E : Env} (ht : TyF P E)
include ht

theorem c_zzFits4 (hI : FnIs P E.f_laws_zzFits4 nt_laws_zzFits4 (rs_laws_zzFits4 E) (ir_laws_zzFits4 E)) (w : World) (k bv : Value) (x : List UInt8) (hb : BytesAt w All bv x) (hk : k.oneCell' = true) :
    Ret P E.f_laws_zzFits4 #[.agg #[k, bv]] w (SomeB w) := by
  obtain ⟨a, c, rfl, _⟩ := hb.len
  refine hI.call (args := [_]) (by simp [nt_laws_zzFits4]) ?_
  have hcs : (Value.agg #[k, .slice a x.length c]).cells = #[k, .slice a x.length c] := rfl
  simp [ir_laws_zzFits4, rs_laws_zzFits4, hcs]
  generalize hw1 : w.alloc (.cells #[k, .slice a x.length c] E.t_spec_Tag) = w1
  have hE : Ext none1 w w1 := by subst hw1; exact (Ext.refl none1 w).alloc _
  have hb1 : w1.heap[w.heap.size]? = some (.cells #[k, .slice a x.length c] E.t_spec_Tag (0, 0)) := by subst hw1; exact alloc_new
  have c1 : w1.cell? ⟨w.heap.size, 1, none⟩ = some (.slice a x.length c) := by rw [cell_of_blk hb1]; rfl
  simp [ht.u1, Addr.add_mk, ld_scl ht.kBs, c1, len_slice ht.uBs]
  refine cw_bool (c := decide ((2147483647 : Int) < x.length)) (by simp) ?_ ?_
  · intro _
    simp
    exact ⟨⟨_, rfl⟩, hE⟩
  · intro _
    simp
    exact ⟨⟨_, rfl⟩, hE⟩

/-- what holds in the loop over tags -/
def FzInv (w : World) (vs : Value) (n : Nat) (f : Nat → Value) (w' : World) : Prop := ∃ i, i ≤ n ∧ f 10 = .int .i64 i ∧ f 9 = .int .i64 n ∧ f 8 = vs ∧ Ext none1 w w'

theorem c_zzFits3 (hI : FnIs P E.f_laws_zzFits3 nt_laws_zzFits3 (rs_laws_zzFits3 E) (ir_laws_zzFits3 E))
    (h4 : ∀ (w : World) (k bv : Value) (x : List UInt8), BytesAt w All bv x → k.oneCell' = true → Ret P E.f_laws_zzFits4 #[.agg #[k, bv]] w (SomeB w)) (hzU : zeroOf P E.t_spec_Tag = some (.agg #[.int .u32 0, .slice none 0 0])) (w : World) (uv : Value) (u : List (Nat × List UInt8)) (hu : UAt w uv u) :
    Ret P E.f_laws_zzFits3 #[uv] w (SomeB w) := by
  obtain ⟨ls, ha, hlen, hget⟩ := hu
  obtain ⟨a, c, rfl, _, hmax⟩ := ha.form
  refine hI.call (args := [_]) (by simp [nt_laws_zzFits3]) ?_
  obtain ⟨Et, jt, hut, _, _⟩ := sliSz_spec ht.sU
  simp [ir_laws_zzFits3, rs_laws_zzFits3, len_slice hut]
  refine cw_bool (c := decide ((2147483647 : Int) < (ls.getD []).length)) (by simp) ?_ ?_
  · intro _
    simp
    exact ⟨⟨_, rfl⟩, Ext.refl _ _⟩
  · intro _
    simp [len_slice hut]
    refine cw_loop (FzInv w (.slice a (ls.getD []).length c) (ls.getD []).length) (fun f _ => match f 10 with | .int _ i => (((ls.getD []).length : Int) - i).toNat | _ => 0) ⟨0, by omega, by simp, by simp, by simp, Ext.refl _ _⟩ ?_
    rintro f w' ⟨i, hi, h10, h9, h8, he⟩
    simp [h10, h9]
    by_cases hlt : i < (ls.getD []).length
    rotate_left
    · refine cw_false (by simp; omega) ?_
      simp
      exact ⟨⟨_, rfl⟩, he⟩
    refine cw_true (by simp; omega) ?_
    cases ls with
    | none => simp at hlt
    | some ls =>
    obtain ⟨bb, oo, cc, hvv, _, ⟨hnn, _⟩, hx⟩ := ha
    cases hvv
    simp only [Option.getD_some] at hlt hlen hget hmax h9 h8
    obtain ⟨q, hq⟩ : ∃ q, ls[i]? = some q := ⟨_, List.getElem?_eq_getElem hlt⟩
    obtain ⟨x, hxx⟩ : ∃ x, u[i]? = some x := ⟨_, List.getElem?_eq_getElem (by omega)⟩
    obtain ⟨bv, rfl, _, hbv⟩ := hget i q x hq hxx
    obtain ⟨ab, cb, rfl, _⟩ := hbv.len
    have hcx := (hx i _ hq).2.ext (K := All) he (fun _ _ _ h => h) trivial
    have hcf := cellsFrom_list0 hcx
    have hl2 : [Value.int .u32 x.1, .slice ab x.2.length cb].length = 2 := rfl
    rw [hl2] at hcf
    have ho2 : allOne [Value.int .u32 x.1, .slice ab x.2.length cb] = true := rfl
    have hzc : (Value.agg #[.int .u32 0, .slice none 0 0]).cells = #[.int .u32 0, .slice none 0 0] := rfl
    have hov : over #[Value.int .u32 0, .slice none 0 0] 0 [Value.int .u32 x.1, .slice ab x.2.length cb] = #[Value.int .u32 x.1, .slice ab x.2.length cb] := rfl
    simp [h10, h8, idx?, ht.sU, hlt, Addr.add_mk, ld_agg ht.kU, hcf, hzU, hzc, store_agg ht.kU, ho2, putK_blk alloc_new, hov]
    generalize hw3 : (w'.alloc (.cells #[.int .u32 0, .slice none 0 0] E.t_spec_Tag)).setBlk w'.heap.size (.cells #[Value.int .u32 x.1, .slice ab x.2.length cb] E.t_spec_Tag (0, 0)) = w3
    have hb3 : w3.heap[w'.heap.size]? = some (.cells #[Value.int .u32 x.1, .slice ab x.2.length cb] E.t_spec_Tag (0, 0)) := by subst hw3; exact setBlk_same alloc_new
    have hx3 : Ext none1 w' w3 := by subst hw3; exact ((Ext.refl none1 w').alloc _).setBlk (.inl (Nat.le_refl _)) _
    have he3 : Ext none1 w w3 := he.trans hx3
    have hcb := cellsFrom_row hb3
    simp only [List.size_toArray, List.length_cons, List.length_nil] at hcb
    simp [hcb]
    refine (h4 w3 _ _ x.2 (hbv.ext he3 (fun _ _ _ h => h)) rfl).mono ?_
    rintro _ w4 ⟨⟨b, rfl⟩, he4⟩
    simp
    have ei : IntKind.i64.wrap ((i : Int) + 1) = ((i + 1 : Nat) : Int) := by rw [i64_small (by omega) (by omega)]; rfl
    cases b
    · refine cw_true (by simp) ?_
      simp
      exact ⟨⟨_, rfl⟩, he3.trans he4⟩
    · refine cw_false (by simp) ?_
      simp [h10, ei]
      refine ⟨⟨i + 1, by omega, by simp, by simp [h9], by simp [h8], he3.trans he4⟩, by omega⟩

theorem c_zzFits2 (hI : FnIs P E.f_laws_zzFits2 nt_laws_zzFits2 (rs_laws_zzFits2 E) (ir_laws_zzFits2 E))
    (h3 : ∀ (w : World) (uv : Value) (u : List (Nat × List UInt8)), UAt w uv u → Ret P E.f_laws_zzFits3 #[uv] w (SomeB w)) (w : World) (cs : List Value) (t : Tr) (hT : TreeAt w cs t) :
    Ret P E.f_laws_zzFits2 #[.agg cs.toArray] w (SomeB w) := by
  obtain ⟨hn, hs, ha, hl, he, hu⟩ := hT
  rename_i n s nul l u sv lv uv ls
  obtain ⟨a1, c1, rfl, _⟩ := hs.len
  obtain ⟨a2, c2, rfl, _, _⟩ := ha.form
  refine hI.call (args := [_]) (by simp [nt_laws_zzFits2]) ?_
  have hv : ∀ (a : Array Value), (Value.agg a).cells = a := fun a => rfl
  obtain ⟨Et, jt, hut, _, _⟩ := sliSz_spec ht.sT
  simp [ir_laws_zzFits2, rs_laws_zzFits2, hv]
  generalize hw1 : w.alloc (.cells #[.int .i64 n, .slice a1 s.length c1, .bool nul, .slice a2 (ls.getD []).length c2, uv] E.t_spec_Tree) = w1
  have hE : Ext none1 w w1 := by subst hw1; exact (Ext.refl none1 w).alloc _
  have hb1 : w1.heap[w.heap.size]? = some (.cells #[.int .i64 n, .slice a1 s.length c1, .bool nul, .slice a2 (ls.getD []).length c2, uv] E.t_spec_Tree (0, 0)) := by subst hw1; exact alloc_new
  have k1 : w1.cell? ⟨w.heap.size, 1, none⟩ = some (.slice a1 s.length c1) := by rw [cell_of_blk hb1]; rfl
  have k3 : w1.cell? ⟨w.heap.size, 3, none⟩ = some (.slice a2 (ls.getD []).length c2) := by rw [cell_of_blk hb1]; rfl
  have k4 : w1.cell? ⟨w.heap.size, 4, none⟩ = some uv := by rw [cell_of_blk hb1]; rfl
  simp [ht.t1, Addr.add_mk, ld_scl ht.kBs, k1, len_slice ht.uBs]
  refine cw_bool (c := decide ((2147483647 : Int) < s.length)) (by simp) ?_ ?_
  · intro _
    simp
    exact ⟨⟨_, rfl⟩, hE⟩
  intro _
  simp [ht.t3, Addr.add_mk, ld_scl ht.kLT, k3, len_slice hut]
  refine cw_bool (c := decide ((2147483647 : Int) < (ls.getD []).length)) (by simp) ?_ ?_
  · intro _
    simp
    exact ⟨⟨_, rfl⟩, hE⟩
  intro _
  simp [ht.t4, Addr.add_mk, ld_scl ht.kLU, k4]
  refine (h3 w1 uv u (hu.ext hE)).mono ?_
  rintro _ w2 ⟨⟨b, rfl⟩, he2⟩
  simp
  cases b
  · refine cw_true (by simp) ?_
    simp
    exact ⟨⟨_, rfl⟩, hE.trans he2⟩
  · refine cw_false (by simp) ?_
    simp
    exact ⟨⟨_, rfl⟩, hE.trans he2⟩
end
end Go.Kg

set_option linter.unusedSimpArgs false
set_option linter.unusedVariables false
namespace Go.Kg
open Go

/-! ## The laws FnAgain.. and FnCut.. -/
def irFnAgain (E : Env) (fMax fMsg fAg tup : Nat) : Ir :=
  (.seq
    (.reg [
        ⟨none, some 3, .box E.t_spec_Tree (.tmp 1), E.tNil⟩,
        ⟨none, some 4, .assign (.const (.bool false)), E.tB⟩])
  (.seq
    (.seq
      (.reg [
          ⟨none, some 9, .load E.t_spec_Tree (.tmp 3), E.t_spec_Tree⟩,
          ⟨none, some 10, .call { callee := .value (.func E.f_laws_zzFits2), args := #[.tmp 9], argTypes := #[E.t_spec_Tree] }, E.tB⟩,
          ⟨none, some 11, .unOp .not E.tB (.tmp 10), E.tB⟩])
    (.cond 11
      (.seq
        (.reg [
            ⟨none, some 4, .assign (.const (.bool true)), E.tB⟩])
      .ret)
      .skip))
  (.seq
    (.reg [
        ⟨none, some 12, .call { callee := .value (.func fMax), args := #[], argTypes := #[] }, E.tInt⟩,
        ⟨none, some 5, .assign (.tmp 12), E.tInt⟩])
  (.seq
    (.seq
      (.reg [
          ⟨none, some 13, .move (.tmp 5), E.tInt⟩,
          ⟨none, some 14, .binOp .lss E.tInt (.tmp 13) (.const (.int .i64 0)) E.tInt, E.tB⟩])
    (.cond 14
      (.seq
        (.reg [
            ⟨none, some 4, .assign (.const (.bool false)), E.tB⟩])
      .ret)
      .skip))
  (.seq
    (.regH [
        (true, ⟨none, some 16, .move (.tmp 0), E.tU8⟩),
        (true, ⟨none, some 17, .move (.tmp 5), E.tInt⟩),
        (true, ⟨none, some 19, .load E.t_spec_Tree (.tmp 3), E.t_spec_Tree⟩),
        (false, ⟨none, some 15, .call { callee := .value (.func fMsg), args := #[], argTypes := #[] }, E.t_spec_Message⟩),
        (false, ⟨none, some 18, .call { callee := .value (.func E.f_laws_version), args := #[.tmp 16, .tmp 17], argTypes := #[E.tU8, E.tInt] }, E.tInt⟩),
        (false, ⟨none, some 20, .call { callee := .value (.func E.f_spec_Write), args := #[.tmp 15, .tmp 18, .tmp 19], argTypes := #[E.t_spec_Message, E.tInt, E.t_spec_Tree] }, E.tBs⟩),
        (true, ⟨none, some 6, .assign (.tmp 20), E.tBs⟩)])
  (.seq
    (.reg [
        ⟨none, some 22, .move (.tmp 0), E.tU8⟩,
        ⟨none, some 23, .move (.tmp 5), E.tInt⟩,
        ⟨none, some 24, .call { callee := .value (.func E.f_laws_version), args := #[.tmp 22, .tmp 23], argTypes := #[E.tU8, E.tInt] }, E.tInt⟩,
        ⟨none, some 25, .move (.tmp 6), E.tBs⟩,
        ⟨none, some 26, .call { callee := .value (.func fAg), args := #[.tmp 24, .tmp 25], argTypes := #[E.tInt, E.tBs] }, tup⟩,
        ⟨none, some 21, .move (.tmp 26), tup⟩,
        ⟨none, some 27, .extract (.tmp 21) 0, E.tBs⟩,
        ⟨none, some 28, .extract (.tmp 21) 1, E.tB⟩,
        ⟨none, some 7, .assign (.tmp 27), E.tBs⟩,
        ⟨none, some 8, .assign (.tmp 28), E.tB⟩])
  (.seq
    (.reg [
        ⟨none, some 29, .move (.tmp 8), E.tB⟩,
        ⟨none, some 30, .move (.tmp 29), E.tB⟩,
        ⟨(some (30, true)), some 31, .move (.tmp 7), E.tBs⟩,
        ⟨(some (30, true)), some 32, .move (.tmp 6), E.tBs⟩,
        ⟨(some (30, true)), some 33, .call { callee := .value (.func E.f_spec_Same), args := #[.tmp 31, .tmp 32], argTypes := #[E.tBs, E.tBs] }, E.tB⟩,
        ⟨none, some 34, .pick (.tmp 30) (.tmp 33) (.const (.bool false)), E.tB⟩,
        ⟨none, some 4, .assign (.tmp 34), E.tB⟩])
  .ret)))))))

def irFnCut (E : Env) (fMax fMsg fAg tup : Nat) : Ir :=
  (.seq
    (.reg [
        ⟨none, some 4, .box E.t_spec_Tree (.tmp 1), E.tNil⟩,
        ⟨none, some 6, .assign (.const (.bool false)), E.tB⟩])
  (.seq
    (.seq
      (.reg [
          ⟨none, some 13, .load E.t_spec_Tree (.tmp 4), E.t_spec_Tree⟩,
          ⟨none, some 14, .call { callee := .value (.func E.f_laws_zzFits2), args := #[.tmp 13], argTypes := #[E.t_spec_Tree] }, E.tB⟩,
          ⟨none, some 15, .unOp .not E.tB (.tmp 14), E.tB⟩])
    (.cond 15
      (.seq
        (.reg [
            ⟨none, some 6, .assign (.const (.bool true)), E.tB⟩])
      .ret)
      .skip))
  (.seq
    (.reg [
        ⟨none, some 16, .call { callee := .value (.func fMax), args := #[], argTypes := #[] }, E.tInt⟩,
        ⟨none, some 7, .assign (.tmp 16), E.tInt⟩])
  (.seq
    (.seq
      (.reg [
          ⟨none, some 17, .move (.tmp 7), E.tInt⟩,
          ⟨none, some 18, .binOp .lss E.tInt (.tmp 17) (.const (.int .i64 0)) E.tInt, E.tB⟩])
    (.cond 18
      (.seq
        (.reg [
            ⟨none, some 6, .assign (.const (.bool false)), E.tB⟩])
      .ret)
      .skip))
  (.seq
    (.regH [
        (true, ⟨none, some 20, .move (.tmp 0), E.tU8⟩),
        (true, ⟨none, some 21, .move (.tmp 7), E.tInt⟩),
        (true, ⟨none, some 23, .load E.t_spec_Tree (.tmp 4), E.t_spec_Tree⟩),
        (false, ⟨none, some 19, .call { callee := .value (.func fMsg), args := #[], argTypes := #[] }, E.t_spec_Message⟩),
        (false, ⟨none, some 22, .call { callee := .value (.func E.f_laws_version), args := #[.tmp 20, .tmp 21], argTypes := #[E.tU8, E.tInt] }, E.tInt⟩),
        (false, ⟨none, some 24, .call { callee := .value (.func E.f_spec_Write), args := #[.tmp 19, .tmp 22, .tmp 23], argTypes := #[E.t_spec_Message, E.tInt, E.t_spec_Tree] }, E.tBs⟩),
        (true, ⟨none, some 8, .assign (.tmp 24), E.tBs⟩)])
  (.seq
    (.reg [
        ⟨none, some 26, .move (.tmp 0), E.tU8⟩,
        ⟨none, some 27, .move (.tmp 7), E.tInt⟩,
        ⟨none, some 28, .call { callee := .value (.func E.f_laws_version), args := #[.tmp 26, .tmp 27], argTypes := #[E.tU8, E.tInt] }, E.tInt⟩,
        ⟨none, some 29, .move (.tmp 8), E.tBs⟩,
        ⟨none, some 30, .call { callee := .value (.func fAg), args := #[.tmp 28, .tmp 29], argTypes := #[E.tInt, E.tBs] }, tup⟩,
        ⟨none, some 25, .move (.tmp 30), tup⟩,
        ⟨none, some 31, .extract (.tmp 25) 0, E.tBs⟩,
        ⟨none, some 32, .extract (.tmp 25) 1, E.tB⟩,
        ⟨none, some 9, .assign (.tmp 31), E.tBs⟩,
        ⟨none, some 10, .assign (.tmp 32), E.tB⟩])
  (.seq
    (.seq
      (.reg [
          ⟨none, some 33, .move (.tmp 8), E.tBs⟩,
          ⟨none, some 34, .call { callee := .builtin .len, args := #[.tmp 33], argTypes := #[E.tBs] }, E.tInt⟩,
          ⟨none, some 35, .binOp .eql E.tInt (.tmp 34) (.const (.int .i64 0)) E.tInt, E.tB⟩])
    (.cond 35
      (.seq
        (.reg [
            ⟨none, some 36, .move (.tmp 10), E.tB⟩,
            ⟨none, some 6, .assign (.tmp 36), E.tB⟩])
      .ret)
      .skip))
  (.seq
    (.regH [
        (true, ⟨none, some 38, .move (.tmp 0), E.tU8⟩),
        (true, ⟨none, some 39, .move (.tmp 7), E.tInt⟩),
        (true, ⟨none, some 41, .move (.tmp 8), E.tBs⟩),
        (true, ⟨none, some 42, .move (.tmp 2), E.tU16⟩),
        (true, ⟨none, some 43, .convert E.tU16 E.tInt (.tmp 42), E.tInt⟩),
        (true, ⟨none, some 44, .move (.tmp 8), E.tBs⟩),
        (true, ⟨none, some 45, .call { callee := .builtin .len, args := #[.tmp 44], argTypes := #[E.tBs] }, E.tInt⟩),
        (true, ⟨none, some 46, .binOp .rem E.tInt (.tmp 43) (.tmp 45) E.tInt, E.tInt⟩),
        (true, ⟨none, some 47, .slice E.tBs (.tmp 41) none (some (.tmp 46)) none, E.tBs⟩),
        (false, ⟨none, some 40, .call { callee := .value (.func E.f_laws_version), args := #[.tmp 38, .tmp 39], argTypes := #[E.tU8, E.tInt] }, E.tInt⟩),
        (false, ⟨none, some 48, .call { callee := .value (.func fAg), args := #[.tmp 40, .tmp 47], argTypes := #[E.tInt, E.tBs] }, tup⟩),
        (true, ⟨none, some 37, .move (.tmp 48), tup⟩),
        (true, ⟨none, some 49, .extract (.tmp 37) 0, E.tBs⟩),
        (true, ⟨none, some 50, .extract (.tmp 37) 1, E.tB⟩),
        (true, ⟨none, some 11, .assign (.tmp 49), E.tBs⟩),
        (true, ⟨none, some 12, .assign (.tmp 50), E.tB⟩)])
  (.seq
    (.reg [
        ⟨none, some 51, .move (.tmp 10), E.tB⟩,
        ⟨none, some 52, .move (.tmp 51), E.tB⟩,
        ⟨(some (52, true)), some 53, .move (.tmp 12), E.tB⟩,
        ⟨(some (52, true)), some 54, .unOp .not E.tB (.tmp 53), E.tB⟩,
        ⟨none, some 55, .pick (.tmp 52) (.tmp 54) (.const (.bool false)), E.tB⟩,
        ⟨none, some 6, .assign (.tmp 55), E.tB⟩])
  .ret)))))))))

/-- what the laws Again and Cut ask beside AgL -/
structure AgW (P : Program) (fMsg M : Nat) (S : Sch) (flx : Nat → Bool) (F : FS) (fx : Int) : Prop where
  msg : MsgC P fMsg F fx
  ok : F.okAll
  len : F.len ≤ 1000
  flex : ∀ v : Nat, v ≤ M → flexAt fx v = flx v
  fit : fitS M flx F S = true

theorem TreeAt.five {w : World} {cs : List Value} {t : Tr} (h : TreeAt w cs t) : cs.length = 5 ∧ allOne cs = true := by
  cases h with
  | mk hn hs ha hl he hu =>
    obtain ⟨a1, c1, rfl, _⟩ := hs.len
    obtain ⟨a2, c2, rfl, _⟩ := ha.form
    obtain ⟨lu, hu1, _⟩ := hu
    obtain ⟨a3, c3, rfl, _⟩ := hu1.form
    simp [allOne, Value.oneCell']

/-- s[:l] of bytes -/
theorem BytesAt.upTo {w : World} {K : Nat → Prop} {a : Option Addr} {n c : Nat} {s : List UInt8} (h : BytesAt w K (.slice a n c) s) {l : Nat} (hl : l ≤ s.length) : BytesAt w K (.slice (if c = 0 then a else a.map (·.add 0)) l c) (s.take l) := by
  rcases h with ⟨⟨a', hv⟩, rfl⟩ | ⟨b, o, c', hv, h2, hk, h3⟩
  · cases hv
    have : l = 0 := by simpa using hl
    subst this
    exact .inl ⟨⟨a, by simp⟩, by simp⟩
  · cases hv
    refine .inr ⟨b, o, c, by simp [Nat.min_eq_left hl, Addr.add_mk], by simp; omega, fun h => hk (by rintro rfl; simp at h), ?_⟩
    intro i x hx
    rw [List.getElem?_take] at hx
    split at hx
    · exact h3 _ _ hx
    · cases hx

section
variable {P : Program} {E : Env} (ht : TyK P E) (hs : SpecFns P E)
include ht hs

set_option maxHeartbeats 2000000 in
theorem c_FnAgain (hVe : FnIs P E.f_laws_version nt_laws_version (rs_laws_version E) (ir_laws_version E)) (hFz : ∀ (w : World) (cs : List Value) (t : Tr), TreeAt w cs t → Ret P E.f_laws_zzFits2 #[.agg cs.toArray] w (SomeB w))
    {fMax fMsg fAg M g nt tup : Nat} {S : Sch} {flx : Nat → Bool} {ev : Value} {F : FS} {fx : Int} (hL : AgL P E fMax fAg M S flx ev) (hW : AgW P fMsg M S flx F fx) (hnt : 2 ≤ nt) (hI : FnIs P g nt [.t 4] (irFnAgain E fMax fMsg fAg tup)) (n : Nat) (hn : n < 256) {w : World} {cs : List Value} {t : Tr}
    (hT : TreeAt w cs t) (hsz : (partS F (verOf n M) (flx (verOf n M)) t).length ≤ 1099511627776) (herr : w.cell? ⟨E.g_kbin_ErrNotEnoughData, 0, none⟩ = some ev) :
    Ret P g #[.int .u8 n, .agg cs.toArray] w fun u w' => u = .bool true ∧ Ext none1 w w' := by
  have hvM : verOf n M ≤ M := by have := Nat.mod_lt n (show 0 < M + 1 by omega); simp only [verOf]; omega
  have hV := fun w => c_version hVe ht.iU8 ht.iInt n M hn hL.hM w
  obtain ⟨x, hx, hwf⟩ := conv_all (flx := flx) hvM hW.fit hT.ok
  have hlen : (S.wr (verOf n M) (flx (verOf n M)) x).length ≤ 1099511627776 := by rw [hx]; exact hsz
  have hgood : ∀ nn y rs, S.rd (verOf n M) (flx (verOf n M)) ⟨S.wr (verOf n M) (flx (verOf n M)) x, false, nn⟩ = some (y, rs) → rs.bad = false ∧ S.wr (verOf n M) (flx (verOf n M)) y = S.wr (verOf n M) (flx (verOf n M)) x ∧ S.TagsOk tagsOk y := by
    intro nn y rs h
    obtain ⟨z, nn', e1, e2, e3⟩ := rd_sch _ _ S x (hL.pos _ hvM) hwf [] nn
    rw [List.append_nil] at e1
    rw [e1] at h
    cases h
    exact ⟨rfl, e2, e3⟩
  have hsome : ∀ nn, ∃ y rs, S.rd (verOf n M) (flx (verOf n M)) ⟨S.wr (verOf n M) (flx (verOf n M)) x, false, nn⟩ = some (y, rs) := by
    intro nn
    obtain ⟨z, nn', e1, _⟩ := rd_sch _ _ S x (hL.pos _ hvM) hwf [] nn
    rw [List.append_nil] at e1
    exact ⟨_, _, e1⟩
  have h5 := hT.five
  refine hI.call (args := [_, _]) hnt ?_
  have hv : ∀ (a : Array Value), (Value.agg a).cells = a := fun a => rfl
  simp [irFnAgain, hv]
  generalize hw1 : w.alloc (.cells cs.toArray E.t_spec_Tree) = w1
  have hE1 : Ext none1 w w1 := by subst hw1; exact (Ext.refl none1 w).alloc _
  have hb1 : w1.heap[w.heap.size]? = some (.cells cs.toArray E.t_spec_Tree (0, 0)) := by subst hw1; exact alloc_new
  have hcT : ∀ wx, Ext none1 w1 wx → cellsFrom wx ⟨w.heap.size, 0, none⟩ 0 5 = some cs := by
    intro wx hx
    have := cellsFrom_row (hx.old hb1 (fun h => h))
    simpa [h5.1] using this
  simp [ld_agg ht.kT, hcT w1 (Ext.refl _ _)]
  refine (hFz w1 cs t (hT.ext hE1)).mono ?_
  rintro _ w2 ⟨⟨b, rfl⟩, he2⟩
  simp
  cases b
  · refine cw_true (by simp) ?_
    simp
    exact hE1.trans he2
  refine cw_false (by simp) ?_
  simp
  refine (hL.max w2).mono ?_
  rintro _ w3 ⟨rfl, he3⟩
  simp
  refine cw_false (by simp) ?_
  simp
  have hE13 := he2.trans he3
  have hE3 := hE1.trans hE13
  have hD := (Ext.refl none1 w3).drew
  refine cw_regH (Ext none1 w3) hD ?_
  have r3 := Ext.refl none1 w3
  have lT : ∀ wx, Ext none1 w3 wx → cellsFrom wx ⟨w.heap.size, 0, none⟩ 0 5 = some cs := fun wx hx => hcT wx (hE13.trans hx)
  simp +contextual [ld_agg ht.kT, lT, lT w3.drew hD]
  refine (hW.msg w3.drew).mono ?_
  rintro _ w4 ⟨fv, rfl, hF, he4⟩
  have hD4 := hD.trans he4
  simp [hD4]
  refine (hV w4).mono ?_
  rintro _ w5 ⟨rfl, rfl⟩
  simp [hD4]
  refine (sp_Write ht.toTyM hs (fx := fx) (ver := (verOf n M : Int)) hW.ok hW.len w5 fv cs t hF (hT.ext (hE3.trans hD4)) (by rw [hW.flex _ hvM]; exact hsz)).mono ?_
  intro v8 w8 h8
  rw [hW.flex _ hvM, ← hx] at h8
  have hD8 := hD4.trans h8.2
  simp [hD8]
  refine (hV w8).mono ?_
  rintro _ w9 ⟨rfl, rfl⟩
  try simp
  have hb8 := own_bytes h8.1
  have hE8 := hE3.trans hD8
  refine (hL.again _ hvM hb8 hlen (hE8.cell herr (fun h => h)) (fun nn y rs h1 h2 => ⟨(hgood nn y rs h1).2.2, by rw [(hgood nn y rs h1).2.1]; exact hlen⟩)).mono ?_
  rintro u w10 ⟨he10, nn, hu⟩
  obtain ⟨y, rs, hy⟩ := hsome nn
  obtain ⟨g1, g2, _⟩ := hgood nn y rs hy
  rw [hy] at hu
  simp only [g1, Bool.false_eq_true, if_false] at hu
  obtain ⟨v2, rfl, hv2⟩ := hu
  rw [g2] at hv2
  simp
  refine (sp_Same ht.toTyG hs w10 _ _ v2 v8 _ _ hv2 (hb8.ext he10 (fun _ _ _ h => h)) hlen).mono ?_
  rintro _ w11 ⟨rfl, he11⟩
  simp
  exact hE8.trans (he10.trans he11)

set_option maxHeartbeats 2000000 in
theorem c_FnCut (hVe : FnIs P E.f_laws_version nt_laws_version (rs_laws_version E) (ir_laws_version E)) (hFz : ∀ (w : World) (cs : List Value) (t : Tr), TreeAt w cs t → Ret P E.f_laws_zzFits2 #[.agg cs.toArray] w (SomeB w)) (iU16 : intKind? P E.tU16 = some .u16)
    {fMax fMsg fAg M g nt tup : Nat} {S : Sch} {flx : Nat → Bool} {ev : Value} {F : FS} {fx : Int} (hL : AgL P E fMax fAg M S flx ev) (hW : AgW P fMsg M S flx F fx) (hnt : 3 ≤ nt) (hI : FnIs P g nt [.t 6] (irFnCut E fMax fMsg fAg tup)) (n : Nat) (hn : n < 256) (at_ : Nat) (hat : at_ < 65536) {w : World} {cs : List Value} {t : Tr}
    (hT : TreeAt w cs t) (hsz : (partS F (verOf n M) (flx (verOf n M)) t).length ≤ 1099511627776) (herr : w.cell? ⟨E.g_kbin_ErrNotEnoughData, 0, none⟩ = some ev) :
    Ret P g #[.int .u8 n, .agg cs.toArray, .int .u16 at_] w fun u w' => u = .bool true ∧ Ext none1 w w' := by
  have hvM : verOf n M ≤ M := by have := Nat.mod_lt n (show 0 < M + 1 by omega); simp only [verOf]; omega
  have hV := fun w => c_version hVe ht.iU8 ht.iInt n M hn hL.hM w
  obtain ⟨x, hx, hwf⟩ := conv_all (flx := flx) hvM hW.fit hT.ok
  have hlen : (S.wr (verOf n M) (flx (verOf n M)) x).length ≤ 1099511627776 := by rw [hx]; exact hsz
  have hgood : ∀ nn y rs, S.rd (verOf n M) (flx (verOf n M)) ⟨S.wr (verOf n M) (flx (verOf n M)) x, false, nn⟩ = some (y, rs) → rs.bad = false ∧ S.wr (verOf n M) (flx (verOf n M)) y = S.wr (verOf n M) (flx (verOf n M)) x ∧ S.TagsOk tagsOk y := by
    intro nn y rs h
    obtain ⟨z, nn', e1, e2, e3⟩ := rd_sch _ _ S x (hL.pos _ hvM) hwf [] nn
    rw [List.append_nil] at e1
    rw [e1] at h
    cases h
    exact ⟨rfl, e2, e3⟩
  have hsome : ∀ nn, ∃ y rs, S.rd (verOf n M) (flx (verOf n M)) ⟨S.wr (verOf n M) (flx (verOf n M)) x, false, nn⟩ = some (y, rs) := by
    intro nn
    obtain ⟨z, nn', e1, _⟩ := rd_sch _ _ S x (hL.pos _ hvM) hwf [] nn
    rw [List.append_nil] at e1
    exact ⟨_, _, e1⟩
  have h5 := hT.five
  refine hI.call (args := [_, _, _]) hnt ?_
  have hv : ∀ (a : Array Value), (Value.agg a).cells = a := fun a => rfl
  simp [irFnCut, hv]
  generalize hw1 : w.alloc (.cells cs.toArray E.t_spec_Tree) = w1
  have hE1 : Ext none1 w w1 := by subst hw1; exact (Ext.refl none1 w).alloc _
  have hb1 : w1.heap[w.heap.size]? = some (.cells cs.toArray E.t_spec_Tree (0, 0)) := by subst hw1; exact alloc_new
  have hcT : ∀ wx, Ext none1 w1 wx → cellsFrom wx ⟨w.heap.size, 0, none⟩ 0 5 = some cs := by
    intro wx hx
    have := cellsFrom_row (hx.old hb1 (fun h => h))
    simpa [h5.1] using this
  simp [ld_agg ht.kT, hcT w1 (Ext.refl _ _)]
  refine (hFz w1 cs t (hT.ext hE1)).mono ?_
  rintro _ w2 ⟨⟨b, rfl⟩, he2⟩
  simp
  cases b
  · refine cw_true (by simp) ?_
    simp
    exact hE1.trans he2
  refine cw_false (by simp) ?_
  simp
  refine (hL.max w2).mono ?_
  rintro _ w3 ⟨rfl, he3⟩
  simp
  refine cw_false (by simp) ?_
  simp
  have hE13 := he2.trans he3
  have hE3 := hE1.trans hE13
  have hD := (Ext.refl none1 w3).drew
  refine cw_regH (Ext none1 w3) hD ?_
  have r3 := Ext.refl none1 w3
  have lT : ∀ wx, Ext none1 w3 wx → cellsFrom wx ⟨w.heap.size, 0, none⟩ 0 5 = some cs := fun wx hx => hcT wx (hE13.trans hx)
  simp +contextual [ld_agg ht.kT, lT, lT w3.drew hD]
  refine (hW.msg w3.drew).mono ?_
  rintro _ w4 ⟨fv, rfl, hF, he4⟩
  have hD4 := hD.trans he4
  simp [hD4]
  refine (hV w4).mono ?_
  rintro _ w5 ⟨rfl, rfl⟩
  simp [hD4]
  refine (sp_Write ht.toTyM hs (fx := fx) (ver := (verOf n M : Int)) hW.ok hW.len w5 fv cs t hF (hT.ext (hE3.trans hD4)) (by rw [hW.flex _ hvM]; exact hsz)).mono ?_
  intro v8 w8 h8
  rw [hW.flex _ hvM, ← hx] at h8
  have hD8 := hD4.trans h8.2
  simp [hD8]
  refine (hV w8).mono ?_
  rintro _ w9 ⟨rfl, rfl⟩
  try simp
  have hb8 := own_bytes h8.1
  have hE8 := hE3.trans hD8
  refine (hL.again _ hvM hb8 hlen (hE8.cell herr (fun h => h)) (fun nn y rs h1 h2 => ⟨(hgood nn y rs h1).2.2, by rw [(hgood nn y rs h1).2.1]; exact hlen⟩)).mono ?_
  rintro u w10 ⟨he10, nn, hu⟩
  obtain ⟨y, rs, hy⟩ := hsome nn
  obtain ⟨g1, g2, _⟩ := hgood nn y rs hy
  rw [hy] at hu
  simp only [g1, Bool.false_eq_true, if_false] at hu
  obtain ⟨v2, rfl, hv2⟩ := hu
  have hE10 := hE8.trans he10
  have hb10 := hb8.ext he10 (fun _ _ _ h => h)
  obtain ⟨a8, c8, rfl, hc8⟩ := hb10.len
  generalize hSS : S.wr (verOf n M) (flx (verOf n M)) x = ss at *
  simp [len_slice ht.uBs]
  by_cases hl0 : ss.length = 0
  · refine cw_true (by simp [List.eq_nil_of_length_eq_zero hl0]) ?_
    simp
    exact hE10
  have hss : ss ≠ [] := by rintro rfl; simp at hl0
  refine cw_false (by simp [hss]) ?_
  simp
  have hD10 := (Ext.refl none1 w10).drew
  refine cw_regH (Ext none1 w10) hD10 ?_
  have e16 : IntKind.i64.wrap (at_ : Int) = at_ := i64_small (by omega) (by omega)
  have hk : at_ % ss.length < ss.length := Nat.mod_lt _ (by omega)
  have ek : ((at_ : Int).tmod (ss.length : Int)) = ((at_ % ss.length : Nat) : Int) := by rw [Int.tmod_eq_emod_of_nonneg (by omega)]; rfl
  have hne0 : ¬ ((ss.length : Int) = 0) := by omega
  have hsl := slice_hi (P := P) (T := E.tBs) ht.sBs.siz (a := a8) (n := ss.length) (c := c8) (k := .i64) (l := at_ % ss.length) (by omega)
  generalize hkk : at_ % ss.length = kk at *
  simp +contextual [iU16, ht.iInt, e16, bin?, hne0, ek, hsl, hss, len_slice ht.uBs]
  refine (hV w10.drew).mono ?_
  rintro _ w11 ⟨rfl, rfl⟩
  simp [hD10]
  have hE11 := hE10.trans hD10
  have hbk := (hb10.ext hD10 (fun _ _ _ h => h)).upTo (l := kk) (by omega)
  have hcut : ∀ nn y rs, S.rd (verOf n M) (flx (verOf n M)) ⟨ss.take kk, false, nn⟩ = some (y, rs) → rs.bad = true := by
    intro nn y rs h
    rw [← hSS] at h hk
    exact cut_sch _ _ S x (hL.pos _ hvM) hwf kk hk nn h
  refine (hL.again _ hvM hbk (by simp; omega) (hE11.cell herr (fun h => h)) (fun nn y rs h1 h2 => by rw [hcut nn y rs h1] at h2; cases h2)).mono ?_
  rintro u w12 ⟨he12, nn2, hu⟩
  have hu2 : u = .tuple #[.slice none 0 0, .bool false] := by
    cases hr : S.rd (verOf n M) (flx (verOf n M)) ⟨ss.take kk, false, nn2⟩ with
    | none => rw [hr] at hu; exact hu
    | some p =>
      obtain ⟨y2, rs2⟩ := p
      rw [hr] at hu
      simp only [hcut _ _ _ hr, if_true] at hu
      exact hu
  subst hu2
  have hD12 := hD10.trans he12
  simp [hD12]
  exact hE10.trans hD12
end
end Go.Kg

set_option linter.unusedSimpArgs false
set_option linter.unusedVariables false
namespace Go.Kg
open Go

/-! ## The laws FnNew.. -/
def irFnNew (E : Env) (fMax fMsg fNew : Nat) : Ir :=
  .seq (.reg [⟨none, some 2, .assign (.const (.bool false)), E.tB⟩])
  (.seq (.reg [⟨none, some 5, .call { callee := .value (.func fMax), args := #[], argTypes := #[] }, E.tInt⟩, ⟨none, some 3, .assign (.tmp 5), E.tInt⟩])
  (.seq (.seq (.reg [⟨none, some 6, .move (.tmp 3), E.tInt⟩, ⟨none, some 7, .binOp .lss E.tInt (.tmp 6) (.const (.int .i64 0)) E.tInt, E.tB⟩])
    (.cond 7 (.seq (.reg [⟨none, some 2, .assign (.const (.bool false)), E.tB⟩]) .ret) .skip))
  (.seq (.reg [⟨none, some 8, .call { callee := .value (.func fMsg), args := #[], argTypes := #[] }, E.t_spec_Message⟩, ⟨none, some 4, .alloc E.t_spec_Message, E.tNil⟩, ⟨none, none, .store E.t_spec_Message (.tmp 4) (.tmp 8), E.tNil⟩])
  (.seq (.regH [
        (true, ⟨none, some 9, .move (.tmp 0), E.tU8⟩),
        (true, ⟨none, some 10, .move (.tmp 3), E.tInt⟩),
        (true, ⟨none, some 13, .load E.t_spec_Message (.tmp 4), E.t_spec_Message⟩),
        (true, ⟨none, some 14, .move (.tmp 0), E.tU8⟩),
        (true, ⟨none, some 15, .move (.tmp 3), E.tInt⟩),
        (true, ⟨none, some 17, .fieldAddr E.t_spec_Message (.tmp 4) 0, E.tNil⟩),
        (true, ⟨none, some 18, .load E.t_l_spec_Field (.tmp 17), E.t_l_spec_Field⟩),
        (false, ⟨none, some 11, .call { callee := .value (.func E.f_laws_version), args := #[.tmp 9, .tmp 10], argTypes := #[E.tU8, E.tInt] }, E.tInt⟩),
        (false, ⟨none, some 12, .call { callee := .value (.func fNew), args := #[.tmp 11], argTypes := #[E.tInt] }, E.tBs⟩),
        (false, ⟨none, some 16, .call { callee := .value (.func E.f_laws_version), args := #[.tmp 14, .tmp 15], argTypes := #[E.tU8, E.tInt] }, E.tInt⟩),
        (false, ⟨none, some 19, .call { callee := .value (.func E.f_spec_Default), args := #[.tmp 18], argTypes := #[E.t_l_spec_Field] }, E.t_spec_Tree⟩),
        (false, ⟨none, some 20, .call { callee := .value (.func E.f_spec_Write), args := #[.tmp 13, .tmp 16, .tmp 19], argTypes := #[E.t_spec_Message, E.tInt, E.t_spec_Tree] }, E.tBs⟩),
        (false, ⟨none, some 21, .call { callee := .value (.func E.f_spec_Same), args := #[.tmp 12, .tmp 20], argTypes := #[E.tBs, E.tBs] }, E.tB⟩),
        (true, ⟨none, some 2, .assign (.tmp 21), E.tB⟩)]) .ret))))

section
variable {P : Program} {E : Env}

structure NewLaw (P : Program) (E : Env) (fMax fMsg fNew : Nat) (M : Nat) (F : FS) (fx : Int) (N : Nat → List UInt8) : Prop where
  max : ∀ w, Ret P fMax #[] w fun u w' => u = .int .i64 M ∧ Ext none1 w w'
  msg : MsgC P fMsg F fx
  new : ∀ v : Nat, v ≤ M → SpC P E.tU8 fNew [.int .i64 v] (N v)
  hM : M < 32768
  ok : F.okAll
  len : F.len ≤ 1000
  same : ∀ v : Nat, v ≤ M → partS F v (flexAt fx v) F.dflT = N v
  short : ∀ v : Nat, v ≤ M → (N v).length ≤ 1099511627776

theorem c_FnNew (ht : TyK P E) (hs : SpecFns P E) (hDf : FnIs P E.f_spec_Default nt_spec_Default (rs_spec_Default E) (ir_spec_Default E)) (hVe : FnIs P E.f_laws_version nt_laws_version (rs_laws_version E) (ir_laws_version E))
    {fMax fMsg fNew M g nt : Nat} {F : FS} {fx : Int} {N : Nat → List UInt8} (hL : NewLaw P E fMax fMsg fNew M F fx N) (hnt : 1 ≤ nt) (hI : FnIs P g nt [.t 2] (irFnNew E fMax fMsg fNew)) (n : Nat) (hn : n < 256) (w : World) :
    Ret P g #[.int .u8 n] w fun u w' => u = .bool true ∧ Ext none1 w w' := by
  have hvM : verOf n M ≤ M := by have := Nat.mod_lt n (show 0 < M + 1 by omega); simp only [verOf]; omega
  have hV := fun w => c_version hVe ht.iU8 ht.iInt n M hn hL.hM w
  refine hI.call (args := [_]) hnt ?_
  simp [irFnNew]
  refine (hL.max w).mono ?_
  rintro _ w1 ⟨rfl, he1⟩
  simp
  refine cw_false (by simp) ?_
  simp
  refine (hL.msg w1).mono ?_
  rintro _ w2 ⟨fv, rfl, hF, he2⟩
  have hzM : zeroOf P E.t_spec_Message = some (.agg #[.slice none 0 0, .int .i64 0]) := ht.zM
  have hzc : (Value.agg #[.slice none 0 0, .int .i64 0]).cells = #[.slice none 0 0, .int .i64 0] := rfl
  have hvo : fv.oneCell' = true := by
    obtain ⟨ls, ha, _⟩ := hF
    obtain ⟨a, c, rfl, _⟩ := ha.form
    rfl
  have ho : allOne [fv, Value.int .i64 fx] = true := by simp only [allOne, hvo, Bool.true_and]; rfl
  have hov : over #[Value.slice none 0 0, .int .i64 0] 0 [fv, Value.int .i64 fx] = #[fv, .int .i64 fx] := by simp [over]
  simp [hzM, hzc, store_agg ht.kM, ho, putK_blk alloc_new, hov]
  generalize hw3 : (w2.alloc (.cells #[.slice none 0 0, .int .i64 0] E.t_spec_Message)).setBlk w2.heap.size (.cells #[fv, .int .i64 fx] E.t_spec_Message (0, 0)) = w3
  have hb3 : w3.heap[w2.heap.size]? = some (.cells #[fv, .int .i64 fx] E.t_spec_Message (0, 0)) := by subst hw3; exact setBlk_same alloc_new
  have he3 : Ext none1 w2 w3 := by subst hw3; exact ((Ext.refl none1 w2).alloc _).setBlk (.inl (Nat.le_refl _)) _
  have lM : ∀ wx, Ext none1 w3 wx → cellsFrom wx ⟨w2.heap.size, 0, none⟩ 0 2 = some [fv, .int .i64 fx] := by
    intro wx hx
    have := cellsFrom_row (hx.old hb3 (fun h => h))
    simpa using this
  have cM : ∀ wx, Ext none1 w3 wx → wx.cell? ⟨w2.heap.size, 0, none⟩ = some fv := by
    intro wx hx
    rw [cell_of_blk (hx.old hb3 (fun h => h))]; rfl
  have hD := (Ext.refl none1 w3).drew
  have hE := he1.trans (he2.trans he3)
  refine cw_regH (Ext none1 w3) hD ?_
  have r3 := Ext.refl none1 w3
  simp +contextual [ld_agg ht.kM, lM, lM w3.drew hD, ht.m0, Addr.add_mk, ld_scl ht.kLF, cM, cM w3 r3]
  refine (hV w3.drew).mono ?_
  rintro _ w4 ⟨rfl, rfl⟩
  simp [hD]
  refine (by simpa using hL.new (verOf n M) hvM w3.drew : Ret P _ _ _ _).mono ?_
  intro v12 w5 h5
  have hD5 := hD.trans h5.2
  simp [hD5]
  refine (hV w5).mono ?_
  rintro _ w6 ⟨rfl, rfl⟩
  simp [hD5]
  refine (sp_Default ht.toTyD hDf F hL.ok hL.len w6 fv (hF.ext (he3.trans hD5))).mono ?_
  rintro _ w7 ⟨lv, rfl, hT, he7⟩
  have hD7 := hD5.trans he7
  simp [hD7]
  have hb := hL.short _ hvM
  have hW := sp_Write ht.toTyM hs (fx := fx) (ver := (verOf n M : Int)) hL.ok hL.len w7 fv _ _ (hF.ext (he3.trans hD7)) hT.tree (by rw [hL.same _ hvM]; exact hb)
  refine hW.mono ?_
  intro v8 w8 h8
  rw [hL.same _ hvM] at h8
  have hD8 := hD7.trans h8.2
  simp [hD8]
  refine (sp_Same ht.toTyG hs w8 All All v12 v8 _ _ ((own_bytes h5.1).ext (K := All) (he7.trans h8.2) (fun _ _ _ h => h)) (own_bytes h8.1) hb).mono ?_
  rintro _ w9 ⟨rfl, he9⟩
  have hD9 := hD8.trans he9
  simp [hD9]
  exact hE.trans hD9
end
end Go.Kg

set_option linter.unusedSimpArgs false
set_option linter.unusedVariables false
namespace Go.Kg
open Go

/-! ## Tags -/
structure TyTg (P : Program) (E : Env) : Prop extends TyWs P E where
  g0 : fldOff P E.t_kmsg_Tags 0 = some 0
  kM : kindOf P E.t_map_uint32_l_uint8 = .scl
  uM : P.underlying E.t_map_uint32_l_uint8 = some (.map E.tU32 E.tBs)
  kBs : kindOf P E.tBs = .scl

section
variable {P : Program} {E : Env} (ht : TyTg P E)
include ht

theorem isM : isMapT P E.t_map_uint32_l_uint8 = true := by simp [isMapT, ht.uM]

theorem c_TLen (hI : FnIs P E.f_pkmsg_Tags_Len nt_pkmsg_Tags_Len (rs_pkmsg_Tags_Len E) (ir_pkmsg_Tags_Len E)) (w : World) (K : Nat → Prop) (b o : Nat) (v : Value) (l : TagL) (hc : w.cell? ⟨b, o, none⟩ = some v) (hl : TagsAt w K v l) :
    Ret P E.f_pkmsg_Tags_Len #[.pointer (some ⟨b, o, none⟩)] w fun u w' => u = .int .i64 l.length ∧ w' = w := by
  refine hI.call (args := [_]) (by simp [nt_pkmsg_Tags_Len]) ?_
  simp [ir_pkmsg_Tags_Len, rs_pkmsg_Tags_Len, ht.g0, Addr.add_mk, ld_scl ht.kM, hc]
  rcases hl with ⟨rfl, rfl⟩ | ⟨bb, es, clock, rfl, _, hb, hs, _⟩
  · simp [isM ht, mapLen?]
  · simp [isM ht, mapLen?, hb, hs]

/-- No tags: Each does nothing. -/
theorem c_Each0 (hI : FnIs P E.f_pkmsg_Tags_Each nt_pkmsg_Tags_Each (rs_pkmsg_Tags_Each E) (ir_pkmsg_Tags_Each E)) (w : World) (b o : Nat) (v fn : Value) (K : Nat → Prop) (hc : w.cell? ⟨b, o, none⟩ = some v) (hl : TagsAt w K v []) :
    Ret P E.f_pkmsg_Tags_Each #[.pointer (some ⟨b, o, none⟩), fn] w fun u w' => w' = w := by
  refine hI.call (args := [_, _]) (by simp [nt_pkmsg_Tags_Each]) ?_
  have hlen : mapLen? w (match v with | .map m => m | _ => none) = some (.int .i64 0) ∧ ∃ m, v = .map m := by
    rcases hl with ⟨rfl, _⟩ | ⟨bb, es, clock, rfl, _, hb, hs, _⟩
    · exact ⟨rfl, _, rfl⟩
    · refine ⟨?_, _, rfl⟩
      simp only [mapLen?, hb]
      simp at hs
      simp [hs]
  obtain ⟨h1, m, rfl⟩ := hlen
  simp only at h1
  simp [ir_pkmsg_Tags_Each, rs_pkmsg_Tags_Each, ht.g0, Addr.add_mk, ld_scl ht.kM, hc, isM ht, h1]
  refine cw_true (by simp) ?_
  simp

theorem c_AppendEach0 (hI : FnIs P E.f_pkmsg_Tags_AppendEach nt_pkmsg_Tags_AppendEach (rs_pkmsg_Tags_AppendEach E) (ir_pkmsg_Tags_AppendEach E))
    (hE : ∀ w b o v fn K, w.cell? ⟨b, o, none⟩ = some v → TagsAt w K v [] → Ret P E.f_pkmsg_Tags_Each #[.pointer (some ⟨b, o, none⟩), fn] w fun u w' => w' = w)
    (w : World) (base : Nat) (v : Value) (s : List UInt8) (b o : Nat) (u : Value) (hb : b < base) (hc : w.cell? ⟨b, o, none⟩ = some u) (hl : TagsAt w (· < base) u []) (ho : OwnB E.tU8 w base v s) (hbs : base ≤ w.heap.size) :
    Ret P E.f_pkmsg_Tags_AppendEach #[.pointer (some ⟨b, o, none⟩), v] w fun v' w' => OwnB E.tU8 w' base v' s ∧ Grew w v w' v' := by
  refine hI.call (args := [_, _]) (by simp [nt_pkmsg_Tags_AppendEach]) ?_
  have hvc : v.cells = #[v] := by
    obtain ⟨n, _, h⟩ := ho
    rcases h with ⟨rfl, _⟩ | ⟨g, cap, cur, rfl, _⟩ <;> rfl
  have hX := (Ext.refl none1 w).alloc (.cells #[v] E.tBs)
  have hb2 : (w.alloc (.cells #[v] E.tBs)).heap[w.heap.size]? = some (.cells #[v] E.tBs (0, 0)) := alloc_new
  simp [ir_pkmsg_Tags_AppendEach, rs_pkmsg_Tags_AppendEach, hvc]
  refine (hE _ b o u _ (· < base) (hX.cell hc (fun h => h)) (hl.ext hX (fun _ _ _ h => h))).mono ?_
  rintro _ w' rfl
  have c0 : (w.alloc (.cells #[v] E.tBs)).cell? ⟨w.heap.size, 0, none⟩ = some v := by rw [cell_of_blk hb2]; rfl
  simp [ld_scl ht.kBs, c0]
  exact ⟨Own.ext ho hX (fun _ _ h => h), ⟨hX.mono (fun _ _ h => h.elim), fun _ h => .inl h⟩⟩

/-- Where no tags are met. -/
theorem tagsC0 (hL : ∀ w K b o v l, w.cell? ⟨b, o, none⟩ = some v → TagsAt w K v l → Ret P E.f_pkmsg_Tags_Len #[.pointer (some ⟨b, o, none⟩)] w fun u w' => u = .int .i64 (l : TagL).length ∧ w' = w)
    (hA : ∀ w base v s b o u, b < base → w.cell? ⟨b, o, none⟩ = some u → TagsAt w (· < base) u [] → OwnB E.tU8 w base v s → base ≤ w.heap.size →
      Ret P E.f_pkmsg_Tags_AppendEach #[.pointer (some ⟨b, o, none⟩), v] w fun v' w' => OwnB E.tU8 w' base v' s ∧ Grew w v w' v')
    (hU : ∀ n : Nat, n < 4294967296 → WrC P E.tU8 E.f_kbin_AppendUvarint [.int .u32 n] (uvOut n)) : TagsC P E (· = []) := by
  refine ⟨hL, ?_, hU⟩
  rintro w base v s b o u l rfl hb hc hl ho hbs _
  have := hA w base v s b o u hb hc hl ho hbs
  simpa [tagsOut, sortTags] using this
end
end Go.Kg

set_option linter.unusedSimpArgs false
set_option linter.unusedVariables false
namespace Go.Kg
open Go

section
variable {P : Program} {C : Cfg}

theorem primW_bool (h : ∀ b, WrC P C.E.tU8 C.E.f_kbin_AppendBool [.bool b] [if b then 1 else 0]) : PrimW P C .bool := by
  intro fl _ x u w base v s hp
  have : u = .bool x := hp
  subst this
  exact h x w base v s
theorem primW_i8 (h : ∀ n : Int, WrC P C.E.tU8 C.E.f_kbin_AppendInt8 [.int .i8 n] [bval n]) : PrimW P C .i8 := by
  intro fl _ x u w base v s hp
  have : u = .int .i8 x := hp
  subst this
  exact h x w base v s
theorem primW_i16 (h : ∀ n : Int, WrC P C.E.tU8 C.E.f_kbin_AppendInt16 [.int .i16 n] (bigE 2 (n % 65536).toNat)) : PrimW P C .i16 := by
  intro fl _ x u w base v s hp
  have : u = .int .i16 x := hp
  subst this
  exact h x w base v s
theorem primW_u16 (h : ∀ n : Nat, WrC P C.E.tU8 C.E.f_kbin_AppendUint16 [.int .u16 n] (bigE 2 n)) : PrimW P C .u16 := by
  intro fl _ x u w base v s hp
  obtain ⟨m, hm, hlt, rfl⟩ := hp
  have e : Prim.wr .u16 fl x = bigE 2 m := by
    simp only [Prim.wr, num]
    have hm' : x = (m : Int) := hm
    rw [hm']
    congr 1
    omega
  rw [e]
  exact h m w base v s
theorem primW_i32 (h : ∀ n : Int, WrC P C.E.tU8 C.E.f_kbin_AppendInt32 [.int .i32 n] (bigE 4 (n % 4294967296).toNat)) : PrimW P C .i32 := by
  intro fl _ x u w base v s hp
  have : u = .int .i32 x := hp
  subst this
  exact h x w base v s
theorem primW_i64 (h : ∀ n : Int, WrC P C.E.tU8 C.E.f_kbin_AppendInt64 [.int .i64 n] (bigE 8 (n % 18446744073709551616).toNat)) : PrimW P C .i64 := by
  intro fl _ x u w base v s hp
  have : u = .int .i64 x := hp
  subst this
  exact h x w base v s
theorem primW_uuid (h : ∀ l : List UInt8, l.length = 16 → WrC P C.E.tU8 C.E.f_kbin_AppendUuid [.agg (cellsOf l).toArray] l) : PrimW P C .uuid := by
  intro fl _ x u w base v s hp
  obtain ⟨rfl, hl⟩ := hp
  exact h x hl w base v s
theorem primW_str (h : ∀ l, WrC P C.E.tU8 C.E.f_kbin_AppendString [strV l] (wStr l)) (hc : C.fx = true → ∀ l, WrC P C.E.tU8 C.E.f_kbin_AppendCompactString [strV l] (wCStr l)) : PrimW P C .str := by
  intro fl hfl x u w base v s hp
  have : u = strV x := hp
  subst this
  cases fl
  · exact h x w base v s
  · exact hc (hfl rfl) x w base v s
theorem primW_nstr (h : ∀ o u, WrP P C.E.tU8 C.E.f_kbin_AppendNullableString (fun w base => StrPtr w (· < base) u o) [u] (wNStr o))
    (hc : C.fx = true → ∀ o u, WrP P C.E.tU8 C.E.f_kbin_AppendCompactNullableString (fun w base => StrPtr w (· < base) u o) [u] (wCNStr o)) : PrimW P C .nstr := by
  intro fl hfl x u
  cases fl
  · exact h x u
  · exact hc (hfl rfl) x u
theorem primW_bytes (h : ∀ l u, WrP P C.E.tU8 C.E.f_kbin_AppendBytes (fun w base => BytesAt w (· < base) u l) [u] (wBytes l))
    (hc : C.fx = true → ∀ l u, WrP P C.E.tU8 C.E.f_kbin_AppendCompactBytes (fun w base => BytesAt w (· < base) u l) [u] (wCBytes l)) : PrimW P C .bytes := by
  intro fl hfl x u
  cases fl
  · exact h x u
  · exact hc (hfl rfl) x u
theorem primW_nbytes (h : ∀ o u, WrP P C.E.tU8 C.E.f_kbin_AppendNullableBytes (fun w base => BytesOpt w (· < base) u o) [u] (wNBytes o))
    (hc : C.fx = true → ∀ o u, WrP P C.E.tU8 C.E.f_kbin_AppendCompactNullableBytes (fun w base => BytesOpt w (· < base) u o) [u] (wCNBytes o)) : PrimW P C .nbytes := by
  intro fl hfl x u
  cases fl
  · exact h x u
  · exact hc (hfl rfl) x u
theorem lenWC_none (h : ∀ n : Nat, WrC P C.E.tU8 C.E.f_kbin_AppendArrayLen [.int .i64 n] (wLen n)) (hc : C.fx = true → ∀ n : Nat, WrC P C.E.tU8 C.E.f_kbin_AppendCompactArrayLen [.int .i64 n] (wCLen n)) : LenWC P C none := by
  intro fl hfl n b
  cases fl
  · exact h n
  · exact hc (hfl rfl) n
theorem lenWC_some {m : Nat} (h : ∀ (n : Nat) (b : Bool), WrC P C.E.tU8 C.E.f_kbin_AppendNullableArrayLen [.int .i64 n, .bool b] (wNLen n b)) (hc : C.fx = true → ∀ (n : Nat) (b : Bool), WrC P C.E.tU8 C.E.f_kbin_AppendCompactNullableArrayLen [.int .i64 n, .bool b] (wCNLen n b)) : LenWC P C (some m) := by
  intro fl hfl n b
  cases fl
  · exact h n b
  · exact hc (hfl rfl) n b
end
end Go.Kg

set_option linter.unusedSimpArgs false
set_option linter.unusedVariables false
namespace Go.Kg
open Go Go.ChangeShapes Go.WideShapes Go.ChangeAt Go.RowKit

/-! ## What a seat's text lays -/
theorem FnIs.of {P : Program} {g N : Nat} {rs : List Rv} {ir : Ir} {fn : Func} (hm : P.follows .mixedOrders = true) (h1 : P.funcs[g]? = some fn) (h2 : fn.body.bind (erase N) = some ir) (h3 : fn.ntmps = N)
    (h4 : fn.results = (rs.map Rv.var).toArray) (h5 : (fn.name == "runtime.NumGoroutine") = false) : FnIs P g N rs ir := by
  refine ⟨hm, ?_⟩
  cases hb : fn.body with
  | none => rw [hb] at h2; cases h2
  | some c => rw [hb] at h2; exact ⟨fn, c, h1, hb, h3, h4, h5, h2⟩

theorem sli_of {P : Program} {t e s bytes : Nat} {z : Value} (hu : P.underlying t = some (.slice e)) (hi : (P.info? e).map (fun i => (i.zero, i.size, i.bytes)) = some (some z, s, bytes)) (hz : z.cells.size = s) : SliI P t e s bytes z := by
  refine ⟨hu, ?_, hz⟩
  cases h : P.info? e with
  | none => rw [h] at hi; cases hi
  | some i => rw [h] at hi; simp at hi; exact ⟨i, rfl, hi.1, hi.2.1, hi.2.2⟩

def FH.okB (h : FH) : Bool := decide (-1 ≤ h.tag) && decide (h.tag < 1000) && decide (-9223372036854775808 ≤ h.dflt) && decide (h.dflt < 9223372036854775808)
def FS.okB : FS → Bool
  | .nil => true
  | .cons h sub rest => h.okB && decide (sub.len ≤ 1000) && sub.okB && rest.okB
theorem FS.ok_of : ∀ {F : FS}, F.okB = true → F.okAll
  | .nil, _ => trivial
  | .cons h sub rest, hb => by
    simp only [FS.okB, FH.okB, Bool.and_eq_true, decide_eq_true_eq] at hb
    exact ⟨⟨hb.1.1.1.1.1.1, hb.1.1.1.1.1.2⟩, ⟨hb.1.1.1.1.2, hb.1.1.1.2⟩, hb.1.1.2, FS.ok_of hb.1.2, FS.ok_of hb.2⟩

def psNe (xs : List FSrc) : Bool := !xs.isEmpty && decide (xs.length ≤ 1000) && xs.all fun x => !x.ps.isEmpty && psOk x.ps
theorem psNe_of {xs : List FSrc} (h : psNe xs = true) : xs ≠ [] ∧ xs.length ≤ 1000 ∧ (∀ x ∈ xs, x.ps ≠ []) ∧ ∀ x ∈ xs, psOk x.ps = true := by
  simp only [psNe, Bool.and_eq_true, List.all_eq_true, Bool.not_eq_true', List.isEmpty_eq_false_iff, decide_eq_true_eq] at h
  exact ⟨h.1.1, h.1.2, fun x hx => (h.2 x hx).1, fun x hx => (h.2 x hx).2⟩
/-- the functions of a message's own lists -/
def subsOk (P : Program) : List FSrc → Prop
  | [] => True
  | x :: r => (∀ g F, x.sub = some (g, F) → SubC P g F) ∧ subsOk P r
theorem srcOk_of {P : Program} : ∀ {xs : List FSrc}, (∀ x ∈ xs, psOk x.ps = true) → subsOk P xs → srcOk P xs
  | [], _, _ => trivial
  | x :: r, h, hs => ⟨h x List.mem_cons_self, hs.1, srcOk_of (fun y hy => h y (List.mem_cons_of_mem _ hy)) hs.2⟩

theorem sub_of {P : Program} {E : Env} (ht : TyK P E) {g nt : Nat} {xs : List FSrc} (hI : FnIs P g nt [.t 0] (irSub E xs)) (hb : psNe xs = true) (hs : subsOk P xs) : SubC P g (mkFS xs) := by
  obtain ⟨h1, h2, h3, h4⟩ := psNe_of hb
  exact sub_sound ht hI h1 h2 (srcOk_of h4 hs) h3
theorem msg_of {P : Program} {E : Env} (ht : TyK P E) {g nt : Nat} {xs : List FSrc} {fx : Int} (hI : FnIs P g nt [.c 0 E.t_spec_Message] (irMsg E xs fx)) (hb : psNe xs = true) (hs : subsOk P xs) : MsgC P g (mkFS xs) fx := by
  obtain ⟨h1, h2, h3, h4⟩ := psNe_of hb
  exact msg_sound ht hI h1 h2 (srcOk_of h4 hs) h3

/-- what a new message is written as, in both ways, at all versions -/
def newChk (F : FS) (fx : Int) (S : Sch) (C : Cfg) (flex M : Nat) : Bool :=
  (List.range (M + 1)).all fun v => (partS F v (flexAt fx v) F.dflT == S.wr v (flagAt C flex v) S.dfl) && decide ((S.wr v (flagAt C flex v) S.dfl).length ≤ 1099511627776)
theorem newChk_of {F : FS} {fx : Int} {S : Sch} {C : Cfg} {flex M : Nat} (h : newChk F fx S C flex M = true) : ∀ v : Nat, v ≤ M → partS F v (flexAt fx v) F.dflT = S.wr v (flagAt C flex v) S.dfl ∧ (S.wr v (flagAt C flex v) S.dfl).length ≤ 1099511627776 := by
  intro v hv
  have := List.all_eq_true.1 h v (by simp; omega)
  simp only [Bool.and_eq_true, beq_iff_eq, decide_eq_true_eq] at this
  exact this

theorem ext_kept {w w' : World} (h : Ext none1 w w') (may : MemPlace → Prop) : w.keptBut w' may := by
  refine ⟨h.os, h.output, fun i hi => ?_⟩
  rw [h.block i hi (fun h => h)]
  have : ∃ o, w.heap[i]? = some o := ⟨_, Array.getElem?_eq_getElem hi⟩
  obtain ⟨o, ho⟩ := this
  rw [ho]
  cases o <;> simp
theorem ext_frozen {w w' : World} (h : Ext none1 w w') (a : Addr) (ha : a.block < w.heap.size) : w'.frozen? a = w.frozen? a := by
  simp only [World.frozen?, h.block a.block ha (fun h => h)]

theorem post_of_ext {H : Type} {enc : TypeId × Value → H} {P : Program} {f : Func} {s : ChangeSpec} {apart fresh handsOn again : Bool} {W W' : World} {args : Array Value} {v : Value} {ds gs : List (DataW H)} {before pa pv : List MemPlace}
    (hW : DataW.Whole enc P f.params.toList s.vars apart W args.toList ds gs before)
    (hres : ∀ (b : Nat) (sp : Nat → Bool) (hd : Bool), DataW.TrodAll enc P W' b sp hd f.resultTypes.toList (v.resultList f.resultTypes.size) (s.fn H (ds ++ gs)).results [])
    (hargs : ∀ sp : Nat → Bool, (∀ p ∈ before, sp p.block = true) → DataW.TrodAll enc P W' 0 sp true f.params.toList args.toList (s.fn H (ds ++ gs)).args pa)
    (hvars : ∀ sp : Nat → Bool, (∀ p ∈ before, sp p.block = true) → DataW.TrodVars enc P W' sp s.vars (s.fn H (ds ++ gs)).vars pv)
    (hps : before = pa ++ pv) (he : Ext none1 W W')
    (hok : ∀ (j : Nat) (t : TypeId) (r : Value), f.resultTypes[j]? = some t → (v.resultList f.resultTypes.size)[j]? = some r → Value.okWide P W' .any 0 t r) :
    s.post enc P f apart fresh handsOn again W args v W' := by
  have hold : ∀ p ∈ before, (fun b => decide (b < W.heap.size)) p.block = true := fun p hp => by simpa using hW.lt p hp
  have hlt := hW.lt
  refine ⟨ds, gs, before, [], pa, pv, hW, hres _ _ _, hargs _ hold, hvars _ hold, World.keptBut_mono (fun p hp => ⟨hp, ?_⟩) (ext_kept he (· ∈ before)), fun _ => ?_⟩
  · rw [hps, List.mem_append] at hp
    exact Or.inr hp
  · obtain ⟨_, _, _, _, _, hz, hn⟩ := hW
    refine ⟨hok, _, _, ([] ++ pa) ++ pv, ⟨[] ++ pa, pv, trodAll_append (hargs _ (fun _ _ => rfl)) (hres _ _ _), hvars _ (fun _ _ => rfl), rfl, ?_, ?_⟩, ?_⟩
    · intro b off hp
      have hp' : MemPlace.cell b off ∈ before := by rw [hps]; simpa using hp
      rw [ext_frozen he _ (hlt _ hp')]
      exact hz b off hp'
    · intro ha
      have := hn ha
      rw [hps] at this
      simpa using this
    · intro p hp _
      rw [hps]
      simpa using hp
end Go.Kg

set_option linter.unusedSimpArgs false
set_option linter.unusedVariables false
namespace Go.Kg
open Go Go.ChangeShapes Go.WideShapes Go.ChangeAt Go.RowKit

/-! ## From a row's inputs to what the walks ask -/
/-- an argument reads behind the call as it did -/
theorem ext_trod {H : Type} {enc : TypeId × Value → H} {P : Program} {t : TypeId} (hl : laidOutB P = true) (hr : P.readableRec t = true) (hrow : t < P.types.size) {W W' : World} {v : Value} {d : DataW H} {ps : List MemPlace}
    (h : DataW.Trod enc P W 0 (fun _ => true) true t v d ps) (he : Ext none1 W W') (hlt : ∀ x ∈ ps, x.block < W.heap.size) {sp : Nat → Bool} (hs : ∀ p ∈ ps, sp p.block = true) : DataW.Trod enc P W' 0 sp true t v d ps := by
  have hb : Below W.heap.size W W' := ⟨he.os, he.tape, he.output, he.size, fun k hk => he.block k hk (fun h => h)⟩
  exact WideElems.Trod_stays hl hr hrow h (fun x hx => hb.same (hlt x hx)) hs

/-- bytes -/
theorem open_bytesAt {H : Type} {enc : TypeId × Value → H} {P : Program} {t e : TypeId} (ht : P.underlying t = some (.slice e)) (he : P.underlying e = some (.int .u8)) (hc : P.cellsOf e = 1) {W : World} {base : Nat} {v : Value} {d : DataW H} {ps : List MemPlace}
    (hval : Value.okWide P W .any base t v) (h : DataW.Trod enc P W 0 (fun _ => true) true t v d ps) : ∃ s, BytesAt W All v s := by
  obtain ⟨n, hn⟩ := h
  have hsp : ∀ a len cap, v = .slice (some a) len cap → a.spot = none := by
    rintro a len cap rfl
    simp only [Value.okWide, ht, Cell.okWide, Cell.ok] at hval
    exact hval.2.2.2.1
  obtain ⟨a0, l0, c0, rfl⟩ := okWide_slice ht hval
  have hcs : (Value.slice a0 l0 c0).cells.toList = [.slice a0 l0 c0] := rfl
  rw [hcs] at hn
  rcases open_ints ht he hc hn with ⟨h1, _⟩ | ⟨a, len, cap, zs, h1, hb, hl, hm, hzl, hx, hcell, hwf⟩
  · cases h1
    exact ⟨[], .inl ⟨⟨_, rfl⟩, rfl⟩⟩
  · cases h1
    have hs := hsp a l0 c0 rfl
    obtain ⟨ab, ao, sp⟩ := a
    simp only at hs
    subst hs
    simp only [if_true] at hzl
    have hlen : (zs.take l0).length = l0 := by simp; omega
    refine ⟨(zs.take l0).map fun z => UInt8.ofNat z.toNat, .inr ⟨ab, ao, c0, by rw [List.length_map, hlen], by rw [List.length_map, hlen]; exact hl, fun _ => trivial, fun i x hx => ?_⟩⟩
    rw [List.getElem?_map, Option.map_eq_some_iff] at hx
    obtain ⟨z, hz, rfl⟩ := hx
    rw [List.getElem?_take] at hz
    split at hz
    · obtain ⟨hi, hzz⟩ := List.getElem?_eq_some_iff.1 hz
      have hc1 := hcell i hi
      rw [Addr.add_mk, List.getD_eq_getElem?_getD, hz] at hc1
      have hw := hwf z (List.mem_of_getElem? hz)
      simp [Lit.wf, IntKind.min, IntKind.max, IntKind.signed, IntKind.bits] at hw
      rw [hc1]
      simp
      omega
    · cases hz
end Go.Kg

set_option linter.unusedSimpArgs false
set_option linter.unusedVariables false
namespace Go.Kg
open Go Go.ChangeShapes Go.WideShapes Go.ChangeAt Go.RowKit

/-! ## How much a tree holds; how much is written of it -/
mutual
def Tr.sz : Tr → Nat
  | .mk _ s _ l u => 1 + s.length + Tr.szL l + (u.map fun x => 1 + x.2.length).sum
def Tr.szL : List Tr → Nat
  | [] => 0
  | t :: l => t.sz + Tr.szL l
end
theorem Tr.sz_pos (t : Tr) : 1 ≤ t.sz := by cases t; simp only [Tr.sz]; omega
theorem Tr.sz_mem : ∀ {l : List Tr} {t : Tr}, t ∈ l → t.sz ≤ Tr.szL l
  | x :: l, t, h => by
    simp only [Tr.szL]
    rcases List.mem_cons.1 h with rfl | h
    · omega
    · have := Tr.sz_mem h; omega
theorem Tr.szL_len : ∀ l : List Tr, l.length ≤ Tr.szL l
  | [] => by simp [Tr.szL]
  | t :: l => by have := t.sz_pos; have := Tr.szL_len l; simp only [Tr.szL, List.length_cons]; omega
theorem Tr.szL_le (t : Tr) : Tr.szL t.l + 1 ≤ t.sz := by cases t; simp only [Tr.sz, Tr.l]; omega
theorem Tr.sz_at (t : Tr) (i : Nat) : (t.at i).sz ≤ t.sz := by
  unfold Tr.at
  cases h : t.l[i]? with
  | none => simp only [Option.getD_none]; have := t.sz_pos; simp [Tr.none, Tr.sz, Tr.szL]; omega
  | some x => have := Tr.sz_mem (List.mem_of_getElem? h); have := t.szL_le; simp only [Option.getD_some]; omega

def Prim.wt : Prim → Nat
  | .str | .nstr | .bytes | .nbytes => 32772
  | _ => 16
def Sch.wt : Sch → Nat
  | .fin => 1
  | .tags _ _ => 15
  | .prim _ _ _ p _ _ r => p.wt + r.wt
  | .arrP _ _ _ _ _ p r => 5 + p.wt + r.wt
  | .arrS _ _ _ _ _ _ _ _ _ e r => 5 + e.wt + r.wt

theorem prim_wt (p : Prim) (fl : Bool) (x : p.T) (h : p.wf x) : (p.wr fl x).length ≤ p.wt := by
  have hc := prim_cap p fl x h
  cases p <;> first | exact hc | skip
  all_goals simp [Prim.wr, Prim.wt, num]
  · have hx : (x : List UInt8).length = 16 := h
    exact Nat.le_of_eq hx

theorem counted_len (fl nul : Bool) (n k : Nat) (hn : n ≤ 32767) (hk : k ≤ 4) : (countedS fl nul n k).length ≤ 5 := by
  unfold countedS
  split
  · simp
  · split
    · exact @uvS_len 4 (n + 1) (by omega)
    · split <;> simp [fixE_len] <;> omega

theorem flat_wt {f : Tr → List UInt8} {c : Nat} : ∀ (l : List Tr) (k : Nat), (∀ t ∈ l, (f t).length ≤ c * t.sz) → ((l.take k).flatMap f).length ≤ c * Tr.szL l
  | [], k, _ => by simp
  | t :: l, 0, _ => by simp
  | t :: l, k + 1, h => by
    have h1 := h t List.mem_cons_self
    have h2 := flat_wt l k (fun x hx => h x (List.mem_cons_of_mem _ hx))
    simp only [List.take_succ_cons, List.flatMap_cons, List.length_append, Tr.szL, Nat.mul_add]; omega

def tagWt (l : TagL) : Nat := (l.map fun x => 10 + x.2.length).sum
theorem insU_wt {least : Nat} {x : Nat × List UInt8} : ∀ {l : TagL}, tagWt (insU least x l) ≤ 10 + x.2.length + tagWt l
  | [] => by unfold insU; split <;> simp [tagWt]
  | y :: l => by
    have ih := @insU_wt least x l
    simp only [tagWt] at ih ⊢
    unfold insU; split
    · simp
    · simp only
      split
      · simp only [List.map_cons, List.sum_cons]; omega
      · split
        · simp
        · simp
theorem unkS_wt (least : Nat) (u : TagL) : tagWt (unkS least u) ≤ tagWt u := by
  have : ∀ (l out : TagL), tagWt (l.foldl (fun out x => insU least x out) out) ≤ tagWt out + tagWt l := by
    intro l
    induction l with
    | nil => intro out; simp [tagWt]
    | cons y l ih =>
      intro out
      have h1 := ih (insU least y out)
      have h2 := @insU_wt least y out
      have h3 : tagWt (y :: l) = 10 + y.2.length + tagWt l := by simp [tagWt]
      simp only [List.foldl_cons]
      omega
  have h1 : tagWt (unkS least u) ≤ tagWt ([] : TagL) + tagWt (u.take 32767) := this (u.take 32767) []
  have h2 : ∀ (l : TagL) (k : Nat), tagWt (l.take k) ≤ tagWt l := by
    intro l
    induction l with
    | nil => intro k; simp [tagWt]
    | cons y l ih =>
      intro k
      cases k with
      | zero => simp [tagWt]
      | succ k =>
        have h3 : tagWt (y :: l) = 10 + y.2.length + tagWt l := by simp [tagWt]
        have h4 : tagWt (y :: l.take k) = 10 + y.2.length + tagWt (l.take k) := by simp [tagWt]
        have := ih k
        rw [List.take_succ_cons]; omega
  have h3 := h2 u 32767
  have h4 : tagWt ([] : TagL) = 0 := rfl
  omega
theorem tagWt_sz (u : TagL) : tagWt u ≤ 10 * (u.map fun x => 1 + x.2.length).sum := by
  induction u with
  | nil => simp [tagWt]
  | cons x u ih =>
    have h3 : tagWt (x :: u) = 10 + x.2.length + tagWt u := by simp [tagWt]
    simp only [List.map_cons, List.sum_cons]; omega
theorem tail_wt (fl : Bool) (t : Tr) (ht : t.Ok) : (tailS fl t).length ≤ 15 * t.sz := by
  unfold tailS
  cases fl
  · simp
  simp only [if_true, List.length_append]
  obtain ⟨_, h2, h3⟩ := unkS_spec 0 t.u
  have hw := unkS_wt 0 t.u
  have hz := tagWt_sz t.u
  have hsz : (t.u.map fun x => 1 + x.2.length).sum + 1 ≤ t.sz := by cases t; simp only [Tr.sz, Tr.u]; omega
  have hq : ∀ (q : TagL), (∀ x ∈ q, x ∈ t.u) → ((q.map fun x => (x.1, x.2.take 32767)).flatMap fun x => tagS x.1 x.2).length ≤ tagWt q := by
    intro q
    induction q with
    | nil => intro _; simp
    | cons x q ih =>
      intro hx
      have h1 := ih (fun y hy => hx y (List.mem_cons_of_mem _ hy))
      have hx1 := ht.u x (hx x List.mem_cons_self)
      have a := @uvS_len 4 x.1 (by omega)
      have b := @uvS_len 4 (x.2.take 32767).length (by simp; omega)
      have c : tagWt (x :: q) = 10 + x.2.length + tagWt q := by simp [tagWt]
      have d : (x.2.take 32767).length ≤ x.2.length := by simp; omega
      have e : (tagS x.1 (x.2.take 32767)).length = (uvS x.1).length + (uvS (x.2.take 32767).length).length + (x.2.take 32767).length := by simp only [tagS, List.length_append]
      simp only [List.map_cons, List.flatMap_cons, List.length_append]
      omega
  have h5 := hq _ h3
  have h6 := @uvS_len 4 ((unkS 0 t.u).map fun x => (x.1, x.2.take 32767)).length (by simp; omega)
  omega

theorem part_wt {M : Nat} {flx : Nat → Bool} {v : Nat} (hv : v ≤ M) : ∀ (S : Sch) (F : FS) (n : Nat) (t : Tr), fitS M flx F S = true → t.Ok → (plainS F v (flx v) n t ++ tailS (flx v) t).length ≤ S.wt * t.sz := by
  intro S
  induction S with
  | fin =>
    intro F n t hb ht
    cases F with
    | cons h sub rest => simp [fitS] at hb
    | nil =>
      have := List.all_eq_true.1 hb v (by simp; omega)
      have hf : flx v = false := by simpa using this
      simp [plainS, tailS, hf, FS.list]
  | tags k o =>
    intro F n t hb ht
    cases F with
    | cons h sub rest => simp [fitS] at hb
    | nil =>
      have := tail_wt (flx v) t ht
      simpa [plainS, FS.list, Sch.wt] using this
  | prim g k o p en d r ih =>
    intro F n t hb ht
    cases F with
    | nil => simp [fitS] at hb
    | cons h sub rest =>
      simp only [fitS, Bool.and_eq_true, decide_eq_true_eq, Bool.or_eq_true, Bool.not_eq_true'] at hb
      obtain ⟨⟨⟨⟨htag, hon⟩, hkind⟩, hnul⟩, hrest⟩ := hb
      have h1 := ih rest (n + 1) t hrest ht
      have hgo := onAt_of hon hv
      have hps : plainS (.cons h sub rest) v (flx v) n t = (if h.tag < 0 ∧ h.has v = true then fieldS ⟨h, partL (sub.list v (flx v)) v (flx v), usualL (sub.list v (flx v)), knownL ((sub.list v (flx v)).map (·.h))⟩ v (flx v) (t.at n) else []) ++ plainS rest v (flx v) (n + 1) t := by
        simp [plainS, FS.list, List.zipIdx_cons]
      rw [hps, ← hgo]
      have hp := t.sz_pos
      have hwp : p.wt ≤ p.wt * t.sz := Nat.le_mul_of_pos_right _ hp
      simp only [List.length_append] at h1 ⊢
      simp only [Sch.wt, Nat.add_mul]
      cases hg : g.on v
      · simp; omega
      · have hfk : fieldS ⟨h, partL (sub.list v (flx v)) v (flx v), usualL (sub.list v (flx v)), knownL ((sub.list v (flx v)).map (·.h))⟩ v (flx v) (t.at n) = valS (primK p) (partL (sub.list v (flx v)) v (flx v)) (h.isNull v (t.at n).nul) (flx v) (t.at n) := by
          have h11 : ¬ (primK p = 11) := by cases p <;> simp [primK]
          have h10 : ¬ (primK p = 10) := by cases p <;> simp [primK]
          simp only [fieldS, hkind, if_neg h11, h10, false_and, if_false]
        obtain ⟨x, hx1, hx2⟩ := valS_prim p (partL (sub.list v (flx v)) v (flx v)) (h.isNull v (t.at n).nul) (flx v) (t.at n) (fun htx => by
          rcases hnul with h' | h'
          · rw [htx] at h'; cases h'
          · exact nnAt_of h' hv hg _)
        have := prim_wt p (flx v) x hx2
        rw [hx1] at this
        simp only [htag, true_and, if_true, hfk]; omega
  | arrP g k o sT nul p r ih =>
    intro F n t hb ht
    cases F with
    | nil => simp [fitS] at hb
    | cons h sub rest =>
      simp only [fitS, Bool.and_eq_true, decide_eq_true_eq] at hb
      obtain ⟨⟨⟨⟨⟨htag, hon⟩, hkind⟩, hof⟩, hnul⟩, hrest⟩ := hb
      have h1 := ih rest (n + 1) t hrest ht
      have hgo := onAt_of hon hv
      have hps : plainS (.cons h sub rest) v (flx v) n t = (if h.tag < 0 ∧ h.has v = true then fieldS ⟨h, partL (sub.list v (flx v)) v (flx v), usualL (sub.list v (flx v)), knownL ((sub.list v (flx v)).map (·.h))⟩ v (flx v) (t.at n) else []) ++ plainS rest v (flx v) (n + 1) t := by
        simp [plainS, FS.list, List.zipIdx_cons]
      rw [hps, ← hgo]
      have hp := t.sz_pos
      simp only [List.length_append] at h1 ⊢
      simp only [Sch.wt, Nat.add_mul]
      cases hg : g.on v
      · simp; omega
      · have hc := counted_len (flx v) (h.isNull v (t.at n).nul) (if h.isNull v (t.at n).nul then [] else (t.at n).l.take 32767).length 4 (by split <;> simp <;> omega) (by omega)
        have hf : ((if h.isNull v (t.at n).nul then [] else (t.at n).l.take 32767).flatMap (valS (primK p) (partL (sub.list v (flx v)) v (flx v)) false (flx v))).length ≤ p.wt * t.sz := by
          have h2 := flat_wt (c := p.wt) (f := valS (primK p) (partL (sub.list v (flx v)) v (flx v)) false (flx v)) (t.at n).l 32767 (fun x _ => by
            obtain ⟨y, hy1, hy2⟩ := valS_prim p (partL (sub.list v (flx v)) v (flx v)) false (flx v) x (fun _ => rfl)
            have := prim_wt p (flx v) y hy2
            rw [hy1] at this
            exact Nat.le_trans this (Nat.le_mul_of_pos_right _ x.sz_pos))
          have h3 : p.wt * Tr.szL (t.at n).l ≤ p.wt * t.sz := Nat.mul_le_mul_left _ (by have := (t.at n).szL_le; have := t.sz_at n; omega)
          split
          · simp
          · omega
        simp only [htag, true_and, if_true, fieldS, hkind, hof, List.length_append]; omega
  | arrS g k o sT nul T PT sz df e r ihe ih =>
    intro F n t hb ht
    cases F with
    | nil => simp [fitS] at hb
    | cons h sub rest =>
      simp only [fitS, Bool.and_eq_true, decide_eq_true_eq] at hb
      obtain ⟨⟨⟨⟨⟨⟨htag, hon⟩, hkind⟩, hof⟩, hnul⟩, hsub⟩, hrest⟩ := hb
      have h1 := ih rest (n + 1) t hrest ht
      have hgo := onAt_of hon hv
      have hps : plainS (.cons h sub rest) v (flx v) n t = (if h.tag < 0 ∧ h.has v = true then fieldS ⟨h, partL (sub.list v (flx v)) v (flx v), usualL (sub.list v (flx v)), knownL ((sub.list v (flx v)).map (·.h))⟩ v (flx v) (t.at n) else []) ++ plainS rest v (flx v) (n + 1) t := by
        simp [plainS, FS.list, List.zipIdx_cons]
      rw [hps, ← hgo]
      have hp := t.sz_pos
      simp only [List.length_append] at h1 ⊢
      simp only [Sch.wt, Nat.add_mul]
      cases hg : g.on v
      · simp; omega
      · have hc := counted_len (flx v) (h.isNull v (t.at n).nul) (if h.isNull v (t.at n).nul then [] else (t.at n).l.take 32767).length 4 (by split <;> simp <;> omega) (by omega)
        have hf : ((if h.isNull v (t.at n).nul then [] else (t.at n).l.take 32767).flatMap (valS 10 (partL (sub.list v (flx v)) v (flx v)) false (flx v))).length ≤ e.wt * t.sz := by
          have h2 := flat_wt (c := e.wt) (f := valS 10 (partL (sub.list v (flx v)) v (flx v)) false (flx v)) (t.at n).l 32767 (fun x hx => by
            have := ihe sub 0 x hsub ((ht.at n).l x hx)
            rw [← partS_plain (fitS_noTag hsub)] at this
            exact this)
          have h3 : e.wt * Tr.szL (t.at n).l ≤ e.wt * t.sz := Nat.mul_le_mul_left _ (by have := (t.at n).szL_le; have := t.sz_at n; omega)
          split
          · simp
          · omega
        simp only [htag, true_and, if_true, fieldS, hkind, hof, List.length_append]; omega

theorem part_le {M : Nat} {flx : Nat → Bool} {v : Nat} (hv : v ≤ M) {S : Sch} {F : FS} (hb : fitS M flx F S = true) {t : Tr} (ht : t.Ok) (hw : S.wt ≤ 1048576) (hs : t.sz ≤ 1048576) : (partS F v (flx v) t).length ≤ 1099511627776 := by
  have := part_wt hv S F 0 t hb ht
  rw [← partS_plain (fitS_noTag hb)] at this
  exact Nat.le_trans this (Nat.le_trans (Nat.mul_le_mul hw hs) (by omega))
end Go.Kg

set_option linter.unusedSimpArgs false
set_option linter.unusedVariables false
namespace Go.Kg
open Go Go.ChangeShapes Go.WideShapes Go.ChangeAt Go.RowKit

/-! ## A tree out of a row's reading -/
/-- what the bulk of data is -/
structure BulkL {H : Type} (b : DataW H → Nat) (bs : List (DataW H) → Nat) : Prop where
  slice : ∀ e s, b (.slice e s) = bs e + bs s + 1
  agg : ∀ p, b (.agg p) = bs p + 1
  pos : ∀ d, 1 ≤ b d
  nil : bs [] = 0
  cons : ∀ d r, bs (d :: r) = b d + bs r

theorem BulkL.len {H : Type} {b : DataW H → Nat} {bs : List (DataW H) → Nat} (h : BulkL b bs) : ∀ l, l.length ≤ bs l
  | [] => by simp [h.nil]
  | d :: r => by have := h.pos d; have := h.len r; rw [h.cons, List.length_cons]; omega
theorem BulkL.mem {H : Type} {b : DataW H → Nat} {bs : List (DataW H) → Nat} (h : BulkL b bs) : ∀ {l : List (DataW H)} {d}, d ∈ l → b d ≤ bs l
  | x :: r, d, hd => by
    rw [h.cons]
    rcases List.mem_cons.1 hd with rfl | hd
    · omega
    · have := h.mem hd; omega

/-- what is asked of the types of Tree and Tag -/
structure TyTr (P : Program) (E : Env) (tI64 : Nat) : Prop where
  tr : ∃ f0 f1 f2 f3 f4 : Field, P.underlying E.t_spec_Tree = some (.struct #[f0, f1, f2, f3, f4]) ∧ (f0.type = tI64 ∧ f0.offset = 0) ∧ (f1.type = E.tBs ∧ f1.offset = 1) ∧ (f2.type = E.tB ∧ f2.offset = 2) ∧ (f3.type = E.t_l_spec_Tree ∧ f3.offset = 3) ∧ (f4.type = E.t_l_spec_Tag ∧ f4.offset = 4)
  tg : ∃ f0 f1 : Field, P.underlying E.t_spec_Tag = some (.struct #[f0, f1]) ∧ (f0.type = E.tU32 ∧ f0.offset = 0) ∧ (f1.type = E.tBs ∧ f1.offset = 1)
  i64 : P.underlying tI64 = some (.int .i64)
  u32 : P.underlying E.tU32 = some (.int .u32)
  u8 : P.underlying E.tU8 = some (.int .u8)
  bool : P.underlying E.tB = some .bool
  bs : P.underlying E.tBs = some (.slice E.tU8)
  lt : P.underlying E.t_l_spec_Tree = some (.slice E.t_spec_Tree)
  lu : P.underlying E.t_l_spec_Tag = some (.slice E.t_spec_Tag)
  c1 : P.cellsOf tI64 = 1 ∧ P.cellsOf E.tU32 = 1 ∧ P.cellsOf E.tU8 = 1 ∧ P.cellsOf E.tB = 1 ∧ P.cellsOf E.tBs = 1 ∧ P.cellsOf E.t_l_spec_Tree = 1 ∧ P.cellsOf E.t_l_spec_Tag = 1
  cT : P.cellsOf E.t_spec_Tree = 5
  cU : P.cellsOf E.t_spec_Tag = 2

section
variable {H : Type} {enc : TypeId × Value → H} {P : Program} {W : World}

theorem spot_of_cells {a : Addr} {k : Nat} {cs : List Value} (h : W.cells? 0 (a.add (0 * k)) k = some cs) (hk : 0 < k) : a.spot = none := by
  have h0 : a.add (0 * k) = a := by simp [Addr.add]
  rw [h0] at h
  obtain ⟨_, hl, hc⟩ := World.cells?_some h
  have h1 := hc 0 hk
  have h2 : cs[0]? = some cs[0] := List.getElem?_eq_getElem (by omega)
  rw [h2] at h1
  have ha : a.add 0 = a := by simp [Addr.add]
  rw [ha] at h1
  cases hs : a.spot with
  | none => rfl
  | some s =>
    simp only [World.cell?, hs] at h1
    split at h1 <;> simp at h1

/-- bytes within -/
theorem open_bytesIn {t e : TypeId} (ht : P.underlying t = some (.slice e)) (he : P.underlying e = some (.int .u8)) (hc : P.cellsOf e = 1) {b : DataW H → Nat} {bs : List (DataW H) → Nat} (hB : BulkL b bs) {n : Nat} {c : Value} {x : DataW H × List MemPlace}
    (h : DataW.trod enc P W 0 (fun _ => true) true n t [c] = some x) : ∃ s, BytesAt W All c s ∧ s.length + 1 ≤ b x.1 := by
  have hsp : ∀ a len cap, c = .slice (some a) len cap → 0 < cap → a.spot = none := by
    rintro a len cap rfl hcap
    rcases DataW.trod_slice ht h with ⟨h1, _⟩ | ⟨a', len', cap', elems, rest, m, _, h1, hx, hb, hl, hm, hlen, hel, hsp, _⟩
    · cases h1
    · cases h1
      by_cases h0 : 0 < len
      · have := hel 0 h0
        rw [hc] at this
        have hget : elems[0]? = some elems[0] := List.getElem?_eq_getElem (by omega)
        rw [hget] at this
        obtain ⟨cs, hcs, _⟩ := Option.bind_eq_some_iff.1 this
        exact spot_of_cells hcs (by omega)
      · obtain ⟨hr1, hr2⟩ := hsp rfl
        have := hr2 0 (by omega)
        rw [hc] at this
        have hget : rest[0]? = some rest[0] := List.getElem?_eq_getElem (by omega)
        rw [hget] at this
        obtain ⟨cs, hcs, _⟩ := Option.bind_eq_some_iff.1 this
        have e0 : (len + 0) * 1 = 0 * 1 := by omega
        rw [e0] at hcs
        exact spot_of_cells hcs (by omega)
  rcases open_ints ht he hc h with ⟨h1, hx⟩ | ⟨a, len, cap, zs, h1, hb, hl, hm, hzl, hx, hcell, hwf⟩
  · cases h1
    exact ⟨[], .inl ⟨⟨_, rfl⟩, rfl⟩, by have := hB.pos x.1; simpa using this⟩
  · cases h1
    simp only [if_true] at hzl
    have hbk : len + 1 ≤ b x.1 := by
      rw [hx, hB.slice]
      have := hB.len (lits .u8 (zs.take len))
      simp only [lits, List.length_map, List.length_take] at this
      simp only [lits] at this ⊢
      omega
    by_cases hcap : cap = 0
    · subst hcap
      have h0 : len = 0 := by omega
      subst h0
      exact ⟨[], .inl ⟨⟨_, rfl⟩, rfl⟩, by simpa using hbk⟩
    have hs := hsp a len cap rfl (by omega)
    obtain ⟨ab, ao, sp⟩ := a
    simp only at hs
    subst hs
    have hlen : (zs.take len).length = len := by simp; omega
    refine ⟨(zs.take len).map fun z => UInt8.ofNat z.toNat, .inr ⟨ab, ao, cap, by rw [List.length_map, hlen], by rw [List.length_map, hlen]; exact hl, fun _ => trivial, fun i x hx => ?_⟩, by rw [List.length_map, hlen]; exact hbk⟩
    rw [List.getElem?_map, Option.map_eq_some_iff] at hx
    obtain ⟨z, hz, rfl⟩ := hx
    rw [List.getElem?_take] at hz
    split at hz
    · obtain ⟨hi, hzz⟩ := List.getElem?_eq_some_iff.1 hz
      have hc1 := hcell i hi
      rw [Addr.add_mk, List.getD_eq_getElem?_getD, hz] at hc1
      have hw := hwf z (List.mem_of_getElem? hz)
      simp [Lit.wf, IntKind.min, IntKind.max, IntKind.signed, IntKind.bits] at hw
      rw [hc1]
      simp
      omega
    · cases hz

/-- a slice of things of sz cells each -/
theorem open_things {t e : TypeId} {sz : Nat} (ht : P.underlying t = some (.slice e)) (hc : P.cellsOf e = sz) (hsz : 0 < sz) {b : DataW H → Nat} {bs : List (DataW H) → Nat} (hB : BulkL b bs) {n : Nat} {c : Value} {x : DataW H × List MemPlace}
    (h : DataW.trod enc P W 0 (fun _ => true) true n t [c] = some x) (hk : b x.1 ≤ 1048576) :
    ∃ (ls : Option (List (List Value))) (ys : List (DataW H × List MemPlace)) (m : Nat), ArrE W All sz c ls ∧ ys.length = (ls.getD []).length ∧ n = m + 1 ∧ bs (ys.map (·.1)) + 1 ≤ b x.1 ∧
      ∀ (i : Nat) cs y, (ls.getD [])[i]? = some cs → ys[i]? = some y → DataW.trod enc P W 0 (fun _ => true) true m e cs = some y := by
  obtain ⟨m, rfl⟩ : ∃ m, n = m + 1 := by
    cases n with
    | zero => simp [DataW.trod] at h
    | succ m => exact ⟨m, rfl⟩
  rcases DataW.trod_slice ht h with ⟨h1, hx⟩ | ⟨a, len, cap, elems, rest, m', hm', h1, hx, hb, hl, hm, hlen, hel, hsp, _⟩
  · cases h1
    exact ⟨none, [], m, ⟨_, rfl⟩, rfl, rfl, by have := hB.pos x.1; simpa [hB.nil] using this, fun i cs y h => by simp at h⟩
  · cases h1
    cases hm'
    rw [hc] at hel hsp
    have hbk : bs (elems.map (·.1)) + 1 ≤ b x.1 := by rw [hx, hB.slice]; omega
    have hlk : len ≤ 1048576 := by
      have := hB.len (elems.map (·.1))
      rw [List.length_map] at this
      omega
    by_cases hcap : cap = 0
    · subst hcap
      have h0 : len = 0 := by omega
      subst h0
      have he : elems = [] := List.eq_nil_of_length_eq_zero hlen
      subst he
      exact ⟨none, [], m, ⟨_, rfl⟩, rfl, rfl, by simpa using hbk, fun i cs y h => by simp at h⟩
    have hs : a.spot = none := by
      by_cases h0 : 0 < len
      · have := hel 0 h0
        have hget : elems[0]? = some elems[0] := List.getElem?_eq_getElem (by omega)
        rw [hget] at this
        obtain ⟨cs, hcs, _⟩ := Option.bind_eq_some_iff.1 this
        exact spot_of_cells hcs hsz
      · obtain ⟨hr1, hr2⟩ := hsp rfl
        have := hr2 0 (by omega)
        have hget : rest[0]? = some rest[0] := List.getElem?_eq_getElem (by omega)
        rw [hget] at this
        obtain ⟨cs, hcs, _⟩ := Option.bind_eq_some_iff.1 this
        have e0 : (len + 0) * sz = 0 * sz := by
          have : len = 0 := by omega
          subst this; rfl
        rw [e0] at hcs
        exact spot_of_cells hcs hsz
    obtain ⟨ab, ao, sp⟩ := a
    simp only at hs
    subst hs
    -- the cells of each
    have hcs : ∀ i, i < len → ∃ cs y, W.cells? 0 (⟨ab, ao + i * sz, none⟩ : Addr) sz = some cs ∧ elems[i]? = some y ∧ DataW.trod enc P W 0 (fun _ => true) true m e cs = some y := by
      intro i hi
      have h2 := hel i hi
      have hget : elems[i]? = some elems[i] := List.getElem?_eq_getElem (by omega)
      rw [hget] at h2
      obtain ⟨cs, h3, h4⟩ := Option.bind_eq_some_iff.1 h2
      rw [Addr.add_mk] at h3
      exact ⟨cs, _, h3, hget, h4⟩
    let cellsI : Nat → List Value := fun i => (W.cells? 0 (⟨ab, ao + i * sz, none⟩ : Addr) sz).getD []
    have hcI : ∀ i, i < len → W.cells? 0 (⟨ab, ao + i * sz, none⟩ : Addr) sz = some (cellsI i) := by
      intro i hi
      obtain ⟨cs, y, h3, _⟩ := hcs i hi
      simp only [cellsI, h3, Option.getD_some]
    refine ⟨some ((List.range len).map cellsI), elems, m, ⟨ab, ao, cap, by simp, trivial, ⟨by simpa using hl, by simp; omega⟩, ?_⟩, by simp [hlen], rfl, hbk, ?_⟩
    · intro i cs hi
      rw [List.getElem?_map, Option.map_eq_some_iff] at hi
      obtain ⟨j, hj, rfl⟩ := hi
      obtain ⟨hjl, hjj⟩ := List.getElem?_eq_some_iff.1 hj
      simp at hjl hjj
      subst hjj
      obtain ⟨_, h4, h5⟩ := World.cells?_some (hcI i hjl)
      refine ⟨h4, fun j u hu => ?_⟩
      have hj2 := (List.getElem?_eq_some_iff.1 hu).1
      have := h5 j (by omega)
      rw [Addr.add_mk, hu] at this
      exact this
    · intro i cs y hi hy
      simp only [Option.getD_some] at hi
      rw [List.getElem?_map, Option.map_eq_some_iff] at hi
      obtain ⟨j, hj, rfl⟩ := hi
      obtain ⟨hjl, hjj⟩ := List.getElem?_eq_some_iff.1 hj
      simp at hjl hjj
      subst hjj
      obtain ⟨cs', y', h3, h4, h5⟩ := hcs i hjl
      rw [hcI i hjl] at h3
      cases h3
      rw [h4] at hy
      cases hy
      exact h5

variable {E : Env} {tI64 : Nat} (hT : TyTr P E tI64) {b : DataW H → Nat} {bs : List (DataW H) → Nat} (hB : BulkL b bs)
include hT hB

theorem open_tags {n : Nat} {c : Value} {x : DataW H × List MemPlace} (h : DataW.trod enc P W 0 (fun _ => true) true n E.t_l_spec_Tag [c] = some x) (hk : b x.1 ≤ 1048576) :
    ∃ u : List (Nat × List UInt8), UAt W c u ∧ (u.map fun x => 1 + x.2.length).sum + 1 ≤ b x.1 := by
  obtain ⟨f0, f1, hu, ⟨h0t, h0o⟩, ⟨h1t, h1o⟩⟩ := hT.tg
  obtain ⟨ls, ys, m, ha, hl, rfl, hbk, hel⟩ := open_things hT.lu hT.cU (by omega) hB h hk
  -- one tag
  have one : ∀ cs (y : DataW H × List MemPlace), DataW.trod enc P W 0 (fun _ => true) true m E.t_spec_Tag cs = some y → ∃ (k : Nat) (bv : Value) (s : List UInt8), cs = [.int .u32 k, bv] ∧ k < 4294967296 ∧ BytesAt W All bv s ∧ 1 + s.length ≤ b y.1 := by
    intro cs y hy
    obtain ⟨xs, m', rfl, hx, hcl, hxl, hf⟩ := DataW.trod_struct hu hy
    rw [hT.cU] at hcl
    obtain ⟨c0, c1, rfl⟩ : ∃ c0 c1, cs = [c0, c1] := by
      match cs, hcl with
      | [c0, c1], _ => exact ⟨c0, c1, rfl⟩
    obtain ⟨x0, x1, rfl⟩ : ∃ x0 x1, xs = [x0, x1] := by
      match xs, hxl with
      | [x0, x1], _ => exact ⟨x0, x1, rfl⟩
    have e0 := hf 0 f0 rfl
    have e1 := hf 1 f1 rfl
    rw [h0t, h0o, hT.c1.2.1] at e0
    rw [h1t, h1o, hT.c1.2.2.2.2.1] at e1
    simp at e0 e1
    obtain ⟨k, hk0, _, hw⟩ := DataW.trod_int hT.u32 e0
    cases hk0
    simp [Lit.wf, IntKind.min, IntKind.max, IntKind.signed, IntKind.bits] at hw
    obtain ⟨s, hs, hsb⟩ := open_bytesIn hT.bs hT.u8 hT.c1.2.2.1 hB e1
    refine ⟨k.toNat, c1, s, by simp; omega, by omega, hs, ?_⟩
    rw [hx, hB.agg]
    simp only [List.map_cons, List.map_nil, hB.cons, hB.nil]
    omega
  have all : ∀ (L : List (List Value)) (ys : List (DataW H × List MemPlace)), ys.length = L.length → (∀ (i : Nat) cs y, L[i]? = some cs → ys[i]? = some y → DataW.trod enc P W 0 (fun _ => true) true m E.t_spec_Tag cs = some y) →
      ∃ u : List (Nat × List UInt8), u.length = L.length ∧ (∀ (i : Nat) c x, L[i]? = some c → u[i]? = some x → ∃ bv, c = [.int .u32 x.1, bv] ∧ x.1 < 4294967296 ∧ BytesAt W All bv x.2) ∧ (u.map fun x => 1 + x.2.length).sum ≤ bs (ys.map (·.1)) := by
    intro L
    induction L with
    | nil =>
      intro ys hl _
      have : ys = [] := List.eq_nil_of_length_eq_zero hl
      subst this
      exact ⟨[], rfl, fun i c x h => by simp at h, by simp⟩
    | cons cs L ih =>
      intro ys hl hel
      cases ys with
      | nil => simp at hl
      | cons y ys =>
        obtain ⟨u, h1, h2, h3⟩ := ih ys (by simpa using hl) (fun i cs y hi hy => hel (i + 1) cs y (by simpa using hi) (by simpa using hy))
        obtain ⟨k, bv, s, rfl, hk, hs, hsb⟩ := one cs y (hel 0 cs y rfl rfl)
        refine ⟨(k, s) :: u, by simp [h1], ?_, ?_⟩
        · intro i c x hi hx
          cases i with
          | zero => simp at hi hx; subst hi; subst hx; exact ⟨bv, rfl, hk, hs⟩
          | succ i => exact h2 i c x (by simpa using hi) (by simpa using hx)
        · simp only [List.map_cons, List.sum_cons, hB.cons]; omega
  obtain ⟨u, h1, h2, h3⟩ := all (ls.getD []) ys hl hel
  exact ⟨u, ⟨ls, ha, h1.symm, h2⟩, by omega⟩

theorem open_tree : ∀ (n : Nat) (cs : List Value) (x : DataW H × List MemPlace), DataW.trod enc P W 0 (fun _ => true) true n E.t_spec_Tree cs = some x → b x.1 ≤ 1048576 → ∃ t : Tr, TreeAt W cs t ∧ t.sz ≤ b x.1 := by
  intro n
  induction n using Nat.strongRecOn with
  | _ n ih =>
    intro cs x h hk
    obtain ⟨f0, f1, f2, f3, f4, hu, ⟨h0t, h0o⟩, ⟨h1t, h1o⟩, ⟨h2t, h2o⟩, ⟨h3t, h3o⟩, ⟨h4t, h4o⟩⟩ := hT.tr
    obtain ⟨xs, m, rfl, hx, hcl, hxl, hf⟩ := DataW.trod_struct hu h
    rw [hT.cT] at hcl
    obtain ⟨c0, c1, c2, c3, c4, rfl⟩ : ∃ c0 c1 c2 c3 c4, cs = [c0, c1, c2, c3, c4] := by
      match cs, hcl with
      | [c0, c1, c2, c3, c4], _ => exact ⟨c0, c1, c2, c3, c4, rfl⟩
    obtain ⟨x0, x1, x2, x3, x4, rfl⟩ : ∃ x0 x1 x2 x3 x4, xs = [x0, x1, x2, x3, x4] := by
      match xs, hxl with
      | [x0, x1, x2, x3, x4], _ => exact ⟨x0, x1, x2, x3, x4, rfl⟩
    have e0 := hf 0 f0 rfl
    have e1 := hf 1 f1 rfl
    have e2 := hf 2 f2 rfl
    have e3 := hf 3 f3 rfl
    have e4 := hf 4 f4 rfl
    obtain ⟨k1, k2, k3, k4, k5, k6, k7⟩ := hT.c1
    rw [h0t, h0o, k1] at e0
    rw [h1t, h1o, k5] at e1
    rw [h2t, h2o, k4] at e2
    rw [h3t, h3o, k6] at e3
    rw [h4t, h4o, k7] at e4
    simp at e0 e1 e2 e3 e4
    have hbx : b x.1 = b x0.1 + (b x1.1 + (b x2.1 + (b x3.1 + b x4.1))) + 1 := by
      rw [hx, hB.agg]
      simp only [List.map_cons, List.map_nil, hB.cons, hB.nil]
      omega
    obtain ⟨z, hz, _, hw⟩ := DataW.trod_int hT.i64 e0
    cases hz
    simp [Lit.wf, IntKind.min, IntKind.max, IntKind.signed, IntKind.bits] at hw
    obtain ⟨bb, hbb, _⟩ := DataW.trod_bool hT.bool e2
    cases hbb
    obtain ⟨s, hs, hsb⟩ := open_bytesIn hT.bs hT.u8 k3 hB e1
    obtain ⟨u, hua, hub⟩ := open_tags hT hB e4 (by omega)
    obtain ⟨ls, ys, m', ha, hl, hm', hbk, hel⟩ := open_things hT.lt hT.cT (by omega) hB e3 (by omega)
    subst hm'
    have all : ∀ (L : List (List Value)) (ys : List (DataW H × List MemPlace)), ys.length = L.length → bs (ys.map (·.1)) ≤ 1048576 → (∀ (i : Nat) cs y, L[i]? = some cs → ys[i]? = some y → DataW.trod enc P W 0 (fun _ => true) true m' E.t_spec_Tree cs = some y) →
        ∃ l : List Tr, l.length = L.length ∧ (∀ (i : Nat) c t, L[i]? = some c → l[i]? = some t → TreeAt W c t) ∧ Tr.szL l ≤ bs (ys.map (·.1)) := by
      intro L
      induction L with
      | nil =>
        intro ys hl _ _
        have : ys = [] := List.eq_nil_of_length_eq_zero hl
        subst this
        exact ⟨[], rfl, fun i c x h => by simp at h, by simp [Tr.szL]⟩
      | cons cs L ihL =>
        intro ys hl hkk hel
        cases ys with
        | nil => simp at hl
        | cons y ys =>
          simp only [List.map_cons, hB.cons] at hkk
          obtain ⟨l, h1, h2, h3⟩ := ihL ys (by simpa using hl) (by omega) (fun i cs y hi hy => hel (i + 1) cs y (by simpa using hi) (by simpa using hy))
          obtain ⟨t, ht, htz⟩ := ih m' (by omega) cs y (hel 0 cs y rfl rfl) (by omega)
          refine ⟨t :: l, by simp [h1], ?_, ?_⟩
          · intro i c x hi hx
            cases i with
            | zero => simp at hi hx; subst hi; subst hx; exact ht
            | succ i => exact h2 i c x (by simpa using hi) (by simpa using hx)
          · simp only [List.map_cons, Tr.szL, hB.cons]; omega
    obtain ⟨l, h1, h2, h3⟩ := all (ls.getD []) ys hl (by omega) hel
    refine ⟨.mk z s bb l u, .mk ⟨by omega, by omega⟩ hs ha h1.symm h2 hua, ?_⟩
    have hp0 := hB.pos x0.1
    simp only [Tr.sz]
    omega

/-- an argument -/
theorem open_arg {cs : Array Value} {d : DataW H} {ps : List MemPlace} (h : DataW.Trod enc P W 0 (fun _ => true) true E.t_spec_Tree (.agg cs) d ps) (hk : b d ≤ 1048576) : ∃ t : Tr, TreeAt W cs.toList t ∧ t.sz ≤ 1048576 := by
  obtain ⟨n, hn⟩ := h
  obtain ⟨t, h1, h2⟩ := open_tree hT hB n _ _ hn hk
  exact ⟨t, h1, Nat.le_trans h2 hk⟩
end
/-- a struct's value -/
theorem agg_of_ok {P : Program} {w : World} {r : Reach} {base t : Nat} {v : Value} {fs : Array Field} (hu : P.underlying t = some (.struct fs)) (h : Value.okWide P w r base t v) : ∃ cs : Array Value, v = .agg cs := by
  simp only [Value.okWide, hu] at h
  obtain ⟨cs, rfl, _⟩ := h
  exact ⟨cs, rfl⟩
end Go.Kg

set_option linter.unusedSimpArgs false
set_option linter.unusedVariables false
namespace Go.Kg
open Go

/-! ## Tags: read -/
/-- An entry of the map says a tag. -/
def EntAt (w : World) (K : Nat → Prop) (c : Nat) (e : MapEntry) (x : Nat × List UInt8) : Prop := e.key = .int .u32 x.1 ∧ x.1 < 4294967296 ∧ e.born < c ∧ BytesAt w K e.val x.2
def EL (w : World) (K : Nat → Prop) (c : Nat) : List MapEntry → TagL → Prop
  | [], [] => True
  | e :: L, x :: l => EntAt w K c e x ∧ EL w K c L l
  | _, _ => False

theorem EL.of {w : World} {K : Nat → Prop} {c : Nat} : ∀ {L : List MapEntry} {l : TagL}, L.length = l.length → (∀ (i : Nat) e x, L[i]? = some e → l[i]? = some x → EntAt w K c e x) → EL w K c L l
  | [], [], _, _ => trivial
  | e :: L, x :: l, h, hx => ⟨hx 0 e x rfl rfl, EL.of (by simpa using h) (fun i e x h1 h2 => hx (i + 1) e x (by simpa using h1) (by simpa using h2))⟩
  | [], _ :: _, h, _ => by simp at h
  | _ :: _, [], h, _ => by simp at h
theorem EL.get {w : World} {K : Nat → Prop} {c : Nat} : ∀ {L : List MapEntry} {l : TagL}, EL w K c L l → L.length = l.length ∧ ∀ (i : Nat) e x, L[i]? = some e → l[i]? = some x → EntAt w K c e x
  | [], [], _ => ⟨rfl, fun i e x h => by simp at h⟩
  | e :: L, x :: l, h => ⟨by simpa using (EL.get h.2).1, fun i e' x' h1 h2 => by
      cases i with
      | zero => simp at h1 h2; subst h1; subst h2; exact h.1
      | succ i => exact (EL.get h.2).2 i e' x' (by simpa using h1) (by simpa using h2)⟩
  | [], _ :: _, h => h.elim
  | _ :: _, [], h => h.elim
theorem EL.up {w : World} {K : Nat → Prop} {c c' : Nat} (hc : c ≤ c') : ∀ {L : List MapEntry} {l : TagL}, EL w K c L l → EL w K c' L l
  | [], [], _ => trivial
  | e :: L, x :: l, h => ⟨⟨h.1.1, h.1.2.1, Nat.lt_of_lt_of_le h.1.2.2.1 hc, h.1.2.2.2⟩, EL.up hc h.2⟩
  | [], _ :: _, h => h.elim
  | _ :: _, [], h => h.elim
theorem EL.mem {w : World} {K : Nat → Prop} {c : Nat} : ∀ {L : List MapEntry} {l : TagL}, EL w K c L l → ∀ e ∈ L, ∃ x ∈ l, EntAt w K c e x
  | e :: L, x :: l, h, e', he => by
    rcases List.mem_cons.1 he with rfl | he
    · exact ⟨x, List.mem_cons_self .., h.1⟩
    · obtain ⟨y, hy, hh⟩ := EL.mem h.2 e' he; exact ⟨y, List.mem_cons_of_mem _ hy, hh⟩

/-- Tags as lists -/
theorem tagsAt_iff {w : World} {K : Nat → Prop} {v : Value} {l : TagL} : TagsAt w K v l ↔ (v = .map none ∧ l = []) ∨ ∃ b es clock, v = .map (some b) ∧ K b ∧ w.heap[b]? = some (.map es clock) ∧ EL w K clock es.toList l ∧ (l.map (·.1)).Nodup ∧ (es.toList.map (·.born)).Nodup ∧ l.length < 4294967296 := by
  constructor
  · rintro (h | ⟨b, es, clock, rfl, hk, hb, hs, hn, hl, hx⟩)
    · exact .inl h
    · exact .inr ⟨b, es, clock, rfl, hk, hb, EL.of (by simpa using hs) (fun i e x h1 h2 => hx i e x (by simpa using h1) h2), hn.1, hn.2, hl⟩
  · rintro (h | ⟨b, es, clock, rfl, hk, hb, he, h1, h2, hl⟩)
    · exact .inl h
    · have := he.get
      exact .inr ⟨b, es, clock, rfl, hk, hb, by simpa using this.1, ⟨h1, h2⟩, hl, fun i e x h1 h2 => this.2 i e x (by simpa using h1) h2⟩


theorem findNow_spec {w : World} {K : Nat → Prop} {c k : Nat} {v : Value} {s : List UInt8} (hk : k < 4294967296) (hv : BytesAt w K v s) : ∀ {L : List MapEntry} {l : TagL} (i : Nat), EL w K c L l →
    (Instr.findNow (.int .u32) (.int .u32 k) L i = some none ∧ EL w K (c + 1) (L ++ [{ key := .int .u32 k, val := v, born := c }]) (setTag k s l)) ∨
    (∃ j e, Instr.findNow (.int .u32) (.int .u32 k) L i = some (some (i + j, e.val)) ∧ L[j]? = some e ∧ e.key = .int .u32 k ∧ EL w K c (L.modify j fun e => { e with key := .int .u32 k, val := v }) (setTag k s l))
  | [], [], i, _ => .inl ⟨rfl, ⟨rfl, hk, Nat.lt_succ_self c, hv⟩, trivial⟩
  | e :: L, x :: l, i, h => by
    obtain ⟨⟨h1, h2, h3, h4⟩, h5⟩ := h
    by_cases hx : x.1 = k
    · refine .inr ⟨0, e, ?_, rfl, by rw [h1, hx], ?_⟩
      · simp [Instr.findNow, Instr.sameNow, h1, hx]
      · simp only [List.modify_zero_cons, setTag, if_pos hx]
        exact ⟨⟨rfl, hk, h3, hv⟩, h5⟩
    · have hne : ((k : Int) == (x.1 : Int)) = false := by simp; omega
      have hf : Instr.findNow (.int .u32) (.int .u32 k) (e :: L) i = Instr.findNow (.int .u32) (.int .u32 k) L (i + 1) := by
        simp [Instr.findNow, Instr.sameNow, h1, hne]
      rw [hf]
      rcases findNow_spec hk hv (i + 1) h5 with ⟨a1, a2⟩ | ⟨j, e', a1, a2, a3, a4⟩
      · refine .inl ⟨a1, ?_⟩
        simp only [setTag, if_neg hx]
        exact ⟨⟨h1, h2, Nat.lt_succ_of_lt h3, h4⟩, a2⟩
      · refine .inr ⟨j + 1, e', by rw [a1]; congr 3; omega, by simpa using a2, a3, ?_⟩
        simp only [setTag, if_neg hx, List.modify_succ_cons]
        exact ⟨⟨h1, h2, h3, h4⟩, a4⟩
  | [], _ :: _, i, h => h.elim
  | _ :: _, [], i, h => h.elim

theorem modify_born {j : Nat} {f : MapEntry → MapEntry} (hf : ∀ e, (f e).born = e.born) : ∀ L : List MapEntry, (L.modify j f).map (·.born) = L.map (·.born) := by
  induction j with
  | zero => intro L; cases L <;> simp [hf]
  | succ j ih => intro L; cases L with
    | nil => simp
    | cons e L => simp [ih L]

theorem check_u32 {P : Program} {T : TypeId} (hT : P.underlying T = some (.int .u32)) {w : World} {b : Bool} {k : Int} : (Instr.checkKey b 10000 T (.int .u32 k)).run P w = .ok () w := by
  have : ∀ n, (Instr.checkKey b (n + 1) T (.int .u32 k)).run P w = .ok () w := by intro n; simp [Instr.checkKey, run_underlying hT]
  exact this 9999

/-- m[k] = v -/
theorem run_mapUpdate {P : Program} {T KT VT : TypeId} (hT : P.underlying T = some (.map KT VT)) (hK : P.underlying KT = some (.int .u32)) {w : World} {K : Nat → Prop} {b k clock : Nat} {v : Value} {s : List UInt8} {es : Array MapEntry} {l : TagL}
    (hk : k < 4294967296) (hv : BytesAt w K v s) (hb : w.heap[b]? = some (.map es clock)) (he : EL w K clock es.toList l) (hn : (es.toList.map (·.born)).Nodup) :
    ∃ es' clock', (Instr.mapUpdate T (.map (some b)) (.int .u32 k) v).run P w = .ok () (w.setBlk b (.map es' clock')) ∧ EL w K clock' es'.toList (setTag k s l) ∧ (es'.toList.map (·.born)).Nodup := by
  have hget : (getObj b).run P w = .ok (.map es clock) w := by simp [getObj, Sem.run, hb]
  have hset : ∀ o, (setObj b o).run P w = .ok () (w.setBlk b o) := by intro o; simp [setObj, Sem.run, hb, World.setBlk]
  have hfk : ∀ r, Instr.findNow (.int .u32) (.int .u32 k) es.toList 0 = some r → (Instr.findKey KT (.int .u32 k) es.toList).run P w = .ok r w := by
    intro r hr; simp [Instr.findKey, run_underlying hK, hr]
  rcases findNow_spec hk hv 0 he with ⟨a1, a2⟩ | ⟨j, e, a1, a2, a3, a4⟩
  · refine ⟨es.push { key := .int .u32 k, val := v, born := clock }, clock + 1, ?_, by simpa using a2, ?_⟩
    · simp [Instr.mapUpdate, run_underlying hT, hget, check_u32 hK, hfk _ a1, hset]
    · simp only [Array.toList_push, List.map_append, List.map_cons, List.map_nil]
      rw [List.nodup_append]
      refine ⟨hn, by simp, ?_⟩
      intro a ha b hb
      simp only [List.mem_singleton] at hb
      obtain ⟨e, he1, rfl⟩ := List.mem_map.1 ha
      obtain ⟨x, _, hx⟩ := he.mem e he1
      have := hx.2.2.1
      omega
  · refine ⟨es.modify j fun e => { e with key := .int .u32 k, val := v }, clock, ?_, by simpa using a4, ?_⟩
    · have hj : es[j]? = some e := by simpa using a2
      have hsame : (Instr.sameBits 10000 (.int .u32 (k : Int)) (.int .u32 (k : Int))) = true := by simp [Instr.sameBits]
      simp [Instr.mapUpdate, run_underlying hT, hget, check_u32 hK, hfk _ a1, hset, Instr.keyThatStays, hj, a3, hsame]
    · simp only [Array.toList_modify]
      rw [modify_born]
      · exact hn
      · intro e; rfl

theorem EL.ext {C : Nat → Prop} {w w' : World} {D c : Nat} (he : Ext C w w') (hD : ¬ C D) : ∀ {L : List MapEntry} {l : TagL}, EL w (· = D) c L l → EL w' (· = D) c L l
  | [], [], _ => trivial
  | e :: L, x :: l, h => ⟨⟨h.1.1, h.1.2.1, h.1.2.2.1, h.1.2.2.2.ext he (fun b _ hb => by subst hb; exact hD)⟩, EL.ext he hD h.2⟩
  | [], _ :: _, h => h.elim
  | _ :: _, [], h => h.elim

/-- the map lies in a block from base on, the bytes in D -/
def TagsM (w : World) (D base : Nat) (u : Value) (l : TagL) : Prop :=
  (u = .map none ∧ l = []) ∨ ∃ m es clock, u = .map (some m) ∧ base ≤ m ∧ w.heap[m]? = some (.map es clock) ∧ EL w (· = D) clock es.toList l ∧ (es.toList.map (·.born)).Nodup
theorem TagsM.one {w : World} {D base : Nat} {u : Value} {l : TagL} (h : TagsM w D base u l) : u.oneCell' = true ∧ u.cells = #[u] := by
  rcases h with ⟨rfl, _⟩ | ⟨_, _, _, rfl, _⟩ <;> exact ⟨rfl, rfl⟩

@[simp] theorem stp_mapUpdate {P : Program} {f : Nat → Value} {ty : TypeId} {w : World} {K : Value → World → Prop} {T : TypeId} {a b c : Operand} : stp P f (.mapUpdate T a b c) ty w K = stepF P f (.mapUpdate T a b c) ty w K := (rfl)
@[simp] theorem stp_makeMap {P : Program} {f : Nat → Value} {ty : TypeId} {w : World} {K : Value → World → Prop} {T : TypeId} : stp P f (.makeMap T none) ty w K = K (.map (some w.heap.size)) (w.alloc (.map #[] 0)) := by
  show stepF P f (.makeMap T none) ty w K = _
  rw [stepF_ok (v := .map (some w.heap.size)) (w' := w.alloc (.map #[] 0))]
  simp [runF, execOp, Instr.makeMap, newObj, Sem.run]

section
variable {P : Program} {E : Env} (ht : TyTg P E)
include ht

/-- t.Set(key, val); t's cell lies in a block of its own. -/
theorem c_TSet (hu : P.underlying E.tU32 = some (.int .u32)) (hI : FnIs P E.f_pkmsg_Tags_Set nt_pkmsg_Tags_Set (rs_pkmsg_Tags_Set E) (ir_pkmsg_Tags_Set E)) {w : World} {D base b k : Nat} {u v : Value} {s : List UInt8} {l : TagL} {et : TypeId}
    (hk : k < 4294967296) (hv : BytesAt w (· = D) v s) (hc : w.heap[b]? = some (.cells #[u] et (0, 0))) (hl : TagsM w D base u l) (hD : D < base) (hb : base ≤ b) (hbs : base ≤ w.heap.size) :
    Ret P E.f_pkmsg_Tags_Set #[.pointer (some ⟨b, 0, none⟩), .int .u32 k, v] w fun _ w' => ∃ u', w'.heap[b]? = some (.cells #[u'] et (0, 0)) ∧ TagsM w' D base u' (setTag k s l) ∧ Ext (fun x => base ≤ x) w w' := by
  refine hI.call (args := [_, _, _]) (by simp [nt_pkmsg_Tags_Set]) ?_
  have c0 : w.cell? ⟨b, 0, none⟩ = some u := by rw [cell_of_blk hc]; rfl
  rcases hl with ⟨rfl, rfl⟩ | ⟨m, es, clock, rfl, hm, hmb, he, hn⟩
  · simp [ir_pkmsg_Tags_Set, rs_pkmsg_Tags_Set, ht.g0, Addr.add_mk, ld_scl ht.kM, c0, bin_nil_map ht.uM]
    refine cw_true (by simp) ?_
    have hb2 : (w.alloc (.map #[] 0)).heap[b]? = some (.cells #[.map none] et (0, 0)) := alloc_old hc
    have hne : w.heap.size ≠ b := fun h => by have := lt_of_heap hc; omega
    simp [ht.g0, Addr.add_mk, store_scl ht.kM, put1K_blk hb2]
    generalize hw1 : (w.alloc (.map #[] 0)).setBlk b (.cells #[.map (some w.heap.size)] et (0, 0)) = w1
    have hE : Ext (fun x => base ≤ x) w w1 := by subst hw1; exact ((Ext.refl _ w).alloc _).setBlk (Or.inr hb) _
    have hb1 : w1.heap[b]? = some (.cells #[.map (some w.heap.size)] et (0, 0)) := by subst hw1; exact setBlk_same hb2
    have hm1 : w1.heap[w.heap.size]? = some (.map #[] 0) := by subst hw1; rw [setBlk_other hne]; exact alloc_new
    have c1 : w1.cell? ⟨b, 0, none⟩ = some (.map (some w.heap.size)) := by rw [cell_of_blk hb1]; rfl
    obtain ⟨es', clock', hr, he', hn'⟩ := run_mapUpdate (es := #[]) (l := []) ht.uM hu hk (hv.ext hE (fun x _ hx => by subst hx; omega)) hm1 trivial (by simp)
    simp [c1, ld_scl ht.kM]
    refine ⟨rfl, ?_⟩
    rw [stepF_skip (w' := w1.setBlk w.heap.size (.map es' clock'))]
    · refine ⟨_, (by rw [setBlk_other (Ne.symm hne)]; exact hb1), .inr ⟨w.heap.size, es', clock', rfl, hbs, setBlk_same hm1, ?_, hn'⟩, hE.setBlk (Or.inr hbs) _⟩
      exact EL.ext ((Ext.refl (fun x => base ≤ x) w1).setBlk (Or.inr hbs) _) (by omega) he'
    · simp [runF, execOp, hr]
  · simp [ir_pkmsg_Tags_Set, rs_pkmsg_Tags_Set, ht.g0, Addr.add_mk, ld_scl ht.kM, c0, bin_nil_map ht.uM]
    refine cw_false (by simp) ?_
    obtain ⟨es', clock', hr, he', hn'⟩ := run_mapUpdate ht.uM hu hk hv hmb he hn
    have hne : m ≠ b := fun h => by subst h; rw [hc] at hmb; cases hmb
    simp [ht.g0, Addr.add_mk, ld_scl ht.kM, c0]
    rw [stepF_skip (w' := w.setBlk m (.map es' clock'))]
    · refine ⟨_, (by rw [setBlk_other (Ne.symm hne)]; exact hc), .inr ⟨m, es', clock', rfl, hm, setBlk_same hmb, ?_, hn'⟩, (Ext.refl _ w).setBlk (Or.inr hm) _⟩
      exact EL.ext ((Ext.refl (fun x => base ≤ x) w).setBlk (Or.inr hm) _) (by omega) he'
    · simp [runF, execOp, hr]

end

/-- what is kept while tags are read -/
structure RTs (E : Env) (w0 : World) (pb D : Nat) (rs0 : RS) (n : Nat) (f : Nat → Value) (w : World) (l : TagL) (rs : RS) (k : Nat) : Prop where
  f0 : f 0 = .pointer (some ⟨pb, 0, none⟩)
  f3 : f 3 = .pointer (some ⟨w0.heap.size + 1, 0, none⟩)
  f4 : f 4 = .int .u32 k
  f2 : f 2 = .pointer (some ⟨w0.heap.size, 0, none⟩)
  ext : Ext (· = pb) w0 w
  rd : RdAt E.tRd w pb D rs
  cell : ∃ u, w.heap[w0.heap.size + 1]? = some (.cells #[u] E.t_kmsg_Tags (0, 0)) ∧ TagsM w D (w0.heap.size + 1) u l
  res : w.heap[w0.heap.size]? = some (.cells #[.map none] E.t_kmsg_Tags (0, 0))
  nd : (l.map (·.1)).Nodup
  len : l.length + k ≤ n
  todo : rdTagN k l rs = rdTagN n [] rs0
  kn : n < 4294967296

theorem Ext.grow {C : Nat → Prop} {a b c : World} {n : Nat} (h : Ext C a b) (k : Ext (fun x => n ≤ x) b c) (hn : a.heap.size ≤ n) : Ext C a c :=
  ⟨k.os.trans h.os, k.tape.trans h.tape, k.output.trans h.output, Nat.le_trans h.size k.size, fun i hi hc => (k.block i (Nat.lt_of_lt_of_le hi h.size) (by omega)).trans (h.block i hi hc)⟩

theorem EL.mono {w : World} {K K' : Nat → Prop} {c : Nat} (hk : ∀ b, K b → K' b) : ∀ {L : List MapEntry} {l : TagL}, EL w K c L l → EL w K' c L l
  | [], [], _ => trivial
  | e :: L, x :: l, h => ⟨⟨h.1.1, h.1.2.1, h.1.2.2.1, h.1.2.2.2.mono (fun b _ => hk b)⟩, EL.mono hk h.2⟩
  | [], _ :: _, h => h.elim
  | _ :: _, [], h => h.elim

theorem setTag_len1 (k : Nat) (v : List UInt8) (l : TagL) : (setTag k v l).length ≤ l.length + 1 := (setTag_len k v l).1

theorem TagsM.ext {C : Nat → Prop} {w w' : World} {D base : Nat} {u : Value} {l : TagL} (h : TagsM w D base u l) (he : Ext C w w') (hD : ¬ C D) (hC : ∀ k, k < w.heap.size → base ≤ k → ¬ C k) : TagsM w' D base u l := by
  rcases h with h | ⟨m, es, clock, rfl, hm, hb, h1, h2⟩
  · exact .inl h
  · exact .inr ⟨m, es, clock, rfl, hm, he.old hb (hC m (lt_of_heap hb) hm), h1.ext he hD, h2⟩

section
variable {P : Program} {E : Env} (ht : TyTg P E)
include ht
set_option maxHeartbeats 1000000 in
theorem c_readTags (C : CfgR) (hE : C.E = E) (hu : P.underlying E.tU32 = some (.int .u32)) (hi : intKind? P E.tU32 = some .u32) (hi' : intKind? P E.tInt = some .i64) (hk : kindOf P E.t_kmsg_Tags = .agg 1) (hz : zeroOf P E.t_kmsg_Tags = some (.agg #[.map none]))
    (hI : FnIs P E.f_kmsg_internalReadTags nt_kmsg_internalReadTags (rs_kmsg_internalReadTags E) (ir_kmsg_internalReadTags E))
    (hU : RdC P E.tRd E.f_pkbin_Reader_Uvarint fun rs => (.int .u32 (rdUv rs).1, (rdUv rs).2)) (hS : SpanC P E.tRd E.f_pkbin_Reader_Span)
    (hT : ∀ {w : World} {D base b k : Nat} {u v : Value} {s : List UInt8} {l : TagL} {et : TypeId}, k < 4294967296 → BytesAt w (· = D) v s → w.heap[b]? = some (.cells #[u] et (0, 0)) → TagsM w D base u l → D < base → base ≤ b → base ≤ w.heap.size →
      Ret P E.f_pkmsg_Tags_Set #[.pointer (some ⟨b, 0, none⟩), .int .u32 k, v] w fun _ w' => ∃ u', w'.heap[b]? = some (.cells #[u'] et (0, 0)) ∧ TagsM w' D base u' (setTag k s l) ∧ Ext (fun x => base ≤ x) w w') : TagsRC P C := by
  subst hE
  intro w pb D rs hne hD hr
  refine hI.call (args := [_]) (by simp [nt_kmsg_internalReadTags]) ?_
  have hlt : pb < w.heap.size := by obtain ⟨sv, hb, _⟩ := hr; exact lt_of_heap hb
  simp [ir_kmsg_internalReadTags, rs_kmsg_internalReadTags, hz, Value.cells]
  generalize hw1 : w.alloc (.cells #[.map none] C.E.t_kmsg_Tags) = w1
  have hs1 : w1.heap.size = w.heap.size + 1 := by subst hw1; simp
  have hx1 : Ext none1 w w1 := by subst hw1; exact (Ext.refl _ w).alloc _
  have hb0 : w1.heap[w.heap.size]? = some (.cells #[.map none] C.E.t_kmsg_Tags (0, 0)) := by subst hw1; exact alloc_new
  generalize hw2 : w1.alloc (.cells #[.map none] C.E.t_kmsg_Tags) = w2
  have hs2 : w2.heap.size = w.heap.size + 2 := by subst hw2; simp [hs1]
  have hx2 : Ext none1 w w2 := by subst hw2; exact hx1.alloc _
  have hb1 : w2.heap[w.heap.size + 1]? = some (.cells #[.map none] C.E.t_kmsg_Tags (0, 0)) := by subst hw2; rw [← hs1]; exact alloc_new
  have hb02 : w2.heap[w.heap.size]? = some (.cells #[.map none] C.E.t_kmsg_Tags (0, 0)) := by subst hw2; exact alloc_old hb0
  have hr2 : RdAt C.E.tRd w2 pb D rs := RdAt.ext hr hx2 (fun h => h) (fun h => h)
  refine (hU w2 pb D rs hne hr2).mono ?_
  rintro _ w3 ⟨rfl, hx3, hr3⟩
  simp
  have hx03 : Ext (· = pb) w w3 := (hx2.mono (fun _ _ h => h.elim)).trans hx3
  refine cw_loop (fun f w' => ∃ l rs' k, RTs C.E w pb D (rdUv rs).2 (rdUv rs).1 f w' l rs' k) (fun f _ => match f 4 with | .int _ n => n.toNat | _ => 0) ?_ ?_
  · refine ⟨[], (rdUv rs).2, (rdUv rs).1, by simp, by simp [hs1], by simp, by simp, hx03, hr3, ⟨.map none, hx3.old hb1 (by omega), .inl ⟨rfl, rfl⟩⟩, hx3.old hb02 (by omega), by simp, by simp, rfl, rdUv_lt rs⟩
  · rintro f w4 ⟨l, rs4, k, h⟩
    simp [h.f4]
    by_cases hk0 : k = 0
    · refine cw_false (by simp [hk0]) ?_
      obtain ⟨u, hc, hM⟩ := h.cell
      have c0 : w4.cell? ⟨w.heap.size + 1, 0, none⟩ = some u := by rw [cell_of_blk hc]; rfl
      have hone := hM.one
      simp [h.f3, h.f2, ld_agg hk, cellsFrom, Addr.add_mk, c0, store_agg hk, allOne, hone.1, putK_blk h.res]
      have hov : over #[Value.map none] 0 [u] = #[u] := rfl
      simp only [hov]
      generalize hw5 : w4.setBlk w.heap.size (.cells #[u] C.E.t_kmsg_Tags (0, 0)) = w5
      have hb5 : w5.heap[w.heap.size]? = some (.cells #[u] C.E.t_kmsg_Tags (0, 0)) := by subst hw5; exact setBlk_same h.res
      have c5 : w5.cell? ⟨w.heap.size, 0, none⟩ = some u := by rw [cell_of_blk hb5]; rfl
      simp [c5]
      have hx5 : Ext (fun x => x = w.heap.size) w4 w5 := by subst hw5; exact (Ext.refl (fun x => x = w.heap.size) w4).setBlk (b := w.heap.size) (Or.inr rfl) _
      have hlen := h.len
      have hkn := h.kn
      have htodo := h.todo
      subst hk0
      simp only [rdTagN] at htodo
      have hl1 : (rdTags rs).1 = l := by rw [rdTags, ← htodo]
      have hl2 : (rdTags rs).2 = rs4 := by rw [rdTags, ← htodo]
      refine ⟨?_, by subst hw5; exact h.ext.setBlk (Or.inl (Nat.le_refl _)) _, ?_⟩
      · rw [hl1, tagsAt_iff]
        rcases hM with ⟨rfl, rfl⟩ | ⟨m, es, clock, rfl, hm, hmb, he, hn⟩
        · exact .inl ⟨rfl, rfl⟩
        · refine .inr ⟨m, es, clock, rfl, .inr (by omega), hx5.old hmb ?_, ?_, h.nd, hn, by omega⟩
          · intro e; subst e; rw [h.res] at hmb; cases hmb
          · exact EL.mono (fun b hb => .inl hb) (he.ext hx5 (by omega))
      · rw [hl2]
        exact RdAt.ext h.rd hx5 (by omega) (by omega)
    · refine cw_true (by simp; omega) ?_
      simp [h.f0]
      refine (hU w4 pb D rs4 hne h.rd).mono ?_
      rintro _ w5 ⟨rfl, hx5, hr5⟩
      simp [h.f0]
      refine (hU w5 pb D _ hne hr5).mono ?_
      rintro _ w6 ⟨rfl, hx6, hr6⟩
      simp [h.f0, hi, hi']
      have hwr : IntKind.i64.wrap ((rdUv (rdUv rs4).2).1 : Int) = ((rdUv (rdUv rs4).2).1 : Int) := i64_small (by omega) (by have := rdUv_lt (rdUv rs4).2; omega)
      rw [hwr]
      refine (hS w6 pb D _ _ hne hr6).mono ?_
      rintro v w7 ⟨hv, _, hx7, hr7⟩
      simp [h.f3]
      have hx47 : Ext (· = pb) w4 w7 := (hx5.trans hx6).trans hx7
      obtain ⟨u, hc, hM⟩ := h.cell
      have hsz := h.ext.size
      have hc7 : w7.heap[w.heap.size + 1]? = some (.cells #[u] C.E.t_kmsg_Tags (0, 0)) := hx47.old hc (by omega)
      refine (hT (rdUv_lt rs4) hv hc7 (hM.ext hx47 (fun e => hne e.symm) (by intro k _ hk e; omega)) (by omega) (by omega) (by have := lt_of_heap hc7; omega)).mono ?_
      rintro _ w8 ⟨u', hc8, hM8, hx8⟩
      simp [h.f4]
      have hkn := h.kn
      have hln := h.len
      have hwk : IntKind.u32.wrap ((k : Int) - 1) = ((k - 1 : Nat) : Int) := by simp [IntKind.wrap, IntKind.signed, IntKind.bits]; omega
      refine ⟨⟨_, _, k - 1, ⟨by simp [h.f0], by simp [h.f3], by simp [hwk], by simp [h.f2], ?_, hr7.ext hx8 (by omega) (by omega), ⟨u', hc8, hM8⟩, ?_, setTag_nodup _ _ _ h.nd, ?_, ?_, hkn⟩⟩, ?_⟩
      · exact (h.ext.trans hx47).grow hx8 (by omega)
      · exact hx8.old (hx47.old h.res (by omega)) (by omega)
      · exact Nat.le_trans (Nat.add_le_add_right (setTag_len1 _ _ l) _) (by omega)
      · rw [← h.todo]
        obtain ⟨k', rfl⟩ : ∃ k', k = k' + 1 := ⟨k - 1, by omega⟩
        simp only [Nat.add_sub_cancel, rdTagN, rdTag]
      · rw [hwk]; omega
end
end Go.Kg

set_option linter.unusedSimpArgs false
set_option linter.unusedVariables false
namespace Go.Kg
open Go

/-! ## Tags: written -/
/-- where what is written stands while tags are written: the cell bd; nothing of 'prot' is touched -/
structure DstAt (E : Env) (base bd : Nat) (w0 : World) (v0 : Value) (prot : Nat → Prop) (s : List UInt8) (w : World) (v : Value) : Prop where
  cell : w.heap[bd]? = some (.cells #[v] E.tBs (0, 0))
  own : OwnB E.tU8 w base v s
  grew : Grew w0 v0 w v
  off : ∀ k, prot k → k < w.heap.size ∧ ¬ own1 v k

theorem ownB_cells {e : Nat} {w : World} {base : Nat} {v : Value} {s : List UInt8} (h : OwnB e w base v s) : v.cells = #[v] ∧ v.oneCell' = true := by
  obtain ⟨n, _, h⟩ := h
  rcases h with ⟨rfl, _⟩ | ⟨g, cap, cur, rfl, _⟩ <;> exact ⟨rfl, rfl⟩

theorem DstAt.step {E : Env} {base bd : Nat} {w0 w w' : World} {v0 v v' : Value} {prot : Nat → Prop} {s out : List UInt8} (hD : DstAt E base bd w0 v0 prot s w v) (hbd : w0.heap.size ≤ bd) (hnp : ¬ prot bd) (hnb : ¬ own1 v bd)
    (ho : OwnB E.tU8 w' base v' (s ++ out)) (hg : Grew w v w' v') :
    w'.heap[bd]? = some (.cells #[v] E.tBs (0, 0)) ∧ DstAt E base bd w0 v0 prot (s ++ out) (w'.setBlk bd (.cells #[v'] E.tBs (0, 0))) v' ∧ ¬ own1 v' bd ∧ ∀ k, prot k → (w'.setBlk bd (.cells #[v'] E.tBs (0, 0))).heap[k]? = w.heap[k]? := by
  have hlt := lt_of_heap hD.cell
  have hc : w'.heap[bd]? = some (.cells #[v] E.tBs (0, 0)) := hg.ext.old hD.cell hnb
  have hnb' : ¬ own1 v' bd := fun h => (hg.own bd h).elim hnb (fun h => by omega)
  have hoff : ∀ k, prot k → k < w'.heap.size ∧ ¬ own1 v' k := fun k hk => ⟨Nat.lt_of_lt_of_le (hD.off k hk).1 hg.ext.size, fun h => (hg.own k h).elim (hD.off k hk).2 (fun h' => by have := (hD.off k hk).1; omega)⟩
  have hG := hD.grew.trans hg
  refine ⟨hc, ⟨setBlk_same hc, Own.ext ho ((Ext.refl (fun x => x = bd) w').setBlk (b := bd) (Or.inr rfl) _) (fun b h e => hnb' (by subst e; exact h)), ⟨hG.ext.setBlk (Or.inl hbd) _, hG.own⟩, by simpa using hoff⟩, hnb', ?_⟩
  intro k hk
  have hne : k ≠ bd := fun e => hnp (by subst e; exact hk)
  rw [setBlk_other hne]
  exact hg.ext.block k (hD.off k hk).1 (hD.off k hk).2

section
variable {P : Program} {E : Env} (ht : TyTg P E)
include ht

theorem c_AE1 (hS : SliI P E.tBs E.tU8 1 1 (.int .u8 0)) (hi : intKind? P E.tU32 = some .u32) (hi' : intKind? P E.tInt = some .i64) (hI : FnIs P E.f_pkmsg_Tags_AppendEach_1 nt_pkmsg_Tags_AppendEach_1 (rs_pkmsg_Tags_AppendEach_1 E) (ir_pkmsg_Tags_AppendEach_1 E))
    (hU : ∀ n : Nat, n < 4294967296 → WrC P E.tU8 E.f_kbin_AppendUvarint [.int .u32 n] (uvOut n))
    {base bd : Nat} {w0 w : World} {v0 v val : Value} {prot : Nat → Prop} {s : List UInt8} {x : Nat × List UInt8} {K : Nat → Prop}
    (hD : DstAt E base bd w0 v0 prot s w v) (hbd : w0.heap.size ≤ bd) (hb : base ≤ w0.heap.size) (hnp : ¬ prot bd) (hnb : ¬ own1 v bd) (hx : x.1 < 4294967296) (hxl : x.2.length < 4294967296) (hv : BytesAt w K val x.2) (hK : ∀ k, K k → k < base) (hsz : s.length + (tagW x).length ≤ 1099511627776) :
    Ret P E.f_pkmsg_Tags_AppendEach_1 #[.int .u32 x.1, val, .pointer (some ⟨bd, 0, none⟩)] w fun _ w' => ∃ v', DstAt E base bd w0 v0 prot (s ++ tagW x) w' v' ∧ ¬ own1 v' bd ∧ ∀ k, prot k → w'.heap[k]? = w.heap[k]? := by
  have hbdlt := lt_of_heap hD.cell
  have hxu : uvOut x.1 ++ uvOut x.2.length ++ x.2 = tagW x := by simp [tagW, Nat.mod_eq_of_lt hxl]
  have hsz' : s.length + ((uvOut x.1).length + (uvOut x.2.length).length + x.2.length) ≤ 1099511627776 := by rw [← hxu] at hsz; simp only [List.length_append] at hsz; omega
  refine hI.call (args := [_, _, _]) (by simp [nt_pkmsg_Tags_AppendEach_1]) ?_
  have c0 : w.cell? ⟨bd, 0, none⟩ = some v := by rw [cell_of_blk hD.cell]; rfl
  have hsw : base ≤ w.heap.size := Nat.le_trans hb hD.grew.size
  simp [ir_pkmsg_Tags_AppendEach_1, rs_pkmsg_Tags_AppendEach_1, ld_scl ht.kBs, c0]
  refine (hU x.1 hx w base v s hD.own hsw (by omega)).mono ?_
  rintro v1 w1 ⟨ho1, hg1⟩
  obtain ⟨hc1, hD1, hn1, hp1⟩ := hD.step hbd hnp hnb ho1 hg1
  have hva : BytesAt w1 K val x.2 := hv.ext hg1.ext (fun b _ hk h => by have := (Own.below hD.own h).1; have := hK b hk; omega)
  simp [store_scl ht.kBs, (ownB_cells ho1).2, put1K_blk hc1]
  generalize hw1' : w1.setBlk bd (.cells #[v1] E.tBs (0, 0)) = w1' at *
  have hva1 : BytesAt w1' K val x.2 := by subst hw1'; exact hva.ext ((Ext.refl (fun k => k = bd) w1).setBlk (b := bd) (Or.inr rfl) _) (fun b _ hk e => by have := hK b hk; omega)
  have c1 : w1'.cell? ⟨bd, 0, none⟩ = some v1 := by rw [cell_of_blk hD1.cell]; rfl
  obtain ⟨a, c, rfl, _⟩ := hva1.len
  have hw32 : IntKind.u32.wrap (x.2.length : Int) = (x.2.length : Int) := by simp [IntKind.wrap, IntKind.signed, IntKind.bits]; omega
  have uBs := hS.und
  simp [ld_scl ht.kBs, c1, len_slice uBs, hi, hi', hw32]
  refine (hU x.2.length hxl w1' base v1 _ hD1.own (Nat.le_trans hb hD1.grew.size) (by simp; omega)).mono ?_
  rintro v2 w2 ⟨ho2, hg2⟩
  obtain ⟨hc2, hD2, hn2, hp2⟩ := hD1.step hbd hnp hn1 ho2 hg2
  have hvb : BytesAt w2 K (.slice a x.2.length c) x.2 := hva1.ext hg2.ext (fun b _ hk h => by have := (Own.below hD1.own h).1; have := hK b hk; omega)
  simp [store_scl ht.kBs, (ownB_cells ho2).2, put1K_blk hc2]
  generalize hw2' : w2.setBlk bd (.cells #[v2] E.tBs (0, 0)) = w2' at *
  have hvb1 : BytesAt w2' K (.slice a x.2.length c) x.2 := by subst hw2'; exact hvb.ext ((Ext.refl (fun k => k = bd) w2).setBlk (b := bd) (Or.inr rfl) _) (fun b _ hk e => by have := hK b hk; omega)
  have c2 : w2'.cell? ⟨bd, 0, none⟩ = some v2 := by rw [cell_of_blk hD2.cell]; rfl
  simp [ld_scl ht.kBs, c2]
  refine st_app_bytes hS (by simp) hD2.own (Nat.le_trans hb hD2.grew.size) (by simpa using hvb1) (by simp; omega) ?_
  intro v3 w3 ho3 hg3
  obtain ⟨hc3, hD3, hn3, hp3⟩ := hD2.step hbd hnp hn2 ho3 hg3
  simp [store_scl ht.kBs, (ownB_cells ho3).2, put1K_blk hc3]
  refine ⟨v3, ?_, hn3, fun k hk => ?_⟩
  · rw [← hxu]; simpa [List.append_assoc] using hD3
  · rw [hp3 k hk, hp2 k hk, hp1 k hk]
end
end Go.Kg

set_option linter.unusedSimpArgs false
set_option linter.unusedVariables false
namespace Go.Kg
open Go

/-! ## Tags.Each -/
theorem DstAt.ext {E : Env} {base bd n0 : Nat} {w0 w w' : World} {v0 v : Value} {prot : Nat → Prop} {s : List UInt8} (hD : DstAt E base bd w0 v0 prot s w v) (he : Ext (fun x => n0 ≤ x) w w') (hbd : bd < n0) (hv : ∀ k, own1 v k → k < n0) (h0 : w0.heap.size ≤ n0) :
    DstAt E base bd w0 v0 (fun k => n0 ≤ k ∧ k < w'.heap.size) s w' v :=
  ⟨he.old hD.cell (by omega), Own.ext hD.own he (fun b h h' => by have := hv b h; omega), ⟨hD.grew.ext.grow he h0, hD.grew.own⟩, fun k hk => ⟨hk.2, fun h => by have := hv k h; omega⟩⟩

theorem DstAt.tags {E : Env} {base bd : Nat} {w0 w : World} {v0 v : Value} {prot : Nat → Prop} {s s0 : List UInt8} (hD : DstAt E base bd w0 v0 prot s w v) (ho : OwnB E.tU8 w0 base v0 s0) {b o : Nat} {u : Value} {l : TagL} (hb : b < base) (hc : w0.cell? ⟨b, o, none⟩ = some u) (hl : TagsAt w0 (· < base) u l) :
    w.cell? ⟨b, o, none⟩ = some u ∧ TagsAt w (· < base) u l :=
  ⟨hD.grew.ext.cell hc (fun h => by have := (Own.below ho h).1; simp at this; omega), hl.ext hD.grew.ext (fun b _ hb h => by have := (Own.below ho h).1; omega)⟩

theorem EL.find {w : World} {K : Nat → Prop} {c : Nat} : ∀ {L : List MapEntry} {l : TagL} (i : Nat), EL w K c L l → (l.map (·.1)).Nodup → ∀ x ∈ l, x.1 < 4294967296 ∧ ∃ j v, Instr.findNow (.int .u32) (.int .u32 x.1) L i = some (some (j, v)) ∧ BytesAt w K v x.2
  | e :: L, y :: l, i, ⟨⟨h1, h2, h3, h4⟩, h5⟩, hn, x, hx => by
    simp only [List.map_cons, List.nodup_cons] at hn
    by_cases hxy : y.1 = x.1
    · have : x = y := by
        rcases List.mem_cons.1 hx with h | h
        · exact h
        · exact absurd (List.mem_map.2 ⟨x, h, hxy.symm⟩) hn.1
      subst this
      exact ⟨h2, i, e.val, by simp [Instr.findNow, Instr.sameNow, h1], h4⟩
    · have hx' : x ∈ l := by
        rcases List.mem_cons.1 hx with h | h
        · subst h; exact absurd rfl hxy
        · exact h
      obtain ⟨a, j, v, b1, b2⟩ := EL.find (i + 1) h5 hn.2 x hx'
      have hne : ((x.1 : Int) == (y.1 : Int)) = false := by simp; omega
      exact ⟨a, j, v, by simp [Instr.findNow, Instr.sameNow, h1, hne, b1], b2⟩
  | [], _ :: _, _, h, _, _, _ => h.elim

theorem run_lookup {P : Program} {T KT VT : TypeId} (hT : P.underlying T = some (.map KT VT)) (hK : P.underlying KT = some (.int .u32)) {w : World} {b clock j : Nat} {k : Int} {v : Value} {es : Array MapEntry}
    (hb : w.heap[b]? = some (.map es clock)) (hf : Instr.findNow (.int .u32) (.int .u32 k) es.toList 0 = some (some (j, v))) :
    (Instr.lookup T (.map (some b)) (.int .u32 k) false).run P w = .ok v w := by
  have hget : (getObj b).run P w = .ok (.map es clock) w := by simp [getObj, Sem.run, hb]
  simp [Instr.lookup, run_underlying hT, hget, check_u32 hK, Instr.findKey, run_underlying hK, hf]

theorem EL.keys {w : World} {K : Nat → Prop} {c : Nat} : ∀ {L : List MapEntry} {l : TagL}, EL w K c L l → L.map (·.key) = l.map fun x => Value.int .u32 x.1
  | [], [], _ => rfl
  | e :: L, x :: l, h => by simp [h.1.1, EL.keys h.2]
  | [], _ :: _, h => h.elim
  | _ :: _, [], h => h.elim

theorem left_perm {seen : Array Nat} {e : MapEntry} : ∀ {L : List MapEntry}, (L.map (·.born)).Nodup → e ∈ L → seen.contains e.born = false →
    ((L.filter fun x => !seen.contains x.born).map (·.key)).Perm (e.key :: (L.filter fun x => !(seen.push e.born).contains x.born).map (·.key))
  | x :: L, hn, he, hs => by
    simp only [List.map_cons, List.nodup_cons] at hn
    have hc : ∀ y : MapEntry, (seen.push e.born).contains y.born = (seen.contains y.born || (y.born == e.born)) := by
      intro y; rw [contains_push]
    by_cases hxe : x.born = e.born
    · have hx : x = e := by
        rcases List.mem_cons.1 he with h | h
        · exact h.symm
        · exact absurd (List.mem_map.2 ⟨e, h, hxe.symm⟩) hn.1
      subst hx
      have hrest : (L.filter fun y => !(seen.push x.born).contains y.born) = L.filter fun y => !seen.contains y.born := by
        refine List.filter_congr fun y hy => ?_
        have : (y.born == x.born) = false := by simp; intro h; exact hn.1 (h ▸ List.mem_map.2 ⟨y, hy, rfl⟩)
        rw [hc, this]; simp
      have h1 : (List.filter (fun y : MapEntry => !seen.contains y.born) (x :: L)) = x :: L.filter fun y => !seen.contains y.born := by rw [List.filter_cons, hs]; rfl
      have h2 : (List.filter (fun y : MapEntry => !(seen.push x.born).contains y.born) (x :: L)) = L.filter fun y => !(seen.push x.born).contains y.born := by rw [List.filter_cons, hc]; simp
      rw [h1, h2, hrest]
      exact List.Perm.refl _
    · have he' : e ∈ L := by
        rcases List.mem_cons.1 he with h | h
        · subst h; exact absurd rfl hxe
        · exact h
      have ih := left_perm hn.2 he' hs
      have hxb : (x.born == e.born) = false := by simpa using hxe
      cases hsx : seen.contains x.born
      · have h1 : (List.filter (fun y : MapEntry => !seen.contains y.born) (x :: L)) = x :: L.filter fun y => !seen.contains y.born := by rw [List.filter_cons, hsx]; rfl
        have h2 : (List.filter (fun y : MapEntry => !(seen.push e.born).contains y.born) (x :: L)) = x :: L.filter fun y => !(seen.push e.born).contains y.born := by rw [List.filter_cons, hc, hsx, hxb]; rfl
        rw [h1, h2]
        simp only [List.map_cons]
        exact (List.Perm.cons _ ih).trans (List.Perm.swap _ _ _)
      · have h1 : (List.filter (fun y : MapEntry => !seen.contains y.born) (x :: L)) = L.filter fun y => !seen.contains y.born := by rw [List.filter_cons, hsx]; rfl
        have h2 : (List.filter (fun y : MapEntry => !(seen.push e.born).contains y.born) (x :: L)) = L.filter fun y => !(seen.push e.born).contains y.born := by rw [List.filter_cons, hc, hsx]; simp
        rw [h1, h2]; exact ih

theorem sorted_keys {l : TagL} {d : List Nat} (hn : (l.map (·.1)).Nodup) (hp : d.Perm (l.map (·.1))) (hs : d.Pairwise (· ≤ ·)) : d = (sortTags l).map (·.1) := by
  have hp2 : ((sortTags l).map (·.1)).Perm (l.map (·.1)) := by
    refine List.Perm.map _ ?_
    clear hn hp hs
    induction l with
    | nil => exact List.Perm.refl _
    | cons x l ih =>
      have hi : ∀ (x : Nat × List UInt8) (l : TagL), (insTag x l).Perm (x :: l) := by
        intro x l
        induction l with
        | nil => exact List.Perm.refl _
        | cons y l ih =>
          simp only [insTag]
          split
          · exact List.Perm.refl _
          · exact (List.Perm.cons _ ih).trans (List.Perm.swap _ _ _)
      exact (hi x (sortTags l)).trans (List.Perm.cons _ ih)
  have hs2 : ((sortTags l).map (·.1)).Pairwise (· ≤ ·) := by
    rw [List.pairwise_map]; exact sortTags_sorted l
  exact List.Perm.eq_of_pairwise (fun a b _ _ h1 h2 => Nat.le_antisymm h1 h2) hs hs2 (hp.trans hp2.symm)

/-- sort.Slice over ordered, by the literal in Each -/
def SortC (P : Program) (E : Env) : Prop := ∀ (w : World) (Bs blk c : Nat) (d : List Nat) (row : Array Value), w.cell? ⟨Bs, 0, none⟩ = some (.slice (some ⟨blk, 0, none⟩) d.length c) → Bs ≠ blk → w.heap[blk]? = some (.cells row E.tU32 (0, 0)) →
  (∀ (i x : Nat), d[i]? = some x → row[i]? = some (Value.int .u32 (x : Int))) → 0 < d.length → d.length < 4294967296 →
  Ret P E.f_sort_Slice #[.iface E.t_l_uint32 (.slice (some ⟨blk, 0, none⟩) d.length c), .func (.func E.f_pkmsg_Tags_Each_1) #[] #[.pointer (some ⟨Bs, 0, none⟩)]] w fun _ w' => ∃ d' : List Nat, d'.Perm d ∧ d'.Pairwise (· ≤ ·) ∧ Ext (· = blk) w w' ∧
    ∀ (i x : Nat), d'[i]? = some x → w'.cell? ⟨blk, i, none⟩ = some (Value.int .u32 (x : Int))

@[simp] theorem stp_range {P : Program} {f : Nat → Value} {ty : TypeId} {w : World} {K : Value → World → Prop} {T : TypeId} {a : Operand} : stp P f (.range T a) ty w K = stepF P f (.range T a) ty w K := (rfl)
@[simp] theorem stp_next {P : Program} {f : Nat → Value} {ty : TypeId} {w : World} {K : Value → World → Prop} {a : Operand} {b : Bool} : stp P f (.next a b) ty w K = stepF P f (.next a b) ty w K := (rfl)
@[simp] theorem stp_entry {P : Program} {f : Nat → Value} {ty : TypeId} {w : World} {K : Value → World → Prop} {a : Operand} : stp P f (.entry a) ty w K = stepF P f (.entry a) ty w K := (rfl)
@[simp] theorem stp_lookup {P : Program} {f : Nat → Value} {ty : TypeId} {w : World} {K : Value → World → Prop} {T : TypeId} {a b : Operand} {c : Bool} : stp P f (.lookup T a b c) ty w K = stepF P f (.lookup T a b c) ty w K := (rfl)
@[simp] theorem stp_mkI {P : Program} {f : Nat → Value} {ty : TypeId} {w : World} {K : Value → World → Prop} {T : TypeId} {a : Operand} : stp P f (.makeInterface T a) ty w K = stepF P f (.makeInterface T a) ty w K := (rfl)

def rLeft (w : World) (b r : Nat) : Nat :=
  match w.heap[b]?, w.heap[r]? with
  | some (.map es _), some (.mapIter _ _ seen _) => (leftOf es seen).size
  | _, _ => 0
theorem rLeft_of {w : World} {b r c s c0 : Nat} {es : Array MapEntry} {seen : Array Nat} {m : Option Nat} (h1 : w.heap[b]? = some (.map es c)) (h2 : w.heap[r]? = some (.mapIter m s seen c0)) : rLeft w b r = (leftOf es seen).size := by
  simp [rLeft, h1, h2]

/-- while the keys are gathered -/
structure RngI (E : Env) (base bd n0 : Nat) (w0 : World) (v0 : Value) (s : List UInt8) (v : Value) (it bp m : Nat) (es : Array MapEntry) (clock : Nat) (pt fn : Value) (ww : World) (f : Nat → Value) (w : World) : Prop where
  ext : Ext (fun x => n0 ≤ x) ww w
  f0 : f 0 = pt
  f1 : f 1 = fn
  f4 : f 4 = .pointer (some ⟨bp, 0, none⟩)
  f24 : f 24 = .pointer (some ⟨it, 0, none⟩)
  st : ∃ seen c0 ov done, w.heap[it]? = some (.mapIter (some m) clock seen c0) ∧ clock ≤ c0 ∧ w.heap[bp]? = some (.cells #[ov] E.t_l_uint32 (0, 0)) ∧ Own w n0 E.tU32 1 ov done ∧ (∀ k, own1 ov k → k ≠ it ∧ k ≠ bp) ∧
    (((es.toList.filter fun x => !seen.contains x.born).map (·.key)) ++ done).Perm (es.toList.map (·.key)) ∧ done.length ≤ es.size

section
variable {P : Program} {E : Env} (ht : TyTg P E)
include ht

set_option maxHeartbeats 1000000 in
/-- 'for key := range t.keyvals' -/
theorem c_round (kS : kindOf P E.t_l_uint32 = .scl) (hS : SliI P E.t_l_uint32 E.tU32 1 4 (.int .u32 0)) (hi : intKind? P E.tU32 = some .u32)
    {base bd n0 : Nat} {w0 ww : World} {v0 v : Value} {s : List UInt8} {it bp m : Nat} {es : Array MapEntry} {clock : Nat} {pt fn : Value} {f : Nat → Value} {w : World} {K : Nat → Prop} {l : TagL}
    (h : RngI E base bd n0 w0 v0 s v it bp m es clock pt fn ww f w) (hm : w.heap[m]? = some (.map es clock)) (he : EL w K clock es.toList l) (hn : (es.toList.map (·.born)).Nodup) (hlen : es.size ≤ 40000) (hit : n0 ≤ it ∧ it < w.heap.size) (hbp : n0 ≤ bp ∧ bp < w.heap.size) (hib : it ≠ bp) (hm0 : m < n0) {Q : Post}
    (hdone : ∀ f' w', w' = w → (∀ x, x ≠ 25 → x ≠ 26 → f' x = f x) → leftOf es #[] = leftOf es #[] → (∃ seen c0, w.heap[it]? = some (.mapIter (some m) clock seen c0) ∧ (leftOf es seen).size = 0) → Q (.exit 0) f' w')
    (hnext : ∀ f' w', RngI E base bd n0 w0 v0 s v it bp m es clock pt fn ww f' w' → rLeft w' m it < rLeft w m it → Q .normal f' w') :
    ((Ir.seq
          (.reg [
              ⟨none, some 25, .next (.tmp 24) false, E.tNil⟩,
              ⟨none, some 26, .extract (.tmp 25) 0, E.tB⟩])
        (.seq
          (.cond 26
            .skip
            (.exit 0))
        (.block 1
          (.seq
            (.reg [
                ⟨none, some 27, .entry (.tmp 24), E.tNil⟩,
                ⟨none, some 28, .extract (.tmp 27) 0, E.tU32⟩,
                ⟨none, some 5, .assign (.tmp 28), E.tU32⟩])
          (.reg [
              ⟨none, some 29, .load E.t_l_uint32 (.tmp 4), E.t_l_uint32⟩,
              ⟨none, some 30, .move (.tmp 5), E.tU32⟩,
              ⟨none, some 31, .buildSlice E.t_l_uint32 1 #[(0, .tmp 30)], E.t_l_uint32⟩,
              ⟨none, some 32, .call { callee := .builtin .append, args := #[.tmp 29, .tmp 31], argTypes := #[E.t_l_uint32, E.t_l_uint32] }, E.t_l_uint32⟩,
              ⟨none, none, .store E.t_l_uint32 (.tmp 4) (.tmp 32), E.tNil⟩])))))).cw P Q f w := by
  obtain ⟨seen, c0, ov, done, hr, hc0, hbo, ho, hoff, hperm, hdl⟩ := h.st
  have hold : ∀ x ∈ es.toList, x.born < clock := fun x hx => by
    obtain ⟨y, _, hy⟩ := he.mem x hx
    exact hy.2.2.1
  simp [h.f24]
  rcases run_next_at (P := P) w E.tNil it m clock c0 seen es clock hr hm hold hc0 with ⟨h0, hrun⟩ | ⟨e, hel, w1, hal, hrun⟩
  · rw [stepF_ok (v := .tuple #[.bool false]) (w' := w) (by simp [runF, execOp, h.f24, hrun])]
    simp
    refine cw_false (by simp) ?_
    simp
    exact hdone _ _ rfl (fun x h1 h2 => by simp [h1, h2]) rfl ⟨seen, c0, hr, h0⟩
  · obtain ⟨hem, hes⟩ := mem_left hel
    generalize hw2 : ChangeMaps.setBlock w1 it (.mapIter (some m) clock (seen.push e.born) clock) = w2 at hrun
    rw [stepF_ok (v := .tuple #[.bool true, e.key, e.val]) (w' := w2) (by simp [runF, execOp, h.f24, hrun])]
    have hE12 : Ext (fun x => n0 ≤ x) w w1 := by rcases hal with rfl | rfl <;> first | exact Ext.refl _ _ | exact (Ext.refl _ _).drew
    have hr1 : w1.heap[it]? = some (.mapIter (some m) clock seen c0) := by rcases hal with rfl | rfl <;> exact hr
    have hw2' : w1.setBlk it (.mapIter (some m) clock (seen.push e.born) clock) = w2 := hw2
    have hE2 : Ext (fun x => x = it) w w2 := by
      subst hw2'
      refine Ext.setBlk (C := fun x => x = it) (b := it) ?_ (Or.inr rfl) _
      rcases hal with rfl | rfl <;> first | exact Ext.refl _ _ | exact (Ext.refl _ _).drew
    have hr2 : w2.heap[it]? = some (.mapIter (some m) clock (seen.push e.born) clock) := by subst hw2'; exact setBlk_same hr1
    have hm2 : w2.heap[m]? = some (.map es clock) := hE2.old hm (by omega)
    have hent := run_entry_at (P := P) w2 it m clock seen es clock e hr2 hm2 hem hn
    have hb2 : w2.heap[bp]? = some (.cells #[ov] E.t_l_uint32 (0, 0)) := hE2.old hbo (Ne.symm hib)
    have ho2 : Own w2 n0 E.tU32 1 ov done := Own.ext ho hE2 (fun b hb => (hoff b hb).1)
    obtain ⟨y, hy, hy1, hy2, _⟩ := he.mem e hem
    have cb : w2.cell? ⟨bp, 0, none⟩ = some ov := by rw [cell_of_blk hb2]; rfl
    simp
    refine cw_true (by simp) ?_
    simp [h.f24]
    rw [stepF_ok (v := .tuple #[e.key, e.val]) (w' := w2) (by simp [runF, execOp, h.f24, hent])]
    simp [h.f4, ld_scl kS, cb]
    rw [st_bsl (n := 1) (parts := #[(0, .tmp 30)]) hS (by omega) (by rfl) rfl (by omega) (by omega) (by simp [allSz, hy1, Value.cells])]
    simp [flat, hy1, Value.cells]
    generalize hw3 : w2.alloc (.cells #[.int .u32 y.1] E.tU32) = w3
    have hE3 : Ext none1 w2 w3 := by subst hw3; exact (Ext.refl _ _).alloc _
    have hs3 : w2.heap.size < w3.heap.size := by subst hw3; simp
    have ho3 : Own w3 n0 E.tU32 1 ov done := Own.ext ho2 hE3 (fun _ _ h => h)
    have hb3 : w3.heap[w2.heap.size]? = some (.cells #[.int .u32 y.1] E.tU32 (0, 0)) := by subst hw3; exact alloc_new
    have hs2 : w2.heap.size = w.heap.size := by subst hw2'; rcases hal with rfl | rfl <;> simp
    have hp2 := left_perm hn hem hes
    have hlt : done.length < es.size := by
      have h1 := hperm.length_eq
      have h2 := hp2.length_eq
      simp only [List.length_append, List.length_map, List.length_cons, Array.length_toList] at h1 h2
      omega
    refine st_append hS (by omega) (base := n0) (xs := done) (by simpa using ho3) (ad := some ⟨w2.heap.size, 0, none⟩) (m := 1) (c := 1) (news := [.int .u32 y.1]) (by simp) (by simp) (by simp) ?_ (by simp [Value.oneCell']) (by simp [maxLen]; omega) (by simp; omega) (by omega) ?_
    · intro a ha j u hj
      cases ha
      cases j with
      | zero => simp at hj; subst hj; simp [Addr.add_mk, cell_of_blk hb3]
      | succ j => simp at hj
    · intro v' w4 ho4 hg4
      have hv' : v'.oneCell' = true ∧ v'.cells = #[v'] := by
        obtain ⟨n, _, h⟩ := ho4
        rcases h with ⟨rfl, _⟩ | ⟨g, cap, cur, rfl, _⟩ <;> exact ⟨rfl, rfl⟩
      simp at hg4
      have hb4 : w4.heap[bp]? = some (.cells #[ov] E.t_l_uint32 (0, 0)) := hg4.ext.old (hE3.old hb2 (fun h => h)) (fun h => (hoff bp h).2 rfl)
      have hit4 : w4.heap[it]? = some (.mapIter (some m) clock (seen.push e.born) clock) := hg4.ext.old (hE3.old hr2 (fun h => h)) (fun h => (hoff it h).1 rfl)
      have hm4 : w4.heap[m]? = some (.map es clock) := hg4.ext.old (hE3.old hm2 (fun h => h)) (fun h => by have := (Own.below ho h).1; omega)
      simp [h.f4, store_scl kS, hv'.1, put1K_blk hb4]
      generalize hw5 : w4.setBlk bp (.cells #[v'] E.t_l_uint32 (0, 0)) = w5
      have hE5 : Ext (fun x => x = bp) w4 w5 := by subst hw5; exact (Ext.refl (fun x => x = bp) _).setBlk (b := bp) (Or.inr rfl) _
      have hsz4 := hg4.ext.size
      have hov4 : ∀ k, own1 v' k → k ≠ it ∧ k ≠ bp := fun k hk => (hg4.own k hk).elim (hoff k) (fun h => by omega)
      have hit5 : w5.heap[it]? = some (.mapIter (some m) clock (seen.push e.born) clock) := hE5.old hit4 hib
      have hm5 : w5.heap[m]? = some (.map es clock) := hE5.old hm4 (by omega)
      refine hnext _ _ ⟨?_, by simp [h.f0], by simp [h.f1], by simp [h.f4], by simp [h.f24], seen.push e.born, clock, v', done ++ [.int .u32 y.1], hit5, Nat.le_refl _, ?_, Own.ext ho4 hE5 (fun b hb => (hov4 b hb).2), hov4, ?_, ?_⟩ ?_
      · refine h.ext.trans ?_
        refine (hE2.mono (fun _ _ e => by omega)).trans ?_
        refine (hE3.mono (fun _ _ e => e.elim)).trans ?_
        refine (hg4.ext.mono (fun k _ hk => (Own.below ho hk).1)).trans ?_
        exact hE5.mono (fun _ _ e => by omega)
      · subst hw5; exact setBlk_same hb4
      · refine List.Perm.trans ?_ hperm
        have := hp2.append_right done
        refine List.Perm.trans ?_ this.symm
        simp only [hy1, List.cons_append]
        rw [← List.append_assoc]
        exact List.perm_append_singleton _ _
      · simp; omega
      · rw [rLeft_of hm5 hit5, rLeft_of hm hr]
        exact left_shrinks es seen e hel
end
end Go.Kg

set_option linter.unusedSimpArgs false
set_option linter.unusedVariables false
namespace Go.Kg
open Go

/-- the contract of the literal in AppendEach -/
def AE1C (P : Program) (E : Env) : Prop := ∀ {base bd : Nat} {w0 w : World} {v0 v val : Value} {prot : Nat → Prop} {s : List UInt8} {x : Nat × List UInt8} {K : Nat → Prop},
    DstAt E base bd w0 v0 prot s w v → w0.heap.size ≤ bd → base ≤ w0.heap.size → ¬ prot bd → ¬ own1 v bd → x.1 < 4294967296 → x.2.length < 4294967296 → BytesAt w K val x.2 → (∀ k, K k → k < base) → s.length + (tagW x).length ≤ 1099511627776 →
    Ret P E.f_pkmsg_Tags_AppendEach_1 #[.int .u32 x.1, val, .pointer (some ⟨bd, 0, none⟩)] w fun _ w' => ∃ v', DstAt E base bd w0 v0 prot (s ++ tagW x) w' v' ∧ ¬ own1 v' bd ∧ ∀ k, prot k → w'.heap[k]? = w.heap[k]?

/-- while the tags are written -/
structure OutI (E : Env) (base bd n0 n1 : Nat) (w0 : World) (v0 : Value) (s : List UInt8) (l : TagL) (pt fn ov : Value) (w5 : World) (f : Nat → Value) (w : World) (i : Nat) : Prop where
  f0 : f 0 = pt
  f1 : f 1 = fn
  f37 : f 37 = ov
  f38 : f 38 = .int .i64 l.length
  f39 : f 39 = .int .i64 i
  il : i ≤ l.length
  st : ∃ v, DstAt E base bd w0 v0 (fun k => n0 ≤ k ∧ k < n1) (s ++ ((sortTags l).take i).flatMap tagW) w v ∧ ¬ own1 v bd
  same : ∀ k, n0 ≤ k → k < n1 → w.heap[k]? = w5.heap[k]?

theorem stp_callF {P : Program} {f : Nat → Value} {ty : TypeId} {w : World} {K : Value → World → Prop} {t g : Nat} {xs : Array Operand} {ts : Array TypeId} {first cap : Array Value} (h : f t = .func (.func g) first cap) :
    stp P f (.call { callee := .value (.tmp t), args := xs, argTypes := ts }) ty w K = Ret P g (first ++ xs.map (evF f) ++ cap) w K := by simp only [stp, callK, h]

theorem keys_back : ∀ (L : List Value), (∀ v ∈ L, ∃ x : Nat, v = .int .u32 x) → L = (L.map fun v => match v with | .int _ n => n.toNat | _ => 0).map fun x : Nat => Value.int .u32 x
  | [], _ => rfl
  | v :: L, h => by
    obtain ⟨x, rfl⟩ := h v (List.mem_cons_self ..)
    simp only [List.map_cons, Int.toNat_natCast]
    rw [← keys_back L (fun v hv => h v (List.mem_cons_of_mem _ hv))]

theorem flat_le {α : Type} (g : α → List UInt8) : ∀ (l : List α) (i : Nat), ((l.take i).flatMap g).length ≤ (l.flatMap g).length
  | [], i => by simp
  | a :: l, 0 => by simp
  | a :: l, i + 1 => by have := flat_le g l i; simp only [List.take_succ_cons, List.flatMap_cons, List.length_append]; omega

section
variable {P : Program} {E : Env} (ht : TyTg P E)
include ht

set_option maxHeartbeats 4000000 in
theorem c_EachT (kS : kindOf P E.t_l_uint32 = .scl) (k32 : kindOf P E.tU32 = .scl) (hS : SliI P E.t_l_uint32 E.tU32 1 4 (.int .u32 0)) (hi : intKind? P E.tU32 = some .u32) (hu : P.underlying E.tU32 = some (.int .u32)) (hi' : intKind? P E.tInt = some .i64) (hzS : zeroOf P E.t_l_uint32 = some (.slice none 0 0))
    (hI : FnIs P E.f_pkmsg_Tags_Each nt_pkmsg_Tags_Each (rs_pkmsg_Tags_Each E) (ir_pkmsg_Tags_Each E)) (hA : AE1C P E) (hSo : SortC P E)
    {base bd : Nat} {w0 w : World} {v0 v : Value} {s s0 : List UInt8} {b o : Nat} {u : Value} {l : TagL}
    (hD : DstAt E base bd w0 v0 (fun _ => False) s w v) (hbd : w0.heap.size ≤ bd) (hb0 : base ≤ w0.heap.size) (hnb : ¬ own1 v bd) (ho0 : OwnB E.tU8 w0 base v0 s0)
    (hb : b < base) (hc : w0.cell? ⟨b, o, none⟩ = some u) (hl : TagsAt w0 (· < base) u l) (hok : tagsOk l) (hne : l ≠ []) (hsz : s.length + (tagsOut l).length ≤ 1099511627776) :
    Ret P E.f_pkmsg_Tags_Each #[.pointer (some ⟨b, o, none⟩), .func (.func E.f_pkmsg_Tags_AppendEach_1) #[] #[.pointer (some ⟨bd, 0, none⟩)]] w fun _ w' => ∃ v', DstAt E base bd w0 v0 (fun _ => False) (s ++ tagsOut l) w' v' := by
  obtain ⟨hcw, hlw⟩ := hD.tags ho0 hb hc hl
  have hpos : 0 < l.length := List.length_pos_iff.2 hne
  rcases tagsAt_iff.1 hlw with ⟨_, h⟩ | ⟨m, es, clock, rfl, hm, hmb, he, hnd, hnb', hlen⟩
  · exact absurd h hne
  have hesl : es.size = l.length := by simpa using he.get.1
  have hbdlt := lt_of_heap hD.cell
  have hwsz := hD.grew.ext.size
  refine hI.call (args := [_, _]) (by simp [nt_pkmsg_Tags_Each]) ?_
  have hm1 : (mapLen? w (some m)) = some (.int .i64 es.size) := by simp [mapLen?, hmb]
  simp [ir_pkmsg_Tags_Each, rs_pkmsg_Tags_Each, ht.g0, Addr.add_mk, ld_scl ht.kM, hcw, isM ht, hm1]
  have hes0 : es ≠ #[] := by rintro rfl; simp at hesl; omega
  refine cw_false (by simp [hes0]) ?_
  simp [ht.g0, Addr.add_mk, ld_scl ht.kM, hcw, isM ht, hm1]
  obtain ⟨ii, hinf, hzi, hsi, hbi⟩ := hS.inf
  obtain ⟨w1, hmk, how1, hg1⟩ := run_make_own (P := P) w w.heap.size E.t_l_uint32 E.tU32 ii _ 1 hS.und hinf hzi hsi .i64 .i64 es.size (by rw [hbi]; have := hok.1; omega) (by have := hok.1; simp [maxLen]; omega) (Nat.le_refl _)
  rw [stepF_ok (v := .slice (some ⟨w.heap.size, 0, none⟩) 0 es.size) (w' := w1) (by simp [runF, execOp, hmk])]
  have hE1 : Ext none1 w w1 := ⟨hg1.os, hg1.tape, hg1.output, hg1.size, fun k hk _ => hg1.block k hk (by simp)⟩
  have ho1 : Own w1 w.heap.size E.tU32 1 (.slice (some ⟨w.heap.size, 0, none⟩) 0 es.size) [] := ⟨0, how1⟩
  have hlt1 : w.heap.size < w1.heap.size := (Own.below ho1 (b := w.heap.size) rfl).2
  simp [hzS, Value.cells, store_scl kS, put1K_blk alloc_new]
  generalize hw2 : (w1.alloc (.cells #[.slice none 0 0] E.t_l_uint32)).setBlk w1.heap.size (.cells #[.slice (some ⟨w.heap.size, 0, none⟩) 0 es.size] E.t_l_uint32 (0, 0)) = w2
  have hE2 : Ext none1 w1 w2 := by subst hw2; exact ((Ext.refl _ w1).alloc _).setBlk (Or.inl (Nat.le_refl _)) _
  have hs2 : w2.heap.size = w1.heap.size + 1 := by subst hw2; simp
  have hb2 : w2.heap[w1.heap.size]? = some (.cells #[.slice (some ⟨w.heap.size, 0, none⟩) 0 es.size] E.t_l_uint32 (0, 0)) := by subst hw2; exact setBlk_same alloc_new
  have hE02 : Ext none1 w w2 := hE1.trans hE2
  have hcw2 : w2.cell? ⟨b, o, none⟩ = some (.map (some m)) := hE02.cell hcw (fun h => h)
  have hm2 : w2.heap[m]? = some (.map es clock) := hE02.old hmb (fun h => h)
  refine ⟨rfl, ?_⟩
  simp [ht.g0, Addr.add_mk, ld_scl ht.kM, hcw2]
  rw [stepF_ok (v := .pointer (some ⟨w2.heap.size, 0, none⟩)) (w' := w2.alloc (.mapIter (some m) clock #[] clock)) (by simp [runF, execOp, run_range_map w2 _ _ _ m es clock ht.uM hm2])]
  generalize hw3 : w2.alloc (.mapIter (some m) clock #[] clock) = w3
  have hE3 : Ext none1 w2 w3 := by subst hw3; exact (Ext.refl _ w2).alloc _
  have hs3 : w3.heap.size = w2.heap.size + 1 := by subst hw3; simp
  have hi3 : w3.heap[w2.heap.size]? = some (.mapIter (some m) clock #[] clock) := by subst hw3; exact alloc_new
  have hE03 : Ext none1 w w3 := hE02.trans hE3
  have hm3 : w3.heap[m]? = some (.map es clock) := hE03.old hmb (fun h => h)
  refine cw_loop (fun f w' => RngI E base bd w.heap.size w0 v0 s v w2.heap.size w1.heap.size m es clock (.pointer (some ⟨b, o, none⟩)) (.func (.func E.f_pkmsg_Tags_AppendEach_1) #[] #[.pointer (some ⟨bd, 0, none⟩)]) w f w') (fun _ w' => rLeft w' m w2.heap.size) ?_ ?_
  · refine ⟨hE03.mono (fun _ _ h => h.elim), by simp, by simp, by simp, by simp, #[], clock, _, [], hi3, Nat.le_refl _, hE3.old hb2 (fun h => h), Own.ext (Own.ext ho1 hE2 (fun _ _ h => h)) hE3 (fun _ _ h => h), ?_, ?_, by simp⟩
    · intro k hk
      have := (Own.below ho1 hk)
      have : k = w.heap.size := by cases hk; rfl
      omega
    · have : (es.toList.filter fun x : MapEntry => !(#[] : Array Nat).contains x.born) = es.toList := by rw [List.filter_eq_self]; intro x _; simp
      rw [this]; simp
  · intro f3 w4 hR
    have hsz4 := hR.ext.size
    have hm4 : w4.heap[m]? = some (.map es clock) := hR.ext.old hmb (by omega)
    have he4 : EL w4 (· < base) clock es.toList l := by
      have := tagsAt_iff.1 ((hlw.ext (C := fun x => w.heap.size ≤ x) hR.ext (fun b _ hb h => by omega)))
      rcases this with ⟨h, _⟩ | ⟨m', es', clock', h, _, hb', he', _⟩
      · cases h
      · cases h
        rw [hm4] at hb'; cases hb'; exact he'
    have hit4 : w2.heap.size < w4.heap.size := by
      obtain ⟨_, _, _, _, h, _⟩ := hR.st
      exact lt_of_heap h
    refine c_round ht (base := base) (bd := bd) (v0 := v0) (v := v) (s := s) kS hS hi hR hm4 he4 hnb' (by have := hok.1; omega) ⟨by omega, hit4⟩ ⟨by omega, by omega⟩ (by omega) (by omega) ?_ ?_
    · rintro f4 w4 rfl hk _ ⟨seen', c0', hr', h0⟩
      obtain ⟨seen, c0, ov, done, hr, hc0, hbo, ho, hoff, hperm, hdl⟩ := hR.st
      rw [hr] at hr'
      cases hr'
      have hseen := all_seen es seen' h0
      have hfil : (es.toList.filter fun x => !seen'.contains x.born) = [] := by
        rw [List.filter_eq_nil_iff]; intro x hx; have := hseen x hx; simp at this; simp [this]
      rw [hfil] at hperm
      simp only [List.map_nil, List.nil_append, he4.keys] at hperm
      obtain ⟨d, hd, hdp⟩ : ∃ d : List Nat, done = d.map (fun x : Nat => Value.int .u32 x) ∧ d.Perm (l.map (·.1)) := by
        refine ⟨done.map fun v => match v with | .int _ n => n.toNat | _ => 0, ?_, ?_⟩
        · refine keys_back done fun v hv => ?_
          obtain ⟨x, _, rfl⟩ := List.mem_map.1 (hperm.mem_iff.1 hv)
          exact ⟨x.1, rfl⟩
        · refine (hperm.map _).trans ?_
          rw [List.map_map]
          exact List.Perm.of_eq (List.map_congr_left fun x _ => by simp)
      have hdl' : d.length = l.length := by rw [hdp.length_eq]; simp
      obtain ⟨n, hnl, hov⟩ := ho
      have hn : n = l.length := by rw [hd] at hnl; simp at hnl; omega
      rcases hov with ⟨_, h⟩ | ⟨g, cap, cur, rfl, hg, hgb, hncap, hcm, hcs, htake⟩
      · omega
      have hgo := hoff g rfl
      have hgo' : w.heap.size ≤ g := hg
      have hglt := lt_of_heap hgb
      have cbp : w4.cell? ⟨w1.heap.size, 0, none⟩ = some (.slice (some ⟨g, 0, none⟩) n cap) := by rw [cell_of_blk hbo]; rfl
      have k4 : f4 4 = .pointer (some ⟨w1.heap.size, 0, none⟩) := (hk 4 (by omega) (by omega)).trans hR.f4
      have k0 : f4 0 = _ := (hk 0 (by omega) (by omega)).trans hR.f0
      have k1 : f4 1 = _ := (hk 1 (by omega) (by omega)).trans hR.f1
      simp [k4, ld_scl kS, cbp]
      rw [stepF_ok (v := .iface E.t_l_uint32 (.slice (some ⟨g, 0, none⟩) n cap)) (w' := w4) (by simp [runF, execOp, Instr.makeInterface, run_underlying hS.und])]
      have hrow : ∀ (i x : Nat), d[i]? = some x → cur[i]? = some (Value.int .u32 (x : Int)) := by
        intro i x hx
        have h1 : (cur.toList.take (n * 1))[i]? = some (Value.int .u32 (x : Int)) := by rw [htake, hd, List.getElem?_map, hx]; rfl
        rw [List.getElem?_take] at h1
        split at h1
        · simpa using h1
        · cases h1
      have hS5 := hSo w4 w1.heap.size g cap d cur (by rw [cbp, hn, hdl']) (by omega) hgb hrow (by omega) (by rw [hdl']; exact hlen)
      rw [hdl', ← hn] at hS5
      refine hS5.mono ?_
      rintro _ w5 ⟨d', hd'p, hd's, hE5, hd'c⟩
      have hd'e := sorted_keys hnd (hd'p.trans hdp) hd's
      have hs5 := hE5.size
      have hbp5 : w5.heap[w1.heap.size]? = some (.cells #[.slice (some ⟨g, 0, none⟩) n cap] E.t_l_uint32 (0, 0)) := hE5.old hbo (by omega)
      have cbp5 : w5.cell? ⟨w1.heap.size, 0, none⟩ = some (.slice (some ⟨g, 0, none⟩) n cap) := by rw [cell_of_blk hbp5]; rfl
      simp [k4, ld_scl kS, cbp5, len_slice hS.und]
      have hE05 : Ext (fun x => w.heap.size ≤ x) w w5 := hR.ext.trans (hE5.mono (fun _ _ e => by omega))
      have hD5 := hD.ext hE05 (by omega) (fun k hk => (Own.below hD.own hk).2) hD.grew.size
      refine cw_loop (fun f w' => ∃ i, OutI E base bd w.heap.size w5.heap.size w0 v0 s l (.pointer (some ⟨b, o, none⟩)) (.func (.func E.f_pkmsg_Tags_AppendEach_1) #[] #[.pointer (some ⟨bd, 0, none⟩)]) (.slice (some ⟨g, 0, none⟩) n cap) w5 f w' i) (fun f _ => match f 39 with | .int _ i => l.length - i.toNat | _ => 0) ?_ ?_
      · exact ⟨0, by simp [k0], by simp [k1], by simp, by simp [hn], by simp, by omega, ⟨v, by simpa using hD5, hnb⟩, fun _ _ _ => rfl⟩
      · rintro f6 w6 ⟨i, hO⟩
        obtain ⟨v6, hD6, hn6⟩ := hO.st
        simp [hO.f38, hO.f39]
        by_cases hil : i < l.length
        · refine cw_true (by simp [hil]) ?_
          obtain ⟨x, hx⟩ : ∃ x, (sortTags l)[i]? = some x := ⟨_, List.getElem?_eq_getElem (by rw [sortTags_len]; exact hil)⟩
          have hxl : x ∈ l := (sortTags_mem l x).1 (List.mem_of_getElem? hx)
          have hcell : w6.cell? ⟨g, i, none⟩ = some (.int .u32 x.1) := by
            rw [World.cell?_of_block (a := ⟨g, i, none⟩) (hO.same g hgo' (by omega))]
            refine hd'c i x.1 ?_
            rw [hd'e, List.getElem?_map, hx]; rfl
          obtain ⟨hcw6, hlw6⟩ := hD6.tags ho0 hb hc hl
          rcases tagsAt_iff.1 hlw6 with ⟨h, _⟩ | ⟨m', es', clock', h, _, hb6, he6, hnd6, _⟩
          · cases h
          cases h
          obtain ⟨hx32, j, val, hfind, hval⟩ := he6.find 0 hnd6 x hxl
          have hxb := hok.2.2 x hxl
          have htk : (sortTags l).take (i + 1) = (sortTags l).take i ++ [x] := by rw [List.take_add_one, hx]; rfl
          have hszx : (s ++ ((sortTags l).take i).flatMap tagW).length + (tagW x).length ≤ 1099511627776 := by
            have := flat_le tagW (sortTags l) (i + 1)
            rw [htk] at this
            have e : tagsOut l = (sortTags l).flatMap tagW := rfl
            rw [e] at hsz
            simp only [List.flatMap_append, List.flatMap_cons, List.flatMap_nil, List.append_nil, List.length_append] at this ⊢
            omega
          have hidx := idx_of (P := P) (T := E.t_l_uint32) hS.siz (p := ⟨g, 0, none⟩) (n := n) (c := cap) (k := .i64) (i := i) (by omega)
          simp [hO.f37, hO.f39, hidx, Addr.add_mk, ld_scl k32, hcell, hO.f0, hO.f1, ht.g0, ld_scl ht.kM, hcw6]
          rw [stepF_ok (v := val) (w' := w6) (by simp [runF, execOp, run_lookup ht.uM hu hb6 hfind])]
          rw [stp_callF (g := E.f_pkmsg_Tags_AppendEach_1) (first := #[]) (cap := #[.pointer (some ⟨bd, 0, none⟩)]) (by simp)]
          simp
          refine (hA hD6 hbd hb0 (by omega) hn6 hx32 (by omega) hval (fun _ h => h) hszx).mono ?_
          rintro _ w7 ⟨v7, hD7, hn7, hp7⟩
          have hwi : IntKind.i64.wrap ((i : Int) + 1) = ((i + 1 : Nat) : Int) := by rw [i64_small (by omega) (by omega)]; rfl
          simp [hO.f39, hwi]
          refine ⟨⟨i + 1, by simp [hO.f0], by simp [hO.f1], by simp [hO.f37], by simp [hO.f38], by simp, by omega, ⟨v7, ?_, hn7⟩, fun k h1 h2 => (hp7 k ⟨h1, h2⟩).trans (hO.same k h1 h2)⟩, ?_⟩
          · rw [htk]; simpa [List.append_assoc] using hD7
          · omega
        · refine cw_false (by simp; omega) ?_
          simp
          have hi' : i = l.length := Nat.le_antisymm hO.il (by omega)
          subst hi'
          refine ⟨v6, ?_⟩
          rw [List.take_of_length_le (by rw [sortTags_len]; exact Nat.le_refl _)] at hD6
          exact ⟨hD6.cell, hD6.own, hD6.grew, fun _ h => h.elim⟩
    · intro f' w' h1 h2
      exact ⟨h1, h2⟩
end
end Go.Kg

set_option linter.unusedSimpArgs false
set_option linter.unusedVariables false
namespace Go.Kg
open Go

section
variable {P : Program} {E : Env} (ht : TyTg P E)
include ht

theorem tagsC (kS : kindOf P E.t_l_uint32 = .scl) (k32 : kindOf P E.tU32 = .scl) (hS : SliI P E.t_l_uint32 E.tU32 1 4 (.int .u32 0)) (hS8 : SliI P E.tBs E.tU8 1 1 (.int .u8 0)) (hi : intKind? P E.tU32 = some .u32) (hu : P.underlying E.tU32 = some (.int .u32)) (hi' : intKind? P E.tInt = some .i64) (hzS : zeroOf P E.t_l_uint32 = some (.slice none 0 0))
    (hI0 : FnIs P E.f_pkmsg_Tags_Len nt_pkmsg_Tags_Len (rs_pkmsg_Tags_Len E) (ir_pkmsg_Tags_Len E))
    (hI : FnIs P E.f_pkmsg_Tags_Each nt_pkmsg_Tags_Each (rs_pkmsg_Tags_Each E) (ir_pkmsg_Tags_Each E)) (hI1 : FnIs P E.f_pkmsg_Tags_AppendEach_1 nt_pkmsg_Tags_AppendEach_1 (rs_pkmsg_Tags_AppendEach_1 E) (ir_pkmsg_Tags_AppendEach_1 E))
    (hI2 : FnIs P E.f_pkmsg_Tags_AppendEach nt_pkmsg_Tags_AppendEach (rs_pkmsg_Tags_AppendEach E) (ir_pkmsg_Tags_AppendEach E))
    (hU : ∀ n : Nat, n < 4294967296 → WrC P E.tU8 E.f_kbin_AppendUvarint [.int .u32 n] (uvOut n)) (hSo : SortC P E) : TagsC P E tagsOk := by
  refine ⟨fun w K b o v l hc hl => c_TLen ht hI0 w K b o v l hc hl, ?_, hU⟩
  intro w base v s b o u l hok hb hc hl ho hbs hsz
  have hA : AE1C P E := fun hD h1 h2 h3 h4 h5 h6 h7 h8 h9 => c_AE1 ht hS8 hi hi' hI1 hU hD h1 h2 h3 h4 h5 h6 h7 h8 h9
  have hvc := (ownB_cells ho).1
  refine hI2.call (args := [_, _]) (by simp [nt_pkmsg_Tags_AppendEach]) ?_
  simp [ir_pkmsg_Tags_AppendEach, rs_pkmsg_Tags_AppendEach, hvc]
  generalize hw1 : w.alloc (.cells #[v] E.tBs) = w1
  have hX : Ext none1 w w1 := by subst hw1; exact (Ext.refl none1 w).alloc _
  have hb1 : w1.heap[w.heap.size]? = some (.cells #[v] E.tBs (0, 0)) := by subst hw1; exact alloc_new
  have hnb : ¬ own1 v w.heap.size := fun h => by have := (Own.below ho h).2; omega
  have hD : DstAt E base w.heap.size w v (fun _ => False) s w1 v := ⟨hb1, Own.ext ho hX (fun _ _ h => h), ⟨hX.mono (fun _ _ h => h.elim), fun _ h => .inl h⟩, fun _ h => h.elim⟩
  have hmain : Ret P E.f_pkmsg_Tags_Each #[.pointer (some ⟨b, o, none⟩), .func (.func E.f_pkmsg_Tags_AppendEach_1) #[] #[.pointer (some ⟨w.heap.size, 0, none⟩)]] w1 fun _ w' => ∃ v', DstAt E base w.heap.size w v (fun _ => False) (s ++ tagsOut l) w' v' := by
    by_cases hne : l = []
    · subst hne
      refine (c_Each0 ht hI w1 b o u _ (· < base) (hX.cell hc (fun h => h)) (hl.ext hX (fun _ _ _ h => h))).mono ?_
      rintro _ w' rfl
      exact ⟨v, by simpa [tagsOut, sortTags] using hD⟩
    · exact c_EachT ht kS k32 hS hi hu hi' hzS hI hA hSo hD (Nat.le_refl _) hbs hnb ho hb hc hl hok hne hsz
  refine hmain.mono ?_
  rintro _ w2 ⟨v2, hD2⟩
  have c2 : w2.cell? ⟨w.heap.size, 0, none⟩ = some v2 := by rw [cell_of_blk hD2.cell]; rfl
  simp [ld_scl ht.kBs, c2]
  exact ⟨hD2.own, hD2.grew⟩
end
end Go.Kg

set_option linter.unusedSimpArgs false
set_option linter.unusedVariables false
namespace Go.Kg
open Go Go.Proofs Go.Shelf Go.RowKit Go.Lib Go.Sort

/-! ## sort.Slice, by the kit's contract -/
def encU (n : Nat) : Value := .int .u32 n
def ltN (a b : Nat) : Bool := decide (a < b)
theorem swo_ltN : SWO ltN where
  irrefl x := by simp [ltN]
  trans x y z h1 h2 := by simp only [ltN, decide_eq_true_eq] at *; omega
  ntrans x y z h1 h2 := by simp only [ltN, decide_eq_false_iff_not] at *; omega

/-- ordered[i] < ordered[j] -/
theorem c_less {P : Program} {E : Env} (kS : kindOf P E.t_l_uint32 = .scl) (k32 : kindOf P E.tU32 = .scl) (hS : SliI P E.t_l_uint32 E.tU32 1 4 (.int .u32 0)) (hI : FnIs P E.f_pkmsg_Tags_Each_1 nt_pkmsg_Tags_Each_1 (rs_pkmsg_Tags_Each_1 E) (ir_pkmsg_Tags_Each_1 E))
    {W : World} {Bs blk c n : Nat} (G : Nat → Nat) (hs : W.cell? ⟨Bs, 0, none⟩ = some (.slice (some ⟨blk, 0, none⟩) n c)) (hc : ∀ t, t < n → W.cell? ⟨blk, t, none⟩ = some (.int .u32 (G t))) {i j : Nat} (hi : i < n) (hj : j < n) :
    Ret P E.f_pkmsg_Tags_Each_1 #[.int .i64 i, .int .i64 j, .pointer (some ⟨Bs, 0, none⟩)] W fun v w' => v = .bool (decide (G i < G j)) ∧ w' = W.drew := by
  refine hI.call (args := [_, _, _]) (by simp [nt_pkmsg_Tags_Each_1]) ?_
  simp [ir_pkmsg_Tags_Each_1, rs_pkmsg_Tags_Each_1]
  refine cw_regH (fun w' => w' = W.drew) rfl ?_
  have hs' : W.drew.cell? ⟨Bs, 0, none⟩ = some (.slice (some ⟨blk, 0, none⟩) n c) := hs
  have hi1 := idx_of (P := P) (T := E.t_l_uint32) hS.siz (p := ⟨blk, 0, none⟩) (n := n) (c := c) (k := .i64) hi
  have hj1 := idx_of (P := P) (T := E.t_l_uint32) hS.siz (p := ⟨blk, 0, none⟩) (n := n) (c := c) (k := .i64) hj
  have ci : W.drew.cell? ⟨blk, i, none⟩ = some (.int .u32 (G i)) := hc i hi
  have cj : W.drew.cell? ⟨blk, j, none⟩ = some (.int .u32 (G j)) := hc j hj
  simp [ld_scl kS, ld_scl k32, hs, hi1, hj1, Addr.add_mk, hc i hi, hc j hj]

/-- what is asked of the types, of Swapper's literals and of the shelf -/
structure SortTy (P : Program) (E : Env) (ρ : Ren) (ke f2 f6 : Nat) : Prop where
  L : LaysGg.n6 P ρ
  fS : ρ.f 6 = E.f_sort_Slice
  fc : Callable P E.f_sort_Slice
  info : ∃ i, P.info? E.t_l_uint32 = some i ∧ i.desc = .slice E.tU32
  pk : P.packed E.t_l_uint32 = false
  elem : ∃ ie, P.info? E.tU32 = some ie ∧ ie.size = 1 ∧ ie.hasPointers = false ∧ ie.bytes = 4
  kind : ∀ w, (Extern.Rtype.kind E.tU32).run P w = .ok ke w
  lit1 : P.funcs.findIdx? (·.name == "internal/reflectlite" ++ ".Swapper$" ++ toString 2) = some f2
  lit4 : P.funcs.findIdx? (·.name == "internal/reflectlite" ++ ".Swapper$" ++ toString 6) = some f6
  swap : ∃ gS, ∀ args W, (callFunc f6 args).run P W = ((Extern.ReflectliteSwapper.swap gS args).run P W).andThen fun v w' => .ok (.value v) w'

theorem swK1 {ie : TypeInfo} {ke : Nat} : swapperK 1 ie ke = 2 := rfl
theorem swK4 {ie : TypeInfo} {ke n : Nat} (h1 : ie.hasPointers = false) (h2 : ie.bytes = 4) (hn : 2 ≤ n) : swapperK n ie ke = 6 := by
  have c : (n == 0) = false := by simp; omega
  have d : (n == 1) = false := by simp; omega
  simp [swapperK, h1, h2, c, d]

theorem enters_callable {P : Program} {g : Nat} (h : Callable P g) : ∀ args w, (callFunc g args).run P w = .ok (.enter g args) w := by
  obtain ⟨fn, c, h1, h2, h3⟩ := h
  exact enters_of h1 h3 h2

theorem sortC {P : Program} {E : Env} {ρ : Ren} {ke f2 f6 : Nat} (hT : SortTy P E ρ ke f2 f6) (kS : kindOf P E.t_l_uint32 = .scl) (k32 : kindOf P E.tU32 = .scl) (hS : SliI P E.t_l_uint32 E.tU32 1 4 (.int .u32 0)) (hI : FnIs P E.f_pkmsg_Tags_Each_1 nt_pkmsg_Tags_Each_1 (rs_pkmsg_Tags_Each_1 E) (ir_pkmsg_Tags_Each_1 E)) : SortC P E := by
  intro w Bs blk c d row hcell hne hblk hrow hpos hlen
  obtain ⟨i, hi, hd⟩ := hT.info
  obtain ⟨ie, hie, hs1, hp, hby⟩ := hT.elem
  have hlt := lt_of_heap hblk
  have hBlt := World.block_lt_of_cell? w _ hcell
  have hH : Holds encU w blk 0 d.toArray := by
    intro j hj
    have hj' : j < d.length := by simpa using hj
    have hr := hrow j d[j] (List.getElem?_eq_getElem hj')
    refine ⟨?_, ?_⟩
    · rw [Nat.zero_add, cell_of_blk hblk, hr]
      simp [encU, hj']
    · exact frozen_of_blk hblk
  refine ⟨hT.fc, ?_⟩
  by_cases h2 : 2 ≤ d.length
  · have hless : LessReads P E.f_pkmsg_Tags_Each_1 #[.pointer (some ⟨Bs, 0, none⟩)] encU ltN blk 0 d.toArray.size w := by
      intro m os dk hs i j hi hj
      have hs' : dk.size = d.toArray.size := hs
      have e : sortWorld encU w blk 0 m dk os = putRow encU (grow (Sort.ahead w m) os) blk 0 dk := by
        unfold sortWorld; rw [putRow_grow _ (Sort.ahead w m) _ blk 0 _ hlt]
      have hHg : Holds encU (grow (Sort.ahead w m) os) blk 0 d.toArray := holds_grow _ _ _ blk 0 d.toArray hlt (holds_ahead _ _ _ _ _ _ hH)
      have hr := c_less (n := d.length) (c := c) (Bs := Bs) (blk := blk) kS k32 hS hI (W := sortWorld encU w blk 0 m dk os) (fun t => dk[t]!) ?_ ?_ (i := i) (j := j) (by simpa using hi) (by simpa using hj)
      · exact hr.2.mono fun e w' ⟨v, he, hv, hw⟩ => ⟨by rw [he, hv]; rfl, 1, hw⟩
      · rw [e, cell?_putRow_other _ _ blk 0 dk _ (Or.inl (by show Bs ≠ blk; omega)), cell?_grow _ _ _ (by show Bs < w.heap.size; exact hBlt)]
        exact hcell
      · intro t ht
        rw [e]
        have := cell?_putRow encU _ blk 0 d.toArray dk hHg hs t (by rw [hs']; simpa using ht)
        rw [Nat.zero_add] at this
        exact this
    obtain ⟨gS, hx⟩ := hT.swap
    have hS' := Any.sort_Slice_sorted hT.L E.t_l_uint32 E.tU32 i ie hi hd hT.pk hie ke hT.kind hs1 (fun w => by obtain ⟨dd, i, g1, g2, g3, g4⟩ := kindOf_scl k32; simp [run_isAgg g1, g2]) encU (fun _ => rfl) ltN swo_ltN E.f_pkmsg_Tags_Each_1 #[.pointer (some ⟨Bs, 0, none⟩)]
      (enters_callable hI.callable) blk 0 c d.toArray (by simpa using h2) (by simp; omega) f6 (by rw [swK4 hp hby (by simpa using h2)]; exact hT.lit4) gS hx w hless hH hlt
    rw [hT.fS] at hS'
    refine hS'.mono ?_
    rintro e w' ⟨rfl, d', n, os, hP, hSo, rfl⟩
    refine ⟨_, rfl, d'.toList, ?_, ?_, ?_, ?_⟩
    · have h3 := hP.2.2
      have e1 : d'.extract 0 d.toArray.size = d' := by rw [← hP.1]; exact Array.extract_size
      have e2 : d.toArray.extract 0 d.toArray.size = d.toArray := Array.extract_size
      rw [e1, e2] at h3
      simpa using h3
    · rw [List.pairwise_iff_getElem]
      intro i j hi hj hij
      have := hSo i j (Nat.zero_le _) hij (by rw [← hP.1]; simpa using hj)
      simp only [ltN, decide_eq_false_iff_not] at this
      have hi' : i < d'.size := by simpa using hi
      have hj' : j < d'.size := by simpa using hj
      rw [getElem!_pos d' i hi', getElem!_pos d' j hj'] at this
      simp only [Array.getElem_toList]
      omega
    · refine ⟨rfl, rfl, rfl, by simp [putRow, mapBlock, Sort.ahead], fun k hk hne => ?_⟩
      rw [heap_grow_old _ _ (by simpa [putRow, mapBlock, Sort.ahead] using hk)]
      simp only [putRow, mapBlock, Sort.ahead, Array.getElem?_modify]
      rw [if_neg (fun e => hne e.symm)]
    · intro i x hx
      have hx' : d'[i]? = some x := by simpa using hx
      obtain ⟨hi', hxe⟩ := Array.getElem?_eq_some_iff.1 hx'
      rw [cell?_grow _ _ _ (by simpa [putRow, mapBlock, Sort.ahead] using hlt)]
      have := cell?_putRow encU (Sort.ahead w n) blk 0 d.toArray d' (holds_ahead _ _ _ _ _ _ hH) hP.1 i hi'
      rw [Nat.zero_add, getElem!_pos d' i hi', hxe] at this
      exact this
  · have h1 : d.length = 1 := by omega
    have hS' := Any.sort_Slice_tiny hT.L E.t_l_uint32 E.tU32 i ie hi hd hT.pk hie ke hT.kind (some ⟨blk, 0, none⟩) d.length c (by omega) f2 (by rw [h1]; exact hT.lit1) (.func E.f_pkmsg_Tags_Each_1) #[] #[.pointer (some ⟨Bs, 0, none⟩)] w
    rw [hT.fS] at hS'
    refine hS'.mono ?_
    rintro e w' ⟨rfl, os, rfl⟩
    refine ⟨_, rfl, d, List.Perm.refl _, ?_, ?_, ?_⟩
    · match d, h1 with
      | [x], _ => simp
    · refine ⟨rfl, rfl, rfl, by simp, fun k hk hne => heap_grow_old _ _ hk⟩
    · intro i x hx
      rw [cell?_grow _ _ _ hlt, cell_of_blk hblk]
      exact hrow i x hx
end Go.Kg

set_option linter.unusedSimpArgs false
set_option linter.unusedVariables false
namespace Go.Kg
open Go

/-! ## CompactNullableBytes -/
def ir_pkbin_Reader_CompactNullableBytes (E : Env) : Ir :=
  (.seq
    (.reg [
        ⟨none, some 2, .assign (.const (.slice none 0 0)), E.tBs⟩])
  (.seq
    (.reg [
        ⟨none, some 5, .move (.tmp 0), E.tPRd⟩,
        ⟨none, some 6, .call { callee := .value (.func E.f_pkbin_Reader_Uvarint), args := #[.tmp 5], argTypes := #[E.tPRd] }, E.tU32⟩,
        ⟨none, some 7, .convert E.tU32 E.tInt (.tmp 6), E.tInt⟩,
        ⟨none, some 8, .binOp .sub E.tInt (.tmp 7) (.const (.int .i64 1)) E.tInt, E.tInt⟩,
        ⟨none, some 3, .assign (.tmp 8), E.tInt⟩])
  (.seq
    (.seq
      (.reg [
          ⟨none, some 9, .move (.tmp 3), E.tInt⟩,
          ⟨none, some 10, .binOp .lss E.tInt (.tmp 9) (.const (.int .i64 0)) E.tInt, E.tB⟩])
    (.cond 10
      (.seq
        (.reg [
            ⟨none, some 2, .assign (.const (.slice none 0 0)), E.tBs⟩])
      .ret)
      .skip))
  (.seq
    (.reg [
        ⟨none, some 11, .move (.tmp 0), E.tPRd⟩,
        ⟨none, some 12, .move (.tmp 3), E.tInt⟩,
        ⟨none, some 13, .call { callee := .value (.func E.f_pkbin_Reader_Span), args := #[.tmp 11, .tmp 12], argTypes := #[E.tPRd, E.tInt] }, E.tBs⟩,
        ⟨none, some 4, .assign (.tmp 13), E.tBs⟩])
  (.seq
    (.reg [
        ⟨none, some 14, .move (.tmp 4), E.tBs⟩,
        ⟨none, some 2, .assign (.tmp 14), E.tBs⟩])
  .ret)))))
def nt_pkbin_Reader_CompactNullableBytes : Nat := 15
def rs_pkbin_Reader_CompactNullableBytes (E : Env) : List Rv := [.t 2]

section
variable {P : Program} {E : Env} (ht : TyRs P E)
include ht

theorem c_CNBytes (hI : FnIs P E.f_pkbin_Reader_CompactNullableBytes nt_pkbin_Reader_CompactNullableBytes (rs_pkbin_Reader_CompactNullableBytes E) (ir_pkbin_Reader_CompactNullableBytes E))
    (hU : RdC P E.tRd E.f_pkbin_Reader_Uvarint fun rs => (.int .u32 (rdUv rs).1, (rdUv rs).2)) (hSp : SpanC P E.tRd E.f_pkbin_Reader_Span) :
    RdPC P E.tRd E.f_pkbin_Reader_CompactNullableBytes RNBytes rdCNBytes := by
  intro w pb D rs hne hD hr
  refine hI.call (args := [_]) (by simp [nt_pkbin_Reader_CompactNullableBytes]) ?_
  simp [ir_pkbin_Reader_CompactNullableBytes, rs_pkbin_Reader_CompactNullableBytes]
  refine (hU w pb D rs hne hr).mono ?_
  rintro v w1 ⟨rfl, he1, hr1⟩
  have := rdUv_lt rs
  have e1 : IntKind.i64.wrap ((rdUv rs).1 : Int) = (rdUv rs).1 := i64_small (by omega) (by omega)
  have e : IntKind.i64.wrap ((rdUv rs).1 - 1 : Int) = (rdUv rs).1 - 1 := i64_small (by omega) (by omega)
  simp [ht.iU32, ht.iInt, e1, e, bin?]
  by_cases hlt : ((rdUv rs).1 : Int) - 1 < 0
  · refine cw_true (by simp; omega) ?_
    simp only [rdCNBytes, if_pos hlt]
    simp
    exact ⟨rfl, he1, hr1⟩
  · refine cw_false (by simp; omega) ?_
    simp
    refine (hSp w1 pb D _ _ hne hr1).mono ?_
    rintro v w2 ⟨hv, hn, he2, hr2⟩
    simp only [rdCNBytes, if_neg hlt]
    exact ⟨bytesOpt_of hv hn, he1.trans he2, hr2⟩
end
end Go.Kg

