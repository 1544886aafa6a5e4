/- What is proved here: how the code of the messages runs, in general: a semantics of calls by their texts, and contracts of the functions of kbin and of the reference. No condition but those that each theorem names. -/
import Derived.ChangeKeysEq
import Derived.Lib.AppendZerosOnto
import Derived.Test.YtglpicecddfcnaaGreatDoorKc
set_option linter.unusedSectionVars false
set_option linter.unusedSimpArgs false
set_option linter.unusedVariables false
set_option linter.unusedSimpArgs false
set_option linter.unusedVariables false
namespace Go.Kg
open Go
def Prim.fR (E : Env) : Prim → Bool → Nat
  | .bool, _ => E.f_pkbin_Reader_Bool
  | .i8, _ => E.f_pkbin_Reader_Int8
  | .i16, _ => E.f_pkbin_Reader_Int16
  | .u16, _ => E.f_pkbin_Reader_Uint16
  | .i32, _ => E.f_pkbin_Reader_Int32
  | .i64, _ => E.f_pkbin_Reader_Int64
  | .uuid, _ => E.f_pkbin_Reader_Uuid
  | .str, false => E.f_pkbin_Reader_String
  | .str, true => E.f_pkbin_Reader_CompactString
  | .nstr, false => E.f_pkbin_Reader_NullableString
  | .nstr, true => E.f_pkbin_Reader_CompactNullableString
  | .bytes, false => E.f_pkbin_Reader_Bytes
  | .bytes, true => E.f_pkbin_Reader_CompactBytes
  | .nbytes, false => E.f_pkbin_Reader_NullableBytes
  | .nbytes, true => E.f_pkbin_Reader_CompactNullableBytes
/-- u: the numbers of the readers that are 'unsafe' (String, CompactString, NullableString, CompactNullableString). rs: where the reader stands. -/
structure CfgR extends Cfg where
  rs : Nat
  u : Nat × Nat × Nat × Nat
def Prim.fU (C : CfgR) : Prim → Bool → Nat
  | .str, false => C.u.1
  | .str, true => C.u.2.1
  | .nstr, false => C.u.2.2.1
  | .nstr, true => C.u.2.2.2
  | _, _ => 0
/-- v = b.F() -/
def callR (C : CfgR) (p : Prim) (f l t : Nat) : Ir :=
  .reg (⟨none, some t, .call { callee := .value (.func f), args := #[.tmp C.rs], argTypes := #[C.E.tRd] }, p.ty C.E⟩ :: putL C.toCfg p (p.ty C.E) l t)
/-- if the slot s {a} else {b} -/
def condI (C : CfgR) (s t : Nat) (a b : Ir) : Ir := .seq (.reg [⟨none, some t, .move (.tmp s), C.E.tB⟩]) (.cond t a b)
def zeroV : Prim → Value
  | .str => .string ⟨#[]⟩
  | .nstr => .pointer none
  | _ => .slice none 0 0
def Prim.uns : Prim → Bool
  | .str | .nstr => true
  | _ => false
/-- reading into the local l; so many temporaries -/
def readI (C : CfgR) (p : Prim) (l t : Nat) : List Ir :=
  match p with
  | .str => .reg [⟨none, some l, .assign (.const (zeroV p)), p.ty C.E⟩] ::
    [if C.fx then condI C 2 t (condI C 9 (t + 1) (callR C p (p.fU C true) l (t + 2)) (callR C p (p.fU C false) l (t + 3))) (condI C 9 (t + 4) (callR C p (p.fR C.E true) l (t + 5)) (callR C p (p.fR C.E false) l (t + 6)))
      else condI C 2 t (callR C p (p.fU C false) l (t + 1)) (callR C p (p.fR C.E false) l (t + 2))]
  | .nstr => .reg [⟨none, some l, .assign (.const (zeroV p)), p.ty C.E⟩] ::
    [if C.fx then condI C 9 t (condI C 2 (t + 1) (callR C p (p.fU C true) l (t + 2)) (callR C p (p.fR C.E true) l (t + 3))) (condI C 2 (t + 4) (callR C p (p.fU C false) l (t + 5)) (callR C p (p.fR C.E false) l (t + 6)))
      else condI C 2 t (callR C p (p.fU C false) l (t + 1)) (callR C p (p.fR C.E false) l (t + 2))]
  | .bytes | .nbytes => if C.fx then .reg [⟨none, some l, .assign (.const (zeroV p)), p.ty C.E⟩] :: [condI C 9 t (callR C p (p.fR C.E true) l (t + 1)) (callR C p (p.fR C.E false) l (t + 2))]
      else [callR C p (p.fR C.E false) l t]
  | _ => [callR C p (p.fR C.E false) l t]
def readN (C : CfgR) (p : Prim) : Nat :=
  match p with
  | .str | .nstr => if C.fx then 7 else 3
  | .bytes | .nbytes => if C.fx then 3 else 1
  | _ => 1
/-- s.F = v -/
def storeR (C : CfgR) (T PT pv k ty l t : Nat) (p : Prim) : List Ro :=
  [⟨none, some t, .move (.tmp pv), PT⟩, getL C.toCfg p l (t + 1), ⟨none, some (t + 2), .nilCheck (.tmp t), C.E.tNil⟩, ⟨none, some (t + 3), .fieldAddr T (.tmp (t + 2)) k, C.E.tNil⟩, ⟨none, none, .store ty (.tmp (t + 3)) (.tmp (t + 1)), C.E.tNil⟩]
/-- the same of a type's own -/
def storeT (C : CfgR) (T PT pv k ty l t : Nat) : List Ro :=
  [⟨none, some t, .move (.tmp pv), PT⟩, ⟨none, some (t + 1), .move (.tmp l), ty⟩, ⟨none, some (t + 2), .nilCheck (.tmp t), C.E.tNil⟩, ⟨none, some (t + 3), .fieldAddr T (.tmp (t + 2)) k, C.E.tNil⟩, ⟨none, none, .store ty (.tmp (t + 3)) (.tmp (t + 1)), C.E.tNil⟩]
def lenIR (C : CfgR) (l t : Nat) : Ir :=
  let c (f t : Nat) : Ir := .reg [⟨none, some t, .call { callee := .value (.func f), args := #[.tmp C.rs], argTypes := #[C.E.tRd] }, C.E.tI32⟩, ⟨none, some l, .assign (.tmp t), C.E.tI32⟩]
  if C.fx then condI C 9 t (c C.E.f_pkbin_Reader_CompactArrayLen (t + 1)) (c C.E.f_pkbin_Reader_ArrayLen (t + 2)) else c C.E.f_pkbin_Reader_ArrayLen t
def lenIN (C : CfgR) : Nat := if C.fx then 3 else 1
/-- return b.Complete() -/
def completeI (C : CfgR) (t : Nat) : List Ir := [.reg [⟨none, some t, .call { callee := .value (.func C.E.f_pkbin_Reader_Complete), args := #[.tmp C.rs], argTypes := #[C.E.tRd] }, C.E.tErr⟩, ⟨none, some 6, .assign (.tmp t), C.E.tErr⟩], .ret]
def okI (C : CfgR) (t : Nat) : Ir :=
  .seq (.reg [⟨none, some t, .call { callee := .value (.func C.E.f_pkbin_Reader_Ok), args := #[.tmp C.rs], argTypes := #[C.E.tRd] }, C.E.tB⟩, ⟨none, some (t + 1), .unOp .not C.E.tB (.tmp t), C.E.tB⟩]) (.cond (t + 1) (seqL (completeI C (t + 2))) .skip)
/-- if version < m || l == 0 {a = []T{}} -/
def nulI (C : CfgR) (m sT l t : Nat) : Ir :=
  .seq (.reg [⟨none, some t, .move (.tmp 8), C.E.tI16⟩, ⟨none, some (t + 1), .binOp .lss C.E.tI16 (.tmp t) (.const (.int .i16 m)) C.E.tI16, C.E.tB⟩, ⟨none, some (t + 2), .move (.tmp (t + 1)), C.E.tB⟩,
      ⟨some (t + 2, false), some (t + 3), .move (.tmp (l + 2)), C.E.tI32⟩, ⟨some (t + 2, false), some (t + 4), .binOp .eql C.E.tI32 (.tmp (t + 3)) (.const (.int .i32 0)) C.E.tI32, C.E.tB⟩, ⟨none, some (t + 5), .pick (.tmp (t + 2)) (.const (.bool true)) (.tmp (t + 4)), C.E.tB⟩])
    (.cond (t + 5) (.reg [⟨none, some (t + 6), .buildSlice sT 0 #[], sT⟩, ⟨none, some (l + 1), .assign (.tmp (t + 6)), sT⟩]) .skip)
def nulN : Option Nat → Nat
  | none => 0
  | some _ => 7
/-- a list's field, up to the loop: l: v, l + 1: a, l + 2: the length; the loop starts at t + headN -/
def headR (C : CfgR) (T PT pv k sT l t : Nat) (nul : Option Nat) : List Ir :=
  let t1 := t + 5 + lenIN C
  let t2 := t1 + nulN nul
  [loadI C.toCfg T PT pv k sT l t .i8, .reg [⟨none, some (t + 4), .move (.tmp l), sT⟩, ⟨none, some (l + 1), .assign (.tmp (t + 4)), sT⟩], .reg [⟨none, some (l + 2), .assign (.const (.int .i32 0)), C.E.tI32⟩], lenIR C (l + 2) (t + 5)] ++
  (match nul with | none => [] | some m => [nulI C m sT l t1]) ++
  [okI C t2, .reg [⟨none, some (t2 + 3), .move (.tmp (l + 1)), sT⟩, ⟨none, some (t2 + 4), .slice sT (.tmp (t2 + 3)) none (some (.const (.int .i64 0))) none, sT⟩, ⟨none, some (l + 1), .assign (.tmp (t2 + 4)), sT⟩],
   .seq (.reg [⟨none, some (t2 + 5), .move (.tmp (l + 2)), C.E.tI32⟩, ⟨none, some (t2 + 6), .binOp .gtr C.E.tI32 (.tmp (t2 + 5)) (.const (.int .i32 0)) C.E.tI32, C.E.tB⟩])
    (.cond (t2 + 6) (.reg [⟨none, some (t2 + 7), .move (.tmp (l + 1)), sT⟩, ⟨none, some (t2 + 8), .move (.tmp (l + 2)), C.E.tI32⟩,
      ⟨none, some (t2 + 9), .call { callee := .builtin .append, args := #[.tmp (t2 + 7), .tmp (t2 + 8)], argTypes := #[sT, C.E.tI32] }, sT⟩, ⟨none, some (l + 1), .assign (.tmp (t2 + 9)), sT⟩]) .skip)]
def headN (C : CfgR) (nul : Option Nat) : Nat := 5 + lenIN C + nulN nul + 10
/-- for i := int32(0); i < l; i++: the body starts at t + 5 -/
def forI (C : CfgR) (l t k : Nat) (body : Ir) : Ir :=
  .seq (.reg [⟨none, some (l + 3), .assign (.const (.int .i32 0)), C.E.tI32⟩])
    (.block k (.loop (.seq (.seq (.reg [⟨none, some t, .move (.tmp (l + 3)), C.E.tI32⟩, ⟨none, some (t + 1), .move (.tmp (l + 2)), C.E.tI32⟩, ⟨none, some (t + 2), .binOp .lss C.E.tI32 (.tmp t) (.tmp (t + 1)) C.E.tI32, C.E.tB⟩]) (.cond (t + 2) .skip (.exit k)))
      (.seq (.block (k + 1) body) (.reg [⟨none, some (t + 3), .move (.tmp (l + 3)), C.E.tI32⟩, ⟨none, some (t + 4), .binOp .add C.E.tI32 (.tmp (t + 3)) (.const (.int .i32 1)) C.E.tI32, C.E.tI32⟩, ⟨none, some (l + 3), .assign (.tmp (t + 4)), C.E.tI32⟩])))))
/-- v = a; s.F = v -/
def tailR (C : CfgR) (T PT pv k sT l t : Nat) : List Ir :=
  [.reg [⟨none, some t, .move (.tmp (l + 1)), sT⟩, ⟨none, some l, .assign (.tmp t), sT⟩], .reg (storeT C T PT pv k sT l (t + 1))]
/-- v := &a[i]; v.Default(); s := v -/
def elemR (C : CfgR) (sT PT' df l t : Nat) : List Ir :=
  [.reg [⟨none, some t, .move (.tmp (l + 1)), sT⟩, ⟨none, some (t + 1), .move (.tmp (l + 3)), C.E.tI32⟩, ⟨none, some (t + 2), .indexAddr sT (.tmp t) (.tmp (t + 1)), C.E.tNil⟩, ⟨none, some (l + 4), .assign (.tmp (t + 2)), PT'⟩],
   .reg [⟨none, some (t + 3), .move (.tmp (l + 4)), PT'⟩, ⟨none, some (t + 4), .call { callee := .value (.func df), args := #[.tmp (t + 3)], argTypes := #[PT'] }, C.E.tNil⟩],
   .reg [⟨none, some (t + 5), .move (.tmp (l + 4)), PT'⟩, ⟨none, some (l + 5), .assign (.tmp (t + 5)), PT'⟩]]
def storeE (C : CfgR) (p : Prim) (sT l t : Nat) : Ir :=
  .reg [⟨none, some t, .move (.tmp (l + 1)), sT⟩, ⟨none, some (t + 1), .move (.tmp (l + 3)), C.E.tI32⟩, getL C.toCfg p (l + 4) (t + 2), ⟨none, some (t + 3), .indexAddr sT (.tmp t) (.tmp (t + 1)), C.E.tNil⟩, ⟨none, none, .store (p.ty C.E) (.tmp (t + 3)) (.tmp (t + 2)), C.E.tNil⟩]
def tagsR (C : CfgR) (T PT pv k t : Nat) : Ir :=
  condI C 9 t (.reg [⟨none, some (t + 1), .move (.tmp pv), PT⟩, ⟨none, some (t + 2), .call { callee := .value (.func C.E.f_kmsg_internalReadTags), args := #[.tmp C.rs], argTypes := #[C.E.tPRd] }, C.E.t_kmsg_Tags⟩,
    ⟨none, some (t + 3), .nilCheck (.tmp (t + 1)), C.E.tNil⟩, ⟨none, some (t + 4), .fieldAddr T (.tmp (t + 3)) k, C.E.tNil⟩, ⟨none, none, .store C.E.t_kmsg_Tags (.tmp (t + 4)) (.tmp (t + 2)), C.E.tNil⟩]) .skip
/-- v := &s.F; v.Default(); s := v -/
def subR (C : CfgR) (T PT pv k PT' df l t : Nat) : List Ir :=
  [.reg (addrR C.toCfg T PT pv k t ++ [⟨none, some l, .assign (.tmp (t + 2)), PT'⟩]),
   .reg [⟨none, some (t + 3), .move (.tmp l), PT'⟩, ⟨none, some (t + 4), .call { callee := .value (.func df), args := #[.tmp (t + 3)], argTypes := #[PT'] }, C.E.tNil⟩],
   .reg [⟨none, some (t + 5), .move (.tmp l), PT'⟩, ⟨none, some (l + 1), .assign (.tmp (t + 5)), PT'⟩]]
/-- if present != -1 && b.Ok() -/
def presI (C : CfgR) (l t : Nat) (body : Ir) : Ir :=
  .seq (.reg [⟨none, some t, .move (.tmp l), C.E.tI8⟩, ⟨none, some (t + 1), .binOp .neq C.E.tI8 (.tmp t) (.const (.int .i8 (-1))) C.E.tI8, C.E.tB⟩, ⟨none, some (t + 2), .move (.tmp (t + 1)), C.E.tB⟩,
      ⟨some (t + 2, true), some (t + 3), .call { callee := .value (.func C.E.f_pkbin_Reader_Ok), args := #[.tmp C.rs], argTypes := #[C.E.tRd] }, C.E.tB⟩, ⟨none, some (t + 4), .pick (.tmp (t + 2)) (.tmp (t + 3)) (.const (.bool false)), C.E.tB⟩])
    (.cond (t + 4) body .skip)
/-- s.F = new(T'); v := s.F; v.Default(); s := v -/
def optR (C : CfgR) (T PT pv k T' PT' df l t : Nat) : List Ir :=
  [.reg [⟨none, some t, .move (.tmp pv), PT⟩, ⟨none, some (t + 1), .alloc T', PT'⟩, ⟨none, some (t + 2), .nilCheck (.tmp t), C.E.tNil⟩, ⟨none, some (t + 3), .fieldAddr T (.tmp (t + 2)) k, C.E.tNil⟩, ⟨none, none, .store PT' (.tmp (t + 3)) (.tmp (t + 1)), C.E.tNil⟩],
   .reg (addrR C.toCfg T PT pv k (t + 4) ++ [⟨none, some (t + 7), .load PT' (.tmp (t + 6)), PT'⟩, ⟨none, some (l + 1), .assign (.tmp (t + 7)), PT'⟩]),
   .reg [⟨none, some (t + 8), .move (.tmp (l + 1)), PT'⟩, ⟨none, some (t + 9), .call { callee := .value (.func df), args := #[.tmp (t + 8)], argTypes := #[PT'] }, C.E.tNil⟩],
   .reg [⟨none, some (t + 10), .move (.tmp (l + 1)), PT'⟩, ⟨none, some (l + 2), .assign (.tmp (t + 10)), PT'⟩]]
def Sch.genR (C : CfgR) (T PT pv : Nat) : Sch → Ct → List Ir × Ct
  | .fin, c => ([], c)
  | .tags k _, c => ([tagsR C T PT pv k c.t], ⟨c.l, c.t + 5, c.k⟩)
  | .prim g k _ p en _ rest, c =>
    let t := c.t + gdN g
    let (b, c') := if en = 0 then (readI C p c.l t ++ [.reg (storeR C T PT pv k (p.ty C.E) c.l (t + readN C p) p)], (⟨c.l + 1, t + readN C p + 4, c.k⟩ : Ct))
      else ([.reg [⟨none, some c.l, .assign (.const (.int .i8 0)), en⟩], seqL [callR C p (p.fR C.E false) (c.l + 1) t, .reg [⟨none, some (t + 1), .move (.tmp (c.l + 1)), p.ty C.E⟩, ⟨none, some c.l, .assign (.tmp (t + 1)), en⟩]],
        .reg [⟨none, some (t + 2), .move (.tmp c.l), en⟩, ⟨none, some (c.l + 2), .assign (.tmp (t + 2)), en⟩], .reg (storeT C T PT pv k en (c.l + 2) (t + 3))], ⟨c.l + 3, t + 7, c.k⟩)
    let (r, c'') := rest.genR C T PT pv c'
    (gdI (toR C) g c.t (seqL b) :: r, c'')
  | .arrP g k _ sT nul p rest, c =>
    let t := c.t + gdN g
    let t1 := t + headN C nul
    let body := seqL (readI C p (c.l + 4) (t1 + 5) ++ [storeE C p sT c.l (t1 + 5 + readN C p)])
    let t2 := t1 + 5 + readN C p + 4
    let (r, c'') := rest.genR C T PT pv ⟨c.l + 5, t2 + 5, c.k + 2⟩
    (gdI (toR C) g c.t (seqL (headR C T PT pv k sT c.l t nul ++ [forI C c.l t1 c.k body] ++ tailR C T PT pv k sT c.l t2)) :: r, c'')
  | .arrS g k _ sT nul T' PT' _ df e rest, c =>
    let t := c.t + gdN g
    let t1 := t + headN C nul
    let (eb, c1) := e.genR C T' PT' (c.l + 5) ⟨c.l + 6, t1 + 11, c.k + 2⟩
    let body := seqL (elemR C sT PT' df c.l (t1 + 5) ++ eb)
    let (r, c'') := rest.genR C T PT pv ⟨c1.l, c1.t + 5, c1.k⟩
    (gdI (toR C) g c.t (seqL (headR C T PT pv k sT c.l t nul ++ [forI C c.l t1 c.k body] ++ tailR C T PT pv k sT c.l c1.t)) :: r, c'')
  | .sub g k _ T' PT' _ df e rest, c =>
    let t := c.t + gdN g
    let (eb, c1) := e.genR C T' PT' (c.l + 1) ⟨c.l + 2, t + 6, c.k⟩
    let (r, c'') := rest.genR C T PT pv c1
    (gdI (toR C) g c.t (seqL (subR C T PT pv k PT' df c.l t ++ eb)) :: r, c'')
  | .opt g k _ T' PT' _ _ df e rest, c =>
    let t := c.t + gdN g
    let (eb, c1) := e.genR C T' PT' (c.l + 2) ⟨c.l + 3, t + 17, c.k⟩
    let (r, c'') := rest.genR C T PT pv c1
    (gdI (toR C) g c.t (seqL [callR C .i8 (Prim.i8.fR C.E false) c.l t, presI C c.l (t + 1) (seqL (optR C T PT pv k T' PT' df c.l (t + 6) ++ eb))]) :: r, c'')
where toR (C : CfgR) : Cfg := { C.toCfg with sv := 8, sf := 9 }
/-- readFrom. kv: the version is read first; df: the number of Default; nl: how many locals there are -/
def ctR (C : CfgR) (kv : Bool) (nl : Nat) : Ct := ⟨if C.fx then 11 else 10, nl + 9 + (if kv then 4 else 0) + (if C.fx then 4 else 1), 0⟩
def msgR (C : CfgR) (T PT flex df : Nat) (kv : Bool) (S : Sch) (nl : Nat) : Ir :=
  let t := nl + (if kv then 4 else 0)
  let h : List Ir := [.reg [⟨none, some 6, .assign (.const .nilIface), C.E.tErr⟩],
    .reg [⟨none, some nl, .move (.tmp 0), PT⟩, ⟨none, some (nl + 1), .call { callee := .value (.func df), args := #[.tmp nl], argTypes := #[PT] }, C.E.tNil⟩],
    .reg [⟨none, some (nl + 2), .move (.tmp 1), C.E.tBs⟩, ⟨none, some (nl + 3), .build C.E.tRd #[(0, .tmp (nl + 2))], C.E.tRd⟩, ⟨none, some 7, .alloc C.E.tRd, C.E.tNil⟩, ⟨none, none, .store C.E.tRd (.tmp 7) (.tmp (nl + 3)), C.E.tNil⟩]]
  let kvI : List Ir := if kv then [.reg [⟨none, some (nl + 4), .move (.tmp 0), PT⟩, ⟨none, some (nl + 5), .call { callee := .value (.func C.E.f_pkbin_Reader_Int16), args := #[.tmp 7], argTypes := #[C.E.tRd] }, C.E.tI16⟩,
    ⟨none, some (nl + 6), .nilCheck (.tmp (nl + 4)), C.E.tNil⟩, ⟨none, some (nl + 7), .fieldAddr T (.tmp (nl + 6)) 0, C.E.tNil⟩, ⟨none, none, .store C.E.tI16 (.tmp (nl + 7)) (.tmp (nl + 5)), C.E.tNil⟩]] else []
  let v : List Ir := [.reg (addrR C.toCfg T PT 0 0 (t + 4) ++ [⟨none, some (t + 7), .load C.E.tI16 (.tmp (t + 6)), C.E.tI16⟩, ⟨none, some 8, .assign (.tmp (t + 7)), C.E.tI16⟩]),
    .reg [⟨none, some (t + 8), .move (.tmp 8), C.E.tI16⟩]]
  let fl : List Ir := if C.fx then [.reg [⟨none, some (t + 9), .move (.tmp 8), C.E.tI16⟩, ⟨none, some (t + 10), .binOp .geq C.E.tI16 (.tmp (t + 9)) (.const (.int .i16 flex)) C.E.tI16, C.E.tB⟩, ⟨none, some 9, .assign (.tmp (t + 10)), C.E.tB⟩],
    .reg [⟨none, some (t + 11), .move (.tmp 9), C.E.tB⟩]] else []
  let pv := if C.fx then 10 else 9
  let t' := t + (if C.fx then 12 else 9)
  let s : List Ir := [.reg [⟨none, some t', .move (.tmp 0), PT⟩, ⟨none, some pv, .assign (.tmp t'), PT⟩]]
  let (b, c) := S.genR C T PT pv (ctR C kv nl)
  seqL (h ++ kvI ++ v ++ fl ++ s ++ b ++ completeI C c.t)
end Go.Kg

set_option linter.unusedSimpArgs false
set_option linter.unusedVariables false
namespace Go.Kg
open Go
def Prim.constV : Prim → Int → Value
  | .bool, d => .bool (decide (d ≠ 0))
  | .i8, d => .int .i8 d
  | .i16, d => .int .i16 d
  | .u16, d => .int .u16 d
  | .i32, d => .int .i32 d
  | .i64, d => .int .i64 d
  | .nstr, _ => .pointer none
  | .str, _ => .string ⟨#[]⟩
  | _, _ => .slice none 0 0
def Prim.szW : Prim → Nat
  | .bool | .i8 => 1
  | .i16 | .u16 => 2
  | .i32 => 4
  | .i64 => 8
  | .uuid => 16
  | _ => 0
/-- toEncode = append(toEncode, n) -/
def encI (C : Cfg) (sl L n t : Nat) : Ir :=
  .reg [⟨none, some t, .move (.tmp L), sl⟩, ⟨none, some (t + 1), .buildSlice sl 1 #[(0, .const (.int .u32 n))], sl⟩, ⟨none, some (t + 2), .call { callee := .builtin .append, args := #[.tmp t, .tmp (t + 1)], argTypes := #[sl, sl] }, sl⟩, ⟨none, some L, .assign (.tmp (t + 2)), sl⟩]
/-- is it written: the operations, where the answer stands, how many temporaries -/
def preR (C : Cfg) (T PT pv : Nat) (f : KF) (t : Nat) : Ir × Nat :=
  match f.c with
  | .prim .uuid _ => (.reg (addrR C T PT pv f.k t ++ [⟨none, some (t + 3), .load C.E.tUu (.tmp (t + 2)), C.E.tUu⟩, ⟨none, some (t + 4), .build C.E.tUu #[], C.E.tUu⟩, ⟨none, some (t + 5), .binOp .neq C.E.tUu (.tmp (t + 3)) (.tmp (t + 4)) C.E.tUu, C.E.tB⟩]), 5)
  | .prim p d => (.reg (addrR C T PT pv f.k t ++ [⟨none, some (t + 3), .load (p.ty C.E) (.tmp (t + 2)), p.ty C.E⟩, ⟨none, some (t + 4), .binOp .neq (p.ty C.E) (.tmp (t + 3)) (.const (p.constV d)) (p.ty C.E), C.E.tB⟩]), 4)
  | .arr sT _ _ _ _ _ => (.reg (addrR C T PT pv f.k t ++ [⟨none, some (t + 3), .load sT (.tmp (t + 2)), sT⟩, ⟨none, some (t + 4), .call { callee := .builtin .len, args := #[.tmp (t + 3)], argTypes := #[sT] }, C.E.tInt⟩, ⟨none, some (t + 5), .binOp .gtr C.E.tInt (.tmp (t + 4)) (.const (.int .i64 0)) C.E.tInt, C.E.tB⟩]), 5)
  | .str T' _ _ _ same mk _ => (.regH (List.map (fun o : Ro => (true, o)) (addrR C T PT pv f.k t ++ [⟨none, some (t + 3), .load T' (.tmp (t + 2)), T'⟩]) ++
      [(false, ⟨none, some (t + 4), .call { callee := .value (.func mk), args := #[], argTypes := #[] }, T'⟩), (false, ⟨none, some (t + 5), .call { callee := .value (.func same), args := #[.tmp (t + 3), .tmp (t + 4)], argTypes := #[T', T'] }, C.E.tB⟩), (true, ⟨none, some (t + 6), .unOp .not C.E.tB (.tmp (t + 5)), C.E.tB⟩)]), 6)
def preW (C : Cfg) (T PT pv sl L : Nat) : List KF → Nat → List Ir × Nat
  | [], t => ([], t)
  | f :: r, t =>
    let n := (preR C T PT pv f t).2
    let (q, t') := preW C T PT pv sl L r (t + n + 4)
    (.seq (preR C T PT pv f t).1 (.cond (t + n) (encI C sl L f.num (t + n + 1)) .skip) :: q, t')
/-- dst = kbin.AppendUvarint(dst, n) -/
def uvI (C : Cfg) (n t : Nat) : Ir := .reg [⟨none, some t, .move (.tmp 1), C.E.tBs⟩, ⟨none, some (t + 1), .call { callee := .value (.func C.E.f_kbin_AppendUvarint), args := #[.tmp t, .const (.int .u32 n)], argTypes := #[C.E.tBs, C.E.tU32] }, C.E.tBs⟩, ⟨none, some 1, .assign (.tmp (t + 1)), C.E.tBs⟩]
/-- if !sized {dst = kbin.AppendUvarint(dst[:lenAt], uint32(len(dst[lenAt:]))); sized = true; goto lab} -/
def sizedI (C : Cfg) (s lab t : Nat) : Ir :=
  .seq (.reg [⟨none, some t, .move (.tmp s), C.E.tB⟩, ⟨none, some (t + 1), .unOp .not C.E.tB (.tmp t), C.E.tB⟩])
    (.cond (t + 1) (seqL [.regH [(true, ⟨none, some (t + 2), .move (.tmp 1), C.E.tBs⟩), (true, ⟨none, some (t + 3), .move (.tmp (s + 1)), C.E.tInt⟩), (true, ⟨none, some (t + 4), .slice C.E.tBs (.tmp (t + 2)) none (some (.tmp (t + 3))) none, C.E.tBs⟩),
      (true, ⟨none, some (t + 5), .move (.tmp 1), C.E.tBs⟩), (true, ⟨none, some (t + 6), .move (.tmp (s + 1)), C.E.tInt⟩), (true, ⟨none, some (t + 7), .slice C.E.tBs (.tmp (t + 5)) (some (.tmp (t + 6))) none none, C.E.tBs⟩),
      (true, ⟨none, some (t + 8), .call { callee := .builtin .len, args := #[.tmp (t + 7)], argTypes := #[C.E.tBs] }, C.E.tInt⟩), (true, ⟨none, some (t + 9), .convert C.E.tInt C.E.tU32 (.tmp (t + 8)), C.E.tU32⟩),
      (false, ⟨none, some (t + 10), .call { callee := .value (.func C.E.f_kbin_AppendUvarint), args := #[.tmp (t + 4), .tmp (t + 9)], argTypes := #[C.E.tBs, C.E.tU32] }, C.E.tBs⟩), (true, ⟨none, some 1, .assign (.tmp (t + 10)), C.E.tBs⟩)],
      .reg [⟨none, some s, .assign (.const (.bool true)), C.E.tB⟩], .goto lab]) .skip)
/-- a text written twice: the first time to learn its length. l: what is loaded; l + 1: sized; l + 2: lenAt -/
def twiceI (C : Cfg) (load : Ir) (num l lab t : Nat) (body : List Ir) : Ir :=
  .scope (seqL ([load, uvI C num t, .reg [⟨none, some (l + 1), .assign (.const (.bool false)), C.E.tB⟩], .reg [⟨none, some (t + 2), .move (.tmp 1), C.E.tBs⟩, ⟨none, some (t + 3), .call { callee := .builtin .len, args := #[.tmp (t + 2)], argTypes := #[C.E.tBs] }, C.E.tInt⟩, ⟨none, some (l + 2), .assign (.tmp (t + 3)), C.E.tInt⟩], .label lab] ++ body)) lab (.seq .skip (seqL body))
/-- a struct in a variable of its own: its fields' addresses are one operation -/
def tagsWL (C : Cfg) (T l k t : Nat) : Ir :=
  flexI C t (.seq (.reg ([⟨none, some (t + 1), .move (.tmp 1), C.E.tBs⟩, ⟨none, some (t + 2), .fieldAddr T (.tmp l) k, C.E.tNil⟩, ⟨none, some (t + 3), .call { callee := .value (.func C.E.f_pkmsg_Tags_Len), args := #[.tmp (t + 2)], argTypes := #[C.E.t_kmsg_Tags] }, C.E.tInt⟩,
      ⟨none, some (t + 4), .convert C.E.tInt C.E.tU32 (.tmp (t + 3)), C.E.tU32⟩, ⟨none, some (t + 5), .binOp .add C.E.tU32 (.const (.int .u32 0)) (.tmp (t + 4)) C.E.tU32, C.E.tU32⟩,
      ⟨none, some (t + 6), .call { callee := .value (.func C.E.f_kbin_AppendUvarint), args := #[.tmp (t + 1), .tmp (t + 5)], argTypes := #[C.E.tBs, C.E.tU32] }, C.E.tBs⟩, ⟨none, some 1, .assign (.tmp (t + 6)), C.E.tBs⟩]))
    (.reg [⟨none, some (t + 7), .fieldAddr T (.tmp l) k, C.E.tNil⟩, ⟨none, some (t + 8), .move (.tmp 1), C.E.tBs⟩, ⟨none, some (t + 9), .call { callee := .value (.func C.E.f_pkmsg_Tags_AppendEach), args := #[.tmp (t + 7), .tmp (t + 8)], argTypes := #[C.E.t_kmsg_Tags, C.E.tBs] }, C.E.tBs⟩,
      ⟨none, some 1, .assign (.tmp (t + 9)), C.E.tBs⟩])) .skip
def Sch.genWL (C : Cfg) (T l : Nat) : Sch → Ct → List Ir × Ct
  | .tags k _, c => ([tagsWL C T l k c.t], ⟨c.l, c.t + 10, c.k⟩)
  | .prim _ k _ p _ _ rest, c =>
    let (r, c'') := rest.genWL C T l ⟨c.l + 1, c.t + 2 + emitN C p, c.k⟩
    (.seq (.reg [⟨none, some c.t, .fieldAddr T (.tmp l) k, C.E.tNil⟩, ⟨none, some (c.t + 1), .load (p.ty C.E) (.tmp c.t), p.ty C.E⟩, ⟨none, some c.l, .assign (.tmp (c.t + 1)), p.ty C.E⟩]) (emitW C p c.l (c.t + 2)) :: r, c'')
  | _, c => ([], c)
/-- case n: .. ; lab: how many labels there were -/
def caseW (C : Cfg) (T PT pv : Nat) (f : KF) (c : Ct) (lab : Nat) : Ir × Ct × Nat :=
  match f.c with
  | .prim p _ => (seqL [loadI C T PT pv f.k (p.ty C.E) c.l c.t p, uvI C f.num (c.t + 4), uvI C p.szW (c.t + 6), emitW C p c.l (c.t + 8)], ⟨c.l + 1, c.t + 8 + emitN C p, c.k⟩, lab)
  | .arr sT T' PT' _ _ e =>
    let t := c.t + 8
    let t1 := t + lenN C none
    let (eb, c1) := e.genW C T' PT' (c.l + 4) ⟨c.l + 5, t1 + 8, c.k + 2⟩
    let body := seqL (idxI C (c.l + 3) (t1 + 4) (t1 + 2) ::
      .reg [⟨none, some (t1 + 5), .move (.tmp c.l), sT⟩, ⟨none, some (t1 + 6), .move (.tmp (c.l + 3)), C.E.tInt⟩, ⟨none, some (t1 + 7), .indexAddr sT (.tmp (t1 + 5)) (.tmp (t1 + 6)), C.E.tNil⟩, ⟨none, some (c.l + 4), .assign (.tmp (t1 + 7)), PT'⟩] :: eb)
    (twiceI C (loadI C T PT pv f.k sT c.l c.t .i8) f.num c.l lab (c.t + 4) [lenI C none sT c.l t, rangeI C sT c.l t1 c1.t c.k body, sizedI C (c.l + 1) lab (c1.t + 1)], ⟨c1.l, c1.t + 12, c1.k⟩, lab + 1)
  | .str T' PT' _ _ _ _ e =>
    let (eb, c1) := e.genWL C T' c.l ⟨c.l + 3, c.t + 8, c.k⟩
    (twiceI C (.reg (addrR C T PT pv f.k c.t ++ [⟨none, some (c.t + 3), .load T' (.tmp (c.t + 2)), T'⟩, ⟨none, some c.l, .alloc T', C.E.tNil⟩, ⟨none, none, .store T' (.tmp c.l) (.tmp (c.t + 3)), C.E.tNil⟩])) f.num c.l lab (c.t + 4) (eb ++ [sizedI C (c.l + 1) lab c1.t]), ⟨c1.l, c1.t + 11, c1.k⟩, lab + 1)
def casesW (C : Cfg) (T PT pv key : Nat) : List KF → Ct → Nat → Ir × Ct
  | [], c, _ => (.skip, c)
  | f :: r, c, lab =>
    let (b, c1, lab1) := caseW C T PT pv f ⟨c.l, c.t + 2, c.k⟩ lab
    let (q, c2) := casesW C T PT pv key r c1 lab1
    (seqL [.reg [⟨none, some (c.t + 1), .binOp .eql C.E.tU32 (.tmp key) (.const (.int .u32 f.num)) C.E.tU32, C.E.tB⟩, ⟨none, some c.t, .assign (.tmp (c.t + 1)), C.E.tB⟩], .cond c.t b q], c2)
/-- The section. sl: []uint32 -/
def secWI (C : Cfg) (T PT pv sl : Nat) (ks : List KF) (tk : Nat) (c : Ct) : Ir × Ct :=
  let (pre, t) := preW C T PT pv sl c.l ks (c.t + 1)
  let t1 := t + 10
  let (cs, c1) := casesW C T PT pv (t1 + 6) ks ⟨c.l + 3, t1 + 7, c.k + 3⟩ 0
  let body := seqL [.reg [⟨none, some (t1 + 4), .indexAddr sl (.tmp t1) (.tmp (t1 + 2)), C.E.tNil⟩, ⟨none, some (t1 + 5), .load C.E.tU32 (.tmp (t1 + 4)), C.E.tU32⟩, ⟨none, some (c.l + 2), .assign (.tmp (t1 + 5)), C.E.tU32⟩],
    .reg [⟨none, some (t1 + 6), .move (.tmp (c.l + 2)), C.E.tU32⟩], .block (c.k + 2) cs]
  let t2 := c1.t + 1
  (flexI C c.t (seqL ([.reg [⟨none, some c.l, .assign (.const (.slice none 0 0)), sl⟩]] ++ pre ++
    [.reg ([⟨none, some t, .move (.tmp 1), C.E.tBs⟩, ⟨none, some (t + 1), .move (.tmp c.l), sl⟩, ⟨none, some (t + 2), .call { callee := .builtin .len, args := #[.tmp (t + 1)], argTypes := #[sl] }, C.E.tInt⟩] ++ addrR C T PT pv tk (t + 3) ++
      [⟨none, some (t + 6), .call { callee := .value (.func C.E.f_pkmsg_Tags_Len), args := #[.tmp (t + 5)], argTypes := #[C.E.t_kmsg_Tags] }, C.E.tInt⟩, ⟨none, some (t + 7), .binOp .add C.E.tInt (.tmp (t + 2)) (.tmp (t + 6)) C.E.tInt, C.E.tInt⟩, ⟨none, some (t + 8), .convert C.E.tInt C.E.tU32 (.tmp (t + 7)), C.E.tU32⟩,
       ⟨none, some (t + 9), .call { callee := .value (.func C.E.f_kbin_AppendUvarint), args := #[.tmp t, .tmp (t + 8)], argTypes := #[C.E.tBs, C.E.tU32] }, C.E.tBs⟩, ⟨none, some 1, .assign (.tmp (t + 9)), C.E.tBs⟩]),
     rangeI C sl c.l t1 c1.t c.k body,
     .reg (addrR C T PT pv tk t2 ++ [⟨none, some (t2 + 3), .move (.tmp 1), C.E.tBs⟩, ⟨none, some (t2 + 4), .call { callee := .value (.func C.E.f_pkmsg_Tags_AppendEach), args := #[.tmp (t2 + 2), .tmp (t2 + 3)], argTypes := #[C.E.t_kmsg_Tags, C.E.tBs] }, C.E.tBs⟩, ⟨none, some 1, .assign (.tmp (t2 + 4)), C.E.tBs⟩])])) .skip,
   ⟨c1.l, t2 + 5, c1.k⟩)
/-- AppendTo, as msgW; Sw: the plain fields as they are written (of a kept message the version is one) -/
def msgWk (C : Cfg) (T PT sl : Nat) (flex : Nat) (Sw : Sch) (ks : List KF) (tk nl : Nat) : Ir :=
  let t := nl
  let pre : List Ir := [.reg [⟨none, some 4, .assign (.const (.slice none 0 0)), C.E.tBs⟩],
    .reg (addrR C T PT 0 0 t ++ [⟨none, some (t + 3), .load C.E.tI16 (.tmp (t + 2)), C.E.tI16⟩, ⟨none, some 5, .assign (.tmp (t + 3)), C.E.tI16⟩]),
    .reg [⟨none, some (t + 4), .move (.tmp 5), C.E.tI16⟩]]
  let fl : List Ir := [.reg [⟨none, some (t + 5), .move (.tmp 5), C.E.tI16⟩, ⟨none, some (t + 6), .binOp .geq C.E.tI16 (.tmp (t + 5)) (.const (.int .i16 flex)) C.E.tI16, C.E.tB⟩, ⟨none, some 6, .assign (.tmp (t + 6)), C.E.tB⟩],
    .reg [⟨none, some (t + 7), .move (.tmp 6), C.E.tB⟩]]
  let (b, c) := Sw.genW C T PT 0 (ct0 C nl)
  let (s, c1) := secWI C T PT 0 sl ks tk c
  seqL (pre ++ fl ++ b ++ [s, .reg [⟨none, some c1.t, .move (.tmp 1), C.E.tBs⟩, ⟨none, some 4, .assign (.tmp c1.t), C.E.tBs⟩], .ret])
/-- a known tag's field, as a schema -/
def KF.sch (f : KF) : Sch := match f.c with
  | .prim p d => .prim ⟨none, none⟩ f.k f.o p 0 d .fin
  | .arr sT T PT sz df e => .arrS ⟨none, none⟩ f.k f.o sT none T PT sz df e .fin
  | .str T PT sz df _ _ e => .sub ⟨none, none⟩ f.k f.o T PT sz df e .fin
def knR (C : CfgR) (T PT pv : Nat) (f : KF) (c : Ct) : List Ir × Ct :=
  match f.c with
  | .prim p _ => (readI C p c.l c.t ++ [.reg (storeR C T PT pv f.k (p.ty C.E) c.l (c.t + readN C p) p)], ⟨c.l + 1, c.t + readN C p + 4, c.k⟩)
  | .arr sT T' PT' _ df e =>
    let t1 := c.t + headN C none
    let (eb, c1) := e.genR C T' PT' (c.l + 5) ⟨c.l + 6, t1 + 11, c.k + 2⟩
    (headR C T PT pv f.k sT c.l c.t none ++ [forI C c.l t1 c.k (seqL (elemR C sT PT' df c.l (t1 + 5) ++ eb))] ++ tailR C T PT pv f.k sT c.l c1.t, ⟨c1.l, c1.t + 5, c1.k⟩)
  | .str T' PT' _ df _ _ e =>
    let (eb, c1) := e.genR C T' PT' (c.l + 1) ⟨c.l + 2, c.t + 6, c.k⟩
    (subR C T PT pv f.k PT' df c.l c.t ++ eb, c1)
theorem knR_sch (C : CfgR) (T PT pv : Nat) (f : KF) (c : Ct) : f.sch.genR C T PT pv c = ([seqL (knR C T PT pv f c).1], (knR C T PT pv f c).2) := by
  obtain ⟨num, k, o, cc⟩ := f
  cases cc <;> rfl
def openI (C : CfgR) (l t : Nat) : Ir :=
  .reg [⟨none, some t, .call { callee := .value (.func C.E.f_pkbin_Reader_Uvarint), args := #[.tmp C.rs], argTypes := #[C.E.tRd] }, C.E.tU32⟩, ⟨none, some (t + 1), .convert C.E.tU32 C.E.tInt (.tmp t), C.E.tInt⟩,
    ⟨none, some (t + 2), .call { callee := .value (.func C.E.f_pkbin_Reader_Span), args := #[.tmp C.rs, .tmp (t + 1)], argTypes := #[C.E.tRd, C.E.tInt] }, C.E.tBs⟩, ⟨none, some (t + 3), .build C.E.tRd #[(0, .tmp (t + 2))], C.E.tRd⟩, ⟨none, some l, .alloc C.E.tRd, C.E.tNil⟩, ⟨none, none, .store C.E.tRd (.tmp l) (.tmp (t + 3)), C.E.tNil⟩]
/-- if err := b.Complete(); err != nil {return err} -/
def errI (C : CfgR) (r l t : Nat) : List Ir :=
  [.reg [⟨none, some t, .call { callee := .value (.func C.E.f_pkbin_Reader_Complete), args := #[.tmp r], argTypes := #[C.E.tRd] }, C.E.tErr⟩, ⟨none, some l, .assign (.tmp t), C.E.tErr⟩],
   .seq (.reg [⟨none, some (t + 1), .move (.tmp l), C.E.tErr⟩, ⟨none, some (t + 2), .binOp .neq C.E.tErr (.tmp (t + 1)) (.const .nilIface) C.E.tErr, C.E.tB⟩]) (.cond (t + 2) (seqL [.reg [⟨none, some (t + 3), .move (.tmp l), C.E.tErr⟩, ⟨none, some 6, .assign (.tmp (t + 3)), C.E.tErr⟩], .ret]) .skip)]
def casesR (C : CfgR) (T PT pv key : Nat) (d : Ir) : List KF → Ct → Ir × Ct
  | [], c => (d, c)
  | f :: r, c =>
    let (b, c1) := knR { C with rs := c.l } T PT pv f ⟨c.l + 1, c.t + 6, c.k⟩
    let (q, c2) := casesR C T PT pv key d r ⟨c1.l + 1, c1.t + 4, c1.k⟩
    (seqL [.reg [⟨none, some (c.t + 1), .binOp .eql C.E.tU32 (.tmp key) (.const (.int .u32 f.num)) C.E.tU32, C.E.tB⟩, ⟨none, some c.t, .assign (.tmp (c.t + 1)), C.E.tB⟩], .cond c.t (seqL ([openI C c.l (c.t + 2)] ++ b ++ errI C c.l c1.l c1.t)) q], c2)
/-- default: s.UnknownTags.Set(key, b.Span(int(b.Uvarint()))) -/
def unkR (C : CfgR) (T PT pv tk lk t : Nat) : Ir :=
  .regH [(true, ⟨none, some t, .move (.tmp pv), PT⟩), (true, ⟨none, some (t + 1), .nilCheck (.tmp t), C.E.tNil⟩), (true, ⟨none, some (t + 2), .fieldAddr T (.tmp (t + 1)) tk, C.E.tNil⟩), (true, ⟨none, some (t + 3), .move (.tmp lk), C.E.tU32⟩),
    (false, ⟨none, some (t + 4), .call { callee := .value (.func C.E.f_pkbin_Reader_Uvarint), args := #[.tmp C.rs], argTypes := #[C.E.tRd] }, C.E.tU32⟩), (true, ⟨none, some (t + 5), .convert C.E.tU32 C.E.tInt (.tmp (t + 4)), C.E.tInt⟩),
    (false, ⟨none, some (t + 6), .call { callee := .value (.func C.E.f_pkbin_Reader_Span), args := #[.tmp C.rs, .tmp (t + 5)], argTypes := #[C.E.tRd, C.E.tInt] }, C.E.tBs⟩), (false, ⟨none, some (t + 7), .call { callee := .value (.func C.E.f_pkmsg_Tags_Set), args := #[.tmp (t + 2), .tmp (t + 3), .tmp (t + 6)], argTypes := #[C.E.t_kmsg_Tags, C.E.tU32, C.E.tBs] }, C.E.tNil⟩)]
def secRI (C : CfgR) (T PT pv : Nat) (ks : List KF) (tk : Nat) (c : Ct) : Ir × Ct :=
  let t := c.t
  let (cs, c1) := casesR C T PT pv (t + 7) (unkR C T PT pv tk (c.l + 1) (t + 8)) ks ⟨c.l + 2, t + 16, c.k + 3⟩
  (condI C 9 t (seqL [.reg [⟨none, some (t + 1), .call { callee := .value (.func C.E.f_pkbin_Reader_Uvarint), args := #[.tmp C.rs], argTypes := #[C.E.tRd] }, C.E.tU32⟩, ⟨none, some c.l, .assign (.tmp (t + 1)), C.E.tU32⟩],
    .block c.k (.loop (.seq (.seq (.reg [⟨none, some (t + 2), .move (.tmp c.l), C.E.tU32⟩, ⟨none, some (t + 3), .binOp .gtr C.E.tU32 (.tmp (t + 2)) (.const (.int .u32 0)) C.E.tU32, C.E.tB⟩]) (.cond (t + 3) .skip (.exit c.k)))
      (.seq (.block (c.k + 1) (seqL [.reg [⟨none, some (t + 6), .call { callee := .value (.func C.E.f_pkbin_Reader_Uvarint), args := #[.tmp C.rs], argTypes := #[C.E.tRd] }, C.E.tU32⟩, ⟨none, some (c.l + 1), .assign (.tmp (t + 6)), C.E.tU32⟩], .reg [⟨none, some (t + 7), .move (.tmp (c.l + 1)), C.E.tU32⟩], .block (c.k + 2) cs]))
        (.reg [⟨none, some (t + 4), .move (.tmp c.l), C.E.tU32⟩, ⟨none, some (t + 5), .binOp .sub C.E.tU32 (.tmp (t + 4)) (.const (.int .u32 1)) C.E.tU32, C.E.tU32⟩, ⟨none, some c.l, .assign (.tmp (t + 5)), C.E.tU32⟩]))))]) .skip, c1)
/-- readFrom, as msgR -/
def msgRk (C : CfgR) (T PT flex df : Nat) (kv : Bool) (S : Sch) (ks : List KF) (tk nl : Nat) : Ir :=
  let t := nl + (if kv then 4 else 0)
  let h : List Ir := [.reg [⟨none, some 6, .assign (.const .nilIface), C.E.tErr⟩],
    .reg [⟨none, some nl, .move (.tmp 0), PT⟩, ⟨none, some (nl + 1), .call { callee := .value (.func df), args := #[.tmp nl], argTypes := #[PT] }, C.E.tNil⟩],
    .reg [⟨none, some (nl + 2), .move (.tmp 1), C.E.tBs⟩, ⟨none, some (nl + 3), .build C.E.tRd #[(0, .tmp (nl + 2))], C.E.tRd⟩, ⟨none, some 7, .alloc C.E.tRd, C.E.tNil⟩, ⟨none, none, .store C.E.tRd (.tmp 7) (.tmp (nl + 3)), C.E.tNil⟩]]
  let kvI : List Ir := if kv then [.reg [⟨none, some (nl + 4), .move (.tmp 0), PT⟩, ⟨none, some (nl + 5), .call { callee := .value (.func C.E.f_pkbin_Reader_Int16), args := #[.tmp 7], argTypes := #[C.E.tRd] }, C.E.tI16⟩,
    ⟨none, some (nl + 6), .nilCheck (.tmp (nl + 4)), C.E.tNil⟩, ⟨none, some (nl + 7), .fieldAddr T (.tmp (nl + 6)) 0, C.E.tNil⟩, ⟨none, none, .store C.E.tI16 (.tmp (nl + 7)) (.tmp (nl + 5)), C.E.tNil⟩]] else []
  let v : List Ir := [.reg (addrR C.toCfg T PT 0 0 (t + 4) ++ [⟨none, some (t + 7), .load C.E.tI16 (.tmp (t + 6)), C.E.tI16⟩, ⟨none, some 8, .assign (.tmp (t + 7)), C.E.tI16⟩]),
    .reg [⟨none, some (t + 8), .move (.tmp 8), C.E.tI16⟩]]
  let fl : List Ir := [.reg [⟨none, some (t + 9), .move (.tmp 8), C.E.tI16⟩, ⟨none, some (t + 10), .binOp .geq C.E.tI16 (.tmp (t + 9)) (.const (.int .i16 flex)) C.E.tI16, C.E.tB⟩, ⟨none, some 9, .assign (.tmp (t + 10)), C.E.tB⟩],
    .reg [⟨none, some (t + 11), .move (.tmp 9), C.E.tB⟩]]
  let t' := t + 12
  let s : List Ir := [.reg [⟨none, some t', .move (.tmp 0), PT⟩, ⟨none, some 10, .assign (.tmp t'), PT⟩]]
  let (b, c) := S.genR C T PT 10 (ctR C kv nl)
  let (q, c1) := secRI C T PT 10 ks tk c
  seqL (h ++ kvI ++ v ++ fl ++ s ++ b ++ q :: completeI C c1.t)
end Go.Kg

set_option linter.unusedSimpArgs false
set_option linter.unusedVariables false
set_option linter.unusedSectionVars false
namespace Go.Kg
open Go
structure TyUuE (P : Program) (E : Env) : Prop extends TyUu P E where
  g : P.eqGuardType P.depth E.tUu = false
  u8 : P.underlying E.tU8 = some (.int .u8)
  k8 : kindOf P E.tU8 = .scl
  i8 : ∃ i, P.info? E.tU8 = some i
  c8 : P.cellsOf E.tU8 = 1
theorem wp_reg2 {P : Program} {Q : Post} {l1 l2 : List Ro} {f : Nat → Value} {w : World} (h : regW P (fun f w => regWp P (Q .normal) l2 f w) l1 f w) : (Ir.reg (l1 ++ l2)).wp P Q f w := by
  have key : ∀ (l1 : List Ro) (f : Nat → Value) (w : World), regWp P (fun f w => regWp P (Q .normal) l2 f w) l1 f w → regWp P (Q .normal) (l1 ++ l2) f w := by
    intro l1
    induction l1 with
    | nil => intro f w h; exact h
    | cons o r ih =>
      intro f w h
      rw [List.cons_append, regWp_cons]
      rw [regWp_cons] at h
      split
      · rename_i hw; rw [if_pos hw] at h; exact stepF_mono (fun v w hq => ih _ _ hq) h
      · rename_i hw; rw [if_neg hw] at h; exact ih _ _ h
  exact key l1 f w (regW_sound l1 h)
section
variable {P : Program} {E : Env} (ht : TyUuE P E) {f : Nat → Value} {ty : TypeId} {w : World} {K : Value → World → Prop}
include ht
theorem run_items16 (w : World) (d : Nat) (l m : List UInt8) : ∀ is : List Nat, (∀ i ∈ is, i < l.length ∧ i < m.length) →
    (Op.eqItems (d + 1) E.tU8 1 (cellsOf l).toArray (cellsOf m).toArray is).run P w = .ok (is.all fun i => l[i]? == m[i]?) w := by
  intro is
  induction is with
  | nil => intro _; simp [Op.eqItems]
  | cons i is ih =>
    intro h
    obtain ⟨h1, h2⟩ := h i List.mem_cons_self
    have p1 : ∀ (l : List UInt8) (hi : i < l.length), (part E.tU8 (cellsOf l).toArray (i * 1)).run P w = .ok (.int .u8 (l[i].toNat : Int)) w := by
      intro l hi
      refine run_part ?_
      simp [part?, ht.k8, cellsOf, hi]
    simp only [Op.eqItems, Sem.run_bind, p1 l h1, p1 m h2, Result.andThen_ok, run_equalIn_int w d E.tU8 .u8 .u8 _ _ ht.u8]
    have e : ((l[i].toNat : Int) == (m[i].toNat : Int)) = (l[i]? == m[i]?) := by
      rw [List.getElem?_eq_getElem h1, List.getElem?_eq_getElem h2]
      by_cases hx : l[i] = m[i]
      · simp [hx]
      · have : ¬ l[i].toNat = m[i].toNat := fun h => hx (UInt8.toNat_inj.1 h)
        have e1 : ((l[i].toNat : Int) == (m[i].toNat : Int)) = false := by
          rw [beq_eq_false_iff_ne]; omega
        have e2 : (some l[i] == some m[i]) = false := by simpa using hx
        rw [e1, e2]
    rw [e]
    have ih' := ih (fun j hj => h j (List.mem_cons_of_mem _ hj))
    cases hh : (l[i]? == m[i]?)
    · simp [hh]
    · simp only [Bool.not_true, Bool.false_eq_true, if_false, List.all_cons, hh, Bool.true_and]
      exact ih'
theorem all_range16 {l m : List UInt8} (hl : l.length = 16) (hm : m.length = 16) : ((List.range 16).all fun i => l[i]? == m[i]?) = (l == m) := by
  by_cases h : l = m
  · subst h; simp
  · have : ((List.range 16).all fun i => l[i]? == m[i]?) = false := by
      rw [List.all_eq_false]
      apply Classical.byContradiction
      intro hn
      apply h
      apply List.ext_getElem?
      intro i
      by_cases hi : i < 16
      · have := fun hx => hn ⟨i, by simpa using hi, hx⟩
        simpa using this
      · rw [List.getElem?_eq_none (by omega), List.getElem?_eq_none (by omega)]
    rw [this]
    simpa using h
theorem st_neq16 {x y : Operand} {yT : TypeId} {l m : List UInt8} (hl : l.length = 16) (hm : m.length = 16) (hx : evF f x = .agg (cellsOf l).toArray) (hy : evF f y = .agg (cellsOf m).toArray) (h : K (.bool !(l == m)) w) : stepF P f (.binOp .neq E.tUu x y yT) ty w K := by
  obtain ⟨i, hi⟩ := ht.i8
  refine (stepF_ok (v := .bool !(l == m)) (w' := w) ?_).mpr h
  unfold runF execOp
  simp only [hx, hy, run_eqGuard_agg w .neq E.tUu x y _ _ ht.g, Sem.run_bind, Result.andThen_ok, run_neq_struct, run_equalIn_array w 9999 _ _ ht.uUu hi, ht.c8]
  rw [show (9999 : Nat) = 9998 + 1 from rfl, run_items16 ht w 9998 l m (List.range 16) (by intro i hi; simp at hi; omega), all_range16 ht hl hm]
  simp
theorem st_build16 (h : K (.agg z16) w) : stepF P f (.build E.tUu #[]) ty w K := by
  obtain ⟨i, hi⟩ := ht.i8
  refine (stepF_ok (v := .agg z16) (w' := w) ?_).mpr h
  have hz : (zeroValue E.tUu).run P w = .ok (.agg z16) w := by
    have := ht.zUu
    unfold zeroOf at this
    obtain ⟨j, hj, hz⟩ := Option.bind_eq_some_iff.1 this
    simp [zeroValue, typeInfo, hj, hz]
  simp [runF, execOp, Instr.build, hz, run_underlying ht.uUu, sizeOf, typeInfo, hi, Instr.fill, Value.cells]
end
end Go.Kg

set_option linter.unusedSimpArgs false
set_option linter.unusedVariables false
set_option linter.unusedSectionVars false
namespace Go.Kg
open Go
/-- How a known tag's field stands in a struct's cells. -/
def Kn.Rep (w : World) (K : Nat → Prop) (cs : List Value) (o : Nat) : (c : Kn) → c.T → Prop
  | .prim p _, x => ∃ v, seg cs o v.cells.toList ∧ p.rep1 w K v x
  | .arr _ _ _ sz _ e, a => ∃ v ls, cs[o]? = some v ∧ ArrAt w K sz v ls ∧ (ls.isSome = (show Option (List e.T) from a).isSome ∧ InHeap w v) ∧ (ls.getD []).length = ((show Option (List e.T) from a).getD []).length ∧
      ∀ (i : Nat) (es : List Value) x, (ls.getD [])[i]? = some es → ((show Option (List e.T) from a).getD [])[i]? = some x → e.Rep w K es x
  | .str _ _ sz _ _ _ e, x => e.Rep w K ((cs.drop o).take sz) x
def KsRep (w : World) (K : Nat → Prop) (cs : List Value) : (l : List KF) → KsT l → Prop
  | [], _ => True
  | f :: l, (v, r) => f.c.Rep w K cs f.o v ∧ KsRep w K cs l r
theorem Kn.Rep_ext {w w' : World} {K C : Nat → Prop} (he : Ext C w w') (hK : ∀ b, b < w.heap.size → K b → ¬ C b) {cs : List Value} {o : Nat} (c : Kn) {x : c.T} (h : c.Rep w K cs o x) : c.Rep w' K cs o x := by
  cases c with
  | prim p d => obtain ⟨v, h1, h2⟩ := h; exact ⟨v, h1, Prim.rep1_ext he hK h2⟩
  | arr sT T PT sz df e =>
    obtain ⟨v, ls, h1, h2, h3, h4, h5⟩ := h
    exact ⟨v, ls, h1, h2.ext he hK, ⟨h3.1, h3.2.ext he⟩, h4, fun i es y hi hy => Sch.Rep_ext he hK e (h5 i es y hi hy)⟩
  | str T PT sz df sm mk e => exact Sch.Rep_ext he hK e h
theorem KsRep_ext {w w' : World} {K C : Nat → Prop} (he : Ext C w w') (hK : ∀ b, b < w.heap.size → K b → ¬ C b) {cs : List Value} : ∀ (l : List KF) {x : KsT l}, KsRep w K cs l x → KsRep w' K cs l x
  | [], _, _ => trivial
  | f :: l, (v, r), h => ⟨Kn.Rep_ext he hK f.c h.1, KsRep_ext he hK l h.2⟩
/-- which are written: their numbers and texts -/
def ksOuts (ver : Int) : (l : List KF) → KsT l → List (Nat × List UInt8)
  | [], _ => []
  | f :: l, (v, r) => (if f.c.set v then [(f.num, f.c.wr ver v)] else []) ++ ksOuts ver l r
theorem ksOuts_len (ver : Int) : ∀ (l : List KF) (x : KsT l), (ksOuts ver l x).length = ksN l x
  | [], _ => rfl
  | f :: l, (v, r) => by simp only [ksOuts, ksN, List.length_append, ksOuts_len ver l r]; split <;> simp
theorem ksOuts_wr (ver : Int) : ∀ (l : List KF) (x : KsT l), ksW ver l x = (ksOuts ver l x).flatMap fun y => kTag y.1 y.2
  | [], _ => rfl
  | f :: l, (v, r) => by simp only [ksOuts, ksW, List.flatMap_append, ksOuts_wr ver l r]; split <;> simp
def Prim.eqOk (P : Program) (E : Env) : Prim → Bool
  | .bool => match P.underlying E.tB with | some .bool => true | _ => false
  | .i8 | .i16 | .i32 | .i64 => true
  | .uuid => true
  | .nstr => isPtrT P E.tPS
  | _ => false
def KF.tyW (P : Program) (C : Cfg) (T : Nat) (f : KF) : Bool := fldOff P T f.k == some f.o && decide (f.num < 4294967296) && match f.c with
  | .prim p _ => p.kOk P (p.ty C.E) && p.eqOk P C.E
  | .arr sT T' _ sz _ e => isScl (kindOf P sT) && sliSz P sT == some sz && e.tyW P C T'
  | .str _ _ _ _ _ _ _ => false
section
variable {P : Program} {C : Cfg}
/-- ahead of the count: L holds the numbers of those to be written, so far -/
structure PreS (C : Cfg) (L tm : Nat) (w0 : World) (f0 : Nat → Value) (d : List Nat) (f : Nat → Value) (w : World) : Prop where
  ext : Ext none1 w0 w
  own : Own w w0.heap.size C.E.tU32 1 (f L) (d.map fun n => .int .u32 (n : Nat))
  keep : ∀ x, x < tm → x ≠ L → f x = f0 x
theorem PreS.upd {L tm : Nat} {w0 : World} {f0 : Nat → Value} {d : List Nat} {f : Nat → Value} {w : World} (h : PreS C L tm w0 f0 d f w) {t : Nat} (ht : tm ≤ t) (hL : L < tm) (v : Value) : PreS C L tm w0 f0 d (upd f t v) w :=
  ⟨h.ext, by rw [upd_apply, if_neg (by omega)]; exact h.own, fun x hx hxL => by rw [upd_apply, if_neg (by omega)]; exact h.keep x hx hxL⟩
theorem w_enc {sl L n t tm : Nat} (hS : SliI P sl C.E.tU32 1 4 (.int .u32 0)) {w0 : World} {f0 f : Nat → Value} {w : World} {d : List Nat} {Q : Post} (h : PreS C L tm w0 f0 d f w) (hd : d.length ≤ 1000) (hL : L < tm) (ht : tm ≤ t)
    (hq : ∀ f' w', PreS C L tm w0 f0 (d ++ [n]) f' w' → Q .normal f' w') : (encI C sl L n t).wp P Q f w := by
  have e1 : ∀ m, (L = t + m) = False := by intro m; simp; omega
  have e2 : (L = t) = False := by simp; omega
  have hsz := h.ext.size
  refine wp_reg ?_
  simp [encI]
  rw [st_bsl (n := 1) (parts := #[(0, .const (.int .u32 n))]) hS (by omega) (by rfl) rfl (by omega) (by omega) (by simp [allSz, Value.cells])]
  simp [flat, Value.cells]
  generalize hw1 : w.alloc (.cells #[.int .u32 n] C.E.tU32) = w1
  have hE1 : Ext none1 w w1 := by subst hw1; exact (Ext.refl _ _).alloc _
  have hb1 : w1.heap[w.heap.size]? = some (.cells #[.int .u32 n] C.E.tU32 (0, 0)) := by subst hw1; exact alloc_new
  have hs1 : w.heap.size < w1.heap.size := lt_of_heap hb1
  refine st_append hS (by omega) (base := w0.heap.size) (xs := d.map fun n => .int .u32 (n : Nat)) (by simpa using Own.ext h.own hE1 (fun _ _ h => h)) (ad := some ⟨w.heap.size, 0, none⟩) (m := 1) (c := 1) (news := [.int .u32 n]) (by simp) (by simp) (by simp) ?_ (by simp [Value.oneCell']) (by simp [maxLen]; omega) (by simp; omega) (by omega) ?_
  · intro a ha j u hj
    cases ha
    cases j with
    | zero => simp at hj; subst hj; simp [Addr.add_mk, cell_of_blk hb1]
    | succ j => simp at hj
  · intro v' w2 ho2 hg2
    simp at hg2
    try simp
    refine hq _ _ ⟨?_, ?_, ?_⟩
    · have hx := (h.ext.trans hE1)
      exact ⟨hg2.ext.os.trans hx.os, hg2.ext.tape.trans hx.tape, hg2.ext.output.trans hx.output, Nat.le_trans hx.size hg2.ext.size,
        fun i hi hc => (hg2.ext.block i (Nat.lt_of_lt_of_le hi hx.size) (fun ho => by have := (Own.below h.own ho).1; omega)).trans (hx.block i hi hc)⟩
    · simpa using ho2
    · intro x hx hxL
      have a1 : ∀ m, (x = t + m) = False := by intro m; simp; omega
      have a2 : (x = t) = False := by simp; omega
      simp [a1, a2, hxL]
      exact h.keep x hx hxL
/-- the test of a known tag -/
theorem w_preR (ht : TyC P C) (hu : isAgg16 (kindOf P C.E.tUu) = true → TyUuE P C.E) {T PT pv t tm L : Nat} {kf : KF} (hty : kf.tyW P C T = true) {w0 : World} {f0 f : Nat → Value} {w : World} {dn : List Nat} {Q : Post} {b a : Nat} {cs : List Value} {x : kf.c.T} {K : Nat → Prop}
    (h : PreS C L tm w0 f0 dn f w) (hL : L < tm) (htm : tm ≤ t) (hpv : f pv = .pointer (some ⟨b, a, none⟩)) (hptm : pv < t) (hcs : CellsAt w b a cs) (hrep : kf.c.Rep w K cs kf.o x)
    (hq : ∀ f', PreS C L tm w0 f0 dn f' w → f' (t + (preR C T PT pv kf t).2) = .bool (kf.c.set x) → Q .normal f' w) : (preR C T PT pv kf t).1.wp P Q f w := by
  obtain ⟨num, k, o, c⟩ := kf
  simp only [KF.tyW, Bool.and_eq_true, beq_iff_eq] at hty
  obtain ⟨⟨hF, _⟩, hty⟩ := hty
  simp only at hF hrep x
  have e1 : ∀ m, (pv = t + m) = False := by intro m; simp; omega
  have e2 : (pv = t) = False := by simp; omega
  have up : ∀ {g : Nat → Value}, PreS C L tm w0 f0 dn g w → ∀ m v, PreS C L tm w0 f0 dn (upd g (t + m) v) w := fun hg m v => hg.upd (by omega) hL v
  have up0 : ∀ {g : Nat → Value}, PreS C L tm w0 f0 dn g w → ∀ v, PreS C L tm w0 f0 dn (upd g t v) w := fun hg v => hg.upd htm hL v
  cases c with
  | str T' PT' sz df sm mk e => simp at hty
  | arr sT T' PT' sz df e =>
    obtain ⟨v, ls, hv, harr, ⟨hsome, _⟩, hlen, _⟩ := hrep
    simp only [Bool.and_eq_true, beq_iff_eq] at hty
    obtain ⟨⟨hk, hsl⟩, _⟩ := hty
    obtain ⟨ad, cp, rfl, _, hmax⟩ := harr.form
    obtain ⟨E, j, hus, _, _⟩ := sliSz_spec hsl
    have cv : w.cell? ⟨b, a + o, none⟩ = some (.slice ad (ls.getD []).length cp) := hcs _ _ hv
    refine wp_reg ?_
    simp [preR, addrR, hpv, hF, Addr.add_mk, ld_scl (isScl_spec hk), cv, len_slice hus]
    refine hq _ (up (up (up (up (up (up0 h _) _ _) _ _) _ _) _ _) _ _) ?_
    simp only [preR, upd_apply, if_true]
    congr 1
    show _ = !((show Option (List e.T) from x).getD []).isEmpty
    rw [hlen]
    cases hx : (show Option (List e.T) from x).getD [] with
    | nil => simp
    | cons y l => simp
  | prim p d =>
    obtain ⟨v, hv, hr1⟩ := hrep
    simp only [Bool.and_eq_true] at hty
    obtain ⟨hk, heq⟩ := hty
    by_cases hp : p = .uuid
    · subst hp
      have hTu := hu (kOk_uu hk rfl)
      obtain ⟨rfl, h16⟩ := hr1
      have hk' : kindOf P C.E.tUu = .agg 16 := hTu.kUu
      have hl' := cellsFrom_seg hcs (u := (cellsOf x).toArray) hv
      rw [show (cellsOf x).toArray.size = 16 by rw [List.size_toArray]; exact cellsOf_length.trans h16] at hl'
      refine wp_reg2 (l1 := addrR C T PT pv k t ++ [⟨none, some (t + 3), .load C.E.tUu (.tmp (t + 2)), C.E.tUu⟩]) (l2 := [⟨none, some (t + 4), .build C.E.tUu #[], C.E.tUu⟩, ⟨none, some (t + 5), .binOp .neq C.E.tUu (.tmp (t + 3)) (.tmp (t + 4)) C.E.tUu, C.E.tB⟩]) ?_
      simp [addrR, hpv, hF, Addr.add_mk, ld_agg hk', hl']
      rw [regWp_cons]
      simp only [wantedF_none, if_true]
      refine st_build16 hTu ?_
      rw [regWp_cons]
      simp only [wantedF_none, if_true]
      refine st_neq16 hTu (l := x) (m := List.replicate 16 0) h16 (by simp) ?_ ?_ ?_
      · simp [updO]
      · simp [updO, z16]
      · show Q .normal _ w
        refine hq _ ?_ ?_
        · simp only [updO]; exact up (up (up (up (up (up0 h _) _ _) _ _) _ _) _ _) _ _
        · simp only [preR, updO, upd_apply, if_true]; rfl
    · have hk' : kindOf P (p.ty C.E) = .scl := by simp only [Prim.kOk, if_neg hp] at hk; exact isScl_spec hk
      have hone := rep1_one hr1
      rw [if_neg hp] at hone
      have huc : v.cells = #[v] := by cases v <;> simp_all [Value.oneCell', Value.cells]
      have cv : w.cell? ⟨b, a + o, none⟩ = some v := hcs _ _ (by simpa using hv 0 v (by simp [huc]))
      have fin : bin? P .neq (p.ty C.E) (.const (p.constV d)) v (p.constV d) = some (.bool (Kn.set (.prim p d) x)) := by
        cases p with
        | bool =>
          have h' : v = .bool x := hr1
          have hb : P.underlying C.E.tB = some .bool := by simp only [Prim.eqOk] at heq; split at heq <;> first | assumption | cases heq
          subst h'
          exact bin_bool_neq hb
        | i8 => have h' : v = .int .i8 x := hr1; subst h'; exact bin_neq
        | i16 => have h' : v = .int .i16 x := hr1; subst h'; exact bin_neq
        | i32 => have h' : v = .int .i32 x := hr1; subst h'; exact bin_neq
        | i64 => have h' : v = .int .i64 x := hr1; subst h'; exact bin_neq
        | nstr =>
          obtain ⟨E, hE⟩ := isPtrT_spec (show isPtrT P C.E.tPS = true from heq)
          cases x with
          | none => have h' : v = .pointer none := hr1; subst h'; exact bin_nnil_ptr hE
          | some l => obtain ⟨ad, rfl, _⟩ := hr1; exact bin_nnil_ptr hE
        | uuid => exact absurd rfl hp
        | u16 => cases heq
        | str => cases heq
        | bytes => cases heq
        | nbytes => cases heq
      have hpre : preR C T PT pv ⟨num, k, o, .prim p d⟩ t = (.reg (addrR C T PT pv k t ++ [⟨none, some (t + 3), .load (p.ty C.E) (.tmp (t + 2)), p.ty C.E⟩, ⟨none, some (t + 4), .binOp .neq (p.ty C.E) (.tmp (t + 3)) (.const (p.constV d)) (p.ty C.E), C.E.tB⟩]), 4) := by
        cases p <;> first | rfl | exact absurd rfl hp
      rw [hpre] at hq ⊢
      refine wp_reg ?_
      simp [addrR, hpv, hF, Addr.add_mk, ld_scl hk', cv, fin]
      refine hq _ (up (up (up (up (up0 h _) _ _) _ _) _ _) _ _) ?_
      simp
/-- which are set, in order -/
def ksSet : (l : List KF) → KsT l → List Nat
  | [], _ => []
  | f :: l, (v, r) => (if f.c.set v then [f.num] else []) ++ ksSet l r
theorem ksOuts_set (ver : Int) : ∀ (l : List KF) (x : KsT l), (ksOuts ver l x).map (·.1) = ksSet l x
  | [], _ => rfl
  | f :: l, (v, r) => by simp only [ksOuts, ksSet, List.map_append, ksOuts_set ver l r]; split <;> simp
theorem ksSet_len : ∀ (l : List KF) (x : KsT l), (ksSet l x).length ≤ l.length
  | [], _ => Nat.le_refl _
  | f :: l, (v, r) => by have := ksSet_len l r; simp only [ksSet, List.length_append, List.length_cons]; split <;> simp <;> omega
theorem preW_t (C : Cfg) (T PT pv sl L : Nat) : ∀ (ks : List KF) (t : Nat), t ≤ (preW C T PT pv sl L ks t).2
  | [], t => Nat.le_refl _
  | f :: r, t => by
    have := preW_t C T PT pv sl L r (t + (preR C T PT pv f t).2 + 4)
    simp only [preW]; omega
theorem w_pre (ht : TyC P C) (hu : isAgg16 (kindOf P C.E.tUu) = true → TyUuE P C.E) {sl L T PT pv tm : Nat} (hS : SliI P sl C.E.tU32 1 4 (.int .u32 0)) {w0 : World} {f0 : Nat → Value} {Q : Post} {b a : Nat} {cs : List Value} {K : Nat → Prop} (hL : L < tm) (hpL : pv ≠ L) (hptm : pv < tm) (hcs : CellsAt w0 b a cs) (hb : ∀ b, K b → b < w0.heap.size → True) (hpv : f0 pv = .pointer (some ⟨b, a, none⟩)) :
    ∀ (ks : List KF) (x : KsT ks) (dn : List Nat) (t : Nat) (f : Nat → Value) (w : World), (ks.all (·.tyW P C T)) = true → KsRep w0 K cs ks x → dn.length + ks.length ≤ 1000 → tm ≤ t → PreS C L tm w0 f0 dn f w →
      (∀ f' w', PreS C L tm w0 f0 (dn ++ ksSet ks x) f' w' → Q .normal f' w') → (seqL (preW C T PT pv sl L ks t).1).wp P Q f w := by
  intro ks
  induction ks with
  | nil =>
    intro x dn t f w _ _ _ _ h hq
    exact hq f w (by simpa [ksSet] using h)
  | cons kf r ih =>
    rintro ⟨v, xr⟩ dn t f w hty ⟨hr, hrr⟩ hd htm h hq
    simp only [List.all_cons, Bool.and_eq_true] at hty
    simp only [List.length_cons] at hd
    simp only [preW]
    refine seqL_cons ?_
    have hex : Ext none1 w0 w := h.ext
    refine wp_seqI ?_
    refine w_preR ht hu hty.1 h hL htm ((h.keep pv hptm hpL).trans hpv) (by omega) (CellsAt.ext (K := fun _ => True) (C := none1) hex (fun _ _ _ h => h) hcs trivial) (Kn.Rep_ext hex (fun _ _ _ h => h) kf.c hr) ?_
    intro f1 h1 hc
    have next : ∀ f2 w2, PreS C L tm w0 f0 (dn ++ if kf.c.set v then [kf.num] else []) f2 w2 → (seqL (preW C T PT pv sl L r (t + (preR C T PT pv kf t).2 + 4)).1).wp P Q f2 w2 := by
      intro f2 w2 h2
      refine ih xr _ _ f2 w2 hty.2 hrr ?_ (by omega) h2 ?_
      · simp only [List.length_append]; split <;> simp <;> omega
      · intro f' w' h'
        refine hq f' w' ?_
        simpa only [ksSet, List.append_assoc] using h'
    cases hset : kf.c.set v
    · rw [hset] at hc next
      exact .inr ⟨hc, next f1 w (by simpa using h1)⟩
    · rw [hset] at hc next
      refine .inl ⟨hc, ?_⟩
      refine w_enc hS h1 (by omega) hL (by omega) ?_
      intro f2 w2 h2
      exact next f2 w2 (by simpa using h2)
end
end Go.Kg

set_option linter.unusedSimpArgs false
set_option linter.unusedVariables false
set_option linter.unusedSectionVars false
namespace Go.Kg
open Go
theorem Own.form {w : World} {base e : Nat} {v : Value} {xs : List Value} (h : Own w base e 1 v xs) : ∃ a c, v = .slice a xs.length c ∧ xs.length ≤ c := by
  obtain ⟨n, h1, h2⟩ := h
  have hn : n = xs.length := by omega
  subst hn
  rcases h2 with ⟨rfl, hn⟩ | ⟨g, cap, cur, rfl, hb, hg, hnc, hcm, hcs, htake⟩
  · exact ⟨none, 0, by rw [hn], by omega⟩
  · exact ⟨_, cap, rfl, hnc⟩
/-- v[:k] -/
theorem Own.upTo {w : World} {base e : Nat} {a : Option Addr} {n c : Nat} {xs : List Value} (h : Own w base e 1 (.slice a n c) xs) {k : Nat} (hk : k ≤ xs.length) : Own w base e 1 (.slice (if c = 0 then a else a.map (·.add 0)) k c) (xs.take k) := by
  obtain ⟨n', h1, h2⟩ := h
  refine ⟨k, by simp; omega, ?_⟩
  rcases h2 with ⟨hv, hn⟩ | ⟨g, cap, cur, hv, hb, hg, hnc, hcm, hcs, htake⟩
  · cases hv
    have : k = 0 := by omega
    subst this
    exact .inl ⟨by simp, rfl⟩
  · cases hv
    refine .inr ⟨g, c, cur, by simp [Addr.add_mk], hb, hg, by omega, hcm, hcs, ?_⟩
    rw [← htake, List.take_take]
    congr 1
    omega
theorem OwnB.upTo {u8 : Nat} {w : World} {base : Nat} {a : Option Addr} {n c : Nat} {s : List UInt8} (h : OwnB u8 w base (.slice a n c) s) {k : Nat} (hk : k ≤ s.length) : OwnB u8 w base (.slice (if c = 0 then a else a.map (·.add 0)) k c) (s.take k) := by
  have := Own.upTo (k := k) h (by simpa using hk)
  unfold OwnB
  have e : cellsOf (s.take k) = (cellsOf s).take k := by simp [cellsOf]
  rw [e]; exact this
theorem own1_upTo {a : Option Addr} {n c k m : Nat} {b : Nat} (h : own1 (.slice (if c = 0 then a else a.map (·.add 0)) k m) b) : own1 (.slice a n c) b := by
  cases a with
  | none =>
    have e : (if c = 0 then (none : Option Addr) else (none : Option Addr).map (·.add 0)) = none := by split <;> rfl
    rw [e] at h; exact h
  | some a =>
    by_cases hc : c = 0
    · rw [if_pos hc] at h; exact h
    · rw [if_neg hc] at h; exact h
/-- where the elements stand -/
theorem Own.cells1 {w : World} {base e : Nat} {v : Value} {xs : List Value} (h : Own w base e 1 v xs) (hne : xs ≠ []) : ∃ g c, v = .slice (some ⟨g, 0, none⟩) xs.length c ∧ base ≤ g ∧ g < w.heap.size ∧ ∀ i u, xs[i]? = some u → w.cell? ⟨g, i, none⟩ = some u := by
  obtain ⟨n, h1, h2⟩ := h
  have hn : n = xs.length := by omega
  subst hn
  rcases h2 with ⟨rfl, hn⟩ | ⟨g, cap, cur, rfl, hb, hg, hnc, hcm, hcs, htake⟩
  · exact absurd (List.eq_nil_of_length_eq_zero hn) hne
  · refine ⟨g, cap, rfl, hb, lt_of_heap hg, fun i u hi => ?_⟩
    rw [cell_of_blk hg]
    have : (cur.toList.take (xs.length * 1))[i]? = some u := by rw [htake]; exact hi
    rw [List.getElem?_take] at this
    split at this
    · simpa using this
    · cases this
section
variable {P : Program} {C : Cfg}
theorem Wrote.upd {f g : Nat → Value} {w w' : World} {base n m t : Nat} {s out : List UInt8} (h : Wrote C f w base s out n m t g w') (hn : n ≤ t) {x : Nat} (hx : t ≤ x) (hx1 : x ≠ 1) (v : Value) : Wrote C f w base s out n m t (upd g x v) w' := by
  have e : (Go.Kg.upd g x v) 1 = g 1 := by rw [upd_apply, if_neg (by omega)]
  refine ⟨?_, ?_, ?_⟩
  · have := h.dst; unfold Dst at this ⊢; rwa [e]
  · have := h.grew; rwa [e]
  · intro y hy1 hy
    by_cases hyx : y < t
    · rw [upd_apply, if_neg (by omega)]; exact h.keep y hy1 hy
    · exact absurd hy (by omega)
/-- dst = kbin.AppendUvarint(dst, n) -/
theorem w_uv (hU : ∀ n : Nat, n < 4294967296 → WrC P C.E.tU8 C.E.f_kbin_AppendUvarint [.int .u32 n] (uvOut n)) {n t : Nat} (hn : n < 4294967296) {Q : Post} {f : Nat → Value} {w : World} {base : Nat} {s : List UInt8} (ht1 : 1 < t) (hd : Dst C f w base s) (hsz : s.length + (uvOut n).length ≤ 1099511627776)
    (h : ∀ f' w', OwnB C.E.tU8 w' base (f' 1) (s ++ uvOut n) → Grew w (f 1) w' (f' 1) → Keeps f f' t → Q .normal f' w') : (uvI C n t).wp P Q f w := by
  refine wp_reg ?_
  simp [uvI]
  refine (hU n hn w base (f 1) s hd.1 hd.2 hsz).mono ?_
  rintro v' w' ⟨ho', hg⟩
  refine h _ _ (by simpa using ho') (by simpa using hg) ?_
  exact keeps_one (keeps_upd (keeps_upd (Keeps.refl _ _) (by omega)) (by omega))
theorem prim_szW {w : World} {K : Nat → Prop} {p : Prim} {x : p.T} {v : Value} (h : p.rep1 w K v x) (hp : p.text = false) : (p.wr true x).length = p.szW := by
  cases p with
  | uuid => exact h.2
  | bool => rfl
  | i8 => rfl
  | i16 => simp [Prim.wr, num, Prim.szW]
  | u16 => simp [Prim.wr, num, Prim.szW]
  | i32 => simp [Prim.wr, num, Prim.szW]
  | i64 => simp [Prim.wr, num, Prim.szW]
  | str => cases hp
  | nstr => cases hp
  | bytes => cases hp
  | nbytes => cases hp
theorem szW_lt (p : Prim) : p.szW < 4294967296 := by cases p <;> simp [Prim.szW]
/-- a list, its value in l: what comes ahead of the loop, and the loop; q: the locals below it stay -/
theorem w_list2 {sT l n q m t t1 t' kk sz b a base pv : Nat} {nul : Option Nat} {v : Value} {ls : Option (List (List Value))} {Q : Post} {f : Nat → Value} {w : World} {ver : Int} {fl : Bool} {s : List UInt8} {body : Ir}
    {α : Type} (el : List α) (wrE : α → List UInt8) (hsl : sliSz P sT = some sz) (hW : LenWC P C nul) (hf : FrW C f pv b a ver fl n) (hnq : n ≤ q) (hlq : l < q) (hqm : q ≤ m) (hmt : m ≤ t) (h1l : 1 < l) (ht1 : t1 = t + lenN C nul) (htt : t1 + 4 ≤ t')
    (hv : f l = v) (ha : ArrAt w (· < base) sz v ls) (hn : (ls.getD []).length = el.length) (hd : Dst C f w base s)
    (hsz : s.length + (lenW nul fl el.length ls.isNone ++ el.flatMap wrE).length ≤ 1099511627776)
    (hbody : ∀ (i : Nat) (y : α) (s' : List UInt8) (f' : Nat → Value) (w' : World), el[i]? = some y → FrW C f' pv b a ver fl n → f' l = v → f' (t1 + 2) = .int .i64 i → f' (t1 + 1) = .int .i64 el.length → Dst C f' w' base s' → s'.length + (wrE y).length ≤ 1099511627776 →
      Grew w (f 1) w' (f' 1) →
      body.wp P (fun e f'' w'' => e = .normal ∧ Wrote C f' w' base s' (wrE y) q m t f'' w'' ∧ f'' (t1 + 2) = .int .i64 i ∧ f'' (t1 + 1) = .int .i64 el.length) f' w')
    (h : ∀ f' w', Wrote C f w base s (lenW nul fl el.length ls.isNone ++ el.flatMap wrE) q m t f' w' → Q .normal f' w') :
    (seqL [lenI C nul sT l t, rangeI C sT l t1 t' kk body]).wp P Q f w := by
  obtain ⟨ad, cp, rfl, hnone, hmax⟩ := ha.form
  rw [hn] at *
  have h1n := hf.one
  refine seqL_cons ?_
  refine w_len (v := f 1) hsl (by omega) (by omega) (by omega) hv rfl hf.flg (fun hx => by have := hf.sfN hx; omega) hW hd.1 hd.2 (fl := fl) ?_ ?_
  · rw [hnone]; simp only [List.length_append] at hsz; omega
  intro f3 w3 v3 h31 ho3 hg3 hk3
  rw [hnone] at ho3
  have hv3 : f3 l = .slice ad el.length cp := (hk3 l (by omega) (by omega)).trans hv
  have hw3 : Wrote C f w base s (lenW nul fl el.length ls.isNone) q m t f3 w3 := Wrote.mk' hd.2 rfl h31 ho3 hg3 (fun x hx1 hx => hk3 x (by omega) hx1)
  show (rangeI C sT l t1 t' kk body).wp P Q f3 w3
  refine w_range hsl (by omega) (by omega) htt hmax hv3
    (fun i f' w' => Wrote C f w base s (lenW nul fl el.length ls.isNone ++ (el.take i).flatMap wrE) q m t f' w') ?_ ?_ ?_ ?_
  · rintro i f1 f1' w' hx hw
    refine ⟨?_, ?_, ?_⟩
    · have := hw.dst; unfold Dst at this ⊢; rwa [hx 1 (by omega)]
    · have := hw.grew; rwa [hx 1 (by omega)]
    · intro x hx1 hxl; rw [hx x (by omega)]; exact hw.keep x hx1 hxl
  · simpa using hw3
  · rintro i hi f' w' hw h2 h1
    obtain ⟨y, hy⟩ : ∃ y, el[i]? = some y := ⟨_, List.getElem?_eq_getElem hi⟩
    have hfm := flatMap_take wrE el i y hy
    have hle := flatMap_take_le wrE el (i + 1)
    rw [hfm] at hle
    have hl' : f' l = .slice ad el.length cp := (hw.keep l (by omega) (.inl (by omega))).trans hv
    refine Ir.wp_mono body ?_ (hbody i y (s ++ (lenW nul fl el.length ls.isNone ++ (el.take i).flatMap wrE)) f' w' hy (hf.keep (fun x hx hx1 => hw.keep x hx1 (.inl (by omega))) (Nat.le_refl _)) hl' h2 h1 hw.dst ?_ hw.grew)
    · rintro e f'' w'' ⟨rfl, hw2, h22, h12⟩
      refine ⟨rfl, ?_, h22, h12⟩
      have := hw.trans hw2 (Nat.le_refl _) (Nat.le_refl _) (Nat.le_refl _)
      rw [hfm]
      rwa [List.append_assoc] at this
    · simp only [List.length_append] at hsz hle ⊢; omega
  · rintro f' w' hw
    refine h f' w' ?_
    have : el.take el.length = el := List.take_length
    rwa [this] at hw
/-- a text that is written twice. St: what the text needs, in every frame and world that has come of these -/
theorem w_twice (ht : TyC P C) (hB : sliSz P C.E.tBs = some 1) (uB : P.underlying C.E.tBs = some (.slice C.E.tU8)) (hU : ∀ n : Nat, n < 4294967296 → WrC P C.E.tU8 C.E.f_kbin_AppendUvarint [.int .u32 n] (uvOut n)) {load : Ir} {num l m lab t ts : Nat} {body0 : List Ir} (hnum : num < 4294967296) {Q : Post} {f : Nat → Value} {w : World} {base tm : Nat} {s out : List UInt8} {n : Nat} {St : (Nat → Value) → World → Prop}
    (hl1 : 1 < n) (hln : n ≤ l) (hlm : l + 3 ≤ m) (hmt : m ≤ tm) (htm : tm ≤ t) (hts : tm ≤ ts) (hd : Dst C f w base s) (hsz : s.length + (kTag num out).length ≤ 1099511627776)
    (hload : ∀ Q' : Post, (∀ f' w', St f' w' → Ext none1 w w' → (∀ x, x < tm → x ≠ l → f' x = f x) → Q' .normal f' w') → load.wp P Q' f w)
    (hSt : ∀ f w f' w' s', St f w → Dst C f w base s' → Grew w (f 1) w' (f' 1) → (∀ x, x < tm → x ≠ 1 → x ≠ l + 1 → x ≠ l + 2 → (x < l + 3 ∨ m ≤ x) → f' x = f x) → St f' w')
    (hbody : ∀ (Q' : Post) f w s', St f w → Dst C f w base s' → s'.length + out.length ≤ 1099511627776 → (∀ f' w', Wrote C f w base s' out (l + 3) m tm f' w' → Q' .normal f' w') → (seqL body0).wp P Q' f w)
    (h : ∀ f' w', Wrote C f w base s (kTag num out) n m tm f' w' → Q .normal f' w') : (twiceI C load num l lab t (body0 ++ [sizedI C (l + 1) lab ts])).wp P Q f w := by
  have hsum : (kTag num out).length = (uvOut num).length + (uvOut (out.length % 4294967296)).length + out.length := by simp only [kTag, List.length_append]
  have e1 : ∀ x, x < tm → ∀ k, (x = ts + k) = False := by intro x hx k; simp; omega
  have e1' : ∀ x, x < tm → (x = ts) = False := by intro x hx; simp; omega
  have e2 : ∀ x, x < tm → ∀ k, (x = t + k) = False := by intro x hx k; simp; omega
  have e2' : ∀ x, x < tm → (x = t) = False := by intro x hx; simp; omega
  have p1 : (1 = l + 1) = False := by simp; omega
  have p2 : (1 = l + 2) = False := by simp
  have l0 : (l = 0) = False := by simp; omega
  refine ⟨fun f' w' => f' (l + 1) = .bool true ∧ Wrote C f w base s (uvOut num ++ uvOut (out.length % 4294967296)) n m tm f' w' ∧ St f' w', fun _ _ => 0, ?_, ?_⟩
  · -- the first time
    simp only [List.cons_append, List.nil_append]
    refine seqL_cons ?_
    refine hload _ ?_
    intro f1 w1 hS1 he1 hk1
    have h11 : f1 1 = f 1 := hk1 1 (by omega) (by omega)
    have hd1 : Dst C f1 w1 base s := by unfold Dst at hd ⊢; rw [h11]; exact ⟨Own.ext hd.1 he1 (fun _ _ h => h), Nat.le_trans hd.2 he1.size⟩
    refine seqL_cons ?_
    refine w_uv hU hnum (by omega) hd1 (by omega) ?_
    intro f2 w2 ho2 hg2 hk2
    refine seqL_cons (wp_reg ?_)
    simp
    refine seqL_cons (wp_reg ?_)
    obtain ⟨ad, cp, hform, _⟩ := Own.form ho2
    simp only [cellsOf_length] at hform
    simp [hform, len_slice uB, l0, e2 1 (by omega), e2' 1 (by omega)]
    refine seqL_cons ?_
    show (seqL (body0 ++ _)).wp P _ _ _
    generalize hf3 : upd (upd (upd (upd f2 (l + 1) _) (t + 2) _) (t + 3) _) (l + 2) _ = f3
    have k3 : ∀ x, x < tm → x ≠ l + 1 → x ≠ l + 2 → f3 x = f2 x := by
      intro x hx h1 h2
      subst hf3
      simp [e2 x hx, h1, h2]
    have k3s : f3 (l + 1) = .bool false := by subst hf3; simp [e2 l (by omega), e2 (l + 1) (by omega)]
    have k3n : f3 (l + 2) = .int .i64 ((s ++ uvOut num).length : Nat) := by subst hf3; simp
    have h31 : f3 1 = f2 1 := k3 1 (by omega) (by omega) (by omega)
    have hd3 : Dst C f3 w2 base (s ++ uvOut num) := ⟨by rw [h31]; exact ho2, Nat.le_trans hd1.2 hg2.size⟩
    have hS3 : St f3 w2 := hSt f1 w1 f3 w2 s hS1 hd1 (by rw [h31]; exact hg2) (fun x hx hx1 hxa hxb _ => by rw [k3 x hx hxa hxb]; exact hk2 x (by omega) hx1)
    refine seqL_append ?_
    refine hbody _ f3 w2 _ hS3 hd3 (by simp only [List.length_append]; omega) ?_
    intro f4 w4 hw4
    have k4s : f4 (l + 1) = .bool false := (hw4.keep (l + 1) (by omega) (.inl (by omega))).trans k3s
    have k4n : f4 (l + 1 + 1) = .int .i64 ((s ++ uvOut num).length : Nat) := (hw4.keep (l + 2) (by omega) (.inl (by omega))).trans k3n
    show (sizedI C (l + 1) lab ts).wp P _ f4 w4
    refine wp_seqI (wp_reg ?_)
    simp [k4s, e1 (l + 1) (by omega), e1' (l + 1) (by omega), un?]
    refine .inl ⟨by simp, ?_⟩
    refine seqL_cons ?_
    refine Ir.cw_sound _ ?_
    have hD := (Ext.refl none1 w4).drew
    refine cw_regH (fun _ => True) trivial ?_
    obtain ⟨a4, c4, hform4, hc4⟩ := Own.form hw4.dst.1
    simp only [cellsOf_length] at hform4 hc4
    have sl1 := slice_hi (P := P) (T := C.E.tBs) hB (a := a4) (n := (s ++ uvOut num ++ out).length) (c := c4) (k := .i64) (l := (s ++ uvOut num).length) (by simp only [List.length_append] at hc4 ⊢; omega)
    have sl2 := slice_lo (P := P) (T := C.E.tBs) hB (a := a4) (n := (s ++ uvOut num ++ out).length) (c := c4) (k := .i64) (l := (s ++ uvOut num).length) (by simp only [List.length_append]; omega)
    have hsub : (s ++ uvOut num ++ out).length - (s ++ uvOut num).length = out.length := by simp only [List.length_append]; omega
    rw [hsub] at sl2
    have hwr : IntKind.u32.wrap (out.length : Int) = ((out.length % 4294967296 : Nat) : Int) := by simp [IntKind.wrap, IntKind.signed, IntKind.bits]
    have n1 : ∀ k, (1 = ts + k) = False := fun k => e1 1 (by omega) k
    have n1' : (1 = ts) = False := e1' 1 (by omega)
    have n2 : ∀ k, (l + 1 + 1 = ts + k) = False := fun k => e1 (l + 1 + 1) (by omega) k
    have n2' : (l + 1 + 1 = ts) = False := e1' (l + 1 + 1) (by omega)
    have hdst4 := hw4.dst.1
    have hgr4 := hw4.grew
    rw [hform4] at hdst4 hgr4
    have hO := OwnB.upTo hdst4 (k := (s ++ uvOut num).length) (by simp only [List.length_append]; omega)
    rw [List.take_left] at hO
    generalize hnn : (s ++ uvOut num).length = nn at k4n sl1 sl2 hO
    generalize hnt : (s ++ uvOut num ++ out).length = ntt at hform4 sl1 sl2 hdst4 hgr4
    have t0 : (ts = 0) = False := by simp; omega
    have q1 : ∀ k, (l = ts + k) = False := fun k => e1 l (by omega) k
    have q1' : (l = ts) = False := e1' l (by omega)
    have q2' : (l + 1 = ts) = False := e1' (l + 1) (by omega)
    have q3 : (ts + 1 + 1 = ts) = False := by simp; omega
    simp +contextual [hform4, k4n, t0, q1, q1', q2', q3, n1, n1', n2, n2', sl1, sl2, len_slice uB, ht.iInt, ht.iU32, hwr]
    refine (hU (out.length % 4294967296) (Nat.mod_lt _ (by omega)) w4.drew base _ _ (Own.ext hO hD (fun _ _ h => h)) (Nat.le_trans hw4.dst.2 hD.size) (by simp only [List.length_append]; omega)).mono ?_
    rintro v5 w5 ⟨ho5, hg5⟩
    try simp
    refine seqL_cons (wp_reg ?_)
    simp
    show lab = lab ∧ _
    refine ⟨rfl, ?_⟩
    have hg1 : Grew w (f 1) w1 (f1 1) := by rw [h11]; exact Grew.post (Grew.refl _ _) he1
    have hgs : Grew w4 (.slice a4 ntt c4) w4.drew (.slice (if c4 = 0 then a4 else a4.map (·.add 0)) nn c4) := ⟨hD.mono (fun _ _ h => h.elim), fun b hb => .inl (own1_upTo hb)⟩
    have hg25 : Grew w1 (f1 1) w5 v5 := by
      rw [h31] at hgr4
      exact ((hg2.trans hgr4).trans hgs).trans hg5
    have keep : ∀ x, x < tm → x ≠ 1 → x ≠ l + 1 → x ≠ l + 2 → (x < l + 3 ∨ m ≤ x) → ∀ a0 a1 a2 a3 a4 a5 a6 a7 a8 a9 a10, upd (upd (upd (upd (upd (upd (upd (upd (upd (upd (upd (upd (upd f4 ts a0) (ts + 1) a1) (ts + 2) a2) (ts + 3) a3) (ts + 4) a4) (ts + 5) a5) (ts + 6) a6) (ts + 7) a7) (ts + 8) a8) (ts + 9) a9) (ts + 10) a10) 1 v5) (l + 1) (.bool true) x = f1 x := by
      intro x hx hx1 hxa hxb hxm a0 a1 a2 a3 a4 a5 a6 a7 a8 a9 a10
      simp [e1 x hx, e1' x hx, hx1, hxa]
      rw [hw4.keep x hx1 (by omega), k3 x hx hxa hxb]
      exact hk2 x (by omega) hx1
    refine ⟨by simp, ⟨?_, ?_, ?_⟩, ?_⟩
    · refine ⟨?_, ?_⟩
      · simp [l0]
        rw [← List.append_assoc]; exact ho5
      · exact Nat.le_trans (Nat.le_trans hd.2 hg1.size) hg25.size
    · simp [l0]
      exact hg1.trans hg25
    · intro x hx1 hx
      exact (keep x (by omega) hx1 (by omega) (by omega) (by omega) _ _ _ _ _ _ _ _ _ _ _).trans (hk1 x (by omega) (by omega))
    · refine hSt f1 w1 _ w5 s hS1 hd1 (by simpa [l0] using hg25) ?_
      intro x hx hx1 hxa hxb hxm
      exact keep x hx hx1 hxa hxb hxm _ _ _ _ _ _ _ _ _ _ _
  · -- the second time
    rintro g w6 ⟨gs, hw6, hS6⟩
    show (seqL (body0 ++ _)).wp P _ g w6
    refine seqL_append ?_
    refine hbody _ g w6 _ hS6 hw6.dst (by simp only [List.length_append]; omega) ?_
    intro f7 w7 hw7
    have k7s : f7 (l + 1) = .bool true := (hw7.keep (l + 1) (by omega) (.inl (by omega))).trans gs
    show (sizedI C (l + 1) lab ts).wp P _ f7 w7
    refine wp_seqI (wp_reg ?_)
    simp [k7s, e1 (l + 1) (by omega), e1' (l + 1) (by omega), un?]
    refine .inr ⟨by simp, ?_⟩
    show Q .normal _ w7
    refine h _ _ ?_
    have := hw6.trans hw7 (by omega) (Nat.le_refl _) (Nat.le_refl _)
    exact (this.upd (by omega) hts (by omega) _).upd (by omega) (by omega) (by omega) _
end
end Go.Kg

set_option linter.unusedSimpArgs false
set_option linter.unusedVariables false
set_option linter.unusedSectionVars false
namespace Go.Kg
open Go
def Kn.NeedW (P : Program) (C : Cfg) (ok : TagL → Prop) : Kn → Prop
  | .prim p _ => PrimW P C p ∧ p.text = false
  | .arr _ _ _ _ _ e => LenWC P C none ∧ e.NeedW P C ok
  | .str _ _ _ _ _ _ _ => False
def KsNeedW (P : Program) (C : Cfg) (ok : TagL → Prop) : List KF → Prop
  | [] => True
  | f :: l => f.c.NeedW P C ok ∧ KsNeedW P C ok l
section
variable {P : Program} {C : Cfg}
theorem genWL_mono : ∀ (S : Sch) (T l : Nat) (c : Ct), c.l ≤ (S.genWL C T l c).2.l ∧ c.t ≤ (S.genWL C T l c).2.t := by
  intro S
  induction S with
  | fin => intro T l c; exact ⟨Nat.le_refl _, Nat.le_refl _⟩
  | tags k o => intro T l c; exact ⟨Nat.le_refl _, by simp [Sch.genWL]⟩
  | prim g k o p en d rest ih =>
    intro T l c
    have := ih T l ⟨c.l + 1, c.t + 2 + emitN C p, c.k⟩
    simp only [Sch.genWL]
    simp only at this
    omega
  | arrP g k o sT nul p rest ih => intro T l c; exact ⟨Nat.le_refl _, Nat.le_refl _⟩
  | arrS g k o sT nul T' PT' sz df e rest ihe ih => intro T l c; exact ⟨Nat.le_refl _, Nat.le_refl _⟩
  | sub g k o T' PT' sz df e rest ihe ih => intro T l c; exact ⟨Nat.le_refl _, Nat.le_refl _⟩
  | opt g k o T' PT' PP sz df e rest ihe ih => intro T l c; exact ⟨Nat.le_refl _, Nat.le_refl _⟩
theorem caseW_mono (T PT pv : Nat) (kf : KF) (c : Ct) (lab : Nat) : c.l ≤ (caseW C T PT pv kf c lab).2.1.l ∧ c.t ≤ (caseW C T PT pv kf c lab).2.1.t := by
  obtain ⟨num, k, o, cc⟩ := kf
  cases cc with
  | prim p d => simp only [caseW]; omega
  | arr sT T' PT' sz df e =>
    have := genW_mono (C := C) e T' PT' (c.l + 4) ⟨c.l + 5, c.t + 8 + lenN C none + 8, c.k + 2⟩
    simp only [caseW]
    simp only at this
    omega
  | str T' PT' sz df sm mk e =>
    have := genWL_mono (C := C) e T' c.l ⟨c.l + 3, c.t + 8, c.k⟩
    simp only [caseW]
    simp only at this
    omega
theorem casesW_mono (T PT pv key : Nat) : ∀ (ks : List KF) (c : Ct) (lab : Nat), c.l ≤ (casesW C T PT pv key ks c lab).2.l ∧ c.t ≤ (casesW C T PT pv key ks c lab).2.t
  | [], c, lab => ⟨Nat.le_refl _, Nat.le_refl _⟩
  | f :: r, c, lab => by
    have h1 := caseW_mono (C := C) T PT pv f ⟨c.l, c.t + 2, c.k⟩ lab
    simp only [casesW]
    generalize caseW C T PT pv f ⟨c.l, c.t + 2, c.k⟩ lab = z at h1 ⊢
    obtain ⟨b, c1, lab1⟩ := z
    have h2 := casesW_mono T PT pv key r c1 lab1
    simp only at h1 ⊢
    omega
theorem Wrote.down {f g : Nat → Value} {w w' : World} {base n m t t' : Nat} {s out : List UInt8} (h : Wrote C f w base s out n m t g w') (ht : t' ≤ t) : Wrote C f w base s out n m t' g w' :=
  ⟨h.dst, h.grew, fun x hx1 hx => h.keep x hx1 (by omega)⟩
/-- v := v.F, and of 16 octets: they lie in a new block -/
theorem w_load2 (ht : TyC P C) {Q : Post} {f : Nat → Value} {w : World} {T PT pv k o ty l t : Nat} {p : Prim} (hq : p = .uuid → isAgg16 (kindOf P C.E.tUu) = true) {b a : Nat} {cs : List Value} {u : Value} (hpv : f pv = .pointer (some ⟨b, a, none⟩)) (hF : fldOff P T k = some o) (hk : p.kOk P ty = true)
    (hc : CellsAt w b a cs) (hs : seg cs o u.cells.toList) (hu : if p = .uuid then ∃ c : Array Value, u = .agg c ∧ c.size = 16 ∧ allOne c.toList = true else u.oneCell' = true) (hl : l < t) (hl1 : 1 < l)
    (h : ∀ f' w', LocVal w' f' p l u → (p = .uuid → ∃ bb, f' l = .pointer (some ⟨bb, 0, none⟩) ∧ w.heap.size ≤ bb) → Ext none1 w w' → (∀ x, x < t → x ≠ l → f' x = f x) → Q .normal f' w') : (loadI C T PT pv k ty l t p).wp P Q f w := by
  by_cases hp : p = .uuid
  · subst hp
    simp only [if_true] at hu
    obtain ⟨c, rfl, hc16, hone⟩ := hu
    have hk' : kindOf P ty = .agg 16 := by
      simp only [Prim.kOk, if_true] at hk
      revert hk; cases kindOf P ty <;> simp [isAgg16]
      intro h'; split at h' <;> simp_all
    have hl' := cellsFrom_seg hc (u := c) hs
    rw [hc16] at hl'
    have e1 : l ≠ t := by omega
    have e2 : ∀ n, l ≠ t + n := by omega
    have e3 : ∀ n, (t + n = l) = False := by intro n; simp; omega
    have keep : ∀ a b c d e, ∀ x, x < t → x ≠ l → upd (upd (upd (upd (upd f t a) (t + 1) b) (t + 2) c) (t + 3) d) l e x = f x := by
      intro a b c d e x hx hx2
      have x3 : ∀ n, (x = t + n) = False := by intro n; simp; omega
      have x4 : (x = t) = False := by simp; omega
      simp [x3, x4, hx2]
    refine wp_reg ?_
    have hz : zeroOf P C.E.tUu = some (.agg z16) := (ht.uu (hq rfl)).zUu
    simp [loadI, addrR, putL, hpv, hF, Addr.add_mk, ld_agg hk', hl', hz, Value.cells, e3, store_agg (ht.uu (hq rfl)).kUu, hc16, hone, putK_blk alloc_new, z16_size]
    refine h _ _ ?_ ?_ ?_ (keep _ _ _ _ _)
    · simp only [LocVal, if_true]
      refine ⟨w.heap.size, c, C.E.tUu, (0, 0), by simp, ?_, rfl, hc16⟩
      have hov : over z16 0 c.toList = c := by
        have hd : z16.toList.drop (0 + c.toList.length) = [] := List.drop_eq_nil_of_le (by simp [z16_size, hc16])
        simp only [over, hd]; simp
      rw [hov]
      exact setBlk_same alloc_new
    · intro _; exact ⟨w.heap.size, by simp, Nat.le_refl _⟩
    · exact ((Ext.refl none1 w).alloc _).setBlk (.inl (Nat.le_refl _)) _
  · exact w_load ht hq hpv hF hk hc hs hu hl hl1 (fun f' w' h1 h2 h3 => h f' w' h1 (fun e => absurd e hp) h2 h3)
theorem LocVal.grew {p : Prim} {l : Nat} {u : Value} {f f' : Nat → Value} {w w' : World} {v v' : Value} (h : LocVal w f p l u) (hx : p = .uuid → ∃ bb, f l = .pointer (some ⟨bb, 0, none⟩) ∧ ¬ own1 v bb) (hg : Grew w v w' v') (hl : f' l = f l) : LocVal w' f' p l u := by
  unfold LocVal at h ⊢
  by_cases hp : p = .uuid
  · rw [if_pos hp] at h ⊢
    obtain ⟨b, cs, e, fz, hf, hb, hu, h16⟩ := h
    obtain ⟨bb, hbb, hn⟩ := hx hp
    rw [hf] at hbb
    cases hbb
    exact ⟨b, cs, e, fz, hl.trans hf, hg.ext.old hb hn, hu, h16⟩
  · rw [if_neg hp] at h ⊢
    rw [hl]; exact h
variable {ok : TagL → Prop}
theorem w_caseW (ht : TyC P C) (hfx : C.fx = true) (hB : sliSz P C.E.tBs = some 1) (uB : P.underlying C.E.tBs = some (.slice C.E.tU8)) (hU : ∀ n : Nat, n < 4294967296 → WrC P C.E.tU8 C.E.f_kbin_AppendUvarint [.int .u32 n] (uvOut n))
    {T PT pv n mm tm : Nat} {kf : KF} (hty : kf.tyW P C T = true) (hN : kf.c.NeedW P C ok) {c : Ct} {lab : Nat} {Q : Post} {f : Nat → Value} {w : World} {b a base : Nat} {cs : List Value} {x : kf.c.T} {ver : Int} {s : List UInt8}
    (hf : FrW C f pv b a ver true n) (hn : n ≤ c.l) (hm : (caseW C T PT pv kf c lab).2.1.l ≤ mm) (hmt : mm ≤ tm) (htm : tm ≤ c.t) (hb : b < base) (hcs : CellsAt w b a cs) (hr : kf.c.Rep w (· < base) cs kf.o x) (hok : kf.c.TagsOk ok x) (hd : Dst C f w base s)
    (hsz : s.length + (kTag kf.num (kf.c.wr ver x)).length ≤ 1099511627776) (h : ∀ f' w', Wrote C f w base s (kTag kf.num (kf.c.wr ver x)) n mm tm f' w' → Q .normal f' w') : (caseW C T PT pv kf c lab).1.wp P Q f w := by
  obtain ⟨num, k, o, cc⟩ := kf
  simp only [KF.tyW, Bool.and_eq_true, beq_iff_eq, decide_eq_true_eq] at hty
  obtain ⟨⟨hF, hnum⟩, hty⟩ := hty
  simp only at hF hnum hr x hok hsz h hN
  have h1n := hf.one
  have hpt := hf.ptrN
  have hsum : ∀ out, (kTag num out).length = (uvOut num).length + (uvOut (out.length % 4294967296)).length + out.length := fun out => by simp only [kTag, List.length_append]
  cases cc with
  | str T' PT' sz df sm mk e => exact hN.elim
  | prim p d =>
    obtain ⟨v, hv, hr1⟩ := hr
    obtain ⟨hNp, htx⟩ := hN
    simp only [Bool.and_eq_true] at hty
    simp only [caseW] at hm ⊢
    have hq := kOk_uu hty.1
    have hwl : ((Kn.prim p d).wr ver x).length = p.szW := prim_szW hr1 htx
    have hsm := hsum ((Kn.prim p d).wr ver x)
    have hlt := szW_lt p
    rw [hwl, Nat.mod_eq_of_lt hlt] at hsm
    refine seqL_cons ?_
    refine w_load2 ht hq hf.ptr hF hty.1 hcs hv (rep1_one hr1) (by omega) (by omega) ?_
    intro f1 w1 hv1 hfr1 he1 hk1
    have h11 : f1 1 = f 1 := hk1 1 (by omega) (by omega)
    have hd1 : Dst C f1 w1 base s := by unfold Dst at hd ⊢; rw [h11]; exact ⟨Own.ext hd.1 he1 (fun _ _ h => h), Nat.le_trans hd.2 he1.size⟩
    have own0 : ∀ bb, own1 (f 1) bb → bb < w.heap.size := fun bb hb => (Own.below hd.1 hb).2
    refine seqL_cons ?_
    refine w_uv hU hnum (by omega) hd1 (by omega) ?_
    intro f2 w2 ho2 hg2 hk2
    have hd2 : Dst C f2 w2 base (s ++ uvOut num) := ⟨ho2, Nat.le_trans hd1.2 hg2.size⟩
    have hv2 : LocVal w2 f2 p c.l v := hv1.grew (fun hp => by
      obtain ⟨bb, hbb, hge⟩ := hfr1 hp
      exact ⟨bb, hbb, fun ho => by rw [h11] at ho; have := own0 bb ho; omega⟩) hg2 (hk2 c.l (by omega) (by omega))
    refine seqL_cons ?_
    refine w_uv hU hlt (by omega) hd2 (by simp only [List.length_append]; omega) ?_
    intro f3 w3 ho3 hg3 hk3
    have hd3 : Dst C f3 w3 base (s ++ uvOut num ++ uvOut p.szW) := ⟨ho3, Nat.le_trans hd2.2 hg3.size⟩
    have hv3 : LocVal w3 f3 p c.l v := hv2.grew (fun hp => by
      obtain ⟨bb, hbb, hge⟩ := hfr1 hp
      have hlt1 : bb < w1.heap.size := by
        unfold LocVal at hv1
        rw [if_pos hp] at hv1
        obtain ⟨b', cs', e', fz', hf', hb', _⟩ := hv1
        rw [hf'] at hbb; cases hbb
        exact lt_of_heap hb'
      refine ⟨bb, (hk2 c.l (by omega) (by omega)).trans hbb, fun ho => ?_⟩
      rcases hg2.own bb ho with h' | h'
      · rw [h11] at h'; have := own0 bb h'; omega
      · omega) hg3 (hk3 c.l (by omega) (by omega))
    have hf3 : flagOk C f3 true := ⟨fun hx => ⟨by rw [hk3 C.sf (by have := hf.sfN hx; omega) (hf.flg.1 hx).2, hk2 C.sf (by have := hf.sfN hx; omega) (hf.flg.1 hx).2, hk1 C.sf (by have := hf.sfN hx; omega) (by have := hf.sfN hx; omega)]; exact (hf.flg.1 hx).1, (hf.flg.1 hx).2⟩, hf.flg.2⟩
    have hrep3 : p.rep1 w3 (· < base) v x := by
      have r1 := Prim.rep1_ext (K := (· < base)) he1 (fun _ _ _ h => h) hr1
      have r2 := Prim.rep1_ext (K := (· < base)) hg2.ext (fun b _ hb ho => by have := (Own.below hd1.1 ho).1; omega) r1
      exact Prim.rep1_ext (K := (· < base)) hg3.ext (fun b _ hb ho => by have := (Own.below hd2.1 ho).1; omega) r2
    show (emitW C p c.l (c.t + 8)).wp P Q f3 w3
    refine w_emit ht hq (x := x) (fl := true) (by omega) (by omega) (by omega) hv3 rfl hf3 (fun hx => by have := hf.sfN hx; omega) hNp hrep3 hd3.1 hd3.2 ?_ ?_
    · have : (p.wr true x).length = p.szW := hwl
      rw [this]
      simp only [List.length_append]; omega
    · intro f4 w4 v4 h41 ho4 hg4 hk4
      have hg1 : Grew w (f 1) w1 (f1 1) := by rw [h11]; exact Grew.post (Grew.refl _ _) he1
      refine h f4 w4 ⟨⟨?_, ?_⟩, ?_, ?_⟩
      · rw [h41]
        have e : kTag num ((Kn.prim p d).wr ver x) = uvOut num ++ uvOut p.szW ++ p.wr true x := by
          simp only [kTag, hwl, Nat.mod_eq_of_lt hlt]; rfl
        rw [e, ← List.append_assoc, ← List.append_assoc]
        exact ho4
      · exact Nat.le_trans hd3.2 hg4.size
      · rw [h41]
        exact ((hg1.trans hg2).trans hg3).trans hg4
      · intro z hz1 hz
        rw [hk4 z (by omega) hz1, hk3 z (by omega) hz1, hk2 z (by omega) hz1]
        exact hk1 z (by omega) (by omega)
  | arr sT T' PT' sz df e =>
    obtain ⟨v, ls, hv, harr, ⟨hsome, _⟩, hlen, hel⟩ := hr
    obtain ⟨hNl, hNe⟩ := hN
    simp only [Bool.and_eq_true, beq_iff_eq] at hty
    obtain ⟨⟨hk, hsl⟩, hte⟩ := hty
    have hnil : ls.isNone = (show Option (List e.T) from x).isNone := by
      have hs' := hsome
      cases ls <;> cases hx : (show Option (List e.T) from x) <;> simp_all
    simp only [caseW] at hm ⊢
    generalize ht1 : c.t + 8 + lenN C none = t1 at hm ⊢
    have hme := genW_mono (C := C) e T' PT' (c.l + 4) ⟨c.l + 5, t1 + 8, c.k + 2⟩
    have hse : ∀ Q f w b a cs x ver fl base s, _ := fun Q f w b a cs x ver fl base s => soundW (ok := ok) ht e T' PT' (c.l + 4) ⟨c.l + 5, t1 + 8, c.k + 2⟩ Q f w b a cs x ver fl base s
    generalize hz : e.genW C T' PT' (c.l + 4) ⟨c.l + 5, t1 + 8, c.k + 2⟩ = z at hm hme hse ⊢
    obtain ⟨eb, c1⟩ := z
    simp only at hm hme hse ⊢
    have hout : (Kn.arr sT T' PT' sz df e).wr ver x = lenW none true ((show Option (List e.T) from x).getD []).length ls.isNone ++ ((show Option (List e.T) from x).getD []).flatMap (e.wr ver true) := by rw [hnil]; rfl
    refine w_twice (body0 := [lenI C none sT c.l (c.t + 8), rangeI C sT c.l t1 c1.t c.k _]) (m := mm) (tm := tm) (n := n) (out := (Kn.arr sT T' PT' sz df e).wr ver x) ht hB uB hU hnum
      (St := fun f' w' => FrW C f' pv b a ver true n ∧ f' c.l = v ∧ ArrAt w' (· < base) sz v ls ∧ ∀ (i : Nat) (es : List Value) y, (ls.getD [])[i]? = some es → ((show Option (List e.T) from x).getD [])[i]? = some y → e.Rep w' (· < base) es y)
      h1n hn (by omega) hmt (by omega) (by omega) hd hsz ?_ ?_ ?_ h
    · intro Q' hq
      obtain ⟨ad, cp, rfl, _, hmax⟩ := harr.form
      refine w_load ht (fun h => by cases h) hf.ptr hF (kOk_scl hk) hcs (seg_one hv rfl) (by simp [Value.oneCell']) (by omega) (by omega) ?_
      intro f1 w1 hv1 he1 hk1
      refine hq f1 w1 ⟨?_, loc_slice hv1, harr.ext he1 (fun _ _ _ h => h), fun i es y hi hy => Sch.Rep_ext he1 (fun _ _ _ h => h) e (hel i es y hi hy)⟩ he1 (fun z hz hzl => hk1 z (by omega) hzl)
      exact hf.keep (fun z hz _ => hk1 z (by omega) (by omega)) (Nat.le_refl _)
    · rintro f1 w1 f2 w2 s' ⟨q1, q2, q3, q4⟩ hd' hg hk
      have hK : ∀ b, b < w1.heap.size → b < base → ¬ own1 (f1 1) b := fun b _ hb ho => by have := (Own.below hd'.1 ho).1; omega
      exact ⟨q1.keep (fun z hz hz1 => hk z (by omega) hz1 (by omega) (by omega) (by omega)) (Nat.le_refl _), (hk c.l (by omega) (by omega) (by omega) (by omega) (by omega)).trans q2, q3.ext (K := (· < base)) hg.ext hK, fun i es y hi hy => Sch.Rep_ext (K := (· < base)) hg.ext hK e (q4 i es y hi hy)⟩
    · rintro Q' f1 w1 s' ⟨q1, q2, q3, q4⟩ hd' hsz' hq
      rw [hout] at hsz' hq
      refine w_list2 ((show Option (List e.T) from x).getD []) (e.wr ver true) hsl hNl q1 (q := c.l + 3) (m := mm) (by omega) (by omega) (by omega) (by omega) (by omega) ht1.symm (by omega) q2 q3 hlen hd' hsz' ?_ (fun f' w' hw => hq f' w' (hw.down (by omega)))
      intro i y s'' f' w' hy hf' hl' h2' h1' hd'' hsz'' hg0
      obtain ⟨es, hes⟩ : ∃ es, (ls.getD [])[i]? = some es := by
        have : i < (ls.getD []).length := by rw [hlen]; exact (List.getElem?_eq_some_iff.1 hy).1
        exact ⟨_, List.getElem?_eq_getElem this⟩
      have hrep := q4 i es y hes hy
      have hK : ∀ b, b < w1.heap.size → b < base → ¬ own1 (f1 1) b := fun b _ hb ho => by have := (Own.below hd'.1 ho).1; omega
      have harr' := q3.ext (K := (· < base)) hg0.ext hK
      have hrep' := Sch.Rep_ext (K := (· < base)) hg0.ext hK e hrep
      cases ls with
      | none => simp at hes
      | some ls =>
        obtain ⟨bb, oo, cc, rfl, hbb, hmax, hcells⟩ := harr'
        have hce := hcells i _ hes
        refine seqL_cons ?_
        refine wp_reg ?_
        simp [idxI, h2']
        refine seqL_cons ?_
        refine wp_reg ?_
        have hi : i < ls.length := by have := (List.getElem?_eq_some_iff.1 hes).1; simpa using this
        have e1 : ∀ n, (c.l = t1 + n) = False := by intro n; simp; omega
        have e2 : ∀ n, (c.l + 3 = t1 + n) = False := by intro n; simp; omega
        simp [e1, e2, hl', idx?, hsl, hi, Addr.add_mk]
        have up : ∀ z, z < t1 + 4 → z ≠ c.l + 3 → z ≠ c.l + 4 → ∀ v1 v2 v3 v4 v5 v6, upd (upd (upd (upd (upd (upd f' (t1 + 4) v1) (c.l + 3) v2) (t1 + 5) v3) (t1 + 6) v4) (t1 + 7) v5) (c.l + 4) v6 z = f' z := by
          intro z hz hz1 hz2 v1 v2 v3 v4 v5 v6
          have a3 : ∀ n, 4 ≤ n → (z = t1 + n) = False := by intro n hn; simp; omega
          simp [a3, hz1, hz2]
        refine hse _ _ w' bb (oo + i * sz) es y ver true base s'' hte hNe ?_ (by omega) hbb hce.2 hrep' (hok i y hy) ?_ hsz'' ?_
        · refine ⟨by simp, ⟨by omega, by omega⟩, ?_, ⟨by have := hf'.svN; omega, hf'.svN.2⟩, ⟨fun hx => ⟨?_, (hf'.flg.1 hx).2⟩, hf'.flg.2⟩, fun hx => by have := hf'.sfN hx; omega, by omega⟩
          · rw [up _ (by have := hf'.svN; omega) (by have := hf'.svN; omega) (by have := hf'.svN; omega)]; exact hf'.svv
          · rw [up _ (by have := hf'.sfN hx; omega) (by have := hf'.sfN hx; omega) (by have := hf'.sfN hx; omega)]; exact (hf'.flg.1 hx).1
        · unfold Dst at hd'' ⊢
          rwa [up 1 (by omega) (by omega) (by omega)]
        · intro f4 w4 hw4
          have kp : ∀ z, z ≠ 1 → z ≠ c.l + 3 → z ≠ c.l + 4 → (z < c.l + 5 ∨ (c1.l ≤ z ∧ z < t1 + 4)) → f4 z = f' z := by
            intro z hz0 hz1 hz2 hz
            rw [hw4.keep z hz0 (by omega)]
            exact up z (by omega) hz1 hz2 _ _ _ _ _ _
          refine ⟨rfl, ⟨hw4.dst, ?_, ?_⟩, ?_, ?_⟩
          · have := hw4.grew
            rwa [up 1 (by omega) (by omega) (by omega)] at this
          · intro z hz1 hz
            exact kp z hz1 (by omega) (by omega) (by omega)
          · rw [kp _ (by omega) (by omega) (by omega) (by omega)]; exact h2'
          · rw [kp _ (by omega) (by omega) (by omega) (by omega)]; exact h1'
theorem ksSet_num : ∀ (l : List KF) (z : KsT l) {y : Nat}, y ∈ ksSet l z → y ∈ l.map (·.num)
  | [], _, y, h => h
  | f :: l, (v, r), y, h => by
    simp only [ksSet, List.mem_append] at h
    simp only [List.map_cons, List.mem_cons]
    rcases h with h | h
    · split at h
      · left; simpa using h
      · simp at h
    · right; exact ksSet_num l r h
/-- the switch -/
theorem w_casesW (ht : TyC P C) (hfx : C.fx = true) (hB : sliSz P C.E.tBs = some 1) (uB : P.underlying C.E.tBs = some (.slice C.E.tU8)) (hU : ∀ n : Nat, n < 4294967296 → WrC P C.E.tU8 C.E.f_kbin_AppendUvarint [.int .u32 n] (uvOut n))
    {T PT pv key n mm tm : Nat} {Q : Post} {b a base : Nat} {cs : List Value} {ver : Int} {s : List UInt8} {num : Nat} {out : List UInt8} (hmt : mm ≤ tm) (hb : b < base) (hsz : s.length + (kTag num out).length ≤ 1099511627776) :
    ∀ (ks : List KF) (x : KsT ks) (c : Ct) (lab : Nat) (f : Nat → Value) (w : World), (ks.all (·.tyW P C T)) = true → KsNeedW P C ok ks → (ks.map (·.num)).Nodup → KsRep w (· < base) cs ks x → KsOk ok ks x → (num, out) ∈ ksOuts ver ks x → f key = .int .u32 num →
      FrW C f pv b a ver true n → n ≤ c.l → (casesW C T PT pv key ks c lab).2.l ≤ mm → tm ≤ c.t → key < c.t → CellsAt w b a cs → Dst C f w base s →
      (∀ f' w', Wrote C f w base s (kTag num out) n mm tm f' w' → Q .normal f' w') → (casesW C T PT pv key ks c lab).1.wp P Q f w := by
  intro ks
  induction ks with
  | nil => intro x c lab f w _ _ _ _ _ hmem; simp [ksOuts] at hmem
  | cons kf r ih =>
    rintro ⟨v, xr⟩ c lab f w hty ⟨hN, hNr⟩ hnd ⟨hr, hrr⟩ ⟨hok, hokr⟩ hmem hkey hf hn hm htm hkt hcs hd h
    simp only [List.all_cons, Bool.and_eq_true] at hty
    simp only [List.map_cons, List.nodup_cons] at hnd
    simp only [ksOuts, List.mem_append] at hmem
    have m1 := caseW_mono (C := C) T PT pv kf ⟨c.l, c.t + 2, c.k⟩ lab
    have hcase := fun (Q : Post) (f : Nat → Value) (s : List UInt8) => w_caseW (ok := ok) (P := P) (C := C) (T := T) (PT := PT) (pv := pv) (n := n) (mm := mm) (tm := tm) (kf := kf) (c := ⟨c.l, c.t + 2, c.k⟩) (lab := lab) (Q := Q) (f := f) (w := w) (b := b) (a := a) (base := base) (cs := cs) (x := v) (ver := ver) (s := s) ht hfx hB uB hU hty.1 hN
    simp only [casesW] at hm ⊢
    generalize caseW C T PT pv kf ⟨c.l, c.t + 2, c.k⟩ lab = z at m1 hm hcase ⊢
    obtain ⟨bb, c1, lab1⟩ := z
    have m2 := casesW_mono (C := C) T PT pv key r c1 lab1
    simp only at m1 hm hcase ⊢
    have h1n := hf.one
    have hkc : (key = c.t + 1) = False := by simp; omega
    have hkc' : (key = c.t) = False := by simp; omega
    have tail : ∀ y, (y, out) ∈ ksOuts ver r xr → y ∈ r.map (·.num) := by
      intro y hy
      have h1 : y ∈ (ksOuts ver r xr).map (fun z => z.1) := List.mem_map.2 ⟨(y, out), hy, rfl⟩
      rw [show (fun z : Nat × List UInt8 => z.1) = (·.1) from rfl, ksOuts_set] at h1
      exact ksSet_num r xr h1
    refine seqL_cons (wp_reg ?_)
    simp [hkey]
    generalize hBv : ((num : Int) == (kf.num : Int)) = Bv
    have hfu : FrW C (upd (upd f (c.t + 1) (.bool Bv)) c.t (.bool Bv)) pv b a ver true n := hf.keep (keeps_upd (keeps_upd (Keeps.refl _ _) (by omega)) (by omega)) (Nat.le_refl _)
    have hdu : Dst C (upd (upd f (c.t + 1) (.bool Bv)) c.t (.bool Bv)) w base s := by
      unfold Dst at hd ⊢
      rw [upd_apply, if_neg (by omega), upd_apply, if_neg (by omega)]
      exact hd
    have back : ∀ f' w', Wrote C (upd (upd f (c.t + 1) (.bool Bv)) c.t (.bool Bv)) w base s (kTag num out) n mm tm f' w' → Wrote C f w base s (kTag num out) n mm tm f' w' := by
      intro f' w' hw
      refine ⟨hw.dst, ?_, ?_⟩
      · have := hw.grew
        rwa [upd_apply, if_neg (by omega), upd_apply, if_neg (by omega)] at this
      · intro z hz1 hz
        rw [hw.keep z hz1 hz, upd_apply, if_neg (by omega), upd_apply, if_neg (by omega)]
    by_cases heq : num = kf.num
    · subst heq
      have hBt : Bv = true := by rw [← hBv]; simp
      have hset : kf.c.set v = true ∧ out = kf.c.wr ver v := by
        rcases hmem with h' | h'
        · split at h'
          · rename_i hs; simp at h'; exact ⟨hs, h'⟩
          · simp at h'
        · exact absurd (tail _ h') hnd.1
      obtain ⟨_, rfl⟩ := hset
      refine .inl ⟨by simp [hBt], ?_⟩
      refine hcase _ _ _ hfu hn (by omega) hmt (by omega) hb hcs hr hok hdu hsz ?_
      intro f' w' hw
      exact h f' w' (back f' w' hw)
    · have hBf : Bv = false := by rw [← hBv, beq_eq_false_iff_ne]; omega
      refine .inr ⟨by simp [hBf], ?_⟩
      have hmem' : (num, out) ∈ ksOuts ver r xr := by
        rcases hmem with h' | h'
        · split at h'
          · simp at h'; exact absurd h'.1 heq
          · simp at h'
        · exact h'
      refine ih xr _ _ _ w hty.2 hNr hnd.2 hrr hokr hmem' ?_ hfu (by omega) hm (by omega) (by omega) hcs hdu (fun f' w' hw => h f' w' (back f' w' hw))
      rw [upd_apply, if_neg (by omega), upd_apply, if_neg (by omega)]
      exact hkey
end
end Go.Kg

set_option linter.unusedSimpArgs false
set_option linter.unusedVariables false
set_option linter.unusedSectionVars false
namespace Go.Kg
open Go
section
variable {P : Program} {C : Cfg}
/-- w_range, where the body reads the list through the loop's own copy. -/
theorem w_rangeT {Q : Post} {f : Nat → Value} {w : World} {sT l t t' k n c sz : Nat} {a : Option Addr} {body : Ir} (hs : sliSz P sT = some sz) (hl : l < t) (ht1 : 1 < t) (htt : t + 4 ≤ t') (hn : n ≤ 1099511627776) (hv : f l = .slice a n c) (J : Nat → (Nat → Value) → World → Prop)
    (hJ : ∀ i f f' w, (∀ x, x < t → f' x = f x) → J i f w → J i f' w) (h0 : J 0 f w)
    (hb : ∀ i, i < n → ∀ f w, J i f w → f t = .slice a n c → f (t + 2) = .int .i64 i → f (t + 1) = .int .i64 n → body.wp P (fun e f' w' => e = .normal ∧ J (i + 1) f' w' ∧ f' t = .slice a n c ∧ f' (t + 2) = .int .i64 i ∧ f' (t + 1) = .int .i64 n) f w)
    (h : ∀ f' w', J n f' w' → Q .normal f' w') : (rangeI C sT l t t' k body).wp P Q f w := by
  obtain ⟨E, j, hu, _, _⟩ := sliSz_spec hs
  have e3 : ∀ n, (l = t + n) = False := by intro n; simp; omega
  have e4 : (l = t) = False := by simp; omega
  refine wp_seqI (wp_reg ?_)
  simp [hv, e3, e4, len_slice hu]
  show (Ir.loop _).wp P _ _ _
  refine ⟨fun f w => ∃ i : Nat, i ≤ n ∧ f t = .slice a n c ∧ f (t + 2) = .int .i64 i ∧ f (t + 1) = .int .i64 n ∧ J i f w, fun f _ => match f (t + 2) with | .int _ i => ((n : Int) - i).toNat | _ => 0, ?_, ?_⟩
  · refine ⟨0, by omega, by simp, by simp, by simp, hJ _ _ _ _ ?_ h0⟩
    intro x hx
    have x3 : ∀ n, (x = t + n) = False := by intro n; simp; omega
    have x4 : (x = t) = False := by simp; omega
    simp [x3, x4]
  · rintro f w ⟨i, hi, hft, h2, h3, hj⟩
    refine wp_seqI (wp_reg ?_)
    simp [h2, h3]
    by_cases hlt : i < n
    · refine .inl ⟨by simp; omega, ?_⟩
      show (Ir.seq _ _).wp P _ _ _
      refine wp_seqI ?_
      show body.wp P _ _ _
      refine Ir.wp_mono body ?_ (hb i hlt _ _ (hJ i _ _ _ ?_ hj) (by simpa using hft) (by simpa using h2) (by simpa using h3))
      · rintro e f' w' ⟨rfl, hj', hft', h2', h3'⟩
        show (Ir.reg _).wp P _ _ _
        refine wp_reg ?_
        have t3 : ∀ n, (t + 2 = t' + n) = False := by intro n; simp; omega
        have t4 : (t + 2 = t') = False := by simp; omega
        have t5 : (t + 1 = t') = False := by simp; omega
        have t6 : (t = t') = False := by simp; omega
        have wr : IntKind.i64.wrap ((i : Int) + 1) = ((i + 1 : Nat) : Int) := by rw [i64_small (by omega) (by omega)]; rfl
        simp [h2', t4, wr]
        refine ⟨⟨i + 1, by omega, by simp [t6, hft'], by simp, by simp [t5, h3'], hJ _ _ _ _ ?_ hj'⟩, ?_⟩
        · intro x hx
          have x3 : ∀ n, (x = t + n) = False := by intro n; simp; omega
          have x4 : (x = t') = False := by simp; omega
          simp [x3, x4]
        · first | omega | (simp only [h2]; omega)
      · intro x hx
        have x3 : ∀ n, (x = t + n) = False := by intro n; simp; omega
        simp [x3]
    · have : i = n := by omega
      subst this
      refine .inr ⟨by simp, ?_⟩
      show inBlockF k Q (.exit k) _ _
      rw [inBlockF_exit, if_pos rfl]
      refine h _ _ (hJ _ _ _ _ ?_ hj)
      intro x hx
      have x3 : ∀ n, (x = t + n) = False := by intro n; simp; omega
      simp [x3]
theorem secWI_mono (T PT pv sl : Nat) (ks : List KF) (tk : Nat) (c : Ct) : c.l + 3 ≤ (secWI C T PT pv sl ks tk c).2.l ∧ c.t ≤ (secWI C T PT pv sl ks tk c).2.t := by
  have h1 := preW_t C T PT pv sl c.l ks (c.t + 1)
  have h2 := casesW_mono (C := C) T PT pv ((preW C T PT pv sl c.l ks (c.t + 1)).2 + 10 + 6) ks ⟨c.l + 3, (preW C T PT pv sl c.l ks (c.t + 1)).2 + 10 + 7, c.k + 3⟩ 0
  simp only [secWI]
  simp only at h2
  omega
variable {ok : TagL → Prop}
theorem w_sec (ht : TyC P C) (hfx : C.fx = true) (hu : isAgg16 (kindOf P C.E.tUu) = true → TyUuE P C.E) (hB : sliSz P C.E.tBs = some 1) (uB : P.underlying C.E.tBs = some (.slice C.E.tU8)) (kU : kindOf P C.E.tU32 = .scl) (hT : TagsC P C.E ok)
    {T PT pv sl tk to : Nat} {ks : List KF} (hS : SliI P sl C.E.tU32 1 4 (.int .u32 0)) (hty : (ks.all (·.tyW P C T)) = true) (hN : KsNeedW P C ok ks) (hnd : (ks.map (·.num)).Nodup) (hlen : ks.length ≤ 1000) (hF : fldOff P T tk = some to) {c : Ct} {Q : Post} {f : Nat → Value} {w : World} {b a base : Nat} {cs : List Value} {x : KsT ks} {u : TagL} {uv : Value} {ver : Int} {fl : Bool} {s : List UInt8}
    (hf : FrW C f pv b a ver fl c.l) (hc : (secWI C T PT pv sl ks tk c).2.l ≤ c.t) (hb : b < base) (hcs : CellsAt w b a cs) (hr : KsRep w (· < base) cs ks x) (hok : KsOk ok ks x) (huv : cs[to]? = some uv) (hl : TagsAt w (· < base) uv u) (hok2 : ok u) (hd : Dst C f w base s)
    (hsz : s.length + (secW ver fl ks x u).length ≤ 1099511627776) (h : ∀ f' w', Wrote C f w base s (secW ver fl ks x u) c.l (secWI C T PT pv sl ks tk c).2.l c.t f' w' → Q .normal f' w') : (secWI C T PT pv sl ks tk c).1.wp P Q f w := by
  have h1c := hf.one
  have hpt := hf.ptrN
  have hsf := hf.sfN hfx
  have hmono := secWI_mono (C := C) T PT pv sl ks tk c
  have hU := hT.uv
  simp only [secWI] at hc h hmono ⊢
  generalize htp : (preW C T PT pv sl c.l ks (c.t + 1)).2 = tp at hc h hmono ⊢
  have htp1 : c.t + 1 ≤ tp := by rw [← htp]; exact preW_t C T PT pv sl c.l ks (c.t + 1)
  have hcm := casesW_mono (C := C) T PT pv (tp + 10 + 6) ks ⟨c.l + 3, tp + 10 + 7, c.k + 3⟩ 0
  have hcw : ∀ {num : Nat} {out : List UInt8} {Q : Post} {f : Nat → Value} {w : World} {s : List UInt8}, _ := fun {num out Q f w s} => w_casesW (ok := ok) (P := P) (C := C) (T := T) (PT := PT) (pv := pv) (key := tp + 10 + 6) (n := c.l) (mm := (casesW C T PT pv (tp + 10 + 6) ks ⟨c.l + 3, tp + 10 + 7, c.k + 3⟩ 0).2.l) (tm := tp + 10 + 4) (Q := Q) (b := b) (a := a) (base := base) (cs := cs) (ver := ver) (s := s) (num := num) (out := out) ht hfx hB uB hU (by omega) hb (x := x) (ks := ks) (c := ⟨c.l + 3, tp + 10 + 7, c.k + 3⟩) (lab := 0) (f := f) (w := w)
  generalize hcs1 : casesW C T PT pv (tp + 10 + 6) ks ⟨c.l + 3, tp + 10 + 7, c.k + 3⟩ 0 = z at hc h hmono hcm hcw ⊢
  obtain ⟨cw, c1⟩ := z
  simp only at hc h hmono hcm hcw ⊢
  refine w_flex (hf.flg.1 hfx).1 (by omega) (by omega) ?_ ?_
  · rintro rfl f1 hk1 h11
    simp only [secW, if_true, List.length_append] at hsz h
    simp only [List.cons_append, List.nil_append]
    refine seqL_cons (wp_reg ?_)
    simp
    generalize hf2 : upd f1 c.l (.slice none 0 0) = f2
    have k2 : ∀ z, z < c.t → z ≠ 1 → z ≠ c.l → f2 z = f z := by
      intro z hz hz1 hzl
      subst hf2
      rw [upd_apply, if_neg hzl]
      exact hk1 z hz hz1
    have k21 : f2 1 = f 1 := by subst hf2; rw [upd_apply, if_neg (by omega)]; exact h11
    show (seqL (_ ++ _)).wp P _ f2 w
    refine seqL_append ?_
    refine w_pre ht hu hS (w0 := w) (f0 := f2) (tm := c.t) (K := (· < base)) (by omega) (by omega) (by omega) hcs (fun _ _ _ => trivial) ((k2 pv (by omega) (by omega) (by omega)).trans hf.ptr) ks x [] (c.t + 1) f2 w hty hr (by simpa using hlen) (by omega) ⟨Ext.refl _ _, by subst hf2; simpa using Own.nil w w.heap.size C.E.tU32 1, fun _ _ _ => rfl⟩ ?_
    intro f3 w3 h3
    simp only [List.nil_append] at h3
    have he3 := h3.ext
    have f3k : ∀ z, z < c.t → z ≠ 1 → z ≠ c.l → f3 z = f z := fun z hz hz1 hzl => (h3.keep z hz hzl).trans (k2 z hz hz1 hzl)
    have f31 : f3 1 = f 1 := (h3.keep 1 (by omega) (by omega)).trans k21
    have hd3 : Dst C f3 w3 base s := by unfold Dst at hd ⊢; rw [f31]; exact ⟨Own.ext hd.1 he3 (fun _ _ h => h), Nat.le_trans hd.2 he3.size⟩
    have hcs3 : CellsAt w3 b a cs := CellsAt.ext (K := fun _ => True) (C := none1) he3 (fun _ _ _ h => h) hcs trivial
    have hr3 := KsRep_ext he3 (K := (· < base)) (fun _ _ _ h => h) ks hr
    have hl3 : TagsAt w3 (· < base) uv u := hl.ext he3 (fun _ _ _ h => h)
    have hca := hcs3 to uv huv
    obtain ⟨ad, cp, hve, hcp⟩ := Own.form h3.own
    have hnum : ((ksSet ks x).map fun n => (Value.int .u32 (n : Nat))).length = (ksSet ks x).length := by simp
    rw [hnum] at hve hcp
    have hsl := ksSet_len ks x
    have hksn : (ksSet ks x).length = ksN ks x := by rw [← ksOuts_set ver, List.length_map, ksOuts_len]
    have hul : u.length < 4294967296 := by
      rcases hl with ⟨_, rfl⟩ | ⟨_, _, _, _, _, _, _, _, h, _⟩
      · simp
      · exact h
    have q0 : ∀ z, z < c.t → ∀ k, (z = tp + k) = False := by intro z hz k; simp; omega
    have q0' : ∀ z, z < c.t → (z = tp) = False := by intro z hz; simp; omega
    have q03 : ∀ z, z < c.t → ∀ k, (z = tp + 3 + k) = False := by intro z hz k; simp; omega
    have w64 : IntKind.i64.wrap (((ksSet ks x).length : Int) + (u.length : Int)) = ((ksSet ks x).length : Int) + (u.length : Int) := i64_small (by omega) (by omega)
    have w32 : IntKind.u32.wrap (((ksSet ks x).length : Int) + (u.length : Int)) = (((ksN ks x + u.length) % 4294967296 : Nat) : Int) := by rw [hksn]; simp [IntKind.wrap, IntKind.signed, IntKind.bits]
    have q9 : ∀ k, (tp = tp + 3 + k) = False := by intro k; simp; omega
    refine seqL_cons (wp_reg ?_)
    have hpv3 : f3 pv = .pointer (some ⟨b, a, none⟩) := (f3k pv (by omega) (by omega) (by omega)).trans hf.ptr
    simp [addrR, hpv3, hve, hF, Addr.add_mk, len_slice hS.und, q0 pv (by omega), q0' pv (by omega), q0 c.l (by omega), q0' c.l (by omega)]
    refine (hT.len w3 _ _ _ _ _ hca hl3).mono ?_
    rintro _ w3' ⟨rfl, rfl⟩
    simp [ht.iInt, ht.iU32, w64, bin?, q9, f31]
    rw [w32]
    refine (hU _ (Nat.mod_lt _ (by omega)) w3' base (f 1) s (by have := hd3.1; rwa [f31] at this) hd3.2 (by omega)).mono ?_
    rintro v4 w4 ⟨ho4, hg4⟩
    simp
    generalize hf4 : upd (upd _ (tp + 9) v4) 1 v4 = f4
    have f4k : ∀ z, z < c.t → z ≠ 1 → z ≠ c.l → f4 z = f z := by
      intro z hz hz1 hzl
      subst hf4
      simp [q0 z hz, q0' z hz, q03 z hz, hz1]
      exact f3k z hz hz1 hzl
    have f41 : f4 1 = v4 := by subst hf4; simp
    have f4L : f4 c.l = .slice ad (ksSet ks x).length cp := by
      subst hf4
      have : (c.l = 1) = False := by simp; omega
      simp [q0 c.l (by omega), q0' c.l (by omega), q03 c.l (by omega), this, hve]
    have hd4 : Dst C f4 w4 base (s ++ uvOut ((ksN ks x + u.length) % 4294967296)) := ⟨by rw [f41]; exact ho4, Nat.le_trans hd3.2 hg4.size⟩
    have hg04 : Grew w (f 1) w4 (f4 1) := by rw [f41]; exact Grew.pre he3 hg4
    -- what the loop reads
    have hrow : ksSet ks x ≠ [] → ∃ g, ad = some ⟨g, 0, none⟩ ∧ ¬ own1 (f4 1) g ∧ ∀ i n, (ksSet ks x)[i]? = some n → w4.cell? ⟨g, i, none⟩ = some (.int .u32 (n : Nat)) := by
      intro hne
      obtain ⟨g, c', hve', hg, hglt, hcell⟩ := Own.cells1 h3.own (by simpa using hne)
      rw [hve, hnum] at hve'
      cases hve'
      have hno : ¬ own1 (f 1) g := fun ho => by have := (Own.below hd.1 ho).2; omega
      refine ⟨g, rfl, ?_, ?_⟩
      · rw [f41]
        intro ho
        rcases hg4.own g ho with h' | h'
        · exact hno h'
        · omega
      · intro i n hi
        exact hg4.ext.cell (hcell i _ (by simp [hi])) hno
    have hfr4 : FrW C f4 pv b a ver true c.l := hf.keep (fun z hz hz1 => f4k z (by omega) hz1 (by omega)) (Nat.le_refl _)
    refine seqL_cons ?_
    refine w_rangeT hS.siz (by omega) (by omega) (by omega) (by omega) f4L (fun i f' w' => Wrote C f4 w4 base (s ++ uvOut ((ksN ks x + u.length) % 4294967296)) (((ksOuts ver ks x).take i).flatMap fun y => kTag y.1 y.2) c.l c1.l c.t f' w') ?_ ?_ ?_ ?_
    · rintro i g g' w' hx hw
      refine ⟨?_, ?_, ?_⟩
      · have := hw.dst; unfold Dst at this ⊢; rwa [hx 1 (by omega)]
      · have := hw.grew; rwa [hx 1 (by omega)]
      · intro z hz1 hz; rw [hx z (by omega)]; exact hw.keep z hz1 hz
    · simpa using Wrote.refl hd4 c.l c1.l c.t
    · rintro i hi f5 w5 hw5 ht5 hi5 hn5
      have hlen2 : (ksOuts ver ks x).length = (ksSet ks x).length := by rw [ksOuts_len, hksn]
      obtain ⟨⟨num, out⟩, hy⟩ : ∃ y, (ksOuts ver ks x)[i]? = some y := ⟨_, List.getElem?_eq_getElem (by omega)⟩
      have hny : (ksSet ks x)[i]? = some num := by rw [← ksOuts_set ver, List.getElem?_map, hy]; rfl
      have hne : ksSet ks x ≠ [] := by intro h; rw [h] at hny; simp at hny
      obtain ⟨g, rfl, hng, hcell⟩ := hrow hne
      have c5 : w5.cell? ⟨g, i, none⟩ = some (.int .u32 (num : Nat)) := hw5.grew.ext.cell (hcell i num hny) hng
      have hfm := flatMap_take (fun y : Nat × List UInt8 => kTag y.1 y.2) (ksOuts ver ks x) i (num, out) hy
      have hle := flatMap_take_le (fun y : Nat × List UInt8 => kTag y.1 y.2) (ksOuts ver ks x) (i + 1)
      rw [hfm, ← ksOuts_wr] at hle
      simp only [List.length_append] at hle
      have e5 : ∀ k, k < 4 → ∀ j, 4 ≤ j → (tp + 10 + k = tp + 10 + j) = False := by intro k hk j hj; simp; omega
      refine seqL_cons (wp_reg ?_)
      simp [ht5, hi5, idx?, hS.siz, hi, Addr.add_mk, ld_scl kU, c5]
      refine seqL_cons (wp_reg ?_)
      simp
      show Ir.wp P (Ir.block (c.k + 2) cw) _ _ w5
      generalize hf6 : upd (upd (upd (upd f5 (tp + 10 + 4) _) (tp + 10 + 5) _) (c.l + 2) _) (tp + 10 + 6) _ = f6
      have k6 : ∀ z, z < tp + 10 + 4 → z ≠ c.l + 2 → f6 z = f5 z := by
        intro z hz hz2
        subst hf6
        have a3 : ∀ n, 4 ≤ n → (z = tp + 10 + n) = False := by intro n hn; simp; omega
        simp [a3, hz2]
      have k6k : f6 (tp + 10 + 6) = .int .u32 (num : Nat) := by subst hf6; simp
      have hfr6 : FrW C f6 pv b a ver true c.l := hfr4.keep (fun z hz hz1 => (k6 z (by omega) (by omega)).trans (hw5.keep z hz1 (.inl hz))) (Nat.le_refl _)
      have hd6 : Dst C f6 w5 base (s ++ uvOut ((ksN ks x + u.length) % 4294967296) ++ ((ksOuts ver ks x).take i).flatMap fun y => kTag y.1 y.2) := by
        have := hw5.dst
        unfold Dst at this ⊢
        rwa [k6 1 (by omega) (by omega)]
      have hK4 : ∀ b, b < w3'.heap.size → b < base → ¬ own1 (f 1) b := fun b _ hb ho => by have := (Own.below hd.1 ho).1; omega
      have hK5 : ∀ b, b < w4.heap.size → b < base → ¬ own1 (f4 1) b := fun b _ hb ho => by have := (Own.below hd4.1 ho).1; omega
      have hcs5 : CellsAt w5 b a cs := CellsAt.ext (K := (· < base)) hw5.grew.ext hK5 (CellsAt.ext (K := (· < base)) hg4.ext hK4 hcs3 hb) hb
      have hr5 := KsRep_ext hw5.grew.ext (K := (· < base)) hK5 ks (KsRep_ext hg4.ext (K := (· < base)) hK4 ks hr3)
      refine hcw (num := num) (out := out) (s := s ++ uvOut ((ksN ks x + u.length) % 4294967296) ++ ((ksOuts ver ks x).take i).flatMap fun y => kTag y.1 y.2) (by simp only [List.length_append]; omega) hty hN hnd hr5 hok (List.mem_of_getElem? hy) k6k hfr6 (by omega) (Nat.le_refl _) (by omega) (by omega) hcs5 hd6 ?_
      intro f7 w7 hw7
      show Exit.normal = Exit.normal ∧ _
      have hw57 : Wrote C f5 w5 base (s ++ uvOut ((ksN ks x + u.length) % 4294967296) ++ ((ksOuts ver ks x).take i).flatMap fun y => kTag y.1 y.2) (kTag num out) c.l c1.l c.t f7 w7 := by
        refine ⟨hw7.dst, ?_, ?_⟩
        · have := hw7.grew
          rwa [k6 1 (by omega) (by omega)] at this
        · intro z hz1 hz
          rw [hw7.keep z hz1 (by omega), k6 z (by omega) (by omega)]
      have hw47 := hw5.trans hw57 (Nat.le_refl _) (Nat.le_refl _) (Nat.le_refl _)
      refine ⟨rfl, by rw [hfm]; exact hw47, ?_, ?_, ?_⟩
      · rw [hw7.keep (tp + 10) (by omega) (by omega), k6 (tp + 10) (by omega) (by omega)]; exact ht5
      · rw [hw7.keep (tp + 10 + 2) (by omega) (by omega), k6 (tp + 10 + 2) (by omega) (by omega)]; exact hi5
      · rw [hw7.keep (tp + 10 + 1) (by omega) (by omega), k6 (tp + 10 + 1) (by omega) (by omega)]; exact hn5
    · intro f8 w8 hw8
      have hall : (ksOuts ver ks x).take (ksSet ks x).length = ksOuts ver ks x := by rw [hksn, ← ksOuts_len ver, List.take_length]
      rw [hall, ← ksOuts_wr] at hw8
      have hpv8 : f8 pv = .pointer (some ⟨b, a, none⟩) := ((hw8.keep pv (by omega) (.inl (by omega))).trans (f4k pv (by omega) (by omega) (by omega))).trans hf.ptr
      have hK4 : ∀ b, b < w3'.heap.size → b < base → ¬ own1 (f 1) b := fun b _ hb ho => by have := (Own.below hd.1 ho).1; omega
      have hK5 : ∀ b, b < w4.heap.size → b < base → ¬ own1 (f4 1) b := fun b _ hb ho => by have := (Own.below hd4.1 ho).1; omega
      have hcs8 : CellsAt w8 b a cs := CellsAt.ext (K := (· < base)) hw8.grew.ext hK5 (CellsAt.ext (K := (· < base)) hg4.ext hK4 hcs3 hb) hb
      have hl8 : TagsAt w8 (· < base) uv u := (hl3.ext hg4.ext (K := (· < base)) hK4).ext hw8.grew.ext (K := (· < base)) hK5
      have q8 : ∀ k, (pv = c1.t + 1 + k) = False := by intro k; simp; omega
      have q8' : (pv = c1.t + 1) = False := by simp; omega
      have o8 : ∀ k, (1 = c1.t + 1 + k) = False := by intro k; simp; omega
      have o8' : (1 = c1.t + 1) = False := by simp; omega
      have o9 : (c1.t = 0) = False := by simp; omega
      show (Ir.reg _).wp P Q f8 w8
      refine wp_reg ?_
      simp [addrR, hpv8, hF, Addr.add_mk, q8, q8', o8, o8', o9]
      refine (hT.each w8 base (f8 1) _ b (a + to) uv u hok2 hb (hcs8 to uv huv) hl8 hw8.dst.1 hw8.dst.2 (by simp only [List.length_append]; omega)).mono ?_
      rintro v9 w9 ⟨ho9, hg9⟩
      try simp
      refine h _ w9 ⟨⟨?_, ?_⟩, ?_, ?_⟩
      · simp
        simp only [List.append_assoc] at ho9 ⊢
        exact ho9
      · exact Nat.le_trans hw8.dst.2 hg9.size
      · simp
        exact (hg04.trans hw8.grew).trans hg9
      · intro z hz1 hz
        have z8 : ∀ k, (z = c1.t + 1 + k) = False := by intro k; simp; omega
        have z8' : (z = c1.t + 1) = False := by simp; omega
        simp [z8, z8', hz1]
        rw [hw8.keep z hz1 hz]
        exact f4k z (by omega) hz1 (by omega)
  · rintro rfl f1 hk1 h11
    show Q .normal f1 w
    refine h f1 w ?_
    simp only [secW, Bool.false_eq_true, if_false]
    exact ⟨by rw [List.append_nil]; unfold Dst at hd ⊢; rwa [h11], by rw [h11]; exact Grew.refl _ _, KeepR.of hk1 (by omega)⟩
/-- what AppendTo of a message with known tags asks -/
structure KmOk (P : Program) (C : Cfg) (ok : TagL → Prop) (T PT sl : Nat) (Sw : Sch) (ks : List KF) (tk to nl : Nat) : Prop where
  ty : TyC P C
  fx : C.fx = true
  cfg : C.sv = 5 ∧ C.sf = 6
  uu : isAgg16 (kindOf P C.E.tUu) = true → TyUuE P C.E
  bs : sliSz P C.E.tBs = some 1
  uB : P.underlying C.E.tBs = some (.slice C.E.tU8)
  kU : kindOf P C.E.tU32 = .scl
  sS : SliI P sl C.E.tU32 1 4 (.int .u32 0)
  tyW : Sw.tyW P C T = true
  tyK : (ks.all (·.tyW P C T)) = true
  f0 : fldOff P T 0 = some 0
  ft : fldOff P T tk = some to
  need : Sw.NeedW P C ok
  needK : KsNeedW P C ok ks
  tags : TagsC P C.E ok
  nd : (ks.map (·.num)).Nodup
  len : ks.length ≤ 1000
  nl : (secWI C T PT 0 sl ks tk (Sw.genW C T PT 0 (ct0 C nl)).2).2.l ≤ nl
theorem appendToK {T PT sl tk to flex nl nt g : Nat} {Sw : Sch} {ks : List KF} (hm : KmOk P C ok T PT sl Sw ks tk to nl) (hnt : 2 ≤ nt) (hI : FnIs P g nt [.t 4] (msgWk C T PT sl flex Sw ks tk nl)) {w : World} {b a base : Nat} {cs : List Value} {x : Sw.T} {y : KsT ks} {u : TagL} {uv : Value} {ver : Int} {v : Value} {s : List UInt8}
    (hcs : CellsAt w b a cs) (hver : cs[0]? = some (.int .i16 ver)) (hrep : Sw.Rep w (· < base) cs x) (hrk : KsRep w (· < base) cs ks y) (huv : cs[to]? = some uv) (hl : TagsAt w (· < base) uv u) (hok : Sw.TagsOk ok x) (hokk : KsOk ok ks y) (hoku : ok u) (hb : b < base) (ho : OwnB C.E.tU8 w base v s) (hbase : base ≤ w.heap.size)
    (hsz : s.length + (Sw.wr ver (flagAt C flex ver) x ++ secW ver (flagAt C flex ver) ks y u).length ≤ 1099511627776) :
    Ret P g #[.pointer (some ⟨b, a, none⟩), v] w fun v' w' => OwnB C.E.tU8 w' base v' (s ++ (Sw.wr ver (flagAt C flex ver) x ++ secW ver (flagAt C flex ver) ks y u)) ∧ Grew w v w' v' := by
  obtain ⟨ht, hfx, ⟨hc5, hc6⟩, huu, hbs, hub, hku, hsS, hty, htyk, h0, hft, hN, hNk, hT, hnd, hlen, hnl⟩ := hm
  have hl7 := (genW_mono (C := C) Sw T PT 0 (ct0 C nl))
  have hls := secWI_mono (C := C) T PT 0 sl ks tk (Sw.genW C T PT 0 (ct0 C nl)).2
  have q7 : (ct0 C nl).l = 7 := by simp [ct0, hfx]
  have qt : (ct0 C nl).t = nl + 8 := by simp [ct0, hfx]
  have hnl6 : 7 ≤ nl := by omega
  refine hI.ret (args := [_, _]) hnt ?_
  have cv := hcs 0 _ hver
  simp only [Nat.add_zero] at cv
  have n1 : ∀ k, (1 = nl + k) = False := by intro k; simp; omega
  have n0 : ∀ k, (0 = nl + k) = False := by intro k; simp; omega
  have n5 : ∀ k, (5 = nl + k) = False := by intro k; simp; omega
  have n1' : (1 = nl) = False := by simp; omega
  have n0' : (0 = nl) = False := by simp; omega
  have n5' : (5 = nl) = False := by simp; omega
  have nz : (nl = 0) = False := by simp; omega
  simp only [List.length_append] at hsz
  -- behind the head
  have behind : ∀ (f : Nat → Value), f 0 = .pointer (some ⟨b, a, none⟩) → f 1 = v → f 5 = .int .i16 ver → f 6 = .bool (flagAt C flex ver) →
      (seqL ((Sw.genW C T PT 0 (ct0 C nl)).1 ++ [(secWI C T PT 0 sl ks tk (Sw.genW C T PT 0 (ct0 C nl)).2).1, .reg [⟨none, some (secWI C T PT 0 sl ks tk (Sw.genW C T PT 0 (ct0 C nl)).2).2.t, .move (.tmp 1), C.E.tBs⟩,
        ⟨none, some 4, .assign (.tmp (secWI C T PT 0 sl ks tk (Sw.genW C T PT 0 (ct0 C nl)).2).2.t), C.E.tBs⟩], .ret])).wp P
        (retPost P [.t 4] fun v' w' => OwnB C.E.tU8 w' base v' (s ++ (Sw.wr ver (flagAt C flex ver) x ++ secW ver (flagAt C flex ver) ks y u)) ∧ Grew w v w' v') f w := by
    intro f f0 f1 f5 f6
    have hfr : FrW C f 0 b a ver (flagAt C flex ver) (ct0 C nl).l := ⟨f0, ⟨by omega, by omega⟩, by rw [hc5]; exact f5, ⟨by omega, by omega⟩, ⟨fun hx => ⟨by rw [hc6]; exact f6, by omega⟩, fun hx => by rw [hfx] at hx; cases hx⟩, fun hx => by omega, by omega⟩
    have hd : Dst C f w base s := ⟨by rw [f1]; exact ho, hbase⟩
    refine seqL_append ?_
    refine soundW ht Sw T PT 0 (ct0 C nl) _ f w b a cs x ver (flagAt C flex ver) base s hty hN hfr (by omega) hb hcs hrep hok hd (by omega) ?_
    intro f' w' hw
    have hK : ∀ b, b < w.heap.size → b < base → ¬ own1 (f 1) b := fun b _ hb ho => by have := (Own.below hd.1 ho).1; omega
    refine seqL_cons ?_
    refine w_sec ht hfx huu hbs hub hku hT hsS htyk hNk hnd hlen hft ((hfr.keep hw.keep.keeps (Nat.le_refl _)).up hl7.1) (by omega) hb (CellsAt.ext (K := (· < base)) hw.grew.ext hK hcs hb) (KsRep_ext hw.grew.ext (K := (· < base)) hK ks hrk) hokk huv (hl.ext hw.grew.ext (K := (· < base)) hK) hoku hw.dst (by simp only [List.length_append]; omega) ?_
    intro f'' w'' hw2
    have hd2 := hw2.dst.1
    have hg2 := hw.grew.trans hw2.grew
    rw [f1] at hg2
    refine seqL_cons (wp_reg ?_)
    simp
    show retPost P _ _ .ret _ _
    simp
    exact ⟨by rw [← List.append_assoc]; exact hd2, hg2⟩
  have key : (seqL ([.reg [⟨none, some 4, .assign (.const (.slice none 0 0)), C.E.tBs⟩],
    .reg (addrR C T PT 0 0 nl ++ [⟨none, some (nl + 3), .load C.E.tI16 (.tmp (nl + 2)), C.E.tI16⟩, ⟨none, some 5, .assign (.tmp (nl + 3)), C.E.tI16⟩]),
    .reg [⟨none, some (nl + 4), .move (.tmp 5), C.E.tI16⟩]] ++ ([Ir.reg [⟨none, some (nl + 5), .move (.tmp 5), C.E.tI16⟩, ⟨none, some (nl + 6), .binOp .geq C.E.tI16 (.tmp (nl + 5)) (.const (.int .i16 flex)) C.E.tI16, C.E.tB⟩, ⟨none, some 6, .assign (.tmp (nl + 6)), C.E.tB⟩],
      .reg [⟨none, some (nl + 7), .move (.tmp 6), C.E.tB⟩]] ++ ((Sw.genW C T PT 0 (ct0 C nl)).1 ++ [(secWI C T PT 0 sl ks tk (Sw.genW C T PT 0 (ct0 C nl)).2).1, .reg [⟨none, some (secWI C T PT 0 sl ks tk (Sw.genW C T PT 0 (ct0 C nl)).2).2.t, .move (.tmp 1), C.E.tBs⟩,
        ⟨none, some 4, .assign (.tmp (secWI C T PT 0 sl ks tk (Sw.genW C T PT 0 (ct0 C nl)).2).2.t), C.E.tBs⟩], .ret])))).wp P
        (retPost P [.t 4] fun v' w' => OwnB C.E.tU8 w' base v' (s ++ (Sw.wr ver (flagAt C flex ver) x ++ secW ver (flagAt C flex ver) ks y u)) ∧ Grew w v w' v') (frame0 [.pointer (some ⟨b, a, none⟩), v]) w := by
    simp only [List.cons_append, List.nil_append]
    refine seqL_cons (wp_reg ?_)
    simp
    refine seqL_cons (wp_reg ?_)
    simp [addrR, h0, Addr.add_mk, ld_scl ht.kI16, cv, n0, n0']
    refine seqL_cons (wp_reg ?_)
    simp
    refine seqL_cons (wp_reg ?_)
    simp [n5, n5']
    refine seqL_cons (wp_reg ?_)
    simp
    refine behind _ ?_ ?_ ?_ ?_
    · simp [n0, n0']
    · simp [n1, n1', nz]
    · simp [n5, n5']
    · simp [flagAt, hfx]
  have e : msgWk C T PT sl flex Sw ks tk nl = seqL ([.reg [⟨none, some 4, .assign (.const (.slice none 0 0)), C.E.tBs⟩],
    .reg (addrR C T PT 0 0 nl ++ [⟨none, some (nl + 3), .load C.E.tI16 (.tmp (nl + 2)), C.E.tI16⟩, ⟨none, some 5, .assign (.tmp (nl + 3)), C.E.tI16⟩]),
    .reg [⟨none, some (nl + 4), .move (.tmp 5), C.E.tI16⟩]] ++ ([Ir.reg [⟨none, some (nl + 5), .move (.tmp 5), C.E.tI16⟩, ⟨none, some (nl + 6), .binOp .geq C.E.tI16 (.tmp (nl + 5)) (.const (.int .i16 flex)) C.E.tI16, C.E.tB⟩, ⟨none, some 6, .assign (.tmp (nl + 6)), C.E.tB⟩],
      .reg [⟨none, some (nl + 7), .move (.tmp 6), C.E.tB⟩]] ++ ((Sw.genW C T PT 0 (ct0 C nl)).1 ++ [(secWI C T PT 0 sl ks tk (Sw.genW C T PT 0 (ct0 C nl)).2).1, .reg [⟨none, some (secWI C T PT 0 sl ks tk (Sw.genW C T PT 0 (ct0 C nl)).2).2.t, .move (.tmp 1), C.E.tBs⟩,
        ⟨none, some 4, .assign (.tmp (secWI C T PT 0 sl ks tk (Sw.genW C T PT 0 (ct0 C nl)).2).2.t), C.E.tBs⟩], .ret]))) := by
    simp only [msgWk, List.append_assoc]
  rw [e]
  exact key
end
end Go.Kg

set_option linter.unusedSimpArgs false
set_option linter.unusedVariables false
namespace Go.Kg
open Go
structure TyTg (P : Program) (E : Env) : Prop extends TyWs P E where
  g0 : fldOff P E.t_kmsg_Tags 0 = some 0
  kM : kindOf P E.t_map_uint32_l_uint8 = .scl
  uM : P.underlying E.t_map_uint32_l_uint8 = some (.map E.tU32 E.tBs)
  kBs : kindOf P E.tBs = .scl
section
variable {P : Program} {E : Env} (ht : TyTg P E)
include ht
theorem isM : isMapT P E.t_map_uint32_l_uint8 = true := by simp [isMapT, ht.uM]
theorem c_TLen (hI : FnIs P E.f_pkmsg_Tags_Len nt_pkmsg_Tags_Len (rs_pkmsg_Tags_Len E) (ir_pkmsg_Tags_Len E)) (w : World) (K : Nat → Prop) (b o : Nat) (v : Value) (l : TagL) (hc : w.cell? ⟨b, o, none⟩ = some v) (hl : TagsAt w K v l) :
    Ret P E.f_pkmsg_Tags_Len #[.pointer (some ⟨b, o, none⟩)] w fun u w' => u = .int .i64 l.length ∧ w' = w := by
  refine hI.call (args := [_]) (by simp [nt_pkmsg_Tags_Len]) ?_
  simp [ir_pkmsg_Tags_Len, rs_pkmsg_Tags_Len, ht.g0, Addr.add_mk, ld_scl ht.kM, hc]
  rcases hl with ⟨rfl, rfl⟩ | ⟨bb, es, clock, rfl, _, hb, hs, _⟩
  · simp [isM ht, mapLen?]
  · simp [isM ht, mapLen?, hb, hs]
/-- No tags: Each does nothing. -/
theorem c_Each0 (hI : FnIs P E.f_pkmsg_Tags_Each nt_pkmsg_Tags_Each (rs_pkmsg_Tags_Each E) (ir_pkmsg_Tags_Each E)) (w : World) (b o : Nat) (v fn : Value) (K : Nat → Prop) (hc : w.cell? ⟨b, o, none⟩ = some v) (hl : TagsAt w K v []) :
    Ret P E.f_pkmsg_Tags_Each #[.pointer (some ⟨b, o, none⟩), fn] w fun u w' => w' = w := by
  refine hI.call (args := [_, _]) (by simp [nt_pkmsg_Tags_Each]) ?_
  have hlen : mapLen? w (match v with | .map m => m | _ => none) = some (.int .i64 0) ∧ ∃ m, v = .map m := by
    rcases hl with ⟨rfl, _⟩ | ⟨bb, es, clock, rfl, _, hb, hs, _⟩
    · exact ⟨rfl, _, rfl⟩
    · refine ⟨?_, _, rfl⟩
      simp only [mapLen?, hb]
      simp at hs
      simp [hs]
  obtain ⟨h1, m, rfl⟩ := hlen
  simp only at h1
  simp [ir_pkmsg_Tags_Each, rs_pkmsg_Tags_Each, ht.g0, Addr.add_mk, ld_scl ht.kM, hc, isM ht, h1]
  refine cw_true (by simp) ?_
  simp
end
end Go.Kg

set_option linter.unusedSimpArgs false
set_option linter.unusedVariables false
set_option linter.unusedSectionVars false
namespace Go.Kg
open Go
/-- the cells of a struct within a block -/
def segL (c : Array Value) (a n : Nat) : List Value := (c.toList.drop a).take n
theorem segL_get {c : Array Value} {a n j : Nat} (h : j < n) : (segL c a n)[j]? = c[a + j]? := by simp [segL, List.getElem?_take, h, List.getElem?_drop]
theorem segL_none {c : Array Value} {a n j : Nat} (h : n ≤ j) : (segL c a n)[j]? = none := by simp [segL, List.getElem?_take]; omega
structure Rdr where
  pb : Nat
  D : Nat
  base : Nat
  ev : Value
def RK (R : Rdr) (k : Nat) : Prop := k = R.D ∨ R.base ≤ k
def CB (R : Rdr) (b k : Nat) : Prop := k = R.pb ∨ k = b
structure RW (C : CfgR) (R : Rdr) (b : Nat) (w : World) : Prop where
  lt : R.pb < R.base ∧ b < R.base ∧ R.D < R.base ∧ R.base ≤ w.heap.size
  ne : R.pb ≠ R.D ∧ b ≠ R.D ∧ R.pb ≠ b
  err : w.cell? ⟨C.E.g_kbin_ErrNotEnoughData, 0, none⟩ = some R.ev
  errN : C.E.g_kbin_ErrNotEnoughData ≠ R.pb ∧ C.E.g_kbin_ErrNotEnoughData ≠ b
section
variable {P : Program} {C : CfgR} {R : Rdr}
theorem RW.ext {b : Nat} {w w' : World} (h : RW C R b w) (he : Ext (CB R b) w w') : RW C R b w' :=
  ⟨⟨h.lt.1, h.lt.2.1, h.lt.2.2.1, Nat.le_trans h.lt.2.2.2 he.size⟩, h.ne, he.cell h.err (by rintro (h1 | h1); exact h.errN.1 h1; exact h.errN.2 h1), h.errN⟩
theorem RW.keepK {b : Nat} {w : World} (h : RW C R b w) : ∀ k, k < w.heap.size → RK R k → ¬ CB R b k := by
  obtain ⟨⟨h1, h2, h3, h4⟩, ⟨h5, h6, h7⟩, _, _⟩ := h
  rintro k _ (hk | hk) (hc | hc) <;> omega
structure FrR (C : CfgR) (R : Rdr) (f : Nat → Value) (pv b a : Nat) (ver : Int) (fl : Bool) (n : Nat) : Prop where
  ptr : f pv = .pointer (some ⟨b, a, none⟩)
  ptrN : 8 < pv ∧ pv < n
  v0 : C.fx = true → 0 ≤ ver
  ver : f 8 = .int .i16 ver
  flg : C.fx = true → f 9 = .bool fl
  flN : C.fx = false → fl = false
  rd : f C.rs = .pointer (some ⟨R.pb, 0, none⟩)
  us : f 2 = .bool false
  nN : 10 ≤ n
  rsN : 7 ≤ C.rs ∧ C.rs < n
theorem FrR.keep {f f' : Nat → Value} {pv b a n : Nat} {ver : Int} {fl : Bool} (h : FrR C R f pv b a ver fl n) {t : Nat} (hk : Keeps f f' t) (ht : n ≤ t) : FrR C R f' pv b a ver fl n := by
  have h1 := h.ptrN
  have h2 := h.nN
  have h3 := h.rsN
  exact ⟨(hk _ (by omega) (by omega)).trans h.ptr, h1, h.v0, (hk _ (by omega) (by omega)).trans h.ver, fun hx => (hk _ (by omega) (by omega)).trans (h.flg hx), h.flN, (hk _ (by omega) (by omega)).trans h.rd, (hk _ (by omega) (by omega)).trans h.us, h2, h3⟩
theorem FrR.up {f : Nat → Value} {pv b a n m : Nat} {ver : Int} {fl : Bool} (h : FrR C R f pv b a ver fl n) (hm : n ≤ m) : FrR C R f pv b a ver fl m :=
  ⟨h.ptr, ⟨h.ptrN.1, by have := h.ptrN; omega⟩, h.v0, h.ver, h.flg, h.flN, h.rd, h.us, by have := h.nN; omega, ⟨h.rsN.1, by have := h.rsN; omega⟩⟩
structure StR (C : CfgR) (R : Rdr) (b a n : Nat) (w : World) (cc : Array Value) (e : TypeId) (rs : RS) : Prop where
  blk : w.heap[b]? = some (.cells cc e (0, 0))
  fit : a + n ≤ cc.size
  rd : RdAt C.E.tRd w R.pb R.D rs
  rw_ : RW C R b w
/-- only the reader's block has turned (and new ones) -/
theorem StR.ext1 {b a n : Nat} {w w' : World} {cc : Array Value} {e : TypeId} {rs rs' : RS} (h : StR C R b a n w cc e rs) (he : Ext (· = R.pb) w w') (hr : RdAt C.E.tRd w' R.pb R.D rs') : StR C R b a n w' cc e rs' :=
  ⟨he.old h.blk (fun h' => h.rw_.ne.2.2 h'.symm), h.fit, hr, h.rw_.ext (he.mono (fun _ _ h => .inl h))⟩
structure RdTo (C : CfgR) (R : Rdr) (b a n lo : Nat) (w : World) (cc : Array Value) (e : TypeId) (f : Nat → Value) (l m t : Nat) (rs' : RS) (f' : Nat → Value) (w' : World) (cc' : Array Value) : Prop where
  ext : Ext (CB R b) w w'
  st : StR C R b a n w' cc' e rs'
  size : cc'.size = cc.size
  same : ∀ j, (j < a + lo ∨ a + n ≤ j) → cc'[j]? = cc[j]?
  keep : KeepR f f' l m t
theorem RdTo.trans {b a n lo lo' : Nat} {w w1 w2 : World} {cc c1 c2 : Array Value} {e : TypeId} {f f1 f2 : Nat → Value} {l m t l' m' t' : Nat} {r1 r2 : RS} (x : RdTo C R b a n lo w cc e f l m t r1 f1 w1 c1) (y : RdTo C R b a n lo' w1 c1 e f1 l' m' t' r2 f2 w2 c2)
    (hlo : lo ≤ lo') (hl : l ≤ l') (hm : m ≤ m') (ht : t ≤ t') : RdTo C R b a n lo w cc e f l m' t r2 f2 w2 c2 :=
  ⟨x.ext.trans y.ext, y.st, y.size.trans x.size, fun j hj => (y.same j (by omega)).trans (x.same j hj), x.keep.trans y.keep hl hm ht⟩
/-- A field stands in a struct's cells. -/
def FldAt (w : World) (R : Rdr) (cs : List Value) (o : Nat) (p : Prim) (x : p.T) : Prop := ∃ v, seg cs o v.cells.toList ∧ p.rep1 w (RK R) v x
theorem rep1_sz {w : World} {K : Nat → Prop} {p : Prim} {u : Value} {x : p.T} (h : p.rep1 w K u x) : u.cells.size = p.sz := by
  have := rep1_one h
  by_cases hp : p = .uuid
  · subst hp
    simp only [if_true] at this
    obtain ⟨c, rfl, hc, _⟩ := this
    exact hc
  · simp only [if_neg hp] at this
    have h2 : p.sz = 1 := by cases p <;> first | rfl | exact absurd rfl hp
    rw [h2]
    cases u <;> simp_all [Value.oneCell', Value.cells]
theorem FldAt.move {w w' : World} {cs cs' : List Value} {o : Nat} {p : Prim} {x : p.T} (h : FldAt w R cs o p x) {Cx : Nat → Prop} (he : Ext Cx w w') (hK : ∀ k, k < w.heap.size → RK R k → ¬ Cx k) (hc : ∀ j, o ≤ j → j < o + p.sz → cs'[j]? = cs[j]?) : FldAt w' R cs' o p x := by
  obtain ⟨v, h1, h2⟩ := h
  refine ⟨v, fun j u hj => ?_, Prim.rep1_ext he hK h2⟩
  rw [hc (o + j) (by omega)]
  · exact h1 j u hj
  · have := (List.getElem?_eq_some_iff.1 hj).1
    have h3 := rep1_sz h2
    simp at this
    omega
def PrimR (P : Program) (C : CfgR) (p : Prim) : Prop := ∀ fl, (fl = true → C.fx = true) → ∀ w pb D rs, pb ≠ D → D < w.heap.size → RdAt C.E.tRd w pb D rs →
  Ret P (p.fR C.E fl) #[.pointer (some ⟨pb, 0, none⟩)] w fun v w' => p.rep1 w' (fun b => b = D ∨ w.heap.size ≤ b) v (p.rd fl rs).1 ∧ Ext (· = pb) w w' ∧ RdAt C.E.tRd w' pb D (p.rd fl rs).2
def LenRC (P : Program) (C : CfgR) : Prop := ∀ fl, (fl = true → C.fx = true) → ∀ w pb D rs, pb ≠ D → RdAt C.E.tRd w pb D rs →
  Ret P (if fl then C.E.f_pkbin_Reader_CompactArrayLen else C.E.f_pkbin_Reader_ArrayLen) #[.pointer (some ⟨pb, 0, none⟩)] w fun v w' => v = .int .i32 (lenRd fl rs).1 ∧ Ext (· = pb) w w' ∧ RdAt C.E.tRd w' pb D (lenRd fl rs).2
structure EndC (P : Program) (C : CfgR) : Prop where
  ok : ∀ w pb D rs, RdAt C.E.tRd w pb D rs → Ret P C.E.f_pkbin_Reader_Ok #[.pointer (some ⟨pb, 0, none⟩)] w fun v w' => v = .bool !rs.bad ∧ w' = w
  complete : ∀ w pb D rs ev, RdAt C.E.tRd w pb D rs → (rs.bad = true → w.cell? ⟨C.E.g_kbin_ErrNotEnoughData, 0, none⟩ = some ev) → Ret P C.E.f_pkbin_Reader_Complete #[.pointer (some ⟨pb, 0, none⟩)] w fun v w' => v = (if rs.bad then ev else .nilIface) ∧ w' = w
def TagsRC (P : Program) (C : CfgR) : Prop := ∀ w pb D rs, pb ≠ D → D < w.heap.size → RdAt C.E.tRd w pb D rs →
  Ret P C.E.f_kmsg_internalReadTags #[.pointer (some ⟨pb, 0, none⟩)] w fun v w' => (∃ u, v = .agg #[u] ∧ TagsAt w' (fun b => b = D ∨ w.heap.size ≤ b) u (rdTags rs).1) ∧ Ext (· = pb) w w' ∧ RdAt C.E.tRd w' pb D (rdTags rs).2
structure TyR (P : Program) (C : CfgR) : Prop where
  c : TyC P (Sch.genR.toR C)
  uu : isAgg16 (kindOf P C.E.tUu) = true → TyUu P C.E
  kTags : kindOf P C.E.t_kmsg_Tags = .agg 1
  i32 : intKind? P C.E.tI32 = some .i32
variable {Q : Post} {f : Nat → Value} {w : World}
theorem r_call (ht : TyR P C) {p : Prim} (hq : p = .uuid → isAgg16 (kindOf P C.E.tUu) = true) {g l t : Nat} {b a n : Nat} {cc : Array Value} {e : TypeId} {rs : RS} {x : p.T} {rs' : RS} (hs : StR C R b a n w cc e rs) (h7 : f C.rs = .pointer (some ⟨R.pb, 0, none⟩)) (hl : l < t) (hl7 : 9 < l)
    (hP : Ret P g #[.pointer (some ⟨R.pb, 0, none⟩)] w fun v w' => p.rep1 w' (fun b => b = R.D ∨ w.heap.size ≤ b) v x ∧ Ext (· = R.pb) w w' ∧ RdAt C.E.tRd w' R.pb R.D rs')
    (h : ∀ f' w' u, LocVal w' f' p l u → p.rep1 w' (RK R) u x → Ext (· = R.pb) w w' → RdAt C.E.tRd w' R.pb R.D rs' → (∀ y, y < t → y ≠ l → f' y = f y) → Q .normal f' w') : (callR C p g l t).wp P Q f w := by
  have e3 : (t = l) = False := by simp; omega
  have keep : ∀ a b, ∀ y, y < t → y ≠ l → upd (upd f t a) l b y = f y := by
    intro a b y hy hy2
    have x4 : (y = t) = False := by simp; omega
    simp [x4, hy2]
  have hK : ∀ k, k = R.D ∨ w.heap.size ≤ k → RK R k := by
    rintro k (h | h)
    · exact .inl h
    · exact .inr (Nat.le_trans hs.rw_.lt.2.2.2 h)
  refine wp_reg ?_
  by_cases hp : p = .uuid
  · subst hp
    have hz : zeroOf P C.E.tUu = some (.agg z16) := (ht.uu (hq rfl)).zUu
    simp [callR, putL, h7]
    refine hP.mono ?_
    rintro v w1 ⟨h1, h2, h3⟩
    have hone := rep1_one h1
    simp only [if_true] at hone
    obtain ⟨c, rfl, hc16, hone⟩ := hone
    simp [hz, Value.cells, e3, store_agg (ht.uu (hq rfl)).kUu, hc16, hone, putK_blk alloc_new, z16_size]
    have hE : Ext none1 w1 ((w1.alloc (.cells z16 C.E.tUu)).setBlk w1.heap.size (.cells (over z16 0 c.toList) C.E.tUu (0, 0))) := ((Ext.refl none1 w1).alloc _).setBlk (.inl (Nat.le_refl _)) _
    refine h _ _ (.agg c) ?_ ?_ (h2.trans (hE.mono (fun _ _ h => h.elim))) (h3.ext hE (fun h => h) (fun h => h)) (keep _ _)
    · simp only [LocVal, if_true]
      refine ⟨w1.heap.size, c, C.E.tUu, (0, 0), by simp, ?_, rfl, hc16⟩
      have hov : over z16 0 c.toList = c := by
        have hd : z16.toList.drop (0 + c.toList.length) = [] := List.drop_eq_nil_of_le (by simp [z16_size, hc16])
        simp only [over, hd]; simp
      rw [hov]
      exact setBlk_same alloc_new
    · exact Prim.rep1_ext hE (fun _ _ _ h => h) (Prim.rep1_mono hK h1)
  · simp [callR, putL, hp, h7]
    refine hP.mono ?_
    rintro v w1 ⟨h1, h2, h3⟩
    exact h _ _ v (by simp [LocVal, hp]) (Prim.rep1_mono hK h1) h2 h3 (by simpa using keep _ _)
theorem r_cond {s t : Nat} {a b : Ir} {v : Bool} (hf : f s = .bool v) (hs : s < t) (ha : v = true → ∀ f', (∀ y, y < t → f' y = f y) → a.wp P Q f' w) (hb : v = false → ∀ f', (∀ y, y < t → f' y = f y) → b.wp P Q f' w) : (condI C s t a b).wp P Q f w := by
  refine wp_seqI (wp_reg ?_)
  simp [hf]
  have k : ∀ y, y < t → upd f t (.bool v) y = f y := fun y hy => by rw [upd_apply, if_neg (by omega)]
  cases v
  · exact .inr ⟨by simp, hb rfl _ k⟩
  · exact .inl ⟨by simp, ha rfl _ k⟩
theorem seqL_one {x : Ir} (h : x.wp P Q f w) : (seqL [x]).wp P Q f w := h
/-- v = b.F() in all its forms -/
theorem r_read (ht : TyR P C) {p : Prim} (hq : p = .uuid → isAgg16 (kindOf P C.E.tUu) = true) {l t : Nat} {b a n pv b2 a2 : Nat} {ver : Int} {fl : Bool} {cc : Array Value} {e : TypeId} {rs : RS} (hP : PrimR P C p) (hs : StR C R b a n w cc e rs) (hf : FrR C R f pv b2 a2 ver fl l) (hl : l < t)
    (hA : ∀ f' w' u, LocVal w' f' p l u → p.rep1 w' (RK R) u (p.rd fl rs).1 → Ext (· = R.pb) w w' → RdAt C.E.tRd w' R.pb R.D (p.rd fl rs).2 → (∀ y, y < t → y ≠ l → f' y = f y) → Q .normal f' w') : (seqL (readI C p l t)).wp P Q f w := by
  have hn := hf.nN
  have hrs := hf.rsN
  have hD : R.D < w.heap.size := Nat.lt_of_lt_of_le hs.rw_.lt.2.2.1 hs.rw_.lt.2.2.2
  have main : ∀ (f1 : Nat → Value) (t1 : Nat) (fl' : Bool), (fl' = true → C.fx = true) → p.rd fl' rs = p.rd fl rs → t ≤ t1 → (∀ y, y < t → y ≠ l → f1 y = f y) → (callR C p (p.fR C.E fl') l t1).wp P Q f1 w := by
    intro f1 t1 fl' hx hrd ht1 hk
    have hc := hP fl' hx w R.pb R.D rs hs.rw_.ne.1 hD hs.rd
    rw [hrd] at hc
    refine r_call ht hq hs ((hk C.rs (by omega) (by omega)).trans hf.rd) (by omega) (by omega) hc ?_
    intro f' w' u h1 h2 h3 h4 h5
    exact hA f' w' u h1 h2 h3 h4 (fun y hy hyl => (h5 y (by omega) hyl).trans (hk y hy hyl))
  have k1 : ∀ (v : Value) (f1 : Nat → Value) (t1 : Nat), t ≤ t1 → (∀ y, y < t1 → f1 y = upd f l v y) → ∀ y, y < t → y ≠ l → f1 y = f y := fun v f1 t1 h1 h y hy hyl => by rw [h y (by omega), upd_apply, if_neg hyl]
  have plain : ∀ fl', p.uns = false → (p ≠ .bytes ∧ p ≠ .nbytes) → p.rd fl' rs = p.rd fl rs := by intro fl' h1 h2; cases p <;> first | rfl | exact absurd rfl h2.1 | exact absurd rfl h2.2 | cases h1
  -- one form for texts of both flags
  have two : ∀ (v : Value), p.uns = false → (if C.fx then Ir.reg [⟨none, some l, .assign (.const v), p.ty C.E⟩] :: [condI C 9 t (callR C p (p.fR C.E true) l (t + 1)) (callR C p (p.fR C.E false) l (t + 2))] else [callR C p (p.fR C.E false) l t]) = readI C p l t → (seqL (readI C p l t)).wp P Q f w := by
    intro v _ hr
    rw [← hr]
    by_cases hx : C.fx = true
    · rw [if_pos hx]
      refine seqL_cons (wp_reg ?_)
      simp
      show (condI C 9 t _ _).wp P _ _ w
      refine r_cond (v := fl) (by rw [upd_apply, if_neg (by omega)]; exact hf.flg hx) (by omega) ?_ ?_
      · rintro rfl f1 h1
        exact main f1 (t + 1) true (fun _ => hx) rfl (by omega) (k1 v f1 t (Nat.le_refl _) h1)
      · rintro rfl f1 h1
        exact main f1 (t + 2) false (by simp) rfl (by omega) (k1 v f1 t (Nat.le_refl _) h1)
    · have hx' : C.fx = false := by simpa using hx
      rw [if_neg hx]
      have := hf.flN hx'
      subst this
      exact main f t false (by simp) rfl (Nat.le_refl _) (fun _ _ _ => rfl)
  cases p with
  | str =>
    simp only [readI]
    refine seqL_cons (wp_reg ?_)
    simp
    show (if C.fx = true then _ else _ : Ir).wp P _ _ w
    have us : upd f l (zeroV .str) 2 = .bool false := by rw [upd_apply, if_neg (by omega)]; exact hf.us
    by_cases hx : C.fx = true
    · rw [if_pos hx]
      refine r_cond (v := false) us (by omega) (by simp) ?_
      rintro _ f1 h1
      refine r_cond (v := fl) (by rw [h1 9 (by omega), upd_apply, if_neg (by omega)]; exact hf.flg hx) (by omega) ?_ ?_
      · rintro rfl f2 h2
        exact main f2 (t + 5) true (fun _ => hx) rfl (by omega) (fun y hy hyl => (h2 y (by omega)).trans (k1 _ f1 t (Nat.le_refl _) h1 y hy hyl))
      · rintro rfl f2 h2
        exact main f2 (t + 6) false (by simp) rfl (by omega) (fun y hy hyl => (h2 y (by omega)).trans (k1 _ f1 t (Nat.le_refl _) h1 y hy hyl))
    · have hx' : C.fx = false := by simpa using hx
      rw [if_neg hx]
      have := hf.flN hx'
      subst this
      refine r_cond (v := false) us (by omega) (by simp) ?_
      rintro _ f1 h1
      exact main f1 (t + 2) false (by simp) rfl (by omega) (k1 _ f1 t (Nat.le_refl _) h1)
  | nstr =>
    simp only [readI]
    refine seqL_cons (wp_reg ?_)
    simp
    show (if C.fx = true then _ else _ : Ir).wp P _ _ w
    have us : upd f l (zeroV .nstr) 2 = .bool false := by rw [upd_apply, if_neg (by omega)]; exact hf.us
    by_cases hx : C.fx = true
    · rw [if_pos hx]
      refine r_cond (v := fl) (by rw [upd_apply, if_neg (by omega)]; exact hf.flg hx) (by omega) ?_ ?_
      · rintro rfl f1 h1
        refine r_cond (v := false) (by rw [h1 2 (by omega)]; exact us) (by omega) (by simp) ?_
        rintro _ f2 h2
        exact main f2 (t + 3) true (fun _ => hx) rfl (by omega) (fun y hy hyl => (h2 y (by omega)).trans (k1 _ f1 t (Nat.le_refl _) h1 y hy hyl))
      · rintro rfl f1 h1
        refine r_cond (v := false) (by rw [h1 2 (by omega)]; exact us) (by omega) (by simp) ?_
        rintro _ f2 h2
        exact main f2 (t + 6) false (by simp) rfl (by omega) (fun y hy hyl => (h2 y (by omega)).trans (k1 _ f1 t (Nat.le_refl _) h1 y hy hyl))
    · have hx' : C.fx = false := by simpa using hx
      rw [if_neg hx]
      have := hf.flN hx'
      subst this
      refine r_cond (v := false) us (by omega) (by simp) ?_
      rintro _ f1 h1
      exact main f1 (t + 2) false (by simp) rfl (by omega) (k1 _ f1 t (Nat.le_refl _) h1)
  | bytes => exact two (zeroV .bytes) rfl rfl
  | nbytes => exact two (zeroV .nbytes) rfl rfl
  | _ => exact main f t false (by simp) (plain false rfl (by simp)) (Nat.le_refl _) (fun _ _ _ => rfl)
theorem over_get {c : Array Value} {o : Nat} {vs : List Value} (h : o + vs.length ≤ c.size) (j : Nat) : (over c o vs)[j]? = if j < o then c[j]? else if j < o + vs.length then vs[j - o]? else c[j]? := by
  have hl : (c.toList.take o).length = o := by simp; omega
  simp only [over, List.getElem?_toArray, List.append_assoc]
  by_cases h1 : j < o
  · rw [if_pos h1, List.getElem?_append_left (by omega), List.getElem?_take, if_pos h1]; simp
  · rw [if_neg h1, List.getElem?_append_right (by omega), hl]
    by_cases h2 : j < o + vs.length
    · rw [if_pos h2, List.getElem?_append_left (by omega)]
    · rw [if_neg h2, List.getElem?_append_right (by omega), List.getElem?_drop, show o + vs.length + (j - o - vs.length) = j by omega]; simp
theorem over_size {c : Array Value} {o : Nat} {vs : List Value} (h : o + vs.length ≤ c.size) : (over c o vs).size = c.size := by simp [over]; omega
/-- what a store leaves: u's cells stand at o -/
structure Put (cc : Array Value) (o : Nat) (u : Value) (cc' : Array Value) : Prop where
  size : cc'.size = cc.size
  same : ∀ j, (j < o ∨ o + u.cells.size ≤ j) → cc'[j]? = cc[j]?
  new : ∀ j v, u.cells.toList[j]? = some v → cc'[o + j]? = some v
theorem put_one {cc : Array Value} {o : Nat} {u : Value} (h1 : u.oneCell' = true) (ho : o < cc.size) : Put cc o u (cc.setIfInBounds o u) := by
  have huc : u.cells = #[u] := by cases u <;> simp_all [Value.oneCell', Value.cells]
  refine ⟨by simp, fun j hj => ?_, fun j v hj => ?_⟩
  · rw [huc] at hj
    simp at hj
    rw [Array.getElem?_setIfInBounds, if_neg (by omega)]
  · rw [huc] at hj
    cases j with
    | zero => simp at hj; subst hj; simp [Array.getElem?_setIfInBounds, ho]
    | succ j => simp at hj
theorem put_over {cc : Array Value} {o : Nat} {c : Array Value} (ho : o + c.size ≤ cc.size) : Put cc o (.agg c) (over cc o c.toList) := by
  have ho' : o + c.toList.length ≤ cc.size := by simpa using ho
  refine ⟨over_size ho', fun j hj => ?_, fun j v hj => ?_⟩
  · rw [over_get ho']
    simp [Value.cells] at hj
    split
    · rfl
    · rw [if_neg (by simp; omega)]
  · have hj' : j < c.size := by have := (List.getElem?_eq_some_iff.1 hj).1; simpa [Value.cells] using this
    rw [over_get ho', if_neg (by omega), if_pos (by simp; omega), show o + j - o = j by omega]
    exact hj
/-- s.F = v -/
theorem r_store (ht : TyR P C) {T PT pv k o l t b a : Nat} {p : Prim} {u : Value} {cc : Array Value} {e : TypeId} (hpv : f pv = .pointer (some ⟨b, a, none⟩)) (hF : fldOff P T k = some o) (hk : p.kOk P (p.ty C.E) = true) (hlv : LocVal w f p l u)
    (hu : if p = .uuid then ∃ c : Array Value, u = .agg c ∧ c.size = 16 ∧ allOne c.toList = true else u.oneCell' = true) (hpt : pv < t) (hl : l < t) (hb : w.heap[b]? = some (.cells cc e (0, 0))) (ho : a + o + u.cells.size ≤ cc.size)
    (h : ∀ f' cc', Put cc (a + o) u cc' → (∀ y, y < t → f' y = f y) → Q .normal f' (w.setBlk b (.cells cc' e (0, 0)))) : (Ir.reg (storeR C T PT pv k (p.ty C.E) l t p)).wp P Q f w := by
  have e3 : ∀ n, (l = t + n) = False := by intro n; simp; omega
  have e4 : (l = t) = False := by simp; omega
  have keep : ∀ a b c d, ∀ y, y < t → upd (upd (upd (upd f t a) (t + 1) b) (t + 2) c) (t + 3) d y = f y := by
    intro a b c d y hy
    have x3 : ∀ n, (y = t + n) = False := by intro n; simp; omega
    have x4 : (y = t) = False := by simp; omega
    simp [x3, x4]
  refine wp_reg ?_
  by_cases hp : p = .uuid
  · subst hp
    simp only [if_true] at hu
    obtain ⟨c, rfl, hc16, hone⟩ := hu
    simp only [LocVal, if_true] at hlv
    obtain ⟨b', cs', e', fz', hf, hbk, hcs, h16⟩ := hlv
    cases hcs
    have hk' : kindOf P C.E.tUu = .agg 16 := (ht.uu (kOk_uu hk rfl)).kUu
    have lB := cellsFrom_row hbk
    rw [h16] at lB
    have ho' : a + o + 16 ≤ cc.size := by simpa [Value.cells, hc16] using ho
    simp [storeR, getL, hpv, hf, e3, e4, hF, Addr.add_mk, ld_agg hk', lB, Prim.ty, store_agg hk', hc16, hone, putK_blk hb]
    exact ⟨by omega, h _ _ (put_over (by omega)) (keep _ _ _ _)⟩
  · simp only [if_neg hp] at hu
    simp only [LocVal, if_neg hp] at hlv
    have hk' : kindOf P (p.ty C.E) = .scl := by simp only [Prim.kOk, if_neg hp] at hk; exact isScl_spec hk
    have huc : u.cells = #[u] := by cases u <;> simp_all [Value.oneCell', Value.cells]
    have ho' : a + o + 1 ≤ cc.size := by simpa [huc] using ho
    simp [storeR, getL, hp, hpv, hlv, e3, e4, hF, Addr.add_mk, store_scl hk', hu, put1K_blk hb]
    exact ⟨by omega, h _ _ (put_one hu (by omega)) (keep _ _ _ _)⟩
/-- the same of a type's own, one cell -/
theorem r_storeT {T PT pv k o l t b a ty : Nat} {u : Value} {cc : Array Value} {e : TypeId} (hpv : f pv = .pointer (some ⟨b, a, none⟩)) (hF : fldOff P T k = some o) (hk : isScl (kindOf P ty) = true) (hlv : f l = u) (hu : u.oneCell' = true)
    (hpt : pv < t) (hl : l < t) (hb : w.heap[b]? = some (.cells cc e (0, 0))) (ho : a + o + 1 ≤ cc.size)
    (h : ∀ f' cc', Put cc (a + o) u cc' → (∀ y, y < t → f' y = f y) → Q .normal f' (w.setBlk b (.cells cc' e (0, 0)))) : (Ir.reg (storeT C T PT pv k ty l t)).wp P Q f w := by
  have e3 : ∀ n, (l = t + n) = False := by intro n; simp; omega
  have e4 : (l = t) = False := by simp; omega
  refine wp_reg ?_
  simp [storeT, hpv, hlv, e3, e4, hF, Addr.add_mk, store_scl (isScl_spec hk), hu, put1K_blk hb]
  refine ⟨by omega, h _ _ (put_one hu (by omega)) ?_⟩
  intro y hy
  have x3 : ∀ n, (y = t + n) = False := by intro n; simp; omega
  have x4 : (y = t) = False := by simp; omega
  simp [x3, x4]
/-- a field was put -/
theorem RdTo.put {b a n lo o : Nat} {cc cc' : Array Value} {e : TypeId} {f' : Nat → Value} {l m t : Nat} {rs : RS} {u : Value} (hs : StR C R b a n w cc e rs) (hp : Put cc (a + o) u cc') (hlo : lo ≤ o) (hn : o + u.cells.size ≤ n) (hk : KeepR f f' l m t) :
    RdTo C R b a n lo w cc e f l m t rs f' (w.setBlk b (.cells cc' e (0, 0))) cc' := by
  have hE : Ext (· = b) w (w.setBlk b (.cells cc' e (0, 0))) := (Ext.refl (fun k => k = b) w).setBlk (b := b) (Or.inr rfl) _
  have hE' : Ext (CB R b) w (w.setBlk b (.cells cc' e (0, 0))) := hE.mono (fun _ _ h => .inr h)
  exact ⟨hE', ⟨setBlk_same hs.blk, by rw [hp.size]; exact hs.fit, hs.rd.ext hE (fun h => hs.rw_.ne.2.2 h) (fun h => hs.rw_.ne.2.1 h.symm), hs.rw_.ext hE'⟩, hp.size, fun j hj => hp.same j (by omega), hk⟩
theorem FldAt.put {b a n o : Nat} {cc cc' : Array Value} {e : TypeId} {rs : RS} {p : Prim} {u : Value} {x : p.T} (hs : StR C R b a n w cc e rs) (hp : Put cc (a + o) u cc') (hn : o + u.cells.size ≤ n) (hr : p.rep1 w (RK R) u x) : FldAt (w.setBlk b (.cells cc' e (0, 0))) R (segL cc' a n) o p x := by
  have hE : Ext (· = b) w (w.setBlk b (.cells cc' e (0, 0))) := (Ext.refl (fun k => k = b) w).setBlk (b := b) (Or.inr rfl) _
  refine ⟨u, fun j v hj => ?_, Prim.rep1_ext hE (fun k hk1 hk2 hk3 => hs.rw_.keepK k hk1 hk2 (.inr hk3)) hr⟩
  have hj' : j < u.cells.size := by have := (List.getElem?_eq_some_iff.1 hj).1; simpa using this
  rw [segL_get (by omega), ← Nat.add_assoc]
  exact hp.new j v hj
end
end Go.Kg

set_option linter.unusedSimpArgs false
set_option linter.unusedVariables false
namespace Go.Kg
open Go
/-- An entry of the map says a tag. -/
def EntAt (w : World) (K : Nat → Prop) (c : Nat) (e : MapEntry) (x : Nat × List UInt8) : Prop := e.key = .int .u32 x.1 ∧ x.1 < 4294967296 ∧ e.born < c ∧ BytesAt w K e.val x.2
def EL (w : World) (K : Nat → Prop) (c : Nat) : List MapEntry → TagL → Prop
  | [], [] => True
  | e :: L, x :: l => EntAt w K c e x ∧ EL w K c L l
  | _, _ => False
theorem EL.of {w : World} {K : Nat → Prop} {c : Nat} : ∀ {L : List MapEntry} {l : TagL}, L.length = l.length → (∀ (i : Nat) e x, L[i]? = some e → l[i]? = some x → EntAt w K c e x) → EL w K c L l
  | [], [], _, _ => trivial
  | e :: L, x :: l, h, hx => ⟨hx 0 e x rfl rfl, EL.of (by simpa using h) (fun i e x h1 h2 => hx (i + 1) e x (by simpa using h1) (by simpa using h2))⟩
  | [], _ :: _, h, _ => by simp at h
  | _ :: _, [], h, _ => by simp at h
theorem EL.get {w : World} {K : Nat → Prop} {c : Nat} : ∀ {L : List MapEntry} {l : TagL}, EL w K c L l → L.length = l.length ∧ ∀ (i : Nat) e x, L[i]? = some e → l[i]? = some x → EntAt w K c e x
  | [], [], _ => ⟨rfl, fun i e x h => by simp at h⟩
  | e :: L, x :: l, h => ⟨by simpa using (EL.get h.2).1, fun i e' x' h1 h2 => by
      cases i with
      | zero => simp at h1 h2; subst h1; subst h2; exact h.1
      | succ i => exact (EL.get h.2).2 i e' x' (by simpa using h1) (by simpa using h2)⟩
  | [], _ :: _, h => h.elim
  | _ :: _, [], h => h.elim
theorem EL.up {w : World} {K : Nat → Prop} {c c' : Nat} (hc : c ≤ c') : ∀ {L : List MapEntry} {l : TagL}, EL w K c L l → EL w K c' L l
  | [], [], _ => trivial
  | e :: L, x :: l, h => ⟨⟨h.1.1, h.1.2.1, Nat.lt_of_lt_of_le h.1.2.2.1 hc, h.1.2.2.2⟩, EL.up hc h.2⟩
  | [], _ :: _, h => h.elim
  | _ :: _, [], h => h.elim
theorem EL.mem {w : World} {K : Nat → Prop} {c : Nat} : ∀ {L : List MapEntry} {l : TagL}, EL w K c L l → ∀ e ∈ L, ∃ x ∈ l, EntAt w K c e x
  | e :: L, x :: l, h, e', he => by
    rcases List.mem_cons.1 he with rfl | he
    · exact ⟨x, List.mem_cons_self .., h.1⟩
    · obtain ⟨y, hy, hh⟩ := EL.mem h.2 e' he; exact ⟨y, List.mem_cons_of_mem _ hy, hh⟩
/-- Tags as lists -/
theorem tagsAt_iff {w : World} {K : Nat → Prop} {v : Value} {l : TagL} : TagsAt w K v l ↔ (v = .map none ∧ l = []) ∨ ∃ b es clock, v = .map (some b) ∧ K b ∧ w.heap[b]? = some (.map es clock) ∧ EL w K clock es.toList l ∧ (l.map (·.1)).Nodup ∧ (es.toList.map (·.born)).Nodup ∧ l.length < 4294967296 := by
  constructor
  · rintro (h | ⟨b, es, clock, rfl, hk, hb, hs, hn, hl, hx⟩)
    · exact .inl h
    · exact .inr ⟨b, es, clock, rfl, hk, hb, EL.of (by simpa using hs) (fun i e x h1 h2 => hx i e x (by simpa using h1) h2), hn.1, hn.2, hl⟩
  · rintro (h | ⟨b, es, clock, rfl, hk, hb, he, h1, h2, hl⟩)
    · exact .inl h
    · have := he.get
      exact .inr ⟨b, es, clock, rfl, hk, hb, by simpa using this.1, ⟨h1, h2⟩, hl, fun i e x h1 h2 => this.2 i e x (by simpa using h1) h2⟩
theorem findNow_spec {w : World} {K : Nat → Prop} {c k : Nat} {v : Value} {s : List UInt8} (hk : k < 4294967296) (hv : BytesAt w K v s) : ∀ {L : List MapEntry} {l : TagL} (i : Nat), EL w K c L l →
    (Instr.findNow (.int .u32) (.int .u32 k) L i = some none ∧ EL w K (c + 1) (L ++ [{ key := .int .u32 k, val := v, born := c }]) (setTag k s l)) ∨
    (∃ j e, Instr.findNow (.int .u32) (.int .u32 k) L i = some (some (i + j, e.val)) ∧ L[j]? = some e ∧ e.key = .int .u32 k ∧ EL w K c (L.modify j fun e => { e with key := .int .u32 k, val := v }) (setTag k s l))
  | [], [], i, _ => .inl ⟨rfl, ⟨rfl, hk, Nat.lt_succ_self c, hv⟩, trivial⟩
  | e :: L, x :: l, i, h => by
    obtain ⟨⟨h1, h2, h3, h4⟩, h5⟩ := h
    by_cases hx : x.1 = k
    · refine .inr ⟨0, e, ?_, rfl, by rw [h1, hx], ?_⟩
      · simp [Instr.findNow, Instr.sameNow, h1, hx]
      · simp only [List.modify_zero_cons, setTag, if_pos hx]
        exact ⟨⟨rfl, hk, h3, hv⟩, h5⟩
    · have hne : ((k : Int) == (x.1 : Int)) = false := by simp; omega
      have hf : Instr.findNow (.int .u32) (.int .u32 k) (e :: L) i = Instr.findNow (.int .u32) (.int .u32 k) L (i + 1) := by
        simp [Instr.findNow, Instr.sameNow, h1, hne]
      rw [hf]
      rcases findNow_spec hk hv (i + 1) h5 with ⟨a1, a2⟩ | ⟨j, e', a1, a2, a3, a4⟩
      · refine .inl ⟨a1, ?_⟩
        simp only [setTag, if_neg hx]
        exact ⟨⟨h1, h2, Nat.lt_succ_of_lt h3, h4⟩, a2⟩
      · refine .inr ⟨j + 1, e', by rw [a1]; congr 3; omega, by simpa using a2, a3, ?_⟩
        simp only [setTag, if_neg hx, List.modify_succ_cons]
        exact ⟨⟨h1, h2, h3, h4⟩, a4⟩
  | [], _ :: _, i, h => h.elim
  | _ :: _, [], i, h => h.elim
theorem modify_born {j : Nat} {f : MapEntry → MapEntry} (hf : ∀ e, (f e).born = e.born) : ∀ L : List MapEntry, (L.modify j f).map (·.born) = L.map (·.born) := by
  induction j with
  | zero => intro L; cases L <;> simp [hf]
  | succ j ih => intro L; cases L with
    | nil => simp
    | cons e L => simp [ih L]
theorem check_u32 {P : Program} {T : TypeId} (hT : P.underlying T = some (.int .u32)) {w : World} {b : Bool} {k : Int} : (Instr.checkKey b 10000 T (.int .u32 k)).run P w = .ok () w := by
  have : ∀ n, (Instr.checkKey b (n + 1) T (.int .u32 k)).run P w = .ok () w := by intro n; simp [Instr.checkKey, run_underlying hT]
  exact this 9999
/-- m[k] = v -/
theorem run_mapUpdate {P : Program} {T KT VT : TypeId} (hT : P.underlying T = some (.map KT VT)) (hK : P.underlying KT = some (.int .u32)) {w : World} {K : Nat → Prop} {b k clock : Nat} {v : Value} {s : List UInt8} {es : Array MapEntry} {l : TagL}
    (hk : k < 4294967296) (hv : BytesAt w K v s) (hb : w.heap[b]? = some (.map es clock)) (he : EL w K clock es.toList l) (hn : (es.toList.map (·.born)).Nodup) :
    ∃ es' clock', (Instr.mapUpdate T (.map (some b)) (.int .u32 k) v).run P w = .ok () (w.setBlk b (.map es' clock')) ∧ EL w K clock' es'.toList (setTag k s l) ∧ (es'.toList.map (·.born)).Nodup := by
  have hget : (getObj b).run P w = .ok (.map es clock) w := by simp [getObj, Sem.run, hb]
  have hset : ∀ o, (setObj b o).run P w = .ok () (w.setBlk b o) := by intro o; simp [setObj, Sem.run, hb, World.setBlk]
  have hfk : ∀ r, Instr.findNow (.int .u32) (.int .u32 k) es.toList 0 = some r → (Instr.findKey KT (.int .u32 k) es.toList).run P w = .ok r w := by
    intro r hr; simp [Instr.findKey, run_underlying hK, hr]
  rcases findNow_spec hk hv 0 he with ⟨a1, a2⟩ | ⟨j, e, a1, a2, a3, a4⟩
  · refine ⟨es.push { key := .int .u32 k, val := v, born := clock }, clock + 1, ?_, by simpa using a2, ?_⟩
    · simp [Instr.mapUpdate, run_underlying hT, hget, check_u32 hK, hfk _ a1, hset]
    · simp only [Array.toList_push, List.map_append, List.map_cons, List.map_nil]
      rw [List.nodup_append]
      refine ⟨hn, by simp, ?_⟩
      intro a ha b hb
      simp only [List.mem_singleton] at hb
      obtain ⟨e, he1, rfl⟩ := List.mem_map.1 ha
      obtain ⟨x, _, hx⟩ := he.mem e he1
      have := hx.2.2.1
      omega
  · refine ⟨es.modify j fun e => { e with key := .int .u32 k, val := v }, clock, ?_, by simpa using a4, ?_⟩
    · have hj : es[j]? = some e := by simpa using a2
      have hsame : (Instr.sameBits 10000 (.int .u32 (k : Int)) (.int .u32 (k : Int))) = true := by simp [Instr.sameBits]
      simp [Instr.mapUpdate, run_underlying hT, hget, check_u32 hK, hfk _ a1, hset, Instr.keyThatStays, hj, a3, hsame]
    · simp only [Array.toList_modify]
      rw [modify_born]
      · exact hn
      · intro e; rfl
theorem EL.ext {C : Nat → Prop} {w w' : World} {D c : Nat} (he : Ext C w w') (hD : ¬ C D) : ∀ {L : List MapEntry} {l : TagL}, EL w (· = D) c L l → EL w' (· = D) c L l
  | [], [], _ => trivial
  | e :: L, x :: l, h => ⟨⟨h.1.1, h.1.2.1, h.1.2.2.1, h.1.2.2.2.ext he (fun b _ hb => by subst hb; exact hD)⟩, EL.ext he hD h.2⟩
  | [], _ :: _, h => h.elim
  | _ :: _, [], h => h.elim
/-- the map lies in a block from base on, the bytes in D -/
def TagsM (w : World) (D base : Nat) (u : Value) (l : TagL) : Prop :=
  (u = .map none ∧ l = []) ∨ ∃ m es clock, u = .map (some m) ∧ base ≤ m ∧ w.heap[m]? = some (.map es clock) ∧ EL w (· = D) clock es.toList l ∧ (es.toList.map (·.born)).Nodup
theorem TagsM.one {w : World} {D base : Nat} {u : Value} {l : TagL} (h : TagsM w D base u l) : u.oneCell' = true ∧ u.cells = #[u] := by
  rcases h with ⟨rfl, _⟩ | ⟨_, _, _, rfl, _⟩ <;> exact ⟨rfl, rfl⟩
@[simp] theorem stp_mapUpdate {P : Program} {f : Nat → Value} {ty : TypeId} {w : World} {K : Value → World → Prop} {T : TypeId} {a b c : Operand} : stp P f (.mapUpdate T a b c) ty w K = stepF P f (.mapUpdate T a b c) ty w K := (rfl)
@[simp] theorem stp_makeMap {P : Program} {f : Nat → Value} {ty : TypeId} {w : World} {K : Value → World → Prop} {T : TypeId} : stp P f (.makeMap T none) ty w K = K (.map (some w.heap.size)) (w.alloc (.map #[] 0)) := by
  show stepF P f (.makeMap T none) ty w K = _
  rw [stepF_ok (v := .map (some w.heap.size)) (w' := w.alloc (.map #[] 0))]
  simp [runF, execOp, Instr.makeMap, newObj, Sem.run]
section
variable {P : Program} {E : Env} (ht : TyTg P E)
include ht
/-- t.Set(key, val); t's cell lies in a block of its own. -/
theorem c_TSet (hu : P.underlying E.tU32 = some (.int .u32)) (hI : FnIs P E.f_pkmsg_Tags_Set nt_pkmsg_Tags_Set (rs_pkmsg_Tags_Set E) (ir_pkmsg_Tags_Set E)) {w : World} {D base b k : Nat} {u v : Value} {s : List UInt8} {l : TagL} {et : TypeId}
    (hk : k < 4294967296) (hv : BytesAt w (· = D) v s) (hc : w.heap[b]? = some (.cells #[u] et (0, 0))) (hl : TagsM w D base u l) (hD : D < base) (hb : base ≤ b) (hbs : base ≤ w.heap.size) :
    Ret P E.f_pkmsg_Tags_Set #[.pointer (some ⟨b, 0, none⟩), .int .u32 k, v] w fun _ w' => ∃ u', w'.heap[b]? = some (.cells #[u'] et (0, 0)) ∧ TagsM w' D base u' (setTag k s l) ∧ Ext (fun x => base ≤ x) w w' := by
  refine hI.call (args := [_, _, _]) (by simp [nt_pkmsg_Tags_Set]) ?_
  have c0 : w.cell? ⟨b, 0, none⟩ = some u := by rw [cell_of_blk hc]; rfl
  rcases hl with ⟨rfl, rfl⟩ | ⟨m, es, clock, rfl, hm, hmb, he, hn⟩
  · simp [ir_pkmsg_Tags_Set, rs_pkmsg_Tags_Set, ht.g0, Addr.add_mk, ld_scl ht.kM, c0, bin_nil_map ht.uM]
    refine cw_true (by simp) ?_
    have hb2 : (w.alloc (.map #[] 0)).heap[b]? = some (.cells #[.map none] et (0, 0)) := alloc_old hc
    have hne : w.heap.size ≠ b := fun h => by have := lt_of_heap hc; omega
    simp [ht.g0, Addr.add_mk, store_scl ht.kM, put1K_blk hb2]
    generalize hw1 : (w.alloc (.map #[] 0)).setBlk b (.cells #[.map (some w.heap.size)] et (0, 0)) = w1
    have hE : Ext (fun x => base ≤ x) w w1 := by subst hw1; exact ((Ext.refl _ w).alloc _).setBlk (Or.inr hb) _
    have hb1 : w1.heap[b]? = some (.cells #[.map (some w.heap.size)] et (0, 0)) := by subst hw1; exact setBlk_same hb2
    have hm1 : w1.heap[w.heap.size]? = some (.map #[] 0) := by subst hw1; rw [setBlk_other hne]; exact alloc_new
    have c1 : w1.cell? ⟨b, 0, none⟩ = some (.map (some w.heap.size)) := by rw [cell_of_blk hb1]; rfl
    obtain ⟨es', clock', hr, he', hn'⟩ := run_mapUpdate (es := #[]) (l := []) ht.uM hu hk (hv.ext hE (fun x _ hx => by subst hx; omega)) hm1 trivial (by simp)
    simp [c1, ld_scl ht.kM]
    refine ⟨rfl, ?_⟩
    rw [stepF_skip (w' := w1.setBlk w.heap.size (.map es' clock'))]
    · refine ⟨_, (by rw [setBlk_other (Ne.symm hne)]; exact hb1), .inr ⟨w.heap.size, es', clock', rfl, hbs, setBlk_same hm1, ?_, hn'⟩, hE.setBlk (Or.inr hbs) _⟩
      exact EL.ext ((Ext.refl (fun x => base ≤ x) w1).setBlk (Or.inr hbs) _) (by omega) he'
    · simp [runF, execOp, hr]
  · simp [ir_pkmsg_Tags_Set, rs_pkmsg_Tags_Set, ht.g0, Addr.add_mk, ld_scl ht.kM, c0, bin_nil_map ht.uM]
    refine cw_false (by simp) ?_
    obtain ⟨es', clock', hr, he', hn'⟩ := run_mapUpdate ht.uM hu hk hv hmb he hn
    have hne : m ≠ b := fun h => by subst h; rw [hc] at hmb; cases hmb
    simp [ht.g0, Addr.add_mk, ld_scl ht.kM, c0]
    rw [stepF_skip (w' := w.setBlk m (.map es' clock'))]
    · refine ⟨_, (by rw [setBlk_other (Ne.symm hne)]; exact hc), .inr ⟨m, es', clock', rfl, hm, setBlk_same hmb, ?_, hn'⟩, (Ext.refl _ w).setBlk (Or.inr hm) _⟩
      exact EL.ext ((Ext.refl (fun x => base ≤ x) w).setBlk (Or.inr hm) _) (by omega) he'
    · simp [runF, execOp, hr]
end
/-- what is kept while tags are read -/
structure RTs (E : Env) (w0 : World) (pb D : Nat) (rs0 : RS) (n : Nat) (f : Nat → Value) (w : World) (l : TagL) (rs : RS) (k : Nat) : Prop where
  f0 : f 0 = .pointer (some ⟨pb, 0, none⟩)
  f3 : f 3 = .pointer (some ⟨w0.heap.size + 1, 0, none⟩)
  f4 : f 4 = .int .u32 k
  f2 : f 2 = .pointer (some ⟨w0.heap.size, 0, none⟩)
  ext : Ext (· = pb) w0 w
  rd : RdAt E.tRd w pb D rs
  cell : ∃ u, w.heap[w0.heap.size + 1]? = some (.cells #[u] E.t_kmsg_Tags (0, 0)) ∧ TagsM w D (w0.heap.size + 1) u l
  res : w.heap[w0.heap.size]? = some (.cells #[.map none] E.t_kmsg_Tags (0, 0))
  nd : (l.map (·.1)).Nodup
  len : l.length + k ≤ n
  todo : rdTagN k l rs = rdTagN n [] rs0
  kn : n < 4294967296
theorem Ext.grow {C : Nat → Prop} {a b c : World} {n : Nat} (h : Ext C a b) (k : Ext (fun x => n ≤ x) b c) (hn : a.heap.size ≤ n) : Ext C a c :=
  ⟨k.os.trans h.os, k.tape.trans h.tape, k.output.trans h.output, Nat.le_trans h.size k.size, fun i hi hc => (k.block i (Nat.lt_of_lt_of_le hi h.size) (by omega)).trans (h.block i hi hc)⟩
theorem EL.mono {w : World} {K K' : Nat → Prop} {c : Nat} (hk : ∀ b, K b → K' b) : ∀ {L : List MapEntry} {l : TagL}, EL w K c L l → EL w K' c L l
  | [], [], _ => trivial
  | e :: L, x :: l, h => ⟨⟨h.1.1, h.1.2.1, h.1.2.2.1, h.1.2.2.2.mono (fun b _ => hk b)⟩, EL.mono hk h.2⟩
  | [], _ :: _, h => h.elim
  | _ :: _, [], h => h.elim
theorem setTag_len1 (k : Nat) (v : List UInt8) (l : TagL) : (setTag k v l).length ≤ l.length + 1 := (setTag_len k v l).1
theorem TagsM.ext {C : Nat → Prop} {w w' : World} {D base : Nat} {u : Value} {l : TagL} (h : TagsM w D base u l) (he : Ext C w w') (hD : ¬ C D) (hC : ∀ k, k < w.heap.size → base ≤ k → ¬ C k) : TagsM w' D base u l := by
  rcases h with h | ⟨m, es, clock, rfl, hm, hb, h1, h2⟩
  · exact .inl h
  · exact .inr ⟨m, es, clock, rfl, hm, he.old hb (hC m (lt_of_heap hb) hm), h1.ext he hD, h2⟩
section
variable {P : Program} {E : Env} (ht : TyTg P E)
include ht
set_option maxHeartbeats 1000000 in
theorem c_readTags (C : CfgR) (hE : C.E = E) (hu : P.underlying E.tU32 = some (.int .u32)) (hi : intKind? P E.tU32 = some .u32) (hi' : intKind? P E.tInt = some .i64) (hk : kindOf P E.t_kmsg_Tags = .agg 1) (hz : zeroOf P E.t_kmsg_Tags = some (.agg #[.map none]))
    (hI : FnIs P E.f_kmsg_internalReadTags nt_kmsg_internalReadTags (rs_kmsg_internalReadTags E) (ir_kmsg_internalReadTags E))
    (hU : RdC P E.tRd E.f_pkbin_Reader_Uvarint fun rs => (.int .u32 (rdUv rs).1, (rdUv rs).2)) (hS : SpanC P E.tRd E.f_pkbin_Reader_Span)
    (hT : ∀ {w : World} {D base b k : Nat} {u v : Value} {s : List UInt8} {l : TagL} {et : TypeId}, k < 4294967296 → BytesAt w (· = D) v s → w.heap[b]? = some (.cells #[u] et (0, 0)) → TagsM w D base u l → D < base → base ≤ b → base ≤ w.heap.size →
      Ret P E.f_pkmsg_Tags_Set #[.pointer (some ⟨b, 0, none⟩), .int .u32 k, v] w fun _ w' => ∃ u', w'.heap[b]? = some (.cells #[u'] et (0, 0)) ∧ TagsM w' D base u' (setTag k s l) ∧ Ext (fun x => base ≤ x) w w') : TagsRC P C := by
  subst hE
  intro w pb D rs hne hD hr
  refine hI.call (args := [_]) (by simp [nt_kmsg_internalReadTags]) ?_
  have hlt : pb < w.heap.size := by obtain ⟨sv, hb, _⟩ := hr; exact lt_of_heap hb
  simp [ir_kmsg_internalReadTags, rs_kmsg_internalReadTags, hz, Value.cells]
  generalize hw1 : w.alloc (.cells #[.map none] C.E.t_kmsg_Tags) = w1
  have hs1 : w1.heap.size = w.heap.size + 1 := by subst hw1; simp
  have hx1 : Ext none1 w w1 := by subst hw1; exact (Ext.refl _ w).alloc _
  have hb0 : w1.heap[w.heap.size]? = some (.cells #[.map none] C.E.t_kmsg_Tags (0, 0)) := by subst hw1; exact alloc_new
  generalize hw2 : w1.alloc (.cells #[.map none] C.E.t_kmsg_Tags) = w2
  have hs2 : w2.heap.size = w.heap.size + 2 := by subst hw2; simp [hs1]
  have hx2 : Ext none1 w w2 := by subst hw2; exact hx1.alloc _
  have hb1 : w2.heap[w.heap.size + 1]? = some (.cells #[.map none] C.E.t_kmsg_Tags (0, 0)) := by subst hw2; rw [← hs1]; exact alloc_new
  have hb02 : w2.heap[w.heap.size]? = some (.cells #[.map none] C.E.t_kmsg_Tags (0, 0)) := by subst hw2; exact alloc_old hb0
  have hr2 : RdAt C.E.tRd w2 pb D rs := RdAt.ext hr hx2 (fun h => h) (fun h => h)
  refine (hU w2 pb D rs hne hr2).mono ?_
  rintro _ w3 ⟨rfl, hx3, hr3⟩
  simp
  have hx03 : Ext (· = pb) w w3 := (hx2.mono (fun _ _ h => h.elim)).trans hx3
  refine cw_loop (fun f w' => ∃ l rs' k, RTs C.E w pb D (rdUv rs).2 (rdUv rs).1 f w' l rs' k) (fun f _ => match f 4 with | .int _ n => n.toNat | _ => 0) ?_ ?_
  · refine ⟨[], (rdUv rs).2, (rdUv rs).1, by simp, by simp [hs1], by simp, by simp, hx03, hr3, ⟨.map none, hx3.old hb1 (by omega), .inl ⟨rfl, rfl⟩⟩, hx3.old hb02 (by omega), by simp, by simp, rfl, rdUv_lt rs⟩
  · rintro f w4 ⟨l, rs4, k, h⟩
    simp [h.f4]
    by_cases hk0 : k = 0
    · refine cw_false (by simp [hk0]) ?_
      obtain ⟨u, hc, hM⟩ := h.cell
      have c0 : w4.cell? ⟨w.heap.size + 1, 0, none⟩ = some u := by rw [cell_of_blk hc]; rfl
      have hone := hM.one
      simp [h.f3, h.f2, ld_agg hk, cellsFrom, Addr.add_mk, c0, store_agg hk, allOne, hone.1, putK_blk h.res]
      have hov : over #[Value.map none] 0 [u] = #[u] := rfl
      simp only [hov]
      generalize hw5 : w4.setBlk w.heap.size (.cells #[u] C.E.t_kmsg_Tags (0, 0)) = w5
      have hb5 : w5.heap[w.heap.size]? = some (.cells #[u] C.E.t_kmsg_Tags (0, 0)) := by subst hw5; exact setBlk_same h.res
      have c5 : w5.cell? ⟨w.heap.size, 0, none⟩ = some u := by rw [cell_of_blk hb5]; rfl
      simp [c5]
      have hx5 : Ext (fun x => x = w.heap.size) w4 w5 := by subst hw5; exact (Ext.refl (fun x => x = w.heap.size) w4).setBlk (b := w.heap.size) (Or.inr rfl) _
      have hlen := h.len
      have hkn := h.kn
      have htodo := h.todo
      subst hk0
      simp only [rdTagN] at htodo
      have hl1 : (rdTags rs).1 = l := by rw [rdTags, ← htodo]
      have hl2 : (rdTags rs).2 = rs4 := by rw [rdTags, ← htodo]
      refine ⟨?_, by subst hw5; exact h.ext.setBlk (Or.inl (Nat.le_refl _)) _, ?_⟩
      · rw [hl1, tagsAt_iff]
        rcases hM with ⟨rfl, rfl⟩ | ⟨m, es, clock, rfl, hm, hmb, he, hn⟩
        · exact .inl ⟨rfl, rfl⟩
        · refine .inr ⟨m, es, clock, rfl, .inr (by omega), hx5.old hmb ?_, ?_, h.nd, hn, by omega⟩
          · intro e; subst e; rw [h.res] at hmb; cases hmb
          · exact EL.mono (fun b hb => .inl hb) (he.ext hx5 (by omega))
      · rw [hl2]
        exact RdAt.ext h.rd hx5 (by omega) (by omega)
    · refine cw_true (by simp; omega) ?_
      simp [h.f0]
      refine (hU w4 pb D rs4 hne h.rd).mono ?_
      rintro _ w5 ⟨rfl, hx5, hr5⟩
      simp [h.f0]
      refine (hU w5 pb D _ hne hr5).mono ?_
      rintro _ w6 ⟨rfl, hx6, hr6⟩
      simp [h.f0, hi, hi']
      have hwr : IntKind.i64.wrap ((rdUv (rdUv rs4).2).1 : Int) = ((rdUv (rdUv rs4).2).1 : Int) := i64_small (by omega) (by have := rdUv_lt (rdUv rs4).2; omega)
      rw [hwr]
      refine (hS w6 pb D _ _ hne hr6).mono ?_
      rintro v w7 ⟨hv, _, hx7, hr7⟩
      simp [h.f3]
      have hx47 : Ext (· = pb) w4 w7 := (hx5.trans hx6).trans hx7
      obtain ⟨u, hc, hM⟩ := h.cell
      have hsz := h.ext.size
      have hc7 : w7.heap[w.heap.size + 1]? = some (.cells #[u] C.E.t_kmsg_Tags (0, 0)) := hx47.old hc (by omega)
      refine (hT (rdUv_lt rs4) hv hc7 (hM.ext hx47 (fun e => hne e.symm) (by intro k _ hk e; omega)) (by omega) (by omega) (by have := lt_of_heap hc7; omega)).mono ?_
      rintro _ w8 ⟨u', hc8, hM8, hx8⟩
      simp [h.f4]
      have hkn := h.kn
      have hln := h.len
      have hwk : IntKind.u32.wrap ((k : Int) - 1) = ((k - 1 : Nat) : Int) := by simp [IntKind.wrap, IntKind.signed, IntKind.bits]; omega
      refine ⟨⟨_, _, k - 1, ⟨by simp [h.f0], by simp [h.f3], by simp [hwk], by simp [h.f2], ?_, hr7.ext hx8 (by omega) (by omega), ⟨u', hc8, hM8⟩, ?_, setTag_nodup _ _ _ h.nd, ?_, ?_, hkn⟩⟩, ?_⟩
      · exact (h.ext.trans hx47).grow hx8 (by omega)
      · exact hx8.old (hx47.old h.res (by omega)) (by omega)
      · exact Nat.le_trans (Nat.add_le_add_right (setTag_len1 _ _ l) _) (by omega)
      · rw [← h.todo]
        obtain ⟨k', rfl⟩ : ∃ k', k = k' + 1 := ⟨k - 1, by omega⟩
        simp only [Nat.add_sub_cancel, rdTagN, rdTag]
      · rw [hwk]; omega
end
end Go.Kg

set_option linter.unusedSimpArgs false
set_option linter.unusedVariables false
set_option linter.unusedSectionVars false
namespace Go.Kg
open Go
/-- what stands in a new element -/
def sliZ (P : Program) (sT : TypeId) : Option (Array Value) := match P.underlying sT with
  | some (.slice e) => match P.info? e with
    | some i => if i.bytes ≤ 131072 ∧ 0 < i.size then match i.zero with
      | some z => if z.cells.size = i.size then some z.cells else none
      | none => none
      else none
    | none => none
  | _ => none
def sliOk (P : Program) (sT sz : Nat) : Bool := sliSz P sT == some sz && match sliZ P sT with
  | some z => z.size == sz
  | none => false
def elemOk (P : Program) (C : Cfg) (sT : Nat) (e : Sch) : Bool := match sliZ P sT with
  | some z => e.chkD (setD 0 (e.dst C) z).toList
  | none => false
/-- a list may be null at no version, or at each -/
def nulZ (fx : Bool) : Option Nat → Bool
  | none => true
  | some m => fx && m == 0
/-- what new(T) makes -/
def optOk (P : Program) (C : Cfg) (T sz : Nat) (e : Sch) : Bool := match zeroOf P T with
  | some v => v.cells.size == sz && e.chkD (setD 0 (e.dst C) v.cells).toList
  | none => false
def Sch.tyR (P : Program) (C : CfgR) : Nat → Nat → Nat → Sch → Bool
  | _, _, _, .fin => true
  | T, n, lo, .tags k o => C.fx && fldOff P T k == some o && decide (lo ≤ o) && decide (o + 1 ≤ n)
  | T, n, lo, .prim _ k o p en _ rest => fldOff P T k == some o && p.kOk P (p.ty C.E) && (en == 0 || (p == .i8 && isScl (kindOf P en))) && decide (lo ≤ o) && decide (o + p.sz ≤ n) && rest.tyR P C T n (o + p.sz)
  | T, n, lo, .arrP _ k o sT nul p rest => nulZ C.fx nul && fldOff P T k == some o && isScl (kindOf P sT) && sliOk P sT p.sz && p.kOk P (p.ty C.E) && decide (lo ≤ o) && decide (o + 1 ≤ n) && rest.tyR P C T n (o + 1)
  | T, n, lo, .arrS _ k o sT nul T' _ sz _ e rest => nulZ C.fx nul && fldOff P T k == some o && isScl (kindOf P sT) && sliOk P sT sz && elemOk P C.toCfg sT e && defOk P T' sz (e.dst C.toCfg) && e.tyR P C T' sz 0 && decide (lo ≤ o) && decide (o + 1 ≤ n) && rest.tyR P C T n (o + 1)
  | T, n, lo, .sub _ k o T' _ sz _ e rest => fldOff P T k == some o && (e.dst C.toCfg).isEmpty && e.tyR P C T' sz 0 && decide (lo ≤ o) && decide (o + sz ≤ n) && rest.tyR P C T n (o + sz)
  | T, n, lo, .opt _ k o T' PT' _ sz _ e rest => fldOff P T k == some o && isScl (kindOf P PT') && isScl (kindOf P C.E.tI8) && optOk P C.toCfg T' sz e && defOk P T' sz (e.dst C.toCfg) && e.tyR P C T' sz 0 && decide (lo ≤ o) && decide (o + 1 ≤ n) && rest.tyR P C T n (o + 1)
def DefRC (P : Program) (C : Cfg) (sz df : Nat) (e : Sch) : Prop := ∀ w (b a : Nat) c et, w.heap[b]? = some (.cells c et (0, 0)) → a + sz ≤ c.size → Ret P df #[.pointer (some ⟨b, a, none⟩)] w fun _ w' => w' = w.setBlk b (.cells (setD a (e.dst C) c) et (0, 0))
def Sch.NeedR (P : Program) (C : CfgR) : Sch → Prop
  | .fin => True
  | .tags _ _ => TagsRC P C
  | .prim _ _ _ p _ _ rest => PrimR P C p ∧ rest.NeedR P C
  | .arrP _ _ _ _ _ p rest => PrimR P C p ∧ LenRC P C ∧ EndC P C ∧ rest.NeedR P C
  | .arrS _ _ _ _ _ _ _ sz df e rest => LenRC P C ∧ EndC P C ∧ DefRC P C.toCfg sz df e ∧ e.NeedR P C ∧ rest.NeedR P C
  | .sub _ _ _ _ _ sz df e rest => DefRC P C.toCfg sz df e ∧ e.NeedR P C ∧ rest.NeedR P C
  | .opt _ _ _ _ _ _ sz df e rest => PrimR P C .i8 ∧ EndC P C ∧ DefRC P C.toCfg sz df e ∧ e.NeedR P C ∧ rest.NeedR P C
theorem prim_chkD_congr {cs cs' : List Value} {o : Nat} {p : Prim} {d : Int} (h : ∀ j, o ≤ j → j < o + p.sz → cs'[j]? = cs[j]?) (hc : p.chkD cs o d = true) : p.chkD cs' o d = true := by
  cases p with
  | uuid =>
    have : ∀ n, n ≤ 16 → zeros16 cs o n = true → zeros16 cs' o n = true := by
      intro n
      induction n with
      | zero => intro _ _; rfl
      | succ n ih =>
        intro hn hz
        simp only [zeros16, Bool.and_eq_true] at hz ⊢
        rw [h (o + n) (by omega) (by simp [Prim.sz]; omega)]
        exact ⟨hz.1, ih (by omega) hz.2⟩
    exact this 16 (Nat.le_refl _) hc
  | _ =>
    have h0 := h o (Nat.le_refl _) (by simp [Prim.sz])
    simp only [Prim.chkD] at hc ⊢
    rw [h0]; exact hc
theorem chkD_congr {P : Program} {C : CfgR} {cs cs' : List Value} : ∀ (S : Sch) {T n lo : Nat}, S.tyR P C T n lo = true → (∀ j, lo ≤ j → j < n → cs'[j]? = cs[j]?) → S.chkD cs = true → S.chkD cs' = true := by
  intro S
  induction S generalizing cs cs' with
  | fin => intros; rfl
  | tags k o =>
    intro T n lo ht h hc
    simp only [Sch.tyR, Bool.and_eq_true, decide_eq_true_eq] at ht
    simp only [Sch.chkD] at hc ⊢
    rw [h o (by omega) (by omega)]; exact hc
  | prim g k o p en d rest ih =>
    intro T n lo ht h hc
    simp only [Sch.tyR, Bool.and_eq_true, decide_eq_true_eq] at ht
    simp only [Sch.chkD, Bool.and_eq_true] at hc ⊢
    exact ⟨prim_chkD_congr (fun j h1 h2 => h j (by omega) (by omega)) hc.1, ih ht.2 (fun j h1 h2 => h j (by omega) h2) hc.2⟩
  | arrP g k o sT nul p rest ih =>
    intro T n lo ht h hc
    simp only [Sch.tyR, Bool.and_eq_true, decide_eq_true_eq] at ht
    simp only [Sch.chkD, Bool.and_eq_true] at hc ⊢
    rw [h o (by omega) (by omega)]
    exact ⟨hc.1, ih ht.2 (fun j h1 h2 => h j (by omega) h2) hc.2⟩
  | arrS g k o sT nul T' PT sz df e rest ihe ih =>
    intro T n lo ht h hc
    simp only [Sch.tyR, Bool.and_eq_true, decide_eq_true_eq] at ht
    simp only [Sch.chkD, Bool.and_eq_true] at hc ⊢
    rw [h o (by omega) (by omega)]
    exact ⟨hc.1, ih ht.2 (fun j h1 h2 => h j (by omega) h2) hc.2⟩
  | sub g k o T' PT sz df e rest ihe ih =>
    intro T n lo ht h hc
    simp only [Sch.tyR, Bool.and_eq_true, decide_eq_true_eq] at ht
    simp only [Sch.chkD, Bool.and_eq_true] at hc ⊢
    refine ⟨ihe ht.1.1.1.2 (fun j h1 h2 => ?_) hc.1, ih ht.2 (fun j h1 h2 => h j (by omega) h2) hc.2⟩
    rw [List.getElem?_take, List.getElem?_take, if_pos h2, if_pos h2, List.getElem?_drop, List.getElem?_drop]
    exact h _ (by omega) (by omega)
  | opt g k o T' PT PP sz df e rest ihe ih =>
    intro T n lo ht h hc
    simp only [Sch.tyR, Bool.and_eq_true, decide_eq_true_eq] at ht
    simp only [Sch.chkD, Bool.and_eq_true] at hc ⊢
    rw [h o (by omega) (by omega)]
    exact ⟨hc.1, ih ht.2 (fun j h1 h2 => h j (by omega) h2) hc.2⟩
section
variable {P : Program} {C : CfgR}
def SoundR (P : Program) (C : CfgR) (S : Sch) : Prop := ∀ (T PT pv : Nat) (c : Ct) (Q : Post) (f : Nat → Value) (w : World) (b a n lo : Nat) (cc : Array Value) (e : TypeId) (ver : Int) (fl : Bool) (R : Rdr) (rs : RS),
  S.tyR P C T n lo = true → S.NeedR P C → FrR C R f pv b a ver fl c.l → (S.genR C T PT pv c).2.l ≤ c.t → StR C R b a n w cc e rs → S.chkD (segL cc a n) = true →
  (S.rd ver fl rs = none → ∀ f' w', f' 6 = R.ev → Ext (CB R b) w w' → Q .ret f' w') →
  (∀ x rs', S.rd ver fl rs = some (x, rs') → ∀ f' w' cc', RdTo C R b a n lo w cc e f c.l (S.genR C T PT pv c).2.l c.t rs' f' w' cc' → S.Rep w' (RK R) (segL cc' a n) x → Q .normal f' w') →
  (seqL (S.genR C T PT pv c).1).wp P Q f w
theorem genR_mono : ∀ (S : Sch) (T PT pv : Nat) (c : Ct), c.l ≤ (S.genR C T PT pv c).2.l ∧ c.t ≤ (S.genR C T PT pv c).2.t := by
  intro S
  induction S with
  | fin => intro T PT pv c; exact ⟨Nat.le_refl _, Nat.le_refl _⟩
  | tags k o => intro T PT pv c; exact ⟨Nat.le_refl _, by simp [Sch.genR]⟩
  | prim g k o p en d rest ih =>
    intro T PT pv c
    simp only [Sch.genR]
    split
    · have := ih T PT pv ⟨c.l + 1, c.t + gdN g + readN C p + 4, c.k⟩
      constructor
      · exact Nat.le_trans (by simp) this.1
      · exact Nat.le_trans (by simp; omega) this.2
    · have := ih T PT pv ⟨c.l + 3, c.t + gdN g + 7, c.k⟩
      constructor
      · exact Nat.le_trans (by simp) this.1
      · exact Nat.le_trans (by simp; omega) this.2
  | arrP g k o sT nul p rest ih =>
    intro T PT pv c
    simp only [Sch.genR]
    have := ih T PT pv ⟨c.l + 5, c.t + gdN g + headN C nul + 5 + readN C p + 4 + 5, c.k + 2⟩
    constructor
    · exact Nat.le_trans (by simp) this.1
    · exact Nat.le_trans (by simp; omega) this.2
  | arrS g k o sT nul T' PT' sz df e rest ihe ih =>
    intro T PT pv c
    simp only [Sch.genR]
    have h1 := ihe T' PT' (c.l + 5) ⟨c.l + 6, c.t + gdN g + headN C nul + 11, c.k + 2⟩
    generalize e.genR C T' PT' (c.l + 5) ⟨c.l + 6, c.t + gdN g + headN C nul + 11, c.k + 2⟩ = z at *
    obtain ⟨eb, c1⟩ := z
    have := ih T PT pv ⟨c1.l, c1.t + 5, c1.k⟩
    simp only at h1 this ⊢
    omega
  | sub g k o T' PT' sz df e rest ihe ih =>
    intro T PT pv c
    simp only [Sch.genR]
    have h1 := ihe T' PT' (c.l + 1) ⟨c.l + 2, c.t + gdN g + 6, c.k⟩
    generalize e.genR C T' PT' (c.l + 1) ⟨c.l + 2, c.t + gdN g + 6, c.k⟩ = z at *
    obtain ⟨eb, c1⟩ := z
    have := ih T PT pv c1
    simp only at h1 this ⊢
    omega
  | opt g k o T' PT' PP sz df e rest ihe ih =>
    intro T PT pv c
    simp only [Sch.genR]
    have h1 := ihe T' PT' (c.l + 2) ⟨c.l + 3, c.t + gdN g + 17, c.k⟩
    generalize e.genR C T' PT' (c.l + 2) ⟨c.l + 3, c.t + gdN g + 17, c.k⟩ = z at *
    obtain ⟨eb, c1⟩ := z
    have := ih T PT pv c1
    simp only at h1 this ⊢
    omega
theorem RdTo.refl {R : Rdr} {b a n lo : Nat} {w : World} {cc : Array Value} {e : TypeId} {f f' : Nat → Value} {l m t : Nat} {rs : RS} (h : StR C R b a n w cc e rs) (hk : KeepR f f' l m t) : RdTo C R b a n lo w cc e f l m t rs f' w cc :=
  ⟨Ext.refl _ _, h, rfl, fun _ _ => rfl, hk⟩
/-- only the reader has turned -/
theorem RdTo.read {R : Rdr} {b a n lo : Nat} {w w' : World} {cc : Array Value} {e : TypeId} {f f' : Nat → Value} {l m t : Nat} {rs rs' : RS} (h : StR C R b a n w cc e rs) (he : Ext (· = R.pb) w w') (hr : RdAt C.E.tRd w' R.pb R.D rs') (hk : KeepR f f' l m t) : RdTo C R b a n lo w cc e f l m t rs' f' w' cc :=
  ⟨he.mono (fun _ _ h => .inl h), h.ext1 he hr, rfl, fun _ _ => rfl, hk⟩
theorem over_one {cc : Array Value} {o : Nat} {v : Value} (h : o < cc.size) : over cc o [v] = cc.setIfInBounds o v := by
  apply Array.ext_getElem?
  intro j
  simp only [over, List.length_singleton, List.getElem?_toArray, List.append_assoc]
  rw [Array.getElem?_setIfInBounds]
  by_cases h1 : j < o
  · rw [List.getElem?_append_left (by simp; omega), if_neg (by omega), List.getElem?_take, if_pos h1]; simp
  · rw [List.getElem?_append_right (by simp; omega)]
    have hl : (cc.toList.take o).length = o := by simp; omega
    rw [hl]
    by_cases h2 : j = o
    · subst h2; simp [h]
    · rw [if_neg (by omega), List.getElem?_append_right (by simp; omega)]
      simp only [List.length_singleton, List.getElem?_drop, Array.getElem?_toList]
      congr 1; omega
theorem soundR_fin : SoundR P C .fin := by
  intro T PT pv c Q f w b a n lo cc e ver fl R rs hty hN hf hc hs hd h0 h1
  exact h1 () rs rfl f w cc (RdTo.refl hs (KeepR.refl _ _ _ _)) trivial
theorem soundR_tags (ht : TyR P C) (k o : Nat) : SoundR P C (.tags k o) := by
  intro T PT pv c Q f w b a n lo cc e ver fl R rs hty hN hf hc hs hd h0 h1
  simp only [Sch.tyR, Bool.and_eq_true, beq_iff_eq, decide_eq_true_eq] at hty
  obtain ⟨⟨⟨hx, hF⟩, hlo⟩, hn⟩ := hty
  have hlt : c.l ≤ c.t := hc
  have hn10 := hf.nN
  have hpt := hf.ptrN
  have hnil := isNilMap_spec hd
  refine seqL_one ?_
  refine r_cond (hf.flg hx) (by omega) ?_ ?_
  · rintro rfl f1 hk1
    refine wp_reg ?_
    have p1 : f1 pv = .pointer (some ⟨b, a, none⟩) := (hk1 pv (by omega)).trans hf.ptr
    have hrs := hf.rsN
    have p7 : f1 C.rs = .pointer (some ⟨R.pb, 0, none⟩) := (hk1 C.rs (by omega)).trans hf.rd
    have z7 : ∀ n, (C.rs = c.t + n) = False := by intro n; simp; omega
    have zp : ∀ n, (pv = c.t + n) = False := by intro n; simp; omega
    simp [p1, p7, z7, zp]
    refine (hN w R.pb R.D rs hs.rw_.ne.1 (Nat.lt_of_lt_of_le hs.rw_.lt.2.2.1 hs.rw_.lt.2.2.2) hs.rd).mono ?_
    rintro _ w1 ⟨⟨v, rfl, hv⟩, he1, hr1⟩
    have hs1 := hs.ext1 he1 hr1
    have hv1 : v.oneCell' = true := by
      rcases hv with ⟨rfl, _⟩ | ⟨_, _, _, rfl, _⟩ <;> rfl
    have hK : ∀ k, k = R.D ∨ w.heap.size ≤ k → RK R k := by
      rintro k (h | h)
      · exact .inl h
      · exact .inr (Nat.le_trans hs.rw_.lt.2.2.2 h)
    have huc : v.cells = #[v] := by cases v <;> simp_all [Value.oneCell', Value.cells]
    have hfit := hs1.fit
    simp [hF, Addr.add_mk, store_agg ht.kTags, allOne, hv1, putK_blk hs1.blk, over_one (show a + o < cc.size by omega)]
    refine ⟨by omega, ?_⟩
    have hput := put_one (cc := cc) (o := a + o) hv1 (by omega)
    refine h1 (rdTags rs).1 (rdTags rs).2 rfl _ _ _ ((RdTo.read hs he1 hr1 (KeepR.refl _ _ _ _)).trans (RdTo.put hs1 hput hlo (by rw [huc]; exact hn) (l := c.l) (m := c.l) (t := c.t) ?_) (Nat.le_refl _) (Nat.le_refl _) (Nat.le_refl _) (Nat.le_refl _)) ?_
    · intro y hy1 hy
      have x3 : ∀ n, (y = c.t + n) = False := by intro n; simp; omega
      simp [x3]
      exact hk1 y (by omega)
    · refine ⟨v, ?_, ?_⟩
      · rw [segL_get (by omega)]
        simp [Array.getElem?_setIfInBounds]; omega
      · have hE : Ext (fun k => k = b) w1 (w1.setBlk b (.cells (cc.setIfInBounds (a + o) v) e (0, 0))) := (Ext.refl (fun k => k = b) w1).setBlk (b := b) (Or.inr rfl) _
        exact TagsAt.ext hE (fun k hk1 hk2 hk3 => hs1.rw_.keepK k hk1 hk2 (.inr hk3)) (TagsAt.mono hK hv)
  · rintro rfl f1 hk1
    refine h1 [] rs rfl f1 w cc (RdTo.refl hs (fun y _ hy => hk1 y (by omega))) ⟨_, hnil, .inl ⟨rfl, rfl⟩⟩
/-- var t E; {v := b.Int8(); t = E(v)}; v := t; s.F = v -/
theorem r_enum (ht : TyR P C) {T PT pv k o l t b a n en : Nat} {R : Rdr} {Q : Post} {f : Nat → Value} {w : World} {ver : Int} {fl : Bool} {cc : Array Value} {e : TypeId} {rs : RS} (hP : PrimR P C .i8) (hs : StR C R b a n w cc e rs) (hf : FrR C R f pv b a ver fl l)
    (hF : fldOff P T k = some o) (hk : isScl (kindOf P en) = true) (hl : l + 3 ≤ t) (hn : o + 1 ≤ n)
    (h : ∀ f' w2 u cc', Prim.i8.rep1 w2 (RK R) u (Prim.i8.rd fl rs).1 → Ext (· = R.pb) w w2 → RdAt C.E.tRd w2 R.pb R.D (Prim.i8.rd fl rs).2 → Put cc (a + o) u cc' → (∀ y, y < t → (y < l ∨ l + 3 ≤ y) → f' y = f y) → Q .normal f' (w2.setBlk b (.cells cc' e (0, 0)))) :
    (seqL [.reg [⟨none, some l, .assign (.const (.int .i8 0)), en⟩], seqL [callR C .i8 (Prim.i8.fR C.E false) (l + 1) t, .reg [⟨none, some (t + 1), .move (.tmp (l + 1)), Prim.i8.ty C.E⟩, ⟨none, some l, .assign (.tmp (t + 1)), en⟩]],
        .reg [⟨none, some (t + 2), .move (.tmp l), en⟩, ⟨none, some (l + 2), .assign (.tmp (t + 2)), en⟩], .reg (storeT C T PT pv k en (l + 2) (t + 3))]).wp P Q f w := by
  have hn10 := hf.nN
  have hpt := hf.ptrN
  have hfit := hs.fit
  refine seqL_cons ?_
  refine wp_reg ?_
  simp
  generalize hfa : upd f l (.int .i8 0) = fa
  have ka : ∀ y, y ≠ l → fa y = f y := fun y hy => by subst hfa; rw [upd_apply, if_neg hy]
  show (seqL _).wp P _ fa w
  refine seqL_cons ?_
  refine seqL_cons ?_
  have hcall := hP false (by simp) w R.pb R.D rs hs.rw_.ne.1 (Nat.lt_of_lt_of_le hs.rw_.lt.2.2.1 hs.rw_.lt.2.2.2) hs.rd
  refine r_call ht (fun h => by cases h) (x := (Prim.i8.rd fl rs).1) (rs' := (Prim.i8.rd fl rs).2) hs ((ka C.rs (by have := hf.rsN; omega)).trans hf.rd) (by omega) (by omega) hcall ?_
  intro f2 w2 u hu hrep he2 hr2 hk2
  have hs2 := hs.ext1 he2 hr2
  have hul : f2 (l + 1) = u := by simpa [LocVal] using hu
  have hu1 : u.oneCell' = true := by have := rep1_one hrep; simpa using this
  show (Ir.reg _).wp P _ f2 w2
  refine wp_reg ?_
  simp [hul]
  show (seqL _).wp P _ _ w2
  refine seqL_cons ?_
  refine wp_reg ?_
  have z1 : ∀ n, (l = t + n) = False := by intro n; simp; omega
  simp [z1]
  show (Ir.reg _).wp P _ _ w2
  refine r_storeT (u := u) (o := o) (b := b) (a := a) (cc := cc) (e := e) ?_ hF hk ?_ hu1 (by omega) (by omega) hs2.blk (by omega) ?_
  · have x3 : ∀ n, (pv = t + n) = False := by intro n; simp; omega
    have x4 : ∀ n, (pv = l + n) = False := by intro n; simp; omega
    have x5 : (pv = l) = False := by simp; omega
    simp [x3, x4, x5]
    rw [hk2 pv (by omega) (by omega), ka pv (by omega)]
    exact hf.ptr
  · simp
  · intro f3 cc3 hput hk3
    refine h f3 w2 u cc3 hrep he2 hr2 hput ?_
    intro y hy hy2
    have x3 : ∀ n, (y = t + n) = False := by intro n; simp; omega
    have x4 : (y = l + 2) = False := by simp; omega
    have x5 : (y = l) = False := by simp; omega
    rw [hk3 y (by omega)]
    simp [x3, x4, x5]
    rw [hk2 y (by omega) (by omega), ka y (by omega)]
theorem soundR_prim (ht : TyR P C) (g : Gd) (k o : Nat) (p : Prim) (en : Nat) (d : Int) (rest : Sch) (ih : SoundR P C rest) : SoundR P C (.prim g k o p en d rest) := by
  intro T PT pv c Q f w b a n lo cc e ver fl R rs hty hN hf hc hs hd h0 h1
  simp only [Sch.tyR, Bool.and_eq_true, beq_iff_eq, decide_eq_true_eq] at hty
  obtain ⟨⟨⟨⟨⟨hF, hk⟩, hen⟩, hlo⟩, hn⟩, htr⟩ := hty
  obtain ⟨hNp, hNr⟩ := hN
  simp only [Sch.chkD, Bool.and_eq_true] at hd
  have hn10 := hf.nN
  have hpt := hf.ptrN
  have hfit := hs.fit
  -- what comes behind
  have behind : ∀ (c' : Ct) (f1 : Nat → Value) (w1 : World) (cc1 : Array Value) (rs1 : RS) (x : p.T), c.l ≤ c'.l → c.t ≤ c'.t → (rest.genR C T PT pv c').2.l ≤ c'.t →
      (Sch.rd ver fl (.prim g k o p en d rest) rs = (rest.rd ver fl rs1).map fun y => ((x, y.1), y.2)) →
      RdTo C R b a n lo w cc e f c.l c'.l c.t rs1 f1 w1 cc1 → (∀ j, (j < a + lo ∨ a + o + p.sz ≤ j) → cc1[j]? = cc[j]?) → FldAt w1 R (segL cc1 a n) o p x →
      (∀ x rs', Sch.rd ver fl (.prim g k o p en d rest) rs = some (x, rs') → ∀ f' w' cc', RdTo C R b a n lo w cc e f c.l (rest.genR C T PT pv c').2.l c.t rs' f' w' cc' → Sch.Rep w' (RK R) (.prim g k o p en d rest) (segL cc' a n) x → Q .normal f' w') →
      (seqL (rest.genR C T PT pv c').1).wp P Q f1 w1 := by
    intro c' f1 w1 cc1 rs1 x hl htt hc' hrd hto hsame hfld h1
    have hd1 : rest.chkD (segL cc1 a n) = true := by
      refine chkD_congr rest htr (fun j hj1 hj2 => ?_) hd.2
      rw [segL_get hj2, segL_get hj2]
      exact hsame _ (by omega)
    refine ih T PT pv c' Q f1 w1 b a n (o + p.sz) cc1 e ver fl R rs1 htr hNr ((hf.keep hto.keep.keeps (Nat.le_refl _)).up hl) hc' hto.st hd1 ?_ ?_
    · intro hnone f2 w2 h6 he2
      exact h0 (by rw [hrd, hnone]; rfl) f2 w2 h6 (hto.ext.trans he2)
    · intro y rs2 hy f2 w2 cc2 hto2 hrep2
      refine h1 (x, y) rs2 (by rw [hrd, hy]; rfl) f2 w2 cc2 (hto.trans hto2 (by omega) hl (genR_mono (C := C) rest T PT pv c').1 htt) ⟨?_, hrep2⟩
      exact hfld.move hto2.ext hto.st.rw_.keepK (fun j hj1 hj2 => by rw [segL_get (by omega), segL_get (by omega)]; exact hto2.same _ (.inl (by omega)))
  have hK : ∀ k, k < w.heap.size → RK R k → ¬ CB R b k := hs.rw_.keepK
  by_cases he : en = 0
  · subst he
    simp only [Sch.genR, if_true] at hc h1 ⊢
    have hm := (genR_mono (C := C) rest T PT pv ⟨c.l + 1, c.t + gdN g + readN C p + 4, c.k⟩).1
    simp only at hm
    refine seqL_cons ?_
    refine w_guard ht.c (show f 8 = _ from hf.ver) (show 8 < c.t by omega) (by omega) ?_ ?_
    · intro hon f1 hk1 h11
      have hf1 := hf.keep hk1 (by omega)
      refine seqL_append ?_
      refine r_read ht (kOk_uu hk) hNp hs hf1 (by omega) ?_
      intro f2 w2 u hu hrep he2 hr2 hk2
      have hs2 := hs.ext1 he2 hr2
      have hsz := rep1_sz hrep
      refine seqL_one ?_
      refine r_store ht (o := o) ((hk2 pv (by omega) (by omega)).trans hf1.ptr) hF hk hu (rep1_one hrep) (by omega) (by omega) hs2.blk (by rw [hsz]; omega) ?_
      intro f3 cc3 hput hk3
      refine behind ⟨c.l + 1, c.t + gdN g + readN C p + 4, c.k⟩ f3 _ cc3 (p.rd fl rs).2 (p.rd fl rs).1 (by simp) (by simp; omega) (by simp only; omega) ?_ ?_ ?_ ?_ h1
      · simp only [Sch.rd, if_pos hon]; rfl
      · refine (RdTo.read (lo := lo) hs he2 hr2 (KeepR.refl _ c.l (c.l + 1) c.t)).trans (RdTo.put hs2 hput hlo (by rw [hsz]; exact hn) (l := c.l) (m := c.l + 1) (t := c.t) ?_) (Nat.le_refl _) (Nat.le_refl _) (Nat.le_refl _) (Nat.le_refl _)
        intro y hy1 hy
        rw [hk3 y (by omega), hk2 y (by omega) (by omega)]
        exact hk1 y (by omega) hy1
      · intro j hj
        exact hput.same j (by rw [hsz]; omega)
      · exact FldAt.put hs2 hput (by rw [hsz]; exact hn) hrep
    · intro hoff f1 hk1 h11
      refine behind ⟨c.l + 1, c.t + gdN g + readN C p + 4, c.k⟩ f1 w cc rs (p.dfl d) (by simp) (by simp; omega) (by simp only; omega) ?_ (RdTo.refl hs (KeepR.of hk1 (by omega))) (fun _ _ => rfl) (Prim.repD p d hd.1) h1
      simp only [Sch.rd, hoff, Bool.false_eq_true, if_false]; rfl
  · have hen' : p = .i8 ∧ isScl (kindOf P en) = true := by
      simp only [Bool.or_eq_true, beq_iff_eq, Bool.and_eq_true] at hen
      rcases hen with h | h
      · exact absurd h he
      · exact h
    obtain ⟨rfl, hken⟩ := hen'
    simp only [Sch.genR, if_neg he] at hc h1 ⊢
    have hm := (genR_mono (C := C) rest T PT pv ⟨c.l + 3, c.t + gdN g + 7, c.k⟩).1
    simp only at hm
    refine seqL_cons ?_
    refine w_guard ht.c (show f 8 = _ from hf.ver) (show 8 < c.t by omega) (by omega) ?_ ?_
    · intro hon f1 hk1 h11
      have hf1 := hf.keep hk1 (by omega)
      refine r_enum ht (o := o) hNp hs hf1 hF hken (by omega) hn ?_
      intro f3 w2 u cc3 hrep he2 hr2 hput hk3
      have hs2 := hs.ext1 he2 hr2
      have hsz := rep1_sz hrep
      refine behind ⟨c.l + 3, c.t + gdN g + 7, c.k⟩ f3 _ cc3 (Prim.i8.rd fl rs).2 (Prim.i8.rd fl rs).1 (by simp) (by simp; omega) (by simp only; omega) ?_ ?_ ?_ ?_ h1
      · simp only [Sch.rd, if_pos hon]; rfl
      · refine (RdTo.read (lo := lo) hs he2 hr2 (KeepR.refl _ c.l (c.l + 3) c.t)).trans (RdTo.put hs2 hput hlo (by rw [hsz]; exact hn) (l := c.l) (m := c.l + 3) (t := c.t) ?_) (Nat.le_refl _) (Nat.le_refl _) (Nat.le_refl _) (Nat.le_refl _)
        intro y hy1 hy
        rw [hk3 y (by omega) (by omega)]
        exact hk1 y (by omega) hy1
      · intro j hj
        exact hput.same j (by rw [hsz]; omega)
      · exact FldAt.put hs2 hput (by rw [hsz]; exact hn) hrep
    · intro hoff f1 hk1 h11
      refine behind ⟨c.l + 3, c.t + gdN g + 7, c.k⟩ f1 w cc rs (Prim.i8.dfl d) (by simp) (by simp; omega) (by simp only; omega) ?_ (RdTo.refl hs (KeepR.of hk1 (by omega))) (fun _ _ => rfl) (Prim.repD .i8 d hd.1) h1
      simp only [Sch.rd, hoff, Bool.false_eq_true, if_false]; rfl
end
end Go.Kg

set_option linter.unusedSimpArgs false
set_option linter.unusedVariables false
set_option linter.unusedSectionVars false
namespace Go.Kg
open Go
theorem intKind_und {P : Program} {T : Nat} {k : IntKind} (h : intKind? P T = some k) : P.underlying T = some (.int k) := by
  unfold intKind? at h
  split at h
  · rename_i k' hu; cases h; exact hu
  · cases h
theorem sliZ_spec {P : Program} {sT : Nat} {z : Array Value} (h : sliZ P sT = some z) : ∃ e i v, P.underlying sT = some (.slice e) ∧ P.info? e = some i ∧ i.bytes ≤ 131072 ∧ 0 < i.size ∧ i.zero = some v ∧ v.cells = z ∧ z.size = i.size := by
  unfold sliZ at h
  split at h
  · rename_i e hu
    split at h
    · rename_i i hi
      split at h
      · rename_i hb
        split at h
        · rename_i v hv
          split at h
          · rename_i hs
            cases h
            exact ⟨e, i, v, hu, hi, hb.1, hb.2, hv, rfl, hs⟩
          · cases h
        · cases h
      · cases h
    · cases h
  · cases h
theorem zeroCells_get {z : Array Value} {n i j : Nat} (hi : i < n) (hj : j < z.size) (more : Array Value) : (Builtin.zeroCells z n ++ more)[i * z.size + j]? = z[j]? := by
  have hlt : i * z.size + j < n * z.size := by
    have h1 : (i + 1) * z.size ≤ n * z.size := Nat.mul_le_mul_right _ hi
    rw [Nat.add_mul] at h1
    omega
  have hs : (Builtin.zeroCells z n).size = n * z.size := size_zeroCells z n
  rw [Array.getElem?_append_left (by omega)]
  simp only [Builtin.zeroCells, Array.getElem?_map]
  rw [Array.getElem?_range]
  simp [hlt]
  rw [Nat.mod_eq_of_lt hj]
  simp [hj, getElem!_pos]
/-- append(nil, make([]T, n)...) -/
theorem st_appz {P : Program} {f : Nat → Value} {w : World} {sT tn ty : Nat} {z : Array Value} {kn : IntKind} {x y : Operand} {K : Value → World → Prop} {lv : Int} (hz : sliZ P sT = some z) (htn : intKind? P tn = some kn) (hx : evF f x = .slice none 0 0) (hy : evF f y = .int .i32 lv) (h0 : 0 < lv) (h1 : lv < 2147483648)
    (h : ∀ cap more e, lv.toNat ≤ cap → K (.slice (some ⟨w.heap.size, 0, none⟩) lv.toNat cap) (w.drew.alloc (.cells (Builtin.zeroCells z lv.toNat ++ more) e))) :
    stepF P f (.call { callee := .builtin .append, args := #[x, y], argTypes := #[sT, tn] }) ty w K := by
  obtain ⟨e, i, v, hu, hi, hb, hs, hv, rfl, hzs⟩ := sliZ_spec hz
  have hn : ((lv.toNat : Nat) : Int) = lv := by omega
  have h48 : lv.toNat * i.bytes ≤ 281474976710656 := by
    have : lv.toNat * i.bytes ≤ 2147483648 * 131072 := Nat.mul_le_mul (by omega) hb
    omega
  have hr := Lib.run_append_nil_zeros (P := P) w sT tn ty e i v .i32 kn hu (intKind_und htn) hi hv lv.toNat (by omega) hs (by omega) h48
  rw [hn] at hr
  rw [stepF_ok (v := .slice (some ⟨w.heap.size, 0, none⟩) lv.toNat (grownCap w lv.toNat 0 e)) (w' := w.drew.alloc (.cells (Builtin.zeroCells v.cells lv.toNat ++ Builtin.zeroCells v.cells (grownCap w lv.toNat 0 e - lv.toNat)) e))]
  · exact h _ _ _ (grownCap_ge w lv.toNat 0 e)
  · simp only [runF, execOp, resolve, invoke, builtin, Sem.run_bind, Sem.run_pure, Result.andThen_ok, List.map_toArray, List.map_cons, List.map_nil, hx, hy, hr]
section
variable {P : Program} {C : CfgR} {R : Rdr}
/-- What a list's head leaves: the row of a list that is not empty. -/
structure Row (z : Array Value) (w w' : World) (N : Nat) (av : Value) (ab : Nat) (cur : Array Value) (et : TypeId) : Prop where
  av : ∃ cap, av = .slice (some ⟨ab, 0, none⟩) N cap ∧ N ≤ cap
  new : w.heap.size ≤ ab
  blk : w'.heap[ab]? = some (.cells cur et (0, 0))
  fit : N * z.size ≤ cur.size
  zero : ∀ i, i < N → segL cur (i * z.size) z.size = z.toList
/-- what a list is that has nothing in it -/
def NulPost (nul : Option Nat) (lv : Int) (w w' : World) (av : Value) : Prop := if nul.isSome = true ∧ lv = 0 then ∃ ab, av = .slice (some ⟨ab, 0, none⟩) 0 0 ∧ w.heap.size ≤ ab ∧ ab < w'.heap.size else av = .slice none 0 0
def HeadPost (nul : Option Nat) (z : Array Value) (lv : Int) (w w' : World) (av : Value) : Prop := if 0 < lv then ∃ ab cur et, Row z w w' lv.toNat av ab cur et else NulPost nul lv w w' av
theorem lenRd_lt (fl : Bool) (rs : RS) : (lenRd fl rs).1 < 2147483648 ∧ -2147483648 ≤ (lenRd fl rs).1 := by
  have cap : ∀ n rs, n < 2147483648 ∧ -2147483648 ≤ n → (capLen n rs).1 < 2147483648 ∧ -2147483648 ≤ (capLen n rs).1 := by
    intro n rs h; unfold capLen; split
    · simp
    · exact h
  cases fl
  · exact cap _ _ (by simp [i32, IntKind.wrap, IntKind.signed, IntKind.bits]; omega)
  · exact cap _ _ (by simp [i32, IntKind.wrap, IntKind.signed, IntKind.bits]; omega)
theorem cellsAt_seg {w : World} {b a n : Nat} {cc : Array Value} {e : TypeId} {fz : Nat × Nat} (h : w.heap[b]? = some (.cells cc e fz)) : CellsAt w b a (segL cc a n) := by
  intro j u hj
  have hj' : j < n := by
    rcases Nat.lt_or_ge j n with h1 | h1
    · exact h1
    · rw [segL_none h1] at hj; cases hj
  rw [cell_of_blk h]
  rwa [segL_get hj'] at hj
variable {Q : Post} {f : Nat → Value} {w : World}
/-- l = b.ArrayLen() -/
theorem r_len {l t b a n : Nat} {fl : Bool} {cc : Array Value} {e : TypeId} {rs : RS} (hN : LenRC P C) (hs : StR C R b a n w cc e rs) (hff : C.fx = true → f 9 = .bool fl) (hfn : C.fx = false → fl = false) (hrt : C.rs < t) (h7 : f C.rs = .pointer (some ⟨R.pb, 0, none⟩)) (hl : l < t) (hl9 : 9 < l)
    (h : ∀ f' w', f' l = .int .i32 (lenRd fl rs).1 → Ext (· = R.pb) w w' → RdAt C.E.tRd w' R.pb R.D (lenRd fl rs).2 → (∀ y, y < t → y ≠ l → f' y = f y) → Q .normal f' w') : (lenIR C l t).wp P Q f w := by
  have main : ∀ (f1 : Nat → Value) (t1 : Nat) (fl' : Bool), (fl' = true → C.fx = true) → fl' = fl → t ≤ t1 → (∀ y, y < t → f1 y = f y) →
      (Ir.reg [⟨none, some t1, .call { callee := .value (.func (if fl' then C.E.f_pkbin_Reader_CompactArrayLen else C.E.f_pkbin_Reader_ArrayLen)), args := #[.tmp C.rs], argTypes := #[C.E.tRd] }, C.E.tI32⟩, ⟨none, some l, .assign (.tmp t1), C.E.tI32⟩]).wp P Q f1 w := by
    rintro f1 t1 fl' hx rfl ht1 hk
    refine wp_reg ?_
    have z7 := (hk C.rs (by omega)).trans h7
    simp [z7]
    refine (hN fl' hx w R.pb R.D rs hs.rw_.ne.1 hs.rd).mono ?_
    rintro v w1 ⟨rfl, he, hr⟩
    refine h _ _ (by simp) he hr ?_
    intro y hy hyl
    have x4 : (y = t1) = False := by simp; omega
    simp [x4, hyl]
    exact hk y hy
  unfold lenIR
  by_cases hx : C.fx = true
  · simp only [if_pos hx]
    refine r_cond (hff hx) (by omega) ?_ ?_
    · rintro rfl f1 hk
      exact main f1 (t + 1) true (fun _ => hx) rfl (by omega) hk
    · rintro rfl f1 hk
      exact main f1 (t + 2) false (by simp) rfl (by omega) hk
  · have hx' : C.fx = false := by simpa using hx
    simp only [if_neg hx]
    have := hfn hx'
    subst this
    exact main f t false (by simp) rfl (Nat.le_refl _) (fun _ _ => rfl)
/-- return b.Complete(), where the reader is bad -/
theorem r_complete {t b a n : Nat} {cc : Array Value} {e : TypeId} {rs : RS} (hE : EndC P C) (hs : StR C R b a n w cc e rs) (h7 : f C.rs = .pointer (some ⟨R.pb, 0, none⟩))
    (h : ∀ f', f' 6 = (if rs.bad then R.ev else .nilIface) → Q .ret f' w) : (seqL (completeI C t)).wp P Q f w := by
  refine seqL_cons ?_
  refine wp_reg ?_
  simp [h7]
  refine (hE.complete w R.pb R.D rs R.ev hs.rd (fun _ => hs.rw_.err)).mono ?_
  rintro v w1 ⟨rfl, rfl⟩
  exact h _ (by simp)
/-- if !b.Ok() {return b.Complete()} -/
theorem r_ok {t b a n : Nat} {cc : Array Value} {e : TypeId} {rs : RS} (hE : EndC P C) (hs : StR C R b a n w cc e rs) (h7 : f C.rs = .pointer (some ⟨R.pb, 0, none⟩)) (ht : C.rs < t)
    (h0 : rs.bad = true → ∀ f', f' 6 = R.ev → Q .ret f' w) (h1 : rs.bad = false → ∀ f', (∀ y, y < t → f' y = f y) → Q .normal f' w) : (okI C t).wp P Q f w := by
  refine wp_seqI (wp_reg ?_)
  simp [h7]
  refine (hE.ok w R.pb R.D rs hs.rd).mono ?_
  rintro v w1 ⟨rfl, rfl⟩
  simp
  cases hb : rs.bad
  · refine .inr ⟨by simp, ?_⟩
    refine h1 hb _ ?_
    intro y hy
    have x3 : ∀ n, (y = t + n) = False := by intro n; simp; omega
    have x4 : (y = t) = False := by simp; omega
    simp [x3, x4]
  · refine .inl ⟨by simp, ?_⟩
    have z7 : ∀ n, (C.rs = t + n) = False := by intro n; simp; omega
    have z7' : (C.rs = t) = False := by simp; omega
    refine r_complete hE hs (by simp [z7, z7', h7]) ?_
    intro f' h6
    exact h0 hb f' (by rw [h6, hb]; rfl)
end
end Go.Kg

set_option linter.unusedSimpArgs false
set_option linter.unusedVariables false
set_option linter.unusedSectionVars false
namespace Go.Kg
open Go
section
variable {P : Program} {C : CfgR} {R : Rdr} {Q : Post} {f : Nat → Value} {w : World}
/-- if version < 0 || l == 0 {a = []T{}} -/
def nulL (C : CfgR) (nul : Option Nat) (sT l t : Nat) : List Ir := match nul with
  | none => []
  | some m => [nulI C m sT l t]
theorem r_nul {nul : Option Nat} {sT l t : Nat} {ver lv : Int} {z : Array Value} (hnz : nulZ C.fx nul = true) (hz : sliZ P sT = some z) (hv0 : C.fx = true → 0 ≤ ver) (h8 : f 8 = .int .i16 ver) (hl8 : 8 < l) (hl : l + 3 ≤ t) (ha : f (l + 1) = .slice none 0 0) (hlv : f (l + 2) = .int .i32 lv)
    (h : ∀ f' w' av, f' (l + 1) = av → (∀ y, y < t → y ≠ l + 1 → f' y = f y) → Ext none1 w w' → NulPost nul lv w w' av → Q .normal f' w') : (seqL (nulL C nul sT l t)).wp P Q f w := by
  cases nul with
  | none => exact h f w _ ha (fun _ _ _ => rfl) (Ext.refl _ _) (by unfold NulPost; rw [if_neg (by simp)])
  | some m =>
    simp only [nulZ, Bool.and_eq_true, beq_iff_eq] at hnz
    obtain ⟨hfx, rfl⟩ := hnz
    have hv0' := hv0 hfx
    obtain ⟨e, i, v, hu, hi, hb, hs, hv, rfl, hzs⟩ := sliZ_spec hz
    have hS : SliI P sT e i.size i.bytes v := ⟨hu, ⟨i, hi, hv, rfl, rfl⟩, hzs⟩
    show (nulI C 0 sT l t).wp P Q f w
    have x8 : ∀ n, (8 = t + n) = False := by intro n; simp; omega
    have x8' : (8 = t) = False := by simp; omega
    have x2 : ∀ n, (l + 2 = t + n) = False := by intro n; simp; omega
    have x2' : (l + 2 = t) = False := by simp; omega
    have x1 : ∀ n, (l + 1 = t + n) = False := by intro n; simp; omega
    have x1' : (l + 1 = t) = False := by simp; omega
    have x0 : ∀ n, (l = t + n) = False := by intro n; simp; omega
    have x0' : (l = t) = False := by simp; omega
    have nv : ¬ ver < 0 := by omega
    refine wp_seqI (wp_reg ?_)
    simp [h8, x8, x8', x2, x2', x1, x1', x0, x0', hlv, nv]
    have kk : ∀ v1 v2 v3 v4 v5 v6, ∀ y, y < t → y ≠ l + 1 → upd (upd (upd (upd (upd (upd f t v1) (t + 1) v2) (t + 2) v3) (t + 3) v4) (t + 4) v5) (t + 5) v6 y = f y := by
      intro v1 v2 v3 v4 v5 v6 y hy hy2
      have y1 : ∀ n, (y = t + n) = False := by intro n; simp; omega
      have y2 : (y = t) = False := by simp; omega
      simp [y1, y2]
    by_cases h0 : lv = 0
    · refine .inl ⟨by simp [h0], ?_⟩
      refine wp_reg ?_
      simp [st_bsl0 hS]
      refine h _ _ (.slice (some ⟨w.heap.size, 0, none⟩) 0 0) (by simp) ?_ ((Ext.refl none1 w).alloc _) ?_
      · intro y hy hy2
        have y1 : ∀ n, (y = t + n) = False := by intro n; simp; omega
        have y2 : (y = t) = False := by simp; omega
        simp [y1, y2, hy2]
      · unfold NulPost
        rw [if_pos ⟨rfl, h0⟩]
        exact ⟨_, rfl, Nat.le_refl _, lt_of_heap alloc_new⟩
    · refine .inr ⟨by simp [h0], ?_⟩
      refine h _ w (.slice none 0 0) ?_ (kk _ _ _ _ _ _) (Ext.refl _ _) ?_
      · simp [x1, x1', x0, x0', ha]
      · unfold NulPost
        rw [if_neg (by simp [h0])]
/-- the head of a list's field, ahead of the question for null, and behind it -/
def headA (C : CfgR) (T PT pv k sT l t : Nat) : List Ir :=
  [loadI C.toCfg T PT pv k sT l t .i8, .reg [⟨none, some (t + 4), .move (.tmp l), sT⟩, ⟨none, some (l + 1), .assign (.tmp (t + 4)), sT⟩], .reg [⟨none, some (l + 2), .assign (.const (.int .i32 0)), C.E.tI32⟩], lenIR C (l + 2) (t + 5)]
def headB (C : CfgR) (sT l t2 : Nat) : List Ir :=
  [okI C t2, .reg [⟨none, some (t2 + 3), .move (.tmp (l + 1)), sT⟩, ⟨none, some (t2 + 4), .slice sT (.tmp (t2 + 3)) none (some (.const (.int .i64 0))) none, sT⟩, ⟨none, some (l + 1), .assign (.tmp (t2 + 4)), sT⟩],
   .seq (.reg [⟨none, some (t2 + 5), .move (.tmp (l + 2)), C.E.tI32⟩, ⟨none, some (t2 + 6), .binOp .gtr C.E.tI32 (.tmp (t2 + 5)) (.const (.int .i32 0)) C.E.tI32, C.E.tB⟩])
    (.cond (t2 + 6) (.reg [⟨none, some (t2 + 7), .move (.tmp (l + 1)), sT⟩, ⟨none, some (t2 + 8), .move (.tmp (l + 2)), C.E.tI32⟩,
      ⟨none, some (t2 + 9), .call { callee := .builtin .append, args := #[.tmp (t2 + 7), .tmp (t2 + 8)], argTypes := #[sT, C.E.tI32] }, sT⟩, ⟨none, some (l + 1), .assign (.tmp (t2 + 9)), sT⟩]) .skip)]
/-- A list's head: the field is nil. -/
theorem r_head (ht : TyR P C) {nul : Option Nat} (hnz : nulZ C.fx nul = true) {T PT pv k o sT l t b a n : Nat} {ver : Int} {fl : Bool} {cc : Array Value} {e : TypeId} {rs : RS} {z : Array Value} {sz : Nat} (hF : fldOff P T k = some o) (hk : isScl (kindOf P sT) = true) (hsz : sliSz P sT = some sz) (hz : sliZ P sT = some z)
    (hN : LenRC P C) (hE : EndC P C) (hs : StR C R b a n w cc e rs) (hf : FrR C R f pv b a ver fl l) (hl : l + 3 ≤ t) (hon : o < n) (hnil : (segL cc a n)[o]? = some (.slice none 0 0))
    (h0 : (lenRd fl rs).2.bad = true → ∀ f' w', f' 6 = R.ev → Ext (· = R.pb) w w' → Q .ret f' w')
    (h1 : (lenRd fl rs).2.bad = false → ∀ f' w' av, f' (l + 1) = av → f' (l + 2) = .int .i32 (lenRd fl rs).1 → HeadPost nul z (lenRd fl rs).1 w w' av → Ext (· = R.pb) w w' → RdAt C.E.tRd w' R.pb R.D (lenRd fl rs).2 → (∀ y, y < t → (y < l ∨ l + 3 ≤ y) → f' y = f y) → Q .normal f' w') :
    (seqL (headR C T PT pv k sT l t nul)).wp P Q f w := by
  have hn10 := hf.nN
  have hpt := hf.ptrN
  have hrs := hf.rsN
  have hnl : headR C T PT pv k sT l t nul = headA C T PT pv k sT l t ++ (nulL C nul sT l (t + 5 + lenIN C) ++ headB C sT l (t + 5 + lenIN C + nulN nul)) := by cases nul <;> rfl
  rw [hnl]
  refine seqL_append ?_
  unfold headA
  refine seqL_cons ?_
  show (loadI (Sch.genR.toR C) T PT pv k sT l t .i8).wp P _ f w
  refine w_load ht.c (fun h => by cases h) hf.ptr hF (kOk_scl hk) (cellsAt_seg hs.blk) (seg_one hnil rfl) (by simp [Value.oneCell']) (by omega) (by omega) ?_
  intro f2 w2 hv2 he2 hk2
  have hv2' : f2 l = .slice none 0 0 := loc_slice hv2
  have hs2 : StR C R b a n w2 cc e rs := hs.ext1 (he2.mono (fun _ _ h => h.elim)) (hs.rd.ext he2 (fun h => h) (fun h => h))
  -- a := v; var l int32
  show (seqL _).wp P _ f2 w2
  refine seqL_cons ?_
  refine wp_reg ?_
  have zl : (l = t + 4) = False := by simp; omega
  simp [hv2', zl]
  show (seqL _).wp P _ _ w2
  refine seqL_cons ?_
  refine wp_reg ?_
  simp
  generalize hf3 : upd (upd (upd f2 (t + 4) (.slice none 0 0)) (l + 1) (.slice none 0 0)) (l + 2) (.int .i32 0) = f3
  have k3 : ∀ y, y < t → (y < l ∨ l + 3 ≤ y) → f3 y = f y := by
    intro y hy hy2
    subst hf3
    have x1 : (y = l + 2) = False := by simp; omega
    have x2 : (y = l + 1) = False := by simp; omega
    have x3 : (y = t + 4) = False := by simp; omega
    simp [x1, x2, x3]
    exact hk2 y hy (by omega)
  have a3 : f3 (l + 1) = .slice none 0 0 := by subst hf3; simp
  show (lenIR C (l + 2) (t + 5)).wp P _ f3 w2
  refine r_len (fl := fl) hN hs2 (fun hx => (k3 9 (by omega) (by omega)).trans (hf.flg hx)) hf.flN (by omega) ((k3 C.rs (by omega) (by omega)).trans hf.rd) (by omega) (by omega) ?_
  intro f4 w4 hl4 he4 hr4 hk4
  have hs4 := hs2.ext1 he4 hr4
  have he24 : Ext (· = R.pb) w w4 := (he2.mono (fun _ _ h => h.elim)).trans he4
  have k4 : ∀ y, y < t → (y < l ∨ l + 3 ≤ y) → f4 y = f y := fun y hy hy2 => (hk4 y (by omega) (by omega)).trans (k3 y hy hy2)
  have a4 : f4 (l + 1) = .slice none 0 0 := (hk4 _ (by omega) (by omega)).trans a3
  have hlen := lenIN C
  generalize hT0 : t + 5 + lenIN C = t1 at *
  have ht1 : t + 5 ≤ t1 := by omega
  show (seqL _).wp P _ f4 w4
  refine seqL_append ?_
  refine r_nul hnz hz hf.v0 ((k4 8 (by omega) (by omega)).trans hf.ver) (by omega) (by omega) a4 hl4 ?_
  intro f6 w6 av0 a6 hk6 he6 hp6
  have hs6 : StR C R b a n w6 cc e (lenRd fl rs).2 := hs4.ext1 (he6.mono (fun _ _ h => h.elim)) (hr4.ext he6 (fun h => h) (fun h => h))
  have hr6 := hs6.rd
  have he26 : Ext (· = R.pb) w w6 := he24.trans (he6.mono (fun _ _ h => h.elim))
  have k6 : ∀ y, y < t → (y < l ∨ l + 3 ≤ y) → f6 y = f y := fun y hy hy2 => (hk6 y (by omega) (by omega)).trans (k4 y hy hy2)
  have l6 : f6 (l + 2) = .int .i32 (lenRd fl rs).1 := (hk6 _ (by omega) (by omega)).trans hl4
  generalize hT : t1 + nulN nul = t2 at *
  have ht2 : t1 ≤ t2 := by omega
  unfold headB
  show (seqL _).wp P _ f6 w6
  refine seqL_cons ?_
  refine r_ok hE hs6 ((k6 C.rs (by omega) (by omega)).trans hf.rd) (by omega) ?_ ?_
  · intro hb f5 h6
    exact h0 hb f5 w6 h6 he26
  · intro hb f5 hk5
    have k5 : ∀ y, y < t → (y < l ∨ l + 3 ≤ y) → f5 y = f y := fun y hy hy2 => (hk5 y (by omega)).trans (k6 y hy hy2)
    have a5 : f5 (l + 1) = av0 := (hk5 _ (by omega)).trans a6
    have l5 : f5 (l + 2) = .int .i32 (lenRd fl rs).1 := (hk5 _ (by omega)).trans l6
    show (seqL _).wp P _ f5 w6
    refine seqL_cons ?_
    refine wp_reg ?_
    have hsl : slice? P sT av0 none (some (.int .i64 0)) none = some av0 := by
      unfold NulPost at hp6
      split at hp6
      · obtain ⟨g, rfl, _⟩ := hp6; simp [slice?, hsz, Addr.add_mk]
      · subst hp6; simp [slice?, hsz]
    simp [a5, hsl]
    show (Ir.seq _ _).wp P _ _ w6
    refine wp_seqI (wp_reg ?_)
    have z2 : ∀ n, (l + 2 = t2 + n) = False := by intro n; simp; omega
    have z1 : ∀ n, (l + 1 = t2 + n) = False := by intro n; simp; omega
    have z0 : ∀ n, (l = t2 + n) = False := by intro n; simp; omega
    simp [z0, z1, z2, l5]
    have kk : ∀ v1 v2 v3 v4 v5, ∀ y, y < t → (y < l ∨ l + 3 ≤ y) → upd (upd (upd (upd (upd f5 (t2 + 3) v1) (t2 + 4) v2) (l + 1) v3) (t2 + 5) v4) (t2 + 6) v5 y = f y := by
      intro v1 v2 v3 v4 v5 y hy hy2
      have x1 : (y = l + 1) = False := by simp; omega
      have x3 : ∀ n, (y = t2 + n) = False := by intro n; simp; omega
      simp [x1, x3]
      exact k5 y hy hy2
    by_cases hp : 0 < (lenRd fl rs).1
    · have hav0 : av0 = .slice none 0 0 := by
        unfold NulPost at hp6
        rwa [if_neg (by omega)] at hp6
      subst hav0
      refine .inl ⟨by simp [hp], ?_⟩
      show (Ir.reg _).wp P _ _ w6
      refine wp_reg ?_
      simp [z0, z1, z2, l5]
      refine st_appz hz ht.i32 (lv := (lenRd fl rs).1) (by simp) (by simp) hp (lenRd_lt fl rs).1 ?_
      intro cap more et hcap
      have hE5 : Ext none1 w6 (w6.drew.alloc (.cells (Builtin.zeroCells z (lenRd fl rs).1.toNat ++ more) et)) := ((Ext.refl none1 w6).drew).alloc _
      refine h1 hb _ _ (.slice (some ⟨w6.heap.size, 0, none⟩) (lenRd fl rs).1.toNat cap) (by simp) (by simp [z0, z2, l5]) ?_ (he26.trans (hE5.mono (fun _ _ h => h.elim))) (hr6.ext hE5 (fun h => h) (fun h => h)) ?_
      · unfold HeadPost
        rw [if_pos hp]
        refine ⟨w6.heap.size, _, et, ⟨⟨cap, rfl, hcap⟩, he26.size, alloc_new, ?_, ?_⟩⟩
        · simp [size_zeroCells]
        · intro i hi
          apply List.ext_getElem?
          intro j
          by_cases hj : j < z.size
          · rw [segL_get hj, zeroCells_get hi hj]; simp
          · rw [segL_none (by omega)]; simp; omega
      · intro y hy hy2
        have x1 : (y = l + 1) = False := by simp; omega
        have x3 : ∀ n, (y = t2 + n) = False := by intro n; simp; omega
        simp [x1, x3]
        exact k5 y hy hy2
    · refine .inr ⟨by simp; omega, ?_⟩
      refine h1 hb _ w6 av0 (by simp [z0, z1]) (by simp [z0, z2, l5]) ?_ he26 hr6 (kk _ _ _ _ _)
      unfold HeadPost
      rw [if_neg hp]
      unfold NulPost at hp6 ⊢
      split at hp6
      · rename_i hc
        rw [if_pos hc]
        obtain ⟨g, h7, h8, h9⟩ := hp6
        exact ⟨g, h7, Nat.le_trans he24.size h8, h9⟩
      · rename_i hc
        rw [if_neg hc]; exact hp6
end
end Go.Kg

set_option linter.unusedSimpArgs false
set_option linter.unusedVariables false
set_option linter.unusedSectionVars false
namespace Go.Kg
open Go
section
variable {P : Program} {C : CfgR} {R : Rdr} {Q : Post} {f : Nat → Value} {w : World}
/-- for i := int32(0); i < l; i++ -/
theorem r_for {l t k N : Nat} {body : Ir} {lv : Int} (h32 : lv < 2147483648 ∧ -2147483648 ≤ lv) (hN : N = lv.toNat) (hl : l + 4 ≤ t) (h2 : f (l + 2) = .int .i32 lv) (J : Nat → (Nat → Value) → World → Prop)
    (hJ : ∀ i f f' w, (∀ x, x < t → x ≠ l + 3 → f' x = f x) → J i f w → J i f' w) (h0 : J 0 f w)
    (hb : ∀ i, i < N → ∀ f w, J i f w → f (l + 3) = .int .i32 i → f (l + 2) = .int .i32 lv → body.wp P (fun e f' w' => (e = .normal ∧ J (i + 1) f' w' ∧ f' (l + 3) = .int .i32 i ∧ f' (l + 2) = .int .i32 lv) ∨ (e = .ret ∧ Q .ret f' w')) f w)
    (h : ∀ f' w', J N f' w' → Q .normal f' w') : (forI C l t k body).wp P Q f w := by
  have z3 : ∀ n, (l + 3 = t + n) = False := by intro n; simp; omega
  have z2 : ∀ n, (l + 2 = t + n) = False := by intro n; simp; omega
  have z1 : ∀ n, (l + 1 = t + n) = False := by intro n; simp; omega
  have z0 : ∀ n, (l = t + n) = False := by intro n; simp; omega
  have z3' : (l + 3 = t) = False := by simp; omega
  have z2' : (l + 2 = t) = False := by simp; omega
  refine wp_seqI (wp_reg ?_)
  simp
  show (Ir.loop _).wp P _ _ _
  refine ⟨fun f w => ∃ i : Nat, i ≤ N ∧ f (l + 3) = .int .i32 i ∧ f (l + 2) = .int .i32 lv ∧ J i f w, fun f _ => match f (l + 3) with | .int _ i => ((N : Int) - i).toNat | _ => 0, ?_, ?_⟩
  · refine ⟨0, by omega, by simp, by simp [h2], hJ _ _ _ _ ?_ h0⟩
    intro x hx hx3
    simp [hx3]
  · rintro f w ⟨i, hi, h3, h2, hj⟩
    refine wp_seqI ?_
    refine wp_seqI (wp_reg ?_)
    simp [h2, h3, z2, z2', z3, z3']
    generalize hfa : upd (upd (upd f t (.int .i32 i)) (t + 1) (.int .i32 lv)) (t + 2) (.bool (decide ((i : Int) < lv))) = fa
    have ka : ∀ x, x < t → fa x = f x := by
      intro x hx
      subst hfa
      have x3 : ∀ n, (x = t + n) = False := by intro n; simp; omega
      have x4 : (x = t) = False := by simp; omega
      simp [x3, x4]
    have hja : J i fa w := hJ _ _ _ _ (fun x hx _ => ka x hx) hj
    by_cases hlt : (i : Int) < lv
    · refine .inl ⟨by subst hfa; simp [hlt], ?_⟩
      show (Ir.seq _ _).wp P _ _ _
      refine wp_seqI ?_
      show body.wp P _ _ _
      refine Ir.wp_mono body ?_ (hb i (by omega) fa w hja ((ka _ (by omega)).trans h3) ((ka _ (by omega)).trans h2))
      rintro e f' w' (⟨rfl, hj', h3', h2'⟩ | ⟨rfl, hq⟩)
      · show (Ir.reg _).wp P _ _ _
        refine wp_reg ?_
        have wr : IntKind.i32.wrap ((i : Int) + 1) = ((i + 1 : Nat) : Int) := by simp [IntKind.wrap, IntKind.signed, IntKind.bits]; omega
        simp [h3', z2, z2', z3, z3', wr]
        refine ⟨⟨i + 1, by omega, by simp, by simp [z2, z1, z0, h2'], hJ _ _ _ _ ?_ hj'⟩, ?_⟩
        · intro x hx hx3
          have x3 : ∀ n, (x = t + n) = False := by intro n; simp; omega
          simp [x3, hx3]
        · omega
      · exact hq
    · have : i = N := by omega
      subst this
      refine .inr ⟨by subst hfa; simp [hlt], ?_⟩
      show inBlockF k Q (.exit k) _ _
      rw [inBlockF_exit, if_pos rfl]
      exact h _ _ hja
end
end Go.Kg

set_option linter.unusedSimpArgs false
set_option linter.unusedVariables false
set_option linter.unusedSectionVars false
namespace Go.Kg
open Go
theorem segL_eq {c c' : Array Value} {a n : Nat} (h : ∀ j, a ≤ j → j < a + n → c'[j]? = c[j]?) : segL c' a n = segL c a n := by
  apply List.ext_getElem?
  intro j
  by_cases hj : j < n
  · rw [segL_get hj, segL_get hj]; exact h _ (by omega) (by omega)
  · rw [segL_none (by omega), segL_none (by omega)]
theorem segL_len {c : Array Value} {a n : Nat} (h : a + n ≤ c.size) : (segL c a n).length = n := by simp [segL]; omega
theorem Ext.trans' {C D E : Nat → Prop} {a b c : World} (h : Ext C a b) (k : Ext D b c) (hD : ∀ x, x < a.heap.size → D x → E x) (hC : ∀ x, x < a.heap.size → C x → E x := by intro x _ h; first | exact h | exact .inl h) : Ext E a c :=
  ⟨k.os.trans h.os, k.tape.trans h.tape, k.output.trans h.output, Nat.le_trans h.size k.size,
   fun i hi hc => (k.block i (Nat.lt_of_lt_of_le hi h.size) (fun hd => hc (hD i hi hd))).trans (h.block i hi (fun hd => hc (hC i hi hd)))⟩
/-- inside a list's row -/
def rdr' (R : Rdr) (ab : Nat) : Rdr := { R with base := ab + 1 }
section
variable {P : Program} {C : CfgR} {R : Rdr} {Q : Post} {f : Nat → Value} {w : World}
/-- v = a; s.F = v -/
theorem r_tail {T PT pv k o sT l t b a : Nat} {av : Value} {cc : Array Value} {e : TypeId} (hpv : f pv = .pointer (some ⟨b, a, none⟩)) (hF : fldOff P T k = some o) (hk : isScl (kindOf P sT) = true) (hav : f (l + 1) = av) (h1 : av.oneCell' = true) (hpt : pv < l) (hl : l + 1 < t)
    (hb : w.heap[b]? = some (.cells cc e (0, 0))) (ho : a + o + 1 ≤ cc.size)
    (h : ∀ f' cc', Put cc (a + o) av cc' → (∀ y, y < t → y ≠ l → f' y = f y) → Q .normal f' (w.setBlk b (.cells cc' e (0, 0)))) : (seqL (tailR C T PT pv k sT l t)).wp P Q f w := by
  refine seqL_cons ?_
  refine wp_reg ?_
  simp [hav]
  show (Ir.reg _).wp P _ _ w
  refine r_storeT (u := av) (o := o) (b := b) (a := a) (cc := cc) (e := e) ?_ hF hk ?_ h1 (by omega) (by omega) hb ho ?_
  · have x1 : (pv = l) = False := by simp; omega
    have x2 : (pv = t) = False := by simp; omega
    simp [x1, x2, hpv]
  · simp
  · intro f' cc' hput hk'
    refine h f' cc' hput ?_
    intro y hy hyl
    have x2 : (y = t) = False := by simp; omega
    rw [hk' y (by omega)]
    simp [hyl, x2]
structure Loop (C : CfgR) (R : Rdr) {α : Type} (fE : RS → Option (α × RS)) (Relt : World → (Nat → Prop) → List Value → α → Prop) (z : Array Value) (rs1 : RS) (w1 : World) (f1 : Nat → Value) (ab N sz l m t1 et : Nat) (i : Nat) (f' : Nat → Value) (w' : World) : Prop where
  ex : ∃ ys rsi cur, (rdN fE N rs1 = match rdN fE (N - i) rsi with | none => none | some (x, r) => some (ys ++ x, r)) ∧ ys.length = i ∧ StR C (rdr' R ab) ab 0 (N * sz) w' cur et rsi ∧ Ext (CB R ab) w1 w' ∧
    (∀ (j : Nat) y, ys[j]? = some y → Relt w' (RK (rdr' R ab)) (segL cur (j * sz) sz) y) ∧ (∀ j, i ≤ j → j < N → segL cur (j * sz) sz = z.toList)
  keep : KeepR f1 f' (l + 3) m t1
theorem rowBound {i N sz : Nat} (h : i < N) : i * sz + sz ≤ N * sz := by
  have := Nat.mul_le_mul_right sz (show i + 1 ≤ N from h)
  rwa [Nat.add_mul, Nat.one_mul] at this
theorem rowStep {i j sz : Nat} (h : j < i) : j * sz + sz ≤ i * sz := rowBound h
/-- The loop over a list's row. -/
theorem r_loop {α : Type} (fE : RS → Option (α × RS)) (Relt : World → (Nat → Prop) → List Value → α → Prop) (hRext : ∀ w w' K X es y, Relt w K es y → Ext X w w' → (∀ k, k < w.heap.size → K k → ¬ X k) → Relt w' K es y)
    {pv l m t kk b a N sz ab : Nat} {lv : Int} {ver : Int} {fl : Bool} {z : Array Value} {body : Ir} {av : Value} {cur0 : Array Value} {et : TypeId} {rs1 : RS} {cap : Nat} (h32 : lv < 2147483648 ∧ -2147483648 ≤ lv) (hN : N = lv.toNat) (hl : l + 4 ≤ m) (hm : m ≤ t) (hlv : f (l + 2) = .int .i32 lv) (hav : f (l + 1) = av)
    (hav' : av = .slice (some ⟨ab, 0, none⟩) N cap) (hcap : N ≤ cap) (hf : FrR C R f pv b a ver fl l) (hbase : R.base ≤ ab) (hst : StR C (rdr' R ab) ab 0 (N * sz) w cur0 et rs1) (hz : ∀ i, i < N → segL cur0 (i * sz) sz = z.toList)
    (hbody : ∀ (i : Nat) (f' : Nat → Value) (w' : World) (cur : Array Value) (rsi : RS), i < N → FrR C R f' pv b a ver fl l → f' (l + 1) = av → f' (l + 3) = .int .i32 i → StR C (rdr' R ab) ab 0 (N * sz) w' cur et rsi → segL cur (i * sz) sz = z.toList →
      ∀ Q' : Post, (fE rsi = none → ∀ f'' w'', f'' 6 = R.ev → Ext (CB R ab) w' w'' → Q' .ret f'' w'') →
        (∀ y rs'', fE rsi = some (y, rs'') → ∀ f'' w'' cur', StR C (rdr' R ab) ab 0 (N * sz) w'' cur' et rs'' → Ext (CB R ab) w' w'' → (∀ j, (j < i * sz ∨ i * sz + sz ≤ j) → cur'[j]? = cur[j]?) → Relt w'' (RK (rdr' R ab)) (segL cur' (i * sz) sz) y → KeepR f' f'' (l + 4) m (t + 5) → Q' .normal f'' w'') →
        body.wp P Q' f' w')
    (h0 : rdN fE N rs1 = none → ∀ f' w', f' 6 = R.ev → Ext (CB R ab) w w' → Q .ret f' w')
    (h1 : ∀ ys rs', rdN fE N rs1 = some (ys, rs') → ∀ f' w' cur, ys.length = N → StR C (rdr' R ab) ab 0 (N * sz) w' cur et rs' → Ext (CB R ab) w w' → (∀ (j : Nat) y, ys[j]? = some y → Relt w' (RK (rdr' R ab)) (segL cur (j * sz) sz) y) → KeepR f f' (l + 3) m t → Q .normal f' w') :
    (forI C l t kk body).wp P Q f w := by
  have hn10 := hf.nN
  refine r_for h32 hN (by omega) hlv (fun i f' w' => Loop C R fE Relt z rs1 w f ab N sz l m t et i f' w') ?_ ?_ ?_ ?_
  · rintro i f1 f2 w' hx ⟨hex, hk⟩
    refine ⟨hex, ?_⟩
    intro y hy1 hy
    rw [hx y (by omega) (by omega)]
    exact hk y hy1 hy
  · refine ⟨⟨[], rs1, cur0, ?_, rfl, hst, Ext.refl _ _, by simp, fun j _ hj => hz j hj⟩, KeepR.refl _ _ _ _⟩
    simp only [Nat.sub_zero]
    cases rdN fE N rs1 with
    | none => rfl
    | some a => simp
  · rintro i hi f' w' ⟨⟨ys, rsi, cur, hrel, hlen, hst', hext, helt, hnew⟩, hk⟩ h3 h2
    obtain ⟨k, hkN⟩ : ∃ k, N - i = k + 1 := ⟨N - i - 1, by omega⟩
    have hf' : FrR C R f' pv b a ver fl l := hf.keep (t := l + 3) hk.keeps (by omega)
    refine hbody i f' w' cur rsi hi hf' ((hk (l + 1) (by omega) (.inl (by omega))).trans hav) h3 hst' (hnew i (Nat.le_refl _) hi) _ ?_ ?_
    · intro hnone f'' w'' h6 he
      refine .inr ⟨rfl, h0 ?_ f'' w'' h6 (hext.trans he)⟩
      rw [hrel, hkN]
      simp only [rdN, hnone]
    · intro y rs'' hy f'' w'' cur' hst'' he hsame hrel' hk''
      have hsz : cur'.size = cur'.size := rfl
      refine .inl ⟨rfl, ⟨⟨ys ++ [y], rs'', cur', ?_, by simp [hlen], hst'', hext.trans he, ?_, ?_⟩, ?_⟩, ?_, ?_⟩
      · rw [hrel, hkN, show N - (i + 1) = k by omega]
        simp only [rdN, hy]
        cases rdN fE k rs'' with
        | none => rfl
        | some p => simp
      · intro j y' hj
        rcases Nat.lt_or_ge j i with hji | hji
        · rw [List.getElem?_append_left (by omega)] at hj
          rw [segL_eq (c := cur) (fun x hx1 hx2 => hsame x (.inl (by have := rowStep (sz := sz) hji; omega)))]
          exact hRext _ _ _ _ _ _ (helt j y' hj) he (hst'.rw_.keepK)
        · have hji' : j = i := by
            have := (List.getElem?_eq_some_iff.1 hj).1
            simp at this; omega
          subst hji'
          rw [List.getElem?_append_right (by omega), hlen, Nat.sub_self] at hj
          simp at hj
          subst hj
          exact hrel'
      · intro j hj hjN
        rw [segL_eq (c := cur) (fun x hx1 hx2 => hsame x (.inr (by have := rowStep (sz := sz) (show i < j by omega); omega)))]
        exact hnew j (by omega) hjN
      · intro x hx1 hx
        rw [hk'' x hx1 (by omega)]
        exact hk x hx1 hx
      · rw [hk'' _ (by omega) (.inl (by omega))]; exact h3
      · rw [hk'' _ (by omega) (.inl (by omega))]; exact h2
  · rintro f' w' ⟨⟨ys, rsi, cur, hrel, hlen, hst', hext, helt, hnew⟩, hk⟩
    refine h1 ys rsi ?_ f' w' cur hlen hst' hext helt hk
    rw [hrel, Nat.sub_self]
    simp [rdN]
end
end Go.Kg

set_option linter.unusedSimpArgs false
set_option linter.unusedVariables false
set_option linter.unusedSectionVars false
namespace Go.Kg
open Go
theorem cells_one {v : Value} (h : v.oneCell' = true) : v.cells = #[v] := by cases v <;> simp_all [Value.oneCell', Value.cells]
section
variable {P : Program} {C : CfgR} {R : Rdr} {Q : Post} {f : Nat → Value} {w : World}
/-- A list's field as a whole. -/
theorem r_list (ht : TyR P C) {nul : Option Nat} (hnz : nulZ C.fx nul = true) {α : Type} (fE : RS → Option (α × RS)) (Relt : World → (Nat → Prop) → List Value → α → Prop) (hRext : ∀ w w' K X es y, Relt w K es y → Ext X w w' → (∀ k, k < w.heap.size → K k → ¬ X k) → Relt w' K es y) (hRmono : ∀ w (K K' : Nat → Prop) es y, Relt w K es y → (∀ k, K k → K' k) → Relt w K' es y)
    {T PT pv k o sT l m t t2 kk b a n lo sz : Nat} {ver : Int} {fl : Bool} {cc : Array Value} {e : TypeId} {rs : RS} {z : Array Value} {body : Ir} (hF : fldOff P T k = some o) (hk : isScl (kindOf P sT) = true) (hsz : sliSz P sT = some sz) (hz : sliZ P sT = some z) (hzs : z.size = sz)
    (hN : LenRC P C) (hE : EndC P C) (hs : StR C R b a n w cc e rs) (hf : FrR C R f pv b a ver fl l) (hl : l + 4 ≤ m) (hm : m ≤ t) (ht2 : t + headN C nul + 5 ≤ t2) (hon : o + 1 ≤ n) (hlo : lo ≤ o) (hnil : (segL cc a n)[o]? = some (.slice none 0 0))
    (hbody : ∀ (ab N cap : Nat) (et : TypeId) (i : Nat) (av : Value) (f' : Nat → Value) (w' : World) (cur : Array Value) (rsi : RS), R.base ≤ ab → i < N → av = .slice (some ⟨ab, 0, none⟩) N cap → FrR C R f' pv b a ver fl l → f' (l + 1) = av → f' (l + 3) = .int .i32 i → StR C (rdr' R ab) ab 0 (N * sz) w' cur et rsi → segL cur (i * sz) sz = z.toList →
      ∀ Q' : Post, (fE rsi = none → ∀ f'' w'', f'' 6 = R.ev → Ext (CB R ab) w' w'' → Q' .ret f'' w'') →
        (∀ y rs'', fE rsi = some (y, rs'') → ∀ f'' w'' cur', StR C (rdr' R ab) ab 0 (N * sz) w'' cur' et rs'' → Ext (CB R ab) w' w'' → (∀ j, (j < i * sz ∨ i * sz + sz ≤ j) → cur'[j]? = cur[j]?) → Relt w'' (RK (rdr' R ab)) (segL cur' (i * sz) sz) y → KeepR f' f'' (l + 4) m (t + headN C nul + 5) → Q' .normal f'' w'') →
        body.wp P Q' f' w')
    (h0 : arrRd nul ver fl fE rs = none → ∀ f' w', f' 6 = R.ev → Ext (CB R b) w w' → Q .ret f' w')
    (h1 : ∀ A rs', arrRd nul ver fl fE rs = some (A, rs') → ∀ f' w' cc' av ls, RdTo C R b a n lo w cc e f l m t rs' f' w' cc' → (∀ j, (j < a + lo ∨ a + o + 1 ≤ j) → cc'[j]? = cc[j]?) → (segL cc' a n)[o]? = some av → ArrAt w' (RK R) sz av ls → (ls.isSome = A.isSome ∧ InHeap w' av) → (ls.getD []).length = (A.getD []).length →
      (∀ (i : Nat) es y, (ls.getD [])[i]? = some es → (A.getD [])[i]? = some y → Relt w' (RK R) es y) → Q .normal f' w') :
    (seqL (headR C T PT pv k sT l t nul ++ [forI C l (t + headN C nul) kk body] ++ tailR C T PT pv k sT l t2)).wp P Q f w := by
  have hn10 := hf.nN
  have hpt := hf.ptrN
  have hfit := hs.fit
  have hlen := lenRd_lt fl rs
  have hhead : headN C nul = 5 + lenIN C + nulN nul + 10 := rfl
  rw [List.append_assoc]
  refine seqL_append ?_
  refine r_head ht hnz hF hk hsz hz hN hE hs hf (by omega) (by omega) hnil ?_ ?_
  · intro hb f' w' h6 he
    exact h0 (by simp [arrRd, hb]) f' w' h6 (he.mono (fun _ _ h => .inl h))
  · intro hb f1 w1 av hav hlv hpost he1 hr1 hk1
    have hs1 := hs.ext1 he1 hr1
    have kR1 : KeepR f f1 l m t := fun y hy1 hy => hk1 y (by omega) (by omega)
    have hf1 := hf.keep kR1.keeps (Nat.le_refl _)
    -- the tail, from what the loop left
    have fin : ∀ (A : Option (List α)) (rs' : RS) (f2 : Nat → Value) (w2 : World) (ls : Option (List (List Value))), arrRd nul ver fl fE rs = some (A, rs') → KeepR f f2 l m t → f2 (l + 1) = av → Ext (· = R.pb) w w2 → RdAt C.E.tRd w2 R.pb R.D rs' → av.oneCell' = true →
        ArrAt w2 (RK R) sz av ls → (ls.isSome = A.isSome ∧ InHeap w2 av) → (ls.getD []).length = (A.getD []).length → (∀ (i : Nat) es y, (ls.getD [])[i]? = some es → (A.getD [])[i]? = some y → Relt w2 (RK R) es y) → (seqL (tailR C T PT pv k sT l t2)).wp P Q f2 w2 := by
      intro A rs' f2 w2 ls hA hk2 hav2 he2 hr2 hone harr hsome hlen2 helt
      have hs2 := hs.ext1 he2 hr2
      have hf2 := hf.keep hk2.keeps (Nat.le_refl _)
      have huc : av.cells = #[av] := cells_one hone
      refine r_tail (o := o) (b := b) (a := a) (cc := cc) (e := e) hf2.ptr hF hk hav2 hone hpt.2 (by omega) hs2.blk (by omega) ?_
      intro f3 cc3 hput hk3
      have hE3 : Ext (fun x => x = b) w2 (w2.setBlk b (.cells cc3 e (0, 0))) := (Ext.refl (fun x => x = b) w2).setBlk (b := b) (Or.inr rfl) _
      have hK3 : ∀ k, k < w2.heap.size → RK R k → ¬ k = b := fun k h1 h2 h3 => hs2.rw_.keepK k h1 h2 (.inr h3)
      refine h1 A rs' hA f3 _ cc3 av ls ?_ ?_ ?_ (ArrAt.ext hE3 hK3 harr) ⟨hsome.1, hsome.2.ext hE3⟩ hlen2 ?_
      · refine (RdTo.read (lo := lo) hs he2 hr2 hk2).trans (RdTo.put hs2 hput hlo (by rw [huc]; exact hon) (l := l) (m := m) (t := t) ?_) (Nat.le_refl _) (Nat.le_refl _) (Nat.le_refl _) (Nat.le_refl _)
        intro y hy1 hy
        exact hk3 y (by omega) (by omega)
      · intro j hj
        exact hput.same j (by rw [huc]; simp; omega)
      · rw [segL_get (by omega)]
        have := hput.new 0 av (by simp [huc])
        simpa using this
      · intro i es y hi hy
        exact hRext _ _ _ _ _ _ (helt i es y hi hy) hE3 hK3
    have hpost' := hpost
    unfold HeadPost at hpost'
    show (seqL _).wp P _ f1 w1
    refine seqL_cons ?_
    by_cases hp : 0 < (lenRd fl rs).1
    · rw [if_pos hp] at hpost'
      obtain ⟨ab, cur, et, ⟨⟨cap, hcapE, hcap⟩, hnew, hblk, hfit2, hzero⟩⟩ := hpost'
      have hb1 := hs.rw_.lt
      have hbase : R.base ≤ ab := Nat.le_trans hb1.2.2.2 hnew
      have hg : C.E.g_kbin_ErrNotEnoughData < w.heap.size := World.block_lt_of_cell? w _ hs.rw_.err
      have hst : StR C (rdr' R ab) ab 0 ((lenRd fl rs).1.toNat * sz) w1 cur et (lenRd fl rs).2 := by
        refine ⟨hblk, by rw [← hzs]; omega, hr1, ⟨⟨?_, ?_, ?_, ?_⟩, ⟨hs.rw_.ne.1, ?_, ?_⟩, hs1.rw_.err, ⟨hs1.rw_.errN.1, ?_⟩⟩⟩
        · show R.pb < ab + 1; omega
        · show ab < ab + 1; omega
        · show R.D < ab + 1; omega
        · exact lt_of_heap hblk
        · show ab ≠ R.D; omega
        · show R.pb ≠ ab; omega
        · omega
      refine r_loop (z := z) (cap := cap) fE Relt hRext hlen rfl hl (by omega) hlv hav hcapE hcap hf1 hbase hst (by rw [← hzs]; exact hzero) ?_ ?_ ?_
      · intro i f' w' cur' rsi hi hf' hav' h3 hst' hz' Q' q0 q1
        exact hbody ab _ cap et i av f' w' cur' rsi hbase hi hcapE hf' hav' h3 hst' hz' Q' q0 (fun y rs'' hy f'' w'' cur'' a1 a2 a3 a4 a5 => q1 y rs'' hy f'' w'' cur'' a1 a2 a3 a4 a5)
      · intro hnone f' w' h6 he
        refine h0 ?_ f' w' h6 ?_
        · simp only [arrRd, hb, hp, hnone]; simp
        · exact he1.trans' (E := CB R b) he (fun x hx hc => by
            rcases hc with h | h
            · exact .inl h
            · omega)
      · intro ys rs' hys f' w' cur' hlenY hst' he helt hk'
        have heT : Ext (· = R.pb) w w' := he1.trans' he (fun x hx hc => by
          rcases hc with h | h
          · exact h
          · omega)
        have hav1 : av.oneCell' = true := by rw [hcapE]; rfl
        refine fin (some ys) rs' f' w' (some ((List.range (lenRd fl rs).1.toNat).map fun j => segL cur' (j * sz) sz)) ?_ ?_ ?_ heT hst'.rd hav1 ?_ ⟨rfl, fun a' n' c' e' => by rw [hcapE] at e'; cases e'; exact lt_of_heap hst'.blk⟩ (by simp [hlenY]) ?_
        · simp only [arrRd, hb, hp, hys]; simp
        · intro y hy1 hy
          rw [hk' y hy1 (by omega)]
          exact kR1 y hy1 hy
        · rw [hk' (l + 1) (by omega) (.inl (by omega))]; exact hav
        · refine ⟨ab, 0, cap, by rw [hcapE]; simp, .inr hbase, ⟨by simpa using hcap, by simp; omega⟩, ?_⟩
          intro i cs hi
          simp only [List.getElem?_map, Option.map_eq_some_iff] at hi
          obtain ⟨j, hj, rfl⟩ := hi
          have hjl := (List.getElem?_eq_some_iff.1 hj).1
          have hji : j = i := by
            obtain ⟨_, h2⟩ := List.getElem?_eq_some_iff.1 hj
            simpa using h2.symm
          subst hji
          have hjN : j < (lenRd fl rs).1.toNat := by simpa using hjl
          have hfitJ := rowBound (sz := sz) hjN
          have hfit' := hst'.fit
          exact ⟨segL_len (by omega), by rw [Nat.zero_add]; exact cellsAt_seg hst'.blk⟩
        · intro i es y hi hy
          simp only [Option.getD_some, List.getElem?_map, Option.map_eq_some_iff] at hi hy
          obtain ⟨j, hj, rfl⟩ := hi
          have hji : j = i := by
            obtain ⟨_, h2⟩ := List.getElem?_eq_some_iff.1 hj
            simpa using h2.symm
          subst hji
          exact hRmono _ _ _ _ _ (helt j y hy) (fun k hk => by
            rcases hk with h | h
            · exact .inl h
            · exact .inr (by have : ab + 1 ≤ k := h; omega))
    · rw [if_neg hp] at hpost'
      have hone : av.oneCell' = true := by
        unfold NulPost at hpost'
        split at hpost'
        · obtain ⟨g, rfl, _⟩ := hpost'; rfl
        · subst hpost'; rfl
      refine r_for (N := 0) hlen (by omega) (by omega) hlv (fun _ f' w' => w' = w1 ∧ ∀ x, x < t + headN C nul → x ≠ l + 3 → f' x = f1 x) ?_ ⟨rfl, fun _ _ _ => rfl⟩ (fun i hi => by omega) ?_
      · rintro i fa fb w' hx ⟨rfl, h2⟩
        exact ⟨rfl, fun x hx1 hx2 => (hx x hx1 hx2).trans (h2 x hx1 hx2)⟩
      · rintro f' w' ⟨rfl, h2⟩
        have kk : KeepR f f' l m t := by
          intro y hy1 hy
          rw [h2 y (by omega) (by omega)]
          exact kR1 y hy1 hy
        have he : (emptyOf nul ver (lenRd fl rs).1 : Option (List α)) = if nul.isSome = true ∧ (lenRd fl rs).1 = 0 then some [] else none := by
          have hv0 := hf.v0
          cases nul with
          | none => simp [emptyOf]
          | some m0 =>
            simp only [nulZ, Bool.and_eq_true, beq_iff_eq] at hnz
            obtain ⟨hfx, rfl⟩ := hnz
            have := hv0 hfx
            have : ¬ ver < 0 := by omega
            simp [emptyOf, this]
        unfold NulPost at hpost'
        split at hpost'
        · rename_i hc
          obtain ⟨ab, rfl, hab1, hab2⟩ := hpost'
          rw [if_pos hc] at he
          refine fin (some []) (lenRd fl rs).2 f' w' (some []) ?_ kk ((h2 _ (by omega) (by omega)).trans hav) he1 hr1 rfl ⟨ab, 0, 0, rfl, .inr (Nat.le_trans hs.rw_.lt.2.2.2 hab1), ⟨Nat.le_refl _, by simp⟩, by simp⟩ ⟨rfl, fun a' n' c' e' => by cases e'; exact hab2⟩ rfl (by simp)
          simp only [arrRd, hb, hp, he]; simp
        · rename_i hc
          subst hpost'
          rw [if_neg hc] at he
          refine fin none (lenRd fl rs).2 f' w' none ?_ kk ((h2 _ (by omega) (by omega)).trans hav) he1 hr1 rfl rfl ⟨rfl, InHeap.nil _⟩ rfl (by simp)
          simp only [arrRd, hb, hp, he]; simp
end
end Go.Kg

set_option linter.unusedSimpArgs false
set_option linter.unusedVariables false
set_option linter.unusedSectionVars false
namespace Go.Kg
open Go
section
variable {P : Program} {C : CfgR}
theorem FrR.inner {R : Rdr} {f : Nat → Value} {pv b a n ab : Nat} {ver : Int} {fl : Bool} (h : FrR C R f pv b a ver fl n) : FrR C (rdr' R ab) f pv b a ver fl n := ⟨h.ptr, h.ptrN, h.v0, h.ver, h.flg, h.flN, h.rd, h.us, h.nN, h.rsN⟩
def EltP (p : Prim) (w : World) (K : Nat → Prop) (es : List Value) (y : p.T) : Prop := ∃ u, es = u.cells.toList ∧ p.rep1 w K u y
def EltS (S : Sch) (w : World) (K : Nat → Prop) (es : List Value) (y : S.T) : Prop := S.Rep w K es y
theorem EltP.ext (p : Prim) : ∀ w w' K X es y, EltP p w K es y → Ext X w w' → (∀ k, k < w.heap.size → K k → ¬ X k) → EltP p w' K es y := by
  rintro w w' K X es y ⟨u, h1, h2⟩ he hK
  exact ⟨u, h1, Prim.rep1_ext he hK h2⟩
theorem EltP.mono (p : Prim) : ∀ w (K K' : Nat → Prop) es y, EltP p w K es y → (∀ k, K k → K' k) → EltP p w K' es y := by
  rintro w K K' es y ⟨u, h1, h2⟩ hK
  exact ⟨u, h1, Prim.rep1_mono hK h2⟩
theorem EltS.ext (S : Sch) : ∀ w w' K X es y, EltS S w K es y → Ext X w w' → (∀ k, k < w.heap.size → K k → ¬ X k) → EltS S w' K es y := fun w w' K X es y h he hK => Sch.Rep_ext he hK S h
theorem EltS.mono (S : Sch) : ∀ w (K K' : Nat → Prop) es y, EltS S w K es y → (∀ k, K k → K' k) → EltS S w K' es y := fun w K K' es y h hK => Sch.Rep_mono hK S h
/-- A list's field stands in a struct's cells. -/
def ArrFld {α : Type} (Relt : World → (Nat → Prop) → List Value → α → Prop) (w : World) (K : Nat → Prop) (sz : Nat) (cs : List Value) (o : Nat) (A : Option (List α)) : Prop :=
  ∃ v ls, cs[o]? = some v ∧ ArrAt w K sz v ls ∧ (ls.isSome = A.isSome ∧ InHeap w v) ∧ (ls.getD []).length = (A.getD []).length ∧ ∀ (i : Nat) (es : List Value) x, (ls.getD [])[i]? = some es → (A.getD [])[i]? = some x → Relt w K es x
theorem ArrFld.move {α : Type} {Relt : World → (Nat → Prop) → List Value → α → Prop} (hRext : ∀ w w' K X es y, Relt w K es y → Ext X w w' → (∀ k, k < w.heap.size → K k → ¬ X k) → Relt w' K es y) {w w' : World} {K X : Nat → Prop} {sz o : Nat} {cs cs' : List Value} {A : Option (List α)} (h : ArrFld Relt w K sz cs o A) (he : Ext X w w') (hK : ∀ k, k < w.heap.size → K k → ¬ X k) (hc : cs'[o]? = cs[o]?) : ArrFld Relt w' K sz cs' o A := by
  obtain ⟨v, ls, h1, h2, h3, h4, h5⟩ := h
  exact ⟨v, ls, hc.trans h1, ArrAt.ext he hK h2, ⟨h3.1, h3.2.ext he⟩, h4, fun i es x hi hx => hRext _ _ _ _ _ _ (h5 i es x hi hx) he hK⟩
theorem sliOk_spec {sT sz : Nat} (h : sliOk P sT sz = true) : sliSz P sT = some sz ∧ ∃ z, sliZ P sT = some z ∧ z.size = sz := by
  simp only [sliOk, Bool.and_eq_true, beq_iff_eq] at h
  obtain ⟨h1, h2⟩ := h
  refine ⟨h1, ?_⟩
  cases hz : sliZ P sT with
  | none => rw [hz] at h2; cases h2
  | some z => rw [hz] at h2; exact ⟨z, rfl, by simpa using h2⟩
/-- a[i] = v -/
theorem r_storeE (ht : TyR P C) {sT l t ab N cap i sz : Nat} {p : Prim} {u : Value} {cur : Array Value} {et : TypeId} {Q : Post} {f : Nat → Value} {w : World} (hsl : sliSz P sT = some sz) (h1 : f (l + 1) = .slice (some ⟨ab, 0, none⟩) N cap) (h3 : f (l + 3) = .int .i32 i) (hi : i < N) (hk : p.kOk P (p.ty C.E) = true) (hlv : LocVal w f p (l + 4) u)
    (hu : if p = .uuid then ∃ c : Array Value, u = .agg c ∧ c.size = 16 ∧ allOne c.toList = true else u.oneCell' = true) (hl : l + 4 < t) (hb : w.heap[ab]? = some (.cells cur et (0, 0))) (ho : i * sz + u.cells.size ≤ cur.size)
    (h : ∀ f' cur', Put cur (i * sz) u cur' → (∀ y, y < t → f' y = f y) → Q .normal f' (w.setBlk ab (.cells cur' et (0, 0)))) : (storeE C p sT l t).wp P Q f w := by
  have e3 : ∀ n, (l + 3 = t + n) = False := by intro n; simp; omega
  have e2 : ∀ n, (l + 2 = t + n) = False := by intro n; simp; omega
  have e1 : ∀ n, (l + 1 = t + n) = False := by intro n; simp; omega
  have e0 : ∀ n, (l = t + n) = False := by intro n; simp; omega
  have e4 : ∀ n, (l + 4 = t + n) = False := by intro n; simp; omega
  have e3' : (l + 3 = t) = False := by simp; omega
  have e1' : (l + 1 = t) = False := by simp; omega
  have e4' : (l + 4 = t) = False := by simp; omega
  have keep : ∀ a b c d, ∀ y, y < t → upd (upd (upd (upd f t a) (t + 1) b) (t + 2) c) (t + 3) d y = f y := by
    intro a b c d y hy
    have x3 : ∀ n, (y = t + n) = False := by intro n; simp; omega
    have x4 : (y = t) = False := by simp; omega
    simp [x3, x4]
  refine wp_reg ?_
  by_cases hp : p = .uuid
  · subst hp
    simp only [if_true] at hu
    obtain ⟨c, rfl, hc16, hone⟩ := hu
    simp only [LocVal, if_true] at hlv
    obtain ⟨b', cs', e', fz', hf, hbk, hcs, h16⟩ := hlv
    cases hcs
    have hk' : kindOf P C.E.tUu = .agg 16 := (ht.uu (kOk_uu hk rfl)).kUu
    have lB := cellsFrom_row hbk
    rw [h16] at lB
    have ho' : i * sz + 16 ≤ cur.size := by simpa [Value.cells, hc16] using ho
    simp [storeE, getL, h1, h3, hf, e0, e1, e2, e3, e4, e1', e3', e4', idx?, hsl, hi, Addr.add_mk, ld_agg hk', lB, Prim.ty, store_agg hk', hc16, hone, putK_blk hb]
    exact ⟨by omega, h _ _ (put_over (by omega)) (keep _ _ _ _)⟩
  · simp only [if_neg hp] at hu
    simp only [LocVal, if_neg hp] at hlv
    have hk' : kindOf P (p.ty C.E) = .scl := by simp only [Prim.kOk, if_neg hp] at hk; exact isScl_spec hk
    have huc : u.cells = #[u] := cells_one hu
    have ho' : i * sz + 1 ≤ cur.size := by simpa [huc] using ho
    simp [storeE, getL, hp, h1, h3, hlv, e0, e1, e2, e3, e4, e1', e3', e4', idx?, hsl, hi, Addr.add_mk, store_scl hk', hu, put1K_blk hb]
    exact ⟨by omega, h _ _ (put_one hu (by omega)) (keep _ _ _ _)⟩
/-- the body of a loop over things without fields -/
theorem r_bodyP (ht : TyR P C) {p : Prim} {R : Rdr} {sT l t b a pv ab N cap i : Nat} {av : Value} {ver : Int} {fl : Bool} {et : TypeId} {f' : Nat → Value} {w' : World} {cur : Array Value} {rsi : RS} (hP : PrimR P C p) (hsl : sliSz P sT = some p.sz) (hk : p.kOk P (p.ty C.E) = true) (hlt : l + 5 ≤ t) (hbase : R.base ≤ ab) (hi : i < N) (hav : av = .slice (some ⟨ab, 0, none⟩) N cap)
    (hf : FrR C R f' pv b a ver fl l) (h1 : f' (l + 1) = av) (h3 : f' (l + 3) = .int .i32 i) (hst : StR C (rdr' R ab) ab 0 (N * p.sz) w' cur et rsi) (Q' : Post)
    (q1 : ∀ f'' w'' cur', StR C (rdr' R ab) ab 0 (N * p.sz) w'' cur' et (p.rd fl rsi).2 → Ext (CB R ab) w' w'' → (∀ j, (j < i * p.sz ∨ i * p.sz + p.sz ≤ j) → cur'[j]? = cur[j]?) → EltP p w'' (RK (rdr' R ab)) (segL cur' (i * p.sz) p.sz) (p.rd fl rsi).1 → KeepR f' f'' (l + 4) (l + 5) t → Q' .normal f'' w'') :
    (seqL (readI C p (l + 4) t ++ [storeE C p sT l (t + readN C p)])).wp P Q' f' w' := by
  have hrow := rowBound (sz := p.sz) hi
  have hfit := hst.fit
  refine seqL_append ?_
  refine r_read ht (kOk_uu hk) (fl := fl) hP hst (hf.inner.up (by omega : l ≤ l + 4)) (by omega) ?_
  intro f2 w2 u hu hrep he2 hr2 hk2
  have hs2 := hst.ext1 he2 hr2
  have hszu := rep1_sz hrep
  show (storeE C p sT l (t + readN C p)).wp P _ f2 w2
  refine r_storeE ht (cap := cap) hsl (by rw [hk2 _ (by omega) (by omega), h1, hav]) (by rw [hk2 _ (by omega) (by omega), h3]) hi hk hu (rep1_one hrep) (by omega) hs2.blk (by rw [hszu]; omega) ?_
  intro f3 cur3 hput hk3
  have hE3 : Ext (fun x => x = ab) w2 (w2.setBlk ab (.cells cur3 et (0, 0))) := (Ext.refl (fun x => x = ab) w2).setBlk (b := ab) (Or.inr rfl) _
  have hE3' : Ext (CB (rdr' R ab) ab) w2 (w2.setBlk ab (.cells cur3 et (0, 0))) := hE3.mono (fun _ _ h => .inr h)
  refine q1 f3 _ cur3 ?_ ?_ ?_ ?_ ?_
  · exact ⟨setBlk_same hs2.blk, by rw [hput.size]; exact hfit, hs2.rd.ext hE3 (fun h => hs2.rw_.ne.2.2 h) (fun h => hs2.rw_.ne.2.1 h.symm), hs2.rw_.ext hE3'⟩
  · exact (he2.mono (fun _ _ h => .inl h) : Ext (CB R ab) w' w2).trans hE3'
  · intro j hj
    exact hput.same j (by rw [hszu]; omega)
  · refine ⟨u, ?_, Prim.rep1_ext hE3 (fun k a1 a2 a3 => hs2.rw_.keepK k a1 a2 (.inr a3)) hrep⟩
    apply List.ext_getElem?
    intro j
    by_cases hj : j < p.sz
    · rw [segL_get hj]
      have hj' : j < u.cells.toList.length := by simpa [hszu] using hj
      rw [List.getElem?_eq_getElem hj']
      exact hput.new j _ (List.getElem?_eq_getElem hj')
    · rw [segL_none (by omega), List.getElem?_eq_none (by simp [hszu]; omega)]
  · intro y hy1 hy
    rw [hk3 y (by omega), hk2 y (by omega) (by omega)]
end
end Go.Kg

set_option linter.unusedSimpArgs false
set_option linter.unusedVariables false
set_option linter.unusedSectionVars false
namespace Go.Kg
open Go
section
variable {P : Program} {C : CfgR}
theorem soundR_arrP (ht : TyR P C) (g : Gd) (k o sT : Nat) (nul : Option Nat) (p : Prim) (rest : Sch) (ih : SoundR P C rest) : SoundR P C (.arrP g k o sT nul p rest) := by
  intro T PT pv c Q f w b a n lo cc e ver fl R rs hty hN hf hc hs hd h0 h1
  simp only [Sch.tyR, Bool.and_eq_true, beq_iff_eq, decide_eq_true_eq] at hty
  obtain ⟨⟨⟨⟨⟨⟨⟨hnul, hF⟩, hk⟩, hsli⟩, hkp⟩, hlo⟩, hn⟩, htr⟩ := hty
  obtain ⟨hsz, z, hz, hzs⟩ := sliOk_spec hsli
  obtain ⟨hNp, hNl, hNe, hNr⟩ := hN
  simp only [Sch.chkD, Bool.and_eq_true] at hd
  have hnil := isNilSli_spec hd.1
  have hn10 := hf.nN
  have hpt := hf.ptrN
  have hhead : headN C nul = 5 + lenIN C + nulN nul + 10 := rfl
  simp only [Sch.genR] at hc h1 ⊢
  generalize ht1 : c.t + gdN g + headN C nul = t1 at hc h1 ⊢
  generalize ht2 : t1 + 5 + readN C p + 4 = t2 at hc h1 ⊢
  have hm := (genR_mono (C := C) rest T PT pv ⟨c.l + 5, t2 + 5, c.k + 2⟩).1
  simp only at hm
  have behind : ∀ (f1 : Nat → Value) (w1 : World) (cc1 : Array Value) (rs1 : RS) (A : Option (List p.T)),
      (Sch.rd ver fl (.arrP g k o sT nul p rest) rs = (rest.rd ver fl rs1).map fun y => ((A, y.1), y.2)) →
      RdTo C R b a n lo w cc e f c.l (c.l + 5) c.t rs1 f1 w1 cc1 → (∀ j, (j < a + lo ∨ a + o + 1 ≤ j) → cc1[j]? = cc[j]?) → ArrFld (EltP p) w1 (RK R) p.sz (segL cc1 a n) o A →
      (seqL (rest.genR C T PT pv ⟨c.l + 5, t2 + 5, c.k + 2⟩).1).wp P Q f1 w1 := by
    intro f1 w1 cc1 rs1 A hrd hto hsame hfld
    have hd1 : rest.chkD (segL cc1 a n) = true := by
      refine chkD_congr rest htr (fun j hj1 hj2 => ?_) hd.2
      rw [segL_get hj2, segL_get hj2]
      exact hsame _ (by omega)
    refine ih T PT pv _ Q f1 w1 b a n (o + 1) cc1 e ver fl R rs1 htr hNr ((hf.keep hto.keep.keeps (Nat.le_refl _)).up (by simp)) (by simp only; omega) hto.st hd1 ?_ ?_
    · intro hnone f2 w2 h6 he2
      exact h0 (by rw [hrd, hnone]; rfl) f2 w2 h6 (hto.ext.trans he2)
    · intro y rs2 hy f2 w2 cc2 hto2 hrep2
      refine h1 (A, y) rs2 (by rw [hrd, hy]; rfl) f2 w2 cc2 (hto.trans hto2 (by omega) (by simp) hm (by simp only; omega)) ⟨?_, hrep2⟩
      exact hfld.move (EltP.ext p) hto2.ext hto.st.rw_.keepK (by rw [segL_get (by omega), segL_get (by omega)]; exact hto2.same _ (.inl (by omega)))
  refine seqL_cons ?_
  refine w_guard ht.c (show f 8 = _ from hf.ver) (show 8 < c.t by omega) (by omega) ?_ ?_
  · intro hon f1 hk1 h11
    have hf1 := hf.keep hk1 (by omega)
    rw [← ht1]
    refine r_list ht hnul (fun rs => some (p.rd fl rs)) (EltP p) (EltP.ext p) (EltP.mono p) (lo := lo) (m := c.l + 5) (ver := ver) (fl := fl) (sz := p.sz) hF hk hsz hz hzs hNl hNe hs hf1 (by omega) (by omega) (by omega) hn hlo hnil ?_ ?_ ?_
    · intro ab N cap et i av f' w' cur rsi hbase hi hav hf' hav' h3 hst hzero Q' q0 q1
      rw [ht1]
      refine r_bodyP ht (cap := cap) hNp hsz hkp (by omega) hbase hi hav hf' hav' h3 hst Q' ?_
      intro f'' w'' cur' a1 a2 a3 a4 a5
      exact q1 _ _ rfl f'' w'' cur' a1 a2 a3 a4 (by rw [ht1]; exact a5)
    · intro hnone f' w' h6 he
      refine h0 ?_ f' w' h6 he
      simp only [Sch.rd, if_pos hon, hnone]
    · intro A rs' hA f' w' cc' av ls hto hsame hav harr hsome hlen helt
      refine behind f' w' cc' rs' A ?_ ?_ hsame ⟨av, ls, hav, harr, hsome, hlen, helt⟩
      · simp only [Sch.rd, if_pos hon, hA]; rfl
      · exact (RdTo.refl (m := c.l + 5) hs (KeepR.of hk1 (by omega))).trans { hto with keep := fun y h1 hy => hto.keep y h1 (by omega) } (Nat.le_refl _) (Nat.le_refl _) (Nat.le_refl _) (Nat.le_refl c.t)
  · intro hoff f1 hk1 h11
    refine behind f1 w cc rs none ?_ (RdTo.refl hs (KeepR.of hk1 (by omega))) (fun _ _ => rfl) ⟨_, none, hnil, rfl, ⟨rfl, InHeap.nil _⟩, rfl, by simp⟩
    simp only [Sch.rd, hoff, Bool.false_eq_true, if_false]; rfl
theorem segL_set (P : Program) {T' : Nat} : ∀ (l : List DSt) (c z : Array Value) (a n : Nat), defOk P T' n l = true → z.size = n → segL c a n = z.toList → segL (setD a l c) a n = (setD 0 l z).toList
  | [], c, z, a, n, _, _, h => h
  | x :: l, c, z, a, n, hok, hz, h => by
    simp only [defOk, Bool.and_eq_true, decide_eq_true_eq] at hok
    simp only [setD]
    refine segL_set P l _ _ a n hok.2 (by simp [hz]) ?_
    apply List.ext_getElem?
    intro j
    by_cases hj : j < n
    · have h1 : (segL c a n)[j]? = z.toList[j]? := by rw [h]
      rw [segL_get hj] at h1
      rw [segL_get hj]
      simp only [Array.getElem?_setIfInBounds, Array.getElem?_toList, Nat.zero_add]
      by_cases e : x.o = j
      · subst e
        have hlt : a + x.o < c.size := by
          rcases Nat.lt_or_ge (a + x.o) c.size with h2 | h2
          · exact h2
          · rw [Array.getElem?_eq_none h2] at h1
            have : z[x.o]? = none := by simpa using h1.symm
            rw [Array.getElem?_eq_none_iff] at this
            omega
        simp [hlt, hz, hj]
      · rw [if_neg (by omega), if_neg e]
        simpa using h1
    · rw [segL_none (by omega)]
      symm
      apply List.getElem?_eq_none
      simp [hz]; omega
theorem setD_same (P : Program) {T' : Nat} : ∀ (l : List DSt) (c : Array Value) (a n : Nat), defOk P T' n l = true → ∀ j, (j < a ∨ a + n ≤ j) → (setD a l c)[j]? = c[j]?
  | [], c, a, n, _, j, _ => rfl
  | x :: l, c, a, n, hok, j, hj => by
    simp only [defOk, Bool.and_eq_true, decide_eq_true_eq] at hok
    simp only [setD]
    rw [setD_same P l _ a n hok.2 j hj, Array.getElem?_setIfInBounds, if_neg (by omega)]
/-- v := &a[i]; v.Default(); s := v -/
theorem r_elem {R : Rdr} {sT PT' df l t b a pv ab N cap i sz T' : Nat} {S : Sch} {av : Value} {ver : Int} {fl : Bool} {et : TypeId} {f : Nat → Value} {w : World} {cur : Array Value} {rsi : RS} {Q : Post} {z : Array Value} (hsl : sliSz P sT = some sz) (hD : DefRC P C.toCfg sz df S) (hok : defOk P T' sz (S.dst C.toCfg) = true) (hzs : z.size = sz) (hi : i < N) (hav : av = .slice (some ⟨ab, 0, none⟩) N cap)
    (hf : FrR C R f pv b a ver fl l) (h1 : f (l + 1) = av) (h3 : f (l + 3) = .int .i32 i) (hl : l + 6 ≤ t) (hst : StR C (rdr' R ab) ab 0 (N * sz) w cur et rsi) (hzero : segL cur (i * sz) sz = z.toList)
    (h : ∀ f' w' cur', FrR C (rdr' R ab) f' (l + 5) ab (i * sz) ver fl (l + 6) → StR C (rdr' R ab) ab (i * sz) sz w' cur' et rsi → cur'.size = cur.size → Ext (CB R ab) w w' → (∀ j, (j < i * sz ∨ i * sz + sz ≤ j) → cur'[j]? = cur[j]?) → segL cur' (i * sz) sz = (setD 0 (S.dst C.toCfg) z).toList → (∀ y, y < t → (y < l + 4 ∨ l + 6 ≤ y) → f' y = f y) → Q .normal f' w') :
    (seqL (elemR C sT PT' df l t)).wp P Q f w := by
  have hn10 := hf.nN
  have hpt := hf.ptrN
  have hrow := rowBound (sz := sz) hi
  have hfit := hst.fit
  have e3 : ∀ n, (l + 3 = t + n) = False := by intro n; simp; omega
  have e1 : ∀ n, (l + 1 = t + n) = False := by intro n; simp; omega
  have e2 : ∀ n, (l + 2 = t + n) = False := by intro n; simp; omega
  have e4 : ∀ n, (l + 4 = t + n) = False := by intro n; simp; omega
  have e0 : ∀ n, (l = t + n) = False := by intro n; simp; omega
  have e3' : (l + 3 = t) = False := by simp; omega
  have e1' : (l + 1 = t) = False := by simp; omega
  have e0' : (l = t) = False := by simp; omega
  subst hav
  refine seqL_cons ?_
  refine wp_reg ?_
  simp [h1, h3, e0', e0, e1, e2, e3, e4, e1', e3', idx?, hsl, hi, Addr.add_mk]
  show (seqL _).wp P _ _ w
  refine seqL_cons ?_
  refine wp_reg ?_
  simp [e0', e0, e1, e2, e3, e4]
  refine (hD w ab (i * sz) cur et hst.blk (by omega)).mono ?_
  rintro v w1 ⟨rfl⟩
  show (Ir.reg _).wp P _ _ _
  refine wp_reg ?_
  simp [e0', e0, e1, e2, e3, e4]
  have hE : Ext (fun x => x = ab) w (w.setBlk ab (.cells (setD (i * sz) (S.dst C.toCfg) cur) et (0, 0))) := (Ext.refl (fun x => x = ab) w).setBlk (b := ab) (Or.inr rfl) _
  have hE' : Ext (CB (rdr' R ab) ab) w (w.setBlk ab (.cells (setD (i * sz) (S.dst C.toCfg) cur) et (0, 0))) := hE.mono (fun _ _ h => .inr h)
  refine h _ _ _ ?_ ?_ (setD_size _ _ _) hE' (setD_same P _ _ _ _ hok) (segL_set P _ _ _ _ _ hok hzs hzero) ?_
  · have lo : ∀ y, y < l → ∀ v1 v2 v3 v4 v5 v6 v7 v8, upd (upd (upd (upd (upd (upd (upd (upd f t v1) (t + 1) v2) (t + 2) v3) (l + 4) v4) (t + 3) v5) (t + 4) v6) (t + 5) v7) (l + 5) v8 y = f y := by
      intro y hy v1 v2 v3 v4 v5 v6 v7 v8
      have x1 : ∀ n, (y = t + n) = False := by intro n; simp; omega
      have x2 : (y = t) = False := by simp; omega
      have x3 : ∀ n, (y = l + n) = False := by intro n; simp; omega
      simp [x1, x2, x3]
    exact ⟨by simp [e0'], by omega, hf.v0, (lo 8 (by omega) _ _ _ _ _ _ _ _).trans hf.ver, fun hx => (lo 9 (by omega) _ _ _ _ _ _ _ _).trans (hf.flg hx), hf.flN, (lo C.rs (by have := hf.rsN; omega) _ _ _ _ _ _ _ _).trans hf.rd, (lo 2 (by omega) _ _ _ _ _ _ _ _).trans hf.us, by omega, ⟨hf.rsN.1, by have := hf.rsN; omega⟩⟩
  · exact ⟨setBlk_same hst.blk, by rw [setD_size]; omega, hst.rd.ext hE (fun h => hst.rw_.ne.2.2 h) (fun h => hst.rw_.ne.2.1 h.symm), hst.rw_.ext hE'⟩
  · intro y hy hy2
    have x1 : ∀ n, (y = t + n) = False := by intro n; simp; omega
    have x2 : (y = t) = False := by simp; omega
    have x3 : (y = l + 4) = False := by simp; omega
    have x4 : (y = l + 5) = False := by simp; omega
    simp [x1, x2, x3, x4, e0']
end
end Go.Kg
