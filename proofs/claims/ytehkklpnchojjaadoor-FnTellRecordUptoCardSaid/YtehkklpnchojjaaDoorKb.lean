/- What is proved here: how the code of the messages runs, in general: a semantics of calls by their texts, and contracts of the functions of kbin and of the reference. No condition but those that each theorem names. -/
import Derived.Laws.IdiomCopy
import Derived.Test.YtehkklpnchojjaaDoorKa
set_option linter.unusedSectionVars false
set_option linter.unusedSimpArgs false
set_option linter.unusedVariables false
set_option linter.unusedSimpArgs false
set_option linter.unusedVariables false
namespace Go.Kg
open Go
def rdUv (rs : RS) : Nat × RS := match uv rs.src with
  | some (n, r) => (n, ⟨r, rs.bad, true⟩)
  | none => (0, .fail)
/-- text of bytes -/
theorem convK_bytes {P : Program} {f : Nat → Value} {S D e : TypeId} {x : Operand} {ty : TypeId} {w : World} {K : Value → World → Prop} (hS : P.underlying S = some (.slice e)) (he : P.underlying e = some (.int .u8)) (hD : P.underlying D = some .string)
    {C : Nat → Prop} {v : Value} {s : List UInt8} (hv : BytesAt w C v s) (hx : evF f x = v) : convK P f S D x ty w K v = K (strV s) w := by
  have h1 : convK P f S D x ty w K v = stepF P f (.convert S D x) ty w K := by
    rcases hv with ⟨⟨a, rfl⟩, _⟩ | ⟨b, o, c, rfl, _⟩ <;> rfl
  rw [h1]
  refine stepF_ok ?_
  rcases hv with ⟨⟨a, rfl⟩, rfl⟩ | ⟨b, o, c, rfl, _, _, hc⟩
  · cases a with
    | none =>
      simp only [runF, execOp, hx, Sem.run_bind, run_convert_bytes_nil w S e hS he 0 0 D hD, Result.andThen_ok, Sem.run_pure]
      rfl
    | some a =>
      have := run_convert_bytes_back (P := P) w S D e a 0 [] hS he hD (by intro j hj; simp at hj)
      simp only [List.length_nil] at this
      simp only [runF, execOp, hx, Sem.run_bind, this, Result.andThen_ok, Sem.run_pure, strV]
  · have := run_convert_bytes_back (P := P) w S D e ⟨b, o, none⟩ c s hS he hD (by
      intro j hj
      rw [Addr.add_mk]
      exact hc j _ (List.getElem?_eq_getElem hj))
    simp only [runF, execOp, hx, Sem.run_bind, this, Result.andThen_ok, Sem.run_pure, strV]
structure TyRs (P : Program) (E : Env) : Prop extends TyRd P E where
  uU8 : P.underlying E.tU8 = some (.int .u8)
  uS : P.underlying E.tS = some .string
  kS : kindOf P E.tS = .scl
  zS : zeroOf P E.tS = some (.string ⟨#[]⟩)
  iI16 : E.tI16 ≠ 0 → intKind? P E.tI16 = some .i16
  iI32 : intKind? P E.tI32 = some .i32
  iU32 : intKind? P E.tU32 = some .u32
  iInt : intKind? P E.tInt = some .i64
def i16 (n : Nat) : Int := IntKind.i16.wrap n
def i32 (n : Nat) : Int := IntKind.i32.wrap n
theorem i64_small {n : Int} (h0 : -9223372036854775808 ≤ n) (h1 : n < 9223372036854775808) : IntKind.i64.wrap n = n := by simp [IntKind.wrap, IntKind.signed, IntKind.bits]; omega
theorem uvGo_lt : ∀ {k : Nat} {s r : List UInt8} {n : Nat}, uvGo k s = some (n, r) → n < 128 ^ k * 16 := by
  intro k
  induction k with
  | zero =>
    intro s r n h
    cases s with
    | nil => cases h
    | cons b s => simp only [uvGo] at h; split at h
                  · cases h; simp; omega
                  · cases h
  | succ k ih =>
    intro s r n h
    cases s with
    | nil => cases h
    | cons b s =>
      simp only [uvGo] at h
      split at h
      · cases h
        have : 1 ≤ 128 ^ k := Nat.one_le_pow _ _ (by omega)
        rw [Nat.pow_succ]; omega
      · obtain ⟨⟨m, r'⟩, hm, he⟩ := Option.map_eq_some_iff.1 h
        cases he
        have := ih hm
        rw [Nat.pow_succ]; omega
theorem rdUv_lt (rs : RS) : (rdUv rs).1 < 4294967296 := by
  unfold rdUv
  split
  · rename_i n r h
    have := uvGo_lt h
    simpa using this
  · simp
def rdStr (rs : RS) : List UInt8 × RS := rdSpan (i16 (rdFixed 2 rs).1) (rdFixed 2 rs).2
def rdCStr (rs : RS) : List UInt8 × RS := rdSpan ((rdUv rs).1 - 1) (rdUv rs).2
def rdNStr (rs : RS) : Option (List UInt8) × RS := if i16 (rdFixed 2 rs).1 < 0 then (none, (rdFixed 2 rs).2) else (some (rdStr rs).1, (rdStr rs).2)
def rdCNStr (rs : RS) : Option (List UInt8) × RS := if ((rdUv rs).1 : Int) - 1 < 0 then (none, (rdUv rs).2) else (some (rdCStr rs).1, (rdCStr rs).2)
/-- A reader whose result stands in memory as R says. -/
def RdPC (P : Program) (TR f : Nat) {α : Type} (R : World → Nat → World → Value → α → Prop) (g : RS → α × RS) : Prop := ∀ w pb D rs, pb ≠ D → D < w.heap.size → RdAt TR w pb D rs →
  Ret P f #[.pointer (some ⟨pb, 0, none⟩)] w fun v w' => R w D w' v (g rs).1 ∧ Ext (· = pb) w w' ∧ RdAt TR w' pb D (g rs).2
def RNBytes (w0 : World) (D : Nat) (w : World) (v : Value) (o : Option (List UInt8)) : Prop := BytesOpt w (· = D) v o
theorem RdAt.ext {TR : TypeId} {w w' : World} {pb D : Nat} {rs : RS} (h : RdAt TR w pb D rs) {C : Nat → Prop} (he : Ext C w w') (h1 : ¬ C pb) (h2 : ¬ C D) : RdAt TR w' pb D rs := by
  obtain ⟨sv, hb, hs, hn⟩ := h
  exact ⟨sv, he.old hb h1, hs.ext he (by rintro b _ rfl; exact h2), hn⟩
theorem RdAt.lt {TR : TypeId} {w : World} {pb D : Nat} {rs : RS} (h : RdAt TR w pb D rs) : pb < w.heap.size := by
  obtain ⟨sv, hb, _⟩ := h; exact lt_of_heap hb
theorem Ext.tr {C : Nat → Prop} {a b c : World} (h : Ext C a b) (k : Ext C b c) : Ext C a c := h.trans k
section
variable {P : Program} {E : Env} (ht : TyRs P E)
include ht
end
end Go.Kg

set_option linter.unusedSimpArgs false
set_option linter.unusedVariables false
namespace Go.Kg
open Go
def rdBytes (rs : RS) : List UInt8 × RS := if i32 (rdFixed 4 rs).1 = -1 then ([], (rdFixed 4 rs).2) else rdSpan (i32 (rdFixed 4 rs).1) (rdFixed 4 rs).2
def rdCBytes (rs : RS) : List UInt8 × RS := if (rdUv rs).1 = 0 then ([], (rdUv rs).2) else rdSpan ((rdUv rs).1 - 1) (rdUv rs).2
def optOf (p : List UInt8 × RS) : Option (List UInt8) × RS := (if p.2.nn then some p.1 else none, p.2)
def rdNBytes (rs : RS) : Option (List UInt8) × RS := if i32 (rdFixed 4 rs).1 < 0 then (none, (rdFixed 4 rs).2) else optOf (rdSpan (i32 (rdFixed 4 rs).1) (rdFixed 4 rs).2)
def capLen (n : Int) (rs : RS) : Int × RS := if (rs.src.length : Int) < n then (0, .fail) else (n, rs)
def rdLen (rs : RS) : Int × RS := capLen (i32 (rdFixed 4 rs).1) (rdFixed 4 rs).2
def rdCLen (rs : RS) : Int × RS := capLen (IntKind.i32.wrap (i32 (rdUv rs).1 - 1)) (rdUv rs).2
theorem bytesOpt_of {w : World} {K : Nat → Prop} {v : Value} {p : List UInt8 × RS} (h : BytesAt w K v p.1) (hn : nonNil v = p.2.nn) : BytesOpt w K v (optOf p).1 := by
  simp only [optOf]
  rw [← hn]
  rcases h with ⟨⟨a, rfl⟩, h⟩ | ⟨b, o, c, rfl, h⟩
  · cases a with
    | none => simp [nonNil, BytesOpt]
    | some a =>
      simp only [nonNil, if_true, BytesOpt]
      exact ⟨.inl ⟨⟨_, rfl⟩, h⟩, by simp⟩
  · simp only [nonNil, if_true, BytesOpt]
    exact ⟨.inr ⟨b, o, c, rfl, h⟩, by simp⟩
section
variable {P : Program} {E : Env} (ht : TyRs P E)
include ht
theorem c_Ok (hI : FnIs P E.f_pkbin_Reader_Ok nt_pkbin_Reader_Ok (rs_pkbin_Reader_Ok E) (ir_pkbin_Reader_Ok E)) {w : World} {pb D : Nat} {rs : RS} (hr : RdAt E.tRd w pb D rs) :
    Ret P E.f_pkbin_Reader_Ok #[.pointer (some ⟨pb, 0, none⟩)] w fun v w' => v = .bool !rs.bad ∧ w' = w := by
  obtain ⟨sv, hb, hs, hn⟩ := hr
  refine hI.call (args := [_]) (by simp [nt_pkbin_Reader_Ok]) ?_
  simp [ir_pkbin_Reader_Ok, rs_pkbin_Reader_Ok, ht.rd1, ld_scl ht.kB, Addr.add_mk, cell_of_blk hb]
theorem c_Complete (kErr : kindOf P E.tErr = .scl) (hI : FnIs P E.f_pkbin_Reader_Complete nt_pkbin_Reader_Complete (rs_pkbin_Reader_Complete E) (ir_pkbin_Reader_Complete E)) {w : World} {pb D : Nat} {rs : RS} (hr : RdAt E.tRd w pb D rs)
    {ev : Value} (hev : rs.bad = true → w.cell? ⟨E.g_kbin_ErrNotEnoughData, 0, none⟩ = some ev) :
    Ret P E.f_pkbin_Reader_Complete #[.pointer (some ⟨pb, 0, none⟩)] w fun v w' => v = (if rs.bad then ev else .nilIface) ∧ w' = w := by
  obtain ⟨sv, hb, hs, hn⟩ := hr
  refine hI.call (args := [_]) (by simp [nt_pkbin_Reader_Complete]) ?_
  simp [ir_pkbin_Reader_Complete, rs_pkbin_Reader_Complete, ht.rd1, ld_scl ht.kB, Addr.add_mk, cell_of_blk hb]
  cases h : rs.bad
  · refine cw_false (by simp) ?_
    simp
  · refine cw_true (by simp) ?_
    simp [ld_scl kErr, hev h]
end
end Go.Kg

set_option linter.unusedSimpArgs false
set_option linter.unusedVariables false
namespace Go.Kg
open Go
def rdUuid (rs : RS) : List UInt8 × RS := (if (rdSpan 16 rs).1.length = 16 then (rdSpan 16 rs).1 else List.replicate 16 0, (rdSpan 16 rs).2)
@[simp] theorem stp_copy {P : Program} {f : Nat → Value} {ty : TypeId} {w : World} {K : Value → World → Prop} {xs : Array Operand} {ts : Array TypeId} : stp P f (.call { callee := .builtin .copy, args := xs, argTypes := ts }) ty w K = stepF P f (.call { callee := .builtin .copy, args := xs, argTypes := ts }) ty w K := (rfl)
theorem cellsFrom_list {w : World} : ∀ (l : List Value) (b o i : Nat), (∀ j v, l[j]? = some v → w.cell? ⟨b, o + (i + j), none⟩ = some v) → cellsFrom w ⟨b, o, none⟩ i l.length = some l := by
  intro l
  induction l with
  | nil => intro b o i h; rfl
  | cons v l ih =>
    intro b o i h
    have h0 := h 0 v rfl
    have := ih b o (i + 1) (fun j u hj => by have := h (j + 1) u hj; rwa [show o + (i + (j + 1)) = o + (i + 1 + j) by omega] at this)
    simp only [List.length_cons, cellsFrom, Addr.add_mk, this]
    simp at h0
    simp [h0]
theorem allOne_cells : ∀ l : List UInt8, allOne (cellsOf l) = true
  | [] => rfl
  | b :: l => by simp only [cellsOf, List.map_cons, allOne, Value.oneCell', Bool.true_and]; exact allOne_cells l
end Go.Kg

set_option linter.unusedVariables false
namespace Go.Kg
open Go
end Go.Kg

set_option linter.unusedSimpArgs false
set_option linter.unusedVariables false
namespace Go.Kg
open Go
inductive Prim where
  | bool | i8 | i16 | u16 | i32 | i64 | uuid | str | nstr | bytes | nbytes
deriving DecidableEq
def Prim.T : Prim → Type
  | .bool => Bool
  | .i8 | .i16 | .u16 | .i32 | .i64 => Int
  | .uuid | .str | .bytes => List UInt8
  | .nstr | .nbytes => Option (List UInt8)
/-- From which version on, and up to which, a field stands. -/
structure Gd where
  lo : Option Nat
  hi : Option Nat
def Gd.on (g : Gd) (v : Int) : Bool := match g.lo, g.hi with
  | none, _ => true
  | some n, none => decide ((n : Int) ≤ v)
  | some n, some m => decide ((n : Int) ≤ v) && decide (v ≤ (m : Int))
/-- k: the field's place in its struct; o: its first cell; sT: a slice's type; d: a number's default; nul: from which version on a list may be null (only so written); T, PT: a struct's and its pointer's type, sz: its cells, df: its function Default. -/
inductive Sch where
  | fin
  | tags (k o : Nat)
  | prim (g : Gd) (k o : Nat) (p : Prim) (en : Nat) (d : Int) (rest : Sch)
  | arrP (g : Gd) (k o sT : Nat) (nul : Option Nat) (p : Prim) (rest : Sch)
  | arrS (g : Gd) (k o sT : Nat) (nul : Option Nat) (T PT sz df : Nat) (e rest : Sch)
  | sub (g : Gd) (k o T PT sz df : Nat) (e rest : Sch)
  | opt (g : Gd) (k o T PT PP sz df : Nat) (e rest : Sch)
abbrev TagL := List (Nat × List UInt8)
def Sch.T : Sch → Type
  | .fin => Unit
  | .tags _ _ => TagL
  | .prim _ _ _ p _ _ rest => p.T × rest.T
  | .arrP _ _ _ _ _ p rest => Option (List p.T) × rest.T
  | .arrS _ _ _ _ _ _ _ _ _ e rest => Option (List e.T) × rest.T
  | .sub _ _ _ _ _ _ _ e rest => e.T × rest.T
  | .opt _ _ _ _ _ _ _ _ e rest => Option e.T × rest.T
def num (k : Nat) (n : Int) : List UInt8 := bigE k (n % (256 ^ k : Nat)).toNat
/-- fx: the message has a variable isFlexible; sv, sf: where version and isFlexible stand. -/
structure Cfg where
  E : Env
  fx : Bool
  sv : Nat
  sf : Nat
def Prim.ty (E : Env) : Prim → Nat
  | .bool => E.tB | .i8 => E.tI8 | .i16 => E.tI16 | .u16 => E.tU16 | .i32 => E.tI32 | .i64 => E.tI64 | .uuid => E.tUu | .str => E.tS | .nstr => E.tPS | .bytes => E.tBs | .nbytes => E.tBs
def Prim.text : Prim → Bool
  | .str | .nstr | .bytes | .nbytes => true
  | _ => false
end Go.Kg

set_option linter.unusedSimpArgs false
set_option linter.unusedVariables false
namespace Go.Kg
open Go
def seg (cs : List Value) (o : Nat) (vs : List Value) : Prop := ∀ j u, vs[j]? = some u → cs[o + j]? = some u
/-- The cells of a struct (or of any value) from an address on. -/
def CellsAt (w : World) (b a : Nat) (cs : List Value) : Prop := ∀ j u, cs[j]? = some u → w.cell? ⟨b, a + j, none⟩ = some u
def Prim.rep1 (w : World) (K : Nat → Prop) (v : Value) : (p : Prim) → p.T → Prop
  | .bool, b => v = .bool b
  | .i8, n => v = .int .i8 n
  | .i16, n => v = .int .i16 n
  | .u16, n => ∃ m : Nat, n = (m : Int) ∧ m < 65536 ∧ v = .int .u16 m
  | .i32, n => v = .int .i32 n
  | .i64, n => v = .int .i64 n
  | .uuid, l => v = .agg (cellsOf l).toArray ∧ (show List UInt8 from l).length = 16
  | .str, l => v = strV l
  | .nstr, o => StrPtr w K v o
  | .bytes, l => BytesAt w K v l
  | .nbytes, o => BytesOpt w K v o
def TagsAt (w : World) (K : Nat → Prop) (v : Value) (l : TagL) : Prop :=
  (v = .map none ∧ l = []) ∨ ∃ b es clock, v = .map (some b) ∧ K b ∧ w.heap[b]? = some (.map es clock) ∧ es.size = l.length ∧ ((l.map (·.1)).Nodup ∧ (es.toList.map (·.born)).Nodup) ∧ (l.length < 4294967296 ∧ l ≠ []) ∧
    ∀ (i : Nat) e x, es[i]? = some e → l[i]? = some x → e.key = .int .u32 x.1 ∧ x.1 < 4294967296 ∧ e.born < clock ∧ BytesAt w K e.val x.2
/-- A slice: its elements' cells, sz each. -/
def ArrAt (w : World) (K : Nat → Prop) (sz : Nat) (v : Value) : Option (List (List Value)) → Prop
  | none => v = .slice none 0 0
  | some ls => ∃ b o c, v = .slice (some ⟨b, o, none⟩) ls.length c ∧ K b ∧ (ls.length ≤ c ∧ ls.length ≤ 1099511627776) ∧ ∀ i cs, ls[i]? = some cs → cs.length = sz ∧ CellsAt w b (o + i * sz) cs
def Prim.sz : Prim → Nat
  | .uuid => 16
  | _ => 1
/-- a slice's block is there -/
def InHeap (w : World) (v : Value) : Prop := ∀ a n c, v = .slice (some a) n c → a.block < w.heap.size
theorem InHeap.nil (w : World) : InHeap w (.slice none 0 0) := by intro a n c h; cases h
theorem InHeap.ext {w w' : World} {v : Value} {C : Nat → Prop} (h : InHeap w v) (he : Ext C w w') : InHeap w' v := fun a n c e => Nat.lt_of_lt_of_le (h a n c e) he.size
def Sch.Rep (w : World) (K : Nat → Prop) : (S : Sch) → List Value → S.T → Prop
  | .fin, _, _ => True
  | .tags _ o, cs, l => ∃ v, cs[o]? = some v ∧ TagsAt w K v l
  | .prim _ _ o p _ _ rest, cs, (x, r) => (∃ v, seg cs o v.cells.toList ∧ p.rep1 w K v x) ∧ rest.Rep w K cs r
  | .arrP _ _ o _ _ p rest, cs, (a, r) => (∃ v ls, cs[o]? = some v ∧ ArrAt w K p.sz v ls ∧ (ls.isSome = a.isSome ∧ InHeap w v) ∧ (ls.getD []).length = (a.getD []).length ∧
      ∀ (i : Nat) (es : List Value) x, (ls.getD [])[i]? = some es → (a.getD [])[i]? = some x → ∃ u, es = u.cells.toList ∧ p.rep1 w K u x) ∧ rest.Rep w K cs r
  | .arrS _ _ o _ _ _ _ sz _ e rest, cs, (a, r) => (∃ v ls, cs[o]? = some v ∧ ArrAt w K sz v ls ∧ (ls.isSome = a.isSome ∧ InHeap w v) ∧ (ls.getD []).length = (a.getD []).length ∧
      ∀ (i : Nat) (es : List Value) x, (ls.getD [])[i]? = some es → (a.getD [])[i]? = some x → e.Rep w K es x) ∧ rest.Rep w K cs r
  | .sub _ _ o _ _ sz _ e rest, cs, (x, r) => e.Rep w K ((cs.drop o).take sz) x ∧ rest.Rep w K cs r
  | .opt _ _ o _ _ _ sz _ e rest, cs, (a, r) => (∃ v, cs[o]? = some v ∧ (a = none → v = .pointer none) ∧ ∀ x, a = some x → ∃ b c es, v = .pointer (some ⟨b, c, none⟩) ∧ K b ∧ b < w.heap.size ∧ es.length = sz ∧ CellsAt w b c es ∧ e.Rep w K es x) ∧ rest.Rep w K cs r
section
variable {P : Program} {C : Cfg} {Q : Post} {f : Nat → Value} {w : World}
/-- what a local variable holds -/
def LocVal (w : World) (f : Nat → Value) (p : Prim) (l : Nat) (u : Value) : Prop :=
  if p = .uuid then ∃ b cs e fz, f l = .pointer (some ⟨b, 0, none⟩) ∧ w.heap[b]? = some (.cells cs e fz) ∧ u = .agg cs ∧ cs.size = 16 else f l = u
/-- the frame below t (but for slot 1) is as it was -/
def Keeps (f f' : Nat → Value) (t : Nat) : Prop := ∀ x, x < t → x ≠ 1 → f' x = f x
theorem Keeps.refl (f : Nat → Value) (t : Nat) : Keeps f f t := fun _ _ _ => rfl
theorem Keeps.trans {f g h : Nat → Value} {t t' : Nat} (a : Keeps f g t) (b : Keeps g h t') (ht : t ≤ t') : Keeps f h t := fun x hx h1 => (b x (by omega) h1).trans (a x hx h1)
theorem Keeps.mono {f g : Nat → Value} {t t' : Nat} (a : Keeps f g t) (ht : t' ≤ t) : Keeps f g t' := fun x hx h1 => a x (by omega) h1
theorem LocVal.keep {p : Prim} {l t : Nat} {u : Value} {f' : Nat → Value} (h : LocVal w f p l u) (hk : Keeps f f' t) (hl : l < t) (hl1 : l ≠ 1) : LocVal w f' p l u := by
  unfold LocVal at h ⊢
  rw [hk l hl hl1]
  exact h
/-- the flag that counts -/
def flagOk (C : Cfg) (f : Nat → Value) (fl : Bool) : Prop := (C.fx = true → f C.sf = .bool fl ∧ C.sf ≠ 1) ∧ (C.fx = false → fl = false)
end
end Go.Kg

set_option linter.unusedSimpArgs false
set_option linter.unusedVariables false
namespace Go.Kg
open Go
section
variable {w w' : World} {K C : Nat → Prop} (he : Ext C w w') (hK : ∀ b, b < w.heap.size → K b → ¬ C b)
include he hK
theorem StrPtr.ext {v : Value} {o : Option (List UInt8)} (h : StrPtr w K v o) : StrPtr w' K v o := by
  cases o with
  | none => exact h
  | some l => obtain ⟨a, rfl, hk, hc⟩ := h; exact ⟨a, rfl, hk, he.cell hc (hK _ (World.block_lt_of_cell? w _ hc) hk)⟩
theorem BytesOpt.ext {v : Value} {o : Option (List UInt8)} (h : BytesOpt w K v o) : BytesOpt w' K v o := by
  cases o with
  | none => exact h
  | some l => exact ⟨h.1.ext he hK, h.2⟩
theorem Prim.rep1_ext {p : Prim} {v : Value} {x : p.T} (h : p.rep1 w K v x) : p.rep1 w' K v x := by
  cases p <;> first | exact h | exact StrPtr.ext he hK h | exact BytesAt.ext h he hK | exact BytesOpt.ext he hK h
theorem TagsAt.ext {v : Value} {l : TagL} (h : TagsAt w K v l) : TagsAt w' K v l := by
  rcases h with h | ⟨b, es, clock, rfl, hk, hb, hs, hn, hl, hx⟩
  · exact .inl h
  · refine .inr ⟨b, es, clock, rfl, hk, he.old hb (hK _ (lt_of_heap hb) hk), hs, hn, hl, fun i e x h1 h2 => ?_⟩
    obtain ⟨a1, a2, a3, a4⟩ := hx i e x h1 h2
    exact ⟨a1, a2, a3, a4.ext he hK⟩
theorem CellsAt.ext {b a : Nat} {cs : List Value} (h : CellsAt w b a cs) (hk : K b) : CellsAt w' b a cs := fun j u hj => he.cell (h j u hj) (hK _ (World.block_lt_of_cell? w _ (h j u hj)) hk)
theorem ArrAt.ext {sz : Nat} {v : Value} {ls : Option (List (List Value))} (h : ArrAt w K sz v ls) : ArrAt w' K sz v ls := by
  cases ls with
  | none => exact h
  | some ls => obtain ⟨b, o, c, rfl, hk, hn, hx⟩ := h; exact ⟨b, o, c, rfl, hk, hn, fun i cs hi => ⟨(hx i cs hi).1, CellsAt.ext he hK (hx i cs hi).2 hk⟩⟩
theorem Sch.Rep_ext : ∀ (S : Sch) {cs : List Value} {x : S.T}, S.Rep w K cs x → S.Rep w' K cs x := by
  intro S
  induction S with
  | fin => intro cs x h; trivial
  | tags k o => intro cs x ⟨v, h1, h2⟩; exact ⟨v, h1, h2.ext he hK⟩
  | prim g k o p en d rest ih => intro cs x ⟨⟨v, h1, h2⟩, h3⟩; exact ⟨⟨v, h1, Prim.rep1_ext he hK h2⟩, ih h3⟩
  | arrP g k o sT nul p rest ih =>
    intro cs x ⟨⟨v, ls, h1, h2, h3, h4, h5⟩, h6⟩
    refine ⟨⟨v, ls, h1, h2.ext he hK, ⟨h3.1, h3.2.ext he⟩, h4, fun i es y hi hy => ?_⟩, ih h6⟩
    obtain ⟨u, a1, a2⟩ := h5 i es y hi hy
    exact ⟨u, a1, Prim.rep1_ext he hK a2⟩
  | arrS g k o sT nul T PT sz df e rest ihe ih =>
    intro cs x ⟨⟨v, ls, h1, h2, h3, h4, h5⟩, h6⟩
    exact ⟨⟨v, ls, h1, h2.ext he hK, ⟨h3.1, h3.2.ext he⟩, h4, fun i es y hi hy => ihe (h5 i es y hi hy)⟩, ih h6⟩
  | sub g k o T PT sz df e rest ihe ih => intro cs x ⟨h1, h2⟩; exact ⟨ihe h1, ih h2⟩
  | opt g k o T PT PP sz df e rest ihe ih =>
    intro cs x ⟨⟨v, h1, h2, h3⟩, h4⟩
    refine ⟨⟨v, h1, h2, fun y hy => ?_⟩, ih h4⟩
    obtain ⟨b, c, es, a1, a2, a3, a4, a5, a6⟩ := h3 y hy
    exact ⟨b, c, es, a1, a2, Nat.lt_of_lt_of_le a3 he.size, a4, CellsAt.ext he hK a5 a2, ihe a6⟩
end
section
variable {P : Program} {C : Cfg}
end
end Go.Kg

set_option linter.unusedSimpArgs false
set_option linter.unusedVariables false
namespace Go.Kg
open Go
theorem rep1_one {w : World} {K : Nat → Prop} {p : Prim} {u : Value} {x : p.T} (h : p.rep1 w K u x) : if p = .uuid then ∃ c : Array Value, u = .agg c ∧ c.size = 16 ∧ allOne c.toList = true else u.oneCell' = true := by
  cases p with
  | uuid => exact ⟨_, h.1, by rw [List.size_toArray]; exact (cellsOf_length (s := x)).trans h.2, by simpa using allOne_cells _⟩
  | bool => have h' : u = .bool x := h; subst h'; simp [Value.oneCell']
  | i8 => have h' : u = .int .i8 x := h; subst h'; simp [Value.oneCell']
  | i16 => have h' : u = .int .i16 x := h; subst h'; simp [Value.oneCell']
  | u16 => obtain ⟨m, _, _, rfl⟩ := h; simp [Value.oneCell']
  | i32 => have h' : u = .int .i32 x := h; subst h'; simp [Value.oneCell']
  | i64 => have h' : u = .int .i64 x := h; subst h'; simp [Value.oneCell']
  | str => have h' : u = strV x := h; subst h'; simp [Value.oneCell', strV]
  | nstr =>
    cases x with
    | none => have h' : u = .pointer none := h; subst h'; simp [Value.oneCell']
    | some l => obtain ⟨a, rfl, _⟩ := h; simp [Value.oneCell']
  | bytes =>
    obtain ⟨a, c, rfl, _⟩ := BytesAt.len h; simp [Value.oneCell']
  | nbytes =>
    cases x with
    | none => have h' : u = .slice none 0 0 := h; subst h'; simp [Value.oneCell']
    | some l => obtain ⟨a, c, rfl, _⟩ := BytesAt.len h.1; simp [Value.oneCell']
section
variable {P : Program} {C : Cfg}
/-- What the frame holds while a struct is written. -/
structure FrW (C : Cfg) (f : Nat → Value) (pv b a : Nat) (ver : Int) (fl : Bool) (n : Nat) : Prop where
  ptr : f pv = .pointer (some ⟨b, a, none⟩)
  ptrN : pv < n ∧ pv ≠ 1
  svv : f C.sv = .int .i16 ver
  svN : C.sv < n ∧ C.sv ≠ 1
  flg : flagOk C f fl
  sfN : C.fx = true → C.sf < n
  one : 1 < n
theorem FrW.keep {f f' : Nat → Value} {pv b a n : Nat} {ver : Int} {fl : Bool} (h : FrW C f pv b a ver fl n) {t : Nat} (hk : Keeps f f' t) (ht : n ≤ t) : FrW C f' pv b a ver fl n :=
  ⟨(hk _ (by have := h.ptrN; omega) h.ptrN.2).trans h.ptr, h.ptrN, (hk _ (by have := h.svN; omega) h.svN.2).trans h.svv, h.svN,
   ⟨fun hx => ⟨(hk _ (by have := h.sfN hx; omega) (h.flg.1 hx).2).trans (h.flg.1 hx).1, (h.flg.1 hx).2⟩, h.flg.2⟩, h.sfN, h.one⟩
theorem FrW.up {f : Nat → Value} {pv b a n m : Nat} {ver : Int} {fl : Bool} (h : FrW C f pv b a ver fl n) (hm : n ≤ m) : FrW C f pv b a ver fl m :=
  ⟨h.ptr, ⟨by have := h.ptrN; omega, h.ptrN.2⟩, h.svv, ⟨by have := h.svN; omega, h.svN.2⟩, h.flg, fun hx => by have := h.sfN hx; omega, by have := h.one; omega⟩
/-- The destination. -/
def Dst (C : Cfg) (f : Nat → Value) (w : World) (base : Nat) (s : List UInt8) : Prop := OwnB C.E.tU8 w base (f 1) s ∧ base ≤ w.heap.size
/-- Only slot 1, the locals from n up to m, and the temporaries from t on have turned. -/
def KeepR (f f' : Nat → Value) (n m t : Nat) : Prop := ∀ x, x ≠ 1 → (x < n ∨ (m ≤ x ∧ x < t)) → f' x = f x
theorem KeepR.of {f f' : Nat → Value} {n m t : Nat} (h : Keeps f f' t) (hn : n ≤ t) : KeepR f f' n m t := fun x h1 hx => h x (by omega) h1
theorem KeepR.refl (f : Nat → Value) (n m t : Nat) : KeepR f f n m t := fun _ _ _ => rfl
theorem KeepR.trans {f g h : Nat → Value} {n m t n' m' t' : Nat} (a : KeepR f g n m t) (b : KeepR g h n' m' t') (hn : n ≤ n') (hm : m ≤ m') (ht : t ≤ t') : KeepR f h n m' t :=
  fun x h1 hx => (b x h1 (by omega)).trans (a x h1 (by omega))
theorem KeepR.mono {f g : Nat → Value} {n m t m' : Nat} (a : KeepR f g n m t) (hm : m ≤ m') : KeepR f g n m' t := fun x h1 hx => a x h1 (by omega)
/-- from (f, w) to (f', w'): out was written -/
structure Wrote (C : Cfg) (f : Nat → Value) (w : World) (base : Nat) (s out : List UInt8) (n m t : Nat) (f' : Nat → Value) (w' : World) : Prop where
  dst : Dst C f' w' base (s ++ out)
  grew : Grew w (f 1) w' (f' 1)
  keep : KeepR f f' n m t
theorem Wrote.refl {f : Nat → Value} {w : World} {base : Nat} {s : List UInt8} (h : Dst C f w base s) (n m t : Nat) : Wrote C f w base s [] n m t f w := ⟨by simpa using h, Grew.refl _ _, KeepR.refl _ _ _ _⟩
theorem Wrote.trans {f g h : Nat → Value} {w1 w2 w3 : World} {base n m t n' m' t' : Nat} {s a b : List UInt8} (x : Wrote C f w1 base s a n m t g w2) (y : Wrote C g w2 base (s ++ a) b n' m' t' h w3) (hn : n ≤ n') (hm : m ≤ m') (ht : t ≤ t') : Wrote C f w1 base s (a ++ b) n m' t h w3 :=
  ⟨by have := y.dst; rwa [List.append_assoc] at this, x.grew.trans y.grew, x.keep.trans y.keep hn hm ht⟩
theorem Wrote.own {f g : Nat → Value} {w w' : World} {base n m t : Nat} {s a : List UInt8} (hd : Dst C f w base s) (x : Wrote C f w base s a n m t g w') : ∀ b, b < w.heap.size → b < base → ¬ own1 (f 1) b :=
  fun b _ hb ho => by have := (Own.below hd.1 ho).1; omega
variable {ok : TagL → Prop}
theorem CellsAt.seg {w : World} {b a : Nat} {cs : List Value} (h : CellsAt w b a cs) (o sz : Nat) : CellsAt w b (a + o) ((cs.drop o).take sz) := by
  intro j u hj
  rw [List.getElem?_take] at hj
  split at hj
  · rw [List.getElem?_drop] at hj
    rw [← h _ _ hj]; congr 2; omega
  · cases hj
end
end Go.Kg

set_option linter.unusedVariables false
namespace Go.Kg
open Go
def ir_spec_Write (E : Env) : Ir := (.seq (.reg [ ⟨none, some 3, .box E.t_spec_Message (.tmp 0), E.tNil⟩, ⟨none, some 5, .box E.t_spec_Tree (.tmp 2), E.tNil⟩, ⟨none, some 6, .assign (.const (.slice none 0 0)), E.tBs⟩]) (.seq (.reg [ ⟨none, some 7, .fieldAddr E.t_spec_Message (.tmp 3) 0, E.tNil⟩, ⟨none, some 8, .load E.t_l_spec_Field (.tmp 7), E.t_l_spec_Field⟩, ⟨none, some 9, .move (.tmp 1), E.tInt⟩, ⟨none, some 10, .fieldAddr E.t_spec_Message (.tmp 3) 1, E.tNil⟩, ⟨none, some 11, .load E.tInt (.tmp 10), E.tInt⟩, ⟨none, some 12, .binOp .geq E.tInt (.tmp 11) (.const (.int .i64 0)) E.tInt, E.tB⟩, ⟨none, some 13, .move (.tmp 12), E.tB⟩, ⟨(some (13, true)), some 14, .move (.tmp 1), E.tInt⟩, ⟨(some (13, true)), some 15, .fieldAddr E.t_spec_Message (.tmp 3) 1, E.tNil⟩, ⟨(some (13, true)), some 16, .load E.tInt (.tmp 15), E.tInt⟩, ⟨(some (13, true)), some 17, .binOp .geq E.tInt (.tmp 14) (.tmp 16) E.tInt, E.tB⟩, ⟨none, some 18, .pick (.tmp 13) (.tmp 17) (.const (.bool false)), E.tB⟩, ⟨none, some 19, .load E.t_spec_Tree (.tmp 5), E.t_spec_Tree⟩, ⟨none, some 20, .call { callee := .value (.func E.f_spec_part), args := #[.tmp 8, .tmp 9, .tmp 18, .tmp 19], argTypes := #[E.t_l_spec_Field, E.tInt, E.tB, E.t_spec_Tree] }, E.tBs⟩, ⟨none, some 6, .assign (.tmp 20), E.tBs⟩]) .ret))
def nt_spec_Write : Nat := 21
def rs_spec_Write (E : Env) : List Rv := [.t 6]
def ir_spec_part (E : Env) : Ir := (.seq (.reg [ ⟨none, some 7, .box E.t_spec_Tree (.tmp 3), E.tNil⟩, ⟨none, some 8, .assign (.const (.slice none 0 0)), E.tBs⟩]) (.seq (.reg [ ⟨none, some 9, .assign (.const (.slice none 0 0)), E.tBs⟩, ⟨none, some 10, .assign (.const (.slice none 0 0)), E.tBs⟩]) (.seq (.reg [ ⟨none, some 11, .assign (.const (.int .i64 0)), E.tInt⟩]) (.seq (.seq (.reg [ ⟨none, some 21, .move (.tmp 0), E.t_l_spec_Field⟩, ⟨none, some 22, .call { callee := .builtin .len, args := #[.tmp 21], argTypes := #[E.t_l_spec_Field] }, E.tInt⟩, ⟨none, some 23, .move (.const (.int .i64 0)), E.tInt⟩]) (.block 0 (.loop (.seq (.reg [ ⟨none, some 24, .binOp .lss E.tInt (.tmp 23) (.tmp 22) E.tInt, E.tNil⟩]) (.seq (.cond 24 .skip (.exit 0)) (.seq (.block 1 (.seq (.reg [ ⟨none, some 25, .move (.tmp 23), E.tInt⟩, ⟨none, some 26, .indexAddr E.t_l_spec_Field (.tmp 21) (.tmp 23), E.tNil⟩, ⟨none, some 27, .load E.t_spec_Field (.tmp 26), E.t_spec_Field⟩, ⟨none, some 13, .alloc E.t_spec_Field, E.tNil⟩, ⟨none, some 12, .assign (.tmp 25), E.tInt⟩, ⟨none, none, .store E.t_spec_Field (.tmp 13) (.tmp 27), E.tNil⟩]) (.seq (.reg [ ⟨none, some 28, .fieldAddr E.t_spec_Field (.tmp 13) 4, E.tNil⟩, ⟨none, some 29, .load E.tInt (.tmp 28), E.tInt⟩, ⟨none, some 30, .binOp .lss E.tInt (.tmp 29) (.const (.int .i64 0)) E.tInt, E.tB⟩, ⟨none, some 31, .move (.tmp 30), E.tB⟩, ⟨(some (31, true)), some 32, .load E.t_spec_Field (.tmp 13), E.t_spec_Field⟩, ⟨(some (31, true)), some 33, .move (.tmp 1), E.tInt⟩, ⟨(some (31, true)), some 34, .call { callee := .value (.func E.f_spec_Field_has), args := #[.tmp 32, .tmp 33], argTypes := #[E.t_spec_Field, E.tInt] }, E.tB⟩, ⟨none, some 35, .pick (.tmp 31) (.tmp 34) (.const (.bool false)), E.tB⟩]) (.cond 35 (.regH [ (true, ⟨none, some 36, .move (.tmp 9), E.tBs⟩), (true, ⟨none, some 37, .load E.t_spec_Field (.tmp 13), E.t_spec_Field⟩), (true, ⟨none, some 38, .move (.tmp 1), E.tInt⟩), (true, ⟨none, some 39, .move (.tmp 2), E.tB⟩), (true, ⟨none, some 40, .load E.t_spec_Tree (.tmp 7), E.t_spec_Tree⟩), (true, ⟨none, some 41, .move (.tmp 12), E.tInt⟩), (false, ⟨none, some 42, .call { callee := .value (.func E.f_spec_at), args := #[.tmp 40, .tmp 41], argTypes := #[E.t_spec_Tree, E.tInt] }, E.t_spec_Tree⟩), (false, ⟨none, some 43, .call { callee := .value (.func E.f_spec_field), args := #[.tmp 37, .tmp 38, .tmp 39, .tmp 42], argTypes := #[E.t_spec_Field, E.tInt, E.tB, E.t_spec_Tree] }, E.tBs⟩), (false, ⟨none, some 44, .call { callee := .builtin .append, args := #[.tmp 36, .tmp 43], argTypes := #[E.tBs, E.tBs] }, E.tBs⟩), (true, ⟨none, some 9, .assign (.tmp 44), E.tBs⟩)]) .skip)))) (.reg [ ⟨none, some 45, .binOp .add E.tInt (.tmp 23) (.const (.int .i64 1)) E.tInt, E.tInt⟩, ⟨none, some 23, .move (.tmp 45), E.tInt⟩]))))))) (.seq (.seq (.reg [ ⟨none, some 46, .move (.tmp 2), E.tB⟩, ⟨none, some 47, .unOp .not E.tB (.tmp 46), E.tB⟩]) (.cond 47 (.seq (.reg [ ⟨none, some 48, .move (.tmp 9), E.tBs⟩, ⟨none, some 8, .assign (.tmp 48), E.tBs⟩]) .ret) .skip)) (.seq (.seq (.reg [ ⟨none, some 49, .move (.tmp 0), E.t_l_spec_Field⟩, ⟨none, some 50, .call { callee := .value (.func E.f_spec_known), args := #[.tmp 49], argTypes := #[E.t_l_spec_Field] }, E.tU32⟩, ⟨none, some 51, .convert E.tU32 E.tInt (.tmp 50), E.tInt⟩, ⟨none, some 52, .move (.const (.int .i64 0)), E.tInt⟩]) (.block 2 (.loop (.seq (.reg [ ⟨none, some 53, .binOp .lss E.tInt (.tmp 52) (.tmp 51) E.tInt, E.tB⟩]) (.seq (.cond 53 .skip (.exit 2)) (.seq (.block 3 (.seq (.reg [ ⟨none, some 54, .move (.tmp 52), E.tInt⟩, ⟨none, some 14, .assign (.tmp 54), E.tInt⟩]) (.seq (.reg [ ⟨none, some 55, .move (.tmp 0), E.t_l_spec_Field⟩, ⟨none, some 56, .call { callee := .builtin .len, args := #[.tmp 55], argTypes := #[E.t_l_spec_Field] }, E.tInt⟩, ⟨none, some 57, .move (.const (.int .i64 0)), E.tInt⟩]) (.block 4 (.loop (.seq (.reg [ ⟨none, some 58, .binOp .lss E.tInt (.tmp 57) (.tmp 56) E.tInt, E.tNil⟩]) (.seq (.cond 58 .skip (.exit 4)) (.seq (.block 5 (.seq (.reg [ ⟨none, some 59, .move (.tmp 57), E.tInt⟩, ⟨none, some 60, .indexAddr E.t_l_spec_Field (.tmp 55) (.tmp 57), E.tNil⟩, ⟨none, some 61, .load E.t_spec_Field (.tmp 60), E.t_spec_Field⟩, ⟨none, some 16, .alloc E.t_spec_Field, E.tNil⟩, ⟨none, some 15, .assign (.tmp 59), E.tInt⟩, ⟨none, none, .store E.t_spec_Field (.tmp 16) (.tmp 61), E.tNil⟩]) (.seq (.regH [ (true, ⟨none, some 62, .fieldAddr E.t_spec_Field (.tmp 16) 4, E.tNil⟩), (true, ⟨none, some 63, .load E.tInt (.tmp 62), E.tInt⟩), (true, ⟨none, some 64, .move (.tmp 14), E.tInt⟩), (true, ⟨none, some 65, .binOp .eql E.tInt (.tmp 63) (.tmp 64) E.tInt, E.tB⟩), (true, ⟨none, some 66, .move (.tmp 65), E.tB⟩), (true, ⟨(some (66, true)), some 67, .load E.t_spec_Field (.tmp 16), E.t_spec_Field⟩), (true, ⟨(some (66, true)), some 68, .load E.t_spec_Tree (.tmp 7), E.t_spec_Tree⟩), (true, ⟨(some (66, true)), some 69, .move (.tmp 15), E.tInt⟩), (false, ⟨(some (66, true)), some 70, .call { callee := .value (.func E.f_spec_at), args := #[.tmp 68, .tmp 69], argTypes := #[E.t_spec_Tree, E.tInt] }, E.t_spec_Tree⟩), (false, ⟨(some (66, true)), some 71, .call { callee := .value (.func E.f_spec_usual), args := #[.tmp 67, .tmp 70], argTypes := #[E.t_spec_Field, E.t_spec_Tree] }, E.tB⟩), (true, ⟨(some (66, true)), some 72, .unOp .not E.tB (.tmp 71), E.tB⟩), (true, ⟨none, some 73, .pick (.tmp 66) (.tmp 72) (.const (.bool false)), E.tB⟩)]) (.cond 73 (.seq (.regH [ (true, ⟨none, some 74, .load E.t_spec_Field (.tmp 16), E.t_spec_Field⟩), (true, ⟨none, some 75, .move (.tmp 1), E.tInt⟩), (true, ⟨none, some 76, .move (.tmp 2), E.tB⟩), (true, ⟨none, some 77, .load E.t_spec_Tree (.tmp 7), E.t_spec_Tree⟩), (true, ⟨none, some 78, .move (.tmp 15), E.tInt⟩), (false, ⟨none, some 79, .call { callee := .value (.func E.f_spec_at), args := #[.tmp 77, .tmp 78], argTypes := #[E.t_spec_Tree, E.tInt] }, E.t_spec_Tree⟩), (false, ⟨none, some 80, .call { callee := .value (.func E.f_spec_field), args := #[.tmp 74, .tmp 75, .tmp 76, .tmp 79], argTypes := #[E.t_spec_Field, E.tInt, E.tB, E.t_spec_Tree] }, E.tBs⟩), (true, ⟨none, some 17, .assign (.tmp 80), E.tBs⟩)]) (.seq (.reg [ ⟨none, some 81, .move (.tmp 10), E.tBs⟩, ⟨none, some 82, .move (.tmp 14), E.tInt⟩, ⟨none, some 83, .convert E.tInt E.tU64 (.tmp 82), E.tU64⟩, ⟨none, some 84, .call { callee := .value (.func E.f_spec_Uvarint), args := #[.tmp 83], argTypes := #[E.tU64] }, E.tBs⟩, ⟨none, some 85, .call { callee := .builtin .append, args := #[.tmp 81, .tmp 84], argTypes := #[E.tBs, E.tBs] }, E.tBs⟩, ⟨none, some 86, .move (.tmp 17), E.tBs⟩, ⟨none, some 87, .call { callee := .builtin .len, args := #[.tmp 86], argTypes := #[E.tBs] }, E.tInt⟩, ⟨none, some 88, .convert E.tInt E.tU64 (.tmp 87), E.tU64⟩, ⟨none, some 89, .call { callee := .value (.func E.f_spec_Uvarint), args := #[.tmp 88], argTypes := #[E.tU64] }, E.tBs⟩, ⟨none, some 90, .call { callee := .builtin .append, args := #[.tmp 85, .tmp 89], argTypes := #[E.tBs, E.tBs] }, E.tBs⟩, ⟨none, some 91, .move (.tmp 17), E.tBs⟩, ⟨none, some 92, .call { callee := .builtin .append, args := #[.tmp 90, .tmp 91], argTypes := #[E.tBs, E.tBs] }, E.tBs⟩, ⟨none, some 10, .assign (.tmp 92), E.tBs⟩]) (.reg [ ⟨none, some 93, .move (.tmp 11), E.tInt⟩, ⟨none, some 94, .binOp .add E.tInt (.tmp 93) (.const (.int .i64 1)) E.tInt, E.tInt⟩, ⟨none, some 11, .assign (.tmp 94), E.tInt⟩]))) .skip)))) (.reg [ ⟨none, some 95, .binOp .add E.tInt (.tmp 57) (.const (.int .i64 1)) E.tInt, E.tInt⟩, ⟨none, some 57, .move (.tmp 95), E.tInt⟩]))))))))) (.reg [ ⟨none, some 96, .binOp .add E.tInt (.tmp 52) (.const (.int .i64 1)) E.tInt, E.tInt⟩, ⟨none, some 52, .move (.tmp 96), E.tInt⟩]))))))) (.seq (.seq (.reg [ ⟨none, some 97, .move (.tmp 0), E.t_l_spec_Field⟩, ⟨none, some 98, .fieldAddr E.t_spec_Tree (.tmp 7) 4, E.tNil⟩, ⟨none, some 99, .load E.t_l_spec_Tag (.tmp 98), E.t_l_spec_Tag⟩, ⟨none, some 100, .call { callee := .value (.func E.f_spec_unknown), args := #[.tmp 97, .tmp 99], argTypes := #[E.t_l_spec_Field, E.t_l_spec_Tag] }, E.t_l_spec_Tag⟩, ⟨none, some 101, .call { callee := .builtin .len, args := #[.tmp 100], argTypes := #[E.t_l_spec_Tag] }, E.tInt⟩, ⟨none, some 102, .move (.const (.int .i64 0)), E.tInt⟩]) (.block 6 (.loop (.seq (.reg [ ⟨none, some 103, .binOp .lss E.tInt (.tmp 102) (.tmp 101) E.tInt, E.tNil⟩]) (.seq (.cond 103 .skip (.exit 6)) (.seq (.block 7 (.seq (.reg [ ⟨none, some 104, .indexAddr E.t_l_spec_Tag (.tmp 100) (.tmp 102), E.tNil⟩, ⟨none, some 105, .load E.t_spec_Tag (.tmp 104), E.t_spec_Tag⟩, ⟨none, some 19, .alloc E.t_spec_Tag, E.tNil⟩, ⟨none, none, .store E.t_spec_Tag (.tmp 19) (.tmp 105), E.tNil⟩]) (.seq (.reg [ ⟨none, some 106, .fieldAddr E.t_spec_Tag (.tmp 19) 1, E.tNil⟩, ⟨none, some 107, .load E.tBs (.tmp 106), E.tBs⟩, ⟨none, some 108, .call { callee := .value (.func E.f_spec_whole), args := #[.tmp 107], argTypes := #[E.tBs] }, E.tBs⟩, ⟨none, some 20, .assign (.tmp 108), E.tBs⟩]) (.seq (.reg [ ⟨none, some 109, .move (.tmp 10), E.tBs⟩, ⟨none, some 110, .fieldAddr E.t_spec_Tag (.tmp 19) 0, E.tNil⟩, ⟨none, some 111, .load E.tU32 (.tmp 110), E.tU32⟩, ⟨none, some 112, .convert E.tU32 E.tU64 (.tmp 111), E.tU64⟩, ⟨none, some 113, .call { callee := .value (.func E.f_spec_Uvarint), args := #[.tmp 112], argTypes := #[E.tU64] }, E.tBs⟩, ⟨none, some 114, .call { callee := .builtin .append, args := #[.tmp 109, .tmp 113], argTypes := #[E.tBs, E.tBs] }, E.tBs⟩, ⟨none, some 115, .move (.tmp 20), E.tBs⟩, ⟨none, some 116, .call { callee := .builtin .len, args := #[.tmp 115], argTypes := #[E.tBs] }, E.tInt⟩, ⟨none, some 117, .convert E.tInt E.tU64 (.tmp 116), E.tU64⟩, ⟨none, some 118, .call { callee := .value (.func E.f_spec_Uvarint), args := #[.tmp 117], argTypes := #[E.tU64] }, E.tBs⟩, ⟨none, some 119, .call { callee := .builtin .append, args := #[.tmp 114, .tmp 118], argTypes := #[E.tBs, E.tBs] }, E.tBs⟩, ⟨none, some 120, .move (.tmp 20), E.tBs⟩, ⟨none, some 121, .call { callee := .builtin .append, args := #[.tmp 119, .tmp 120], argTypes := #[E.tBs, E.tBs] }, E.tBs⟩, ⟨none, some 10, .assign (.tmp 121), E.tBs⟩]) (.reg [ ⟨none, some 122, .move (.tmp 11), E.tInt⟩, ⟨none, some 123, .binOp .add E.tInt (.tmp 122) (.const (.int .i64 1)) E.tInt, E.tInt⟩, ⟨none, some 11, .assign (.tmp 123), E.tInt⟩]))))) (.reg [ ⟨none, some 124, .binOp .add E.tInt (.tmp 102) (.const (.int .i64 1)) E.tInt, E.tInt⟩, ⟨none, some 102, .move (.tmp 124), E.tInt⟩]))))))) (.seq (.reg [ ⟨none, some 125, .move (.tmp 9), E.tBs⟩, ⟨none, some 126, .move (.tmp 11), E.tInt⟩, ⟨none, some 127, .convert E.tInt E.tU64 (.tmp 126), E.tU64⟩, ⟨none, some 128, .call { callee := .value (.func E.f_spec_Uvarint), args := #[.tmp 127], argTypes := #[E.tU64] }, E.tBs⟩, ⟨none, some 129, .call { callee := .builtin .append, args := #[.tmp 125, .tmp 128], argTypes := #[E.tBs, E.tBs] }, E.tBs⟩, ⟨none, some 130, .move (.tmp 10), E.tBs⟩, ⟨none, some 131, .call { callee := .builtin .append, args := #[.tmp 129, .tmp 130], argTypes := #[E.tBs, E.tBs] }, E.tBs⟩, ⟨none, some 8, .assign (.tmp 131), E.tBs⟩]) .ret))))))))
def nt_spec_part : Nat := 132
def rs_spec_part (E : Env) : List Rv := [.t 8]
def ir_spec_field (E : Env) : Ir := (.seq (.reg [ ⟨none, some 4, .box E.t_spec_Field (.tmp 0), E.tNil⟩, ⟨none, some 7, .box E.t_spec_Tree (.tmp 3), E.tNil⟩, ⟨none, some 8, .assign (.const (.slice none 0 0)), E.tBs⟩]) (.seq (.reg [ ⟨none, some 13, .load E.t_spec_Field (.tmp 4), E.t_spec_Field⟩, ⟨none, some 14, .move (.tmp 1), E.tInt⟩, ⟨none, some 15, .load E.t_spec_Tree (.tmp 7), E.t_spec_Tree⟩, ⟨none, some 16, .call { callee := .value (.func E.f_spec_Field_null), args := #[.tmp 13, .tmp 14, .tmp 15], argTypes := #[E.t_spec_Field, E.tInt, E.t_spec_Tree] }, E.tB⟩, ⟨none, some 9, .assign (.tmp 16), E.tB⟩]) (.seq (.seq (.reg [ ⟨none, some 17, .fieldAddr E.t_spec_Field (.tmp 4) 0, E.tNil⟩, ⟨none, some 18, .load E.tInt (.tmp 17), E.tInt⟩, ⟨none, some 19, .binOp .eql E.tInt (.tmp 18) (.const (.int .i64 11)) E.tInt, E.tB⟩]) (.cond 19 (.seq (.reg [ ⟨none, some 20, .fieldAddr E.t_spec_Tree (.tmp 7) 3, E.tNil⟩, ⟨none, some 21, .load E.t_l_spec_Tree (.tmp 20), E.t_l_spec_Tree⟩, ⟨none, some 22, .call { callee := .value (.func E.f_spec_things), args := #[.tmp 21], argTypes := #[E.t_l_spec_Tree] }, E.t_l_spec_Tree⟩, ⟨none, some 10, .assign (.tmp 22), E.t_l_spec_Tree⟩]) (.seq (.seq (.reg [ ⟨none, some 23, .move (.tmp 9), E.tB⟩]) (.cond 23 (.reg [ ⟨none, some 10, .assign (.const (.slice none 0 0)), E.t_l_spec_Tree⟩]) .skip)) (.seq (.reg [ ⟨none, some 24, .move (.tmp 2), E.tB⟩, ⟨none, some 25, .move (.tmp 9), E.tB⟩, ⟨none, some 26, .move (.tmp 10), E.t_l_spec_Tree⟩, ⟨none, some 27, .call { callee := .builtin .len, args := #[.tmp 26], argTypes := #[E.t_l_spec_Tree] }, E.tInt⟩, ⟨none, some 28, .call { callee := .value (.func E.f_spec_counted), args := #[.tmp 24, .tmp 25, .tmp 27, .const (.int .i64 4)], argTypes := #[E.tB, E.tB, E.tInt, E.tInt] }, E.tBs⟩, ⟨none, some 11, .assign (.tmp 28), E.tBs⟩]) (.seq (.seq (.reg [ ⟨none, some 29, .move (.tmp 10), E.t_l_spec_Tree⟩, ⟨none, some 30, .call { callee := .builtin .len, args := #[.tmp 29], argTypes := #[E.t_l_spec_Tree] }, E.tInt⟩, ⟨none, some 31, .move (.const (.int .i64 0)), E.tInt⟩]) (.block 0 (.loop (.seq (.reg [ ⟨none, some 32, .binOp .lss E.tInt (.tmp 31) (.tmp 30) E.tInt, E.tNil⟩]) (.seq (.cond 32 .skip (.exit 0)) (.seq (.block 1 (.seq (.reg [ ⟨none, some 33, .move (.tmp 31), E.tInt⟩, ⟨none, some 12, .assign (.tmp 33), E.tInt⟩]) (.regH [ (true, ⟨none, some 34, .move (.tmp 11), E.tBs⟩), (true, ⟨none, some 35, .fieldAddr E.t_spec_Field (.tmp 4) 6, E.tNil⟩), (true, ⟨none, some 36, .load E.tInt (.tmp 35), E.tInt⟩), (true, ⟨none, some 37, .fieldAddr E.t_spec_Field (.tmp 4) 7, E.tNil⟩), (true, ⟨none, some 38, .load E.t_l_spec_Field (.tmp 37), E.t_l_spec_Field⟩), (true, ⟨none, some 39, .move (.tmp 1), E.tInt⟩), (true, ⟨none, some 40, .move (.tmp 2), E.tB⟩), (true, ⟨none, some 41, .move (.tmp 10), E.t_l_spec_Tree⟩), (true, ⟨none, some 42, .move (.tmp 12), E.tInt⟩), (true, ⟨none, some 43, .indexAddr E.t_l_spec_Tree (.tmp 41) (.tmp 42), E.tNil⟩), (true, ⟨none, some 44, .load E.t_spec_Tree (.tmp 43), E.t_spec_Tree⟩), (false, ⟨none, some 45, .call { callee := .value (.func E.f_spec_value), args := #[.tmp 36, .tmp 38, .const (.bool false), .tmp 39, .tmp 40, .tmp 44], argTypes := #[E.tInt, E.t_l_spec_Field, E.tB, E.tInt, E.tB, E.t_spec_Tree] }, E.tBs⟩), (false, ⟨none, some 46, .call { callee := .builtin .append, args := #[.tmp 34, .tmp 45], argTypes := #[E.tBs, E.tBs] }, E.tBs⟩), (true, ⟨none, some 11, .assign (.tmp 46), E.tBs⟩)]))) (.reg [ ⟨none, some 47, .binOp .add E.tInt (.tmp 31) (.const (.int .i64 1)) E.tInt, E.tInt⟩, ⟨none, some 31, .move (.tmp 47), E.tInt⟩]))))))) (.seq (.reg [ ⟨none, some 48, .move (.tmp 11), E.tBs⟩, ⟨none, some 8, .assign (.tmp 48), E.tBs⟩]) .ret))))) .skip)) (.seq (.seq (.reg [ ⟨none, some 49, .fieldAddr E.t_spec_Field (.tmp 4) 0, E.tNil⟩, ⟨none, some 50, .load E.tInt (.tmp 49), E.tInt⟩, ⟨none, some 51, .binOp .eql E.tInt (.tmp 50) (.const (.int .i64 10)) E.tInt, E.tB⟩, ⟨none, some 52, .move (.tmp 51), E.tB⟩, ⟨(some (52, true)), some 53, .fieldAddr E.t_spec_Field (.tmp 4) 3, E.tNil⟩, ⟨(some (52, true)), some 54, .load E.tInt (.tmp 53), E.tInt⟩, ⟨(some (52, true)), some 55, .binOp .geq E.tInt (.tmp 54) (.const (.int .i64 0)) E.tInt, E.tB⟩, ⟨none, some 56, .pick (.tmp 52) (.tmp 55) (.const (.bool false)), E.tB⟩]) (.cond 56 (.seq (.seq (.reg [ ⟨none, some 57, .move (.tmp 9), E.tB⟩]) (.cond 57 (.seq (.reg [ ⟨none, some 58, .call { callee := .value (.func E.f_spec_Fixed), args := #[.const (.int .i64 (-1)), .const (.int .i64 1)], argTypes := #[E.tI64, E.tInt] }, E.tBs⟩, ⟨none, some 8, .assign (.tmp 58), E.tBs⟩]) .ret) .skip)) (.seq (.regH [ (true, ⟨none, some 60, .fieldAddr E.t_spec_Field (.tmp 4) 7, E.tNil⟩), (true, ⟨none, some 61, .load E.t_l_spec_Field (.tmp 60), E.t_l_spec_Field⟩), (true, ⟨none, some 62, .move (.tmp 1), E.tInt⟩), (true, ⟨none, some 63, .move (.tmp 2), E.tB⟩), (true, ⟨none, some 64, .load E.t_spec_Tree (.tmp 7), E.t_spec_Tree⟩), (false, ⟨none, some 59, .call { callee := .value (.func E.f_spec_Fixed), args := #[.const (.int .i64 1), .const (.int .i64 1)], argTypes := #[E.tI64, E.tInt] }, E.tBs⟩), (false, ⟨none, some 65, .call { callee := .value (.func E.f_spec_part), args := #[.tmp 61, .tmp 62, .tmp 63, .tmp 64], argTypes := #[E.t_l_spec_Field, E.tInt, E.tB, E.t_spec_Tree] }, E.tBs⟩), (false, ⟨none, some 66, .call { callee := .builtin .append, args := #[.tmp 59, .tmp 65], argTypes := #[E.tBs, E.tBs] }, E.tBs⟩), (true, ⟨none, some 8, .assign (.tmp 66), E.tBs⟩)]) .ret)) .skip)) (.seq (.reg [ ⟨none, some 67, .fieldAddr E.t_spec_Field (.tmp 4) 0, E.tNil⟩, ⟨none, some 68, .load E.tInt (.tmp 67), E.tInt⟩, ⟨none, some 69, .fieldAddr E.t_spec_Field (.tmp 4) 7, E.tNil⟩, ⟨none, some 70, .load E.t_l_spec_Field (.tmp 69), E.t_l_spec_Field⟩, ⟨none, some 71, .move (.tmp 9), E.tB⟩, ⟨none, some 72, .move (.tmp 1), E.tInt⟩, ⟨none, some 73, .move (.tmp 2), E.tB⟩, ⟨none, some 74, .load E.t_spec_Tree (.tmp 7), E.t_spec_Tree⟩, ⟨none, some 75, .call { callee := .value (.func E.f_spec_value), args := #[.tmp 68, .tmp 70, .tmp 71, .tmp 72, .tmp 73, .tmp 74], argTypes := #[E.tInt, E.t_l_spec_Field, E.tB, E.tInt, E.tB, E.t_spec_Tree] }, E.tBs⟩, ⟨none, some 8, .assign (.tmp 75), E.tBs⟩]) .ret)))))
def nt_spec_field : Nat := 76
def rs_spec_field (E : Env) : List Rv := [.t 8]
def ir_spec_value (E : Env) : Ir := (.seq (.reg [ ⟨none, some 11, .box E.t_spec_Tree (.tmp 5), E.tNil⟩, ⟨none, some 12, .assign (.const (.slice none 0 0)), E.tBs⟩]) (.seq (.seq (.reg [ ⟨none, some 16, .move (.tmp 0), E.tInt⟩]) (.block 0 (.seq (.reg [ ⟨none, some 18, .binOp .eql E.tInt (.tmp 16) (.const (.int .i64 0)) E.tInt, E.tB⟩, ⟨none, some 17, .assign (.tmp 18), E.tB⟩]) (.cond 17 (.seq (.reg [ ⟨none, some 19, .fieldAddr E.t_spec_Tree (.tmp 11) 0, E.tNil⟩, ⟨none, some 20, .load E.tI64 (.tmp 19), E.tI64⟩, ⟨none, some 21, .binOp .and E.tI64 (.tmp 20) (.const (.int .i64 1)) E.tI64, E.tI64⟩, ⟨none, some 22, .convert E.tI64 E.tU8 (.tmp 21), E.tU8⟩, ⟨none, some 23, .buildSlice E.tBs 1 #[(0, .tmp 22)], E.tBs⟩, ⟨none, some 12, .assign (.tmp 23), E.tBs⟩]) .ret) (.seq (.reg [ ⟨none, some 25, .binOp .eql E.tInt (.tmp 16) (.const (.int .i64 7)) E.tInt, E.tB⟩, ⟨none, some 24, .assign (.tmp 25), E.tB⟩]) (.cond 24 (.seq (.reg [ ⟨none, some 26, .makeSlice E.tBs (.const (.int .i64 16)) (.const (.int .i64 16)), E.tBs⟩, ⟨none, some 13, .assign (.tmp 26), E.tBs⟩]) (.seq (.reg [ ⟨none, some 27, .move (.tmp 13), E.tBs⟩, ⟨none, some 28, .fieldAddr E.t_spec_Tree (.tmp 11) 1, E.tNil⟩, ⟨none, some 29, .load E.tBs (.tmp 28), E.tBs⟩, ⟨none, some 30, .call { callee := .builtin .copy, args := #[.tmp 27, .tmp 29], argTypes := #[E.tBs, E.tBs] }, E.tInt⟩]) (.seq (.reg [ ⟨none, some 31, .move (.tmp 13), E.tBs⟩, ⟨none, some 12, .assign (.tmp 31), E.tBs⟩]) .ret))) (.seq (.reg [ ⟨none, some 33, .binOp .eql E.tInt (.tmp 16) (.const (.int .i64 8)) E.tInt, E.tB⟩, ⟨none, some 32, .assign (.tmp 33), E.tB⟩]) (.cond 32 (.seq (.reg [ ⟨none, some 34, .fieldAddr E.t_spec_Tree (.tmp 11) 1, E.tNil⟩, ⟨none, some 35, .load E.tBs (.tmp 34), E.tBs⟩, ⟨none, some 36, .call { callee := .value (.func E.f_spec_whole), args := #[.tmp 35], argTypes := #[E.tBs] }, E.tBs⟩, ⟨none, some 14, .assign (.tmp 36), E.tBs⟩]) (.seq (.seq (.reg [ ⟨none, some 37, .move (.tmp 2), E.tB⟩]) (.cond 37 (.reg [ ⟨none, some 14, .assign (.const (.slice none 0 0)), E.tBs⟩]) .skip)) (.seq (.reg [ ⟨none, some 38, .move (.tmp 4), E.tB⟩, ⟨none, some 39, .move (.tmp 2), E.tB⟩, ⟨none, some 40, .move (.tmp 14), E.tBs⟩, ⟨none, some 41, .call { callee := .builtin .len, args := #[.tmp 40], argTypes := #[E.tBs] }, E.tInt⟩, ⟨none, some 42, .call { callee := .value (.func E.f_spec_counted), args := #[.tmp 38, .tmp 39, .tmp 41, .const (.int .i64 2)], argTypes := #[E.tB, E.tB, E.tInt, E.tInt] }, E.tBs⟩, ⟨none, some 43, .move (.tmp 14), E.tBs⟩, ⟨none, some 44, .call { callee := .builtin .append, args := #[.tmp 42, .tmp 43], argTypes := #[E.tBs, E.tBs] }, E.tBs⟩, ⟨none, some 12, .assign (.tmp 44), E.tBs⟩]) .ret))) (.seq (.reg [ ⟨none, some 46, .binOp .eql E.tInt (.tmp 16) (.const (.int .i64 9)) E.tInt, E.tB⟩, ⟨none, some 45, .assign (.tmp 46), E.tB⟩]) (.cond 45 (.seq (.reg [ ⟨none, some 47, .fieldAddr E.t_spec_Tree (.tmp 11) 1, E.tNil⟩, ⟨none, some 48, .load E.tBs (.tmp 47), E.tBs⟩, ⟨none, some 49, .call { callee := .value (.func E.f_spec_whole), args := #[.tmp 48], argTypes := #[E.tBs] }, E.tBs⟩, ⟨none, some 15, .assign (.tmp 49), E.tBs⟩]) (.seq (.seq (.reg [ ⟨none, some 50, .move (.tmp 2), E.tB⟩]) (.cond 50 (.reg [ ⟨none, some 15, .assign (.const (.slice none 0 0)), E.tBs⟩]) .skip)) (.seq (.reg [ ⟨none, some 51, .move (.tmp 4), E.tB⟩, ⟨none, some 52, .move (.tmp 2), E.tB⟩, ⟨none, some 53, .move (.tmp 15), E.tBs⟩, ⟨none, some 54, .call { callee := .builtin .len, args := #[.tmp 53], argTypes := #[E.tBs] }, E.tInt⟩, ⟨none, some 55, .call { callee := .value (.func E.f_spec_counted), args := #[.tmp 51, .tmp 52, .tmp 54, .const (.int .i64 4)], argTypes := #[E.tB, E.tB, E.tInt, E.tInt] }, E.tBs⟩, ⟨none, some 56, .move (.tmp 15), E.tBs⟩, ⟨none, some 57, .call { callee := .builtin .append, args := #[.tmp 55, .tmp 56], argTypes := #[E.tBs, E.tBs] }, E.tBs⟩, ⟨none, some 12, .assign (.tmp 57), E.tBs⟩]) .ret))) (.seq (.reg [ ⟨none, some 59, .binOp .eql E.tInt (.tmp 16) (.const (.int .i64 10)) E.tInt, E.tB⟩, ⟨none, some 58, .assign (.tmp 59), E.tB⟩]) (.cond 58 (.seq (.reg [ ⟨none, some 60, .move (.tmp 1), E.t_l_spec_Field⟩, ⟨none, some 61, .move (.tmp 3), E.tInt⟩, ⟨none, some 62, .move (.tmp 4), E.tB⟩, ⟨none, some 63, .load E.t_spec_Tree (.tmp 11), E.t_spec_Tree⟩, ⟨none, some 64, .call { callee := .value (.func E.f_spec_part), args := #[.tmp 60, .tmp 61, .tmp 62, .tmp 63], argTypes := #[E.t_l_spec_Field, E.tInt, E.tB, E.t_spec_Tree] }, E.tBs⟩, ⟨none, some 12, .assign (.tmp 64), E.tBs⟩]) .ret) .skip)))))))))))) (.seq (.regH [ (true, ⟨none, some 65, .fieldAddr E.t_spec_Tree (.tmp 11) 0, E.tNil⟩), (true, ⟨none, some 66, .load E.tI64 (.tmp 65), E.tI64⟩), (true, ⟨none, some 67, .move (.tmp 0), E.tInt⟩), (false, ⟨none, some 68, .call { callee := .value (.func E.f_spec_width), args := #[.tmp 67], argTypes := #[E.tInt] }, E.tInt⟩), (false, ⟨none, some 69, .call { callee := .value (.func E.f_spec_Fixed), args := #[.tmp 66, .tmp 68], argTypes := #[E.tI64, E.tInt] }, E.tBs⟩), (true, ⟨none, some 12, .assign (.tmp 69), E.tBs⟩)]) .ret)))
def nt_spec_value : Nat := 70
def rs_spec_value (E : Env) : List Rv := [.t 12]
def ir_spec_at (E : Env) : Ir := (.seq (.reg [ ⟨none, some 2, .box E.t_spec_Tree (.tmp 0), E.tNil⟩, ⟨none, some 4, .alloc E.t_spec_Tree, E.tNil⟩]) (.seq (.seq (.reg [ ⟨none, some 5, .move (.tmp 1), E.tInt⟩, ⟨none, some 6, .fieldAddr E.t_spec_Tree (.tmp 2) 3, E.tNil⟩, ⟨none, some 7, .load E.t_l_spec_Tree (.tmp 6), E.t_l_spec_Tree⟩, ⟨none, some 8, .call { callee := .builtin .len, args := #[.tmp 7], argTypes := #[E.t_l_spec_Tree] }, E.tInt⟩, ⟨none, some 9, .binOp .lss E.tInt (.tmp 5) (.tmp 8) E.tInt, E.tB⟩]) (.cond 9 (.seq (.reg [ ⟨none, some 10, .fieldAddr E.t_spec_Tree (.tmp 2) 3, E.tNil⟩, ⟨none, some 11, .load E.t_l_spec_Tree (.tmp 10), E.t_l_spec_Tree⟩, ⟨none, some 12, .move (.tmp 1), E.tInt⟩, ⟨none, some 13, .indexAddr E.t_l_spec_Tree (.tmp 11) (.tmp 12), E.tNil⟩, ⟨none, some 14, .load E.t_spec_Tree (.tmp 13), E.t_spec_Tree⟩, ⟨none, none, .store E.t_spec_Tree (.tmp 4) (.tmp 14), E.tNil⟩]) .ret) .skip)) (.seq (.reg [ ⟨none, some 15, .build E.t_spec_Tree #[], E.t_spec_Tree⟩, ⟨none, none, .store E.t_spec_Tree (.tmp 4) (.tmp 15), E.tNil⟩]) .ret)))
def nt_spec_at : Nat := 16
def rs_spec_at (E : Env) : List Rv := [.c 4 E.t_spec_Tree]
def ir_spec_known (E : Env) : Ir := (.seq (.reg [ ⟨none, some 2, .assign (.const (.int .u32 0)), E.tU32⟩]) (.seq (.reg [ ⟨none, some 3, .assign (.const (.int .u32 0)), E.tU32⟩]) (.seq (.seq (.reg [ ⟨none, some 6, .move (.tmp 0), E.t_l_spec_Field⟩, ⟨none, some 7, .call { callee := .builtin .len, args := #[.tmp 6], argTypes := #[E.t_l_spec_Field] }, E.tInt⟩, ⟨none, some 8, .move (.const (.int .i64 0)), E.tInt⟩]) (.block 0 (.loop (.seq (.reg [ ⟨none, some 9, .binOp .lss E.tInt (.tmp 8) (.tmp 7) E.tInt, E.tNil⟩]) (.seq (.cond 9 .skip (.exit 0)) (.seq (.block 1 (.seq (.reg [ ⟨none, some 10, .indexAddr E.t_l_spec_Field (.tmp 6) (.tmp 8), E.tNil⟩, ⟨none, some 11, .load E.t_spec_Field (.tmp 10), E.t_spec_Field⟩, ⟨none, some 5, .alloc E.t_spec_Field, E.tNil⟩, ⟨none, none, .store E.t_spec_Field (.tmp 5) (.tmp 11), E.tNil⟩]) (.seq (.reg [ ⟨none, some 12, .fieldAddr E.t_spec_Field (.tmp 5) 4, E.tNil⟩, ⟨none, some 13, .load E.tInt (.tmp 12), E.tInt⟩, ⟨none, some 14, .binOp .geq E.tInt (.tmp 13) (.const (.int .i64 0)) E.tInt, E.tB⟩]) (.cond 14 (.reg [ ⟨none, some 15, .move (.tmp 3), E.tU32⟩, ⟨none, some 16, .fieldAddr E.t_spec_Field (.tmp 5) 4, E.tNil⟩, ⟨none, some 17, .load E.tInt (.tmp 16), E.tInt⟩, ⟨none, some 18, .convert E.tInt E.tU32 (.tmp 17), E.tU32⟩, ⟨none, some 19, .binOp .add E.tU32 (.tmp 18) (.const (.int .u32 1)) E.tU32, E.tU32⟩, ⟨none, some 20, .call { callee := .builtin .max, args := #[.tmp 15, .tmp 19], argTypes := #[E.tU32, E.tU32] }, E.tU32⟩, ⟨none, some 3, .assign (.tmp 20), E.tU32⟩]) .skip)))) (.reg [ ⟨none, some 21, .binOp .add E.tInt (.tmp 8) (.const (.int .i64 1)) E.tInt, E.tInt⟩, ⟨none, some 8, .move (.tmp 21), E.tInt⟩]))))))) (.seq (.reg [ ⟨none, some 22, .move (.tmp 3), E.tU32⟩, ⟨none, some 2, .assign (.tmp 22), E.tU32⟩]) .ret))))
def nt_spec_known : Nat := 23
def rs_spec_known (E : Env) : List Rv := [.t 2]
def ir_spec_usual (E : Env) : Ir := (.seq (.reg [ ⟨none, some 2, .box E.t_spec_Field (.tmp 0), E.tNil⟩, ⟨none, some 3, .box E.t_spec_Tree (.tmp 1), E.tNil⟩, ⟨none, some 4, .assign (.const (.bool false)), E.tB⟩]) (.seq (.seq (.reg [ ⟨none, some 9, .fieldAddr E.t_spec_Field (.tmp 2) 0, E.tNil⟩, ⟨none, some 10, .load E.tInt (.tmp 9), E.tInt⟩]) (.block 0 (.seq (.reg [ ⟨none, some 12, .binOp .eql E.tInt (.tmp 10) (.const (.int .i64 0)) E.tInt, E.tB⟩, ⟨none, some 11, .assign (.tmp 12), E.tB⟩]) (.cond 11 (.seq (.reg [ ⟨none, some 13, .fieldAddr E.t_spec_Tree (.tmp 3) 0, E.tNil⟩, ⟨none, some 14, .load E.tI64 (.tmp 13), E.tI64⟩, ⟨none, some 15, .binOp .and E.tI64 (.tmp 14) (.const (.int .i64 1)) E.tI64, E.tI64⟩, ⟨none, some 16, .fieldAddr E.t_spec_Field (.tmp 2) 5, E.tNil⟩, ⟨none, some 17, .load E.tI64 (.tmp 16), E.tI64⟩, ⟨none, some 18, .binOp .eql E.tI64 (.tmp 15) (.tmp 17) E.tI64, E.tB⟩, ⟨none, some 4, .assign (.tmp 18), E.tB⟩]) .ret) (.seq (.reg [ ⟨none, some 20, .binOp .eql E.tInt (.tmp 10) (.const (.int .i64 7)) E.tInt, E.tB⟩, ⟨none, some 19, .assign (.tmp 20), E.tB⟩]) (.cond 19 (.seq (.seq (.reg [ ⟨none, some 21, .fieldAddr E.t_spec_Tree (.tmp 3) 1, E.tNil⟩, ⟨none, some 22, .load E.tBs (.tmp 21), E.tBs⟩, ⟨none, some 23, .call { callee := .builtin .len, args := #[.tmp 22], argTypes := #[E.tBs] }, E.tInt⟩, ⟨none, some 24, .move (.const (.int .i64 0)), E.tInt⟩]) (.block 1 (.loop (.seq (.reg [ ⟨none, some 25, .binOp .lss E.tInt (.tmp 24) (.tmp 23) E.tInt, E.tNil⟩]) (.seq (.cond 25 .skip (.exit 1)) (.seq (.block 2 (.seq (.reg [ ⟨none, some 26, .move (.tmp 24), E.tInt⟩, ⟨none, some 27, .indexAddr E.tBs (.tmp 22) (.tmp 24), E.tNil⟩, ⟨none, some 28, .load E.tU8 (.tmp 27), E.tU8⟩, ⟨none, some 5, .assign (.tmp 26), E.tInt⟩, ⟨none, some 6, .assign (.tmp 28), E.tU8⟩]) (.seq (.reg [ ⟨none, some 29, .move (.tmp 5), E.tInt⟩, ⟨none, some 30, .binOp .lss E.tInt (.tmp 29) (.const (.int .i64 16)) E.tInt, E.tB⟩, ⟨none, some 31, .move (.tmp 30), E.tB⟩, ⟨(some (31, true)), some 32, .move (.tmp 6), E.tU8⟩, ⟨(some (31, true)), some 33, .binOp .neq E.tU8 (.tmp 32) (.const (.int .u8 0)) E.tU8, E.tB⟩, ⟨none, some 34, .pick (.tmp 31) (.tmp 33) (.const (.bool false)), E.tB⟩]) (.cond 34 (.seq (.reg [ ⟨none, some 4, .assign (.const (.bool false)), E.tB⟩]) .ret) .skip)))) (.reg [ ⟨none, some 35, .binOp .add E.tInt (.tmp 24) (.const (.int .i64 1)) E.tInt, E.tInt⟩, ⟨none, some 24, .move (.tmp 35), E.tInt⟩]))))))) (.seq (.reg [ ⟨none, some 4, .assign (.const (.bool true)), E.tB⟩]) .ret)) (.seq (.seq (.reg [ ⟨none, some 37, .binOp .eql E.tInt (.tmp 10) (.const (.int .i64 8)) E.tInt, E.tB⟩, ⟨none, some 36, .assign (.tmp 37), E.tB⟩]) (.cond 36 .skip (.reg [ ⟨none, some 38, .binOp .eql E.tInt (.tmp 10) (.const (.int .i64 9)) E.tInt, E.tB⟩, ⟨none, some 36, .assign (.tmp 38), E.tB⟩]))) (.cond 36 (.seq (.seq (.reg [ ⟨none, some 39, .fieldAddr E.t_spec_Field (.tmp 2) 3, E.tNil⟩, ⟨none, some 40, .load E.tInt (.tmp 39), E.tInt⟩, ⟨none, some 41, .binOp .geq E.tInt (.tmp 40) (.const (.int .i64 0)) E.tInt, E.tB⟩]) (.cond 41 (.seq (.reg [ ⟨none, some 42, .fieldAddr E.t_spec_Tree (.tmp 3) 2, E.tNil⟩, ⟨none, some 43, .load E.tB (.tmp 42), E.tB⟩, ⟨none, some 4, .assign (.tmp 43), E.tB⟩]) .ret) .skip)) (.seq (.reg [ ⟨none, some 44, .fieldAddr E.t_spec_Tree (.tmp 3) 1, E.tNil⟩, ⟨none, some 45, .load E.tBs (.tmp 44), E.tBs⟩, ⟨none, some 46, .call { callee := .builtin .len, args := #[.tmp 45], argTypes := #[E.tBs] }, E.tInt⟩, ⟨none, some 47, .binOp .eql E.tInt (.tmp 46) (.const (.int .i64 0)) E.tInt, E.tB⟩, ⟨none, some 4, .assign (.tmp 47), E.tB⟩]) .ret)) (.seq (.reg [ ⟨none, some 49, .binOp .eql E.tInt (.tmp 10) (.const (.int .i64 11)) E.tInt, E.tB⟩, ⟨none, some 48, .assign (.tmp 49), E.tB⟩]) (.cond 48 (.seq (.reg [ ⟨none, some 50, .fieldAddr E.t_spec_Tree (.tmp 3) 3, E.tNil⟩, ⟨none, some 51, .load E.t_l_spec_Tree (.tmp 50), E.t_l_spec_Tree⟩, ⟨none, some 52, .call { callee := .builtin .len, args := #[.tmp 51], argTypes := #[E.t_l_spec_Tree] }, E.tInt⟩, ⟨none, some 53, .binOp .eql E.tInt (.tmp 52) (.const (.int .i64 0)) E.tInt, E.tB⟩, ⟨none, some 4, .assign (.tmp 53), E.tB⟩]) .ret) (.seq (.reg [ ⟨none, some 55, .binOp .eql E.tInt (.tmp 10) (.const (.int .i64 10)) E.tInt, E.tB⟩, ⟨none, some 54, .assign (.tmp 55), E.tB⟩]) (.cond 54 (.seq (.seq (.reg [ ⟨none, some 56, .fieldAddr E.t_spec_Field (.tmp 2) 7, E.tNil⟩, ⟨none, some 57, .load E.t_l_spec_Field (.tmp 56), E.t_l_spec_Field⟩, ⟨none, some 58, .call { callee := .builtin .len, args := #[.tmp 57], argTypes := #[E.t_l_spec_Field] }, E.tInt⟩, ⟨none, some 59, .move (.const (.int .i64 0)), E.tInt⟩]) (.block 3 (.loop (.seq (.reg [ ⟨none, some 60, .binOp .lss E.tInt (.tmp 59) (.tmp 58) E.tInt, E.tNil⟩]) (.seq (.cond 60 .skip (.exit 3)) (.seq (.block 4 (.seq (.reg [ ⟨none, some 61, .move (.tmp 59), E.tInt⟩, ⟨none, some 62, .indexAddr E.t_l_spec_Field (.tmp 57) (.tmp 59), E.tNil⟩, ⟨none, some 63, .load E.t_spec_Field (.tmp 62), E.t_spec_Field⟩, ⟨none, some 8, .alloc E.t_spec_Field, E.tNil⟩, ⟨none, some 7, .assign (.tmp 61), E.tInt⟩, ⟨none, none, .store E.t_spec_Field (.tmp 8) (.tmp 63), E.tNil⟩]) (.seq (.regH [ (true, ⟨none, some 64, .load E.t_spec_Field (.tmp 8), E.t_spec_Field⟩), (true, ⟨none, some 65, .load E.t_spec_Tree (.tmp 3), E.t_spec_Tree⟩), (true, ⟨none, some 66, .move (.tmp 7), E.tInt⟩), (false, ⟨none, some 67, .call { callee := .value (.func E.f_spec_at), args := #[.tmp 65, .tmp 66], argTypes := #[E.t_spec_Tree, E.tInt] }, E.t_spec_Tree⟩), (false, ⟨none, some 68, .call { callee := .value (.func E.f_spec_usual), args := #[.tmp 64, .tmp 67], argTypes := #[E.t_spec_Field, E.t_spec_Tree] }, E.tB⟩), (true, ⟨none, some 69, .unOp .not E.tB (.tmp 68), E.tB⟩)]) (.cond 69 (.seq (.reg [ ⟨none, some 4, .assign (.const (.bool false)), E.tB⟩]) .ret) .skip)))) (.reg [ ⟨none, some 70, .binOp .add E.tInt (.tmp 59) (.const (.int .i64 1)) E.tInt, E.tInt⟩, ⟨none, some 59, .move (.tmp 70), E.tInt⟩]))))))) (.seq (.reg [ ⟨none, some 71, .fieldAddr E.t_spec_Field (.tmp 2) 7, E.tNil⟩, ⟨none, some 72, .load E.t_l_spec_Field (.tmp 71), E.t_l_spec_Field⟩, ⟨none, some 73, .fieldAddr E.t_spec_Tree (.tmp 3) 4, E.tNil⟩, ⟨none, some 74, .load E.t_l_spec_Tag (.tmp 73), E.t_l_spec_Tag⟩, ⟨none, some 75, .call { callee := .value (.func E.f_spec_unknown), args := #[.tmp 72, .tmp 74], argTypes := #[E.t_l_spec_Field, E.t_l_spec_Tag] }, E.t_l_spec_Tag⟩, ⟨none, some 76, .call { callee := .builtin .len, args := #[.tmp 75], argTypes := #[E.t_l_spec_Tag] }, E.tInt⟩, ⟨none, some 77, .binOp .eql E.tInt (.tmp 76) (.const (.int .i64 0)) E.tInt, E.tB⟩, ⟨none, some 4, .assign (.tmp 77), E.tB⟩]) .ret)) .skip)))))))))))) (.seq (.regH [ (true, ⟨none, some 78, .fieldAddr E.t_spec_Tree (.tmp 3) 0, E.tNil⟩), (true, ⟨none, some 79, .load E.tI64 (.tmp 78), E.tI64⟩), (true, ⟨none, some 80, .fieldAddr E.t_spec_Field (.tmp 2) 0, E.tNil⟩), (true, ⟨none, some 81, .load E.tInt (.tmp 80), E.tInt⟩), (true, ⟨none, some 84, .fieldAddr E.t_spec_Field (.tmp 2) 5, E.tNil⟩), (true, ⟨none, some 85, .load E.tI64 (.tmp 84), E.tI64⟩), (true, ⟨none, some 86, .fieldAddr E.t_spec_Field (.tmp 2) 0, E.tNil⟩), (true, ⟨none, some 87, .load E.tInt (.tmp 86), E.tInt⟩), (false, ⟨none, some 82, .call { callee := .value (.func E.f_spec_width), args := #[.tmp 81], argTypes := #[E.tInt] }, E.tInt⟩), (false, ⟨none, some 83, .call { callee := .value (.func E.f_spec_Fixed), args := #[.tmp 79, .tmp 82], argTypes := #[E.tI64, E.tInt] }, E.tBs⟩), (false, ⟨none, some 88, .call { callee := .value (.func E.f_spec_width), args := #[.tmp 87], argTypes := #[E.tInt] }, E.tInt⟩), (false, ⟨none, some 89, .call { callee := .value (.func E.f_spec_Fixed), args := #[.tmp 85, .tmp 88], argTypes := #[E.tI64, E.tInt] }, E.tBs⟩), (false, ⟨none, some 90, .call { callee := .value (.func E.f_spec_Same), args := #[.tmp 83, .tmp 89], argTypes := #[E.tBs, E.tBs] }, E.tB⟩), (true, ⟨none, some 4, .assign (.tmp 90), E.tB⟩)]) .ret)))
def nt_spec_usual : Nat := 91
def rs_spec_usual (E : Env) : List Rv := [.t 4]
def ir_spec_Uvarint (E : Env) : Ir := (.seq (.reg [ ⟨none, some 2, .assign (.const (.slice none 0 0)), E.tBs⟩]) (.seq (.reg [ ⟨none, some 3, .assign (.const (.slice none 0 0)), E.tBs⟩]) (.seq (.block 0 (.loop (.seq (.seq (.reg [ ⟨none, some 4, .move (.tmp 0), E.tU64⟩, ⟨none, some 5, .binOp .gtr E.tU64 (.tmp 4) (.const (.int .u64 127)) E.tU64, E.tB⟩]) (.cond 5 .skip (.exit 0))) (.block 1 (.seq (.reg [ ⟨none, some 6, .move (.tmp 3), E.tBs⟩, ⟨none, some 7, .move (.tmp 0), E.tU64⟩, ⟨none, some 8, .binOp .and E.tU64 (.tmp 7) (.const (.int .u64 127)) E.tU64, E.tU64⟩, ⟨none, some 9, .convert E.tU64 E.tU8 (.tmp 8), E.tU8⟩, ⟨none, some 10, .binOp .or E.tU8 (.tmp 9) (.const (.int .u8 128)) E.tU8, E.tU8⟩, ⟨none, some 11, .buildSlice E.tBs 1 #[(0, .tmp 10)], E.tBs⟩, ⟨none, some 12, .call { callee := .builtin .append, args := #[.tmp 6, .tmp 11], argTypes := #[E.tBs, E.tBs] }, E.tBs⟩, ⟨none, some 3, .assign (.tmp 12), E.tBs⟩]) (.reg [ ⟨none, some 13, .move (.tmp 0), E.tU64⟩, ⟨none, some 14, .binOp .shr E.tU64 (.tmp 13) (.const (.int .u64 7)) E.tUint, E.tU64⟩, ⟨none, some 0, .assign (.tmp 14), E.tU64⟩])))))) (.seq (.reg [ ⟨none, some 15, .move (.tmp 3), E.tBs⟩, ⟨none, some 16, .move (.tmp 0), E.tU64⟩, ⟨none, some 17, .convert E.tU64 E.tU8 (.tmp 16), E.tU8⟩, ⟨none, some 18, .buildSlice E.tBs 1 #[(0, .tmp 17)], E.tBs⟩, ⟨none, some 19, .call { callee := .builtin .append, args := #[.tmp 15, .tmp 18], argTypes := #[E.tBs, E.tBs] }, E.tBs⟩, ⟨none, some 2, .assign (.tmp 19), E.tBs⟩]) .ret))))
def nt_spec_Uvarint : Nat := 20
def rs_spec_Uvarint (E : Env) : List Rv := [.t 2]
def ir_spec_unknown (E : Env) : Ir := (.seq (.reg [ ⟨none, some 4, .assign (.const (.slice none 0 0)), E.t_l_spec_Tag⟩]) (.seq (.reg [ ⟨none, some 11, .move (.tmp 0), E.t_l_spec_Field⟩, ⟨none, some 12, .call { callee := .value (.func E.f_spec_known), args := #[.tmp 11], argTypes := #[E.t_l_spec_Field] }, E.tU32⟩, ⟨none, some 5, .assign (.tmp 12), E.tU32⟩]) (.seq (.reg [ ⟨none, some 6, .assign (.const (.slice none 0 0)), E.t_l_spec_Tag⟩]) (.seq (.seq (.reg [ ⟨none, some 13, .move (.tmp 1), E.t_l_spec_Tag⟩, ⟨none, some 14, .move (.tmp 1), E.t_l_spec_Tag⟩, ⟨none, some 15, .call { callee := .builtin .len, args := #[.tmp 14], argTypes := #[E.t_l_spec_Tag] }, E.tInt⟩, ⟨none, some 16, .call { callee := .builtin .min, args := #[.tmp 15, .const (.int .i64 32767)], argTypes := #[E.tInt, E.tInt] }, E.tInt⟩, ⟨none, some 17, .slice E.t_l_spec_Tag (.tmp 13) none (some (.tmp 16)) none, E.t_l_spec_Tag⟩, ⟨none, some 18, .call { callee := .builtin .len, args := #[.tmp 17], argTypes := #[E.t_l_spec_Tag] }, E.tInt⟩, ⟨none, some 19, .move (.const (.int .i64 0)), E.tInt⟩]) (.block 0 (.loop (.seq (.reg [ ⟨none, some 20, .binOp .lss E.tInt (.tmp 19) (.tmp 18) E.tInt, E.tNil⟩]) (.seq (.cond 20 .skip (.exit 0)) (.seq (.block 1 (.seq (.reg [ ⟨none, some 21, .indexAddr E.t_l_spec_Tag (.tmp 17) (.tmp 19), E.tNil⟩, ⟨none, some 22, .load E.t_spec_Tag (.tmp 21), E.t_spec_Tag⟩, ⟨none, some 8, .alloc E.t_spec_Tag, E.tNil⟩, ⟨none, none, .store E.t_spec_Tag (.tmp 8) (.tmp 22), E.tNil⟩]) (.seq (.reg [ ⟨none, some 9, .assign (.const (.int .i64 0)), E.tInt⟩]) (.seq (.block 2 (.loop (.seq (.seq (.regH [ (true, ⟨none, some 23, .move (.tmp 9), E.tInt⟩), (true, ⟨none, some 24, .move (.tmp 6), E.t_l_spec_Tag⟩), (true, ⟨none, some 25, .call { callee := .builtin .len, args := #[.tmp 24], argTypes := #[E.t_l_spec_Tag] }, E.tInt⟩), (true, ⟨none, some 26, .binOp .lss E.tInt (.tmp 23) (.tmp 25) E.tInt, E.tB⟩), (true, ⟨none, some 27, .move (.tmp 26), E.tB⟩), (true, ⟨(some (27, true)), some 28, .move (.tmp 6), E.t_l_spec_Tag⟩), (true, ⟨(some (27, true)), some 29, .move (.tmp 9), E.tInt⟩), (true, ⟨(some (27, true)), some 30, .indexAddr E.t_l_spec_Tag (.tmp 28) (.tmp 29), E.tNil⟩), (true, ⟨(some (27, true)), some 31, .fieldAddr E.t_spec_Tag (.tmp 30) 0, E.tNil⟩), (true, ⟨(some (27, true)), some 32, .load E.tU32 (.tmp 31), E.tU32⟩), (true, ⟨(some (27, true)), some 33, .fieldAddr E.t_spec_Tag (.tmp 8) 0, E.tNil⟩), (true, ⟨(some (27, true)), some 34, .load E.tU32 (.tmp 33), E.tU32⟩), (true, ⟨(some (27, true)), some 35, .binOp .lss E.tU32 (.tmp 32) (.tmp 34) E.tU32, E.tB⟩), (true, ⟨none, some 36, .pick (.tmp 27) (.tmp 35) (.const (.bool false)), E.tB⟩)]) (.cond 36 .skip (.exit 2))) (.block 3 (.reg [ ⟨none, some 37, .move (.tmp 9), E.tInt⟩, ⟨none, some 38, .binOp .add E.tInt (.tmp 37) (.const (.int .i64 1)) E.tInt, E.tInt⟩, ⟨none, some 9, .assign (.tmp 38), E.tInt⟩]))))) (.seq (.seq (.regH [ (true, ⟨none, some 39, .fieldAddr E.t_spec_Tag (.tmp 8) 0, E.tNil⟩), (true, ⟨none, some 40, .load E.tU32 (.tmp 39), E.tU32⟩), (true, ⟨none, some 41, .move (.tmp 5), E.tU32⟩), (true, ⟨none, some 42, .binOp .lss E.tU32 (.tmp 40) (.tmp 41) E.tU32, E.tB⟩), (true, ⟨none, some 43, .move (.tmp 42), E.tB⟩), (true, ⟨(some (43, false)), some 44, .move (.tmp 9), E.tInt⟩), (true, ⟨(some (43, false)), some 45, .move (.tmp 6), E.t_l_spec_Tag⟩), (true, ⟨(some (43, false)), some 46, .call { callee := .builtin .len, args := #[.tmp 45], argTypes := #[E.t_l_spec_Tag] }, E.tInt⟩), (true, ⟨(some (43, false)), some 47, .binOp .lss E.tInt (.tmp 44) (.tmp 46) E.tInt, E.tB⟩), (true, ⟨(some (43, false)), some 48, .move (.tmp 47), E.tB⟩), (true, ⟨(some (48, true)), some 49, .move (.tmp 6), E.t_l_spec_Tag⟩), (true, ⟨(some (48, true)), some 50, .move (.tmp 9), E.tInt⟩), (true, ⟨(some (48, true)), some 51, .indexAddr E.t_l_spec_Tag (.tmp 49) (.tmp 50), E.tNil⟩), (true, ⟨(some (48, true)), some 52, .fieldAddr E.t_spec_Tag (.tmp 51) 0, E.tNil⟩), (true, ⟨(some (48, true)), some 53, .load E.tU32 (.tmp 52), E.tU32⟩), (true, ⟨(some (48, true)), some 54, .fieldAddr E.t_spec_Tag (.tmp 8) 0, E.tNil⟩), (true, ⟨(some (48, true)), some 55, .load E.tU32 (.tmp 54), E.tU32⟩), (true, ⟨(some (48, true)), some 56, .binOp .eql E.tU32 (.tmp 53) (.tmp 55) E.tU32, E.tB⟩), (true, ⟨(some (43, false)), some 57, .pick (.tmp 48) (.tmp 56) (.const (.bool false)), E.tB⟩), (true, ⟨none, some 58, .pick (.tmp 43) (.const (.bool true)) (.tmp 57), E.tB⟩)]) (.cond 58 (.exit 1) .skip)) (.seq (.reg [ ⟨none, some 59, .move (.tmp 6), E.t_l_spec_Tag⟩, ⟨none, some 60, .build E.t_spec_Tag #[], E.t_spec_Tag⟩, ⟨none, some 61, .buildSlice E.t_l_spec_Tag 1 #[(0, .tmp 60)], E.t_l_spec_Tag⟩, ⟨none, some 62, .call { callee := .builtin .append, args := #[.tmp 59, .tmp 61], argTypes := #[E.t_l_spec_Tag, E.t_l_spec_Tag] }, E.t_l_spec_Tag⟩, ⟨none, some 6, .assign (.tmp 62), E.t_l_spec_Tag⟩]) (.seq (.seq (.reg [ ⟨none, some 63, .move (.tmp 6), E.t_l_spec_Tag⟩, ⟨none, some 64, .call { callee := .builtin .len, args := #[.tmp 63], argTypes := #[E.t_l_spec_Tag] }, E.tInt⟩, ⟨none, some 65, .binOp .sub E.tInt (.tmp 64) (.const (.int .i64 1)) E.tInt, E.tInt⟩, ⟨none, some 10, .assign (.tmp 65), E.tInt⟩]) (.block 4 (.loop (.seq (.seq (.reg [ ⟨none, some 66, .move (.tmp 10), E.tInt⟩, ⟨none, some 67, .move (.tmp 9), E.tInt⟩, ⟨none, some 68, .binOp .gtr E.tInt (.tmp 66) (.tmp 67) E.tInt, E.tB⟩]) (.cond 68 .skip (.exit 4))) (.seq (.block 5 (.reg [ ⟨none, some 71, .move (.tmp 6), E.t_l_spec_Tag⟩, ⟨none, some 72, .move (.tmp 10), E.tInt⟩, ⟨none, some 73, .move (.tmp 6), E.t_l_spec_Tag⟩, ⟨none, some 74, .move (.tmp 10), E.tInt⟩, ⟨none, some 75, .binOp .sub E.tInt (.tmp 74) (.const (.int .i64 1)) E.tInt, E.tInt⟩, ⟨none, some 76, .indexAddr E.t_l_spec_Tag (.tmp 73) (.tmp 75), E.tNil⟩, ⟨none, some 77, .load E.t_spec_Tag (.tmp 76), E.t_spec_Tag⟩, ⟨none, some 78, .indexAddr E.t_l_spec_Tag (.tmp 71) (.tmp 72), E.tNil⟩, ⟨none, none, .store E.t_spec_Tag (.tmp 78) (.tmp 77), E.tNil⟩])) (.reg [ ⟨none, some 69, .move (.tmp 10), E.tInt⟩, ⟨none, some 70, .binOp .sub E.tInt (.tmp 69) (.const (.int .i64 1)) E.tInt, E.tInt⟩, ⟨none, some 10, .assign (.tmp 70), E.tInt⟩])))))) (.reg [ ⟨none, some 79, .move (.tmp 6), E.t_l_spec_Tag⟩, ⟨none, some 80, .move (.tmp 9), E.tInt⟩, ⟨none, some 81, .load E.t_spec_Tag (.tmp 8), E.t_spec_Tag⟩, ⟨none, some 82, .indexAddr E.t_l_spec_Tag (.tmp 79) (.tmp 80), E.tNil⟩, ⟨none, none, .store E.t_spec_Tag (.tmp 82) (.tmp 81), E.tNil⟩])))))))) (.reg [ ⟨none, some 83, .binOp .add E.tInt (.tmp 19) (.const (.int .i64 1)) E.tInt, E.tInt⟩, ⟨none, some 19, .move (.tmp 83), E.tInt⟩]))))))) (.seq (.reg [ ⟨none, some 84, .move (.tmp 6), E.t_l_spec_Tag⟩, ⟨none, some 4, .assign (.tmp 84), E.t_l_spec_Tag⟩]) .ret)))))
def nt_spec_unknown : Nat := 85
def rs_spec_unknown (E : Env) : List Rv := [.t 4]
def ir_spec_whole (E : Env) : Ir := (.seq (.reg [ ⟨none, some 2, .assign (.const (.slice none 0 0)), E.tBs⟩]) (.seq (.reg [ ⟨none, some 3, .move (.tmp 0), E.tBs⟩, ⟨none, some 4, .move (.tmp 0), E.tBs⟩, ⟨none, some 5, .call { callee := .builtin .len, args := #[.tmp 4], argTypes := #[E.tBs] }, E.tInt⟩, ⟨none, some 6, .call { callee := .builtin .min, args := #[.tmp 5, .const (.int .i64 32767)], argTypes := #[E.tInt, E.tInt] }, E.tInt⟩, ⟨none, some 7, .slice E.tBs (.tmp 3) none (some (.tmp 6)) none, E.tBs⟩, ⟨none, some 2, .assign (.tmp 7), E.tBs⟩]) .ret))
def nt_spec_whole : Nat := 8
def rs_spec_whole (E : Env) : List Rv := [.t 2]
def ir_spec_things (E : Env) : Ir := (.seq (.reg [ ⟨none, some 2, .assign (.const (.slice none 0 0)), E.t_l_spec_Tree⟩]) (.seq (.reg [ ⟨none, some 3, .move (.tmp 0), E.t_l_spec_Tree⟩, ⟨none, some 4, .move (.tmp 0), E.t_l_spec_Tree⟩, ⟨none, some 5, .call { callee := .builtin .len, args := #[.tmp 4], argTypes := #[E.t_l_spec_Tree] }, E.tInt⟩, ⟨none, some 6, .call { callee := .builtin .min, args := #[.tmp 5, .const (.int .i64 32767)], argTypes := #[E.tInt, E.tInt] }, E.tInt⟩, ⟨none, some 7, .slice E.t_l_spec_Tree (.tmp 3) none (some (.tmp 6)) none, E.t_l_spec_Tree⟩, ⟨none, some 2, .assign (.tmp 7), E.t_l_spec_Tree⟩]) .ret))
def nt_spec_things : Nat := 8
def rs_spec_things (E : Env) : List Rv := [.t 2]
def ir_spec_counted (E : Env) : Ir := (.seq (.reg [ ⟨none, some 8, .assign (.const (.slice none 0 0)), E.tBs⟩]) (.seq (.block 0 (.seq (.reg [ ⟨none, some 10, .move (.tmp 0), E.tB⟩, ⟨none, some 11, .move (.tmp 10), E.tB⟩, ⟨(some (11, true)), some 12, .move (.tmp 1), E.tB⟩, ⟨none, some 13, .pick (.tmp 11) (.tmp 12) (.const (.bool false)), E.tB⟩, ⟨none, some 9, .assign (.tmp 13), E.tB⟩]) (.cond 9 (.seq (.reg [ ⟨none, some 14, .buildSlice E.tBs 1 #[(0, .const (.int .u8 0))], E.tBs⟩, ⟨none, some 8, .assign (.tmp 14), E.tBs⟩]) .ret) (.seq (.reg [ ⟨none, some 16, .move (.tmp 0), E.tB⟩, ⟨none, some 15, .assign (.tmp 16), E.tB⟩]) (.cond 15 (.seq (.reg [ ⟨none, some 17, .move (.tmp 2), E.tInt⟩, ⟨none, some 18, .convert E.tInt E.tU64 (.tmp 17), E.tU64⟩, ⟨none, some 19, .binOp .add E.tU64 (.tmp 18) (.const (.int .u64 1)) E.tU64, E.tU64⟩, ⟨none, some 20, .call { callee := .value (.func E.f_spec_Uvarint), args := #[.tmp 19], argTypes := #[E.tU64] }, E.tBs⟩, ⟨none, some 8, .assign (.tmp 20), E.tBs⟩]) .ret) (.seq (.reg [ ⟨none, some 22, .move (.tmp 1), E.tB⟩, ⟨none, some 21, .assign (.tmp 22), E.tB⟩]) (.cond 21 (.seq (.reg [ ⟨none, some 23, .move (.tmp 3), E.tInt⟩, ⟨none, some 24, .call { callee := .value (.func E.f_spec_Fixed), args := #[.const (.int .i64 (-1)), .tmp 23], argTypes := #[E.tI64, E.tInt] }, E.tBs⟩, ⟨none, some 8, .assign (.tmp 24), E.tBs⟩]) .ret) .skip))))))) (.seq (.reg [ ⟨none, some 25, .move (.tmp 2), E.tInt⟩, ⟨none, some 26, .move (.tmp 3), E.tInt⟩, ⟨none, some 27, .call { callee := .value (.func E.f_spec_Fixed), args := #[.tmp 25, .tmp 26], argTypes := #[E.tI64, E.tInt] }, E.tBs⟩, ⟨none, some 8, .assign (.tmp 27), E.tBs⟩]) .ret)))
def nt_spec_counted : Nat := 28
def rs_spec_counted (E : Env) : List Rv := [.t 8]
def ir_spec_width (E : Env) : Ir := (.seq (.reg [ ⟨none, some 2, .assign (.const (.int .i64 0)), E.tInt⟩]) (.seq (.seq (.reg [ ⟨none, some 3, .move (.tmp 0), E.tInt⟩]) (.block 0 (.seq (.reg [ ⟨none, some 5, .binOp .eql E.tInt (.tmp 3) (.const (.int .i64 1)) E.tInt, E.tB⟩, ⟨none, some 4, .assign (.tmp 5), E.tB⟩]) (.cond 4 (.seq (.reg [ ⟨none, some 2, .assign (.const (.int .i64 1)), E.tInt⟩]) .ret) (.seq (.seq (.reg [ ⟨none, some 7, .binOp .eql E.tInt (.tmp 3) (.const (.int .i64 2)) E.tInt, E.tB⟩, ⟨none, some 6, .assign (.tmp 7), E.tB⟩]) (.cond 6 .skip (.reg [ ⟨none, some 8, .binOp .eql E.tInt (.tmp 3) (.const (.int .i64 5)) E.tInt, E.tB⟩, ⟨none, some 6, .assign (.tmp 8), E.tB⟩]))) (.cond 6 (.seq (.reg [ ⟨none, some 2, .assign (.const (.int .i64 2)), E.tInt⟩]) .ret) (.seq (.reg [ ⟨none, some 10, .binOp .eql E.tInt (.tmp 3) (.const (.int .i64 3)) E.tInt, E.tB⟩, ⟨none, some 9, .assign (.tmp 10), E.tB⟩]) (.cond 9 (.seq (.reg [ ⟨none, some 2, .assign (.const (.int .i64 4)), E.tInt⟩]) .ret) .skip)))))))) (.seq (.reg [ ⟨none, some 2, .assign (.const (.int .i64 8)), E.tInt⟩]) .ret)))
def nt_spec_width : Nat := 11
def rs_spec_width (E : Env) : List Rv := [.t 2]
def ir_spec_Fixed (E : Env) : Ir := (.seq (.reg [ ⟨none, some 4, .assign (.const (.slice none 0 0)), E.tBs⟩]) (.seq (.reg [ ⟨none, some 5, .assign (.const (.slice none 0 0)), E.tBs⟩]) (.seq (.seq (.reg [ ⟨none, some 7, .move (.tmp 1), E.tInt⟩, ⟨none, some 8, .binOp .sub E.tInt (.tmp 7) (.const (.int .i64 1)) E.tInt, E.tInt⟩, ⟨none, some 6, .assign (.tmp 8), E.tInt⟩]) (.block 0 (.loop (.seq (.seq (.reg [ ⟨none, some 9, .move (.tmp 6), E.tInt⟩, ⟨none, some 10, .binOp .geq E.tInt (.tmp 9) (.const (.int .i64 0)) E.tInt, E.tB⟩]) (.cond 10 .skip (.exit 0))) (.seq (.block 1 (.reg [ ⟨none, some 13, .move (.tmp 5), E.tBs⟩, ⟨none, some 14, .move (.tmp 0), E.tI64⟩, ⟨none, some 15, .move (.tmp 6), E.tInt⟩, ⟨none, some 16, .binOp .mul E.tInt (.const (.int .i64 8)) (.tmp 15) E.tInt, E.tInt⟩, ⟨none, some 17, .binOp .shr E.tI64 (.tmp 14) (.tmp 16) E.tInt, E.tI64⟩, ⟨none, some 18, .convert E.tI64 E.tU8 (.tmp 17), E.tU8⟩, ⟨none, some 19, .buildSlice E.tBs 1 #[(0, .tmp 18)], E.tBs⟩, ⟨none, some 20, .call { callee := .builtin .append, args := #[.tmp 13, .tmp 19], argTypes := #[E.tBs, E.tBs] }, E.tBs⟩, ⟨none, some 5, .assign (.tmp 20), E.tBs⟩])) (.reg [ ⟨none, some 11, .move (.tmp 6), E.tInt⟩, ⟨none, some 12, .binOp .sub E.tInt (.tmp 11) (.const (.int .i64 1)) E.tInt, E.tInt⟩, ⟨none, some 6, .assign (.tmp 12), E.tInt⟩])))))) (.seq (.reg [ ⟨none, some 21, .move (.tmp 5), E.tBs⟩, ⟨none, some 4, .assign (.tmp 21), E.tBs⟩]) .ret))))
def nt_spec_Fixed : Nat := 22
def rs_spec_Fixed (E : Env) : List Rv := [.t 4]
def ir_spec_Same (E : Env) : Ir := (.seq (.reg [ ⟨none, some 4, .assign (.const (.bool false)), E.tB⟩]) (.seq (.seq (.reg [ ⟨none, some 6, .move (.tmp 0), E.tBs⟩, ⟨none, some 7, .call { callee := .builtin .len, args := #[.tmp 6], argTypes := #[E.tBs] }, E.tInt⟩, ⟨none, some 8, .move (.tmp 1), E.tBs⟩, ⟨none, some 9, .call { callee := .builtin .len, args := #[.tmp 8], argTypes := #[E.tBs] }, E.tInt⟩, ⟨none, some 10, .binOp .neq E.tInt (.tmp 7) (.tmp 9) E.tInt, E.tB⟩]) (.cond 10 (.seq (.reg [ ⟨none, some 4, .assign (.const (.bool false)), E.tB⟩]) .ret) .skip)) (.seq (.seq (.reg [ ⟨none, some 11, .move (.tmp 0), E.tBs⟩, ⟨none, some 12, .call { callee := .builtin .len, args := #[.tmp 11], argTypes := #[E.tBs] }, E.tInt⟩, ⟨none, some 13, .move (.const (.int .i64 0)), E.tInt⟩]) (.block 0 (.loop (.seq (.reg [ ⟨none, some 14, .binOp .lss E.tInt (.tmp 13) (.tmp 12) E.tInt, E.tNil⟩]) (.seq (.cond 14 .skip (.exit 0)) (.seq (.block 1 (.seq (.reg [ ⟨none, some 15, .move (.tmp 13), E.tInt⟩, ⟨none, some 5, .assign (.tmp 15), E.tInt⟩]) (.seq (.regH [ (true, ⟨none, some 16, .move (.tmp 0), E.tBs⟩), (true, ⟨none, some 17, .move (.tmp 5), E.tInt⟩), (true, ⟨none, some 18, .indexAddr E.tBs (.tmp 16) (.tmp 17), E.tNil⟩), (true, ⟨none, some 19, .load E.tU8 (.tmp 18), E.tU8⟩), (true, ⟨none, some 20, .move (.tmp 1), E.tBs⟩), (true, ⟨none, some 21, .move (.tmp 5), E.tInt⟩), (true, ⟨none, some 22, .indexAddr E.tBs (.tmp 20) (.tmp 21), E.tNil⟩), (true, ⟨none, some 23, .load E.tU8 (.tmp 22), E.tU8⟩), (true, ⟨none, some 24, .binOp .neq E.tU8 (.tmp 19) (.tmp 23) E.tU8, E.tB⟩)]) (.cond 24 (.seq (.reg [ ⟨none, some 4, .assign (.const (.bool false)), E.tB⟩]) .ret) .skip)))) (.reg [ ⟨none, some 25, .binOp .add E.tInt (.tmp 13) (.const (.int .i64 1)) E.tInt, E.tInt⟩, ⟨none, some 13, .move (.tmp 25), E.tInt⟩]))))))) (.seq (.reg [ ⟨none, some 4, .assign (.const (.bool true)), E.tB⟩]) .ret))))
def nt_spec_Same : Nat := 26
def rs_spec_Same (E : Env) : List Rv := [.t 4]
def ir_spec_Field_has (E : Env) : Ir := (.seq (.reg [ ⟨none, some 2, .box E.t_spec_Field (.tmp 0), E.tNil⟩, ⟨none, some 4, .assign (.const (.bool false)), E.tB⟩]) (.seq (.reg [ ⟨none, some 5, .fieldAddr E.t_spec_Field (.tmp 2) 1, E.tNil⟩, ⟨none, some 6, .load E.tInt (.tmp 5), E.tInt⟩, ⟨none, some 7, .move (.tmp 1), E.tInt⟩, ⟨none, some 8, .binOp .leq E.tInt (.tmp 6) (.tmp 7) E.tInt, E.tB⟩, ⟨none, some 9, .move (.tmp 8), E.tB⟩, ⟨(some (9, true)), some 10, .fieldAddr E.t_spec_Field (.tmp 2) 2, E.tNil⟩, ⟨(some (9, true)), some 11, .load E.tInt (.tmp 10), E.tInt⟩, ⟨(some (9, true)), some 12, .binOp .lss E.tInt (.tmp 11) (.const (.int .i64 0)) E.tInt, E.tB⟩, ⟨(some (9, true)), some 13, .move (.tmp 12), E.tB⟩, ⟨(some (13, false)), some 14, .move (.tmp 1), E.tInt⟩, ⟨(some (13, false)), some 15, .fieldAddr E.t_spec_Field (.tmp 2) 2, E.tNil⟩, ⟨(some (13, false)), some 16, .load E.tInt (.tmp 15), E.tInt⟩, ⟨(some (13, false)), some 17, .binOp .leq E.tInt (.tmp 14) (.tmp 16) E.tInt, E.tB⟩, ⟨(some (9, true)), some 18, .pick (.tmp 13) (.const (.bool true)) (.tmp 17), E.tB⟩, ⟨none, some 19, .pick (.tmp 9) (.tmp 18) (.const (.bool false)), E.tB⟩, ⟨none, some 4, .assign (.tmp 19), E.tB⟩]) .ret))
def nt_spec_Field_has : Nat := 20
def rs_spec_Field_has (E : Env) : List Rv := [.t 4]
def ir_spec_Field_null (E : Env) : Ir := (.seq (.reg [ ⟨none, some 3, .box E.t_spec_Field (.tmp 0), E.tNil⟩, ⟨none, some 5, .box E.t_spec_Tree (.tmp 2), E.tNil⟩, ⟨none, some 6, .assign (.const (.bool false)), E.tB⟩]) (.seq (.reg [ ⟨none, some 7, .fieldAddr E.t_spec_Tree (.tmp 5) 2, E.tNil⟩, ⟨none, some 8, .load E.tB (.tmp 7), E.tB⟩, ⟨none, some 9, .move (.tmp 8), E.tB⟩, ⟨(some (9, true)), some 10, .fieldAddr E.t_spec_Field (.tmp 3) 3, E.tNil⟩, ⟨(some (9, true)), some 11, .load E.tInt (.tmp 10), E.tInt⟩, ⟨(some (9, true)), some 12, .binOp .geq E.tInt (.tmp 11) (.const (.int .i64 0)) E.tInt, E.tB⟩, ⟨none, some 13, .pick (.tmp 9) (.tmp 12) (.const (.bool false)), E.tB⟩, ⟨none, some 14, .move (.tmp 13), E.tB⟩, ⟨(some (14, true)), some 15, .move (.tmp 1), E.tInt⟩, ⟨(some (14, true)), some 16, .fieldAddr E.t_spec_Field (.tmp 3) 3, E.tNil⟩, ⟨(some (14, true)), some 17, .load E.tInt (.tmp 16), E.tInt⟩, ⟨(some (14, true)), some 18, .binOp .geq E.tInt (.tmp 15) (.tmp 17) E.tInt, E.tB⟩, ⟨none, some 19, .pick (.tmp 14) (.tmp 18) (.const (.bool false)), E.tB⟩, ⟨none, some 6, .assign (.tmp 19), E.tB⟩]) .ret))
def nt_spec_Field_null : Nat := 20
def rs_spec_Field_null (E : Env) : List Rv := [.t 6]
end Go.Kg

set_option linter.unusedSimpArgs false
set_option linter.unusedVariables false
namespace Go.Kg
open Go
/-- f hands back fresh bytes. -/
def Fresh (u8 : Nat) (w : World) (v : Value) (w' : World) (out : List UInt8) : Prop := OwnB u8 w' w.heap.size v out ∧ Ext none1 w w'
def SpC (P : Program) (u8 f : Nat) (args : List Value) (out : List UInt8) : Prop := ∀ w, Ret P f args.toArray w fun v w' => Fresh u8 w v w' out
theorem Own.base {w : World} {base base' e s : Nat} {v : Value} {xs : List Value} (h : Own w base' e s v xs) (hb : base ≤ base') : Own w base e s v xs := by
  obtain ⟨n, h1, h2⟩ := h
  refine ⟨n, h1, ?_⟩
  rcases h2 with h | ⟨g, cap, cur, rfl, hg, rest⟩
  · exact .inl h
  · exact .inr ⟨g, cap, cur, rfl, Nat.le_trans hb hg, rest⟩
/-- a fresh row grows on: still fresh -/
theorem Fresh.grow {u8 : Nat} {w w1 w2 : World} {v v2 : Value} {s out : List UInt8} (h : Fresh u8 w v w1 s) (ho : OwnB u8 w2 w.heap.size v2 (s ++ out)) (hg : Grew w1 v w2 v2) : Fresh u8 w v2 w2 (s ++ out) := by
  refine ⟨ho, ⟨hg.ext.os.trans h.2.os, hg.ext.tape.trans h.2.tape, hg.ext.output.trans h.2.output, Nat.le_trans h.2.size hg.ext.size, fun k hk _ => ?_⟩⟩
  rw [hg.ext.block k (Nat.lt_of_lt_of_le hk h.2.size) (fun ho' => by have := (Own.below h.1 ho').1; omega)]
  exact h.2.block k hk (fun h => h)
theorem Fresh.nil {u8 : Nat} {w w' : World} (h : Ext none1 w w') : Fresh u8 w (.slice none 0 0) w' [] := ⟨by simpa [OwnB, cellsOf] using Own.nil w' w.heap.size u8 1, h⟩
theorem Fresh.post {u8 : Nat} {w w1 w2 : World} {v : Value} {s : List UInt8} (h : Fresh u8 w v w1 s) (he : Ext none1 w1 w2) : Fresh u8 w v w2 s := ⟨Own.ext h.1 he (fun _ _ h => h), h.2.trans he⟩
theorem Fresh.pre {u8 : Nat} {w0 w w1 : World} {v : Value} {s : List UInt8} (he : Ext none1 w0 w) (h : Fresh u8 w v w1 s) : Fresh u8 w0 v w1 s := ⟨Own.base h.1 he.size, he.trans h.2⟩
/-- a literal of bytes is fresh -/
theorem fresh_lit {u8 : Nat} {w : World} {bs : List UInt8} {cs : Array Value} (hcs : cs = (cellsOf bs).toArray) (hn : bs.length ≤ 1000) : Fresh u8 w (.slice (some ⟨w.heap.size, 0, none⟩) bs.length bs.length) (w.alloc (.cells cs u8)) bs := by
  subst hcs
  refine ⟨⟨bs.length, ?_⟩, (Ext.refl none1 w).alloc _⟩
  have := World.ownsRow_lit (e := u8) (size := 1) (base := w.heap.size) w (cellsOf bs).toArray bs.length (Nat.le_refl _) (by simp [maxLen]; omega) (by simp)
  simpa using this
def fixE : Nat → Int → List UInt8
  | 0, _ => []
  | k + 1, n => bval (n.fdiv (2 ^ (8 * k))) :: fixE k n
structure TySp (P : Program) (E : Env) : Prop extends TyWr P E where
  kU8 : kindOf P E.tU8 = .scl
/-- the width of numbers of a kind -/
def widthS (kind : Int) : Nat := if kind = 1 then 1 else if kind = 2 ∨ kind = 5 then 2 else if kind = 3 then 4 else 8
def uvF : Nat → Nat → List UInt8
  | 0, n => [UInt8.ofNat n]
  | k + 1, n => if 127 < n then UInt8.ofNat (n % 128 + 128) :: uvF k (n / 128) else [UInt8.ofNat n]
def uvS (n : Nat) : List UInt8 := uvF n n
theorem uvF_fuel : ∀ {k k' n : Nat}, n ≤ k → n ≤ k' → uvF k n = uvF k' n
  | 0, 0, n, _, _ => rfl
  | 0, k' + 1, n, h, _ => by simp only [uvF]; rw [if_neg (by omega)]
  | k + 1, 0, n, _, h => by simp only [uvF]; rw [if_neg (by omega)]
  | k + 1, k' + 1, n, h, h' => by
    simp only [uvF]
    split
    · rw [uvF_fuel (k := k) (k' := k') (by omega) (by omega)]
    · rfl
theorem uvS_eq (n : Nat) : uvS n = if 127 < n then UInt8.ofNat (n % 128 + 128) :: uvS (n / 128) else [UInt8.ofNat n] := by
  unfold uvS
  cases n with
  | zero => rfl
  | succ n =>
    show uvF (n + 1) (n + 1) = _
    rw [uvF]
    split
    · rw [uvF_fuel (k := n) (k' := (n + 1) / 128) (by omega) (Nat.le_refl _)]
    · rfl
theorem uvS_len {k : Nat} : ∀ {n : Nat}, n < 128 ^ (k + 1) → (uvS n).length ≤ k + 1 := by
  induction k with
  | zero => intro n h; rw [uvS_eq, if_neg (by omega)]; simp
  | succ k ih =>
    intro n h
    rw [uvS_eq]
    split
    · have := ih (n := n / 128) (by rw [Nat.pow_succ] at h; omega)
      simp; omega
    · simp
theorem g7u8 (x : Nat) (h : x < 128) : bits .or .u8 (x : Int) 128 = ((x + 128 : Nat) : Int) := by
  have key : ∀ n : Fin 128, bits .or .u8 (n.val : Int) 128 = ((n.val + 128 : Nat) : Int) := by decide +kernel
  exact key ⟨x, h⟩
def UvInv (u8 : Nat) (n : Nat) (w : World) (f : Nat → Value) (w' : World) : Prop := ∃ m s, m ≤ n ∧ s ++ uvS m = uvS n ∧ f 0 = .int .u64 m ∧ Fresh u8 w (f 3) w' s
theorem c_SUvarint {P : Program} {E : Env} (ht : TyWr P E) (hI : FnIs P E.f_spec_Uvarint nt_spec_Uvarint (rs_spec_Uvarint E) (ir_spec_Uvarint E)) (n : Nat) (hn : n < 18446744073709551616) :
    SpC P E.tU8 E.f_spec_Uvarint [.int .u64 n] (uvS n) := by
  intro w
  have hlen := uvS_len (k := 9) (n := n) (by simp; omega)
  refine hI.call (args := [_]) (by simp [nt_spec_Uvarint]) ?_
  simp [ir_spec_Uvarint, rs_spec_Uvarint, bin?]
  refine cw_loop (UvInv E.tU8 n w) (fun f _ => match f 0 with | .int _ i => i.toNat | _ => 0) ?_ ?_
  · exact ⟨n, [], Nat.le_refl _, rfl, by simp, by simpa using Fresh.nil (Ext.refl _ _)⟩
  · rintro f w' ⟨m, s, hm, hs, h0, hf⟩
    have hl2 := congrArg List.length hs
    simp at hl2
    simp [h0, bin?]
    by_cases hc : 127 < m
    · refine cw_true (by simp; omega) ?_
      have e1 : bits .and .u64 (m : Int) 127 = ((m % 128 : Nat) : Int) := by
        rw [bits_mask7 .u64 64 (by decide) (by decide) wraps_u64 (m : Int) (by omega) (by omega)]; omega
      have e2 : IntKind.u8.wrap ((m % 128 : Nat) : Int) = ((m % 128 : Nat) : Int) := by simp [IntKind.wrap, IntKind.signed, IntKind.bits]; omega
      have e3 := g7u8 (m % 128) (by omega)
      have e4 : (UInt8.ofNat (m % 128 + 128)).toNat = m % 128 + 128 := by simp; omega
      simp [h0, bin?, e1, e2, e3, IntKind.bits, ht.iU64, ht.iU8, st_bsl ht.sBs, denseFrom, allSz, flat, Value.cells, Int.fdiv_eq_ediv_of_nonneg]
      have e5 : bits .or .u8 (IntKind.u8.wrap ((m : Int) % 128)) 128 = ((UInt8.ofNat (m % 128 + 128)).toNat : Int) := by
        have : ((m : Int) % 128) = ((m % 128 : Nat) : Int) := by omega
        rw [this, e2, e3, e4]
      have e6 : ((m : Int) / 128) = ((m / 128 : Nat) : Int) := by omega
      have hs2 : (s ++ [UInt8.ofNat (m % 128 + 128)]) ++ uvS (m / 128) = uvS n := by rw [← hs, uvS_eq m, if_pos hc]; simp
      have hl3 := congrArg List.length hs2
      simp only [List.length_append] at hl3
      refine st_app_lit ht.sBs (by simp) hf.1 hf.2.size [UInt8.ofNat (m % 128 + 128)] ?_ (by simp) (by simp at hl3 ⊢; omega) ?_
      · rw [e5]; rfl
      intro v' w2 ho hg
      refine ⟨⟨m / 128, s ++ [UInt8.ofNat (m % 128 + 128)], by omega, hs2, by simp, ?_⟩, by omega⟩
      simpa using hf.grow ho hg
    · refine cw_false (by simp; omega) ?_
      simp [h0, ht.iU64, ht.iU8, st_bsl ht.sBs, denseFrom, allSz, flat, Value.cells, u8wrap]
      rw [uvS_eq, if_neg hc] at hs
      have hlen2 : s.length ≤ 9 := by have := congrArg List.length hs; simp at this; omega
      refine st_app_lit ht.sBs (by simp) hf.1 hf.2.size [bval m] (by simp [cellsOf]) (by simp) (by simp; omega) ?_
      intro v' w2 ho hg
      have := hf.grow ho hg
      rw [bval_nat (x := (m : Int)) rfl, hs] at this
      simpa using this
end Go.Kg

set_option linter.unusedSimpArgs false
set_option linter.unusedVariables false
namespace Go.Kg
open Go
end Go.Kg

set_option linter.unusedSimpArgs false
set_option linter.unusedVariables false
namespace Go.Kg
open Go
/-- the default of a number, as a value -/
def Prim.dval : Prim → Int → Option Value
  | .bool, d => if d = 0 then none else some (.bool true)
  | .i8, d => if d = 0 then none else some (.int .i8 d)
  | .i16, d => if d = 0 then none else some (.int .i16 d)
  | .u16, d => if d = 0 then none else some (.int .u16 d)
  | .i32, d => if d = 0 then none else some (.int .i32 d)
  | .i64, d => if d = 0 then none else some (.int .i64 d)
  | _, _ => none
structure DSt where
  k : Nat
  o : Nat
  ty : Nat
  v : Value
def Sch.dst (C : Cfg) : Sch → List DSt
  | .fin => []
  | .tags _ _ => []
  | .prim _ k o p en d rest => (match p.dval d with | some v => [⟨k, o, if en = 0 then p.ty C.E else en, v⟩] | none => []) ++ rest.dst C
  | .arrP _ _ _ _ _ _ rest => rest.dst C
  | .arrS _ _ _ _ _ _ _ _ _ _ rest => rest.dst C
  | .sub _ _ _ _ _ _ _ _ rest => rest.dst C
  | .opt _ _ _ _ _ _ _ _ _ rest => rest.dst C
end Go.Kg

set_option linter.unusedSimpArgs false
set_option linter.unusedVariables false
namespace Go.Kg
open Go
/-- What a new thing says. -/
def Prim.dfl : (p : Prim) → Int → p.T
  | .bool, d => (show Bool from decide (d ≠ 0))
  | .i8, d => (show Int from d)
  | .i16, d => (show Int from d)
  | .u16, d => (show Int from d)
  | .i32, d => (show Int from d)
  | .i64, d => (show Int from d)
  | .uuid, _ => (show List UInt8 from List.replicate 16 0)
  | .str, _ => (show List UInt8 from [])
  | .bytes, _ => (show List UInt8 from [])
  | .nstr, _ => (show Option (List UInt8) from none)
  | .nbytes, _ => (show Option (List UInt8) from none)
def Sch.dfl : (S : Sch) → S.T
  | .fin => ()
  | .tags _ _ => []
  | .prim _ _ _ p _ d rest => (p.dfl d, rest.dfl)
  | .arrP _ _ _ _ _ _ rest => (none, rest.dfl)
  | .arrS _ _ _ _ _ _ _ _ _ _ rest => (none, rest.dfl)
  | .sub _ _ _ _ _ _ _ e rest => (e.dfl, rest.dfl)
  | .opt _ _ _ _ _ _ _ _ _ rest => (none, rest.dfl)
end Go.Kg

set_option linter.unusedSimpArgs false
set_option linter.unusedVariables false
namespace Go.Kg
open Go
def rdCNBytes (rs : RS) : Option (List UInt8) × RS := if ((rdUv rs).1 : Int) - 1 < 0 then (none, (rdUv rs).2) else optOf (rdSpan ((rdUv rs).1 - 1) (rdUv rs).2)
def Prim.rd : (p : Prim) → Bool → RS → p.T × RS
  | .bool, _, rs => (boolOf (rdFixed 1 rs).1, (rdFixed 1 rs).2)
  | .i8, _, rs => (IntKind.i8.wrap (rdFixed 1 rs).1, (rdFixed 1 rs).2)
  | .i16, _, rs => (IntKind.i16.wrap (rdFixed 2 rs).1, (rdFixed 2 rs).2)
  | .u16, _, rs => (((rdFixed 2 rs).1 : Int), (rdFixed 2 rs).2)
  | .i32, _, rs => (IntKind.i32.wrap (rdFixed 4 rs).1, (rdFixed 4 rs).2)
  | .i64, _, rs => (IntKind.i64.wrap (rdFixed 8 rs).1, (rdFixed 8 rs).2)
  | .uuid, _, rs => rdUuid rs
  | .str, fl, rs => if fl then rdCStr rs else rdStr rs
  | .nstr, fl, rs => if fl then rdCNStr rs else rdNStr rs
  | .bytes, fl, rs => if fl then rdCBytes rs else rdBytes rs
  | .nbytes, fl, rs => if fl then rdCNBytes rs else rdNBytes rs
/-- a tag is set: in the place of the one of its number, or behind all -/
def setTag (k : Nat) (v : List UInt8) : TagL → TagL
  | [] => [(k, v)]
  | x :: l => if x.1 = k then (k, v) :: l else x :: setTag k v l
def rdTag (l : TagL) (rs : RS) : TagL × RS :=
  let a := rdUv rs
  let b := rdUv a.2
  let c := rdSpan b.1 b.2
  (setTag a.1 c.1 l, c.2)
def rdTagN : Nat → TagL → RS → TagL × RS
  | 0, l, rs => (l, rs)
  | n + 1, l, rs => rdTagN n (rdTag l rs).1 (rdTag l rs).2
def rdTags (rs : RS) : TagL × RS := rdTagN (rdUv rs).1 [] (rdUv rs).2
def rdN {α : Type} (f : RS → Option (α × RS)) : Nat → RS → Option (List α × RS)
  | 0, rs => some ([], rs)
  | n + 1, rs => match f rs with
    | none => none
    | some (x, rs1) => match rdN f n rs1 with
      | none => none
      | some (l, rs2) => some (x :: l, rs2)
/-- a list's length; what a list is that has none -/
def lenRd (fl : Bool) (rs : RS) : Int × RS := if fl then rdCLen rs else rdLen rs
def emptyOf {α : Type} (nul : Option Nat) (ver l : Int) : Option (List α) := match nul with
  | none => none
  | some m => if ver < (m : Int) ∨ l = 0 then some [] else none
def arrRd {α : Type} (nul : Option Nat) (ver : Int) (fl : Bool) (f : RS → Option (α × RS)) (rs : RS) : Option (Option (List α) × RS) :=
  if (lenRd fl rs).2.bad then none
  else if 0 < (lenRd fl rs).1 then match rdN f (lenRd fl rs).1.toNat (lenRd fl rs).2 with
    | none => none
    | some (l, rs2) => some (some l, rs2)
  else some (emptyOf nul ver (lenRd fl rs).1, (lenRd fl rs).2)
/-- present := b.Int8(); present != -1 && b.Ok() -/
def optRd {α : Type} (f : RS → Option (α × RS)) (rs : RS) : Option (Option α × RS) :=
  if Prim.rd .i8 false rs |>.2.bad then some (none, (Prim.rd .i8 false rs).2)
  else if (show Int from (Prim.rd .i8 false rs).1) = -1 then some (none, (Prim.rd .i8 false rs).2)
  else (f (Prim.rd .i8 false rs).2).map fun x => (some x.1, x.2)
/-- none: the early return behind a list's length. -/
def Sch.rd (ver : Int) (fl : Bool) : (S : Sch) → RS → Option (S.T × RS)
  | .fin, rs => some ((), rs)
  | .tags _ _, rs => some (if fl then rdTags rs else ([], rs))
  | .prim g _ _ p _ d rest, rs =>
    if g.on ver then (rest.rd ver fl (p.rd fl rs).2).map fun y => (((p.rd fl rs).1, y.1), y.2)
    else (rest.rd ver fl rs).map fun y => ((p.dfl d, y.1), y.2)
  | .arrP g _ _ _ nul p rest, rs =>
    if g.on ver then match arrRd nul ver fl (fun rs => some (p.rd fl rs)) rs with
      | none => none
      | some (a, rs1) => (rest.rd ver fl rs1).map fun y => ((a, y.1), y.2)
    else (rest.rd ver fl rs).map fun y => ((none, y.1), y.2)
  | .arrS g _ _ _ nul _ _ _ _ e rest, rs =>
    if g.on ver then match arrRd nul ver fl (e.rd ver fl) rs with
      | none => none
      | some (a, rs1) => (rest.rd ver fl rs1).map fun y => ((a, y.1), y.2)
    else (rest.rd ver fl rs).map fun y => ((none, y.1), y.2)
  | .sub g _ _ _ _ _ _ e rest, rs =>
    if g.on ver then match e.rd ver fl rs with
      | none => none
      | some (a, rs1) => (rest.rd ver fl rs1).map fun y => ((a, y.1), y.2)
    else (rest.rd ver fl rs).map fun y => ((e.dfl, y.1), y.2)
  | .opt g _ _ _ _ _ _ _ e rest, rs =>
    if g.on ver then match optRd (e.rd ver fl) rs with
      | none => none
      | some (a, rs1) => (rest.rd ver fl rs1).map fun y => ((a, y.1), y.2)
    else (rest.rd ver fl rs).map fun y => ((none, y.1), y.2)
section
variable {w : World} {K K' : Nat → Prop} (hK : ∀ b, K b → K' b)
include hK
theorem StrPtr.mono {v : Value} {o : Option (List UInt8)} (h : StrPtr w K v o) : StrPtr w K' v o := by
  cases o with
  | none => exact h
  | some l => obtain ⟨a, rfl, hk, hc⟩ := h; exact ⟨a, rfl, hK _ hk, hc⟩
theorem BytesOpt.mono {v : Value} {o : Option (List UInt8)} (h : BytesOpt w K v o) : BytesOpt w K' v o := by
  cases o with
  | none => exact h
  | some l => exact ⟨h.1.mono (fun b _ => hK b), h.2⟩
theorem Prim.rep1_mono {p : Prim} {v : Value} {x : p.T} (h : p.rep1 w K v x) : p.rep1 w K' v x := by
  cases p <;> first | exact h | exact StrPtr.mono hK h | exact BytesAt.mono h (fun b _ => hK b) | exact BytesOpt.mono hK h
theorem TagsAt.mono {v : Value} {l : TagL} (h : TagsAt w K v l) : TagsAt w K' v l := by
  rcases h with h | ⟨b, es, clock, rfl, hk, hb, hs, hn, hl, hx⟩
  · exact .inl h
  · refine .inr ⟨b, es, clock, rfl, hK _ hk, hb, hs, hn, hl, fun i e x h1 h2 => ?_⟩
    obtain ⟨a1, a2, a3, a4⟩ := hx i e x h1 h2
    exact ⟨a1, a2, a3, a4.mono (fun b _ => hK b)⟩
theorem ArrAt.mono' {sz : Nat} {v : Value} {ls : Option (List (List Value))} (h : ArrAt w K sz v ls) : ArrAt w K' sz v ls := by
  cases ls with
  | none => exact h
  | some ls => obtain ⟨b, o, c, rfl, hk, hn, hx⟩ := h; exact ⟨b, o, c, rfl, hK b hk, hn, hx⟩
theorem Sch.Rep_mono : ∀ (S : Sch) {cs : List Value} {x : S.T}, S.Rep w K cs x → S.Rep w K' cs x := by
  intro S
  induction S with
  | fin => intro cs x h; trivial
  | tags k o => intro cs x ⟨v, h1, h2⟩; exact ⟨v, h1, TagsAt.mono hK h2⟩
  | prim g k o p en d rest ih => intro cs x ⟨⟨v, h1, h2⟩, h3⟩; exact ⟨⟨v, h1, Prim.rep1_mono hK h2⟩, ih h3⟩
  | arrP g k o sT nul p rest ih =>
    intro cs x ⟨⟨v, ls, h1, h2, h3, h4, h5⟩, h6⟩
    refine ⟨⟨v, ls, h1, ArrAt.mono' hK h2, h3, h4, fun i es y hi hy => ?_⟩, ih h6⟩
    obtain ⟨u, a1, a2⟩ := h5 i es y hi hy
    exact ⟨u, a1, Prim.rep1_mono hK a2⟩
  | arrS g k o sT nul T PT sz df e rest ihe ih =>
    intro cs x ⟨⟨v, ls, h1, h2, h3, h4, h5⟩, h6⟩
    exact ⟨⟨v, ls, h1, ArrAt.mono' hK h2, h3, h4, fun i es y hi hy => ihe (h5 i es y hi hy)⟩, ih h6⟩
  | sub g k o T PT sz df e rest ihe ih => intro cs x ⟨h1, h2⟩; exact ⟨ihe h1, ih h2⟩
  | opt g k o T PT PP sz df e rest ihe ih =>
    intro cs x ⟨⟨v, h1, h2, h3⟩, h4⟩
    refine ⟨⟨v, h1, h2, fun y hy => ?_⟩, ih h4⟩
    obtain ⟨b, c, es, a1, a2, a3, a4, a5, a6⟩ := h3 y hy
    exact ⟨b, c, es, a1, hK _ a2, a3, a4, a5, ihe a6⟩
end
end Go.Kg

set_option linter.unusedSimpArgs false
set_option linter.unusedVariables false
set_option linter.unusedSectionVars false
namespace Go.Kg
open Go
theorem be_go : ∀ (k n m : Nat), (bigE k n).foldl (fun n b => n * 256 + b.toNat) m = m * 256 ^ k + n % 256 ^ k := by
  intro k
  induction k with
  | zero => intro n m; simp [bigE, Nat.mod_one]
  | succ k ih =>
    intro n m
    simp only [bigE, List.foldl_cons]
    rw [ih]
    have h1 : (UInt8.ofNat (n / 256 ^ k)).toNat = n / 256 ^ k % 256 := by simp
    rw [h1, Nat.pow_succ, Nat.mod_mul]
    rw [Nat.add_mul, Nat.mul_assoc, Nat.mul_comm 256 (256 ^ k), Nat.mul_comm (n / 256 ^ k % 256)]
    omega
theorem be_bigE (k n : Nat) : be (bigE k n) = n % 256 ^ k := by
  rw [be, be_go]; simp
theorem rdFixed_bigE (k n : Nat) (r : List UInt8) (bad nn : Bool) : rdFixed k ⟨bigE k n ++ r, bad, nn⟩ = (n % 256 ^ k, ⟨r, bad, true⟩) := by
  have h1 : ¬ (bigE k n ++ r).length < k := by simp
  have h2 : (bigE k n ++ r).take k = bigE k n := by rw [List.take_left' bigE_length]
  have h3 : (bigE k n ++ r).drop k = r := by rw [List.drop_left' bigE_length]
  simp only [rdFixed, if_neg h1, h2, h3, be_bigE]
theorem uvE_rd : ∀ (k n : Nat) (r : List UInt8), n < 128 ^ k * 16 → uvGo k (uvE k n ++ r) = some (n, r) := by
  intro k
  induction k with
  | zero =>
    intro n r h
    have h' : n < 16 := by simpa using h
    have h1 : (UInt8.ofNat n).toNat = n := by simp; omega
    simp only [uvE, List.cons_append, List.nil_append, uvGo, h1]
    rw [if_pos (by omega)]
  | succ k ih =>
    intro n r h
    by_cases hn : n < 128
    · have h1 : (UInt8.ofNat n).toNat = n := by simp; omega
      simp only [uvE, if_pos hn, List.cons_append, List.nil_append, uvGo, h1]
    · have h1 : (UInt8.ofNat (n % 128 + 128)).toNat = n % 128 + 128 := by simp; omega
      simp only [uvE, if_neg hn, List.cons_append, uvGo, h1]
      rw [if_neg (by omega), ih (n / 128) r (by rw [Nat.pow_succ] at h; omega)]
      simp only [Option.map_some]
      congr 2
      omega
theorem rdUv_out {n : Nat} (h : n < 4294967296) (r : List UInt8) (bad nn : Bool) : rdUv ⟨uvOut n ++ r, bad, nn⟩ = (n, ⟨r, bad, true⟩) := by
  simp only [rdUv, uv, uvOut, uvE_rd 4 n r (by simpa using h)]
theorem uv_ext : ∀ {k : Nat} {s r z : List UInt8} {n : Nat}, uvGo k s = some (n, r) → uvGo k (s ++ z) = some (n, r ++ z) := by
  intro k
  induction k with
  | zero =>
    intro s r z n h
    cases s with
    | nil => cases h
    | cons b s => simp only [uvGo, List.cons_append] at h ⊢; split at h
                  · cases h; rename_i hb; simp [hb]
                  · cases h
  | succ k ih =>
    intro s r z n h
    cases s with
    | nil => cases h
    | cons b s =>
      simp only [uvGo, List.cons_append] at h ⊢
      split at h
      · rename_i hb; cases h; simp [hb]
      · rename_i hb
        obtain ⟨⟨m, r'⟩, hm, he⟩ := Option.map_eq_some_iff.1 h
        cases he
        rw [if_neg hb, ih hm]
        rfl
structure Good {α : Type} (g : RS → α × RS) : Prop where
  ext : ∀ p z nn, (g ⟨p, false, nn⟩).2.bad = false → g ⟨p ++ z, false, nn⟩ = ((g ⟨p, false, nn⟩).1, ⟨(g ⟨p, false, nn⟩).2.src ++ z, false, (g ⟨p, false, nn⟩).2.nn⟩)
  bad : ∀ rs, rs.bad = true → (g rs).2.bad = true
theorem Good.pure {α : Type} (x : Bool → α) : Good (fun rs => (x rs.nn, rs)) := ⟨fun p z nn _ => rfl, fun rs h => h⟩
theorem Good.bind {α β : Type} {g : RS → α × RS} {h : α → RS → β × RS} (hg : Good g) (hh : ∀ a, Good (h a)) : Good (fun rs => h (g rs).1 (g rs).2) := by
  refine ⟨fun p z nn hb => ?_, fun rs hb => (hh _).bad _ (hg.bad rs hb)⟩
  have h1 : (g ⟨p, false, nn⟩).2.bad = false := by
    cases e : (g ⟨p, false, nn⟩).2.bad
    · rfl
    · have h3 := (hh (g ⟨p, false, nn⟩).1).bad _ e
      have h4 : (h (g ⟨p, false, nn⟩).1 (g ⟨p, false, nn⟩).2).2.bad = false := hb
      rw [h3] at h4; cases h4
  have e := hg.ext p z nn h1
  have hb' : (h (g ⟨p, false, nn⟩).1 (g ⟨p, false, nn⟩).2).2.bad = false := hb
  show h (g ⟨p ++ z, false, nn⟩).1 (g ⟨p ++ z, false, nn⟩).2 = ((h (g ⟨p, false, nn⟩).1 (g ⟨p, false, nn⟩).2).1, ⟨(h (g ⟨p, false, nn⟩).1 (g ⟨p, false, nn⟩).2).2.src ++ z, false, (h (g ⟨p, false, nn⟩).1 (g ⟨p, false, nn⟩).2).2.nn⟩)
  rw [e]
  clear e hb
  generalize g ⟨p, false, nn⟩ = y at *
  obtain ⟨a, q, bd, m⟩ := y
  simp only at h1 hb' ⊢
  subst h1
  exact (hh a).ext q z m hb'
theorem Good.map {α β : Type} {g : RS → α × RS} (hg : Good g) (f : α → Bool → β) : Good (fun rs => (f (g rs).1 (g rs).2.nn, (g rs).2)) :=
  hg.bind (h := fun a rs => (f a rs.nn, rs)) (fun a => Good.pure (f a))
theorem Good.fail {α : Type} (x : α) : Good (fun _ => (x, .fail)) := ⟨fun p z nn h => (by cases h), fun rs _ => rfl⟩
theorem good_fixed (k : Nat) : Good (rdFixed k) := by
  refine ⟨fun p z nn h => ?_, fun rs h => ?_⟩
  · unfold rdFixed at h ⊢
    by_cases hl : p.length < k
    · simp only [if_pos hl] at h; cases h
    · have : ¬ (p ++ z).length < k := by simp; omega
      simp only [if_neg hl, if_neg this]
      rw [List.take_append_of_le_length (by omega), List.drop_append_of_le_length (by omega)]
  · unfold rdFixed; split
    · rfl
    · exact h
theorem good_uv : Good rdUv := by
  refine ⟨fun p z nn h => ?_, fun rs h => ?_⟩
  · unfold rdUv at h ⊢
    cases hu : uv p with
    | none => rw [hu] at h; cases h
    | some x =>
      obtain ⟨n, r⟩ := x
      have := uv_ext (z := z) hu
      simp only [uv] at hu ⊢
      simp only [this, hu]
  · unfold rdUv; split
    · exact h
    · rfl
theorem good_span (l : Int) : Good (rdSpan l) := by
  refine ⟨fun p z nn h => ?_, fun rs h => ?_⟩
  · unfold rdSpan at h ⊢
    by_cases hl : (p.length : Int) < l ∨ l < 0
    · simp only [if_pos hl] at h; cases h
    · have : ¬ (((p ++ z).length : Int) < l ∨ l < 0) := by simp; omega
      simp only [if_neg hl, if_neg this]
      rw [List.take_append_of_le_length (by omega), List.drop_append_of_le_length (by omega)]
  · unfold rdSpan; split
    · rfl
    · exact h
theorem good_cap (n : Int) : Good (capLen n) := by
  refine ⟨fun p z nn h => ?_, fun rs h => ?_⟩
  · unfold capLen at h ⊢
    by_cases hl : (p.length : Int) < n
    · simp only [if_pos hl] at h; cases h
    · have : ¬ ((p ++ z).length : Int) < n := by simp; omega
      simp only [if_neg hl, if_neg this]
  · unfold capLen; split
    · rfl
    · exact h
theorem Good.congr {α : Type} {f g : RS → α × RS} (h : Good f) (e : ∀ rs, g rs = f rs) : Good g := (funext e : g = f) ▸ h
theorem good_opt {g : RS → List UInt8 × RS} (h : Good g) : Good (fun rs => optOf (g rs)) := h.map (fun a nn => if nn then some a else none)
/-- the same of readers that may end early -/
structure GoodO {α : Type} (g : RS → Option (α × RS)) : Prop where
  ext : ∀ p z nn y rs, g ⟨p, false, nn⟩ = some (y, rs) → rs.bad = false → g ⟨p ++ z, false, nn⟩ = some (y, ⟨rs.src ++ z, false, rs.nn⟩)
  bad : ∀ rs y rs', g rs = some (y, rs') → rs.bad = true → rs'.bad = true
theorem Good.toO {α : Type} {g : RS → α × RS} (h : Good g) : GoodO (fun rs => some (g rs)) := by
  refine ⟨fun p z nn y rs e hb => ?_, fun rs y rs' e hb => ?_⟩
  · simp only [Option.some.injEq] at e ⊢
    rw [h.ext p z nn (by rw [e]; exact hb), e]
  · simp only [Option.some.injEq] at e
    have := h.bad rs hb
    rwa [e] at this
theorem GoodO.bind {α β : Type} {g : RS → Option (α × RS)} {h : α → RS → Option (β × RS)} (hg : GoodO g) (hh : ∀ a, GoodO (h a)) : GoodO (fun rs => (g rs).bind fun x => h x.1 x.2) := by
  refine ⟨fun p z nn y rs e hb => ?_, fun rs y rs' e hb => ?_⟩
  · obtain ⟨⟨a, r1⟩, e1, e2⟩ := Option.bind_eq_some_iff.1 e
    have h1 : r1.bad = false := by
      cases hx : r1.bad
      · rfl
      · have := (hh a).bad r1 y rs e2 hx
        rw [this] at hb; cases hb
    have e1' := hg.ext p z nn a r1 e1 h1
    rw [e1']
    obtain ⟨s1, b1, n1⟩ := r1
    simp only at h1
    subst h1
    exact (hh a).ext s1 z n1 y rs e2 hb
  · obtain ⟨⟨a, r1⟩, e1, e2⟩ := Option.bind_eq_some_iff.1 e
    exact (hh a).bad r1 y rs' e2 (hg.bad rs a r1 e1 hb)
theorem GoodO.congr {α : Type} {f g : RS → Option (α × RS)} (h : GoodO f) (e : ∀ rs, g rs = f rs) : GoodO g := (funext e : g = f) ▸ h
theorem GoodO.pure {α : Type} (x : α) : GoodO (fun rs => some (x, rs)) := (Good.pure (fun _ => x)).toO
end Go.Kg

set_option linter.unusedSimpArgs false
set_option linter.unusedVariables false
set_option linter.unusedSectionVars false
namespace Go.Kg
open Go
/-- what a thing may be, to be written and read -/
def Prim.wf : (p : Prim) → p.T → Prop
  | .bool, _ => True
  | .i8, n => -128 ≤ (show Int from n) ∧ (show Int from n) < 128
  | .i16, n => -32768 ≤ (show Int from n) ∧ (show Int from n) < 32768
  | .u16, n => 0 ≤ (show Int from n) ∧ (show Int from n) < 65536
  | .i32, n => -2147483648 ≤ (show Int from n) ∧ (show Int from n) < 2147483648
  | .i64, n => -9223372036854775808 ≤ (show Int from n) ∧ (show Int from n) < 9223372036854775808
  | .uuid, l => (show List UInt8 from l).length = 16
  | .str, l => (show List UInt8 from l).length ≤ 32767
  | .bytes, l => (show List UInt8 from l).length ≤ 32767
  | .nstr, o => ((show Option (List UInt8) from o).getD []).length ≤ 32767
  | .nbytes, o => ((show Option (List UInt8) from o).getD []).length ≤ 32767
def tagsOk (l : TagL) : Prop := l.length ≤ 40000 ∧ (l.map (·.1)).Nodup ∧ ∀ x ∈ l, x.1 < 4294967296 ∧ x.2.length ≤ 32767
theorem rdNum (k : Nat) (n : Int) (r : List UInt8) (bad nn : Bool) : rdFixed k ⟨num k n ++ r, bad, nn⟩ = ((n % (256 ^ k : Nat)).toNat, ⟨r, bad, true⟩) := by
  rw [num, rdFixed_bigE]
  have h0 : (0 : Int) < (256 ^ k : Nat) := by
    have : 0 < 256 ^ k := Nat.pow_pos (by omega)
    omega
  have h1 := Int.emod_lt_of_pos n h0
  have h2 := Int.emod_nonneg n (Int.ne_of_gt h0)
  rw [Nat.mod_eq_of_lt (by omega)]
theorem span_all {l r : List UInt8} {bad nn : Bool} {n : Int} (h : n = l.length) : rdSpan n ⟨l ++ r, bad, nn⟩ = (l, ⟨r, bad, nn⟩) := by
  subst h
  have : ¬ (((l ++ r).length : Int) < l.length ∨ (l.length : Int) < 0) := by simp; omega
  simp only [rdSpan, if_neg this]
  simp
theorem rd_i8 (x : Int) (h : -128 ≤ x ∧ x < 128) (r : List UInt8) (nn : Bool) : (IntKind.i8.wrap (rdFixed 1 ⟨[bval x] ++ r, false, nn⟩).1, (rdFixed 1 ⟨[bval x] ++ r, false, nn⟩).2) = (x, (⟨r, false, true⟩ : RS)) := by
  have e := rdNum 1 x r false nn
  have e2 : num 1 x = [bval x] := by simp [num, bigE, bval]
  rw [e2] at e
  rw [e]
  have : IntKind.i8.wrap ((x % ((256 ^ 1 : Nat) : Int)).toNat : Int) = x := by simp [IntKind.wrap, IntKind.signed, IntKind.bits]; omega
  simp only [this]
end Go.Kg

set_option linter.unusedSimpArgs false
set_option linter.unusedVariables false
set_option linter.unusedSectionVars false
namespace Go.Kg
open Go
def arrWf {α : Type} (nul : Option Nat) (ver : Int) (a : Option (List α)) : Prop := (a.getD []).length ≤ 32767 ∧ ∀ m : Nat, nul = some m → ver < (m : Int) → a ≠ none
def Sch.pos (ver : Int) (fl : Bool) : Sch → Bool
  | .fin => false
  | .tags _ _ => fl
  | .prim g _ _ _ _ _ rest => g.on ver || rest.pos ver fl
  | .arrP g _ _ _ _ _ rest => g.on ver || rest.pos ver fl
  | .arrS g _ _ _ _ _ _ _ _ _ rest => g.on ver || rest.pos ver fl
  | .sub g _ _ _ _ _ _ e rest => (g.on ver && e.pos ver fl) || rest.pos ver fl
  | .opt g _ _ _ _ _ _ _ _ rest => g.on ver || rest.pos ver fl
def Sch.wf (ver : Int) (fl : Bool) : (S : Sch) → S.T → Prop
  | .fin, _ => True
  | .tags _ _, l => fl = true → tagsOk l
  | .prim g _ _ p _ _ rest, (x, r) => (g.on ver = true → p.wf x) ∧ rest.wf ver fl r
  | .arrP g _ _ _ nul p rest, (a, r) => (g.on ver = true → arrWf nul ver a ∧ ∀ x ∈ a.getD [], p.wf x) ∧ rest.wf ver fl r
  | .arrS g _ _ _ nul _ _ _ _ e rest, (a, r) => (g.on ver = true → arrWf nul ver a ∧ ∀ x ∈ a.getD [], e.wf ver fl x) ∧ rest.wf ver fl r
  | .sub g _ _ _ _ _ _ e rest, (x, r) => (g.on ver = true → e.wf ver fl x) ∧ rest.wf ver fl r
  | .opt g _ _ _ _ _ _ _ e rest, (a, r) => (g.on ver = true → ∀ x, a = some x → e.wf ver fl x) ∧ rest.wf ver fl r
end Go.Kg

set_option linter.unusedSimpArgs false
set_option linter.unusedVariables false
set_option linter.unusedSectionVars false
namespace Go.Kg
open Go
end Go.Kg

set_option linter.unusedSimpArgs false
set_option linter.unusedVariables false
set_option linter.unusedSectionVars false
namespace Go.Kg
open Go
end Go.Kg

set_option linter.unusedSimpArgs false
set_option linter.unusedVariables false
set_option linter.unusedSectionVars false
namespace Go.Kg
open Go
end Go.Kg

set_option linter.unusedSimpArgs false
set_option linter.unusedVariables false
set_option linter.unusedSectionVars false
namespace Go.Kg
open Go
end Go.Kg

set_option linter.unusedSimpArgs false
set_option linter.unusedVariables false
namespace Go.Kg
open Go
section
variable {P : Program} {f : Nat → Value} {ty : TypeId} {w : World} {K : Value → World → Prop} {x y : Operand} {xs : Array TypeId} {k : IntKind} {a b : Int}
@[simp] theorem stp_min : stp P f (.call { callee := .builtin .min, args := #[x, y], argTypes := xs }) ty w K = stepF P f (.call { callee := .builtin .min, args := #[x, y], argTypes := xs }) ty w K := (rfl)
@[simp] theorem stp_max : stp P f (.call { callee := .builtin .max, args := #[x, y], argTypes := xs }) ty w K = stepF P f (.call { callee := .builtin .max, args := #[x, y], argTypes := xs }) ty w K := (rfl)
end
@[simp] theorem isB_undef {b : Bool} : isB undef b = false := (rfl)
/-- A field, but for its parts. -/
structure FH where
  kind : Int
  frm : Int
  to : Int
  null : Int
  tag : Int
  dflt : Int
  of_ : Int
def FH.cells (h : FH) : List Value := [.int .i64 h.kind, .int .i64 h.frm, .int .i64 h.to, .int .i64 h.null, .int .i64 h.tag, .int .i64 h.dflt, .int .i64 h.of_]
def FH.has (h : FH) (v : Int) : Bool := decide (h.frm ≤ v) && (decide (h.to < 0) || decide (v ≤ h.to))
def FH.isNull (h : FH) (v : Int) (nul : Bool) : Bool := nul && decide (0 ≤ h.null) && decide (h.null ≤ v)
inductive FS where
  | nil
  | cons (h : FH) (sub rest : FS)
inductive Tr where
  | mk (n : Int) (s : List UInt8) (nul : Bool) (l : List Tr) (u : List (Nat × List UInt8))
def Tr.n : Tr → Int | .mk n _ _ _ _ => n
def Tr.s : Tr → List UInt8 | .mk _ s _ _ _ => s
def Tr.nul : Tr → Bool | .mk _ _ b _ _ => b
def Tr.l : Tr → List Tr | .mk _ _ _ l _ => l
def Tr.u : Tr → List (Nat × List UInt8) | .mk _ _ _ _ u => u
def Tr.none : Tr := .mk 0 [] false [] []
def Tr.at (t : Tr) (i : Nat) : Tr := (t.l[i]?).getD .none
def All : Nat → Prop := fun _ => True
def FsCells (w : World) : List (List Value) → FS → Prop
  | [], .nil => True
  | c :: cs, .cons h sub rest => (∃ sv ls, c = h.cells ++ [sv] ∧ ArrAt w All 8 sv ls ∧ FsCells w (ls.getD []) sub) ∧ FsCells w cs rest
  | _, _ => False
def FsAt (w : World) (v : Value) (F : FS) : Prop := ∃ ls, ArrAt w All 8 v ls ∧ FsCells w (ls.getD []) F
/-- the same, but that a slice without a place may bear any address -/
def ArrE (w : World) (K : Nat → Prop) (sz : Nat) (v : Value) : Option (List (List Value)) → Prop
  | none => ∃ a, v = .slice a 0 0
  | some ls => ArrAt w K sz v (some ls)
theorem ArrAt.toE {w : World} {K : Nat → Prop} {sz : Nat} {v : Value} {ls : Option (List (List Value))} (h : ArrAt w K sz v ls) : ArrE w K sz v ls := by
  cases ls with
  | none => exact ⟨_, h⟩
  | some ls => exact h
theorem ArrE.ext {C K : Nat → Prop} {w w' : World} (he : Ext C w w') (hK : ∀ b, b < w.heap.size → K b → ¬ C b) {sz : Nat} {v : Value} {ls : Option (List (List Value))} (h : ArrE w K sz v ls) : ArrE w' K sz v ls := by
  cases ls with
  | none => exact h
  | some ls => exact ArrAt.ext he hK (show ArrAt w K sz v (some ls) from h)
def UAt (w : World) (v : Value) (u : List (Nat × List UInt8)) : Prop := ∃ ls, ArrE w All 2 v ls ∧ (ls.getD []).length = u.length ∧
  ∀ (i : Nat) c x, (ls.getD [])[i]? = some c → u[i]? = some x → ∃ bv, c = [.int .u32 x.1, bv] ∧ x.1 < 4294967296 ∧ BytesAt w All bv x.2
inductive TreeAt (w : World) : List Value → Tr → Prop where
  | mk {n : Int} {s : List UInt8} {nul : Bool} {l : List Tr} {u : List (Nat × List UInt8)} {sv lv uv : Value} {ls : Option (List (List Value))} (hn : (-9223372036854775808 ≤ n ∧ n < 9223372036854775808) ∧ s.length ≤ 140737488355328)
      (hs : BytesAt w All sv s) (ha : ArrE w All 5 lv ls) (hl : (ls.getD []).length = l.length) (he : ∀ (i : Nat) c t, (ls.getD [])[i]? = some c → l[i]? = some t → TreeAt w c t) (hu : UAt w uv u) :
      TreeAt w [.int .i64 n, sv, .bool nul, lv, uv] (.mk n s nul l u)
theorem FsCells.ext {w w' : World} (he : Ext none1 w w') : ∀ {F : FS} {ls : List (List Value)}, FsCells w ls F → FsCells w' ls F := by
  intro F
  induction F with
  | nil => intro ls h; cases ls with
    | nil => trivial
    | cons c cs => exact h.elim
  | cons h sub rest ihs ihr =>
    intro ls hh
    cases ls with
    | nil => exact hh.elim
    | cons c cs =>
      obtain ⟨⟨sv, l, h1, h2, h3⟩, h4⟩ := hh
      exact ⟨⟨sv, l, h1, h2.ext he (fun _ _ _ h => h), ihs h3⟩, ihr h4⟩
theorem FsAt.ext {w w' : World} (he : Ext none1 w w') {v : Value} {F : FS} (h : FsAt w v F) : FsAt w' v F := by
  obtain ⟨ls, h1, h2⟩ := h; exact ⟨ls, h1.ext he (fun _ _ _ h => h), h2.ext he⟩
theorem UAt.ext {w w' : World} (he : Ext none1 w w') {v : Value} {u : List (Nat × List UInt8)} (h : UAt w v u) : UAt w' v u := by
  obtain ⟨ls, h1, h2, h3⟩ := h
  refine ⟨ls, ArrE.ext he (fun _ _ _ h => h) h1, h2, fun i c x hc hx => ?_⟩
  obtain ⟨bv, a, b, d⟩ := h3 i c x hc hx
  exact ⟨bv, a, b, d.ext he (fun _ _ _ h => h)⟩
theorem TreeAt.ext {w w' : World} (he : Ext none1 w w') {cs : List Value} {t : Tr} (h : TreeAt w cs t) : TreeAt w' cs t := by
  induction h with
  | mk hn hs ha hl _ hu ih => exact .mk hn (hs.ext he (fun _ _ _ h => h)) (ArrE.ext he (fun _ _ _ h => h) ha) hl ih (hu.ext he)
theorem TreeAt.none (w : World) : TreeAt w [.int .i64 0, .slice Option.none 0 0, .bool false, .slice Option.none 0 0, .slice Option.none 0 0] Tr.none :=
  .mk (by simp) (.inl ⟨⟨_, rfl⟩, rfl⟩) (ls := Option.none) ⟨_, rfl⟩ rfl (by simp) ⟨Option.none, ⟨_, rfl⟩, rfl, by simp⟩
/-- What the reference asks of the types. -/
structure TyF (P : Program) (E : Env) : Prop extends TySp P E where
  uBs : P.underlying E.tBs = some (.slice E.tU8)
  kBs : kindOf P E.tBs = .scl
  kInt : kindOf P E.tInt = .scl
  kI64 : kindOf P E.tI64 = .scl
  kB : kindOf P E.tB = .scl
  kU32 : kindOf P E.tU32 = .scl
  kLF : kindOf P E.t_l_spec_Field = .scl
  kLT : kindOf P E.t_l_spec_Tree = .scl
  kLU : kindOf P E.t_l_spec_Tag = .scl
  kF : kindOf P E.t_spec_Field = .agg 8
  kT : kindOf P E.t_spec_Tree = .agg 5
  kU : kindOf P E.t_spec_Tag = .agg 2
  f0 : fldOff P E.t_spec_Field 0 = some 0
  f1 : fldOff P E.t_spec_Field 1 = some 1
  f2 : fldOff P E.t_spec_Field 2 = some 2
  f3 : fldOff P E.t_spec_Field 3 = some 3
  f4 : fldOff P E.t_spec_Field 4 = some 4
  f5 : fldOff P E.t_spec_Field 5 = some 5
  f6 : fldOff P E.t_spec_Field 6 = some 6
  f7 : fldOff P E.t_spec_Field 7 = some 7
  t0 : fldOff P E.t_spec_Tree 0 = some 0
  t1 : fldOff P E.t_spec_Tree 1 = some 1
  t2 : fldOff P E.t_spec_Tree 2 = some 2
  t3 : fldOff P E.t_spec_Tree 3 = some 3
  t4 : fldOff P E.t_spec_Tree 4 = some 4
  u0 : fldOff P E.t_spec_Tag 0 = some 0
  u1 : fldOff P E.t_spec_Tag 1 = some 1
  sF : sliSz P E.t_l_spec_Field = some 8
  sT : sliSz P E.t_l_spec_Tree = some 5
  sU : sliSz P E.t_l_spec_Tag = some 2
  sTr : ∃ fs, P.underlying E.t_spec_Tree = some (.struct fs)
  pT : (places P E.t_spec_Tree).isSome = true
  zF : zeroOf P E.t_spec_Field = some (.agg #[.int .i64 0, .int .i64 0, .int .i64 0, .int .i64 0, .int .i64 0, .int .i64 0, .int .i64 0, .slice Option.none 0 0])
  zT : zeroOf P E.t_spec_Tree = some (.agg #[.int .i64 0, .slice Option.none 0 0, .bool false, .slice Option.none 0 0, .slice Option.none 0 0])
  zU : zeroOf P E.t_spec_Tag = some (.agg #[.int .u32 0, .slice Option.none 0 0])
section
variable {P : Program} {E : Env} (ht : TyF P E)
include ht
end
end Go.Kg

set_option linter.unusedSimpArgs false
set_option linter.unusedVariables false
namespace Go.Kg
open Go
def countedS (flex nul : Bool) (n : Nat) (size : Nat) : List UInt8 :=
  if flex && nul then [0] else if flex then uvS (n + 1) else if nul then fixE size (-1) else fixE size n
/-- the fields of a list, one after another -/
def FS.len : FS → Nat
  | .nil => 0
  | .cons _ _ r => r.len + 1
theorem FsCells.len {w : World} : ∀ {F : FS} {ls : List (List Value)}, FsCells w ls F → ls.length = F.len
  | .nil, [], _ => rfl
  | .cons h sub rest, c :: cs, hh => by simp [FS.len, FsCells.len hh.2]
  | .nil, c :: cs, hh => hh.elim
  | .cons h sub rest, [], hh => hh.elim
/-- the greatest known tag and one -/
def FS.known : FS → Nat
  | .nil => 0
  | .cons h _ r => max (if 0 ≤ h.tag then (h.tag.toNat + 1) % 4294967296 else 0) r.known
section
variable {P : Program} {E : Env} (ht : TyF P E)
include ht
end
end Go.Kg

set_option linter.unusedSimpArgs false
set_option linter.unusedVariables false
namespace Go.Kg
open Go
/-- the fields' heads -/
def FS.heads : FS → List FH
  | .nil => []
  | .cons h _ r => h :: r.heads
def FS.subs : FS → List FS
  | .nil => []
  | .cons _ s r => s :: r.subs
theorem FsCells.get {w : World} : ∀ {F : FS} {ls : List (List Value)} {i : Nat} {c : List Value}, FsCells w ls F → ls[i]? = some c → ∃ h sub sv l, F.heads[i]? = some h ∧ F.subs[i]? = some sub ∧ c = h.cells ++ [sv] ∧ ArrAt w All 8 sv l ∧ FsCells w (l.getD []) sub := by
  intro F
  induction F with
  | nil => intro ls i c hh hc; cases ls with
    | nil => simp at hc
    | cons c cs => exact hh.elim
  | cons h sub rest ihs ihr =>
    intro ls i c hh hc
    cases ls with
    | nil => exact hh.elim
    | cons d cs =>
      obtain ⟨⟨sv, l, h1, h2, h3⟩, h4⟩ := hh
      cases i with
      | zero => simp at hc; subst hc; exact ⟨h, sub, sv, l, rfl, rfl, h1, h2, h3⟩
      | succ i => exact ihr h4 (by simpa using hc)
/-- a number fits 64 bits -/
def fits (n : Int) : Prop := -9223372036854775808 ≤ n ∧ n < 9223372036854775808
def FH.ok (h : FH) : Prop := -1 ≤ h.tag ∧ h.tag < 1000
/-- The known tags, from the left. -/
def knownL (l : List FH) : Nat := l.foldl (fun n h => if 0 ≤ h.tag then max n (h.tag.toNat + 1) else n) 0
theorem cellsFrom_list0 {w : World} {b o : Nat} {cs : List Value} (h : CellsAt w b o cs) : cellsFrom w ⟨b, o, none⟩ 0 cs.length = some cs := by
  have := cellsFrom_list (w := w) cs b o 0 (fun j v hj => by have := h j v hj; rwa [Nat.zero_add])
  exact this
@[simp] theorem FH.cells_len7 (h : FH) : h.cells.length = 7 := rfl
theorem FH.cells_one (h : FH) {sv : Value} (hs : sv.oneCell' = true) : allOne (h.cells ++ [sv]) = true := by
  simp only [FH.cells, List.cons_append, List.nil_append, allOne, hs, Bool.and_true]
  rfl
def zField : Array Value := #[.int .i64 0, .int .i64 0, .int .i64 0, .int .i64 0, .int .i64 0, .int .i64 0, .int .i64 0, .slice none 0 0]
section
variable {P : Program} {E : Env} (ht : TyF P E)
include ht
end
end Go.Kg

set_option linter.unusedSimpArgs false
set_option linter.unusedVariables false
namespace Go.Kg
open Go
def SmInv (va vb : Value) (s t : List UInt8) (w : World) (f : Nat → Value) (w' : World) : Prop :=
  ∃ i, i ≤ s.length ∧ s.take i = t.take i ∧ f 13 = .int .i64 i ∧ f 12 = .int .i64 s.length ∧ f 0 = va ∧ f 1 = vb ∧ Ext none1 w w'
theorem take_eq_succ {s t : List UInt8} {i : Nat} {x : UInt8} (h : s.take i = t.take i) (hs : s[i]? = some x) (ht : t[i]? = some x) : s.take (i + 1) = t.take (i + 1) := by
  rw [List.take_add_one, List.take_add_one, h, hs, ht]
end Go.Kg

set_option linter.unusedSimpArgs false
set_option linter.unusedVariables false
namespace Go.Kg
open Go
/-- A field's head, what is written of its parts, and whether these are as by default. -/
structure FE where
  h : FH
  part : Tr → List UInt8
  usual : Tr → Bool
  known : Nat
/-- value -/
def valS (kind : Int) (part : Tr → List UInt8) (nul : Bool) (flex : Bool) (t : Tr) : List UInt8 :=
  if kind = 0 then [bval (t.n % 2)]
  else if kind = 7 then (t.s ++ List.replicate 16 0).take 16
  else if kind = 8 then countedS flex nul (if nul then [] else t.s.take 32767).length 2 ++ (if nul then [] else t.s.take 32767)
  else if kind = 9 then countedS flex nul (if nul then [] else t.s.take 32767).length 4 ++ (if nul then [] else t.s.take 32767)
  else if kind = 10 then part t
  else fixE (widthS kind) t.n
/-- field -/
def fieldS (x : FE) (ver : Int) (flex : Bool) (t : Tr) : List UInt8 :=
  let nul := x.h.isNull ver t.nul
  if x.h.kind = 11 then
    let l := if nul then [] else t.l.take 32767
    countedS flex nul l.length 4 ++ l.flatMap (valS x.h.of_ x.part false flex)
  else if x.h.kind = 10 ∧ 0 ≤ x.h.null then
    if nul then fixE 1 (-1) else fixE 1 1 ++ x.part t
  else valS x.h.kind x.part nul flex t
/-- usual -/
def usualS (x : FE) (t : Tr) : Bool :=
  if x.h.kind = 0 then t.n % 2 == x.h.dflt
  else if x.h.kind = 7 then (t.s.take 16).all (· == 0)
  else if x.h.kind = 8 ∨ x.h.kind = 9 then (if 0 ≤ x.h.null then t.nul else t.s.isEmpty)
  else if x.h.kind = 11 then t.l.isEmpty
  else if x.h.kind = 10 then x.usual t
  else fixE (widthS x.h.kind) t.n == fixE (widthS x.h.kind) x.h.dflt
/-- a tag goes in by rising keys; the first one of a key counts; none below 'least' -/
def insU {α : Type} (least : Nat) (x : Nat × α) (out : List (Nat × α)) : List (Nat × α) :=
  if x.1 < least then out
  else match out with
    | [] => [x]
    | y :: r => if y.1 < x.1 then y :: insU least x r else if y.1 = x.1 then y :: r else x :: y :: r
def unkS {α : Type} (least : Nat) (u : List (Nat × α)) : List (Nat × α) := (u.take 32767).foldl (fun out x => insU least x out) []
def tagS (k : Nat) (b : List UInt8) : List UInt8 := uvS k ++ uvS b.length ++ b
/-- part, of the fields' own texts -/
def partL (l : List FE) (ver : Int) (flex : Bool) (t : Tr) : List UInt8 :=
  let plain := l.zipIdx.flatMap fun (x, i) => if x.h.tag < 0 ∧ x.h.has ver = true then fieldS x ver flex (t.at i) else []
  if flex then
    let kn := (List.range (knownL (l.map (·.h)))).flatMap fun k => l.zipIdx.flatMap fun (x, i) => if x.h.tag = k ∧ usualS x (t.at i) = false then [(k, fieldS x ver flex (t.at i))] else []
    let un := (unkS (knownL (l.map (·.h))) t.u).map fun x => (x.1, x.2.take 32767)
    plain ++ uvS (kn ++ un).length ++ (kn ++ un).flatMap fun x => tagS x.1 x.2
  else plain
def usualL (l : List FE) (t : Tr) : Bool := (l.zipIdx.all fun (x, i) => usualS x (t.at i)) && (unkS (knownL (l.map (·.h))) t.u).isEmpty
def FS.list (ver : Int) (flex : Bool) : FS → List FE
  | .nil => []
  | .cons h sub rest => ⟨h, partL (sub.list ver flex) ver flex, usualL (sub.list ver flex), knownL ((sub.list ver flex).map (·.h))⟩ :: rest.list ver flex
end Go.Kg

set_option linter.unusedSimpArgs false
set_option linter.unusedVariables false
namespace Go.Kg
open Go
section
variable {P : Program} {E : Env} (ht : TyF P E)
include ht
end
end Go.Kg

set_option linter.unusedSimpArgs false
set_option linter.unusedVariables false
namespace Go.Kg
open Go
def tc (p : Nat × Value) : List Value := [.int .u32 p.1, p.2]
def flatT (os : List (Nat × Value)) : List Value := os.flatMap tc
theorem flatT_cons (q : Nat × Value) (os : List (Nat × Value)) : flatT (q :: os) = Value.int .u32 q.1 :: q.2 :: flatT os := rfl
@[simp] theorem flatT_length : ∀ (os : List (Nat × Value)), (flatT os).length = os.length * 2
  | [] => rfl
  | q :: os => by rw [flatT_cons]; simp [flatT_length os]; omega
end Go.Kg

set_option linter.unusedSimpArgs false
set_option linter.unusedVariables false
namespace Go.Kg
open Go
section
variable {P : Program} {f : Nat → Value} {ty : TypeId} {w : World} {K K' : Value → World → Prop}
theorem optK_mono {α : Type} {x : Option α} {k k' : α → Prop} (h : ∀ a, k a → k' a) (hq : optK x k) : optK x k' := by
  cases x with
  | none => exact hq
  | some a => exact h a hq
theorem putK_mono {p : Addr} {vs : List Value} {k k' : World → Prop} (h : ∀ w, k w → k' w) (hq : putK w p vs k) : putK w p vs k' := by
  unfold putK at *; split
  · rename_i hb; rw [hb] at hq; exact ⟨hq.1, h _ hq.2⟩
  · rename_i hn
    split at hq
    · rename_i hb; exact (hn _ _ hb).elim
    · exact hq
theorem put1K_mono {p : Addr} {v : Value} {k k' : World → Prop} (h : ∀ w, k w → k' w) (hq : put1K w p v k) : put1K w p v k' := by
  unfold put1K at *; split
  · rename_i hb; rw [hb] at hq; exact ⟨hq.1, h _ hq.2⟩
  · rename_i hn
    split at hq
    · rename_i hb; exact (hn _ _ hb).elim
    · exact hq
theorem storeK_mono {T : Nat} {v : Value} {p : Addr} {k k' : World → Prop} (h : ∀ w, k w → k' w) (hq : storeK P w T v p k) : storeK P w T v p k' := by
  unfold storeK at *
  generalize kindOf P T = z at *
  cases z with
  | scl => exact ⟨hq.1, put1K_mono h hq.2⟩
  | bad => exact hq
  | agg n =>
    simp only at hq ⊢
    generalize aggCells? v = y at *
    cases y with
    | none => exact hq
    | some cs => exact ⟨hq.1, putK_mono h hq.2⟩
theorem lenK_mono {T : Nat} {v : Value} (h : ∀ v w, K v w → K' v w) (hq : lenK P T w K v) : lenK P T w K' v := by
  cases v <;> simp only [lenK] at hq ⊢ <;> first | exact ⟨hq.1, optK_mono (fun _ => h _ _) hq.2⟩ | exact optK_mono (fun _ => h _ _) hq
theorem callLenK_mono {xs : List Operand} {ts : List TypeId} (h : ∀ v w, K v w → K' v w) (hq : callLenK P f w K xs ts) : callLenK P f w K' xs ts := by
  unfold callLenK at *
  split
  · exact lenK_mono h hq
  · rename_i hn
    split at hq
    · exact (hn _ _ rfl rfl).elim
    · exact hq
theorem callK_mono {c : Call} (h : ∀ v w, K v w → K' v w) (hq : callK P f c ty w K) : callK P f c ty w K' := by
  unfold callK at *
  cases hc : c.callee with
  | builtin b =>
    rw [hc] at hq
    cases b <;> first | exact callLenK_mono h hq | exact stepF_mono h hq
  | invoke a b => rw [hc] at hq; exact stepF_mono h hq
  | value x =>
    rw [hc] at hq
    cases x with
    | func g => exact Ret.mono hq h
    | const v => exact hq
    | global g => exact hq
    | tmp t =>
      simp only at hq ⊢
      split
      · rename_i hv; rw [hv] at hq; exact Ret.mono hq h
      · rename_i hn
        split at hq
        · rename_i hv; exact (hn _ _ _ hv).elim
        · exact hq
theorem stp_mono {op : Op} (h : ∀ v w, K v w → K' v w) (hq : stp P f op ty w K) : stp P f op ty w K' := by
  cases op <;> simp only [stp] at hq ⊢ <;> first
    | exact h _ _ hq
    | exact optK_mono (fun _ => h _ _) hq
    | exact optK_mono (fun _ => optK_mono (fun _ => h _ _)) hq
    | exact optK_mono (fun _ => storeK_mono (fun _ => h _ _)) hq
    | exact callK_mono h hq
    | exact stepF_mono h hq
    | (split at hq <;> first | exact hq.elim | exact optK_mono (fun _ => h _ _) hq | exact optK_mono (fun _ => optK_mono (fun _ => h _ _)) hq | exact stepF_mono h hq)
theorem regW_mono : ∀ (l : List Ro) {Q Q' : (Nat → Value) → World → Prop} {f : Nat → Value} {w : World}, (∀ f w, Q f w → Q' f w) → regW P Q l f w → regW P Q' l f w := by
  intro l
  induction l with
  | nil => intro Q Q' f w h hq; exact h _ _ hq
  | cons x r ih =>
    intro Q Q' f w h hq
    rw [regW_cons] at hq ⊢
    split
    · rename_i hw; rw [if_pos hw] at hq; exact stp_mono (fun v w hq => ih h hq) hq
    · rename_i hw; rw [if_neg hw] at hq; exact ih h hq
theorem regHW_mono {S : World → Prop} : ∀ (l : List (Bool × Ro)) {Q Q' : (Nat → Value) → World → Prop} {f : Nat → Value} {w : World}, (∀ f w, Q f w → Q' f w) → regHW P S Q l f w → regHW P S Q' l f w := by
  intro l
  induction l with
  | nil => intro Q Q' f w h hq; exact h _ _ hq
  | cons x r ih =>
    obtain ⟨b, x⟩ := x
    intro Q Q' f w h hq
    cases b
    · rw [regHW_false] at hq ⊢
      split
      · rename_i hw; rw [if_pos hw] at hq; exact stp_mono (fun v w hq => ⟨hq.1, ih h hq.2⟩) hq
      · rename_i hw; rw [if_neg hw] at hq; exact ih h hq
    · rw [regHW_true] at hq ⊢
      split
      · rename_i hw; rw [if_pos hw] at hq; exact optK_mono (fun v hq => ⟨hq.1, ih h hq.2⟩) hq
      · rename_i hw; rw [if_neg hw] at hq; exact ih h hq
theorem HT.cw_mono {S : World → Prop} : ∀ (t : HT) {Q Q' : (Nat → Value) → World → Prop} {f : Nat → Value} {w : World}, (∀ f w, Q f w → Q' f w) → t.cw P S Q f w → t.cw P S Q' f w := by
  intro t
  induction t with
  | done => intro Q Q' f w h hq; exact h _ _ hq
  | free o r ih =>
    intro Q Q' f w h hq
    simp only [HT.cw] at hq ⊢
    split
    · rename_i hw; rw [if_pos hw] at hq; exact optK_mono (fun v hq => ⟨hq.1, ih h hq.2⟩) hq
    · rename_i hw; rw [if_neg hw] at hq; exact ih h hq
  | act o r alt ih ih2 =>
    intro Q Q' f w h hq
    simp only [HT.cw] at hq ⊢
    refine ⟨?_, ih2 h hq.2⟩
    have hq := hq.1
    split
    · rename_i hw; rw [if_pos hw] at hq; exact stp_mono (fun v w hq => ⟨hq.1, ih h hq.2⟩) hq
    · rename_i hw; rw [if_neg hw] at hq; exact ih h hq
  | stop => intro Q Q' f w h hq; trivial
theorem Ir.cw_mono : ∀ (c : Ir) {Q Q' : Post} {f : Nat → Value} {w : World}, (∀ e f w, Q e f w → Q' e f w) → c.cw P Q f w → c.cw P Q' f w := by
  intro c
  induction c with
  | reg l => intro Q Q' f w h hq; exact regW_mono l (h _) hq
  | regH l => intro Q Q' f w h ⟨S, h1, h2⟩; exact ⟨S, h1, regHW_mono l (h _) h2⟩
  | regT t => intro Q Q' f w h ⟨S, h1, h2⟩; exact ⟨S, h1, HT.cw_mono t (h _) h2⟩
  | seq a b iha ihb =>
    intro Q Q' f w h hq
    refine iha ?_ hq
    intro e f w; cases e <;> simp only [thenF] <;> first | exact ihb h | exact h _ _ _
  | cond t a b iha ihb =>
    intro Q Q' f w h hq
    rcases hq with ⟨h1, h2⟩ | ⟨h1, h2⟩
    · exact .inl ⟨h1, iha h h2⟩
    · exact .inr ⟨h1, ihb h h2⟩
  | block id b ih =>
    intro Q Q' f w h hq
    refine ih ?_ hq
    intro e f w; cases e <;> simp only [inBlockF] <;> first | exact h _ _ _ | skip
    split
    · exact h _ _ _
    · exact h _ _ _
  | loop b ih =>
    intro Q Q' f w h hq
    obtain ⟨I, μ, h0, hr⟩ := hq
    refine ⟨I, μ, h0, fun f w hI => ih ?_ (hr f w hI)⟩
    intro e f w hq
    cases e <;> first | exact hq | exact h _ _ _ hq
  | exit id => intro Q Q' f w h hq; exact h _ _ _ hq
  | ret => intro Q Q' f w h hq; exact h _ _ _ hq
  | skip => intro Q Q' f w h hq; exact h _ _ _ hq
  | label l => intro Q Q' f w h hq; exact h _ _ _ hq
  | goto l => intro Q Q' f w h hq; exact h _ _ _ hq
  | scope b l rest ihb ihr =>
    intro Q Q' f w h hq
    obtain ⟨J, μ, h0, hr⟩ := hq
    refine ⟨J, μ, ihb ?_ h0, fun f w hJ => ihr ?_ (hr f w hJ)⟩
    · intro e f w hq
      cases e <;> first | exact hq | exact h _ _ _ hq
    · intro e f w hq
      cases e <;> first | exact hq | exact h _ _ _ hq
/-- The ways meet again: what holds there. -/
def meet (R : (Nat → Value) → World → Prop) : Post
  | .normal, f, w => R f w
  | _, _, _ => False
@[simp] theorem meet_normal {R : (Nat → Value) → World → Prop} {f : Nat → Value} {w : World} : meet R .normal f w = R f w := (rfl)
theorem cw_then {a : Ir} {Q : Post} {k : (Nat → Value) → World → Prop} {f : Nat → Value} {w : World} (R : (Nat → Value) → World → Prop) (ha : a.cw P (meet R) f w) (hb : ∀ f w, R f w → k f w) : a.cw P (thenF k Q) f w :=
  Ir.cw_mono a (fun e f w h => by cases e <;> first | exact hb _ _ h | exact h.elim) ha
/-- the same, where the way may also leave -/
def meetOr (R : (Nat → Value) → World → Prop) (Q : Post) : Post
  | .normal, f, w => R f w
  | e, f, w => Q e f w
@[simp] theorem meetOr_normal {R : (Nat → Value) → World → Prop} {Q : Post} {f : Nat → Value} {w : World} : meetOr R Q .normal f w = R f w := (rfl)
@[simp] theorem meetOr_ret {R : (Nat → Value) → World → Prop} {Q : Post} {f : Nat → Value} {w : World} : meetOr R Q .ret f w = Q .ret f w := (rfl)
@[simp] theorem meetOr_exit {R : (Nat → Value) → World → Prop} {Q : Post} {f : Nat → Value} {w : World} {i : Nat} : meetOr R Q (.exit i) f w = Q (.exit i) f w := (rfl)
theorem cw_thenOr {a : Ir} {Q : Post} {k : (Nat → Value) → World → Prop} {f : Nat → Value} {w : World} (R : (Nat → Value) → World → Prop) (ha : a.cw P (meetOr R Q) f w) (hb : ∀ f w, R f w → k f w) : a.cw P (thenF k Q) f w :=
  Ir.cw_mono a (fun e f w h => by cases e <;> first | exact hb _ _ h | exact h) ha
/-- the same, where the way may also leave by one exit -/
def meetX (R X : (Nat → Value) → World → Prop) (id : Nat) : Post
  | .normal, f, w => R f w
  | .exit i, f, w => i = id ∧ X f w
  | _, _, _ => False
@[simp] theorem meetX_normal {R X : (Nat → Value) → World → Prop} {id : Nat} {f : Nat → Value} {w : World} : meetX R X id .normal f w = R f w := (rfl)
@[simp] theorem meetX_exit {R X : (Nat → Value) → World → Prop} {id i : Nat} {f : Nat → Value} {w : World} : meetX R X id (.exit i) f w = (i = id ∧ X f w) := (rfl)
/-- and where it may return -/
def meetR (R X : (Nat → Value) → World → Prop) : Post
  | .normal, f, w => R f w
  | .ret, f, w => X f w
  | _, _, _ => False
@[simp] theorem meetR_normal {R X : (Nat → Value) → World → Prop} {f : Nat → Value} {w : World} : meetR R X .normal f w = R f w := (rfl)
@[simp] theorem meetR_ret {R X : (Nat → Value) → World → Prop} {f : Nat → Value} {w : World} : meetR R X .ret f w = X f w := (rfl)
end
end Go.Kg

set_option linter.unusedSimpArgs false
set_option linter.unusedVariables false
namespace Go.Kg
open Go
structure TyG (P : Program) (E : Env) : Prop extends TyF P E where
  gT : SliI P E.t_l_spec_Tag E.t_spec_Tag 2 32 (.agg #[.int .u32 0, .slice none 0 0])
  uTag : ∃ fs, P.underlying E.t_spec_Tag = some (.struct fs)
  pTag : (places P E.t_spec_Tag).isSome = true
  gTr : SliI P E.t_l_spec_Tree E.t_spec_Tree 5 88 (.agg #[.int .i64 0, .slice none 0 0, .bool false, .slice none 0 0, .slice none 0 0])
section
variable {P : Program} {E : Env} (ht : TyG P E)
include ht
end
end Go.Kg

set_option linter.unusedSimpArgs false
set_option linter.unusedVariables false
set_option linter.unusedSectionVars false
namespace Go.Kg
open Go
/-- An own row of bytes, read. -/
theorem own_bytes {u8 : Nat} {w : World} {base : Nat} {v : Value} {s : List UInt8} (h : OwnB u8 w base v s) : BytesAt w All v s := by
  obtain ⟨n, h1, h2⟩ := h
  have hn : n = s.length := by simpa using h1.symm
  subst hn
  rcases h2 with ⟨rfl, h0⟩ | ⟨g, cap, cur, rfl, hb, hg, hnc, hcm, hcs, htake⟩
  · exact .inl ⟨⟨_, rfl⟩, List.eq_nil_of_length_eq_zero h0⟩
  · refine .inr ⟨g, 0, cap, rfl, hnc, fun _ => trivial, fun i x hx => ?_⟩
    rw [cell_of_blk hg, Nat.zero_add]
    have : (cur.toList.take (s.length * 1))[i]? = some (.int .u8 x.toNat) := by rw [htake]; simp [cellsOf, hx]
    rw [List.getElem?_take] at this
    split at this
    · simpa using this
    · cases this
section
variable {P : Program} {E : Env} (ht : TyF P E)
include ht
end
end Go.Kg

set_option linter.unusedSimpArgs false
set_option linter.unusedVariables false
namespace Go.Kg
open Go
def SameC (P : Program) (E : Env) : Prop := ∀ w K K' va vb s t, BytesAt w K va s → BytesAt w K' vb t → s.length ≤ 1099511627776 → Ret P E.f_spec_Same #[va, vb] w fun r w' => r = .bool (s == t) ∧ Ext none1 w w'
section
variable {P : Program} {E : Env} (ht : TyG P E)
include ht
end
end Go.Kg

set_option linter.unusedSimpArgs false
set_option linter.unusedVariables false
namespace Go.Kg
open Go
section
variable {P : Program} {E : Env} (ht : TyG P E)
include ht
end
end Go.Kg

set_option linter.unusedSimpArgs false
set_option linter.unusedVariables false
namespace Go.Kg
open Go
theorem own_bytesK {u8 : Nat} {w : World} {base : Nat} {v : Value} {s : List UInt8} (h : OwnB u8 w base v s) : BytesAt w (fun b => base ≤ b ∧ b < w.heap.size) v s := by
  have hb := fun b hb => Own.below h (b := b) hb
  rcases own_bytes h with h | ⟨b, o, c, rfl, h2, _, h3⟩
  · exact .inl h
  · exact .inr ⟨b, o, c, rfl, h2, fun _ => hb b rfl, h3⟩
section
variable {P : Program} {E : Env} (ht : TyG P E)
include ht
end
end Go.Kg

set_option linter.unusedSimpArgs false
set_option linter.unusedVariables false
namespace Go.Kg
open Go
def FS.okAll : FS → Prop
  | .nil => True
  | .cons h sub rest => FH.ok h ∧ fits h.dflt ∧ sub.len ≤ 1000 ∧ sub.okAll ∧ rest.okAll
theorem FS.okAll.heads : ∀ {F : FS}, F.okAll → ∀ g ∈ F.heads, FH.ok g
  | .nil, _, g, hg => by cases hg
  | .cons h sub rest, ho, g, hg => by
    rcases List.mem_cons.1 hg with rfl | hg
    · exact ho.1
    · exact FS.okAll.heads ho.2.2.2.2 g hg
/-- The functions of package spec that write. -/
structure SpecFns (P : Program) (E : Env) : Prop where
  Fixed : FnIs P E.f_spec_Fixed nt_spec_Fixed (rs_spec_Fixed E) (ir_spec_Fixed E)
  width : FnIs P E.f_spec_width nt_spec_width (rs_spec_width E) (ir_spec_width E)
  Uvarint : FnIs P E.f_spec_Uvarint nt_spec_Uvarint (rs_spec_Uvarint E) (ir_spec_Uvarint E)
  has : FnIs P E.f_spec_Field_has nt_spec_Field_has (rs_spec_Field_has E) (ir_spec_Field_has E)
  null : FnIs P E.f_spec_Field_null nt_spec_Field_null (rs_spec_Field_null E) (ir_spec_Field_null E)
  whole : FnIs P E.f_spec_whole nt_spec_whole (rs_spec_whole E) (ir_spec_whole E)
  things : FnIs P E.f_spec_things nt_spec_things (rs_spec_things E) (ir_spec_things E)
  counted : FnIs P E.f_spec_counted nt_spec_counted (rs_spec_counted E) (ir_spec_counted E)
  at_ : FnIs P E.f_spec_at nt_spec_at (rs_spec_at E) (ir_spec_at E)
  known : FnIs P E.f_spec_known nt_spec_known (rs_spec_known E) (ir_spec_known E)
  unknown : FnIs P E.f_spec_unknown nt_spec_unknown (rs_spec_unknown E) (ir_spec_unknown E)
  Same : FnIs P E.f_spec_Same nt_spec_Same (rs_spec_Same E) (ir_spec_Same E)
  value : FnIs P E.f_spec_value nt_spec_value (rs_spec_value E) (ir_spec_value E)
  field : FnIs P E.f_spec_field nt_spec_field (rs_spec_field E) (ir_spec_field E)
  usual : FnIs P E.f_spec_usual nt_spec_usual (rs_spec_usual E) (ir_spec_usual E)
  part : FnIs P E.f_spec_part nt_spec_part (rs_spec_part E) (ir_spec_part E)
  Write : FnIs P E.f_spec_Write nt_spec_Write (rs_spec_Write E) (ir_spec_Write E)
section
variable {P : Program} {E : Env} (ht : TyG P E) (hs : SpecFns P E)
include ht hs
end
/-- What a message's type is in memory. -/
structure TyM (P : Program) (E : Env) : Prop extends TyG P E where
  m0 : fldOff P E.t_spec_Message 0 = some 0
  m1 : fldOff P E.t_spec_Message 1 = some 1
section
variable {P : Program} {E : Env} (ht : TyM P E) (hs : SpecFns P E)
include ht hs
end
end Go.Kg

set_option linter.unusedSimpArgs false
set_option linter.unusedVariables false
namespace Go.Kg
open Go
theorem uvS_uvE : ∀ (j n : Nat), n < 128 ^ (j + 1) → uvS n = uvE j n
  | 0, n, h => by rw [uvS_eq, if_neg (by omega)]; rfl
  | j + 1, n, h => by
    rw [uvS_eq]
    unfold uvE
    by_cases hn : n < 128
    · rw [if_neg (by omega), if_pos hn]
    · rw [if_pos (by omega), if_neg hn, uvS_uvE j (n / 128) (by rw [Nat.pow_succ] at h; exact Nat.div_lt_of_lt_mul (by omega))]
theorem uvS_out {n : Nat} (h : n < 4294967296) : uvS n = uvOut (n % 4294967296) := by
  rw [Nat.mod_eq_of_lt h]; exact uvS_uvE 4 n (by omega)
/-- the tags of a tree have numbers of 32 bits -/
inductive Tr.Ok : Tr → Prop where
  | mk {n : Int} {s : List UInt8} {nul : Bool} {l : List Tr} {u : List (Nat × List UInt8)} (hu : ∀ x ∈ u, x.1 < 4294967296) (hl : ∀ t ∈ l, Tr.Ok t) : Tr.Ok (.mk n s nul l u)
theorem Tr.Ok.l {t : Tr} (h : t.Ok) : ∀ x ∈ t.l, x.Ok := by cases h with | mk _ hl => exact hl
theorem Tr.Ok.u {t : Tr} (h : t.Ok) : ∀ x ∈ t.u, x.1 < 4294967296 := by cases h with | mk hu _ => exact hu
theorem Tr.Ok.none : Tr.none.Ok := .mk (by simp) (by simp)
theorem Tr.Ok.at {t : Tr} (h : t.Ok) (i : Nat) : (t.at i).Ok := by
  unfold Tr.at
  cases hi : t.l[i]? with
  | none => exact Tr.Ok.none
  | some x => exact h.l x (List.mem_of_getElem? hi)
theorem TreeAt.ok {w : World} : ∀ {t : Tr} {cs : List Value}, TreeAt w cs t → t.Ok := by
  intro t cs h
  induction h with
  | mk hn hs ha hl he hu ih =>
    rename_i n s nul l u sv lv uv ls
    refine .mk ?_ ?_
    · obtain ⟨ls', _, hlen, hx⟩ := hu
      intro x hxm
      obtain ⟨i, hi⟩ := List.getElem?_of_mem hxm
      have hlt := (List.getElem?_eq_some_iff.1 hi).1
      obtain ⟨c, hc⟩ : ∃ c, (ls'.getD [])[i]? = some c := ⟨_, List.getElem?_eq_getElem (by omega)⟩
      exact (hx i c x hc hi).choose_spec.2.1
    · intro x hxm
      obtain ⟨i, hi⟩ := List.getElem?_of_mem hxm
      have hlt := (List.getElem?_eq_some_iff.1 hi).1
      obtain ⟨c, hc⟩ : ∃ c, (ls.getD [])[i]? = some c := ⟨_, List.getElem?_eq_getElem (by omega)⟩
      exact ih i c x hc hi
end Go.Kg

set_option linter.unusedSimpArgs false
set_option linter.unusedVariables false
namespace Go.Kg
open Go
theorem b8_key : ∀ m, m < 256 → (m < 1 ∧ b8 m = 0) ∨ (1 ≤ m ∧ m < 2 ∧ b8 m = 1) ∨ (2 ≤ m ∧ m < 4 ∧ b8 m = 2) ∨ (4 ≤ m ∧ m < 8 ∧ b8 m = 3) ∨ (8 ≤ m ∧ m < 16 ∧ b8 m = 4) ∨ (16 ≤ m ∧ m < 32 ∧ b8 m = 5) ∨
    (32 ≤ m ∧ m < 64 ∧ b8 m = 6) ∨ (64 ≤ m ∧ m < 128 ∧ b8 m = 7) ∨ (128 ≤ m ∧ b8 m = 8) := by
  intro m hm
  unfold b8
  repeat' split
  all_goals omega
def len64 (n : Nat) : Nat := if n < 256 then b8 n else if n < 65536 then 8 + b8 (n / 256) else if n < 16777216 then 16 + b8 (n / 65536) else if n < 4294967296 then 24 + b8 (n / 16777216) else if n < 1099511627776 then 32 + b8 (n / 4294967296) else if n < 281474976710656 then 40 + b8 (n / 1099511627776) else if n < 72057594037927936 then 48 + b8 (n / 281474976710656) else 56 + b8 (n / 72057594037927936)
def uvl64 (n : Nat) : Nat := if n < 128 then 1 else if n < 16384 then 2 else if n < 2097152 then 3 else if n < 268435456 then 4 else if n < 34359738368 then 5 else if n < 4398046511104 then 6 else if n < 562949953421312 then 7 else if n < 72057594037927936 then 8 else if n < 9223372036854775808 then 9 else 10
def uvT (i : Nat) : Nat := if i < 8 then 1 else if i < 15 then 2 else if i < 22 then 3 else if i < 29 then 4 else if i < 36 then 5 else if i < 43 then 6 else if i < 50 then 7 else if i < 57 then 8 else if i < 64 then 9 else 10
theorem tabU_at64 : ∀ i : Fin 65, tabU[i.val]? = some (UInt8.ofNat (uvT i.val)) := by decide +kernel
theorem len64_uvl (n : Nat) (hn : n < 18446744073709551616) : len64 n < 65 ∧ uvl64 n = uvT (len64 n) := by
  have hu : ∀ k l, uvl64 n = k → len64 n = l → l < 65 → uvT l = k → len64 n < 65 ∧ uvl64 n = uvT (len64 n) := by
    intro k l h1 h2 h3 h4
    rw [h2, h1, h4]; exact ⟨h3, rfl⟩
  by_cases h0 : n < 256
  · have hl : len64 n = b8 n := by
      unfold len64
      rw [if_pos h0]
    rcases b8_key n (by omega) with h | h | h | h | h | h | h | h | h
    · exact hu 1 0 (by unfold uvl64; rw [if_pos (show n < 128 by omega)]) (by rw [hl]; omega) (by decide) (by decide)
    · exact hu 1 1 (by unfold uvl64; rw [if_pos (show n < 128 by omega)]) (by rw [hl]; omega) (by decide) (by decide)
    · exact hu 1 2 (by unfold uvl64; rw [if_pos (show n < 128 by omega)]) (by rw [hl]; omega) (by decide) (by decide)
    · exact hu 1 3 (by unfold uvl64; rw [if_pos (show n < 128 by omega)]) (by rw [hl]; omega) (by decide) (by decide)
    · exact hu 1 4 (by unfold uvl64; rw [if_pos (show n < 128 by omega)]) (by rw [hl]; omega) (by decide) (by decide)
    · exact hu 1 5 (by unfold uvl64; rw [if_pos (show n < 128 by omega)]) (by rw [hl]; omega) (by decide) (by decide)
    · exact hu 1 6 (by unfold uvl64; rw [if_pos (show n < 128 by omega)]) (by rw [hl]; omega) (by decide) (by decide)
    · exact hu 1 7 (by unfold uvl64; rw [if_pos (show n < 128 by omega)]) (by rw [hl]; omega) (by decide) (by decide)
    · exact hu 2 8 (by unfold uvl64; rw [if_neg (show ¬ n < 128 by omega), if_pos (show n < 16384 by omega)]) (by rw [hl]; omega) (by decide) (by decide)
  by_cases h1 : n < 65536
  · have hl : len64 n = 8 + b8 (n / 256) := by
      unfold len64
      rw [if_neg h0, if_pos h1]
    rcases b8_key (n / 256) (by omega) with h | h | h | h | h | h | h | h | h
    · exfalso; omega
    · exact hu 2 9 (by unfold uvl64; rw [if_neg (show ¬ n < 128 by omega), if_pos (show n < 16384 by omega)]) (by rw [hl]; omega) (by decide) (by decide)
    · exact hu 2 10 (by unfold uvl64; rw [if_neg (show ¬ n < 128 by omega), if_pos (show n < 16384 by omega)]) (by rw [hl]; omega) (by decide) (by decide)
    · exact hu 2 11 (by unfold uvl64; rw [if_neg (show ¬ n < 128 by omega), if_pos (show n < 16384 by omega)]) (by rw [hl]; omega) (by decide) (by decide)
    · exact hu 2 12 (by unfold uvl64; rw [if_neg (show ¬ n < 128 by omega), if_pos (show n < 16384 by omega)]) (by rw [hl]; omega) (by decide) (by decide)
    · exact hu 2 13 (by unfold uvl64; rw [if_neg (show ¬ n < 128 by omega), if_pos (show n < 16384 by omega)]) (by rw [hl]; omega) (by decide) (by decide)
    · exact hu 2 14 (by unfold uvl64; rw [if_neg (show ¬ n < 128 by omega), if_pos (show n < 16384 by omega)]) (by rw [hl]; omega) (by decide) (by decide)
    · exact hu 3 15 (by unfold uvl64; rw [if_neg (show ¬ n < 128 by omega), if_neg (show ¬ n < 16384 by omega), if_pos (show n < 2097152 by omega)]) (by rw [hl]; omega) (by decide) (by decide)
    · exact hu 3 16 (by unfold uvl64; rw [if_neg (show ¬ n < 128 by omega), if_neg (show ¬ n < 16384 by omega), if_pos (show n < 2097152 by omega)]) (by rw [hl]; omega) (by decide) (by decide)
  by_cases h2 : n < 16777216
  · have hl : len64 n = 16 + b8 (n / 65536) := by
      unfold len64
      rw [if_neg h0, if_neg h1, if_pos h2]
    rcases b8_key (n / 65536) (by omega) with h | h | h | h | h | h | h | h | h
    · exfalso; omega
    · exact hu 3 17 (by unfold uvl64; rw [if_neg (show ¬ n < 128 by omega), if_neg (show ¬ n < 16384 by omega), if_pos (show n < 2097152 by omega)]) (by rw [hl]; omega) (by decide) (by decide)
    · exact hu 3 18 (by unfold uvl64; rw [if_neg (show ¬ n < 128 by omega), if_neg (show ¬ n < 16384 by omega), if_pos (show n < 2097152 by omega)]) (by rw [hl]; omega) (by decide) (by decide)
    · exact hu 3 19 (by unfold uvl64; rw [if_neg (show ¬ n < 128 by omega), if_neg (show ¬ n < 16384 by omega), if_pos (show n < 2097152 by omega)]) (by rw [hl]; omega) (by decide) (by decide)
    · exact hu 3 20 (by unfold uvl64; rw [if_neg (show ¬ n < 128 by omega), if_neg (show ¬ n < 16384 by omega), if_pos (show n < 2097152 by omega)]) (by rw [hl]; omega) (by decide) (by decide)
    · exact hu 3 21 (by unfold uvl64; rw [if_neg (show ¬ n < 128 by omega), if_neg (show ¬ n < 16384 by omega), if_pos (show n < 2097152 by omega)]) (by rw [hl]; omega) (by decide) (by decide)
    · exact hu 4 22 (by unfold uvl64; rw [if_neg (show ¬ n < 128 by omega), if_neg (show ¬ n < 16384 by omega), if_neg (show ¬ n < 2097152 by omega), if_pos (show n < 268435456 by omega)]) (by rw [hl]; omega) (by decide) (by decide)
    · exact hu 4 23 (by unfold uvl64; rw [if_neg (show ¬ n < 128 by omega), if_neg (show ¬ n < 16384 by omega), if_neg (show ¬ n < 2097152 by omega), if_pos (show n < 268435456 by omega)]) (by rw [hl]; omega) (by decide) (by decide)
    · exact hu 4 24 (by unfold uvl64; rw [if_neg (show ¬ n < 128 by omega), if_neg (show ¬ n < 16384 by omega), if_neg (show ¬ n < 2097152 by omega), if_pos (show n < 268435456 by omega)]) (by rw [hl]; omega) (by decide) (by decide)
  by_cases h3 : n < 4294967296
  · have hl : len64 n = 24 + b8 (n / 16777216) := by
      unfold len64
      rw [if_neg h0, if_neg h1, if_neg h2, if_pos h3]
    rcases b8_key (n / 16777216) (by omega) with h | h | h | h | h | h | h | h | h
    · exfalso; omega
    · exact hu 4 25 (by unfold uvl64; rw [if_neg (show ¬ n < 128 by omega), if_neg (show ¬ n < 16384 by omega), if_neg (show ¬ n < 2097152 by omega), if_pos (show n < 268435456 by omega)]) (by rw [hl]; omega) (by decide) (by decide)
    · exact hu 4 26 (by unfold uvl64; rw [if_neg (show ¬ n < 128 by omega), if_neg (show ¬ n < 16384 by omega), if_neg (show ¬ n < 2097152 by omega), if_pos (show n < 268435456 by omega)]) (by rw [hl]; omega) (by decide) (by decide)
    · exact hu 4 27 (by unfold uvl64; rw [if_neg (show ¬ n < 128 by omega), if_neg (show ¬ n < 16384 by omega), if_neg (show ¬ n < 2097152 by omega), if_pos (show n < 268435456 by omega)]) (by rw [hl]; omega) (by decide) (by decide)
    · exact hu 4 28 (by unfold uvl64; rw [if_neg (show ¬ n < 128 by omega), if_neg (show ¬ n < 16384 by omega), if_neg (show ¬ n < 2097152 by omega), if_pos (show n < 268435456 by omega)]) (by rw [hl]; omega) (by decide) (by decide)
    · exact hu 5 29 (by unfold uvl64; rw [if_neg (show ¬ n < 128 by omega), if_neg (show ¬ n < 16384 by omega), if_neg (show ¬ n < 2097152 by omega), if_neg (show ¬ n < 268435456 by omega), if_pos (show n < 34359738368 by omega)]) (by rw [hl]; omega) (by decide) (by decide)
    · exact hu 5 30 (by unfold uvl64; rw [if_neg (show ¬ n < 128 by omega), if_neg (show ¬ n < 16384 by omega), if_neg (show ¬ n < 2097152 by omega), if_neg (show ¬ n < 268435456 by omega), if_pos (show n < 34359738368 by omega)]) (by rw [hl]; omega) (by decide) (by decide)
    · exact hu 5 31 (by unfold uvl64; rw [if_neg (show ¬ n < 128 by omega), if_neg (show ¬ n < 16384 by omega), if_neg (show ¬ n < 2097152 by omega), if_neg (show ¬ n < 268435456 by omega), if_pos (show n < 34359738368 by omega)]) (by rw [hl]; omega) (by decide) (by decide)
    · exact hu 5 32 (by unfold uvl64; rw [if_neg (show ¬ n < 128 by omega), if_neg (show ¬ n < 16384 by omega), if_neg (show ¬ n < 2097152 by omega), if_neg (show ¬ n < 268435456 by omega), if_pos (show n < 34359738368 by omega)]) (by rw [hl]; omega) (by decide) (by decide)
  by_cases h4 : n < 1099511627776
  · have hl : len64 n = 32 + b8 (n / 4294967296) := by
      unfold len64
      rw [if_neg h0, if_neg h1, if_neg h2, if_neg h3, if_pos h4]
    rcases b8_key (n / 4294967296) (by omega) with h | h | h | h | h | h | h | h | h
    · exfalso; omega
    · exact hu 5 33 (by unfold uvl64; rw [if_neg (show ¬ n < 128 by omega), if_neg (show ¬ n < 16384 by omega), if_neg (show ¬ n < 2097152 by omega), if_neg (show ¬ n < 268435456 by omega), if_pos (show n < 34359738368 by omega)]) (by rw [hl]; omega) (by decide) (by decide)
    · exact hu 5 34 (by unfold uvl64; rw [if_neg (show ¬ n < 128 by omega), if_neg (show ¬ n < 16384 by omega), if_neg (show ¬ n < 2097152 by omega), if_neg (show ¬ n < 268435456 by omega), if_pos (show n < 34359738368 by omega)]) (by rw [hl]; omega) (by decide) (by decide)
    · exact hu 5 35 (by unfold uvl64; rw [if_neg (show ¬ n < 128 by omega), if_neg (show ¬ n < 16384 by omega), if_neg (show ¬ n < 2097152 by omega), if_neg (show ¬ n < 268435456 by omega), if_pos (show n < 34359738368 by omega)]) (by rw [hl]; omega) (by decide) (by decide)
    · exact hu 6 36 (by unfold uvl64; rw [if_neg (show ¬ n < 128 by omega), if_neg (show ¬ n < 16384 by omega), if_neg (show ¬ n < 2097152 by omega), if_neg (show ¬ n < 268435456 by omega), if_neg (show ¬ n < 34359738368 by omega), if_pos (show n < 4398046511104 by omega)]) (by rw [hl]; omega) (by decide) (by decide)
    · exact hu 6 37 (by unfold uvl64; rw [if_neg (show ¬ n < 128 by omega), if_neg (show ¬ n < 16384 by omega), if_neg (show ¬ n < 2097152 by omega), if_neg (show ¬ n < 268435456 by omega), if_neg (show ¬ n < 34359738368 by omega), if_pos (show n < 4398046511104 by omega)]) (by rw [hl]; omega) (by decide) (by decide)
    · exact hu 6 38 (by unfold uvl64; rw [if_neg (show ¬ n < 128 by omega), if_neg (show ¬ n < 16384 by omega), if_neg (show ¬ n < 2097152 by omega), if_neg (show ¬ n < 268435456 by omega), if_neg (show ¬ n < 34359738368 by omega), if_pos (show n < 4398046511104 by omega)]) (by rw [hl]; omega) (by decide) (by decide)
    · exact hu 6 39 (by unfold uvl64; rw [if_neg (show ¬ n < 128 by omega), if_neg (show ¬ n < 16384 by omega), if_neg (show ¬ n < 2097152 by omega), if_neg (show ¬ n < 268435456 by omega), if_neg (show ¬ n < 34359738368 by omega), if_pos (show n < 4398046511104 by omega)]) (by rw [hl]; omega) (by decide) (by decide)
    · exact hu 6 40 (by unfold uvl64; rw [if_neg (show ¬ n < 128 by omega), if_neg (show ¬ n < 16384 by omega), if_neg (show ¬ n < 2097152 by omega), if_neg (show ¬ n < 268435456 by omega), if_neg (show ¬ n < 34359738368 by omega), if_pos (show n < 4398046511104 by omega)]) (by rw [hl]; omega) (by decide) (by decide)
  by_cases h5 : n < 281474976710656
  · have hl : len64 n = 40 + b8 (n / 1099511627776) := by
      unfold len64
      rw [if_neg h0, if_neg h1, if_neg h2, if_neg h3, if_neg h4, if_pos h5]
    rcases b8_key (n / 1099511627776) (by omega) with h | h | h | h | h | h | h | h | h
    · exfalso; omega
    · exact hu 6 41 (by unfold uvl64; rw [if_neg (show ¬ n < 128 by omega), if_neg (show ¬ n < 16384 by omega), if_neg (show ¬ n < 2097152 by omega), if_neg (show ¬ n < 268435456 by omega), if_neg (show ¬ n < 34359738368 by omega), if_pos (show n < 4398046511104 by omega)]) (by rw [hl]; omega) (by decide) (by decide)
    · exact hu 6 42 (by unfold uvl64; rw [if_neg (show ¬ n < 128 by omega), if_neg (show ¬ n < 16384 by omega), if_neg (show ¬ n < 2097152 by omega), if_neg (show ¬ n < 268435456 by omega), if_neg (show ¬ n < 34359738368 by omega), if_pos (show n < 4398046511104 by omega)]) (by rw [hl]; omega) (by decide) (by decide)
    · exact hu 7 43 (by unfold uvl64; rw [if_neg (show ¬ n < 128 by omega), if_neg (show ¬ n < 16384 by omega), if_neg (show ¬ n < 2097152 by omega), if_neg (show ¬ n < 268435456 by omega), if_neg (show ¬ n < 34359738368 by omega), if_neg (show ¬ n < 4398046511104 by omega), if_pos (show n < 562949953421312 by omega)]) (by rw [hl]; omega) (by decide) (by decide)
    · exact hu 7 44 (by unfold uvl64; rw [if_neg (show ¬ n < 128 by omega), if_neg (show ¬ n < 16384 by omega), if_neg (show ¬ n < 2097152 by omega), if_neg (show ¬ n < 268435456 by omega), if_neg (show ¬ n < 34359738368 by omega), if_neg (show ¬ n < 4398046511104 by omega), if_pos (show n < 562949953421312 by omega)]) (by rw [hl]; omega) (by decide) (by decide)
    · exact hu 7 45 (by unfold uvl64; rw [if_neg (show ¬ n < 128 by omega), if_neg (show ¬ n < 16384 by omega), if_neg (show ¬ n < 2097152 by omega), if_neg (show ¬ n < 268435456 by omega), if_neg (show ¬ n < 34359738368 by omega), if_neg (show ¬ n < 4398046511104 by omega), if_pos (show n < 562949953421312 by omega)]) (by rw [hl]; omega) (by decide) (by decide)
    · exact hu 7 46 (by unfold uvl64; rw [if_neg (show ¬ n < 128 by omega), if_neg (show ¬ n < 16384 by omega), if_neg (show ¬ n < 2097152 by omega), if_neg (show ¬ n < 268435456 by omega), if_neg (show ¬ n < 34359738368 by omega), if_neg (show ¬ n < 4398046511104 by omega), if_pos (show n < 562949953421312 by omega)]) (by rw [hl]; omega) (by decide) (by decide)
    · exact hu 7 47 (by unfold uvl64; rw [if_neg (show ¬ n < 128 by omega), if_neg (show ¬ n < 16384 by omega), if_neg (show ¬ n < 2097152 by omega), if_neg (show ¬ n < 268435456 by omega), if_neg (show ¬ n < 34359738368 by omega), if_neg (show ¬ n < 4398046511104 by omega), if_pos (show n < 562949953421312 by omega)]) (by rw [hl]; omega) (by decide) (by decide)
    · exact hu 7 48 (by unfold uvl64; rw [if_neg (show ¬ n < 128 by omega), if_neg (show ¬ n < 16384 by omega), if_neg (show ¬ n < 2097152 by omega), if_neg (show ¬ n < 268435456 by omega), if_neg (show ¬ n < 34359738368 by omega), if_neg (show ¬ n < 4398046511104 by omega), if_pos (show n < 562949953421312 by omega)]) (by rw [hl]; omega) (by decide) (by decide)
  by_cases h6 : n < 72057594037927936
  · have hl : len64 n = 48 + b8 (n / 281474976710656) := by
      unfold len64
      rw [if_neg h0, if_neg h1, if_neg h2, if_neg h3, if_neg h4, if_neg h5, if_pos h6]
    rcases b8_key (n / 281474976710656) (by omega) with h | h | h | h | h | h | h | h | h
    · exfalso; omega
    · exact hu 7 49 (by unfold uvl64; rw [if_neg (show ¬ n < 128 by omega), if_neg (show ¬ n < 16384 by omega), if_neg (show ¬ n < 2097152 by omega), if_neg (show ¬ n < 268435456 by omega), if_neg (show ¬ n < 34359738368 by omega), if_neg (show ¬ n < 4398046511104 by omega), if_pos (show n < 562949953421312 by omega)]) (by rw [hl]; omega) (by decide) (by decide)
    · exact hu 8 50 (by unfold uvl64; rw [if_neg (show ¬ n < 128 by omega), if_neg (show ¬ n < 16384 by omega), if_neg (show ¬ n < 2097152 by omega), if_neg (show ¬ n < 268435456 by omega), if_neg (show ¬ n < 34359738368 by omega), if_neg (show ¬ n < 4398046511104 by omega), if_neg (show ¬ n < 562949953421312 by omega), if_pos (show n < 72057594037927936 by omega)]) (by rw [hl]; omega) (by decide) (by decide)
    · exact hu 8 51 (by unfold uvl64; rw [if_neg (show ¬ n < 128 by omega), if_neg (show ¬ n < 16384 by omega), if_neg (show ¬ n < 2097152 by omega), if_neg (show ¬ n < 268435456 by omega), if_neg (show ¬ n < 34359738368 by omega), if_neg (show ¬ n < 4398046511104 by omega), if_neg (show ¬ n < 562949953421312 by omega), if_pos (show n < 72057594037927936 by omega)]) (by rw [hl]; omega) (by decide) (by decide)
    · exact hu 8 52 (by unfold uvl64; rw [if_neg (show ¬ n < 128 by omega), if_neg (show ¬ n < 16384 by omega), if_neg (show ¬ n < 2097152 by omega), if_neg (show ¬ n < 268435456 by omega), if_neg (show ¬ n < 34359738368 by omega), if_neg (show ¬ n < 4398046511104 by omega), if_neg (show ¬ n < 562949953421312 by omega), if_pos (show n < 72057594037927936 by omega)]) (by rw [hl]; omega) (by decide) (by decide)
    · exact hu 8 53 (by unfold uvl64; rw [if_neg (show ¬ n < 128 by omega), if_neg (show ¬ n < 16384 by omega), if_neg (show ¬ n < 2097152 by omega), if_neg (show ¬ n < 268435456 by omega), if_neg (show ¬ n < 34359738368 by omega), if_neg (show ¬ n < 4398046511104 by omega), if_neg (show ¬ n < 562949953421312 by omega), if_pos (show n < 72057594037927936 by omega)]) (by rw [hl]; omega) (by decide) (by decide)
    · exact hu 8 54 (by unfold uvl64; rw [if_neg (show ¬ n < 128 by omega), if_neg (show ¬ n < 16384 by omega), if_neg (show ¬ n < 2097152 by omega), if_neg (show ¬ n < 268435456 by omega), if_neg (show ¬ n < 34359738368 by omega), if_neg (show ¬ n < 4398046511104 by omega), if_neg (show ¬ n < 562949953421312 by omega), if_pos (show n < 72057594037927936 by omega)]) (by rw [hl]; omega) (by decide) (by decide)
    · exact hu 8 55 (by unfold uvl64; rw [if_neg (show ¬ n < 128 by omega), if_neg (show ¬ n < 16384 by omega), if_neg (show ¬ n < 2097152 by omega), if_neg (show ¬ n < 268435456 by omega), if_neg (show ¬ n < 34359738368 by omega), if_neg (show ¬ n < 4398046511104 by omega), if_neg (show ¬ n < 562949953421312 by omega), if_pos (show n < 72057594037927936 by omega)]) (by rw [hl]; omega) (by decide) (by decide)
    · exact hu 8 56 (by unfold uvl64; rw [if_neg (show ¬ n < 128 by omega), if_neg (show ¬ n < 16384 by omega), if_neg (show ¬ n < 2097152 by omega), if_neg (show ¬ n < 268435456 by omega), if_neg (show ¬ n < 34359738368 by omega), if_neg (show ¬ n < 4398046511104 by omega), if_neg (show ¬ n < 562949953421312 by omega), if_pos (show n < 72057594037927936 by omega)]) (by rw [hl]; omega) (by decide) (by decide)
  have hl : len64 n = 56 + b8 (n / 72057594037927936) := by
    unfold len64
    rw [if_neg h0, if_neg h1, if_neg h2, if_neg h3, if_neg h4, if_neg h5, if_neg h6]
  rcases b8_key (n / 72057594037927936) (by omega) with h | h | h | h | h | h | h | h | h
  · exfalso; omega
  · exact hu 9 57 (by unfold uvl64; rw [if_neg (show ¬ n < 128 by omega), if_neg (show ¬ n < 16384 by omega), if_neg (show ¬ n < 2097152 by omega), if_neg (show ¬ n < 268435456 by omega), if_neg (show ¬ n < 34359738368 by omega), if_neg (show ¬ n < 4398046511104 by omega), if_neg (show ¬ n < 562949953421312 by omega), if_neg (show ¬ n < 72057594037927936 by omega), if_pos (show n < 9223372036854775808 by omega)]) (by rw [hl]; omega) (by decide) (by decide)
  · exact hu 9 58 (by unfold uvl64; rw [if_neg (show ¬ n < 128 by omega), if_neg (show ¬ n < 16384 by omega), if_neg (show ¬ n < 2097152 by omega), if_neg (show ¬ n < 268435456 by omega), if_neg (show ¬ n < 34359738368 by omega), if_neg (show ¬ n < 4398046511104 by omega), if_neg (show ¬ n < 562949953421312 by omega), if_neg (show ¬ n < 72057594037927936 by omega), if_pos (show n < 9223372036854775808 by omega)]) (by rw [hl]; omega) (by decide) (by decide)
  · exact hu 9 59 (by unfold uvl64; rw [if_neg (show ¬ n < 128 by omega), if_neg (show ¬ n < 16384 by omega), if_neg (show ¬ n < 2097152 by omega), if_neg (show ¬ n < 268435456 by omega), if_neg (show ¬ n < 34359738368 by omega), if_neg (show ¬ n < 4398046511104 by omega), if_neg (show ¬ n < 562949953421312 by omega), if_neg (show ¬ n < 72057594037927936 by omega), if_pos (show n < 9223372036854775808 by omega)]) (by rw [hl]; omega) (by decide) (by decide)
  · exact hu 9 60 (by unfold uvl64; rw [if_neg (show ¬ n < 128 by omega), if_neg (show ¬ n < 16384 by omega), if_neg (show ¬ n < 2097152 by omega), if_neg (show ¬ n < 268435456 by omega), if_neg (show ¬ n < 34359738368 by omega), if_neg (show ¬ n < 4398046511104 by omega), if_neg (show ¬ n < 562949953421312 by omega), if_neg (show ¬ n < 72057594037927936 by omega), if_pos (show n < 9223372036854775808 by omega)]) (by rw [hl]; omega) (by decide) (by decide)
  · exact hu 9 61 (by unfold uvl64; rw [if_neg (show ¬ n < 128 by omega), if_neg (show ¬ n < 16384 by omega), if_neg (show ¬ n < 2097152 by omega), if_neg (show ¬ n < 268435456 by omega), if_neg (show ¬ n < 34359738368 by omega), if_neg (show ¬ n < 4398046511104 by omega), if_neg (show ¬ n < 562949953421312 by omega), if_neg (show ¬ n < 72057594037927936 by omega), if_pos (show n < 9223372036854775808 by omega)]) (by rw [hl]; omega) (by decide) (by decide)
  · exact hu 9 62 (by unfold uvl64; rw [if_neg (show ¬ n < 128 by omega), if_neg (show ¬ n < 16384 by omega), if_neg (show ¬ n < 2097152 by omega), if_neg (show ¬ n < 268435456 by omega), if_neg (show ¬ n < 34359738368 by omega), if_neg (show ¬ n < 4398046511104 by omega), if_neg (show ¬ n < 562949953421312 by omega), if_neg (show ¬ n < 72057594037927936 by omega), if_pos (show n < 9223372036854775808 by omega)]) (by rw [hl]; omega) (by decide) (by decide)
  · exact hu 9 63 (by unfold uvl64; rw [if_neg (show ¬ n < 128 by omega), if_neg (show ¬ n < 16384 by omega), if_neg (show ¬ n < 2097152 by omega), if_neg (show ¬ n < 268435456 by omega), if_neg (show ¬ n < 34359738368 by omega), if_neg (show ¬ n < 4398046511104 by omega), if_neg (show ¬ n < 562949953421312 by omega), if_neg (show ¬ n < 72057594037927936 by omega), if_pos (show n < 9223372036854775808 by omega)]) (by rw [hl]; omega) (by decide) (by decide)
  · exact hu 10 64 (by unfold uvl64; rw [if_neg (show ¬ n < 128 by omega), if_neg (show ¬ n < 16384 by omega), if_neg (show ¬ n < 2097152 by omega), if_neg (show ¬ n < 268435456 by omega), if_neg (show ¬ n < 34359738368 by omega), if_neg (show ¬ n < 4398046511104 by omega), if_neg (show ¬ n < 562949953421312 by omega), if_neg (show ¬ n < 72057594037927936 by omega), if_neg (show ¬ n < 9223372036854775808 by omega)]) (by rw [hl]; omega) (by decide) (by decide)
theorem c_Len64 {P : Program} {E : Env} (ht : TyWr P E) (uS : P.underlying E.tS = some .string) (hI : FnIs P E.f_math_bits_Len64 nt_math_bits_Len64 (rs_math_bits_Len64 E) (ir_math_bits_Len64 E)) {w : World} {n : Nat} (hn : n < 18446744073709551616) :
    Ret P E.f_math_bits_Len64 #[.int .u64 n] w fun v w' => v = .int .i64 (len64 n) ∧ w' = w := by
  refine hI.call (args := [_]) (by simp [nt_math_bits_Len64]) ?_
  simp only [ir_math_bits_Len64, rs_math_bits_Len64, cw_seq, cw_reg]
  by_cases h0 : n < 256
  · simp [bin?, IntKind.bits, Int.fdiv_eq_ediv_of_nonneg, IntKind.wrap_i64]
    refine cw_false (by simp; omega) ?_
    simp [bin?, IntKind.bits, Int.fdiv_eq_ediv_of_nonneg, IntKind.wrap_i64]
    refine cw_false (by simp; omega) ?_
    simp [bin?, IntKind.bits, Int.fdiv_eq_ediv_of_nonneg, IntKind.wrap_i64]
    refine cw_false (by simp; omega) ?_
    have hb := b8_le (n)
    have e1 : IntKind.u8.wrap ((n : Int)) = ((n : Nat) : Int) := by simp [IntKind.wrap, IntKind.signed, IntKind.bits]; omega
    simp [bin?, IntKind.bits, Int.fdiv_eq_ediv_of_nonneg, IntKind.wrap_i64, ht.iU64, ht.iU8, e1]
    rw [st_index_str uS (k := .u8) (i := n) (by simp) (by simp) (tab8_at ⟨n, by omega⟩)]
    simp [ht.iU8, ht.iInt, b8_u8, bin?, IntKind.wrap_i64, len64]
    rw [if_pos h0]; omega
  by_cases h1 : n < 65536
  · simp [bin?, IntKind.bits, Int.fdiv_eq_ediv_of_nonneg, IntKind.wrap_i64]
    refine cw_false (by simp; omega) ?_
    simp [bin?, IntKind.bits, Int.fdiv_eq_ediv_of_nonneg, IntKind.wrap_i64]
    refine cw_false (by simp; omega) ?_
    simp [bin?, IntKind.bits, Int.fdiv_eq_ediv_of_nonneg, IntKind.wrap_i64]
    refine cw_true (by simp; omega) ?_
    have hb := b8_le (n / 256)
    have e1 : IntKind.u8.wrap ((n : Int) / 256) = ((n / 256 : Nat) : Int) := by simp [IntKind.wrap, IntKind.signed, IntKind.bits]; omega
    simp [bin?, IntKind.bits, Int.fdiv_eq_ediv_of_nonneg, IntKind.wrap_i64, ht.iU64, ht.iU8, e1]
    rw [st_index_str uS (k := .u8) (i := n / 256) (by simp) (by simp) (tab8_at ⟨n / 256, by omega⟩)]
    simp [ht.iU8, ht.iInt, b8_u8, bin?, IntKind.wrap_i64, len64]
    rw [if_neg h0, if_pos h1]; omega
  by_cases h2 : n < 16777216
  · simp [bin?, IntKind.bits, Int.fdiv_eq_ediv_of_nonneg, IntKind.wrap_i64]
    refine cw_false (by simp; omega) ?_
    simp [bin?, IntKind.bits, Int.fdiv_eq_ediv_of_nonneg, IntKind.wrap_i64]
    refine cw_true (by simp; omega) ?_
    simp [bin?, IntKind.bits, Int.fdiv_eq_ediv_of_nonneg, IntKind.wrap_i64]
    refine cw_false (by simp; omega) ?_
    have hb := b8_le (n / 65536)
    have e1 : IntKind.u8.wrap ((n : Int) / 65536) = ((n / 65536 : Nat) : Int) := by simp [IntKind.wrap, IntKind.signed, IntKind.bits]; omega
    simp [bin?, IntKind.bits, Int.fdiv_eq_ediv_of_nonneg, IntKind.wrap_i64, ht.iU64, ht.iU8, e1]
    rw [st_index_str uS (k := .u8) (i := n / 65536) (by simp) (by simp) (tab8_at ⟨n / 65536, by omega⟩)]
    simp [ht.iU8, ht.iInt, b8_u8, bin?, IntKind.wrap_i64, len64]
    rw [if_neg h0, if_neg h1, if_pos h2]; omega
  by_cases h3 : n < 4294967296
  · simp [bin?, IntKind.bits, Int.fdiv_eq_ediv_of_nonneg, IntKind.wrap_i64]
    refine cw_false (by simp; omega) ?_
    simp [bin?, IntKind.bits, Int.fdiv_eq_ediv_of_nonneg, IntKind.wrap_i64]
    refine cw_true (by simp; omega) ?_
    simp [bin?, IntKind.bits, Int.fdiv_eq_ediv_of_nonneg, IntKind.wrap_i64]
    refine cw_true (by simp; omega) ?_
    have hb := b8_le (n / 16777216)
    have e1 : IntKind.u8.wrap ((n : Int) / 65536 / 256) = ((n / 16777216 : Nat) : Int) := by simp [IntKind.wrap, IntKind.signed, IntKind.bits]; omega
    simp [bin?, IntKind.bits, Int.fdiv_eq_ediv_of_nonneg, IntKind.wrap_i64, ht.iU64, ht.iU8, e1]
    rw [st_index_str uS (k := .u8) (i := n / 16777216) (by simp) (by simp) (tab8_at ⟨n / 16777216, by omega⟩)]
    simp [ht.iU8, ht.iInt, b8_u8, bin?, IntKind.wrap_i64, len64]
    rw [if_neg h0, if_neg h1, if_neg h2, if_pos h3]; omega
  by_cases h4 : n < 1099511627776
  · simp [bin?, IntKind.bits, Int.fdiv_eq_ediv_of_nonneg, IntKind.wrap_i64]
    refine cw_true (by simp; omega) ?_
    simp [bin?, IntKind.bits, Int.fdiv_eq_ediv_of_nonneg, IntKind.wrap_i64]
    refine cw_false (by simp; omega) ?_
    simp [bin?, IntKind.bits, Int.fdiv_eq_ediv_of_nonneg, IntKind.wrap_i64]
    refine cw_false (by simp; omega) ?_
    have hb := b8_le (n / 4294967296)
    have e1 : IntKind.u8.wrap ((n : Int) / 4294967296) = ((n / 4294967296 : Nat) : Int) := by simp [IntKind.wrap, IntKind.signed, IntKind.bits]; omega
    simp [bin?, IntKind.bits, Int.fdiv_eq_ediv_of_nonneg, IntKind.wrap_i64, ht.iU64, ht.iU8, e1]
    rw [st_index_str uS (k := .u8) (i := n / 4294967296) (by simp) (by simp) (tab8_at ⟨n / 4294967296, by omega⟩)]
    simp [ht.iU8, ht.iInt, b8_u8, bin?, IntKind.wrap_i64, len64]
    rw [if_neg h0, if_neg h1, if_neg h2, if_neg h3, if_pos h4]; omega
  by_cases h5 : n < 281474976710656
  · simp [bin?, IntKind.bits, Int.fdiv_eq_ediv_of_nonneg, IntKind.wrap_i64]
    refine cw_true (by simp; omega) ?_
    simp [bin?, IntKind.bits, Int.fdiv_eq_ediv_of_nonneg, IntKind.wrap_i64]
    refine cw_false (by simp; omega) ?_
    simp [bin?, IntKind.bits, Int.fdiv_eq_ediv_of_nonneg, IntKind.wrap_i64]
    refine cw_true (by simp; omega) ?_
    have hb := b8_le (n / 1099511627776)
    have e1 : IntKind.u8.wrap ((n : Int) / 4294967296 / 256) = ((n / 1099511627776 : Nat) : Int) := by simp [IntKind.wrap, IntKind.signed, IntKind.bits]; omega
    simp [bin?, IntKind.bits, Int.fdiv_eq_ediv_of_nonneg, IntKind.wrap_i64, ht.iU64, ht.iU8, e1]
    rw [st_index_str uS (k := .u8) (i := n / 1099511627776) (by simp) (by simp) (tab8_at ⟨n / 1099511627776, by omega⟩)]
    simp [ht.iU8, ht.iInt, b8_u8, bin?, IntKind.wrap_i64, len64]
    rw [if_neg h0, if_neg h1, if_neg h2, if_neg h3, if_neg h4, if_pos h5]; omega
  by_cases h6 : n < 72057594037927936
  · simp [bin?, IntKind.bits, Int.fdiv_eq_ediv_of_nonneg, IntKind.wrap_i64]
    refine cw_true (by simp; omega) ?_
    simp [bin?, IntKind.bits, Int.fdiv_eq_ediv_of_nonneg, IntKind.wrap_i64]
    refine cw_true (by simp; omega) ?_
    simp [bin?, IntKind.bits, Int.fdiv_eq_ediv_of_nonneg, IntKind.wrap_i64]
    refine cw_false (by simp; omega) ?_
    have hb := b8_le (n / 281474976710656)
    have e1 : IntKind.u8.wrap ((n : Int) / 4294967296 / 65536) = ((n / 281474976710656 : Nat) : Int) := by simp [IntKind.wrap, IntKind.signed, IntKind.bits]; omega
    simp [bin?, IntKind.bits, Int.fdiv_eq_ediv_of_nonneg, IntKind.wrap_i64, ht.iU64, ht.iU8, e1]
    rw [st_index_str uS (k := .u8) (i := n / 281474976710656) (by simp) (by simp) (tab8_at ⟨n / 281474976710656, by omega⟩)]
    simp [ht.iU8, ht.iInt, b8_u8, bin?, IntKind.wrap_i64, len64]
    rw [if_neg h0, if_neg h1, if_neg h2, if_neg h3, if_neg h4, if_neg h5, if_pos h6]; omega
  simp [bin?, IntKind.bits, Int.fdiv_eq_ediv_of_nonneg, IntKind.wrap_i64]
  refine cw_true (by simp; omega) ?_
  simp [bin?, IntKind.bits, Int.fdiv_eq_ediv_of_nonneg, IntKind.wrap_i64]
  refine cw_true (by simp; omega) ?_
  simp [bin?, IntKind.bits, Int.fdiv_eq_ediv_of_nonneg, IntKind.wrap_i64]
  refine cw_true (by simp; omega) ?_
  have hb := b8_le (n / 72057594037927936)
  have e1 : IntKind.u8.wrap ((n : Int) / 4294967296 / 65536 / 256) = ((n / 72057594037927936 : Nat) : Int) := by simp [IntKind.wrap, IntKind.signed, IntKind.bits]; omega
  simp [bin?, IntKind.bits, Int.fdiv_eq_ediv_of_nonneg, IntKind.wrap_i64, ht.iU64, ht.iU8, e1]
  rw [st_index_str uS (k := .u8) (i := n / 72057594037927936) (by simp) (by simp) (tab8_at ⟨n / 72057594037927936, by omega⟩)]
  simp [ht.iU8, ht.iInt, b8_u8, bin?, IntKind.wrap_i64, len64]
  rw [if_neg h0, if_neg h1, if_neg h2, if_neg h3, if_neg h4, if_neg h5, if_neg h6]; omega
theorem c_UvlLen {P : Program} {E : Env} (ht : TyWr P E) (uS : P.underlying E.tS = some .string) (hI : FnIs P E.f_kbin_uvarlongLen nt_kbin_uvarlongLen (rs_kbin_uvarlongLen E) (ir_kbin_uvarlongLen E))
    (hL : ∀ (w : World) (n : Nat), n < 18446744073709551616 → Ret P E.f_math_bits_Len64 #[.int .u64 n] w fun v w' => v = .int .i64 (len64 n) ∧ w' = w) {w : World} {n : Nat} (hn : n < 18446744073709551616) :
    Ret P E.f_kbin_uvarlongLen #[.int .u64 n] w fun v w' => v = .int .i64 (uvl64 n) ∧ w' = w := by
  refine hI.call (args := [_]) (by simp [nt_kbin_uvarlongLen]) ?_
  simp [ir_kbin_uvarlongLen, rs_kbin_uvarlongLen]
  refine (hL w n hn).mono ?_
  rintro v w' ⟨rfl, rfl⟩
  obtain ⟨h1, h2⟩ := len64_uvl n hn
  have e1 : IntKind.u8.wrap (len64 n : Int) = (len64 n : Nat) := by simp [IntKind.wrap, IntKind.signed, IntKind.bits]; omega
  simp [ht.iInt, ht.iU8, e1]
  rw [st_index_str uS (k := .u8) (i := len64 n) (by simp) (by simp) (tabU_at64 ⟨len64 n, h1⟩)]
  simp only [← h2]
  have : uvl64 n ≤ 10 := by
    unfold uvl64
    repeat' split
    all_goals omega
  simp [ht.iU8, ht.iInt, IntKind.wrap_i64]
  omega
theorem uvS1 {n : Nat} (h1 : n < 128) : uvS n = [UInt8.ofNat (n)] := by
  rw [uvS_eq, if_neg (show ¬ 127 < n by omega)]
theorem uvl64_1 {n : Nat} (h1 : n < 128) : uvl64 n = 1 := by
  unfold uvl64
  rw [if_pos (show n < 128 by omega)]
theorem uvS2 {n : Nat} (h0 : 128 ≤ n) (h1 : n < 16384) : uvS n = [UInt8.ofNat (n % 128 + 128), UInt8.ofNat (n / 128)] := by
  rw [uvS_eq, if_pos (show 127 < n by omega)]
  rw [uvS_eq, if_neg (show ¬ 127 < n / 128 by omega)]
theorem uvl64_2 {n : Nat} (h0 : 128 ≤ n) (h1 : n < 16384) : uvl64 n = 2 := by
  unfold uvl64
  rw [if_neg (show ¬ n < 128 by omega), if_pos (show n < 16384 by omega)]
theorem uvS3 {n : Nat} (h0 : 16384 ≤ n) (h1 : n < 2097152) : uvS n = [UInt8.ofNat (n % 128 + 128), UInt8.ofNat (n / 128 % 128 + 128), UInt8.ofNat (n / 16384)] := by
  rw [uvS_eq, if_pos (show 127 < n by omega)]
  rw [uvS_eq, if_pos (show 127 < n / 128 by omega)]
  rw [show n / 128 / 128 = n / 16384 by omega]
  rw [uvS_eq, if_neg (show ¬ 127 < n / 16384 by omega)]
theorem uvl64_3 {n : Nat} (h0 : 16384 ≤ n) (h1 : n < 2097152) : uvl64 n = 3 := by
  unfold uvl64
  rw [if_neg (show ¬ n < 128 by omega), if_neg (show ¬ n < 16384 by omega), if_pos (show n < 2097152 by omega)]
theorem uvS4 {n : Nat} (h0 : 2097152 ≤ n) (h1 : n < 268435456) : uvS n = [UInt8.ofNat (n % 128 + 128), UInt8.ofNat (n / 128 % 128 + 128), UInt8.ofNat (n / 16384 % 128 + 128), UInt8.ofNat (n / 2097152)] := by
  rw [uvS_eq, if_pos (show 127 < n by omega)]
  rw [uvS_eq, if_pos (show 127 < n / 128 by omega)]
  rw [show n / 128 / 128 = n / 16384 by omega]
  rw [uvS_eq, if_pos (show 127 < n / 16384 by omega)]
  rw [show n / 16384 / 128 = n / 2097152 by omega]
  rw [uvS_eq, if_neg (show ¬ 127 < n / 2097152 by omega)]
theorem uvl64_4 {n : Nat} (h0 : 2097152 ≤ n) (h1 : n < 268435456) : uvl64 n = 4 := by
  unfold uvl64
  rw [if_neg (show ¬ n < 128 by omega), if_neg (show ¬ n < 16384 by omega), if_neg (show ¬ n < 2097152 by omega), if_pos (show n < 268435456 by omega)]
theorem uvS5 {n : Nat} (h0 : 268435456 ≤ n) (h1 : n < 34359738368) : uvS n = [UInt8.ofNat (n % 128 + 128), UInt8.ofNat (n / 128 % 128 + 128), UInt8.ofNat (n / 16384 % 128 + 128), UInt8.ofNat (n / 2097152 % 128 + 128), UInt8.ofNat (n / 268435456)] := by
  rw [uvS_eq, if_pos (show 127 < n by omega)]
  rw [uvS_eq, if_pos (show 127 < n / 128 by omega)]
  rw [show n / 128 / 128 = n / 16384 by omega]
  rw [uvS_eq, if_pos (show 127 < n / 16384 by omega)]
  rw [show n / 16384 / 128 = n / 2097152 by omega]
  rw [uvS_eq, if_pos (show 127 < n / 2097152 by omega)]
  rw [show n / 2097152 / 128 = n / 268435456 by omega]
  rw [uvS_eq, if_neg (show ¬ 127 < n / 268435456 by omega)]
theorem uvl64_5 {n : Nat} (h0 : 268435456 ≤ n) (h1 : n < 34359738368) : uvl64 n = 5 := by
  unfold uvl64
  rw [if_neg (show ¬ n < 128 by omega), if_neg (show ¬ n < 16384 by omega), if_neg (show ¬ n < 2097152 by omega), if_neg (show ¬ n < 268435456 by omega), if_pos (show n < 34359738368 by omega)]
theorem uvS6 {n : Nat} (h0 : 34359738368 ≤ n) (h1 : n < 4398046511104) : uvS n = [UInt8.ofNat (n % 128 + 128), UInt8.ofNat (n / 128 % 128 + 128), UInt8.ofNat (n / 16384 % 128 + 128), UInt8.ofNat (n / 2097152 % 128 + 128), UInt8.ofNat (n / 268435456 % 128 + 128), UInt8.ofNat (n / 34359738368)] := by
  rw [uvS_eq, if_pos (show 127 < n by omega)]
  rw [uvS_eq, if_pos (show 127 < n / 128 by omega)]
  rw [show n / 128 / 128 = n / 16384 by omega]
  rw [uvS_eq, if_pos (show 127 < n / 16384 by omega)]
  rw [show n / 16384 / 128 = n / 2097152 by omega]
  rw [uvS_eq, if_pos (show 127 < n / 2097152 by omega)]
  rw [show n / 2097152 / 128 = n / 268435456 by omega]
  rw [uvS_eq, if_pos (show 127 < n / 268435456 by omega)]
  rw [show n / 268435456 / 128 = n / 34359738368 by omega]
  rw [uvS_eq, if_neg (show ¬ 127 < n / 34359738368 by omega)]
theorem uvl64_6 {n : Nat} (h0 : 34359738368 ≤ n) (h1 : n < 4398046511104) : uvl64 n = 6 := by
  unfold uvl64
  rw [if_neg (show ¬ n < 128 by omega), if_neg (show ¬ n < 16384 by omega), if_neg (show ¬ n < 2097152 by omega), if_neg (show ¬ n < 268435456 by omega), if_neg (show ¬ n < 34359738368 by omega), if_pos (show n < 4398046511104 by omega)]
theorem uvS7 {n : Nat} (h0 : 4398046511104 ≤ n) (h1 : n < 562949953421312) : uvS n = [UInt8.ofNat (n % 128 + 128), UInt8.ofNat (n / 128 % 128 + 128), UInt8.ofNat (n / 16384 % 128 + 128), UInt8.ofNat (n / 2097152 % 128 + 128), UInt8.ofNat (n / 268435456 % 128 + 128), UInt8.ofNat (n / 34359738368 % 128 + 128), UInt8.ofNat (n / 4398046511104)] := by
  rw [uvS_eq, if_pos (show 127 < n by omega)]
  rw [uvS_eq, if_pos (show 127 < n / 128 by omega)]
  rw [show n / 128 / 128 = n / 16384 by omega]
  rw [uvS_eq, if_pos (show 127 < n / 16384 by omega)]
  rw [show n / 16384 / 128 = n / 2097152 by omega]
  rw [uvS_eq, if_pos (show 127 < n / 2097152 by omega)]
  rw [show n / 2097152 / 128 = n / 268435456 by omega]
  rw [uvS_eq, if_pos (show 127 < n / 268435456 by omega)]
  rw [show n / 268435456 / 128 = n / 34359738368 by omega]
  rw [uvS_eq, if_pos (show 127 < n / 34359738368 by omega)]
  rw [show n / 34359738368 / 128 = n / 4398046511104 by omega]
  rw [uvS_eq, if_neg (show ¬ 127 < n / 4398046511104 by omega)]
theorem uvl64_7 {n : Nat} (h0 : 4398046511104 ≤ n) (h1 : n < 562949953421312) : uvl64 n = 7 := by
  unfold uvl64
  rw [if_neg (show ¬ n < 128 by omega), if_neg (show ¬ n < 16384 by omega), if_neg (show ¬ n < 2097152 by omega), if_neg (show ¬ n < 268435456 by omega), if_neg (show ¬ n < 34359738368 by omega), if_neg (show ¬ n < 4398046511104 by omega), if_pos (show n < 562949953421312 by omega)]
theorem uvS8 {n : Nat} (h0 : 562949953421312 ≤ n) (h1 : n < 72057594037927936) : uvS n = [UInt8.ofNat (n % 128 + 128), UInt8.ofNat (n / 128 % 128 + 128), UInt8.ofNat (n / 16384 % 128 + 128), UInt8.ofNat (n / 2097152 % 128 + 128), UInt8.ofNat (n / 268435456 % 128 + 128), UInt8.ofNat (n / 34359738368 % 128 + 128), UInt8.ofNat (n / 4398046511104 % 128 + 128), UInt8.ofNat (n / 562949953421312)] := by
  rw [uvS_eq, if_pos (show 127 < n by omega)]
  rw [uvS_eq, if_pos (show 127 < n / 128 by omega)]
  rw [show n / 128 / 128 = n / 16384 by omega]
  rw [uvS_eq, if_pos (show 127 < n / 16384 by omega)]
  rw [show n / 16384 / 128 = n / 2097152 by omega]
  rw [uvS_eq, if_pos (show 127 < n / 2097152 by omega)]
  rw [show n / 2097152 / 128 = n / 268435456 by omega]
  rw [uvS_eq, if_pos (show 127 < n / 268435456 by omega)]
  rw [show n / 268435456 / 128 = n / 34359738368 by omega]
  rw [uvS_eq, if_pos (show 127 < n / 34359738368 by omega)]
  rw [show n / 34359738368 / 128 = n / 4398046511104 by omega]
  rw [uvS_eq, if_pos (show 127 < n / 4398046511104 by omega)]
  rw [show n / 4398046511104 / 128 = n / 562949953421312 by omega]
  rw [uvS_eq, if_neg (show ¬ 127 < n / 562949953421312 by omega)]
theorem uvl64_8 {n : Nat} (h0 : 562949953421312 ≤ n) (h1 : n < 72057594037927936) : uvl64 n = 8 := by
  unfold uvl64
  rw [if_neg (show ¬ n < 128 by omega), if_neg (show ¬ n < 16384 by omega), if_neg (show ¬ n < 2097152 by omega), if_neg (show ¬ n < 268435456 by omega), if_neg (show ¬ n < 34359738368 by omega), if_neg (show ¬ n < 4398046511104 by omega), if_neg (show ¬ n < 562949953421312 by omega), if_pos (show n < 72057594037927936 by omega)]
theorem uvS9 {n : Nat} (h0 : 72057594037927936 ≤ n) (h1 : n < 9223372036854775808) : uvS n = [UInt8.ofNat (n % 128 + 128), UInt8.ofNat (n / 128 % 128 + 128), UInt8.ofNat (n / 16384 % 128 + 128), UInt8.ofNat (n / 2097152 % 128 + 128), UInt8.ofNat (n / 268435456 % 128 + 128), UInt8.ofNat (n / 34359738368 % 128 + 128), UInt8.ofNat (n / 4398046511104 % 128 + 128), UInt8.ofNat (n / 562949953421312 % 128 + 128), UInt8.ofNat (n / 72057594037927936)] := by
  rw [uvS_eq, if_pos (show 127 < n by omega)]
  rw [uvS_eq, if_pos (show 127 < n / 128 by omega)]
  rw [show n / 128 / 128 = n / 16384 by omega]
  rw [uvS_eq, if_pos (show 127 < n / 16384 by omega)]
  rw [show n / 16384 / 128 = n / 2097152 by omega]
  rw [uvS_eq, if_pos (show 127 < n / 2097152 by omega)]
  rw [show n / 2097152 / 128 = n / 268435456 by omega]
  rw [uvS_eq, if_pos (show 127 < n / 268435456 by omega)]
  rw [show n / 268435456 / 128 = n / 34359738368 by omega]
  rw [uvS_eq, if_pos (show 127 < n / 34359738368 by omega)]
  rw [show n / 34359738368 / 128 = n / 4398046511104 by omega]
  rw [uvS_eq, if_pos (show 127 < n / 4398046511104 by omega)]
  rw [show n / 4398046511104 / 128 = n / 562949953421312 by omega]
  rw [uvS_eq, if_pos (show 127 < n / 562949953421312 by omega)]
  rw [show n / 562949953421312 / 128 = n / 72057594037927936 by omega]
  rw [uvS_eq, if_neg (show ¬ 127 < n / 72057594037927936 by omega)]
theorem uvl64_9 {n : Nat} (h0 : 72057594037927936 ≤ n) (h1 : n < 9223372036854775808) : uvl64 n = 9 := by
  unfold uvl64
  rw [if_neg (show ¬ n < 128 by omega), if_neg (show ¬ n < 16384 by omega), if_neg (show ¬ n < 2097152 by omega), if_neg (show ¬ n < 268435456 by omega), if_neg (show ¬ n < 34359738368 by omega), if_neg (show ¬ n < 4398046511104 by omega), if_neg (show ¬ n < 562949953421312 by omega), if_neg (show ¬ n < 72057594037927936 by omega), if_pos (show n < 9223372036854775808 by omega)]
theorem uvS10 {n : Nat} (h0 : 9223372036854775808 ≤ n) (h1 : n < 18446744073709551616) : uvS n = [UInt8.ofNat (n % 128 + 128), UInt8.ofNat (n / 128 % 128 + 128), UInt8.ofNat (n / 16384 % 128 + 128), UInt8.ofNat (n / 2097152 % 128 + 128), UInt8.ofNat (n / 268435456 % 128 + 128), UInt8.ofNat (n / 34359738368 % 128 + 128), UInt8.ofNat (n / 4398046511104 % 128 + 128), UInt8.ofNat (n / 562949953421312 % 128 + 128), UInt8.ofNat (n / 72057594037927936 % 128 + 128), UInt8.ofNat (n / 9223372036854775808)] := by
  rw [uvS_eq, if_pos (show 127 < n by omega)]
  rw [uvS_eq, if_pos (show 127 < n / 128 by omega)]
  rw [show n / 128 / 128 = n / 16384 by omega]
  rw [uvS_eq, if_pos (show 127 < n / 16384 by omega)]
  rw [show n / 16384 / 128 = n / 2097152 by omega]
  rw [uvS_eq, if_pos (show 127 < n / 2097152 by omega)]
  rw [show n / 2097152 / 128 = n / 268435456 by omega]
  rw [uvS_eq, if_pos (show 127 < n / 268435456 by omega)]
  rw [show n / 268435456 / 128 = n / 34359738368 by omega]
  rw [uvS_eq, if_pos (show 127 < n / 34359738368 by omega)]
  rw [show n / 34359738368 / 128 = n / 4398046511104 by omega]
  rw [uvS_eq, if_pos (show 127 < n / 4398046511104 by omega)]
  rw [show n / 4398046511104 / 128 = n / 562949953421312 by omega]
  rw [uvS_eq, if_pos (show 127 < n / 562949953421312 by omega)]
  rw [show n / 562949953421312 / 128 = n / 72057594037927936 by omega]
  rw [uvS_eq, if_pos (show 127 < n / 72057594037927936 by omega)]
  rw [show n / 72057594037927936 / 128 = n / 9223372036854775808 by omega]
  rw [uvS_eq, if_neg (show ¬ 127 < n / 9223372036854775808 by omega)]
theorem uvl64_10 {n : Nat} (h0 : 9223372036854775808 ≤ n) (h1 : n < 18446744073709551616) : uvl64 n = 10 := by
  unfold uvl64
  rw [if_neg (show ¬ n < 128 by omega), if_neg (show ¬ n < 16384 by omega), if_neg (show ¬ n < 2097152 by omega), if_neg (show ¬ n < 268435456 by omega), if_neg (show ¬ n < 34359738368 by omega), if_neg (show ¬ n < 4398046511104 by omega), if_neg (show ¬ n < 562949953421312 by omega), if_neg (show ¬ n < 72057594037927936 by omega), if_neg (show ¬ n < 9223372036854775808 by omega)]
theorem g7l (x : Int) (h0 : 0 ≤ x) (h1 : x < 18446744073709551616) : bits .or .u64 (bits .and .u64 x 127) 128 = x % 128 + 128 := by
  rw [bits_mask7 .u64 64 (by decide) (by decide) wraps_u64 x h0 h1]
  have := bits_join_low .u64 64 (by decide) wraps_u64 7 (x % 128) 128 (by omega) (by omega) (by omega) (by omega) (by omega) (by omega)
  rw [this]
theorem bval_of {x : Int} {n : Nat} (h : x = (n : Int)) (hn : n < 256) : bval x = UInt8.ofNat n := by rw [bval_nat (x := x) (n := n) (by omega)]
theorem uvSb1 {n : Nat} (h1 : n < 128) : uvS n = [bval ((n : Int))] := by
  rw [uvS1  h1]
  rw [bval_of (x := (n : Int)) (n := n) (by omega) (by omega)]
theorem uvSb2 {n : Nat} (h0 : 128 ≤ n) (h1 : n < 16384) : uvS n = [bval ((n : Int) % 128 + 128), bval ((n : Int) / 128)] := by
  rw [uvS2 h0 h1]
  rw [bval_of (x := (n : Int) % 128 + 128) (n := n % 128 + 128) (by omega) (by omega), bval_of (x := (n : Int) / 128) (n := n / 128) (by omega) (by omega)]
theorem uvSb3 {n : Nat} (h0 : 16384 ≤ n) (h1 : n < 2097152) : uvS n = [bval ((n : Int) % 128 + 128), bval ((n : Int) / 128 % 128 + 128), bval ((n : Int) / 16384)] := by
  rw [uvS3 h0 h1]
  rw [bval_of (x := (n : Int) % 128 + 128) (n := n % 128 + 128) (by omega) (by omega), bval_of (x := (n : Int) / 128 % 128 + 128) (n := n / 128 % 128 + 128) (by omega) (by omega), bval_of (x := (n : Int) / 16384) (n := n / 16384) (by omega) (by omega)]
theorem uvSb4 {n : Nat} (h0 : 2097152 ≤ n) (h1 : n < 268435456) : uvS n = [bval ((n : Int) % 128 + 128), bval ((n : Int) / 128 % 128 + 128), bval ((n : Int) / 16384 % 128 + 128), bval ((n : Int) / 2097152)] := by
  rw [uvS4 h0 h1]
  rw [bval_of (x := (n : Int) % 128 + 128) (n := n % 128 + 128) (by omega) (by omega), bval_of (x := (n : Int) / 128 % 128 + 128) (n := n / 128 % 128 + 128) (by omega) (by omega), bval_of (x := (n : Int) / 16384 % 128 + 128) (n := n / 16384 % 128 + 128) (by omega) (by omega), bval_of (x := (n : Int) / 2097152) (n := n / 2097152) (by omega) (by omega)]
theorem uvSb5 {n : Nat} (h0 : 268435456 ≤ n) (h1 : n < 34359738368) : uvS n = [bval ((n : Int) % 128 + 128), bval ((n : Int) / 128 % 128 + 128), bval ((n : Int) / 16384 % 128 + 128), bval ((n : Int) / 2097152 % 128 + 128), bval ((n : Int) / 268435456)] := by
  rw [uvS5 h0 h1]
  rw [bval_of (x := (n : Int) % 128 + 128) (n := n % 128 + 128) (by omega) (by omega), bval_of (x := (n : Int) / 128 % 128 + 128) (n := n / 128 % 128 + 128) (by omega) (by omega), bval_of (x := (n : Int) / 16384 % 128 + 128) (n := n / 16384 % 128 + 128) (by omega) (by omega), bval_of (x := (n : Int) / 2097152 % 128 + 128) (n := n / 2097152 % 128 + 128) (by omega) (by omega), bval_of (x := (n : Int) / 268435456) (n := n / 268435456) (by omega) (by omega)]
theorem uvSb6 {n : Nat} (h0 : 34359738368 ≤ n) (h1 : n < 4398046511104) : uvS n = [bval ((n : Int) % 128 + 128), bval ((n : Int) / 128 % 128 + 128), bval ((n : Int) / 16384 % 128 + 128), bval ((n : Int) / 2097152 % 128 + 128), bval ((n : Int) / 268435456 % 128 + 128), bval ((n : Int) / 34359738368)] := by
  rw [uvS6 h0 h1]
  rw [bval_of (x := (n : Int) % 128 + 128) (n := n % 128 + 128) (by omega) (by omega), bval_of (x := (n : Int) / 128 % 128 + 128) (n := n / 128 % 128 + 128) (by omega) (by omega), bval_of (x := (n : Int) / 16384 % 128 + 128) (n := n / 16384 % 128 + 128) (by omega) (by omega), bval_of (x := (n : Int) / 2097152 % 128 + 128) (n := n / 2097152 % 128 + 128) (by omega) (by omega), bval_of (x := (n : Int) / 268435456 % 128 + 128) (n := n / 268435456 % 128 + 128) (by omega) (by omega), bval_of (x := (n : Int) / 34359738368) (n := n / 34359738368) (by omega) (by omega)]
theorem uvSb7 {n : Nat} (h0 : 4398046511104 ≤ n) (h1 : n < 562949953421312) : uvS n = [bval ((n : Int) % 128 + 128), bval ((n : Int) / 128 % 128 + 128), bval ((n : Int) / 16384 % 128 + 128), bval ((n : Int) / 2097152 % 128 + 128), bval ((n : Int) / 268435456 % 128 + 128), bval ((n : Int) / 34359738368 % 128 + 128), bval ((n : Int) / 4398046511104)] := by
  rw [uvS7 h0 h1]
  rw [bval_of (x := (n : Int) % 128 + 128) (n := n % 128 + 128) (by omega) (by omega), bval_of (x := (n : Int) / 128 % 128 + 128) (n := n / 128 % 128 + 128) (by omega) (by omega), bval_of (x := (n : Int) / 16384 % 128 + 128) (n := n / 16384 % 128 + 128) (by omega) (by omega), bval_of (x := (n : Int) / 2097152 % 128 + 128) (n := n / 2097152 % 128 + 128) (by omega) (by omega), bval_of (x := (n : Int) / 268435456 % 128 + 128) (n := n / 268435456 % 128 + 128) (by omega) (by omega), bval_of (x := (n : Int) / 34359738368 % 128 + 128) (n := n / 34359738368 % 128 + 128) (by omega) (by omega), bval_of (x := (n : Int) / 4398046511104) (n := n / 4398046511104) (by omega) (by omega)]
theorem uvSb8 {n : Nat} (h0 : 562949953421312 ≤ n) (h1 : n < 72057594037927936) : uvS n = [bval ((n : Int) % 128 + 128), bval ((n : Int) / 128 % 128 + 128), bval ((n : Int) / 16384 % 128 + 128), bval ((n : Int) / 2097152 % 128 + 128), bval ((n : Int) / 268435456 % 128 + 128), bval ((n : Int) / 34359738368 % 128 + 128), bval ((n : Int) / 4398046511104 % 128 + 128), bval ((n : Int) / 562949953421312)] := by
  rw [uvS8 h0 h1]
  rw [bval_of (x := (n : Int) % 128 + 128) (n := n % 128 + 128) (by omega) (by omega), bval_of (x := (n : Int) / 128 % 128 + 128) (n := n / 128 % 128 + 128) (by omega) (by omega), bval_of (x := (n : Int) / 16384 % 128 + 128) (n := n / 16384 % 128 + 128) (by omega) (by omega), bval_of (x := (n : Int) / 2097152 % 128 + 128) (n := n / 2097152 % 128 + 128) (by omega) (by omega), bval_of (x := (n : Int) / 268435456 % 128 + 128) (n := n / 268435456 % 128 + 128) (by omega) (by omega), bval_of (x := (n : Int) / 34359738368 % 128 + 128) (n := n / 34359738368 % 128 + 128) (by omega) (by omega), bval_of (x := (n : Int) / 4398046511104 % 128 + 128) (n := n / 4398046511104 % 128 + 128) (by omega) (by omega), bval_of (x := (n : Int) / 562949953421312) (n := n / 562949953421312) (by omega) (by omega)]
theorem uvSb9 {n : Nat} (h0 : 72057594037927936 ≤ n) (h1 : n < 9223372036854775808) : uvS n = [bval ((n : Int) % 128 + 128), bval ((n : Int) / 128 % 128 + 128), bval ((n : Int) / 16384 % 128 + 128), bval ((n : Int) / 2097152 % 128 + 128), bval ((n : Int) / 268435456 % 128 + 128), bval ((n : Int) / 34359738368 % 128 + 128), bval ((n : Int) / 4398046511104 % 128 + 128), bval ((n : Int) / 562949953421312 % 128 + 128), bval ((n : Int) / 72057594037927936)] := by
  rw [uvS9 h0 h1]
  rw [bval_of (x := (n : Int) % 128 + 128) (n := n % 128 + 128) (by omega) (by omega), bval_of (x := (n : Int) / 128 % 128 + 128) (n := n / 128 % 128 + 128) (by omega) (by omega), bval_of (x := (n : Int) / 16384 % 128 + 128) (n := n / 16384 % 128 + 128) (by omega) (by omega), bval_of (x := (n : Int) / 2097152 % 128 + 128) (n := n / 2097152 % 128 + 128) (by omega) (by omega), bval_of (x := (n : Int) / 268435456 % 128 + 128) (n := n / 268435456 % 128 + 128) (by omega) (by omega), bval_of (x := (n : Int) / 34359738368 % 128 + 128) (n := n / 34359738368 % 128 + 128) (by omega) (by omega), bval_of (x := (n : Int) / 4398046511104 % 128 + 128) (n := n / 4398046511104 % 128 + 128) (by omega) (by omega), bval_of (x := (n : Int) / 562949953421312 % 128 + 128) (n := n / 562949953421312 % 128 + 128) (by omega) (by omega), bval_of (x := (n : Int) / 72057594037927936) (n := n / 72057594037927936) (by omega) (by omega)]
theorem uvSb10 {n : Nat} (h0 : 9223372036854775808 ≤ n) (h1 : n < 18446744073709551616) : uvS n = [bval ((n : Int) % 128 + 128), bval ((n : Int) / 128 % 128 + 128), bval ((n : Int) / 16384 % 128 + 128), bval ((n : Int) / 2097152 % 128 + 128), bval ((n : Int) / 268435456 % 128 + 128), bval ((n : Int) / 34359738368 % 128 + 128), bval ((n : Int) / 4398046511104 % 128 + 128), bval ((n : Int) / 562949953421312 % 128 + 128), bval ((n : Int) / 72057594037927936 % 128 + 128), bval ((n : Int) / 9223372036854775808)] := by
  rw [uvS10 h0 h1]
  rw [bval_of (x := (n : Int) % 128 + 128) (n := n % 128 + 128) (by omega) (by omega), bval_of (x := (n : Int) / 128 % 128 + 128) (n := n / 128 % 128 + 128) (by omega) (by omega), bval_of (x := (n : Int) / 16384 % 128 + 128) (n := n / 16384 % 128 + 128) (by omega) (by omega), bval_of (x := (n : Int) / 2097152 % 128 + 128) (n := n / 2097152 % 128 + 128) (by omega) (by omega), bval_of (x := (n : Int) / 268435456 % 128 + 128) (n := n / 268435456 % 128 + 128) (by omega) (by omega), bval_of (x := (n : Int) / 34359738368 % 128 + 128) (n := n / 34359738368 % 128 + 128) (by omega) (by omega), bval_of (x := (n : Int) / 4398046511104 % 128 + 128) (n := n / 4398046511104 % 128 + 128) (by omega) (by omega), bval_of (x := (n : Int) / 562949953421312 % 128 + 128) (n := n / 562949953421312 % 128 + 128) (by omega) (by omega), bval_of (x := (n : Int) / 72057594037927936 % 128 + 128) (n := n / 72057594037927936 % 128 + 128) (by omega) (by omega), bval_of (x := (n : Int) / 9223372036854775808) (n := n / 9223372036854775808) (by omega) (by omega)]
set_option maxHeartbeats 4000000 in
theorem c_wUvlong {P : Program} {E : Env} (ht : TyWr P E) (hI : FnIs P E.f_kbin_appendUvarlong nt_kbin_appendUvarlong (rs_kbin_appendUvarlong E) (ir_kbin_appendUvarlong E))
    (hL : ∀ (w : World) (n : Nat), n < 18446744073709551616 → Ret P E.f_kbin_uvarlongLen #[.int .u64 n] w fun v w' => v = .int .i64 (uvl64 n) ∧ w' = w) {n : Nat} (hn : n < 18446744073709551616) :
    WrC P E.tU8 E.f_kbin_appendUvarlong [.int .u64 n] (uvS n) := by
  intro w base v s ho hw hsz
  refine hI.call (args := [_, _]) (by simp [nt_kbin_appendUvarlong]) ?_
  simp only [ir_kbin_appendUvarlong, rs_kbin_appendUvarlong, cw_seq, cw_reg]
  simp
  refine (hL w n hn).mono ?_
  rintro v1 w1 ⟨rfl, rfl⟩
  have i0 := g7l ((n : Int)) (by omega) (by omega)
  have i1 := g7l ((n : Int) / 128) (by omega) (by omega)
  have i2 := g7l ((n : Int) / 16384) (by omega) (by omega)
  have i3 := g7l ((n : Int) / 2097152) (by omega) (by omega)
  have i4 := g7l ((n : Int) / 268435456) (by omega) (by omega)
  have i5 := g7l ((n : Int) / 34359738368) (by omega) (by omega)
  have i6 := g7l ((n : Int) / 4398046511104) (by omega) (by omega)
  have i7 := g7l ((n : Int) / 562949953421312) (by omega) (by omega)
  have i8 := g7l ((n : Int) / 72057594037927936) (by omega) (by omega)
  by_cases h : 9223372036854775808 ≤ n
  · rw [uvl64_10 h (by omega)]
    simp [bin?]
    refine cw_true (by simp) ?_
    simp (config := { maxSteps := 2000000 }) [bin?, IntKind.bits, Int.fdiv_eq_ediv_of_nonneg, i0, i1, i2, i3, i4, i5, i6, i7, i8, ht.iU64, ht.iU8, st_bsl ht.sBs, denseFrom, allSz, flat, Value.cells, u8wrap]
    have hu := uvSb10 h (by omega)
    refine st_app_lit ht.sBs (by simp) ho hw (uvS n) ?_ ?_ hsz fun v' w' h1 h2 => ⟨h1, h2⟩
    · rw [hu]; simp [cellsOf]
    · rw [hu]; simp
  by_cases h : 72057594037927936 ≤ n
  · rw [uvl64_9 h (by omega)]
    simp [bin?]
    refine cw_false (by simp) ?_
    simp [bin?]
    refine cw_true (by simp) ?_
    simp (config := { maxSteps := 2000000 }) [bin?, IntKind.bits, Int.fdiv_eq_ediv_of_nonneg, i0, i1, i2, i3, i4, i5, i6, i7, i8, ht.iU64, ht.iU8, st_bsl ht.sBs, denseFrom, allSz, flat, Value.cells, u8wrap]
    have hu := uvSb9 h (by omega)
    refine st_app_lit ht.sBs (by simp) ho hw (uvS n) ?_ ?_ hsz fun v' w' h1 h2 => ⟨h1, h2⟩
    · rw [hu]; simp [cellsOf]
    · rw [hu]; simp
  by_cases h : 562949953421312 ≤ n
  · rw [uvl64_8 h (by omega)]
    simp [bin?]
    refine cw_false (by simp) ?_
    simp [bin?]
    refine cw_false (by simp) ?_
    simp [bin?]
    refine cw_true (by simp) ?_
    simp (config := { maxSteps := 2000000 }) [bin?, IntKind.bits, Int.fdiv_eq_ediv_of_nonneg, i0, i1, i2, i3, i4, i5, i6, i7, i8, ht.iU64, ht.iU8, st_bsl ht.sBs, denseFrom, allSz, flat, Value.cells, u8wrap]
    have hu := uvSb8 h (by omega)
    refine st_app_lit ht.sBs (by simp) ho hw (uvS n) ?_ ?_ hsz fun v' w' h1 h2 => ⟨h1, h2⟩
    · rw [hu]; simp [cellsOf]
    · rw [hu]; simp
  by_cases h : 4398046511104 ≤ n
  · rw [uvl64_7 h (by omega)]
    simp [bin?]
    refine cw_false (by simp) ?_
    simp [bin?]
    refine cw_false (by simp) ?_
    simp [bin?]
    refine cw_false (by simp) ?_
    simp [bin?]
    refine cw_true (by simp) ?_
    simp (config := { maxSteps := 2000000 }) [bin?, IntKind.bits, Int.fdiv_eq_ediv_of_nonneg, i0, i1, i2, i3, i4, i5, i6, i7, i8, ht.iU64, ht.iU8, st_bsl ht.sBs, denseFrom, allSz, flat, Value.cells, u8wrap]
    have hu := uvSb7 h (by omega)
    refine st_app_lit ht.sBs (by simp) ho hw (uvS n) ?_ ?_ hsz fun v' w' h1 h2 => ⟨h1, h2⟩
    · rw [hu]; simp [cellsOf]
    · rw [hu]; simp
  by_cases h : 34359738368 ≤ n
  · rw [uvl64_6 h (by omega)]
    simp [bin?]
    refine cw_false (by simp) ?_
    simp [bin?]
    refine cw_false (by simp) ?_
    simp [bin?]
    refine cw_false (by simp) ?_
    simp [bin?]
    refine cw_false (by simp) ?_
    simp [bin?]
    refine cw_true (by simp) ?_
    simp (config := { maxSteps := 2000000 }) [bin?, IntKind.bits, Int.fdiv_eq_ediv_of_nonneg, i0, i1, i2, i3, i4, i5, i6, i7, i8, ht.iU64, ht.iU8, st_bsl ht.sBs, denseFrom, allSz, flat, Value.cells, u8wrap]
    have hu := uvSb6 h (by omega)
    refine st_app_lit ht.sBs (by simp) ho hw (uvS n) ?_ ?_ hsz fun v' w' h1 h2 => ⟨h1, h2⟩
    · rw [hu]; simp [cellsOf]
    · rw [hu]; simp
  by_cases h : 268435456 ≤ n
  · rw [uvl64_5 h (by omega)]
    simp [bin?]
    refine cw_false (by simp) ?_
    simp [bin?]
    refine cw_false (by simp) ?_
    simp [bin?]
    refine cw_false (by simp) ?_
    simp [bin?]
    refine cw_false (by simp) ?_
    simp [bin?]
    refine cw_false (by simp) ?_
    simp [bin?]
    refine cw_true (by simp) ?_
    simp (config := { maxSteps := 2000000 }) [bin?, IntKind.bits, Int.fdiv_eq_ediv_of_nonneg, i0, i1, i2, i3, i4, i5, i6, i7, i8, ht.iU64, ht.iU8, st_bsl ht.sBs, denseFrom, allSz, flat, Value.cells, u8wrap]
    have hu := uvSb5 h (by omega)
    refine st_app_lit ht.sBs (by simp) ho hw (uvS n) ?_ ?_ hsz fun v' w' h1 h2 => ⟨h1, h2⟩
    · rw [hu]; simp [cellsOf]
    · rw [hu]; simp
  by_cases h : 2097152 ≤ n
  · rw [uvl64_4 h (by omega)]
    simp [bin?]
    refine cw_false (by simp) ?_
    simp [bin?]
    refine cw_false (by simp) ?_
    simp [bin?]
    refine cw_false (by simp) ?_
    simp [bin?]
    refine cw_false (by simp) ?_
    simp [bin?]
    refine cw_false (by simp) ?_
    simp [bin?]
    refine cw_false (by simp) ?_
    simp [bin?]
    refine cw_true (by simp) ?_
    simp (config := { maxSteps := 2000000 }) [bin?, IntKind.bits, Int.fdiv_eq_ediv_of_nonneg, i0, i1, i2, i3, i4, i5, i6, i7, i8, ht.iU64, ht.iU8, st_bsl ht.sBs, denseFrom, allSz, flat, Value.cells, u8wrap]
    have hu := uvSb4 h (by omega)
    refine st_app_lit ht.sBs (by simp) ho hw (uvS n) ?_ ?_ hsz fun v' w' h1 h2 => ⟨h1, h2⟩
    · rw [hu]; simp [cellsOf]
    · rw [hu]; simp
  by_cases h : 16384 ≤ n
  · rw [uvl64_3 h (by omega)]
    simp [bin?]
    refine cw_false (by simp) ?_
    simp [bin?]
    refine cw_false (by simp) ?_
    simp [bin?]
    refine cw_false (by simp) ?_
    simp [bin?]
    refine cw_false (by simp) ?_
    simp [bin?]
    refine cw_false (by simp) ?_
    simp [bin?]
    refine cw_false (by simp) ?_
    simp [bin?]
    refine cw_false (by simp) ?_
    simp [bin?]
    refine cw_true (by simp) ?_
    simp (config := { maxSteps := 2000000 }) [bin?, IntKind.bits, Int.fdiv_eq_ediv_of_nonneg, i0, i1, i2, i3, i4, i5, i6, i7, i8, ht.iU64, ht.iU8, st_bsl ht.sBs, denseFrom, allSz, flat, Value.cells, u8wrap]
    have hu := uvSb3 h (by omega)
    refine st_app_lit ht.sBs (by simp) ho hw (uvS n) ?_ ?_ hsz fun v' w' h1 h2 => ⟨h1, h2⟩
    · rw [hu]; simp [cellsOf]
    · rw [hu]; simp
  by_cases h : 128 ≤ n
  · rw [uvl64_2 h (by omega)]
    simp [bin?]
    refine cw_false (by simp) ?_
    simp [bin?]
    refine cw_false (by simp) ?_
    simp [bin?]
    refine cw_false (by simp) ?_
    simp [bin?]
    refine cw_false (by simp) ?_
    simp [bin?]
    refine cw_false (by simp) ?_
    simp [bin?]
    refine cw_false (by simp) ?_
    simp [bin?]
    refine cw_false (by simp) ?_
    simp [bin?]
    refine cw_false (by simp) ?_
    simp [bin?]
    refine cw_true (by simp) ?_
    simp (config := { maxSteps := 2000000 }) [bin?, IntKind.bits, Int.fdiv_eq_ediv_of_nonneg, i0, i1, i2, i3, i4, i5, i6, i7, i8, ht.iU64, ht.iU8, st_bsl ht.sBs, denseFrom, allSz, flat, Value.cells, u8wrap]
    have hu := uvSb2 h (by omega)
    refine st_app_lit ht.sBs (by simp) ho hw (uvS n) ?_ ?_ hsz fun v' w' h1 h2 => ⟨h1, h2⟩
    · rw [hu]; simp [cellsOf]
    · rw [hu]; simp
  rw [uvl64_1 (by omega)]
  simp [bin?]
  refine cw_false (by simp) ?_
  simp [bin?]
  refine cw_false (by simp) ?_
  simp [bin?]
  refine cw_false (by simp) ?_
  simp [bin?]
  refine cw_false (by simp) ?_
  simp [bin?]
  refine cw_false (by simp) ?_
  simp [bin?]
  refine cw_false (by simp) ?_
  simp [bin?]
  refine cw_false (by simp) ?_
  simp [bin?]
  refine cw_false (by simp) ?_
  simp [bin?]
  refine cw_false (by simp) ?_
  simp [bin?]
  refine cw_true (by simp) ?_
  simp (config := { maxSteps := 2000000 }) [bin?, IntKind.bits, Int.fdiv_eq_ediv_of_nonneg, i0, i1, i2, i3, i4, i5, i6, i7, i8, ht.iU64, ht.iU8, st_bsl ht.sBs, denseFrom, allSz, flat, Value.cells, u8wrap]
  have hu := uvSb1 (n := n) (by omega)
  refine st_app_lit ht.sBs (by simp) ho hw (uvS n) ?_ ?_ hsz fun v' w' h1 h2 => ⟨h1, h2⟩
  · rw [hu]; simp [cellsOf]
  · rw [hu]; simp
end Go.Kg

set_option linter.unusedSimpArgs false
set_option linter.unusedVariables false
namespace Go.Kg
open Go
/-- Groups of seven bits, the lowest one first; the tenth one at most 1. -/
def vlGo : Nat → List UInt8 → Option (Nat × List UInt8)
  | _, [] => none
  | 0, b :: s => if b.toNat ≤ 1 then some (b.toNat, s) else none
  | k + 1, b :: s => if b.toNat < 128 then some (b.toNat, s) else (vlGo k s).map fun p => (b.toNat % 128 + 128 * p.1, p.2)
def vl (s : List UInt8) : Option (Nat × List UInt8) := vlGo 9 s
theorem vlGo_nil {k : Nat} : vlGo k [] = none := by cases k <;> rfl
def VlF (P : Program) (f : Nat) : Prop := ∀ w K v s, BytesAt w K v s → Ret P f #[v] w fun u w' =>
  (match vl s with
  | some (n, r) => ∃ m : Nat, u = .tuple #[.int .u64 n, .int .i64 m] ∧ 0 < m ∧ m ≤ s.length ∧ r = s.drop m
  | none => ∃ m : Int, u = .tuple #[.int .u64 0, .int .i64 m] ∧ m ≤ 0) ∧ Ext none1 w w'
theorem u64_id (n : Nat) (h : n < 18446744073709551616) : IntKind.u64.wrap (n : Int) = n := u64_wrap_id (x := (n : Int)) (by omega) (by omega)
theorem sh64 (k b : Nat) (h : b * k < 18446744073709551616) : IntKind.u64.wrap ((b : Int) * (k : Int)) = (b : Int) * k := by
  have : ((b : Int) * k) = ((b * k : Nat) : Int) := by simp
  rw [this, u64_id _ h]
def vlPost (w : World) (s : List UInt8) (u : Value) (w' : World) : Prop :=
  (match vl s with
  | some (n, r) => ∃ m : Nat, u = .tuple #[.int .u64 n, .int .i64 m] ∧ 0 < m ∧ m ≤ s.length ∧ r = s.drop m
  | none => ∃ m : Int, u = .tuple #[.int .u64 0, .int .i64 m] ∧ m ≤ 0) ∧ Ext none1 w w'
theorem vlPost_some {w : World} {s : List UInt8} {n m : Nat} {r : List UInt8} (h : vl s = some (n, r)) (h0 : 0 < m) (h1 : m ≤ s.length) (h2 : r = s.drop m) : vlPost w s (.tuple #[.int .u64 n, .int .i64 m]) w := by
  simp only [vlPost, h]; exact ⟨⟨m, rfl, h0, h1, h2⟩, Ext.refl _ _⟩
theorem lo1 (a b : Nat) (ha : a < 128) (hb : b < 128) : bits .or .u64 (a : Int) ((b : Int) * 128) = ((a + b * 128 : Nat) : Int) := by
  rw [bits_join_low .u64 64 (by decide) wraps_u64 7 _ _ (by omega) (by omega) (by omega) (by omega) (by omega) (by omega)]; omega
theorem lo2 (a b : Nat) (ha : a < 16384) (hb : b < 128) : bits .or .u64 (a : Int) ((b : Int) * 16384) = ((a + b * 16384 : Nat) : Int) := by
  rw [bits_join_low .u64 64 (by decide) wraps_u64 14 _ _ (by omega) (by omega) (by omega) (by omega) (by omega) (by omega)]; omega
theorem lo3 (a b : Nat) (ha : a < 2097152) (hb : b < 128) : bits .or .u64 (a : Int) ((b : Int) * 2097152) = ((a + b * 2097152 : Nat) : Int) := by
  rw [bits_join_low .u64 64 (by decide) wraps_u64 21 _ _ (by omega) (by omega) (by omega) (by omega) (by omega) (by omega)]; omega
theorem lo4 (a b : Nat) (ha : a < 268435456) (hb : b < 128) : bits .or .u64 (a : Int) ((b : Int) * 268435456) = ((a + b * 268435456 : Nat) : Int) := by
  rw [bits_join_low .u64 64 (by decide) wraps_u64 28 _ _ (by omega) (by omega) (by omega) (by omega) (by omega) (by omega)]; omega
theorem lo5 (a b : Nat) (ha : a < 34359738368) (hb : b < 128) : bits .or .u64 (a : Int) ((b : Int) * 34359738368) = ((a + b * 34359738368 : Nat) : Int) := by
  rw [bits_join_low .u64 64 (by decide) wraps_u64 35 _ _ (by omega) (by omega) (by omega) (by omega) (by omega) (by omega)]; omega
theorem lo6 (a b : Nat) (ha : a < 4398046511104) (hb : b < 128) : bits .or .u64 (a : Int) ((b : Int) * 4398046511104) = ((a + b * 4398046511104 : Nat) : Int) := by
  rw [bits_join_low .u64 64 (by decide) wraps_u64 42 _ _ (by omega) (by omega) (by omega) (by omega) (by omega) (by omega)]; omega
theorem lo7 (a b : Nat) (ha : a < 562949953421312) (hb : b < 128) : bits .or .u64 (a : Int) ((b : Int) * 562949953421312) = ((a + b * 562949953421312 : Nat) : Int) := by
  rw [bits_join_low .u64 64 (by decide) wraps_u64 49 _ _ (by omega) (by omega) (by omega) (by omega) (by omega) (by omega)]; omega
theorem lo8 (a b : Nat) (ha : a < 72057594037927936) (hb : b < 128) : bits .or .u64 (a : Int) ((b : Int) * 72057594037927936) = ((a + b * 72057594037927936 : Nat) : Int) := by
  rw [bits_join_low .u64 64 (by decide) wraps_u64 56 _ _ (by omega) (by omega) (by omega) (by omega) (by omega) (by omega)]; omega
theorem lo9 (a b : Nat) (ha : a < 9223372036854775808) (hb : b < 2) : bits .or .u64 (a : Int) ((b : Int) * 9223372036854775808) = ((a + b * 9223372036854775808 : Nat) : Int) := by
  rw [bits_join_low .u64 64 (by decide) wraps_u64 63 _ _ (by omega) (by omega) (by omega) (by omega) (by omega) (by omega)]; omega
end Go.Kg
