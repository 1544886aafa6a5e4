/- What is proved here: how the code of the messages runs, in general: a semantics of calls by their texts, and contracts of the functions of kbin and of the reference. No condition but those that each theorem names. -/
import Derived.Lib.AppendZerosOnto
import Derived.Maps.RangeRun
import Derived.Shelf.Strings.TrimSpace
import Derived.Shelf.Strings.OnBuilder
import Derived.ProofKit
import Derived.LaidLaws
import Derived.Lib.LaidCaseMet
import Derived.Handed
import Derived.Test.YtfmkmpnomjmdoaaDoorKa
set_option linter.unusedSectionVars false
set_option linter.unusedSimpArgs false
set_option linter.unusedVariables false
set_option linter.unusedSimpArgs false
set_option linter.unusedVariables false
namespace Go.Kg
open Go
section
variable {P : Program} {f : Nat → Value} {ty : TypeId} {w : World} {K K' : Value → World → Prop}
theorem optK_mono {α : Type} {x : Option α} {k k' : α → Prop} (h : ∀ a, k a → k' a) (hq : optK x k) : optK x k' := by
  cases x with
  | none => exact hq
  | some a => exact h a hq
theorem putK_mono {p : Addr} {vs : List Value} {k k' : World → Prop} (h : ∀ w, k w → k' w) (hq : putK w p vs k) : putK w p vs k' := by
  unfold putK at *; split
  · rename_i hb; rw [hb] at hq; exact ⟨hq.1, h _ hq.2⟩
  · rename_i hn
    split at hq
    · rename_i hb; exact (hn _ _ hb).elim
    · exact hq
theorem put1K_mono {p : Addr} {v : Value} {k k' : World → Prop} (h : ∀ w, k w → k' w) (hq : put1K w p v k) : put1K w p v k' := by
  unfold put1K at *; split
  · rename_i hb; rw [hb] at hq; exact ⟨hq.1, h _ hq.2⟩
  · rename_i hn
    split at hq
    · rename_i hb; exact (hn _ _ hb).elim
    · exact hq
theorem storeK_mono {T : Nat} {v : Value} {p : Addr} {k k' : World → Prop} (h : ∀ w, k w → k' w) (hq : storeK P w T v p k) : storeK P w T v p k' := by
  unfold storeK at *
  generalize kindOf P T = z at *
  cases z with
  | scl => exact ⟨hq.1, put1K_mono h hq.2⟩
  | bad => exact hq
  | agg n =>
    simp only at hq ⊢
    generalize aggCells? v = y at *
    cases y with
    | none => exact hq
    | some cs => exact ⟨hq.1, putK_mono h hq.2⟩
theorem lenK_mono {T : Nat} {v : Value} (h : ∀ v w, K v w → K' v w) (hq : lenK P T w K v) : lenK P T w K' v := by
  cases v <;> simp only [lenK] at hq ⊢ <;> first | exact ⟨hq.1, optK_mono (fun _ => h _ _) hq.2⟩ | exact optK_mono (fun _ => h _ _) hq
theorem callLenK_mono {xs : List Operand} {ts : List TypeId} (h : ∀ v w, K v w → K' v w) (hq : callLenK P f w K xs ts) : callLenK P f w K' xs ts := by
  unfold callLenK at *
  split
  · exact lenK_mono h hq
  · rename_i hn
    split at hq
    · exact (hn _ _ rfl rfl).elim
    · exact hq
theorem callK_mono {c : Call} (h : ∀ v w, K v w → K' v w) (hq : callK P f c ty w K) : callK P f c ty w K' := by
  unfold callK at *
  cases hc : c.callee with
  | builtin b =>
    rw [hc] at hq
    cases b <;> first | exact callLenK_mono h hq | exact stepF_mono h hq
  | invoke a b => rw [hc] at hq; exact stepF_mono h hq
  | value x =>
    rw [hc] at hq
    cases x with
    | func g => exact Ret.mono hq h
    | const v => exact hq
    | global g => exact hq
    | tmp t =>
      simp only at hq ⊢
      split
      · rename_i hv; rw [hv] at hq; exact Ret.mono hq h
      · rename_i hn
        split at hq
        · rename_i hv; exact (hn _ _ _ hv).elim
        · exact hq
theorem stp_mono {op : Op} (h : ∀ v w, K v w → K' v w) (hq : stp P f op ty w K) : stp P f op ty w K' := by
  cases op <;> simp only [stp] at hq ⊢ <;> first
    | exact h _ _ hq
    | exact optK_mono (fun _ => h _ _) hq
    | exact optK_mono (fun _ => optK_mono (fun _ => h _ _)) hq
    | exact optK_mono (fun _ => storeK_mono (fun _ => h _ _)) hq
    | exact callK_mono h hq
    | exact stepF_mono h hq
    | (split at hq <;> first | exact hq.elim | exact optK_mono (fun _ => h _ _) hq | exact optK_mono (fun _ => optK_mono (fun _ => h _ _)) hq | exact stepF_mono h hq)
theorem regW_mono : ∀ (l : List Ro) {Q Q' : (Nat → Value) → World → Prop} {f : Nat → Value} {w : World}, (∀ f w, Q f w → Q' f w) → regW P Q l f w → regW P Q' l f w := by
  intro l
  induction l with
  | nil => intro Q Q' f w h hq; exact h _ _ hq
  | cons x r ih =>
    intro Q Q' f w h hq
    rw [regW_cons] at hq ⊢
    split
    · rename_i hw; rw [if_pos hw] at hq; exact stp_mono (fun v w hq => ih h hq) hq
    · rename_i hw; rw [if_neg hw] at hq; exact ih h hq
theorem regHW_mono {S : World → Prop} : ∀ (l : List (Bool × Ro)) {Q Q' : (Nat → Value) → World → Prop} {f : Nat → Value} {w : World}, (∀ f w, Q f w → Q' f w) → regHW P S Q l f w → regHW P S Q' l f w := by
  intro l
  induction l with
  | nil => intro Q Q' f w h hq; exact h _ _ hq
  | cons x r ih =>
    obtain ⟨b, x⟩ := x
    intro Q Q' f w h hq
    cases b
    · rw [regHW_false] at hq ⊢
      split
      · rename_i hw; rw [if_pos hw] at hq; exact stp_mono (fun v w hq => ⟨hq.1, ih h hq.2⟩) hq
      · rename_i hw; rw [if_neg hw] at hq; exact ih h hq
    · rw [regHW_true] at hq ⊢
      split
      · rename_i hw; rw [if_pos hw] at hq; exact optK_mono (fun v hq => ⟨hq.1, ih h hq.2⟩) hq
      · rename_i hw; rw [if_neg hw] at hq; exact ih h hq
theorem Ir.cw_mono : ∀ (c : Ir) {Q Q' : Post} {f : Nat → Value} {w : World}, (∀ e f w, Q e f w → Q' e f w) → c.cw P Q f w → c.cw P Q' f w := by
  intro c
  induction c with
  | reg l => intro Q Q' f w h hq; exact regW_mono l (h _) hq
  | regH l => intro Q Q' f w h ⟨S, h1, h2⟩; exact ⟨S, h1, regHW_mono l (h _) h2⟩
  | seq a b iha ihb =>
    intro Q Q' f w h hq
    refine iha ?_ hq
    intro e f w; cases e <;> simp only [thenF] <;> first | exact ihb h | exact h _ _ _
  | cond t a b iha ihb =>
    intro Q Q' f w h hq
    rcases hq with ⟨h1, h2⟩ | ⟨h1, h2⟩
    · exact .inl ⟨h1, iha h h2⟩
    · exact .inr ⟨h1, ihb h h2⟩
  | block id b ih =>
    intro Q Q' f w h hq
    refine ih ?_ hq
    intro e f w; cases e <;> simp only [inBlockF] <;> first | exact h _ _ _ | skip
    split
    · exact h _ _ _
    · exact h _ _ _
  | loop b ih =>
    intro Q Q' f w h hq
    obtain ⟨I, μ, h0, hr⟩ := hq
    refine ⟨I, μ, h0, fun f w hI => ih ?_ (hr f w hI)⟩
    intro e f w hq
    cases e <;> first | exact hq | exact h _ _ _ hq
  | exit id => intro Q Q' f w h hq; exact h _ _ _ hq
  | ret => intro Q Q' f w h hq; exact h _ _ _ hq
  | skip => intro Q Q' f w h hq; exact h _ _ _ hq
  | label l => intro Q Q' f w h hq; exact h _ _ _ hq
  | goto l => intro Q Q' f w h hq; exact h _ _ _ hq
  | scope b l rest ihb ihr =>
    intro Q Q' f w h hq
    obtain ⟨J, μ, h0, hr⟩ := hq
    refine ⟨J, μ, ihb ?_ h0, fun f w hJ => ihr ?_ (hr f w hJ)⟩
    · intro e f w hq
      cases e <;> first | exact hq | exact h _ _ _ hq
    · intro e f w hq
      cases e <;> first | exact hq | exact h _ _ _ hq
/-- The ways meet again: what holds there. -/
def meet (R : (Nat → Value) → World → Prop) : Post
  | .normal, f, w => R f w
  | _, _, _ => False
@[simp] theorem meet_normal {R : (Nat → Value) → World → Prop} {f : Nat → Value} {w : World} : meet R .normal f w = R f w := (rfl)
/-- the same, where the way may also leave -/
def meetOr (R : (Nat → Value) → World → Prop) (Q : Post) : Post
  | .normal, f, w => R f w
  | e, f, w => Q e f w
@[simp] theorem meetOr_normal {R : (Nat → Value) → World → Prop} {Q : Post} {f : Nat → Value} {w : World} : meetOr R Q .normal f w = R f w := (rfl)
@[simp] theorem meetOr_ret {R : (Nat → Value) → World → Prop} {Q : Post} {f : Nat → Value} {w : World} : meetOr R Q .ret f w = Q .ret f w := (rfl)
@[simp] theorem meetOr_exit {R : (Nat → Value) → World → Prop} {Q : Post} {f : Nat → Value} {w : World} {i : Nat} : meetOr R Q (.exit i) f w = Q (.exit i) f w := (rfl)
/-- the same, where the way may also leave by one exit -/
def meetX (R X : (Nat → Value) → World → Prop) (id : Nat) : Post
  | .normal, f, w => R f w
  | .exit i, f, w => i = id ∧ X f w
  | _, _, _ => False
@[simp] theorem meetX_normal {R X : (Nat → Value) → World → Prop} {id : Nat} {f : Nat → Value} {w : World} : meetX R X id .normal f w = R f w := (rfl)
@[simp] theorem meetX_exit {R X : (Nat → Value) → World → Prop} {id i : Nat} {f : Nat → Value} {w : World} : meetX R X id (.exit i) f w = (i = id ∧ X f w) := (rfl)
/-- and where it may return -/
def meetR (R X : (Nat → Value) → World → Prop) : Post
  | .normal, f, w => R f w
  | .ret, f, w => X f w
  | _, _, _ => False
@[simp] theorem meetR_normal {R X : (Nat → Value) → World → Prop} {f : Nat → Value} {w : World} : meetR R X .normal f w = R f w := (rfl)
@[simp] theorem meetR_ret {R X : (Nat → Value) → World → Prop} {f : Nat → Value} {w : World} : meetR R X .ret f w = X f w := (rfl)
theorem cw_blockThenR {a : Ir} {Q : Post} {id : Nat} {k : (Nat → Value) → World → Prop} {f : Nat → Value} {w : World} (R X : (Nat → Value) → World → Prop) (ha : a.cw P (inBlockF id (meetR R X)) f w) (hb : ∀ f w, R f w → k f w) (hx : ∀ f w, X f w → Q .ret f w) : a.cw P (inBlockF id (thenF k Q)) f w :=
  Ir.cw_mono a (fun e f w h => by
    cases e <;> simp only [inBlockF] at h ⊢ <;> first | exact hb _ _ h | exact hx _ _ h | exact h.elim | skip
    split
    · rename_i e; rw [if_pos e] at h; exact hb _ _ h
    · rename_i e; rw [if_neg e] at h; exact h.elim) ha
/-- a block as a whole -/
theorem cw_blockThen {a : Ir} {Q : Post} {id : Nat} {k : (Nat → Value) → World → Prop} {f : Nat → Value} {w : World} (R : (Nat → Value) → World → Prop) (ha : a.cw P (inBlockF id (meet R)) f w) (hb : ∀ f w, R f w → k f w) : a.cw P (inBlockF id (thenF k Q)) f w :=
  Ir.cw_mono a (fun e f w h => by
    cases e <;> simp only [inBlockF] at h ⊢ <;> first | exact hb _ _ h | exact h.elim | skip
    split
    · rename_i e; rw [if_pos e] at h; exact hb _ _ h
    · rename_i e; rw [if_neg e] at h; exact h.elim) ha
end
end Go.Kg

set_option linter.unusedSimpArgs false
set_option linter.unusedVariables false
namespace Go.Kg
open Go
structure TyG (P : Program) (E : Env) : Prop extends TyF P E where
  gT : SliI P E.t_l_spec_Tag E.t_spec_Tag 2 32 (.agg #[.int .u32 0, .slice none 0 0])
  uTag : ∃ fs, P.underlying E.t_spec_Tag = some (.struct fs)
  pTag : (places P E.t_spec_Tag).isSome = true
  gTr : SliI P E.t_l_spec_Tree E.t_spec_Tree 5 88 (.agg #[.int .i64 0, .slice none 0 0, .bool false, .slice none 0 0, .slice none 0 0])
section
variable {P : Program} {E : Env} (ht : TyG P E)
include ht
end
end Go.Kg

set_option linter.unusedSimpArgs false
set_option linter.unusedVariables false
set_option linter.unusedSectionVars false
namespace Go.Kg
open Go
/-- An own row of bytes, read. -/
theorem own_bytes {u8 : Nat} {w : World} {base : Nat} {v : Value} {s : List UInt8} (h : OwnB u8 w base v s) : BytesAt w All v s := by
  obtain ⟨n, h1, h2⟩ := h
  have hn : n = s.length := by simpa using h1.symm
  subst hn
  rcases h2 with ⟨rfl, h0⟩ | ⟨g, cap, cur, rfl, hb, hg, hnc, hcm, hcs, htake⟩
  · exact .inl ⟨⟨_, rfl⟩, List.eq_nil_of_length_eq_zero h0⟩
  · refine .inr ⟨g, 0, cap, rfl, hnc, fun _ => trivial, fun i x hx => ?_⟩
    rw [cell_of_blk hg, Nat.zero_add]
    have : (cur.toList.take (s.length * 1))[i]? = some (.int .u8 x.toNat) := by rw [htake]; simp [cellsOf, hx]
    rw [List.getElem?_take] at this
    split at this
    · simpa using this
    · cases this
section
variable {P : Program} {E : Env} (ht : TyF P E)
include ht
end
end Go.Kg

set_option linter.unusedSimpArgs false
set_option linter.unusedVariables false
namespace Go.Kg
open Go
section
variable {P : Program} {E : Env} (ht : TyG P E)
include ht
end
end Go.Kg

set_option linter.unusedSimpArgs false
set_option linter.unusedVariables false
namespace Go.Kg
open Go
section
variable {P : Program} {E : Env} (ht : TyG P E)
include ht
end
end Go.Kg

set_option linter.unusedSimpArgs false
set_option linter.unusedVariables false
namespace Go.Kg
open Go
theorem own_bytesK {u8 : Nat} {w : World} {base : Nat} {v : Value} {s : List UInt8} (h : OwnB u8 w base v s) : BytesAt w (fun b => base ≤ b ∧ b < w.heap.size) v s := by
  have hb := fun b hb => Own.below h (b := b) hb
  rcases own_bytes h with h | ⟨b, o, c, rfl, h2, _, h3⟩
  · exact .inl h
  · exact .inr ⟨b, o, c, rfl, h2, fun _ => hb b rfl, h3⟩
section
variable {P : Program} {E : Env} (ht : TyG P E)
include ht
end
end Go.Kg

set_option linter.unusedSimpArgs false
set_option linter.unusedVariables false
namespace Go.Kg
open Go
def FS.okAll : FS → Prop
  | .nil => True
  | .cons h sub rest => FH.ok h ∧ fits h.dflt ∧ sub.len ≤ 1000 ∧ sub.okAll ∧ rest.okAll
theorem FS.okAll.heads : ∀ {F : FS}, F.okAll → ∀ g ∈ F.heads, FH.ok g
  | .nil, _, g, hg => by cases hg
  | .cons h sub rest, ho, g, hg => by
    rcases List.mem_cons.1 hg with rfl | hg
    · exact ho.1
    · exact FS.okAll.heads ho.2.2.2.2 g hg
/-- The functions of package spec that write. -/
structure SpecFns (P : Program) (E : Env) : Prop where
  Fixed : FnIs P E.f_spec_Fixed nt_spec_Fixed (rs_spec_Fixed E) (ir_spec_Fixed E)
  width : FnIs P E.f_spec_width nt_spec_width (rs_spec_width E) (ir_spec_width E)
  Uvarint : FnIs P E.f_spec_Uvarint nt_spec_Uvarint (rs_spec_Uvarint E) (ir_spec_Uvarint E)
  has : FnIs P E.f_spec_Field_has nt_spec_Field_has (rs_spec_Field_has E) (ir_spec_Field_has E)
  null : FnIs P E.f_spec_Field_null nt_spec_Field_null (rs_spec_Field_null E) (ir_spec_Field_null E)
  whole : FnIs P E.f_spec_whole nt_spec_whole (rs_spec_whole E) (ir_spec_whole E)
  things : FnIs P E.f_spec_things nt_spec_things (rs_spec_things E) (ir_spec_things E)
  counted : FnIs P E.f_spec_counted nt_spec_counted (rs_spec_counted E) (ir_spec_counted E)
  at_ : FnIs P E.f_spec_at nt_spec_at (rs_spec_at E) (ir_spec_at E)
  known : FnIs P E.f_spec_known nt_spec_known (rs_spec_known E) (ir_spec_known E)
  unknown : FnIs P E.f_spec_unknown nt_spec_unknown (rs_spec_unknown E) (ir_spec_unknown E)
  Same : FnIs P E.f_spec_Same nt_spec_Same (rs_spec_Same E) (ir_spec_Same E)
  value : FnIs P E.f_spec_value nt_spec_value (rs_spec_value E) (ir_spec_value E)
  field : FnIs P E.f_spec_field nt_spec_field (rs_spec_field E) (ir_spec_field E)
  usual : FnIs P E.f_spec_usual nt_spec_usual (rs_spec_usual E) (ir_spec_usual E)
  part : FnIs P E.f_spec_part nt_spec_part (rs_spec_part E) (ir_spec_part E)
  Write : FnIs P E.f_spec_Write nt_spec_Write (rs_spec_Write E) (ir_spec_Write E)
section
variable {P : Program} {E : Env} (ht : TyG P E) (hs : SpecFns P E)
include ht hs
end
/-- What a message's type is in memory. -/
structure TyM (P : Program) (E : Env) : Prop extends TyG P E where
  m0 : fldOff P E.t_spec_Message 0 = some 0
  m1 : fldOff P E.t_spec_Message 1 = some 1
section
variable {P : Program} {E : Env} (ht : TyM P E) (hs : SpecFns P E)
include ht hs
end
end Go.Kg

set_option linter.unusedSimpArgs false
set_option linter.unusedVariables false
namespace Go.Kg
open Go
/-- No cell of the tree's box but the list's. -/
def zT (lv : Value) : List Value := [.int .i64 0, .slice none 0 0, .bool false, lv, .slice none 0 0]
/-- A tree that says no text and no tags, its lists in blocks of K. -/
inductive DTr (w : World) (K : Nat → Prop) : List Value → Tr → Prop where
  | mk {n : Int} {nul : Bool} {l : List Tr} {lv : Value} {ls : Option (List (List Value))} (hn : fits n) (ha : ArrAt w K 5 lv ls) (hl : (ls.getD []).length = l.length)
      (he : ∀ (i : Nat) c t, (ls.getD [])[i]? = some c → l[i]? = some t → DTr w K c t) : DTr w K [.int .i64 n, .slice none 0 0, .bool nul, lv, .slice none 0 0] (.mk n [] nul l [])
theorem DTr.ext {C K : Nat → Prop} {w w' : World} (he : Ext C w w') (hK : ∀ b, b < w.heap.size → K b → ¬ C b) {cs : List Value} {t : Tr} (h : DTr w K cs t) : DTr w' K cs t := by
  induction h with
  | mk hn ha hl _ ih => exact .mk hn (ha.ext he hK) hl ih
theorem ArrAt.mono {w : World} {K K' : Nat → Prop} (h : ∀ b, K b → K' b) {sz : Nat} {v : Value} {ls : Option (List (List Value))} (ha : ArrAt w K sz v ls) : ArrAt w K' sz v ls := by
  cases ls with
  | none => exact ha
  | some ls => obtain ⟨b, o, c, rfl, hk, hn, hx⟩ := ha; exact ⟨b, o, c, rfl, h b hk, hn, hx⟩
theorem DTr.mono {K K' : Nat → Prop} {w : World} (hK : ∀ b, K b → K' b) {cs : List Value} {t : Tr} (h : DTr w K cs t) : DTr w K' cs t := by
  induction h with
  | mk hn ha hl _ ih => exact .mk hn (ha.mono hK) hl ih
theorem DTr.tree {K : Nat → Prop} {w : World} {cs : List Value} {t : Tr} (h : DTr w K cs t) : TreeAt w cs t := by
  induction h with
  | mk hn ha hl _ ih => exact .mk ⟨hn, by simp⟩ (.inl ⟨⟨_, rfl⟩, rfl⟩) (ha.mono (fun _ _ => trivial)).toE hl ih ⟨none, ⟨_, rfl⟩, rfl, by simp⟩
structure TyD (P : Program) (E : Env) : Prop extends TyM P E where
  pT5 : places P E.t_spec_Tree = some [(0, 1), (1, 1), (2, 1), (3, 1), (4, 1)]
  fT3 : ∀ (a b c d e : Value), fld? P E.t_spec_Tree 3 #[a, b, c, d, e] = some d
section
variable {P : Program} {E : Env} (ht : TyD P E)
include ht
end
end Go.Kg

set_option linter.unusedSimpArgs false
set_option linter.unusedVariables false
namespace Go.Kg
open Go
theorem FS.okAll.dflt : ∀ {F : FS}, F.okAll → ∀ h ∈ F.heads, fits h.dflt
  | .nil, _, h, hh => by cases hh
  | .cons h' s r, ho, h, hh => by
    rcases List.mem_cons.1 hh with rfl | hh
    · exact ho.2.1
    · exact FS.okAll.dflt ho.2.2.2.2 h hh
def FH.zero : FH := ⟨0, 0, 0, 0, 0, 0, 0⟩
def FH.set (h : FH) (k : Nat) (n : Int) : FH :=
  match k with
  | 0 => { h with kind := n } | 1 => { h with frm := n } | 2 => { h with to := n } | 3 => { h with null := n } | 4 => { h with tag := n } | 5 => { h with dflt := n } | _ => { h with of_ := n }
/-- A field's text: its parts in order, and the function of its own fields (with these). -/
structure FSrc where
  ps : List (Nat × Int)
  sub : Option (Nat × FS)
def FSrc.h (x : FSrc) : FH := x.ps.foldl (fun h p => h.set p.1 p.2) FH.zero
def FSrc.subF (x : FSrc) : FS := match x.sub with | some (_, F) => F | none => .nil
def FSrc.sz (x : FSrc) : Nat := match x.sub with | some _ => 2 | none => 1
structure TyK (P : Program) (E : Env) : Prop extends TyD P E where
  pF8 : places P E.t_spec_Field = some [(0, 1), (1, 1), (2, 1), (3, 1), (4, 1), (5, 1), (6, 1), (7, 1)]
  gF : SliI P E.t_l_spec_Field E.t_spec_Field 8 80 (.agg zField)
  pM : places P E.t_spec_Message = some [(0, 1), (1, 1)]
  zM : zeroOf P E.t_spec_Message = some (.agg #[.slice none 0 0, .int .i64 0])
  kM : kindOf P E.t_spec_Message = .agg 2
/-- Fields whose rows lie in blocks of K. -/
def FsCellsK (w : World) (K : Nat → Prop) : List (List Value) → FS → Prop
  | [], .nil => True
  | c :: cs, .cons h sub rest => (∃ sv ls, c = h.cells ++ [sv] ∧ ArrAt w K 8 sv ls ∧ FsCellsK w K (ls.getD []) sub) ∧ FsCellsK w K cs rest
  | _, _ => False
def FsAtK (w : World) (K : Nat → Prop) (v : Value) (F : FS) : Prop := ∃ ls, ArrAt w K 8 v ls ∧ FsCellsK w K (ls.getD []) F
theorem FsCellsK.ext {C K K' : Nat → Prop} {w w' : World} (he : Ext C w w') (hK : ∀ b, b < w.heap.size → K b → ¬ C b) (hm : ∀ b, K b → K' b) : ∀ {F : FS} {ls : List (List Value)}, FsCellsK w K ls F → FsCellsK w' K' ls F := by
  intro F
  induction F with
  | nil => intro ls h; cases ls with
    | nil => trivial
    | cons c cs => exact h.elim
  | cons h sub rest ihs ihr =>
    intro ls hh
    cases ls with
    | nil => exact hh.elim
    | cons c cs =>
      obtain ⟨⟨sv, l, h1, h2, h3⟩, h4⟩ := hh
      exact ⟨⟨sv, l, h1, (h2.ext he hK).mono hm, ihs h3⟩, ihr h4⟩
theorem FsAtK.ext {C K K' : Nat → Prop} {w w' : World} (he : Ext C w w') (hK : ∀ b, b < w.heap.size → K b → ¬ C b) (hm : ∀ b, K b → K' b) {v : Value} {F : FS} (h : FsAtK w K v F) : FsAtK w' K' v F := by
  obtain ⟨ls, h1, h2⟩ := h; exact ⟨ls, (h1.ext he hK).mono hm, h2.ext he hK hm⟩
theorem FsCellsK.all {K : Nat → Prop} {w : World} : ∀ {F : FS} {ls : List (List Value)}, FsCellsK w K ls F → FsCells w ls F := by
  intro F
  induction F with
  | nil => intro ls h; cases ls with
    | nil => trivial
    | cons c cs => exact h.elim
  | cons h sub rest ihs ihr =>
    intro ls hh
    cases ls with
    | nil => exact hh.elim
    | cons c cs =>
      obtain ⟨⟨sv, l, h1, h2, h3⟩, h4⟩ := hh
      exact ⟨⟨sv, l, h1, h2.mono (fun _ _ => trivial), ihs h3⟩, ihr h4⟩
theorem FsAtK.all {K : Nat → Prop} {w : World} {v : Value} {F : FS} (h : FsAtK w K v F) : FsAt w v F := by
  obtain ⟨ls, h1, h2⟩ := h; exact ⟨ls, h1.mono (fun _ _ => trivial), h2.all⟩
/-- What the fields are, once made: their rows at base and above. -/
def FldsV (w : World) (base : Nat) : List FSrc → List Value → Prop
  | [], [] => True
  | x :: r, v :: vs => (∃ sv, v = .agg (x.h.cells ++ [sv]).toArray ∧ FsAtK w (base ≤ ·) sv x.subF) ∧ FldsV w base r vs
  | _, _ => False
theorem FldsV.ext {w w' : World} {base : Nat} (he : Ext none1 w w') : ∀ {xs : List FSrc} {vs : List Value}, FldsV w base xs vs → FldsV w' base xs vs
  | [], [], _ => trivial
  | x :: r, v :: vs, h => ⟨by obtain ⟨sv, h1, h2⟩ := h.1; exact ⟨sv, h1, h2.ext he (fun _ _ _ h => h) (fun _ h => h)⟩, FldsV.ext he h.2⟩
  | [], _ :: _, h => h.elim
  | _ :: _, [], h => h.elim
theorem FldsV.len {w : World} {base : Nat} : ∀ {xs : List FSrc} {vs : List Value}, FldsV w base xs vs → vs.length = xs.length ∧ ∀ v ∈ vs, v.cells.size = 8
  | [], [], _ => ⟨rfl, by simp⟩
  | x :: r, v :: vs, h => by
    obtain ⟨h1, h2⟩ := FldsV.len h.2
    obtain ⟨sv, rfl, _⟩ := h.1
    refine ⟨by simp [h1], fun u hu => ?_⟩
    rcases List.mem_cons.1 hu with rfl | hu
    · simp [Value.cells]
    · exact h2 u hu
  | [], _ :: _, h => h.elim
  | _ :: _, [], h => h.elim
theorem FsAtK.nil (w : World) (K : Nat → Prop) : FsAtK w K (.slice none 0 0) .nil := ⟨none, rfl, trivial⟩
section
variable {P : Program} {E : Env} (ht : TyK P E)
include ht
end
end Go.Kg

set_option linter.unusedVariables false
namespace Go.Kg
open Go
end Go.Kg

set_option linter.unusedSimpArgs false
set_option linter.unusedVariables false
namespace Go.Kg
open Go
section
variable {P : Program} {E : Env}
end
end Go.Kg

set_option linter.unusedSimpArgs false
set_option linter.unusedVariables false
namespace Go.Kg
open Go
end Go.Kg

set_option linter.unusedSimpArgs false
set_option linter.unusedVariables false
namespace Go.Kg
open Go
/-- the default of a number, as a value -/
def Prim.dval : Prim → Int → Option Value
  | .bool, d => if d = 0 then none else some (.bool true)
  | .i8, d => if d = 0 then none else some (.int .i8 d)
  | .i16, d => if d = 0 then none else some (.int .i16 d)
  | .u16, d => if d = 0 then none else some (.int .u16 d)
  | .i32, d => if d = 0 then none else some (.int .i32 d)
  | .i64, d => if d = 0 then none else some (.int .i64 d)
  | _, _ => none
structure DSt where
  k : Nat
  o : Nat
  ty : Nat
  v : Value
def Sch.dst (C : Cfg) : Sch → List DSt
  | .fin => []
  | .tags _ _ => []
  | .prim _ k o p en d rest => (match p.dval d with | some v => [⟨k, o, if en = 0 then p.ty C.E else en, v⟩] | none => []) ++ rest.dst C
  | .arrP _ _ _ _ _ _ rest => rest.dst C
  | .arrS _ _ _ _ _ _ _ _ _ _ rest => rest.dst C
  | .sub _ _ _ _ _ _ _ _ rest => rest.dst C
  | .opt _ _ _ _ _ _ _ _ _ rest => rest.dst C
end Go.Kg

set_option linter.unusedSimpArgs false
set_option linter.unusedVariables false
namespace Go.Kg
open Go
/-- What a new thing says. -/
def Prim.dfl : (p : Prim) → Int → p.T
  | .bool, d => (show Bool from decide (d ≠ 0))
  | .i8, d => (show Int from d)
  | .i16, d => (show Int from d)
  | .u16, d => (show Int from d)
  | .i32, d => (show Int from d)
  | .i64, d => (show Int from d)
  | .uuid, _ => (show List UInt8 from List.replicate 16 0)
  | .str, _ => (show List UInt8 from [])
  | .bytes, _ => (show List UInt8 from [])
  | .nstr, _ => (show Option (List UInt8) from none)
  | .nbytes, _ => (show Option (List UInt8) from none)
def Sch.dfl : (S : Sch) → S.T
  | .fin => ()
  | .tags _ _ => []
  | .prim _ _ _ p _ d rest => (p.dfl d, rest.dfl)
  | .arrP _ _ _ _ _ _ rest => (none, rest.dfl)
  | .arrS _ _ _ _ _ _ _ _ _ _ rest => (none, rest.dfl)
  | .sub _ _ _ _ _ _ _ e rest => (e.dfl, rest.dfl)
  | .opt _ _ _ _ _ _ _ _ _ rest => (none, rest.dfl)
end Go.Kg

set_option linter.unusedSimpArgs false
set_option linter.unusedVariables false
namespace Go.Kg
open Go
end Go.Kg

set_option linter.unusedSimpArgs false
set_option linter.unusedVariables false
namespace Go.Kg
open Go
section
variable {P : Program} {E : Env}
end
end Go.Kg

set_option linter.unusedSimpArgs false
set_option linter.unusedVariables false
set_option linter.unusedSectionVars false
namespace Go.Kg
open Go
structure TyWd (P : Program) (E : Env) (tLS tLN tN : Nat) (zs zn : Value) : Prop where
  sS : SliI P tLS E.tS 1 16 zs
  sN : SliI P tLN tN 2 24 zn
  kN : kindOf P tN = .agg 2
  n1 : fldOff P tN 1 = some 1
  kS : kindOf P E.tS = .scl
  zN : ∃ a b, zeroOf P tN = some (.agg #[a, b])
  pl : places P tN = some [(0, 1), (1, 1)]
  iInt : intKind? P E.tInt = some .i64
/-- a row of texts -/
def WordsAt (w : World) (v : Value) (ws : List ByteArray) : Prop := ∃ b c, v = .slice (some ⟨b, 0, none⟩) ws.length c ∧ ∀ (i : Nat) s, ws[i]? = some s → w.cell? ⟨b, i, none⟩ = some (.string s)
theorem WordsAt.ext {w w' : World} {v : Value} {ws : List ByteArray} (h : WordsAt w v ws) (he : Ext none1 w w') : WordsAt w' v ws := by
  obtain ⟨b, c, rfl, h⟩ := h
  exact ⟨b, c, rfl, fun i s hi => he.cell (h i s hi) (fun h => h)⟩
section
variable {P : Program} {E : Env} {tLS tLN tN : Nat} {zs zn : Value} (ht : TyWd P E tLS tLN tN zs zn)
include ht
/-- a row of names -/
def NamesAt (w : World) (v : Value) (ws : List ByteArray) : Prop := ∃ b c, v = .slice (some ⟨b, 0, none⟩) ws.length c ∧ ∀ (i : Nat) s, ws[i]? = some s → ∃ n, CellsAt w b (i * 2) [.int .i64 n, .string s]
theorem NamesAt.ext {w w' : World} {v : Value} {ws : List ByteArray} (h : NamesAt w v ws) (he : Ext none1 w w') : NamesAt w' v ws := by
  obtain ⟨b, c, rfl, h⟩ := h
  refine ⟨b, c, rfl, fun i s hi => ?_⟩
  obtain ⟨n, hc⟩ := h i s hi
  exact ⟨n, CellsAt.ext (K := fun _ => True) he (fun _ _ _ h => h) hc trivial⟩
omit ht in
theorem Own.words {w : World} {base eS : Nat} {v : Value} {ws : List ByteArray} (h : Own w base eS 1 v (ws.map .string)) (h0 : 0 < ws.length) : WordsAt w v ws := by
  obtain ⟨n, h1, h2⟩ := h
  have hn : n = ws.length := by simpa using h1.symm
  subst hn
  rcases h2 with ⟨_, hn⟩ | ⟨g, cap, cur, rfl, hb, hg, hnc, hcm, hcs, htake⟩
  · omega
  · refine ⟨g, cap, rfl, fun i s hs => ?_⟩
    rw [cell_of_blk hg]
    have : (cur.toList.take (ws.length * 1))[i]? = some (.string s) := by rw [htake]; simp [hs]
    rw [List.getElem?_take] at this
    split at this
    · simpa using this
    · cases this
end
end Go.Kg

set_option linter.unusedSimpArgs false
set_option linter.unusedVariables false
namespace Go.Kg
open Go
def rdCNBytes (rs : RS) : Option (List UInt8) × RS := if ((rdUv rs).1 : Int) - 1 < 0 then (none, (rdUv rs).2) else optOf (rdSpan ((rdUv rs).1 - 1) (rdUv rs).2)
def Prim.rd : (p : Prim) → Bool → RS → p.T × RS
  | .bool, _, rs => (boolOf (rdFixed 1 rs).1, (rdFixed 1 rs).2)
  | .i8, _, rs => (IntKind.i8.wrap (rdFixed 1 rs).1, (rdFixed 1 rs).2)
  | .i16, _, rs => (IntKind.i16.wrap (rdFixed 2 rs).1, (rdFixed 2 rs).2)
  | .u16, _, rs => (((rdFixed 2 rs).1 : Int), (rdFixed 2 rs).2)
  | .i32, _, rs => (IntKind.i32.wrap (rdFixed 4 rs).1, (rdFixed 4 rs).2)
  | .i64, _, rs => (IntKind.i64.wrap (rdFixed 8 rs).1, (rdFixed 8 rs).2)
  | .uuid, _, rs => rdUuid rs
  | .str, fl, rs => if fl then rdCStr rs else rdStr rs
  | .nstr, fl, rs => if fl then rdCNStr rs else rdNStr rs
  | .bytes, fl, rs => if fl then rdCBytes rs else rdBytes rs
  | .nbytes, fl, rs => if fl then rdCNBytes rs else rdNBytes rs
/-- a tag is set: in the place of the one of its number, or behind all -/
def setTag (k : Nat) (v : List UInt8) : TagL → TagL
  | [] => [(k, v)]
  | x :: l => if x.1 = k then (k, v) :: l else x :: setTag k v l
def rdTag (l : TagL) (rs : RS) : TagL × RS :=
  let a := rdUv rs
  let b := rdUv a.2
  let c := rdSpan b.1 b.2
  (setTag a.1 c.1 l, c.2)
def rdTagN : Nat → TagL → RS → TagL × RS
  | 0, l, rs => (l, rs)
  | n + 1, l, rs => rdTagN n (rdTag l rs).1 (rdTag l rs).2
def rdTags (rs : RS) : TagL × RS := rdTagN (rdUv rs).1 [] (rdUv rs).2
def rdN {α : Type} (f : RS → Option (α × RS)) : Nat → RS → Option (List α × RS)
  | 0, rs => some ([], rs)
  | n + 1, rs => match f rs with
    | none => none
    | some (x, rs1) => match rdN f n rs1 with
      | none => none
      | some (l, rs2) => some (x :: l, rs2)
/-- a list's length; what a list is that has none -/
def lenRd (fl : Bool) (rs : RS) : Int × RS := if fl then rdCLen rs else rdLen rs
def emptyOf {α : Type} (nul : Option Nat) (ver l : Int) : Option (List α) := match nul with
  | none => none
  | some m => if ver < (m : Int) ∨ l = 0 then some [] else none
def arrRd {α : Type} (nul : Option Nat) (ver : Int) (fl : Bool) (f : RS → Option (α × RS)) (rs : RS) : Option (Option (List α) × RS) :=
  if (lenRd fl rs).2.bad then none
  else if 0 < (lenRd fl rs).1 then match rdN f (lenRd fl rs).1.toNat (lenRd fl rs).2 with
    | none => none
    | some (l, rs2) => some (some l, rs2)
  else some (emptyOf nul ver (lenRd fl rs).1, (lenRd fl rs).2)
/-- present := b.Int8(); present != -1 && b.Ok() -/
def optRd {α : Type} (f : RS → Option (α × RS)) (rs : RS) : Option (Option α × RS) :=
  if Prim.rd .i8 false rs |>.2.bad then some (none, (Prim.rd .i8 false rs).2)
  else if (show Int from (Prim.rd .i8 false rs).1) = -1 then some (none, (Prim.rd .i8 false rs).2)
  else (f (Prim.rd .i8 false rs).2).map fun x => (some x.1, x.2)
/-- none: the early return behind a list's length. -/
def Sch.rd (ver : Int) (fl : Bool) : (S : Sch) → RS → Option (S.T × RS)
  | .fin, rs => some ((), rs)
  | .tags _ _, rs => some (if fl then rdTags rs else ([], rs))
  | .prim g _ _ p _ d rest, rs =>
    if g.on ver then (rest.rd ver fl (p.rd fl rs).2).map fun y => (((p.rd fl rs).1, y.1), y.2)
    else (rest.rd ver fl rs).map fun y => ((p.dfl d, y.1), y.2)
  | .arrP g _ _ _ nul p rest, rs =>
    if g.on ver then match arrRd nul ver fl (fun rs => some (p.rd fl rs)) rs with
      | none => none
      | some (a, rs1) => (rest.rd ver fl rs1).map fun y => ((a, y.1), y.2)
    else (rest.rd ver fl rs).map fun y => ((none, y.1), y.2)
  | .arrS g _ _ _ nul _ _ _ _ e rest, rs =>
    if g.on ver then match arrRd nul ver fl (e.rd ver fl) rs with
      | none => none
      | some (a, rs1) => (rest.rd ver fl rs1).map fun y => ((a, y.1), y.2)
    else (rest.rd ver fl rs).map fun y => ((none, y.1), y.2)
  | .sub g _ _ _ _ _ _ e rest, rs =>
    if g.on ver then match e.rd ver fl rs with
      | none => none
      | some (a, rs1) => (rest.rd ver fl rs1).map fun y => ((a, y.1), y.2)
    else (rest.rd ver fl rs).map fun y => ((e.dfl, y.1), y.2)
  | .opt g _ _ _ _ _ _ _ e rest, rs =>
    if g.on ver then match optRd (e.rd ver fl) rs with
      | none => none
      | some (a, rs1) => (rest.rd ver fl rs1).map fun y => ((a, y.1), y.2)
    else (rest.rd ver fl rs).map fun y => ((none, y.1), y.2)
section
variable {w : World} {K K' : Nat → Prop} (hK : ∀ b, K b → K' b)
include hK
theorem StrPtr.mono {v : Value} {o : Option (List UInt8)} (h : StrPtr w K v o) : StrPtr w K' v o := by
  cases o with
  | none => exact h
  | some l => obtain ⟨a, rfl, hk, hc⟩ := h; exact ⟨a, rfl, hK _ hk, hc⟩
theorem BytesOpt.mono {v : Value} {o : Option (List UInt8)} (h : BytesOpt w K v o) : BytesOpt w K' v o := by
  cases o with
  | none => exact h
  | some l => exact ⟨h.1.mono (fun b _ => hK b), h.2⟩
theorem Prim.rep1_mono {p : Prim} {v : Value} {x : p.T} (h : p.rep1 w K v x) : p.rep1 w K' v x := by
  cases p <;> first | exact h | exact StrPtr.mono hK h | exact BytesAt.mono h (fun b _ => hK b) | exact BytesOpt.mono hK h
theorem TagsAt.mono {v : Value} {l : TagL} (h : TagsAt w K v l) : TagsAt w K' v l := by
  rcases h with h | ⟨b, es, clock, rfl, hk, hb, hs, hn, hl, hx⟩
  · exact .inl h
  · refine .inr ⟨b, es, clock, rfl, hK _ hk, hb, hs, hn, hl, fun i e x h1 h2 => ?_⟩
    obtain ⟨a1, a2, a3, a4⟩ := hx i e x h1 h2
    exact ⟨a1, a2, a3, a4.mono (fun b _ => hK b)⟩
theorem ArrAt.mono' {sz : Nat} {v : Value} {ls : Option (List (List Value))} (h : ArrAt w K sz v ls) : ArrAt w K' sz v ls := by
  cases ls with
  | none => exact h
  | some ls => obtain ⟨b, o, c, rfl, hk, hn, hx⟩ := h; exact ⟨b, o, c, rfl, hK b hk, hn, hx⟩
theorem Sch.Rep_mono : ∀ (S : Sch) {cs : List Value} {x : S.T}, S.Rep w K cs x → S.Rep w K' cs x := by
  intro S
  induction S with
  | fin => intro cs x h; trivial
  | tags k o => intro cs x ⟨v, h1, h2⟩; exact ⟨v, h1, TagsAt.mono hK h2⟩
  | prim g k o p en d rest ih => intro cs x ⟨⟨v, h1, h2⟩, h3⟩; exact ⟨⟨v, h1, Prim.rep1_mono hK h2⟩, ih h3⟩
  | arrP g k o sT nul p rest ih =>
    intro cs x ⟨⟨v, ls, h1, h2, h3, h4, h5⟩, h6⟩
    refine ⟨⟨v, ls, h1, ArrAt.mono' hK h2, h3, h4, fun i es y hi hy => ?_⟩, ih h6⟩
    obtain ⟨u, a1, a2⟩ := h5 i es y hi hy
    exact ⟨u, a1, Prim.rep1_mono hK a2⟩
  | arrS g k o sT nul T PT sz df e rest ihe ih =>
    intro cs x ⟨⟨v, ls, h1, h2, h3, h4, h5⟩, h6⟩
    exact ⟨⟨v, ls, h1, ArrAt.mono' hK h2, h3, h4, fun i es y hi hy => ihe (h5 i es y hi hy)⟩, ih h6⟩
  | sub g k o T PT sz df e rest ihe ih => intro cs x ⟨h1, h2⟩; exact ⟨ihe h1, ih h2⟩
  | opt g k o T PT PP sz df e rest ihe ih =>
    intro cs x ⟨⟨v, h1, h2, h3⟩, h4⟩
    refine ⟨⟨v, h1, h2, fun y hy => ?_⟩, ih h4⟩
    obtain ⟨b, c, es, a1, a2, a3, a4, a5, a6⟩ := h3 y hy
    exact ⟨b, c, es, a1, hK _ a2, a3, a4, a5, ihe a6⟩
end
end Go.Kg

set_option linter.unusedSimpArgs false
set_option linter.unusedVariables false
set_option linter.unusedSectionVars false
namespace Go.Kg
open Go
structure Good {α : Type} (g : RS → α × RS) : Prop where
  ext : ∀ p z nn, (g ⟨p, false, nn⟩).2.bad = false → g ⟨p ++ z, false, nn⟩ = ((g ⟨p, false, nn⟩).1, ⟨(g ⟨p, false, nn⟩).2.src ++ z, false, (g ⟨p, false, nn⟩).2.nn⟩)
  bad : ∀ rs, rs.bad = true → (g rs).2.bad = true
theorem Good.pure {α : Type} (x : Bool → α) : Good (fun rs => (x rs.nn, rs)) := ⟨fun p z nn _ => rfl, fun rs h => h⟩
theorem Good.bind {α β : Type} {g : RS → α × RS} {h : α → RS → β × RS} (hg : Good g) (hh : ∀ a, Good (h a)) : Good (fun rs => h (g rs).1 (g rs).2) := by
  refine ⟨fun p z nn hb => ?_, fun rs hb => (hh _).bad _ (hg.bad rs hb)⟩
  have h1 : (g ⟨p, false, nn⟩).2.bad = false := by
    cases e : (g ⟨p, false, nn⟩).2.bad
    · rfl
    · have h3 := (hh (g ⟨p, false, nn⟩).1).bad _ e
      have h4 : (h (g ⟨p, false, nn⟩).1 (g ⟨p, false, nn⟩).2).2.bad = false := hb
      rw [h3] at h4; cases h4
  have e := hg.ext p z nn h1
  have hb' : (h (g ⟨p, false, nn⟩).1 (g ⟨p, false, nn⟩).2).2.bad = false := hb
  show h (g ⟨p ++ z, false, nn⟩).1 (g ⟨p ++ z, false, nn⟩).2 = ((h (g ⟨p, false, nn⟩).1 (g ⟨p, false, nn⟩).2).1, ⟨(h (g ⟨p, false, nn⟩).1 (g ⟨p, false, nn⟩).2).2.src ++ z, false, (h (g ⟨p, false, nn⟩).1 (g ⟨p, false, nn⟩).2).2.nn⟩)
  rw [e]
  clear e hb
  generalize g ⟨p, false, nn⟩ = y at *
  obtain ⟨a, q, bd, m⟩ := y
  simp only at h1 hb' ⊢
  subst h1
  exact (hh a).ext q z m hb'
theorem Good.map {α β : Type} {g : RS → α × RS} (hg : Good g) (f : α → Bool → β) : Good (fun rs => (f (g rs).1 (g rs).2.nn, (g rs).2)) :=
  hg.bind (h := fun a rs => (f a rs.nn, rs)) (fun a => Good.pure (f a))
theorem Good.fail {α : Type} (x : α) : Good (fun _ => (x, .fail)) := ⟨fun p z nn h => (by cases h), fun rs _ => rfl⟩
theorem Good.congr {α : Type} {f g : RS → α × RS} (h : Good f) (e : ∀ rs, g rs = f rs) : Good g := (funext e : g = f) ▸ h
/-- the same of readers that may end early -/
structure GoodO {α : Type} (g : RS → Option (α × RS)) : Prop where
  ext : ∀ p z nn y rs, g ⟨p, false, nn⟩ = some (y, rs) → rs.bad = false → g ⟨p ++ z, false, nn⟩ = some (y, ⟨rs.src ++ z, false, rs.nn⟩)
  bad : ∀ rs y rs', g rs = some (y, rs') → rs.bad = true → rs'.bad = true
theorem Good.toO {α : Type} {g : RS → α × RS} (h : Good g) : GoodO (fun rs => some (g rs)) := by
  refine ⟨fun p z nn y rs e hb => ?_, fun rs y rs' e hb => ?_⟩
  · simp only [Option.some.injEq] at e ⊢
    rw [h.ext p z nn (by rw [e]; exact hb), e]
  · simp only [Option.some.injEq] at e
    have := h.bad rs hb
    rwa [e] at this
theorem GoodO.bind {α β : Type} {g : RS → Option (α × RS)} {h : α → RS → Option (β × RS)} (hg : GoodO g) (hh : ∀ a, GoodO (h a)) : GoodO (fun rs => (g rs).bind fun x => h x.1 x.2) := by
  refine ⟨fun p z nn y rs e hb => ?_, fun rs y rs' e hb => ?_⟩
  · obtain ⟨⟨a, r1⟩, e1, e2⟩ := Option.bind_eq_some_iff.1 e
    have h1 : r1.bad = false := by
      cases hx : r1.bad
      · rfl
      · have := (hh a).bad r1 y rs e2 hx
        rw [this] at hb; cases hb
    have e1' := hg.ext p z nn a r1 e1 h1
    rw [e1']
    obtain ⟨s1, b1, n1⟩ := r1
    simp only at h1
    subst h1
    exact (hh a).ext s1 z n1 y rs e2 hb
  · obtain ⟨⟨a, r1⟩, e1, e2⟩ := Option.bind_eq_some_iff.1 e
    exact (hh a).bad r1 y rs' e2 (hg.bad rs a r1 e1 hb)
theorem GoodO.congr {α : Type} {f g : RS → Option (α × RS)} (h : GoodO f) (e : ∀ rs, g rs = f rs) : GoodO g := (funext e : g = f) ▸ h
theorem GoodO.pure {α : Type} (x : α) : GoodO (fun rs => some (x, rs)) := (Good.pure (fun _ => x)).toO
end Go.Kg

set_option linter.unusedSimpArgs false
set_option linter.unusedVariables false
set_option linter.unusedSectionVars false
namespace Go.Kg
open Go
end Go.Kg

set_option linter.unusedSimpArgs false
set_option linter.unusedVariables false
set_option linter.unusedSectionVars false
namespace Go.Kg
open Go
def Sch.pos (ver : Int) (fl : Bool) : Sch → Bool
  | .fin => false
  | .tags _ _ => fl
  | .prim g _ _ _ _ _ rest => g.on ver || rest.pos ver fl
  | .arrP g _ _ _ _ _ rest => g.on ver || rest.pos ver fl
  | .arrS g _ _ _ _ _ _ _ _ _ rest => g.on ver || rest.pos ver fl
  | .sub g _ _ _ _ _ _ e rest => (g.on ver && e.pos ver fl) || rest.pos ver fl
  | .opt g _ _ _ _ _ _ _ _ rest => g.on ver || rest.pos ver fl
end Go.Kg

set_option linter.unusedSimpArgs false
set_option linter.unusedVariables false
namespace Go.Kg
open Go
/-- u: the numbers of the readers that are 'unsafe' (String, CompactString, NullableString, CompactNullableString). rs: where the reader stands. -/
structure CfgR extends Cfg where
  rs : Nat
  u : Nat × Nat × Nat × Nat
def Prim.fU (C : CfgR) : Prim → Bool → Nat
  | .str, false => C.u.1
  | .str, true => C.u.2.1
  | .nstr, false => C.u.2.2.1
  | .nstr, true => C.u.2.2.2
  | _, _ => 0
end Go.Kg

set_option linter.unusedSimpArgs false
set_option linter.unusedVariables false
set_option linter.unusedSectionVars false
namespace Go.Kg
open Go
/-- the cells of a struct within a block -/
def segL (c : Array Value) (a n : Nat) : List Value := (c.toList.drop a).take n
theorem segL_get {c : Array Value} {a n j : Nat} (h : j < n) : (segL c a n)[j]? = c[a + j]? := by simp [segL, List.getElem?_take, h, List.getElem?_drop]
structure Rdr where
  pb : Nat
  D : Nat
  base : Nat
  ev : Value
def RK (R : Rdr) (k : Nat) : Prop := k = R.D ∨ R.base ≤ k
def CB (R : Rdr) (b k : Nat) : Prop := k = R.pb ∨ k = b
structure RW (C : CfgR) (R : Rdr) (b : Nat) (w : World) : Prop where
  lt : R.pb < R.base ∧ b < R.base ∧ R.D < R.base ∧ R.base ≤ w.heap.size
  ne : R.pb ≠ R.D ∧ b ≠ R.D ∧ R.pb ≠ b
  err : w.cell? ⟨C.E.g_kbin_ErrNotEnoughData, 0, none⟩ = some R.ev
  errN : C.E.g_kbin_ErrNotEnoughData ≠ R.pb ∧ C.E.g_kbin_ErrNotEnoughData ≠ b
section
variable {P : Program} {C : CfgR} {R : Rdr}
theorem RW.ext {b : Nat} {w w' : World} (h : RW C R b w) (he : Ext (CB R b) w w') : RW C R b w' :=
  ⟨⟨h.lt.1, h.lt.2.1, h.lt.2.2.1, Nat.le_trans h.lt.2.2.2 he.size⟩, h.ne, he.cell h.err (by rintro (h1 | h1); exact h.errN.1 h1; exact h.errN.2 h1), h.errN⟩
theorem RW.keepK {b : Nat} {w : World} (h : RW C R b w) : ∀ k, k < w.heap.size → RK R k → ¬ CB R b k := by
  obtain ⟨⟨h1, h2, h3, h4⟩, ⟨h5, h6, h7⟩, _, _⟩ := h
  rintro k _ (hk | hk) (hc | hc) <;> omega
structure FrR (C : CfgR) (R : Rdr) (f : Nat → Value) (pv b a : Nat) (ver : Int) (fl : Bool) (n : Nat) : Prop where
  ptr : f pv = .pointer (some ⟨b, a, none⟩)
  ptrN : 8 < pv ∧ pv < n
  v0 : C.fx = true → 0 ≤ ver
  ver : f 8 = .int .i16 ver
  flg : C.fx = true → f 9 = .bool fl
  flN : C.fx = false → fl = false
  rd : f C.rs = .pointer (some ⟨R.pb, 0, none⟩)
  us : f 2 = .bool false
  nN : 10 ≤ n
  rsN : 7 ≤ C.rs ∧ C.rs < n
theorem FrR.keep {f f' : Nat → Value} {pv b a n : Nat} {ver : Int} {fl : Bool} (h : FrR C R f pv b a ver fl n) {t : Nat} (hk : Keeps f f' t) (ht : n ≤ t) : FrR C R f' pv b a ver fl n := by
  have h1 := h.ptrN
  have h2 := h.nN
  have h3 := h.rsN
  exact ⟨(hk _ (by omega) (by omega)).trans h.ptr, h1, h.v0, (hk _ (by omega) (by omega)).trans h.ver, fun hx => (hk _ (by omega) (by omega)).trans (h.flg hx), h.flN, (hk _ (by omega) (by omega)).trans h.rd, (hk _ (by omega) (by omega)).trans h.us, h2, h3⟩
theorem FrR.up {f : Nat → Value} {pv b a n m : Nat} {ver : Int} {fl : Bool} (h : FrR C R f pv b a ver fl n) (hm : n ≤ m) : FrR C R f pv b a ver fl m :=
  ⟨h.ptr, ⟨h.ptrN.1, by have := h.ptrN; omega⟩, h.v0, h.ver, h.flg, h.flN, h.rd, h.us, by have := h.nN; omega, ⟨h.rsN.1, by have := h.rsN; omega⟩⟩
structure StR (C : CfgR) (R : Rdr) (b a n : Nat) (w : World) (cc : Array Value) (e : TypeId) (rs : RS) : Prop where
  blk : w.heap[b]? = some (.cells cc e (0, 0))
  fit : a + n ≤ cc.size
  rd : RdAt C.E.tRd w R.pb R.D rs
  rw_ : RW C R b w
/-- only the reader's block has turned (and new ones) -/
theorem StR.ext1 {b a n : Nat} {w w' : World} {cc : Array Value} {e : TypeId} {rs rs' : RS} (h : StR C R b a n w cc e rs) (he : Ext (· = R.pb) w w') (hr : RdAt C.E.tRd w' R.pb R.D rs') : StR C R b a n w' cc e rs' :=
  ⟨he.old h.blk (fun h' => h.rw_.ne.2.2 h'.symm), h.fit, hr, h.rw_.ext (he.mono (fun _ _ h => .inl h))⟩
structure RdTo (C : CfgR) (R : Rdr) (b a n lo : Nat) (w : World) (cc : Array Value) (e : TypeId) (f : Nat → Value) (l m t : Nat) (rs' : RS) (f' : Nat → Value) (w' : World) (cc' : Array Value) : Prop where
  ext : Ext (CB R b) w w'
  st : StR C R b a n w' cc' e rs'
  size : cc'.size = cc.size
  same : ∀ j, (j < a + lo ∨ a + n ≤ j) → cc'[j]? = cc[j]?
  keep : KeepR f f' l m t
theorem RdTo.trans {b a n lo lo' : Nat} {w w1 w2 : World} {cc c1 c2 : Array Value} {e : TypeId} {f f1 f2 : Nat → Value} {l m t l' m' t' : Nat} {r1 r2 : RS} (x : RdTo C R b a n lo w cc e f l m t r1 f1 w1 c1) (y : RdTo C R b a n lo' w1 c1 e f1 l' m' t' r2 f2 w2 c2)
    (hlo : lo ≤ lo') (hl : l ≤ l') (hm : m ≤ m') (ht : t ≤ t') : RdTo C R b a n lo w cc e f l m' t r2 f2 w2 c2 :=
  ⟨x.ext.trans y.ext, y.st, y.size.trans x.size, fun j hj => (y.same j (by omega)).trans (x.same j hj), x.keep.trans y.keep hl hm ht⟩
/-- A field stands in a struct's cells. -/
def FldAt (w : World) (R : Rdr) (cs : List Value) (o : Nat) (p : Prim) (x : p.T) : Prop := ∃ v, seg cs o v.cells.toList ∧ p.rep1 w (RK R) v x
theorem rep1_sz {w : World} {K : Nat → Prop} {p : Prim} {u : Value} {x : p.T} (h : p.rep1 w K u x) : u.cells.size = p.sz := by
  have := rep1_one h
  by_cases hp : p = .uuid
  · subst hp
    simp only [if_true] at this
    obtain ⟨c, rfl, hc, _⟩ := this
    exact hc
  · simp only [if_neg hp] at this
    have h2 : p.sz = 1 := by cases p <;> first | rfl | exact absurd rfl hp
    rw [h2]
    cases u <;> simp_all [Value.oneCell', Value.cells]
theorem FldAt.move {w w' : World} {cs cs' : List Value} {o : Nat} {p : Prim} {x : p.T} (h : FldAt w R cs o p x) {Cx : Nat → Prop} (he : Ext Cx w w') (hK : ∀ k, k < w.heap.size → RK R k → ¬ Cx k) (hc : ∀ j, o ≤ j → j < o + p.sz → cs'[j]? = cs[j]?) : FldAt w' R cs' o p x := by
  obtain ⟨v, h1, h2⟩ := h
  refine ⟨v, fun j u hj => ?_, Prim.rep1_ext he hK h2⟩
  rw [hc (o + j) (by omega)]
  · exact h1 j u hj
  · have := (List.getElem?_eq_some_iff.1 hj).1
    have h3 := rep1_sz h2
    simp at this
    omega
variable {Q : Post} {f : Nat → Value} {w : World}
/-- what a store leaves: u's cells stand at o -/
structure Put (cc : Array Value) (o : Nat) (u : Value) (cc' : Array Value) : Prop where
  size : cc'.size = cc.size
  same : ∀ j, (j < o ∨ o + u.cells.size ≤ j) → cc'[j]? = cc[j]?
  new : ∀ j v, u.cells.toList[j]? = some v → cc'[o + j]? = some v
/-- a field was put -/
theorem RdTo.put {b a n lo o : Nat} {cc cc' : Array Value} {e : TypeId} {f' : Nat → Value} {l m t : Nat} {rs : RS} {u : Value} (hs : StR C R b a n w cc e rs) (hp : Put cc (a + o) u cc') (hlo : lo ≤ o) (hn : o + u.cells.size ≤ n) (hk : KeepR f f' l m t) :
    RdTo C R b a n lo w cc e f l m t rs f' (w.setBlk b (.cells cc' e (0, 0))) cc' := by
  have hE : Ext (· = b) w (w.setBlk b (.cells cc' e (0, 0))) := (Ext.refl (fun k => k = b) w).setBlk (b := b) (Or.inr rfl) _
  have hE' : Ext (CB R b) w (w.setBlk b (.cells cc' e (0, 0))) := hE.mono (fun _ _ h => .inr h)
  exact ⟨hE', ⟨setBlk_same hs.blk, by rw [hp.size]; exact hs.fit, hs.rd.ext hE (fun h => hs.rw_.ne.2.2 h) (fun h => hs.rw_.ne.2.1 h.symm), hs.rw_.ext hE'⟩, hp.size, fun j hj => hp.same j (by omega), hk⟩
theorem FldAt.put {b a n o : Nat} {cc cc' : Array Value} {e : TypeId} {rs : RS} {p : Prim} {u : Value} {x : p.T} (hs : StR C R b a n w cc e rs) (hp : Put cc (a + o) u cc') (hn : o + u.cells.size ≤ n) (hr : p.rep1 w (RK R) u x) : FldAt (w.setBlk b (.cells cc' e (0, 0))) R (segL cc' a n) o p x := by
  have hE : Ext (· = b) w (w.setBlk b (.cells cc' e (0, 0))) := (Ext.refl (fun k => k = b) w).setBlk (b := b) (Or.inr rfl) _
  refine ⟨u, fun j v hj => ?_, Prim.rep1_ext hE (fun k hk1 hk2 hk3 => hs.rw_.keepK k hk1 hk2 (.inr hk3)) hr⟩
  have hj' : j < u.cells.size := by have := (List.getElem?_eq_some_iff.1 hj).1; simpa using this
  rw [segL_get (by omega), ← Nat.add_assoc]
  exact hp.new j v hj
end
end Go.Kg

set_option linter.unusedSimpArgs false
set_option linter.unusedVariables false
set_option linter.unusedSectionVars false
namespace Go.Kg
open Go
section
variable {P : Program} {C : CfgR}
theorem RdTo.refl {R : Rdr} {b a n lo : Nat} {w : World} {cc : Array Value} {e : TypeId} {f f' : Nat → Value} {l m t : Nat} {rs : RS} (h : StR C R b a n w cc e rs) (hk : KeepR f f' l m t) : RdTo C R b a n lo w cc e f l m t rs f' w cc :=
  ⟨Ext.refl _ _, h, rfl, fun _ _ => rfl, hk⟩
/-- only the reader has turned -/
theorem RdTo.read {R : Rdr} {b a n lo : Nat} {w w' : World} {cc : Array Value} {e : TypeId} {f f' : Nat → Value} {l m t : Nat} {rs rs' : RS} (h : StR C R b a n w cc e rs) (he : Ext (· = R.pb) w w') (hr : RdAt C.E.tRd w' R.pb R.D rs') (hk : KeepR f f' l m t) : RdTo C R b a n lo w cc e f l m t rs' f' w' cc :=
  ⟨he.mono (fun _ _ h => .inl h), h.ext1 he hr, rfl, fun _ _ => rfl, hk⟩
end
end Go.Kg

set_option linter.unusedSimpArgs false
set_option linter.unusedVariables false
set_option linter.unusedSectionVars false
namespace Go.Kg
open Go
section
variable {P : Program} {C : CfgR} {R : Rdr}
variable {Q : Post} {f : Nat → Value} {w : World}
end
end Go.Kg

set_option linter.unusedSimpArgs false
set_option linter.unusedVariables false
set_option linter.unusedSectionVars false
namespace Go.Kg
open Go
section
variable {P : Program} {C : CfgR} {R : Rdr} {Q : Post} {f : Nat → Value} {w : World}
end
end Go.Kg

set_option linter.unusedSimpArgs false
set_option linter.unusedVariables false
set_option linter.unusedSectionVars false
namespace Go.Kg
open Go
section
variable {P : Program} {C : CfgR} {R : Rdr} {Q : Post} {f : Nat → Value} {w : World}
end
end Go.Kg

set_option linter.unusedSimpArgs false
set_option linter.unusedVariables false
set_option linter.unusedSectionVars false
namespace Go.Kg
open Go
theorem Ext.trans' {C D E : Nat → Prop} {a b c : World} (h : Ext C a b) (k : Ext D b c) (hD : ∀ x, x < a.heap.size → D x → E x) (hC : ∀ x, x < a.heap.size → C x → E x := by intro x _ h; first | exact h | exact .inl h) : Ext E a c :=
  ⟨k.os.trans h.os, k.tape.trans h.tape, k.output.trans h.output, Nat.le_trans h.size k.size,
   fun i hi hc => (k.block i (Nat.lt_of_lt_of_le hi h.size) (fun hd => hc (hD i hi hd))).trans (h.block i hi (fun hd => hc (hC i hi hd)))⟩
section
variable {P : Program} {C : CfgR} {R : Rdr} {Q : Post} {f : Nat → Value} {w : World}
end
end Go.Kg

set_option linter.unusedSimpArgs false
set_option linter.unusedVariables false
namespace Go.Kg
open Go
def idxB (d : UInt8) (s : List UInt8) : Int := match s.findIdx? (· == d) with
  | some i => (i : Int)
  | none => -1
theorem ext_str (l : List UInt8) (i j : Nat) : (ByteArray.mk l.toArray).extract i j = ⟨((l.drop i).take (j - i)).toArray⟩ := by
  apply ByteArray.ext
  rw [ByteArray.data_extract]
  apply Array.ext'
  simp
theorem strV_toList (l : List UInt8) : (ByteArray.mk l.toArray).toList = l := by rw [Go.ByteArray.toList_eq]
section
variable {P : Program} {E : Env}
def IxInv (s : List UInt8) (d : UInt8) (w : World) (f : Nat → Value) (w' : World) : Prop :=
  ∃ i : Nat, i ≤ s.length ∧ f 5 = .int .i64 i ∧ f 0 = strV s ∧ f 1 = strV [d] ∧ w' = w ∧ ∀ j, j < i → s[j]? ≠ some d
theorem idxB_at {s : List UInt8} {d : UInt8} {i : Nat} (h : s[i]? = some d) (hno : ∀ j, j < i → s[j]? ≠ some d) : idxB d s = i := by
  have hi := (List.getElem?_eq_some_iff.1 h).1
  have : s.findIdx? (· == d) = some i := by
    rw [List.findIdx?_eq_some_iff_getElem]
    refine ⟨hi, by simpa using (List.getElem?_eq_some_iff.1 h).2, fun j hj => ?_⟩
    have h1 := hno j hj
    rw [List.getElem?_eq_getElem (by omega)] at h1
    simpa using h1
  simp only [idxB, this]
theorem idxB_none {s : List UInt8} {d : UInt8} (hno : ∀ j, j < s.length → s[j]? ≠ some d) : idxB d s = -1 := by
  have : s.findIdx? (· == d) = none := by
    rw [List.findIdx?_eq_none_iff]
    intro x hx
    obtain ⟨j, hj⟩ := List.getElem?_of_mem hx
    have h1 := hno j (List.getElem?_eq_some_iff.1 hj).1
    rw [hj] at h1
    simpa using h1
  simp only [idxB, this]
theorem c_zzIndex (uS : P.underlying E.tS = some .string) {g nt : Nat} (hnt : 2 ≤ nt) (hI : FnIs P g nt [.t 4] (irIndex E)) {w : World} {s : List UInt8} {d : UInt8} (hlen : s.length ≤ 1000) :
    Ret P g #[strV s, strV [d]] w fun r w' => r = .int .i64 (idxB d s) ∧ w' = w := by
  refine hI.call (args := [_, _]) hnt ?_
  simp [irIndex]
  refine cw_blockThenR (fun f w' => w' = w ∧ idxB d s = -1) (fun f w' => w' = w ∧ f 4 = .int .i64 (idxB d s)) ?_ ?_ ?_
  rotate_left
  · rintro f w' ⟨rfl, h⟩
    simp [h]
  · rintro f w' ⟨rfl, h⟩
    simp [h]
  refine cw_loop (IxInv s d w) (fun f _ => match f 5 with | .int _ i => ((s.length : Int) - i).toNat | _ => 0) ?_ ?_
  · exact ⟨0, by omega, by simp, by simp, by simp, rfl, fun j hj => absurd hj (Nat.not_lt_zero _)⟩
  rintro f w' ⟨i, hi, h5, h0, h1, rfl, hno⟩
  have e1 : IntKind.i64.wrap ((i : Int) + 1) = ((i + 1 : Nat) : Int) := by rw [i64_small (by omega) (by omega)]; rfl
  have z1 : (ByteArray.mk #[d]).size = 1 := rfl
  have zs : (ByteArray.mk s.toArray).size = s.length := by show s.toArray.size = _; simp
  simp [h5, h0, h1, strV, len_str uS, z1, zs, e1]
  by_cases hlt : i < s.length
  rotate_left
  · refine cw_false (by simp; omega) ?_
    simp
    exact idxB_none (fun j hj => hno j (by omega))
  refine cw_true (by simp; omega) ?_
  have e2 : (ByteArray.mk s.toArray).extract i (i + 1) = ⟨((s.drop i).take 1).toArray⟩ := by rw [ext_str, Nat.add_sub_cancel_left]
  have hle : i + 1 ≤ s.length := hlt
  simp [h5, h0, h1, strV, len_str uS, z1, zs, e1, slice?, uS, e2, hle]
  obtain ⟨x, hx⟩ : ∃ x, s[i]? = some x := ⟨_, List.getElem?_eq_getElem hlt⟩
  have e3 : (s.drop i).take 1 = [x] := by
    have := List.getElem?_eq_some_iff.1 hx
    rw [List.drop_eq_getElem_cons hlt, this.2]; rfl
  rw [e3, if_pos (by omega)]
  simp [strV_toList, Go.ByteArray.toList_eq]
  by_cases hxd : x = d
  · refine cw_true (by simp [hxd]) ?_
    simp
    rw [idxB_at (by rw [hx, hxd]) hno]
    simp [h5]
  · refine cw_false (by simp [hxd]) ?_
    simp [h5, e1]
    refine ⟨⟨i + 1, by omega, by simp, by simp [h0, strV], by simp [h1, strV], rfl, fun j hj => ?_⟩, by omega⟩
    rcases Nat.lt_succ_iff_lt_or_eq.1 hj with h | rfl
    · exact hno j h
    · rw [hx]; simpa using hxd
theorem idxB_cases (d : UInt8) (r : List UInt8) : (idxB d r = -1 ∧ r.filter (· != d) = r) ∨ ∃ i : Nat, idxB d r = i ∧ i < r.length ∧ r = r.take i ++ d :: r.drop (i + 1) ∧ (r.take i).filter (· != d) = r.take i := by
  by_cases h : ∃ i : Nat, r[i]? = some d ∧ ∀ j, j < i → r[j]? ≠ some d
  · obtain ⟨i, hi, hno⟩ := h
    have hlt := (List.getElem?_eq_some_iff.1 hi).1
    refine .inr ⟨i, idxB_at hi hno, hlt, ?_, ?_⟩
    · conv => lhs; rw [← List.take_append_drop i r, List.drop_eq_getElem_cons hlt, (List.getElem?_eq_some_iff.1 hi).2]
    · rw [List.filter_eq_self]
      intro x hx
      obtain ⟨j, hj⟩ := List.getElem?_of_mem hx
      have hj2 := (List.getElem?_eq_some_iff.1 hj).1
      rw [List.getElem?_take] at hj
      split at hj
      · rename_i hji
        have := hno j hji
        rw [hj] at this
        simpa using this
      · cases hj
  · have hall : ∀ j, j < r.length → r[j]? ≠ some d := by
      intro j
      induction j using Nat.strongRecOn with
      | _ j ih =>
        intro hj he
        exact h ⟨j, he, fun i hi => ih i hi (by omega)⟩
    refine .inl ⟨idxB_none hall, ?_⟩
    rw [List.filter_eq_self]
    intro x hx
    obtain ⟨j, hj⟩ := List.getElem?_of_mem hx
    have := hall j (List.getElem?_eq_some_iff.1 hj).1
    rw [hj] at this
    simpa using this
def RpInv (E : Env) (s : List UInt8) (d : UInt8) (w : World) (f : Nat → Value) (w' : World) : Prop :=
  ∃ l r : List UInt8, s = l ++ r ∧ f 0 = strV r ∧ f 1 = strV [d] ∧ f 2 = strV [] ∧ OwnB E.tU8 w' w.heap.size (f 7) (l.filter (· != d)) ∧ Ext none1 w w'
theorem c_zzReplaceAll (uS : P.underlying E.tS = some .string) (uBs : P.underlying E.tBs = some (.slice E.tU8)) (uU8 : P.underlying E.tU8 = some (.int .u8)) (tBs : SliI P E.tBs E.tU8 1 1 (.int .u8 0)) {fIdx g nt : Nat} (hnt : 3 ≤ nt) (hI : FnIs P g nt [.t 6] (irReplaceAll E fIdx))
    (hIdx : ∀ (w : World) (r : List UInt8) (d : UInt8), r.length ≤ 1000 → Ret P fIdx #[strV r, strV [d]] w fun u w' => u = .int .i64 (idxB d r) ∧ w' = w) {w : World} {s : List UInt8} {d : UInt8} (hlen : s.length ≤ 1000) :
    Ret P g #[strV s, strV [d], strV []] w fun u w' => u = strV (s.filter (· != d)) ∧ Ext none1 w w' := by
  refine hI.call (args := [_, _, _]) hnt ?_
  have z1 : (ByteArray.mk #[d]).size = 1 := rfl
  simp [irReplaceAll, strV, len_str uS, z1]
  refine cw_false (by simp) ?_
  simp
  refine cw_loop (RpInv E s d w) (fun f _ => match f 0 with | .string b => b.size | _ => 0) ?_ ?_
  · exact ⟨[], s, rfl, by simp [strV], by simp [strV], by simp [strV], by simpa [OwnB, cellsOf] using Own.nil w w.heap.size E.tU8 1, Ext.refl _ _⟩
  rintro f w' ⟨l, r, rfl, h0, h1, h2, ho, he⟩
  simp only [List.length_append] at hlen
  simp [h0, h1]
  refine (hIdx w' r d (by omega)).mono ?_
  rintro _ _ ⟨rfl, rfl⟩
  have hbase := he.size
  have hg : ∀ {v : Value} {w1 w2 : World} {v2 : Value} {t : List UInt8}, OwnB E.tU8 w1 w.heap.size v t → Ext none1 w w1 → Grew w1 v w2 v2 → Ext none1 w w2 := by
    intro v w1 w2 v2 t h1 h2 h3
    exact h2.trans' h3.ext (fun x hx h => by have := (Own.below h1 h).1; omega)
  simp
  rcases idxB_cases d r with ⟨hi, hf⟩ | ⟨i, hi, hlt, hr, hf⟩
  · rw [hi]
    refine cw_true (by simp) ?_
    simp [h0, strV]
    refine st_app_str tBs uS (s := l.filter (· != d)) (v := f 7) (by simp) ho hbase (bs := ⟨r.toArray⟩) (by simp) (by have := List.length_filter_le (· != d) l; show _ + r.toArray.size ≤ _; simp; omega) ?_
    intro v3 w3 ho3 hg3
    have hb : bts ⟨r.toArray⟩ = r := by simp [bts]
    rw [hb] at ho3
    have hE3 := hg ho he hg3
    try simp
    rw [convK_bytes uBs uU8 uS (own_bytesK ho3) (by simp)]
    try simp
    refine ⟨?_, hE3⟩
    rw [hf]; rfl
  · rw [hi]
    refine cw_false (by first | (simp; done) | (simp; omega)) ?_
    have zr : (ByteArray.mk r.toArray).size = r.length := by show r.toArray.size = _; simp
    have e1 : IntKind.i64.wrap ((i : Int) + 1) = ((i + 1 : Nat) : Int) := by rw [i64_small (by omega) (by omega)]; rfl
    have hle : i ≤ r.length := by omega
    have hle1 : i + 1 ≤ r.length := hlt
    have e2 : (ByteArray.mk r.toArray).extract 0 i = ⟨(r.take i).toArray⟩ := by rw [ext_str]; simp
    have e3 : (ByteArray.mk r.toArray).extract (i + 1) r.length = ⟨(r.drop (i + 1)).toArray⟩ := by
      rw [ext_str, List.take_of_length_le (by simp)]
    simp [h0, h1, h2, strV, slice?, uS, zr, hle, e2]
    refine st_app_str tBs uS (s := l.filter (· != d)) (v := f 7) (by simp) ho hbase (bs := ⟨(r.take i).toArray⟩) (by simp) (by have := List.length_filter_le (· != d) l; show _ + (r.take i).toArray.size ≤ _; simp; omega) ?_
    intro v3 w3 ho3 hg3
    have hb : bts ⟨(r.take i).toArray⟩ = r.take i := by simp [bts]
    rw [hb] at ho3
    have hE3 := hg ho he hg3
    try simp
    refine st_app_str tBs uS (v := v3) (by simp) ho3 hE3.size (bs := ⟨#[]⟩) (by simp [h2, strV]) (by have := List.length_filter_le (· != d) l; show _ + 0 ≤ _; simp; omega) ?_
    intro v4 w4 ho4 hg4
    have hb4 : bts ⟨#[]⟩ = [] := rfl
    rw [hb4, List.append_nil] at ho4
    have hE4 := hg ho3 hE3 hg4
    simp [h0, h1, strV, len_str uS, z1, e1, slice?, uS, zr, hle1, e3]
    try rw [if_pos (by omega)]
    try simp
    refine ⟨⟨l ++ r.take i ++ [d], r.drop (i + 1), ?_, by simp [strV], by simp [h1, strV], by simp [h2, strV], ?_, hE4⟩, ?_⟩
    · conv => lhs; rw [hr]
      simp
    · simp [hf]
      exact ho4
    · first | omega | (simp; omega)
end
end Go.Kg

set_option linter.unusedSimpArgs false
set_option linter.unusedVariables false
namespace Go.Kg
open Go
structure TyTg (P : Program) (E : Env) : Prop extends TyWs P E where
  g0 : fldOff P E.t_kmsg_Tags 0 = some 0
  kM : kindOf P E.t_map_uint32_l_uint8 = .scl
  uM : P.underlying E.t_map_uint32_l_uint8 = some (.map E.tU32 E.tBs)
  kBs : kindOf P E.tBs = .scl
section
variable {P : Program} {E : Env} (ht : TyTg P E)
include ht
end
end Go.Kg

set_option linter.unusedSimpArgs false
set_option linter.unusedVariables false
set_option linter.unusedSectionVars false
namespace Go.Kg
open Go
end Go.Kg

set_option linter.unusedSimpArgs false
set_option linter.unusedVariables false
set_option linter.unusedSectionVars false
namespace Go.Kg
open Go
end Go.Kg

set_option linter.unusedSimpArgs false
set_option linter.unusedVariables false
namespace Go.Kg
open Go
/-- An entry of the map says a tag. -/
def EntAt (w : World) (K : Nat → Prop) (c : Nat) (e : MapEntry) (x : Nat × List UInt8) : Prop := e.key = .int .u32 x.1 ∧ x.1 < 4294967296 ∧ e.born < c ∧ BytesAt w K e.val x.2
def EL (w : World) (K : Nat → Prop) (c : Nat) : List MapEntry → TagL → Prop
  | [], [] => True
  | e :: L, x :: l => EntAt w K c e x ∧ EL w K c L l
  | _, _ => False
theorem EL.of {w : World} {K : Nat → Prop} {c : Nat} : ∀ {L : List MapEntry} {l : TagL}, L.length = l.length → (∀ (i : Nat) e x, L[i]? = some e → l[i]? = some x → EntAt w K c e x) → EL w K c L l
  | [], [], _, _ => trivial
  | e :: L, x :: l, h, hx => ⟨hx 0 e x rfl rfl, EL.of (by simpa using h) (fun i e x h1 h2 => hx (i + 1) e x (by simpa using h1) (by simpa using h2))⟩
  | [], _ :: _, h, _ => by simp at h
  | _ :: _, [], h, _ => by simp at h
theorem EL.up {w : World} {K : Nat → Prop} {c c' : Nat} (hc : c ≤ c') : ∀ {L : List MapEntry} {l : TagL}, EL w K c L l → EL w K c' L l
  | [], [], _ => trivial
  | e :: L, x :: l, h => ⟨⟨h.1.1, h.1.2.1, Nat.lt_of_lt_of_le h.1.2.2.1 hc, h.1.2.2.2⟩, EL.up hc h.2⟩
  | [], _ :: _, h => h.elim
  | _ :: _, [], h => h.elim
theorem EL.ext {C : Nat → Prop} {w w' : World} {D c : Nat} (he : Ext C w w') (hD : ¬ C D) : ∀ {L : List MapEntry} {l : TagL}, EL w (· = D) c L l → EL w' (· = D) c L l
  | [], [], _ => trivial
  | e :: L, x :: l, h => ⟨⟨h.1.1, h.1.2.1, h.1.2.2.1, h.1.2.2.2.ext he (fun b _ hb => by subst hb; exact hD)⟩, EL.ext he hD h.2⟩
  | [], _ :: _, h => h.elim
  | _ :: _, [], h => h.elim
/-- the map lies in a block from base on, the bytes in D -/
def TagsM (w : World) (D base : Nat) (u : Value) (l : TagL) : Prop :=
  (u = .map none ∧ l = []) ∨ ∃ m es clock, u = .map (some m) ∧ base ≤ m ∧ w.heap[m]? = some (.map es clock) ∧ EL w (· = D) clock es.toList l ∧ (es.toList.map (·.born)).Nodup
theorem TagsM.one {w : World} {D base : Nat} {u : Value} {l : TagL} (h : TagsM w D base u l) : u.oneCell' = true ∧ u.cells = #[u] := by
  rcases h with ⟨rfl, _⟩ | ⟨_, _, _, rfl, _⟩ <;> exact ⟨rfl, rfl⟩
@[simp] theorem stp_mapUpdate {P : Program} {f : Nat → Value} {ty : TypeId} {w : World} {K : Value → World → Prop} {T : TypeId} {a b c : Operand} : stp P f (.mapUpdate T a b c) ty w K = stepF P f (.mapUpdate T a b c) ty w K := (rfl)
@[simp] theorem stp_makeMap {P : Program} {f : Nat → Value} {ty : TypeId} {w : World} {K : Value → World → Prop} {T : TypeId} : stp P f (.makeMap T none) ty w K = K (.map (some w.heap.size)) (w.alloc (.map #[] 0)) := by
  show stepF P f (.makeMap T none) ty w K = _
  rw [stepF_ok (v := .map (some w.heap.size)) (w' := w.alloc (.map #[] 0))]
  simp [runF, execOp, Instr.makeMap, newObj, Sem.run]
section
variable {P : Program} {E : Env} (ht : TyTg P E)
include ht
end
theorem Ext.grow {C : Nat → Prop} {a b c : World} {n : Nat} (h : Ext C a b) (k : Ext (fun x => n ≤ x) b c) (hn : a.heap.size ≤ n) : Ext C a c :=
  ⟨k.os.trans h.os, k.tape.trans h.tape, k.output.trans h.output, Nat.le_trans h.size k.size, fun i hi hc => (k.block i (Nat.lt_of_lt_of_le hi h.size) (by omega)).trans (h.block i hi hc)⟩
theorem EL.mono {w : World} {K K' : Nat → Prop} {c : Nat} (hk : ∀ b, K b → K' b) : ∀ {L : List MapEntry} {l : TagL}, EL w K c L l → EL w K' c L l
  | [], [], _ => trivial
  | e :: L, x :: l, h => ⟨⟨h.1.1, h.1.2.1, h.1.2.2.1, h.1.2.2.2.mono (fun b _ => hk b)⟩, EL.mono hk h.2⟩
  | [], _ :: _, h => h.elim
  | _ :: _, [], h => h.elim
theorem TagsM.ext {C : Nat → Prop} {w w' : World} {D base : Nat} {u : Value} {l : TagL} (h : TagsM w D base u l) (he : Ext C w w') (hD : ¬ C D) (hC : ∀ k, k < w.heap.size → base ≤ k → ¬ C k) : TagsM w' D base u l := by
  rcases h with h | ⟨m, es, clock, rfl, hm, hb, h1, h2⟩
  · exact .inl h
  · exact .inr ⟨m, es, clock, rfl, hm, he.old hb (hC m (lt_of_heap hb) hm), h1.ext he hD, h2⟩
section
variable {P : Program} {E : Env} (ht : TyTg P E)
include ht
end
end Go.Kg

set_option linter.unusedSimpArgs false
set_option linter.unusedVariables false
namespace Go.Kg
open Go
/-- where what is written stands while tags are written: the cell bd; nothing of 'prot' is touched -/
structure DstAt (E : Env) (base bd : Nat) (w0 : World) (v0 : Value) (prot : Nat → Prop) (s : List UInt8) (w : World) (v : Value) : Prop where
  cell : w.heap[bd]? = some (.cells #[v] E.tBs (0, 0))
  own : OwnB E.tU8 w base v s
  grew : Grew w0 v0 w v
  off : ∀ k, prot k → k < w.heap.size ∧ ¬ own1 v k
section
variable {P : Program} {E : Env} (ht : TyTg P E)
include ht
end
end Go.Kg

set_option linter.unusedSimpArgs false
set_option linter.unusedVariables false
namespace Go.Kg
open Go
theorem DstAt.ext {E : Env} {base bd n0 : Nat} {w0 w w' : World} {v0 v : Value} {prot : Nat → Prop} {s : List UInt8} (hD : DstAt E base bd w0 v0 prot s w v) (he : Ext (fun x => n0 ≤ x) w w') (hbd : bd < n0) (hv : ∀ k, own1 v k → k < n0) (h0 : w0.heap.size ≤ n0) :
    DstAt E base bd w0 v0 (fun k => n0 ≤ k ∧ k < w'.heap.size) s w' v :=
  ⟨he.old hD.cell (by omega), Own.ext hD.own he (fun b h h' => by have := hv b h; omega), ⟨hD.grew.ext.grow he h0, hD.grew.own⟩, fun k hk => ⟨hk.2, fun h => by have := hv k h; omega⟩⟩
theorem DstAt.tags {E : Env} {base bd : Nat} {w0 w : World} {v0 v : Value} {prot : Nat → Prop} {s s0 : List UInt8} (hD : DstAt E base bd w0 v0 prot s w v) (ho : OwnB E.tU8 w0 base v0 s0) {b o : Nat} {u : Value} {l : TagL} (hb : ¬ own1 v0 b) (hc : w0.cell? ⟨b, o, none⟩ = some u) (hl : TagsAt w0 (· < base) u l) :
    w.cell? ⟨b, o, none⟩ = some u ∧ TagsAt w (· < base) u l :=
  ⟨hD.grew.ext.cell hc hb, hl.ext hD.grew.ext (fun b _ hb h => by have := (Own.below ho h).1; omega)⟩
theorem EL.keys {w : World} {K : Nat → Prop} {c : Nat} : ∀ {L : List MapEntry} {l : TagL}, EL w K c L l → L.map (·.key) = l.map fun x => Value.int .u32 x.1
  | [], [], _ => rfl
  | e :: L, x :: l, h => by simp [h.1.1, EL.keys h.2]
  | [], _ :: _, h => h.elim
  | _ :: _, [], h => h.elim
@[simp] theorem stp_range {P : Program} {f : Nat → Value} {ty : TypeId} {w : World} {K : Value → World → Prop} {T : TypeId} {a : Operand} : stp P f (.range T a) ty w K = stepF P f (.range T a) ty w K := (rfl)
@[simp] theorem stp_next {P : Program} {f : Nat → Value} {ty : TypeId} {w : World} {K : Value → World → Prop} {a : Operand} {b : Bool} : stp P f (.next a b) ty w K = stepF P f (.next a b) ty w K := (rfl)
@[simp] theorem stp_entry {P : Program} {f : Nat → Value} {ty : TypeId} {w : World} {K : Value → World → Prop} {a : Operand} : stp P f (.entry a) ty w K = stepF P f (.entry a) ty w K := (rfl)
@[simp] theorem stp_lookup {P : Program} {f : Nat → Value} {ty : TypeId} {w : World} {K : Value → World → Prop} {T : TypeId} {a b : Operand} {c : Bool} : stp P f (.lookup T a b c) ty w K = stepF P f (.lookup T a b c) ty w K := (rfl)
@[simp] theorem stp_mkI {P : Program} {f : Nat → Value} {ty : TypeId} {w : World} {K : Value → World → Prop} {T : TypeId} {a : Operand} : stp P f (.makeInterface T a) ty w K = stepF P f (.makeInterface T a) ty w K := (rfl)
section
variable {P : Program} {E : Env} (ht : TyTg P E)
include ht
end
end Go.Kg

set_option linter.unusedSimpArgs false
set_option linter.unusedVariables false
namespace Go.Kg
open Go
section
variable {P : Program} {E : Env}
theorem mem_trimF {p : UInt8 → Bool} {l : List UInt8} {c : UInt8} (h : c ∈ trimF p l) : c ∈ l := by
  unfold trimF at h
  rw [List.mem_reverse] at h
  have h2 := (List.dropWhile_sublist p).subset h
  rw [List.mem_reverse] at h2
  exact (List.dropWhile_sublist p).subset h2
theorem len_trimF (p : UInt8 → Bool) (l : List UInt8) : (trimF p l).length ≤ l.length := by
  unfold trimF
  rw [List.length_reverse]
  have h1 := (List.dropWhile_sublist p (l := (l.dropWhile p).reverse)).length_le
  have h2 := (List.dropWhile_sublist p (l := l)).length_le
  rw [List.length_reverse] at h1
  omega
theorem c_strnorm {Tb : World → Prop} (hTb : ∀ w w', Ext none1 w w' → Tb w → Tb w') {fRep fTrim fLow g nt : Nat} (hnt : 1 ≤ nt) (hI : FnIs P g nt [.t 2] (irStrnorm E fRep fTrim fLow))
    (hRep : ∀ (w : World) (s : List UInt8) (d : UInt8), s.length ≤ 1000 → Ret P fRep #[strV s, strV [d], strV []] w fun u w' => u = strV (s.filter (· != d)) ∧ Ext none1 w w')
    (hTrim : ∀ (w : World) (s : List UInt8), s.length ≤ 1000 → (∀ c ∈ s, c < 128) → Tb w → Ret P fTrim #[strV s] w fun u w' => u = strV (trimF blankB s) ∧ Ext none1 w w')
    (hLow : ∀ (w : World) (s : List UInt8), s.length ≤ 1000 → (∀ c ∈ s, c < 128) → Ret P fLow #[strV s] w fun u w' => u = strV (s.map lowB) ∧ Ext none1 w w')
    {w : World} {s : List UInt8} (hlen : s.length ≤ 1000) (hs : ∀ c ∈ s, c < 128) (hw : Tb w) : Ret P g #[strV s] w fun u w' => u = strV (normS s) ∧ Ext none1 w w' := by
  refine hI.call (args := [_]) hnt ?_
  have a46 : (Value.string ⟨#[46]⟩) = strV [46] := rfl
  have a95 : (Value.string ⟨#[95]⟩) = strV [95] := rfl
  have a45 : (Value.string ⟨#[45]⟩) = strV [45] := rfl
  have a0 : (Value.string ⟨#[]⟩) = strV [] := rfl
  simp [irStrnorm, a46, a95, a45, a0]
  refine (hRep w s 46 hlen).mono ?_
  rintro _ w1 ⟨rfl, h1⟩
  have l1 := List.length_filter_le (· != (46 : UInt8)) s
  refine (hRep w1 (s.filter (· != 46)) 95 (by omega)).mono ?_
  rintro _ w2 ⟨rfl, h2⟩
  have l2 := List.length_filter_le (· != (95 : UInt8)) (s.filter (· != 46))
  refine (hRep w2 ((s.filter (· != 46)).filter (· != 95)) 45 (by omega)).mono ?_
  rintro _ w3 ⟨rfl, h3⟩
  have l3 := List.length_filter_le (· != (45 : UInt8)) ((s.filter (· != 46)).filter (· != 95))
  have hE3 := h1.trans (h2.trans h3)
  have hm : ∀ c ∈ ((s.filter (· != 46)).filter (· != 95)).filter (· != 45), c < 128 := fun c hc => hs c (List.mem_filter.1 (List.mem_filter.1 (List.mem_filter.1 hc).1).1).1
  refine (hTrim w3 (((s.filter (· != 46)).filter (· != 95)).filter (· != 45)) (by omega) hm (hTb _ _ hE3 hw)).mono ?_
  rintro _ w4 ⟨rfl, h4⟩
  have l4 := len_trimF blankB (((s.filter (· != 46)).filter (· != 95)).filter (· != 45))
  refine (hLow w4 (trimF blankB (((s.filter (· != 46)).filter (· != 95)).filter (· != 45))) (by omega) (fun c hc => hm c (mem_trimF hc))).mono ?_
  rintro _ w5 ⟨rfl, h5⟩
  refine ⟨?_, hE3.trans (h4.trans h5)⟩
  rw [← strn_norm]
  simp only [strnS]
theorem c_blank {g nt : Nat} (hnt : 1 ≤ nt) (hI : FnIs P g nt [.t 2] (irBlank E)) (w : World) (c : UInt8) : Ret P g #[.int .u8 c.toNat] w fun u w' => u = .bool (blankB c) ∧ w' = w := by
  refine hI.call (args := [_]) hnt ?_
  have hb : ∀ c : UInt8, (blankB c == ((c.toNat : Int) == 32 || (decide (9 ≤ (c.toNat : Int)) && decide ((c.toNat : Int) ≤ 13)))) = true := fun c => all256 (fun c => blankB c == ((c.toNat : Int) == 32 || (decide (9 ≤ (c.toNat : Int)) && decide ((c.toNat : Int) ≤ 13)))) (by decide +kernel) c
  have hbc : blankB c = ((c.toNat : Int) == 32 || (decide (9 ≤ (c.toNat : Int)) && decide ((c.toNat : Int) ≤ 13))) := by simpa using hb c
  rw [hbc]
  generalize (c.toNat : Int) = n
  by_cases h1 : n = 32
  · simp [irBlank, h1]
  · by_cases h2 : 9 ≤ n
    · simp [irBlank, h1, h2]
    · simp [irBlank, h1, h2]
theorem c_errNew {tE tp tpe : Nat} (hB : ∀ s : ByteArray, bld? P tE [(0, .string s)] = some (.agg #[.string s])) (hU : P.underlying tp = some (.pointer tpe)) {g nt : Nat} (hnt : 1 ≤ nt) (hI : FnIs P g nt [.t 2] (irErrNew E tE tp)) (w : World) (s : ByteArray) :
    Ret P g #[.string s] w fun u w' => (∃ t v, u = .iface t v) ∧ Ext none1 w w' := by
  refine hI.call (args := [_]) hnt ?_
  simp [irErrNew, hB]
  rw [stepF_ok (v := .iface tp (.pointer (some ⟨w.heap.size, 0, none⟩))) (w' := w.alloc (.cells (Value.agg #[.string s]).cells tE)) (by simp [runF, execOp, Instr.makeInterface, run_underlying hU])]
  simp
  exact (Ext.refl none1 w).alloc _
end
end Go.Kg

set_option linter.unusedSimpArgs false
set_option linter.unusedVariables false
set_option linter.unusedSectionVars false
namespace Go.Kg
open Go
section
variable {P : Program} {C : CfgR} {R : Rdr} {Q : Post} {f : Nat → Value} {w : World}
end
end Go.Kg

set_option linter.unusedSimpArgs false
set_option linter.unusedVariables false
set_option linter.unusedSectionVars false
namespace Go.Kg
open Go
section
variable {P : Program} {C : CfgR}
def EltP (p : Prim) (w : World) (K : Nat → Prop) (es : List Value) (y : p.T) : Prop := ∃ u, es = u.cells.toList ∧ p.rep1 w K u y
def EltS (S : Sch) (w : World) (K : Nat → Prop) (es : List Value) (y : S.T) : Prop := S.Rep w K es y
theorem EltP.ext (p : Prim) : ∀ w w' K X es y, EltP p w K es y → Ext X w w' → (∀ k, k < w.heap.size → K k → ¬ X k) → EltP p w' K es y := by
  rintro w w' K X es y ⟨u, h1, h2⟩ he hK
  exact ⟨u, h1, Prim.rep1_ext he hK h2⟩
theorem EltP.mono (p : Prim) : ∀ w (K K' : Nat → Prop) es y, EltP p w K es y → (∀ k, K k → K' k) → EltP p w K' es y := by
  rintro w K K' es y ⟨u, h1, h2⟩ hK
  exact ⟨u, h1, Prim.rep1_mono hK h2⟩
theorem EltS.ext (S : Sch) : ∀ w w' K X es y, EltS S w K es y → Ext X w w' → (∀ k, k < w.heap.size → K k → ¬ X k) → EltS S w' K es y := fun w w' K X es y h he hK => Sch.Rep_ext he hK S h
theorem EltS.mono (S : Sch) : ∀ w (K K' : Nat → Prop) es y, EltS S w K es y → (∀ k, K k → K' k) → EltS S w K' es y := fun w K K' es y h hK => Sch.Rep_mono hK S h
/-- A list's field stands in a struct's cells. -/
def ArrFld {α : Type} (Relt : World → (Nat → Prop) → List Value → α → Prop) (w : World) (K : Nat → Prop) (sz : Nat) (cs : List Value) (o : Nat) (A : Option (List α)) : Prop :=
  ∃ v ls, cs[o]? = some v ∧ ArrAt w K sz v ls ∧ (ls.isSome = A.isSome ∧ InHeap w v) ∧ (ls.getD []).length = (A.getD []).length ∧ ∀ (i : Nat) (es : List Value) x, (ls.getD [])[i]? = some es → (A.getD [])[i]? = some x → Relt w K es x
theorem ArrFld.move {α : Type} {Relt : World → (Nat → Prop) → List Value → α → Prop} (hRext : ∀ w w' K X es y, Relt w K es y → Ext X w w' → (∀ k, k < w.heap.size → K k → ¬ X k) → Relt w' K es y) {w w' : World} {K X : Nat → Prop} {sz o : Nat} {cs cs' : List Value} {A : Option (List α)} (h : ArrFld Relt w K sz cs o A) (he : Ext X w w') (hK : ∀ k, k < w.heap.size → K k → ¬ X k) (hc : cs'[o]? = cs[o]?) : ArrFld Relt w' K sz cs' o A := by
  obtain ⟨v, ls, h1, h2, h3, h4, h5⟩ := h
  exact ⟨v, ls, hc.trans h1, ArrAt.ext he hK h2, ⟨h3.1, h3.2.ext he⟩, h4, fun i es x hi hx => hRext _ _ _ _ _ _ (h5 i es x hi hx) he hK⟩
end
end Go.Kg

set_option linter.unusedSimpArgs false
set_option linter.unusedVariables false
set_option linter.unusedSectionVars false
namespace Go.Kg
open Go
section
variable {P : Program} {C : CfgR}
end
end Go.Kg

set_option linter.unusedSimpArgs false
set_option linter.unusedVariables false
set_option linter.unusedSectionVars false
namespace Go.Kg
open Go
section
variable {P : Program} {C : CfgR}
end
end Go.Kg

set_option linter.unusedSimpArgs false
set_option linter.unusedVariables false
set_option linter.unusedSectionVars false
namespace Go.Kg
open Go
end Go.Kg

set_option linter.unusedSimpArgs false
set_option linter.unusedVariables false
set_option linter.unusedSectionVars false
namespace Go.Kg
open Go
section
variable {P : Program} {C : CfgR}
end
end Go.Kg

set_option linter.unusedSimpArgs false
set_option linter.unusedVariables false
set_option linter.unusedSectionVars false
namespace Go.Kg
open Go
end Go.Kg

set_option linter.unusedSimpArgs false
set_option linter.unusedVariables false
set_option linter.unusedSectionVars false
namespace Go.Kg
open Go
end Go.Kg

set_option linter.unusedSimpArgs false
set_option linter.unusedVariables false
set_option linter.unusedSectionVars false
namespace Go.Kg
open Go
end Go.Kg

set_option linter.unusedSimpArgs false
set_option linter.unusedVariables false
namespace Go.Kg
open Go
section
variable {P : Program} {E : Env}
end
end Go.Kg

set_option linter.unusedSimpArgs false
set_option linter.unusedVariables false
namespace Go.Kg
open Go
/-- the tags of a tree have numbers of 32 bits -/
inductive Tr.Ok : Tr → Prop where
  | mk {n : Int} {s : List UInt8} {nul : Bool} {l : List Tr} {u : List (Nat × List UInt8)} (hu : ∀ x ∈ u, x.1 < 4294967296) (hl : ∀ t ∈ l, Tr.Ok t) : Tr.Ok (.mk n s nul l u)
theorem Tr.Ok.l {t : Tr} (h : t.Ok) : ∀ x ∈ t.l, x.Ok := by cases h with | mk _ hl => exact hl
theorem Tr.Ok.u {t : Tr} (h : t.Ok) : ∀ x ∈ t.u, x.1 < 4294967296 := by cases h with | mk hu _ => exact hu
theorem Tr.Ok.none : Tr.none.Ok := .mk (by simp) (by simp)
theorem Tr.Ok.at {t : Tr} (h : t.Ok) (i : Nat) : (t.at i).Ok := by
  unfold Tr.at
  cases hi : t.l[i]? with
  | none => exact Tr.Ok.none
  | some x => exact h.l x (List.mem_of_getElem? hi)
theorem TreeAt.ok {w : World} : ∀ {t : Tr} {cs : List Value}, TreeAt w cs t → t.Ok := by
  intro t cs h
  induction h with
  | mk hn hs ha hl he hu ih =>
    rename_i n s nul l u sv lv uv ls
    refine .mk ?_ ?_
    · obtain ⟨ls', _, hlen, hx⟩ := hu
      intro x hxm
      obtain ⟨i, hi⟩ := List.getElem?_of_mem hxm
      have hlt := (List.getElem?_eq_some_iff.1 hi).1
      obtain ⟨c, hc⟩ : ∃ c, (ls'.getD [])[i]? = some c := ⟨_, List.getElem?_eq_getElem (by omega)⟩
      exact (hx i c x hc hi).choose_spec.2.1
    · intro x hxm
      obtain ⟨i, hi⟩ := List.getElem?_of_mem hxm
      have hlt := (List.getElem?_eq_some_iff.1 hi).1
      obtain ⟨c, hc⟩ : ∃ c, (ls.getD [])[i]? = some c := ⟨_, List.getElem?_eq_getElem (by omega)⟩
      exact ih i c x hc hi
end Go.Kg

set_option linter.unusedSimpArgs false
set_option linter.unusedVariables false
namespace Go.Kg
open Go
def Sch.cap : Sch → Nat
  | .fin => 0
  | .tags _ _ => 5 + 40000 * 32777
  | .prim _ _ _ _ _ _ r => 32772 + r.cap
  | .arrP _ _ _ _ _ _ r => 5 + 32767 * 32772 + r.cap
  | .arrS _ _ _ _ _ _ _ _ _ e r => 5 + 32767 * e.cap + r.cap
  | .sub _ _ _ _ _ _ _ e r => e.cap + r.cap
  | .opt _ _ _ _ _ _ _ _ e r => 1 + e.cap + r.cap
end Go.Kg

set_option linter.unusedSimpArgs false
set_option linter.unusedVariables false
namespace Go.Kg
open Go
section
variable {P : Program} {E : Env} (ht : TyF P E)
include ht
end
end Go.Kg

set_option linter.unusedSimpArgs false
set_option linter.unusedVariables false
namespace Go.Kg
open Go
theorem TreeAt.five {w : World} {cs : List Value} {t : Tr} (h : TreeAt w cs t) : cs.length = 5 ∧ allOne cs = true := by
  cases h with
  | mk hn hs ha hl he hu =>
    obtain ⟨a1, c1, rfl, _⟩ := hs.len
    obtain ⟨a2, c2, rfl, _⟩ := ha.form
    obtain ⟨lu, hu1, _⟩ := hu
    obtain ⟨a3, c3, rfl, _⟩ := hu1.form
    simp [allOne, Value.oneCell']
/-- s[:l] of bytes -/
theorem BytesAt.upTo {w : World} {K : Nat → Prop} {a : Option Addr} {n c : Nat} {s : List UInt8} (h : BytesAt w K (.slice a n c) s) {l : Nat} (hl : l ≤ s.length) : BytesAt w K (.slice (if c = 0 then a else a.map (·.add 0)) l c) (s.take l) := by
  rcases h with ⟨⟨a', hv⟩, rfl⟩ | ⟨b, o, c', hv, h2, hk, h3⟩
  · cases hv
    have : l = 0 := by simpa using hl
    subst this
    exact .inl ⟨⟨a, by simp⟩, by simp⟩
  · cases hv
    refine .inr ⟨b, o, c, by simp [Nat.min_eq_left hl, Addr.add_mk], by simp; omega, fun h => hk (by rintro rfl; simp at h), ?_⟩
    intro i x hx
    rw [List.getElem?_take] at hx
    split at hx
    · exact h3 _ _ hx
    · cases hx
section
variable {P : Program} {E : Env} (ht : TyK P E) (hs : SpecFns P E)
include ht hs
end
end Go.Kg

set_option linter.unusedSimpArgs false
set_option linter.unusedVariables false
namespace Go.Kg
open Go
section
variable {P : Program} {E : Env}
/-- s[1:] of bytes -/
theorem BytesAt.tl1 {w : World} {K : Nat → Prop} {b : Nat} {o n c : Nat} {x : UInt8} {s : List UInt8} (h : BytesAt w K (.slice (some ⟨b, o, none⟩) n c) (x :: s)) : BytesAt w K (.slice (if c = 1 then some ⟨b, o, none⟩ else some ⟨b, o + 1, none⟩) (n - 1) (c - 1)) s := by
  rcases h with ⟨_, h⟩ | ⟨b', o', c', hv, h2, hk, h3⟩
  · cases h
  · cases hv
    by_cases h1 : c = 1
    · subst h1
      have : s = [] := by
        simp only [List.length_cons] at h2
        exact List.length_eq_zero_iff.1 (by omega)
      subst this
      exact .inl ⟨⟨some ⟨b, o, none⟩, by simp⟩, rfl⟩
    · rw [if_neg h1]
      refine .inr ⟨b, o + 1, c - 1, by simp, by simp only [List.length_cons] at h2; omega, fun _ => hk (by simp), ?_⟩
      intro i y hy
      have := h3 (i + 1) y (by simpa using hy)
      rw [show o + 1 + i = o + (i + 1) by omega]
      exact this
def NmA (E : Env) (s : List UInt8) (w : World) (f : Nat → Value) (w' : World) : Prop :=
  ∃ i : Nat, i ≤ s.length ∧ f 4 = .int .i64 i ∧ f 0 = strV s ∧ OwnB E.tU8 w' w.heap.size (f 3) (((s.take i).map lowB).filter fun c => !dotB c) ∧ Ext none1 w w'
def NmB (p : UInt8 → Bool) (t : List UInt8) (w : World) (f : Nat → Value) (w' : World) : Prop :=
  ∃ r : List UInt8, BytesAt w' All (f 3) r ∧ r.dropWhile p = t ∧ Ext none1 w w' ∧ r.length ≤ 1000
def NmC (p : UInt8 → Bool) (t : List UInt8) (w : World) (f : Nat → Value) (w' : World) : Prop :=
  ∃ r : List UInt8, BytesAt w' All (f 3) r ∧ (r.reverse.dropWhile p).reverse = t ∧ Ext none1 w w' ∧ r.length ≤ 1000
theorem ba_get (l : List UInt8) (i : Nat) : (ByteArray.mk l.toArray)[i]? = l[i]? := by
  by_cases h : i < l.length
  · have h' : i < (ByteArray.mk l.toArray).size := by show i < l.toArray.size; simpa using h
    rw [getElem?_pos (ByteArray.mk l.toArray) i h', List.getElem?_eq_getElem h]; rfl
  · have h' : ¬ i < (ByteArray.mk l.toArray).size := by show ¬ i < l.toArray.size; simpa using h
    rw [getElem?_neg (ByteArray.mk l.toArray) i h', List.getElem?_eq_none (by omega)]
theorem low_nat (x : UInt8) : ((lowB x).toNat : Int) = if 65 ≤ (x.toNat : Int) ∧ (x.toNat : Int) ≤ 90 then (x.toNat : Int) + 32 else x.toNat := by
  have := all256 (fun x => ((lowB x).toNat : Int) == if 65 ≤ (x.toNat : Int) ∧ (x.toNat : Int) ≤ 90 then (x.toNat : Int) + 32 else x.toNat) (by decide +kernel) x
  simpa using this
theorem dot_nat (x : UInt8) : dotB x = ((x.toNat : Int) == 46 || (x.toNat : Int) == 95 || (x.toNat : Int) == 45) := by
  have := all256 (fun x => dotB x == ((x.toNat : Int) == 46 || (x.toNat : Int) == 95 || (x.toNat : Int) == 45)) (by decide +kernel) x
  simpa using this
set_option maxHeartbeats 1000000 in
theorem c_Normal (uS : P.underlying E.tS = some .string) (uBs : P.underlying E.tBs = some (.slice E.tU8)) (uU8 : P.underlying E.tU8 = some (.int .u8)) (kU8 : kindOf P E.tU8 = .scl) (tBs : SliI P E.tBs E.tU8 1 1 (.int .u8 0)) {fB g nt : Nat} (hnt : 1 ≤ nt) (hI : FnIs P g nt [.t 2] (irNormal E fB))
    (hBl : ∀ (w : World) (c : UInt8), Ret P fB #[.int .u8 c.toNat] w fun u w' => u = .bool (blankB c) ∧ w' = w) {w : World} {s : List UInt8} (hlen : s.length ≤ 1000) :
    Ret P g #[strV s] w fun u w' => u = strV (normS s) ∧ Ext none1 w w' := by
  refine hI.call (args := [_]) hnt ?_
  simp [irNormal]
  refine cw_blockThen (fun f w' => OwnB E.tU8 w' w.heap.size (f 3) ((s.map lowB).filter fun c => !dotB c) ∧ Ext none1 w w') ?_ ?_
  · refine cw_loop (NmA E s w) (fun f _ => match f 4 with | .int _ i => ((s.length : Int) - i).toNat | _ => 0) ?_ ?_
    · exact ⟨0, by omega, by simp, by simp, by simpa [OwnB, cellsOf] using Own.nil w w.heap.size E.tU8 1, Ext.refl _ _⟩
    rintro f w' ⟨i, hi, h4, h0, ho, he⟩
    have zs : (ByteArray.mk s.toArray).size = s.length := by show s.toArray.size = _; simp
    have hbase := he.size
    simp [h4, h0, strV, len_str uS, zs]
    by_cases hlt : i < s.length
    rotate_left
    · refine cw_false (by simp; omega) ?_
      simp
      have : i = s.length := by omega
      subst this
      rw [List.take_length] at ho
      exact ⟨ho, he⟩
    refine cw_true (by simp; omega) ?_
    obtain ⟨x, hx⟩ : ∃ x, s[i]? = some x := ⟨_, List.getElem?_eq_getElem hlt⟩
    simp [h4, h0, strV]
    rw [st_index_str uS (s := ⟨s.toArray⟩) (k := .i64) (i := i) (b := x) (by simp) (by simp) (by rw [ba_get]; exact hx)]
    have e1 : IntKind.i64.wrap ((i : Int) + 1) = ((i + 1 : Nat) : Int) := by rw [i64_small (by omega) (by omega)]; rfl
    have htk : s.take (i + 1) = s.take i ++ [x] := by rw [List.take_add_one, hx]; rfl
    have hlow := low_nat x
    have hx256 : (x.toNat : Int) < 256 := by have := x.toNat_lt; omega
    have hdot := dot_nat (lowB x)
    rcases (show (65 ≤ (x.toNat : Int) ∧ (x.toNat : Int) ≤ 90) ∨ (x.toNat : Int) < 65 ∨ (65 ≤ (x.toNat : Int) ∧ 90 < (x.toNat : Int)) by omega) with hU | hU | hU
    · rw [if_pos hU] at hlow
      have hv : IntKind.u8.wrap ((x.toNat : Int) + 32) = ((lowB x).toNat : Int) := by rw [hlow]; simp [IntKind.wrap, IntKind.signed, IntKind.bits]; omega
      simp [hU.1, hU.2]
      refine cw_true (by simp) ?_
      simp [hv]
      by_cases h46 : ((lowB x).toNat : Int) = 46
      · have hd : dotB (lowB x) = true := by rw [hdot, h46]; rfl
        simp [h46]
        refine cw_false (by simp) ?_
        simp [h4, e1]
        exact ⟨⟨i + 1, by omega, by simp, by simp [h0], by simpa [htk, hd] using ho, he⟩, by omega⟩
      by_cases h95 : ((lowB x).toNat : Int) = 95
      · have hd : dotB (lowB x) = true := by rw [hdot, h95]; rfl
        simp [h95]
        refine cw_false (by simp) ?_
        simp [h4, e1]
        exact ⟨⟨i + 1, by omega, by simp, by simp [h0], by simpa [htk, hd] using ho, he⟩, by omega⟩
      by_cases h45 : ((lowB x).toNat : Int) = 45
      · have hd : dotB (lowB x) = true := by rw [hdot, h45]; rfl
        simp [h45]
        refine cw_false (by simp) ?_
        simp [h4, e1]
        exact ⟨⟨i + 1, by omega, by simp, by simp [h0], by simpa [htk, hd] using ho, he⟩, by omega⟩
      have hd : dotB (lowB x) = false := by rw [hdot]; simp [h46, h95, h45]
      simp [h46, h95, h45]
      refine cw_true (by simp [h45]) ?_
      simp [st_bsl tBs, denseFrom, allSz, flat, Value.cells]
      refine st_app_lit tBs (by simp) ho hbase [lowB x] (by simp [flat, cellsOf, Value.cells]) (by simp) (by have := List.length_filter_le (fun c => !dotB c) ((s.take i).map lowB); simp at this ⊢; omega) ?_
      intro v3 w3 ho3 hg3
      have hE3 : Ext none1 w w3 := he.trans' hg3.ext (fun x hx h => by have := (Own.below ho h).1; omega)
      simp [h4, e1]
      exact ⟨⟨i + 1, by omega, by simp, by simp [h0], by simpa [htk, hd] using ho3, hE3⟩, by omega⟩
    · rw [if_neg (by omega)] at hlow
      have q1 : ¬ (65 ≤ (x.toNat : Int)) := by omega
      simp [q1]
      refine cw_false (by simp) ?_
      simp [← hlow]
      by_cases h46 : ((lowB x).toNat : Int) = 46
      · have hd : dotB (lowB x) = true := by rw [hdot, h46]; rfl
        simp [h46]
        refine cw_false (by simp) ?_
        simp [h4, e1]
        exact ⟨⟨i + 1, by omega, by simp, by simp [h0], by simpa [htk, hd] using ho, he⟩, by omega⟩
      by_cases h95 : ((lowB x).toNat : Int) = 95
      · have hd : dotB (lowB x) = true := by rw [hdot, h95]; rfl
        simp [h95]
        refine cw_false (by simp) ?_
        simp [h4, e1]
        exact ⟨⟨i + 1, by omega, by simp, by simp [h0], by simpa [htk, hd] using ho, he⟩, by omega⟩
      by_cases h45 : ((lowB x).toNat : Int) = 45
      · have hd : dotB (lowB x) = true := by rw [hdot, h45]; rfl
        simp [h45]
        refine cw_false (by simp) ?_
        simp [h4, e1]
        exact ⟨⟨i + 1, by omega, by simp, by simp [h0], by simpa [htk, hd] using ho, he⟩, by omega⟩
      have hd : dotB (lowB x) = false := by rw [hdot]; simp [h46, h95, h45]
      simp [h46, h95, h45]
      refine cw_true (by simp [h45]) ?_
      simp [st_bsl tBs, denseFrom, allSz, flat, Value.cells]
      refine st_app_lit tBs (by simp) ho hbase [lowB x] (by simp [flat, cellsOf, Value.cells]) (by simp) (by have := List.length_filter_le (fun c => !dotB c) ((s.take i).map lowB); simp at this ⊢; omega) ?_
      intro v3 w3 ho3 hg3
      have hE3 : Ext none1 w w3 := he.trans' hg3.ext (fun x hx h => by have := (Own.below ho h).1; omega)
      simp [h4, e1]
      exact ⟨⟨i + 1, by omega, by simp, by simp [h0], by simpa [htk, hd] using ho3, hE3⟩, by omega⟩
    · rw [if_neg (by omega)] at hlow
      have q1 : ¬ ((x.toNat : Int) ≤ 90) := by omega
      simp [hU.1, q1]
      refine cw_false (by simp) ?_
      simp [← hlow]
      by_cases h46 : ((lowB x).toNat : Int) = 46
      · have hd : dotB (lowB x) = true := by rw [hdot, h46]; rfl
        simp [h46]
        refine cw_false (by simp) ?_
        simp [h4, e1]
        exact ⟨⟨i + 1, by omega, by simp, by simp [h0], by simpa [htk, hd] using ho, he⟩, by omega⟩
      by_cases h95 : ((lowB x).toNat : Int) = 95
      · have hd : dotB (lowB x) = true := by rw [hdot, h95]; rfl
        simp [h95]
        refine cw_false (by simp) ?_
        simp [h4, e1]
        exact ⟨⟨i + 1, by omega, by simp, by simp [h0], by simpa [htk, hd] using ho, he⟩, by omega⟩
      by_cases h45 : ((lowB x).toNat : Int) = 45
      · have hd : dotB (lowB x) = true := by rw [hdot, h45]; rfl
        simp [h45]
        refine cw_false (by simp) ?_
        simp [h4, e1]
        exact ⟨⟨i + 1, by omega, by simp, by simp [h0], by simpa [htk, hd] using ho, he⟩, by omega⟩
      have hd : dotB (lowB x) = false := by rw [hdot]; simp [h46, h95, h45]
      simp [h46, h95, h45]
      refine cw_true (by simp [h45]) ?_
      simp [st_bsl tBs, denseFrom, allSz, flat, Value.cells]
      refine st_app_lit tBs (by simp) ho hbase [lowB x] (by simp [flat, cellsOf, Value.cells]) (by simp) (by have := List.length_filter_le (fun c => !dotB c) ((s.take i).map lowB); simp at this ⊢; omega) ?_
      intro v3 w3 ho3 hg3
      have hE3 : Ext none1 w w3 := he.trans' hg3.ext (fun x hx h => by have := (Own.below ho h).1; omega)
      simp [h4, e1]
      exact ⟨⟨i + 1, by omega, by simp, by simp [h0], by simpa [htk, hd] using ho3, hE3⟩, by omega⟩
  · rintro f w' ⟨ho, he⟩
    generalize hout : ((s.map lowB).filter fun c => !dotB c) = out at ho
    have hol : out.length ≤ 1000 := by
      rw [← hout]
      have := List.length_filter_le (fun c => !dotB c) (s.map lowB)
      simp at this ⊢
      omega
    have hob := own_bytes ho
    simp
    refine cw_blockThen (fun f w' => BytesAt w' All (f 3) (out.dropWhile blankB) ∧ Ext none1 w w') ?_ ?_
    · refine cw_loop (NmB blankB (out.dropWhile blankB) w) (fun f _ => match f 3 with | .slice _ n _ => n | _ => 0) ?_ ?_
      · exact ⟨out, hob, rfl, he, hol⟩
      rintro f w' ⟨r, hr, hd, he, hrl⟩
      cases r with
      | nil =>
        obtain ⟨a, c, hv, _⟩ := hr.len
        simp [hv, len_slice uBs]
        refine cw_false (by simp) ?_
        simp
        rw [← hd]
        exact ⟨by rw [hv] at hr; simpa [hv] using hr, he⟩
      | cons x r =>
        have hr0 := hr
        rcases hr with ⟨_, h⟩ | ⟨b, o, c, hv, h2, _, h3⟩
        · cases h
        have c0 := h3 0 x rfl
        simp only [Nat.add_zero] at c0
        simp only [List.length_cons] at hv h2
        have hgt : (0 : Int) < (r.length : Int) + 1 := by omega
        simp [hv, len_slice uBs, idx?, tBs.siz, hgt, Addr.add_mk, ld_scl kU8, c0]
        refine (hBl w' x).mono ?_
        rintro _ _ ⟨rfl, rfl⟩
        by_cases hb : blankB x = true
        · refine cw_true (by simp [hb]) ?_
          have h1c : 1 ≤ c := by omega
          simp [hv, slice?, tBs.siz, Addr.add_mk]
          try rw [if_pos (by omega)]
          try simp
          have hr1 := (hv ▸ hr0 : BytesAt _ All (.slice (some ⟨b, o, none⟩) (r.length + 1) c) (x :: r)).tl1
          simp only [Nat.add_sub_cancel] at hr1
          refine ⟨r, by simpa using hr1, ?_, he, by simp at hrl; omega⟩
          rw [← hd, List.dropWhile_cons, if_pos hb]
        · refine cw_false (by simp [hb]) ?_
          simp
          have : (x :: r).dropWhile blankB = x :: r := by rw [List.dropWhile_cons, if_neg hb]
          rw [← hd, this]
          exact ⟨by simpa using hr0, he⟩
    · rintro f w' ⟨hb, he⟩
      generalize hmid : out.dropWhile blankB = mid at hb
      have hml : mid.length ≤ 1000 := by
        rw [← hmid]
        have := (List.dropWhile_sublist blankB (l := out)).length_le
        omega
      simp
      refine cw_blockThen (fun f w' => BytesAt w' All (f 3) (mid.reverse.dropWhile blankB).reverse ∧ Ext none1 w w') ?_ ?_
      · refine cw_loop (NmC blankB (mid.reverse.dropWhile blankB).reverse w) (fun f _ => match f 3 with | .slice _ n _ => n | _ => 0) ?_ ?_
        · exact ⟨mid, hb, rfl, he, hml⟩
        rintro f w' ⟨r, hr, hd, he, hrl⟩
        rcases List.eq_nil_or_concat r with rfl | ⟨l, x, rfl⟩
        · obtain ⟨a, c, hv, _⟩ := hr.len
          simp [hv, len_slice uBs]
          refine cw_false (by simp) ?_
          simp
          rw [← hd]
          exact ⟨by rw [hv] at hr; simpa [hv] using hr, he⟩
        · have hr0 := hr
          rcases hr with ⟨_, h⟩ | ⟨b, o, c, hv, h2, _, h3⟩
          · simp at h
          have c0 := h3 l.length x (by simp)
          simp only [List.concat_eq_append, List.length_append, List.length_cons, List.length_nil, Nat.zero_add] at hv h2 hd hr0 hrl
          have hgt : (0 : Int) < (l.length : Int) + 1 := by omega
          have e1 : IntKind.i64.wrap ((l.length : Int) + 1 - 1) = ((l.length : Nat) : Int) := by rw [i64_small (by omega) (by omega)]; omega
          have e2 : IntKind.i64.wrap ((l.length : Int)) = ((l.length : Nat) : Int) := by rw [i64_small (by omega) (by omega)]
          simp [hv, len_slice uBs, idx?, tBs.siz, hgt, Addr.add_mk, ld_scl kU8, c0, e1, e2]
          refine (hBl w' x).mono ?_
          rintro _ _ ⟨rfl, rfl⟩
          by_cases hb3 : blankB x = true
          · refine cw_true (by simp [hb3]) ?_
            have hlc : l.length ≤ c := by omega
            simp [hv, len_slice uBs, e1, e2, slice?, tBs.siz, Addr.add_mk, hlc]
            try rw [if_pos (by omega)]
            try simp
            have hr1 := BytesAt.upTo (hv ▸ hr0 : BytesAt _ All (.slice (some ⟨b, o, none⟩) (l.length + 1) c) (l ++ [x])) (l := l.length) (by simp)
            rw [List.take_left'] at hr1
            · refine ⟨l, by simpa [Addr.add_mk] using hr1, ?_, he, by omega⟩
              rw [← hd, List.reverse_append]
              simp [List.dropWhile_cons, hb3]
            · rfl
          · refine cw_false (by simp [hb3]) ?_
            simp
            have : (((l ++ [x]).reverse.dropWhile blankB).reverse) = l ++ [x] := by
              rw [List.reverse_append]
              simp [List.dropWhile_cons, hb3]
            rw [← hd, this]
            exact ⟨by simpa using hr0, he⟩
      · rintro f w' ⟨hb2, he2⟩
        simp
        rw [convK_bytes uBs uU8 uS hb2 (by simp)]
        try simp
        refine ⟨?_, he2⟩
        simp only [normS, trimF, hout, hmid]
end
end Go.Kg

set_option linter.unusedSimpArgs false
set_option linter.unusedVariables false
namespace Go.Kg
open Go
section
variable {P : Program} {E : Env}
def PlInv (s : List UInt8) (w : World) (f : Nat → Value) (w' : World) : Prop :=
  ∃ i : Nat, i ≤ s.length ∧ f 3 = .int .i64 i ∧ f 0 = strV s ∧ Ext none1 w w' ∧ ∀ c ∈ s.take i, c < 128
theorem ltb128 (x : UInt8) : (x < 128) ↔ (x.toNat : Int) ≤ 127 := by
  have := all256 (fun x => decide (x < 128) == decide ((x.toNat : Int) ≤ 127)) (by decide +kernel) x
  simpa using this
theorem c_plain (uS : P.underlying E.tS = some .string) {fN g nt : Nat} (hnt : 1 ≤ nt) (hI : FnIs P g nt [.t 2] (irPlain E fN))
    (hN : ∀ (w : World) (s : List UInt8), s.length ≤ 1000 → Ret P fN #[strV s] w fun u w' => u = strV (normS s) ∧ Ext none1 w w') {w : World} {s : List UInt8} (hlen : s.length < 9223372036854775808) :
    Ret P g #[strV s] w fun u w' => (∃ b : Bool, u = .bool b ∧ (b = true → s.length ≤ 200 ∧ ∀ c ∈ s, c < 128)) ∧ Ext none1 w w' := by
  refine hI.call (args := [_]) hnt ?_
  have zs : (ByteArray.mk s.toArray).size = s.length := by show s.toArray.size = _; simp
  have hs0 : (Value.string ⟨s.toArray⟩) = strV s := rfl
  by_cases h2 : s.length ≤ 200
  rotate_left
  · have h2' : (200 : Int) < s.length := by omega
    simp [irPlain, strV, len_str uS, zs, h2']
    refine cw_true (by simp) ?_
    simp
    exact Ext.refl _ _
  have h2' : ¬ ((200 : Int) < s.length) := by omega
  simp [irPlain, strV, len_str uS, zs, h2']
  rw [hs0]
  refine (hN w s (by omega)).mono ?_
  rintro _ w1 ⟨rfl, he1⟩
  simp [strV, Go.ByteArray.toList_eq]
  by_cases hun : normS s = [117, 110, 107, 110, 111, 119, 110]
  · refine cw_true (by simp [hun]) ?_
    simp
    exact he1
  refine cw_false (by simp [hun]) ?_
  simp
  refine cw_blockThenR (fun f w' => Ext none1 w w' ∧ ∀ c ∈ s, c < 128) (fun f w' => Ext none1 w w' ∧ f 2 = .bool false) ?_ ?_ ?_
  rotate_left
  · rintro f w' ⟨he, hc⟩
    simp
    exact ⟨⟨h2, hc⟩, he⟩
  · rintro f w' ⟨he, h⟩
    simp [h]
    exact he
  refine cw_loop (PlInv s w) (fun f _ => match f 3 with | .int _ i => ((s.length : Int) - i).toNat | _ => 0) ?_ ?_
  · exact ⟨0, by omega, by simp, by simp [strV], he1, by simp⟩
  rintro f w' ⟨i, hi, h3, h0, he, hc⟩
  simp [h3, h0, strV, len_str uS, zs]
  by_cases hlt : i < s.length
  rotate_left
  · refine cw_false (by simp; omega) ?_
    simp
    have : i = s.length := by omega
    subst this
    rw [List.take_length] at hc
    exact ⟨he, hc⟩
  refine cw_true (by simp; omega) ?_
  obtain ⟨x, hx⟩ : ∃ x, s[i]? = some x := ⟨_, List.getElem?_eq_getElem hlt⟩
  simp [h3, h0, strV]
  rw [st_index_str uS (s := ⟨s.toArray⟩) (k := .i64) (i := i) (b := x) (by simp) (by simp) (by rw [ba_get]; exact hx)]
  have e1 : IntKind.i64.wrap ((i : Int) + 1) = ((i + 1 : Nat) : Int) := by rw [i64_small (by omega) (by omega)]; rfl
  simp
  by_cases hb : (127 : Int) < x.toNat
  · refine cw_true (by simp; omega) ?_
    simp
    exact he
  · refine cw_false (by simp; omega) ?_
    simp [h3, e1]
    refine ⟨⟨i + 1, by omega, by simp, by simp [h0, strV], he, ?_⟩, by omega⟩
    rw [List.take_add_one, hx]
    intro c hcc
    rcases List.mem_append.1 hcc with h | h
    · exact hc c h
    · simp at h
      subst h
      exact (ltb128 _).2 (by omega)
end
end Go.Kg

set_option linter.unusedSimpArgs false
set_option linter.unusedVariables false
namespace Go.Kg
open Go
/-- names with their numbers -/
def NmsAt (w : World) (v : Value) (ns : List (Int × List UInt8)) : Prop := ∃ b c, v = .slice (some ⟨b, 0, none⟩) ns.length c ∧ ∀ (i : Nat) n t, ns[i]? = some (n, t) → CellsAt w b (i * 2) [.int .i64 n, strV t]
theorem NmsAt.ext {w w' : World} {v : Value} {ns : List (Int × List UInt8)} (h : NmsAt w v ns) (he : Ext none1 w w') : NmsAt w' v ns := by
  obtain ⟨b, c, rfl, hx⟩ := h
  exact ⟨b, c, rfl, fun i n t hi => CellsAt.ext (K := fun _ => True) he (fun _ _ _ h => h) (hx i n t hi) trivial⟩
def parsedS (s : List UInt8) : List (Int × List UInt8) → Option Int
  | [] => none
  | (n, t) :: l => if normS t = normS s then some n else parsedS s l
theorem parsedS_none {s : List UInt8} : ∀ {l : List (Int × List UInt8)}, (∀ x ∈ l, normS x.2 ≠ normS s) → parsedS s l = none
  | [], _ => rfl
  | (n, t) :: l, h => by
    simp only [parsedS, if_neg (h (n, t) List.mem_cons_self)]
    exact parsedS_none fun x hx => h x (List.mem_cons_of_mem _ hx)
theorem parsedS_at {s t : List UInt8} {n : Int} (ht : normS t = normS s) : ∀ {l : List (Int × List UInt8)} {i : Nat}, l[i]? = some (n, t) → (∀ x ∈ l.take i, normS x.2 ≠ normS s) → parsedS s l = some n
  | [], i, hi, _ => by simp at hi
  | (n', t') :: l, 0, hi, _ => by
    simp at hi
    obtain ⟨rfl, rfl⟩ := hi
    simp only [parsedS, if_pos ht]
  | (n', t') :: l, i + 1, hi, h => by
    simp only [List.take_succ_cons] at h
    simp only [parsedS, if_neg (h (n', t') List.mem_cons_self)]
    exact parsedS_at ht (by simpa using hi) fun x hx => h x (List.mem_cons_of_mem _ hx)
structure TyNm (P : Program) (E : Env) (tLN tN : Nat) (zn : Value) : Prop where
  sN : SliI P tLN tN 2 24 zn
  kN : kindOf P tN = .agg 2
  n0 : fldOff P tN 0 = some 0
  n1 : fldOff P tN 1 = some 1
  kS : kindOf P E.tS = .scl
  zN : ∃ a b, zeroOf P tN = some (.agg #[a, b])
  pl : places P tN = some [(0, 1), (1, 1)]
  iInt : intKind? P E.tInt = some .i64
  kI : kindOf P E.tInt = .scl
section
variable {P : Program} {E : Env} {tLN tN : Nat} {zn : Value} (ht : TyNm P E tLN tN zn)
include ht
theorem bld_nm (n : Int) (s : ByteArray) : bld? P tN [(0, .int .i64 n), (1, .string s)] = some (.agg #[.int .i64 n, .string s]) := by
  obtain ⟨a, b, hz⟩ := ht.zN
  have hc : (Value.agg #[a, b]).cells = #[a, b] := rfl
  simp only [bld?, hz, ht.pl, Instr.fill, hc]
  simp [Value.cells]
def PdInv (ns : List (Int × List UInt8)) (s : List UInt8) (w : World) (v : Value) (f : Nat → Value) (w' : World) : Prop :=
  ∃ i : Nat, i ≤ ns.length ∧ f 10 = .int .i64 i ∧ f 9 = .int .i64 ns.length ∧ f 8 = v ∧ f 1 = strV s ∧ Ext none1 w w' ∧ ∀ x ∈ ns.take i, normS x.2 ≠ normS s
theorem c_Parsed {fN g nt : Nat} (hnt : 2 ≤ nt) (hI : FnIs P g nt [.t 4, .t 5] (irParsed E fN tLN tN))
    (hN : ∀ (w : World) (s : List UInt8), s.length ≤ 1000 → Ret P fN #[strV s] w fun u w' => u = strV (normS s) ∧ Ext none1 w w') {w : World} {v : Value} {ns : List (Int × List UInt8)} {s : List UInt8} (hv : NmsAt w v ns) (hl : ns.length ≤ 1000) (hns : ∀ x ∈ ns, x.2.length ≤ 1000) (hlen : s.length ≤ 1000) :
    Ret P g #[v, strV s] w fun u w' => u = .tuple #[.int .i64 ((parsedS s ns).getD 0), .bool (parsedS s ns).isSome] ∧ Ext none1 w w' := by
  obtain ⟨b, c, rfl, hx⟩ := hv
  obtain ⟨Et, j, hu, _, _⟩ := sliSz_spec ht.sN.siz
  obtain ⟨za, zb, hz⟩ := ht.zN
  have hzc : (Value.agg #[za, zb]).cells = #[za, zb] := rfl
  refine hI.call (args := [_, _]) hnt ?_
  simp [irParsed, len_slice hu]
  refine cw_blockThenR (fun f w' => Ext none1 w w' ∧ parsedS s ns = none) (fun f w' => Ext none1 w w' ∧ ∃ n, f 4 = .int .i64 n ∧ f 5 = .bool true ∧ parsedS s ns = some n) ?_ ?_ ?_
  rotate_left
  · rintro f w' ⟨he, h⟩
    simp [h]
    exact he
  · rintro f w' ⟨he, n, h4, h5, h⟩
    simp [h, h4, h5]
    exact he
  refine cw_loop (PdInv ns s w (.slice (some ⟨b, 0, none⟩) ns.length c)) (fun f _ => match f 10 with | .int _ i => ((ns.length : Int) - i).toNat | _ => 0) ?_ ?_
  · exact ⟨0, by omega, by simp, by simp, by simp, by simp, Ext.refl _ _, by simp⟩
  rintro f w' ⟨i, hi, h10, h9, h8, h1, he, hno⟩
  simp [h10, h9]
  by_cases hlt : i < ns.length
  rotate_left
  · refine cw_false (by simp; omega) ?_
    have : i = ns.length := by omega
    subst this
    rw [List.take_length] at hno
    simp
    exact ⟨he, parsedS_none hno⟩
  refine cw_true (by simp; omega) ?_
  obtain ⟨⟨n, t⟩, hs⟩ : ∃ s, ns[i]? = some s := ⟨_, List.getElem?_eq_getElem hlt⟩
  have htl : t.length ≤ 1000 := hns (n, t) (List.mem_of_getElem? hs)
  have hc := hx i n t hs
  have hc' := CellsAt.ext (K := fun _ => True) he (fun _ _ _ h => h) hc trivial
  have hcf := cellsFrom_list0 hc'
  have hl2 : [Value.int .i64 n, strV t].length = 2 := rfl
  rw [hl2] at hcf
  have ho2 : (strV t).oneCell' = true := rfl
  simp [h10, h8, idx?, ht.sN.siz, hlt, Addr.add_mk, ld_agg ht.kN, hcf, hz, hzc, store_agg ht.kN, allOne, Value.oneCell', ho2, putK_blk alloc_new]
  have hov : over #[za, zb] 0 [Value.int .i64 n, strV t] = #[Value.int .i64 n, strV t] := by simp [over]
  rw [hov]
  generalize hw3 : (w'.alloc (.cells #[za, zb] tN)).setBlk w'.heap.size (.cells #[Value.int .i64 n, strV t] tN (0, 0)) = w3
  have hb3 : w3.heap[w'.heap.size]? = some (.cells #[Value.int .i64 n, strV t] tN (0, 0)) := by subst hw3; exact setBlk_same alloc_new
  have hx3 : Ext none1 w' w3 := by subst hw3; exact ((Ext.refl none1 w').alloc _).setBlk (.inl (Nat.le_refl _)) _
  have he3 : Ext none1 w w3 := he.trans hx3
  have c3 : w3.cell? ⟨w'.heap.size, 1, none⟩ = some (strV t) := by rw [cell_of_blk hb3]; rfl
  simp [ht.n1, Addr.add_mk, ld_scl ht.kS, c3, h1]
  refine ⟨rfl, ?_⟩
  refine (hN w3 t htl).mono ?_
  rintro _ w4 ⟨rfl, he4⟩
  try simp [h1]
  refine (hN w4 s hlen).mono ?_
  rintro _ w5 ⟨rfl, he5⟩
  have hE5 := he3.trans (he4.trans he5)
  have hb5 := (he4.trans he5).old hb3 (fun h => h)
  have c5 : w5.cell? ⟨w'.heap.size, 0, none⟩ = some (.int .i64 n) := by rw [cell_of_blk hb5]; rfl
  simp [strV, Go.ByteArray.toList_eq]
  by_cases hq : normS t = normS s
  · refine cw_true (by simp [hq]) ?_
    simp [ht.n0, Addr.add_mk, ld_scl ht.kI, c5]
    exact ⟨hE5, parsedS_at hq hs hno⟩
  · refine cw_false (by simp [hq]) ?_
    have e : IntKind.i64.wrap ((i : Int) + 1) = ((i + 1 : Nat) : Int) := by rw [i64_small (by omega) (by omega)]; rfl
    simp [h10, ht.iInt, e, bin?]
    refine ⟨⟨i + 1, by omega, by simp, by simp [h9], by simp [h8], by simp [h1], hE5, ?_⟩, by omega⟩
    rw [List.take_add_one, hs]
    intro y hy
    rcases List.mem_append.1 hy with h | h
    · exact hno y h
    · simp at h
      subst h
      exact hq
end
end Go.Kg

set_option linter.unusedSimpArgs false
set_option linter.unusedVariables false
namespace Go.Kg
open Go
/-- the words of a transaction's states -/
def stateNames : List (Int × List UInt8) := [(0, [69, 109, 112, 116, 121]), (1, [79, 110, 103, 111, 105, 110, 103]), (2, [80, 114, 101, 112, 97, 114, 101, 67, 111, 109, 109, 105, 116]), (3, [80, 114, 101, 112, 97, 114, 101, 65, 98, 111, 114, 116]), (4, [67, 111, 109, 112, 108, 101, 116, 101, 67, 111, 109, 109, 105, 116]), (5, [67, 111, 109, 112, 108, 101, 116, 101, 65, 98, 111, 114, 116]), (6, [68, 101, 97, 100]), (7, [80, 114, 101, 112, 97, 114, 101, 69, 112, 111, 99, 104, 70, 101, 110, 99, 101])]
def parse8 (t : List UInt8) : Option Int := if t = [101, 109, 112, 116, 121] then some 0 else if t = [111, 110, 103, 111, 105, 110, 103] then some 1 else if t = [112, 114, 101, 112, 97, 114, 101, 99, 111, 109, 109, 105, 116] then some 2 else if t = [112, 114, 101, 112, 97, 114, 101, 97, 98, 111, 114, 116] then some 3 else if t = [99, 111, 109, 112, 108, 101, 116, 101, 99, 111, 109, 109, 105, 116] then some 4 else if t = [99, 111, 109, 112, 108, 101, 116, 101, 97, 98, 111, 114, 116] then some 5 else if t = [100, 101, 97, 100] then some 6 else if t = [112, 114, 101, 112, 97, 114, 101, 101, 112, 111, 99, 104, 102, 101, 110, 99, 101] then some 7 else none
theorem parse8_eq (s : List UInt8) : parse8 (normS s) = parsedS s stateNames := by
  have e0 : normS [69, 109, 112, 116, 121] = [101, 109, 112, 116, 121] := by decide
  have e1 : normS [79, 110, 103, 111, 105, 110, 103] = [111, 110, 103, 111, 105, 110, 103] := by decide
  have e2 : normS [80, 114, 101, 112, 97, 114, 101, 67, 111, 109, 109, 105, 116] = [112, 114, 101, 112, 97, 114, 101, 99, 111, 109, 109, 105, 116] := by decide
  have e3 : normS [80, 114, 101, 112, 97, 114, 101, 65, 98, 111, 114, 116] = [112, 114, 101, 112, 97, 114, 101, 97, 98, 111, 114, 116] := by decide
  have e4 : normS [67, 111, 109, 112, 108, 101, 116, 101, 67, 111, 109, 109, 105, 116] = [99, 111, 109, 112, 108, 101, 116, 101, 99, 111, 109, 109, 105, 116] := by decide
  have e5 : normS [67, 111, 109, 112, 108, 101, 116, 101, 65, 98, 111, 114, 116] = [99, 111, 109, 112, 108, 101, 116, 101, 97, 98, 111, 114, 116] := by decide
  have e6 : normS [68, 101, 97, 100] = [100, 101, 97, 100] := by decide
  have e7 : normS [80, 114, 101, 112, 97, 114, 101, 69, 112, 111, 99, 104, 70, 101, 110, 99, 101] = [112, 114, 101, 112, 97, 114, 101, 101, 112, 111, 99, 104, 102, 101, 110, 99, 101] := by decide
  simp only [stateNames, parsedS, parse8, e0, e1, e2, e3, e4, e5, e6, e7]
  simp only [eq_comm (a := normS s)]
section
variable {P : Program} {E : Env}
theorem c_parsedB (uB : P.underlying E.tB = some .bool) {tLN tup fP g nt : Nat} (hnt : 4 ≤ nt) (hI : FnIs P g nt [.t 8] (irParsedB E fP tLN tup)) {w : World} {v : Value} {ns : List (Int × List UInt8)} {s : List UInt8}
    (hP : ∀ w, NmsAt w v ns → Ret P fP #[v, strV s] w fun u w' => u = .tuple #[.int .i64 ((parsedS s ns).getD 0), .bool (parsedS s ns).isSome] ∧ Ext none1 w w') (hv : NmsAt w v ns) :
    Ret P g #[v, strV s, .int .i64 ((parsedS s ns).getD 0), .bool (parsedS s ns).isSome] w fun u w' => u = .bool true ∧ Ext none1 w w' := by
  refine hI.call (args := [_, _, _, _]) hnt ?_
  simp [irParsedB]
  refine (hP w hv).mono ?_
  rintro _ w1 ⟨rfl, he⟩
  cases h : parsedS s ns with
  | none => simp [bin?, eq?, uB]; exact he
  | some n => simp [bin?, eq?, uB]; exact he
set_option maxHeartbeats 1000000 in
theorem c_Parse8 {tT fS fE g nt : Nat} (hnt : 1 ≤ nt) (hI : FnIs P g nt [.t 2, .t 3] (irParse8 E fS fE tT)) {w : World} {s : List UInt8}
    (hS : Ret P fS #[strV s] w fun u w' => u = strV (normS s) ∧ Ext none1 w w') (hE : ∀ (w : World) (s : ByteArray), Ret P fE #[.string s] w fun u w' => (∃ t v, u = .iface t v) ∧ Ext none1 w w') :
    Ret P g #[strV s] w fun u w' => (∃ e, u = .tuple #[.int .i8 ((parse8 (normS s)).getD 0), e] ∧ (if (parse8 (normS s)).isSome then e = .nilIface else ∃ t v, e = .iface t v)) ∧ Ext none1 w w' := by
  refine hI.call (args := [_]) hnt ?_
  simp [irParse8]
  refine hS.mono ?_
  rintro _ w1 ⟨rfl, he⟩
  generalize normS s = t
  simp [strV, Go.ByteArray.toList_eq]
  by_cases h0 : t = [101, 109, 112, 116, 121]
  · refine cw_true (by simp [h0]) ?_
    simp [parse8, h0]
    exact he
  refine cw_false (by simp [h0]) ?_
  simp
  by_cases h1 : t = [111, 110, 103, 111, 105, 110, 103]
  · refine cw_true (by simp [h1]) ?_
    simp [parse8, h1]
    exact he
  refine cw_false (by simp [h1]) ?_
  simp
  by_cases h2 : t = [112, 114, 101, 112, 97, 114, 101, 99, 111, 109, 109, 105, 116]
  · refine cw_true (by simp [h2]) ?_
    simp [parse8, h2]
    exact he
  refine cw_false (by simp [h2]) ?_
  simp
  by_cases h3 : t = [112, 114, 101, 112, 97, 114, 101, 97, 98, 111, 114, 116]
  · refine cw_true (by simp [h3]) ?_
    simp [parse8, h3]
    exact he
  refine cw_false (by simp [h3]) ?_
  simp
  by_cases h4 : t = [99, 111, 109, 112, 108, 101, 116, 101, 99, 111, 109, 109, 105, 116]
  · refine cw_true (by simp [h4]) ?_
    simp [parse8, h4]
    exact he
  refine cw_false (by simp [h4]) ?_
  simp
  by_cases h5 : t = [99, 111, 109, 112, 108, 101, 116, 101, 97, 98, 111, 114, 116]
  · refine cw_true (by simp [h5]) ?_
    simp [parse8, h5]
    exact he
  refine cw_false (by simp [h5]) ?_
  simp
  by_cases h6 : t = [100, 101, 97, 100]
  · refine cw_true (by simp [h6]) ?_
    simp [parse8, h6]
    exact he
  refine cw_false (by simp [h6]) ?_
  simp
  by_cases h7 : t = [112, 114, 101, 112, 97, 114, 101, 101, 112, 111, 99, 104, 102, 101, 110, 99, 101]
  · refine cw_true (by simp [h7]) ?_
    simp [parse8, h7]
    exact he
  refine cw_false (by simp [h7]) ?_
  simp
  refine (hE w1 _).mono ?_
  rintro _ w2 ⟨⟨tt, vv, rfl⟩, he2⟩
  simp [parse8, h0, h1, h2, h3, h4, h5, h6, h7]
  exact he.trans he2
end
end Go.Kg

set_option linter.unusedSimpArgs false
set_option linter.unusedVariables false
namespace Go.Kg
open Go
section
variable {P : Program} {E : Env}
/-- what kmsg.ParseTransactionState hands back -/
def Parsed8 (s : List UInt8) (w : World) (u : Value) (w' : World) : Prop :=
  (∃ e, u = .tuple #[.int .i8 ((parse8 (normS s)).getD 0), e] ∧ (if (parse8 (normS s)).isSome then e = .nilIface else ∃ t v, e = .iface t v)) ∧ Ext none1 w w'
theorem parse8_range (t : List UInt8) : 0 ≤ (parse8 t).getD 0 ∧ (parse8 t).getD 0 ≤ 7 := by
  unfold parse8
  repeat' split
  all_goals simp
theorem c_ParseB {tT tup fP g nt : Nat} (uErr : ∃ ms, P.underlying E.tErr = some (.interface ms)) (iT : intKind? P tT = some .i8) (iInt : intKind? P E.tInt = some .i64) (hnt : 1 ≤ nt) (hI : FnIs P g nt [.t 2, .t 3] (irParseB E fP tup tT)) {w : World} {s : List UInt8}
    (hP : Ret P fP #[strV s] w (Parsed8 s w)) :
    Ret P g #[strV s] w fun u w' => u = .tuple #[.int .i64 ((parse8 (normS s)).getD 0), .bool (parse8 (normS s)).isSome] ∧ Ext none1 w w' := by
  obtain ⟨ms, hms⟩ := uErr
  refine hI.call (args := [_]) hnt ?_
  simp [irParseB]
  refine hP.mono ?_
  rintro _ w1 ⟨⟨e, rfl, he⟩, hx⟩
  have hr := parse8_range (normS s)
  cases hp : parse8 (normS s) with
  | none =>
    rw [hp] at he
    simp at he
    obtain ⟨t, v, rfl⟩ := he
    simp [bin_nnil_iface hms]
    refine cw_true (by simp) ?_
    simp
    exact hx
  | some k =>
    rw [hp] at he hr
    simp at he hr
    subst he
    have hk : IntKind.i64.wrap k = k := i64_small (by omega) (by omega)
    simp [bin_nnil_nil hms]
    refine cw_false (by simp) ?_
    simp [iT, iInt, hk]
    exact hx
theorem c_Unm {tT tpT tup fP g nt : Nat} (kT : kindOf P tT = .scl) (uS : P.underlying E.tS = some .string) (uBs : P.underlying E.tBs = some (.slice E.tU8)) (uU8 : P.underlying E.tU8 = some (.int .u8)) (hnt : 2 ≤ nt) (hI : FnIs P g nt [.t 4] (irUnm E fP tup tT tpT)) {w : World} {b : Nat} {z : Value} {et : TypeId} {s : List UInt8} {v : Value}
    (hb : w.heap[b]? = some (.cells #[z] et (0, 0))) (hv : BytesAt w All v s) (hP : Ret P fP #[strV s] w (Parsed8 s w)) :
    Ret P g #[.pointer (some ⟨b, 0, none⟩), v] w fun u w' => (if (parse8 (normS s)).isSome then u = .nilIface else ∃ t x, u = .iface t x) ∧ w'.heap[b]? = some (.cells #[.int .i8 ((parse8 (normS s)).getD 0)] et (0, 0)) ∧ Ext (· = b) w w' := by
  refine hI.call (args := [_, _]) hnt ?_
  simp [irUnm]
  rw [convK_bytes uBs uU8 uS hv (by simp)]
  try simp
  refine hP.mono ?_
  rintro _ w1 ⟨⟨e, rfl, he⟩, hx⟩
  have hb1 := hx.old hb (fun h => h)
  simp [store_scl kT, Value.oneCell', put1K_blk hb1]
  have hx' : Ext (fun x => x = b) w w1 := hx.mono (fun _ _ h => h.elim)
  exact ⟨he, setBlk_same hb1, hx'.setBlk (b := b) (.inr rfl) _⟩
theorem c_OfText {tT fU g nt : Nat} (kT : kindOf P tT = .scl) (zT : zeroOf P tT = some (.int .i8 0)) (iT : intKind? P tT = some .i8) (iInt : intKind? P E.tInt = some .i64) (uErr : ∃ ms, P.underlying E.tErr = some (.interface ms)) (tBs : SliI P E.tBs E.tU8 1 1 (.int .u8 0)) (hnt : 1 ≤ nt) (hI : FnIs P g nt [.t 2, .t 3] (irOfText E fU tT)) {w : World} {s : List UInt8} {v : Value}
    (hv : BytesAt w All v s) (hlen : s.length ≤ 1000)
    (hU : ∀ {w1 : World} {b : Nat} {z : Value} {et : TypeId} {v : Value}, Ext none1 w w1 → w1.heap[b]? = some (.cells #[z] et (0, 0)) → BytesAt w1 All v s → Ret P fU #[.pointer (some ⟨b, 0, none⟩), v] w1 fun u w' => (if (parse8 (normS s)).isSome then u = .nilIface else ∃ t x, u = .iface t x) ∧ w'.heap[b]? = some (.cells #[.int .i8 ((parse8 (normS s)).getD 0)] et (0, 0)) ∧ Ext (· = b) w1 w') :
    Ret P g #[v] w fun u w' => u = .tuple #[.int .i64 ((parse8 (normS s)).getD 0), .bool (parse8 (normS s)).isSome] ∧ Ext none1 w w' := by
  obtain ⟨ms, hms⟩ := uErr
  refine hI.call (args := [_]) hnt ?_
  have hzc : (Value.int .i8 0).cells = #[.int .i8 0] := rfl
  simp [irOfText, zT, hzc]
  generalize hw1 : w.alloc (.cells #[.int .i8 0] tT) = w1
  have hb1 : w1.heap[w.heap.size]? = some (.cells #[.int .i8 0] tT (0, 0)) := by subst hw1; exact alloc_new
  have hE1 : Ext none1 w w1 := by subst hw1; exact (Ext.refl none1 w).alloc _
  have hv1 := hv.ext hE1 (fun _ _ _ h => h)
  refine st_app_bytes tBs (s := []) (base := w1.heap.size) (v := .slice none 0 0) (by simp) (by simpa [OwnB, cellsOf] using Own.nil w1 w1.heap.size E.tU8 1) (Nat.le_refl _) (k := All) (bs := s) (by simpa using hv1) (by simp; omega) ?_
  intro v3 w3 ho3 hg3
  rw [List.nil_append] at ho3
  have he3 : Ext none1 w1 w3 := hg3.ext.mono (fun k _ h => by simp [own1, Value.ownBlock] at h)
  have hb3 := he3.old hb1 (fun h => h)
  try simp
  refine (hU (hE1.trans he3) hb3 (own_bytes ho3)).mono ?_
  rintro u w4 ⟨he, hb4, hx4⟩
  have hE4 : Ext none1 w w4 := (hE1.trans he3).trans' hx4 (fun k hk hk2 => by have h3 : k = w.heap.size := hk2; omega)
  have hr := parse8_range (normS s)
  cases hp : parse8 (normS s) with
  | none =>
    rw [hp] at he
    simp at he
    obtain ⟨t, x, rfl⟩ := he
    simp [bin_nnil_iface hms]
    refine cw_true (by simp) ?_
    simp
    exact hE4
  | some k =>
    rw [hp] at he hr hb4
    simp at he hr hb4
    subst he
    have hk : IntKind.i64.wrap k = k := i64_small (by omega) (by omega)
    have c4 : w4.cell? ⟨w.heap.size, 0, none⟩ = some (.int .i8 k) := by rw [cell_of_blk hb4]; rfl
    simp [bin_nnil_nil hms]
    refine cw_false (by simp) ?_
    simp [ld_scl kT, c4, iT, iInt, hk]
    exact hE4
end
end Go.Kg

set_option linter.unusedSimpArgs false
set_option linter.unusedVariables false
namespace Go.Kg
open Go
def irNames8 (E : Env) (tLN tN : Nat) : Ir :=
  .seq (.reg [⟨none, some 0, .assign (.const (.slice none 0 0)), tLN⟩])
  (.seq (.reg [⟨none, some 1, .build tN #[(0, .const (.int .i64 0)), (1, .const (.string ⟨#[69, 109, 112, 116, 121]⟩))], tN⟩, ⟨none, some 2, .build tN #[(0, .const (.int .i64 1)), (1, .const (.string ⟨#[79, 110, 103, 111, 105, 110, 103]⟩))], tN⟩, ⟨none, some 3, .build tN #[(0, .const (.int .i64 2)), (1, .const (.string ⟨#[80, 114, 101, 112, 97, 114, 101, 67, 111, 109, 109, 105, 116]⟩))], tN⟩, ⟨none, some 4, .build tN #[(0, .const (.int .i64 3)), (1, .const (.string ⟨#[80, 114, 101, 112, 97, 114, 101, 65, 98, 111, 114, 116]⟩))], tN⟩, ⟨none, some 5, .build tN #[(0, .const (.int .i64 4)), (1, .const (.string ⟨#[67, 111, 109, 112, 108, 101, 116, 101, 67, 111, 109, 109, 105, 116]⟩))], tN⟩, ⟨none, some 6, .build tN #[(0, .const (.int .i64 5)), (1, .const (.string ⟨#[67, 111, 109, 112, 108, 101, 116, 101, 65, 98, 111, 114, 116]⟩))], tN⟩, ⟨none, some 7, .build tN #[(0, .const (.int .i64 6)), (1, .const (.string ⟨#[68, 101, 97, 100]⟩))], tN⟩, ⟨none, some 8, .build tN #[(0, .const (.int .i64 7)), (1, .const (.string ⟨#[80, 114, 101, 112, 97, 114, 101, 69, 112, 111, 99, 104, 70, 101, 110, 99, 101]⟩))], tN⟩,
    ⟨none, some 9, .buildSlice tLN 8 #[(0, .tmp 1), (1, .tmp 2), (2, .tmp 3), (3, .tmp 4), (4, .tmp 5), (5, .tmp 6), (6, .tmp 7), (7, .tmp 8)], tLN⟩, ⟨none, some 0, .assign (.tmp 9), tLN⟩]) .ret)
section
variable {P : Program} {E : Env} {tLN tN : Nat} {zn : Value} (ht : TyNm P E tLN tN zn)
include ht
theorem c_Names8 {g nt : Nat} (hI : FnIs P g nt [.t 0] (irNames8 E tLN tN)) (w : World) : Ret P g #[] w fun v w' => NmsAt w' v stateNames ∧ Ext none1 w w' := by
  refine hI.call (args := []) (by simp) ?_
  simp [irNames8, bld_nm ht, st_bsl ht.sN, denseFrom, allSz, flat, Value.cells]
  refine ⟨⟨_, _, rfl, fun i n t hi => ?_⟩, (Ext.refl none1 w).alloc _⟩
  have hi4 : i < 8 := by have := (List.getElem?_eq_some_iff.1 hi).1; simpa [stateNames] using this
  intro j u hj
  rw [cell_of_blk alloc_new]
  have hj2 : j < 2 := by have := (List.getElem?_eq_some_iff.1 hj).1; simpa using this
  obtain rfl | rfl | rfl | rfl | rfl | rfl | rfl | rfl : i = 0 ∨ i = 1 ∨ i = 2 ∨ i = 3 ∨ i = 4 ∨ i = 5 ∨ i = 6 ∨ i = 7 := by omega
  all_goals
    simp [stateNames] at hi
    obtain ⟨rfl, rfl⟩ := hi
    obtain rfl | rfl : j = 0 ∨ j = 1 := by omega
    all_goals (simp [strV] at hj ⊢; exact hj)
end
section
variable {P : Program} {E : Env}
theorem c_ParseLaw {tLN tup fPl fPa fOf fNm fPd g nt : Nat} (uS : P.underlying E.tS = some .string) (hnt : 1 ≤ nt) (hI : FnIs P g nt [.t 2] (irParseLaw E fPl fPa fOf fNm fPd tup tLN)) {w : World} {s : List UInt8} (hlen : s.length < 9223372036854775808)
    (hCv : ∀ (f : Nat → Value) (ty : TypeId) (w : World) (K : Value → World → Prop), f 19 = strV s → (∀ v w', BytesAt w' All v s → Ext none1 w w' → K v w') → convK P f E.tS E.tBs (.tmp 19) ty w K (strV s))
    (hPl : Ret P fPl #[strV s] w fun u w' => (∃ b : Bool, u = .bool b ∧ (b = true → s.length ≤ 200 ∧ ∀ c ∈ s, c < 128)) ∧ Ext none1 w w')
    (hPa : ∀ w1, Ext none1 w w1 → s.length ≤ 200 → (∀ c ∈ s, c < 128) → Ret P fPa #[strV s] w1 fun u w' => u = .tuple #[.int .i64 ((parse8 (normS s)).getD 0), .bool (parse8 (normS s)).isSome] ∧ Ext none1 w1 w')
    (hOf : ∀ w1 v, Ext none1 w w1 → BytesAt w1 All v s → s.length ≤ 200 → (∀ c ∈ s, c < 128) → Ret P fOf #[v] w1 fun u w' => u = .tuple #[.int .i64 ((parse8 (normS s)).getD 0), .bool (parse8 (normS s)).isSome] ∧ Ext none1 w1 w')
    (hNm : ∀ w, Ret P fNm #[] w fun v w' => NmsAt w' v stateNames ∧ Ext none1 w w')
    (hPd : ∀ w v, s.length ≤ 200 → NmsAt w v stateNames → Ret P fPd #[v, strV s, .int .i64 ((parsedS s stateNames).getD 0), .bool (parsedS s stateNames).isSome] w fun u w' => u = .bool true ∧ Ext none1 w w') :
    Ret P g #[strV s] w fun u w' => u = .bool true ∧ Ext none1 w w' := by
  refine hI.call (args := [_]) hnt ?_
  have zs : (ByteArray.mk s.toArray).size = s.length := by show s.toArray.size = _; simp
  have hs0 : (Value.string ⟨s.toArray⟩) = strV s := rfl
  simp [irParseLaw, strV, len_str uS, zs]
  by_cases hbig : (2147483647 : Int) < s.length
  · refine cw_true (by simp; omega) ?_
    simp
    exact Ext.refl _ _
  refine cw_false (by simp; omega) ?_
  simp [hs0]
  refine hPl.mono ?_
  rintro _ w1 ⟨⟨b, rfl, hb⟩, he1⟩
  simp
  cases b
  · refine cw_true (by simp) ?_
    simp
    exact he1
  refine cw_false (by simp) ?_
  obtain ⟨h200, h128⟩ := hb rfl
  simp [hs0]
  refine (hPa w1 he1 h200 h128).mono ?_
  rintro _ w2 ⟨rfl, he2⟩
  try simp [hs0]
  refine hCv _ _ _ _ (by simp [strV]) ?_
  intro v w3 hv he3
  have hE3 := he1.trans (he2.trans he3)
  try simp
  refine (hOf w3 v hE3 hv h200 h128).mono ?_
  rintro _ w4 ⟨rfl, he4⟩
  try simp [hs0]
  refine (hNm w4).mono ?_
  rintro v5 w5 ⟨hn5, he5⟩
  try simp [hs0]
  rw [parse8_eq]
  refine (hPd w5 v5 h200 hn5).mono ?_
  rintro _ w6 ⟨rfl, he6⟩
  try simp [hs0]
  refine (hNm w6).mono ?_
  rintro v7 w7 ⟨hn7, he7⟩
  try simp [hs0]
  refine (hPd w7 v7 h200 hn7).mono ?_
  rintro _ w8 ⟨rfl, he8⟩
  try simp
  exact hE3.trans (he4.trans (he5.trans (he6.trans (he7.trans he8))))
end
end Go.Kg

set_option linter.unusedSimpArgs false
set_option linter.unusedVariables false
namespace Go.Kg
open Go Go.Proofs Go.Shelf Go.RowKit
variable {P : Program} {ρ : Ren}
theorem ext_below {w w' : World} (h : Below w.heap.size w w') : Ext none1 w w' := by
  obtain ⟨h1, h2, h3, h4, h5⟩ := h
  refine ⟨?_, ?_, ?_, ?_, ?_⟩
  all_goals first | assumption | (intro k hk _; exact h5 k hk)
theorem sp_blank : Lib.isSp = blankB := by
  funext c
  simpa using all256 (fun c => Lib.isSp c == blankB c) (by decide +kernel) c
theorem lower_low : Lib.lowerB = lowB := by
  funext c
  simpa using all256 (fun c => Lib.lowerB c == lowB c) (by decide +kernel) c
theorem trim_of (L : Lays.n163 P ρ) (XS : Space.Extra P ρ) (fc : Callable P (ρ.f 163)) (w : World) (s : List UInt8) (hlen : s.length ≤ 1000) (hs : ∀ c ∈ s, c < 128) (ht : Lib.TabIs P w "strings.asciiSpace" .u8 Lib.asciiSpaceTab) :
    Ret P (ρ.f 163) #[strV s] w fun u w' => u = strV (trimF blankB s) ∧ Ext none1 w w' := by
  refine ⟨fc, ?_⟩
  refine (Any.strings_TrimSpace L XS ⟨s.toArray⟩ w (by show s.toArray.size ≤ _; simp; omega) (fun j b hb => ?_) ht).mono ?_
  · have := hs b (List.mem_of_getElem? (by simpa using hb))
    exact this
  · rintro e w' ⟨rfl, rfl⟩
    refine ⟨_, rfl, ?_, ext_below ⟨rfl, rfl, rfl, by rw [Lib.bytesWorld_size]; omega, fun j hj => Lib.bytesWorld_at_old w (ρ.t 5) _ j hj⟩⟩
    show strV (Lib.trimSpace s) = _
    unfold Lib.trimSpace
    rw [sp_blank]; rfl
theorem lower_of (L : Lays.n159 P ρ) (X : Builder.Extra P ρ) (fc : Callable P (ρ.f 159)) (w : World) (s : List UInt8) (hlen : s.length ≤ 1000) (hs : ∀ c ∈ s, c < 128) :
    Ret P (ρ.f 159) #[strV s] w fun u w' => u = strV (s.map lowB) ∧ Ext none1 w w' := by
  refine ⟨fc, ?_⟩
  refine (Any.strings_ToLower_ascii L X ⟨s.toArray⟩ w (by show s.toArray.size ≤ _; simp; omega) (fun j b hb => ?_)).mono ?_
  · have := hs b (List.mem_of_getElem? (by simpa using hb))
    exact this
  · rintro e w' ⟨rfl, hb⟩
    refine ⟨_, rfl, ?_, ext_below hb⟩
    show strV (Lib.toLowerA s) = _
    unfold Lib.toLowerA
    rw [lower_low]
theorem conv_str {E : Env} (uS : P.underlying E.tS = some .string) (uBs : P.underlying E.tBs = some (.slice E.tU8)) (uU8 : P.underlying E.tU8 = some (.int .u8)) {s : List UInt8} (f : Nat → Value) (ty : TypeId) (w : World) (K : Value → World → Prop) (hx : f 19 = strV s)
    (h : ∀ v w', BytesAt w' All v s → Ext none1 w w' → K v w') : convK P f E.tS E.tBs (.tmp 19) ty w K (strV s) := by
  have h1 : convK P f E.tS E.tBs (.tmp 19) ty w K (strV s) = stepF P f (.convert E.tS E.tBs (.tmp 19)) ty w K := rfl
  have hz : (ByteArray.mk s.toArray).size = s.length := by show s.toArray.size = _; simp
  have hr := Lib.run_convert_string_bytes w E.tS E.tBs E.tU8 ⟨s.toArray⟩ uS uBs uU8
  rw [h1, stepF_ok (v := .slice (some ⟨w.heap.size, 0, none⟩) (ByteArray.mk s.toArray).size (grownCap w (ByteArray.mk s.toArray).size 0 E.tU8)) (w' := Lib.bytesWorld w E.tU8 ⟨s.toArray⟩) (by simp only [runF, execOp, evF_tmp, hx, strV, Sem.run_bind, hr, Result.andThen_ok, Sem.run_pure])]
  refine h _ _ (.inr ⟨w.heap.size, 0, _, by rw [hz], by rw [← hz]; exact grownCap_ge _ _ _ _, fun _ => trivial, fun i x hi => ?_⟩) (ext_below ⟨rfl, rfl, rfl, by rw [Lib.bytesWorld_size]; omega, fun j hj => Lib.bytesWorld_at_old w E.tU8 _ j hj⟩)
  have hlt := (List.getElem?_eq_some_iff.1 hi).1
  rw [Nat.zero_add, Lib.bytesWorld_cell w E.tU8 _ i (by rw [hz]; exact hlt)]
  simp [List.getD, hi]
theorem var_ext {w w' : World} (he : Ext none1 w w') {n : String} {cs : Array Value} (h : w.var? P n = some cs) : w'.var? P n = some cs := by
  unfold World.var? at h ⊢
  cases hg : P.globalNamed n with
  | none => simp [hg] at h
  | some g =>
    simp only [hg, Option.bind_some] at h ⊢
    have hlt : g < w.heap.size := by
      rcases Nat.lt_or_ge g w.heap.size with h' | h'
      · exact h'
      · simp [Array.getElem?_eq_none h'] at h
    rw [he.block g hlt (fun h => h)]
    exact h
end Go.Kg

set_option linter.unusedSimpArgs false
set_option linter.unusedVariables false
namespace Go.Kg
open Go
section
variable {P : Program} {C : Cfg}
end
end Go.Kg

set_option linter.unusedSimpArgs false
set_option linter.unusedVariables false
namespace Go.Kg
open Go Go.ChangeShapes Go.WideShapes Go.ChangeAt Go.RowKit
theorem FnIs.of {P : Program} {g N : Nat} {rs : List Rv} {ir : Ir} {fn : Func} (hm : P.follows .mixedOrders = true) (h1 : P.funcs[g]? = some fn) (h2 : fn.body.bind (erase N) = some ir) (h3 : fn.ntmps = N)
    (h4 : fn.results = (rs.map Rv.var).toArray) (h5 : (fn.name == "runtime.NumGoroutine") = false) : FnIs P g N rs ir := by
  refine ⟨hm, ?_⟩
  cases hb : fn.body with
  | none => rw [hb] at h2; cases h2
  | some c => rw [hb] at h2; exact ⟨fn, c, h1, hb, h3, h4, h5, h2⟩
theorem sli_of {P : Program} {t e s bytes : Nat} {z : Value} (hu : P.underlying t = some (.slice e)) (hi : (P.info? e).map (fun i => (i.zero, i.size, i.bytes)) = some (some z, s, bytes)) (hz : z.cells.size = s) : SliI P t e s bytes z := by
  refine ⟨hu, ?_, hz⟩
  cases h : P.info? e with
  | none => rw [h] at hi; cases hi
  | some i => rw [h] at hi; simp at hi; exact ⟨i, rfl, hi.1, hi.2.1, hi.2.2⟩
theorem ext_kept {w w' : World} (h : Ext none1 w w') (may : MemPlace → Prop) : w.keptBut w' may := by
  refine ⟨h.os, h.output, fun i hi => ?_⟩
  rw [h.block i hi (fun h => h)]
  have : ∃ o, w.heap[i]? = some o := ⟨_, Array.getElem?_eq_getElem hi⟩
  obtain ⟨o, ho⟩ := this
  rw [ho]
  cases o <;> simp
theorem ext_frozen {w w' : World} (h : Ext none1 w w') (a : Addr) (ha : a.block < w.heap.size) : w'.frozen? a = w.frozen? a := by
  simp only [World.frozen?, h.block a.block ha (fun h => h)]
theorem post_of_ext {H : Type} {enc : TypeId × Value → H} {P : Program} {f : Func} {s : ChangeSpec} {apart fresh handsOn again : Bool} {W W' : World} {args : Array Value} {v : Value} {ds gs : List (DataW H)} {before pa pv : List MemPlace}
    (hW : DataW.Whole enc P f.params.toList s.vars apart W args.toList ds gs before)
    (hres : ∀ (b : Nat) (sp : Nat → Bool) (hd : Bool), DataW.TrodAll enc P W' b sp hd f.resultTypes.toList (v.resultList f.resultTypes.size) (s.fn H (ds ++ gs)).results [])
    (hargs : ∀ sp : Nat → Bool, (∀ p ∈ before, sp p.block = true) → DataW.TrodAll enc P W' 0 sp true f.params.toList args.toList (s.fn H (ds ++ gs)).args pa)
    (hvars : ∀ sp : Nat → Bool, (∀ p ∈ before, sp p.block = true) → DataW.TrodVars enc P W' sp s.vars (s.fn H (ds ++ gs)).vars pv)
    (hps : before = pa ++ pv) (he : Ext none1 W W')
    (hok : ∀ (j : Nat) (t : TypeId) (r : Value), f.resultTypes[j]? = some t → (v.resultList f.resultTypes.size)[j]? = some r → Value.okWide P W' .any 0 t r) :
    s.post enc P f apart fresh handsOn again W args v W' := by
  have hold : ∀ p ∈ before, (fun b => decide (b < W.heap.size)) p.block = true := fun p hp => by simpa using hW.lt p hp
  have hlt := hW.lt
  refine ⟨ds, gs, before, [], pa, pv, hW, hres _ _ _, hargs _ hold, hvars _ hold, World.keptBut_mono (fun p hp => ⟨hp, ?_⟩) (ext_kept he (· ∈ before)), fun _ => ?_⟩
  · rw [hps, List.mem_append] at hp
    exact Or.inr hp
  · obtain ⟨_, _, _, _, _, hz, hn⟩ := hW
    refine ⟨hok, _, _, ([] ++ pa) ++ pv, ⟨[] ++ pa, pv, trodAll_append (hargs _ (fun _ _ => rfl)) (hres _ _ _), hvars _ (fun _ _ => rfl), rfl, ?_, ?_⟩, ?_⟩
    · intro b off hp
      have hp' : MemPlace.cell b off ∈ before := by rw [hps]; simpa using hp
      rw [ext_frozen he _ (hlt _ hp')]
      exact hz b off hp'
    · intro ha
      have := hn ha
      rw [hps] at this
      simpa using this
    · intro p hp _
      rw [hps]
      simpa using hp
end Go.Kg

namespace Go.Kg
open Go Go.Proofs
theorem laidVars_perm {P : Program} {w : World} {l l' : List (String × DataW Unit)} (hp : l.Perm l') : ∀ {ps : List MemPlace}, DataW.LaidVars P w l ps → ∃ ps', DataW.LaidVars P w l' ps' ∧ ps.Perm ps' := by
  induction hp with
  | nil => intro ps h; exact ⟨ps, h, .refl _⟩
  | cons x _ ih =>
    intro ps h
    obtain ⟨n, d⟩ := x
    obtain ⟨g, t, cs, fuel, p, q, h1, h2, h3, h4, h5, rfl⟩ := h
    obtain ⟨q', hq, hpq⟩ := ih h5
    exact ⟨_, ⟨g, t, cs, fuel, p, q', h1, h2, h3, h4, hq, rfl⟩, List.Perm.append_left _ hpq⟩
  | swap x y l =>
    intro ps h
    obtain ⟨n, d⟩ := x
    obtain ⟨n', d'⟩ := y
    obtain ⟨g, t, cs, fuel, p, q, h1, h2, h3, h4, h5, rfl⟩ := h
    obtain ⟨g', t', cs', fuel', p', q', h1', h2', h3', h4', h5', rfl⟩ := h5
    exact ⟨_, ⟨g', t', cs', fuel', p', _, h1', h2', h3', h4', ⟨g, t, cs, fuel, p, q', h1, h2, h3, h4, h5', rfl⟩, rfl⟩, List.perm_append_comm_assoc _ _ _⟩
  | trans _ _ ih1 ih2 =>
    intro ps h
    obtain ⟨q, hq, h1⟩ := ih1 h
    obtain ⟨q', hq', h2⟩ := ih2 hq
    exact ⟨q', hq', h1.trans h2⟩
theorem laidMet_perm {P : Program} {w : World} {l l' : List (String × DataW Unit)} (hp : l.Perm l') (h : laidMet P l w) : laidMet P l' w := by
  obtain ⟨ps, hv, hn, hm⟩ := h
  obtain ⟨ps', hv', hp'⟩ := laidVars_perm hp hv
  exact ⟨ps', hv', hp'.nodup_iff.1 hn, fun b off hb => hm b off (hp'.mem_iff.2 hb)⟩
/-- The witness of a row that lists variables of pointer type. -/
theorem witness_atRef {H : Type} {enc : TypeId × Value → H} {C : Checked} {os : Os} {f : FuncId} {fn : Func} {s : ChangeSpec} {conds : List PathCond} {apart : Bool} {X : World → Array Value → Prop} (modest : Bool) (w0 : World) (args : Array Value) (fuel : Nat) (hos : w0.os = os)
    (hv : (w0.forCall (fun _ _ => 0) ⟨#[], args, []⟩).variablesRefB C.prog = true)
    (hr : ((w0.forCall (fun _ _ => 0) ⟨#[], args, []⟩).heap.toList.drop C.prog.globals.size).take ((begin C.prog (fun _ _ => 0) default).world.heap.size - C.prog.globals.size) =
      (begin C.prog (fun _ _ => 0) default).world.heap.toList.drop C.prog.globals.size)
    (hok : Input.okWideB C.prog (w0.forCall (fun _ _ => 0) ⟨#[], args, []⟩) f ⟨#[], args, []⟩ = true)
    (hpre : s.preB enc C.prog fn conds apart (w0.forCall (fun _ _ => 0) ⟨#[], args, []⟩).memory args fuel = true)
    (hsz : s.sizedB enc C.prog fn apart (w0.forCall (fun _ _ => 0) ⟨#[], args, []⟩).memory args fuel = true)
    (hx : X (w0.forCall (fun _ _ => 0) ⟨#[], args, []⟩).memory args) :
    ∃ (w : World) (tape : Tape) (i : Input), w.os = os ∧ (w.forCall tape i).Shaped C.prog ∧ i.vars = [] ∧ Input.okWide C.prog (w.forCall tape i) .any w.heap.size f i ∧
      ((s.pre enc C.prog fn conds apart (w.forCall tape i).memory i.args ∧ X (w.forCall tape i).memory i.args) ∧ sizedMet enc C.prog fn (OpenSpec.ofChange s) apart (w.forCall tape i).memory i.args) ∧ ({ modest := modest } : Assume).holds C.prog (lone (Frame.enter C.prog f i.args .normal) [] (w.forCall tape i)) :=
  ⟨w0, fun _ _ => 0, ⟨#[], args, []⟩, hos, World.shaped_of_RefB hv hr, (Input.okWide_of_okWideB (base := 0) hok).1, (Input.okWide_of_okWideB hok).2, ⟨⟨ChangeSpec.pre_of_preB hpre, hx⟩, sizedMet_of_sizedB hsz⟩, by
    simp only [Assume.holds]
    exact ⟨by simp, by simp, fun _ => Modest.zero, by simp, by simp⟩⟩
end Go.Kg
