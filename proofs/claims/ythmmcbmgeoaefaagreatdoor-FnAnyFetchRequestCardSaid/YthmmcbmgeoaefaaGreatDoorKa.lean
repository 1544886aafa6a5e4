/- What is proved here: how the code of the messages runs, in general: a semantics of calls by their texts, and contracts of the functions of kbin and of the reference. No condition but those that each theorem names. -/
import Derived.Calls
import Derived.Tactics
import Derived.ScopeJumps
import Derived.OrdersHeld
import Derived.WalkKit
import Derived.Lib.EndianBits
import Derived.Lib.VarintBits
import Derived.Lib.AppendStr
import Derived.Laws.IdiomStrings
import Derived.Great.BuildSlice
import Derived.Laws.OwnMore
set_option linter.unusedSectionVars false
set_option linter.unusedSimpArgs false
set_option linter.unusedVariables false
namespace Go.Kg
open Go
def fr (a : Act) : Nat → Value := fun t => a.tmps.getD t undef
def upd (f : Nat → Value) (d : Nat) (v : Value) : Nat → Value := fun t => if t = d then v else f t
def updO (f : Nat → Value) : Option Nat → Value → (Nat → Value)
  | some d, v => upd f d v
  | none, _ => f
theorem fr_put (a : Act) (d : Nat) (v : Value) (h : d < a.tmps.size) : fr (a.put (some d) v) = upd (fr a) d v := by
  funext t
  simp only [fr, Act.put, upd]
  by_cases e : t = d
  · subst e; simp [h]
  · simp [e, Ne.symm e]
def evF (f : Nat → Value) : Operand → Value
  | .tmp t => f t
  | .const v => v
  | .global g => .pointer (some ⟨g, 0, none⟩)
  | .func f => .func (.func f) #[] #[]
theorem eval_fr (a : Act) : a.eval = evF (fr a) := by
  funext x; cases x <;> rfl
/-- The run of an operation, the frame a function. -/
def runF (P : Program) (f : Nat → Value) (op : Op) (ty : TypeId) (w : World) : Result Next :=
  (execOp (evF f) { dst := none, op := op, type := ty, pos := "", after := #[], guard := none }).run P w
theorem run_eq (P : Program) (a : Act) (o : Oper) (w : World) : (execOp a.eval o).run P w = runF P (fr a) o.op o.type w := by
  rw [eval_fr]; rfl
/-- One operation: what the run gives, or the callee's contract. -/
def stepF (P : Program) (f : Nat → Value) (op : Op) (ty : TypeId) (w : World) (K : Value → World → Prop) : Prop :=
  match runF P f op ty w with
  | .ok (.value v) w' => K v w'
  | .ok .skip w' => K undef w'
  | .ok (.enter g args) w' => Calls P g args w' fun e w'' => ∃ v, e = .returned v ∧ K v w''
  | _ => False
theorem stepF_mono {P : Program} {f : Nat → Value} {op : Op} {ty : TypeId} {w : World} {K K' : Value → World → Prop} (h : ∀ v w, K v w → K' v w)
    (hq : stepF P f op ty w K) : stepF P f op ty w K' := by
  unfold stepF at *
  generalize runF P f op ty w = r at *
  rcases r with ⟨n, w'⟩ | ⟨h', w'⟩
  · cases n <;> first | exact h _ _ hq | exact hq.elim | skip
    refine Calls.mono hq ?_
    rintro e w'' ⟨v, rfl, hv⟩
    exact ⟨v, rfl, h _ _ hv⟩
  · exact hq.elim
/-- An operation of a region, its guard by the slot. -/
structure Ro where
  g : Option (Nat × Bool) := none
  d : Option Nat
  op : Op
  ty : TypeId
def wantedF (f : Nat → Value) : Option (Nat × Bool) → Bool
  | none => true
  | some (s, b) => match f s with | .bool x => x == b | _ => false
/-- A region whose order is open: free: taken first; act o r alt: o, then r; or else alt. -/
inductive HT where
  | done
  | free (o : Ro) (r : HT)
  | act (o : Ro) (r alt : HT)
  | stop
inductive Ir where
  | reg (l : List Ro)
  | regH (l : List (Bool × Ro))
  | regT (t : HT)
  | seq (a b : Ir)
  | cond (t : Nat) (a b : Ir)
  | block (id : Nat) (b : Ir)
  | loop (b : Ir)
  | exit (id : Nat)
  | ret
  | skip
  | label (l : Nat)
  | goto (l : Nat)
  | scope (b : Ir) (l : Nat) (rest : Ir)
def regWp (P : Program) (Q : (Nat → Value) → World → Prop) : List Ro → (Nat → Value) → World → Prop
  | [], f, w => Q f w
  | o :: r, f, w => if wantedF f o.g = true then stepF P f o.op o.ty w fun v w' => regWp P Q r (updO f o.d v) w' else regWp P Q r (updO f o.d undef) w
/-- true: taken first: it yields its value in every world that meets S. -/
def regHWp (P : Program) (S : World → Prop) (Q : (Nat → Value) → World → Prop) : List (Bool × Ro) → (Nat → Value) → World → Prop
  | [], f, w => Q f w
  | (true, o) :: r, f, w => if wantedF f o.g = true then ∃ v, (∀ w, S w → runF P f o.op o.ty w = .ok (.value v) w) ∧ regHWp P S Q r (updO f o.d v) w else regHWp P S Q r (updO f o.d undef) w
  | (false, o) :: r, f, w => if wantedF f o.g = true then stepF P f o.op o.ty w fun v w' => S w' ∧ regHWp P S Q r (updO f o.d v) w' else regHWp P S Q r (updO f o.d undef) w
def HT.wp (P : Program) (S : World → Prop) (Q : (Nat → Value) → World → Prop) : HT → (Nat → Value) → World → Prop
  | .done, f, w => Q f w
  | .free o r, f, w => if wantedF f o.g = true then ∃ v, (∀ w, S w → runF P f o.op o.ty w = .ok (.value v) w) ∧ r.wp P S Q (updO f o.d v) w else r.wp P S Q (updO f o.d undef) w
  | .act o r alt, f, w => (if wantedF f o.g = true then stepF P f o.op o.ty w fun v w' => S w' ∧ r.wp P S Q (updO f o.d v) w' else r.wp P S Q (updO f o.d undef) w) ∧ alt.wp P S Q f w
  | .stop, _, _ => True
abbrev Post := Exit → (Nat → Value) → World → Prop
def thenF (next : (Nat → Value) → World → Prop) (Q : Post) : Post
  | .normal, f, w => next f w
  | e, f, w => Q e f w
def inBlockF (id : Nat) (Q : Post) : Post
  | .exit id', f, w => if id' = id then Q .normal f w else Q (.exit id') f w
  | e, f, w => Q e f w
def jumpF (l : Nat) (J : (Nat → Value) → World → Prop) (Q : Post) : Post
  | .goto l', f, w => l' = l ∧ J f w
  | e, f, w => Q e f w
/-- Weakest precondition of erased code. -/
def Ir.wp (P : Program) : Ir → Post → (Nat → Value) → World → Prop
  | .reg l, Q, f, w => regWp P (Q .normal) l f w
  | .regH l, Q, f, w => ∃ S : World → Prop, S w.drew ∧ regHWp P S (Q .normal) l f w.drew
  | .regT t, Q, f, w => ∃ S : World → Prop, S w.drew ∧ t.wp P S (Q .normal) f w.drew
  | .seq a b, Q, f, w => a.wp P (thenF (b.wp P Q) Q) f w
  | .cond t a b, Q, f, w => (f t = .bool true ∧ a.wp P Q f w) ∨ (f t = .bool false ∧ b.wp P Q f w)
  | .block id b, Q, f, w => b.wp P (inBlockF id Q) f w
  | .loop b, Q, f, w => ∃ (I : (Nat → Value) → World → Prop) (μ : (Nat → Value) → World → Nat), I f w ∧
      ∀ f w, I f w → b.wp P (thenF (fun f' w' => I f' w' ∧ μ f' w' < μ f w) Q) f w
  | .exit id, Q, f, w => Q (.exit id) f w
  | .ret, Q, f, w => Q .ret f w
  | .skip, Q, f, w => Q .normal f w
  | .label _, Q, f, w => Q .normal f w
  | .goto l, Q, f, w => Q (.goto l) f w
  | .scope b l rest, Q, f, w => ∃ (J : (Nat → Value) → World → Prop) (μ : (Nat → Value) → World → Nat), b.wp P (jumpF l J Q) f w ∧
      ∀ f w, J f w → rest.wp P (jumpF l (fun f' w' => J f' w' ∧ μ f' w' < μ f w) Q) f w
theorem regWp_cons {P : Program} {Q : (Nat → Value) → World → Prop} {o : Ro} {r : List Ro} {f : Nat → Value} {w : World} : regWp P Q (o :: r) f w =
    if wantedF f o.g = true then stepF P f o.op o.ty w fun v w' => regWp P Q r (updO f o.d v) w' else regWp P Q r (updO f o.d undef) w := rfl
theorem regHWp_true {P : Program} {S : World → Prop} {Q : (Nat → Value) → World → Prop} {o : Ro} {r : List (Bool × Ro)} {f : Nat → Value} {w : World} : regHWp P S Q ((true, o) :: r) f w =
    if wantedF f o.g = true then ∃ v, (∀ w, S w → runF P f o.op o.ty w = .ok (.value v) w) ∧ regHWp P S Q r (updO f o.d v) w else regHWp P S Q r (updO f o.d undef) w := rfl
theorem regHWp_false {P : Program} {S : World → Prop} {Q : (Nat → Value) → World → Prop} {o : Ro} {r : List (Bool × Ro)} {f : Nat → Value} {w : World} : regHWp P S Q ((false, o) :: r) f w =
    if wantedF f o.g = true then stepF P f o.op o.ty w fun v w' => S w' ∧ regHWp P S Q r (updO f o.d v) w' else regHWp P S Q r (updO f o.d undef) w := rfl
theorem regWp_mono {P : Program} : ∀ (l : List Ro) {Q Q' : (Nat → Value) → World → Prop} {f : Nat → Value} {w : World}, (∀ f w, Q f w → Q' f w) → regWp P Q l f w → regWp P Q' l f w := by
  intro l
  induction l with
  | nil => intro Q Q' f w h hq; exact h _ _ hq
  | cons x r ih =>
    intro Q Q' f w h hq
    rw [regWp_cons] at hq ⊢
    split
    · rename_i hw; rw [if_pos hw] at hq; exact stepF_mono (fun v w hq => ih h hq) hq
    · rename_i hw; rw [if_neg hw] at hq; exact ih h hq
theorem HT.wp_mono {P : Program} {S : World → Prop} : ∀ (t : HT) {Q Q' : (Nat → Value) → World → Prop} {f : Nat → Value} {w : World}, (∀ f w, Q f w → Q' f w) → t.wp P S Q f w → t.wp P S Q' f w := by
  intro t
  induction t with
  | done => intro Q Q' f w h hq; exact h _ _ hq
  | free o r ih =>
    intro Q Q' f w h hq
    simp only [HT.wp] at hq ⊢
    split
    · rename_i hw; rw [if_pos hw] at hq; obtain ⟨v, h1, h2⟩ := hq; exact ⟨v, h1, ih h h2⟩
    · rename_i hw; rw [if_neg hw] at hq; exact ih h hq
  | act o r alt ih ih2 =>
    intro Q Q' f w h hq
    simp only [HT.wp] at hq ⊢
    refine ⟨?_, ih2 h hq.2⟩
    have hq := hq.1
    split
    · rename_i hw; rw [if_pos hw] at hq; exact stepF_mono (fun _ _ hk => ⟨hk.1, ih h hk.2⟩) hq
    · rename_i hw; rw [if_neg hw] at hq; exact ih h hq
  | stop => intro Q Q' f w h hq; trivial
theorem regHWp_mono {P : Program} {S : World → Prop} : ∀ (l : List (Bool × Ro)) {Q Q' : (Nat → Value) → World → Prop} {f : Nat → Value} {w : World}, (∀ f w, Q f w → Q' f w) → regHWp P S Q l f w → regHWp P S Q' l f w := by
  intro l
  induction l with
  | nil => intro Q Q' f w h hq; exact h _ _ hq
  | cons x r ih =>
    obtain ⟨b, x⟩ := x
    intro Q Q' f w h hq
    cases b
    · rw [regHWp_false] at hq ⊢
      split
      · rename_i hw; rw [if_pos hw] at hq; exact stepF_mono (fun v w hq => ⟨hq.1, ih h hq.2⟩) hq
      · rename_i hw; rw [if_neg hw] at hq; exact ih h hq
    · rw [regHWp_true] at hq ⊢
      split
      · rename_i hw; rw [if_pos hw] at hq; obtain ⟨v, h1, h2⟩ := hq; exact ⟨v, h1, ih h h2⟩
      · rename_i hw; rw [if_neg hw] at hq; exact ih h hq
theorem Ir.wp_mono {P : Program} : ∀ (c : Ir) {Q Q' : Post} {f : Nat → Value} {w : World}, (∀ e f w, Q e f w → Q' e f w) → c.wp P Q f w → c.wp P Q' f w := by
  intro c
  induction c with
  | reg l => intro Q Q' f w h hq; exact regWp_mono l (h _) hq
  | regH l => intro Q Q' f w h ⟨S, h1, h2⟩; exact ⟨S, h1, regHWp_mono l (h _) h2⟩
  | regT t => intro Q Q' f w h ⟨S, h1, h2⟩; exact ⟨S, h1, HT.wp_mono t (h _) h2⟩
  | seq a b iha ihb =>
    intro Q Q' f w h hq
    refine iha ?_ hq
    intro e f w; cases e <;> simp only [thenF] <;> first | exact ihb h | exact h _ _ _
  | cond t a b iha ihb =>
    intro Q Q' f w h hq
    rcases hq with ⟨h1, h2⟩ | ⟨h1, h2⟩
    · exact .inl ⟨h1, iha h h2⟩
    · exact .inr ⟨h1, ihb h h2⟩
  | block id b ih =>
    intro Q Q' f w h hq
    refine ih ?_ hq
    intro e f w; cases e <;> simp only [inBlockF] <;> first | exact h _ _ _ | skip
    split
    · exact h _ _ _
    · exact h _ _ _
  | loop b ih =>
    intro Q Q' f w h hq
    obtain ⟨I, μ, h0, hr⟩ := hq
    refine ⟨I, μ, h0, fun f w hI => ih ?_ (hr f w hI)⟩
    intro e f w hq
    cases e <;> first | exact hq | exact h _ _ _ hq
  | exit id => intro Q Q' f w h hq; exact h _ _ _ hq
  | ret => intro Q Q' f w h hq; exact h _ _ _ hq
  | skip => intro Q Q' f w h hq; exact h _ _ _ hq
  | label l => intro Q Q' f w h hq; exact h _ _ _ hq
  | goto l => intro Q Q' f w h hq; exact h _ _ _ hq
  | scope b l rest ihb ihr =>
    intro Q Q' f w h hq
    obtain ⟨J, μ, h0, hr⟩ := hq
    refine ⟨J, μ, ihb ?_ h0, fun f w hJ => ihr ?_ (hr f w hJ)⟩
    · intro e f w hq
      cases e <;> first | exact hq | exact h _ _ _ hq
    · intro e f w hq
      cases e <;> first | exact hq | exact h _ _ _ hq
def gslot (ops : Array Oper) (N : Nat) : Option (Nat × Bool) → Option (Option (Nat × Bool))
  | none => some none
  | some (j, b) => match (ops[j]?).bind (·.dst) with
    | some d => if d < N then some (some (d, b)) else none
    | none => none
def dstOk (N : Nat) : Option Nat → Bool
  | some d => decide (d < N)
  | none => true
/-- The operations of a region, their slots below N. -/
def eraseOps (ops : Array Oper) (N : Nat) : List Oper → Option (List Ro)
  | [] => some []
  | o :: r => match gslot ops N o.guard, dstOk N o.dst, eraseOps ops N r with
    | some g, true, some l => some (⟨g, o.dst, o.op, o.type⟩ :: l)
    | _, _, _ => none
def isAct : Op → Bool
  | .call { callee := .builtin .len, .. } => false
  | .call { callee := .builtin .cap, .. } => false
  | .call _ | .store .. | .alloc _ | .box .. | .buildSlice .. | .makeMap .. | .makeSlice .. | .mapUpdate .. | .insert .. => true
  | _ => false
/-- a load of a type that the region also stores: what it yields is not for ever; a conversion of what has a length (of a text to bytes it makes a block) -/
def clash (ops : Array Oper) : Op → Bool
  | .load T _ => ops.any fun o => match o.op with
    | .store T' _ _ => T == T'
    | _ => false
  | .convert S _ _ => ops.any fun o => match o.op with
    | .call { callee := .builtin .len, argTypes := ts, .. } => ts.contains S
    | _ => false
  | _ => false
/-- Which operation of a region that draws its order comes next: the first one that may come up and disturbs nobody (true), or the only one that may come up. -/
def pickH (ops : Array Oper) (listed : Array Bool) : Option (Bool × Nat) :=
  match (Region.ready .any ops listed).find? (fun k => ((ops[k]?).map fun o => !isAct o.op && !clash ops o.op).getD false && Region.free .any ops listed k) with
  | some k => some (true, k)
  | none => match Region.ready .any ops listed with
    | [k] => some (false, k)
    | _ => none
def eraseH (ops : Array Oper) (N : Nat) : Nat → Array Bool → Option (List (Bool × Ro))
  | 0, listed => if (Region.ready .any ops listed).isEmpty then some [] else none
  | n + 1, listed => match pickH ops listed with
    | some (b, k) => match ops[k]? with
      | some o => match gslot ops N o.guard, dstOk N o.dst, eraseH ops N n (listed.setIfInBounds k true) with
        | some g, true, some l => some ((b, ⟨g, o.dst, o.op, o.type⟩) :: l)
        | _, _, _ => none
      | none => none
    | none => none
/-- the first operation that may come up and disturbs nobody -/
def pickT (ops : Array Oper) (listed : Array Bool) : Option Nat := (Region.ready .any ops listed).find? (fun k => ((ops[k]?).map fun o => !isAct o.op && !clash ops o.op).getD false && Region.free .any ops listed k)
/-- one of those that may come up, in any order -/
def eraseT (ops : Array Oper) (N : Nat) : Nat → Array Bool → Option HT
  | 0, listed => if (Region.ready .any ops listed).isEmpty then some .done else none
  | n + 1, listed => match pickT ops listed with
    | some k => match ops[k]? with
      | some o => match gslot ops N o.guard, dstOk N o.dst, eraseT ops N n (listed.setIfInBounds k true) with
        | some g, true, some l => some (.free ⟨g, o.dst, o.op, o.type⟩ l)
        | _, _, _ => none
      | none => none
    | none => if (Region.ready .any ops listed).isEmpty then none else
      (Region.ready .any ops listed).foldr (fun k acc => match acc, ops[k]? with
        | some alt, some o => match gslot ops N o.guard, dstOk N o.dst, eraseT ops N n (listed.setIfInBounds k true) with
          | some g, true, some l => some (.act ⟨g, o.dst, o.op, o.type⟩ l alt)
          | _, _, _ => none
        | _, _ => none) (some .stop)
def firstLabel : Ir → Option Nat
  | .label l => some l
  | .seq a b => (firstLabel a).orElse fun _ => firstLabel b
  | _ => none
def findLab : Ir → Nat → Option Ir
  | .seq a b, l => match findLab a l with
    | some rest => some (.seq rest b)
    | none => findLab b l
  | .label l', l => if l' == l then some .skip else none
  | _, _ => none
def erase (N : Nat) : Code → Option Ir
  | .skip => some .skip
  | .region _ ops false => (eraseOps ops N ops.toList).map .reg
  | .region _ ops true => if Region.noSelect ops then (match eraseH ops N ops.size (Array.replicate ops.size false) with
    | some l => some (.regH l)
    | none => (eraseT ops N ops.size (Array.replicate ops.size false)).map .regT) else none
  | .seq a b => match erase N a, erase N b with
    | some x, some y => some (.seq x y)
    | _, _ => none
  | .cond (.tmp t) a b => match erase N a, erase N b with
    | some x, some y => some (.cond t x y)
    | _, _ => none
  | .block id b => (erase N b).map (.block id)
  | .loop b => (erase N b).map .loop
  | .exit id => some (.exit id)
  | .ret => some .ret
  | .label l => some (.label l)
  | .goto l => some (.goto l)
  | .scope b => match erase N b with
    | some x => match firstLabel x with
      | some l => (findLab x l).map (.scope x l)
      | none => none
    | none => none
  | _ => none
def lift (N : Nat) (Q : Post) : Exit → Act → World → Prop := fun e a w => a.tmps.size = N ∧ a.defers = [] ∧ Q e (fr a) w
theorem fr_putO {a : Act} {N : Nat} {d : Option Nat} (hs : a.tmps.size = N) (hd : a.defers = []) (hb : dstOk N d = true) (v : Value) :
    (a.put d v).tmps.size = N ∧ (a.put d v).defers = [] ∧ fr (a.put d v) = updO (fr a) d v := by
  cases d with
  | none => exact ⟨hs, hd, rfl⟩
  | some d =>
    have hlt : d < a.tmps.size := by rw [hs]; simpa [dstOk] using hb
    exact ⟨by simp [Act.put, hs], by simp [Act.put, hd], fr_put a d v hlt⟩
theorem wanted_fr {a : Act} {N : Nat} {ops : Array Oper} {o : Oper} {g : Option (Nat × Bool)} (hs : a.tmps.size = N) (h : gslot ops N o.guard = some g) :
    Region.wanted o (yielded ops a.tmps) = wantedF (fr a) g := by
  unfold Region.wanted
  cases hg : o.guard with
  | none => rw [hg] at h; cases h; rfl
  | some jb =>
    obtain ⟨j, b⟩ := jb
    rw [hg] at h
    simp only [gslot] at h
    split at h
    · rename_i d hd
      split at h
      · rename_i hlt
        cases h
        have hlt' : d < a.tmps.size := by rw [hs]; exact hlt
        have he : ((ops[j]?).bind (·.dst)).bind (a.tmps[·]?) = some (fr a d) := by
          rw [hd]; simp [fr, hlt']
        simp only [wantedF, yielded, he]
        cases fr a d <;> simp
      · cases h
    · cases h
theorem regWp_sound {P : Program} {ops : Array Oper} {N : Nat} {Q : Post} :
    ∀ (l : List Oper) (l' : List Ro) (a : Act) (w : World), eraseOps ops N l = some l' → a.tmps.size = N → a.defers = [] →
      regWp P (Q .normal) l' (fr a) w → wpList P ops (lift N Q) l a w := by
  intro l
  induction l with
  | nil => intro l' a w h hs hd hq; cases h; exact wpList_nil ⟨hs, hd, hq⟩
  | cons o r ih =>
    intro l' a w h hs hd hq
    unfold eraseOps at h
    split at h
    · rename_i g l2 hg hb hr
      cases h
      rw [regWp_cons] at hq
      refine wpList_step fun K hK => ?_
      rw [wanted_fr hs hg]
      by_cases hw : wantedF (fr a) g = true
      · rw [if_pos hw] at hq ⊢
        simp only [stepF] at hq
        unfold Oper.wp
        rw [run_eq]
        split at hq
        · rename_i v w' hrun
          rw [hrun, Oper.upon_value]
          obtain ⟨h1, h2, h3⟩ := fr_putO hs hd hb v
          exact hK _ _ (ih _ _ _ hr h1 h2 (by rw [h3]; exact hq))
        · rename_i w' hrun
          rw [hrun, Oper.upon_skip]
          obtain ⟨h1, h2, h3⟩ := fr_putO hs hd hb undef
          exact hK _ _ (ih _ _ _ hr h1 h2 (by rw [h3]; exact hq))
        · rename_i g args w' hrun
          rw [hrun, Oper.upon_enter]
          refine hq.mono ?_
          rintro e w'' ⟨v, rfl, hv⟩
          obtain ⟨h1, h2, h3⟩ := fr_putO hs hd hb v
          exact hK _ _ (ih _ _ _ hr h1 h2 (by rw [h3]; exact hv))
        · exact hq.elim
      · rw [if_neg hw] at hq ⊢
        obtain ⟨h1, h2, h3⟩ := fr_putO hs hd hb undef
        exact hK _ _ (ih _ _ _ hr h1 h2 (by rw [h3]; exact hq))
    · cases h
theorem pickH_true {ops : Array Oper} {listed : Array Bool} {k : Nat} (h : pickH ops listed = some (true, k)) : Region.free .any ops listed k = true ∧ (Region.ready .any ops listed).contains k = true := by
  unfold pickH at h
  split at h
  · rename_i k' hk
    simp only [Option.some.injEq, Prod.mk.injEq, true_and] at h
    subst h
    have h1 := List.find?_some hk
    have h2 := List.mem_of_find?_eq_some hk
    rw [Bool.and_eq_true] at h1
    exact ⟨h1.2, by simpa using h2⟩
  · split at h
    · simp at h
    · cases h
theorem pickH_false {ops : Array Oper} {listed : Array Bool} {k : Nat} (h : pickH ops listed = some (false, k)) : Region.ready .any ops listed = [k] := by
  unfold pickH at h
  split at h
  · simp at h
  · split at h
    · rename_i hr
      simp only [Option.some.injEq, Prod.mk.injEq, true_and] at h
      subst h; exact hr
    · cases h
theorem regH_sound {P : Program} {ops : Array Oper} {N : Nat} {Q : Post} {S : World → Prop} (hsel : Region.noSelect ops = true) (hQ : ∀ c f w, Q (.panic c) f w → False) :
    ∀ (n : Nat) (listed : Array Bool) (l' : List (Bool × Ro)) (a : Act) (w : World), eraseH ops N n listed = some l' → a.tmps.size = N → a.defers = [] → S w →
      regHWp P S (Q .normal) l' (fr a) w → wpAnyH P .any ops (lift N Q) S n listed a w := by
  intro n
  induction n with
  | zero =>
    intro listed l' a w h hs hd _ hq
    unfold eraseH at h
    split at h
    · rename_i hr
      cases h
      exact ⟨by simpa using hr, hs, hd, hq⟩
    · cases h
  | succ n ih =>
    intro listed l' a w h hs hd hS hq
    unfold eraseH at h
    split at h
    · rename_i b k hp
      split at h
      · rename_i o ho
        split at h
        · rename_i g l2 hg hb hr
          cases h
          cases b with
          | false =>
            have hrd := pickH_false hp
            rw [regHWp_false] at hq
            refine wpAnyH_all hrd (by simp) ?_
            intro i hi
            have hik : i = k := by simpa using hi
            subst hik
            unfold wpOp
            simp only [ho]
            rw [wanted_fr hs hg]
            by_cases hw : wantedF (fr a) g = true
            · rw [if_pos hw] at hq ⊢
              refine .inl ?_
              simp only [stepF] at hq
              unfold Oper.wp
              rw [run_eq]
              split at hq
              · rename_i v w' hrun
                rw [hrun, Oper.upon_value]
                obtain ⟨h1, h2, h3⟩ := fr_putO hs hd hb v
                exact ⟨hq.1, ih _ _ _ _ hr h1 h2 hq.1 (by rw [h3]; exact hq.2)⟩
              · rename_i w' hrun
                rw [hrun, Oper.upon_skip]
                obtain ⟨h1, h2, h3⟩ := fr_putO hs hd hb undef
                exact ⟨hq.1, ih _ _ _ _ hr h1 h2 hq.1 (by rw [h3]; exact hq.2)⟩
              · rename_i g args w' hrun
                rw [hrun, Oper.upon_enter]
                refine hq.mono ?_
                rintro e w'' ⟨v, rfl, hv⟩
                obtain ⟨h1, h2, h3⟩ := fr_putO hs hd hb v
                exact ⟨hv.1, ih _ _ _ _ hr h1 h2 hv.1 (by rw [h3]; exact hv.2)⟩
              · exact hq.elim
            · rw [if_neg hw] at hq ⊢
              obtain ⟨h1, h2, h3⟩ := fr_putO hs hd hb undef
              exact ⟨hS, ih _ _ _ _ hr h1 h2 hS (by rw [h3]; exact hq)⟩
          | true =>
            have hf := pickH_true hp
            rw [regHWp_true] at hq
            by_cases hw : wantedF (fr a) g = true
            · rw [if_pos hw] at hq
              obtain ⟨v, hv, hk⟩ := hq
              obtain ⟨h1, h2, h3⟩ := fr_putO hs hd hb v
              refine wpAnyH_take ho hsel hf.1 hf.2 (fun c a w hp => (hQ _ _ _ hp.2.2).elim) (.inl ⟨by rw [wanted_fr hs hg]; exact hw, fun w' hS' => by rw [run_eq]; exact hv w' hS'⟩) hS ?_
              exact ih _ _ _ _ hr h1 h2 hS (by rw [h3]; exact hk)
            · rw [if_neg hw] at hq
              obtain ⟨h1, h2, h3⟩ := fr_putO hs hd hb undef
              refine wpAnyH_take ho hsel hf.1 hf.2 (fun c a w hp => (hQ _ _ _ hp.2.2).elim) (.inr ⟨by rw [wanted_fr hs hg]; simpa using hw, rfl⟩) hS ?_
              exact ih _ _ _ _ hr h1 h2 hS (by rw [h3]; exact hq)
        · cases h
      · cases h
    · cases h
theorem pickT_some {ops : Array Oper} {listed : Array Bool} {k : Nat} (h : pickT ops listed = some k) : Region.free .any ops listed k = true ∧ (Region.ready .any ops listed).contains k = true := by
  unfold pickT at h
  have h1 := List.find?_some h
  have h2 := List.mem_of_find?_eq_some h
  rw [Bool.and_eq_true] at h1
  exact ⟨h1.2, by simpa using h2⟩
theorem regT_sound {P : Program} {ops : Array Oper} {N : Nat} {Q : Post} {S : World → Prop} (hsel : Region.noSelect ops = true) (hQ : ∀ c f w, Q (.panic c) f w → False) :
    ∀ (n : Nat) (listed : Array Bool) (t : HT) (a : Act) (w : World), eraseT ops N n listed = some t → a.tmps.size = N → a.defers = [] → S w →
      t.wp P S (Q .normal) (fr a) w → wpAnyH P .any ops (lift N Q) S n listed a w := by
  intro n
  induction n with
  | zero =>
    intro listed t a w h hs hd _ hq
    unfold eraseT at h
    split at h
    · rename_i hr
      cases h
      exact ⟨by simpa using hr, hs, hd, hq⟩
    · cases h
  | succ n ih =>
    intro listed t a w h hs hd hS hq
    unfold eraseT at h
    split at h
    · rename_i k hp
      split at h
      · rename_i o ho
        split at h
        · rename_i g l2 hg hb hr
          cases h
          have hf := pickT_some hp
          simp only [HT.wp] at hq
          by_cases hw : wantedF (fr a) g = true
          · rw [if_pos hw] at hq
            obtain ⟨v, hv, hk⟩ := hq
            obtain ⟨h1, h2, h3⟩ := fr_putO hs hd hb v
            refine wpAnyH_take ho hsel hf.1 hf.2 (fun c a w hp => (hQ _ _ _ hp.2.2).elim) (.inl ⟨by rw [wanted_fr hs hg]; exact hw, fun w' hS' => by rw [run_eq]; exact hv w' hS'⟩) hS ?_
            exact ih _ _ _ _ hr h1 h2 hS (by rw [h3]; exact hk)
          · rw [if_neg hw] at hq
            obtain ⟨h1, h2, h3⟩ := fr_putO hs hd hb undef
            refine wpAnyH_take ho hsel hf.1 hf.2 (fun c a w hp => (hQ _ _ _ hp.2.2).elim) (.inr ⟨by rw [wanted_fr hs hg]; simpa using hw, rfl⟩) hS ?_
            exact ih _ _ _ _ hr h1 h2 hS (by rw [h3]; exact hq)
        · cases h
      · cases h
    · split at h
      · cases h
      · rename_i hne
        have key : ∀ (rd : List Nat) (t : HT), rd.foldr (fun k acc => match acc, ops[k]? with
            | some alt, some o => match gslot ops N o.guard, dstOk N o.dst, eraseT ops N n (listed.setIfInBounds k true) with
              | some g, true, some l => some (.act ⟨g, o.dst, o.op, o.type⟩ l alt)
              | _, _, _ => none
            | _, _ => none) (some .stop) = some t → t.wp P S (Q .normal) (fr a) w → ∀ k ∈ rd, ∃ o g l, ops[k]? = some o ∧ gslot ops N o.guard = some g ∧ dstOk N o.dst = true ∧ eraseT ops N n (listed.setIfInBounds k true) = some l ∧
              (if wantedF (fr a) g = true then stepF P (fr a) o.op o.type w fun v w' => S w' ∧ l.wp P S (Q .normal) (updO (fr a) o.dst v) w' else l.wp P S (Q .normal) (updO (fr a) o.dst undef) w) := by
          intro rd
          induction rd with
          | nil => intro t _ _ k hk; cases hk
          | cons x rd ihr =>
            intro t ht hq k hk
            simp only [List.foldr_cons] at ht
            split at ht
            · rename_i alt o halt ho
              split at ht
              · rename_i g l hg hb hr
                cases ht
                simp only [HT.wp] at hq
                rcases List.mem_cons.1 hk with rfl | hk
                · exact ⟨o, g, l, ho, hg, hb, hr, hq.1⟩
                · exact ihr alt halt hq.2 k hk
              · cases ht
            · cases ht
        have hall := key _ t h hq
        have hne' : Region.ready .any ops listed ≠ [] := by simpa using hne
        refine wpAnyH_all rfl hne' ?_
        intro i hi
        obtain ⟨o, g, l, ho, hg, hb, hr, hq⟩ := hall i hi
        unfold wpOp
        simp only [ho]
        rw [wanted_fr hs hg]
        by_cases hw : wantedF (fr a) g = true
        · rw [if_pos hw] at hq ⊢
          refine .inl ?_
          simp only [stepF] at hq
          unfold Oper.wp
          rw [run_eq]
          split at hq
          · rename_i v w' hrun
            rw [hrun, Oper.upon_value]
            obtain ⟨h1, h2, h3⟩ := fr_putO hs hd hb v
            exact ⟨hq.1, ih _ _ _ _ hr h1 h2 hq.1 (by rw [h3]; exact hq.2)⟩
          · rename_i w' hrun
            rw [hrun, Oper.upon_skip]
            obtain ⟨h1, h2, h3⟩ := fr_putO hs hd hb undef
            exact ⟨hq.1, ih _ _ _ _ hr h1 h2 hq.1 (by rw [h3]; exact hq.2)⟩
          · rename_i g args w' hrun
            rw [hrun, Oper.upon_enter]
            refine hq.mono ?_
            rintro e w'' ⟨v, rfl, hv⟩
            obtain ⟨h1, h2, h3⟩ := fr_putO hs hd hb v
            exact ⟨hv.1, ih _ _ _ _ hr h1 h2 hv.1 (by rw [h3]; exact hv.2)⟩
          · exact hq.elim
        · rw [if_neg hw] at hq ⊢
          obtain ⟨h1, h2, h3⟩ := fr_putO hs hd hb undef
          exact ⟨hS, ih _ _ _ _ hr h1 h2 hS (by rw [h3]; exact hq)⟩
def csize : Code → Nat
  | .seq a b => csize a + csize b + 1
  | .cond _ a b => csize a + csize b + 1
  | .block _ b => csize b + 1
  | .loop b => csize b + 1
  | .scope b => csize b + 1
  | _ => 1
theorem findLab_erase {N : Nat} : ∀ (c : Code) (x rest : Ir) (l : Nat), erase N c = some x → findLab x l = some rest →
    ∃ c', findLabel c l = some c' ∧ erase N c' = some rest ∧ csize c' ≤ csize c := by
  intro c
  induction c with
  | seq a b iha ihb =>
    intro x rest l h hf
    simp only [erase] at h
    split at h
    · rename_i x' y' hx hy
      cases h
      simp only [findLab] at hf
      split at hf
      · rename_i r hr
        cases hf
        obtain ⟨c', h1, h2, h3⟩ := iha _ _ _ hx hr
        refine ⟨.seq c' b, ?_, ?_, ?_⟩
        · simp [findLabel, h1]
        · simp [erase, h2, hy]
        · simp only [csize]; omega
      · rename_i hr
        obtain ⟨c', h1, h2, h3⟩ := ihb _ _ _ hy hf
        refine ⟨c', ?_, h2, by simp only [csize]; omega⟩
        have hn : findLabel a l = none := by
          cases hfa : findLabel a l with
          | none => rfl
          | some c2 =>
            exfalso
            have key : ∀ (c : Code) (x : Ir) (c2 : Code), erase N c = some x → findLabel c l = some c2 → findLab x l ≠ none := by
              intro c
              induction c with
              | seq a b iha ihb =>
                intro x c2 h hf
                simp only [erase] at h
                split at h
                · rename_i x' y' hx hy
                  cases h
                  simp only [findLabel] at hf
                  split at hf
                  · rename_i r hr2
                    have := iha _ _ hx hr2
                    simp only [findLab]
                    split
                    · simp
                    · rename_i he; exact absurd he this
                  · have := ihb _ _ hy hf
                    simp only [findLab]
                    split
                    · simp
                    · exact this
                · cases h
              | label l' =>
                intro x c2 h hf
                cases h
                simp only [findLabel] at hf
                simp only [findLab]
                split at hf
                · rename_i he; simp [he]
                · cases hf
              | _ => intro x c2 h hf; simp [findLabel] at hf
            exact key a _ _ hx hfa hr
        simp [findLabel, hn, h1]
    · cases h
  | label l' =>
    intro x rest l h hf
    cases h
    simp only [findLab] at hf
    split at hf
    · rename_i he
      cases hf
      exact ⟨.skip, by simp [findLabel, he], rfl, by simp [csize]⟩
    · cases hf
  | skip => intro x rest l h hf; cases h; simp [findLab] at hf
  | exit => intro x rest l h hf; cases h; simp [findLab] at hf
  | ret => intro x rest l h hf; cases h; simp [findLab] at hf
  | goto => intro x rest l h hf; cases h; simp [findLab] at hf
  | rangeFunc => intro x rest l h; cases h
  | refuse => intro x rest l h; cases h
  | region id ops d =>
    intro x rest l h hf
    cases d
    · simp only [erase, Option.map_eq_some_iff] at h
      obtain ⟨_, _, rfl⟩ := h
      simp [findLab] at hf
    · simp only [erase] at h
      split at h
      · split at h
        · cases h
          simp [findLab] at hf
        · simp only [Option.map_eq_some_iff] at h
          obtain ⟨_, _, rfl⟩ := h
          simp [findLab] at hf
      · cases h
  | cond t a b =>
    intro x rest l h hf
    cases t <;> simp only [erase] at h <;> first | (cases h; done) | skip
    split at h
    · cases h; simp [findLab] at hf
    · cases h
  | block id b =>
    intro x rest l h hf
    simp only [erase, Option.map_eq_some_iff] at h
    obtain ⟨_, _, rfl⟩ := h
    simp [findLab] at hf
  | loop b =>
    intro x rest l h hf
    simp only [erase, Option.map_eq_some_iff] at h
    obtain ⟨_, _, rfl⟩ := h
    simp [findLab] at hf
  | scope b =>
    intro x rest l h hf
    simp only [erase] at h
    split at h
    · split at h
      · simp only [Option.map_eq_some_iff] at h
        obtain ⟨_, _, rfl⟩ := h
        simp [findLab] at hf
      · cases h
    · cases h
theorem wp_sound' {P : Program} {N : Nat} (hm : P.follows .mixedOrders = true) : ∀ (n : Nat) (c : Code), csize c ≤ n → ∀ (ir : Ir) {Q : Post} {a : Act} {w : World}, (∀ c f w, Q (.panic c) f w → False) → erase N c = some ir → a.tmps.size = N → a.defers = [] →
    ir.wp P Q (fr a) w → c.wp P (lift N Q) a w := by
  intro n
  induction n with
  | zero => intro c hc; cases c <;> simp [csize] at hc
  | succ n ih =>
  intro c hc ir Q a w hQ h hs hd hq
  cases c with
  | skip => cases h; exact wp_skip ⟨hs, hd, hq⟩
  | region id ops draw =>
    cases draw with
    | true =>
      simp only [erase] at h
      split at h
      · rename_i hsel
        split at h
        · rename_i l hl
          cases h
          obtain ⟨S, hS, hq⟩ := hq
          refine wp_region_held (S := S) hm ?_
          exact regH_sound (S := S) hsel hQ ops.size (Array.replicate ops.size false) l a w.drew hl hs hd hS hq
        · simp only [Option.map_eq_some_iff] at h
          obtain ⟨l, hl, rfl⟩ := h
          obtain ⟨S, hS, hq⟩ := hq
          refine wp_region_held (S := S) hm ?_
          exact regT_sound (S := S) hsel hQ ops.size (Array.replicate ops.size false) l a w.drew hl hs hd hS hq
      · cases h
    | false =>
      simp only [erase, Option.map_eq_some_iff] at h
      obtain ⟨l, hl, rfl⟩ := h
      exact wp_region_list (regWp_sound _ _ _ _ hl hs hd hq)
  | seq x y =>
    simp only [erase] at h
    split at h
    · rename_i x' y' hx hy
      cases h
      have hsz : csize x ≤ n ∧ csize y ≤ n := by simp only [csize] at hc; omega
      refine wp_seq (wp_mono (ih _ hsz.1 _ (Q := thenF (y'.wp P Q) Q) (fun c f w hp => hQ c f w hp) hx hs hd hq) ?_)
      intro e a w ⟨h1, h2, h3⟩
      cases e <;> simp only [thenF] at h3 <;> first | exact ih _ hsz.2 _ hQ hy h1 h2 h3 | exact ⟨h1, h2, h3⟩
    · cases h
  | cond c x y =>
    cases c with
    | tmp t =>
      simp only [erase] at h
      split at h
      · rename_i x' y' hx hy
        cases h
        have hsz : csize x ≤ n ∧ csize y ≤ n := by simp only [csize] at hc; omega
        rcases hq with ⟨h1, h2⟩ | ⟨h1, h2⟩
        · exact wp_cond_true h1 (ih _ hsz.1 _ hQ hx hs hd h2)
        · exact wp_cond_false h1 (ih _ hsz.2 _ hQ hy hs hd h2)
      · cases h
    | const v => cases h
    | global g => cases h
    | func g => cases h
  | block id b =>
    simp only [erase, Option.map_eq_some_iff] at h
    obtain ⟨l, hl, rfl⟩ := h
    have hsz : csize b ≤ n := by simp only [csize] at hc; omega
    refine wp_block (wp_mono (ih _ hsz _ (Q := inBlockF id Q) (fun c f w hp => hQ c f w hp) hl hs hd hq) ?_)
    intro e a w ⟨h1, h2, h3⟩
    cases e <;> simp only [inBlockF] at h3 <;> first | exact ⟨h1, h2, h3⟩ | skip
    simp only [Exit.inBlock]
    split at h3
    · rename_i e; rw [if_pos e]; exact ⟨h1, h2, h3⟩
    · rename_i e; rw [if_neg e]; exact ⟨h1, h2, h3⟩
  | loop b =>
    simp only [erase, Option.map_eq_some_iff] at h
    obtain ⟨l, hl, rfl⟩ := h
    have hsz : csize b ≤ n := by simp only [csize] at hc; omega
    obtain ⟨I, μ, h0, hr⟩ := hq
    refine wp_loop (fun a w => a.tmps.size = N ∧ a.defers = [] ∧ I (fr a) w) (fun a w => μ (fr a) w) ⟨hs, hd, h0⟩ ?_
    intro a w ⟨h1, h2, h3⟩
    refine wp_mono (ih _ hsz _ (Q := thenF (fun f' w' => I f' w' ∧ μ f' w' < μ (fr a) w) Q) (fun c f w hp => hQ c f w hp) hl h1 h2 (hr _ _ h3)) ?_
    intro e a w ⟨h1, h2, h3⟩
    cases e <;> simp only [thenF] at h3 <;> first | exact ⟨⟨h1, h2, h3.1⟩, h3.2⟩ | exact ⟨h1, h2, h3⟩
  | exit id => cases h; exact Go.wp_exit ⟨hs, hd, hq⟩
  | ret => cases h; exact Go.wp_ret ⟨hs, hd, hq⟩
  | label l => cases h; exact Go.wp_label ⟨hs, hd, hq⟩
  | goto l => cases h; exact Go.wp_goto ⟨hs, hd, hq⟩
  | scope b =>
    simp only [erase] at h
    split at h
    · rename_i x hx
      split at h
      · rename_i l hl
        simp only [Option.map_eq_some_iff] at h
        obtain ⟨rest, hrest, rfl⟩ := h
        obtain ⟨c', h1, h2, h3⟩ := findLab_erase b x rest l hx hrest
        have hsz : csize b ≤ n := by simp only [csize] at hc; omega
        obtain ⟨J, μ, h0, hr⟩ := hq
        refine wp_scope_jumps l (fun a w => a.tmps.size = N ∧ a.defers = [] ∧ J (fr a) w) (fun a w => μ (fr a) w) h1 ?_ ?_
        · refine wp_mono (ih _ hsz _ (Q := jumpF l J Q) (fun c f w hp => hQ c f w hp) hx hs hd h0) ?_
          intro e a w ⟨g1, g2, g3⟩
          cases e <;> simp only [jumpF] at g3 <;> first | exact ⟨g1, g2, g3⟩ | exact ⟨g3.1, g1, g2, g3.2⟩
        · intro a w ⟨k1, k2, k3⟩
          refine wp_mono (ih _ (by omega) _ (Q := jumpF l (fun f' w' => J f' w' ∧ μ f' w' < μ (fr a) w) Q) (fun c f w hp => hQ c f w hp) h2 k1 k2 (hr _ _ k3)) ?_
          intro e a w ⟨g1, g2, g3⟩
          cases e <;> simp only [jumpF] at g3 <;> first | exact ⟨g1, g2, g3⟩ | exact ⟨g3.1, ⟨g1, g2, g3.2.1⟩, g3.2.2⟩
      · cases h
    · cases h
  | rangeFunc => cases h
  | refuse => cases h
theorem wp_sound {P : Program} {N : Nat} (hm : P.follows .mixedOrders = true) (c : Code) (ir : Ir) {Q : Post} {a : Act} {w : World} (hQ : ∀ c f w, Q (.panic c) f w → False) (h : erase N c = some ir) (hs : a.tmps.size = N) (hd : a.defers = [])
    (hq : ir.wp P Q (fr a) w) : c.wp P (lift N Q) a w := wp_sound' hm _ c (Nat.le_refl _) ir hQ h hs hd hq
end Go.Kg

namespace Go.Kg
open Go
inductive Rv where
  | t (n : Nat)
  | c (n : Nat) (T : TypeId)
def Rv.var : Rv → ResultVar
  | .t n => .tmp n
  | .c n T => .cell n T
structure FnIs (P : Program) (g N : Nat) (rs : List Rv) (ir : Ir) : Prop where
  mixed : P.follows .mixedOrders = true
  fn : ∃ fn c, P.funcs[g]? = some fn ∧ fn.body = some c ∧ fn.ntmps = N ∧ fn.results = (rs.map Rv.var).toArray ∧ (fn.name == "runtime.NumGoroutine") = false ∧ erase N c = some ir
def Callable (P : Program) (g : Nat) : Prop := ∃ fn c, P.funcs[g]? = some fn ∧ fn.body = some c ∧ (fn.name == "runtime.NumGoroutine") = false
theorem FnIs.callable {P : Program} {g N : Nat} {rs : List Rv} {ir : Ir} (h : FnIs P g N rs ir) : Callable P g :=
  let ⟨fn, c, h1, h2, _, _, h5, _⟩ := h.fn
  ⟨fn, c, h1, h2, h5⟩
/-- A call that returns a value; R: what is known of it and of the world behind it. -/
def Ret (P : Program) (g : Nat) (args : Array Value) (w : World) (R : Value → World → Prop) : Prop :=
  Callable P g ∧ Calls P g args w fun e w' => ∃ v, e = .returned v ∧ R v w'
theorem Ret.mono {P : Program} {g : Nat} {args : Array Value} {w : World} {R R' : Value → World → Prop} (h : Ret P g args w R) (hr : ∀ v w', R v w' → R' v w') : Ret P g args w R' :=
  ⟨h.1, h.2.mono fun _ _ ⟨v, he, hv⟩ => ⟨v, he, hr v _ hv⟩⟩
def frame0 (args : List Value) : Nat → Value := fun t => args.getD t undef
def Fld (P : Program) (T k off : Nat) : Prop := ∃ fs fd i, P.underlying T = some (.struct fs) ∧ fs[k]? = some fd ∧ P.info? fd.type = some i ∧ i.size ≠ 0 ∧ fd.offset = off
def notAgg : TypeDesc → Bool
  | .struct _ | .array _ _ => false
  | _ => true
def Scl (P : Program) (T : Nat) : Prop := ∃ d i, P.underlying T = some d ∧ notAgg d = true ∧ P.info? T = some i ∧ i.size = 1
def Agg (P : Program) (T n : Nat) : Prop := ∃ d i, P.underlying T = some d ∧ notAgg d = false ∧ P.info? T = some i ∧ i.size = n
def Sli (P : Program) (T E sz : Nat) : Prop := ∃ i, P.underlying T = some (.slice E) ∧ P.info? E = some i ∧ i.size = sz
def IntT (P : Program) (T : Nat) (k : IntKind) : Prop := P.underlying T = some (.int k)
theorem IntT.scl {P : Program} {T : Nat} {k : IntKind} (h : IntT P T k) {i : TypeInfo} (hi : P.info? T = some i) (hs : i.size = 1) : Scl P T := ⟨_, i, h, rfl, hi, hs⟩
section
variable {P : Program} {f : Nat → Value} {ty : TypeId} {w : World} {K : Value → World → Prop}
theorem stepF_ok {op : Op} {v : Value} {w' : World} (h : runF P f op ty w = .ok (.value v) w') : stepF P f op ty w K = K v w' := by
  unfold stepF; rw [h]
theorem stepF_skip {op : Op} {w' : World} (h : runF P f op ty w = .ok .skip w') : stepF P f op ty w K = K undef w' := by
  unfold stepF; rw [h]
theorem run_nilCheck {x : Operand} {p : Addr} (h : evF f x = .pointer (some p)) : runF P f (.nilCheck x) ty w = .ok (.value (.pointer (some p))) w := by
  simp [runF, execOp, h]
theorem run_fieldAddr {T k off : Nat} (hF : Fld P T k off) {x : Operand} {p : Addr} (h : evF f x = .pointer (some p)) :
    runF P f (.fieldAddr T x k) ty w = .ok (.value (.pointer (some (p.add off)))) w := by
  obtain ⟨fs, fd, i, h1, h2, h3, h4, h5⟩ := hF
  simp [runF, execOp, h, Instr.fieldAt, run_underlying h1, h2, Instr.sureAddr, fieldPlace, sizeOf, typeInfo, h3, h4, h5]
theorem run_isAgg {T : Nat} {d : TypeDesc} (h1 : P.underlying T = some d) : (isAgg T).run P w = .ok (!notAgg d) w := by
  cases d <;> simp [isAgg, run_underlying h1, notAgg]
theorem run_load {T : Nat} (hS : Scl P T) {x : Operand} {p : Addr} {v : Value} (h : evF f x = .pointer (some p)) (hc : w.cell? p = some v) :
    runF P f (.load T x) ty w = .ok (.value v) w := by
  obtain ⟨d, i, h1, h2, h3, h4⟩ := hS
  simp [runF, execOp, h, Instr.loadAt, Instr.sureAddr, loadVar, run_isAgg h1, h2, hc]
theorem run_load_agg {T n : Nat} (hA : Agg P T n) {x : Operand} {p : Addr} {cs : List Value} (h : evF f x = .pointer (some p)) (hn : cs.length = n) (hc : ∀ j v, cs[j]? = some v → w.cell? (p.add j) = some v) :
    runF P f (.load T x) ty w = .ok (.value (.agg cs.toArray)) w := by
  obtain ⟨d, i, h1, h2, h3, h4⟩ := hA
  have := run_loadCells_list (P := P) (w := w) p cs hc
  rw [hn, ← h4] at this
  simp [runF, execOp, h, Instr.loadAt, Instr.sureAddr, loadVar, run_isAgg h1, h2, sizeOf, typeInfo, h3, this]
theorem run_call {g : Nat} (hc : Callable P g) {xs : Array Operand} {ts : Array TypeId} :
    runF P f (.call { callee := .value (.func g), args := xs, argTypes := ts }) ty w = .ok (.enter g (xs.map (evF f))) w := by
  obtain ⟨fn, c, h1, h2, h3⟩ := hc
  have h3' : ¬ fn.name = "runtime.NumGoroutine" := by simpa using h3
  simp [runF, execOp, resolve, evF, Deferred.ofValue, invoke, callFunc, h1, h2, h3']
theorem st_call {g : Nat} {xs : Array Operand} {ts : Array TypeId} (h : Ret P g (xs.map (evF f)) w K) :
    stepF P f (.call { callee := .value (.func g), args := xs, argTypes := ts }) ty w K := by
  unfold stepF
  rw [run_call h.1]
  exact h.2
end
def _root_.Go.World.setBlk (w : World) (b : Nat) (o : Obj) : World := { w with heap := w.heap.setIfInBounds b o }
section
variable {w : World}
theorem setBlk_get {b : Nat} {o : Obj} (k : Nat) (h : b < w.heap.size) : (w.setBlk b o).heap[k]? = if k = b then some o else w.heap[k]? := by
  simp only [World.setBlk, Array.getElem?_setIfInBounds]
  by_cases e : k = b
  · subst e; simp [h]
  · rw [if_neg (Ne.symm e), if_neg e]
theorem setBlk_same {b : Nat} {o o' : Obj} (h : w.heap[b]? = some o') : (w.setBlk b o).heap[b]? = some o := by
  rw [setBlk_get _ (Array.getElem?_eq_some_iff.1 h).1]; simp
theorem setBlk_other {b k : Nat} {o : Obj} (h : k ≠ b) : (w.setBlk b o).heap[k]? = w.heap[k]? := by
  simp only [World.setBlk, Array.getElem?_setIfInBounds]; rw [if_neg (Ne.symm h)]
@[simp] theorem setBlk_size {b : Nat} {o : Obj} : (w.setBlk b o).heap.size = w.heap.size := by simp [World.setBlk]
theorem cell_of_blk {b off : Nat} {c : Array Value} {e : TypeId} {fz : Nat × Nat} (h : w.heap[b]? = some (.cells c e fz)) : w.cell? ⟨b, off, none⟩ = c[off]? := by
  simp [World.cell?, h]
theorem frozen_of_blk {b off : Nat} {c : Array Value} {e : TypeId} (h : w.heap[b]? = some (.cells c e (0, 0))) : w.frozen? ⟨b, off, none⟩ = false := by
  simp [World.frozen?, h]
theorem setCell_blk {b off : Nat} {c : Array Value} {e : TypeId} {fz : Nat × Nat} {v : Value} (h : w.heap[b]? = some (.cells c e fz)) :
    w.setCell ⟨b, off, none⟩ v = w.setBlk b (.cells (c.setIfInBounds off v) e fz) := by
  simp only [World.setCell, World.setBlk]
  congr 1
  apply Array.ext_getElem?
  intro k
  simp only [Array.getElem?_modify, Array.getElem?_setIfInBounds]
  by_cases e : b = k
  · subst e
    rw [if_pos rfl, if_pos rfl, h]
    have hlt := (Array.getElem?_eq_some_iff.1 h).1
    rw [if_pos hlt]
    simp
  · rw [if_neg e, if_neg e]
theorem setBlk_setBlk {b : Nat} {o o' : Obj} : (w.setBlk b o).setBlk b o' = w.setBlk b o' := by
  simp [World.setBlk]
end
theorem Addr.add_mk (b o n : Nat) : (⟨b, o, none⟩ : Addr).add n = ⟨b, o + n, none⟩ := by
  unfold Addr.add; split
  · rename_i h; simp [h]
  · rfl
section
variable {P : Program} {f : Nat → Value} {ty : TypeId} {w : World}
/-- A store of a scalar into a block of cells. -/
theorem run_store {T : Nat} (hS : Scl P T) {x y : Operand} {b off : Nat} {c : Array Value} {e : TypeId} {v : Value} (hx : evF f x = .pointer (some ⟨b, off, none⟩)) (hy : evF f y = v) (h1 : v.oneCell' = true)
    (hb : w.heap[b]? = some (.cells c e (0, 0))) (ho : off < c.size) :
    runF P f (.store T x y) ty w = .ok .skip (w.setBlk b (.cells (c.setIfInBounds off v) e (0, 0))) := by
  obtain ⟨d, i, g1, g2, g3, g4⟩ := hS
  have hcs : v.cells = #[v] := by cases v <;> simp_all [Value.oneCell', Value.cells]
  have hc : w.cell? ⟨b, off, none⟩ = some c[off] := by rw [cell_of_blk hb]; simp [ho]
  have hst : (store ⟨b, off, none⟩ v).run P w = .ok () (w.setCell ⟨b, off, none⟩ v) := by
    rw [Go.run_store P w _ v _ h1, hc]
    simp [frozen_of_blk hb]
  simp only [runF, execOp, hx, hy, Instr.storeAt, Instr.sureAddr, storeVar, sizeOf, typeInfo]
  simp [g3, g4, hcs, storeCells, Addr.add_mk, hst, setCell_blk hb]
theorem run_len_str {T : Nat} (hS : P.underlying T = some .string) {x : Operand} {s : ByteArray} (h : evF f x = .string s) :
    runF P f (.call { callee := .builtin .len, args := #[x], argTypes := #[T] }) ty w = .ok (.value (.int .i64 s.size)) w := by
  simp [runF, execOp, resolve, invoke, builtin, h, Builtin.len_, run_underlying hS, goInt]
section
variable {T yT : TypeId} {x y : Operand} {k : IntKind} {a b : Int} (hx : evF f x = .int k a) (hy : evF f y = .int k b)
include hx hy
end
theorem run_not {T : TypeId} {x : Operand} {b : Bool} (hx : evF f x = .bool b) : runF P f (.unOp .not T x) ty w = .ok (.value (.bool !b)) w := by
  simp [runF, execOp, hx, Op.unary]
theorem run_pick {c x y : Operand} {b : Bool} (hc : evF f c = .bool b) : runF P f (.pick c x y) ty w = .ok (.value (if b then evF f x else evF f y)) w := by
  cases b <;> simp [runF, execOp, hc, asBool]
theorem run_extract {x : Operand} {vs : Array Value} {k : Nat} {v : Value} (hx : evF f x = .tuple vs) (hv : vs[k]? = some v) : runF P f (.extract x k) ty w = .ok (.value v) w := by
  simp [runF, execOp, hx, Instr.extract, hv]
/-- x[lo:] -/
theorem run_slice_lo {T E sz : Nat} (hS : Sli P T E sz) {x y : Operand} {a : Option Addr} {n c : Nat} {k : IntKind} {l : Nat} (hx : evF f x = .slice a n c) (hy : evF f y = .int k l) (hl : l ≤ n) :
    runF P f (.slice T x (some y) none none) ty w = .ok (.value (.slice (if c = l then a else a.map (·.add (l * sz))) (n - l) (c - l))) w := by
  obtain ⟨j, h1, h2, h3⟩ := hS
  simp [runF, execOp, hx, hy, Instr.sliceAt, run_underlying h1, Instr.slice, Instr.sliceBounds, Instr.sliceBound, asIntOf, sizeOf, typeInfo, h2, h3, hl]
/-- x[:hi] -/
theorem run_slice_hi {T E sz : Nat} (hS : Sli P T E sz) {x y : Operand} {a : Option Addr} {n c : Nat} {k : IntKind} {h : Nat} (hx : evF f x = .slice a n c) (hy : evF f y = .int k h) (hl : h ≤ c) :
    runF P f (.slice T x none (some y) none) ty w = .ok (.value (.slice (if c = 0 then a else a.map (·.add 0)) h c)) w := by
  obtain ⟨j, h1, h2, h3⟩ := hS
  simp [runF, execOp, hx, hy, Instr.sliceAt, run_underlying h1, Instr.slice, Instr.sliceBounds, Instr.sliceBound, asIntOf, sizeOf, typeInfo, h2, hl]
end
end Go.Kg

namespace Go.Kg
open Go
def fldOff (P : Program) (T k : Nat) : Option Nat :=
  match P.underlying T with
  | some (.struct fs) => match fs[k]? with
    | some fd => match P.info? fd.type with
      | some i => if i.size = 0 then none else some fd.offset
      | none => none
    | none => none
  | _ => none
/-- How many cells a value of the type has, and whether it is kept as a row. -/
inductive TK | scl | agg (n : Nat) | bad
def kindOf (P : Program) (T : Nat) : TK :=
  match P.underlying T, P.info? T with
  | some d, some i => if notAgg d then (if i.size = 1 then .scl else .bad) else .agg i.size
  | _, _ => .bad
def sliSz (P : Program) (T : Nat) : Option Nat :=
  match P.underlying T with
  | some (.slice E) => (P.info? E).map (·.size)
  | _ => none
def zeroOf (P : Program) (T : Nat) : Option Value := (P.info? T).bind (·.zero)
def intKind? (P : Program) (T : Nat) : Option IntKind :=
  match P.underlying T with
  | some (.int k) => some k
  | _ => none
def cellsFrom (w : World) (a : Addr) (i : Nat) : Nat → Option (List Value)
  | 0 => some []
  | n + 1 => match w.cell? (a.add i), cellsFrom w a (i + 1) n with
    | some v, some l => some (v :: l)
    | _, _ => none
theorem cellsFrom_spec (w : World) (a : Addr) : ∀ (n i : Nat) (cs : List Value), cellsFrom w a i n = some cs → cs.length = n ∧ ∀ j v, cs[j]? = some v → w.cell? (a.add (i + j)) = some v := by
  intro n
  induction n with
  | zero => intro i cs h; cases h; exact ⟨rfl, by simp⟩
  | succ n ih =>
    intro i cs h
    simp only [cellsFrom] at h
    split at h
    · rename_i v l hv hl
      cases h
      obtain ⟨h1, h2⟩ := ih _ _ hl
      refine ⟨by simp [h1], ?_⟩
      intro j u hj
      cases j with
      | zero => simp at hj; subst hj; simpa using hv
      | succ j => have := h2 j u (by simpa using hj); rw [show i + (j + 1) = i + 1 + j by omega]; exact this
    · cases h
def ld? (P : Program) (w : World) (T : Nat) (p : Addr) : Option Value :=
  match kindOf P T with
  | .scl => w.cell? p
  | .agg n => (cellsFrom w p 0 n).map fun cs => .agg cs.toArray
  | .bad => none
def part? (P : Program) (T : Nat) (cs : Array Value) (off : Nat) : Option Value :=
  match kindOf P T with
  | .scl => cs[off]?
  | .agg n => some (.agg (cs.extract off (off + n)))
  | .bad => none
def fld? (P : Program) (T k : Nat) (cs : Array Value) : Option Value :=
  match P.underlying T with
  | some (.struct fs) => match fs[k]? with
    | some fd => part? P fd.type cs fd.offset
    | none => none
  | _ => none
def opdNil : Operand → Bool
  | .const _ => true
  | _ => false
def eq? (P : Program) (T : Nat) (y : Operand) : Value → Value → Option Bool
  | .bool a, .bool b => match P.underlying T with | some .bool => some (a == b) | _ => none
  | .slice a _ _, .slice none _ _ => match P.underlying T with | some (.slice _) => some a.isNone | _ => none
  | .pointer a, .pointer none => match P.underlying T with | some (.pointer _) => some a.isNone | _ => none
  | .iface _ _, .nilIface => match P.underlying T with | some (.interface _) => some false | _ => none
  | .nilIface, .nilIface => match P.underlying T with | some (.interface _) => if opdNil y then some true else none | _ => none
  | .map a, .map none => match P.underlying T with | some (.map _ _) => some a.isNone | _ => none
  | _, _ => none
def bin? (P : Program) (op : BinOp) (T : Nat) (y : Operand) : Value → Value → Option Value
  | .int k a, .int k' b =>
    match op with
    | .shl => if 0 ≤ b then some (.int k (k.wrap (a * 2 ^ (min b.toNat k.bits)))) else none
    | .shr => if 0 ≤ b then some (.int k (a.fdiv (2 ^ (min b.toNat k.bits)))) else none
    | .add => if k = k' then some (.int k (k.wrap (a + b))) else none
    | .sub => if k = k' then some (.int k (k.wrap (a - b))) else none
    | .mul => if k = k' then some (.int k (k.wrap (a * b))) else none
    | .and => if k = k' then some (.int k (bits .and k a b)) else none
    | .or => if k = k' then some (.int k (bits .or k a b)) else none
    | .xor => if k = k' then some (.int k (bits .xor k a b)) else none
    | .eql => if k = k' then some (.bool (a == b)) else none
    | .neq => if k = k' then some (.bool (a != b)) else none
    | .lss => if k = k' then some (.bool (a < b)) else none
    | .leq => if k = k' then some (.bool (a ≤ b)) else none
    | .gtr => if k = k' then some (.bool (a > b)) else none
    | .geq => if k = k' then some (.bool (a ≥ b)) else none
    | .rem => if k = k' ∧ b ≠ 0 then some (.int k (a.tmod b)) else none
    | _ => none
  | .string a, .string b =>
    match op with
    | .eql => some (.bool (a.toList == b.toList))
    | .neq => some (.bool !(a.toList == b.toList))
    | _ => none
  | a, b =>
    match op with
    | .eql => (eq? P T y a b).map .bool
    | .neq => (eq? P T y a b).map fun r => .bool !r
    | _ => none
def slice? (P : Program) (T : Nat) : Value → Option Value → Option Value → Option Value → Option Value
  | .slice a n c, lo, hi, mx =>
    match sliSz P T with
    | some sz =>
      match lo, hi, mx with
      | some (.int _ l), none, none => if 0 ≤ l ∧ l.toNat ≤ n then some (.slice (if c = l.toNat then a else a.map (·.add (l.toNat * sz))) (n - l.toNat) (c - l.toNat)) else none
      | none, some (.int _ h), none => if 0 ≤ h ∧ h.toNat ≤ c then some (.slice (if c = 0 then a else a.map (·.add 0)) h.toNat c) else none
      | none, some (.int _ h), some (.int _ m) => if 0 ≤ h ∧ h ≤ m ∧ m.toNat ≤ c then some (.slice (if m.toNat = 0 then a else a.map (·.add 0)) h.toNat m.toNat) else none
      | none, none, none => some (.slice (if c = 0 then a else a.map (·.add 0)) n c)
      | _, _, _ => none
    | none => none
  | .pointer (some a), none, none, none =>
    match P.underlying T with
    | some (.array n E) => (P.info? E).map fun _ => .slice (some (if n = 0 then a else a.add 0)) n n
    | _ => none
  | .string s, lo, hi, none =>
    match P.underlying T with
    | some .string =>
      match lo, hi with
      | some (.int _ l), none => if 0 ≤ l ∧ l.toNat ≤ s.size then some (.string (s.extract l.toNat s.size)) else none
      | none, some (.int _ h) => if 0 ≤ h ∧ h.toNat ≤ s.size then some (.string (s.extract 0 h.toNat)) else none
      | some (.int _ l), some (.int _ h) => if 0 ≤ l ∧ l ≤ h ∧ h.toNat ≤ s.size then some (.string (s.extract l.toNat h.toNat)) else none
      | _, _ => none
    | _ => none
  | _, _, _, _ => none
def ptr? : Value → Option Addr
  | .pointer (some p) => some p
  | _ => none
def idx? (P : Program) (T : Nat) : Value → Value → Option Value
  | .slice (some a) n _, .int _ i => match sliSz P T with
    | some sz => if 0 ≤ i ∧ i.toNat < n then some (.pointer (some (a.add (i.toNat * sz)))) else none
    | none => none
  | _, _ => none
def len? (P : Program) (T : Nat) : Value → Option Value
  | .slice _ n _ => match P.underlying T with | some (.slice _) => some (.int .i64 n) | _ => none
  | .string s => match P.underlying T with | some .string => some (.int .i64 s.size) | _ => none
  | _ => none
def un? : UnOp → Value → Option Value
  | .not, .bool b => some (.bool !b)
  | .neg, .int k n => some (.int k (k.wrap (0 - n)))
  | _, _ => none
def callLen? (P : Program) (f : Nat → Value) : List Operand → List TypeId → Option Value
  | [x], [T] => len? P T (evF f x)
  | _, _ => none
def call? (P : Program) (f : Nat → Value) (c : Call) : Option Value :=
  match c.callee with
  | .builtin b => match b with
    | .len => callLen? P f c.args.toList c.argTypes.toList
    | _ => none
  | _ => none
/-- The value of an operation that leaves the world alone. -/
def places (P : Program) (T : Nat) : Option (List (Nat × Nat)) :=
  match P.underlying T with
  | some (.struct fs) => fs.toList.mapM fun f => (P.info? f.type).map fun i => (f.offset, i.size)
  | _ => none
def bld? (P : Program) (T : Nat) (parts : List (Nat × Value)) : Option Value :=
  match zeroOf P T with
  | some z => match places P T with
    | some pl => (Instr.fill (fun i => pl[i]?) z.cells parts).map .agg
    | none => none
  | none => none
def val? (P : Program) (f : Nat → Value) (w : World) : Op → Option Value
  | .move x => some (evF f x)
  | .assign x => some (evF f x)
  | .pick c a b => match evF f c with
    | .bool t => some (if t then evF f a else evF f b)
    | _ => none
  | .nilCheck x => (ptr? (evF f x)).map fun p => .pointer (some p)
  | .fieldAddr T x k => (ptr? (evF f x)).bind fun p => (fldOff P T k).map fun off => .pointer (some (p.add off))
  | .load T x => (ptr? (evF f x)).bind fun p => ld? P w T p
  | .indexAddr T x y => idx? P T (evF f x) (evF f y)
  | .slice T x lo hi mx => slice? P T (evF f x) (lo.map (evF f)) (hi.map (evF f)) (mx.map (evF f))
  | .binOp op T x y _ => bin? P op T y (evF f x) (evF f y)
  | .unOp op _ x => un? op (evF f x)
  | .convert S D x => match evF f x, intKind? P S, intKind? P D with
    | .int _ n, some _, some k => some (.int k (k.wrap n))
    | _, _, _ => none
  | .extract x k => match evF f x with
    | .tuple vs => vs[k]?
    | _ => none
  | .field T x k => match evF f x with
    | .agg cs => fld? P T k cs
    | _ => none
  | .makeFunc fn a c => some (.func fn (a.map (evF f)) (c.map (evF f)))
  | .call c => call? P f c
  | .build T parts => match parts.toList with
    | [] => none
    | p :: l => bld? P T ((p :: l).map fun p => (p.1, evF f p.2))
  | _ => none
section
variable {P : Program} {T : Nat} {w : World} (d : Nat)
theorem eqIn_bool {a b : Bool} (hu : P.underlying T = some .bool) : (Op.equalIn (d + 1) T (.bool a) (.bool b)).run P w = .ok (a == b) w := by
  simp [Op.equalIn, run_underlying hu]
theorem eqIn_slice {E : Nat} {a : Option Addr} {n c n' c' : Nat} (hu : P.underlying T = some (.slice E)) : (Op.equalIn (d + 1) T (.slice a n c) (.slice none n' c')).run P w = .ok a.isNone w := by
  cases a <;> simp [Op.equalIn, run_underlying hu]
theorem eqIn_pointer {E : Nat} {a : Option Addr} (hu : P.underlying T = some (.pointer E)) : (Op.equalIn (d + 1) T (.pointer a) (.pointer none)).run P w = .ok a.isNone w := by
  cases a <;> simp [Op.equalIn, run_underlying hu]
theorem eqIn_iface {ms : Array (String × TypeId)} {t : Nat} {v : Value} (hu : P.underlying T = some (.interface ms)) : (Op.equalIn (d + 1) T (.iface t v) .nilIface).run P w = .ok false w := by
  simp [Op.equalIn, run_underlying hu]
theorem eqIn_nilIface {ms : Array (String × TypeId)} (hu : P.underlying T = some (.interface ms)) : (Op.equalIn (d + 1) T .nilIface .nilIface).run P w = .ok true w := by
  simp [Op.equalIn, run_underlying hu]
theorem eqIn_map {K E : Nat} {a : Option Nat} (hu : P.underlying T = some (.map K E)) : (Op.equalIn (d + 1) T (.map a) (.map none)).run P w = .ok a.isNone w := by
  cases a <;> simp [Op.equalIn, run_underlying hu]
theorem run_equalIn_eq {a b : Value} {y : Operand} {r : Bool} (h : eq? P T y a b = some r) : (Op.equalIn (d + 1) T a b).run P w = .ok r w := by
  unfold eq? at h
  split at h
  · split at h
    · rename_i hu; cases h; exact eqIn_bool d hu
    · cases h
  · split at h
    · rename_i hu; cases h; exact eqIn_slice d hu
    · cases h
  · split at h
    · rename_i hu; cases h; exact eqIn_pointer d hu
    · cases h
  · split at h
    · rename_i hu; cases h; exact eqIn_iface d hu
    · cases h
  · split at h
    · rename_i hu
      split at h
      · cases h; exact eqIn_nilIface d hu
      · cases h
    · cases h
  · split at h
    · rename_i hu; cases h; exact eqIn_map d hu
    · cases h
  · cases h
end
theorem binOp_eql_eq {P : Program} {T : Nat} {y : Operand} {a b : Value} {r : Bool} (h : eq? P T y a b = some r) : binOp .eql T a b = (do pure (.bool (← Op.equal T a b))) := by
  cases a <;> cases b <;> first | rfl | (simp [eq?] at h; done)
theorem binOp_neq_eq {P : Program} {T : Nat} {y : Operand} {a b : Value} {r : Bool} (h : eq? P T y a b = some r) : binOp .neq T a b = (do pure (.bool (!(← Op.equal T a b)))) := by
  cases a <;> cases b <;> first | rfl | (simp [eq?] at h; done)
theorem Fld.of {P : Program} {T k off : Nat} (h : fldOff P T k = some off) : Fld P T k off := by
  unfold fldOff at h
  split at h
  · rename_i fs hu
    split at h
    · rename_i fd hk
      split at h
      · rename_i i hi
        split at h
        · cases h
        · rename_i hs; cases h; exact ⟨fs, fd, i, hu, hk, hi, hs, rfl⟩
      · cases h
    · cases h
  · cases h
theorem kindOf_scl {P : Program} {T : Nat} (h : kindOf P T = .scl) : Scl P T := by
  unfold kindOf at h
  split at h
  · rename_i d i hd hi
    split at h
    · rename_i hn
      split at h
      · rename_i hs; exact ⟨d, i, hd, hn, hi, hs⟩
      · cases h
    · cases h
  · cases h
theorem kindOf_agg {P : Program} {T n : Nat} (h : kindOf P T = .agg n) : Agg P T n := by
  unfold kindOf at h
  split at h
  · rename_i d i hd hi
    split at h
    · split at h <;> cases h
    · rename_i hn; cases h; exact ⟨d, i, hd, by simpa using hn, hi, rfl⟩
  · cases h
theorem sliSz_spec {P : Program} {T sz : Nat} (h : sliSz P T = some sz) : ∃ E, Sli P T E sz := by
  unfold sliSz at h
  split at h
  · rename_i E hu
    simp only [Option.map_eq_some_iff] at h
    obtain ⟨i, hi, hs⟩ := h
    exact ⟨E, i, hu, hi, hs⟩
  · cases h
theorem intKind_spec {P : Program} {T : Nat} {k : IntKind} (h : intKind? P T = some k) : IntT P T k := by
  unfold intKind? at h
  split at h
  · rename_i k' hu; cases h; exact hu
  · cases h
theorem ptr_spec {v : Value} {p : Addr} (h : ptr? v = some p) : v = .pointer (some p) := by
  unfold ptr? at h
  split at h
  · cases h; rfl
  · cases h
theorem run_part {P : Program} {T off : Nat} {cs : Array Value} {v : Value} {w : World} (h : part? P T cs off = some v) : (part T cs off).run P w = .ok v w := by
  unfold part? at h
  split at h
  · rename_i hk
    obtain ⟨d, i, h1, h2, h3, h4⟩ := kindOf_scl hk
    simp [part, run_isAgg h1, h2, h]
  · rename_i n hk
    obtain ⟨d, i, h1, h2, h3, h4⟩ := kindOf_agg hk
    cases h
    simp [part, run_isAgg h1, h2, sizeOf, typeInfo, h3, h4]
  · cases h
section
variable {P : Program} {f : Nat → Value} {ty : TypeId} {w : World}
theorem eqGuard_of {T : Nat} {x y : Operand} {a b : Value} {r : Bool} (op : BinOp) (h : eq? P T y a b = some r) : (eqGuard op T x y a b).run P w = .ok () w := by
  unfold eq? at h
  split at h <;> first
    | (cases op <;> simp [eqGuard] <;> done)
    | skip
  · split at h
    · split at h
      · rename_i hc
        cases y <;> simp [opdNil] at hc
        cases op <;> simp [eqGuard]
      · cases h
    · cases h
  · cases h
theorem run_bin {op : BinOp} {T yT : Nat} {x y : Operand} {v : Value} (h : bin? P op T y (evF f x) (evF f y) = some v) : runF P f (.binOp op T x y yT) ty w = .ok (.value v) w := by
  unfold runF execOp
  simp only
  generalize hx : evF f x = a at *
  generalize hy : evF f y = b at *
  unfold bin? at h
  split at h
  · rename_i k a k' b
    cases op <;> simp only at h <;> (try cases h) <;> (split at h) <;> (try (cases h; done)) <;> cases h <;> rename_i hk
    all_goals first
      | (subst hk; simp [eqGuard, binOp, Op.intArith, Op.intCmp]; done)
      | (subst hk; simp [eqGuard, binOp, Op.intBits, bits]; done)
      | (obtain ⟨rfl, hb⟩ := hk; simp [eqGuard, binOp, Op.intDiv, hb]; done)
      | (have hk' : ¬ b < 0 := by omega
         simp [eqGuard, binOp, Op.shift, hk']; done)
      | skip
  · cases op <;> simp only at h <;> cases h <;> simp [eqGuard, binOp, Op.stringOp]
  · cases op <;> simp only at h <;> (try (cases h; done))
    · simp only [Option.map_eq_some_iff] at h
      obtain ⟨r, hr, rfl⟩ := h
      have hg := eqGuard_of (w := w) (x := x) .eql hr
      have he : (binOp .eql T a b).run P w = .ok (.bool r) w := by
        rw [binOp_eql_eq hr]; simp [Op.equal, Op.maxDepth, run_equalIn_eq 9999 hr]
      simp [hg, he]
    · simp only [Option.map_eq_some_iff] at h
      obtain ⟨r, hr, rfl⟩ := h
      have hg := eqGuard_of (w := w) (x := x) .neq hr
      have he : (binOp .neq T a b).run P w = .ok (.bool !r) w := by
        rw [binOp_neq_eq hr]; simp [Op.equal, Op.maxDepth, run_equalIn_eq 9999 hr]
      simp [hg, he]
theorem run_slice? {T : Nat} {x : Operand} {lo hi mx : Option Operand} {v : Value} (h : slice? P T (evF f x) (lo.map (evF f)) (hi.map (evF f)) (mx.map (evF f)) = some v) :
    runF P f (.slice T x lo hi mx) ty w = .ok (.value v) w := by
  generalize hx : evF f x = vx at h
  unfold slice? at h
  split at h
  · rename_i a n c
    split at h
    · rename_i sz hsz
      obtain ⟨E, j, h1, h2, h3⟩ := sliSz_spec hsz
      split at h
      · rename_i k l hlo hhi hmx
        obtain ⟨lo, rfl, hlo⟩ := Option.map_eq_some_iff.1 hlo
        cases hi <;> simp at hhi
        cases mx <;> simp at hmx
        split at h
        · rename_i hc
          cases h
          obtain ⟨l, rfl⟩ := Int.eq_ofNat_of_zero_le hc.1
          exact run_slice_lo (l := l) ⟨j, h1, h2, h3⟩ hx (by simpa using hlo) (by simpa using hc.2)
        · cases h
      · rename_i k l hlo hhi hmx
        obtain ⟨hi, rfl, hhi⟩ := Option.map_eq_some_iff.1 hhi
        cases lo <;> simp at hlo
        cases mx <;> simp at hmx
        split at h
        · rename_i hc
          cases h
          obtain ⟨l, rfl⟩ := Int.eq_ofNat_of_zero_le hc.1
          exact run_slice_hi (h := l) ⟨j, h1, h2, h3⟩ hx (by simpa using hhi) (by simpa using hc.2)
        · cases h
      · rename_i k l k' m hlo hhi hmx
        obtain ⟨hi, rfl, hhi⟩ := Option.map_eq_some_iff.1 hhi
        obtain ⟨mx, rfl, hmx⟩ := Option.map_eq_some_iff.1 hmx
        cases lo <;> simp at hlo
        split at h
        · rename_i hc
          cases h
          obtain ⟨l, rfl⟩ := Int.eq_ofNat_of_zero_le hc.1
          obtain ⟨m, rfl⟩ := Int.eq_ofNat_of_zero_le (Int.le_trans hc.1 hc.2.1)
          have e1 : l ≤ m := by omega
          have e2 : m ≤ c := by simpa using hc.2.2
          simp [runF, execOp, hx, hhi, hmx, Instr.sliceAt, run_underlying h1, Instr.slice, Instr.sliceBounds, Instr.sliceBound, asIntOf, sizeOf, typeInfo, h2, e1, e2]
        · cases h
      · rename_i hlo hhi hmx
        cases h
        cases lo <;> simp at hlo
        cases hi <;> simp at hhi
        cases mx <;> simp at hmx
        simp [runF, execOp, hx, Instr.sliceAt, run_underlying h1, Instr.slice, Instr.sliceBounds, sizeOf, typeInfo, h2]
      · cases h
    · cases h
  · rename_i a hlo hhi hmx
    cases lo <;> simp at hlo
    cases hi <;> simp at hhi
    cases mx <;> simp at hmx
    split at h
    · rename_i n E hu
      obtain ⟨i, hi, rfl⟩ := Option.map_eq_some_iff.1 h
      simp [runF, execOp, hx, Instr.sliceAt, run_underlying hu, Instr.sliceBounds, Instr.sureAddr, sizeOf, typeInfo, hi]
    · cases h
  · rename_i s hmx
    cases mx <;> simp at hmx
    split at h
    · rename_i hu
      split at h
      · rename_i k l hlo hhi
        obtain ⟨lo, rfl, hlo⟩ := Option.map_eq_some_iff.1 hlo
        cases hi <;> simp at hhi
        split at h
        · rename_i hc
          cases h
          obtain ⟨l, rfl⟩ := Int.eq_ofNat_of_zero_le hc.1
          have e1 : l ≤ s.size := by simpa using hc.2
          simp [runF, execOp, hx, hlo, Instr.sliceAt, run_underlying hu, Instr.slice, Instr.sliceBounds, Instr.sliceBound, asIntOf, e1]
        · cases h
      · rename_i k l hlo hhi
        obtain ⟨hi, rfl, hhi⟩ := Option.map_eq_some_iff.1 hhi
        cases lo <;> simp at hlo
        split at h
        · rename_i hc
          cases h
          obtain ⟨l, rfl⟩ := Int.eq_ofNat_of_zero_le hc.1
          have e1 : l ≤ s.size := by simpa using hc.2
          simp [runF, execOp, hx, hhi, Instr.sliceAt, run_underlying hu, Instr.slice, Instr.sliceBounds, Instr.sliceBound, asIntOf, e1]
        · cases h
      · rename_i k l k' m hlo hhi
        obtain ⟨lo, rfl, hlo⟩ := Option.map_eq_some_iff.1 hlo
        obtain ⟨hi, rfl, hhi⟩ := Option.map_eq_some_iff.1 hhi
        split at h
        · rename_i hc
          cases h
          obtain ⟨l, rfl⟩ := Int.eq_ofNat_of_zero_le hc.1
          obtain ⟨m, rfl⟩ := Int.eq_ofNat_of_zero_le (Int.le_trans hc.1 hc.2.1)
          have e1 : l ≤ m := by omega
          have e2 : m ≤ s.size := by simpa using hc.2.2
          simp [runF, execOp, hx, hlo, hhi, Instr.sliceAt, run_underlying hu, Instr.slice, Instr.sliceBounds, Instr.sliceBound, asIntOf, e1, e2]
        · cases h
      · cases h
    · cases h
  · cases h
theorem run_idx? {T : Nat} {x y : Operand} {v : Value} (h : idx? P T (evF f x) (evF f y) = some v) : runF P f (.indexAddr T x y) ty w = .ok (.value v) w := by
  generalize hx : evF f x = vx at h
  generalize hy : evF f y = vy at h
  unfold idx? at h
  split at h
  · rename_i a n c k i
    split at h
    · rename_i sz hsz
      obtain ⟨E, j, h1, h2, h3⟩ := sliSz_spec hsz
      split at h
      · rename_i hc
        cases h
        obtain ⟨i, rfl⟩ := Int.eq_ofNat_of_zero_le hc.1
        have e2 : i < n := by simpa using hc.2
        simp [runF, execOp, hx, hy, Instr.indexAt, asIntOf, run_underlying h1, sizeOf, typeInfo, h2, h3, e2]
      · cases h
    · cases h
  · cases h
theorem run_ld? {T : Nat} {x : Operand} {p : Addr} {v : Value} (hx : evF f x = .pointer (some p)) (h : ld? P w T p = some v) : runF P f (.load T x) ty w = .ok (.value v) w := by
  unfold ld? at h
  split at h
  · rename_i hk; exact run_load (kindOf_scl hk) hx h
  · rename_i n hk
    obtain ⟨cs, hcs, rfl⟩ := Option.map_eq_some_iff.1 h
    obtain ⟨h1, h2⟩ := cellsFrom_spec w p n 0 cs hcs
    exact run_load_agg (kindOf_agg hk) hx h1 (fun j v hj => by simpa using h2 j v hj)
  · cases h
theorem run_mapM_places {fs : List Field} {w : World} : ∀ {pl : List (Nat × Nat)}, (fs.mapM fun f => (P.info? f.type).map fun i => (f.offset, i.size)) = some pl →
    (fs.mapM (m := Sem) fun f => do pure (f.offset, ← sizeOf f.type)).run P w = .ok pl w := by
  induction fs with
  | nil => intro pl h; simp at h; subst h; simp
  | cons a r ih =>
    intro pl h
    rw [List.mapM_cons] at h ⊢
    simp only [Option.bind_eq_bind, Option.bind_eq_some_iff, Option.map_eq_some_iff] at h
    obtain ⟨_, ⟨i, hi, rfl⟩, pl', hpl, h⟩ := h
    cases h
    have hs : (sizeOf a.type).run P w = .ok i.size w := by simp [sizeOf, typeInfo, hi]
    simp only [Sem.run_bind, hs, Result.andThen_ok, Sem.run_pure, ih hpl]
theorem run_bld {T : Nat} {parts : Array (Nat × Operand)} {v : Value} (h : bld? P T (parts.toList.map fun p => (p.1, evF f p.2)) = some v) : runF P f (.build T parts) ty w = .ok (.value v) w := by
  unfold bld? at h
  split at h
  · rename_i z hz
    split at h
    · rename_i pl hpl
      obtain ⟨cells, hc, rfl⟩ := Option.map_eq_some_iff.1 h
      unfold places at hpl
      split at hpl
      · rename_i fs hu
        unfold zeroOf at hz
        obtain ⟨i, hi, hz⟩ := Option.bind_eq_some_iff.1 hz
        have hm := run_mapM_places (P := P) (w := w) hpl
        have hm' : (fs.mapM (m := Sem) fun f => do pure (f.offset, ← sizeOf f.type)).run P w = .ok pl.toArray w := by
          rw [← Array.toArray_toList (xs := fs), List.mapM_toArray]
          simp only [Sem.run_map, hm, Result.andThen_ok]
        have hc' : Instr.fill (fun x => pl.toArray[x]?) z.cells (parts.map fun x => match x with | (i, x) => (i, evF f x)).toList = some cells := by
          rw [← hc]
          simp
        have h1 : (zeroValue T).run P w = .ok z w := by simp [zeroValue, typeInfo, hi, hz]
        have h2 := run_underlying hu w
        simp only [runF, execOp, Instr.build, Sem.run_bind, h1, h2, hm', Result.andThen_ok, Sem.run_pure, hc']
      · cases hpl
    · cases h
  · cases h
theorem val_sound {op : Op} {v : Value} (h : val? P f w op = some v) : runF P f op ty w = .ok (.value v) w := by
  cases op <;> simp only [val?] at h <;> (try (cases h; done))
  case move x => cases h; rfl
  case assign x => cases h; rfl
  case pick c a b =>
    split at h
    · rename_i t hc; cases h; exact run_pick hc
    · cases h
  case load T x =>
    obtain ⟨p, hp, h⟩ := Option.bind_eq_some_iff.1 h
    exact run_ld? (ptr_spec hp) h
  case nilCheck x =>
    obtain ⟨p, hp, rfl⟩ := Option.map_eq_some_iff.1 h
    exact run_nilCheck (ptr_spec hp)
  case binOp op T x y yT => exact run_bin h
  case unOp op T x =>
    generalize hx : evF f x = vx at h
    unfold un? at h
    split at h
    · cases h; exact run_not hx
    · cases h; simp [runF, execOp, hx, Op.unary, Op.intArith]
    · cases h
  case convert S D x =>
    split at h
    · rename_i k0 n k1 k hx hk1 hk; cases h
      simp [runF, execOp, hx, _root_.Go.convert, run_underlying (intKind_spec hk1), run_underlying (intKind_spec hk), Conv.intToInt]
    · cases h
  case makeFunc fn a c => cases h; simp [runF, execOp, Instr.makeFunc]
  case slice T x lo hi mx => exact run_slice? h
  case fieldAddr T x k =>
    obtain ⟨p, hp, h⟩ := Option.bind_eq_some_iff.1 h
    obtain ⟨off, ho, rfl⟩ := Option.map_eq_some_iff.1 h
    exact run_fieldAddr (Fld.of ho) (ptr_spec hp)
  case field T x k =>
    split at h
    · rename_i cs hx
      unfold fld? at h
      split at h
      · rename_i fs hu
        split at h
        · rename_i fd hk
          have := run_part (w := w) h
          simp [runF, execOp, hx, Instr.field, run_underlying hu, hk, asAgg, this]
        · cases h
      · cases h
    · cases h
  case build T parts =>
    split at h
    · cases h
    · rename_i p l hp
      refine run_bld ?_
      rw [hp]; exact h
  case indexAddr T x y => exact run_idx? h
  case extract x k =>
    split at h
    · rename_i vs hx; exact run_extract hx h
    · cases h
  case call c =>
    obtain ⟨callee, args, ts⟩ := c
    unfold call? at h
    split at h
    · rename_i b hb
      simp only at hb
      subst hb
      split at h
      · simp only at h
        unfold callLen? at h
        split at h
        · rename_i x T hxs hTs
          have e1 : args = #[x] := by rw [← Array.toArray_toList (xs := args), hxs]
          have e2 : ts = #[T] := by rw [← Array.toArray_toList (xs := ts), hTs]
          subst e1; subst e2
          generalize hx : evF f x = vx at h
          unfold len? at h
          split at h
          · split at h
            · rename_i E hu; cases h; simp [runF, execOp, resolve, invoke, builtin, hx, Builtin.len_, run_underlying hu, goInt]
            · cases h
          · split at h
            · rename_i hu; cases h; exact run_len_str hu hx
            · cases h
          · cases h
        · cases h
      · cases h
    · cases h
end
end Go.Kg

namespace Go.Kg
open Go
def over (c : Array Value) (o : Nat) (vs : List Value) : Array Value := (c.toList.take o ++ vs ++ c.toList.drop (o + vs.length)).toArray
theorem setRow_setBlk {w : World} {g : Nat} {c cs : Array Value} {e : TypeId} {fz : Nat × Nat} (h : w.heap[g]? = some (.cells c e fz)) : w.setRow g cs = w.setBlk g (.cells cs e fz) := by
  simp only [World.setRow, World.setBlk]
  congr 1
  apply Array.ext_getElem?
  intro k
  simp only [Array.getElem?_modify, Array.getElem?_setIfInBounds]
  by_cases ek : g = k
  · subst ek
    rw [if_pos rfl, if_pos rfl, h, if_pos (Array.getElem?_eq_some_iff.1 h).1]
    simp
  · rw [if_neg ek, if_neg ek]
def allOne : List Value → Bool
  | [] => true
  | v :: l => v.oneCell' && allOne l
theorem allOne_spec : ∀ {l : List Value}, allOne l = true → ∀ v ∈ l, v.oneCell' = true := by
  intro l
  induction l with
  | nil => simp
  | cons a l ih => intro h v hv; simp only [allOne, Bool.and_eq_true] at h; rcases List.mem_cons.1 hv with rfl | hv
                   · exact h.1
                   · exact ih h.2 v hv
def spotless (p : Addr) : Bool := p.spot.isNone
def putK (w : World) (p : Addr) (vs : List Value) (K : World → Prop) : Prop :=
  match w.heap[p.block]? with
  | some (.cells c e (0, 0)) => (spotless p = true ∧ p.off + vs.length ≤ c.size) ∧ K (w.setBlk p.block (.cells (over c p.off vs) e (0, 0)))
  | _ => False
def put1K (w : World) (p : Addr) (v : Value) (K : World → Prop) : Prop :=
  match w.heap[p.block]? with
  | some (.cells c e (0, 0)) => (spotless p = true ∧ p.off < c.size) ∧ K (w.setBlk p.block (.cells (c.setIfInBounds p.off v) e (0, 0)))
  | _ => False
def aggCells? : Value → Option (Array Value)
  | .agg cs => some cs
  | _ => none
def storeK (P : Program) (w : World) (T : Nat) (v : Value) (p : Addr) (K : World → Prop) : Prop :=
  match kindOf P T with
  | .scl => v.oneCell' = true ∧ put1K w p v K
  | .agg n => match aggCells? v with
    | some cs => (cs.size = n ∧ allOne cs.toList = true) ∧ putK w p cs.toList K
    | none => False
  | .bad => False
/-- an array without parts -/
def bldA? (P : Program) (T : Nat) : Option Value :=
  match P.underlying T, zeroOf P T with
  | some (.array _ E), some z => if (P.info? E).isSome then some (.agg z.cells) else none
  | some (.struct _), some z => if (places P T).isSome then some (.agg z.cells) else none
  | _, _ => none
def optK {α : Type} (x : Option α) (k : α → Prop) : Prop := match x with
  | some v => k v
  | none => False
/-- how many entries -/
def mapLen? (w : World) : Option Nat → Option Value
  | none => some (.int .i64 0)
  | some b => match w.heap[b]? with
    | some (.map es _) => some (.int .i64 es.size)
    | _ => none
def isMapT (P : Program) (T : Nat) : Bool := match P.underlying T with
  | some (.map _ _) => true
  | _ => false
def lenK (P : Program) (T : Nat) (w : World) (K : Value → World → Prop) : Value → Prop
  | .map m => isMapT P T = true ∧ optK (mapLen? w m) fun v => K v w
  | v => optK (len? P T v) fun v => K v w
def callLenK (P : Program) (f : Nat → Value) (w : World) (K : Value → World → Prop) : List Operand → List TypeId → Prop
  | [x], [T] => lenK P T w K (evF f x)
  | _, _ => False
def callK (P : Program) (f : Nat → Value) (c : Call) (ty : TypeId) (w : World) (K : Value → World → Prop) : Prop :=
  match c.callee with
  | .builtin b => match b with
    | .len => callLenK P f w K c.args.toList c.argTypes.toList
    | _ => stepF P f (.call c) ty w K
  | .value x => match x with
    | .func g => Ret P g (c.args.map (evF f)) w K
    | .tmp t => match f t with
      | .func (.func g) first cap => Ret P g (first ++ c.args.map (evF f) ++ cap) w K
      | _ => False
    | _ => False
  | .invoke _ _ => stepF P f (.call c) ty w K
/-- One operation, as clean as it goes. -/
def stp (P : Program) (f : Nat → Value) (op : Op) (ty : TypeId) (w : World) (K : Value → World → Prop) : Prop :=
  match op with
  | .move x => K (evF f x) w
  | .assign x => K (evF f x) w
  | .pick c a b => optK (val? P f w (.pick c a b)) fun v => K v w
  | .nilCheck x => optK (ptr? (evF f x)) fun p => K (.pointer (some p)) w
  | .fieldAddr T x k => optK (ptr? (evF f x)) fun p => optK (fldOff P T k) fun off => K (.pointer (some (p.add off))) w
  | .load T x => optK (ptr? (evF f x)) fun p => optK (ld? P w T p) fun v => K v w
  | .indexAddr T x y => optK (idx? P T (evF f x) (evF f y)) fun v => K v w
  | .slice T x lo hi mx => optK (slice? P T (evF f x) (lo.map (evF f)) (hi.map (evF f)) (mx.map (evF f))) fun v => K v w
  | .binOp o T x y _ => optK (bin? P o T y (evF f x) (evF f y)) fun v => K v w
  | .unOp o _ x => optK (un? o (evF f x)) fun v => K v w
  | .convert S D x => match evF f x with
    | .int _ n => optK (intKind? P S) fun _ => optK (intKind? P D) fun k => K (.int k (k.wrap n)) w
    | _ => stepF P f op ty w K
  | .extract x k => match evF f x with
    | .tuple vs => optK vs[k]? fun v => K v w
    | _ => False
  | .field T x k => match evF f x with
    | .agg cs => optK (fld? P T k cs) fun v => K v w
    | _ => False
  | .makeFunc fn a c => K (.func fn (a.map (evF f)) (c.map (evF f))) w
  | .store T x y => optK (ptr? (evF f x)) fun p => storeK P w T (evF f y) p fun w' => K undef w'
  | .alloc T => optK (zeroOf P T) fun z => K (.pointer (some ⟨w.heap.size, 0, none⟩)) (w.alloc (.cells z.cells T))
  | .box T x => K (.pointer (some ⟨w.heap.size, 0, none⟩)) (w.alloc (.cells (evF f x).cells T))
  | .build T parts => match parts.toList with
    | [] => optK (bldA? P T) fun v => K v w
    | l => optK (bld? P T (l.map fun p => (p.1, evF f p.2))) fun v => K v w
  | .call c => callK P f c ty w K
  | _ => stepF P f op ty w K
section
variable {P : Program} {f : Nat → Value} {ty : TypeId} {w : World} {K : Value → World → Prop}
theorem of_val {op : Op} (h : optK (val? P f w op) fun v => K v w) : stepF P f op ty w K := by
  unfold optK at h
  split at h
  · rename_i v hv; rw [stepF_ok (val_sound hv)]; exact h
  · exact h.elim
theorem storeK_sound {T : Nat} {x y : Operand} {p : Addr} {Q : World → Prop} (hx : evF f x = .pointer (some p)) (h : storeK P w T (evF f y) p Q) :
    ∃ w', runF P f (.store T x y) ty w = .ok .skip w' ∧ Q w' := by
  unfold storeK at h
  split at h
  · rename_i hk
    obtain ⟨h1, h⟩ := h
    unfold put1K at h
    split at h
    · rename_i c e hb
      obtain ⟨⟨hsp, ho⟩, h⟩ := h
      obtain ⟨b, off, sp⟩ := p
      cases sp <;> simp [spotless] at hsp
      exact ⟨_, run_store (kindOf_scl hk) hx rfl h1 hb ho, h⟩
    · exact h.elim
  · rename_i n hk
    split at h
    · rename_i cs hcs
      obtain ⟨⟨hn, h1⟩, h⟩ := h
      unfold putK at h
      split at h
      · rename_i c e hb
        obtain ⟨⟨hsp, ho⟩, h⟩ := h
        obtain ⟨b, off, sp⟩ := p
        cases sp <;> simp [spotless] at hsp
        refine ⟨_, ?_, h⟩
        obtain ⟨d, i, g1, g2, g3, g4⟩ := kindOf_agg hk
        have hv : evF f y = .agg cs := by
          unfold aggCells? at hcs
          split at hcs
          · rename_i cs' hv'; cases hcs; exact hv'
          · cases hcs
        have hst := run_storeCells_at P b off e cs.toList 0 c w hb (by simpa using ho) (allOne_spec h1)
        simp only [Nat.add_zero] at hst
        rw [setRow_setBlk hb] at hst
        simp only [runF, execOp, hx, hv, Instr.storeAt, Instr.sureAddr, storeVar, sizeOf, typeInfo]
        have hn' : cs.size = i.size := by omega
        simp [g3, Value.cells, hn', hst, over]
      · exact h.elim
    · exact h.elim
  · exact h.elim
theorem run_bldA {T : Nat} {v : Value} (h : bldA? P T = some v) : runF P f (.build T #[]) ty w = .ok (.value v) w := by
  unfold bldA? at h
  split at h
  · rename_i n E z hu hz
    split at h
    · rename_i hE
      cases h
      unfold zeroOf at hz
      obtain ⟨i, hi, hz⟩ := Option.bind_eq_some_iff.1 hz
      obtain ⟨j, hj⟩ := Option.isSome_iff_exists.1 hE
      simp [runF, execOp, Instr.build, zeroValue, hi, hz, run_underlying hu, sizeOf, typeInfo, hj, Instr.fill]
    · cases h
  · rename_i fs z hu hz
    split at h
    · rename_i hp
      cases h
      obtain ⟨pl, hpl⟩ := Option.isSome_iff_exists.1 hp
      refine run_bld ?_
      simp [bld?, hz, hpl, Instr.fill]
    · cases h
  · cases h
theorem lenK_sound {args : Array Operand} {ts : Array TypeId} (h : callLenK P f w K args.toList ts.toList) : stepF P f (.call { callee := .builtin .len, args := args, argTypes := ts }) ty w K := by
  unfold callLenK at h
  split at h
  · rename_i x T hx hT
    have ha : args = #[x] := by rw [← Array.toArray_toList (xs := args), hx]
    have ht : ts = #[T] := by rw [← Array.toArray_toList (xs := ts), hT]
    subst ha; subst ht
    unfold lenK at h
    split at h
    · rename_i m hm
      obtain ⟨h1, h2⟩ := h
      unfold isMapT at h1
      split at h1
      · rename_i k e hu
        unfold mapLen? at h2
        split at h2
        · rw [stepF_ok (v := .int .i64 0) (w' := w)]
          · exact h2
          · simp [runF, execOp, resolve, invoke, builtin, hm, Builtin.len_, run_underlying hu, goInt]
        · rename_i b
          split at h2
          · rename_i es cl hb
            rw [stepF_ok (v := .int .i64 es.size) (w' := w)]
            · exact h2
            · simp [runF, execOp, resolve, invoke, builtin, hm, Builtin.len_, run_underlying hu, goInt, getObj, Sem.run, hb, Result.andThen]
          · exact h2.elim
      · cases h1
    · refine of_val ?_
      simp only [val?, call?, callLen?]
      exact h
  · exact h.elim
theorem stp_sound {op : Op} (h : stp P f op ty w K) : stepF P f op ty w K := by
  cases op <;> (try exact h) <;> simp only [stp] at h
  case pick c a b => exact of_val h
  case nilCheck x =>
    refine of_val ?_
    simp only [val?]
    unfold optK at h ⊢
    cases hp : ptr? (evF f x) with
    | none => rw [hp] at h; exact h.elim
    | some p => rw [hp] at h; exact h
  case fieldAddr T x k =>
    refine of_val ?_
    simp only [val?]
    unfold optK at h ⊢
    cases hp : ptr? (evF f x) with
    | none => rw [hp] at h; exact h.elim
    | some p =>
      rw [hp] at h
      simp only at h
      cases ho : fldOff P T k with
      | none => rw [ho] at h; exact h.elim
      | some off => rw [ho] at h; exact h
  case load T x =>
    refine of_val ?_
    simp only [val?]
    unfold optK at h ⊢
    cases hp : ptr? (evF f x) with
    | none => rw [hp] at h; exact h.elim
    | some p => rw [hp] at h; exact h
  case indexAddr T x y => exact of_val (op := .indexAddr T x y) h
  case slice T x lo hi mx => exact of_val (op := .slice T x lo hi mx) h
  case binOp o T x y yT => exact of_val (op := .binOp o T x y yT) h
  case unOp o T x => exact of_val (op := .unOp o T x) h
  case convert S D x =>
    split at h
    · rename_i k0 n hx
      unfold optK at h
      split at h
      · rename_i k1 hk1
        split at h
        · rename_i k hk
          refine of_val ?_
          simp only [val?, hx, hk1, hk]
          exact h
        · exact h.elim
      · exact h.elim
    · exact h
  case extract x k =>
    split at h
    · rename_i vs hx; refine of_val ?_; simp only [val?, hx]; exact h
    · exact h.elim
  case field T x k =>
    split at h
    · rename_i cs hx; refine of_val ?_; simp only [val?, hx]; exact h
    · exact h.elim
  case store T x y =>
    unfold optK at h
    split at h
    · rename_i p hp
      obtain ⟨w', hr, hK⟩ := storeK_sound (ty := ty) (ptr_spec hp) h
      rw [stepF_skip hr]; exact hK
    · exact h.elim
  case alloc T =>
    unfold optK at h
    split at h
    · rename_i z hz
      unfold zeroOf at hz
      obtain ⟨i, hi, hz⟩ := Option.bind_eq_some_iff.1 hz
      have : runF P f (.alloc T) ty w = .ok (.value (.pointer (some ⟨w.heap.size, 0, none⟩))) (w.alloc (.cells z.cells T)) := by
        simp [runF, execOp, Instr.alloc, zeroValue, typeInfo, hi, hz, newVar, newRow]
      rw [stepF_ok this]; exact h
    · exact h.elim
  case build T parts =>
    split at h
    · rename_i hl
      have : parts = #[] := by rw [← Array.toArray_toList (xs := parts), hl]
      subst this
      unfold optK at h
      split at h
      · rename_i v hv; rw [stepF_ok (run_bldA hv)]; exact h
      · exact h.elim
    · unfold optK at h
      split at h
      · rename_i v hv; rw [stepF_ok (run_bld hv)]; exact h
      · exact h.elim
  case call c =>
    obtain ⟨callee, args, ts⟩ := c
    unfold callK at h
    simp only at h
    split at h
    · split at h
      · exact lenK_sound h
      · exact h
    · split at h
      · exact st_call h
      · rename_i t
        split at h
        · rename_i g first cap ht
          obtain ⟨fn, c, h1, h2, h3⟩ := h.1
          have h3' : ¬ fn.name = "runtime.NumGoroutine" := by simpa using h3
          unfold stepF
          have : runF P f (.call { callee := .value (.tmp t), args := args, argTypes := ts }) ty w = .ok (.enter g (first ++ args.map (evF f) ++ cap)) w := by
            simp [runF, execOp, resolve, evF, ht, Deferred.ofValue, invoke, callFunc, h1, h2, h3']
          rw [this]
          exact h.2
        · exact h.elim
      · exact h.elim
    · exact h
end
def regW (P : Program) (Q : (Nat → Value) → World → Prop) : List Ro → (Nat → Value) → World → Prop
  | [], f, w => Q f w
  | o :: r, f, w => if wantedF f o.g = true then stp P f o.op o.ty w fun v w' => regW P Q r (updO f o.d v) w' else regW P Q r (updO f o.d undef) w
def regHW (P : Program) (S : World → Prop) (Q : (Nat → Value) → World → Prop) : List (Bool × Ro) → (Nat → Value) → World → Prop
  | [], f, w => Q f w
  | (true, o) :: r, f, w => if wantedF f o.g = true then optK (val? P f w o.op) fun v => (∀ w', S w' → val? P f w' o.op = some v) ∧ regHW P S Q r (updO f o.d v) w else regHW P S Q r (updO f o.d undef) w
  | (false, o) :: r, f, w => if wantedF f o.g = true then stp P f o.op o.ty w fun v w' => S w' ∧ regHW P S Q r (updO f o.d v) w' else regHW P S Q r (updO f o.d undef) w
def HT.cw (P : Program) (S : World → Prop) (Q : (Nat → Value) → World → Prop) : HT → (Nat → Value) → World → Prop
  | .done, f, w => Q f w
  | .free o r, f, w => if wantedF f o.g = true then optK (val? P f w o.op) fun v => (∀ w', S w' → val? P f w' o.op = some v) ∧ r.cw P S Q (updO f o.d v) w else r.cw P S Q (updO f o.d undef) w
  | .act o r alt, f, w => (if wantedF f o.g = true then stp P f o.op o.ty w fun v w' => S w' ∧ r.cw P S Q (updO f o.d v) w' else r.cw P S Q (updO f o.d undef) w) ∧ alt.cw P S Q f w
  | .stop, _, _ => True
def Ir.cw (P : Program) : Ir → Post → (Nat → Value) → World → Prop
  | .reg l, Q, f, w => regW P (Q .normal) l f w
  | .regH l, Q, f, w => ∃ S : World → Prop, S w.drew ∧ regHW P S (Q .normal) l f w.drew
  | .regT t, Q, f, w => ∃ S : World → Prop, S w.drew ∧ t.cw P S (Q .normal) f w.drew
  | .seq a b, Q, f, w => a.cw P (thenF (b.cw P Q) Q) f w
  | .cond t a b, Q, f, w => (f t = .bool true ∧ a.cw P Q f w) ∨ (f t = .bool false ∧ b.cw P Q f w)
  | .block id b, Q, f, w => b.cw P (inBlockF id Q) f w
  | .loop b, Q, f, w => ∃ (I : (Nat → Value) → World → Prop) (μ : (Nat → Value) → World → Nat), I f w ∧
      ∀ f w, I f w → b.cw P (thenF (fun f' w' => I f' w' ∧ μ f' w' < μ f w) Q) f w
  | .exit id, Q, f, w => Q (.exit id) f w
  | .ret, Q, f, w => Q .ret f w
  | .skip, Q, f, w => Q .normal f w
  | .label _, Q, f, w => Q .normal f w
  | .goto l, Q, f, w => Q (.goto l) f w
  | .scope b l rest, Q, f, w => ∃ (J : (Nat → Value) → World → Prop) (μ : (Nat → Value) → World → Nat), b.cw P (jumpF l J Q) f w ∧
      ∀ f w, J f w → rest.cw P (jumpF l (fun f' w' => J f' w' ∧ μ f' w' < μ f w) Q) f w
theorem regW_cons {P : Program} {Q : (Nat → Value) → World → Prop} {o : Ro} {r : List Ro} {f : Nat → Value} {w : World} : regW P Q (o :: r) f w =
    if wantedF f o.g = true then stp P f o.op o.ty w fun v w' => regW P Q r (updO f o.d v) w' else regW P Q r (updO f o.d undef) w := rfl
theorem regHW_true {P : Program} {S : World → Prop} {Q : (Nat → Value) → World → Prop} {o : Ro} {r : List (Bool × Ro)} {f : Nat → Value} {w : World} : regHW P S Q ((true, o) :: r) f w =
    if wantedF f o.g = true then optK (val? P f w o.op) fun v => (∀ w', S w' → val? P f w' o.op = some v) ∧ regHW P S Q r (updO f o.d v) w else regHW P S Q r (updO f o.d undef) w := rfl
theorem regHW_false {P : Program} {S : World → Prop} {Q : (Nat → Value) → World → Prop} {o : Ro} {r : List (Bool × Ro)} {f : Nat → Value} {w : World} : regHW P S Q ((false, o) :: r) f w =
    if wantedF f o.g = true then stp P f o.op o.ty w fun v w' => S w' ∧ regHW P S Q r (updO f o.d v) w' else regHW P S Q r (updO f o.d undef) w := rfl
theorem regW_sound {P : Program} : ∀ (l : List Ro) {Q : (Nat → Value) → World → Prop} {f : Nat → Value} {w : World}, regW P Q l f w → regWp P Q l f w := by
  intro l
  induction l with
  | nil => intro Q f w h; exact h
  | cons o r ih =>
    intro Q f w h
    rw [regW_cons] at h
    rw [regWp_cons]
    split
    · rename_i hw; rw [if_pos hw] at h; exact stepF_mono (fun _ _ h => ih h) (stp_sound h)
    · rename_i hw; rw [if_neg hw] at h; exact ih h
theorem regHW_sound {P : Program} {S : World → Prop} : ∀ (l : List (Bool × Ro)) {Q : (Nat → Value) → World → Prop} {f : Nat → Value} {w : World}, regHW P S Q l f w → regHWp P S Q l f w := by
  intro l
  induction l with
  | nil => intro Q f w h; exact h
  | cons o r ih =>
    obtain ⟨b, o⟩ := o
    intro Q f w h
    cases b
    · rw [regHW_false] at h
      rw [regHWp_false]
      split
      · rename_i hw; rw [if_pos hw] at h; exact stepF_mono (fun _ _ h => ⟨h.1, ih h.2⟩) (stp_sound h)
      · rename_i hw; rw [if_neg hw] at h; exact ih h
    · rw [regHW_true] at h
      rw [regHWp_true]
      split
      · rename_i hw
        rw [if_pos hw] at h
        unfold optK at h
        split at h
        · rename_i v hv; exact ⟨v, fun w' hS => val_sound (h.1 w' hS), ih h.2⟩
        · exact h.elim
      · rename_i hw; rw [if_neg hw] at h; exact ih h
theorem HT.cw_sound {P : Program} {S : World → Prop} : ∀ (t : HT) {Q : (Nat → Value) → World → Prop} {f : Nat → Value} {w : World}, t.cw P S Q f w → t.wp P S Q f w := by
  intro t
  induction t with
  | done => intro Q f w h; exact h
  | free o r ih =>
    intro Q f w h
    simp only [HT.cw] at h
    simp only [HT.wp]
    split
    · rename_i hw
      rw [if_pos hw] at h
      unfold optK at h
      split at h
      · rename_i v hv; exact ⟨v, fun w' hS => val_sound (h.1 w' hS), ih h.2⟩
      · exact h.elim
    · rename_i hw; rw [if_neg hw] at h; exact ih h
  | act o r alt ih ih2 =>
    intro Q f w h
    simp only [HT.cw] at h
    simp only [HT.wp]
    refine ⟨?_, ih2 h.2⟩
    have h := h.1
    split
    · rename_i hw; rw [if_pos hw] at h; exact stepF_mono (fun _ _ h => ⟨h.1, ih h.2⟩) (stp_sound h)
    · rename_i hw; rw [if_neg hw] at h; exact ih h
  | stop => intro Q f w h; trivial
theorem Ir.cw_sound {P : Program} : ∀ (c : Ir) {Q : Post} {f : Nat → Value} {w : World}, c.cw P Q f w → c.wp P Q f w := by
  intro c
  induction c with
  | reg l => intro Q f w h; exact regW_sound l h
  | regH l => intro Q f w ⟨S, h1, h2⟩; exact ⟨S, h1, regHW_sound l h2⟩
  | regT t => intro Q f w ⟨S, h1, h2⟩; exact ⟨S, h1, HT.cw_sound t h2⟩
  | seq a b iha ihb =>
    intro Q f w h
    refine Ir.wp_mono a ?_ (iha h)
    intro e f w hq
    cases e <;> first | exact ihb hq | exact hq
  | cond t a b iha ihb => intro Q f w h; exact h.imp (fun ⟨h1, h2⟩ => ⟨h1, iha h2⟩) (fun ⟨h1, h2⟩ => ⟨h1, ihb h2⟩)
  | block id b ih => intro Q f w h; exact ih h
  | loop b ih => intro Q f w ⟨I, μ, h0, hr⟩; exact ⟨I, μ, h0, fun f w hI => ih (hr f w hI)⟩
  | exit id => intro Q f w h; exact h
  | ret => intro Q f w h; exact h
  | skip => intro Q f w h; exact h
  | label l => intro Q f w h; exact h
  | goto l => intro Q f w h; exact h
  | scope b l rest ihb ihr => intro Q f w ⟨J, μ, h0, hr⟩; exact ⟨J, μ, ihb h0, fun f w hJ => ihr (hr f w hJ)⟩
def rv? (P : Program) (f : Nat → Value) (w : World) : Rv → Option Value
  | .t n => some (f n)
  | .c n T => (ptr? (f n)).bind fun p => ld? P w T p
def rvs? (P : Program) (f : Nat → Value) (w : World) : List Rv → Option (List Value)
  | [] => some []
  | r :: l => (rv? P f w r).bind fun v => (rvs? P f w l).map fun vs => v :: vs
def tupOf : List Value → Value
  | [v] => v
  | vs => .tuple vs.toArray
def retPost (P : Program) (rs : List Rv) (R : Value → World → Prop) : Post
  | .normal, f, w => optK (rvs? P f w rs) fun vs => R (tupOf vs) w
  | .ret, f, w => optK (rvs? P f w rs) fun vs => R (tupOf vs) w
  | _, _, _ => False
theorem run_ldVar {P : Program} {w : World} {T : Nat} {p : Addr} {v : Value} (h : ld? P w T p = some v) : (loadVar T p).run P w = .ok v w := by
  have := run_ld? (P := P) (f := fun _ => .pointer (some p)) (ty := 0) (x := .tmp 0) rfl h
  simp only [runF, execOp, evF, Instr.loadAt, Instr.sureAddr] at this
  simp only [Sem.run_bind, Sem.run_pure, Result.andThen_ok] at this
  revert this
  cases (loadVar T p).run P w <;> simp [Result.andThen]
theorem run_mapM_rv {P : Program} {a : Act} {w : World} (g : ResultVar → Sem Value) (hg : ∀ r v, rv? P (fr a) w r = some v → (g r.var).run P w = .ok v w) :
    ∀ (l : List Rv) (vs : List Value), rvs? P (fr a) w l = some vs → ((l.map Rv.var).mapM g).run P w = .ok vs w := by
  intro l
  induction l with
  | nil => intro vs h; cases h; simp
  | cons x r ih =>
    intro vs h
    simp only [rvs?, Option.bind_eq_some_iff, Option.map_eq_some_iff] at h
    obtain ⟨v, hv, vs', hvs, rfl⟩ := h
    rw [List.map_cons, List.mapM_cons]
    simp only [Sem.run_bind, hg _ _ hv, Result.andThen_ok, ih _ hvs, Sem.run_pure]
theorem run_results {P : Program} {fn : Func} {rs : List Rv} (h : fn.results = (rs.map Rv.var).toArray) (a : Act) (w : World) {vs : List Value} (hv : rvs? P (fr a) w rs = some vs) :
    (results fn a.tmps).run P w = .ok (tupOf vs) w := by
  unfold results
  rw [h, Sem.run_bind, List.mapM_toArray, Sem.run_map, run_mapM_rv (a := a) _ ?_ rs vs hv]
  · simp only [Result.andThen_ok, Sem.run_pure]
    match vs with
    | [] => simp [tupOf]
    | [t] => simp [tupOf]
    | t :: u :: r => simp [tupOf]
  · intro r v hr
    cases r with
    | t n => simp only [rv?] at hr; cases hr; rfl
    | c n T =>
      simp only [rv?, Option.bind_eq_some_iff] at hr
      obtain ⟨p, hp, hl⟩ := hr
      have hp' := ptr_spec hp
      have he : a.tmps.getD n undef = .pointer (some p) := hp'
      simp only [Rv.var, he, asAddr, Sem.run_bind, Sem.run_pure, Result.andThen_ok]
      exact run_ldVar hl
theorem FnIs.ret {P : Program} {g N : Nat} {rs : List Rv} {ir : Ir} (h : FnIs P g N rs ir) {args : List Value} {w : World} {R : Value → World → Prop} (hn : args.length ≤ N)
    (hq : ir.wp P (retPost P rs R) (frame0 args) w) : Ret P g args.toArray w R := by
  refine ⟨h.callable, ?_⟩
  obtain ⟨fn, c, h1, h2, h3, h4, _, h6⟩ := h.fn
  refine calls_of_wp h1 h2 ?_
  have hf : fr { tmps := args.toArray ++ Array.replicate (fn.ntmps - args.toArray.size) undef, defers := [] } = frame0 args := by
    funext t
    simp only [fr, frame0]
    simp only [Array.getD_eq_getD_getElem?, List.getD_eq_getElem?_getD, Array.getElem?_append]
    by_cases ht : t < args.length
    · simp [ht]
    · simp only [List.size_toArray, ht, if_false]
      rw [List.getElem?_eq_none (by omega)]
      simp only [Array.getElem?_replicate]
      split <;> rfl
  have := wp_sound (Q := retPost P rs R) (N := N) h.mixed c ir (a := { tmps := args.toArray ++ Array.replicate (fn.ntmps - args.toArray.size) undef, defers := [] }) (w := w)
    (fun _ _ _ hp => hp) h6 (by simp; omega) rfl (by rw [hf]; exact hq)
  refine Go.wp_mono this ?_
  intro e a w' ⟨_, hd, hp⟩
  cases e <;> simp only [retPost] at hp <;> (try exact hp.elim)
  all_goals
    unfold optK at hp
    split at hp
    · rename_i vs hvs; exact ⟨hd, _, run_results h4 a w' hvs, _, rfl, hp⟩
    · exact hp.elim
theorem FnIs.call {P : Program} {g N : Nat} {rs : List Rv} {ir : Ir} (h : FnIs P g N rs ir) {args : List Value} {w : World} {R : Value → World → Prop} (hn : args.length ≤ N)
    (hq : ir.cw P (retPost P rs R) (frame0 args) w) : Ret P g args.toArray w R := h.ret hn (ir.cw_sound hq)
end Go.Kg

namespace Go.Kg
open Go
section
variable {P : Program} {Q : Post} {f : Nat → Value} {w : World}
@[simp] theorem cw_seq {a b : Ir} : (Ir.seq a b).cw P Q f w = a.cw P (thenF (b.cw P Q) Q) f w := (rfl)
@[simp] theorem cw_reg {l : List Ro} : (Ir.reg l).cw P Q f w = regW P (Q .normal) l f w := (rfl)
@[simp] theorem cw_block {id : Nat} {b : Ir} : (Ir.block id b).cw P Q f w = b.cw P (inBlockF id Q) f w := (rfl)
@[simp] theorem cw_exit {id : Nat} : (Ir.exit id).cw P Q f w = Q (.exit id) f w := (rfl)
@[simp] theorem cw_ret : Ir.ret.cw P Q f w = Q .ret f w := (rfl)
@[simp] theorem cw_skip : Ir.skip.cw P Q f w = Q .normal f w := (rfl)
@[simp] theorem cw_label {l : Nat} : (Ir.label l).cw P Q f w = Q .normal f w := (rfl)
@[simp] theorem cw_goto {l : Nat} : (Ir.goto l).cw P Q f w = Q (.goto l) f w := (rfl)
theorem cw_true {t : Nat} {a b : Ir} (h : f t = .bool true) (hq : a.cw P Q f w) : (Ir.cond t a b).cw P Q f w := .inl ⟨h, hq⟩
theorem cw_false {t : Nat} {a b : Ir} (h : f t = .bool false) (hq : b.cw P Q f w) : (Ir.cond t a b).cw P Q f w := .inr ⟨h, hq⟩
theorem cw_regH {l : List (Bool × Ro)} (S : World → Prop) (hS : S w.drew) (h : regHW P S (Q .normal) l f w.drew) : (Ir.regH l).cw P Q f w := ⟨S, hS, h⟩
theorem cw_loop {b : Ir} (I : (Nat → Value) → World → Prop) (μ : (Nat → Value) → World → Nat) (h0 : I f w) (hr : ∀ f w, I f w → b.cw P (thenF (fun f' w' => I f' w' ∧ μ f' w' < μ f w) Q) f w) :
    (Ir.loop b).cw P Q f w := ⟨I, μ, h0, hr⟩
theorem cw_scope {b : Ir} {l : Nat} {rest : Ir} (J : (Nat → Value) → World → Prop) (μ : (Nat → Value) → World → Nat) (h0 : b.cw P (jumpF l J Q) f w)
    (hr : ∀ f w, J f w → rest.cw P (jumpF l (fun f' w' => J f' w' ∧ μ f' w' < μ f w) Q) f w) : (Ir.scope b l rest).cw P Q f w := ⟨J, μ, h0, hr⟩
section
variable {n : (Nat → Value) → World → Prop}
@[simp] theorem thenF_normal : thenF n Q .normal f w = n f w := (rfl)
@[simp] theorem thenF_exit {id : Nat} : thenF n Q (.exit id) f w = Q (.exit id) f w := (rfl)
@[simp] theorem thenF_goto {id : Nat} : thenF n Q (.goto id) f w = Q (.goto id) f w := (rfl)
@[simp] theorem thenF_ret : thenF n Q .ret f w = Q .ret f w := (rfl)
@[simp] theorem inBlockF_normal {id : Nat} : inBlockF id Q .normal f w = Q .normal f w := (rfl)
@[simp] theorem inBlockF_exit {id id' : Nat} : inBlockF id Q (.exit id') f w = if id' = id then Q .normal f w else Q (.exit id') f w := (rfl)
@[simp] theorem inBlockF_goto {id l : Nat} : inBlockF id Q (.goto l) f w = Q (.goto l) f w := (rfl)
@[simp] theorem inBlockF_ret {id : Nat} : inBlockF id Q .ret f w = Q .ret f w := (rfl)
@[simp] theorem jumpF_normal {l : Nat} : jumpF l n Q .normal f w = Q .normal f w := (rfl)
@[simp] theorem jumpF_exit {l id : Nat} : jumpF l n Q (.exit id) f w = Q (.exit id) f w := (rfl)
@[simp] theorem jumpF_goto {l l' : Nat} : jumpF l n Q (.goto l') f w = (l' = l ∧ n f w) := (rfl)
@[simp] theorem jumpF_ret {l : Nat} : jumpF l n Q .ret f w = Q .ret f w := (rfl)
@[simp] theorem retPost_normal {rs : List Rv} {R : Value → World → Prop} : retPost P rs R .normal f w = optK (rvs? P f w rs) fun vs => R (tupOf vs) w := (rfl)
@[simp] theorem retPost_ret {rs : List Rv} {R : Value → World → Prop} : retPost P rs R .ret f w = optK (rvs? P f w rs) fun vs => R (tupOf vs) w := (rfl)
end
@[simp] theorem rvs_nil : rvs? P f w [] = some [] := (rfl)
@[simp] theorem rvs_t {t : Nat} {l : List Rv} : rvs? P f w (.t t :: l) = (rvs? P f w l).map fun vs => f t :: vs := (rfl)
@[simp] theorem rvs_c {t T : Nat} {l : List Rv} : rvs? P f w (.c t T :: l) = ((ptr? (f t)).bind fun p => ld? P w T p).bind fun v => (rvs? P f w l).map fun vs => v :: vs := (rfl)
@[simp] theorem tupOf_one {v : Value} : tupOf [v] = v := (rfl)
@[simp] theorem tupOf_two {u v : Value} : tupOf [u, v] = .tuple #[u, v] := (rfl)
@[simp] theorem tupOf_none : tupOf [] = .tuple #[] := (rfl)
section
variable {R : (Nat → Value) → World → Prop} {o : Ro} {r : List Ro} {S : World → Prop}
@[simp] theorem regW_nil : regW P R [] f w = R f w := (rfl)
@[simp] theorem regW_plain {d : Option Nat} {op : Op} {ty : TypeId} : regW P R (⟨none, d, op, ty⟩ :: r) f w = stp P f op ty w fun v w' => regW P R r (updO f d v) w' := by
  rw [regW_cons]; exact if_pos rfl
@[simp] theorem regW_guard {s : Nat} {b : Bool} {d : Option Nat} {op : Op} {ty : TypeId} : regW P R (⟨some (s, b), d, op, ty⟩ :: r) f w =
    if wantedF f (some (s, b)) = true then stp P f op ty w fun v w' => regW P R r (updO f d v) w' else regW P R r (updO f d undef) w := (rfl)
@[simp] theorem regHW_nil : regHW P S R [] f w = R f w := (rfl)
@[simp] theorem regHW_first {r : List (Bool × Ro)} {d : Option Nat} {op : Op} {ty : TypeId} : regHW P S R ((true, ⟨none, d, op, ty⟩) :: r) f w =
    optK (val? P f w op) fun v => (∀ w', S w' → val? P f w' op = some v) ∧ regHW P S R r (updO f d v) w := by
  rw [regHW_true]; exact if_pos rfl
@[simp] theorem regHW_only {r : List (Bool × Ro)} {d : Option Nat} {op : Op} {ty : TypeId} : regHW P S R ((false, ⟨none, d, op, ty⟩) :: r) f w =
    stp P f op ty w fun v w' => S w' ∧ regHW P S R r (updO f d v) w' := by
  rw [regHW_false]; exact if_pos rfl
@[simp] theorem regHW_first_g {r : List (Bool × Ro)} {s : Nat} {b : Bool} {d : Option Nat} {op : Op} {ty : TypeId} : regHW P S R ((true, ⟨some (s, b), d, op, ty⟩) :: r) f w =
    if wantedF f (some (s, b)) = true then optK (val? P f w op) fun v => (∀ w', S w' → val? P f w' op = some v) ∧ regHW P S R r (updO f d v) w else regHW P S R r (updO f d undef) w := (rfl)
@[simp] theorem regHW_only_g {r : List (Bool × Ro)} {s : Nat} {b : Bool} {d : Option Nat} {op : Op} {ty : TypeId} : regHW P S R ((false, ⟨some (s, b), d, op, ty⟩) :: r) f w =
    if wantedF f (some (s, b)) = true then stp P f op ty w fun v w' => S w' ∧ regHW P S R r (updO f d v) w' else regHW P S R r (updO f d undef) w := (rfl)
@[simp] theorem ht_done : HT.done.cw P S R f w = R f w := (rfl)
@[simp] theorem ht_stop : HT.stop.cw P S R f w = True := (rfl)
@[simp] theorem ht_free {r : HT} {d : Option Nat} {op : Op} {ty : TypeId} : (HT.free ⟨none, d, op, ty⟩ r).cw P S R f w = optK (val? P f w op) fun v => (∀ w', S w' → val? P f w' op = some v) ∧ r.cw P S R (updO f d v) w := by
  show (if wantedF f none = true then _ else _) = _
  exact if_pos rfl
@[simp] theorem ht_act {r alt : HT} {d : Option Nat} {op : Op} {ty : TypeId} : (HT.act ⟨none, d, op, ty⟩ r alt).cw P S R f w = ((stp P f op ty w fun v w' => S w' ∧ r.cw P S R (updO f d v) w') ∧ alt.cw P S R f w) := by
  simp only [HT.cw, wantedF, if_true]
end
end
section
variable {P : Program} {f : Nat → Value} {ty : TypeId} {w : World} {K : Value → World → Prop} {x y z : Operand} {T : TypeId}
def isB : Value → Bool → Bool
  | .bool x, b => x == b
  | _, _ => false
@[simp] theorem isB_bool {c b : Bool} : isB (.bool c) b = (c == b) := (rfl)
@[simp] theorem wantedF_none : wantedF f none = true := (rfl)
@[simp] theorem wantedF_some {s : Nat} {b : Bool} : wantedF f (some (s, b)) = isB (f s) b := by
  simp only [wantedF]; cases f s <;> rfl
@[simp] theorem upd_apply {d t : Nat} {v : Value} : upd f d v t = if t = d then v else f t := (rfl)
@[simp] theorem updO_some {d : Nat} {v : Value} : updO f (some d) v = upd f d v := (rfl)
@[simp] theorem updO_none {v : Value} : updO f none v = f := (rfl)
@[simp] theorem evF_tmp {t : Nat} : evF f (.tmp t) = f t := (rfl)
@[simp] theorem evF_const {v : Value} : evF f (.const v) = v := (rfl)
@[simp] theorem evF_global {g : Nat} : evF f (.global g) = .pointer (some ⟨g, 0, none⟩) := (rfl)
@[simp] theorem evF_func {g : Nat} : evF f (.func g) = .func (.func g) #[] #[] := (rfl)
@[simp] theorem optK_some {α : Type} {a : α} {k : α → Prop} : optK (some a) k = k a := (rfl)
@[simp] theorem ptr?_some {p : Addr} : ptr? (.pointer (some p)) = some p := (rfl)
@[simp] theorem frame0_zero {v : Value} {l : List Value} : frame0 (v :: l) 0 = v := (rfl)
@[simp] theorem frame0_succ {v : Value} {l : List Value} {n : Nat} : frame0 (v :: l) (n + 1) = frame0 l n := (rfl)
@[simp] theorem frame0_one {v u : Value} {l : List Value} : frame0 (v :: u :: l) 1 = u := (rfl)
@[simp] theorem frame0_two {v u x : Value} {l : List Value} : frame0 (v :: u :: x :: l) 2 = x := (rfl)
@[simp] theorem frame0_three {v u x y : Value} {l : List Value} : frame0 (v :: u :: x :: y :: l) 3 = y := (rfl)
@[simp] theorem frame0_four {v u x y z : Value} {l : List Value} : frame0 (v :: u :: x :: y :: z :: l) 4 = z := (rfl)
@[simp] theorem frame0_five {v u x y z a : Value} {l : List Value} : frame0 (v :: u :: x :: y :: z :: a :: l) 5 = a := (rfl)
@[simp] theorem stp_move : stp P f (.move x) ty w K = K (evF f x) w := (rfl)
@[simp] theorem stp_assign : stp P f (.assign x) ty w K = K (evF f x) w := (rfl)
@[simp] theorem stp_pick {c : Operand} : stp P f (.pick c x y) ty w K = optK (val? P f w (.pick c x y)) fun v => K v w := (rfl)
@[simp] theorem stp_nilCheck : stp P f (.nilCheck x) ty w K = optK (ptr? (evF f x)) fun p => K (.pointer (some p)) w := (rfl)
@[simp] theorem stp_fieldAddr {k : Nat} : stp P f (.fieldAddr T x k) ty w K = optK (ptr? (evF f x)) fun p => optK (fldOff P T k) fun off => K (.pointer (some (p.add off))) w := (rfl)
@[simp] theorem stp_load : stp P f (.load T x) ty w K = optK (ptr? (evF f x)) fun p => optK (ld? P w T p) fun v => K v w := (rfl)
@[simp] theorem stp_indexAddr : stp P f (.indexAddr T x y) ty w K = optK (idx? P T (evF f x) (evF f y)) fun v => K v w := (rfl)
@[simp] theorem stp_slice {lo hi mx : Option Operand} : stp P f (.slice T x lo hi mx) ty w K = optK (slice? P T (evF f x) (lo.map (evF f)) (hi.map (evF f)) (mx.map (evF f))) fun v => K v w := (rfl)
@[simp] theorem stp_binOp {o : BinOp} {yT : TypeId} : stp P f (.binOp o T x y yT) ty w K = optK (bin? P o T y (evF f x) (evF f y)) fun v => K v w := (rfl)
@[simp] theorem stp_unOp {o : UnOp} : stp P f (.unOp o T x) ty w K = optK (un? o (evF f x)) fun v => K v w := (rfl)
/-- a conversion between kinds of whole numbers -/
def convK (P : Program) (f : Nat → Value) (S D : TypeId) (x : Operand) (ty : TypeId) (w : World) (K : Value → World → Prop) : Value → Prop
  | .int _ n => optK (intKind? P S) fun _ => optK (intKind? P D) fun k => K (.int k (k.wrap n)) w
  | _ => stepF P f (.convert S D x) ty w K
@[simp] theorem stp_convert {S D : TypeId} : stp P f (.convert S D x) ty w K = convK P f S D x ty w K (evF f x) := by
  simp only [stp]; cases evF f x <;> rfl
@[simp] theorem convK_int {S D : TypeId} {k : IntKind} {n : Int} : convK P f S D x ty w K (.int k n) = optK (intKind? P S) fun _ => optK (intKind? P D) fun k => K (.int k (k.wrap n)) w := (rfl)
def tup? : Value → Option (Array Value)
  | .tuple vs => some vs
  | _ => none
@[simp] theorem tup?_tuple {vs : Array Value} : tup? (.tuple vs) = some vs := (rfl)
@[simp] theorem stp_extract {k : Nat} : stp P f (.extract x k) ty w K = optK (tup? (evF f x)) fun vs => optK vs[k]? fun v => K v w := by
  simp only [stp]; cases evF f x <;> rfl
@[simp] theorem aggCells?_agg {cs : Array Value} : aggCells? (.agg cs) = some cs := (rfl)
@[simp] theorem stp_field {k : Nat} : stp P f (.field T x k) ty w K = optK (aggCells? (evF f x)) fun cs => optK (fld? P T k cs) fun v => K v w := by
  simp only [stp]; cases evF f x <;> rfl
@[simp] theorem stp_makeFunc {fn : Fn} {a c : Array Operand} : stp P f (.makeFunc fn a c) ty w K = K (.func fn (a.map (evF f)) (c.map (evF f))) w := (rfl)
@[simp] theorem stp_store : stp P f (.store T x y) ty w K = optK (ptr? (evF f x)) fun p => storeK P w T (evF f y) p fun w' => K undef w' := (rfl)
@[simp] theorem stp_alloc : stp P f (.alloc T) ty w K = optK (zeroOf P T) fun z => K (.pointer (some ⟨w.heap.size, 0, none⟩)) (w.alloc (.cells z.cells T)) := (rfl)
@[simp] theorem stp_box : stp P f (.box T x) ty w K = K (.pointer (some ⟨w.heap.size, 0, none⟩)) (w.alloc (.cells (evF f x).cells T)) := (rfl)
@[simp] theorem stp_build_none : stp P f (.build T #[]) ty w K = optK (bldA? P T) fun v => K v w := (rfl)
@[simp] theorem stp_build_one {p : Nat × Operand} : stp P f (.build T #[p]) ty w K = optK (bld? P T [(p.1, evF f p.2)]) fun v => K v w := (rfl)
@[simp] theorem stp_build_two {p q : Nat × Operand} : stp P f (.build T #[p, q]) ty w K = optK (bld? P T [(p.1, evF f p.2), (q.1, evF f q.2)]) fun v => K v w := (rfl)
@[simp] theorem stp_call {g : Nat} {xs : Array Operand} {ts : Array TypeId} : stp P f (.call { callee := .value (.func g), args := xs, argTypes := ts }) ty w K = Ret P g (xs.map (evF f)) w K := (rfl)
@[simp] theorem stp_len {xs : Array Operand} {ts : Array TypeId} : stp P f (.call { callee := .builtin .len, args := xs, argTypes := ts }) ty w K = callLenK P f w K xs.toList ts.toList := (rfl)
@[simp] theorem callLenK_one : callLenK P f w K [x] [T] = lenK P T w K (evF f x) := (rfl)
@[simp] theorem lenK_slice {a : Option Addr} {n c : Nat} : lenK P T w K (.slice a n c) = optK (len? P T (.slice a n c)) fun v => K v w := (rfl)
@[simp] theorem lenK_str {s : ByteArray} : lenK P T w K (.string s) = optK (len? P T (.string s)) fun v => K v w := (rfl)
@[simp] theorem lenK_map {m : Option Nat} : lenK P T w K (.map m) = (isMapT P T = true ∧ optK (mapLen? w m) fun v => K v w) := (rfl)
@[simp] theorem stp_append {xs : Array Operand} {ts : Array TypeId} : stp P f (.call { callee := .builtin .append, args := xs, argTypes := ts }) ty w K = stepF P f (.call { callee := .builtin .append, args := xs, argTypes := ts }) ty w K := (rfl)
@[simp] theorem callLen?_one : callLen? P f [x] [T] = len? P T (evF f x) := (rfl)
@[simp] theorem val_move : val? P f w (.move x) = some (evF f x) := (rfl)
@[simp] theorem val_assign : val? P f w (.assign x) = some (evF f x) := (rfl)
def pickV (v : Value) (a b : Value) : Option Value := match v with
  | .bool t => some (if t then a else b)
  | _ => none
@[simp] theorem pickV_bool {t : Bool} {a b : Value} : pickV (.bool t) a b = some (if t then a else b) := (rfl)
@[simp] theorem val_pick {c : Operand} : val? P f w (.pick c x y) = pickV (evF f c) (evF f x) (evF f y) := by
  simp only [val?]; cases evF f c <;> rfl
@[simp] theorem val_nilCheck : val? P f w (.nilCheck x) = (ptr? (evF f x)).map fun p => .pointer (some p) := (rfl)
@[simp] theorem val_fieldAddr {k : Nat} : val? P f w (.fieldAddr T x k) = (ptr? (evF f x)).bind fun p => (fldOff P T k).map fun off => .pointer (some (p.add off)) := (rfl)
@[simp] theorem val_load : val? P f w (.load T x) = (ptr? (evF f x)).bind fun p => ld? P w T p := (rfl)
@[simp] theorem val_indexAddr : val? P f w (.indexAddr T x y) = idx? P T (evF f x) (evF f y) := (rfl)
@[simp] theorem val_slice {lo hi mx : Option Operand} : val? P f w (.slice T x lo hi mx) = slice? P T (evF f x) (lo.map (evF f)) (hi.map (evF f)) (mx.map (evF f)) := (rfl)
@[simp] theorem val_binOp {o : BinOp} {yT : TypeId} : val? P f w (.binOp o T x y yT) = bin? P o T y (evF f x) (evF f y) := (rfl)
@[simp] theorem val_unOp {o : UnOp} : val? P f w (.unOp o T x) = un? o (evF f x) := (rfl)
def convV (P : Program) (S D : TypeId) : Value → Option Value
  | .int _ n => (intKind? P S).bind fun _ => (intKind? P D).map fun k => .int k (k.wrap n)
  | _ => none
@[simp] theorem convV_int {S D : TypeId} {k : IntKind} {n : Int} : convV P S D (.int k n) = (intKind? P S).bind fun _ => (intKind? P D).map fun k => .int k (k.wrap n) := (rfl)
@[simp] theorem val_convert {S D : TypeId} : val? P f w (.convert S D x) = convV P S D (evF f x) := by
  simp only [val?]
  cases evF f x <;> first | rfl | skip
  rename_i k n
  simp only [convV_int]
  cases intKind? P S <;> cases intKind? P D <;> rfl
@[simp] theorem val_extract {k : Nat} : val? P f w (.extract x k) = (tup? (evF f x)).bind fun vs => vs[k]? := by
  simp only [val?]; cases evF f x <;> rfl
@[simp] theorem val_len {xs : Array Operand} {ts : Array TypeId} : val? P f w (.call { callee := .builtin .len, args := xs, argTypes := ts }) = callLen? P f xs.toList ts.toList := (rfl)
@[simp] theorem val_build : val? P f w (.build T #[]) = none := (rfl)
@[simp] theorem val_build_c {p : Nat × Operand} {r : List (Nat × Operand)} : val? P f w (.build T (p :: r).toArray) = bld? P T ((p :: r).map fun p => (p.1, evF f p.2)) := (rfl)
theorem ld_scl (h : kindOf P T = .scl) {p : Addr} : ld? P w T p = w.cell? p := by simp [ld?, h]
theorem ld_agg {n : Nat} (h : kindOf P T = .agg n) {p : Addr} : ld? P w T p = (cellsFrom w p 0 n).map fun cs => .agg cs.toArray := by simp [ld?, h]
theorem store_scl (h : kindOf P T = .scl) {v : Value} {p : Addr} {Q : World → Prop} : storeK P w T v p Q = (v.oneCell' = true ∧ put1K w p v Q) := by simp [storeK, h]
theorem store_agg {n : Nat} (h : kindOf P T = .agg n) {cs : Array Value} {p : Addr} {Q : World → Prop} : storeK P w T (.agg cs) p Q = ((cs.size = n ∧ allOne cs.toList = true) ∧ putK w p cs.toList Q) := by simp [storeK, h]
theorem put1K_blk {b off : Nat} {c : Array Value} {e : TypeId} {v : Value} {Q : World → Prop} (hb : w.heap[b]? = some (.cells c e (0, 0))) : put1K w ⟨b, off, none⟩ v Q = (off < c.size ∧ Q (w.setBlk b (.cells (c.setIfInBounds off v) e (0, 0)))) := by
  simp [put1K, hb, spotless]
theorem putK_blk {b off : Nat} {c : Array Value} {e : TypeId} {vs : List Value} {Q : World → Prop} (hb : w.heap[b]? = some (.cells c e (0, 0))) : putK w ⟨b, off, none⟩ vs Q = (off + vs.length ≤ c.size ∧ Q (w.setBlk b (.cells (over c off vs) e (0, 0)))) := by
  simp [putK, hb, spotless]
@[simp] theorem un?_not {b : Bool} : un? .not (.bool b) = some (.bool !b) := (rfl)
section
variable {k : IntKind} {a b : Int}
@[simp] theorem bin_lss : bin? P .lss T y (.int k a) (.int k b) = some (.bool (a < b)) := by simp [bin?]
@[simp] theorem bin_leq : bin? P .leq T y (.int k a) (.int k b) = some (.bool (a ≤ b)) := by simp [bin?]
@[simp] theorem bin_gtr : bin? P .gtr T y (.int k a) (.int k b) = some (.bool (a > b)) := by simp [bin?]
@[simp] theorem bin_geq : bin? P .geq T y (.int k a) (.int k b) = some (.bool (a ≥ b)) := by simp [bin?]
@[simp] theorem bin_eql : bin? P .eql T y (.int k a) (.int k b) = some (.bool (a == b)) := by simp [bin?]
@[simp] theorem bin_neq : bin? P .neq T y (.int k a) (.int k b) = some (.bool (a != b)) := by simp [bin?]
@[simp] theorem bin_add : bin? P .add T y (.int k a) (.int k b) = some (.int k (k.wrap (a + b))) := by simp [bin?]
@[simp] theorem bin_sub : bin? P .sub T y (.int k a) (.int k b) = some (.int k (k.wrap (a - b))) := by simp [bin?]
@[simp] theorem bin_mul : bin? P .mul T y (.int k a) (.int k b) = some (.int k (k.wrap (a * b))) := by simp [bin?]
@[simp] theorem bin_and : bin? P .and T y (.int k a) (.int k b) = some (.int k (bits .and k a b)) := by simp [bin?]
@[simp] theorem bin_or : bin? P .or T y (.int k a) (.int k b) = some (.int k (bits .or k a b)) := by simp [bin?]
@[simp] theorem bin_xor : bin? P .xor T y (.int k a) (.int k b) = some (.int k (bits .xor k a b)) := by simp [bin?]
@[simp] theorem bin_shl {k' : IntKind} (h : 0 ≤ b) : bin? P .shl T y (.int k a) (.int k' b) = some (.int k (k.wrap (a * 2 ^ (min b.toNat k.bits)))) := by simp [bin?, h]
@[simp] theorem bin_shr {k' : IntKind} (h : 0 ≤ b) : bin? P .shr T y (.int k a) (.int k' b) = some (.int k (a.fdiv (2 ^ (min b.toNat k.bits)))) := by simp [bin?, h]
end
@[simp] theorem bin_seql {a b : ByteArray} : bin? P .eql T y (.string a) (.string b) = some (.bool (a.toList == b.toList)) := (rfl)
@[simp] theorem bin_sneq {a b : ByteArray} : bin? P .neq T y (.string a) (.string b) = some (.bool !(a.toList == b.toList)) := (rfl)
theorem bin_bool_neq (h : P.underlying T = some .bool) {a b : Bool} : bin? P .neq T y (.bool a) (.bool b) = some (.bool !(a == b)) := by simp [bin?, eq?, h]
theorem bin_nil_slice {E : Nat} (h : P.underlying T = some (.slice E)) {a : Option Addr} {n c m d : Nat} : bin? P .eql T y (.slice a n c) (.slice none m d) = some (.bool a.isNone) := by simp [bin?, eq?, h]
theorem bin_nil_ptr {E : Nat} (h : P.underlying T = some (.pointer E)) {a : Option Addr} : bin? P .eql T y (.pointer a) (.pointer none) = some (.bool a.isNone) := by simp [bin?, eq?, h]
theorem bin_nnil_ptr {E : Nat} (h : P.underlying T = some (.pointer E)) {a : Option Addr} : bin? P .neq T y (.pointer a) (.pointer none) = some (.bool !a.isNone) := by simp [bin?, eq?, h]
theorem bin_nil_map {k E : Nat} (h : P.underlying T = some (.map k E)) {a : Option Nat} : bin? P .eql T y (.map a) (.map none) = some (.bool a.isNone) := by simp [bin?, eq?, h]
theorem bin_nnil_iface {ms : Array (String × TypeId)} (h : P.underlying T = some (.interface ms)) {t : Nat} {v : Value} : bin? P .neq T y (.iface t v) .nilIface = some (.bool true) := by simp [bin?, eq?, h]
theorem bin_nnil_nil {ms : Array (String × TypeId)} (h : P.underlying T = some (.interface ms)) {u : Value} : bin? P .neq T (.const u) .nilIface .nilIface = some (.bool false) := by simp [bin?, eq?, h, opdNil]
theorem idx_of {sz : Nat} (h : sliSz P T = some sz) {p : Addr} {n c : Nat} {k : IntKind} {i : Nat} (hi : i < n) : idx? P T (.slice (some p) n c) (.int k i) = some (.pointer (some (p.add (i * sz)))) := by
  simp [idx?, h, hi]
theorem len_slice {E : Nat} (h : P.underlying T = some (.slice E)) {a : Option Addr} {n c : Nat} : len? P T (.slice a n c) = some (.int .i64 n) := by simp [len?, h]
theorem len_str (h : P.underlying T = some .string) {s : ByteArray} : len? P T (.string s) = some (.int .i64 s.size) := by simp [len?, h]
theorem slice_lo {sz : Nat} (h : sliSz P T = some sz) {a : Option Addr} {n c : Nat} {k : IntKind} {l : Nat} (hl : l ≤ n) : slice? P T (.slice a n c) (some (.int k l)) none none = some (.slice (if c = l then a else a.map (·.add (l * sz))) (n - l) (c - l)) := by
  simp [slice?, h, hl]
theorem slice_hi {sz : Nat} (h : sliSz P T = some sz) {a : Option Addr} {n c : Nat} {k : IntKind} {l : Nat} (hl : l ≤ c) : slice? P T (.slice a n c) none (some (.int k l)) none = some (.slice (if c = 0 then a else a.map (·.add 0)) l c) := by
  simp [slice?, h, hl]
theorem slice_hm {sz : Nat} (h : sliSz P T = some sz) {a : Option Addr} {n c : Nat} {k k' : IntKind} {l m : Nat} (hl : l ≤ m) (hm : m ≤ c) : slice? P T (.slice a n c) none (some (.int k l)) (some (.int k' m)) = some (.slice (if m = 0 then a else a.map (·.add 0)) l m) := by
  simp [slice?, h, hl, hm]
end
end Go.Kg

namespace Go.Kg
def tab8 : ByteArray := ⟨#[0, 1, 2, 2, 3, 3, 3, 3, 4, 4, 4, 4, 4, 4, 4, 4, 5, 5, 5, 5, 5, 5, 5, 5, 5, 5, 5, 5, 5, 5, 5, 5, 6, 6, 6, 6, 6, 6, 6, 6, 6, 6, 6, 6, 6, 6, 6, 6, 6, 6, 6, 6, 6, 6, 6, 6, 6, 6, 6, 6, 6, 6, 6, 6, 7, 7, 7, 7, 7, 7, 7, 7, 7, 7, 7, 7, 7, 7, 7, 7, 7, 7, 7, 7, 7, 7, 7, 7, 7, 7, 7, 7, 7, 7, 7, 7, 7, 7, 7, 7, 7, 7, 7, 7, 7, 7, 7, 7, 7, 7, 7, 7, 7, 7, 7, 7, 7, 7, 7, 7, 7, 7, 7, 7, 7, 7, 7, 7, 8, 8, 8, 8, 8, 8, 8, 8, 8, 8, 8, 8, 8, 8, 8, 8, 8, 8, 8, 8, 8, 8, 8, 8, 8, 8, 8, 8, 8, 8, 8, 8, 8, 8, 8, 8, 8, 8, 8, 8, 8, 8, 8, 8, 8, 8, 8, 8, 8, 8, 8, 8, 8, 8, 8, 8, 8, 8, 8, 8, 8, 8, 8, 8, 8, 8, 8, 8, 8, 8, 8, 8, 8, 8, 8, 8, 8, 8, 8, 8, 8, 8, 8, 8, 8, 8, 8, 8, 8, 8, 8, 8, 8, 8, 8, 8, 8, 8, 8, 8, 8, 8, 8, 8, 8, 8, 8, 8, 8, 8, 8, 8, 8, 8, 8, 8, 8, 8, 8, 8, 8, 8, 8, 8, 8, 8, 8, 8]⟩
def tabU : ByteArray := ⟨#[1, 1, 1, 1, 1, 1, 1, 1, 2, 2, 2, 2, 2, 2, 2, 3, 3, 3, 3, 3, 3, 3, 4, 4, 4, 4, 4, 4, 4, 5, 5, 5, 5, 5, 5, 5, 6, 6, 6, 6, 6, 6, 6, 7, 7, 7, 7, 7, 7, 7, 8, 8, 8, 8, 8, 8, 8, 9, 9, 9, 9, 9, 9, 9, 10, 0, 0, 0, 0, 0, 0, 0, 0, 0, 0, 0, 0, 0, 0, 0, 0, 0, 0, 0, 0, 0, 0, 0, 0, 0, 0, 0, 0, 0, 0, 0, 0, 0, 0, 0, 0, 0, 0, 0, 0, 0, 0, 0, 0, 0, 0, 0, 0, 0, 0, 0, 0, 0, 0, 0, 0, 0, 0, 0, 0, 0, 0, 0, 0, 0, 0, 0, 0, 0, 0, 0, 0, 0, 0, 0, 0, 0, 0, 0, 0, 0, 0, 0, 0, 0, 0, 0, 0, 0, 0, 0, 0, 0, 0, 0, 0, 0, 0, 0, 0, 0, 0, 0, 0, 0, 0, 0, 0, 0, 0, 0, 0, 0, 0, 0, 0, 0, 0, 0, 0, 0, 0, 0, 0, 0, 0, 0, 0, 0, 0, 0, 0, 0, 0, 0, 0, 0, 0, 0, 0, 0, 0, 0, 0, 0, 0, 0, 0, 0, 0, 0, 0, 0, 0, 0, 0, 0, 0, 0, 0, 0, 0, 0, 0, 0, 0, 0, 0, 0, 0, 0, 0, 0, 0, 0, 0, 0, 0, 0, 0, 0, 0, 0, 0, 0, 0, 0, 0, 0, 0, 0]⟩
/-- The numbers of types, functions and variables in a translation. -/
structure Env where
  tNil : Nat := 0
  t_int32_int : Nat := 0
  t_int64_int : Nat := 0
  t_uint32_int : Nat := 0
  t_uint64_int : Nat := 0
  tPRd : Nat := 0
  t_pkmsg_Tags : Nat := 0
  tPS : Nat := 0
  tUu : Nat := 0
  t_l_spec_Field : Nat := 0
  t_l_spec_Tag : Nat := 0
  t_l_spec_Tree : Nat := 0
  t_l_uint32 : Nat := 0
  tBs : Nat := 0
  t_binary_bigEndian : Nat := 0
  tB : Nat := 0
  tErr : Nat := 0
  t_funcint_int_bool : Nat := 0
  t_funcuint32_l_uint8 : Nat := 0
  tInt : Nat := 0
  tI16 : Nat := 0
  tI32 : Nat := 0
  tI64 : Nat := 0
  tI8 : Nat := 0
  tAny : Nat := 0
  tRd : Nat := 0
  t_kmsg_Tags : Nat := 0
  t_map_uint32_l_uint8 : Nat := 0
  t_spec_Field : Nat := 0
  t_spec_Message : Nat := 0
  t_spec_Tag : Nat := 0
  t_spec_Tree : Nat := 0
  tS : Nat := 0
  tUint : Nat := 0
  tU16 : Nat := 0
  tU32 : Nat := 0
  tU64 : Nat := 0
  tU8 : Nat := 0
  f_pkmsg_Tags_AppendEach : Nat := 0
  f_pkmsg_Tags_AppendEach_1 : Nat := 0
  f_pkmsg_Tags_Each : Nat := 0
  f_pkmsg_Tags_Each_1 : Nat := 0
  f_pkmsg_Tags_Len : Nat := 0
  f_pkmsg_Tags_Set : Nat := 0
  f_pkbin_Reader_ArrayLen : Nat := 0
  f_pkbin_Reader_Bool : Nat := 0
  f_pkbin_Reader_Bytes : Nat := 0
  f_pkbin_Reader_CompactArrayLen : Nat := 0
  f_pkbin_Reader_CompactBytes : Nat := 0
  f_pkbin_Reader_CompactNullableString : Nat := 0
  f_pkbin_Reader_CompactNullableBytes : Nat := 0
  f_pkbin_Reader_CompactString : Nat := 0
  f_pkbin_Reader_Complete : Nat := 0
  f_pkbin_Reader_Int16 : Nat := 0
  f_pkbin_Reader_Int32 : Nat := 0
  f_pkbin_Reader_Int64 : Nat := 0
  f_pkbin_Reader_Int8 : Nat := 0
  f_pkbin_Reader_NullableBytes : Nat := 0
  f_pkbin_Reader_NullableString : Nat := 0
  f_pkbin_Reader_Ok : Nat := 0
  f_pkbin_Reader_Span : Nat := 0
  f_pkbin_Reader_String : Nat := 0
  f_pkbin_Reader_Uint16 : Nat := 0
  f_pkbin_Reader_Uuid : Nat := 0
  f_pkbin_Reader_Uvarint : Nat := 0
  f_pkbin_Reader_Varint : Nat := 0
  f_pkbin_Reader_VarintArrayLen : Nat := 0
  f_pkbin_Reader_VarintBytes : Nat := 0
  f_pkbin_Reader_VarintString : Nat := 0
  f_pkbin_Reader_Varlong : Nat := 0
  f_pkbin_Reader_readUint64 : Nat := 0
  f_encoding_binary_bigEndian_Uint16 : Nat := 0
  f_encoding_binary_bigEndian_Uint32 : Nat := 0
  f_encoding_binary_bigEndian_Uint64 : Nat := 0
  f_spec_Field_has : Nat := 0
  f_spec_Field_null : Nat := 0
  f_math_bits_Len32 : Nat := 0
  f_math_bits_Len64 : Nat := 0
  f_laws_version : Nat := 0
  f_laws_zzFits2 : Nat := 0
  f_laws_zzFits3 : Nat := 0
  f_laws_zzFits4 : Nat := 0
  f_kmsg_internalReadTags : Nat := 0
  f_kbin_AppendArrayLen : Nat := 0
  f_kbin_AppendBool : Nat := 0
  f_kbin_AppendBytes : Nat := 0
  f_kbin_AppendCompactArrayLen : Nat := 0
  f_kbin_AppendCompactBytes : Nat := 0
  f_kbin_AppendCompactNullableArrayLen : Nat := 0
  f_kbin_AppendCompactNullableBytes : Nat := 0
  f_kbin_AppendCompactNullableString : Nat := 0
  f_kbin_AppendCompactString : Nat := 0
  f_kbin_AppendInt16 : Nat := 0
  f_kbin_AppendInt32 : Nat := 0
  f_kbin_AppendInt64 : Nat := 0
  f_kbin_AppendInt8 : Nat := 0
  f_kbin_AppendNullableArrayLen : Nat := 0
  f_kbin_AppendNullableBytes : Nat := 0
  f_kbin_AppendNullableString : Nat := 0
  f_kbin_AppendString : Nat := 0
  f_kbin_AppendUint16 : Nat := 0
  f_kbin_AppendUint32 : Nat := 0
  f_kbin_AppendUuid : Nat := 0
  f_kbin_AppendUvarint : Nat := 0
  f_kbin_AppendVarint : Nat := 0
  f_kbin_AppendVarintBytes : Nat := 0
  f_kbin_AppendVarintString : Nat := 0
  f_kbin_AppendVarlong : Nat := 0
  f_kbin_Uvarint : Nat := 0
  f_kbin_UvarintLen : Nat := 0
  f_kbin_Varint : Nat := 0
  f_kbin_Varlong : Nat := 0
  f_kbin_appendUint64 : Nat := 0
  f_kbin_appendUvarlong : Nat := 0
  f_kbin_uvarlong : Nat := 0
  f_kbin_uvarlongLen : Nat := 0
  f_spec_Default : Nat := 0
  f_spec_Fixed : Nat := 0
  f_spec_Kept : Nat := 0
  f_spec_Same : Nat := 0
  f_spec_Uvarint : Nat := 0
  f_spec_Write : Nat := 0
  f_spec_at : Nat := 0
  f_spec_counted : Nat := 0
  f_spec_field : Nat := 0
  f_spec_known : Nat := 0
  f_spec_part : Nat := 0
  f_spec_things : Nat := 0
  f_spec_unknown : Nat := 0
  f_spec_usual : Nat := 0
  f_spec_value : Nat := 0
  f_spec_whole : Nat := 0
  f_spec_width : Nat := 0
  f_sort_Slice : Nat := 0
  g_encoding_binary_BigEndian : Nat := 0
  g_kbin_ErrNotEnoughData : Nat := 0
end Go.Kg

set_option linter.unusedVariables false
namespace Go.Kg
open Go
def ir_pkbin_Reader_Int8 (E : Env) : Ir := (.seq (.reg [ ⟨none, some 2, .assign (.const (.int .i8 0)), E.tI8⟩]) (.seq (.seq (.reg [ ⟨none, some 4, .move (.tmp 0), E.tPRd⟩, ⟨none, some 5, .nilCheck (.tmp 4), E.tNil⟩, ⟨none, some 6, .fieldAddr E.tRd (.tmp 5) 0, E.tNil⟩, ⟨none, some 7, .load E.tBs (.tmp 6), E.tBs⟩, ⟨none, some 8, .call { callee := .builtin .len, args := #[.tmp 7], argTypes := #[E.tBs] }, E.tInt⟩, ⟨none, some 9, .binOp .lss E.tInt (.tmp 8) (.const (.int .i64 1)) E.tInt, E.tB⟩]) (.cond 9 (.seq (.reg [ ⟨none, some 10, .move (.tmp 0), E.tPRd⟩, ⟨none, some 11, .nilCheck (.tmp 10), E.tNil⟩, ⟨none, some 12, .fieldAddr E.tRd (.tmp 11) 1, E.tNil⟩, ⟨none, none, .store E.tB (.tmp 12) (.const (.bool true)), E.tNil⟩]) (.seq (.reg [ ⟨none, some 13, .move (.tmp 0), E.tPRd⟩, ⟨none, some 14, .nilCheck (.tmp 13), E.tNil⟩, ⟨none, some 15, .fieldAddr E.tRd (.tmp 14) 0, E.tNil⟩, ⟨none, none, .store E.tBs (.tmp 15) (.const (.slice none 0 0)), E.tNil⟩]) (.seq (.reg [ ⟨none, some 2, .assign (.const (.int .i8 0)), E.tI8⟩]) .ret))) .skip)) (.seq (.reg [ ⟨none, some 16, .move (.tmp 0), E.tPRd⟩, ⟨none, some 17, .nilCheck (.tmp 16), E.tNil⟩, ⟨none, some 18, .fieldAddr E.tRd (.tmp 17) 0, E.tNil⟩, ⟨none, some 19, .load E.tBs (.tmp 18), E.tBs⟩, ⟨none, some 20, .indexAddr E.tBs (.tmp 19) (.const (.int .i64 0)), E.tNil⟩, ⟨none, some 21, .load E.tU8 (.tmp 20), E.tU8⟩, ⟨none, some 3, .assign (.tmp 21), E.tU8⟩]) (.seq (.reg [ ⟨none, some 22, .move (.tmp 0), E.tPRd⟩, ⟨none, some 23, .move (.tmp 0), E.tPRd⟩, ⟨none, some 24, .nilCheck (.tmp 23), E.tNil⟩, ⟨none, some 25, .fieldAddr E.tRd (.tmp 24) 0, E.tNil⟩, ⟨none, some 26, .load E.tBs (.tmp 25), E.tBs⟩, ⟨none, some 27, .slice E.tBs (.tmp 26) (some (.const (.int .i64 1))) none none, E.tBs⟩, ⟨none, some 28, .nilCheck (.tmp 22), E.tNil⟩, ⟨none, some 29, .fieldAddr E.tRd (.tmp 28) 0, E.tNil⟩, ⟨none, none, .store E.tBs (.tmp 29) (.tmp 27), E.tNil⟩]) (.seq (.reg [ ⟨none, some 30, .move (.tmp 3), E.tU8⟩, ⟨none, some 31, .convert E.tU8 E.tI8 (.tmp 30), E.tI8⟩, ⟨none, some 2, .assign (.tmp 31), E.tI8⟩]) .ret)))))
def nt_pkbin_Reader_Int8 : Nat := 32
def rs_pkbin_Reader_Int8 (E : Env) : List Rv := [.t 2]
def ir_pkbin_Reader_Int16 (E : Env) : Ir := (.seq (.reg [ ⟨none, some 2, .assign (.const (.int .i16 0)), E.tI16⟩]) (.seq (.seq (.reg [ ⟨none, some 4, .move (.tmp 0), E.tPRd⟩, ⟨none, some 5, .nilCheck (.tmp 4), E.tNil⟩, ⟨none, some 6, .fieldAddr E.tRd (.tmp 5) 0, E.tNil⟩, ⟨none, some 7, .load E.tBs (.tmp 6), E.tBs⟩, ⟨none, some 8, .call { callee := .builtin .len, args := #[.tmp 7], argTypes := #[E.tBs] }, E.tInt⟩, ⟨none, some 9, .binOp .lss E.tInt (.tmp 8) (.const (.int .i64 2)) E.tInt, E.tB⟩]) (.cond 9 (.seq (.reg [ ⟨none, some 10, .move (.tmp 0), E.tPRd⟩, ⟨none, some 11, .nilCheck (.tmp 10), E.tNil⟩, ⟨none, some 12, .fieldAddr E.tRd (.tmp 11) 1, E.tNil⟩, ⟨none, none, .store E.tB (.tmp 12) (.const (.bool true)), E.tNil⟩]) (.seq (.reg [ ⟨none, some 13, .move (.tmp 0), E.tPRd⟩, ⟨none, some 14, .nilCheck (.tmp 13), E.tNil⟩, ⟨none, some 15, .fieldAddr E.tRd (.tmp 14) 0, E.tNil⟩, ⟨none, none, .store E.tBs (.tmp 15) (.const (.slice none 0 0)), E.tNil⟩]) (.seq (.reg [ ⟨none, some 2, .assign (.const (.int .i16 0)), E.tI16⟩]) .ret))) .skip)) (.seq (.regH [ (true, ⟨none, some 16, .load E.t_binary_bigEndian (.global E.g_encoding_binary_BigEndian), E.t_binary_bigEndian⟩), (true, ⟨none, some 17, .move (.tmp 0), E.tPRd⟩), (true, ⟨none, some 18, .nilCheck (.tmp 17), E.tNil⟩), (true, ⟨none, some 19, .fieldAddr E.tRd (.tmp 18) 0, E.tNil⟩), (true, ⟨none, some 20, .load E.tBs (.tmp 19), E.tBs⟩), (false, ⟨none, some 21, .call { callee := .value (.func E.f_encoding_binary_bigEndian_Uint16), args := #[.tmp 16, .tmp 20], argTypes := #[E.t_binary_bigEndian, E.tBs] }, E.tU16⟩), (true, ⟨none, some 22, .convert E.tU16 E.tI16 (.tmp 21), E.tI16⟩), (true, ⟨none, some 3, .assign (.tmp 22), E.tI16⟩)]) (.seq (.reg [ ⟨none, some 23, .move (.tmp 0), E.tPRd⟩, ⟨none, some 24, .move (.tmp 0), E.tPRd⟩, ⟨none, some 25, .nilCheck (.tmp 24), E.tNil⟩, ⟨none, some 26, .fieldAddr E.tRd (.tmp 25) 0, E.tNil⟩, ⟨none, some 27, .load E.tBs (.tmp 26), E.tBs⟩, ⟨none, some 28, .slice E.tBs (.tmp 27) (some (.const (.int .i64 2))) none none, E.tBs⟩, ⟨none, some 29, .nilCheck (.tmp 23), E.tNil⟩, ⟨none, some 30, .fieldAddr E.tRd (.tmp 29) 0, E.tNil⟩, ⟨none, none, .store E.tBs (.tmp 30) (.tmp 28), E.tNil⟩]) (.seq (.reg [ ⟨none, some 31, .move (.tmp 3), E.tI16⟩, ⟨none, some 2, .assign (.tmp 31), E.tI16⟩]) .ret)))))
def nt_pkbin_Reader_Int16 : Nat := 32
def rs_pkbin_Reader_Int16 (E : Env) : List Rv := [.t 2]
def ir_pkbin_Reader_Int32 (E : Env) : Ir := (.seq (.reg [ ⟨none, some 2, .assign (.const (.int .i32 0)), E.tI32⟩]) (.seq (.seq (.reg [ ⟨none, some 4, .move (.tmp 0), E.tPRd⟩, ⟨none, some 5, .nilCheck (.tmp 4), E.tNil⟩, ⟨none, some 6, .fieldAddr E.tRd (.tmp 5) 0, E.tNil⟩, ⟨none, some 7, .load E.tBs (.tmp 6), E.tBs⟩, ⟨none, some 8, .call { callee := .builtin .len, args := #[.tmp 7], argTypes := #[E.tBs] }, E.tInt⟩, ⟨none, some 9, .binOp .lss E.tInt (.tmp 8) (.const (.int .i64 4)) E.tInt, E.tB⟩]) (.cond 9 (.seq (.reg [ ⟨none, some 10, .move (.tmp 0), E.tPRd⟩, ⟨none, some 11, .nilCheck (.tmp 10), E.tNil⟩, ⟨none, some 12, .fieldAddr E.tRd (.tmp 11) 1, E.tNil⟩, ⟨none, none, .store E.tB (.tmp 12) (.const (.bool true)), E.tNil⟩]) (.seq (.reg [ ⟨none, some 13, .move (.tmp 0), E.tPRd⟩, ⟨none, some 14, .nilCheck (.tmp 13), E.tNil⟩, ⟨none, some 15, .fieldAddr E.tRd (.tmp 14) 0, E.tNil⟩, ⟨none, none, .store E.tBs (.tmp 15) (.const (.slice none 0 0)), E.tNil⟩]) (.seq (.reg [ ⟨none, some 2, .assign (.const (.int .i32 0)), E.tI32⟩]) .ret))) .skip)) (.seq (.regH [ (true, ⟨none, some 16, .load E.t_binary_bigEndian (.global E.g_encoding_binary_BigEndian), E.t_binary_bigEndian⟩), (true, ⟨none, some 17, .move (.tmp 0), E.tPRd⟩), (true, ⟨none, some 18, .nilCheck (.tmp 17), E.tNil⟩), (true, ⟨none, some 19, .fieldAddr E.tRd (.tmp 18) 0, E.tNil⟩), (true, ⟨none, some 20, .load E.tBs (.tmp 19), E.tBs⟩), (false, ⟨none, some 21, .call { callee := .value (.func E.f_encoding_binary_bigEndian_Uint32), args := #[.tmp 16, .tmp 20], argTypes := #[E.t_binary_bigEndian, E.tBs] }, E.tU32⟩), (true, ⟨none, some 22, .convert E.tU32 E.tI32 (.tmp 21), E.tI32⟩), (true, ⟨none, some 3, .assign (.tmp 22), E.tI32⟩)]) (.seq (.reg [ ⟨none, some 23, .move (.tmp 0), E.tPRd⟩, ⟨none, some 24, .move (.tmp 0), E.tPRd⟩, ⟨none, some 25, .nilCheck (.tmp 24), E.tNil⟩, ⟨none, some 26, .fieldAddr E.tRd (.tmp 25) 0, E.tNil⟩, ⟨none, some 27, .load E.tBs (.tmp 26), E.tBs⟩, ⟨none, some 28, .slice E.tBs (.tmp 27) (some (.const (.int .i64 4))) none none, E.tBs⟩, ⟨none, some 29, .nilCheck (.tmp 23), E.tNil⟩, ⟨none, some 30, .fieldAddr E.tRd (.tmp 29) 0, E.tNil⟩, ⟨none, none, .store E.tBs (.tmp 30) (.tmp 28), E.tNil⟩]) (.seq (.reg [ ⟨none, some 31, .move (.tmp 3), E.tI32⟩, ⟨none, some 2, .assign (.tmp 31), E.tI32⟩]) .ret)))))
def nt_pkbin_Reader_Int32 : Nat := 32
def rs_pkbin_Reader_Int32 (E : Env) : List Rv := [.t 2]
def ir_pkbin_Reader_Int64 (E : Env) : Ir := (.seq (.reg [ ⟨none, some 2, .assign (.const (.int .i64 0)), E.tI64⟩]) (.seq (.reg [ ⟨none, some 3, .move (.tmp 0), E.tPRd⟩, ⟨none, some 4, .call { callee := .value (.func E.f_pkbin_Reader_readUint64), args := #[.tmp 3], argTypes := #[E.tPRd] }, E.tU64⟩, ⟨none, some 5, .convert E.tU64 E.tI64 (.tmp 4), E.tI64⟩, ⟨none, some 2, .assign (.tmp 5), E.tI64⟩]) .ret))
def nt_pkbin_Reader_Int64 : Nat := 6
def rs_pkbin_Reader_Int64 (E : Env) : List Rv := [.t 2]
def ir_pkbin_Reader_readUint64 (E : Env) : Ir := (.seq (.reg [ ⟨none, some 2, .assign (.const (.int .u64 0)), E.tU64⟩]) (.seq (.seq (.reg [ ⟨none, some 4, .move (.tmp 0), E.tPRd⟩, ⟨none, some 5, .nilCheck (.tmp 4), E.tNil⟩, ⟨none, some 6, .fieldAddr E.tRd (.tmp 5) 0, E.tNil⟩, ⟨none, some 7, .load E.tBs (.tmp 6), E.tBs⟩, ⟨none, some 8, .call { callee := .builtin .len, args := #[.tmp 7], argTypes := #[E.tBs] }, E.tInt⟩, ⟨none, some 9, .binOp .lss E.tInt (.tmp 8) (.const (.int .i64 8)) E.tInt, E.tB⟩]) (.cond 9 (.seq (.reg [ ⟨none, some 10, .move (.tmp 0), E.tPRd⟩, ⟨none, some 11, .nilCheck (.tmp 10), E.tNil⟩, ⟨none, some 12, .fieldAddr E.tRd (.tmp 11) 1, E.tNil⟩, ⟨none, none, .store E.tB (.tmp 12) (.const (.bool true)), E.tNil⟩]) (.seq (.reg [ ⟨none, some 13, .move (.tmp 0), E.tPRd⟩, ⟨none, some 14, .nilCheck (.tmp 13), E.tNil⟩, ⟨none, some 15, .fieldAddr E.tRd (.tmp 14) 0, E.tNil⟩, ⟨none, none, .store E.tBs (.tmp 15) (.const (.slice none 0 0)), E.tNil⟩]) (.seq (.reg [ ⟨none, some 2, .assign (.const (.int .u64 0)), E.tU64⟩]) .ret))) .skip)) (.seq (.regH [ (true, ⟨none, some 16, .load E.t_binary_bigEndian (.global E.g_encoding_binary_BigEndian), E.t_binary_bigEndian⟩), (true, ⟨none, some 17, .move (.tmp 0), E.tPRd⟩), (true, ⟨none, some 18, .nilCheck (.tmp 17), E.tNil⟩), (true, ⟨none, some 19, .fieldAddr E.tRd (.tmp 18) 0, E.tNil⟩), (true, ⟨none, some 20, .load E.tBs (.tmp 19), E.tBs⟩), (false, ⟨none, some 21, .call { callee := .value (.func E.f_encoding_binary_bigEndian_Uint64), args := #[.tmp 16, .tmp 20], argTypes := #[E.t_binary_bigEndian, E.tBs] }, E.tU64⟩), (true, ⟨none, some 3, .assign (.tmp 21), E.tU64⟩)]) (.seq (.reg [ ⟨none, some 22, .move (.tmp 0), E.tPRd⟩, ⟨none, some 23, .move (.tmp 0), E.tPRd⟩, ⟨none, some 24, .nilCheck (.tmp 23), E.tNil⟩, ⟨none, some 25, .fieldAddr E.tRd (.tmp 24) 0, E.tNil⟩, ⟨none, some 26, .load E.tBs (.tmp 25), E.tBs⟩, ⟨none, some 27, .slice E.tBs (.tmp 26) (some (.const (.int .i64 8))) none none, E.tBs⟩, ⟨none, some 28, .nilCheck (.tmp 22), E.tNil⟩, ⟨none, some 29, .fieldAddr E.tRd (.tmp 28) 0, E.tNil⟩, ⟨none, none, .store E.tBs (.tmp 29) (.tmp 27), E.tNil⟩]) (.seq (.reg [ ⟨none, some 30, .move (.tmp 3), E.tU64⟩, ⟨none, some 2, .assign (.tmp 30), E.tU64⟩]) .ret)))))
def nt_pkbin_Reader_readUint64 : Nat := 31
def rs_pkbin_Reader_readUint64 (E : Env) : List Rv := [.t 2]
def ir_pkbin_Reader_Uuid (E : Env) : Ir := (.seq (.reg [ ⟨none, some 2, .alloc E.tUu, E.tNil⟩]) (.seq (.reg [ ⟨none, some 3, .alloc E.tUu, E.tNil⟩]) (.seq (.regH [ (true, ⟨none, some 4, .slice E.tUu (.tmp 3) none none none, E.tBs⟩), (true, ⟨none, some 5, .move (.tmp 0), E.tPRd⟩), (false, ⟨none, some 6, .call { callee := .value (.func E.f_pkbin_Reader_Span), args := #[.tmp 5, .const (.int .i64 16)], argTypes := #[E.tPRd, E.tInt] }, E.tBs⟩), (false, ⟨none, some 7, .call { callee := .builtin .copy, args := #[.tmp 4, .tmp 6], argTypes := #[E.tBs, E.tBs] }, E.tInt⟩)]) (.seq (.reg [ ⟨none, some 8, .load E.tUu (.tmp 3), E.tUu⟩, ⟨none, none, .store E.tUu (.tmp 2) (.tmp 8), E.tNil⟩]) .ret))))
def nt_pkbin_Reader_Uuid : Nat := 9
def rs_pkbin_Reader_Uuid (E : Env) : List Rv := [.c 2 E.tUu]
def ir_pkbin_Reader_Uvarint (E : Env) : Ir := (.seq (.reg [ ⟨none, some 2, .assign (.const (.int .u32 0)), E.tU32⟩]) (.seq (.reg [ ⟨none, some 6, .move (.tmp 0), E.tPRd⟩, ⟨none, some 7, .nilCheck (.tmp 6), E.tNil⟩, ⟨none, some 8, .fieldAddr E.tRd (.tmp 7) 0, E.tNil⟩, ⟨none, some 9, .load E.tBs (.tmp 8), E.tBs⟩, ⟨none, some 10, .call { callee := .value (.func E.f_kbin_Uvarint), args := #[.tmp 9], argTypes := #[E.tBs] }, E.t_uint32_int⟩, ⟨none, some 5, .move (.tmp 10), E.t_uint32_int⟩, ⟨none, some 11, .extract (.tmp 5) 0, E.tU32⟩, ⟨none, some 12, .extract (.tmp 5) 1, E.tInt⟩, ⟨none, some 3, .assign (.tmp 11), E.tU32⟩, ⟨none, some 4, .assign (.tmp 12), E.tInt⟩]) (.seq (.seq (.reg [ ⟨none, some 13, .move (.tmp 4), E.tInt⟩, ⟨none, some 14, .binOp .leq E.tInt (.tmp 13) (.const (.int .i64 0)) E.tInt, E.tB⟩]) (.cond 14 (.seq (.reg [ ⟨none, some 15, .move (.tmp 0), E.tPRd⟩, ⟨none, some 16, .nilCheck (.tmp 15), E.tNil⟩, ⟨none, some 17, .fieldAddr E.tRd (.tmp 16) 1, E.tNil⟩, ⟨none, none, .store E.tB (.tmp 17) (.const (.bool true)), E.tNil⟩]) (.seq (.reg [ ⟨none, some 18, .move (.tmp 0), E.tPRd⟩, ⟨none, some 19, .nilCheck (.tmp 18), E.tNil⟩, ⟨none, some 20, .fieldAddr E.tRd (.tmp 19) 0, E.tNil⟩, ⟨none, none, .store E.tBs (.tmp 20) (.const (.slice none 0 0)), E.tNil⟩]) (.seq (.reg [ ⟨none, some 2, .assign (.const (.int .u32 0)), E.tU32⟩]) .ret))) .skip)) (.seq (.reg [ ⟨none, some 21, .move (.tmp 0), E.tPRd⟩, ⟨none, some 22, .move (.tmp 0), E.tPRd⟩, ⟨none, some 23, .nilCheck (.tmp 22), E.tNil⟩, ⟨none, some 24, .fieldAddr E.tRd (.tmp 23) 0, E.tNil⟩, ⟨none, some 25, .load E.tBs (.tmp 24), E.tBs⟩, ⟨none, some 26, .move (.tmp 4), E.tInt⟩, ⟨none, some 27, .slice E.tBs (.tmp 25) (some (.tmp 26)) none none, E.tBs⟩, ⟨none, some 28, .nilCheck (.tmp 21), E.tNil⟩, ⟨none, some 29, .fieldAddr E.tRd (.tmp 28) 0, E.tNil⟩, ⟨none, none, .store E.tBs (.tmp 29) (.tmp 27), E.tNil⟩]) (.seq (.reg [ ⟨none, some 30, .move (.tmp 3), E.tU32⟩, ⟨none, some 2, .assign (.tmp 30), E.tU32⟩]) .ret)))))
def nt_pkbin_Reader_Uvarint : Nat := 31
def rs_pkbin_Reader_Uvarint (E : Env) : List Rv := [.t 2]
def ir_pkbin_Reader_Span (E : Env) : Ir := (.seq (.reg [ ⟨none, some 4, .assign (.const (.slice none 0 0)), E.tBs⟩]) (.seq (.seq (.reg [ ⟨none, some 6, .move (.tmp 0), E.tPRd⟩, ⟨none, some 7, .nilCheck (.tmp 6), E.tNil⟩, ⟨none, some 8, .fieldAddr E.tRd (.tmp 7) 0, E.tNil⟩, ⟨none, some 9, .load E.tBs (.tmp 8), E.tBs⟩, ⟨none, some 10, .call { callee := .builtin .len, args := #[.tmp 9], argTypes := #[E.tBs] }, E.tInt⟩, ⟨none, some 11, .move (.tmp 1), E.tInt⟩, ⟨none, some 12, .binOp .lss E.tInt (.tmp 10) (.tmp 11) E.tInt, E.tB⟩, ⟨none, some 13, .move (.tmp 12), E.tB⟩, ⟨(some (13, false)), some 14, .move (.tmp 1), E.tInt⟩, ⟨(some (13, false)), some 15, .binOp .lss E.tInt (.tmp 14) (.const (.int .i64 0)) E.tInt, E.tB⟩, ⟨none, some 16, .pick (.tmp 13) (.const (.bool true)) (.tmp 15), E.tB⟩]) (.cond 16 (.seq (.reg [ ⟨none, some 17, .move (.tmp 0), E.tPRd⟩, ⟨none, some 18, .nilCheck (.tmp 17), E.tNil⟩, ⟨none, some 19, .fieldAddr E.tRd (.tmp 18) 1, E.tNil⟩, ⟨none, none, .store E.tB (.tmp 19) (.const (.bool true)), E.tNil⟩]) (.seq (.reg [ ⟨none, some 20, .move (.tmp 0), E.tPRd⟩, ⟨none, some 21, .nilCheck (.tmp 20), E.tNil⟩, ⟨none, some 22, .fieldAddr E.tRd (.tmp 21) 0, E.tNil⟩, ⟨none, none, .store E.tBs (.tmp 22) (.const (.slice none 0 0)), E.tNil⟩]) (.seq (.reg [ ⟨none, some 4, .assign (.const (.slice none 0 0)), E.tBs⟩]) .ret))) .skip)) (.seq (.reg [ ⟨none, some 23, .move (.tmp 0), E.tPRd⟩, ⟨none, some 24, .nilCheck (.tmp 23), E.tNil⟩, ⟨none, some 25, .fieldAddr E.tRd (.tmp 24) 0, E.tNil⟩, ⟨none, some 26, .load E.tBs (.tmp 25), E.tBs⟩, ⟨none, some 27, .move (.tmp 1), E.tInt⟩, ⟨none, some 28, .move (.tmp 1), E.tInt⟩, ⟨none, some 29, .slice E.tBs (.tmp 26) none (some (.tmp 27)) (some (.tmp 28)), E.tBs⟩, ⟨none, some 5, .assign (.tmp 29), E.tBs⟩]) (.seq (.reg [ ⟨none, some 30, .move (.tmp 0), E.tPRd⟩, ⟨none, some 31, .move (.tmp 0), E.tPRd⟩, ⟨none, some 32, .nilCheck (.tmp 31), E.tNil⟩, ⟨none, some 33, .fieldAddr E.tRd (.tmp 32) 0, E.tNil⟩, ⟨none, some 34, .load E.tBs (.tmp 33), E.tBs⟩, ⟨none, some 35, .move (.tmp 1), E.tInt⟩, ⟨none, some 36, .slice E.tBs (.tmp 34) (some (.tmp 35)) none none, E.tBs⟩, ⟨none, some 37, .nilCheck (.tmp 30), E.tNil⟩, ⟨none, some 38, .fieldAddr E.tRd (.tmp 37) 0, E.tNil⟩, ⟨none, none, .store E.tBs (.tmp 38) (.tmp 36), E.tNil⟩]) (.seq (.reg [ ⟨none, some 39, .move (.tmp 5), E.tBs⟩, ⟨none, some 4, .assign (.tmp 39), E.tBs⟩]) .ret)))))
def nt_pkbin_Reader_Span : Nat := 40
def rs_pkbin_Reader_Span (E : Env) : List Rv := [.t 4]
def ir_pkbin_Reader_String (E : Env) : Ir := (.seq (.reg [ ⟨none, some 2, .assign (.const (.string ⟨#[]⟩)), E.tS⟩]) (.seq (.reg [ ⟨none, some 4, .move (.tmp 0), E.tPRd⟩, ⟨none, some 5, .call { callee := .value (.func E.f_pkbin_Reader_Int16), args := #[.tmp 4], argTypes := #[E.tPRd] }, E.tI16⟩, ⟨none, some 3, .assign (.tmp 5), E.tI16⟩]) (.seq (.reg [ ⟨none, some 6, .move (.tmp 0), E.tPRd⟩, ⟨none, some 7, .move (.tmp 3), E.tI16⟩, ⟨none, some 8, .convert E.tI16 E.tInt (.tmp 7), E.tInt⟩, ⟨none, some 9, .call { callee := .value (.func E.f_pkbin_Reader_Span), args := #[.tmp 6, .tmp 8], argTypes := #[E.tPRd, E.tInt] }, E.tBs⟩, ⟨none, some 10, .convert E.tBs E.tS (.tmp 9), E.tS⟩, ⟨none, some 2, .assign (.tmp 10), E.tS⟩]) .ret)))
def nt_pkbin_Reader_String : Nat := 11
def rs_pkbin_Reader_String (E : Env) : List Rv := [.t 2]
def ir_pkbin_Reader_CompactString (E : Env) : Ir := (.seq (.reg [ ⟨none, some 2, .assign (.const (.string ⟨#[]⟩)), E.tS⟩]) (.seq (.reg [ ⟨none, some 4, .move (.tmp 0), E.tPRd⟩, ⟨none, some 5, .call { callee := .value (.func E.f_pkbin_Reader_Uvarint), args := #[.tmp 4], argTypes := #[E.tPRd] }, E.tU32⟩, ⟨none, some 6, .convert E.tU32 E.tInt (.tmp 5), E.tInt⟩, ⟨none, some 7, .binOp .sub E.tInt (.tmp 6) (.const (.int .i64 1)) E.tInt, E.tInt⟩, ⟨none, some 3, .assign (.tmp 7), E.tInt⟩]) (.seq (.reg [ ⟨none, some 8, .move (.tmp 0), E.tPRd⟩, ⟨none, some 9, .move (.tmp 3), E.tInt⟩, ⟨none, some 10, .call { callee := .value (.func E.f_pkbin_Reader_Span), args := #[.tmp 8, .tmp 9], argTypes := #[E.tPRd, E.tInt] }, E.tBs⟩, ⟨none, some 11, .convert E.tBs E.tS (.tmp 10), E.tS⟩, ⟨none, some 2, .assign (.tmp 11), E.tS⟩]) .ret)))
def nt_pkbin_Reader_CompactString : Nat := 12
def rs_pkbin_Reader_CompactString (E : Env) : List Rv := [.t 2]
def ir_pkbin_Reader_NullableString (E : Env) : Ir := (.seq (.reg [ ⟨none, some 2, .assign (.const (.pointer none)), E.tPS⟩]) (.seq (.reg [ ⟨none, some 5, .move (.tmp 0), E.tPRd⟩, ⟨none, some 6, .call { callee := .value (.func E.f_pkbin_Reader_Int16), args := #[.tmp 5], argTypes := #[E.tPRd] }, E.tI16⟩, ⟨none, some 3, .assign (.tmp 6), E.tI16⟩]) (.seq (.seq (.reg [ ⟨none, some 7, .move (.tmp 3), E.tI16⟩, ⟨none, some 8, .binOp .lss E.tI16 (.tmp 7) (.const (.int .i16 0)) E.tI16, E.tB⟩]) (.cond 8 (.seq (.reg [ ⟨none, some 2, .assign (.const (.pointer none)), E.tPS⟩]) .ret) .skip)) (.seq (.reg [ ⟨none, some 9, .move (.tmp 0), E.tPRd⟩, ⟨none, some 10, .move (.tmp 3), E.tI16⟩, ⟨none, some 11, .convert E.tI16 E.tInt (.tmp 10), E.tInt⟩, ⟨none, some 12, .call { callee := .value (.func E.f_pkbin_Reader_Span), args := #[.tmp 9, .tmp 11], argTypes := #[E.tPRd, E.tInt] }, E.tBs⟩, ⟨none, some 13, .convert E.tBs E.tS (.tmp 12), E.tS⟩, ⟨none, some 4, .alloc E.tS, E.tNil⟩, ⟨none, none, .store E.tS (.tmp 4) (.tmp 13), E.tNil⟩]) (.seq (.reg [ ⟨none, some 2, .assign (.tmp 4), E.tPS⟩]) .ret)))))
def nt_pkbin_Reader_NullableString : Nat := 14
def rs_pkbin_Reader_NullableString (E : Env) : List Rv := [.t 2]
def ir_pkbin_Reader_CompactNullableString (E : Env) : Ir := (.seq (.reg [ ⟨none, some 2, .assign (.const (.pointer none)), E.tPS⟩]) (.seq (.reg [ ⟨none, some 5, .move (.tmp 0), E.tPRd⟩, ⟨none, some 6, .call { callee := .value (.func E.f_pkbin_Reader_Uvarint), args := #[.tmp 5], argTypes := #[E.tPRd] }, E.tU32⟩, ⟨none, some 7, .convert E.tU32 E.tInt (.tmp 6), E.tInt⟩, ⟨none, some 8, .binOp .sub E.tInt (.tmp 7) (.const (.int .i64 1)) E.tInt, E.tInt⟩, ⟨none, some 3, .assign (.tmp 8), E.tInt⟩]) (.seq (.seq (.reg [ ⟨none, some 9, .move (.tmp 3), E.tInt⟩, ⟨none, some 10, .binOp .lss E.tInt (.tmp 9) (.const (.int .i64 0)) E.tInt, E.tB⟩]) (.cond 10 (.seq (.reg [ ⟨none, some 2, .assign (.const (.pointer none)), E.tPS⟩]) .ret) .skip)) (.seq (.reg [ ⟨none, some 11, .move (.tmp 0), E.tPRd⟩, ⟨none, some 12, .move (.tmp 3), E.tInt⟩, ⟨none, some 13, .call { callee := .value (.func E.f_pkbin_Reader_Span), args := #[.tmp 11, .tmp 12], argTypes := #[E.tPRd, E.tInt] }, E.tBs⟩, ⟨none, some 14, .convert E.tBs E.tS (.tmp 13), E.tS⟩, ⟨none, some 4, .alloc E.tS, E.tNil⟩, ⟨none, none, .store E.tS (.tmp 4) (.tmp 14), E.tNil⟩]) (.seq (.reg [ ⟨none, some 2, .assign (.tmp 4), E.tPS⟩]) .ret)))))
def nt_pkbin_Reader_CompactNullableString : Nat := 15
def rs_pkbin_Reader_CompactNullableString (E : Env) : List Rv := [.t 2]
def ir_pkbin_Reader_ArrayLen (E : Env) : Ir := (.seq (.reg [ ⟨none, some 2, .assign (.const (.int .i32 0)), E.tI32⟩]) (.seq (.reg [ ⟨none, some 4, .move (.tmp 0), E.tPRd⟩, ⟨none, some 5, .call { callee := .value (.func E.f_pkbin_Reader_Int32), args := #[.tmp 4], argTypes := #[E.tPRd] }, E.tI32⟩, ⟨none, some 3, .assign (.tmp 5), E.tI32⟩]) (.seq (.seq (.reg [ ⟨none, some 6, .move (.tmp 0), E.tPRd⟩, ⟨none, some 7, .nilCheck (.tmp 6), E.tNil⟩, ⟨none, some 8, .fieldAddr E.tRd (.tmp 7) 0, E.tNil⟩, ⟨none, some 9, .load E.tBs (.tmp 8), E.tBs⟩, ⟨none, some 10, .call { callee := .builtin .len, args := #[.tmp 9], argTypes := #[E.tBs] }, E.tInt⟩, ⟨none, some 11, .move (.tmp 3), E.tI32⟩, ⟨none, some 12, .convert E.tI32 E.tInt (.tmp 11), E.tInt⟩, ⟨none, some 13, .binOp .lss E.tInt (.tmp 10) (.tmp 12) E.tInt, E.tB⟩]) (.cond 13 (.seq (.reg [ ⟨none, some 14, .move (.tmp 0), E.tPRd⟩, ⟨none, some 15, .nilCheck (.tmp 14), E.tNil⟩, ⟨none, some 16, .fieldAddr E.tRd (.tmp 15) 1, E.tNil⟩, ⟨none, none, .store E.tB (.tmp 16) (.const (.bool true)), E.tNil⟩]) (.seq (.reg [ ⟨none, some 17, .move (.tmp 0), E.tPRd⟩, ⟨none, some 18, .nilCheck (.tmp 17), E.tNil⟩, ⟨none, some 19, .fieldAddr E.tRd (.tmp 18) 0, E.tNil⟩, ⟨none, none, .store E.tBs (.tmp 19) (.const (.slice none 0 0)), E.tNil⟩]) (.seq (.reg [ ⟨none, some 2, .assign (.const (.int .i32 0)), E.tI32⟩]) .ret))) .skip)) (.seq (.reg [ ⟨none, some 20, .move (.tmp 3), E.tI32⟩, ⟨none, some 2, .assign (.tmp 20), E.tI32⟩]) .ret))))
def nt_pkbin_Reader_ArrayLen : Nat := 21
def rs_pkbin_Reader_ArrayLen (E : Env) : List Rv := [.t 2]
def ir_pkbin_Reader_CompactArrayLen (E : Env) : Ir := (.seq (.reg [ ⟨none, some 2, .assign (.const (.int .i32 0)), E.tI32⟩]) (.seq (.reg [ ⟨none, some 4, .move (.tmp 0), E.tPRd⟩, ⟨none, some 5, .call { callee := .value (.func E.f_pkbin_Reader_Uvarint), args := #[.tmp 4], argTypes := #[E.tPRd] }, E.tU32⟩, ⟨none, some 6, .convert E.tU32 E.tI32 (.tmp 5), E.tI32⟩, ⟨none, some 7, .binOp .sub E.tI32 (.tmp 6) (.const (.int .i32 1)) E.tI32, E.tI32⟩, ⟨none, some 3, .assign (.tmp 7), E.tI32⟩]) (.seq (.seq (.reg [ ⟨none, some 8, .move (.tmp 0), E.tPRd⟩, ⟨none, some 9, .nilCheck (.tmp 8), E.tNil⟩, ⟨none, some 10, .fieldAddr E.tRd (.tmp 9) 0, E.tNil⟩, ⟨none, some 11, .load E.tBs (.tmp 10), E.tBs⟩, ⟨none, some 12, .call { callee := .builtin .len, args := #[.tmp 11], argTypes := #[E.tBs] }, E.tInt⟩, ⟨none, some 13, .move (.tmp 3), E.tI32⟩, ⟨none, some 14, .convert E.tI32 E.tInt (.tmp 13), E.tInt⟩, ⟨none, some 15, .binOp .lss E.tInt (.tmp 12) (.tmp 14) E.tInt, E.tB⟩]) (.cond 15 (.seq (.reg [ ⟨none, some 16, .move (.tmp 0), E.tPRd⟩, ⟨none, some 17, .nilCheck (.tmp 16), E.tNil⟩, ⟨none, some 18, .fieldAddr E.tRd (.tmp 17) 1, E.tNil⟩, ⟨none, none, .store E.tB (.tmp 18) (.const (.bool true)), E.tNil⟩]) (.seq (.reg [ ⟨none, some 19, .move (.tmp 0), E.tPRd⟩, ⟨none, some 20, .nilCheck (.tmp 19), E.tNil⟩, ⟨none, some 21, .fieldAddr E.tRd (.tmp 20) 0, E.tNil⟩, ⟨none, none, .store E.tBs (.tmp 21) (.const (.slice none 0 0)), E.tNil⟩]) (.seq (.reg [ ⟨none, some 2, .assign (.const (.int .i32 0)), E.tI32⟩]) .ret))) .skip)) (.seq (.reg [ ⟨none, some 22, .move (.tmp 3), E.tI32⟩, ⟨none, some 2, .assign (.tmp 22), E.tI32⟩]) .ret))))
def nt_pkbin_Reader_CompactArrayLen : Nat := 23
def rs_pkbin_Reader_CompactArrayLen (E : Env) : List Rv := [.t 2]
def ir_pkbin_Reader_Complete (E : Env) : Ir := (.seq (.reg [ ⟨none, some 2, .assign (.const (.nilIface)), E.tErr⟩]) (.seq (.seq (.reg [ ⟨none, some 3, .move (.tmp 0), E.tPRd⟩, ⟨none, some 4, .nilCheck (.tmp 3), E.tNil⟩, ⟨none, some 5, .fieldAddr E.tRd (.tmp 4) 1, E.tNil⟩, ⟨none, some 6, .load E.tB (.tmp 5), E.tB⟩]) (.cond 6 (.seq (.reg [ ⟨none, some 7, .load E.tErr (.global E.g_kbin_ErrNotEnoughData), E.tErr⟩, ⟨none, some 2, .assign (.tmp 7), E.tErr⟩]) .ret) .skip)) (.seq (.reg [ ⟨none, some 2, .assign (.const (.nilIface)), E.tErr⟩]) .ret)))
def nt_pkbin_Reader_Complete : Nat := 8
def rs_pkbin_Reader_Complete (E : Env) : List Rv := [.t 2]
def ir_pkbin_Reader_Ok (E : Env) : Ir := (.seq (.reg [ ⟨none, some 2, .assign (.const (.bool false)), E.tB⟩]) (.seq (.reg [ ⟨none, some 3, .move (.tmp 0), E.tPRd⟩, ⟨none, some 4, .nilCheck (.tmp 3), E.tNil⟩, ⟨none, some 5, .fieldAddr E.tRd (.tmp 4) 1, E.tNil⟩, ⟨none, some 6, .load E.tB (.tmp 5), E.tB⟩, ⟨none, some 7, .unOp .not E.tB (.tmp 6), E.tB⟩, ⟨none, some 2, .assign (.tmp 7), E.tB⟩]) .ret))
def nt_pkbin_Reader_Ok : Nat := 8
def rs_pkbin_Reader_Ok (E : Env) : List Rv := [.t 2]
def ir_kbin_Uvarint (E : Env) : Ir := (.seq (.reg [ ⟨none, some 2, .assign (.const (.int .u32 0)), E.tU32⟩, ⟨none, some 3, .assign (.const (.int .i64 0)), E.tInt⟩]) (.scope (.seq (.reg [ ⟨none, some 4, .assign (.const (.int .u32 0)), E.tU32⟩]) (.seq (.reg [ ⟨none, some 5, .assign (.const (.int .i64 0)), E.tInt⟩]) (.seq (.seq (.reg [ ⟨none, some 6, .move (.tmp 0), E.tBs⟩, ⟨none, some 7, .call { callee := .builtin .len, args := #[.tmp 6], argTypes := #[E.tBs] }, E.tInt⟩, ⟨none, some 8, .binOp .lss E.tInt (.tmp 7) (.const (.int .i64 1)) E.tInt, E.tB⟩]) (.cond 8 (.goto 0) .skip)) (.seq (.reg [ ⟨none, some 9, .move (.tmp 0), E.tBs⟩, ⟨none, some 10, .indexAddr E.tBs (.tmp 9) (.const (.int .i64 0)), E.tNil⟩, ⟨none, some 11, .load E.tU8 (.tmp 10), E.tU8⟩, ⟨none, some 12, .binOp .and E.tU8 (.tmp 11) (.const (.int .u8 127)) E.tU8, E.tU8⟩, ⟨none, some 13, .convert E.tU8 E.tU32 (.tmp 12), E.tU32⟩, ⟨none, some 4, .assign (.tmp 13), E.tU32⟩]) (.seq (.seq (.reg [ ⟨none, some 14, .move (.tmp 0), E.tBs⟩, ⟨none, some 15, .indexAddr E.tBs (.tmp 14) (.const (.int .i64 0)), E.tNil⟩, ⟨none, some 16, .load E.tU8 (.tmp 15), E.tU8⟩, ⟨none, some 17, .binOp .and E.tU8 (.tmp 16) (.const (.int .u8 128)) E.tU8, E.tU8⟩, ⟨none, some 18, .binOp .eql E.tU8 (.tmp 17) (.const (.int .u8 0)) E.tU8, E.tB⟩]) (.cond 18 (.seq (.reg [ ⟨none, some 19, .move (.tmp 4), E.tU32⟩, ⟨none, some 2, .assign (.tmp 19), E.tU32⟩, ⟨none, some 3, .assign (.const (.int .i64 1)), E.tInt⟩]) .ret) (.seq (.reg [ ⟨none, some 20, .move (.tmp 0), E.tBs⟩, ⟨none, some 21, .call { callee := .builtin .len, args := #[.tmp 20], argTypes := #[E.tBs] }, E.tInt⟩, ⟨none, some 22, .binOp .lss E.tInt (.tmp 21) (.const (.int .i64 2)) E.tInt, E.tB⟩]) (.cond 22 (.goto 0) .skip)))) (.seq (.reg [ ⟨none, some 23, .move (.tmp 4), E.tU32⟩, ⟨none, some 24, .move (.tmp 0), E.tBs⟩, ⟨none, some 25, .indexAddr E.tBs (.tmp 24) (.const (.int .i64 1)), E.tNil⟩, ⟨none, some 26, .load E.tU8 (.tmp 25), E.tU8⟩, ⟨none, some 27, .binOp .and E.tU8 (.tmp 26) (.const (.int .u8 127)) E.tU8, E.tU8⟩, ⟨none, some 28, .convert E.tU8 E.tU32 (.tmp 27), E.tU32⟩, ⟨none, some 29, .binOp .shl E.tU32 (.tmp 28) (.const (.int .u64 7)) E.tUint, E.tU32⟩, ⟨none, some 30, .binOp .or E.tU32 (.tmp 23) (.tmp 29) E.tU32, E.tU32⟩, ⟨none, some 4, .assign (.tmp 30), E.tU32⟩]) (.seq (.seq (.reg [ ⟨none, some 31, .move (.tmp 0), E.tBs⟩, ⟨none, some 32, .indexAddr E.tBs (.tmp 31) (.const (.int .i64 1)), E.tNil⟩, ⟨none, some 33, .load E.tU8 (.tmp 32), E.tU8⟩, ⟨none, some 34, .binOp .and E.tU8 (.tmp 33) (.const (.int .u8 128)) E.tU8, E.tU8⟩, ⟨none, some 35, .binOp .eql E.tU8 (.tmp 34) (.const (.int .u8 0)) E.tU8, E.tB⟩]) (.cond 35 (.seq (.reg [ ⟨none, some 36, .move (.tmp 4), E.tU32⟩, ⟨none, some 2, .assign (.tmp 36), E.tU32⟩, ⟨none, some 3, .assign (.const (.int .i64 2)), E.tInt⟩]) .ret) (.seq (.reg [ ⟨none, some 37, .move (.tmp 0), E.tBs⟩, ⟨none, some 38, .call { callee := .builtin .len, args := #[.tmp 37], argTypes := #[E.tBs] }, E.tInt⟩, ⟨none, some 39, .binOp .lss E.tInt (.tmp 38) (.const (.int .i64 3)) E.tInt, E.tB⟩]) (.cond 39 (.goto 0) .skip)))) (.seq (.reg [ ⟨none, some 40, .move (.tmp 4), E.tU32⟩, ⟨none, some 41, .move (.tmp 0), E.tBs⟩, ⟨none, some 42, .indexAddr E.tBs (.tmp 41) (.const (.int .i64 2)), E.tNil⟩, ⟨none, some 43, .load E.tU8 (.tmp 42), E.tU8⟩, ⟨none, some 44, .binOp .and E.tU8 (.tmp 43) (.const (.int .u8 127)) E.tU8, E.tU8⟩, ⟨none, some 45, .convert E.tU8 E.tU32 (.tmp 44), E.tU32⟩, ⟨none, some 46, .binOp .shl E.tU32 (.tmp 45) (.const (.int .u64 14)) E.tUint, E.tU32⟩, ⟨none, some 47, .binOp .or E.tU32 (.tmp 40) (.tmp 46) E.tU32, E.tU32⟩, ⟨none, some 4, .assign (.tmp 47), E.tU32⟩]) (.seq (.seq (.reg [ ⟨none, some 48, .move (.tmp 0), E.tBs⟩, ⟨none, some 49, .indexAddr E.tBs (.tmp 48) (.const (.int .i64 2)), E.tNil⟩, ⟨none, some 50, .load E.tU8 (.tmp 49), E.tU8⟩, ⟨none, some 51, .binOp .and E.tU8 (.tmp 50) (.const (.int .u8 128)) E.tU8, E.tU8⟩, ⟨none, some 52, .binOp .eql E.tU8 (.tmp 51) (.const (.int .u8 0)) E.tU8, E.tB⟩]) (.cond 52 (.seq (.reg [ ⟨none, some 53, .move (.tmp 4), E.tU32⟩, ⟨none, some 2, .assign (.tmp 53), E.tU32⟩, ⟨none, some 3, .assign (.const (.int .i64 3)), E.tInt⟩]) .ret) (.seq (.reg [ ⟨none, some 54, .move (.tmp 0), E.tBs⟩, ⟨none, some 55, .call { callee := .builtin .len, args := #[.tmp 54], argTypes := #[E.tBs] }, E.tInt⟩, ⟨none, some 56, .binOp .lss E.tInt (.tmp 55) (.const (.int .i64 4)) E.tInt, E.tB⟩]) (.cond 56 (.goto 0) .skip)))) (.seq (.reg [ ⟨none, some 57, .move (.tmp 4), E.tU32⟩, ⟨none, some 58, .move (.tmp 0), E.tBs⟩, ⟨none, some 59, .indexAddr E.tBs (.tmp 58) (.const (.int .i64 3)), E.tNil⟩, ⟨none, some 60, .load E.tU8 (.tmp 59), E.tU8⟩, ⟨none, some 61, .binOp .and E.tU8 (.tmp 60) (.const (.int .u8 127)) E.tU8, E.tU8⟩, ⟨none, some 62, .convert E.tU8 E.tU32 (.tmp 61), E.tU32⟩, ⟨none, some 63, .binOp .shl E.tU32 (.tmp 62) (.const (.int .u64 21)) E.tUint, E.tU32⟩, ⟨none, some 64, .binOp .or E.tU32 (.tmp 57) (.tmp 63) E.tU32, E.tU32⟩, ⟨none, some 4, .assign (.tmp 64), E.tU32⟩]) (.seq (.seq (.reg [ ⟨none, some 65, .move (.tmp 0), E.tBs⟩, ⟨none, some 66, .indexAddr E.tBs (.tmp 65) (.const (.int .i64 3)), E.tNil⟩, ⟨none, some 67, .load E.tU8 (.tmp 66), E.tU8⟩, ⟨none, some 68, .binOp .and E.tU8 (.tmp 67) (.const (.int .u8 128)) E.tU8, E.tU8⟩, ⟨none, some 69, .binOp .eql E.tU8 (.tmp 68) (.const (.int .u8 0)) E.tU8, E.tB⟩]) (.cond 69 (.seq (.reg [ ⟨none, some 70, .move (.tmp 4), E.tU32⟩, ⟨none, some 2, .assign (.tmp 70), E.tU32⟩, ⟨none, some 3, .assign (.const (.int .i64 4)), E.tInt⟩]) .ret) (.seq (.reg [ ⟨none, some 71, .move (.tmp 0), E.tBs⟩, ⟨none, some 72, .call { callee := .builtin .len, args := #[.tmp 71], argTypes := #[E.tBs] }, E.tInt⟩, ⟨none, some 73, .binOp .lss E.tInt (.tmp 72) (.const (.int .i64 5)) E.tInt, E.tB⟩]) (.cond 73 (.goto 0) .skip)))) (.seq (.reg [ ⟨none, some 74, .move (.tmp 4), E.tU32⟩, ⟨none, some 75, .move (.tmp 0), E.tBs⟩, ⟨none, some 76, .indexAddr E.tBs (.tmp 75) (.const (.int .i64 4)), E.tNil⟩, ⟨none, some 77, .load E.tU8 (.tmp 76), E.tU8⟩, ⟨none, some 78, .convert E.tU8 E.tU32 (.tmp 77), E.tU32⟩, ⟨none, some 79, .binOp .shl E.tU32 (.tmp 78) (.const (.int .u64 28)) E.tUint, E.tU32⟩, ⟨none, some 80, .binOp .or E.tU32 (.tmp 74) (.tmp 79) E.tU32, E.tU32⟩, ⟨none, some 4, .assign (.tmp 80), E.tU32⟩]) (.seq (.seq (.reg [ ⟨none, some 81, .move (.tmp 0), E.tBs⟩, ⟨none, some 82, .indexAddr E.tBs (.tmp 81) (.const (.int .i64 4)), E.tNil⟩, ⟨none, some 83, .load E.tU8 (.tmp 82), E.tU8⟩, ⟨none, some 84, .binOp .leq E.tU8 (.tmp 83) (.const (.int .u8 15)) E.tU8, E.tB⟩]) (.cond 84 (.seq (.reg [ ⟨none, some 85, .move (.tmp 4), E.tU32⟩, ⟨none, some 2, .assign (.tmp 85), E.tU32⟩, ⟨none, some 3, .assign (.const (.int .i64 5)), E.tInt⟩]) .ret) .skip)) (.seq (.reg [ ⟨none, some 5, .assign (.const (.int .i64 (-5))), E.tInt⟩]) (.seq (.label 0) (.seq (.reg [ ⟨none, some 86, .move (.tmp 5), E.tInt⟩, ⟨none, some 2, .assign (.const (.int .u32 0)), E.tU32⟩, ⟨none, some 3, .assign (.tmp 86), E.tInt⟩]) .ret)))))))))))))))) 0 (.seq .skip (.seq (.reg [ ⟨none, some 86, .move (.tmp 5), E.tInt⟩, ⟨none, some 2, .assign (.const (.int .u32 0)), E.tU32⟩, ⟨none, some 3, .assign (.tmp 86), E.tInt⟩]) .ret))))
def nt_kbin_Uvarint : Nat := 87
def rs_kbin_Uvarint (E : Env) : List Rv := [.t 2, .t 3]
def ir_encoding_binary_bigEndian_Uint16 (E : Env) : Ir := (.seq (.reg [ ⟨none, some 2, .box E.t_binary_bigEndian (.tmp 0), E.tNil⟩, ⟨none, some 4, .assign (.const (.int .u16 0)), E.tU16⟩]) (.seq (.reg [ ⟨none, some 5, .move (.tmp 1), E.tBs⟩, ⟨none, some 6, .indexAddr E.tBs (.tmp 5) (.const (.int .i64 1)), E.tNil⟩, ⟨none, some 7, .load E.tU8 (.tmp 6), E.tU8⟩]) (.seq (.regH [ (true, ⟨none, some 8, .move (.tmp 1), E.tBs⟩), (true, ⟨none, some 9, .indexAddr E.tBs (.tmp 8) (.const (.int .i64 1)), E.tNil⟩), (true, ⟨none, some 10, .load E.tU8 (.tmp 9), E.tU8⟩), (true, ⟨none, some 11, .convert E.tU8 E.tU16 (.tmp 10), E.tU16⟩), (true, ⟨none, some 12, .move (.tmp 1), E.tBs⟩), (true, ⟨none, some 13, .indexAddr E.tBs (.tmp 12) (.const (.int .i64 0)), E.tNil⟩), (true, ⟨none, some 14, .load E.tU8 (.tmp 13), E.tU8⟩), (true, ⟨none, some 15, .convert E.tU8 E.tU16 (.tmp 14), E.tU16⟩), (true, ⟨none, some 16, .binOp .shl E.tU16 (.tmp 15) (.const (.int .u64 8)) E.tUint, E.tU16⟩), (true, ⟨none, some 17, .binOp .or E.tU16 (.tmp 11) (.tmp 16) E.tU16, E.tU16⟩), (true, ⟨none, some 4, .assign (.tmp 17), E.tU16⟩)]) .ret)))
def nt_encoding_binary_bigEndian_Uint16 : Nat := 18
def rs_encoding_binary_bigEndian_Uint16 (E : Env) : List Rv := [.t 4]
def ir_encoding_binary_bigEndian_Uint32 (E : Env) : Ir := (.seq (.reg [ ⟨none, some 2, .box E.t_binary_bigEndian (.tmp 0), E.tNil⟩, ⟨none, some 4, .assign (.const (.int .u32 0)), E.tU32⟩]) (.seq (.reg [ ⟨none, some 5, .move (.tmp 1), E.tBs⟩, ⟨none, some 6, .indexAddr E.tBs (.tmp 5) (.const (.int .i64 3)), E.tNil⟩, ⟨none, some 7, .load E.tU8 (.tmp 6), E.tU8⟩]) (.seq (.regH [ (true, ⟨none, some 8, .move (.tmp 1), E.tBs⟩), (true, ⟨none, some 9, .indexAddr E.tBs (.tmp 8) (.const (.int .i64 3)), E.tNil⟩), (true, ⟨none, some 10, .load E.tU8 (.tmp 9), E.tU8⟩), (true, ⟨none, some 11, .convert E.tU8 E.tU32 (.tmp 10), E.tU32⟩), (true, ⟨none, some 12, .move (.tmp 1), E.tBs⟩), (true, ⟨none, some 13, .indexAddr E.tBs (.tmp 12) (.const (.int .i64 2)), E.tNil⟩), (true, ⟨none, some 14, .load E.tU8 (.tmp 13), E.tU8⟩), (true, ⟨none, some 15, .convert E.tU8 E.tU32 (.tmp 14), E.tU32⟩), (true, ⟨none, some 16, .binOp .shl E.tU32 (.tmp 15) (.const (.int .u64 8)) E.tUint, E.tU32⟩), (true, ⟨none, some 17, .binOp .or E.tU32 (.tmp 11) (.tmp 16) E.tU32, E.tU32⟩), (true, ⟨none, some 18, .move (.tmp 1), E.tBs⟩), (true, ⟨none, some 19, .indexAddr E.tBs (.tmp 18) (.const (.int .i64 1)), E.tNil⟩), (true, ⟨none, some 20, .load E.tU8 (.tmp 19), E.tU8⟩), (true, ⟨none, some 21, .convert E.tU8 E.tU32 (.tmp 20), E.tU32⟩), (true, ⟨none, some 22, .binOp .shl E.tU32 (.tmp 21) (.const (.int .u64 16)) E.tUint, E.tU32⟩), (true, ⟨none, some 23, .binOp .or E.tU32 (.tmp 17) (.tmp 22) E.tU32, E.tU32⟩), (true, ⟨none, some 24, .move (.tmp 1), E.tBs⟩), (true, ⟨none, some 25, .indexAddr E.tBs (.tmp 24) (.const (.int .i64 0)), E.tNil⟩), (true, ⟨none, some 26, .load E.tU8 (.tmp 25), E.tU8⟩), (true, ⟨none, some 27, .convert E.tU8 E.tU32 (.tmp 26), E.tU32⟩), (true, ⟨none, some 28, .binOp .shl E.tU32 (.tmp 27) (.const (.int .u64 24)) E.tUint, E.tU32⟩), (true, ⟨none, some 29, .binOp .or E.tU32 (.tmp 23) (.tmp 28) E.tU32, E.tU32⟩), (true, ⟨none, some 4, .assign (.tmp 29), E.tU32⟩)]) .ret)))
def nt_encoding_binary_bigEndian_Uint32 : Nat := 30
def rs_encoding_binary_bigEndian_Uint32 (E : Env) : List Rv := [.t 4]
def ir_encoding_binary_bigEndian_Uint64 (E : Env) : Ir := (.seq (.reg [ ⟨none, some 2, .box E.t_binary_bigEndian (.tmp 0), E.tNil⟩, ⟨none, some 4, .assign (.const (.int .u64 0)), E.tU64⟩]) (.seq (.reg [ ⟨none, some 5, .move (.tmp 1), E.tBs⟩, ⟨none, some 6, .indexAddr E.tBs (.tmp 5) (.const (.int .i64 7)), E.tNil⟩, ⟨none, some 7, .load E.tU8 (.tmp 6), E.tU8⟩]) (.seq (.regH [ (true, ⟨none, some 8, .move (.tmp 1), E.tBs⟩), (true, ⟨none, some 9, .indexAddr E.tBs (.tmp 8) (.const (.int .i64 7)), E.tNil⟩), (true, ⟨none, some 10, .load E.tU8 (.tmp 9), E.tU8⟩), (true, ⟨none, some 11, .convert E.tU8 E.tU64 (.tmp 10), E.tU64⟩), (true, ⟨none, some 12, .move (.tmp 1), E.tBs⟩), (true, ⟨none, some 13, .indexAddr E.tBs (.tmp 12) (.const (.int .i64 6)), E.tNil⟩), (true, ⟨none, some 14, .load E.tU8 (.tmp 13), E.tU8⟩), (true, ⟨none, some 15, .convert E.tU8 E.tU64 (.tmp 14), E.tU64⟩), (true, ⟨none, some 16, .binOp .shl E.tU64 (.tmp 15) (.const (.int .u64 8)) E.tUint, E.tU64⟩), (true, ⟨none, some 17, .binOp .or E.tU64 (.tmp 11) (.tmp 16) E.tU64, E.tU64⟩), (true, ⟨none, some 18, .move (.tmp 1), E.tBs⟩), (true, ⟨none, some 19, .indexAddr E.tBs (.tmp 18) (.const (.int .i64 5)), E.tNil⟩), (true, ⟨none, some 20, .load E.tU8 (.tmp 19), E.tU8⟩), (true, ⟨none, some 21, .convert E.tU8 E.tU64 (.tmp 20), E.tU64⟩), (true, ⟨none, some 22, .binOp .shl E.tU64 (.tmp 21) (.const (.int .u64 16)) E.tUint, E.tU64⟩), (true, ⟨none, some 23, .binOp .or E.tU64 (.tmp 17) (.tmp 22) E.tU64, E.tU64⟩), (true, ⟨none, some 24, .move (.tmp 1), E.tBs⟩), (true, ⟨none, some 25, .indexAddr E.tBs (.tmp 24) (.const (.int .i64 4)), E.tNil⟩), (true, ⟨none, some 26, .load E.tU8 (.tmp 25), E.tU8⟩), (true, ⟨none, some 27, .convert E.tU8 E.tU64 (.tmp 26), E.tU64⟩), (true, ⟨none, some 28, .binOp .shl E.tU64 (.tmp 27) (.const (.int .u64 24)) E.tUint, E.tU64⟩), (true, ⟨none, some 29, .binOp .or E.tU64 (.tmp 23) (.tmp 28) E.tU64, E.tU64⟩), (true, ⟨none, some 30, .move (.tmp 1), E.tBs⟩), (true, ⟨none, some 31, .indexAddr E.tBs (.tmp 30) (.const (.int .i64 3)), E.tNil⟩), (true, ⟨none, some 32, .load E.tU8 (.tmp 31), E.tU8⟩), (true, ⟨none, some 33, .convert E.tU8 E.tU64 (.tmp 32), E.tU64⟩), (true, ⟨none, some 34, .binOp .shl E.tU64 (.tmp 33) (.const (.int .u64 32)) E.tUint, E.tU64⟩), (true, ⟨none, some 35, .binOp .or E.tU64 (.tmp 29) (.tmp 34) E.tU64, E.tU64⟩), (true, ⟨none, some 36, .move (.tmp 1), E.tBs⟩), (true, ⟨none, some 37, .indexAddr E.tBs (.tmp 36) (.const (.int .i64 2)), E.tNil⟩), (true, ⟨none, some 38, .load E.tU8 (.tmp 37), E.tU8⟩), (true, ⟨none, some 39, .convert E.tU8 E.tU64 (.tmp 38), E.tU64⟩), (true, ⟨none, some 40, .binOp .shl E.tU64 (.tmp 39) (.const (.int .u64 40)) E.tUint, E.tU64⟩), (true, ⟨none, some 41, .binOp .or E.tU64 (.tmp 35) (.tmp 40) E.tU64, E.tU64⟩), (true, ⟨none, some 42, .move (.tmp 1), E.tBs⟩), (true, ⟨none, some 43, .indexAddr E.tBs (.tmp 42) (.const (.int .i64 1)), E.tNil⟩), (true, ⟨none, some 44, .load E.tU8 (.tmp 43), E.tU8⟩), (true, ⟨none, some 45, .convert E.tU8 E.tU64 (.tmp 44), E.tU64⟩), (true, ⟨none, some 46, .binOp .shl E.tU64 (.tmp 45) (.const (.int .u64 48)) E.tUint, E.tU64⟩), (true, ⟨none, some 47, .binOp .or E.tU64 (.tmp 41) (.tmp 46) E.tU64, E.tU64⟩), (true, ⟨none, some 48, .move (.tmp 1), E.tBs⟩), (true, ⟨none, some 49, .indexAddr E.tBs (.tmp 48) (.const (.int .i64 0)), E.tNil⟩), (true, ⟨none, some 50, .load E.tU8 (.tmp 49), E.tU8⟩), (true, ⟨none, some 51, .convert E.tU8 E.tU64 (.tmp 50), E.tU64⟩), (true, ⟨none, some 52, .binOp .shl E.tU64 (.tmp 51) (.const (.int .u64 56)) E.tUint, E.tU64⟩), (true, ⟨none, some 53, .binOp .or E.tU64 (.tmp 47) (.tmp 52) E.tU64, E.tU64⟩), (true, ⟨none, some 4, .assign (.tmp 53), E.tU64⟩)]) .ret)))
def nt_encoding_binary_bigEndian_Uint64 : Nat := 54
def rs_encoding_binary_bigEndian_Uint64 (E : Env) : List Rv := [.t 4]
end Go.Kg

set_option linter.unusedSimpArgs false
set_option linter.unusedVariables false
namespace Go.Kg
open Go
/-- Outside C nothing that was there has turned. -/
structure Ext (C : Nat → Prop) (w w' : World) : Prop where
  os : w'.os = w.os
  tape : w'.tape = w.tape
  output : w'.output = w.output
  size : w.heap.size ≤ w'.heap.size
  block : ∀ k, k < w.heap.size → ¬ C k → w'.heap[k]? = w.heap[k]?
theorem Ext.refl (C : Nat → Prop) (w : World) : Ext C w w := ⟨rfl, rfl, rfl, Nat.le_refl _, fun _ _ _ => rfl⟩
theorem Ext.trans {C : Nat → Prop} {a b c : World} (h : Ext C a b) (k : Ext C b c) : Ext C a c :=
  ⟨k.os.trans h.os, k.tape.trans h.tape, k.output.trans h.output, Nat.le_trans h.size k.size,
   fun i hi hc => (k.block i (Nat.lt_of_lt_of_le hi h.size) hc).trans (h.block i hi hc)⟩
theorem Ext.mono {C C' : Nat → Prop} {a b : World} (h : Ext C a b) (hc : ∀ k, k < a.heap.size → C k → C' k) : Ext C' a b :=
  ⟨h.os, h.tape, h.output, h.size, fun i hi hn => h.block i hi (fun hk => hn (hc i hi hk))⟩
theorem Ext.drew {C : Nat → Prop} {a w : World} (h : Ext C a w) : Ext C a w.drew := ⟨h.os, h.tape, h.output, h.size, h.block⟩
theorem Ext.alloc {C : Nat → Prop} {a w : World} (h : Ext C a w) (o : Obj) : Ext C a (w.alloc o) :=
  ⟨h.os, h.tape, h.output, Nat.le_trans h.size (by simp), fun k hk hc => by
    rw [← h.block k hk hc]; exact RowKit.Below.heap_alloc _ _ _ (Nat.lt_of_lt_of_le hk h.size)⟩
theorem Ext.setBlk {C : Nat → Prop} {a w : World} (h : Ext C a w) {b : Nat} (hb : a.heap.size ≤ b ∨ C b) (o : Obj) : Ext C a (w.setBlk b o) :=
  ⟨h.os, h.tape, h.output, by simpa using h.size, fun k hk hc => by
    rw [← h.block k hk hc]
    refine setBlk_other ?_
    rintro rfl
    rcases hb with hb | hb
    · omega
    · exact hc hb⟩
def none1 : Nat → Prop := fun _ => False
theorem Ext.old {C : Nat → Prop} {w w' : World} (h : Ext C w w') {b : Nat} {o : Obj} (hb : w.heap[b]? = some o) (hc : ¬ C b) : w'.heap[b]? = some o := by
  rw [h.block b (Array.getElem?_eq_some_iff.1 hb).1 hc]; exact hb
theorem Ext.cell {C : Nat → Prop} {w w' : World} (h : Ext C w w') {a : Addr} {v : Value} (ha : w.cell? a = some v) (hc : ¬ C a.block) : w'.cell? a = some v := by
  have hlt := World.block_lt_of_cell? w a ha
  rw [← ha]; exact World.cell?_of_block (h.block _ hlt hc)
theorem lt_of_heap {w : World} {b : Nat} {o : Obj} (h : w.heap[b]? = some o) : b < w.heap.size := (Array.getElem?_eq_some_iff.1 h).1
@[simp] theorem drew_heap {w : World} : w.drew.heap = w.heap := rfl
@[simp] theorem alloc_heap_size {w : World} {o : Obj} : (w.alloc o).heap.size = w.heap.size + 1 := by simp
theorem alloc_old {w : World} {o : Obj} {b : Nat} {o' : Obj} (h : w.heap[b]? = some o') : (w.alloc o).heap[b]? = some o' := by
  rw [RowKit.Below.heap_alloc _ _ _ (lt_of_heap h)]; exact h
theorem alloc_new {w : World} {o : Obj} : (w.alloc o).heap[w.heap.size]? = some o := heap_alloc_new w o
/-- A slice value reads as bytes, in a block of K. -/
def BytesAt (w : World) (K : Nat → Prop) (v : Value) (s : List UInt8) : Prop :=
  ((∃ a, v = .slice a 0 0) ∧ s = []) ∨
  ∃ b o c, v = .slice (some ⟨b, o, none⟩) s.length c ∧ s.length ≤ c ∧ (s ≠ [] → K b) ∧ ∀ i x, s[i]? = some x → w.cell? ⟨b, o + i, none⟩ = some (.int .u8 x.toNat)
theorem BytesAt.ext {C K : Nat → Prop} {w w' : World} {v : Value} {s : List UInt8} (h : BytesAt w K v s) (he : Ext C w w') (hD : ∀ b, b < w.heap.size → K b → ¬ C b) : BytesAt w' K v s := by
  rcases h with h | ⟨b, o, c, h1, h2, hk, h3⟩
  · exact .inl h
  · refine .inr ⟨b, o, c, h1, h2, hk, fun i x hx => ?_⟩
    have hc := h3 i x hx
    refine he.cell hc (hD b (World.block_lt_of_cell? w _ hc) (hk ?_))
    rintro rfl; simp at hx
theorem BytesAt.mono {K K' : Nat → Prop} {w : World} {v : Value} {s : List UInt8} (h : BytesAt w K v s) (hk : ∀ b, b < w.heap.size → K b → K' b) : BytesAt w K' v s := by
  rcases h with h | ⟨b, o, c, h1, h2, hK, h3⟩
  · exact .inl h
  · refine .inr ⟨b, o, c, h1, h2, fun hs => ?_, h3⟩
    cases s with
    | nil => exact absurd rfl hs
    | cons x s => exact hk b (World.block_lt_of_cell? w _ (h3 0 x rfl)) (hK hs)
theorem BytesAt.len {w : World} {K : Nat → Prop} {v : Value} {s : List UInt8} (h : BytesAt w K v s) : ∃ a c, v = .slice a s.length c ∧ s.length ≤ c := by
  rcases h with ⟨⟨a, rfl⟩, rfl⟩ | ⟨b, o, c, h1, h2, _⟩
  · exact ⟨a, 0, rfl, by simp⟩
  · exact ⟨_, c, h1, h2⟩
/-- s[l:] of bytes -/
def cutLo (a : Option Addr) (n c l : Nat) : Value := .slice (if c = l then a else a.map (·.add (l * 1))) (n - l) (c - l)
theorem BytesAt.cutLo {w : World} {D : Nat → Prop} {a : Option Addr} {n c : Nat} {s : List UInt8} (h : BytesAt w D (.slice a n c) s) {l : Nat} (hl : l ≤ s.length) : BytesAt w D (cutLo a n c l) (s.drop l) := by
  rcases h with ⟨⟨a', hv⟩, rfl⟩ | ⟨b, o, c', hv, h2, hk, h3⟩
  · cases hv
    have : l = 0 := by simpa using hl
    subst this
    exact .inl ⟨⟨a, by simp [Kg.cutLo]⟩, by simp⟩
  · cases hv
    have hk' : s.drop l ≠ [] → D b := fun h => hk (by rintro rfl; simp at h)
    by_cases e : c = l
    · subst e
      have hs : s.length = c := by omega
      refine .inr ⟨b, o, 0, by simp [Kg.cutLo, hs], by simp [hs], hk', ?_⟩
      intro i x hx
      rw [List.drop_eq_nil_of_le (by omega)] at hx
      simp at hx
    · refine .inr ⟨b, o + l, c - l, by simp [Kg.cutLo, e, Addr.add_mk], by simp; omega, hk', ?_⟩
      intro i x hx
      rw [List.getElem?_drop] at hx
      have := h3 _ _ hx
      rwa [← Nat.add_assoc] at this
/-- s[:l:l] of bytes -/
theorem BytesAt.cutHi {w : World} {D : Nat → Prop} {a : Option Addr} {n c : Nat} {s : List UInt8} (h : BytesAt w D (.slice a n c) s) {l : Nat} (hl : l ≤ s.length) :
    BytesAt w D (.slice (if l = 0 then a else a.map (·.add 0)) l l) (s.take l) := by
  rcases h with ⟨⟨a', hv⟩, rfl⟩ | ⟨b, o, c'', hv, h2, hk, h3⟩
  · cases hv
    have : l = 0 := by simpa using hl
    subst this
    exact .inl ⟨⟨a, by simp⟩, by simp⟩
  · cases hv
    refine .inr ⟨b, o, l, by simp [Nat.min_eq_left hl, Addr.add_mk], by simp [Nat.min_le_left], fun h => hk (by rintro rfl; simp at h), ?_⟩
    intro i x hx
    rw [List.getElem?_take] at hx
    split at hx
    · exact h3 _ _ hx
    · cases hx
theorem slice_cut {P : Program} {T : Nat} (h : sliSz P T = some 1) {a : Option Addr} {n c : Nat} {k : IntKind} {l : Int} (h0 : 0 ≤ l) (hl : l.toNat ≤ n) : slice? P T (.slice a n c) (some (.int k l)) none none = some (cutLo a n c l.toNat) := by
  have hl' : l ≤ n := by omega
  simp [slice?, h, h0, hl', cutLo]
@[simp] theorem cutLo_one {a : Option Addr} {n c l : Nat} : (cutLo a n c l).oneCell' = true := rfl
/-- src: what is left; nn: the slice is known not to be nil. -/
structure RS where
  src : List UInt8
  bad : Bool
  nn : Bool
def RS.fail : RS := ⟨[], true, false⟩
def nonNil : Value → Bool
  | .slice (some _) _ _ => true
  | _ => false
/-- The reader's block. TR: its type's number. -/
def RdAt (TR : TypeId) (w : World) (pb D : Nat) (rs : RS) : Prop :=
  ∃ sv, w.heap[pb]? = some (.cells #[sv, .bool rs.bad] TR (0, 0)) ∧ BytesAt w (· = D) sv rs.src ∧ nonNil sv = rs.nn
def be (l : List UInt8) : Nat := l.foldl (fun n b => n * 256 + b.toNat) 0
def rdFixed (k : Nat) (rs : RS) : Nat × RS :=
  if rs.src.length < k then (0, .fail) else (be (rs.src.take k), ⟨rs.src.drop k, rs.bad, true⟩)
def RdC (P : Program) (TR f : Nat) (g : RS → Value × RS) : Prop := ∀ w pb D rs, pb ≠ D → RdAt TR w pb D rs →
  Ret P f #[.pointer (some ⟨pb, 0, none⟩)] w fun v w' => v = (g rs).1 ∧ Ext (· = pb) w w' ∧ RdAt TR w' pb D (g rs).2
/-- What the readers ask of the types. -/
structure TyRd (P : Program) (E : Env) : Prop where
  kBs : kindOf P E.tBs = .scl
  kB : kindOf P E.tB = .scl
  uBs : P.underlying E.tBs = some (.slice E.tU8)
  sBs : sliSz P E.tBs = some 1
  rd0 : fldOff P E.tRd 0 = some 0
  rd1 : fldOff P E.tRd 1 = some 1
theorem Ext.setPb {w w1 : World} (h : Ext none1 w w1) (pb : Nat) (o : Obj) : Ext (fun x => x = pb) w (w1.setBlk pb o) :=
  (h.mono (C' := fun x => x = pb) (fun _ _ h => h.elim)).setBlk (Or.inr rfl) o
theorem rdFail {TR : Nat} {w : World} {pb D : Nat} {o : Obj} (hb : w.heap[pb]? = some o) : RdAt TR (w.setBlk pb (.cells #[.slice none 0 0, .bool true] TR (0, 0))) pb D .fail :=
  ⟨.slice none 0 0, setBlk_same hb, .inl ⟨⟨_, rfl⟩, rfl⟩, rfl⟩
theorem rdCut {TR : Nat} {w : World} {pb D : Nat} {a : Option Addr} {n c : Nat} {s : List UInt8} {bad : Bool} (hne : pb ≠ D) (hb : w.heap[pb]? = some (.cells #[.slice a n c, .bool bad] TR (0, 0))) (hs : BytesAt w (· = D) (.slice a n c) s) {l : Nat} (hl : l ≤ s.length) {nn : Bool} (hnn : a.isSome = nn) :
    RdAt TR (w.setBlk pb (.cells #[cutLo a n c l, .bool bad] TR (0, 0))) pb D ⟨s.drop l, bad, nn⟩ :=
  ⟨_, setBlk_same hb, (hs.cutLo hl).ext (C := (· = pb)) ((Ext.refl (· = pb) w).setBlk (.inr rfl) _) (by rintro b _ rfl rfl; exact hne rfl), by
    subst hnn
    cases a with
    | none => unfold cutLo; split <;> rfl
    | some a => unfold cutLo; split <;> rfl⟩
/-- bytes that are there lie in a block -/
theorem BytesAt.ne {w : World} {K : Nat → Prop} {a : Option Addr} {n c : Nat} {s : List UInt8} (h : BytesAt w K (.slice a n c) s) (hs : s ≠ []) : a.isSome = true := by
  rcases h with ⟨_, h⟩ | ⟨b, o, c', h, _⟩
  · exact absurd h hs
  · cases h; simp
theorem ne_of_le {s : List UInt8} {k : Nat} (h : k ≤ s.length) (hk : 0 < k) : s ≠ [] := by rintro rfl; simp at h; omega
theorem get4 {s : List UInt8} (h : 4 ≤ s.length) : ∃ a b c d r, s = a :: b :: c :: d :: r := by
  match s, h with
  | a :: b :: c :: d :: r, _ => exact ⟨a, b, c, d, r, rfl⟩
def U32C (P : Program) (f : Nat) : Prop := ∀ w K v s, BytesAt w K v s → 4 ≤ s.length → Ret P f #[.agg #[], v] w fun u w' => u = .int .u32 (be (s.take 4)) ∧ Ext none1 w w'
theorem u32_join {a b c d : UInt8} : bits .or .u32 (bits .or .u32 (bits .or .u32 d.toNat (c.toNat * 256)) (b.toNat * 65536)) (a.toNat * 16777216) = ((((0 * 256 + a.toNat) * 256 + b.toNat) * 256 + c.toNat) * 256 + d.toNat : Nat) := by
  have ha := a.toNat_lt; have hb := b.toNat_lt; have hc := c.toNat_lt; have hd := d.toNat_lt
  have e1 := Go.u32_or8 (d.toNat : Int) ((c.toNat : Int) * 256) (by omega) (by omega) (by omega) (by omega) (by omega)
  have e2 := Go.u32_or16 ((d.toNat : Int) + c.toNat * 256) ((b.toNat : Int) * 65536) (by omega) (by omega) (by omega) (by omega) (by omega)
  have e3 := Go.u32_or24 ((d.toNat : Int) + c.toNat * 256 + b.toNat * 65536) ((a.toNat : Int) * 16777216) (by omega) (by omega) (by omega) (by omega) (by omega)
  rw [e1, e2, e3]
  omega
theorem c_U32 {P : Program} {E : Env} (hI : FnIs P E.f_encoding_binary_bigEndian_Uint32 nt_encoding_binary_bigEndian_Uint32 (rs_encoding_binary_bigEndian_Uint32 E) (ir_encoding_binary_bigEndian_Uint32 E))
    (sBs : sliSz P E.tBs = some 1) (kU8 : kindOf P E.tU8 = .scl) (iU8 : intKind? P E.tU8 = some .u8) (iU32 : intKind? P E.tU32 = some .u32) : U32C P E.f_encoding_binary_bigEndian_Uint32 := by
  intro w K v s hv hs
  obtain ⟨a, b, c, d, r, rfl⟩ := get4 hs
  rcases hv with ⟨_, h⟩ | ⟨D, o, cp, rfl, hcp, _, hc⟩
  · cases h
  refine hI.call (args := [_, _]) (by simp [nt_encoding_binary_bigEndian_Uint32]) ?_
  have e0 : ∀ (w' : World), Ext none1 w w' → w'.cell? ⟨D, o, none⟩ = some (.int .u8 a.toNat) := fun w' he => he.cell (hc 0 a rfl) (fun h => h)
  have e1 : ∀ (w' : World), Ext none1 w w' → w'.cell? ⟨D, o + 1, none⟩ = some (.int .u8 b.toNat) := fun w' he => he.cell (hc 1 b rfl) (fun h => h)
  have e2 : ∀ (w' : World), Ext none1 w w' → w'.cell? ⟨D, o + 2, none⟩ = some (.int .u8 c.toNat) := fun w' he => he.cell (hc 2 c rfl) (fun h => h)
  have e3 : ∀ (w' : World), Ext none1 w w' → w'.cell? ⟨D, o + 3, none⟩ = some (.int .u8 d.toNat) := fun w' he => he.cell (hc 3 d rfl) (fun h => h)
  have hE := (Ext.refl none1 w).alloc (.cells #[] E.t_binary_bigEndian)
  simp [ir_encoding_binary_bigEndian_Uint32, rs_encoding_binary_bigEndian_Uint32, idx?, sBs, ld_scl kU8, Addr.add_mk, Value.cells, e3, hE]
  refine cw_regH (Ext none1 w) hE.drew ?_
  have hE' := hE.drew
  simp +contextual [idx?, sBs, ld_scl kU8, Addr.add_mk, e0, e1, e2, e3, hE, hE', iU8, iU32, IntKind.bits]
  have ha := a.toNat_lt; have hb := b.toNat_lt; have hc := c.toNat_lt; have hd := d.toNat_lt
  rw [u32_wrap_id (x := (a.toNat : Int)) (by omega) (by omega), u32_wrap_id (x := (b.toNat : Int)) (by omega) (by omega), u32_wrap_id (x := (c.toNat : Int)) (by omega) (by omega), u32_wrap_id (x := (d.toNat : Int)) (by omega) (by omega),
    u32_wrap_id (x := (a.toNat : Int) * 16777216) (by omega) (by omega), u32_wrap_id (x := (b.toNat : Int) * 65536) (by omega) (by omega), u32_wrap_id (x := (c.toNat : Int) * 256) (by omega) (by omega), u32_join]
  rfl
def U16C (P : Program) (f : Nat) : Prop := ∀ w K v s, BytesAt w K v s → 2 ≤ s.length → Ret P f #[.agg #[], v] w fun u w' => u = .int .u16 (be (s.take 2)) ∧ Ext none1 w w'
theorem get2 {s : List UInt8} (h : 2 ≤ s.length) : ∃ a b r, s = a :: b :: r := by
  match s, h with
  | a :: b :: r, _ => exact ⟨a, b, r, rfl⟩
theorem c_U16 {P : Program} {E : Env} (hI : FnIs P E.f_encoding_binary_bigEndian_Uint16 nt_encoding_binary_bigEndian_Uint16 (rs_encoding_binary_bigEndian_Uint16 E) (ir_encoding_binary_bigEndian_Uint16 E))
    (sBs : sliSz P E.tBs = some 1) (kU8 : kindOf P E.tU8 = .scl) (iU8 : intKind? P E.tU8 = some .u8) (iU16 : intKind? P E.tU16 = some .u16) : U16C P E.f_encoding_binary_bigEndian_Uint16 := by
  intro w K v s hv hs
  obtain ⟨a, b, r, rfl⟩ := get2 hs
  rcases hv with ⟨_, h⟩ | ⟨D, o, cp, rfl, hcp, _, hc⟩
  · cases h
  refine hI.call (args := [_, _]) (by simp [nt_encoding_binary_bigEndian_Uint16]) ?_
  have e0 : ∀ (w' : World), Ext none1 w w' → w'.cell? ⟨D, o, none⟩ = some (.int .u8 a.toNat) := fun w' he => he.cell (hc 0 a rfl) (fun h => h)
  have e1 : ∀ (w' : World), Ext none1 w w' → w'.cell? ⟨D, o + 1, none⟩ = some (.int .u8 b.toNat) := fun w' he => he.cell (hc 1 b rfl) (fun h => h)
  have hE := (Ext.refl none1 w).alloc (.cells #[] E.t_binary_bigEndian)
  simp [ir_encoding_binary_bigEndian_Uint16, rs_encoding_binary_bigEndian_Uint16, idx?, sBs, ld_scl kU8, Addr.add_mk, Value.cells, e1, hE]
  refine cw_regH (Ext none1 w) hE.drew ?_
  have hE' := hE.drew
  simp +contextual [idx?, sBs, ld_scl kU8, Addr.add_mk, e0, e1, hE, hE', iU8, iU16, IntKind.bits]
  have ha := a.toNat_lt; have hb := b.toNat_lt
  rw [u16_wrap_id (x := (a.toNat : Int)) (by omega) (by omega), u16_wrap_id (x := (b.toNat : Int)) (by omega) (by omega),
    u16_wrap_id (x := (a.toNat : Int) * 256) (by omega) (by omega), Go.u16_or8 (b.toNat : Int) ((a.toNat : Int) * 256) (by omega) (by omega) (by omega) (by omega) (by omega)]
  simp [be]; omega
def U64C (P : Program) (f : Nat) : Prop := ∀ w K v s, BytesAt w K v s → 8 ≤ s.length → Ret P f #[.agg #[], v] w fun u w' => u = .int .u64 (be (s.take 8)) ∧ Ext none1 w w'
theorem get8 {s : List UInt8} (h : 8 ≤ s.length) : ∃ a b c d e f g h r, s = a :: b :: c :: d :: e :: f :: g :: h :: r := by
  match s, h with
  | a :: b :: c :: d :: e :: f :: g :: h :: r, _ => exact ⟨a, b, c, d, e, f, g, h, r, rfl⟩
theorem u64_join {a b c d e f g h : Nat} (ha : a < 256) (hb : b < 256) (hc : c < 256) (hd : d < 256) (he : e < 256) (hf : f < 256) (hg : g < 256) (hh : h < 256) :
    bits .or .u64 (bits .or .u64 (bits .or .u64 (bits .or .u64 (bits .or .u64 (bits .or .u64 (bits .or .u64 h (g * 256)) (f * 65536)) (e * 16777216)) (d * 4294967296)) (c * 1099511627776)) (b * 281474976710656)) (a * 72057594037927936)
      = (((((((a * 256 + b) * 256 + c) * 256 + d) * 256 + e) * 256 + f) * 256 + g) * 256 + h : Nat) := by
  rw [Go.u64_or8 (h : Int) ((g : Int) * 256) (by omega) (by omega) (by omega) (by omega) (by omega), Go.u64_or16 _ ((f : Int) * 65536) (by omega) (by omega) (by omega) (by omega) (by omega),
    Go.u64_or24 _ ((e : Int) * 16777216) (by omega) (by omega) (by omega) (by omega) (by omega), Go.u64_or32 _ ((d : Int) * 4294967296) (by omega) (by omega) (by omega) (by omega) (by omega),
    Go.u64_or40 _ ((c : Int) * 1099511627776) (by omega) (by omega) (by omega) (by omega) (by omega), Go.u64_or48 _ ((b : Int) * 281474976710656) (by omega) (by omega) (by omega) (by omega) (by omega),
    Go.u64_or56 _ ((a : Int) * 72057594037927936) (by omega) (by omega) (by omega) (by omega) (by omega)]
  omega
theorem c_U64 {P : Program} {E : Env} (hI : FnIs P E.f_encoding_binary_bigEndian_Uint64 nt_encoding_binary_bigEndian_Uint64 (rs_encoding_binary_bigEndian_Uint64 E) (ir_encoding_binary_bigEndian_Uint64 E))
    (sBs : sliSz P E.tBs = some 1) (kU8 : kindOf P E.tU8 = .scl) (iU8 : intKind? P E.tU8 = some .u8) (iU64 : intKind? P E.tU64 = some .u64) : U64C P E.f_encoding_binary_bigEndian_Uint64 := by
  intro w K v s hv hs
  obtain ⟨a, b, c, d, e, f, g, h, r, rfl⟩ := get8 hs
  rcases hv with ⟨_, h⟩ | ⟨D, o, cp, rfl, hcp, _, hcc⟩
  · cases h
  refine hI.call (args := [_, _]) (by simp [nt_encoding_binary_bigEndian_Uint64]) ?_
  have e0 : ∀ (w' : World), Ext none1 w w' → w'.cell? ⟨D, o, none⟩ = some (.int .u8 a.toNat) := fun w' he => he.cell (hcc 0 a rfl) (fun h => h)
  have e1 : ∀ (w' : World), Ext none1 w w' → w'.cell? ⟨D, o + 1, none⟩ = some (.int .u8 b.toNat) := fun w' he => he.cell (hcc 1 b rfl) (fun h => h)
  have e2 : ∀ (w' : World), Ext none1 w w' → w'.cell? ⟨D, o + 2, none⟩ = some (.int .u8 c.toNat) := fun w' he => he.cell (hcc 2 c rfl) (fun h => h)
  have e3 : ∀ (w' : World), Ext none1 w w' → w'.cell? ⟨D, o + 3, none⟩ = some (.int .u8 d.toNat) := fun w' he => he.cell (hcc 3 d rfl) (fun h => h)
  have e4 : ∀ (w' : World), Ext none1 w w' → w'.cell? ⟨D, o + 4, none⟩ = some (.int .u8 e.toNat) := fun w' he => he.cell (hcc 4 e rfl) (fun h => h)
  have e5 : ∀ (w' : World), Ext none1 w w' → w'.cell? ⟨D, o + 5, none⟩ = some (.int .u8 f.toNat) := fun w' he => he.cell (hcc 5 f rfl) (fun h => h)
  have e6 : ∀ (w' : World), Ext none1 w w' → w'.cell? ⟨D, o + 6, none⟩ = some (.int .u8 g.toNat) := fun w' he => he.cell (hcc 6 g rfl) (fun h => h)
  have e7 : ∀ (w' : World), Ext none1 w w' → w'.cell? ⟨D, o + 7, none⟩ = some (.int .u8 h.toNat) := fun w' he => he.cell (hcc 7 h rfl) (fun h => h)
  have hE := (Ext.refl none1 w).alloc (.cells #[] E.t_binary_bigEndian)
  simp [ir_encoding_binary_bigEndian_Uint64, rs_encoding_binary_bigEndian_Uint64, idx?, sBs, ld_scl kU8, Addr.add_mk, Value.cells, e7, hE]
  refine cw_regH (Ext none1 w) hE.drew ?_
  have hE' := hE.drew
  simp (maxSteps := 2000000) +contextual [idx?, sBs, ld_scl kU8, Addr.add_mk, e0, e1, e2, e3, e4, e5, e6, e7, hE, hE', iU8, iU64, IntKind.bits]
  have ha := a.toNat_lt; have hb := b.toNat_lt; have hc := c.toNat_lt; have hd := d.toNat_lt
  have he := e.toNat_lt; have hf := f.toNat_lt; have hg := g.toNat_lt; have hh := h.toNat_lt
  have ww : ∀ x : Nat, x < 256 → IntKind.u64.wrap (x : Int) = x := fun x hx => u64_wrap_id (x := (x : Int)) (by omega) (by omega)
  rw [ww _ ha, ww _ hb, ww _ hc, ww _ hd, ww _ he, ww _ hf, ww _ hg, ww _ hh]
  rw [u64_wrap_id (x := (a.toNat : Int) * 72057594037927936) (by omega) (by omega), u64_wrap_id (x := (b.toNat : Int) * 281474976710656) (by omega) (by omega), u64_wrap_id (x := (c.toNat : Int) * 1099511627776) (by omega) (by omega), u64_wrap_id (x := (d.toNat : Int) * 4294967296) (by omega) (by omega),
    u64_wrap_id (x := (e.toNat : Int) * 16777216) (by omega) (by omega), u64_wrap_id (x := (f.toNat : Int) * 65536) (by omega) (by omega), u64_wrap_id (x := (g.toNat : Int) * 256) (by omega) (by omega), u64_join ha hb hc hd he hf hg hh]
  simp [be]
theorem c_Int32 {P : Program} {E : Env} (ht : TyRd P E) (hI : FnIs P E.f_pkbin_Reader_Int32 nt_pkbin_Reader_Int32 (rs_pkbin_Reader_Int32 E) (ir_pkbin_Reader_Int32 E))
    (kBE : kindOf P E.t_binary_bigEndian = .agg 0) (iU32 : intKind? P E.tU32 = some .u32) (iI32 : intKind? P E.tI32 = some .i32) (hU : U32C P E.f_encoding_binary_bigEndian_Uint32) :
    RdC P E.tRd E.f_pkbin_Reader_Int32 fun rs => (.int .i32 (IntKind.i32.wrap (rdFixed 4 rs).1), (rdFixed 4 rs).2) := by
  intro w pb D rs hne ⟨sv, hb, hs, hnn⟩
  obtain ⟨src, bad, nn⟩ := rs
  obtain ⟨a, c, rfl, hc⟩ := hs.len
  obtain ⟨t1, t2, t3, t4, t5, t6⟩ := ht
  refine hI.call (args := [_]) (by simp [nt_pkbin_Reader_Int32]) ?_
  simp [ir_pkbin_Reader_Int32, rs_pkbin_Reader_Int32, t5, ld_scl t1, Addr.add_mk, cell_of_blk hb, len_slice t3]
  by_cases hl : src.length < 4
  · refine cw_true (by simp; omega) ?_
    simp [t5, t6, Addr.add_mk, cell_of_blk hb, store_scl t2, store_scl t1, put1K_blk hb, put1K_blk (setBlk_same hb), Value.oneCell', setBlk_setBlk]
    simp only [rdFixed, if_pos hl]
    exact ⟨rfl, (Ext.refl _ _).setPb _ _, rdFail hb⟩
  · refine cw_false (by simp; omega) ?_
    have hl' : 4 ≤ src.length := by omega
    simp
    refine cw_regH (fun w' => Ext none1 w w') (Ext.refl _ _).drew ?_
    have e0 : ∀ w', Ext none1 w w' → w'.heap[pb]? = some (.cells #[.slice a src.length c, .bool bad] E.tRd (0, 0)) := fun w' he => he.old hb (fun h => h)
    have hE' := (Ext.refl none1 w).drew
    simp +contextual [t5, ld_agg kBE, cellsFrom, ld_scl t1, Addr.add_mk, World.cell?, hb, e0]
    refine (hU _ _ _ src (hs.ext hE' (fun _ _ _ h => h)) hl').mono ?_
    rintro v w1 ⟨rfl, he1⟩
    have he := hE'.trans he1
    have hb1 := e0 _ he
    have hs1 := hs.ext he (fun _ _ _ h => h)
    simp [he, iU32, iI32, t5, ld_scl t1, Addr.add_mk, hb1, store_scl t1, put1K_blk hb1, slice_cut t4, hl']
    simp only [rdFixed, if_neg hl]
    exact ⟨trivial, he.setPb _ _, rdCut hne hb1 hs1 hl' (nn := true) (hs1.ne (ne_of_le hl' (by omega)))⟩
end Go.Kg

set_option linter.unusedSimpArgs false
set_option linter.unusedVariables false
namespace Go.Kg
open Go
theorem c_Int16 {P : Program} {E : Env} (ht : TyRd P E) (hI : FnIs P E.f_pkbin_Reader_Int16 nt_pkbin_Reader_Int16 (rs_pkbin_Reader_Int16 E) (ir_pkbin_Reader_Int16 E))
    (kBE : kindOf P E.t_binary_bigEndian = .agg 0) (iU : intKind? P E.tU16 = some .u16) (iI : intKind? P E.tI16 = some .i16) (hU : U16C P E.f_encoding_binary_bigEndian_Uint16) :
    RdC P E.tRd E.f_pkbin_Reader_Int16 fun rs => (.int .i16 (IntKind.i16.wrap (rdFixed 2 rs).1), (rdFixed 2 rs).2) := by
  intro w pb D rs hne ⟨sv, hb, hs, hnn⟩
  obtain ⟨src, bad, nn⟩ := rs
  obtain ⟨a, c, rfl, hc⟩ := hs.len
  obtain ⟨t1, t2, t3, t4, t5, t6⟩ := ht
  refine hI.call (args := [_]) (by simp [nt_pkbin_Reader_Int16]) ?_
  simp [ir_pkbin_Reader_Int16, rs_pkbin_Reader_Int16, t5, ld_scl t1, Addr.add_mk, cell_of_blk hb, len_slice t3]
  by_cases hl : src.length < 2
  · refine cw_true (by simp; omega) ?_
    simp [t5, t6, Addr.add_mk, cell_of_blk hb, store_scl t2, store_scl t1, put1K_blk hb, put1K_blk (setBlk_same hb), Value.oneCell', setBlk_setBlk]
    simp only [rdFixed, if_pos hl]
    exact ⟨rfl, (Ext.refl _ _).setPb _ _, rdFail hb⟩
  · refine cw_false (by simp; omega) ?_
    have hl' : 2 ≤ src.length := by omega
    simp
    refine cw_regH (fun w' => Ext none1 w w') (Ext.refl _ _).drew ?_
    have e0 : ∀ w', Ext none1 w w' → w'.heap[pb]? = some (.cells #[.slice a src.length c, .bool bad] E.tRd (0, 0)) := fun w' he => he.old hb (fun h => h)
    have hE' := (Ext.refl none1 w).drew
    simp +contextual [t5, ld_agg kBE, cellsFrom, ld_scl t1, Addr.add_mk, World.cell?, hb, e0]
    refine (hU _ _ _ src (hs.ext hE' (fun _ _ _ h => h)) hl').mono ?_
    rintro v w1 ⟨rfl, he1⟩
    have he := hE'.trans he1
    have hb1 := e0 _ he
    have hs1 := hs.ext he (fun _ _ _ h => h)
    simp [he, iU, iI, t5, ld_scl t1, Addr.add_mk, hb1, store_scl t1, put1K_blk hb1, slice_cut t4, hl']
    simp only [rdFixed, if_neg hl]
    exact ⟨trivial, he.setPb _ _, rdCut hne hb1 hs1 hl' (nn := true) (hs1.ne (ne_of_le hl' (by omega)))⟩
theorem be_lt : ∀ (l : List UInt8) (n : Nat), l.foldl (fun n b => n * 256 + b.toNat) n < (n + 1) * 256 ^ l.length := by
  intro l
  induction l with
  | nil => intro n; simp
  | cons x l ih =>
    intro n
    have hx := x.toNat_lt
    simp only [List.foldl_cons, List.length_cons]
    refine Nat.lt_of_lt_of_le (ih _) ?_
    rw [Nat.pow_succ, Nat.mul_comm (256 ^ l.length) 256, ← Nat.mul_assoc]
    exact Nat.mul_le_mul_right _ (by omega)
theorem be_take_lt (l : List UInt8) (k : Nat) : be (l.take k) < 256 ^ k := by
  have h := be_lt (l.take k) 0
  simp only [Nat.zero_add, Nat.one_mul] at h
  refine Nat.lt_of_lt_of_le h (Nat.pow_le_pow_right (by omega) (by simp; omega))
theorem c_readUint64 {P : Program} {E : Env} (ht : TyRd P E) (hI : FnIs P E.f_pkbin_Reader_readUint64 nt_pkbin_Reader_readUint64 (rs_pkbin_Reader_readUint64 E) (ir_pkbin_Reader_readUint64 E))
    (kBE : kindOf P E.t_binary_bigEndian = .agg 0) (hU : U64C P E.f_encoding_binary_bigEndian_Uint64) :
    RdC P E.tRd E.f_pkbin_Reader_readUint64 fun rs => (.int .u64 ((rdFixed 8 rs).1 : Nat), (rdFixed 8 rs).2) := by
  intro w pb D rs hne ⟨sv, hb, hs, hnn⟩
  obtain ⟨src, bad, nn⟩ := rs
  obtain ⟨a, c, rfl, hc⟩ := hs.len
  obtain ⟨t1, t2, t3, t4, t5, t6⟩ := ht
  refine hI.call (args := [_]) (by simp [nt_pkbin_Reader_readUint64]) ?_
  simp [ir_pkbin_Reader_readUint64, rs_pkbin_Reader_readUint64, t5, ld_scl t1, Addr.add_mk, cell_of_blk hb, len_slice t3]
  by_cases hl : src.length < 8
  · refine cw_true (by simp; omega) ?_
    simp [t5, t6, Addr.add_mk, cell_of_blk hb, store_scl t2, store_scl t1, put1K_blk hb, put1K_blk (setBlk_same hb), Value.oneCell', setBlk_setBlk]
    simp only [rdFixed, if_pos hl]
    exact ⟨rfl, (Ext.refl _ _).setPb _ _, rdFail hb⟩
  · refine cw_false (by simp; omega) ?_
    have hl' : 8 ≤ src.length := by omega
    simp
    refine cw_regH (fun w' => Ext none1 w w') (Ext.refl _ _).drew ?_
    have e0 : ∀ w', Ext none1 w w' → w'.heap[pb]? = some (.cells #[.slice a src.length c, .bool bad] E.tRd (0, 0)) := fun w' he => he.old hb (fun h => h)
    have hE' := (Ext.refl none1 w).drew
    simp +contextual [t5, ld_agg kBE, cellsFrom, ld_scl t1, Addr.add_mk, World.cell?, hb, e0]
    refine (hU _ _ _ src (hs.ext hE' (fun _ _ _ h => h)) hl').mono ?_
    rintro v w1 ⟨rfl, he1⟩
    have he := hE'.trans he1
    have hb1 := e0 _ he
    have hs1 := hs.ext he (fun _ _ _ h => h)
    simp [he, t5, ld_scl t1, Addr.add_mk, hb1, store_scl t1, put1K_blk hb1, slice_cut t4, hl']
    simp only [rdFixed, if_neg hl]
    exact ⟨trivial, he.setPb _ _, rdCut hne hb1 hs1 hl' (nn := true) (hs1.ne (ne_of_le hl' (by omega)))⟩
theorem c_Int64 {P : Program} {E : Env} (hI : FnIs P E.f_pkbin_Reader_Int64 nt_pkbin_Reader_Int64 (rs_pkbin_Reader_Int64 E) (ir_pkbin_Reader_Int64 E))
    (iU : intKind? P E.tU64 = some .u64) (iI : intKind? P E.tI64 = some .i64) (hU : RdC P E.tRd E.f_pkbin_Reader_readUint64 fun rs => (.int .u64 ((rdFixed 8 rs).1 : Nat), (rdFixed 8 rs).2)) :
    RdC P E.tRd E.f_pkbin_Reader_Int64 fun rs => (.int .i64 (IntKind.i64.wrap (rdFixed 8 rs).1), (rdFixed 8 rs).2) := by
  intro w pb D rs hne hr
  refine hI.call (args := [_]) (by simp [nt_pkbin_Reader_Int64]) ?_
  simp [ir_pkbin_Reader_Int64, rs_pkbin_Reader_Int64]
  refine (hU _ _ D _ hne hr).mono ?_
  rintro v w1 ⟨rfl, he, hr1⟩
  simp [iU, iI, he, hr1]
theorem get1 {s : List UInt8} (h : ¬ s.length < 1) : ∃ a r, s = a :: r := by
  match s, h with
  | a :: r, _ => exact ⟨a, r, rfl⟩
  | [], h => simp at h
theorem c_Int8 {P : Program} {E : Env} (ht : TyRd P E) (hI : FnIs P E.f_pkbin_Reader_Int8 nt_pkbin_Reader_Int8 (rs_pkbin_Reader_Int8 E) (ir_pkbin_Reader_Int8 E))
    (kU8 : kindOf P E.tU8 = .scl) (iU : intKind? P E.tU8 = some .u8) (iI : intKind? P E.tI8 = some .i8) :
    RdC P E.tRd E.f_pkbin_Reader_Int8 fun rs => (.int .i8 (IntKind.i8.wrap (rdFixed 1 rs).1), (rdFixed 1 rs).2) := by
  intro w pb D rs hne ⟨sv, hb, hs, hnn⟩
  obtain ⟨src, bad, nn⟩ := rs
  obtain ⟨a, c, rfl, hc⟩ := hs.len
  obtain ⟨t1, t2, t3, t4, t5, t6⟩ := ht
  refine hI.call (args := [_]) (by simp [nt_pkbin_Reader_Int8]) ?_
  simp [ir_pkbin_Reader_Int8, rs_pkbin_Reader_Int8, t5, ld_scl t1, Addr.add_mk, cell_of_blk hb, len_slice t3]
  by_cases hl : src.length < 1
  · refine cw_true (by simp; omega) ?_
    simp [t5, t6, Addr.add_mk, cell_of_blk hb, store_scl t2, store_scl t1, put1K_blk hb, put1K_blk (setBlk_same hb), Value.oneCell', setBlk_setBlk]
    simp only [rdFixed, if_pos hl]
    exact ⟨rfl, (Ext.refl _ _).setPb _ _, rdFail hb⟩
  · refine cw_false (by simp; omega) ?_
    have hl' : 1 ≤ src.length := by omega
    obtain ⟨x, r, rfl⟩ := get1 hl
    have hcut := rdCut hne hb hs hl' (nn := true) (hs.ne (ne_of_le hl' (by omega)))
    rcases hs with ⟨h, h'⟩ | ⟨D', o, c', hv, hcp, _, hcc⟩
    · cases h'
    cases hv
    have hx := hcc 0 x rfl
    simp only [Nat.add_zero] at hx
    simp [t5, ld_scl t1, ld_scl kU8, Addr.add_mk, cell_of_blk hb, idx?, t4, hx, slice_cut t4, store_scl t1, put1K_blk hb, iU, iI]
    simp only [rdFixed, if_neg hl]
    refine ⟨?_, (Ext.refl _ _).setPb _ _, by simpa using hcut⟩
    simp [be]
def boolOf (n : Nat) : Bool := n != 0
/-- l bytes -/
def rdSpan (l : Int) (rs : RS) : List UInt8 × RS :=
  if (rs.src.length : Int) < l ∨ l < 0 then ([], .fail) else (rs.src.take l.toNat, ⟨rs.src.drop l.toNat, rs.bad, rs.nn⟩)
/-- A reader that hands back bytes. -/
def SpanC (P : Program) (TR f : Nat) : Prop := ∀ w pb D rs (l : Int), pb ≠ D → RdAt TR w pb D rs →
  Ret P f #[.pointer (some ⟨pb, 0, none⟩), .int .i64 l] w fun v w' => BytesAt w' (· = D) v (rdSpan l rs).1 ∧ nonNil v = (rdSpan l rs).2.nn ∧ Ext (fun x => x = pb) w w' ∧ RdAt TR w' pb D (rdSpan l rs).2
theorem c_Span {P : Program} {E : Env} (ht : TyRd P E) (hI : FnIs P E.f_pkbin_Reader_Span nt_pkbin_Reader_Span (rs_pkbin_Reader_Span E) (ir_pkbin_Reader_Span E)) :
    SpanC P E.tRd E.f_pkbin_Reader_Span := by
  intro w pb D rs l hne ⟨sv, hb, hs, hnn⟩
  obtain ⟨src, bad, nn⟩ := rs
  obtain ⟨a, c, rfl, hc⟩ := hs.len
  obtain ⟨t1, t2, t3, t4, t5, t6⟩ := ht
  refine hI.call (args := [_, _]) (by simp [nt_pkbin_Reader_Span]) ?_
  have fail : ∀ (h : (src.length : Int) < l ∨ l < 0), (BytesAt (w.setBlk pb (.cells #[.slice none 0 0, .bool true] E.tRd (0, 0))) (· = D) (.slice none 0 0) (rdSpan l ⟨src, bad, nn⟩).1 ∧ nonNil (.slice none 0 0) = (rdSpan l ⟨src, bad, nn⟩).2.nn ∧
      Ext (fun x => x = pb) w (w.setBlk pb (.cells #[.slice none 0 0, .bool true] E.tRd (0, 0))) ∧ RdAt E.tRd (w.setBlk pb (.cells #[.slice none 0 0, .bool true] E.tRd (0, 0))) pb D (rdSpan l ⟨src, bad, nn⟩).2) := by
    intro h
    simp only [rdSpan, if_pos h]
    exact ⟨.inl ⟨⟨_, rfl⟩, rfl⟩, rfl, (Ext.refl _ _).setPb _ _, rdFail hb⟩
  by_cases h1 : (src.length : Int) < l
  · simp [ir_pkbin_Reader_Span, rs_pkbin_Reader_Span, t5, ld_scl t1, Addr.add_mk, cell_of_blk hb, len_slice t3, h1]
    refine cw_true (by simp [h1]) ?_
    simp [t5, t6, Addr.add_mk, cell_of_blk hb, store_scl t2, store_scl t1, put1K_blk hb, put1K_blk (setBlk_same hb), Value.oneCell', setBlk_setBlk]
    simpa using fail (.inl h1)
  · by_cases h2 : l < 0
    · simp [ir_pkbin_Reader_Span, rs_pkbin_Reader_Span, t5, ld_scl t1, Addr.add_mk, cell_of_blk hb, len_slice t3, h1]
      refine cw_true (by simp [h1, h2]) ?_
      simp [t5, t6, Addr.add_mk, cell_of_blk hb, store_scl t2, store_scl t1, put1K_blk hb, put1K_blk (setBlk_same hb), Value.oneCell', setBlk_setBlk]
      simpa using fail (.inr h2)
    · obtain ⟨n, rfl⟩ := Int.eq_ofNat_of_zero_le (by omega : 0 ≤ l)
      have hn : n ≤ src.length := by omega
      simp [ir_pkbin_Reader_Span, rs_pkbin_Reader_Span, t5, ld_scl t1, Addr.add_mk, cell_of_blk hb, len_slice t3, h1]
      refine cw_false (by simp [h1, h2]) ?_
      have hcn : n ≤ c := Nat.le_trans hn hc
      have hnn' : a.isSome = nn := by
        have h : nonNil (.slice a src.length c) = nn := hnn
        rw [← h]; cases a <;> rfl
      simp [t5, ld_scl t1, Addr.add_mk, cell_of_blk hb, slice_hm t4 (k := .i64) (k' := .i64) (Nat.le_refl n) hcn, slice_cut t4 (k := .i64) (l := (n : Int)) (by omega) (by simpa using hn), store_scl t1, put1K_blk hb]
      simp only [rdSpan, if_neg (not_or.2 ⟨h1, h2⟩), Int.toNat_natCast]
      refine ⟨(hs.cutHi hn).ext ((Ext.refl none1 w).setPb pb _) (by rintro b _ rfl rfl; exact hne rfl), ?_, (Ext.refl _ _).setPb _ _, rdCut hne hb hs hn (by simpa [nonNil] using hnn')⟩
      rw [← hnn']
      cases a with
      | none => split <;> rfl
      | some a => split <;> rfl
end Go.Kg

set_option linter.unusedSimpArgs false
set_option linter.unusedVariables false
namespace Go.Kg
open Go
/-- Groups of seven bits, the lowest one first; the fifth one at most 15. -/
def uvGo : Nat → List UInt8 → Option (Nat × List UInt8)
  | _, [] => none
  | 0, b :: s => if b.toNat ≤ 15 then some (b.toNat, s) else none
  | k + 1, b :: s => if b.toNat < 128 then some (b.toNat, s) else (uvGo k s).map fun p => (b.toNat % 128 + 128 * p.1, p.2)
def uv (s : List UInt8) : Option (Nat × List UInt8) := uvGo 4 s
def UvF (P : Program) (f : Nat) : Prop := ∀ w K v s, BytesAt w K v s → Ret P f #[v] w fun u w' =>
  (match uv s with
  | some (n, r) => ∃ m : Nat, u = .tuple #[.int .u32 n, .int .i64 m] ∧ 0 < m ∧ m ≤ s.length ∧ r = s.drop m
  | none => ∃ m : Int, u = .tuple #[.int .u32 0, .int .i64 m] ∧ m ≤ 0) ∧ Ext none1 w w'
theorem and127 (x : UInt8) : bits .and .u8 (x.toNat : Int) 127 = ((x.toNat % 128 : Nat) : Int) := by
  have := x.toNat_lt
  rw [u8_and127 _ (by omega) (by omega)]
  rfl
theorem and128 (x : UInt8) : bits .and .u8 (x.toNat : Int) 128 = if x.toNat < 128 then 0 else 128 := by
  have key : ∀ n : Fin 256, bits .and .u8 (n.val : Int) 128 = if n.val < 128 then 0 else 128 := by decide +kernel
  exact key ⟨x.toNat, x.toNat_lt⟩
theorem u32_id (n : Nat) (h : n < 4294967296) : IntKind.u32.wrap (n : Int) = n := u32_wrap_id (x := (n : Int)) (by omega) (by omega)
theorem or7 (a b : Nat) (ha : a < 128) (hb : b < 128) : bits .or .u32 (a : Int) ((b : Int) * 128) = ((a + b * 128 : Nat) : Int) := by
  rw [bits_join_low .u32 32 (by decide) wraps_u32 7 _ _ (by omega) (by omega) (by omega) (by omega) (by omega) (by omega)]; omega
theorem or14 (a b : Nat) (ha : a < 16384) (hb : b < 128) : bits .or .u32 (a : Int) ((b : Int) * 16384) = ((a + b * 16384 : Nat) : Int) := by
  rw [bits_join_low .u32 32 (by decide) wraps_u32 14 _ _ (by omega) (by omega) (by omega) (by omega) (by omega) (by omega)]; omega
theorem or21 (a b : Nat) (ha : a < 2097152) (hb : b < 128) : bits .or .u32 (a : Int) ((b : Int) * 2097152) = ((a + b * 2097152 : Nat) : Int) := by
  rw [bits_join_low .u32 32 (by decide) wraps_u32 21 _ _ (by omega) (by omega) (by omega) (by omega) (by omega) (by omega)]; omega
theorem or28 (a b : Nat) (ha : a < 268435456) (hb : b < 16) : bits .or .u32 (a : Int) ((b : Int) * 268435456) = ((a + b * 268435456 : Nat) : Int) := by
  rw [bits_join_low .u32 32 (by decide) wraps_u32 28 _ _ (by omega) (by omega) (by omega) (by omega) (by omega) (by omega)]; omega
theorem sh (k a : Nat) (b : Nat) (h : b * k < 4294967296) : IntKind.u32.wrap ((b : Int) * (k : Int)) = (b : Int) * k := by
  have : ((b : Int) * k) = ((b * k : Nat) : Int) := by simp
  rw [this, u32_id _ h]
def uvPost (w : World) (s : List UInt8) (u : Value) (w' : World) : Prop :=
  (match uv s with
  | some (n, r) => ∃ m : Nat, u = .tuple #[.int .u32 n, .int .i64 m] ∧ 0 < m ∧ m ≤ s.length ∧ r = s.drop m
  | none => ∃ m : Int, u = .tuple #[.int .u32 0, .int .i64 m] ∧ m ≤ 0) ∧ Ext none1 w w'
theorem uvPost_some {w : World} {s : List UInt8} {n m : Nat} {r : List UInt8} (h : uv s = some (n, r)) (h0 : 0 < m) (h1 : m ≤ s.length) (h2 : r = s.drop m) : uvPost w s (.tuple #[.int .u32 n, .int .i64 m]) w := by
  simp only [uvPost, h]; exact ⟨⟨m, rfl, h0, h1, h2⟩, Ext.refl _ _⟩
theorem c_UvF {P : Program} {E : Env} (hI : FnIs P E.f_kbin_Uvarint nt_kbin_Uvarint (rs_kbin_Uvarint E) (ir_kbin_Uvarint E))
    (uBs : P.underlying E.tBs = some (.slice E.tU8)) (sBs : sliSz P E.tBs = some 1) (kU8 : kindOf P E.tU8 = .scl) (iU8 : intKind? P E.tU8 = some .u8) (iU32 : intKind? P E.tU32 = some .u32) : UvF P E.f_kbin_Uvarint := by
  intro w K v s hv
  refine Ret.mono (R := uvPost w s) ?_ (fun u w' h => h)
  obtain ⟨a, c, rfl, hc⟩ := hv.len
  refine hI.call (args := [_]) (by simp [nt_kbin_Uvarint]) ?_
  simp [ir_kbin_Uvarint, rs_kbin_Uvarint]
  refine cw_scope (fun f w' => w' = w ∧ uv s = none ∧ ∃ m : Int, f 5 = .int .i64 m ∧ m ≤ 0) (fun _ _ => 0) ?_ ?rest
  case rest =>
    rintro f w' ⟨rfl, hn, m, hm, hm0⟩
    simp [hm]
    simp only [uvPost, hn]
    exact ⟨⟨m, rfl, hm0⟩, Ext.refl _ _⟩
  rcases s with _ | ⟨b0, s⟩
  · simp [len_slice uBs]
    refine cw_true (by simp) ?_
    simp [uv, uvGo]
  rcases hv with ⟨_, h⟩ | ⟨D, o, c', hv, _, _, hcc⟩
  · cases h
  cases hv
  have e0 := hcc 0 b0 rfl
  simp only [Nat.add_zero] at e0
  simp [len_slice uBs]
  refine cw_false (by simp; omega) ?_
  have l0 := b0.toNat_lt
  obtain ⟨y0, hy0, a0⟩ : ∃ y : Nat, y = b0.toNat % 128 ∧ bits .and .u8 (b0.toNat : Int) 127 = (y : Int) := ⟨_, rfl, and127 b0⟩
  have w0 := u32_id y0 (by omega)
  simp [idx?, sBs, ld_scl kU8, e0, a0, and128, iU8, iU32, Addr.add_mk, w0]
  by_cases h0 : b0.toNat < 128
  · refine cw_true (by simp [h0]) ?_
    simp
    exact uvPost_some (m := 1) (by simp [uv, uvGo, h0]; omega) (by omega) (by simp) rfl
  refine cw_false (by simp [h0]) ?_
  rcases s with _ | ⟨b1, s⟩
  · simp [len_slice uBs]
    refine cw_true (by simp) ?_
    simp [uv, uvGo, h0]
  have e1 := hcc 1 b1 rfl
  have l1 := b1.toNat_lt
  simp [len_slice uBs]
  refine cw_false (by simp; omega) ?_
  obtain ⟨y1, hy1, a1⟩ : ∃ y : Nat, y = b1.toNat % 128 ∧ bits .and .u8 (b1.toNat : Int) 127 = (y : Int) := ⟨_, rfl, and127 b1⟩
  have w1 := u32_id y1 (by omega)
  have s1 : IntKind.u32.wrap ((y1 : Int) * 128) = (y1 : Int) * 128 := sh 128 0 y1 (by omega)
  obtain ⟨z1, hz1, o1⟩ : ∃ z : Nat, z = y0 + y1 * 128 ∧ bits .or .u32 (y0 : Int) ((y1 : Int) * 128) = (z : Int) := ⟨_, rfl, or7 _ _ (by omega) (by omega)⟩
  simp [idx?, sBs, ld_scl kU8, e1, a1, and128, iU8, iU32, Addr.add_mk, w1, s1, o1, IntKind.bits]
  by_cases h1 : b1.toNat < 128
  · refine cw_true (by simp [h1]) ?_
    simp
    exact uvPost_some (m := 2) (by simp [uv, uvGo, h0, h1]; omega) (by omega) (by simp) rfl
  refine cw_false (by simp [h1]) ?_
  rcases s with _ | ⟨b2, s⟩
  · simp [len_slice uBs]
    refine cw_true (by simp) ?_
    simp [uv, uvGo, h0, h1]
  have e2 := hcc 2 b2 rfl
  have l2 := b2.toNat_lt
  simp [len_slice uBs]
  refine cw_false (by simp; omega) ?_
  obtain ⟨y2, hy2, a2⟩ : ∃ y : Nat, y = b2.toNat % 128 ∧ bits .and .u8 (b2.toNat : Int) 127 = (y : Int) := ⟨_, rfl, and127 b2⟩
  have w2 := u32_id y2 (by omega)
  have s2 : IntKind.u32.wrap ((y2 : Int) * 16384) = (y2 : Int) * 16384 := sh 16384 0 y2 (by omega)
  obtain ⟨z2, hz2, o2⟩ : ∃ z : Nat, z = z1 + y2 * 16384 ∧ bits .or .u32 (z1 : Int) ((y2 : Int) * 16384) = (z : Int) := ⟨_, rfl, or14 _ _ (by omega) (by omega)⟩
  simp [idx?, sBs, ld_scl kU8, e2, a2, and128, iU8, iU32, Addr.add_mk, w2, s2, o2, IntKind.bits]
  by_cases h2 : b2.toNat < 128
  · refine cw_true (by simp [h2]) ?_
    simp
    exact uvPost_some (m := 3) (by simp [uv, uvGo, h0, h1, h2]; omega) (by omega) (by simp) rfl
  refine cw_false (by simp [h2]) ?_
  rcases s with _ | ⟨b3, s⟩
  · simp [len_slice uBs]
    refine cw_true (by simp) ?_
    simp [uv, uvGo, h0, h1, h2]
  have e3 := hcc 3 b3 rfl
  have l3 := b3.toNat_lt
  simp [len_slice uBs]
  refine cw_false (by simp; omega) ?_
  obtain ⟨y3, hy3, a3⟩ : ∃ y : Nat, y = b3.toNat % 128 ∧ bits .and .u8 (b3.toNat : Int) 127 = (y : Int) := ⟨_, rfl, and127 b3⟩
  have w3 := u32_id y3 (by omega)
  have s3 : IntKind.u32.wrap ((y3 : Int) * 2097152) = (y3 : Int) * 2097152 := sh 2097152 0 y3 (by omega)
  obtain ⟨z3, hz3, o3⟩ : ∃ z : Nat, z = z2 + y3 * 2097152 ∧ bits .or .u32 (z2 : Int) ((y3 : Int) * 2097152) = (z : Int) := ⟨_, rfl, or21 _ _ (by omega) (by omega)⟩
  simp [idx?, sBs, ld_scl kU8, e3, a3, and128, iU8, iU32, Addr.add_mk, w3, s3, o3, IntKind.bits]
  by_cases h3 : b3.toNat < 128
  · refine cw_true (by simp [h3]) ?_
    simp
    exact uvPost_some (m := 4) (by simp [uv, uvGo, h0, h1, h2, h3]; omega) (by omega) (by simp) rfl
  refine cw_false (by simp [h3]) ?_
  rcases s with _ | ⟨b4, s⟩
  · simp [len_slice uBs]
    refine cw_true (by simp) ?_
    simp [uv, uvGo, h0, h1, h2, h3]
  have e4 := hcc 4 b4 rfl
  have l4 := b4.toNat_lt
  simp [len_slice uBs]
  refine cw_false (by simp; omega) ?_
  have w4 := u32_id b4.toNat (by omega)
  by_cases h4 : b4.toNat ≤ 15
  · have s4 : IntKind.u32.wrap ((b4.toNat : Int) * 268435456) = (b4.toNat : Int) * 268435456 := sh 268435456 0 b4.toNat (by omega)
    obtain ⟨z4, hz4, o4⟩ : ∃ z : Nat, z = z3 + b4.toNat * 268435456 ∧ bits .or .u32 (z3 : Int) ((b4.toNat : Int) * 268435456) = (z : Int) := ⟨_, rfl, or28 _ _ (by omega) (by omega)⟩
    simp [idx?, sBs, ld_scl kU8, e4, iU8, iU32, Addr.add_mk, w4, s4, o4, IntKind.bits]
    refine cw_true (by simp; omega) ?_
    simp
    exact uvPost_some (m := 5) (by simp [uv, uvGo, h0, h1, h2, h3, h4]; omega) (by omega) (by simp) rfl
  · simp [idx?, sBs, ld_scl kU8, e4, iU8, iU32, Addr.add_mk, IntKind.bits]
    refine cw_false (by simp; omega) ?_
    simp
    have hn : uv (b0 :: b1 :: b2 :: b3 :: b4 :: s) = none := by simp [uv, uvGo, h0, h1, h2, h3, h4]
    simp only [uvPost, hn]
    exact ⟨⟨-5, rfl, by omega⟩, Ext.refl _ _⟩
end Go.Kg

set_option linter.unusedSimpArgs false
set_option linter.unusedVariables false
namespace Go.Kg
open Go
/-- A slice type t of elements e: of s cells, of so many bytes, whose zero value is z. -/
structure SliI (P : Program) (t e s bytes : Nat) (z : Value) : Prop where
  und : P.underlying t = some (.slice e)
  inf : ∃ i, P.info? e = some i ∧ i.zero = some z ∧ i.size = s ∧ i.bytes = bytes
  zs : z.cells.size = s
theorem SliI.siz {P : Program} {t e s bytes : Nat} {z : Value} (h : SliI P t e s bytes z) : sliSz P t = some s := by
  obtain ⟨i, h1, h2, h3, h4⟩ := h.inf
  simp [sliSz, h.und, h1, h3]
def denseFrom : Nat → List (Nat × Operand) → Bool
  | _, [] => true
  | i, p :: l => p.1 == i && denseFrom (i + 1) l
theorem denseFrom_spec {f : Nat → Value} : ∀ {l : List (Nat × Operand)} {i : Nat}, denseFrom i l = true → l.map (fun p => (p.1, evF f p.2)) = ((l.map fun p => evF f p.2).zipIdx i).map fun x => (x.2, x.1)
  | [], _, _ => rfl
  | p :: l, i, h => by
    simp only [denseFrom, Bool.and_eq_true, beq_iff_eq] at h
    simp only [List.map_cons, List.zipIdx_cons, denseFrom_spec h.2, h.1]
def flat (vs : List Value) : List Value := vs.flatMap fun v => v.cells.toList
theorem flat_length {s : Nat} : ∀ {vs : List Value}, (∀ v ∈ vs, v.cells.size = s) → (flat vs).length = vs.length * s
  | [], _ => by simp [flat]
  | v :: vs, h => by
    have := flat_length (vs := vs) fun u hu => h u (List.mem_cons_of_mem _ hu)
    have h0 := h v List.mem_cons_self
    simp only [flat, List.flatMap_cons, List.length_append, Array.length_toList, List.length_cons, Nat.add_mul, Nat.one_mul] at this ⊢
    omega
theorem flat_get {s : Nat} (hs : 0 < s) : ∀ {vs : List Value}, (∀ v ∈ vs, v.cells.size = s) → ∀ k, (flat vs)[k]? = (vs[k / s]?).bind fun v => v.cells[k % s]?
  | [], _, k => by simp [flat]
  | v :: vs, h, k => by
    have ih := flat_get hs (vs := vs) fun u hu => h u (List.mem_cons_of_mem _ hu)
    have h0 := h v List.mem_cons_self
    have e : flat (v :: vs) = v.cells.toList ++ flat vs := rfl
    rw [e]
    by_cases hk : k < s
    · rw [List.getElem?_append_left (by simp [h0, hk])]
      simp [Nat.div_eq_of_lt hk, Nat.mod_eq_of_lt hk]
    · rw [List.getElem?_append_right (by simp [h0]; omega), ih]
      have hd : k / s = (k - s) / s + 1 := by rw [← Nat.sub_add_cancel (by omega : s ≤ k)]; simp [Nat.add_div_right _ hs]
      have hm : k % s = (k - s) % s := Nat.mod_eq_sub_mod (by omega)
      simp [h0, hd, hm]
theorem fill_flat {s : Nat} (hs : 0 < s) {vs : List Value} (hv : ∀ v ∈ vs, v.cells.size = s) {cells : Array Value} (hc : cells.size = vs.length * s) :
    Instr.fill (fun i => some (i * s, s)) cells ((vs.zipIdx 0).map fun x => (x.2, x.1)) = some (flat vs).toArray := by
  obtain ⟨r, h1, h2, h3⟩ := Great.fill_dense hs vs 0 cells hv (by simpa using Nat.le_of_eq hc.symm)
  rw [h1]
  congr 1
  apply Array.ext_getElem?
  intro k
  rw [h3 k]
  simp only [Nat.zero_mul, Nat.zero_le, true_and, Nat.zero_add, Nat.sub_zero, List.getElem?_toArray]
  by_cases hk : k < vs.length * s
  · rw [if_pos hk, flat_get hs hv]
  · rw [if_neg hk, Array.getElem?_eq_none (by omega), List.getElem?_eq_none (by rw [flat_length hv]; omega)]
def allSz (s : Nat) : List Value → Bool
  | [] => true
  | v :: l => v.cells.size == s && allSz s l
theorem allSz_spec {s : Nat} : ∀ {l : List Value}, allSz s l = true → ∀ v ∈ l, v.cells.size = s
  | [], _ => by simp
  | v :: l, h => by
    simp only [allSz, Bool.and_eq_true, beq_iff_eq] at h
    intro u hu
    rcases List.mem_cons.1 hu with rfl | hu
    · exact h.1
    · exact allSz_spec h.2 u hu
section
variable {P : Program} {f : Nat → Value} {ty : TypeId} {w : World} {K : Value → World → Prop}
theorem st_bsl {t e s bytes n : Nat} {z : Value} {parts : Array (Nat × Operand)} (hS : SliI P t e s bytes z) (hs : 0 < s) (hd : denseFrom 0 parts.toList = true) (hn : parts.size = n) (h0 : 0 < n) (hsm : n * s ≤ 16777216)
    (hv' : allSz s (parts.toList.map fun p => evF f p.2) = true) :
    stepF P f (.buildSlice t n parts) ty w K = K (.slice (some ⟨w.heap.size, 0, none⟩) n n) (w.alloc (.cells (flat (parts.toList.map fun p => evF f p.2)).toArray e)) := by
  obtain ⟨i, h1, h2, h3, h4⟩ := hS.inf
  have hv := allSz_spec hv'
  have hfill := fill_flat hs hv (cells := (Array.range (n * s)).map (z.cells[· % z.cells.size]!)) (by simp [hn])
  rw [← denseFrom_spec hd] at hfill
  have hlt : 0 < n * s := Nat.mul_pos h0 hs
  have hr := run_buildSlice (P := P) w t e n (parts.map fun p => (p.1, evF f p.2)) _ i z hS.und h1 h2 (by rw [h3]; omega) (by rw [h3]; omega) (by rw [h3]; simpa using hfill)
  refine stepF_ok ?_
  simp only [runF, execOp]
  simp only [Sem.run_bind, hr, Result.andThen_ok, Sem.run_pure]
theorem st_bsl0 {t e s bytes : Nat} {z : Value} (hS : SliI P t e s bytes z) :
    stepF P f (.buildSlice t 0 #[]) ty w K = K (.slice (some ⟨w.heap.size, 0, none⟩) 0 0) (w.alloc (.cells #[] e)) := by
  obtain ⟨i, h1, h2, h3, h4⟩ := hS.inf
  refine stepF_ok ?_
  simp [runF, execOp, Instr.buildSlice, run_underlying hS.und, sizeOf, typeInfo, h1, Instr.fill, newRow, Array.range_zero']
/-- The blocks of a value that owns its row. -/
def own1 (v : Value) : Nat → Prop := fun b => v.ownBlock = some b
theorem Ext.grown {w w' : World} {v : Value} (h : w.grownBy w' v.ownBlock) : Ext (own1 v) w w' :=
  ⟨h.os, h.tape, h.output, h.size, fun k hk hn => h.block k hk fun e => hn e.symm⟩
/-- v' comes of v: outside v's own row nothing has turned, and the row of v' is v's or a new one. -/
structure Grew (w : World) (v : Value) (w' : World) (v' : Value) : Prop where
  ext : Ext (own1 v) w w'
  own : ∀ b, own1 v' b → own1 v b ∨ w.heap.size ≤ b
theorem Grew.refl (w : World) (v : Value) : Grew w v w v := ⟨Ext.refl _ _, fun _ h => .inl h⟩
theorem Grew.trans {w w1 w2 : World} {v v1 v2 : Value} (h : Grew w v w1 v1) (k : Grew w1 v1 w2 v2) : Grew w v w2 v2 :=
  ⟨⟨k.ext.os.trans h.ext.os, k.ext.tape.trans h.ext.tape, k.ext.output.trans h.ext.output, Nat.le_trans h.ext.size k.ext.size,
    fun i hi hc => (k.ext.block i (Nat.lt_of_lt_of_le hi h.ext.size) (fun hk => (h.own i hk).elim hc (by omega))).trans (h.ext.block i hi hc)⟩,
   fun b hb => (k.own b hb).elim (h.own b) fun h' => .inr (Nat.le_trans h.ext.size h')⟩
/-- something else in between that leaves all as it was -/
theorem Grew.pre {w w1 w2 : World} {v v2 : Value} (h : Ext none1 w w1) (k : Grew w1 v w2 v2) : Grew w v w2 v2 :=
  Grew.trans ⟨h.mono (fun _ _ h => h.elim), fun _ h => .inl h⟩ k
theorem Grew.post {w w1 w2 : World} {v v1 : Value} (k : Grew w v w1 v1) (h : Ext none1 w1 w2) : Grew w v w2 v1 :=
  Grew.trans k ⟨h.mono (fun _ _ h => h.elim), fun _ h => .inl h⟩
/-- v's own row holds the cells xs: n elements. -/
def Own (w : World) (base e s : Nat) (v : Value) (xs : List Value) : Prop := ∃ n, w.ownsRow base e s v n xs
theorem Own.nil (w : World) (base e s : Nat) : Own w base e s (.slice none 0 0) [] := ⟨0, World.ownsRow_nil w base e s⟩
theorem Own.below {w : World} {base e s : Nat} {v : Value} {xs : List Value} (h : Own w base e s v xs) {b : Nat} (hb : own1 v b) : base ≤ b ∧ b < w.heap.size := by
  obtain ⟨n, h⟩ := h; exact h.lt b hb
theorem Own.ext {w w' : World} {base e s : Nat} {v : Value} {xs : List Value} (h : Own w base e s v xs) {C : Nat → Prop} (he : Ext C w w') (hC : ∀ b, own1 v b → ¬ C b) : Own w' base e s v xs := by
  obtain ⟨n, h⟩ := h
  refine ⟨n, h.1, ?_⟩
  rcases h.2 with hn | ⟨g, cap, cur, rfl, hb, hgg, rest⟩
  · exact .inl hn
  · exact .inr ⟨g, cap, cur, rfl, hb, he.old hgg (hC g rfl), rest⟩
/-- One slice appended to another, by what the second one holds. -/
theorem st_append {t e s bytes : Nat} {z : Value} (hS : SliI P t e s bytes z) (hs : 0 < s) {x y : Operand} {base : Nat} {xs : List Value}
    (hown : Own w base e s (evF f x) xs) {ad : Option Addr} {m c : Nat} {news : List Value} (hy : evF f y = .slice ad m c) (hl : news.length = m * s)
    (hz : ad = none → m = 0 ∧ c = 0) (hnews : ∀ a, ad = some a → ∀ j u, news[j]? = some u → w.cell? (a.add j) = some u) (h1 : ∀ u ∈ news, u.oneCell' = true)
    (hb' : xs.length + news.length ≤ maxLen) (hbytes : (xs.length + news.length) * bytes ≤ 140737488355328) (hbase : base ≤ w.heap.size)
    (h : ∀ v' w', Own w' base e s v' (xs ++ news) → Grew w (evF f x) w' v' → K v' w') :
    stepF P f (.call { callee := .builtin .append, args := #[x, y], argTypes := #[t, t] }) ty w K := by
  obtain ⟨i, h1', h2', h3', h4'⟩ := hS.inf
  obtain ⟨n, hown⟩ := hown
  have hn : n ≤ xs.length := by rw [hown.1]; exact Nat.le_mul_of_pos_right n hs
  cases ad with
  | none =>
    obtain ⟨rfl, rfl⟩ := hz rfl
    have hnl : news = [] := List.eq_nil_of_length_eq_zero (by simpa using hl)
    subst hnl
    have hr := run_append_owned_none (P := P) w base t ty e i s hS.und h1' (evF f x) n xs hown
    rw [stepF_ok (v := evF f x) (w' := w)]
    · exact h _ _ ⟨n, by simpa using hown⟩ (Grew.refl _ _)
    · simp only [runF, execOp, resolve, invoke, builtin, Sem.run_bind, Sem.run_pure, Result.andThen_ok, List.map_toArray, List.map_cons, List.map_nil, hy, hr]
  | some a =>
    have hm : m ≤ news.length := by rw [hl]; exact Nat.le_mul_of_pos_right m hs
    obtain ⟨v', w', hr, ho, hg, hnil⟩ := run_append_own (P := P) w base t ty e i z s bytes hS.und h1' h2' h3' h4' hS.zs hs (evF f x) n xs hown a m c news hl (hnews a rfl) h1 (by omega)
      (Nat.le_trans (Nat.mul_le_mul_right bytes (by omega)) hbytes) hbase
    rw [stepF_ok (v := v') (w' := w')]
    · refine h _ _ ⟨_, ho⟩ ⟨Ext.grown hg, ?_⟩
      intro b hb
      have hown0 := hown
      obtain ⟨hx0, h2⟩ := hown
      generalize evF f x = v at *
      rcases h2 with ⟨rfl, rfl⟩ | ⟨g, cap, cur, rfl, hbg, hg', hnc, hcm, hcs, htake⟩
      · rcases Nat.eq_zero_or_pos m with rfl | hm0
        · have := hg.size
          have hlt := ho.lt b hb
          have hv : v' = .slice none 0 0 := hnil.2 ⟨rfl, rfl⟩
          subst hv; cases hb
        · have hr' := run_append_nil (P := P) w t ty e i z hS.und h1' h2' a m c news (by rw [hl, h3']) (hnews a rfl) hm0 (by simp only [maxLen] at hb'; omega) (by rw [h4']; have := Nat.le_trans (Nat.mul_le_mul_right bytes (by omega : m ≤ xs.length + news.length)) hbytes; omega)
          rw [hr] at hr'
          cases hr'
          simp only [own1, Value.ownBlock, Option.some.injEq] at hb
          exact .inr (by omega)
      · by_cases hroom : n + m ≤ cap
        · have hr' := run_append_room (P := P) w t ty e i hS.und h1' g n cap cur hg' a m c news (by rw [hl, h3']) (hnews a rfl) h1 hroom (by rw [h3', hl, hcs, ← Nat.add_mul]; exact Nat.mul_le_mul_right _ hroom)
          rw [hr] at hr'
          cases hr'
          exact .inl hb
        · have hr' := run_append_grow (P := P) w t ty e i z hS.und h1' h2' ⟨g, 0, none⟩ n cap xs (by rw [hx0, h3']) (hown0.cells rfl)
            a m c news (by rw [hl, h3']) (hnews a rfl) (by omega) (by simp only [maxLen] at hb'; omega) (by rw [h4']; exact growslice_fits (by omega) (Nat.le_trans (Nat.mul_le_mul_right bytes (by omega)) hbytes))
          rw [hr] at hr'
          cases hr'
          simp only [own1, Value.ownBlock, Option.some.injEq] at hb
          exact .inr (by omega)
    · simp only [runF, execOp, resolve, invoke, builtin, Sem.run_bind, Sem.run_pure, Result.andThen_ok, List.map_toArray, List.map_cons, List.map_nil, hy, hr]
@[simp] theorem stp_buildSlice {t n : Nat} {parts : Array (Nat × Operand)} : stp P f (.buildSlice t n parts) ty w K = stepF P f (.buildSlice t n parts) ty w K := (rfl)
@[simp] theorem stp_makeSlice {t : Nat} {x y : Operand} : stp P f (.makeSlice t x y) ty w K = stepF P f (.makeSlice t x y) ty w K := (rfl)
@[simp] theorem stp_index {t : Nat} {x y : Operand} : stp P f (.index t x y) ty w K = stepF P f (.index t x y) ty w K := (rfl)
def cellsOf (s : List UInt8) : List Value := s.map fun b => .int .u8 b.toNat
@[simp] theorem cellsOf_length {s : List UInt8} : (cellsOf s).length = s.length := by simp [cellsOf]
theorem cellsOf_append {s t : List UInt8} : cellsOf (s ++ t) = cellsOf s ++ cellsOf t := by simp [cellsOf]
theorem cellsOf_one {s : List UInt8} : ∀ u ∈ cellsOf s, u.oneCell' = true := by
  intro u hu
  obtain ⟨b, _, rfl⟩ := List.mem_map.1 hu
  rfl
/-- the byte of a number -/
def bval (x : Int) : UInt8 := UInt8.ofNat (x % 256).toNat
theorem u8wrap {x : Int} : IntKind.u8.wrap x = (bval x).toNat := by
  have h : (x % 256).toNat < 256 := by omega
  simp [bval, IntKind.wrap, IntKind.signed, IntKind.bits, Nat.mod_eq_of_lt h]
  omega
def OwnB (u8 : Nat) (w : World) (base : Nat) (v : Value) (s : List UInt8) : Prop := Own w base u8 1 v (cellsOf s)
theorem st_app_lit {t e : Nat} {z : Value} (hS : SliI P t e 1 1 z) {w0 : World} {x y : Operand} {base : Nat} {s : List UInt8} {v : Value} (hx : evF f x = v) (ho : OwnB e w0 base v s) (hw : base ≤ w0.heap.size) (bs : List UInt8) {cs : Array Value}
    (hcs : cs = (cellsOf bs).toArray) (hy : evF f y = .slice (some ⟨w0.heap.size, 0, none⟩) bs.length bs.length) (hsz : s.length + bs.length ≤ 1099511627776)
    (h : ∀ v' w', OwnB e w' base v' (s ++ bs) → Grew w0 v w' v' → K v' w') :
    stepF P f (.call { callee := .builtin .append, args := #[x, y], argTypes := #[t, t] }) ty (w0.alloc (.cells cs e)) K := by
  subst hx
  subst hcs
  have hE := (Ext.refl none1 w0).alloc (.cells (cellsOf bs).toArray e)
  refine st_append hS (by omega) (Own.ext ho hE (fun _ _ h => h)) hy (news := cellsOf bs) (by simp) (by simp) ?_ cellsOf_one (by simp [maxLen]; omega) (by simp; omega) (by simp; omega) ?_
  · intro a ha j u hu
    cases ha
    rw [Addr.add_mk, cell_of_blk alloc_new]
    simpa using hu
  · intro v' w' h1 h2
    refine h v' w' ?_ (Grew.pre hE h2)
    unfold OwnB; rw [cellsOf_append]; exact h1
theorem st_app_bytes {t e : Nat} {z : Value} (hS : SliI P t e 1 1 z) {x y : Operand} {base : Nat} {s : List UInt8} {v : Value} (hx : evF f x = v) (ho : OwnB e w base v s) (hw : base ≤ w.heap.size) {k : Nat → Prop} {bs : List UInt8}
    (hy : BytesAt w k (evF f y) bs) (hsz : s.length + bs.length ≤ 1099511627776)
    (h : ∀ v' w', OwnB e w' base v' (s ++ bs) → Grew w v w' v' → K v' w') :
    stepF P f (.call { callee := .builtin .append, args := #[x, y], argTypes := #[t, t] }) ty w K := by
  subst hx
  have hh : ∀ v' w', Own w' base e 1 v' (cellsOf s ++ cellsOf bs) → Grew w (evF f x) w' v' → K v' w' := by
    intro v' w' h1 h2
    refine h v' w' ?_ h2
    unfold OwnB; rw [cellsOf_append]; exact h1
  rcases hy with ⟨⟨a, hy⟩, rfl⟩ | ⟨b, o, c, hy, hc, _, hcc⟩
  · exact st_append hS (by omega) ho hy (by simp [cellsOf]) (by simp) (by simp [cellsOf]) cellsOf_one (by simp [maxLen] at hsz ⊢; omega) (by simp at hsz ⊢; omega) hw hh
  · refine st_append hS (by omega) ho hy (by simp) (by simp) ?_ cellsOf_one (by simp [maxLen]; omega) (by simp; omega) hw hh
    intro a ha j u hu
    cases ha
    rw [Addr.add_mk]
    simp only [cellsOf, List.getElem?_map, Option.map_eq_some_iff] at hu
    obtain ⟨x', hx', rfl⟩ := hu
    exact hcc j x' hx'
def bts (s : ByteArray) : List UInt8 := s.data.toList
@[simp] theorem bts_length {s : ByteArray} : (bts s).length = s.size := by simp [bts]
theorem strCells_eq {s : ByteArray} : Lib.strCells s = cellsOf (bts s) := rfl
theorem st_app_str {t u e : Nat} (hS : SliI P t e 1 1 (.int .u8 0)) (hu : P.underlying u = some .string) {x y : Operand} {base : Nat} {s : List UInt8} {v : Value} (hx : evF f x = v) (ho : OwnB e w base v s) (hw : base ≤ w.heap.size) {bs : ByteArray}
    (hy : evF f y = .string bs) (hsz : s.length + bs.size ≤ 1099511627776)
    (h : ∀ v' w', OwnB e w' base v' (s ++ bts bs) → Grew w v w' v' → K v' w') :
    stepF P f (.call { callee := .builtin .append, args := #[x, y], argTypes := #[t, u] }) ty w K := by
  subst hx
  obtain ⟨i, h1', h2', h3', h4'⟩ := hS.inf
  obtain ⟨n, hown⟩ := ho
  have hn : n = s.length := by simpa using hown.1.symm
  subst hn
  obtain ⟨v', w', hr, ho, hg, hnil⟩ := Lib.run_append_own_string (P := P) w base t u ty e i hS.und hu h1' h2' h3' h4' (evF f x) _ _ hown bs (by simp [maxLen]; omega) (by omega) hw
  rw [stepF_ok (v := v') (w' := w')]
  · refine h _ _ ?_ ⟨Ext.grown hg, ?_⟩
    · unfold OwnB; rw [cellsOf_append]; exact ⟨_, by rw [← strCells_eq]; exact ho⟩
    intro b hb
    have hown0 := hown
    obtain ⟨hx0, h2⟩ := hown
    generalize evF f x = v at *
    rcases h2 with ⟨rfl, hs0⟩ | ⟨g, cap, cur, rfl, hbg, hg', hnc, hcm, hcs, htake⟩
    · rcases Nat.eq_zero_or_pos bs.size with hm | hm0
      · have hv : v' = .slice none 0 0 := hnil.2 ⟨rfl, hm⟩
        subst hv; cases hb
      · have hr' := run_append_nil_string (P := P) w t u ty e i _ hS.und hu h1' h2' bs hm0 (by omega) (by rw [h4']; omega)
        rw [hr] at hr'
        cases hr'
        simp only [own1, Value.ownBlock, Option.some.injEq] at hb
        exact .inr (by omega)
    · by_cases hroom : s.length + bs.size ≤ cap
      · have hr' := Lib.run_append_room_string (P := P) w t u ty e i hS.und hu h1' h3' g s.length cap cur hg' bs hroom (by omega)
        rw [hr] at hr'
        cases hr'
        exact .inl hb
      · have hr' := Lib.run_append_grow_string (P := P) w t u ty e i _ hS.und hu h1' h2' ⟨g, 0, none⟩ s.length cap (cellsOf s) (by rw [hx0, h3']) (hown0.cells rfl)
          bs (by omega) (by omega) (by rw [h4']; exact growslice_fits (by omega) (by omega))
        rw [hr] at hr'
        cases hr'
        simp only [own1, Value.ownBlock, Option.some.injEq] at hb
        exact .inr (by omega)
  · simp only [runF, execOp, resolve, invoke, builtin, Sem.run_bind, Sem.run_pure, Result.andThen_ok, List.map_toArray, List.map_cons, List.map_nil, hy, hr]
end
end Go.Kg

set_option linter.unusedVariables false
namespace Go.Kg
open Go
def ir_kbin_AppendInt8 (E : Env) : Ir := (.seq (.reg [ ⟨none, some 4, .assign (.const (.slice none 0 0)), E.tBs⟩]) (.seq (.reg [ ⟨none, some 5, .move (.tmp 0), E.tBs⟩, ⟨none, some 6, .move (.tmp 1), E.tI8⟩, ⟨none, some 7, .convert E.tI8 E.tU8 (.tmp 6), E.tU8⟩, ⟨none, some 8, .buildSlice E.tBs 1 #[(0, .tmp 7)], E.tBs⟩, ⟨none, some 9, .call { callee := .builtin .append, args := #[.tmp 5, .tmp 8], argTypes := #[E.tBs, E.tBs] }, E.tBs⟩, ⟨none, some 4, .assign (.tmp 9), E.tBs⟩]) .ret))
def nt_kbin_AppendInt8 : Nat := 10
def rs_kbin_AppendInt8 (E : Env) : List Rv := [.t 4]
def ir_kbin_AppendInt16 (E : Env) : Ir := (.seq (.reg [ ⟨none, some 4, .assign (.const (.slice none 0 0)), E.tBs⟩]) (.seq (.reg [ ⟨none, some 5, .move (.tmp 0), E.tBs⟩, ⟨none, some 6, .move (.tmp 1), E.tI16⟩, ⟨none, some 7, .convert E.tI16 E.tU16 (.tmp 6), E.tU16⟩, ⟨none, some 8, .call { callee := .value (.func E.f_kbin_AppendUint16), args := #[.tmp 5, .tmp 7], argTypes := #[E.tBs, E.tU16] }, E.tBs⟩, ⟨none, some 4, .assign (.tmp 8), E.tBs⟩]) .ret))
def nt_kbin_AppendInt16 : Nat := 9
def rs_kbin_AppendInt16 (E : Env) : List Rv := [.t 4]
def ir_kbin_AppendUint16 (E : Env) : Ir := (.seq (.reg [ ⟨none, some 4, .assign (.const (.slice none 0 0)), E.tBs⟩]) (.seq (.reg [ ⟨none, some 5, .move (.tmp 0), E.tBs⟩, ⟨none, some 6, .move (.tmp 1), E.tU16⟩, ⟨none, some 7, .binOp .shr E.tU16 (.tmp 6) (.const (.int .u64 8)) E.tUint, E.tU16⟩, ⟨none, some 8, .convert E.tU16 E.tU8 (.tmp 7), E.tU8⟩, ⟨none, some 9, .move (.tmp 1), E.tU16⟩, ⟨none, some 10, .convert E.tU16 E.tU8 (.tmp 9), E.tU8⟩, ⟨none, some 11, .buildSlice E.tBs 2 #[(0, .tmp 8), (1, .tmp 10)], E.tBs⟩, ⟨none, some 12, .call { callee := .builtin .append, args := #[.tmp 5, .tmp 11], argTypes := #[E.tBs, E.tBs] }, E.tBs⟩, ⟨none, some 4, .assign (.tmp 12), E.tBs⟩]) .ret))
def nt_kbin_AppendUint16 : Nat := 13
def rs_kbin_AppendUint16 (E : Env) : List Rv := [.t 4]
def ir_kbin_AppendInt32 (E : Env) : Ir := (.seq (.reg [ ⟨none, some 4, .assign (.const (.slice none 0 0)), E.tBs⟩]) (.seq (.reg [ ⟨none, some 5, .move (.tmp 0), E.tBs⟩, ⟨none, some 6, .move (.tmp 1), E.tI32⟩, ⟨none, some 7, .convert E.tI32 E.tU32 (.tmp 6), E.tU32⟩, ⟨none, some 8, .call { callee := .value (.func E.f_kbin_AppendUint32), args := #[.tmp 5, .tmp 7], argTypes := #[E.tBs, E.tU32] }, E.tBs⟩, ⟨none, some 4, .assign (.tmp 8), E.tBs⟩]) .ret))
def nt_kbin_AppendInt32 : Nat := 9
def rs_kbin_AppendInt32 (E : Env) : List Rv := [.t 4]
def ir_kbin_AppendUint32 (E : Env) : Ir := (.seq (.reg [ ⟨none, some 4, .assign (.const (.slice none 0 0)), E.tBs⟩]) (.seq (.reg [ ⟨none, some 5, .move (.tmp 0), E.tBs⟩, ⟨none, some 6, .move (.tmp 1), E.tU32⟩, ⟨none, some 7, .binOp .shr E.tU32 (.tmp 6) (.const (.int .u64 24)) E.tUint, E.tU32⟩, ⟨none, some 8, .convert E.tU32 E.tU8 (.tmp 7), E.tU8⟩, ⟨none, some 9, .move (.tmp 1), E.tU32⟩, ⟨none, some 10, .binOp .shr E.tU32 (.tmp 9) (.const (.int .u64 16)) E.tUint, E.tU32⟩, ⟨none, some 11, .convert E.tU32 E.tU8 (.tmp 10), E.tU8⟩, ⟨none, some 12, .move (.tmp 1), E.tU32⟩, ⟨none, some 13, .binOp .shr E.tU32 (.tmp 12) (.const (.int .u64 8)) E.tUint, E.tU32⟩, ⟨none, some 14, .convert E.tU32 E.tU8 (.tmp 13), E.tU8⟩, ⟨none, some 15, .move (.tmp 1), E.tU32⟩, ⟨none, some 16, .convert E.tU32 E.tU8 (.tmp 15), E.tU8⟩, ⟨none, some 17, .buildSlice E.tBs 4 #[(0, .tmp 8), (1, .tmp 11), (2, .tmp 14), (3, .tmp 16)], E.tBs⟩, ⟨none, some 18, .call { callee := .builtin .append, args := #[.tmp 5, .tmp 17], argTypes := #[E.tBs, E.tBs] }, E.tBs⟩, ⟨none, some 4, .assign (.tmp 18), E.tBs⟩]) .ret))
def nt_kbin_AppendUint32 : Nat := 19
def rs_kbin_AppendUint32 (E : Env) : List Rv := [.t 4]
def ir_kbin_AppendInt64 (E : Env) : Ir := (.seq (.reg [ ⟨none, some 4, .assign (.const (.slice none 0 0)), E.tBs⟩]) (.seq (.reg [ ⟨none, some 5, .move (.tmp 0), E.tBs⟩, ⟨none, some 6, .move (.tmp 1), E.tI64⟩, ⟨none, some 7, .convert E.tI64 E.tU64 (.tmp 6), E.tU64⟩, ⟨none, some 8, .call { callee := .value (.func E.f_kbin_appendUint64), args := #[.tmp 5, .tmp 7], argTypes := #[E.tBs, E.tU64] }, E.tBs⟩, ⟨none, some 4, .assign (.tmp 8), E.tBs⟩]) .ret))
def nt_kbin_AppendInt64 : Nat := 9
def rs_kbin_AppendInt64 (E : Env) : List Rv := [.t 4]
def ir_kbin_appendUint64 (E : Env) : Ir := (.seq (.reg [ ⟨none, some 4, .assign (.const (.slice none 0 0)), E.tBs⟩]) (.seq (.reg [ ⟨none, some 5, .move (.tmp 0), E.tBs⟩, ⟨none, some 6, .move (.tmp 1), E.tU64⟩, ⟨none, some 7, .binOp .shr E.tU64 (.tmp 6) (.const (.int .u64 56)) E.tUint, E.tU64⟩, ⟨none, some 8, .convert E.tU64 E.tU8 (.tmp 7), E.tU8⟩, ⟨none, some 9, .move (.tmp 1), E.tU64⟩, ⟨none, some 10, .binOp .shr E.tU64 (.tmp 9) (.const (.int .u64 48)) E.tUint, E.tU64⟩, ⟨none, some 11, .convert E.tU64 E.tU8 (.tmp 10), E.tU8⟩, ⟨none, some 12, .move (.tmp 1), E.tU64⟩, ⟨none, some 13, .binOp .shr E.tU64 (.tmp 12) (.const (.int .u64 40)) E.tUint, E.tU64⟩, ⟨none, some 14, .convert E.tU64 E.tU8 (.tmp 13), E.tU8⟩, ⟨none, some 15, .move (.tmp 1), E.tU64⟩, ⟨none, some 16, .binOp .shr E.tU64 (.tmp 15) (.const (.int .u64 32)) E.tUint, E.tU64⟩, ⟨none, some 17, .convert E.tU64 E.tU8 (.tmp 16), E.tU8⟩, ⟨none, some 18, .move (.tmp 1), E.tU64⟩, ⟨none, some 19, .binOp .shr E.tU64 (.tmp 18) (.const (.int .u64 24)) E.tUint, E.tU64⟩, ⟨none, some 20, .convert E.tU64 E.tU8 (.tmp 19), E.tU8⟩, ⟨none, some 21, .move (.tmp 1), E.tU64⟩, ⟨none, some 22, .binOp .shr E.tU64 (.tmp 21) (.const (.int .u64 16)) E.tUint, E.tU64⟩, ⟨none, some 23, .convert E.tU64 E.tU8 (.tmp 22), E.tU8⟩, ⟨none, some 24, .move (.tmp 1), E.tU64⟩, ⟨none, some 25, .binOp .shr E.tU64 (.tmp 24) (.const (.int .u64 8)) E.tUint, E.tU64⟩, ⟨none, some 26, .convert E.tU64 E.tU8 (.tmp 25), E.tU8⟩, ⟨none, some 27, .move (.tmp 1), E.tU64⟩, ⟨none, some 28, .convert E.tU64 E.tU8 (.tmp 27), E.tU8⟩, ⟨none, some 29, .buildSlice E.tBs 8 #[(0, .tmp 8), (1, .tmp 11), (2, .tmp 14), (3, .tmp 17), (4, .tmp 20), (5, .tmp 23), (6, .tmp 26), (7, .tmp 28)], E.tBs⟩, ⟨none, some 30, .call { callee := .builtin .append, args := #[.tmp 5, .tmp 29], argTypes := #[E.tBs, E.tBs] }, E.tBs⟩, ⟨none, some 4, .assign (.tmp 30), E.tBs⟩]) .ret))
def nt_kbin_appendUint64 : Nat := 31
def rs_kbin_appendUint64 (E : Env) : List Rv := [.t 4]
def ir_kbin_AppendUuid (E : Env) : Ir := (.seq (.reg [ ⟨none, some 3, .box E.tUu (.tmp 1), E.tNil⟩, ⟨none, some 4, .assign (.const (.slice none 0 0)), E.tBs⟩]) (.seq (.reg [ ⟨none, some 5, .move (.tmp 0), E.tBs⟩, ⟨none, some 6, .slice E.tUu (.tmp 3) none none none, E.tBs⟩, ⟨none, some 7, .call { callee := .builtin .append, args := #[.tmp 5, .tmp 6], argTypes := #[E.tBs, E.tBs] }, E.tBs⟩, ⟨none, some 4, .assign (.tmp 7), E.tBs⟩]) .ret))
def nt_kbin_AppendUuid : Nat := 8
def rs_kbin_AppendUuid (E : Env) : List Rv := [.t 4]
def ir_kbin_AppendUvarint (E : Env) : Ir := (.seq (.reg [ ⟨none, some 4, .assign (.const (.slice none 0 0)), E.tBs⟩]) (.seq (.seq (.reg [ ⟨none, some 5, .move (.tmp 1), E.tU32⟩, ⟨none, some 6, .call { callee := .value (.func E.f_kbin_UvarintLen), args := #[.tmp 5], argTypes := #[E.tU32] }, E.tInt⟩]) (.block 0 (.seq (.reg [ ⟨none, some 8, .binOp .eql E.tInt (.tmp 6) (.const (.int .i64 5)) E.tInt, E.tB⟩, ⟨none, some 7, .assign (.tmp 8), E.tB⟩]) (.cond 7 (.seq (.reg [ ⟨none, some 9, .move (.tmp 0), E.tBs⟩, ⟨none, some 10, .move (.tmp 1), E.tU32⟩, ⟨none, some 11, .binOp .and E.tU32 (.tmp 10) (.const (.int .u32 127)) E.tU32, E.tU32⟩, ⟨none, some 12, .binOp .or E.tU32 (.tmp 11) (.const (.int .u32 128)) E.tU32, E.tU32⟩, ⟨none, some 13, .convert E.tU32 E.tU8 (.tmp 12), E.tU8⟩, ⟨none, some 14, .move (.tmp 1), E.tU32⟩, ⟨none, some 15, .binOp .shr E.tU32 (.tmp 14) (.const (.int .u64 7)) E.tUint, E.tU32⟩, ⟨none, some 16, .binOp .and E.tU32 (.tmp 15) (.const (.int .u32 127)) E.tU32, E.tU32⟩, ⟨none, some 17, .binOp .or E.tU32 (.tmp 16) (.const (.int .u32 128)) E.tU32, E.tU32⟩, ⟨none, some 18, .convert E.tU32 E.tU8 (.tmp 17), E.tU8⟩, ⟨none, some 19, .move (.tmp 1), E.tU32⟩, ⟨none, some 20, .binOp .shr E.tU32 (.tmp 19) (.const (.int .u64 14)) E.tUint, E.tU32⟩, ⟨none, some 21, .binOp .and E.tU32 (.tmp 20) (.const (.int .u32 127)) E.tU32, E.tU32⟩, ⟨none, some 22, .binOp .or E.tU32 (.tmp 21) (.const (.int .u32 128)) E.tU32, E.tU32⟩, ⟨none, some 23, .convert E.tU32 E.tU8 (.tmp 22), E.tU8⟩, ⟨none, some 24, .move (.tmp 1), E.tU32⟩, ⟨none, some 25, .binOp .shr E.tU32 (.tmp 24) (.const (.int .u64 21)) E.tUint, E.tU32⟩, ⟨none, some 26, .binOp .and E.tU32 (.tmp 25) (.const (.int .u32 127)) E.tU32, E.tU32⟩, ⟨none, some 27, .binOp .or E.tU32 (.tmp 26) (.const (.int .u32 128)) E.tU32, E.tU32⟩, ⟨none, some 28, .convert E.tU32 E.tU8 (.tmp 27), E.tU8⟩, ⟨none, some 29, .move (.tmp 1), E.tU32⟩, ⟨none, some 30, .binOp .shr E.tU32 (.tmp 29) (.const (.int .u64 28)) E.tUint, E.tU32⟩, ⟨none, some 31, .convert E.tU32 E.tU8 (.tmp 30), E.tU8⟩, ⟨none, some 32, .buildSlice E.tBs 5 #[(0, .tmp 13), (1, .tmp 18), (2, .tmp 23), (3, .tmp 28), (4, .tmp 31)], E.tBs⟩, ⟨none, some 33, .call { callee := .builtin .append, args := #[.tmp 9, .tmp 32], argTypes := #[E.tBs, E.tBs] }, E.tBs⟩, ⟨none, some 4, .assign (.tmp 33), E.tBs⟩]) .ret) (.seq (.reg [ ⟨none, some 35, .binOp .eql E.tInt (.tmp 6) (.const (.int .i64 4)) E.tInt, E.tB⟩, ⟨none, some 34, .assign (.tmp 35), E.tB⟩]) (.cond 34 (.seq (.reg [ ⟨none, some 36, .move (.tmp 0), E.tBs⟩, ⟨none, some 37, .move (.tmp 1), E.tU32⟩, ⟨none, some 38, .binOp .and E.tU32 (.tmp 37) (.const (.int .u32 127)) E.tU32, E.tU32⟩, ⟨none, some 39, .binOp .or E.tU32 (.tmp 38) (.const (.int .u32 128)) E.tU32, E.tU32⟩, ⟨none, some 40, .convert E.tU32 E.tU8 (.tmp 39), E.tU8⟩, ⟨none, some 41, .move (.tmp 1), E.tU32⟩, ⟨none, some 42, .binOp .shr E.tU32 (.tmp 41) (.const (.int .u64 7)) E.tUint, E.tU32⟩, ⟨none, some 43, .binOp .and E.tU32 (.tmp 42) (.const (.int .u32 127)) E.tU32, E.tU32⟩, ⟨none, some 44, .binOp .or E.tU32 (.tmp 43) (.const (.int .u32 128)) E.tU32, E.tU32⟩, ⟨none, some 45, .convert E.tU32 E.tU8 (.tmp 44), E.tU8⟩, ⟨none, some 46, .move (.tmp 1), E.tU32⟩, ⟨none, some 47, .binOp .shr E.tU32 (.tmp 46) (.const (.int .u64 14)) E.tUint, E.tU32⟩, ⟨none, some 48, .binOp .and E.tU32 (.tmp 47) (.const (.int .u32 127)) E.tU32, E.tU32⟩, ⟨none, some 49, .binOp .or E.tU32 (.tmp 48) (.const (.int .u32 128)) E.tU32, E.tU32⟩, ⟨none, some 50, .convert E.tU32 E.tU8 (.tmp 49), E.tU8⟩, ⟨none, some 51, .move (.tmp 1), E.tU32⟩, ⟨none, some 52, .binOp .shr E.tU32 (.tmp 51) (.const (.int .u64 21)) E.tUint, E.tU32⟩, ⟨none, some 53, .convert E.tU32 E.tU8 (.tmp 52), E.tU8⟩, ⟨none, some 54, .buildSlice E.tBs 4 #[(0, .tmp 40), (1, .tmp 45), (2, .tmp 50), (3, .tmp 53)], E.tBs⟩, ⟨none, some 55, .call { callee := .builtin .append, args := #[.tmp 36, .tmp 54], argTypes := #[E.tBs, E.tBs] }, E.tBs⟩, ⟨none, some 4, .assign (.tmp 55), E.tBs⟩]) .ret) (.seq (.reg [ ⟨none, some 57, .binOp .eql E.tInt (.tmp 6) (.const (.int .i64 3)) E.tInt, E.tB⟩, ⟨none, some 56, .assign (.tmp 57), E.tB⟩]) (.cond 56 (.seq (.reg [ ⟨none, some 58, .move (.tmp 0), E.tBs⟩, ⟨none, some 59, .move (.tmp 1), E.tU32⟩, ⟨none, some 60, .binOp .and E.tU32 (.tmp 59) (.const (.int .u32 127)) E.tU32, E.tU32⟩, ⟨none, some 61, .binOp .or E.tU32 (.tmp 60) (.const (.int .u32 128)) E.tU32, E.tU32⟩, ⟨none, some 62, .convert E.tU32 E.tU8 (.tmp 61), E.tU8⟩, ⟨none, some 63, .move (.tmp 1), E.tU32⟩, ⟨none, some 64, .binOp .shr E.tU32 (.tmp 63) (.const (.int .u64 7)) E.tUint, E.tU32⟩, ⟨none, some 65, .binOp .and E.tU32 (.tmp 64) (.const (.int .u32 127)) E.tU32, E.tU32⟩, ⟨none, some 66, .binOp .or E.tU32 (.tmp 65) (.const (.int .u32 128)) E.tU32, E.tU32⟩, ⟨none, some 67, .convert E.tU32 E.tU8 (.tmp 66), E.tU8⟩, ⟨none, some 68, .move (.tmp 1), E.tU32⟩, ⟨none, some 69, .binOp .shr E.tU32 (.tmp 68) (.const (.int .u64 14)) E.tUint, E.tU32⟩, ⟨none, some 70, .convert E.tU32 E.tU8 (.tmp 69), E.tU8⟩, ⟨none, some 71, .buildSlice E.tBs 3 #[(0, .tmp 62), (1, .tmp 67), (2, .tmp 70)], E.tBs⟩, ⟨none, some 72, .call { callee := .builtin .append, args := #[.tmp 58, .tmp 71], argTypes := #[E.tBs, E.tBs] }, E.tBs⟩, ⟨none, some 4, .assign (.tmp 72), E.tBs⟩]) .ret) (.seq (.reg [ ⟨none, some 74, .binOp .eql E.tInt (.tmp 6) (.const (.int .i64 2)) E.tInt, E.tB⟩, ⟨none, some 73, .assign (.tmp 74), E.tB⟩]) (.cond 73 (.seq (.reg [ ⟨none, some 75, .move (.tmp 0), E.tBs⟩, ⟨none, some 76, .move (.tmp 1), E.tU32⟩, ⟨none, some 77, .binOp .and E.tU32 (.tmp 76) (.const (.int .u32 127)) E.tU32, E.tU32⟩, ⟨none, some 78, .binOp .or E.tU32 (.tmp 77) (.const (.int .u32 128)) E.tU32, E.tU32⟩, ⟨none, some 79, .convert E.tU32 E.tU8 (.tmp 78), E.tU8⟩, ⟨none, some 80, .move (.tmp 1), E.tU32⟩, ⟨none, some 81, .binOp .shr E.tU32 (.tmp 80) (.const (.int .u64 7)) E.tUint, E.tU32⟩, ⟨none, some 82, .convert E.tU32 E.tU8 (.tmp 81), E.tU8⟩, ⟨none, some 83, .buildSlice E.tBs 2 #[(0, .tmp 79), (1, .tmp 82)], E.tBs⟩, ⟨none, some 84, .call { callee := .builtin .append, args := #[.tmp 75, .tmp 83], argTypes := #[E.tBs, E.tBs] }, E.tBs⟩, ⟨none, some 4, .assign (.tmp 84), E.tBs⟩]) .ret) (.seq (.reg [ ⟨none, some 86, .binOp .eql E.tInt (.tmp 6) (.const (.int .i64 1)) E.tInt, E.tB⟩, ⟨none, some 85, .assign (.tmp 86), E.tB⟩]) (.cond 85 (.seq (.reg [ ⟨none, some 87, .move (.tmp 0), E.tBs⟩, ⟨none, some 88, .move (.tmp 1), E.tU32⟩, ⟨none, some 89, .convert E.tU32 E.tU8 (.tmp 88), E.tU8⟩, ⟨none, some 90, .buildSlice E.tBs 1 #[(0, .tmp 89)], E.tBs⟩, ⟨none, some 91, .call { callee := .builtin .append, args := #[.tmp 87, .tmp 90], argTypes := #[E.tBs, E.tBs] }, E.tBs⟩, ⟨none, some 4, .assign (.tmp 91), E.tBs⟩]) .ret) .skip)))))))))))) (.seq (.reg [ ⟨none, some 92, .move (.tmp 0), E.tBs⟩, ⟨none, some 4, .assign (.tmp 92), E.tBs⟩]) .ret)))
def nt_kbin_AppendUvarint : Nat := 93
def rs_kbin_AppendUvarint (E : Env) : List Rv := [.t 4]
def ir_kbin_UvarintLen (E : Env) : Ir := (.seq (.reg [ ⟨none, some 2, .assign (.const (.int .i64 0)), E.tInt⟩]) (.seq (.reg [ ⟨none, some 3, .move (.tmp 0), E.tU32⟩, ⟨none, some 4, .call { callee := .value (.func E.f_math_bits_Len32), args := #[.tmp 3], argTypes := #[E.tU32] }, E.tInt⟩, ⟨none, some 5, .convert E.tInt E.tU8 (.tmp 4), E.tU8⟩, ⟨none, some 6, .index E.tS (.const (.string tabU)) (.tmp 5), E.tU8⟩, ⟨none, some 7, .convert E.tU8 E.tInt (.tmp 6), E.tInt⟩, ⟨none, some 2, .assign (.tmp 7), E.tInt⟩]) .ret))
def nt_kbin_UvarintLen : Nat := 8
def rs_kbin_UvarintLen (E : Env) : List Rv := [.t 2]
def ir_kbin_AppendString (E : Env) : Ir := (.seq (.reg [ ⟨none, some 4, .assign (.const (.slice none 0 0)), E.tBs⟩]) (.seq (.reg [ ⟨none, some 5, .move (.tmp 0), E.tBs⟩, ⟨none, some 6, .move (.tmp 1), E.tS⟩, ⟨none, some 7, .call { callee := .builtin .len, args := #[.tmp 6], argTypes := #[E.tS] }, E.tInt⟩, ⟨none, some 8, .convert E.tInt E.tI16 (.tmp 7), E.tI16⟩, ⟨none, some 9, .call { callee := .value (.func E.f_kbin_AppendInt16), args := #[.tmp 5, .tmp 8], argTypes := #[E.tBs, E.tI16] }, E.tBs⟩, ⟨none, some 0, .assign (.tmp 9), E.tBs⟩]) (.seq (.reg [ ⟨none, some 10, .move (.tmp 0), E.tBs⟩, ⟨none, some 11, .move (.tmp 1), E.tS⟩, ⟨none, some 12, .call { callee := .builtin .append, args := #[.tmp 10, .tmp 11], argTypes := #[E.tBs, E.tS] }, E.tBs⟩, ⟨none, some 4, .assign (.tmp 12), E.tBs⟩]) .ret)))
def nt_kbin_AppendString : Nat := 13
def rs_kbin_AppendString (E : Env) : List Rv := [.t 4]
def ir_kbin_AppendCompactString (E : Env) : Ir := (.seq (.reg [ ⟨none, some 4, .assign (.const (.slice none 0 0)), E.tBs⟩]) (.seq (.reg [ ⟨none, some 5, .move (.tmp 0), E.tBs⟩, ⟨none, some 6, .move (.tmp 1), E.tS⟩, ⟨none, some 7, .call { callee := .builtin .len, args := #[.tmp 6], argTypes := #[E.tS] }, E.tInt⟩, ⟨none, some 8, .convert E.tInt E.tU32 (.tmp 7), E.tU32⟩, ⟨none, some 9, .binOp .add E.tU32 (.const (.int .u32 1)) (.tmp 8) E.tU32, E.tU32⟩, ⟨none, some 10, .call { callee := .value (.func E.f_kbin_AppendUvarint), args := #[.tmp 5, .tmp 9], argTypes := #[E.tBs, E.tU32] }, E.tBs⟩, ⟨none, some 0, .assign (.tmp 10), E.tBs⟩]) (.seq (.reg [ ⟨none, some 11, .move (.tmp 0), E.tBs⟩, ⟨none, some 12, .move (.tmp 1), E.tS⟩, ⟨none, some 13, .call { callee := .builtin .append, args := #[.tmp 11, .tmp 12], argTypes := #[E.tBs, E.tS] }, E.tBs⟩, ⟨none, some 4, .assign (.tmp 13), E.tBs⟩]) .ret)))
def nt_kbin_AppendCompactString : Nat := 14
def rs_kbin_AppendCompactString (E : Env) : List Rv := [.t 4]
def ir_kbin_AppendNullableString (E : Env) : Ir := (.seq (.reg [ ⟨none, some 4, .assign (.const (.slice none 0 0)), E.tBs⟩]) (.seq (.seq (.reg [ ⟨none, some 5, .move (.tmp 1), E.tPS⟩, ⟨none, some 6, .binOp .eql E.tPS (.tmp 5) (.const (.pointer none)) E.tPS, E.tB⟩]) (.cond 6 (.seq (.reg [ ⟨none, some 7, .move (.tmp 0), E.tBs⟩, ⟨none, some 8, .call { callee := .value (.func E.f_kbin_AppendInt16), args := #[.tmp 7, .const (.int .i16 (-1))], argTypes := #[E.tBs, E.tI16] }, E.tBs⟩, ⟨none, some 4, .assign (.tmp 8), E.tBs⟩]) .ret) .skip)) (.seq (.reg [ ⟨none, some 9, .move (.tmp 0), E.tBs⟩, ⟨none, some 10, .move (.tmp 1), E.tPS⟩, ⟨none, some 11, .nilCheck (.tmp 10), E.tNil⟩, ⟨none, some 12, .load E.tS (.tmp 11), E.tS⟩, ⟨none, some 13, .call { callee := .value (.func E.f_kbin_AppendString), args := #[.tmp 9, .tmp 12], argTypes := #[E.tBs, E.tS] }, E.tBs⟩, ⟨none, some 4, .assign (.tmp 13), E.tBs⟩]) .ret)))
def nt_kbin_AppendNullableString : Nat := 14
def rs_kbin_AppendNullableString (E : Env) : List Rv := [.t 4]
def ir_kbin_AppendCompactNullableString (E : Env) : Ir := (.seq (.reg [ ⟨none, some 4, .assign (.const (.slice none 0 0)), E.tBs⟩]) (.seq (.seq (.reg [ ⟨none, some 5, .move (.tmp 1), E.tPS⟩, ⟨none, some 6, .binOp .eql E.tPS (.tmp 5) (.const (.pointer none)) E.tPS, E.tB⟩]) (.cond 6 (.seq (.reg [ ⟨none, some 7, .move (.tmp 0), E.tBs⟩, ⟨none, some 8, .call { callee := .value (.func E.f_kbin_AppendUvarint), args := #[.tmp 7, .const (.int .u32 0)], argTypes := #[E.tBs, E.tU32] }, E.tBs⟩, ⟨none, some 4, .assign (.tmp 8), E.tBs⟩]) .ret) .skip)) (.seq (.reg [ ⟨none, some 9, .move (.tmp 0), E.tBs⟩, ⟨none, some 10, .move (.tmp 1), E.tPS⟩, ⟨none, some 11, .nilCheck (.tmp 10), E.tNil⟩, ⟨none, some 12, .load E.tS (.tmp 11), E.tS⟩, ⟨none, some 13, .call { callee := .value (.func E.f_kbin_AppendCompactString), args := #[.tmp 9, .tmp 12], argTypes := #[E.tBs, E.tS] }, E.tBs⟩, ⟨none, some 4, .assign (.tmp 13), E.tBs⟩]) .ret)))
def nt_kbin_AppendCompactNullableString : Nat := 14
def rs_kbin_AppendCompactNullableString (E : Env) : List Rv := [.t 4]
def ir_kbin_AppendArrayLen (E : Env) : Ir := (.seq (.reg [ ⟨none, some 4, .assign (.const (.slice none 0 0)), E.tBs⟩]) (.seq (.reg [ ⟨none, some 5, .move (.tmp 0), E.tBs⟩, ⟨none, some 6, .move (.tmp 1), E.tInt⟩, ⟨none, some 7, .convert E.tInt E.tI32 (.tmp 6), E.tI32⟩, ⟨none, some 8, .call { callee := .value (.func E.f_kbin_AppendInt32), args := #[.tmp 5, .tmp 7], argTypes := #[E.tBs, E.tI32] }, E.tBs⟩, ⟨none, some 4, .assign (.tmp 8), E.tBs⟩]) .ret))
def nt_kbin_AppendArrayLen : Nat := 9
def rs_kbin_AppendArrayLen (E : Env) : List Rv := [.t 4]
def ir_kbin_AppendCompactArrayLen (E : Env) : Ir := (.seq (.reg [ ⟨none, some 4, .assign (.const (.slice none 0 0)), E.tBs⟩]) (.seq (.reg [ ⟨none, some 5, .move (.tmp 0), E.tBs⟩, ⟨none, some 6, .move (.tmp 1), E.tInt⟩, ⟨none, some 7, .convert E.tInt E.tU32 (.tmp 6), E.tU32⟩, ⟨none, some 8, .binOp .add E.tU32 (.const (.int .u32 1)) (.tmp 7) E.tU32, E.tU32⟩, ⟨none, some 9, .call { callee := .value (.func E.f_kbin_AppendUvarint), args := #[.tmp 5, .tmp 8], argTypes := #[E.tBs, E.tU32] }, E.tBs⟩, ⟨none, some 4, .assign (.tmp 9), E.tBs⟩]) .ret))
def nt_kbin_AppendCompactArrayLen : Nat := 10
def rs_kbin_AppendCompactArrayLen (E : Env) : List Rv := [.t 4]
def ir_math_bits_Len32 (E : Env) : Ir := (.seq (.reg [ ⟨none, some 2, .assign (.const (.int .i64 0)), E.tInt⟩]) (.seq (.seq (.reg [ ⟨none, some 3, .move (.tmp 0), E.tU32⟩, ⟨none, some 4, .binOp .geq E.tU32 (.tmp 3) (.const (.int .u32 65536)) E.tU32, E.tB⟩]) (.cond 4 (.seq (.reg [ ⟨none, some 5, .move (.tmp 0), E.tU32⟩, ⟨none, some 6, .binOp .shr E.tU32 (.tmp 5) (.const (.int .u64 16)) E.tUint, E.tU32⟩, ⟨none, some 0, .assign (.tmp 6), E.tU32⟩]) (.reg [ ⟨none, some 2, .assign (.const (.int .i64 16)), E.tInt⟩])) .skip)) (.seq (.seq (.reg [ ⟨none, some 7, .move (.tmp 0), E.tU32⟩, ⟨none, some 8, .binOp .geq E.tU32 (.tmp 7) (.const (.int .u32 256)) E.tU32, E.tB⟩]) (.cond 8 (.seq (.reg [ ⟨none, some 9, .move (.tmp 0), E.tU32⟩, ⟨none, some 10, .binOp .shr E.tU32 (.tmp 9) (.const (.int .u64 8)) E.tUint, E.tU32⟩, ⟨none, some 0, .assign (.tmp 10), E.tU32⟩]) (.reg [ ⟨none, some 11, .move (.tmp 2), E.tInt⟩, ⟨none, some 12, .binOp .add E.tInt (.tmp 11) (.const (.int .i64 8)) E.tInt, E.tInt⟩, ⟨none, some 2, .assign (.tmp 12), E.tInt⟩])) .skip)) (.seq (.reg [ ⟨none, some 13, .move (.tmp 2), E.tInt⟩, ⟨none, some 14, .move (.tmp 0), E.tU32⟩, ⟨none, some 15, .convert E.tU32 E.tU8 (.tmp 14), E.tU8⟩, ⟨none, some 16, .index E.tS (.const (.string tab8)) (.tmp 15), E.tU8⟩, ⟨none, some 17, .convert E.tU8 E.tInt (.tmp 16), E.tInt⟩, ⟨none, some 18, .binOp .add E.tInt (.tmp 13) (.tmp 17) E.tInt, E.tInt⟩, ⟨none, some 2, .assign (.tmp 18), E.tInt⟩]) .ret))))
def nt_math_bits_Len32 : Nat := 19
def rs_math_bits_Len32 (E : Env) : List Rv := [.t 2]
end Go.Kg

set_option linter.unusedSimpArgs false
set_option linter.unusedVariables false
namespace Go.Kg
open Go
/-- f appends 'out' to what it is handed. -/
def WrC (P : Program) (u8 f : Nat) (args : List Value) (out : List UInt8) : Prop := ∀ w base v s, OwnB u8 w base v s → base ≤ w.heap.size → s.length + out.length ≤ 1099511627776 →
  Ret P f (v :: args).toArray w fun v' w' => OwnB u8 w' base v' (s ++ out) ∧ Grew w v w' v'
/-- What the writers ask of the types. -/
structure TyWr (P : Program) (E : Env) : Prop where
  sBs : SliI P E.tBs E.tU8 1 1 (.int .u8 0)
  iU8 : intKind? P E.tU8 = some .u8
  iU16 : intKind? P E.tU16 = some .u16
  iU32 : intKind? P E.tU32 = some .u32
  iU64 : intKind? P E.tU64 = some .u64
  iI16 : E.tI16 ≠ 0 → intKind? P E.tI16 = some .i16
  iI32 : intKind? P E.tI32 = some .i32
  iI64 : intKind? P E.tI64 = some .i64
  iInt : intKind? P E.tInt = some .i64
def bigE : Nat → Nat → List UInt8
  | 0, _ => []
  | k + 1, n => UInt8.ofNat (n / 256 ^ k) :: bigE k n
@[simp] theorem bigE_length : ∀ {k n : Nat}, (bigE k n).length = k
  | 0, _ => rfl
  | k + 1, n => by simp [bigE, bigE_length]
theorem bval_nat {x : Int} {n : Nat} (h : x = n) : bval x = UInt8.ofNat n := by
  subst h
  apply UInt8.toNat_inj.1
  have : ((n : Int) % 256).toNat = n % 256 := by omega
  simp [bval, this]
theorem c_wInt8 {P : Program} {E : Env} (ht : TyWr P E) (hI : FnIs P E.f_kbin_AppendInt8 nt_kbin_AppendInt8 (rs_kbin_AppendInt8 E) (ir_kbin_AppendInt8 E)) (iI8 : intKind? P E.tI8 = some .i8) (n : Int) :
    WrC P E.tU8 E.f_kbin_AppendInt8 [.int .i8 n] [bval n] := by
  intro w base v s ho hw hsz
  refine hI.call (args := [_, _]) (by simp [nt_kbin_AppendInt8]) ?_
  simp [ir_kbin_AppendInt8, rs_kbin_AppendInt8, iI8, ht.iU8, st_bsl ht.sBs, denseFrom, allSz, flat, Value.cells, u8wrap]
  refine st_app_lit ht.sBs (by simp) ho hw [bval n] (by simp [flat, cellsOf, Value.cells]) (by simp) (by simpa using hsz) ?_
  intro v' w' h1 h2
  exact ⟨h1, h2⟩
theorem c_wU16 {P : Program} {E : Env} (ht : TyWr P E) (hI : FnIs P E.f_kbin_AppendUint16 nt_kbin_AppendUint16 (rs_kbin_AppendUint16 E) (ir_kbin_AppendUint16 E)) (n : Nat) :
    WrC P E.tU8 E.f_kbin_AppendUint16 [.int .u16 n] (bigE 2 n) := by
  intro w base v s ho hw hsz
  refine hI.call (args := [_, _]) (by simp [nt_kbin_AppendUint16]) ?_
  simp [ir_kbin_AppendUint16, rs_kbin_AppendUint16, ht.iU16, ht.iU8, st_bsl ht.sBs, denseFrom, allSz, flat, Value.cells, u8wrap, bin?, IntKind.bits]
  refine st_app_lit ht.sBs (by simp) ho hw (bigE 2 n) ?_ (by simp) (by simpa using hsz) ?_
  · simp [flat, cellsOf, Value.cells, bigE, bval, Int.fdiv_eq_ediv_of_nonneg]
    omega
  intro v' w' h1 h2
  exact ⟨h1, h2⟩
theorem c_wU32 {P : Program} {E : Env} (ht : TyWr P E) (hI : FnIs P E.f_kbin_AppendUint32 nt_kbin_AppendUint32 (rs_kbin_AppendUint32 E) (ir_kbin_AppendUint32 E)) (n : Nat) :
    WrC P E.tU8 E.f_kbin_AppendUint32 [.int .u32 n] (bigE 4 n) := by
  intro w base v s ho hw hsz
  refine hI.call (args := [_, _]) (by simp [nt_kbin_AppendUint32]) ?_
  simp [ir_kbin_AppendUint32, rs_kbin_AppendUint32, ht.iU32, ht.iU8, st_bsl ht.sBs, denseFrom, allSz, flat, Value.cells, u8wrap, bin?, IntKind.bits]
  refine st_app_lit ht.sBs (by simp) ho hw (bigE 4 n) ?_ (by simp) (by simpa using hsz) ?_
  · simp [flat, cellsOf, Value.cells, bigE, bval, Int.fdiv_eq_ediv_of_nonneg]
    omega
  intro v' w' h1 h2
  exact ⟨h1, h2⟩
theorem c_wU64 {P : Program} {E : Env} (ht : TyWr P E) (hI : FnIs P E.f_kbin_appendUint64 nt_kbin_appendUint64 (rs_kbin_appendUint64 E) (ir_kbin_appendUint64 E)) (n : Nat) :
    WrC P E.tU8 E.f_kbin_appendUint64 [.int .u64 n] (bigE 8 n) := by
  intro w base v s ho hw hsz
  refine hI.call (args := [_, _]) (by simp [nt_kbin_appendUint64]) ?_
  simp [ir_kbin_appendUint64, rs_kbin_appendUint64, ht.iU64, ht.iU8, st_bsl ht.sBs, denseFrom, allSz, flat, Value.cells, u8wrap, bin?, IntKind.bits]
  refine st_app_lit ht.sBs (by simp) ho hw (bigE 8 n) ?_ (by simp) (by simpa using hsz) ?_
  · simp [flat, cellsOf, Value.cells, bigE, bval, Int.fdiv_eq_ediv_of_nonneg]
    omega
  intro v' w' h1 h2
  exact ⟨h1, h2⟩
theorem c_wInt16 {P : Program} {E : Env} (ht : TyWr P E) (n16 : E.tI16 ≠ 0) (hI : FnIs P E.f_kbin_AppendInt16 nt_kbin_AppendInt16 (rs_kbin_AppendInt16 E) (ir_kbin_AppendInt16 E))
    (hu : ∀ n : Nat, WrC P E.tU8 E.f_kbin_AppendUint16 [.int .u16 n] (bigE 2 n)) (n : Int) :
    WrC P E.tU8 E.f_kbin_AppendInt16 [.int .i16 n] (bigE 2 (n % 65536).toNat) := by
  intro w base v s ho hw hsz
  refine hI.call (args := [_, _]) (by simp [nt_kbin_AppendInt16]) ?_
  have e : IntKind.u16.wrap n = ((n % 65536).toNat : Nat) := by simp [IntKind.wrap, IntKind.signed, IntKind.bits]; omega
  simp [ir_kbin_AppendInt16, rs_kbin_AppendInt16, ht.iI16 n16, ht.iU16, e]
  simpa using hu _ w base v s ho hw hsz
theorem c_wInt32 {P : Program} {E : Env} (ht : TyWr P E) (hI : FnIs P E.f_kbin_AppendInt32 nt_kbin_AppendInt32 (rs_kbin_AppendInt32 E) (ir_kbin_AppendInt32 E))
    (hu : ∀ n : Nat, WrC P E.tU8 E.f_kbin_AppendUint32 [.int .u32 n] (bigE 4 n)) (n : Int) :
    WrC P E.tU8 E.f_kbin_AppendInt32 [.int .i32 n] (bigE 4 (n % 4294967296).toNat) := by
  intro w base v s ho hw hsz
  refine hI.call (args := [_, _]) (by simp [nt_kbin_AppendInt32]) ?_
  have e : IntKind.u32.wrap n = ((n % 4294967296).toNat : Nat) := by simp [IntKind.wrap, IntKind.signed, IntKind.bits]; omega
  simp [ir_kbin_AppendInt32, rs_kbin_AppendInt32, ht.iI32, ht.iU32, e]
  simpa using hu _ w base v s ho hw hsz
theorem c_wInt64 {P : Program} {E : Env} (ht : TyWr P E) (hI : FnIs P E.f_kbin_AppendInt64 nt_kbin_AppendInt64 (rs_kbin_AppendInt64 E) (ir_kbin_AppendInt64 E))
    (hu : ∀ n : Nat, WrC P E.tU8 E.f_kbin_appendUint64 [.int .u64 n] (bigE 8 n)) (n : Int) :
    WrC P E.tU8 E.f_kbin_AppendInt64 [.int .i64 n] (bigE 8 (n % 18446744073709551616).toNat) := by
  intro w base v s ho hw hsz
  refine hI.call (args := [_, _]) (by simp [nt_kbin_AppendInt64]) ?_
  have e : IntKind.u64.wrap n = ((n % 18446744073709551616).toNat : Nat) := by simp [IntKind.wrap, IntKind.signed, IntKind.bits]; omega
  simp [ir_kbin_AppendInt64, rs_kbin_AppendInt64, ht.iI64, ht.iU64, e]
  simpa using hu _ w base v s ho hw hsz
end Go.Kg
