/- What is proved here: how the code of the messages runs, in general: a semantics of calls by their texts, and contracts of the functions of kbin and of the reference. No condition but those that each theorem names. -/
import Derived.ProofKit
import Derived.WideKeyArgs
import Derived.ChangeSlices
import Derived.OpenShut
import Derived.RowKit
import Derived.Test.YtidabeiamjhmdaaGreatKc
set_option linter.unusedSectionVars false
set_option linter.unusedSimpArgs false
set_option linter.unusedVariables false
set_option linter.unusedSimpArgs false
set_option linter.unusedVariables false
namespace Go.Kg
open Go
section
variable {P : Program} {C : Cfg}
theorem primW_i16 (h : ∀ n : Int, WrC P C.E.tU8 C.E.f_kbin_AppendInt16 [.int .i16 n] (bigE 2 (n % 65536).toNat)) : PrimW P C .i16 := by
  intro fl _ x u w base v s hp
  have : u = .int .i16 x := hp
  subst this
  exact h x w base v s
theorem primW_i32 (h : ∀ n : Int, WrC P C.E.tU8 C.E.f_kbin_AppendInt32 [.int .i32 n] (bigE 4 (n % 4294967296).toNat)) : PrimW P C .i32 := by
  intro fl _ x u w base v s hp
  have : u = .int .i32 x := hp
  subst this
  exact h x w base v s
theorem primW_str (h : ∀ l, WrC P C.E.tU8 C.E.f_kbin_AppendString [strV l] (wStr l)) (hc : C.fx = true → ∀ l, WrC P C.E.tU8 C.E.f_kbin_AppendCompactString [strV l] (wCStr l)) : PrimW P C .str := by
  intro fl hfl x u w base v s hp
  have : u = strV x := hp
  subst this
  cases fl
  · exact h x w base v s
  · exact hc (hfl rfl) x w base v s
theorem primW_nstr (h : ∀ o u, WrP P C.E.tU8 C.E.f_kbin_AppendNullableString (fun w base => StrPtr w (· < base) u o) [u] (wNStr o))
    (hc : C.fx = true → ∀ o u, WrP P C.E.tU8 C.E.f_kbin_AppendCompactNullableString (fun w base => StrPtr w (· < base) u o) [u] (wCNStr o)) : PrimW P C .nstr := by
  intro fl hfl x u
  cases fl
  · exact h x u
  · exact hc (hfl rfl) x u
theorem lenWC_none (h : ∀ n : Nat, WrC P C.E.tU8 C.E.f_kbin_AppendArrayLen [.int .i64 n] (wLen n)) (hc : C.fx = true → ∀ n : Nat, WrC P C.E.tU8 C.E.f_kbin_AppendCompactArrayLen [.int .i64 n] (wCLen n)) : LenWC P C none := by
  intro fl hfl n b
  cases fl
  · exact h n
  · exact hc (hfl rfl) n
end
end Go.Kg

set_option linter.unusedSimpArgs false
set_option linter.unusedVariables false
namespace Go.Kg
open Go Go.ChangeShapes Go.WideShapes Go.ChangeAt Go.RowKit
theorem FnIs.of {P : Program} {g N : Nat} {rs : List Rv} {ir : Ir} {fn : Func} (hm : P.follows .mixedOrders = true) (h1 : P.funcs[g]? = some fn) (h2 : fn.body.bind (erase N) = some ir) (h3 : fn.ntmps = N)
    (h4 : fn.results = (rs.map Rv.var).toArray) (h5 : (fn.name == "runtime.NumGoroutine") = false) : FnIs P g N rs ir := by
  refine ⟨hm, ?_⟩
  cases hb : fn.body with
  | none => rw [hb] at h2; cases h2
  | some c => rw [hb] at h2; exact ⟨fn, c, h1, hb, h3, h4, h5, h2⟩
theorem sli_of {P : Program} {t e s bytes : Nat} {z : Value} (hu : P.underlying t = some (.slice e)) (hi : (P.info? e).map (fun i => (i.zero, i.size, i.bytes)) = some (some z, s, bytes)) (hz : z.cells.size = s) : SliI P t e s bytes z := by
  refine ⟨hu, ?_, hz⟩
  cases h : P.info? e with
  | none => rw [h] at hi; cases hi
  | some i => rw [h] at hi; simp at hi; exact ⟨i, rfl, hi.1, hi.2.1, hi.2.2⟩
def FH.okB (h : FH) : Bool := decide (-1 ≤ h.tag) && decide (h.tag < 1000) && decide (-9223372036854775808 ≤ h.dflt) && decide (h.dflt < 9223372036854775808)
def FS.okB : FS → Bool
  | .nil => true
  | .cons h sub rest => h.okB && decide (sub.len ≤ 1000) && sub.okB && rest.okB
theorem FS.ok_of : ∀ {F : FS}, F.okB = true → F.okAll
  | .nil, _ => trivial
  | .cons h sub rest, hb => by
    simp only [FS.okB, FH.okB, Bool.and_eq_true, decide_eq_true_eq] at hb
    exact ⟨⟨hb.1.1.1.1.1.1, hb.1.1.1.1.1.2⟩, ⟨hb.1.1.1.1.2, hb.1.1.1.2⟩, hb.1.1.2, FS.ok_of hb.1.2, FS.ok_of hb.2⟩
def psNe (xs : List FSrc) : Bool := !xs.isEmpty && decide (xs.length ≤ 1000) && xs.all fun x => !x.ps.isEmpty && psOk x.ps
theorem psNe_of {xs : List FSrc} (h : psNe xs = true) : xs ≠ [] ∧ xs.length ≤ 1000 ∧ (∀ x ∈ xs, x.ps ≠ []) ∧ ∀ x ∈ xs, psOk x.ps = true := by
  simp only [psNe, Bool.and_eq_true, List.all_eq_true, Bool.not_eq_true', List.isEmpty_eq_false_iff, decide_eq_true_eq] at h
  exact ⟨h.1.1, h.1.2, fun x hx => (h.2 x hx).1, fun x hx => (h.2 x hx).2⟩
/-- the functions of a message's own lists -/
def subsOk (P : Program) : List FSrc → Prop
  | [] => True
  | x :: r => (∀ g F, x.sub = some (g, F) → SubC P g F) ∧ subsOk P r
theorem srcOk_of {P : Program} : ∀ {xs : List FSrc}, (∀ x ∈ xs, psOk x.ps = true) → subsOk P xs → srcOk P xs
  | [], _, _ => trivial
  | x :: r, h, hs => ⟨h x List.mem_cons_self, hs.1, srcOk_of (fun y hy => h y (List.mem_cons_of_mem _ hy)) hs.2⟩
theorem sub_of {P : Program} {E : Env} (ht : TyK P E) {g nt : Nat} {xs : List FSrc} (hI : FnIs P g nt [.t 0] (irSub E xs)) (hb : psNe xs = true) (hs : subsOk P xs) : SubC P g (mkFS xs) := by
  obtain ⟨h1, h2, h3, h4⟩ := psNe_of hb
  exact sub_sound ht hI h1 h2 (srcOk_of h4 hs) h3
theorem msg_of {P : Program} {E : Env} (ht : TyK P E) {g nt : Nat} {xs : List FSrc} {fx : Int} (hI : FnIs P g nt [.c 0 E.t_spec_Message] (irMsg E xs fx)) (hb : psNe xs = true) (hs : subsOk P xs) : MsgC P g (mkFS xs) fx := by
  obtain ⟨h1, h2, h3, h4⟩ := psNe_of hb
  exact msg_sound ht hI h1 h2 (srcOk_of h4 hs) h3
theorem ext_kept {w w' : World} (h : Ext none1 w w') (may : MemPlace → Prop) : w.keptBut w' may := by
  refine ⟨h.os, h.output, fun i hi => ?_⟩
  rw [h.block i hi (fun h => h)]
  have : ∃ o, w.heap[i]? = some o := ⟨_, Array.getElem?_eq_getElem hi⟩
  obtain ⟨o, ho⟩ := this
  rw [ho]
  cases o <;> simp
theorem ext_frozen {w w' : World} (h : Ext none1 w w') (a : Addr) (ha : a.block < w.heap.size) : w'.frozen? a = w.frozen? a := by
  simp only [World.frozen?, h.block a.block ha (fun h => h)]
theorem post_of_ext {H : Type} {enc : TypeId × Value → H} {P : Program} {f : Func} {s : ChangeSpec} {apart fresh handsOn again : Bool} {W W' : World} {args : Array Value} {v : Value} {ds gs : List (DataW H)} {before pa pv : List MemPlace}
    (hW : DataW.Whole enc P f.params.toList s.vars apart W args.toList ds gs before)
    (hres : ∀ (b : Nat) (sp : Nat → Bool) (hd : Bool), DataW.TrodAll enc P W' b sp hd f.resultTypes.toList (v.resultList f.resultTypes.size) (s.fn H (ds ++ gs)).results [])
    (hargs : ∀ sp : Nat → Bool, (∀ p ∈ before, sp p.block = true) → DataW.TrodAll enc P W' 0 sp true f.params.toList args.toList (s.fn H (ds ++ gs)).args pa)
    (hvars : ∀ sp : Nat → Bool, (∀ p ∈ before, sp p.block = true) → DataW.TrodVars enc P W' sp s.vars (s.fn H (ds ++ gs)).vars pv)
    (hps : before = pa ++ pv) (he : Ext none1 W W')
    (hok : ∀ (j : Nat) (t : TypeId) (r : Value), f.resultTypes[j]? = some t → (v.resultList f.resultTypes.size)[j]? = some r → Value.okWide P W' .any 0 t r) :
    s.post enc P f apart fresh handsOn again W args v W' := by
  have hold : ∀ p ∈ before, (fun b => decide (b < W.heap.size)) p.block = true := fun p hp => by simpa using hW.lt p hp
  have hlt := hW.lt
  refine ⟨ds, gs, before, [], pa, pv, hW, hres _ _ _, hargs _ hold, hvars _ hold, World.keptBut_mono (fun p hp => ⟨hp, ?_⟩) (ext_kept he (· ∈ before)), fun _ => ?_⟩
  · rw [hps, List.mem_append] at hp
    exact Or.inr hp
  · obtain ⟨_, _, _, _, _, hz, hn⟩ := hW
    refine ⟨hok, _, _, ([] ++ pa) ++ pv, ⟨[] ++ pa, pv, trodAll_append (hargs _ (fun _ _ => rfl)) (hres _ _ _), hvars _ (fun _ _ => rfl), rfl, ?_, ?_⟩, ?_⟩
    · intro b off hp
      have hp' : MemPlace.cell b off ∈ before := by rw [hps]; simpa using hp
      rw [ext_frozen he _ (hlt _ hp')]
      exact hz b off hp'
    · intro ha
      have := hn ha
      rw [hps] at this
      simpa using this
    · intro p hp _
      rw [hps]
      simpa using hp
end Go.Kg

set_option linter.unusedSimpArgs false
set_option linter.unusedVariables false
namespace Go.Kg
open Go Go.ChangeShapes Go.WideShapes Go.ChangeAt Go.RowKit
end Go.Kg

set_option linter.unusedSimpArgs false
set_option linter.unusedVariables false
namespace Go.Kg
open Go Go.ChangeShapes Go.WideShapes Go.ChangeAt Go.RowKit
mutual
def Tr.sz : Tr → Nat
  | .mk _ s _ l u => 1 + s.length + Tr.szL l + (u.map fun x => 1 + x.2.length).sum
def Tr.szL : List Tr → Nat
  | [] => 0
  | t :: l => t.sz + Tr.szL l
end
end Go.Kg

set_option linter.unusedSimpArgs false
set_option linter.unusedVariables false
set_option linter.unusedSectionVars false
namespace Go.Kg
open Go
end Go.Kg

set_option linter.unusedSimpArgs false
set_option linter.unusedVariables false
set_option linter.unusedSectionVars false
namespace Go.Kg
open Go
end Go.Kg

set_option linter.unusedSimpArgs false
set_option linter.unusedVariables false
set_option linter.unusedSectionVars false
namespace Go.Kg
open Go
end Go.Kg

set_option linter.unusedSimpArgs false
set_option linter.unusedVariables false
set_option linter.unusedSectionVars false
namespace Go.Kg
open Go
end Go.Kg

set_option linter.unusedSimpArgs false
set_option linter.unusedVariables false
set_option linter.unusedSectionVars false
namespace Go.Kg
open Go
section
variable {P : Program} {E : Env} (ht : TyK P E) (hs : SpecFns P E)
include ht hs
end
end Go.Kg

set_option linter.unusedSimpArgs false
set_option linter.unusedVariables false
set_option linter.unusedSectionVars false
namespace Go.Kg
open Go
section
variable {P : Program} {E : Env} (ht : TyK P E) (hs : SpecFns P E)
include ht hs
end
end Go.Kg

set_option linter.unusedSimpArgs false
set_option linter.unusedVariables false
set_option linter.unusedSectionVars false
namespace Go.Kg
open Go
section
variable {P : Program} {E : Env} (ht : TyK P E) (hs : SpecFns P E)
include ht hs
end
end Go.Kg

set_option linter.unusedSimpArgs false
set_option linter.unusedVariables false
set_option linter.unusedSectionVars false
namespace Go.Kg
open Go
section
variable {P : Program} {E : Env} (ht : TyK P E) (hs : SpecFns P E)
include ht hs
end
end Go.Kg

set_option linter.unusedSimpArgs false
set_option linter.unusedVariables false
set_option linter.unusedSectionVars false
namespace Go.Kg
open Go
/-- as msgWk; ko, sT: the list; body: what is done with a thing of it; c2: where its loop ends -/
def msgWo (C : Cfg) (T PT sl : Nat) (flex : Nat) (Sw : Sch) (ko sT : Nat) (body : Ir) (c2 : Ct) (lab0 : Nat) (ks : List KF) (tk nl : Nat) : Ir :=
  let t := nl
  let pre : List Ir := [.reg [⟨none, some 4, .assign (.const (.slice none 0 0)), C.E.tBs⟩],
    .reg (addrR C T PT 0 0 t ++ [⟨none, some (t + 3), .load C.E.tI16 (.tmp (t + 2)), C.E.tI16⟩, ⟨none, some 5, .assign (.tmp (t + 3)), C.E.tI16⟩]),
    .reg [⟨none, some (t + 4), .move (.tmp 5), C.E.tI16⟩]]
  let fl : List Ir := [.reg [⟨none, some (t + 5), .move (.tmp 5), C.E.tI16⟩, ⟨none, some (t + 6), .binOp .geq C.E.tI16 (.tmp (t + 5)) (.const (.int .i16 flex)) C.E.tI16, C.E.tB⟩, ⟨none, some 6, .assign (.tmp (t + 6)), C.E.tB⟩],
    .reg [⟨none, some (t + 7), .move (.tmp 6), C.E.tB⟩]]
  let (b, c) := Sw.genW C T PT 0 (ct0 C nl)
  let lp : Ir := seqL [loadI C T PT 0 ko sT c.l c.t .i8, lenI C none sT c.l (c.t + 4), rangeI C sT c.l (c.t + 4 + lenN C none) c2.t c.k body]
  let (s, c1) := secWI C T PT 0 sl ks tk ⟨c2.l, c2.t + 1, c2.k⟩ lab0
  seqL (pre ++ fl ++ b ++ [lp, s, .reg [⟨none, some c1.t, .move (.tmp 1), C.E.tBs⟩, ⟨none, some 4, .assign (.tmp c1.t), C.E.tBs⟩], .ret])
structure KoOk (P : Program) (C : Cfg) (ok : TagL → Prop) (T PT sl : Nat) (Sw : Sch) (ko oo sT sz : Nat) (c2 : Ct) (lab0 : Nat) (ks : List KF) (tk to nl : Nat) : Prop where
  ty : TyC P C
  fx : C.fx = true
  cfg : C.sv = 5 ∧ C.sf = 6
  uu : isAgg16 (kindOf P C.E.tUu) = true → TyUuE P C.E
  bs : sliSz P C.E.tBs = some 1
  uB : P.underlying C.E.tBs = some (.slice C.E.tU8)
  kU : kindOf P C.E.tU32 = .scl
  sS : SliI P sl C.E.tU32 1 4 (.int .u32 0)
  tyW : Sw.tyW P C T = true
  tyK : (ks.all (·.tyW P C T)) = true
  f0 : fldOff P T 0 = some 0
  ft : fldOff P T tk = some to
  need : Sw.NeedW P C ok
  needK : KsNeedW P C ok ks
  tags : TagsC P C.E ok
  nd : (ks.map (·.num)).Nodup
  len : ks.length ≤ 1000
  fo : fldOff P T ko = some oo
  kS : isScl (kindOf P sT) = true
  sli : sliSz P sT = some sz
  lenC : LenWC P C none
  c2l : (Sw.genW C T PT 0 (ct0 C nl)).2.l + 1 ≤ c2.l
  c2t : (Sw.genW C T PT 0 (ct0 C nl)).2.t + 4 + lenN C none + 4 ≤ c2.t
  nl : (secWI C T PT 0 sl ks tk ⟨c2.l, c2.t + 1, c2.k⟩ lab0).2.l ≤ nl
section
variable {P : Program} {C : Cfg} {ok : TagL → Prop}
theorem appendToO {T PT sl tk to ko oo sT sz flex nl nt g : Nat} {Sw : Sch} {ks : List KF} {body : Ir} {c2 : Ct} {lab0 : Nat} (hm : KoOk P C ok T PT sl Sw ko oo sT sz c2 lab0 ks tk to nl) (hnt : 2 ≤ nt) (hI : FnIs P g nt [.t 4] (msgWo C T PT sl flex Sw ko sT body c2 lab0 ks tk nl)) {w : World} {b a base : Nat} {cs : List Value} {x : Sw.T} {y : KsT ks} {u : TagL} {uv : Value} {ver : Int} {v : Value} {s : List UInt8}
    (hcs : CellsAt w b a cs) (hver : cs[0]? = some (.int .i16 ver)) (hoo : cs[oo]? = some (.slice none 0 0)) (hrep : Sw.Rep w (· < base) cs x) (hrk : KsRep w (· < base) cs ks y) (huv : cs[to]? = some uv) (hl : TagsAt w (· < base) uv u) (hok : Sw.TagsOk ok x) (hokk : KsOk ok ks y) (hoku : ok u) (hb : b < base) (ho : OwnB C.E.tU8 w base v s) (hbase : base ≤ w.heap.size)
    (hsz : s.length + (Sw.wr ver (flagAt C flex ver) x ++ (lenW none (flagAt C flex ver) 0 true ++ secW ver (flagAt C flex ver) ks y u)).length ≤ 1099511627776) :
    Ret P g #[.pointer (some ⟨b, a, none⟩), v] w fun v' w' => OwnB C.E.tU8 w' base v' (s ++ (Sw.wr ver (flagAt C flex ver) x ++ (lenW none (flagAt C flex ver) 0 true ++ secW ver (flagAt C flex ver) ks y u))) ∧ Grew w v w' v' := by
  obtain ⟨ht, hfx, ⟨hc5, hc6⟩, huu, hbs, hub, hku, hsS, hty, htyk, h0, hft, hN, hNk, hT, hnd, hlen, hfo, hko, hslo, hLo, hc2l, hc2t, hnl⟩ := hm
  have hl7 := (genW_mono (C := C) Sw T PT 0 (ct0 C nl))
  have hls := secWI_mono (C := C) T PT 0 sl ks tk ⟨c2.l, c2.t + 1, c2.k⟩ lab0
  simp only at hls
  have q7 : (ct0 C nl).l = 7 := by simp [ct0, hfx]
  have qt : (ct0 C nl).t = nl + 8 := by simp [ct0, hfx]
  have hnl6 : 7 ≤ nl := by omega
  refine hI.ret (args := [_, _]) hnt ?_
  have cv := hcs 0 _ hver
  simp only [Nat.add_zero] at cv
  have n1 : ∀ k, (1 = nl + k) = False := by intro k; simp; omega
  have n0 : ∀ k, (0 = nl + k) = False := by intro k; simp; omega
  have n5 : ∀ k, (5 = nl + k) = False := by intro k; simp; omega
  have n1' : (1 = nl) = False := by simp; omega
  have n0' : (0 = nl) = False := by simp; omega
  have n5' : (5 = nl) = False := by simp; omega
  have nz : (nl = 0) = False := by simp; omega
  simp only [List.length_append] at hsz
  -- behind the head
  have behind : ∀ (f : Nat → Value), f 0 = .pointer (some ⟨b, a, none⟩) → f 1 = v → f 5 = .int .i16 ver → f 6 = .bool (flagAt C flex ver) →
      (seqL ((Sw.genW C T PT 0 (ct0 C nl)).1 ++ [(seqL [loadI C T PT 0 ko sT (Sw.genW C T PT 0 (ct0 C nl)).2.l (Sw.genW C T PT 0 (ct0 C nl)).2.t .i8, lenI C none sT (Sw.genW C T PT 0 (ct0 C nl)).2.l ((Sw.genW C T PT 0 (ct0 C nl)).2.t + 4), rangeI C sT (Sw.genW C T PT 0 (ct0 C nl)).2.l ((Sw.genW C T PT 0 (ct0 C nl)).2.t + 4 + lenN C none) c2.t (Sw.genW C T PT 0 (ct0 C nl)).2.k body]), (secWI C T PT 0 sl ks tk ⟨c2.l, c2.t + 1, c2.k⟩ lab0).1, .reg [⟨none, some (secWI C T PT 0 sl ks tk ⟨c2.l, c2.t + 1, c2.k⟩ lab0).2.t, .move (.tmp 1), C.E.tBs⟩,
        ⟨none, some 4, .assign (.tmp (secWI C T PT 0 sl ks tk ⟨c2.l, c2.t + 1, c2.k⟩ lab0).2.t), C.E.tBs⟩], .ret])).wp P
        (retPost P [.t 4] fun v' w' => OwnB C.E.tU8 w' base v' (s ++ (Sw.wr ver (flagAt C flex ver) x ++ (lenW none (flagAt C flex ver) 0 true ++ secW ver (flagAt C flex ver) ks y u))) ∧ Grew w v w' v') f w := by
    intro f f0 f1 f5 f6
    have hfr : FrW C f 0 b a ver (flagAt C flex ver) (ct0 C nl).l := ⟨f0, ⟨by omega, by omega⟩, by rw [hc5]; exact f5, ⟨by omega, by omega⟩, ⟨fun hx => ⟨by rw [hc6]; exact f6, by omega⟩, fun hx => by rw [hfx] at hx; cases hx⟩, fun hx => by omega, by omega⟩
    have hd : Dst C f w base s := ⟨by rw [f1]; exact ho, hbase⟩
    refine seqL_append ?_
    refine soundW ht Sw T PT 0 (ct0 C nl) _ f w b a cs x ver (flagAt C flex ver) base s hty hN hfr (by omega) hb hcs hrep hok hd (by omega) ?_
    intro f' w' hw
    have hK : ∀ b, b < w.heap.size → b < base → ¬ own1 (f 1) b := fun b _ hb ho => by have := (Own.below hd.1 ho).1; omega
    refine seqL_cons ?_
    have hfr1 := (hfr.keep hw.keep.keeps (Nat.le_refl _)).up hl7.1
    have hcs1 := CellsAt.ext (K := (· < base)) hw.grew.ext hK hcs hb
    refine w_list ht ([] : List Unit) (fun _ => []) hfo hko hslo hLo hfr1 (m := c2.l) (by omega) (by omega) (by omega) rfl (by omega) hb hcs1 hoo (ls := none) (show ArrAt _ _ _ _ none from rfl) rfl hw.dst (by simp only [List.length_append, List.length_nil, List.flatMap_nil, Nat.add_zero, Option.isNone_none]; omega) (fun i y _ _ _ h => by simp at h) ?_
    intro f1' w1' hw1
    simp only [List.length_nil, List.flatMap_nil, List.append_nil, Option.isNone_none] at hw1
    have hfr2 := (hfr1.keep hw1.keep.keeps (Nat.le_refl _)).up (m := c2.l) (by omega)
    have hg1 := hw.grew.trans hw1.grew
    refine seqL_cons ?_
    refine w_sec ht hfx huu hbs hub hku hT hsS htyk hNk hnd hlen hft hfr2 (by simp only; omega) hb (CellsAt.ext (K := (· < base)) hg1.ext hK hcs hb) (KsRep_ext hg1.ext (K := (· < base)) hK ks hrk) hokk huv (hl.ext hg1.ext (K := (· < base)) hK) hoku hw1.dst (by simp only [List.length_append]; omega) ?_
    intro f'' w'' hw2
    have hd2 := hw2.dst.1
    have hg2 := hg1.trans hw2.grew
    rw [f1] at hg2
    refine seqL_cons (wp_reg ?_)
    simp
    show retPost P _ _ .ret _ _
    simp
    exact ⟨by simpa only [List.append_assoc] using hd2, hg2⟩
  have key : (seqL ([.reg [⟨none, some 4, .assign (.const (.slice none 0 0)), C.E.tBs⟩],
    .reg (addrR C T PT 0 0 nl ++ [⟨none, some (nl + 3), .load C.E.tI16 (.tmp (nl + 2)), C.E.tI16⟩, ⟨none, some 5, .assign (.tmp (nl + 3)), C.E.tI16⟩]),
    .reg [⟨none, some (nl + 4), .move (.tmp 5), C.E.tI16⟩]] ++ ([Ir.reg [⟨none, some (nl + 5), .move (.tmp 5), C.E.tI16⟩, ⟨none, some (nl + 6), .binOp .geq C.E.tI16 (.tmp (nl + 5)) (.const (.int .i16 flex)) C.E.tI16, C.E.tB⟩, ⟨none, some 6, .assign (.tmp (nl + 6)), C.E.tB⟩],
      .reg [⟨none, some (nl + 7), .move (.tmp 6), C.E.tB⟩]] ++ ((Sw.genW C T PT 0 (ct0 C nl)).1 ++ [(seqL [loadI C T PT 0 ko sT (Sw.genW C T PT 0 (ct0 C nl)).2.l (Sw.genW C T PT 0 (ct0 C nl)).2.t .i8, lenI C none sT (Sw.genW C T PT 0 (ct0 C nl)).2.l ((Sw.genW C T PT 0 (ct0 C nl)).2.t + 4), rangeI C sT (Sw.genW C T PT 0 (ct0 C nl)).2.l ((Sw.genW C T PT 0 (ct0 C nl)).2.t + 4 + lenN C none) c2.t (Sw.genW C T PT 0 (ct0 C nl)).2.k body]), (secWI C T PT 0 sl ks tk ⟨c2.l, c2.t + 1, c2.k⟩ lab0).1, .reg [⟨none, some (secWI C T PT 0 sl ks tk ⟨c2.l, c2.t + 1, c2.k⟩ lab0).2.t, .move (.tmp 1), C.E.tBs⟩,
        ⟨none, some 4, .assign (.tmp (secWI C T PT 0 sl ks tk ⟨c2.l, c2.t + 1, c2.k⟩ lab0).2.t), C.E.tBs⟩], .ret])))).wp P
        (retPost P [.t 4] fun v' w' => OwnB C.E.tU8 w' base v' (s ++ (Sw.wr ver (flagAt C flex ver) x ++ (lenW none (flagAt C flex ver) 0 true ++ secW ver (flagAt C flex ver) ks y u))) ∧ Grew w v w' v') (frame0 [.pointer (some ⟨b, a, none⟩), v]) w := by
    simp only [List.cons_append, List.nil_append]
    refine seqL_cons (wp_reg ?_)
    simp
    refine seqL_cons (wp_reg ?_)
    simp [addrR, h0, Addr.add_mk, ld_scl ht.kI16, cv, n0, n0']
    refine seqL_cons (wp_reg ?_)
    simp
    refine seqL_cons (wp_reg ?_)
    simp [n5, n5']
    refine seqL_cons (wp_reg ?_)
    simp
    refine behind _ ?_ ?_ ?_ ?_
    · simp [n0, n0']
    · simp [n1, n1', nz]
    · simp [n5, n5']
    · simp [flagAt, hfx]
  have e : msgWo C T PT sl flex Sw ko sT body c2 lab0 ks tk nl = seqL ([.reg [⟨none, some 4, .assign (.const (.slice none 0 0)), C.E.tBs⟩],
    .reg (addrR C T PT 0 0 nl ++ [⟨none, some (nl + 3), .load C.E.tI16 (.tmp (nl + 2)), C.E.tI16⟩, ⟨none, some 5, .assign (.tmp (nl + 3)), C.E.tI16⟩]),
    .reg [⟨none, some (nl + 4), .move (.tmp 5), C.E.tI16⟩]] ++ ([Ir.reg [⟨none, some (nl + 5), .move (.tmp 5), C.E.tI16⟩, ⟨none, some (nl + 6), .binOp .geq C.E.tI16 (.tmp (nl + 5)) (.const (.int .i16 flex)) C.E.tI16, C.E.tB⟩, ⟨none, some 6, .assign (.tmp (nl + 6)), C.E.tB⟩],
      .reg [⟨none, some (nl + 7), .move (.tmp 6), C.E.tB⟩]] ++ ((Sw.genW C T PT 0 (ct0 C nl)).1 ++ [(seqL [loadI C T PT 0 ko sT (Sw.genW C T PT 0 (ct0 C nl)).2.l (Sw.genW C T PT 0 (ct0 C nl)).2.t .i8, lenI C none sT (Sw.genW C T PT 0 (ct0 C nl)).2.l ((Sw.genW C T PT 0 (ct0 C nl)).2.t + 4), rangeI C sT (Sw.genW C T PT 0 (ct0 C nl)).2.l ((Sw.genW C T PT 0 (ct0 C nl)).2.t + 4 + lenN C none) c2.t (Sw.genW C T PT 0 (ct0 C nl)).2.k body]), (secWI C T PT 0 sl ks tk ⟨c2.l, c2.t + 1, c2.k⟩ lab0).1, .reg [⟨none, some (secWI C T PT 0 sl ks tk ⟨c2.l, c2.t + 1, c2.k⟩ lab0).2.t, .move (.tmp 1), C.E.tBs⟩,
        ⟨none, some 4, .assign (.tmp (secWI C T PT 0 sl ks tk ⟨c2.l, c2.t + 1, c2.k⟩ lab0).2.t), C.E.tBs⟩], .ret]))) := by
    simp only [msgWo, List.append_assoc]
  rw [e]
  exact key
end
theorem newCO {P : Program} {C : Cfg} {T PT g nt fPtr fSet fApp : Nat} {z : Array Value} {N : List UInt8} (hnt : 1 ≤ nt) (hI : FnIs P g nt [.t 2] (irNew C PT fPtr fSet fApp))
    (hPtr : ∀ w, Ret P fPtr #[] w fun v w' => v = .pointer (some ⟨w.heap.size, 0, none⟩) ∧ w'.heap[w.heap.size]? = some (.cells z T (0, 0)) ∧ Ext none1 w w' ∧ w.heap.size < w'.heap.size)
    (hSet : ∀ {w : World} {b : Nat} {c : Array Value} {e : TypeId}, w.heap[b]? = some (.cells c e (0, 0)) → 0 < c.size → ∀ ver : Int, Ret P fSet #[.pointer (some ⟨b, 0, none⟩), .int .i16 ver] w fun _ w' => w' = w.setBlk b (.cells (c.setIfInBounds 0 (.int .i16 ver)) e (0, 0))) (ver : Int)
    (hApp : ∀ {w : World} {b base : Nat} {v : Value} {s : List UInt8}, CellsAt w b 0 (z.setIfInBounds 0 (.int .i16 ver)).toList → b < base → OwnB C.E.tU8 w base v s → base ≤ w.heap.size → s.length + N.length ≤ 1099511627776 → Ret P fApp #[.pointer (some ⟨b, 0, none⟩), v] w fun v' w' => OwnB C.E.tU8 w' base v' (s ++ N) ∧ Grew w v w' v')
    (iI16 : intKind? P C.E.tI16 = some .i16) (iInt : intKind? P C.E.tInt = some .i64) (hzs : 0 < z.size) (hv : 0 ≤ ver ∧ ver < 32768)
    (hsz : N.length ≤ 1099511627776) : SpC P C.E.tU8 g [.int .i64 ver] N := by
  intro w
  refine hI.call (args := [_]) hnt ?_
  simp [irNew]
  refine (hPtr w).mono ?_
  rintro v w1 ⟨rfl, hb1, he1, hlt1⟩
  have e1 : IntKind.i16.wrap ver = ver := by simp [IntKind.wrap, IntKind.signed, IntKind.bits]; omega
  simp [iI16, iInt, e1]
  refine (hSet hb1 hzs ver).mono ?_
  rintro v w2 rfl
  generalize hw2 : w1.setBlk w.heap.size (.cells (z.setIfInBounds 0 (.int .i16 ver)) T (0, 0)) = w2
  have hb2 : w2.heap[w.heap.size]? = some (.cells (z.setIfInBounds 0 (.int .i16 ver)) T (0, 0)) := by subst hw2; exact setBlk_same hb1
  have he2 : Ext none1 w w2 := by subst hw2; exact he1.setBlk (.inl (Nat.le_refl _)) _
  have hsz2 : w.heap.size < w2.heap.size := by subst hw2; simpa using hlt1
  refine (hApp (b := w.heap.size) (base := w2.heap.size) (s := []) ?_ hsz2 (by simpa [OwnB, cellsOf] using Own.nil w2 w2.heap.size C.E.tU8 1) (Nat.le_refl _) (by simpa using hsz)).mono ?_
  · intro j u hj
    rw [Nat.zero_add, cell_of_blk hb2, ← Array.getElem?_toList]
    exact hj
  · rintro v w3 ⟨ho, hg⟩
    rw [List.nil_append] at ho
    refine ⟨Own.base ho (by omega), he2.trans (hg.ext.mono ?_)⟩
    intro k hk ho'
    simp [own1, Value.ownBlock] at ho'
/-- a part of a text -/
def Ir.rt : Ir → Ir
  | .seq _ b => b
  | c => c
def Ir.lt : Ir → Ir
  | .seq a _ => a
  | c => c
def Ir.inn : Ir → Ir
  | .block _ c => c
  | .loop c => c
  | c => c
def Ir.nth : Nat → Ir → Ir
  | 0, c => c.lt
  | n + 1, c => c.rt.nth n
end Go.Kg
