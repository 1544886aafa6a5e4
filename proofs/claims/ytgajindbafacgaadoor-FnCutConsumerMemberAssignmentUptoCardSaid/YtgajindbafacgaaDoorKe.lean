/- What is proved here: how the code of the messages runs, in general: a semantics of calls by their texts, and contracts of the functions of kbin and of the reference. No condition but those that each theorem names. -/
import Derived.ProofKit
import Derived.WideKeyArgs
import Derived.ChangeSlices
import Derived.OpenShut
import Derived.RowKit
import Derived.Maps.RangeRun
import Derived.Shelf.GgSortFunc.Whole
import Derived.Shelf.GgSortFunc.Tiny
import Derived.Test.YtgajindbafacgaaDoorKd
set_option linter.unusedSectionVars false
set_option linter.unusedSimpArgs false
set_option linter.unusedVariables false
set_option linter.unusedSimpArgs false
set_option linter.unusedVariables false
namespace Go.Kg
open Go Go.ChangeShapes Go.WideShapes Go.ChangeAt Go.RowKit
theorem FnIs.of {P : Program} {g N : Nat} {rs : List Rv} {ir : Ir} {fn : Func} (hm : P.follows .mixedOrders = true) (h1 : P.funcs[g]? = some fn) (h2 : fn.body.bind (erase N) = some ir) (h3 : fn.ntmps = N)
    (h4 : fn.results = (rs.map Rv.var).toArray) (h5 : (fn.name == "runtime.NumGoroutine") = false) : FnIs P g N rs ir := by
  refine ⟨hm, ?_⟩
  cases hb : fn.body with
  | none => rw [hb] at h2; cases h2
  | some c => rw [hb] at h2; exact ⟨fn, c, h1, hb, h3, h4, h5, h2⟩
theorem sli_of {P : Program} {t e s bytes : Nat} {z : Value} (hu : P.underlying t = some (.slice e)) (hi : (P.info? e).map (fun i => (i.zero, i.size, i.bytes)) = some (some z, s, bytes)) (hz : z.cells.size = s) : SliI P t e s bytes z := by
  refine ⟨hu, ?_, hz⟩
  cases h : P.info? e with
  | none => rw [h] at hi; cases hi
  | some i => rw [h] at hi; simp at hi; exact ⟨i, rfl, hi.1, hi.2.1, hi.2.2⟩
def FH.okB (h : FH) : Bool := decide (-1 ≤ h.tag) && decide (h.tag < 1000) && decide (-9223372036854775808 ≤ h.dflt) && decide (h.dflt < 9223372036854775808)
def FS.okB : FS → Bool
  | .nil => true
  | .cons h sub rest => h.okB && decide (sub.len ≤ 1000) && sub.okB && rest.okB
theorem FS.ok_of : ∀ {F : FS}, F.okB = true → F.okAll
  | .nil, _ => trivial
  | .cons h sub rest, hb => by
    simp only [FS.okB, FH.okB, Bool.and_eq_true, decide_eq_true_eq] at hb
    exact ⟨⟨hb.1.1.1.1.1.1, hb.1.1.1.1.1.2⟩, ⟨hb.1.1.1.1.2, hb.1.1.1.2⟩, hb.1.1.2, FS.ok_of hb.1.2, FS.ok_of hb.2⟩
def psNe (xs : List FSrc) : Bool := !xs.isEmpty && decide (xs.length ≤ 1000) && xs.all fun x => !x.ps.isEmpty && psOk x.ps
theorem psNe_of {xs : List FSrc} (h : psNe xs = true) : xs ≠ [] ∧ xs.length ≤ 1000 ∧ (∀ x ∈ xs, x.ps ≠ []) ∧ ∀ x ∈ xs, psOk x.ps = true := by
  simp only [psNe, Bool.and_eq_true, List.all_eq_true, Bool.not_eq_true', List.isEmpty_eq_false_iff, decide_eq_true_eq] at h
  exact ⟨h.1.1, h.1.2, fun x hx => (h.2 x hx).1, fun x hx => (h.2 x hx).2⟩
/-- the functions of a message's own lists -/
def subsOk (P : Program) : List FSrc → Prop
  | [] => True
  | x :: r => (∀ g F, x.sub = some (g, F) → SubC P g F) ∧ subsOk P r
theorem srcOk_of {P : Program} : ∀ {xs : List FSrc}, (∀ x ∈ xs, psOk x.ps = true) → subsOk P xs → srcOk P xs
  | [], _, _ => trivial
  | x :: r, h, hs => ⟨h x List.mem_cons_self, hs.1, srcOk_of (fun y hy => h y (List.mem_cons_of_mem _ hy)) hs.2⟩
theorem sub_of {P : Program} {E : Env} (ht : TyK P E) {g nt : Nat} {xs : List FSrc} (hI : FnIs P g nt [.t 0] (irSub E xs)) (hb : psNe xs = true) (hs : subsOk P xs) : SubC P g (mkFS xs) := by
  obtain ⟨h1, h2, h3, h4⟩ := psNe_of hb
  exact sub_sound ht hI h1 h2 (srcOk_of h4 hs) h3
theorem msg_of {P : Program} {E : Env} (ht : TyK P E) {g nt : Nat} {xs : List FSrc} {fx : Int} (hI : FnIs P g nt [.c 0 E.t_spec_Message] (irMsg E xs fx)) (hb : psNe xs = true) (hs : subsOk P xs) : MsgC P g (mkFS xs) fx := by
  obtain ⟨h1, h2, h3, h4⟩ := psNe_of hb
  exact msg_sound ht hI h1 h2 (srcOk_of h4 hs) h3
theorem ext_kept {w w' : World} (h : Ext none1 w w') (may : MemPlace → Prop) : w.keptBut w' may := by
  refine ⟨h.os, h.output, fun i hi => ?_⟩
  rw [h.block i hi (fun h => h)]
  have : ∃ o, w.heap[i]? = some o := ⟨_, Array.getElem?_eq_getElem hi⟩
  obtain ⟨o, ho⟩ := this
  rw [ho]
  cases o <;> simp
theorem ext_frozen {w w' : World} (h : Ext none1 w w') (a : Addr) (ha : a.block < w.heap.size) : w'.frozen? a = w.frozen? a := by
  simp only [World.frozen?, h.block a.block ha (fun h => h)]
theorem post_of_ext {H : Type} {enc : TypeId × Value → H} {P : Program} {f : Func} {s : ChangeSpec} {apart fresh handsOn again : Bool} {W W' : World} {args : Array Value} {v : Value} {ds gs : List (DataW H)} {before pa pv : List MemPlace}
    (hW : DataW.Whole enc P f.params.toList s.vars apart W args.toList ds gs before)
    (hres : ∀ (b : Nat) (sp : Nat → Bool) (hd : Bool), DataW.TrodAll enc P W' b sp hd f.resultTypes.toList (v.resultList f.resultTypes.size) (s.fn H (ds ++ gs)).results [])
    (hargs : ∀ sp : Nat → Bool, (∀ p ∈ before, sp p.block = true) → DataW.TrodAll enc P W' 0 sp true f.params.toList args.toList (s.fn H (ds ++ gs)).args pa)
    (hvars : ∀ sp : Nat → Bool, (∀ p ∈ before, sp p.block = true) → DataW.TrodVars enc P W' sp s.vars (s.fn H (ds ++ gs)).vars pv)
    (hps : before = pa ++ pv) (he : Ext none1 W W')
    (hok : ∀ (j : Nat) (t : TypeId) (r : Value), f.resultTypes[j]? = some t → (v.resultList f.resultTypes.size)[j]? = some r → Value.okWide P W' .any 0 t r) :
    s.post enc P f apart fresh handsOn again W args v W' := by
  have hold : ∀ p ∈ before, (fun b => decide (b < W.heap.size)) p.block = true := fun p hp => by simpa using hW.lt p hp
  have hlt := hW.lt
  refine ⟨ds, gs, before, [], pa, pv, hW, hres _ _ _, hargs _ hold, hvars _ hold, World.keptBut_mono (fun p hp => ⟨hp, ?_⟩) (ext_kept he (· ∈ before)), fun _ => ?_⟩
  · rw [hps, List.mem_append] at hp
    exact Or.inr hp
  · obtain ⟨_, _, _, _, _, hz, hn⟩ := hW
    refine ⟨hok, _, _, ([] ++ pa) ++ pv, ⟨[] ++ pa, pv, trodAll_append (hargs _ (fun _ _ => rfl)) (hres _ _ _), hvars _ (fun _ _ => rfl), rfl, ?_, ?_⟩, ?_⟩
    · intro b off hp
      have hp' : MemPlace.cell b off ∈ before := by rw [hps]; simpa using hp
      rw [ext_frozen he _ (hlt _ hp')]
      exact hz b off hp'
    · intro ha
      have := hn ha
      rw [hps] at this
      simpa using this
    · intro p hp _
      rw [hps]
      simpa using hp
end Go.Kg

set_option linter.unusedSimpArgs false
set_option linter.unusedVariables false
namespace Go.Kg
open Go Go.ChangeShapes Go.WideShapes Go.ChangeAt Go.RowKit
/-- an argument reads behind the call as it did -/
theorem ext_trod {H : Type} {enc : TypeId × Value → H} {P : Program} {t : TypeId} (hl : laidOutB P = true) (hr : P.readableRec t = true) (hrow : t < P.types.size) {W W' : World} {v : Value} {d : DataW H} {ps : List MemPlace}
    (h : DataW.Trod enc P W 0 (fun _ => true) true t v d ps) (he : Ext none1 W W') (hlt : ∀ x ∈ ps, x.block < W.heap.size) {sp : Nat → Bool} (hs : ∀ p ∈ ps, sp p.block = true) : DataW.Trod enc P W' 0 sp true t v d ps := by
  have hb : Below W.heap.size W W' := ⟨he.os, he.tape, he.output, he.size, fun k hk => he.block k hk (fun h => h)⟩
  exact WideElems.Trod_stays hl hr hrow h (fun x hx => hb.same (hlt x hx)) hs
/-- bytes -/
theorem open_bytesAt {H : Type} {enc : TypeId × Value → H} {P : Program} {t e : TypeId} (ht : P.underlying t = some (.slice e)) (he : P.underlying e = some (.int .u8)) (hc : P.cellsOf e = 1) {W : World} {base : Nat} {v : Value} {d : DataW H} {ps : List MemPlace}
    (hval : Value.okWide P W .any base t v) (h : DataW.Trod enc P W 0 (fun _ => true) true t v d ps) : ∃ s, BytesAt W All v s := by
  obtain ⟨n, hn⟩ := h
  have hsp : ∀ a len cap, v = .slice (some a) len cap → a.spot = none := by
    rintro a len cap rfl
    simp only [Value.okWide, ht, Cell.okWide, Cell.ok] at hval
    exact hval.2.2.2.1
  obtain ⟨a0, l0, c0, rfl⟩ := okWide_slice ht hval
  have hcs : (Value.slice a0 l0 c0).cells.toList = [.slice a0 l0 c0] := rfl
  rw [hcs] at hn
  rcases open_ints ht he hc hn with ⟨h1, _⟩ | ⟨a, len, cap, zs, h1, hb, hl, hm, hzl, hx, hcell, hwf⟩
  · cases h1
    exact ⟨[], .inl ⟨⟨_, rfl⟩, rfl⟩⟩
  · cases h1
    have hs := hsp a l0 c0 rfl
    obtain ⟨ab, ao, sp⟩ := a
    simp only at hs
    subst hs
    simp only [if_true] at hzl
    have hlen : (zs.take l0).length = l0 := by simp; omega
    refine ⟨(zs.take l0).map fun z => UInt8.ofNat z.toNat, .inr ⟨ab, ao, c0, by rw [List.length_map, hlen], by rw [List.length_map, hlen]; exact hl, fun _ => trivial, fun i x hx => ?_⟩⟩
    rw [List.getElem?_map, Option.map_eq_some_iff] at hx
    obtain ⟨z, hz, rfl⟩ := hx
    rw [List.getElem?_take] at hz
    split at hz
    · obtain ⟨hi, hzz⟩ := List.getElem?_eq_some_iff.1 hz
      have hc1 := hcell i hi
      rw [Addr.add_mk, List.getD_eq_getElem?_getD, hz] at hc1
      have hw := hwf z (List.mem_of_getElem? hz)
      simp [Lit.wf, IntKind.min, IntKind.max, IntKind.signed, IntKind.bits] at hw
      rw [hc1]
      simp
      omega
    · cases hz
end Go.Kg

set_option linter.unusedSimpArgs false
set_option linter.unusedVariables false
namespace Go.Kg
open Go Go.ChangeShapes Go.WideShapes Go.ChangeAt Go.RowKit
mutual
def Tr.sz : Tr → Nat
  | .mk _ s _ l u => 1 + s.length + Tr.szL l + (u.map fun x => 1 + x.2.length).sum
def Tr.szL : List Tr → Nat
  | [] => 0
  | t :: l => t.sz + Tr.szL l
end
theorem Tr.sz_pos (t : Tr) : 1 ≤ t.sz := by cases t; simp only [Tr.sz]; omega
theorem Tr.sz_mem : ∀ {l : List Tr} {t : Tr}, t ∈ l → t.sz ≤ Tr.szL l
  | x :: l, t, h => by
    simp only [Tr.szL]
    rcases List.mem_cons.1 h with rfl | h
    · omega
    · have := Tr.sz_mem h; omega
theorem Tr.szL_le (t : Tr) : Tr.szL t.l + 1 ≤ t.sz := by cases t; simp only [Tr.sz, Tr.l]; omega
theorem Tr.sz_at (t : Tr) (i : Nat) : (t.at i).sz ≤ t.sz := by
  unfold Tr.at
  cases h : t.l[i]? with
  | none => simp only [Option.getD_none]; have := t.sz_pos; simp [Tr.none, Tr.sz, Tr.szL]; omega
  | some x => have := Tr.sz_mem (List.mem_of_getElem? h); have := t.szL_le; simp only [Option.getD_some]; omega
def Prim.wt : Prim → Nat
  | .str | .nstr | .bytes | .nbytes => 32772
  | _ => 16
def Sch.wt : Sch → Nat
  | .fin => 1
  | .tags _ _ => 15
  | .prim _ _ _ p _ _ r => p.wt + r.wt
  | .arrP _ _ _ _ _ p r => 5 + p.wt + r.wt
  | .arrS _ _ _ _ _ _ _ _ _ e r => 5 + e.wt + r.wt
  | .sub _ _ _ _ _ _ _ e r => e.wt + r.wt
  | .opt _ _ _ _ _ _ _ _ e r => 1 + e.wt + r.wt
theorem prim_wt (p : Prim) (fl : Bool) (x : p.T) (h : p.wf x) : (p.wr fl x).length ≤ p.wt := by
  have hc := prim_cap p fl x h
  cases p <;> first | exact hc | skip
  all_goals simp [Prim.wr, Prim.wt, num]
  · have hx : (x : List UInt8).length = 16 := h
    exact Nat.le_of_eq hx
theorem counted_len (fl nul : Bool) (n k : Nat) (hn : n ≤ 32767) (hk : k ≤ 4) : (countedS fl nul n k).length ≤ 5 := by
  unfold countedS
  split
  · simp
  · split
    · exact @uvS_len 4 (n + 1) (by omega)
    · split <;> simp [fixE_len] <;> omega
theorem flat_wt {f : Tr → List UInt8} {c : Nat} : ∀ (l : List Tr) (k : Nat), (∀ t ∈ l, (f t).length ≤ c * t.sz) → ((l.take k).flatMap f).length ≤ c * Tr.szL l
  | [], k, _ => by simp
  | t :: l, 0, _ => by simp
  | t :: l, k + 1, h => by
    have h1 := h t List.mem_cons_self
    have h2 := flat_wt l k (fun x hx => h x (List.mem_cons_of_mem _ hx))
    simp only [List.take_succ_cons, List.flatMap_cons, List.length_append, Tr.szL, Nat.mul_add]; omega
def tagWt (l : TagL) : Nat := (l.map fun x => 10 + x.2.length).sum
theorem insU_wt {least : Nat} {x : Nat × List UInt8} : ∀ {l : TagL}, tagWt (insU least x l) ≤ 10 + x.2.length + tagWt l
  | [] => by unfold insU; split <;> simp [tagWt]
  | y :: l => by
    have ih := @insU_wt least x l
    simp only [tagWt] at ih ⊢
    unfold insU; split
    · simp
    · simp only
      split
      · simp only [List.map_cons, List.sum_cons]; omega
      · split
        · simp
        · simp
theorem unkS_wt (least : Nat) (u : TagL) : tagWt (unkS least u) ≤ tagWt u := by
  have : ∀ (l out : TagL), tagWt (l.foldl (fun out x => insU least x out) out) ≤ tagWt out + tagWt l := by
    intro l
    induction l with
    | nil => intro out; simp [tagWt]
    | cons y l ih =>
      intro out
      have h1 := ih (insU least y out)
      have h2 := @insU_wt least y out
      have h3 : tagWt (y :: l) = 10 + y.2.length + tagWt l := by simp [tagWt]
      simp only [List.foldl_cons]
      omega
  have h1 : tagWt (unkS least u) ≤ tagWt ([] : TagL) + tagWt (u.take 32767) := this (u.take 32767) []
  have h2 : ∀ (l : TagL) (k : Nat), tagWt (l.take k) ≤ tagWt l := by
    intro l
    induction l with
    | nil => intro k; simp [tagWt]
    | cons y l ih =>
      intro k
      cases k with
      | zero => simp [tagWt]
      | succ k =>
        have h3 : tagWt (y :: l) = 10 + y.2.length + tagWt l := by simp [tagWt]
        have h4 : tagWt (y :: l.take k) = 10 + y.2.length + tagWt (l.take k) := by simp [tagWt]
        have := ih k
        rw [List.take_succ_cons]; omega
  have h3 := h2 u 32767
  have h4 : tagWt ([] : TagL) = 0 := rfl
  omega
theorem tagWt_sz (u : TagL) : tagWt u ≤ 10 * (u.map fun x => 1 + x.2.length).sum := by
  induction u with
  | nil => simp [tagWt]
  | cons x u ih =>
    have h3 : tagWt (x :: u) = 10 + x.2.length + tagWt u := by simp [tagWt]
    simp only [List.map_cons, List.sum_cons]; omega
theorem tail_wt (fl : Bool) (t : Tr) (ht : t.Ok) : (tailS fl t).length ≤ 15 * t.sz := by
  unfold tailS
  cases fl
  · simp
  simp only [if_true, List.length_append]
  obtain ⟨_, h2, h3⟩ := unkS_spec 0 t.u
  have hw := unkS_wt 0 t.u
  have hz := tagWt_sz t.u
  have hsz : (t.u.map fun x => 1 + x.2.length).sum + 1 ≤ t.sz := by cases t; simp only [Tr.sz, Tr.u]; omega
  have hq : ∀ (q : TagL), (∀ x ∈ q, x ∈ t.u) → ((q.map fun x => (x.1, x.2.take 32767)).flatMap fun x => tagS x.1 x.2).length ≤ tagWt q := by
    intro q
    induction q with
    | nil => intro _; simp
    | cons x q ih =>
      intro hx
      have h1 := ih (fun y hy => hx y (List.mem_cons_of_mem _ hy))
      have hx1 := ht.u x (hx x List.mem_cons_self)
      have a := @uvS_len 4 x.1 (by omega)
      have b := @uvS_len 4 (x.2.take 32767).length (by simp; omega)
      have c : tagWt (x :: q) = 10 + x.2.length + tagWt q := by simp [tagWt]
      have d : (x.2.take 32767).length ≤ x.2.length := by simp; omega
      have e : (tagS x.1 (x.2.take 32767)).length = (uvS x.1).length + (uvS (x.2.take 32767).length).length + (x.2.take 32767).length := by simp only [tagS, List.length_append]
      simp only [List.map_cons, List.flatMap_cons, List.length_append]
      omega
  have h5 := hq _ h3
  have h6 := @uvS_len 4 ((unkS 0 t.u).map fun x => (x.1, x.2.take 32767)).length (by simp; omega)
  omega
theorem part_wt {M : Nat} {flx : Nat → Bool} {v : Nat} (hv : v ≤ M) : ∀ (S : Sch) (F : FS) (n : Nat) (t : Tr), fitS M flx F S = true → t.Ok → (plainS F v (flx v) n t ++ tailS (flx v) t).length ≤ S.wt * t.sz := by
  intro S
  induction S with
  | fin =>
    intro F n t hb ht
    cases F with
    | cons h sub rest => simp [fitS] at hb
    | nil =>
      have := List.all_eq_true.1 hb v (by simp; omega)
      have hf : flx v = false := by simpa using this
      simp [plainS, tailS, hf, FS.list]
  | tags k o =>
    intro F n t hb ht
    cases F with
    | cons h sub rest => simp [fitS] at hb
    | nil =>
      have := tail_wt (flx v) t ht
      simpa [plainS, FS.list, Sch.wt] using this
  | prim g k o p en d r ih =>
    intro F n t hb ht
    cases F with
    | nil => simp [fitS] at hb
    | cons h sub rest =>
      simp only [fitS, Bool.and_eq_true, decide_eq_true_eq, Bool.or_eq_true, Bool.not_eq_true'] at hb
      obtain ⟨⟨⟨⟨htag, hon⟩, hkind⟩, hnul⟩, hrest⟩ := hb
      have h1 := ih rest (n + 1) t hrest ht
      have hgo := onAt_of hon hv
      have hps : plainS (.cons h sub rest) v (flx v) n t = (if h.tag < 0 ∧ h.has v = true then fieldS ⟨h, partL (sub.list v (flx v)) v (flx v), usualL (sub.list v (flx v)), knownL ((sub.list v (flx v)).map (·.h))⟩ v (flx v) (t.at n) else []) ++ plainS rest v (flx v) (n + 1) t := by
        simp [plainS, FS.list, List.zipIdx_cons]
      rw [hps, ← hgo]
      have hp := t.sz_pos
      have hwp : p.wt ≤ p.wt * t.sz := Nat.le_mul_of_pos_right _ hp
      simp only [List.length_append] at h1 ⊢
      simp only [Sch.wt, Nat.add_mul]
      cases hg : g.on v
      · simp; omega
      · have hfk : fieldS ⟨h, partL (sub.list v (flx v)) v (flx v), usualL (sub.list v (flx v)), knownL ((sub.list v (flx v)).map (·.h))⟩ v (flx v) (t.at n) = valS (primK p) (partL (sub.list v (flx v)) v (flx v)) (h.isNull v (t.at n).nul) (flx v) (t.at n) := by
          have h11 : ¬ (primK p = 11) := by cases p <;> simp [primK]
          have h10 : ¬ (primK p = 10) := by cases p <;> simp [primK]
          simp only [fieldS, hkind, if_neg h11, h10, false_and, if_false]
        obtain ⟨x, hx1, hx2⟩ := valS_prim p (partL (sub.list v (flx v)) v (flx v)) (h.isNull v (t.at n).nul) (flx v) (t.at n) (fun htx => by
          rcases hnul with h' | h'
          · rw [htx] at h'; cases h'
          · exact nnAt_of h' hv hg _)
        have := prim_wt p (flx v) x hx2
        rw [hx1] at this
        simp only [htag, true_and, if_true, hfk]; omega
  | arrP g k o sT nul p r ih =>
    intro F n t hb ht
    cases F with
    | nil => simp [fitS] at hb
    | cons h sub rest =>
      simp only [fitS, Bool.and_eq_true, decide_eq_true_eq] at hb
      obtain ⟨⟨⟨⟨⟨htag, hon⟩, hkind⟩, hof⟩, hnul⟩, hrest⟩ := hb
      have h1 := ih rest (n + 1) t hrest ht
      have hgo := onAt_of hon hv
      have hps : plainS (.cons h sub rest) v (flx v) n t = (if h.tag < 0 ∧ h.has v = true then fieldS ⟨h, partL (sub.list v (flx v)) v (flx v), usualL (sub.list v (flx v)), knownL ((sub.list v (flx v)).map (·.h))⟩ v (flx v) (t.at n) else []) ++ plainS rest v (flx v) (n + 1) t := by
        simp [plainS, FS.list, List.zipIdx_cons]
      rw [hps, ← hgo]
      have hp := t.sz_pos
      simp only [List.length_append] at h1 ⊢
      simp only [Sch.wt, Nat.add_mul]
      cases hg : g.on v
      · simp; omega
      · have hc := counted_len (flx v) (h.isNull v (t.at n).nul) (if h.isNull v (t.at n).nul then [] else (t.at n).l.take 32767).length 4 (by split <;> simp <;> omega) (by omega)
        have hf : ((if h.isNull v (t.at n).nul then [] else (t.at n).l.take 32767).flatMap (valS (primK p) (partL (sub.list v (flx v)) v (flx v)) false (flx v))).length ≤ p.wt * t.sz := by
          have h2 := flat_wt (c := p.wt) (f := valS (primK p) (partL (sub.list v (flx v)) v (flx v)) false (flx v)) (t.at n).l 32767 (fun x _ => by
            obtain ⟨y, hy1, hy2⟩ := valS_prim p (partL (sub.list v (flx v)) v (flx v)) false (flx v) x (fun _ => rfl)
            have := prim_wt p (flx v) y hy2
            rw [hy1] at this
            exact Nat.le_trans this (Nat.le_mul_of_pos_right _ x.sz_pos))
          have h3 : p.wt * Tr.szL (t.at n).l ≤ p.wt * t.sz := Nat.mul_le_mul_left _ (by have := (t.at n).szL_le; have := t.sz_at n; omega)
          split
          · simp
          · omega
        simp only [htag, true_and, if_true, fieldS, hkind, hof, List.length_append]; omega
  | arrS g k o sT nul T PT sz df e r ihe ih =>
    intro F n t hb ht
    cases F with
    | nil => simp [fitS] at hb
    | cons h sub rest =>
      simp only [fitS, Bool.and_eq_true, decide_eq_true_eq] at hb
      obtain ⟨⟨⟨⟨⟨⟨htag, hon⟩, hkind⟩, hof⟩, hnul⟩, hsub⟩, hrest⟩ := hb
      have h1 := ih rest (n + 1) t hrest ht
      have hgo := onAt_of hon hv
      have hps : plainS (.cons h sub rest) v (flx v) n t = (if h.tag < 0 ∧ h.has v = true then fieldS ⟨h, partL (sub.list v (flx v)) v (flx v), usualL (sub.list v (flx v)), knownL ((sub.list v (flx v)).map (·.h))⟩ v (flx v) (t.at n) else []) ++ plainS rest v (flx v) (n + 1) t := by
        simp [plainS, FS.list, List.zipIdx_cons]
      rw [hps, ← hgo]
      have hp := t.sz_pos
      simp only [List.length_append] at h1 ⊢
      simp only [Sch.wt, Nat.add_mul]
      cases hg : g.on v
      · simp; omega
      · have hc := counted_len (flx v) (h.isNull v (t.at n).nul) (if h.isNull v (t.at n).nul then [] else (t.at n).l.take 32767).length 4 (by split <;> simp <;> omega) (by omega)
        have hf : ((if h.isNull v (t.at n).nul then [] else (t.at n).l.take 32767).flatMap (valS 10 (partL (sub.list v (flx v)) v (flx v)) false (flx v))).length ≤ e.wt * t.sz := by
          have h2 := flat_wt (c := e.wt) (f := valS 10 (partL (sub.list v (flx v)) v (flx v)) false (flx v)) (t.at n).l 32767 (fun x hx => by
            have := ihe sub 0 x hsub ((ht.at n).l x hx)
            rw [← partS_plain (fitS_noTag hsub)] at this
            exact this)
          have h3 : e.wt * Tr.szL (t.at n).l ≤ e.wt * t.sz := Nat.mul_le_mul_left _ (by have := (t.at n).szL_le; have := t.sz_at n; omega)
          split
          · simp
          · omega
        simp only [htag, true_and, if_true, fieldS, hkind, hof, List.length_append]; omega
  | sub g k o T PT sz df e r ihe ih =>
    intro F n t hb ht
    cases F with
    | nil => simp [fitS] at hb
    | cons h sub rest =>
      simp only [fitS, Bool.and_eq_true, decide_eq_true_eq] at hb
      obtain ⟨⟨⟨⟨⟨htag, hon⟩, hkind⟩, hnul⟩, hsub⟩, hrest⟩ := hb
      have h1 := ih rest (n + 1) t hrest ht
      have hgo := onAt_of hon hv
      have hps : plainS (.cons h sub rest) v (flx v) n t = (if h.tag < 0 ∧ h.has v = true then fieldS ⟨h, partL (sub.list v (flx v)) v (flx v), usualL (sub.list v (flx v)), knownL ((sub.list v (flx v)).map (·.h))⟩ v (flx v) (t.at n) else []) ++ plainS rest v (flx v) (n + 1) t := by
        simp [plainS, FS.list, List.zipIdx_cons]
      rw [hps, ← hgo]
      have hp := t.sz_pos
      simp only [List.length_append] at h1 ⊢
      simp only [Sch.wt, Nat.add_mul]
      cases hg : g.on v
      · simp; omega
      · have hf : (partL (sub.list v (flx v)) v (flx v) (t.at n)).length ≤ e.wt * t.sz := by
          have := ihe sub 0 (t.at n) hsub (ht.at n)
          rw [← partS_plain (fitS_noTag hsub)] at this
          exact Nat.le_trans this (Nat.mul_le_mul_left _ (t.sz_at n))
        have hnn : ¬ (0 ≤ h.null) := by omega
        simp only [htag, true_and, if_true, fieldS, hkind]
        simp [hnn, valS]; omega
  | opt g k o T PT PP sz df e r ihe ih =>
    intro F n t hb ht
    cases F with
    | nil => simp [fitS] at hb
    | cons h sub rest =>
      simp only [fitS, Bool.and_eq_true, decide_eq_true_eq] at hb
      obtain ⟨⟨⟨⟨⟨htag, hon⟩, hkind⟩, hnul⟩, hsub⟩, hrest⟩ := hb
      have h1 := ih rest (n + 1) t hrest ht
      have hgo := onAt_of hon hv
      have hps : plainS (.cons h sub rest) v (flx v) n t = (if h.tag < 0 ∧ h.has v = true then fieldS ⟨h, partL (sub.list v (flx v)) v (flx v), usualL (sub.list v (flx v)), knownL ((sub.list v (flx v)).map (·.h))⟩ v (flx v) (t.at n) else []) ++ plainS rest v (flx v) (n + 1) t := by
        simp [plainS, FS.list, List.zipIdx_cons]
      rw [hps, ← hgo]
      have hp := t.sz_pos
      simp only [List.length_append] at h1 ⊢
      simp only [Sch.wt, Nat.add_mul]
      cases hg : g.on v
      · simp; omega
      · have hf : (partL (sub.list v (flx v)) v (flx v) (t.at n)).length ≤ e.wt * t.sz := by
          have := ihe sub 0 (t.at n) hsub (ht.at n)
          rw [← partS_plain (fitS_noTag hsub)] at this
          exact Nat.le_trans this (Nat.mul_le_mul_left _ (t.sz_at n))
        simp only [htag, true_and, if_true, fieldS, hkind, hnul, and_self]
        rw [if_neg (show ¬ (10 : Int) = 11 by decide)]
        split
        · rw [fixE_len]; omega
        · rw [List.length_append, fixE_len]; omega
end Go.Kg

set_option linter.unusedSimpArgs false
set_option linter.unusedVariables false
namespace Go.Kg
open Go Go.ChangeShapes Go.WideShapes Go.ChangeAt Go.RowKit
/-- what the bulk of data is -/
structure BulkL {H : Type} (b : DataW H → Nat) (bs : List (DataW H) → Nat) : Prop where
  slice : ∀ e s, b (.slice e s) = bs e + bs s + 1
  agg : ∀ p, b (.agg p) = bs p + 1
  pos : ∀ d, 1 ≤ b d
  nil : bs [] = 0
  cons : ∀ d r, bs (d :: r) = b d + bs r
theorem BulkL.len {H : Type} {b : DataW H → Nat} {bs : List (DataW H) → Nat} (h : BulkL b bs) : ∀ l, l.length ≤ bs l
  | [] => by simp [h.nil]
  | d :: r => by have := h.pos d; have := h.len r; rw [h.cons, List.length_cons]; omega
theorem BulkL.mem {H : Type} {b : DataW H → Nat} {bs : List (DataW H) → Nat} (h : BulkL b bs) : ∀ {l : List (DataW H)} {d}, d ∈ l → b d ≤ bs l
  | x :: r, d, hd => by
    rw [h.cons]
    rcases List.mem_cons.1 hd with rfl | hd
    · omega
    · have := h.mem hd; omega
/-- what is asked of the types of Tree and Tag -/
structure TyTr (P : Program) (E : Env) (tI64 : Nat) : Prop where
  tr : ∃ f0 f1 f2 f3 f4 : Field, P.underlying E.t_spec_Tree = some (.struct #[f0, f1, f2, f3, f4]) ∧ (f0.type = tI64 ∧ f0.offset = 0) ∧ (f1.type = E.tBs ∧ f1.offset = 1) ∧ (f2.type = E.tB ∧ f2.offset = 2) ∧ (f3.type = E.t_l_spec_Tree ∧ f3.offset = 3) ∧ (f4.type = E.t_l_spec_Tag ∧ f4.offset = 4)
  tg : ∃ f0 f1 : Field, P.underlying E.t_spec_Tag = some (.struct #[f0, f1]) ∧ (f0.type = E.tU32 ∧ f0.offset = 0) ∧ (f1.type = E.tBs ∧ f1.offset = 1)
  i64 : P.underlying tI64 = some (.int .i64)
  u32 : P.underlying E.tU32 = some (.int .u32)
  u8 : P.underlying E.tU8 = some (.int .u8)
  bool : P.underlying E.tB = some .bool
  bs : P.underlying E.tBs = some (.slice E.tU8)
  lt : P.underlying E.t_l_spec_Tree = some (.slice E.t_spec_Tree)
  lu : P.underlying E.t_l_spec_Tag = some (.slice E.t_spec_Tag)
  c1 : P.cellsOf tI64 = 1 ∧ P.cellsOf E.tU32 = 1 ∧ P.cellsOf E.tU8 = 1 ∧ P.cellsOf E.tB = 1 ∧ P.cellsOf E.tBs = 1 ∧ P.cellsOf E.t_l_spec_Tree = 1 ∧ P.cellsOf E.t_l_spec_Tag = 1
  cT : P.cellsOf E.t_spec_Tree = 5
  cU : P.cellsOf E.t_spec_Tag = 2
section
variable {H : Type} {enc : TypeId × Value → H} {P : Program} {W : World}
theorem spot_of_cells {a : Addr} {k : Nat} {cs : List Value} (h : W.cells? 0 (a.add (0 * k)) k = some cs) (hk : 0 < k) : a.spot = none := by
  have h0 : a.add (0 * k) = a := by simp [Addr.add]
  rw [h0] at h
  obtain ⟨_, hl, hc⟩ := World.cells?_some h
  have h1 := hc 0 hk
  have h2 : cs[0]? = some cs[0] := List.getElem?_eq_getElem (by omega)
  rw [h2] at h1
  have ha : a.add 0 = a := by simp [Addr.add]
  rw [ha] at h1
  cases hs : a.spot with
  | none => rfl
  | some s =>
    simp only [World.cell?, hs] at h1
    split at h1 <;> simp at h1
/-- bytes within -/
theorem open_bytesIn {t e : TypeId} (ht : P.underlying t = some (.slice e)) (he : P.underlying e = some (.int .u8)) (hc : P.cellsOf e = 1) {b : DataW H → Nat} {bs : List (DataW H) → Nat} (hB : BulkL b bs) {n : Nat} {c : Value} {x : DataW H × List MemPlace}
    (h : DataW.trod enc P W 0 (fun _ => true) true n t [c] = some x) : ∃ s, BytesAt W All c s ∧ s.length + 1 ≤ b x.1 := by
  have hsp : ∀ a len cap, c = .slice (some a) len cap → 0 < cap → a.spot = none := by
    rintro a len cap rfl hcap
    rcases DataW.trod_slice ht h with ⟨h1, _⟩ | ⟨a', len', cap', elems, rest, m, _, h1, hx, hb, hl, hm, hlen, hel, hsp, _⟩
    · cases h1
    · cases h1
      by_cases h0 : 0 < len
      · have := hel 0 h0
        rw [hc] at this
        have hget : elems[0]? = some elems[0] := List.getElem?_eq_getElem (by omega)
        rw [hget] at this
        obtain ⟨cs, hcs, _⟩ := Option.bind_eq_some_iff.1 this
        exact spot_of_cells hcs (by omega)
      · obtain ⟨hr1, hr2⟩ := hsp rfl
        have := hr2 0 (by omega)
        rw [hc] at this
        have hget : rest[0]? = some rest[0] := List.getElem?_eq_getElem (by omega)
        rw [hget] at this
        obtain ⟨cs, hcs, _⟩ := Option.bind_eq_some_iff.1 this
        have e0 : (len + 0) * 1 = 0 * 1 := by omega
        rw [e0] at hcs
        exact spot_of_cells hcs (by omega)
  rcases open_ints ht he hc h with ⟨h1, hx⟩ | ⟨a, len, cap, zs, h1, hb, hl, hm, hzl, hx, hcell, hwf⟩
  · cases h1
    exact ⟨[], .inl ⟨⟨_, rfl⟩, rfl⟩, by have := hB.pos x.1; simpa using this⟩
  · cases h1
    simp only [if_true] at hzl
    have hbk : len + 1 ≤ b x.1 := by
      rw [hx, hB.slice]
      have := hB.len (lits .u8 (zs.take len))
      simp only [lits, List.length_map, List.length_take] at this
      simp only [lits] at this ⊢
      omega
    by_cases hcap : cap = 0
    · subst hcap
      have h0 : len = 0 := by omega
      subst h0
      exact ⟨[], .inl ⟨⟨_, rfl⟩, rfl⟩, by simpa using hbk⟩
    have hs := hsp a len cap rfl (by omega)
    obtain ⟨ab, ao, sp⟩ := a
    simp only at hs
    subst hs
    have hlen : (zs.take len).length = len := by simp; omega
    refine ⟨(zs.take len).map fun z => UInt8.ofNat z.toNat, .inr ⟨ab, ao, cap, by rw [List.length_map, hlen], by rw [List.length_map, hlen]; exact hl, fun _ => trivial, fun i x hx => ?_⟩, by rw [List.length_map, hlen]; exact hbk⟩
    rw [List.getElem?_map, Option.map_eq_some_iff] at hx
    obtain ⟨z, hz, rfl⟩ := hx
    rw [List.getElem?_take] at hz
    split at hz
    · obtain ⟨hi, hzz⟩ := List.getElem?_eq_some_iff.1 hz
      have hc1 := hcell i hi
      rw [Addr.add_mk, List.getD_eq_getElem?_getD, hz] at hc1
      have hw := hwf z (List.mem_of_getElem? hz)
      simp [Lit.wf, IntKind.min, IntKind.max, IntKind.signed, IntKind.bits] at hw
      rw [hc1]
      simp
      omega
    · cases hz
/-- a slice of things of sz cells each -/
theorem open_things {t e : TypeId} {sz : Nat} (ht : P.underlying t = some (.slice e)) (hc : P.cellsOf e = sz) (hsz : 0 < sz) {b : DataW H → Nat} {bs : List (DataW H) → Nat} (hB : BulkL b bs) {n : Nat} {c : Value} {x : DataW H × List MemPlace}
    (h : DataW.trod enc P W 0 (fun _ => true) true n t [c] = some x) (hk : b x.1 ≤ 1048576) :
    ∃ (ls : Option (List (List Value))) (ys : List (DataW H × List MemPlace)) (m : Nat), ArrE W All sz c ls ∧ ys.length = (ls.getD []).length ∧ n = m + 1 ∧ bs (ys.map (·.1)) + 1 ≤ b x.1 ∧
      ∀ (i : Nat) cs y, (ls.getD [])[i]? = some cs → ys[i]? = some y → DataW.trod enc P W 0 (fun _ => true) true m e cs = some y := by
  obtain ⟨m, rfl⟩ : ∃ m, n = m + 1 := by
    cases n with
    | zero => simp [DataW.trod] at h
    | succ m => exact ⟨m, rfl⟩
  rcases DataW.trod_slice ht h with ⟨h1, hx⟩ | ⟨a, len, cap, elems, rest, m', hm', h1, hx, hb, hl, hm, hlen, hel, hsp, _⟩
  · cases h1
    exact ⟨none, [], m, ⟨_, rfl⟩, rfl, rfl, by have := hB.pos x.1; simpa [hB.nil] using this, fun i cs y h => by simp at h⟩
  · cases h1
    cases hm'
    rw [hc] at hel hsp
    have hbk : bs (elems.map (·.1)) + 1 ≤ b x.1 := by rw [hx, hB.slice]; omega
    have hlk : len ≤ 1048576 := by
      have := hB.len (elems.map (·.1))
      rw [List.length_map] at this
      omega
    by_cases hcap : cap = 0
    · subst hcap
      have h0 : len = 0 := by omega
      subst h0
      have he : elems = [] := List.eq_nil_of_length_eq_zero hlen
      subst he
      exact ⟨none, [], m, ⟨_, rfl⟩, rfl, rfl, by simpa using hbk, fun i cs y h => by simp at h⟩
    have hs : a.spot = none := by
      by_cases h0 : 0 < len
      · have := hel 0 h0
        have hget : elems[0]? = some elems[0] := List.getElem?_eq_getElem (by omega)
        rw [hget] at this
        obtain ⟨cs, hcs, _⟩ := Option.bind_eq_some_iff.1 this
        exact spot_of_cells hcs hsz
      · obtain ⟨hr1, hr2⟩ := hsp rfl
        have := hr2 0 (by omega)
        have hget : rest[0]? = some rest[0] := List.getElem?_eq_getElem (by omega)
        rw [hget] at this
        obtain ⟨cs, hcs, _⟩ := Option.bind_eq_some_iff.1 this
        have e0 : (len + 0) * sz = 0 * sz := by
          have : len = 0 := by omega
          subst this; rfl
        rw [e0] at hcs
        exact spot_of_cells hcs hsz
    obtain ⟨ab, ao, sp⟩ := a
    simp only at hs
    subst hs
    -- the cells of each
    have hcs : ∀ i, i < len → ∃ cs y, W.cells? 0 (⟨ab, ao + i * sz, none⟩ : Addr) sz = some cs ∧ elems[i]? = some y ∧ DataW.trod enc P W 0 (fun _ => true) true m e cs = some y := by
      intro i hi
      have h2 := hel i hi
      have hget : elems[i]? = some elems[i] := List.getElem?_eq_getElem (by omega)
      rw [hget] at h2
      obtain ⟨cs, h3, h4⟩ := Option.bind_eq_some_iff.1 h2
      rw [Addr.add_mk] at h3
      exact ⟨cs, _, h3, hget, h4⟩
    let cellsI : Nat → List Value := fun i => (W.cells? 0 (⟨ab, ao + i * sz, none⟩ : Addr) sz).getD []
    have hcI : ∀ i, i < len → W.cells? 0 (⟨ab, ao + i * sz, none⟩ : Addr) sz = some (cellsI i) := by
      intro i hi
      obtain ⟨cs, y, h3, _⟩ := hcs i hi
      simp only [cellsI, h3, Option.getD_some]
    refine ⟨some ((List.range len).map cellsI), elems, m, ⟨ab, ao, cap, by simp, trivial, ⟨by simpa using hl, by simp; omega⟩, ?_⟩, by simp [hlen], rfl, hbk, ?_⟩
    · intro i cs hi
      rw [List.getElem?_map, Option.map_eq_some_iff] at hi
      obtain ⟨j, hj, rfl⟩ := hi
      obtain ⟨hjl, hjj⟩ := List.getElem?_eq_some_iff.1 hj
      simp at hjl hjj
      subst hjj
      obtain ⟨_, h4, h5⟩ := World.cells?_some (hcI i hjl)
      refine ⟨h4, fun j u hu => ?_⟩
      have hj2 := (List.getElem?_eq_some_iff.1 hu).1
      have := h5 j (by omega)
      rw [Addr.add_mk, hu] at this
      exact this
    · intro i cs y hi hy
      simp only [Option.getD_some] at hi
      rw [List.getElem?_map, Option.map_eq_some_iff] at hi
      obtain ⟨j, hj, rfl⟩ := hi
      obtain ⟨hjl, hjj⟩ := List.getElem?_eq_some_iff.1 hj
      simp at hjl hjj
      subst hjj
      obtain ⟨cs', y', h3, h4, h5⟩ := hcs i hjl
      rw [hcI i hjl] at h3
      cases h3
      rw [h4] at hy
      cases hy
      exact h5
variable {E : Env} {tI64 : Nat} (hT : TyTr P E tI64) {b : DataW H → Nat} {bs : List (DataW H) → Nat} (hB : BulkL b bs)
include hT hB
theorem open_tags {n : Nat} {c : Value} {x : DataW H × List MemPlace} (h : DataW.trod enc P W 0 (fun _ => true) true n E.t_l_spec_Tag [c] = some x) (hk : b x.1 ≤ 1048576) :
    ∃ u : List (Nat × List UInt8), UAt W c u ∧ (u.map fun x => 1 + x.2.length).sum + 1 ≤ b x.1 := by
  obtain ⟨f0, f1, hu, ⟨h0t, h0o⟩, ⟨h1t, h1o⟩⟩ := hT.tg
  obtain ⟨ls, ys, m, ha, hl, rfl, hbk, hel⟩ := open_things hT.lu hT.cU (by omega) hB h hk
  -- one tag
  have one : ∀ cs (y : DataW H × List MemPlace), DataW.trod enc P W 0 (fun _ => true) true m E.t_spec_Tag cs = some y → ∃ (k : Nat) (bv : Value) (s : List UInt8), cs = [.int .u32 k, bv] ∧ k < 4294967296 ∧ BytesAt W All bv s ∧ 1 + s.length ≤ b y.1 := by
    intro cs y hy
    obtain ⟨xs, m', rfl, hx, hcl, hxl, hf⟩ := DataW.trod_struct hu hy
    rw [hT.cU] at hcl
    obtain ⟨c0, c1, rfl⟩ : ∃ c0 c1, cs = [c0, c1] := by
      match cs, hcl with
      | [c0, c1], _ => exact ⟨c0, c1, rfl⟩
    obtain ⟨x0, x1, rfl⟩ : ∃ x0 x1, xs = [x0, x1] := by
      match xs, hxl with
      | [x0, x1], _ => exact ⟨x0, x1, rfl⟩
    have e0 := hf 0 f0 rfl
    have e1 := hf 1 f1 rfl
    rw [h0t, h0o, hT.c1.2.1] at e0
    rw [h1t, h1o, hT.c1.2.2.2.2.1] at e1
    simp at e0 e1
    obtain ⟨k, hk0, _, hw⟩ := DataW.trod_int hT.u32 e0
    cases hk0
    simp [Lit.wf, IntKind.min, IntKind.max, IntKind.signed, IntKind.bits] at hw
    obtain ⟨s, hs, hsb⟩ := open_bytesIn hT.bs hT.u8 hT.c1.2.2.1 hB e1
    refine ⟨k.toNat, c1, s, by simp; omega, by omega, hs, ?_⟩
    rw [hx, hB.agg]
    simp only [List.map_cons, List.map_nil, hB.cons, hB.nil]
    omega
  have all : ∀ (L : List (List Value)) (ys : List (DataW H × List MemPlace)), ys.length = L.length → (∀ (i : Nat) cs y, L[i]? = some cs → ys[i]? = some y → DataW.trod enc P W 0 (fun _ => true) true m E.t_spec_Tag cs = some y) →
      ∃ u : List (Nat × List UInt8), u.length = L.length ∧ (∀ (i : Nat) c x, L[i]? = some c → u[i]? = some x → ∃ bv, c = [.int .u32 x.1, bv] ∧ x.1 < 4294967296 ∧ BytesAt W All bv x.2) ∧ (u.map fun x => 1 + x.2.length).sum ≤ bs (ys.map (·.1)) := by
    intro L
    induction L with
    | nil =>
      intro ys hl _
      have : ys = [] := List.eq_nil_of_length_eq_zero hl
      subst this
      exact ⟨[], rfl, fun i c x h => by simp at h, by simp⟩
    | cons cs L ih =>
      intro ys hl hel
      cases ys with
      | nil => simp at hl
      | cons y ys =>
        obtain ⟨u, h1, h2, h3⟩ := ih ys (by simpa using hl) (fun i cs y hi hy => hel (i + 1) cs y (by simpa using hi) (by simpa using hy))
        obtain ⟨k, bv, s, rfl, hk, hs, hsb⟩ := one cs y (hel 0 cs y rfl rfl)
        refine ⟨(k, s) :: u, by simp [h1], ?_, ?_⟩
        · intro i c x hi hx
          cases i with
          | zero => simp at hi hx; subst hi; subst hx; exact ⟨bv, rfl, hk, hs⟩
          | succ i => exact h2 i c x (by simpa using hi) (by simpa using hx)
        · simp only [List.map_cons, List.sum_cons, hB.cons]; omega
  obtain ⟨u, h1, h2, h3⟩ := all (ls.getD []) ys hl hel
  exact ⟨u, ⟨ls, ha, h1.symm, h2⟩, by omega⟩
theorem open_tree : ∀ (n : Nat) (cs : List Value) (x : DataW H × List MemPlace), DataW.trod enc P W 0 (fun _ => true) true n E.t_spec_Tree cs = some x → b x.1 ≤ 1048576 → ∃ t : Tr, TreeAt W cs t ∧ t.sz ≤ b x.1 := by
  intro n
  induction n using Nat.strongRecOn with
  | _ n ih =>
    intro cs x h hk
    obtain ⟨f0, f1, f2, f3, f4, hu, ⟨h0t, h0o⟩, ⟨h1t, h1o⟩, ⟨h2t, h2o⟩, ⟨h3t, h3o⟩, ⟨h4t, h4o⟩⟩ := hT.tr
    obtain ⟨xs, m, rfl, hx, hcl, hxl, hf⟩ := DataW.trod_struct hu h
    rw [hT.cT] at hcl
    obtain ⟨c0, c1, c2, c3, c4, rfl⟩ : ∃ c0 c1 c2 c3 c4, cs = [c0, c1, c2, c3, c4] := by
      match cs, hcl with
      | [c0, c1, c2, c3, c4], _ => exact ⟨c0, c1, c2, c3, c4, rfl⟩
    obtain ⟨x0, x1, x2, x3, x4, rfl⟩ : ∃ x0 x1 x2 x3 x4, xs = [x0, x1, x2, x3, x4] := by
      match xs, hxl with
      | [x0, x1, x2, x3, x4], _ => exact ⟨x0, x1, x2, x3, x4, rfl⟩
    have e0 := hf 0 f0 rfl
    have e1 := hf 1 f1 rfl
    have e2 := hf 2 f2 rfl
    have e3 := hf 3 f3 rfl
    have e4 := hf 4 f4 rfl
    obtain ⟨k1, k2, k3, k4, k5, k6, k7⟩ := hT.c1
    rw [h0t, h0o, k1] at e0
    rw [h1t, h1o, k5] at e1
    rw [h2t, h2o, k4] at e2
    rw [h3t, h3o, k6] at e3
    rw [h4t, h4o, k7] at e4
    simp at e0 e1 e2 e3 e4
    have hbx : b x.1 = b x0.1 + (b x1.1 + (b x2.1 + (b x3.1 + b x4.1))) + 1 := by
      rw [hx, hB.agg]
      simp only [List.map_cons, List.map_nil, hB.cons, hB.nil]
      omega
    obtain ⟨z, hz, _, hw⟩ := DataW.trod_int hT.i64 e0
    cases hz
    simp [Lit.wf, IntKind.min, IntKind.max, IntKind.signed, IntKind.bits] at hw
    obtain ⟨bb, hbb, _⟩ := DataW.trod_bool hT.bool e2
    cases hbb
    obtain ⟨s, hs, hsb⟩ := open_bytesIn hT.bs hT.u8 k3 hB e1
    obtain ⟨u, hua, hub⟩ := open_tags hT hB e4 (by omega)
    obtain ⟨ls, ys, m', ha, hl, hm', hbk, hel⟩ := open_things hT.lt hT.cT (by omega) hB e3 (by omega)
    subst hm'
    have all : ∀ (L : List (List Value)) (ys : List (DataW H × List MemPlace)), ys.length = L.length → bs (ys.map (·.1)) ≤ 1048576 → (∀ (i : Nat) cs y, L[i]? = some cs → ys[i]? = some y → DataW.trod enc P W 0 (fun _ => true) true m' E.t_spec_Tree cs = some y) →
        ∃ l : List Tr, l.length = L.length ∧ (∀ (i : Nat) c t, L[i]? = some c → l[i]? = some t → TreeAt W c t) ∧ Tr.szL l ≤ bs (ys.map (·.1)) := by
      intro L
      induction L with
      | nil =>
        intro ys hl _ _
        have : ys = [] := List.eq_nil_of_length_eq_zero hl
        subst this
        exact ⟨[], rfl, fun i c x h => by simp at h, by simp [Tr.szL]⟩
      | cons cs L ihL =>
        intro ys hl hkk hel
        cases ys with
        | nil => simp at hl
        | cons y ys =>
          simp only [List.map_cons, hB.cons] at hkk
          obtain ⟨l, h1, h2, h3⟩ := ihL ys (by simpa using hl) (by omega) (fun i cs y hi hy => hel (i + 1) cs y (by simpa using hi) (by simpa using hy))
          obtain ⟨t, ht, htz⟩ := ih m' (by omega) cs y (hel 0 cs y rfl rfl) (by omega)
          refine ⟨t :: l, by simp [h1], ?_, ?_⟩
          · intro i c x hi hx
            cases i with
            | zero => simp at hi hx; subst hi; subst hx; exact ht
            | succ i => exact h2 i c x (by simpa using hi) (by simpa using hx)
          · simp only [List.map_cons, Tr.szL, hB.cons]; omega
    obtain ⟨l, h1, h2, h3⟩ := all (ls.getD []) ys hl (by omega) hel
    refine ⟨.mk z s bb l u, .mk ⟨by omega, by omega⟩ hs ha h1.symm h2 hua, ?_⟩
    have hp0 := hB.pos x0.1
    simp only [Tr.sz]
    omega
/-- an argument -/
theorem open_arg {cs : Array Value} {d : DataW H} {ps : List MemPlace} (h : DataW.Trod enc P W 0 (fun _ => true) true E.t_spec_Tree (.agg cs) d ps) (hk : b d ≤ 1048576) : ∃ t : Tr, TreeAt W cs.toList t ∧ t.sz ≤ 1048576 := by
  obtain ⟨n, hn⟩ := h
  obtain ⟨t, h1, h2⟩ := open_tree hT hB n _ _ hn hk
  exact ⟨t, h1, Nat.le_trans h2 hk⟩
end
/-- a struct's value -/
theorem agg_of_ok {P : Program} {w : World} {r : Reach} {base t : Nat} {v : Value} {fs : Array Field} (hu : P.underlying t = some (.struct fs)) (h : Value.okWide P w r base t v) : ∃ cs : Array Value, v = .agg cs := by
  simp only [Value.okWide, hu] at h
  obtain ⟨cs, rfl, _⟩ := h
  exact ⟨cs, rfl⟩
end Go.Kg

set_option linter.unusedSimpArgs false
set_option linter.unusedVariables false
namespace Go.Kg
open Go
/-- An entry of the map says a tag. -/
def EntAt (w : World) (K : Nat → Prop) (c : Nat) (e : MapEntry) (x : Nat × List UInt8) : Prop := e.key = .int .u32 x.1 ∧ x.1 < 4294967296 ∧ e.born < c ∧ BytesAt w K e.val x.2
def EL (w : World) (K : Nat → Prop) (c : Nat) : List MapEntry → TagL → Prop
  | [], [] => True
  | e :: L, x :: l => EntAt w K c e x ∧ EL w K c L l
  | _, _ => False
theorem EL.of {w : World} {K : Nat → Prop} {c : Nat} : ∀ {L : List MapEntry} {l : TagL}, L.length = l.length → (∀ (i : Nat) e x, L[i]? = some e → l[i]? = some x → EntAt w K c e x) → EL w K c L l
  | [], [], _, _ => trivial
  | e :: L, x :: l, h, hx => ⟨hx 0 e x rfl rfl, EL.of (by simpa using h) (fun i e x h1 h2 => hx (i + 1) e x (by simpa using h1) (by simpa using h2))⟩
  | [], _ :: _, h, _ => by simp at h
  | _ :: _, [], h, _ => by simp at h
theorem EL.get {w : World} {K : Nat → Prop} {c : Nat} : ∀ {L : List MapEntry} {l : TagL}, EL w K c L l → L.length = l.length ∧ ∀ (i : Nat) e x, L[i]? = some e → l[i]? = some x → EntAt w K c e x
  | [], [], _ => ⟨rfl, fun i e x h => by simp at h⟩
  | e :: L, x :: l, h => ⟨by simpa using (EL.get h.2).1, fun i e' x' h1 h2 => by
      cases i with
      | zero => simp at h1 h2; subst h1; subst h2; exact h.1
      | succ i => exact (EL.get h.2).2 i e' x' (by simpa using h1) (by simpa using h2)⟩
  | [], _ :: _, h => h.elim
  | _ :: _, [], h => h.elim
theorem EL.up {w : World} {K : Nat → Prop} {c c' : Nat} (hc : c ≤ c') : ∀ {L : List MapEntry} {l : TagL}, EL w K c L l → EL w K c' L l
  | [], [], _ => trivial
  | e :: L, x :: l, h => ⟨⟨h.1.1, h.1.2.1, Nat.lt_of_lt_of_le h.1.2.2.1 hc, h.1.2.2.2⟩, EL.up hc h.2⟩
  | [], _ :: _, h => h.elim
  | _ :: _, [], h => h.elim
theorem EL.mem {w : World} {K : Nat → Prop} {c : Nat} : ∀ {L : List MapEntry} {l : TagL}, EL w K c L l → ∀ e ∈ L, ∃ x ∈ l, EntAt w K c e x
  | e :: L, x :: l, h, e', he => by
    rcases List.mem_cons.1 he with rfl | he
    · exact ⟨x, List.mem_cons_self .., h.1⟩
    · obtain ⟨y, hy, hh⟩ := EL.mem h.2 e' he; exact ⟨y, List.mem_cons_of_mem _ hy, hh⟩
/-- Tags as lists -/
theorem tagsAt_iff {w : World} {K : Nat → Prop} {v : Value} {l : TagL} : TagsAt w K v l ↔ (v = .map none ∧ l = []) ∨ ∃ b es clock, v = .map (some b) ∧ K b ∧ w.heap[b]? = some (.map es clock) ∧ EL w K clock es.toList l ∧ (l.map (·.1)).Nodup ∧ (es.toList.map (·.born)).Nodup ∧ l.length < 4294967296 := by
  constructor
  · rintro (h | ⟨b, es, clock, rfl, hk, hb, hs, hn, hl, hx⟩)
    · exact .inl h
    · exact .inr ⟨b, es, clock, rfl, hk, hb, EL.of (by simpa using hs) (fun i e x h1 h2 => hx i e x (by simpa using h1) h2), hn.1, hn.2, hl⟩
  · rintro (h | ⟨b, es, clock, rfl, hk, hb, he, h1, h2, hl⟩)
    · exact .inl h
    · have := he.get
      exact .inr ⟨b, es, clock, rfl, hk, hb, by simpa using this.1, ⟨h1, h2⟩, hl, fun i e x h1 h2 => this.2 i e x (by simpa using h1) h2⟩
theorem findNow_spec {w : World} {K : Nat → Prop} {c k : Nat} {v : Value} {s : List UInt8} (hk : k < 4294967296) (hv : BytesAt w K v s) : ∀ {L : List MapEntry} {l : TagL} (i : Nat), EL w K c L l →
    (Instr.findNow (.int .u32) (.int .u32 k) L i = some none ∧ EL w K (c + 1) (L ++ [{ key := .int .u32 k, val := v, born := c }]) (setTag k s l)) ∨
    (∃ j e, Instr.findNow (.int .u32) (.int .u32 k) L i = some (some (i + j, e.val)) ∧ L[j]? = some e ∧ e.key = .int .u32 k ∧ EL w K c (L.modify j fun e => { e with key := .int .u32 k, val := v }) (setTag k s l))
  | [], [], i, _ => .inl ⟨rfl, ⟨rfl, hk, Nat.lt_succ_self c, hv⟩, trivial⟩
  | e :: L, x :: l, i, h => by
    obtain ⟨⟨h1, h2, h3, h4⟩, h5⟩ := h
    by_cases hx : x.1 = k
    · refine .inr ⟨0, e, ?_, rfl, by rw [h1, hx], ?_⟩
      · simp [Instr.findNow, Instr.sameNow, h1, hx]
      · simp only [List.modify_zero_cons, setTag, if_pos hx]
        exact ⟨⟨rfl, hk, h3, hv⟩, h5⟩
    · have hne : ((k : Int) == (x.1 : Int)) = false := by simp; omega
      have hf : Instr.findNow (.int .u32) (.int .u32 k) (e :: L) i = Instr.findNow (.int .u32) (.int .u32 k) L (i + 1) := by
        simp [Instr.findNow, Instr.sameNow, h1, hne]
      rw [hf]
      rcases findNow_spec hk hv (i + 1) h5 with ⟨a1, a2⟩ | ⟨j, e', a1, a2, a3, a4⟩
      · refine .inl ⟨a1, ?_⟩
        simp only [setTag, if_neg hx]
        exact ⟨⟨h1, h2, Nat.lt_succ_of_lt h3, h4⟩, a2⟩
      · refine .inr ⟨j + 1, e', by rw [a1]; congr 3; omega, by simpa using a2, a3, ?_⟩
        simp only [setTag, if_neg hx, List.modify_succ_cons]
        exact ⟨⟨h1, h2, h3, h4⟩, a4⟩
  | [], _ :: _, i, h => h.elim
  | _ :: _, [], i, h => h.elim
theorem modify_born {j : Nat} {f : MapEntry → MapEntry} (hf : ∀ e, (f e).born = e.born) : ∀ L : List MapEntry, (L.modify j f).map (·.born) = L.map (·.born) := by
  induction j with
  | zero => intro L; cases L <;> simp [hf]
  | succ j ih => intro L; cases L with
    | nil => simp
    | cons e L => simp [ih L]
theorem check_u32 {P : Program} {T : TypeId} (hT : P.underlying T = some (.int .u32)) {w : World} {b : Bool} {k : Int} : (Instr.checkKey b 10000 T (.int .u32 k)).run P w = .ok () w := by
  have : ∀ n, (Instr.checkKey b (n + 1) T (.int .u32 k)).run P w = .ok () w := by intro n; simp [Instr.checkKey, run_underlying hT]
  exact this 9999
/-- m[k] = v -/
theorem run_mapUpdate {P : Program} {T KT VT : TypeId} (hT : P.underlying T = some (.map KT VT)) (hK : P.underlying KT = some (.int .u32)) {w : World} {K : Nat → Prop} {b k clock : Nat} {v : Value} {s : List UInt8} {es : Array MapEntry} {l : TagL}
    (hk : k < 4294967296) (hv : BytesAt w K v s) (hb : w.heap[b]? = some (.map es clock)) (he : EL w K clock es.toList l) (hn : (es.toList.map (·.born)).Nodup) :
    ∃ es' clock', (Instr.mapUpdate T (.map (some b)) (.int .u32 k) v).run P w = .ok () (w.setBlk b (.map es' clock')) ∧ EL w K clock' es'.toList (setTag k s l) ∧ (es'.toList.map (·.born)).Nodup := by
  have hget : (getObj b).run P w = .ok (.map es clock) w := by simp [getObj, Sem.run, hb]
  have hset : ∀ o, (setObj b o).run P w = .ok () (w.setBlk b o) := by intro o; simp [setObj, Sem.run, hb, World.setBlk]
  have hfk : ∀ r, Instr.findNow (.int .u32) (.int .u32 k) es.toList 0 = some r → (Instr.findKey KT (.int .u32 k) es.toList).run P w = .ok r w := by
    intro r hr; simp [Instr.findKey, run_underlying hK, hr]
  rcases findNow_spec hk hv 0 he with ⟨a1, a2⟩ | ⟨j, e, a1, a2, a3, a4⟩
  · refine ⟨es.push { key := .int .u32 k, val := v, born := clock }, clock + 1, ?_, by simpa using a2, ?_⟩
    · simp [Instr.mapUpdate, run_underlying hT, hget, check_u32 hK, hfk _ a1, hset]
    · simp only [Array.toList_push, List.map_append, List.map_cons, List.map_nil]
      rw [List.nodup_append]
      refine ⟨hn, by simp, ?_⟩
      intro a ha b hb
      simp only [List.mem_singleton] at hb
      obtain ⟨e, he1, rfl⟩ := List.mem_map.1 ha
      obtain ⟨x, _, hx⟩ := he.mem e he1
      have := hx.2.2.1
      omega
  · refine ⟨es.modify j fun e => { e with key := .int .u32 k, val := v }, clock, ?_, by simpa using a4, ?_⟩
    · have hj : es[j]? = some e := by simpa using a2
      have hsame : (Instr.sameBits 10000 (.int .u32 (k : Int)) (.int .u32 (k : Int))) = true := by simp [Instr.sameBits]
      simp [Instr.mapUpdate, run_underlying hT, hget, check_u32 hK, hfk _ a1, hset, Instr.keyThatStays, hj, a3, hsame]
    · simp only [Array.toList_modify]
      rw [modify_born]
      · exact hn
      · intro e; rfl
theorem EL.ext {C : Nat → Prop} {w w' : World} {D c : Nat} (he : Ext C w w') (hD : ¬ C D) : ∀ {L : List MapEntry} {l : TagL}, EL w (· = D) c L l → EL w' (· = D) c L l
  | [], [], _ => trivial
  | e :: L, x :: l, h => ⟨⟨h.1.1, h.1.2.1, h.1.2.2.1, h.1.2.2.2.ext he (fun b _ hb => by subst hb; exact hD)⟩, EL.ext he hD h.2⟩
  | [], _ :: _, h => h.elim
  | _ :: _, [], h => h.elim
/-- the map lies in a block from base on, the bytes in D -/
def TagsM (w : World) (D base : Nat) (u : Value) (l : TagL) : Prop :=
  (u = .map none ∧ l = []) ∨ ∃ m es clock, u = .map (some m) ∧ base ≤ m ∧ w.heap[m]? = some (.map es clock) ∧ EL w (· = D) clock es.toList l ∧ (es.toList.map (·.born)).Nodup
theorem TagsM.one {w : World} {D base : Nat} {u : Value} {l : TagL} (h : TagsM w D base u l) : u.oneCell' = true ∧ u.cells = #[u] := by
  rcases h with ⟨rfl, _⟩ | ⟨_, _, _, rfl, _⟩ <;> exact ⟨rfl, rfl⟩
@[simp] theorem stp_mapUpdate {P : Program} {f : Nat → Value} {ty : TypeId} {w : World} {K : Value → World → Prop} {T : TypeId} {a b c : Operand} : stp P f (.mapUpdate T a b c) ty w K = stepF P f (.mapUpdate T a b c) ty w K := (rfl)
@[simp] theorem stp_makeMap {P : Program} {f : Nat → Value} {ty : TypeId} {w : World} {K : Value → World → Prop} {T : TypeId} : stp P f (.makeMap T none) ty w K = K (.map (some w.heap.size)) (w.alloc (.map #[] 0)) := by
  show stepF P f (.makeMap T none) ty w K = _
  rw [stepF_ok (v := .map (some w.heap.size)) (w' := w.alloc (.map #[] 0))]
  simp [runF, execOp, Instr.makeMap, newObj, Sem.run]
section
variable {P : Program} {E : Env} (ht : TyTg P E)
include ht
/-- t.Set(key, val); t's cell lies in a block of its own. -/
theorem c_TSet (hu : P.underlying E.tU32 = some (.int .u32)) (hI : FnIs P E.f_pkmsg_Tags_Set nt_pkmsg_Tags_Set (rs_pkmsg_Tags_Set E) (ir_pkmsg_Tags_Set E)) {w : World} {D base b k : Nat} {u v : Value} {s : List UInt8} {l : TagL} {et : TypeId}
    (hk : k < 4294967296) (hv : BytesAt w (· = D) v s) (hc : w.heap[b]? = some (.cells #[u] et (0, 0))) (hl : TagsM w D base u l) (hD : D < base) (hb : base ≤ b) (hbs : base ≤ w.heap.size) :
    Ret P E.f_pkmsg_Tags_Set #[.pointer (some ⟨b, 0, none⟩), .int .u32 k, v] w fun _ w' => ∃ u', w'.heap[b]? = some (.cells #[u'] et (0, 0)) ∧ TagsM w' D base u' (setTag k s l) ∧ Ext (fun x => base ≤ x) w w' := by
  refine hI.call (args := [_, _, _]) (by simp [nt_pkmsg_Tags_Set]) ?_
  have c0 : w.cell? ⟨b, 0, none⟩ = some u := by rw [cell_of_blk hc]; rfl
  rcases hl with ⟨rfl, rfl⟩ | ⟨m, es, clock, rfl, hm, hmb, he, hn⟩
  · simp [ir_pkmsg_Tags_Set, rs_pkmsg_Tags_Set, ht.g0, Addr.add_mk, ld_scl ht.kM, c0, bin_nil_map ht.uM]
    refine cw_true (by simp) ?_
    have hb2 : (w.alloc (.map #[] 0)).heap[b]? = some (.cells #[.map none] et (0, 0)) := alloc_old hc
    have hne : w.heap.size ≠ b := fun h => by have := lt_of_heap hc; omega
    simp [ht.g0, Addr.add_mk, store_scl ht.kM, put1K_blk hb2]
    generalize hw1 : (w.alloc (.map #[] 0)).setBlk b (.cells #[.map (some w.heap.size)] et (0, 0)) = w1
    have hE : Ext (fun x => base ≤ x) w w1 := by subst hw1; exact ((Ext.refl _ w).alloc _).setBlk (Or.inr hb) _
    have hb1 : w1.heap[b]? = some (.cells #[.map (some w.heap.size)] et (0, 0)) := by subst hw1; exact setBlk_same hb2
    have hm1 : w1.heap[w.heap.size]? = some (.map #[] 0) := by subst hw1; rw [setBlk_other hne]; exact alloc_new
    have c1 : w1.cell? ⟨b, 0, none⟩ = some (.map (some w.heap.size)) := by rw [cell_of_blk hb1]; rfl
    obtain ⟨es', clock', hr, he', hn'⟩ := run_mapUpdate (es := #[]) (l := []) ht.uM hu hk (hv.ext hE (fun x _ hx => by subst hx; omega)) hm1 trivial (by simp)
    simp [c1, ld_scl ht.kM]
    refine ⟨rfl, ?_⟩
    rw [stepF_skip (w' := w1.setBlk w.heap.size (.map es' clock'))]
    · refine ⟨_, (by rw [setBlk_other (Ne.symm hne)]; exact hb1), .inr ⟨w.heap.size, es', clock', rfl, hbs, setBlk_same hm1, ?_, hn'⟩, hE.setBlk (Or.inr hbs) _⟩
      exact EL.ext ((Ext.refl (fun x => base ≤ x) w1).setBlk (Or.inr hbs) _) (by omega) he'
    · simp [runF, execOp, hr]
  · simp [ir_pkmsg_Tags_Set, rs_pkmsg_Tags_Set, ht.g0, Addr.add_mk, ld_scl ht.kM, c0, bin_nil_map ht.uM]
    refine cw_false (by simp) ?_
    obtain ⟨es', clock', hr, he', hn'⟩ := run_mapUpdate ht.uM hu hk hv hmb he hn
    have hne : m ≠ b := fun h => by subst h; rw [hc] at hmb; cases hmb
    simp [ht.g0, Addr.add_mk, ld_scl ht.kM, c0]
    rw [stepF_skip (w' := w.setBlk m (.map es' clock'))]
    · refine ⟨_, (by rw [setBlk_other (Ne.symm hne)]; exact hc), .inr ⟨m, es', clock', rfl, hm, setBlk_same hmb, ?_, hn'⟩, (Ext.refl _ w).setBlk (Or.inr hm) _⟩
      exact EL.ext ((Ext.refl (fun x => base ≤ x) w).setBlk (Or.inr hm) _) (by omega) he'
    · simp [runF, execOp, hr]
end
/-- what is kept while tags are read -/
structure RTs (E : Env) (w0 : World) (pb D : Nat) (rs0 : RS) (n : Nat) (f : Nat → Value) (w : World) (l : TagL) (rs : RS) (k : Nat) : Prop where
  f0 : f 0 = .pointer (some ⟨pb, 0, none⟩)
  f3 : f 3 = .pointer (some ⟨w0.heap.size + 1, 0, none⟩)
  f4 : f 4 = .int .u32 k
  f2 : f 2 = .pointer (some ⟨w0.heap.size, 0, none⟩)
  ext : Ext (· = pb) w0 w
  rd : RdAt E.tRd w pb D rs
  cell : ∃ u, w.heap[w0.heap.size + 1]? = some (.cells #[u] E.t_kmsg_Tags (0, 0)) ∧ TagsM w D (w0.heap.size + 1) u l
  res : w.heap[w0.heap.size]? = some (.cells #[.map none] E.t_kmsg_Tags (0, 0))
  nd : (l.map (·.1)).Nodup
  len : l.length + k ≤ n
  todo : rdTagN k l rs = rdTagN n [] rs0
  kn : n < 4294967296
theorem Ext.grow {C : Nat → Prop} {a b c : World} {n : Nat} (h : Ext C a b) (k : Ext (fun x => n ≤ x) b c) (hn : a.heap.size ≤ n) : Ext C a c :=
  ⟨k.os.trans h.os, k.tape.trans h.tape, k.output.trans h.output, Nat.le_trans h.size k.size, fun i hi hc => (k.block i (Nat.lt_of_lt_of_le hi h.size) (by omega)).trans (h.block i hi hc)⟩
theorem EL.mono {w : World} {K K' : Nat → Prop} {c : Nat} (hk : ∀ b, K b → K' b) : ∀ {L : List MapEntry} {l : TagL}, EL w K c L l → EL w K' c L l
  | [], [], _ => trivial
  | e :: L, x :: l, h => ⟨⟨h.1.1, h.1.2.1, h.1.2.2.1, h.1.2.2.2.mono (fun b _ => hk b)⟩, EL.mono hk h.2⟩
  | [], _ :: _, h => h.elim
  | _ :: _, [], h => h.elim
theorem setTag_len1 (k : Nat) (v : List UInt8) (l : TagL) : (setTag k v l).length ≤ l.length + 1 := (setTag_len k v l).1
theorem TagsM.ext {C : Nat → Prop} {w w' : World} {D base : Nat} {u : Value} {l : TagL} (h : TagsM w D base u l) (he : Ext C w w') (hD : ¬ C D) (hC : ∀ k, k < w.heap.size → base ≤ k → ¬ C k) : TagsM w' D base u l := by
  rcases h with h | ⟨m, es, clock, rfl, hm, hb, h1, h2⟩
  · exact .inl h
  · exact .inr ⟨m, es, clock, rfl, hm, he.old hb (hC m (lt_of_heap hb) hm), h1.ext he hD, h2⟩
section
variable {P : Program} {E : Env} (ht : TyTg P E)
include ht
set_option maxHeartbeats 1000000 in
theorem c_readTags (C : CfgR) (hE : C.E = E) (hu : P.underlying E.tU32 = some (.int .u32)) (hi : intKind? P E.tU32 = some .u32) (hi' : intKind? P E.tInt = some .i64) (hk : kindOf P E.t_kmsg_Tags = .agg 1) (hz : zeroOf P E.t_kmsg_Tags = some (.agg #[.map none]))
    (hI : FnIs P E.f_kmsg_internalReadTags nt_kmsg_internalReadTags (rs_kmsg_internalReadTags E) (ir_kmsg_internalReadTags E))
    (hU : RdC P E.tRd E.f_pkbin_Reader_Uvarint fun rs => (.int .u32 (rdUv rs).1, (rdUv rs).2)) (hS : SpanC P E.tRd E.f_pkbin_Reader_Span)
    (hT : ∀ {w : World} {D base b k : Nat} {u v : Value} {s : List UInt8} {l : TagL} {et : TypeId}, k < 4294967296 → BytesAt w (· = D) v s → w.heap[b]? = some (.cells #[u] et (0, 0)) → TagsM w D base u l → D < base → base ≤ b → base ≤ w.heap.size →
      Ret P E.f_pkmsg_Tags_Set #[.pointer (some ⟨b, 0, none⟩), .int .u32 k, v] w fun _ w' => ∃ u', w'.heap[b]? = some (.cells #[u'] et (0, 0)) ∧ TagsM w' D base u' (setTag k s l) ∧ Ext (fun x => base ≤ x) w w') : TagsRC P C := by
  subst hE
  intro w pb D rs hne hD hr
  refine hI.call (args := [_]) (by simp [nt_kmsg_internalReadTags]) ?_
  have hlt : pb < w.heap.size := by obtain ⟨sv, hb, _⟩ := hr; exact lt_of_heap hb
  simp [ir_kmsg_internalReadTags, rs_kmsg_internalReadTags, hz, Value.cells]
  generalize hw1 : w.alloc (.cells #[.map none] C.E.t_kmsg_Tags) = w1
  have hs1 : w1.heap.size = w.heap.size + 1 := by subst hw1; simp
  have hx1 : Ext none1 w w1 := by subst hw1; exact (Ext.refl _ w).alloc _
  have hb0 : w1.heap[w.heap.size]? = some (.cells #[.map none] C.E.t_kmsg_Tags (0, 0)) := by subst hw1; exact alloc_new
  generalize hw2 : w1.alloc (.cells #[.map none] C.E.t_kmsg_Tags) = w2
  have hs2 : w2.heap.size = w.heap.size + 2 := by subst hw2; simp [hs1]
  have hx2 : Ext none1 w w2 := by subst hw2; exact hx1.alloc _
  have hb1 : w2.heap[w.heap.size + 1]? = some (.cells #[.map none] C.E.t_kmsg_Tags (0, 0)) := by subst hw2; rw [← hs1]; exact alloc_new
  have hb02 : w2.heap[w.heap.size]? = some (.cells #[.map none] C.E.t_kmsg_Tags (0, 0)) := by subst hw2; exact alloc_old hb0
  have hr2 : RdAt C.E.tRd w2 pb D rs := RdAt.ext hr hx2 (fun h => h) (fun h => h)
  refine (hU w2 pb D rs hne hr2).mono ?_
  rintro _ w3 ⟨rfl, hx3, hr3⟩
  simp
  have hx03 : Ext (· = pb) w w3 := (hx2.mono (fun _ _ h => h.elim)).trans hx3
  refine cw_loop (fun f w' => ∃ l rs' k, RTs C.E w pb D (rdUv rs).2 (rdUv rs).1 f w' l rs' k) (fun f _ => match f 4 with | .int _ n => n.toNat | _ => 0) ?_ ?_
  · refine ⟨[], (rdUv rs).2, (rdUv rs).1, by simp, by simp [hs1], by simp, by simp, hx03, hr3, ⟨.map none, hx3.old hb1 (by omega), .inl ⟨rfl, rfl⟩⟩, hx3.old hb02 (by omega), by simp, by simp, rfl, rdUv_lt rs⟩
  · rintro f w4 ⟨l, rs4, k, h⟩
    simp [h.f4]
    by_cases hk0 : k = 0
    · refine cw_false (by simp [hk0]) ?_
      obtain ⟨u, hc, hM⟩ := h.cell
      have c0 : w4.cell? ⟨w.heap.size + 1, 0, none⟩ = some u := by rw [cell_of_blk hc]; rfl
      have hone := hM.one
      simp [h.f3, h.f2, ld_agg hk, cellsFrom, Addr.add_mk, c0, store_agg hk, allOne, hone.1, putK_blk h.res]
      have hov : over #[Value.map none] 0 [u] = #[u] := rfl
      simp only [hov]
      generalize hw5 : w4.setBlk w.heap.size (.cells #[u] C.E.t_kmsg_Tags (0, 0)) = w5
      have hb5 : w5.heap[w.heap.size]? = some (.cells #[u] C.E.t_kmsg_Tags (0, 0)) := by subst hw5; exact setBlk_same h.res
      have c5 : w5.cell? ⟨w.heap.size, 0, none⟩ = some u := by rw [cell_of_blk hb5]; rfl
      simp [c5]
      have hx5 : Ext (fun x => x = w.heap.size) w4 w5 := by subst hw5; exact (Ext.refl (fun x => x = w.heap.size) w4).setBlk (b := w.heap.size) (Or.inr rfl) _
      have hlen := h.len
      have hkn := h.kn
      have htodo := h.todo
      subst hk0
      simp only [rdTagN] at htodo
      have hl1 : (rdTags rs).1 = l := by rw [rdTags, ← htodo]
      have hl2 : (rdTags rs).2 = rs4 := by rw [rdTags, ← htodo]
      refine ⟨?_, by subst hw5; exact h.ext.setBlk (Or.inl (Nat.le_refl _)) _, ?_⟩
      · rw [hl1, tagsAt_iff]
        rcases hM with ⟨rfl, rfl⟩ | ⟨m, es, clock, rfl, hm, hmb, he, hn⟩
        · exact .inl ⟨rfl, rfl⟩
        · refine .inr ⟨m, es, clock, rfl, .inr (by omega), hx5.old hmb ?_, ?_, h.nd, hn, by omega⟩
          · intro e; subst e; rw [h.res] at hmb; cases hmb
          · exact EL.mono (fun b hb => .inl hb) (he.ext hx5 (by omega))
      · rw [hl2]
        exact RdAt.ext h.rd hx5 (by omega) (by omega)
    · refine cw_true (by simp; omega) ?_
      simp [h.f0]
      refine (hU w4 pb D rs4 hne h.rd).mono ?_
      rintro _ w5 ⟨rfl, hx5, hr5⟩
      simp [h.f0]
      refine (hU w5 pb D _ hne hr5).mono ?_
      rintro _ w6 ⟨rfl, hx6, hr6⟩
      simp [h.f0, hi, hi']
      have hwr : IntKind.i64.wrap ((rdUv (rdUv rs4).2).1 : Int) = ((rdUv (rdUv rs4).2).1 : Int) := i64_small (by omega) (by have := rdUv_lt (rdUv rs4).2; omega)
      rw [hwr]
      refine (hS w6 pb D _ _ hne hr6).mono ?_
      rintro v w7 ⟨hv, _, hx7, hr7⟩
      simp [h.f3]
      have hx47 : Ext (· = pb) w4 w7 := (hx5.trans hx6).trans hx7
      obtain ⟨u, hc, hM⟩ := h.cell
      have hsz := h.ext.size
      have hc7 : w7.heap[w.heap.size + 1]? = some (.cells #[u] C.E.t_kmsg_Tags (0, 0)) := hx47.old hc (by omega)
      refine (hT (rdUv_lt rs4) hv hc7 (hM.ext hx47 (fun e => hne e.symm) (by intro k _ hk e; omega)) (by omega) (by omega) (by have := lt_of_heap hc7; omega)).mono ?_
      rintro _ w8 ⟨u', hc8, hM8, hx8⟩
      simp [h.f4]
      have hkn := h.kn
      have hln := h.len
      have hwk : IntKind.u32.wrap ((k : Int) - 1) = ((k - 1 : Nat) : Int) := by simp [IntKind.wrap, IntKind.signed, IntKind.bits]; omega
      refine ⟨⟨_, _, k - 1, ⟨by simp [h.f0], by simp [h.f3], by simp [hwk], by simp [h.f2], ?_, hr7.ext hx8 (by omega) (by omega), ⟨u', hc8, hM8⟩, ?_, setTag_nodup _ _ _ h.nd, ?_, ?_, hkn⟩⟩, ?_⟩
      · exact (h.ext.trans hx47).grow hx8 (by omega)
      · exact hx8.old (hx47.old h.res (by omega)) (by omega)
      · exact Nat.le_trans (Nat.add_le_add_right (setTag_len1 _ _ l) _) (by omega)
      · rw [← h.todo]
        obtain ⟨k', rfl⟩ : ∃ k', k = k' + 1 := ⟨k - 1, by omega⟩
        simp only [Nat.add_sub_cancel, rdTagN, rdTag]
      · rw [hwk]; omega
end
end Go.Kg

set_option linter.unusedSimpArgs false
set_option linter.unusedVariables false
namespace Go.Kg
open Go
/-- where what is written stands while tags are written: the cell bd; nothing of 'prot' is touched -/
structure DstAt (E : Env) (base bd : Nat) (w0 : World) (v0 : Value) (prot : Nat → Prop) (s : List UInt8) (w : World) (v : Value) : Prop where
  cell : w.heap[bd]? = some (.cells #[v] E.tBs (0, 0))
  own : OwnB E.tU8 w base v s
  grew : Grew w0 v0 w v
  off : ∀ k, prot k → k < w.heap.size ∧ ¬ own1 v k
theorem ownB_cells {e : Nat} {w : World} {base : Nat} {v : Value} {s : List UInt8} (h : OwnB e w base v s) : v.cells = #[v] ∧ v.oneCell' = true := by
  obtain ⟨n, _, h⟩ := h
  rcases h with ⟨rfl, _⟩ | ⟨g, cap, cur, rfl, _⟩ <;> exact ⟨rfl, rfl⟩
theorem DstAt.step {E : Env} {base bd : Nat} {w0 w w' : World} {v0 v v' : Value} {prot : Nat → Prop} {s out : List UInt8} (hD : DstAt E base bd w0 v0 prot s w v) (hbd : w0.heap.size ≤ bd) (hnp : ¬ prot bd) (hnb : ¬ own1 v bd)
    (ho : OwnB E.tU8 w' base v' (s ++ out)) (hg : Grew w v w' v') :
    w'.heap[bd]? = some (.cells #[v] E.tBs (0, 0)) ∧ DstAt E base bd w0 v0 prot (s ++ out) (w'.setBlk bd (.cells #[v'] E.tBs (0, 0))) v' ∧ ¬ own1 v' bd ∧ ∀ k, prot k → (w'.setBlk bd (.cells #[v'] E.tBs (0, 0))).heap[k]? = w.heap[k]? := by
  have hlt := lt_of_heap hD.cell
  have hc : w'.heap[bd]? = some (.cells #[v] E.tBs (0, 0)) := hg.ext.old hD.cell hnb
  have hnb' : ¬ own1 v' bd := fun h => (hg.own bd h).elim hnb (fun h => by omega)
  have hoff : ∀ k, prot k → k < w'.heap.size ∧ ¬ own1 v' k := fun k hk => ⟨Nat.lt_of_lt_of_le (hD.off k hk).1 hg.ext.size, fun h => (hg.own k h).elim (hD.off k hk).2 (fun h' => by have := (hD.off k hk).1; omega)⟩
  have hG := hD.grew.trans hg
  refine ⟨hc, ⟨setBlk_same hc, Own.ext ho ((Ext.refl (fun x => x = bd) w').setBlk (b := bd) (Or.inr rfl) _) (fun b h e => hnb' (by subst e; exact h)), ⟨hG.ext.setBlk (Or.inl hbd) _, hG.own⟩, by simpa using hoff⟩, hnb', ?_⟩
  intro k hk
  have hne : k ≠ bd := fun e => hnp (by subst e; exact hk)
  rw [setBlk_other hne]
  exact hg.ext.block k (hD.off k hk).1 (hD.off k hk).2
section
variable {P : Program} {E : Env} (ht : TyTg P E)
include ht
theorem c_AE1 (hS : SliI P E.tBs E.tU8 1 1 (.int .u8 0)) (hi : intKind? P E.tU32 = some .u32) (hi' : intKind? P E.tInt = some .i64) (hI : FnIs P E.f_pkmsg_Tags_AppendEach_1 nt_pkmsg_Tags_AppendEach_1 (rs_pkmsg_Tags_AppendEach_1 E) (ir_pkmsg_Tags_AppendEach_1 E))
    (hU : ∀ n : Nat, n < 4294967296 → WrC P E.tU8 E.f_kbin_AppendUvarint [.int .u32 n] (uvOut n))
    {base bd : Nat} {w0 w : World} {v0 v val : Value} {prot : Nat → Prop} {s : List UInt8} {x : Nat × List UInt8} {K : Nat → Prop}
    (hD : DstAt E base bd w0 v0 prot s w v) (hbd : w0.heap.size ≤ bd) (hb : base ≤ w0.heap.size) (hnp : ¬ prot bd) (hnb : ¬ own1 v bd) (hx : x.1 < 4294967296) (hxl : x.2.length < 4294967296) (hv : BytesAt w K val x.2) (hK : ∀ k, K k → k < base) (hsz : s.length + (tagW x).length ≤ 1099511627776) :
    Ret P E.f_pkmsg_Tags_AppendEach_1 #[.int .u32 x.1, val, .pointer (some ⟨bd, 0, none⟩)] w fun _ w' => ∃ v', DstAt E base bd w0 v0 prot (s ++ tagW x) w' v' ∧ ¬ own1 v' bd ∧ ∀ k, prot k → w'.heap[k]? = w.heap[k]? := by
  have hbdlt := lt_of_heap hD.cell
  have hxu : uvOut x.1 ++ uvOut x.2.length ++ x.2 = tagW x := by simp [tagW, Nat.mod_eq_of_lt hxl]
  have hsz' : s.length + ((uvOut x.1).length + (uvOut x.2.length).length + x.2.length) ≤ 1099511627776 := by rw [← hxu] at hsz; simp only [List.length_append] at hsz; omega
  refine hI.call (args := [_, _, _]) (by simp [nt_pkmsg_Tags_AppendEach_1]) ?_
  have c0 : w.cell? ⟨bd, 0, none⟩ = some v := by rw [cell_of_blk hD.cell]; rfl
  have hsw : base ≤ w.heap.size := Nat.le_trans hb hD.grew.size
  simp [ir_pkmsg_Tags_AppendEach_1, rs_pkmsg_Tags_AppendEach_1, ld_scl ht.kBs, c0]
  refine (hU x.1 hx w base v s hD.own hsw (by omega)).mono ?_
  rintro v1 w1 ⟨ho1, hg1⟩
  obtain ⟨hc1, hD1, hn1, hp1⟩ := hD.step hbd hnp hnb ho1 hg1
  have hva : BytesAt w1 K val x.2 := hv.ext hg1.ext (fun b _ hk h => by have := (Own.below hD.own h).1; have := hK b hk; omega)
  simp [store_scl ht.kBs, (ownB_cells ho1).2, put1K_blk hc1]
  generalize hw1' : w1.setBlk bd (.cells #[v1] E.tBs (0, 0)) = w1' at *
  have hva1 : BytesAt w1' K val x.2 := by subst hw1'; exact hva.ext ((Ext.refl (fun k => k = bd) w1).setBlk (b := bd) (Or.inr rfl) _) (fun b _ hk e => by have := hK b hk; omega)
  have c1 : w1'.cell? ⟨bd, 0, none⟩ = some v1 := by rw [cell_of_blk hD1.cell]; rfl
  obtain ⟨a, c, rfl, _⟩ := hva1.len
  have hw32 : IntKind.u32.wrap (x.2.length : Int) = (x.2.length : Int) := by simp [IntKind.wrap, IntKind.signed, IntKind.bits]; omega
  have uBs := hS.und
  simp [ld_scl ht.kBs, c1, len_slice uBs, hi, hi', hw32]
  refine (hU x.2.length hxl w1' base v1 _ hD1.own (Nat.le_trans hb hD1.grew.size) (by simp; omega)).mono ?_
  rintro v2 w2 ⟨ho2, hg2⟩
  obtain ⟨hc2, hD2, hn2, hp2⟩ := hD1.step hbd hnp hn1 ho2 hg2
  have hvb : BytesAt w2 K (.slice a x.2.length c) x.2 := hva1.ext hg2.ext (fun b _ hk h => by have := (Own.below hD1.own h).1; have := hK b hk; omega)
  simp [store_scl ht.kBs, (ownB_cells ho2).2, put1K_blk hc2]
  generalize hw2' : w2.setBlk bd (.cells #[v2] E.tBs (0, 0)) = w2' at *
  have hvb1 : BytesAt w2' K (.slice a x.2.length c) x.2 := by subst hw2'; exact hvb.ext ((Ext.refl (fun k => k = bd) w2).setBlk (b := bd) (Or.inr rfl) _) (fun b _ hk e => by have := hK b hk; omega)
  have c2 : w2'.cell? ⟨bd, 0, none⟩ = some v2 := by rw [cell_of_blk hD2.cell]; rfl
  simp [ld_scl ht.kBs, c2]
  refine st_app_bytes hS (by simp) hD2.own (Nat.le_trans hb hD2.grew.size) (by simpa using hvb1) (by simp; omega) ?_
  intro v3 w3 ho3 hg3
  obtain ⟨hc3, hD3, hn3, hp3⟩ := hD2.step hbd hnp hn2 ho3 hg3
  simp [store_scl ht.kBs, (ownB_cells ho3).2, put1K_blk hc3]
  refine ⟨v3, ?_, hn3, fun k hk => ?_⟩
  · rw [← hxu]; simpa [List.append_assoc] using hD3
  · rw [hp3 k hk, hp2 k hk, hp1 k hk]
end
end Go.Kg

set_option linter.unusedSimpArgs false
set_option linter.unusedVariables false
namespace Go.Kg
open Go
theorem DstAt.ext {E : Env} {base bd n0 : Nat} {w0 w w' : World} {v0 v : Value} {prot : Nat → Prop} {s : List UInt8} (hD : DstAt E base bd w0 v0 prot s w v) (he : Ext (fun x => n0 ≤ x) w w') (hbd : bd < n0) (hv : ∀ k, own1 v k → k < n0) (h0 : w0.heap.size ≤ n0) :
    DstAt E base bd w0 v0 (fun k => n0 ≤ k ∧ k < w'.heap.size) s w' v :=
  ⟨he.old hD.cell (by omega), Own.ext hD.own he (fun b h h' => by have := hv b h; omega), ⟨hD.grew.ext.grow he h0, hD.grew.own⟩, fun k hk => ⟨hk.2, fun h => by have := hv k h; omega⟩⟩
theorem DstAt.tags {E : Env} {base bd : Nat} {w0 w : World} {v0 v : Value} {prot : Nat → Prop} {s s0 : List UInt8} (hD : DstAt E base bd w0 v0 prot s w v) (ho : OwnB E.tU8 w0 base v0 s0) {b o : Nat} {u : Value} {l : TagL} (hb : b < base) (hc : w0.cell? ⟨b, o, none⟩ = some u) (hl : TagsAt w0 (· < base) u l) :
    w.cell? ⟨b, o, none⟩ = some u ∧ TagsAt w (· < base) u l :=
  ⟨hD.grew.ext.cell hc (fun h => by have := (Own.below ho h).1; simp at this; omega), hl.ext hD.grew.ext (fun b _ hb h => by have := (Own.below ho h).1; omega)⟩
theorem EL.find {w : World} {K : Nat → Prop} {c : Nat} : ∀ {L : List MapEntry} {l : TagL} (i : Nat), EL w K c L l → (l.map (·.1)).Nodup → ∀ x ∈ l, x.1 < 4294967296 ∧ ∃ j v, Instr.findNow (.int .u32) (.int .u32 x.1) L i = some (some (j, v)) ∧ BytesAt w K v x.2
  | e :: L, y :: l, i, ⟨⟨h1, h2, h3, h4⟩, h5⟩, hn, x, hx => by
    simp only [List.map_cons, List.nodup_cons] at hn
    by_cases hxy : y.1 = x.1
    · have : x = y := by
        rcases List.mem_cons.1 hx with h | h
        · exact h
        · exact absurd (List.mem_map.2 ⟨x, h, hxy.symm⟩) hn.1
      subst this
      exact ⟨h2, i, e.val, by simp [Instr.findNow, Instr.sameNow, h1], h4⟩
    · have hx' : x ∈ l := by
        rcases List.mem_cons.1 hx with h | h
        · subst h; exact absurd rfl hxy
        · exact h
      obtain ⟨a, j, v, b1, b2⟩ := EL.find (i + 1) h5 hn.2 x hx'
      have hne : ((x.1 : Int) == (y.1 : Int)) = false := by simp; omega
      exact ⟨a, j, v, by simp [Instr.findNow, Instr.sameNow, h1, hne, b1], b2⟩
  | [], _ :: _, _, h, _, _, _ => h.elim
theorem run_lookup {P : Program} {T KT VT : TypeId} (hT : P.underlying T = some (.map KT VT)) (hK : P.underlying KT = some (.int .u32)) {w : World} {b clock j : Nat} {k : Int} {v : Value} {es : Array MapEntry}
    (hb : w.heap[b]? = some (.map es clock)) (hf : Instr.findNow (.int .u32) (.int .u32 k) es.toList 0 = some (some (j, v))) :
    (Instr.lookup T (.map (some b)) (.int .u32 k) false).run P w = .ok v w := by
  have hget : (getObj b).run P w = .ok (.map es clock) w := by simp [getObj, Sem.run, hb]
  simp [Instr.lookup, run_underlying hT, hget, check_u32 hK, Instr.findKey, run_underlying hK, hf]
theorem EL.keys {w : World} {K : Nat → Prop} {c : Nat} : ∀ {L : List MapEntry} {l : TagL}, EL w K c L l → L.map (·.key) = l.map fun x => Value.int .u32 x.1
  | [], [], _ => rfl
  | e :: L, x :: l, h => by simp [h.1.1, EL.keys h.2]
  | [], _ :: _, h => h.elim
  | _ :: _, [], h => h.elim
theorem left_perm {seen : Array Nat} {e : MapEntry} : ∀ {L : List MapEntry}, (L.map (·.born)).Nodup → e ∈ L → seen.contains e.born = false →
    ((L.filter fun x => !seen.contains x.born).map (·.key)).Perm (e.key :: (L.filter fun x => !(seen.push e.born).contains x.born).map (·.key))
  | x :: L, hn, he, hs => by
    simp only [List.map_cons, List.nodup_cons] at hn
    have hc : ∀ y : MapEntry, (seen.push e.born).contains y.born = (seen.contains y.born || (y.born == e.born)) := by
      intro y; rw [contains_push]
    by_cases hxe : x.born = e.born
    · have hx : x = e := by
        rcases List.mem_cons.1 he with h | h
        · exact h.symm
        · exact absurd (List.mem_map.2 ⟨e, h, hxe.symm⟩) hn.1
      subst hx
      have hrest : (L.filter fun y => !(seen.push x.born).contains y.born) = L.filter fun y => !seen.contains y.born := by
        refine List.filter_congr fun y hy => ?_
        have : (y.born == x.born) = false := by simp; intro h; exact hn.1 (h ▸ List.mem_map.2 ⟨y, hy, rfl⟩)
        rw [hc, this]; simp
      have h1 : (List.filter (fun y : MapEntry => !seen.contains y.born) (x :: L)) = x :: L.filter fun y => !seen.contains y.born := by rw [List.filter_cons, hs]; rfl
      have h2 : (List.filter (fun y : MapEntry => !(seen.push x.born).contains y.born) (x :: L)) = L.filter fun y => !(seen.push x.born).contains y.born := by rw [List.filter_cons, hc]; simp
      rw [h1, h2, hrest]
      exact List.Perm.refl _
    · have he' : e ∈ L := by
        rcases List.mem_cons.1 he with h | h
        · subst h; exact absurd rfl hxe
        · exact h
      have ih := left_perm hn.2 he' hs
      have hxb : (x.born == e.born) = false := by simpa using hxe
      cases hsx : seen.contains x.born
      · have h1 : (List.filter (fun y : MapEntry => !seen.contains y.born) (x :: L)) = x :: L.filter fun y => !seen.contains y.born := by rw [List.filter_cons, hsx]; rfl
        have h2 : (List.filter (fun y : MapEntry => !(seen.push e.born).contains y.born) (x :: L)) = x :: L.filter fun y => !(seen.push e.born).contains y.born := by rw [List.filter_cons, hc, hsx, hxb]; rfl
        rw [h1, h2]
        simp only [List.map_cons]
        exact (List.Perm.cons _ ih).trans (List.Perm.swap _ _ _)
      · have h1 : (List.filter (fun y : MapEntry => !seen.contains y.born) (x :: L)) = L.filter fun y => !seen.contains y.born := by rw [List.filter_cons, hsx]; rfl
        have h2 : (List.filter (fun y : MapEntry => !(seen.push e.born).contains y.born) (x :: L)) = L.filter fun y => !(seen.push e.born).contains y.born := by rw [List.filter_cons, hc, hsx]; simp
        rw [h1, h2]; exact ih
theorem sorted_keys {l : TagL} {d : List Nat} (hn : (l.map (·.1)).Nodup) (hp : d.Perm (l.map (·.1))) (hs : d.Pairwise (· ≤ ·)) : d = (sortTags l).map (·.1) := by
  have hp2 : ((sortTags l).map (·.1)).Perm (l.map (·.1)) := by
    refine List.Perm.map _ ?_
    clear hn hp hs
    induction l with
    | nil => exact List.Perm.refl _
    | cons x l ih =>
      have hi : ∀ (x : Nat × List UInt8) (l : TagL), (insTag x l).Perm (x :: l) := by
        intro x l
        induction l with
        | nil => exact List.Perm.refl _
        | cons y l ih =>
          simp only [insTag]
          split
          · exact List.Perm.refl _
          · exact (List.Perm.cons _ ih).trans (List.Perm.swap _ _ _)
      exact (hi x (sortTags l)).trans (List.Perm.cons _ ih)
  have hs2 : ((sortTags l).map (·.1)).Pairwise (· ≤ ·) := by
    rw [List.pairwise_map]; exact sortTags_sorted l
  exact List.Perm.eq_of_pairwise (fun a b _ _ h1 h2 => Nat.le_antisymm h1 h2) hs hs2 (hp.trans hp2.symm)
/-- sort.Slice over ordered, by the literal in Each -/
def SortC (P : Program) (E : Env) : Prop := ∀ (w : World) (Bs blk c : Nat) (d : List Nat) (row : Array Value), w.cell? ⟨Bs, 0, none⟩ = some (.slice (some ⟨blk, 0, none⟩) d.length c) → Bs ≠ blk → w.heap[blk]? = some (.cells row E.tU32 (0, 0)) →
  (∀ (i x : Nat), d[i]? = some x → row[i]? = some (Value.int .u32 (x : Int))) → 0 < d.length → d.length < 4294967296 →
  Ret P E.f_sort_Slice #[.iface E.t_l_uint32 (.slice (some ⟨blk, 0, none⟩) d.length c), .func (.func E.f_pkmsg_Tags_Each_1) #[] #[.pointer (some ⟨Bs, 0, none⟩)]] w fun _ w' => ∃ d' : List Nat, d'.Perm d ∧ d'.Pairwise (· ≤ ·) ∧ Ext (· = blk) w w' ∧
    ∀ (i x : Nat), d'[i]? = some x → w'.cell? ⟨blk, i, none⟩ = some (Value.int .u32 (x : Int))
@[simp] theorem stp_range {P : Program} {f : Nat → Value} {ty : TypeId} {w : World} {K : Value → World → Prop} {T : TypeId} {a : Operand} : stp P f (.range T a) ty w K = stepF P f (.range T a) ty w K := (rfl)
@[simp] theorem stp_next {P : Program} {f : Nat → Value} {ty : TypeId} {w : World} {K : Value → World → Prop} {a : Operand} {b : Bool} : stp P f (.next a b) ty w K = stepF P f (.next a b) ty w K := (rfl)
@[simp] theorem stp_entry {P : Program} {f : Nat → Value} {ty : TypeId} {w : World} {K : Value → World → Prop} {a : Operand} : stp P f (.entry a) ty w K = stepF P f (.entry a) ty w K := (rfl)
@[simp] theorem stp_lookup {P : Program} {f : Nat → Value} {ty : TypeId} {w : World} {K : Value → World → Prop} {T : TypeId} {a b : Operand} {c : Bool} : stp P f (.lookup T a b c) ty w K = stepF P f (.lookup T a b c) ty w K := (rfl)
@[simp] theorem stp_mkI {P : Program} {f : Nat → Value} {ty : TypeId} {w : World} {K : Value → World → Prop} {T : TypeId} {a : Operand} : stp P f (.makeInterface T a) ty w K = stepF P f (.makeInterface T a) ty w K := (rfl)
def rLeft (w : World) (b r : Nat) : Nat :=
  match w.heap[b]?, w.heap[r]? with
  | some (.map es _), some (.mapIter _ _ seen _) => (leftOf es seen).size
  | _, _ => 0
theorem rLeft_of {w : World} {b r c s c0 : Nat} {es : Array MapEntry} {seen : Array Nat} {m : Option Nat} (h1 : w.heap[b]? = some (.map es c)) (h2 : w.heap[r]? = some (.mapIter m s seen c0)) : rLeft w b r = (leftOf es seen).size := by
  simp [rLeft, h1, h2]
/-- while the keys are gathered -/
structure RngI (E : Env) (base bd n0 : Nat) (w0 : World) (v0 : Value) (s : List UInt8) (v : Value) (it bp m : Nat) (es : Array MapEntry) (clock : Nat) (pt fn : Value) (ww : World) (f : Nat → Value) (w : World) : Prop where
  ext : Ext (fun x => n0 ≤ x) ww w
  f0 : f 0 = pt
  f1 : f 1 = fn
  f4 : f 4 = .pointer (some ⟨bp, 0, none⟩)
  f24 : f 24 = .pointer (some ⟨it, 0, none⟩)
  st : ∃ seen c0 ov done, w.heap[it]? = some (.mapIter (some m) clock seen c0) ∧ clock ≤ c0 ∧ w.heap[bp]? = some (.cells #[ov] E.t_l_uint32 (0, 0)) ∧ Own w n0 E.tU32 1 ov done ∧ (∀ k, own1 ov k → k ≠ it ∧ k ≠ bp) ∧
    (((es.toList.filter fun x => !seen.contains x.born).map (·.key)) ++ done).Perm (es.toList.map (·.key)) ∧ done.length ≤ es.size
section
variable {P : Program} {E : Env} (ht : TyTg P E)
include ht
set_option maxHeartbeats 1000000 in
/-- 'for key := range t.keyvals' -/
theorem c_round (kS : kindOf P E.t_l_uint32 = .scl) (hS : SliI P E.t_l_uint32 E.tU32 1 4 (.int .u32 0)) (hi : intKind? P E.tU32 = some .u32)
    {base bd n0 : Nat} {w0 ww : World} {v0 v : Value} {s : List UInt8} {it bp m : Nat} {es : Array MapEntry} {clock : Nat} {pt fn : Value} {f : Nat → Value} {w : World} {K : Nat → Prop} {l : TagL}
    (h : RngI E base bd n0 w0 v0 s v it bp m es clock pt fn ww f w) (hm : w.heap[m]? = some (.map es clock)) (he : EL w K clock es.toList l) (hn : (es.toList.map (·.born)).Nodup) (hlen : es.size ≤ 40000) (hit : n0 ≤ it ∧ it < w.heap.size) (hbp : n0 ≤ bp ∧ bp < w.heap.size) (hib : it ≠ bp) (hm0 : m < n0) {Q : Post}
    (hdone : ∀ f' w', w' = w → (∀ x, x ≠ 25 → x ≠ 26 → f' x = f x) → leftOf es #[] = leftOf es #[] → (∃ seen c0, w.heap[it]? = some (.mapIter (some m) clock seen c0) ∧ (leftOf es seen).size = 0) → Q (.exit 0) f' w')
    (hnext : ∀ f' w', RngI E base bd n0 w0 v0 s v it bp m es clock pt fn ww f' w' → rLeft w' m it < rLeft w m it → Q .normal f' w') :
    ((Ir.seq
          (.reg [
              ⟨none, some 25, .next (.tmp 24) false, E.tNil⟩,
              ⟨none, some 26, .extract (.tmp 25) 0, E.tB⟩])
        (.seq
          (.cond 26
            .skip
            (.exit 0))
        (.block 1
          (.seq
            (.reg [
                ⟨none, some 27, .entry (.tmp 24), E.tNil⟩,
                ⟨none, some 28, .extract (.tmp 27) 0, E.tU32⟩,
                ⟨none, some 5, .assign (.tmp 28), E.tU32⟩])
          (.reg [
              ⟨none, some 29, .load E.t_l_uint32 (.tmp 4), E.t_l_uint32⟩,
              ⟨none, some 30, .move (.tmp 5), E.tU32⟩,
              ⟨none, some 31, .buildSlice E.t_l_uint32 1 #[(0, .tmp 30)], E.t_l_uint32⟩,
              ⟨none, some 32, .call { callee := .builtin .append, args := #[.tmp 29, .tmp 31], argTypes := #[E.t_l_uint32, E.t_l_uint32] }, E.t_l_uint32⟩,
              ⟨none, none, .store E.t_l_uint32 (.tmp 4) (.tmp 32), E.tNil⟩])))))).cw P Q f w := by
  obtain ⟨seen, c0, ov, done, hr, hc0, hbo, ho, hoff, hperm, hdl⟩ := h.st
  have hold : ∀ x ∈ es.toList, x.born < clock := fun x hx => by
    obtain ⟨y, _, hy⟩ := he.mem x hx
    exact hy.2.2.1
  simp [h.f24]
  rcases run_next_at (P := P) w E.tNil it m clock c0 seen es clock hr hm hold hc0 with ⟨h0, hrun⟩ | ⟨e, hel, w1, hal, hrun⟩
  · rw [stepF_ok (v := .tuple #[.bool false]) (w' := w) (by simp [runF, execOp, h.f24, hrun])]
    simp
    refine cw_false (by simp) ?_
    simp
    exact hdone _ _ rfl (fun x h1 h2 => by simp [h1, h2]) rfl ⟨seen, c0, hr, h0⟩
  · obtain ⟨hem, hes⟩ := mem_left hel
    generalize hw2 : ChangeMaps.setBlock w1 it (.mapIter (some m) clock (seen.push e.born) clock) = w2 at hrun
    rw [stepF_ok (v := .tuple #[.bool true, e.key, e.val]) (w' := w2) (by simp [runF, execOp, h.f24, hrun])]
    have hE12 : Ext (fun x => n0 ≤ x) w w1 := by rcases hal with rfl | rfl <;> first | exact Ext.refl _ _ | exact (Ext.refl _ _).drew
    have hr1 : w1.heap[it]? = some (.mapIter (some m) clock seen c0) := by rcases hal with rfl | rfl <;> exact hr
    have hw2' : w1.setBlk it (.mapIter (some m) clock (seen.push e.born) clock) = w2 := hw2
    have hE2 : Ext (fun x => x = it) w w2 := by
      subst hw2'
      refine Ext.setBlk (C := fun x => x = it) (b := it) ?_ (Or.inr rfl) _
      rcases hal with rfl | rfl <;> first | exact Ext.refl _ _ | exact (Ext.refl _ _).drew
    have hr2 : w2.heap[it]? = some (.mapIter (some m) clock (seen.push e.born) clock) := by subst hw2'; exact setBlk_same hr1
    have hm2 : w2.heap[m]? = some (.map es clock) := hE2.old hm (by omega)
    have hent := run_entry_at (P := P) w2 it m clock seen es clock e hr2 hm2 hem hn
    have hb2 : w2.heap[bp]? = some (.cells #[ov] E.t_l_uint32 (0, 0)) := hE2.old hbo (Ne.symm hib)
    have ho2 : Own w2 n0 E.tU32 1 ov done := Own.ext ho hE2 (fun b hb => (hoff b hb).1)
    obtain ⟨y, hy, hy1, hy2, _⟩ := he.mem e hem
    have cb : w2.cell? ⟨bp, 0, none⟩ = some ov := by rw [cell_of_blk hb2]; rfl
    simp
    refine cw_true (by simp) ?_
    simp [h.f24]
    rw [stepF_ok (v := .tuple #[e.key, e.val]) (w' := w2) (by simp [runF, execOp, h.f24, hent])]
    simp [h.f4, ld_scl kS, cb]
    rw [st_bsl (n := 1) (parts := #[(0, .tmp 30)]) hS (by omega) (by rfl) rfl (by omega) (by omega) (by simp [allSz, hy1, Value.cells])]
    simp [flat, hy1, Value.cells]
    generalize hw3 : w2.alloc (.cells #[.int .u32 y.1] E.tU32) = w3
    have hE3 : Ext none1 w2 w3 := by subst hw3; exact (Ext.refl _ _).alloc _
    have hs3 : w2.heap.size < w3.heap.size := by subst hw3; simp
    have ho3 : Own w3 n0 E.tU32 1 ov done := Own.ext ho2 hE3 (fun _ _ h => h)
    have hb3 : w3.heap[w2.heap.size]? = some (.cells #[.int .u32 y.1] E.tU32 (0, 0)) := by subst hw3; exact alloc_new
    have hs2 : w2.heap.size = w.heap.size := by subst hw2'; rcases hal with rfl | rfl <;> simp
    have hp2 := left_perm hn hem hes
    have hlt : done.length < es.size := by
      have h1 := hperm.length_eq
      have h2 := hp2.length_eq
      simp only [List.length_append, List.length_map, List.length_cons, Array.length_toList] at h1 h2
      omega
    refine st_append hS (by omega) (base := n0) (xs := done) (by simpa using ho3) (ad := some ⟨w2.heap.size, 0, none⟩) (m := 1) (c := 1) (news := [.int .u32 y.1]) (by simp) (by simp) (by simp) ?_ (by simp [Value.oneCell']) (by simp [maxLen]; omega) (by simp; omega) (by omega) ?_
    · intro a ha j u hj
      cases ha
      cases j with
      | zero => simp at hj; subst hj; simp [Addr.add_mk, cell_of_blk hb3]
      | succ j => simp at hj
    · intro v' w4 ho4 hg4
      have hv' : v'.oneCell' = true ∧ v'.cells = #[v'] := by
        obtain ⟨n, _, h⟩ := ho4
        rcases h with ⟨rfl, _⟩ | ⟨g, cap, cur, rfl, _⟩ <;> exact ⟨rfl, rfl⟩
      simp at hg4
      have hb4 : w4.heap[bp]? = some (.cells #[ov] E.t_l_uint32 (0, 0)) := hg4.ext.old (hE3.old hb2 (fun h => h)) (fun h => (hoff bp h).2 rfl)
      have hit4 : w4.heap[it]? = some (.mapIter (some m) clock (seen.push e.born) clock) := hg4.ext.old (hE3.old hr2 (fun h => h)) (fun h => (hoff it h).1 rfl)
      have hm4 : w4.heap[m]? = some (.map es clock) := hg4.ext.old (hE3.old hm2 (fun h => h)) (fun h => by have := (Own.below ho h).1; omega)
      simp [h.f4, store_scl kS, hv'.1, put1K_blk hb4]
      generalize hw5 : w4.setBlk bp (.cells #[v'] E.t_l_uint32 (0, 0)) = w5
      have hE5 : Ext (fun x => x = bp) w4 w5 := by subst hw5; exact (Ext.refl (fun x => x = bp) _).setBlk (b := bp) (Or.inr rfl) _
      have hsz4 := hg4.ext.size
      have hov4 : ∀ k, own1 v' k → k ≠ it ∧ k ≠ bp := fun k hk => (hg4.own k hk).elim (hoff k) (fun h => by omega)
      have hit5 : w5.heap[it]? = some (.mapIter (some m) clock (seen.push e.born) clock) := hE5.old hit4 hib
      have hm5 : w5.heap[m]? = some (.map es clock) := hE5.old hm4 (by omega)
      refine hnext _ _ ⟨?_, by simp [h.f0], by simp [h.f1], by simp [h.f4], by simp [h.f24], seen.push e.born, clock, v', done ++ [.int .u32 y.1], hit5, Nat.le_refl _, ?_, Own.ext ho4 hE5 (fun b hb => (hov4 b hb).2), hov4, ?_, ?_⟩ ?_
      · refine h.ext.trans ?_
        refine (hE2.mono (fun _ _ e => by omega)).trans ?_
        refine (hE3.mono (fun _ _ e => e.elim)).trans ?_
        refine (hg4.ext.mono (fun k _ hk => (Own.below ho hk).1)).trans ?_
        exact hE5.mono (fun _ _ e => by omega)
      · subst hw5; exact setBlk_same hb4
      · refine List.Perm.trans ?_ hperm
        have := hp2.append_right done
        refine List.Perm.trans ?_ this.symm
        simp only [hy1, List.cons_append]
        rw [← List.append_assoc]
        exact List.perm_append_singleton _ _
      · simp; omega
      · rw [rLeft_of hm5 hit5, rLeft_of hm hr]
        exact left_shrinks es seen e hel
end
end Go.Kg

set_option linter.unusedSimpArgs false
set_option linter.unusedVariables false
namespace Go.Kg
open Go
/-- the contract of the literal in AppendEach -/
def AE1C (P : Program) (E : Env) : Prop := ∀ {base bd : Nat} {w0 w : World} {v0 v val : Value} {prot : Nat → Prop} {s : List UInt8} {x : Nat × List UInt8} {K : Nat → Prop},
    DstAt E base bd w0 v0 prot s w v → w0.heap.size ≤ bd → base ≤ w0.heap.size → ¬ prot bd → ¬ own1 v bd → x.1 < 4294967296 → x.2.length < 4294967296 → BytesAt w K val x.2 → (∀ k, K k → k < base) → s.length + (tagW x).length ≤ 1099511627776 →
    Ret P E.f_pkmsg_Tags_AppendEach_1 #[.int .u32 x.1, val, .pointer (some ⟨bd, 0, none⟩)] w fun _ w' => ∃ v', DstAt E base bd w0 v0 prot (s ++ tagW x) w' v' ∧ ¬ own1 v' bd ∧ ∀ k, prot k → w'.heap[k]? = w.heap[k]?
/-- while the tags are written -/
structure OutI (E : Env) (base bd n0 n1 : Nat) (w0 : World) (v0 : Value) (s : List UInt8) (l : TagL) (pt fn ov : Value) (w5 : World) (f : Nat → Value) (w : World) (i : Nat) : Prop where
  f0 : f 0 = pt
  f1 : f 1 = fn
  f37 : f 37 = ov
  f38 : f 38 = .int .i64 l.length
  f39 : f 39 = .int .i64 i
  il : i ≤ l.length
  st : ∃ v, DstAt E base bd w0 v0 (fun k => n0 ≤ k ∧ k < n1) (s ++ ((sortTags l).take i).flatMap tagW) w v ∧ ¬ own1 v bd
  same : ∀ k, n0 ≤ k → k < n1 → w.heap[k]? = w5.heap[k]?
theorem stp_callF {P : Program} {f : Nat → Value} {ty : TypeId} {w : World} {K : Value → World → Prop} {t g : Nat} {xs : Array Operand} {ts : Array TypeId} {first cap : Array Value} (h : f t = .func (.func g) first cap) :
    stp P f (.call { callee := .value (.tmp t), args := xs, argTypes := ts }) ty w K = Ret P g (first ++ xs.map (evF f) ++ cap) w K := by simp only [stp, callK, h]
theorem keys_back : ∀ (L : List Value), (∀ v ∈ L, ∃ x : Nat, v = .int .u32 x) → L = (L.map fun v => match v with | .int _ n => n.toNat | _ => 0).map fun x : Nat => Value.int .u32 x
  | [], _ => rfl
  | v :: L, h => by
    obtain ⟨x, rfl⟩ := h v (List.mem_cons_self ..)
    simp only [List.map_cons, Int.toNat_natCast]
    rw [← keys_back L (fun v hv => h v (List.mem_cons_of_mem _ hv))]
theorem flat_le {α : Type} (g : α → List UInt8) : ∀ (l : List α) (i : Nat), ((l.take i).flatMap g).length ≤ (l.flatMap g).length
  | [], i => by simp
  | a :: l, 0 => by simp
  | a :: l, i + 1 => by have := flat_le g l i; simp only [List.take_succ_cons, List.flatMap_cons, List.length_append]; omega
section
variable {P : Program} {E : Env} (ht : TyTg P E)
include ht
set_option maxHeartbeats 4000000 in
theorem c_EachT (kS : kindOf P E.t_l_uint32 = .scl) (k32 : kindOf P E.tU32 = .scl) (hS : SliI P E.t_l_uint32 E.tU32 1 4 (.int .u32 0)) (hi : intKind? P E.tU32 = some .u32) (hu : P.underlying E.tU32 = some (.int .u32)) (hi' : intKind? P E.tInt = some .i64) (hzS : zeroOf P E.t_l_uint32 = some (.slice none 0 0))
    (hI : FnIs P E.f_pkmsg_Tags_Each nt_pkmsg_Tags_Each (rs_pkmsg_Tags_Each E) (ir_pkmsg_Tags_Each E)) (hA : AE1C P E) (hSo : SortC P E)
    {base bd : Nat} {w0 w : World} {v0 v : Value} {s s0 : List UInt8} {b o : Nat} {u : Value} {l : TagL}
    (hD : DstAt E base bd w0 v0 (fun _ => False) s w v) (hbd : w0.heap.size ≤ bd) (hb0 : base ≤ w0.heap.size) (hnb : ¬ own1 v bd) (ho0 : OwnB E.tU8 w0 base v0 s0)
    (hb : b < base) (hc : w0.cell? ⟨b, o, none⟩ = some u) (hl : TagsAt w0 (· < base) u l) (hok : tagsOk l) (hne : l ≠ []) (hsz : s.length + (tagsOut l).length ≤ 1099511627776) :
    Ret P E.f_pkmsg_Tags_Each #[.pointer (some ⟨b, o, none⟩), .func (.func E.f_pkmsg_Tags_AppendEach_1) #[] #[.pointer (some ⟨bd, 0, none⟩)]] w fun _ w' => ∃ v', DstAt E base bd w0 v0 (fun _ => False) (s ++ tagsOut l) w' v' := by
  obtain ⟨hcw, hlw⟩ := hD.tags ho0 hb hc hl
  have hpos : 0 < l.length := List.length_pos_iff.2 hne
  rcases tagsAt_iff.1 hlw with ⟨_, h⟩ | ⟨m, es, clock, rfl, hm, hmb, he, hnd, hnb', hlen⟩
  · exact absurd h hne
  have hesl : es.size = l.length := by simpa using he.get.1
  have hbdlt := lt_of_heap hD.cell
  have hwsz := hD.grew.ext.size
  refine hI.call (args := [_, _]) (by simp [nt_pkmsg_Tags_Each]) ?_
  have hm1 : (mapLen? w (some m)) = some (.int .i64 es.size) := by simp [mapLen?, hmb]
  simp [ir_pkmsg_Tags_Each, rs_pkmsg_Tags_Each, ht.g0, Addr.add_mk, ld_scl ht.kM, hcw, isM ht, hm1]
  have hes0 : es ≠ #[] := by rintro rfl; simp at hesl; omega
  refine cw_false (by simp [hes0]) ?_
  simp [ht.g0, Addr.add_mk, ld_scl ht.kM, hcw, isM ht, hm1]
  obtain ⟨ii, hinf, hzi, hsi, hbi⟩ := hS.inf
  obtain ⟨w1, hmk, how1, hg1⟩ := run_make_own (P := P) w w.heap.size E.t_l_uint32 E.tU32 ii _ 1 hS.und hinf hzi hsi .i64 .i64 es.size (by rw [hbi]; have := hok.1; omega) (by have := hok.1; simp [maxLen]; omega) (Nat.le_refl _)
  rw [stepF_ok (v := .slice (some ⟨w.heap.size, 0, none⟩) 0 es.size) (w' := w1) (by simp [runF, execOp, hmk])]
  have hE1 : Ext none1 w w1 := ⟨hg1.os, hg1.tape, hg1.output, hg1.size, fun k hk _ => hg1.block k hk (by simp)⟩
  have ho1 : Own w1 w.heap.size E.tU32 1 (.slice (some ⟨w.heap.size, 0, none⟩) 0 es.size) [] := ⟨0, how1⟩
  have hlt1 : w.heap.size < w1.heap.size := (Own.below ho1 (b := w.heap.size) rfl).2
  simp [hzS, Value.cells, store_scl kS, put1K_blk alloc_new]
  generalize hw2 : (w1.alloc (.cells #[.slice none 0 0] E.t_l_uint32)).setBlk w1.heap.size (.cells #[.slice (some ⟨w.heap.size, 0, none⟩) 0 es.size] E.t_l_uint32 (0, 0)) = w2
  have hE2 : Ext none1 w1 w2 := by subst hw2; exact ((Ext.refl _ w1).alloc _).setBlk (Or.inl (Nat.le_refl _)) _
  have hs2 : w2.heap.size = w1.heap.size + 1 := by subst hw2; simp
  have hb2 : w2.heap[w1.heap.size]? = some (.cells #[.slice (some ⟨w.heap.size, 0, none⟩) 0 es.size] E.t_l_uint32 (0, 0)) := by subst hw2; exact setBlk_same alloc_new
  have hE02 : Ext none1 w w2 := hE1.trans hE2
  have hcw2 : w2.cell? ⟨b, o, none⟩ = some (.map (some m)) := hE02.cell hcw (fun h => h)
  have hm2 : w2.heap[m]? = some (.map es clock) := hE02.old hmb (fun h => h)
  refine ⟨rfl, ?_⟩
  simp [ht.g0, Addr.add_mk, ld_scl ht.kM, hcw2]
  rw [stepF_ok (v := .pointer (some ⟨w2.heap.size, 0, none⟩)) (w' := w2.alloc (.mapIter (some m) clock #[] clock)) (by simp [runF, execOp, run_range_map w2 _ _ _ m es clock ht.uM hm2])]
  generalize hw3 : w2.alloc (.mapIter (some m) clock #[] clock) = w3
  have hE3 : Ext none1 w2 w3 := by subst hw3; exact (Ext.refl _ w2).alloc _
  have hs3 : w3.heap.size = w2.heap.size + 1 := by subst hw3; simp
  have hi3 : w3.heap[w2.heap.size]? = some (.mapIter (some m) clock #[] clock) := by subst hw3; exact alloc_new
  have hE03 : Ext none1 w w3 := hE02.trans hE3
  have hm3 : w3.heap[m]? = some (.map es clock) := hE03.old hmb (fun h => h)
  refine cw_loop (fun f w' => RngI E base bd w.heap.size w0 v0 s v w2.heap.size w1.heap.size m es clock (.pointer (some ⟨b, o, none⟩)) (.func (.func E.f_pkmsg_Tags_AppendEach_1) #[] #[.pointer (some ⟨bd, 0, none⟩)]) w f w') (fun _ w' => rLeft w' m w2.heap.size) ?_ ?_
  · refine ⟨hE03.mono (fun _ _ h => h.elim), by simp, by simp, by simp, by simp, #[], clock, _, [], hi3, Nat.le_refl _, hE3.old hb2 (fun h => h), Own.ext (Own.ext ho1 hE2 (fun _ _ h => h)) hE3 (fun _ _ h => h), ?_, ?_, by simp⟩
    · intro k hk
      have := (Own.below ho1 hk)
      have : k = w.heap.size := by cases hk; rfl
      omega
    · have : (es.toList.filter fun x : MapEntry => !(#[] : Array Nat).contains x.born) = es.toList := by rw [List.filter_eq_self]; intro x _; simp
      rw [this]; simp
  · intro f3 w4 hR
    have hsz4 := hR.ext.size
    have hm4 : w4.heap[m]? = some (.map es clock) := hR.ext.old hmb (by omega)
    have he4 : EL w4 (· < base) clock es.toList l := by
      have := tagsAt_iff.1 ((hlw.ext (C := fun x => w.heap.size ≤ x) hR.ext (fun b _ hb h => by omega)))
      rcases this with ⟨h, _⟩ | ⟨m', es', clock', h, _, hb', he', _⟩
      · cases h
      · cases h
        rw [hm4] at hb'; cases hb'; exact he'
    have hit4 : w2.heap.size < w4.heap.size := by
      obtain ⟨_, _, _, _, h, _⟩ := hR.st
      exact lt_of_heap h
    refine c_round ht (base := base) (bd := bd) (v0 := v0) (v := v) (s := s) kS hS hi hR hm4 he4 hnb' (by have := hok.1; omega) ⟨by omega, hit4⟩ ⟨by omega, by omega⟩ (by omega) (by omega) ?_ ?_
    · rintro f4 w4 rfl hk _ ⟨seen', c0', hr', h0⟩
      obtain ⟨seen, c0, ov, done, hr, hc0, hbo, ho, hoff, hperm, hdl⟩ := hR.st
      rw [hr] at hr'
      cases hr'
      have hseen := all_seen es seen' h0
      have hfil : (es.toList.filter fun x => !seen'.contains x.born) = [] := by
        rw [List.filter_eq_nil_iff]; intro x hx; have := hseen x hx; simp at this; simp [this]
      rw [hfil] at hperm
      simp only [List.map_nil, List.nil_append, he4.keys] at hperm
      obtain ⟨d, hd, hdp⟩ : ∃ d : List Nat, done = d.map (fun x : Nat => Value.int .u32 x) ∧ d.Perm (l.map (·.1)) := by
        refine ⟨done.map fun v => match v with | .int _ n => n.toNat | _ => 0, ?_, ?_⟩
        · refine keys_back done fun v hv => ?_
          obtain ⟨x, _, rfl⟩ := List.mem_map.1 (hperm.mem_iff.1 hv)
          exact ⟨x.1, rfl⟩
        · refine (hperm.map _).trans ?_
          rw [List.map_map]
          exact List.Perm.of_eq (List.map_congr_left fun x _ => by simp)
      have hdl' : d.length = l.length := by rw [hdp.length_eq]; simp
      obtain ⟨n, hnl, hov⟩ := ho
      have hn : n = l.length := by rw [hd] at hnl; simp at hnl; omega
      rcases hov with ⟨_, h⟩ | ⟨g, cap, cur, rfl, hg, hgb, hncap, hcm, hcs, htake⟩
      · omega
      have hgo := hoff g rfl
      have hgo' : w.heap.size ≤ g := hg
      have hglt := lt_of_heap hgb
      have cbp : w4.cell? ⟨w1.heap.size, 0, none⟩ = some (.slice (some ⟨g, 0, none⟩) n cap) := by rw [cell_of_blk hbo]; rfl
      have k4 : f4 4 = .pointer (some ⟨w1.heap.size, 0, none⟩) := (hk 4 (by omega) (by omega)).trans hR.f4
      have k0 : f4 0 = _ := (hk 0 (by omega) (by omega)).trans hR.f0
      have k1 : f4 1 = _ := (hk 1 (by omega) (by omega)).trans hR.f1
      simp [k4, ld_scl kS, cbp]
      rw [stepF_ok (v := .iface E.t_l_uint32 (.slice (some ⟨g, 0, none⟩) n cap)) (w' := w4) (by simp [runF, execOp, Instr.makeInterface, run_underlying hS.und])]
      have hrow : ∀ (i x : Nat), d[i]? = some x → cur[i]? = some (Value.int .u32 (x : Int)) := by
        intro i x hx
        have h1 : (cur.toList.take (n * 1))[i]? = some (Value.int .u32 (x : Int)) := by rw [htake, hd, List.getElem?_map, hx]; rfl
        rw [List.getElem?_take] at h1
        split at h1
        · simpa using h1
        · cases h1
      have hS5 := hSo w4 w1.heap.size g cap d cur (by rw [cbp, hn, hdl']) (by omega) hgb hrow (by omega) (by rw [hdl']; exact hlen)
      rw [hdl', ← hn] at hS5
      refine hS5.mono ?_
      rintro _ w5 ⟨d', hd'p, hd's, hE5, hd'c⟩
      have hd'e := sorted_keys hnd (hd'p.trans hdp) hd's
      have hs5 := hE5.size
      have hbp5 : w5.heap[w1.heap.size]? = some (.cells #[.slice (some ⟨g, 0, none⟩) n cap] E.t_l_uint32 (0, 0)) := hE5.old hbo (by omega)
      have cbp5 : w5.cell? ⟨w1.heap.size, 0, none⟩ = some (.slice (some ⟨g, 0, none⟩) n cap) := by rw [cell_of_blk hbp5]; rfl
      simp [k4, ld_scl kS, cbp5, len_slice hS.und]
      have hE05 : Ext (fun x => w.heap.size ≤ x) w w5 := hR.ext.trans (hE5.mono (fun _ _ e => by omega))
      have hD5 := hD.ext hE05 (by omega) (fun k hk => (Own.below hD.own hk).2) hD.grew.size
      refine cw_loop (fun f w' => ∃ i, OutI E base bd w.heap.size w5.heap.size w0 v0 s l (.pointer (some ⟨b, o, none⟩)) (.func (.func E.f_pkmsg_Tags_AppendEach_1) #[] #[.pointer (some ⟨bd, 0, none⟩)]) (.slice (some ⟨g, 0, none⟩) n cap) w5 f w' i) (fun f _ => match f 39 with | .int _ i => l.length - i.toNat | _ => 0) ?_ ?_
      · exact ⟨0, by simp [k0], by simp [k1], by simp, by simp [hn], by simp, by omega, ⟨v, by simpa using hD5, hnb⟩, fun _ _ _ => rfl⟩
      · rintro f6 w6 ⟨i, hO⟩
        obtain ⟨v6, hD6, hn6⟩ := hO.st
        simp [hO.f38, hO.f39]
        by_cases hil : i < l.length
        · refine cw_true (by simp [hil]) ?_
          obtain ⟨x, hx⟩ : ∃ x, (sortTags l)[i]? = some x := ⟨_, List.getElem?_eq_getElem (by rw [sortTags_len]; exact hil)⟩
          have hxl : x ∈ l := (sortTags_mem l x).1 (List.mem_of_getElem? hx)
          have hcell : w6.cell? ⟨g, i, none⟩ = some (.int .u32 x.1) := by
            rw [World.cell?_of_block (a := ⟨g, i, none⟩) (hO.same g hgo' (by omega))]
            refine hd'c i x.1 ?_
            rw [hd'e, List.getElem?_map, hx]; rfl
          obtain ⟨hcw6, hlw6⟩ := hD6.tags ho0 hb hc hl
          rcases tagsAt_iff.1 hlw6 with ⟨h, _⟩ | ⟨m', es', clock', h, _, hb6, he6, hnd6, _⟩
          · cases h
          cases h
          obtain ⟨hx32, j, val, hfind, hval⟩ := he6.find 0 hnd6 x hxl
          have hxb := hok.2.2 x hxl
          have htk : (sortTags l).take (i + 1) = (sortTags l).take i ++ [x] := by rw [List.take_add_one, hx]; rfl
          have hszx : (s ++ ((sortTags l).take i).flatMap tagW).length + (tagW x).length ≤ 1099511627776 := by
            have := flat_le tagW (sortTags l) (i + 1)
            rw [htk] at this
            have e : tagsOut l = (sortTags l).flatMap tagW := rfl
            rw [e] at hsz
            simp only [List.flatMap_append, List.flatMap_cons, List.flatMap_nil, List.append_nil, List.length_append] at this ⊢
            omega
          have hidx := idx_of (P := P) (T := E.t_l_uint32) hS.siz (p := ⟨g, 0, none⟩) (n := n) (c := cap) (k := .i64) (i := i) (by omega)
          simp [hO.f37, hO.f39, hidx, Addr.add_mk, ld_scl k32, hcell, hO.f0, hO.f1, ht.g0, ld_scl ht.kM, hcw6]
          rw [stepF_ok (v := val) (w' := w6) (by simp [runF, execOp, run_lookup ht.uM hu hb6 hfind])]
          rw [stp_callF (g := E.f_pkmsg_Tags_AppendEach_1) (first := #[]) (cap := #[.pointer (some ⟨bd, 0, none⟩)]) (by simp)]
          simp
          refine (hA hD6 hbd hb0 (by omega) hn6 hx32 (by omega) hval (fun _ h => h) hszx).mono ?_
          rintro _ w7 ⟨v7, hD7, hn7, hp7⟩
          have hwi : IntKind.i64.wrap ((i : Int) + 1) = ((i + 1 : Nat) : Int) := by rw [i64_small (by omega) (by omega)]; rfl
          simp [hO.f39, hwi]
          refine ⟨⟨i + 1, by simp [hO.f0], by simp [hO.f1], by simp [hO.f37], by simp [hO.f38], by simp, by omega, ⟨v7, ?_, hn7⟩, fun k h1 h2 => (hp7 k ⟨h1, h2⟩).trans (hO.same k h1 h2)⟩, ?_⟩
          · rw [htk]; simpa [List.append_assoc] using hD7
          · omega
        · refine cw_false (by simp; omega) ?_
          simp
          have hi' : i = l.length := Nat.le_antisymm hO.il (by omega)
          subst hi'
          refine ⟨v6, ?_⟩
          rw [List.take_of_length_le (by rw [sortTags_len]; exact Nat.le_refl _)] at hD6
          exact ⟨hD6.cell, hD6.own, hD6.grew, fun _ h => h.elim⟩
    · intro f' w' h1 h2
      exact ⟨h1, h2⟩
end
end Go.Kg

set_option linter.unusedSimpArgs false
set_option linter.unusedVariables false
namespace Go.Kg
open Go
section
variable {P : Program} {E : Env} (ht : TyTg P E)
include ht
theorem tagsC (kS : kindOf P E.t_l_uint32 = .scl) (k32 : kindOf P E.tU32 = .scl) (hS : SliI P E.t_l_uint32 E.tU32 1 4 (.int .u32 0)) (hS8 : SliI P E.tBs E.tU8 1 1 (.int .u8 0)) (hi : intKind? P E.tU32 = some .u32) (hu : P.underlying E.tU32 = some (.int .u32)) (hi' : intKind? P E.tInt = some .i64) (hzS : zeroOf P E.t_l_uint32 = some (.slice none 0 0))
    (hI0 : FnIs P E.f_pkmsg_Tags_Len nt_pkmsg_Tags_Len (rs_pkmsg_Tags_Len E) (ir_pkmsg_Tags_Len E))
    (hI : FnIs P E.f_pkmsg_Tags_Each nt_pkmsg_Tags_Each (rs_pkmsg_Tags_Each E) (ir_pkmsg_Tags_Each E)) (hI1 : FnIs P E.f_pkmsg_Tags_AppendEach_1 nt_pkmsg_Tags_AppendEach_1 (rs_pkmsg_Tags_AppendEach_1 E) (ir_pkmsg_Tags_AppendEach_1 E))
    (hI2 : FnIs P E.f_pkmsg_Tags_AppendEach nt_pkmsg_Tags_AppendEach (rs_pkmsg_Tags_AppendEach E) (ir_pkmsg_Tags_AppendEach E))
    (hU : ∀ n : Nat, n < 4294967296 → WrC P E.tU8 E.f_kbin_AppendUvarint [.int .u32 n] (uvOut n)) (hSo : SortC P E) : TagsC P E tagsOk := by
  refine ⟨fun w K b o v l hc hl => c_TLen ht hI0 w K b o v l hc hl, ?_, hU⟩
  intro w base v s b o u l hok hb hc hl ho hbs hsz
  have hA : AE1C P E := fun hD h1 h2 h3 h4 h5 h6 h7 h8 h9 => c_AE1 ht hS8 hi hi' hI1 hU hD h1 h2 h3 h4 h5 h6 h7 h8 h9
  have hvc := (ownB_cells ho).1
  refine hI2.call (args := [_, _]) (by simp [nt_pkmsg_Tags_AppendEach]) ?_
  simp [ir_pkmsg_Tags_AppendEach, rs_pkmsg_Tags_AppendEach, hvc]
  generalize hw1 : w.alloc (.cells #[v] E.tBs) = w1
  have hX : Ext none1 w w1 := by subst hw1; exact (Ext.refl none1 w).alloc _
  have hb1 : w1.heap[w.heap.size]? = some (.cells #[v] E.tBs (0, 0)) := by subst hw1; exact alloc_new
  have hnb : ¬ own1 v w.heap.size := fun h => by have := (Own.below ho h).2; omega
  have hD : DstAt E base w.heap.size w v (fun _ => False) s w1 v := ⟨hb1, Own.ext ho hX (fun _ _ h => h), ⟨hX.mono (fun _ _ h => h.elim), fun _ h => .inl h⟩, fun _ h => h.elim⟩
  have hmain : Ret P E.f_pkmsg_Tags_Each #[.pointer (some ⟨b, o, none⟩), .func (.func E.f_pkmsg_Tags_AppendEach_1) #[] #[.pointer (some ⟨w.heap.size, 0, none⟩)]] w1 fun _ w' => ∃ v', DstAt E base w.heap.size w v (fun _ => False) (s ++ tagsOut l) w' v' := by
    by_cases hne : l = []
    · subst hne
      refine (c_Each0 ht hI w1 b o u _ (· < base) (hX.cell hc (fun h => h)) (hl.ext hX (fun _ _ _ h => h))).mono ?_
      rintro _ w' rfl
      exact ⟨v, by simpa [tagsOut, sortTags] using hD⟩
    · exact c_EachT ht kS k32 hS hi hu hi' hzS hI hA hSo hD (Nat.le_refl _) hbs hnb ho hb hc hl hok hne hsz
  refine hmain.mono ?_
  rintro _ w2 ⟨v2, hD2⟩
  have c2 : w2.cell? ⟨w.heap.size, 0, none⟩ = some v2 := by rw [cell_of_blk hD2.cell]; rfl
  simp [ld_scl ht.kBs, c2]
  exact ⟨hD2.own, hD2.grew⟩
end
end Go.Kg

set_option linter.unusedSimpArgs false
set_option linter.unusedVariables false
namespace Go.Kg
open Go Go.Proofs Go.Shelf Go.RowKit Go.Lib Go.Sort
def encU (n : Nat) : Value := .int .u32 n
def ltN (a b : Nat) : Bool := decide (a < b)
theorem swo_ltN : SWO ltN where
  irrefl x := by simp [ltN]
  trans x y z h1 h2 := by simp only [ltN, decide_eq_true_eq] at *; omega
  ntrans x y z h1 h2 := by simp only [ltN, decide_eq_false_iff_not] at *; omega
/-- ordered[i] < ordered[j] -/
theorem c_less {P : Program} {E : Env} (kS : kindOf P E.t_l_uint32 = .scl) (k32 : kindOf P E.tU32 = .scl) (hS : SliI P E.t_l_uint32 E.tU32 1 4 (.int .u32 0)) (hI : FnIs P E.f_pkmsg_Tags_Each_1 nt_pkmsg_Tags_Each_1 (rs_pkmsg_Tags_Each_1 E) (ir_pkmsg_Tags_Each_1 E))
    {W : World} {Bs blk c n : Nat} (G : Nat → Nat) (hs : W.cell? ⟨Bs, 0, none⟩ = some (.slice (some ⟨blk, 0, none⟩) n c)) (hc : ∀ t, t < n → W.cell? ⟨blk, t, none⟩ = some (.int .u32 (G t))) {i j : Nat} (hi : i < n) (hj : j < n) :
    Ret P E.f_pkmsg_Tags_Each_1 #[.int .i64 i, .int .i64 j, .pointer (some ⟨Bs, 0, none⟩)] W fun v w' => v = .bool (decide (G i < G j)) ∧ w' = W.drew := by
  refine hI.call (args := [_, _, _]) (by simp [nt_pkmsg_Tags_Each_1]) ?_
  simp [ir_pkmsg_Tags_Each_1, rs_pkmsg_Tags_Each_1]
  refine cw_regH (fun w' => w' = W.drew) rfl ?_
  have hs' : W.drew.cell? ⟨Bs, 0, none⟩ = some (.slice (some ⟨blk, 0, none⟩) n c) := hs
  have hi1 := idx_of (P := P) (T := E.t_l_uint32) hS.siz (p := ⟨blk, 0, none⟩) (n := n) (c := c) (k := .i64) hi
  have hj1 := idx_of (P := P) (T := E.t_l_uint32) hS.siz (p := ⟨blk, 0, none⟩) (n := n) (c := c) (k := .i64) hj
  have ci : W.drew.cell? ⟨blk, i, none⟩ = some (.int .u32 (G i)) := hc i hi
  have cj : W.drew.cell? ⟨blk, j, none⟩ = some (.int .u32 (G j)) := hc j hj
  simp [ld_scl kS, ld_scl k32, hs, hi1, hj1, Addr.add_mk, hc i hi, hc j hj]
/-- what is asked of the types, of Swapper's literals and of the shelf -/
structure SortTy (P : Program) (E : Env) (ρ : Ren) (ke f2 f6 : Nat) : Prop where
  L : LaysGg.n6 P ρ
  fS : ρ.f 6 = E.f_sort_Slice
  fc : Callable P E.f_sort_Slice
  info : ∃ i, P.info? E.t_l_uint32 = some i ∧ i.desc = .slice E.tU32
  pk : P.packed E.t_l_uint32 = false
  elem : ∃ ie, P.info? E.tU32 = some ie ∧ ie.size = 1 ∧ ie.hasPointers = false ∧ ie.bytes = 4
  kind : ∀ w, (Extern.Rtype.kind E.tU32).run P w = .ok ke w
  lit1 : P.funcs.findIdx? (·.name == "internal/reflectlite" ++ ".Swapper$" ++ toString 2) = some f2
  lit4 : P.funcs.findIdx? (·.name == "internal/reflectlite" ++ ".Swapper$" ++ toString 6) = some f6
  swap : ∃ gS, ∀ args W, (callFunc f6 args).run P W = ((Extern.ReflectliteSwapper.swap gS args).run P W).andThen fun v w' => .ok (.value v) w'
theorem swK4 {ie : TypeInfo} {ke n : Nat} (h1 : ie.hasPointers = false) (h2 : ie.bytes = 4) (hn : 2 ≤ n) : swapperK n ie ke = 6 := by
  have c : (n == 0) = false := by simp; omega
  have d : (n == 1) = false := by simp; omega
  simp [swapperK, h1, h2, c, d]
theorem enters_callable {P : Program} {g : Nat} (h : Callable P g) : ∀ args w, (callFunc g args).run P w = .ok (.enter g args) w := by
  obtain ⟨fn, c, h1, h2, h3⟩ := h
  exact enters_of h1 h3 h2
theorem sortC {P : Program} {E : Env} {ρ : Ren} {ke f2 f6 : Nat} (hT : SortTy P E ρ ke f2 f6) (kS : kindOf P E.t_l_uint32 = .scl) (k32 : kindOf P E.tU32 = .scl) (hS : SliI P E.t_l_uint32 E.tU32 1 4 (.int .u32 0)) (hI : FnIs P E.f_pkmsg_Tags_Each_1 nt_pkmsg_Tags_Each_1 (rs_pkmsg_Tags_Each_1 E) (ir_pkmsg_Tags_Each_1 E)) : SortC P E := by
  intro w Bs blk c d row hcell hne hblk hrow hpos hlen
  obtain ⟨i, hi, hd⟩ := hT.info
  obtain ⟨ie, hie, hs1, hp, hby⟩ := hT.elem
  have hlt := lt_of_heap hblk
  have hBlt := World.block_lt_of_cell? w _ hcell
  have hH : Holds encU w blk 0 d.toArray := by
    intro j hj
    have hj' : j < d.length := by simpa using hj
    have hr := hrow j d[j] (List.getElem?_eq_getElem hj')
    refine ⟨?_, ?_⟩
    · rw [Nat.zero_add, cell_of_blk hblk, hr]
      simp [encU, hj']
    · exact frozen_of_blk hblk
  refine ⟨hT.fc, ?_⟩
  by_cases h2 : 2 ≤ d.length
  · have hless : LessReads P E.f_pkmsg_Tags_Each_1 #[.pointer (some ⟨Bs, 0, none⟩)] encU ltN blk 0 d.toArray.size w := by
      intro m os dk hs i j hi hj
      have hs' : dk.size = d.toArray.size := hs
      have e : sortWorld encU w blk 0 m dk os = putRow encU (grow (Sort.ahead w m) os) blk 0 dk := by
        unfold sortWorld; rw [putRow_grow _ (Sort.ahead w m) _ blk 0 _ hlt]
      have hHg : Holds encU (grow (Sort.ahead w m) os) blk 0 d.toArray := holds_grow _ _ _ blk 0 d.toArray hlt (holds_ahead _ _ _ _ _ _ hH)
      have hr := c_less (n := d.length) (c := c) (Bs := Bs) (blk := blk) kS k32 hS hI (W := sortWorld encU w blk 0 m dk os) (fun t => dk[t]!) ?_ ?_ (i := i) (j := j) (by simpa using hi) (by simpa using hj)
      · exact hr.2.mono fun e w' ⟨v, he, hv, hw⟩ => ⟨by rw [he, hv]; rfl, 1, hw⟩
      · rw [e, cell?_putRow_other _ _ blk 0 dk _ (Or.inl (by show Bs ≠ blk; omega)), cell?_grow _ _ _ (by show Bs < w.heap.size; exact hBlt)]
        exact hcell
      · intro t ht
        rw [e]
        have := cell?_putRow encU _ blk 0 d.toArray dk hHg hs t (by rw [hs']; simpa using ht)
        rw [Nat.zero_add] at this
        exact this
    obtain ⟨gS, hx⟩ := hT.swap
    have hS' := Any.sort_Slice_sorted hT.L E.t_l_uint32 E.tU32 i ie hi hd hT.pk hie ke hT.kind hs1 (fun w => by obtain ⟨dd, i, g1, g2, g3, g4⟩ := kindOf_scl k32; simp [run_isAgg g1, g2]) encU (fun _ => rfl) ltN swo_ltN E.f_pkmsg_Tags_Each_1 #[.pointer (some ⟨Bs, 0, none⟩)]
      (enters_callable hI.callable) blk 0 c d.toArray (by simpa using h2) (by simp; omega) f6 (by rw [swK4 hp hby (by simpa using h2)]; exact hT.lit4) gS hx w hless hH hlt
    rw [hT.fS] at hS'
    refine hS'.mono ?_
    rintro e w' ⟨rfl, d', n, os, hP, hSo, rfl⟩
    refine ⟨_, rfl, d'.toList, ?_, ?_, ?_, ?_⟩
    · have h3 := hP.2.2
      have e1 : d'.extract 0 d.toArray.size = d' := by rw [← hP.1]; exact Array.extract_size
      have e2 : d.toArray.extract 0 d.toArray.size = d.toArray := Array.extract_size
      rw [e1, e2] at h3
      simpa using h3
    · rw [List.pairwise_iff_getElem]
      intro i j hi hj hij
      have := hSo i j (Nat.zero_le _) hij (by rw [← hP.1]; simpa using hj)
      simp only [ltN, decide_eq_false_iff_not] at this
      have hi' : i < d'.size := by simpa using hi
      have hj' : j < d'.size := by simpa using hj
      rw [getElem!_pos d' i hi', getElem!_pos d' j hj'] at this
      simp only [Array.getElem_toList]
      omega
    · refine ⟨rfl, rfl, rfl, by simp [putRow, mapBlock, Sort.ahead], fun k hk hne => ?_⟩
      rw [heap_grow_old _ _ (by simpa [putRow, mapBlock, Sort.ahead] using hk)]
      simp only [putRow, mapBlock, Sort.ahead, Array.getElem?_modify]
      rw [if_neg (fun e => hne e.symm)]
    · intro i x hx
      have hx' : d'[i]? = some x := by simpa using hx
      obtain ⟨hi', hxe⟩ := Array.getElem?_eq_some_iff.1 hx'
      rw [cell?_grow _ _ _ (by simpa [putRow, mapBlock, Sort.ahead] using hlt)]
      have := cell?_putRow encU (Sort.ahead w n) blk 0 d.toArray d' (holds_ahead _ _ _ _ _ _ hH) hP.1 i hi'
      rw [Nat.zero_add, getElem!_pos d' i hi', hxe] at this
      exact this
  · have h1 : d.length = 1 := by omega
    have hS' := Any.sort_Slice_tiny hT.L E.t_l_uint32 E.tU32 i ie hi hd hT.pk hie ke hT.kind (some ⟨blk, 0, none⟩) d.length c (by omega) f2 (by rw [h1]; exact hT.lit1) (.func E.f_pkmsg_Tags_Each_1) #[] #[.pointer (some ⟨Bs, 0, none⟩)] w
    rw [hT.fS] at hS'
    refine hS'.mono ?_
    rintro e w' ⟨rfl, os, rfl⟩
    refine ⟨_, rfl, d, List.Perm.refl _, ?_, ?_, ?_⟩
    · match d, h1 with
      | [x], _ => simp
    · refine ⟨rfl, rfl, rfl, by simp, fun k hk hne => heap_grow_old _ _ hk⟩
    · intro i x hx
      rw [cell?_grow _ _ _ hlt, cell_of_blk hblk]
      exact hrow i x hx
end Go.Kg

set_option linter.unusedSimpArgs false
set_option linter.unusedVariables false
namespace Go.Kg
open Go
section
variable {P : Program} {E : Env} (ht : TyRs P E)
include ht
end
end Go.Kg

set_option linter.unusedSimpArgs false
set_option linter.unusedVariables false
set_option linter.unusedSectionVars false
namespace Go.Kg
open Go
structure MsgRkv (P : Program) (C : CfgR) (T PT flex df n : Nat) (S : Sch) (nl : Nat) : Prop where
  rs7 : C.rs = 7
  ty : TyR P C
  rb : TyRb P C.E
  tyR : S.tyR P C T n 1 = true
  need : S.NeedR P C
  endc : EndC P C
  i16 : PrimR P C .i16
  dfl : DefRC P C.toCfg n df S
  f0 : fldOff P T 0 = some 0
  nl : (S.genR C T PT (if C.fx then 10 else 9) (ctR C true nl)).2.l ≤ nl
  n1 : 1 ≤ n
/-- what is read of the version, and what is left -/
def kvV (src : List UInt8) (nn : Bool) : Int := (Prim.rd .i16 false ⟨src, false, nn⟩).1
def kvR (src : List UInt8) (nn : Bool) : RS := (Prim.rd .i16 false ⟨src, false, nn⟩).2
def ReadPostK (C : CfgR) (S : Sch) (flex b a n D : Nat) (w : World) (cc : Array Value) (e : TypeId) (ev : Value) (src : List UInt8) (nn : Bool) (v : Value) (w' : World) : Prop :=
  Ext (· = b) w w' ∧ (S.rd (kvV src nn) (flagAt C.toCfg flex (kvV src nn)) (kvR src nn) = none → v = ev) ∧
  ∀ x rs', S.rd (kvV src nn) (flagAt C.toCfg flex (kvV src nn)) (kvR src nn) = some (x, rs') → v = (if rs'.bad then ev else .nilIface) ∧
    ∃ cc', w'.heap[b]? = some (.cells cc' e (0, 0)) ∧ cc'.size = cc.size ∧ cc'[a]? = some (.int .i16 (kvV src nn)) ∧ S.Rep w' (fun k => k = D ∨ w.heap.size < k) (segL cc' a n) x
set_option maxHeartbeats 1000000 in
theorem readFromK {P : Program} {C : CfgR} {T PT flex df n nl nt g : Nat} {S : Sch} (hm : MsgRkv P C T PT flex df n S nl) (hnt : 3 ≤ nt) (hI : FnIs P g nt [.t 6] (msgR C T PT flex df true S nl)) {w : World} {b a D : Nat} {cc : Array Value} {e : TypeId} {sv : Value} {src : List UInt8} {ev : Value}
    (hb : w.heap[b]? = some (.cells cc e (0, 0))) (hfit : a + n ≤ cc.size) (hchk : S.chkD (segL (setD a (S.dst C.toCfg) cc) a n) = true) (hsrc : BytesAt w (· = D) sv src) (hD : D < w.heap.size) (hbD : b ≠ D)
    (herr : w.cell? ⟨C.E.g_kbin_ErrNotEnoughData, 0, none⟩ = some ev) (hgb : C.E.g_kbin_ErrNotEnoughData ≠ b) (hv0 : C.fx = true → 0 ≤ kvV src (nonNil sv)) :
    Ret P g #[.pointer (some ⟨b, a, none⟩), sv, .bool false] w fun v w' => ReadPostK C S flex b a n D w (setD a (S.dst C.toCfg) cc) e ev src (nonNil sv) v w' := by
  obtain ⟨hrs, ht, hrb, htyR, hN, hE, h16, hdef, hf0, hnl, hn1⟩ := hm
  have hlt := lt_of_heap hb
  have hl7 := (genR_mono (C := C) S T PT (if C.fx then 10 else 9) (ctR C true nl)).1
  have q6 : 10 ≤ (ctR C true nl).l := by simp only [ctR]; split <;> omega
  have q7 : C.fx = true → 11 ≤ (ctR C true nl).l := by intro h; simp [ctR, h]
  have qt : nl + 10 ≤ (ctR C true nl).t := by simp [ctR]; split <;> omega
  have hnl10 : 10 ≤ nl := by omega
  refine hI.ret (args := [_, _, _]) hnt ?_
  generalize hccD : setD a (S.dst C.toCfg) cc = ccD at *
  have hszD : ccD.size = cc.size := by subst hccD; exact setD_size _ _ _
  generalize hnn : nonNil sv = nn at *
  generalize hver : kvV src nn = ver at *
  generalize hrs1 : kvR src nn = rs1 at *
  have hver' : (Prim.rd .i16 false ⟨src, false, nn⟩).1 = ver := hver
  have hrs1' : (Prim.rd .i16 false ⟨src, false, nn⟩).2 = rs1 := hrs1
  have hsv1 := bytes_one hsrc
  have hgw : C.E.g_kbin_ErrNotEnoughData < w.heap.size := World.block_lt_of_cell? w _ herr
  generalize hR : (⟨w.heap.size, D, w.heap.size + 1, ev⟩ : Rdr) = R
  have rpb : R.pb = w.heap.size := by subst hR; rfl
  have rD : R.D = D := by subst hR; rfl
  have rbase : R.base = w.heap.size + 1 := by subst hR; rfl
  have rev : R.ev = ev := by subst hR; rfl
  generalize hccV : ccD.setIfInBounds a (.int .i16 ver) = ccV
  have hszV : ccV.size = ccD.size := by subst hccV; simp
  have hva : ccV[a]? = some (.int .i16 ver) := by rw [← hccV, Array.getElem?_setIfInBounds, if_pos rfl, if_pos (by omega)]
  have hchkV : S.chkD (segL ccV a n) = true := by
    refine chkD_congr S htyR (fun j hj1 hj2 => ?_) hchk
    rw [segL_get hj2, segL_get hj2, ← hccV, Array.getElem?_setIfInBounds, if_neg (by omega)]
  -- behind the head
  have behind : ∀ (f : Nat → Value) (w1 : World), Ext (· = b) w w1 → StR C R b a n w1 ccV e rs1 → f (if C.fx then 10 else 9) = .pointer (some ⟨b, a, none⟩) → f 2 = .bool false → f 7 = .pointer (some ⟨w.heap.size, 0, none⟩) → f 8 = .int .i16 ver → (C.fx = true → f 9 = .bool (flagAt C.toCfg flex ver)) →
      (seqL ((S.genR C T PT (if C.fx then 10 else 9) (ctR C true nl)).1 ++ completeI C (S.genR C T PT (if C.fx then 10 else 9) (ctR C true nl)).2.t)).wp P (retPost P [.t 6] fun v w' => ReadPostK C S flex b a n D w ccD e ev src nn v w') f w1 := by
    intro f w1 he1 hst fpv f2 f7 f8 f9
    have tot : ∀ w', Ext (CB R b) w1 w' → Ext (· = b) w w' := by
      intro w' h
      refine he1.trans' h ?_
      rintro x hx (h | h)
      · rw [rpb] at h; omega
      · exact h
    refine seqL_append ?_
    refine soundR ht S T PT _ (ctR C true nl) _ f w1 b a n 1 ccV e ver (flagAt C.toCfg flex ver) R rs1 htyR hN ?_ (by omega) hst hchkV ?_ ?_
    · refine ⟨fpv, ?_, hv0, f8, f9, fun hx => by simp [flagAt, hx], by rw [hrs, rpb]; exact f7, f2, q6, ⟨by omega, by omega⟩⟩
      split
      · rename_i hx; exact ⟨by omega, by have := q7 hx; omega⟩
      · exact ⟨by omega, by omega⟩
    · intro hnone f' w' h6 he
      show retPost P [.t 6] (fun v w' => ReadPostK C S flex b a n D w ccD e ev src nn v w') .ret f' w'
      simp [h6, rev]
      unfold ReadPostK
      rw [hver, hrs1]
      exact ⟨tot w' he, fun _ => rfl, fun x rs' h => by rw [hnone] at h; cases h⟩
    · intro x rs' hx f' w' cc' hto hrep
      have k7 : f' C.rs = .pointer (some ⟨R.pb, 0, none⟩) := by rw [hrs, hto.keep 7 (by omega) (.inl (by omega)), rpb]; exact f7
      show (seqL (completeI C _)).wp P _ f' w'
      refine r_complete hE hto.st k7 ?_
      intro f'' h6
      show retPost P [.t 6] (fun v w' => ReadPostK C S flex b a n D w ccD e ev src nn v w') .ret f'' w'
      simp [h6, rev]
      unfold ReadPostK
      rw [hver, hrs1]
      refine ⟨tot w' hto.ext, fun h => (by rw [hx] at h; cases h), fun x2 rs2 h2 => ?_⟩
      rw [hx] at h2
      cases h2
      refine ⟨rfl, cc', hto.st.blk, hto.size.trans hszV, ?_, Sch.Rep_mono (fun k hk => ?_) S hrep⟩
      · rw [hto.same a (by omega)]; exact hva
      · rcases hk with h | h
        · exact .inl (by rw [← rD]; exact h)
        · exact .inr (by rw [rbase] at h; omega)
  -- the head
  have n0 : ∀ k, (0 = nl + k) = False := by intro k; simp; omega
  have n1 : ∀ k, (1 = nl + k) = False := by intro k; simp; omega
  have n2 : ∀ k, (2 = nl + k) = False := by intro k; simp; omega
  have n6 : ∀ k, (6 = nl + k) = False := by intro k; simp; omega
  have n7 : ∀ k, (7 = nl + k) = False := by intro k; simp; omega
  have n8 : ∀ k, (8 = nl + k) = False := by intro k; simp; omega
  have n9 : ∀ k, (9 = nl + k) = False := by intro k; simp; omega
  have n0' : (0 = nl) = False := by simp; omega
  have n1' : (1 = nl) = False := by simp; omega
  have n2' : (2 = nl) = False := by simp; omega
  have n7' : (7 = nl) = False := by simp; omega
  have n8' : (8 = nl) = False := by simp; omega
  have n9' : (9 = nl) = False := by simp; omega
  have m0 : (nl = 0) = False := by simp; omega
  have m1 : (nl = 1) = False := by simp; omega
  have m2 : (nl = 2) = False := by simp; omega
  have m3 : (nl = 3) = False := by simp; omega
  have m4 : (nl = 4) = False := by simp; omega
  have m5 : (nl = 5) = False := by simp; omega
  have m6 : (nl = 6) = False := by simp; omega
  have m7 : (nl = 7) = False := by simp; omega
  have m8 : (nl = 8) = False := by simp; omega
  have m9 : (nl = 9) = False := by simp; omega
  have kI16 : kindOf P C.E.tI16 = .scl := ht.c.kI16
  -- the world behind the head
  generalize hw1 : w.setBlk b (.cells ccD e (0, 0)) = w1
  have hw1s : w1.heap.size = w.heap.size := by subst hw1; simp
  have hbw1 : w1.heap[b]? = some (.cells ccD e (0, 0)) := by subst hw1; exact setBlk_same hb
  have hE1 : Ext (fun k => k = b) w w1 := by subst hw1; exact (Ext.refl (fun k => k = b) w).setBlk (b := b) (Or.inr rfl) _
  generalize hw2 : (w1.alloc (.cells #[.slice none 0 0, .bool false] C.E.tRd)).setBlk w1.heap.size (.cells #[sv, .bool false] C.E.tRd (0, 0)) = w2
  have hE2 : Ext none1 w1 w2 := by subst hw2; exact ((Ext.refl none1 w1).alloc _).setBlk (.inl (Nat.le_refl _)) _
  have hpb2 : w2.heap[w.heap.size]? = some (.cells #[sv, .bool false] C.E.tRd (0, 0)) := by subst hw2; rw [← hw1s]; exact setBlk_same alloc_new
  have hbw2 : w2.heap[b]? = some (.cells ccD e (0, 0)) := hE2.old hbw1 (fun h => h)
  have hE12 : Ext (fun k => k = b) w w2 := hE1.trans (hE2.mono (fun _ _ h => h.elim))
  have hrd2 : RdAt C.E.tRd w2 w.heap.size D ⟨src, false, nn⟩ := ⟨sv, hpb2, hsrc.ext hE12 (by rintro k _ rfl h; exact hbD h.symm), hnn⟩
  have key : ∀ (fl : List Ir) (pv t' : Nat), pv = (if C.fx then 10 else 9) → t' = nl + 4 + (if C.fx then 12 else 9) → (if C.fx then [Ir.reg [⟨none, some (nl + 4 + 9), .move (.tmp 8), C.E.tI16⟩, ⟨none, some (nl + 4 + 10), .binOp .geq C.E.tI16 (.tmp (nl + 4 + 9)) (.const (.int .i16 flex)) C.E.tI16, C.E.tB⟩, ⟨none, some 9, .assign (.tmp (nl + 4 + 10)), C.E.tB⟩],
      .reg [⟨none, some (nl + 4 + 11), .move (.tmp 9), C.E.tB⟩]] else []) = fl →
      (seqL ([.reg [⟨none, some 6, .assign (.const .nilIface), C.E.tErr⟩],
    .reg [⟨none, some nl, .move (.tmp 0), PT⟩, ⟨none, some (nl + 1), .call { callee := .value (.func df), args := #[.tmp nl], argTypes := #[PT] }, C.E.tNil⟩],
    .reg [⟨none, some (nl + 2), .move (.tmp 1), C.E.tBs⟩, ⟨none, some (nl + 3), .build C.E.tRd #[(0, .tmp (nl + 2))], C.E.tRd⟩, ⟨none, some 7, .alloc C.E.tRd, C.E.tNil⟩, ⟨none, none, .store C.E.tRd (.tmp 7) (.tmp (nl + 3)), C.E.tNil⟩],
    .reg [⟨none, some (nl + 4), .move (.tmp 0), PT⟩, ⟨none, some (nl + 5), .call { callee := .value (.func C.E.f_pkbin_Reader_Int16), args := #[.tmp 7], argTypes := #[C.E.tRd] }, C.E.tI16⟩,
    ⟨none, some (nl + 6), .nilCheck (.tmp (nl + 4)), C.E.tNil⟩, ⟨none, some (nl + 7), .fieldAddr T (.tmp (nl + 6)) 0, C.E.tNil⟩, ⟨none, none, .store C.E.tI16 (.tmp (nl + 7)) (.tmp (nl + 5)), C.E.tNil⟩],
    .reg (addrR C.toCfg T PT 0 0 (nl + 4 + 4) ++ [⟨none, some (nl + 4 + 7), .load C.E.tI16 (.tmp (nl + 4 + 6)), C.E.tI16⟩, ⟨none, some 8, .assign (.tmp (nl + 4 + 7)), C.E.tI16⟩]),
    .reg [⟨none, some (nl + 4 + 8), .move (.tmp 8), C.E.tI16⟩]] ++ (fl ++ ([.reg [⟨none, some t', .move (.tmp 0), PT⟩, ⟨none, some pv, .assign (.tmp t'), PT⟩]] ++ ((S.genR C T PT (if C.fx then 10 else 9) (ctR C true nl)).1 ++ completeI C (S.genR C T PT (if C.fx then 10 else 9) (ctR C true nl)).2.t))))).wp P
        (retPost P [.t 6] fun v w' => ReadPostK C S flex b a n D w ccD e ev src nn v w') (frame0 [.pointer (some ⟨b, a, none⟩), sv, .bool false]) w := by
    intro fl pv t' hpv ht' hfl
    simp only [List.cons_append, List.nil_append]
    refine seqL_cons (wp_reg ?_)
    simp
    refine seqL_cons (wp_reg ?_)
    simp
    refine (hdef w b a cc e hb hfit).mono ?_
    rintro v w1' ⟨rfl⟩
    rw [hccD, hw1]
    refine seqL_cons (wp_reg ?_)
    simp [n0, n0', n1, n1', n2, n2', n6, n7, n7', n8, n8', n9, n9', m0, m1, m2, m3, m4, m5, m6, m7, m8, m9, bld_rd hrb (cells_one hsv1), hrb.z, Value.cells, store_agg hrb.k, putK_blk alloc_new, hsv1]
    have hov : over #[.slice none 0 0, .bool false] 0 [sv, .bool false] = #[sv, .bool false] := by simp [over]
    rw [hov, hw2]
    refine ⟨by simp only [allOne, hsv1, Bool.true_and]; rfl, ?_⟩
    have e1w : w1.heap.size = w.heap.size := hw1s
    show (seqL _).wp P _ _ w2
    refine seqL_cons (wp_reg ?_)
    simp [n0, n0', n1, n1', n2, n2', n6, n7, n7', n8, n8', n9, n9', m0, m1, m2, m3, m4, m5, m6, m7, m8, m9, e1w]
    refine (h16 false (by simp) w2 w.heap.size D ⟨src, false, nn⟩ (by omega) (Nat.lt_of_lt_of_le hD (hE12.size)) hrd2).mono ?_
    rintro v w3 ⟨hv, he3, hr3⟩
    have hv' : v = .int .i16 ver := by rw [← hver']; exact hv
    subst hv'
    rw [hrs1'] at hr3
    have hbw3 : w3.heap[b]? = some (.cells ccD e (0, 0)) := he3.old hbw2 (by omega)
    simp [n0, n0', n1, n1', n2, n2', n6, n7, n7', n8, n8', n9, n9', m0, m1, m2, m3, m4, m5, m6, m7, m8, m9, hf0, Addr.add_mk, store_scl kI16, Value.oneCell', put1K_blk hbw3]
    refine ⟨by omega, ?_⟩
    rw [hccV]
    generalize hw4 : w3.setBlk b (.cells ccV e (0, 0)) = w4
    have hbw4 : w4.heap[b]? = some (.cells ccV e (0, 0)) := by subst hw4; exact setBlk_same hbw3
    have hE4 : Ext (fun k => k = b) w3 w4 := by subst hw4; exact (Ext.refl (fun k => k = b) w3).setBlk (b := b) (Or.inr rfl) _
    have hE14 : Ext (fun k => k = b) w w4 := (hE12.trans' he3 (fun x hx h => by omega)).trans hE4
    have hst : StR C R b a n w4 ccV e rs1 := by
      refine ⟨hbw4, by omega, ?_, ⟨⟨?_, ?_, ?_, ?_⟩, ⟨?_, ?_, ?_⟩, ?_, ⟨?_, ?_⟩⟩⟩
      · rw [rpb, rD]
        exact hr3.ext hE4 (by omega) (by omega)
      · rw [rpb, rbase]; omega
      · rw [rbase]; omega
      · rw [rD, rbase]; omega
      · rw [rbase]; have := lt_of_heap hpb2; have := he3.size; have := hE4.size; omega
      · rw [rpb, rD]; omega
      · rw [rD]; exact hbD
      · rw [rpb]; omega
      · rw [rev]; exact hE14.cell herr (fun h => hgb h)
      · rw [rpb]; omega
      · exact hgb
    have cv : w4.cell? ⟨b, a, none⟩ = some (.int .i16 ver) := by rw [cell_of_blk hbw4]; exact hva
    show (seqL _).wp P _ _ w4
    refine seqL_cons (wp_reg ?_)
    simp [n0, n0', n1, n1', n2, n2', n6, n7, n7', n8, n8', n9, n9', m0, m1, m2, m3, m4, m5, m6, m7, m8, m9, addrR, hf0, Addr.add_mk, ld_scl kI16, cv]
    refine seqL_cons (wp_reg ?_)
    simp [n0, n0', n1, n1', n2, n2', n6, n7, n7', n8, n8', n9, n9', m0, m1, m2, m3, m4, m5, m6, m7, m8, m9]
    refine seqL_append ?_
    by_cases hx : C.fx = true
    · rw [if_pos hx] at hfl
      subst hfl
      rw [if_pos hx] at hpv ht'
      subst hpv
      subst ht'
      refine seqL_cons (wp_reg ?_)
      simp [n0, n0', n1, n1', n2, n2', n6, n7, n7', n8, n8', n9, n9', m0, m1, m2, m3, m4, m5, m6, m7, m8, m9]
      show (Ir.reg _).wp P _ _ _
      refine wp_reg ?_
      simp [n0, n0', n1, n1', n2, n2', n6, n7, n7', n8, n8', n9, n9', m0, m1, m2, m3, m4, m5, m6, m7, m8, m9]
      refine seqL_cons (wp_reg ?_)
      simp [n0, n0', n1, n1', n2, n2', n6, n7, n7', n8, n8', n9, n9', m0, m1, m2, m3, m4, m5, m6, m7, m8, m9]
      refine behind _ w4 hE14 hst ?_ ?_ ?_ ?_ ?_
      · simp [n0, n0', n1, n1', n2, n2', n6, n7, n7', n8, n8', n9, n9', m0, m1, m2, m3, m4, m5, m6, m7, m8, m9, hx]
      · simp [n0, n0', n1, n1', n2, n2', n6, n7, n7', n8, n8', n9, n9', m0, m1, m2, m3, m4, m5, m6, m7, m8, m9]
      · simp [n0, n0', n1, n1', n2, n2', n6, n7, n7', n8, n8', n9, n9', m0, m1, m2, m3, m4, m5, m6, m7, m8, m9, e1w]
      · simp [n0, n0', n1, n1', n2, n2', n6, n7, n7', n8, n8', n9, n9', m0, m1, m2, m3, m4, m5, m6, m7, m8, m9]
      · intro _; simp [n0, n0', n1, n1', n2, n2', n6, n7, n7', n8, n8', n9, n9', m0, m1, m2, m3, m4, m5, m6, m7, m8, m9, flagAt, hx]
    · rw [if_neg hx] at hfl
      subst hfl
      rw [if_neg hx] at hpv ht'
      subst hpv
      subst ht'
      show (seqL _).wp P _ _ w4
      refine seqL_cons (wp_reg ?_)
      simp [n0, n0', n1, n1', n2, n2', n6, n7, n7', n8, n8', n9, n9', m0, m1, m2, m3, m4, m5, m6, m7, m8, m9]
      refine behind _ w4 hE14 hst ?_ ?_ ?_ ?_ ?_
      · simp [n0, n0', n1, n1', n2, n2', n6, n7, n7', n8, n8', n9, n9', m0, m1, m2, m3, m4, m5, m6, m7, m8, m9, hx]
      · simp [n0, n0', n1, n1', n2, n2', n6, n7, n7', n8, n8', n9, n9', m0, m1, m2, m3, m4, m5, m6, m7, m8, m9]
      · simp [n0, n0', n1, n1', n2, n2', n6, n7, n7', n8, n8', n9, n9', m0, m1, m2, m3, m4, m5, m6, m7, m8, m9, e1w]
      · simp [n0, n0', n1, n1', n2, n2', n6, n7, n7', n8, n8', n9, n9', m0, m1, m2, m3, m4, m5, m6, m7, m8, m9]
      · intro h; exact absurd h hx
  have := key _ _ _ rfl rfl rfl
  simp only [← List.append_assoc] at this
  exact this
end Go.Kg

set_option linter.unusedSimpArgs false
set_option linter.unusedVariables false
set_option linter.unusedSectionVars false
namespace Go.Kg
open Go
def rdV (rs : RS) : Int × RS := (IntKind.i16.wrap (rdFixed 2 rs).1, (rdFixed 2 rs).2)
def Sch.rdK (fl : Int → Bool) (S : Sch) (rs : RS) : Option ((Int × S.T) × RS) :=
  (S.rd (rdV rs).1 (fl (rdV rs).1) (rdV rs).2).map fun y => (((rdV rs).1, y.1), y.2)
def Sch.wrK (fl : Int → Bool) (S : Sch) (x : Int × S.T) : List UInt8 := num 2 x.1 ++ S.wr x.1 (fl x.1) x.2
theorem good_rdV : Good rdV := (good_fixed 2).map (fun a _ => IntKind.i16.wrap a)
theorem good_rdK (fl : Int → Bool) (S : Sch) : GoodO (S.rdK fl) := by
  refine (good_rdV.toO.bind (h := fun (v : Int) rs => (S.rd v (fl v) rs).bind fun y => some ((v, y.1), y.2)) (fun v => (good_sch v (fl v) S).bind (h := fun y rs => some ((v, y), rs)) (fun y => GoodO.pure _))).congr (fun rs => ?_)
  simp only [Sch.rdK, Option.bind_some]
  cases S.rd (rdV rs).1 (fl (rdV rs).1) (rdV rs).2 <;> rfl
theorem rdV_num (v : Int) (hv : -32768 ≤ v ∧ v < 32768) (r : List UInt8) (nn : Bool) : ∃ n1, rdV ⟨num 2 v ++ r, false, nn⟩ = (v, ⟨r, false, n1⟩) := rd_prim .i16 false v hv r nn
theorem rd_kept (fl : Int → Bool) (S : Sch) (v : Int) (hv : -32768 ≤ v ∧ v < 32768) (x : S.T) (hp : S.posE v (fl v) = true) (hw : S.wf v (fl v) x) (r : List UInt8) (nn : Bool) :
    ∃ y nn', S.rdK fl ⟨S.wrK fl (v, x) ++ r, false, nn⟩ = some ((v, y), ⟨r, false, nn'⟩) ∧ S.wr v (fl v) y = S.wr v (fl v) x ∧ S.TagsOk tagsOk y := by
  obtain ⟨n1, e1⟩ := rdV_num v hv (S.wr v (fl v) x ++ r) nn
  obtain ⟨y, n2, e2, e3, e4⟩ := rd_sch v (fl v) S x hp hw r n1
  refine ⟨y, n2, ?_, e3, e4⟩
  simp only [Sch.rdK, Sch.wrK, List.append_assoc, e1, e2, Option.map_some]
theorem cut_kept (fl : Int → Bool) (S : Sch) (v : Int) (hv : -32768 ≤ v ∧ v < 32768) (x : S.T) (hp : S.posE v (fl v) = true) (hw : S.wf v (fl v) x) (k : Nat) (hk : k < (S.wrK fl (v, x)).length) (nn : Bool) {y : Int × S.T} {rs : RS} (h : S.rdK fl ⟨(S.wrK fl (v, x)).take k, false, nn⟩ = some (y, rs)) : rs.bad = true := by
  cases hb : rs.bad
  · obtain ⟨z, n', e1, _⟩ := rd_kept fl S v hv x hp hw [] nn
    have e2 := (good_rdK fl S).ext _ ((S.wrK fl (v, x)).drop k) nn y rs h hb
    rw [List.take_append_drop] at e2
    rw [List.append_nil, e2] at e1
    simp only [Option.some.injEq, Prod.mk.injEq, RS.mk.injEq] at e1
    have h3 := congrArg List.length e1.2.1
    simp at h3
    omega
  · rfl
theorem any_kept (fl : Int → Bool) (S : Sch) (hp : ∀ v : Int, S.posE v (fl v) = true) {rs rs' : RS} {x : Int × S.T} (h : S.rdK fl rs = some (x, rs')) (hb : rs'.bad = false) (hs : rs.src.length ≤ 32767) (nn : Bool) :
    (S.wrK fl x).length ≤ rs.src.length ∧ S.TagsOk tagsOk x.2 ∧ ∃ y nn', S.rdK fl ⟨S.wrK fl x, false, nn⟩ = some (y, ⟨[], false, nn'⟩) ∧ S.wrK fl y = S.wrK fl x := by
  unfold Sch.rdK at h
  obtain ⟨⟨y, r2⟩, hy, he⟩ := Option.map_eq_some_iff.1 h
  simp only [Prod.mk.injEq] at he
  obtain ⟨rfl, rfl⟩ := he
  have h1 : (rdV rs).2.bad = false := by
    cases e : (rdV rs).2.bad
    · rfl
    · have := (good_sch _ _ S).bad _ _ _ hy e
      rw [hb] at this; cases this
  obtain ⟨a1, a2⟩ := any_prim .i16 false rs h1 hs
  have a1' : -32768 ≤ (rdV rs).1 ∧ (rdV rs).1 < 32768 := a1
  have a2' : (num 2 (rdV rs).1).length + (rdV rs).2.src.length ≤ rs.src.length := a2
  obtain ⟨b1, b2⟩ := any_sch _ _ S _ _ _ hy hb (by omega)
  have b3 := any_tags _ _ S _ _ _ hy hb (by omega)
  obtain ⟨z, n2, e1, e2, _⟩ := rd_kept fl S (rdV rs).1 a1' y (hp _) b1 [] nn
  rw [List.append_nil] at e1
  refine ⟨?_, b3, _, n2, e1, ?_⟩
  · simp only [Sch.wrK, List.length_append]; omega
  · simp only [Sch.wrK, e2]
end Go.Kg

set_option linter.unusedSimpArgs false
set_option linter.unusedVariables false
set_option linter.unusedSectionVars false
namespace Go.Kg
open Go
def irNewK (C : Cfg) (T fDef : Nat) : Ir :=
  .seq (.reg [⟨none, some 0, .alloc T, C.E.tNil⟩]) (.seq (.reg [⟨none, some 1, .alloc T, C.E.tNil⟩]) (.seq (.reg [⟨none, some 2, .call { callee := .value (.func fDef), args := #[.tmp 1], argTypes := #[T] }, C.E.tNil⟩])
  (.seq (.reg [⟨none, some 3, .load T (.tmp 1), T⟩, ⟨none, none, .store T (.tmp 0) (.tmp 3), C.E.tNil⟩]) .ret)))
theorem over_all {z c : Array Value} (h : z.size = c.size) : over z 0 c.toList = c := by
  have hd : z.toList.drop (0 + c.toList.length) = [] := List.drop_eq_nil_of_le (by simp [h])
  simp only [over, hd]; simp
theorem newKC {P : Program} {C : Cfg} {T n g nt fDef : Nat} {S : Sch} {z : Array Value} (hI : FnIs P g nt [.c 0 T] (irNewK C T fDef)) (hz : zeroOf P T = some (.agg z)) (hn : z.size = n) (hk : kindOf P T = .agg n) (hone : allOne (setD 0 (S.dst C) z).toList = true)
    (hD : DefRC P C n fDef S) (w : World) : Ret P g #[] w fun v w' => v = .agg (setD 0 (S.dst C) z) ∧ Ext none1 w w' := by
  generalize hzD : setD 0 (S.dst C) z = zD at *
  have hzDs : zD.size = n := by subst hzD; rw [setD_size]; exact hn
  refine hI.call (args := []) (by simp) ?_
  simp [irNewK, hz, Value.cells]
  generalize hw1 : w.alloc (.cells z T) = w1
  have hb1 : w1.heap[w.heap.size]? = some (.cells z T (0, 0)) := by subst hw1; exact alloc_new
  have hs1 : w1.heap.size = w.heap.size + 1 := by subst hw1; simp
  have hE1 : Ext none1 w w1 := by subst hw1; exact (Ext.refl none1 w).alloc _
  rw [← hs1]
  refine (hD (w1.alloc (.cells z T)) w1.heap.size 0 z T alloc_new (by omega)).mono ?_
  rintro v w2 rfl
  rw [hzD]
  generalize hw2 : (w1.alloc (.cells z T)).setBlk w1.heap.size (.cells zD T (0, 0)) = w2
  have hb2 : w2.heap[w1.heap.size]? = some (.cells zD T (0, 0)) := by subst hw2; exact setBlk_same alloc_new
  have hE2 : Ext none1 w1 w2 := by subst hw2; exact ((Ext.refl none1 w1).alloc _).setBlk (.inl (Nat.le_refl _)) _
  have hb20 := hE2.old hb1 (fun h => h)
  have l2 := cellsFrom_row hb2
  rw [hzDs] at l2
  simp [ld_agg hk, l2, store_agg hk, hzDs, hone, putK_blk hb20, over_all (show z.size = zD.size by omega)]
  refine ⟨by omega, ?_⟩
  have hb3 : (w2.setBlk w.heap.size (.cells zD T (0, 0))).heap[w.heap.size]? = some (.cells zD T (0, 0)) := setBlk_same hb20
  have l3 := cellsFrom_row hb3
  rw [hzDs] at l3
  simp [ld_agg hk, l3]
  exact (hE1.trans hE2).setBlk (.inl (Nat.le_refl _)) _
def irAgainK (C : Cfg) (T fNew fRF fApp : Nat) : Ir :=
  .seq (.reg [⟨none, some 2, .assign (.const (.slice none 0 0)), C.E.tBs⟩, ⟨none, some 3, .assign (.const (.bool false)), C.E.tB⟩])
  (.seq (.reg [⟨none, some 5, .call { callee := .value (.func fNew), args := #[], argTypes := #[] }, T⟩, ⟨none, some 4, .alloc T, C.E.tNil⟩, ⟨none, none, .store T (.tmp 4) (.tmp 5), C.E.tNil⟩])
  (.seq (.seq (.reg [⟨none, some 6, .move (.tmp 0), C.E.tBs⟩, ⟨none, some 7, .call { callee := .builtin .append, args := #[.const (.slice none 0 0), .tmp 6], argTypes := #[C.E.tBs, C.E.tBs] }, C.E.tBs⟩,
      ⟨none, some 8, .call { callee := .value (.func fRF), args := #[.tmp 4, .tmp 7], argTypes := #[T, C.E.tBs] }, C.E.tErr⟩, ⟨none, some 9, .binOp .neq C.E.tErr (.tmp 8) (.const .nilIface) C.E.tErr, C.E.tB⟩])
    (.cond 9 (.seq (.reg [⟨none, some 2, .assign (.const (.slice none 0 0)), C.E.tBs⟩, ⟨none, some 3, .assign (.const (.bool false)), C.E.tB⟩]) .ret) .skip))
  (.seq (.reg [⟨none, some 10, .call { callee := .value (.func fApp), args := #[.tmp 4, .const (.slice none 0 0)], argTypes := #[T, C.E.tBs] }, C.E.tBs⟩, ⟨none, some 2, .assign (.tmp 10), C.E.tBs⟩, ⟨none, some 3, .assign (.const (.bool true)), C.E.tB⟩]) .ret)))
/-- what Again hands back -/
def AgainPostK (S : Sch) (fl : Int → Bool) (src : List UInt8) (w : World) (u : Value) (w' : World) : Prop :=
  Ext none1 w w' ∧ ∃ nn, match S.rdK fl ⟨src, false, nn⟩ with
    | some (x, rs) => if rs.bad then u = .tuple #[.slice none 0 0, .bool false] else ∃ v, u = .tuple #[v, .bool true] ∧ BytesAt w' (fun k => w.heap.size ≤ k) v (S.wrK fl x)
    | none => u = .tuple #[.slice none 0 0, .bool false]
/-- the version as a field ahead of the others -/
def schK (S : Sch) : Sch := .prim ⟨none, none⟩ 0 0 .i16 0 0 S
theorem againKC {P : Program} {C : CfgR} {T PT flex n g nt fNew fRF fApp fR df nl ntR ntRF : Nat} {S : Sch} {z zD : Array Value} {ev : Value} (hnt : 1 ≤ nt) (hI : FnIs P g nt [.t 2, .t 3] (irAgainK C.toCfg T fNew fRF fApp))
    (hRF : FnIs P fRF ntRF [.t 4] (irRF C.toCfg PT fR)) (hntRF : 2 ≤ ntRF) (hm : MsgRkv P C T PT flex df n S nl) (hntR : 3 ≤ ntR) (hR : FnIs P fR ntR [.t 6] (msgR C T PT flex df true S nl))
    (hNew : ∀ w, Ret P fNew #[] w fun v w' => v = .agg zD ∧ Ext none1 w w') (hz : zeroOf P T = some (.agg z)) (hn : z.size = n) (hzDn : zD.size = n) (hkT : kindOf P T = .agg n) (hone : allOne zD.toList = true) (hid : setD 0 (S.dst C.toCfg) zD = zD) (hchk : S.chkD zD.toList = true)
    (hApp : ∀ {w : World} {b a base : Nat} {cs : List Value} {x : (schK S).T} {ver : Int} {v : Value} {s : List UInt8}, CellsAt w b a cs → cs[0]? = some (.int .i16 ver) → (schK S).Rep w (· < base) cs x → (schK S).TagsOk tagsOk x → b < base → OwnB C.E.tU8 w base v s → base ≤ w.heap.size →
      s.length + ((schK S).wr ver (flagAt C.toCfg flex ver) x).length ≤ 1099511627776 → Ret P fApp #[.pointer (some ⟨b, a, none⟩), v] w fun v' w' => OwnB C.E.tU8 w' base v' (s ++ (schK S).wr ver (flagAt C.toCfg flex ver) x) ∧ Grew w v w' v')
    (tBs : SliI P C.E.tBs C.E.tU8 1 1 (.int .u8 0)) (uErr : ∃ ms, P.underlying C.E.tErr = some (.interface ms)) (hev : ∃ t v, ev = .iface t v)
    {w : World} {K : Nat → Prop} {sv : Value} {src : List UInt8} (hsrc : BytesAt w K sv src) (hlen : src.length ≤ 1099511627776) (herr : w.cell? ⟨C.E.g_kbin_ErrNotEnoughData, 0, none⟩ = some ev) (hv0 : ∀ nn, C.fx = true → 0 ≤ kvV src nn)
    (hgood : ∀ nn x rs, S.rdK (flagAt C.toCfg flex) ⟨src, false, nn⟩ = some (x, rs) → rs.bad = false → S.TagsOk tagsOk x.2 ∧ (S.wrK (flagAt C.toCfg flex) x).length ≤ 1099511627776) :
    Ret P g #[sv] w fun u w' => AgainPostK S (flagAt C.toCfg flex) src w u w' := by
  refine hI.call (args := [_]) hnt ?_
  simp [irAgainK]
  refine (hNew w).mono ?_
  rintro v w0 ⟨rfl, he0⟩
  have hbz := alloc_new (w := w0) (o := .cells z T)
  simp [hz, Value.cells, store_agg hkT, hzDn, hone, putK_blk hbz, over_all (show z.size = zD.size by omega)]
  refine ⟨by omega, ?_⟩
  generalize hbb : w0.heap.size = b0 at *
  generalize hw2 : (w0.alloc (.cells z T)).setBlk b0 (.cells zD T (0, 0)) = w2
  have hb2 : w2.heap[b0]? = some (.cells zD T (0, 0)) := by subst hw2; exact setBlk_same hbz
  have hE0 : Ext none1 w0 w2 := by subst hw2; exact ((Ext.refl none1 w0).alloc _).setBlk (.inl (by omega)) _
  have he2 : Ext none1 w w2 := he0.trans hE0
  have hsz0 := he0.size
  have hsz2 : b0 < w2.heap.size := lt_of_heap hb2
  have hsrc2 : BytesAt w2 K sv src := hsrc.ext he2 (fun _ _ _ h => h)
  refine st_app_bytes tBs (s := []) (base := w2.heap.size) (v := .slice none 0 0) (by simp) (by simpa [OwnB, cellsOf] using Own.nil w2 w2.heap.size C.E.tU8 1) (Nat.le_refl _) (k := K) (bs := src) (by simpa using hsrc2) (by simpa using hlen) ?_
  intro v3 w3 ho3 hg3
  rw [List.nil_append] at ho3
  have he23 : Ext none1 w2 w3 := hg3.ext.mono (fun k _ h => by simp [own1, Value.ownBlock] at h)
  have hgw : C.E.g_kbin_ErrNotEnoughData < w.heap.size := World.block_lt_of_cell? w _ herr
  have hsz3 := hg3.size
  obtain ⟨D, hD, hD2⟩ := (own_bytesK ho3).oneD C.E.g_kbin_ErrNotEnoughData
  have hDlt : D < w3.heap.size := by rcases hD2 with h | h <;> omega
  have hbD : b0 ≠ D := by rcases hD2 with h | h <;> omega
  have hb3 := he23.old hb2 (fun h => h)
  have hseg : segL zD 0 n = zD.toList := by rw [← hzDn]; simp only [segL, List.drop_zero]; exact List.take_of_length_le (by simp)
  have hrd := readFromK (w := w3) (b := b0) (a := 0) (D := D) (cc := zD) (e := T) (ev := ev) hm hntR hR hb3 (by omega) (by rw [hid, hseg]; exact hchk) hD hDlt hbD (he23.cell (he2.cell herr (fun h => h)) (fun h => h)) (by omega) (hv0 _)
  rw [hid] at hrd
  have he03 : Ext none1 w w3 := he2.trans he23
  obtain ⟨ms, hms⟩ := uErr
  obtain ⟨tv, vv, rfl⟩ := hev
  try simp
  refine (c_RF hntRF hRF hrd).mono ?_
  rintro v4 w4 ⟨he4, hnone, hsome⟩
  have he04 : Ext none1 w w4 := he03.trans' he4 (fun k hk hk2 => by have h3 : k = b0 := hk2; omega)
  have hrdK : ∀ nn, S.rdK (flagAt C.toCfg flex) ⟨src, false, nn⟩ = (S.rd (kvV src nn) (flagAt C.toCfg flex (kvV src nn)) (kvR src nn)).map fun y => ((kvV src nn, y.1), y.2) := fun nn => rfl
  cases hx : S.rd (kvV src (nonNil v3)) (flagAt C.toCfg flex (kvV src (nonNil v3))) (kvR src (nonNil v3)) with
  | none =>
    have := hnone hx
    subst this
    simp [bin_nnil_iface hms]
    refine cw_true (by simp) ?_
    simp
    exact ⟨he04, nonNil v3, by rw [hrdK, hx]; rfl⟩
  | some p =>
    obtain ⟨x, rs⟩ := p
    obtain ⟨hv4, cc4, hb4, hsz4, hver4, hrep4⟩ := hsome x rs hx
    have hK : S.rdK (flagAt C.toCfg flex) ⟨src, false, nonNil v3⟩ = some ((kvV src (nonNil v3), x), rs) := by rw [hrdK, hx]; rfl
    cases hbad : rs.bad with
    | true =>
      rw [hbad] at hv4
      simp at hv4
      subst hv4
      simp [bin_nnil_iface hms]
      refine cw_true (by simp) ?_
      simp
      exact ⟨he04, nonNil v3, by rw [hK]; simp [hbad]⟩
    | false =>
      rw [hbad] at hv4
      simp at hv4
      subst hv4
      obtain ⟨hok, hszx⟩ := hgood _ _ _ hK hbad
      simp [bin_nnil_nil hms]
      refine cw_false (by simp) ?_
      simp
      have hn1 := hm.n1
      have hc0 : (segL cc4 0 n)[0]? = some (.int .i16 (kvV src (nonNil v3))) := by rw [segL_get (by omega)]; exact hver4
      refine (hApp (base := w4.heap.size) (b := b0) (a := 0) (cs := segL cc4 0 n) (x := (kvV src (nonNil v3), x)) (ver := kvV src (nonNil v3)) (s := []) (cellsAt_seg hb4) hc0 ?_ hok ?_ (by simpa [OwnB, cellsOf] using Own.nil w4 w4.heap.size C.E.tU8 1) (Nat.le_refl _) (by rw [List.length_nil, Nat.zero_add]; exact hszx)).mono ?_
      · exact ⟨⟨_, seg_one hc0 rfl, rfl⟩, Sch.Rep_lt S hrep4⟩
      · exact lt_of_heap hb4
      · rintro v5 w5 ⟨ho5, hg5⟩
        rw [List.nil_append] at ho5
        refine ⟨?_, nonNil v3, ?_⟩
        · exact he04.trans (hg5.ext.mono (fun k _ h => by simp [own1, Value.ownBlock] at h))
        · rw [hK]
          simp [hbad]
          exact BytesAt.mono (own_bytesK ho5) (fun k _ h => by have := he04.size; omega)
end Go.Kg

set_option linter.unusedSimpArgs false
set_option linter.unusedVariables false
set_option linter.unusedSectionVars false
namespace Go.Kg
open Go
def irKept (E : Env) : Ir :=
  (.seq
    (.reg [
        ⟨none, some 3, .box E.t_spec_Message (.tmp 0), E.tNil⟩,
        ⟨none, some 5, .box E.t_spec_Tree (.tmp 2), E.tNil⟩,
        ⟨none, some 6, .assign (.const (.slice none 0 0)), E.tBs⟩])
  (.seq
    (.regH [
        (true, ⟨none, some 7, .move (.tmp 1), E.tInt⟩),
        (true, ⟨none, some 9, .load E.t_spec_Message (.tmp 3), E.t_spec_Message⟩),
        (true, ⟨none, some 10, .move (.tmp 1), E.tInt⟩),
        (true, ⟨none, some 11, .load E.t_spec_Tree (.tmp 5), E.t_spec_Tree⟩),
        (false, ⟨none, some 8, .call { callee := .value (.func E.f_spec_Fixed), args := #[.tmp 7, .const (.int .i64 2)], argTypes := #[E.tI64, E.tInt] }, E.tBs⟩),
        (false, ⟨none, some 12, .call { callee := .value (.func E.f_spec_Write), args := #[.tmp 9, .tmp 10, .tmp 11], argTypes := #[E.t_spec_Message, E.tInt, E.t_spec_Tree] }, E.tBs⟩),
        (false, ⟨none, some 13, .call { callee := .builtin .append, args := #[.tmp 8, .tmp 12], argTypes := #[E.tBs, E.tBs] }, E.tBs⟩),
        (true, ⟨none, some 6, .assign (.tmp 13), E.tBs⟩)])
  .ret))
section
variable {P : Program} {E : Env} (ht : TyK P E) (hs : SpecFns P E)
include ht hs
theorem c_Kept {g nt : Nat} (hnt : 3 ≤ nt) (hI : FnIs P g nt [.t 6] (irKept E)) {F : FS} {fx : Int} (hok : F.okAll) (hlen : F.len ≤ 1000) (w : World) (fv : Value) (cs : List Value) (t : Tr) (v : Int) (hF : FsAt w fv F) (hT : TreeAt w cs t)
    (hsz : (partS F v (flexAt fx v) t).length + 2 ≤ 1099511627776) :
    Ret P g #[.agg #[fv, .int .i64 fx], .int .i64 v, .agg cs.toArray] w fun u w' => Fresh E.tU8 w u w' (num 2 v ++ partS F v (flexAt fx v) t) := by
  have h5 := hT.five
  have hv : ∀ (a : Array Value), (Value.agg a).cells = a := fun a => rfl
  refine hI.call (args := [_, _, _]) hnt ?_
  simp [irKept, hv]
  generalize hw1 : (w.alloc (.cells #[fv, .int .i64 fx] E.t_spec_Message)).alloc (.cells cs.toArray E.t_spec_Tree) = w1
  have hE1 : Ext none1 w w1 := by subst hw1; exact ((Ext.refl none1 w).alloc _).alloc _
  have hb0 : w1.heap[w.heap.size]? = some (.cells #[fv, .int .i64 fx] E.t_spec_Message (0, 0)) := by subst hw1; exact alloc_old alloc_new
  have hb1 : w1.heap[w.heap.size + 1]? = some (.cells cs.toArray E.t_spec_Tree (0, 0)) := by
    subst hw1
    have := alloc_new (w := w.alloc (.cells #[fv, .int .i64 fx] E.t_spec_Message)) (o := .cells cs.toArray E.t_spec_Tree)
    simpa using this
  have lM : ∀ wx, Ext none1 w1 wx → cellsFrom wx ⟨w.heap.size, 0, none⟩ 0 2 = some [fv, .int .i64 fx] := by
    intro wx hx
    have := cellsFrom_row (hx.old hb0 (fun h => h))
    simpa using this
  have lT : ∀ wx, Ext none1 w1 wx → cellsFrom wx ⟨w.heap.size + 1, 0, none⟩ 0 5 = some cs := by
    intro wx hx
    have := cellsFrom_row (hx.old hb1 (fun h => h))
    simpa [h5.1] using this
  have hD := (Ext.refl none1 w1).drew
  refine cw_regH (Ext none1 w1) hD ?_
  have r1 := Ext.refl none1 w1
  simp +contextual [ld_agg ht.kM, ld_agg ht.kT, lM, lT, lM w1.drew hD, lT w1.drew hD]
  refine (sp_Fixed ht.toTyG hs v 2 (by omega) w1.drew).mono ?_
  intro v8 w8 h8
  have hD8 := hD.trans h8.2
  simp [hD8]
  refine (sp_Write ht.toTyM hs (fx := fx) (ver := v) hok hlen w8 fv cs t (FsAt.ext (hE1.trans hD8) hF) (hT.ext (hE1.trans hD8)) (by omega)).mono ?_
  intro v12 w12 h12
  have hD12 := hD8.trans h12.2
  simp [hD12]
  have h8' := h8.post h12.2
  refine st_app_bytes ht.sBs (by simp) h8'.1 (by have := h8'.2.size; omega) (k := All) (bs := partS F v (flexAt fx v) t) (by simpa using own_bytes h12.1) (by rw [fixE_len]; omega) ?_
  intro v13 w13 ho13 hg13
  have hfr := h8'.grow ho13 hg13
  have hD13 : Ext none1 w1 w13 := hD.trans hfr.2
  simp [hD13]
  rw [fixE_eq] at hfr
  exact Fresh.pre (hE1.trans hD) hfr
end
end Go.Kg

set_option linter.unusedSimpArgs false
set_option linter.unusedVariables false
set_option linter.unusedSectionVars false
namespace Go.Kg
open Go
def irFnAnyK (E : Env) (fMsg fKept fAg tup : Nat) : Ir :=
  (.seq
    (.reg [
        ⟨none, some 2, .assign (.const (.bool false)), E.tB⟩])
  (.seq
    (.seq
      (.reg [
          ⟨none, some 9, .move (.tmp 0), E.tBs⟩,
          ⟨none, some 10, .call { callee := .builtin .len, args := #[.tmp 9], argTypes := #[E.tBs] }, E.tInt⟩,
          ⟨none, some 11, .binOp .gtr E.tInt (.tmp 10) (.const (.int .i64 2147483647)) E.tInt, E.tB⟩])
    (.cond 11
      (.seq
        (.reg [
            ⟨none, some 2, .assign (.const (.bool true)), E.tB⟩])
      .ret)
      .skip))
  (.seq
    (.seq
      (.reg [
          ⟨none, some 12, .move (.tmp 0), E.tBs⟩,
          ⟨none, some 13, .call { callee := .builtin .len, args := #[.tmp 12], argTypes := #[E.tBs] }, E.tInt⟩,
          ⟨none, some 14, .binOp .gtr E.tInt (.tmp 13) (.const (.int .i64 1000)) E.tInt, E.tB⟩])
    (.cond 14
      (.seq
        (.reg [
            ⟨none, some 2, .assign (.const (.bool true)), E.tB⟩])
      .ret)
      .skip))
  (.seq
    (.reg [
        ⟨none, some 16, .call { callee := .value (.func fMsg), args := #[], argTypes := #[] }, E.t_spec_Message⟩,
        ⟨none, some 17, .build E.t_spec_Tree #[], E.t_spec_Tree⟩,
        ⟨none, some 18, .call { callee := .value (.func fKept), args := #[.tmp 16, .const (.int .i64 0), .tmp 17], argTypes := #[E.t_spec_Message, E.tInt, E.t_spec_Tree] }, E.tBs⟩,
        ⟨none, some 19, .call { callee := .value (.func fAg), args := #[.tmp 18], argTypes := #[E.tBs] }, tup⟩,
        ⟨none, some 15, .move (.tmp 19), tup⟩,
        ⟨none, some 20, .extract (.tmp 15) 0, E.tBs⟩,
        ⟨none, some 21, .extract (.tmp 15) 1, E.tB⟩,
        ⟨none, some 3, .assign (.tmp 20), E.tBs⟩,
        ⟨none, some 4, .assign (.tmp 21), E.tB⟩])
  (.seq
    (.reg [
        ⟨none, some 23, .move (.tmp 0), E.tBs⟩,
        ⟨none, some 24, .call { callee := .value (.func fAg), args := #[.tmp 23], argTypes := #[E.tBs] }, tup⟩,
        ⟨none, some 22, .move (.tmp 24), tup⟩,
        ⟨none, some 25, .extract (.tmp 22) 0, E.tBs⟩,
        ⟨none, some 26, .extract (.tmp 22) 1, E.tB⟩,
        ⟨none, some 5, .assign (.tmp 25), E.tBs⟩,
        ⟨none, some 6, .assign (.tmp 26), E.tB⟩])
  (.seq
    (.seq
      (.reg [
          ⟨none, some 27, .move (.tmp 4), E.tB⟩,
          ⟨none, some 28, .unOp .not E.tB (.tmp 27), E.tB⟩,
          ⟨none, some 29, .move (.tmp 28), E.tB⟩,
          ⟨(some (29, false)), some 30, .move (.tmp 6), E.tB⟩,
          ⟨(some (29, false)), some 31, .unOp .not E.tB (.tmp 30), E.tB⟩,
          ⟨none, some 32, .pick (.tmp 29) (.const (.bool true)) (.tmp 31), E.tB⟩])
    (.cond 32
      (.seq
        (.reg [
            ⟨none, some 33, .move (.tmp 4), E.tB⟩,
            ⟨none, some 2, .assign (.tmp 33), E.tB⟩])
      .ret)
      .skip))
  (.seq
    (.reg [
        ⟨none, some 35, .move (.tmp 5), E.tBs⟩,
        ⟨none, some 36, .call { callee := .value (.func fAg), args := #[.tmp 35], argTypes := #[E.tBs] }, tup⟩,
        ⟨none, some 34, .move (.tmp 36), tup⟩,
        ⟨none, some 37, .extract (.tmp 34) 0, E.tBs⟩,
        ⟨none, some 38, .extract (.tmp 34) 1, E.tB⟩,
        ⟨none, some 7, .assign (.tmp 37), E.tBs⟩,
        ⟨none, some 8, .assign (.tmp 38), E.tB⟩])
  (.seq
    (.reg [
        ⟨none, some 39, .move (.tmp 8), E.tB⟩,
        ⟨none, some 40, .move (.tmp 39), E.tB⟩,
        ⟨(some (40, true)), some 41, .move (.tmp 5), E.tBs⟩,
        ⟨(some (40, true)), some 42, .move (.tmp 7), E.tBs⟩,
        ⟨(some (40, true)), some 43, .call { callee := .value (.func E.f_spec_Same), args := #[.tmp 41, .tmp 42], argTypes := #[E.tBs, E.tBs] }, E.tB⟩,
        ⟨none, some 44, .pick (.tmp 40) (.tmp 43) (.const (.bool false)), E.tB⟩,
        ⟨none, some 2, .assign (.tmp 44), E.tB⟩])
  .ret))))))))
def irFnCutK (E : Env) (fMsg fKept fAg tup : Nat) (md : Nat) : Ir :=
  (.seq
    (.reg [
        ⟨none, some 4, .box E.t_spec_Tree (.tmp 1), E.tNil⟩,
        ⟨none, some 6, .assign (.const (.bool false)), E.tB⟩])
  (.seq
    (.seq
      (.reg [
          ⟨none, some 12, .load E.t_spec_Tree (.tmp 4), E.t_spec_Tree⟩,
          ⟨none, some 13, .call { callee := .value (.func E.f_laws_zzFits2), args := #[.tmp 12], argTypes := #[E.t_spec_Tree] }, E.tB⟩,
          ⟨none, some 14, .unOp .not E.tB (.tmp 13), E.tB⟩])
    (.cond 14
      (.seq
        (.reg [
            ⟨none, some 6, .assign (.const (.bool true)), E.tB⟩])
      .ret)
      .skip))
  (.seq
    (.regH [
        (true, ⟨none, some 16, .move (.tmp 0), E.tU8⟩),
        (true, ⟨none, some 17, .convert E.tU8 E.tInt (.tmp 16), E.tInt⟩),
        (true, ⟨none, some 18, .binOp .rem E.tInt (.tmp 17) (.const (.int .i64 md)) E.tInt, E.tInt⟩),
        (true, ⟨none, some 19, .load E.t_spec_Tree (.tmp 4), E.t_spec_Tree⟩),
        (false, ⟨none, some 15, .call { callee := .value (.func fMsg), args := #[], argTypes := #[] }, E.t_spec_Message⟩),
        (false, ⟨none, some 20, .call { callee := .value (.func fKept), args := #[.tmp 15, .tmp 18, .tmp 19], argTypes := #[E.t_spec_Message, E.tInt, E.t_spec_Tree] }, E.tBs⟩),
        (true, ⟨none, some 7, .assign (.tmp 20), E.tBs⟩)])
  (.seq
    (.reg [
        ⟨none, some 22, .move (.tmp 7), E.tBs⟩,
        ⟨none, some 23, .call { callee := .value (.func fAg), args := #[.tmp 22], argTypes := #[E.tBs] }, tup⟩,
        ⟨none, some 21, .move (.tmp 23), tup⟩,
        ⟨none, some 24, .extract (.tmp 21) 0, E.tBs⟩,
        ⟨none, some 25, .extract (.tmp 21) 1, E.tB⟩,
        ⟨none, some 8, .assign (.tmp 24), E.tBs⟩,
        ⟨none, some 9, .assign (.tmp 25), E.tB⟩])
  (.seq
    (.reg [
        ⟨none, some 27, .move (.tmp 7), E.tBs⟩,
        ⟨none, some 28, .move (.tmp 2), E.tU16⟩,
        ⟨none, some 29, .convert E.tU16 E.tInt (.tmp 28), E.tInt⟩,
        ⟨none, some 30, .move (.tmp 7), E.tBs⟩,
        ⟨none, some 31, .call { callee := .builtin .len, args := #[.tmp 30], argTypes := #[E.tBs] }, E.tInt⟩,
        ⟨none, some 32, .binOp .rem E.tInt (.tmp 29) (.tmp 31) E.tInt, E.tInt⟩,
        ⟨none, some 33, .slice E.tBs (.tmp 27) none (some (.tmp 32)) none, E.tBs⟩,
        ⟨none, some 34, .call { callee := .value (.func fAg), args := #[.tmp 33], argTypes := #[E.tBs] }, tup⟩,
        ⟨none, some 26, .move (.tmp 34), tup⟩,
        ⟨none, some 35, .extract (.tmp 26) 0, E.tBs⟩,
        ⟨none, some 36, .extract (.tmp 26) 1, E.tB⟩,
        ⟨none, some 10, .assign (.tmp 35), E.tBs⟩,
        ⟨none, some 11, .assign (.tmp 36), E.tB⟩])
  (.seq
    (.reg [
        ⟨none, some 37, .move (.tmp 9), E.tB⟩,
        ⟨none, some 38, .move (.tmp 37), E.tB⟩,
        ⟨(some (38, true)), some 39, .move (.tmp 11), E.tB⟩,
        ⟨(some (38, true)), some 40, .unOp .not E.tB (.tmp 39), E.tB⟩,
        ⟨none, some 41, .pick (.tmp 38) (.tmp 40) (.const (.bool false)), E.tB⟩,
        ⟨none, some 6, .assign (.tmp 41), E.tB⟩])
  .ret))))))
/-- what the laws ask of impl's and spec's functions; fxb: the message has flexible versions -/
structure AgLK (P : Program) (E : Env) (fMsg fKept fAg M : Nat) (S : Sch) (fl : Int → Bool) (fxb : Bool) (ev : Value) (F : FS) (fx : Int) : Prop where
  again : ∀ {w : World} {K : Nat → Prop} {sv : Value} {src : List UInt8}, BytesAt w K sv src → src.length ≤ 1099511627776 → w.cell? ⟨E.g_kbin_ErrNotEnoughData, 0, none⟩ = some ev → (∀ nn, fxb = true → 0 ≤ (rdV ⟨src, false, nn⟩).1) →
    (∀ nn x rs, S.rdK fl ⟨src, false, nn⟩ = some (x, rs) → rs.bad = false → S.TagsOk tagsOk x.2 ∧ (S.wrK fl x).length ≤ 1099511627776) →
    Ret P fAg #[sv] w fun u w' => AgainPostK S fl src w u w'
  kept : ∀ (w : World) (fv : Value) (cs : List Value) (t : Tr) (v : Int), FsAt w fv F → TreeAt w cs t → (partS F v (flexAt fx v) t).length + 2 ≤ 1099511627776 →
    Ret P fKept #[.agg #[fv, .int .i64 fx], .int .i64 v, .agg cs.toArray] w fun u w' => Fresh E.tU8 w u w' (num 2 v ++ partS F v (flexAt fx v) t)
  msg : MsgC P fMsg F fx
  flex : ∀ v : Nat, v ≤ M → flexAt fx v = fl v
  fit : fitS M (fun v => fl v) F S = true
  hM : M < 32768
  pos : ∀ v : Nat, v ≤ M → S.posE v (fl v) = true
theorem part_le2 {M : Nat} {flx : Nat → Bool} {v : Nat} (hv : v ≤ M) {S : Sch} {F : FS} (hb : fitS M flx F S = true) {t : Tr} (ht : t.Ok) (hw : S.wt ≤ 1048575) (hs : t.sz ≤ 1048576) : (partS F v (flx v) t).length + 2 ≤ 1099511627776 := by
  have := part_wt hv S F 0 t hb ht
  rw [← partS_plain (fitS_noTag hb)] at this
  have h2 : S.wt * t.sz ≤ 1048575 * 1048576 := Nat.mul_le_mul hw hs
  omega
section
variable {P : Program} {E : Env} (ht : TyK P E) (hs : SpecFns P E)
include ht hs
/-- what the reference writes of a tree is read -/
theorem kept_ok {fMsg fKept fAg M : Nat} {S : Sch} {fl : Int → Bool} {fxb : Bool} {ev : Value} {F : FS} {fx : Int} (hL : AgLK P E fMsg fKept fAg M S fl fxb ev F fx) {v : Nat} (hv : v ≤ M) {t : Tr} (hT : t.Ok) :
    ∃ x : S.T, num 2 v ++ partS F v (flexAt fx v) t = S.wrK fl ((v : Int), x) ∧ S.wf v (fl v) x := by
  obtain ⟨x, hx, hwf⟩ := conv_all (flx := fun v => fl v) hv hL.fit hT
  exact ⟨x, by simp only [Sch.wrK, hx, hL.flex v hv], hwf⟩
set_option maxHeartbeats 2000000 in
theorem c_FnAnyK {fMsg fKept fAg M g nt tup : Nat} {S : Sch} {fl : Int → Bool} {ev : Value} {F : FS} {fx : Int} (hL : AgLK P E fMsg fKept fAg M S fl false ev F fx) (hpos : ∀ v : Int, S.posE v (fl v) = true) (hnt : 1 ≤ nt) (hI : FnIs P g nt [.t 2] (irFnAnyK E fMsg fKept fAg tup)) {w : World} {K : Nat → Prop} {sv : Value} {src : List UInt8}
    (hsrc : BytesAt w K sv src) (herr : w.cell? ⟨E.g_kbin_ErrNotEnoughData, 0, none⟩ = some ev) (hsz : (partS F 0 (flexAt fx 0) Tr.none).length + 2 ≤ 1099511627776) :
    Ret P g #[sv] w fun u w' => u = .bool true ∧ Ext none1 w w' := by
  obtain ⟨x0, hx0, hwf0⟩ := kept_ok ht hs hL (v := 0) (Nat.zero_le _) Tr.Ok.none
  obtain ⟨a, c, rfl, _⟩ := hsrc.len
  refine hI.call (args := [_]) hnt ?_
  simp [irFnAnyK, len_slice ht.uBs]
  by_cases h1 : 2147483647 < src.length
  · refine cw_true (by simp; omega) ?_
    simp
    exact Ext.refl _ _
  refine cw_false (by simp; omega) ?_
  simp [len_slice ht.uBs]
  by_cases h2 : 1000 < src.length
  · refine cw_true (by simp; omega) ?_
    simp
    exact Ext.refl _ _
  refine cw_false (by simp; omega) ?_
  simp
  refine (hL.msg w).mono ?_
  rintro _ w1 ⟨fv, rfl, hF, he1⟩
  obtain ⟨fs, hfs⟩ : ∃ fs, P.underlying E.t_spec_Tree = some (.struct fs) := ht.sTr
  have hbld : bldA? P E.t_spec_Tree = some (.agg #[.int .i64 0, .slice none 0 0, .bool false, .slice none 0 0, .slice none 0 0]) := by
    simp [bldA?, hfs, ht.zT, ht.pT, Value.cells]
  simp [hbld]
  refine (hL.kept w1 fv _ Tr.none 0 hF (TreeAt.none w1) hsz).mono ?_
  rintro v2 w2 ⟨ho2, he2⟩
  have e0 : num 2 (0 : Int) ++ partS F 0 (flexAt fx 0) Tr.none = S.wrK fl ((0 : Int), x0) := hx0
  rw [e0] at ho2
  have hb2 := own_bytes ho2
  have hE2 := he1.trans he2
  have hl0 : (S.wrK fl ((0 : Int), x0)).length ≤ 1099511627776 := by rw [← e0]; simp [num] at hsz ⊢; omega
  have hgood0 : ∀ nn y rs, S.rdK fl ⟨S.wrK fl ((0 : Int), x0), false, nn⟩ = some (y, rs) → rs.bad = false ∧ S.TagsOk tagsOk y.2 ∧ (S.wrK fl y).length ≤ 1099511627776 := by
    intro nn y rs h
    obtain ⟨z, nn', e1, e2, e3⟩ := rd_kept fl S 0 (by omega) x0 (hpos 0) hwf0 [] nn
    rw [List.append_nil] at e1
    rw [e1] at h
    cases h
    exact ⟨rfl, e3, by simp only [Sch.wrK, e2]; exact hl0⟩
  try simp
  refine (hL.again hb2 hl0 (hE2.cell herr (fun h => h)) (fun _ h => by cases h) (fun nn y rs h1 _ => (hgood0 nn y rs h1).2)).mono ?_
  rintro u3 w3 ⟨he3, nn3, hu3⟩
  obtain ⟨z3, n3, e31, _, _⟩ := rd_kept fl S 0 (by omega) x0 (hpos 0) hwf0 [] nn3
  rw [List.append_nil] at e31
  rw [e31] at hu3
  simp only [Bool.false_eq_true, if_false] at hu3
  obtain ⟨v3, rfl, hv3⟩ := hu3
  have hE3 := hE2.trans he3
  simp
  have hsrc3 := hsrc.ext hE3 (fun _ _ _ h => h)
  refine (hL.again hsrc3 (by omega) (hE3.cell herr (fun h => h)) (fun _ h => by cases h) ?_).mono ?_
  · intro nn y rs hy hb
    obtain ⟨a1, a2, _⟩ := any_kept fl S hpos hy hb (by simp; omega) nn
    exact ⟨a2, by simp at a1; omega⟩
  rintro u4 w4 ⟨he4, nn4, hu4⟩
  have hE4 := hE3.trans he4
  have bad : u4 = .tuple #[.slice none 0 0, .bool false] → True := fun _ => trivial
  cases hx : S.rdK fl ⟨src, false, nn4⟩ with
  | none =>
    rw [hx] at hu4
    subst hu4
    simp
    refine cw_true (by simp) ?_
    simp
    exact hE4
  | some p =>
    obtain ⟨y, rs⟩ := p
    rw [hx] at hu4
    simp only at hu4
    cases hb : rs.bad with
    | true =>
      rw [hb] at hu4
      simp only [if_true] at hu4
      subst hu4
      simp
      refine cw_true (by simp) ?_
      simp
      exact hE4
    | false =>
      rw [hb] at hu4
      simp only [Bool.false_eq_true, if_false] at hu4
      obtain ⟨v4, rfl, hv4⟩ := hu4
      simp
      refine cw_false (by simp) ?_
      simp
      obtain ⟨hlen4, _⟩ := any_kept fl S hpos hx hb (by simp; omega) true
      simp only at hlen4
      refine (hL.again hv4 (by omega) (hE4.cell herr (fun h => h)) (fun _ h => by cases h) ?_).mono ?_
      · intro nn z rs2 hz hb2
        obtain ⟨a1, a2, _⟩ := any_kept fl S hpos hz hb2 (by simp; omega) nn
        exact ⟨a2, by simp at a1; omega⟩
      rintro u5 w5 ⟨he5, nn5, hu5⟩
      obtain ⟨_, _, z, nn6, hz, hzx⟩ := any_kept fl S hpos hx hb (by simp; omega) nn5
      rw [hz] at hu5
      simp only [Bool.false_eq_true, if_false] at hu5
      obtain ⟨v5, rfl, hv5⟩ := hu5
      simp
      have hv4' := hv4.ext he5 (fun _ _ _ h => h)
      refine (sp_Same ht.toTyG hs w5 _ _ v4 v5 _ _ hv4' hv5 (by omega)).mono ?_
      rintro _ w6 ⟨rfl, he6⟩
      simp [hzx]
      exact hE4.trans (he5.trans he6)
set_option maxHeartbeats 2000000 in
theorem c_FnCutK (hFz : ∀ (w : World) (cs : List Value) (t : Tr), TreeAt w cs t → Ret P E.f_laws_zzFits2 #[.agg cs.toArray] w (SomeB w)) (iU16 : intKind? P E.tU16 = some .u16)
    {fMsg fKept fAg M g nt tup : Nat} {S : Sch} {fl : Int → Bool} {fxb : Bool} {ev : Value} {F : FS} {fx : Int} (hL : AgLK P E fMsg fKept fAg M S fl fxb ev F fx) (hMp : 0 < M + 1) (hnt : 3 ≤ nt) (hI : FnIs P g nt [.t 6] (irFnCutK E fMsg fKept fAg tup (M + 1))) (n : Nat) (hn : n < 256) (at_ : Nat) (hat : at_ < 65536) {w : World} {cs : List Value} {t : Tr}
    (hfxb : fxb = false) (hT : TreeAt w cs t) (hsz : ∀ v : Nat, v ≤ M → (partS F v (flexAt fx v) t).length + 2 ≤ 1099511627776) (herr : w.cell? ⟨E.g_kbin_ErrNotEnoughData, 0, none⟩ = some ev) :
    Ret P g #[.int .u8 n, .agg cs.toArray, .int .u16 at_] w fun u w' => u = .bool true ∧ Ext none1 w w' := by
  subst hfxb
  obtain ⟨v, hvdef⟩ : ∃ v, v = n % (M + 1) := ⟨_, rfl⟩
  have hvM : v ≤ M := by have := Nat.mod_lt n hMp; omega
  have hM := hL.hM
  obtain ⟨x, hx, hwf⟩ := kept_ok ht hs hL hvM hT.ok
  have hlen : (S.wrK fl ((v : Int), x)).length ≤ 1099511627776 := by rw [← hx]; have := hsz v hvM; simp [num]; omega
  have hvr : -32768 ≤ (v : Int) ∧ (v : Int) < 32768 := by omega
  have hpos := hL.pos v hvM
  have hgood : ∀ nn y rs, S.rdK fl ⟨S.wrK fl ((v : Int), x), false, nn⟩ = some (y, rs) → rs.bad = false ∧ S.TagsOk tagsOk y.2 ∧ (S.wrK fl y).length ≤ 1099511627776 := by
    intro nn y rs h
    obtain ⟨z, nn', e1, e2, e3⟩ := rd_kept fl S v hvr x hpos hwf [] nn
    rw [List.append_nil] at e1
    rw [e1] at h
    cases h
    exact ⟨rfl, e3, by simp only [Sch.wrK, e2]; exact hlen⟩
  have h5 := hT.five
  refine hI.call (args := [_, _, _]) hnt ?_
  have hv : ∀ (a : Array Value), (Value.agg a).cells = a := fun a => rfl
  simp [irFnCutK, hv]
  generalize hw1 : w.alloc (.cells cs.toArray E.t_spec_Tree) = w1
  have hE1 : Ext none1 w w1 := by subst hw1; exact (Ext.refl none1 w).alloc _
  have hb1 : w1.heap[w.heap.size]? = some (.cells cs.toArray E.t_spec_Tree (0, 0)) := by subst hw1; exact alloc_new
  have hcT : ∀ wx, Ext none1 w1 wx → cellsFrom wx ⟨w.heap.size, 0, none⟩ 0 5 = some cs := by
    intro wx hx
    have := cellsFrom_row (hx.old hb1 (fun h => h))
    simpa [h5.1] using this
  simp [ld_agg ht.kT, hcT w1 (Ext.refl _ _)]
  refine (hFz w1 cs t (hT.ext hE1)).mono ?_
  rintro _ w3 ⟨⟨b, rfl⟩, hE13⟩
  simp
  cases b
  · refine cw_true (by simp) ?_
    simp
    exact hE1.trans hE13
  refine cw_false (by simp) ?_
  simp
  have hE3 := hE1.trans hE13
  have hD := (Ext.refl none1 w3).drew
  refine cw_regH (Ext none1 w3) hD ?_
  have r3 := Ext.refl none1 w3
  have lT : ∀ wx, Ext none1 w3 wx → cellsFrom wx ⟨w.heap.size, 0, none⟩ 0 5 = some cs := fun wx hx => hcT wx (hE13.trans hx)
  have e8 : IntKind.i64.wrap (n : Int) = n := i64_small (by omega) (by omega)
  have ek8 : ((n : Int).tmod ((M : Int) + 1)) = (v : Int) := by rw [Int.tmod_eq_emod_of_nonneg (by omega), hvdef]; rfl
  have hne8 : ¬ ((M : Int) + 1 = 0) := by omega
  simp +contextual [ld_agg ht.kT, lT, lT w3.drew hD, ht.iU8, ht.iInt, e8, bin?, hne8, ek8]
  refine (hL.msg w3.drew).mono ?_
  rintro _ w4 ⟨fv, rfl, hF, he4⟩
  have hD4 := hD.trans he4
  simp [hD4]
  refine (hL.kept w4 fv cs t v hF (hT.ext (hE3.trans hD4)) (hsz v hvM)).mono ?_
  rintro v8 w8 h8
  rw [hx] at h8
  have hD8 := hD4.trans h8.2
  simp [hD8]
  have hb8 := own_bytes h8.1
  have hE8 := hE3.trans hD8
  refine (hL.again hb8 hlen (hE8.cell herr (fun h => h)) (fun _ h => by cases h) (fun nn y rs h1 _ => (hgood nn y rs h1).2)).mono ?_
  rintro u w10 ⟨he10, nn, hu⟩
  obtain ⟨z3, n3, e31, _, _⟩ := rd_kept fl S v hvr x hpos hwf [] nn
  rw [List.append_nil] at e31
  rw [e31] at hu
  simp only [Bool.false_eq_true, if_false] at hu
  obtain ⟨v2, rfl, hv2⟩ := hu
  have hE10 := hE8.trans he10
  have hb10 := hb8.ext he10 (fun _ _ _ h => h)
  obtain ⟨a8, c8, rfl, hc8⟩ := hb10.len
  have hss2 : 2 ≤ (S.wrK fl ((v : Int), x)).length := by simp [Sch.wrK, num]
  generalize hSS : S.wrK fl ((v : Int), x) = ss at *
  have hss : ss ≠ [] := by rintro rfl; simp at hss2
  have e16 : IntKind.i64.wrap (at_ : Int) = at_ := i64_small (by omega) (by omega)
  have hk : at_ % ss.length < ss.length := Nat.mod_lt _ (by omega)
  have ek : ((at_ : Int).tmod (ss.length : Int)) = ((at_ % ss.length : Nat) : Int) := by rw [Int.tmod_eq_emod_of_nonneg (by omega)]; rfl
  have hne0 : ¬ ((ss.length : Int) = 0) := by omega
  have hsl := slice_hi (P := P) (T := E.tBs) ht.sBs.siz (a := a8) (n := ss.length) (c := c8) (k := .i64) (l := at_ % ss.length) (by omega)
  generalize hkk : at_ % ss.length = kk at *
  simp [iU16, ht.iInt, e16, bin?, hne0, ek, hsl, hss, len_slice ht.uBs]
  have hbk := hb10.upTo (l := kk) (by omega)
  have hcut : ∀ nn y rs, S.rdK fl ⟨ss.take kk, false, nn⟩ = some (y, rs) → rs.bad = true := by
    intro nn y rs h
    rw [← hSS] at h hk
    exact cut_kept fl S v hvr x hpos hwf kk hk nn h
  refine (hL.again hbk (by simp; omega) (hE10.cell herr (fun h => h)) (fun _ h => by cases h) (fun nn y rs h1 h2 => by rw [hcut nn y rs h1] at h2; cases h2)).mono ?_
  rintro u w12 ⟨he12, nn2, hu⟩
  have hu2 : u = .tuple #[.slice none 0 0, .bool false] := by
    cases hr : S.rdK fl ⟨ss.take kk, false, nn2⟩ with
    | none => rw [hr] at hu; exact hu
    | some p =>
      obtain ⟨y2, rs2⟩ := p
      rw [hr] at hu
      simp only [hcut _ _ _ hr, if_true] at hu
      exact hu
  subst hu2
  simp
  exact hE10.trans he12
end
end Go.Kg

set_option linter.unusedSimpArgs false
set_option linter.unusedVariables false
set_option linter.unusedSectionVars false
namespace Go.Kg
open Go
structure TyWd (P : Program) (E : Env) (tLS tLN tN : Nat) (zs zn : Value) : Prop where
  sS : SliI P tLS E.tS 1 16 zs
  sN : SliI P tLN tN 2 24 zn
  kN : kindOf P tN = .agg 2
  n1 : fldOff P tN 1 = some 1
  kS : kindOf P E.tS = .scl
  zN : ∃ a b, zeroOf P tN = some (.agg #[a, b])
  pl : places P tN = some [(0, 1), (1, 1)]
  iInt : intKind? P E.tInt = some .i64
/-- a row of texts -/
def WordsAt (w : World) (v : Value) (ws : List ByteArray) : Prop := ∃ b c, v = .slice (some ⟨b, 0, none⟩) ws.length c ∧ ∀ (i : Nat) s, ws[i]? = some s → w.cell? ⟨b, i, none⟩ = some (.string s)
theorem WordsAt.ext {w w' : World} {v : Value} {ws : List ByteArray} (h : WordsAt w v ws) (he : Ext none1 w w') : WordsAt w' v ws := by
  obtain ⟨b, c, rfl, h⟩ := h
  exact ⟨b, c, rfl, fun i s hi => he.cell (h i s hi) (fun h => h)⟩
section
variable {P : Program} {E : Env} {tLS tLN tN : Nat} {zs zn : Value} (ht : TyWd P E tLS tLN tN zs zn)
include ht
/-- a row of names -/
def NamesAt (w : World) (v : Value) (ws : List ByteArray) : Prop := ∃ b c, v = .slice (some ⟨b, 0, none⟩) ws.length c ∧ ∀ (i : Nat) s, ws[i]? = some s → ∃ n, CellsAt w b (i * 2) [.int .i64 n, .string s]
theorem NamesAt.ext {w w' : World} {v : Value} {ws : List ByteArray} (h : NamesAt w v ws) (he : Ext none1 w w') : NamesAt w' v ws := by
  obtain ⟨b, c, rfl, h⟩ := h
  refine ⟨b, c, rfl, fun i s hi => ?_⟩
  obtain ⟨n, hc⟩ := h i s hi
  exact ⟨n, CellsAt.ext (K := fun _ => True) he (fun _ _ _ h => h) hc trivial⟩
end
end Go.Kg


