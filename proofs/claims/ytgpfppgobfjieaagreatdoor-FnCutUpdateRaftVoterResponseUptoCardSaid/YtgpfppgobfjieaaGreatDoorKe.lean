/- What is proved here: how the code of the messages runs, in general: a semantics of calls by their texts, and contracts of the functions of kbin and of the reference. No condition but those that each theorem names. -/
import Derived.ProofKit
import Derived.WideKeyArgs
import Derived.ChangeSlices
import Derived.OpenShut
import Derived.RowKit
import Derived.Test.YtgpfppgobfjieaaGreatDoorKd
set_option linter.unusedSectionVars false
set_option linter.unusedSimpArgs false
set_option linter.unusedVariables false
set_option linter.unusedSimpArgs false
set_option linter.unusedVariables false
set_option linter.unusedSectionVars false
namespace Go.Kg
open Go
section
variable {P : Program} {C : Cfg}
theorem caseW_mono (T PT pv : Nat) (kf : KF) (c : Ct) (lab : Nat) : c.l ≤ (caseW C T PT pv kf c lab).2.1.l ∧ c.t ≤ (caseW C T PT pv kf c lab).2.1.t := by
  obtain ⟨num, k, o, cc⟩ := kf
  cases cc with
  | prim p d => simp only [caseW]; omega
  | arr sT T' PT' sz df e =>
    have := genW_mono (C := C) e T' PT' (c.l + 4) ⟨c.l + 5, c.t + 8 + lenN C none + 8, c.k + 2⟩
    simp only [caseW]
    simp only at this
    omega
  | str T' PT' sz df sm mk e =>
    have := genWL_mono (C := C) e T' c.l ⟨c.l + 3, c.t + 8, c.k⟩
    simp only [caseW]
    simp only at this
    omega
theorem casesW_mono (T PT pv key : Nat) : ∀ (ks : List KF) (c : Ct) (lab : Nat), c.l ≤ (casesW C T PT pv key ks c lab).2.l ∧ c.t ≤ (casesW C T PT pv key ks c lab).2.t
  | [], c, lab => ⟨Nat.le_refl _, Nat.le_refl _⟩
  | f :: r, c, lab => by
    have h1 := caseW_mono (C := C) T PT pv f ⟨c.l, c.t + 2, c.k⟩ lab
    simp only [casesW]
    generalize caseW C T PT pv f ⟨c.l, c.t + 2, c.k⟩ lab = z at h1 ⊢
    obtain ⟨b, c1, lab1⟩ := z
    have h2 := casesW_mono T PT pv key r c1 lab1
    simp only at h1 ⊢
    omega
theorem Wrote.down {f g : Nat → Value} {w w' : World} {base n m t t' : Nat} {s out : List UInt8} (h : Wrote C f w base s out n m t g w') (ht : t' ≤ t) : Wrote C f w base s out n m t' g w' :=
  ⟨h.dst, h.grew, fun x hx1 hx => h.keep x hx1 (by omega)⟩
/-- v := v.F, and of 16 octets: they lie in a new block -/
theorem w_load2 (ht : TyC P C) {Q : Post} {f : Nat → Value} {w : World} {T PT pv k o ty l t : Nat} {p : Prim} (hq : p = .uuid → isAgg16 (kindOf P C.E.tUu) = true) {b a : Nat} {cs : List Value} {u : Value} (hpv : f pv = .pointer (some ⟨b, a, none⟩)) (hF : fldOff P T k = some o) (hk : p.kOk P ty = true)
    (hc : CellsAt w b a cs) (hs : seg cs o u.cells.toList) (hu : if p = .uuid then ∃ c : Array Value, u = .agg c ∧ c.size = 16 ∧ allOne c.toList = true else u.oneCell' = true) (hl : l < t) (hl1 : 1 < l)
    (h : ∀ f' w', LocVal w' f' p l u → (p = .uuid → ∃ bb, f' l = .pointer (some ⟨bb, 0, none⟩) ∧ w.heap.size ≤ bb) → Ext none1 w w' → (∀ x, x < t → x ≠ l → f' x = f x) → Q .normal f' w') : (loadI C T PT pv k ty l t p).wp P Q f w := by
  by_cases hp : p = .uuid
  · subst hp
    simp only [if_true] at hu
    obtain ⟨c, rfl, hc16, hone⟩ := hu
    have hk' : kindOf P ty = .agg 16 := by
      simp only [Prim.kOk, if_true] at hk
      revert hk; cases kindOf P ty <;> simp [isAgg16]
      intro h'; split at h' <;> simp_all
    have hl' := cellsFrom_seg hc (u := c) hs
    rw [hc16] at hl'
    have e1 : l ≠ t := by omega
    have e2 : ∀ n, l ≠ t + n := by omega
    have e3 : ∀ n, (t + n = l) = False := by intro n; simp; omega
    have keep : ∀ a b c d e, ∀ x, x < t → x ≠ l → upd (upd (upd (upd (upd f t a) (t + 1) b) (t + 2) c) (t + 3) d) l e x = f x := by
      intro a b c d e x hx hx2
      have x3 : ∀ n, (x = t + n) = False := by intro n; simp; omega
      have x4 : (x = t) = False := by simp; omega
      simp [x3, x4, hx2]
    refine wp_reg ?_
    have hz : zeroOf P C.E.tUu = some (.agg z16) := (ht.uu (hq rfl)).zUu
    simp [loadI, addrR, putL, hpv, hF, Addr.add_mk, ld_agg hk', hl', hz, Value.cells, e3, store_agg (ht.uu (hq rfl)).kUu, hc16, hone, putK_blk alloc_new, z16_size]
    refine h _ _ ?_ ?_ ?_ (keep _ _ _ _ _)
    · simp only [LocVal, if_true]
      refine ⟨w.heap.size, c, C.E.tUu, (0, 0), by simp, ?_, rfl, hc16⟩
      have hov : over z16 0 c.toList = c := by
        have hd : z16.toList.drop (0 + c.toList.length) = [] := List.drop_eq_nil_of_le (by simp [z16_size, hc16])
        simp only [over, hd]; simp
      rw [hov]
      exact setBlk_same alloc_new
    · intro _; exact ⟨w.heap.size, by simp, Nat.le_refl _⟩
    · exact ((Ext.refl none1 w).alloc _).setBlk (.inl (Nat.le_refl _)) _
  · exact w_load ht hq hpv hF hk hc hs hu hl hl1 (fun f' w' h1 h2 h3 => h f' w' h1 (fun e => absurd e hp) h2 h3)
theorem LocVal.grew {p : Prim} {l : Nat} {u : Value} {f f' : Nat → Value} {w w' : World} {v v' : Value} (h : LocVal w f p l u) (hx : p = .uuid → ∃ bb, f l = .pointer (some ⟨bb, 0, none⟩) ∧ ¬ own1 v bb) (hg : Grew w v w' v') (hl : f' l = f l) : LocVal w' f' p l u := by
  unfold LocVal at h ⊢
  by_cases hp : p = .uuid
  · rw [if_pos hp] at h ⊢
    obtain ⟨b, cs, e, fz, hf, hb, hu, h16⟩ := h
    obtain ⟨bb, hbb, hn⟩ := hx hp
    rw [hf] at hbb
    cases hbb
    exact ⟨b, cs, e, fz, hl.trans hf, hg.ext.old hb hn, hu, h16⟩
  · rw [if_neg hp] at h ⊢
    rw [hl]; exact h
variable {ok : TagL → Prop}
theorem w_caseW (ht : TyC P C) (hfx : C.fx = true) (hB : sliSz P C.E.tBs = some 1) (uB : P.underlying C.E.tBs = some (.slice C.E.tU8)) (hU : ∀ n : Nat, n < 4294967296 → WrC P C.E.tU8 C.E.f_kbin_AppendUvarint [.int .u32 n] (uvOut n))
    {T PT pv n mm tm : Nat} {kf : KF} (hty : kf.tyW P C T = true) (hN : kf.c.NeedW P C ok) {c : Ct} {lab : Nat} {Q : Post} {f : Nat → Value} {w : World} {b a base : Nat} {cs : List Value} {x : kf.c.T} {ver : Int} {s : List UInt8}
    (hf : FrW C f pv b a ver true n) (hn : n ≤ c.l) (hm : (caseW C T PT pv kf c lab).2.1.l ≤ mm) (hmt : mm ≤ tm) (htm : tm ≤ c.t) (hb : b < base) (hcs : CellsAt w b a cs) (hr : kf.c.Rep w (· < base) cs kf.o x) (hok : kf.c.TagsOk ok x) (hd : Dst C f w base s)
    (hsz : s.length + (kTag kf.num (kf.c.wr ver x)).length ≤ 1099511627776) (h : ∀ f' w', Wrote C f w base s (kTag kf.num (kf.c.wr ver x)) n mm tm f' w' → Q .normal f' w') : (caseW C T PT pv kf c lab).1.wp P Q f w := by
  obtain ⟨num, k, o, cc⟩ := kf
  simp only [KF.tyW, Bool.and_eq_true, beq_iff_eq, decide_eq_true_eq] at hty
  obtain ⟨⟨hF, hnum⟩, hty⟩ := hty
  simp only at hF hnum hr x hok hsz h hN
  have h1n := hf.one
  have hpt := hf.ptrN
  have hsum : ∀ out, (kTag num out).length = (uvOut num).length + (uvOut (out.length % 4294967296)).length + out.length := fun out => by simp only [kTag, List.length_append]
  cases cc with
  | str T' PT' sz df sm mk e =>
    obtain ⟨hlen, hre⟩ := hr
    obtain ⟨hNe, _, _⟩ := hN
    simp only [Bool.and_eq_true] at hty
    obtain ⟨⟨⟨hk, htl⟩, hz⟩, hcov⟩ := hty
    have hk' : kindOf P T' = .agg sz := by
      split at hk
      · rename_i n hn; rw [hn]; simp only [beq_iff_eq] at hk; rw [hk]
      · cases hk
    obtain ⟨z, hz', hzs⟩ : ∃ z, zeroOf P T' = some (.agg z) ∧ z.size = sz := by
      split at hz
      · rename_i z hz'; exact ⟨z, hz', by simpa using hz⟩
      · cases hz
    have hone := cov_one (es := (cs.drop o).take sz) (sz := sz) hlen e x 0 hcov hre
    rw [List.drop_zero] at hone
    simp only [caseW] at hm ⊢
    have hml := genWL_mono (C := C) e T' c.l ⟨c.l + 3, c.t + 8, c.k⟩
    have hse : ∀ Q f w b cs x ver fl base s, _ := fun Q f w b cs x ver fl base s => soundWL (ok := ok) ht e T' c.l ⟨c.l + 3, c.t + 8, c.k⟩ Q f w b cs x ver fl base s
    generalize hzz : e.genWL C T' c.l ⟨c.l + 3, c.t + 8, c.k⟩ = zz at hm hml hse ⊢
    obtain ⟨eb, c1⟩ := zz
    simp only at hm hml hse ⊢
    refine w_twice (body0 := eb) (m := mm) (tm := tm) (n := n) (out := (Kn.str T' PT' sz df sm mk e).wr ver x) ht hB uB hU hnum
      (St := fun f' w' => FrW C f' pv b a ver true n ∧ ∃ b', f' c.l = .pointer (some ⟨b', 0, none⟩) ∧ ¬ own1 (f' 1) b' ∧ b' < w'.heap.size ∧ CellsAt w' b' 0 ((cs.drop o).take sz) ∧ e.Rep w' (· < base) ((cs.drop o).take sz) x)
      h1n hn (by omega) hmt (by omega) (by omega) hd hsz ?_ ?_ ?_ h
    · intro Q' hq
      refine w_loadS hf.ptr hF hk' hz' hzs hcs hlen hone (by omega) ?_
      intro f1 w1 hl1 hlt1 hc1 he1 hk1
      have h11 : f1 1 = f 1 := hk1 1 (by omega) (by omega)
      refine hq f1 w1 ⟨hf.keep (fun z hz _ => hk1 z (by omega) (by omega)) (Nat.le_refl _), w.heap.size, hl1, ?_, hlt1, hc1, Sch.Rep_ext he1 (fun _ _ _ h => h) e hre⟩ he1 (fun z hz hzl => hk1 z (by omega) hzl)
      rw [h11]; intro h'; have := (Own.below hd.1 h').2; omega
    · rintro f1 w1 f2 w2 s' ⟨q1, b', q2, q3, q4, q5, q6⟩ hd' hg hk
      have hK : ∀ b, b < w1.heap.size → b < base → ¬ own1 (f1 1) b := fun b _ hb ho => by have := (Own.below hd'.1 ho).1; omega
      refine ⟨q1.keep (fun z hz hz1 => hk z (by omega) hz1 (by omega) (by omega) (by omega)) (Nat.le_refl _), b', (hk c.l (by omega) (by omega) (by omega) (by omega) (by omega)).trans q2, fun h' => (hg.own b' h').elim q3 (fun h'' => by omega), Nat.lt_of_lt_of_le q4 hg.size, ?_, Sch.Rep_ext (K := (· < base)) hg.ext hK e q6⟩
      intro j y hj
      exact hg.ext.cell (q5 j y hj) q3
    · rintro Q' f1 w1 s' ⟨q1, b', q2, q3, q4, q5, q6⟩ hd' hsz' hq
      refine hse Q' f1 w1 b' _ x ver true base s' htl hNe ?_ (by omega) q3 q4 q5 q6 hok hd' hsz' ?_
      · exact ⟨q2, ⟨by omega, by omega⟩, q1.svv, ⟨by have := q1.svN; omega, q1.svN.2⟩, q1.flg, fun hx => by have := q1.sfN hx; omega, by omega⟩
      · intro f2 w2 hw2
        exact hq f2 w2 ⟨hw2.dst, hw2.grew, fun z hz1 hz => hw2.keep z hz1 (by omega)⟩
  | prim p d =>
    obtain ⟨v, hv, hr1⟩ := hr
    obtain ⟨hNp, htx⟩ := hN
    simp only [Bool.and_eq_true] at hty
    simp only [caseW] at hm ⊢
    have hq := kOk_uu hty.1
    have hwl : ((Kn.prim p d).wr ver x).length = p.szW := prim_szW hr1 htx
    have hsm := hsum ((Kn.prim p d).wr ver x)
    have hlt := szW_lt p
    rw [hwl, Nat.mod_eq_of_lt hlt] at hsm
    refine seqL_cons ?_
    refine w_load2 ht hq hf.ptr hF hty.1 hcs hv (rep1_one hr1) (by omega) (by omega) ?_
    intro f1 w1 hv1 hfr1 he1 hk1
    have h11 : f1 1 = f 1 := hk1 1 (by omega) (by omega)
    have hd1 : Dst C f1 w1 base s := by unfold Dst at hd ⊢; rw [h11]; exact ⟨Own.ext hd.1 he1 (fun _ _ h => h), Nat.le_trans hd.2 he1.size⟩
    have own0 : ∀ bb, own1 (f 1) bb → bb < w.heap.size := fun bb hb => (Own.below hd.1 hb).2
    refine seqL_cons ?_
    refine w_uv hU hnum (by omega) hd1 (by omega) ?_
    intro f2 w2 ho2 hg2 hk2
    have hd2 : Dst C f2 w2 base (s ++ uvOut num) := ⟨ho2, Nat.le_trans hd1.2 hg2.size⟩
    have hv2 : LocVal w2 f2 p c.l v := hv1.grew (fun hp => by
      obtain ⟨bb, hbb, hge⟩ := hfr1 hp
      exact ⟨bb, hbb, fun ho => by rw [h11] at ho; have := own0 bb ho; omega⟩) hg2 (hk2 c.l (by omega) (by omega))
    refine seqL_cons ?_
    refine w_uv hU hlt (by omega) hd2 (by simp only [List.length_append]; omega) ?_
    intro f3 w3 ho3 hg3 hk3
    have hd3 : Dst C f3 w3 base (s ++ uvOut num ++ uvOut p.szW) := ⟨ho3, Nat.le_trans hd2.2 hg3.size⟩
    have hv3 : LocVal w3 f3 p c.l v := hv2.grew (fun hp => by
      obtain ⟨bb, hbb, hge⟩ := hfr1 hp
      have hlt1 : bb < w1.heap.size := by
        unfold LocVal at hv1
        rw [if_pos hp] at hv1
        obtain ⟨b', cs', e', fz', hf', hb', _⟩ := hv1
        rw [hf'] at hbb; cases hbb
        exact lt_of_heap hb'
      refine ⟨bb, (hk2 c.l (by omega) (by omega)).trans hbb, fun ho => ?_⟩
      rcases hg2.own bb ho with h' | h'
      · rw [h11] at h'; have := own0 bb h'; omega
      · omega) hg3 (hk3 c.l (by omega) (by omega))
    have hf3 : flagOk C f3 true := ⟨fun hx => ⟨by rw [hk3 C.sf (by have := hf.sfN hx; omega) (hf.flg.1 hx).2, hk2 C.sf (by have := hf.sfN hx; omega) (hf.flg.1 hx).2, hk1 C.sf (by have := hf.sfN hx; omega) (by have := hf.sfN hx; omega)]; exact (hf.flg.1 hx).1, (hf.flg.1 hx).2⟩, hf.flg.2⟩
    have hrep3 : p.rep1 w3 (· < base) v x := by
      have r1 := Prim.rep1_ext (K := (· < base)) he1 (fun _ _ _ h => h) hr1
      have r2 := Prim.rep1_ext (K := (· < base)) hg2.ext (fun b _ hb ho => by have := (Own.below hd1.1 ho).1; omega) r1
      exact Prim.rep1_ext (K := (· < base)) hg3.ext (fun b _ hb ho => by have := (Own.below hd2.1 ho).1; omega) r2
    show (emitW C p c.l (c.t + 8)).wp P Q f3 w3
    refine w_emit ht hq (x := x) (fl := true) (by omega) (by omega) (by omega) hv3 rfl hf3 (fun hx => by have := hf.sfN hx; omega) hNp hrep3 hd3.1 hd3.2 ?_ ?_
    · have : (p.wr true x).length = p.szW := hwl
      rw [this]
      simp only [List.length_append]; omega
    · intro f4 w4 v4 h41 ho4 hg4 hk4
      have hg1 : Grew w (f 1) w1 (f1 1) := by rw [h11]; exact Grew.post (Grew.refl _ _) he1
      refine h f4 w4 ⟨⟨?_, ?_⟩, ?_, ?_⟩
      · rw [h41]
        have e : kTag num ((Kn.prim p d).wr ver x) = uvOut num ++ uvOut p.szW ++ p.wr true x := by
          simp only [kTag, hwl, Nat.mod_eq_of_lt hlt]; rfl
        rw [e, ← List.append_assoc, ← List.append_assoc]
        exact ho4
      · exact Nat.le_trans hd3.2 hg4.size
      · rw [h41]
        exact ((hg1.trans hg2).trans hg3).trans hg4
      · intro z hz1 hz
        rw [hk4 z (by omega) hz1, hk3 z (by omega) hz1, hk2 z (by omega) hz1]
        exact hk1 z (by omega) (by omega)
  | arr sT T' PT' sz df e =>
    obtain ⟨v, ls, hv, harr, ⟨hsome, _⟩, hlen, hel⟩ := hr
    obtain ⟨hNl, hNe⟩ := hN
    simp only [Bool.and_eq_true, beq_iff_eq] at hty
    obtain ⟨⟨hk, hsl⟩, hte⟩ := hty
    have hnil : ls.isNone = (show Option (List e.T) from x).isNone := by
      have hs' := hsome
      cases ls <;> cases hx : (show Option (List e.T) from x) <;> simp_all
    simp only [caseW] at hm ⊢
    generalize ht1 : c.t + 8 + lenN C none = t1 at hm ⊢
    have hme := genW_mono (C := C) e T' PT' (c.l + 4) ⟨c.l + 5, t1 + 8, c.k + 2⟩
    have hse : ∀ Q f w b a cs x ver fl base s, _ := fun Q f w b a cs x ver fl base s => soundW (ok := ok) ht e T' PT' (c.l + 4) ⟨c.l + 5, t1 + 8, c.k + 2⟩ Q f w b a cs x ver fl base s
    generalize hz : e.genW C T' PT' (c.l + 4) ⟨c.l + 5, t1 + 8, c.k + 2⟩ = z at hm hme hse ⊢
    obtain ⟨eb, c1⟩ := z
    simp only at hm hme hse ⊢
    have hout : (Kn.arr sT T' PT' sz df e).wr ver x = lenW none true ((show Option (List e.T) from x).getD []).length ls.isNone ++ ((show Option (List e.T) from x).getD []).flatMap (e.wr ver true) := by rw [hnil]; rfl
    refine w_twice (body0 := [lenI C none sT c.l (c.t + 8), rangeI C sT c.l t1 c1.t c.k _]) (m := mm) (tm := tm) (n := n) (out := (Kn.arr sT T' PT' sz df e).wr ver x) ht hB uB hU hnum
      (St := fun f' w' => FrW C f' pv b a ver true n ∧ f' c.l = v ∧ ArrAt w' (· < base) sz v ls ∧ ∀ (i : Nat) (es : List Value) y, (ls.getD [])[i]? = some es → ((show Option (List e.T) from x).getD [])[i]? = some y → e.Rep w' (· < base) es y)
      h1n hn (by omega) hmt (by omega) (by omega) hd hsz ?_ ?_ ?_ h
    · intro Q' hq
      obtain ⟨ad, cp, rfl, _, hmax⟩ := harr.form
      refine w_load ht (fun h => by cases h) hf.ptr hF (kOk_scl hk) hcs (seg_one hv rfl) (by simp [Value.oneCell']) (by omega) (by omega) ?_
      intro f1 w1 hv1 he1 hk1
      refine hq f1 w1 ⟨?_, loc_slice hv1, harr.ext he1 (fun _ _ _ h => h), fun i es y hi hy => Sch.Rep_ext he1 (fun _ _ _ h => h) e (hel i es y hi hy)⟩ he1 (fun z hz hzl => hk1 z (by omega) hzl)
      exact hf.keep (fun z hz _ => hk1 z (by omega) (by omega)) (Nat.le_refl _)
    · rintro f1 w1 f2 w2 s' ⟨q1, q2, q3, q4⟩ hd' hg hk
      have hK : ∀ b, b < w1.heap.size → b < base → ¬ own1 (f1 1) b := fun b _ hb ho => by have := (Own.below hd'.1 ho).1; omega
      exact ⟨q1.keep (fun z hz hz1 => hk z (by omega) hz1 (by omega) (by omega) (by omega)) (Nat.le_refl _), (hk c.l (by omega) (by omega) (by omega) (by omega) (by omega)).trans q2, q3.ext (K := (· < base)) hg.ext hK, fun i es y hi hy => Sch.Rep_ext (K := (· < base)) hg.ext hK e (q4 i es y hi hy)⟩
    · rintro Q' f1 w1 s' ⟨q1, q2, q3, q4⟩ hd' hsz' hq
      rw [hout] at hsz' hq
      refine w_list2 ((show Option (List e.T) from x).getD []) (e.wr ver true) hsl hNl q1 (q := c.l + 3) (m := mm) (by omega) (by omega) (by omega) (by omega) (by omega) ht1.symm (by omega) q2 q3 hlen hd' hsz' ?_ (fun f' w' hw => hq f' w' (hw.down (by omega)))
      intro i y s'' f' w' hy hf' hl' h2' h1' hd'' hsz'' hg0
      obtain ⟨es, hes⟩ : ∃ es, (ls.getD [])[i]? = some es := by
        have : i < (ls.getD []).length := by rw [hlen]; exact (List.getElem?_eq_some_iff.1 hy).1
        exact ⟨_, List.getElem?_eq_getElem this⟩
      have hrep := q4 i es y hes hy
      have hK : ∀ b, b < w1.heap.size → b < base → ¬ own1 (f1 1) b := fun b _ hb ho => by have := (Own.below hd'.1 ho).1; omega
      have harr' := q3.ext (K := (· < base)) hg0.ext hK
      have hrep' := Sch.Rep_ext (K := (· < base)) hg0.ext hK e hrep
      cases ls with
      | none => simp at hes
      | some ls =>
        obtain ⟨bb, oo, cc, rfl, hbb, hmax, hcells⟩ := harr'
        have hce := hcells i _ hes
        refine seqL_cons ?_
        refine wp_reg ?_
        simp [idxI, h2']
        refine seqL_cons ?_
        refine wp_reg ?_
        have hi : i < ls.length := by have := (List.getElem?_eq_some_iff.1 hes).1; simpa using this
        have e1 : ∀ n, (c.l = t1 + n) = False := by intro n; simp; omega
        have e2 : ∀ n, (c.l + 3 = t1 + n) = False := by intro n; simp; omega
        simp [e1, e2, hl', idx?, hsl, hi, Addr.add_mk]
        have up : ∀ z, z < t1 + 4 → z ≠ c.l + 3 → z ≠ c.l + 4 → ∀ v1 v2 v3 v4 v5 v6, upd (upd (upd (upd (upd (upd f' (t1 + 4) v1) (c.l + 3) v2) (t1 + 5) v3) (t1 + 6) v4) (t1 + 7) v5) (c.l + 4) v6 z = f' z := by
          intro z hz hz1 hz2 v1 v2 v3 v4 v5 v6
          have a3 : ∀ n, 4 ≤ n → (z = t1 + n) = False := by intro n hn; simp; omega
          simp [a3, hz1, hz2]
        refine hse _ _ w' bb (oo + i * sz) es y ver true base s'' hte hNe ?_ (by omega) hbb hce.2 hrep' (hok i y hy) ?_ hsz'' ?_
        · refine ⟨by simp, ⟨by omega, by omega⟩, ?_, ⟨by have := hf'.svN; omega, hf'.svN.2⟩, ⟨fun hx => ⟨?_, (hf'.flg.1 hx).2⟩, hf'.flg.2⟩, fun hx => by have := hf'.sfN hx; omega, by omega⟩
          · rw [up _ (by have := hf'.svN; omega) (by have := hf'.svN; omega) (by have := hf'.svN; omega)]; exact hf'.svv
          · rw [up _ (by have := hf'.sfN hx; omega) (by have := hf'.sfN hx; omega) (by have := hf'.sfN hx; omega)]; exact (hf'.flg.1 hx).1
        · unfold Dst at hd'' ⊢
          rwa [up 1 (by omega) (by omega) (by omega)]
        · intro f4 w4 hw4
          have kp : ∀ z, z ≠ 1 → z ≠ c.l + 3 → z ≠ c.l + 4 → (z < c.l + 5 ∨ (c1.l ≤ z ∧ z < t1 + 4)) → f4 z = f' z := by
            intro z hz0 hz1 hz2 hz
            rw [hw4.keep z hz0 (by omega)]
            exact up z (by omega) hz1 hz2 _ _ _ _ _ _
          refine ⟨rfl, ⟨hw4.dst, ?_, ?_⟩, ?_, ?_⟩
          · have := hw4.grew
            rwa [up 1 (by omega) (by omega) (by omega)] at this
          · intro z hz1 hz
            exact kp z hz1 (by omega) (by omega) (by omega)
          · rw [kp _ (by omega) (by omega) (by omega) (by omega)]; exact h2'
          · rw [kp _ (by omega) (by omega) (by omega) (by omega)]; exact h1'
theorem ksSet_num : ∀ (l : List KF) (z : KsT l) {y : Nat}, y ∈ ksSet l z → y ∈ l.map (·.num)
  | [], _, y, h => h
  | f :: l, (v, r), y, h => by
    simp only [ksSet, List.mem_append] at h
    simp only [List.map_cons, List.mem_cons]
    rcases h with h | h
    · split at h
      · left; simpa using h
      · simp at h
    · right; exact ksSet_num l r h
/-- the switch -/
theorem w_casesW (ht : TyC P C) (hfx : C.fx = true) (hB : sliSz P C.E.tBs = some 1) (uB : P.underlying C.E.tBs = some (.slice C.E.tU8)) (hU : ∀ n : Nat, n < 4294967296 → WrC P C.E.tU8 C.E.f_kbin_AppendUvarint [.int .u32 n] (uvOut n))
    {T PT pv key n mm tm : Nat} {Q : Post} {b a base : Nat} {cs : List Value} {ver : Int} {s : List UInt8} {num : Nat} {out : List UInt8} (hmt : mm ≤ tm) (hb : b < base) (hsz : s.length + (kTag num out).length ≤ 1099511627776) :
    ∀ (ks : List KF) (x : KsT ks) (c : Ct) (lab : Nat) (f : Nat → Value) (w : World), (ks.all (·.tyW P C T)) = true → KsNeedW P C ok ks → (ks.map (·.num)).Nodup → KsRep w (· < base) cs ks x → KsOk ok ks x → (num, out) ∈ ksOuts ver ks x → f key = .int .u32 num →
      FrW C f pv b a ver true n → n ≤ c.l → (casesW C T PT pv key ks c lab).2.l ≤ mm → tm ≤ c.t → key < c.t → CellsAt w b a cs → Dst C f w base s →
      (∀ f' w', Wrote C f w base s (kTag num out) n mm tm f' w' → Q .normal f' w') → (casesW C T PT pv key ks c lab).1.wp P Q f w := by
  intro ks
  induction ks with
  | nil => intro x c lab f w _ _ _ _ _ hmem; simp [ksOuts] at hmem
  | cons kf r ih =>
    rintro ⟨v, xr⟩ c lab f w hty ⟨hN, hNr⟩ hnd ⟨hr, hrr⟩ ⟨hok, hokr⟩ hmem hkey hf hn hm htm hkt hcs hd h
    simp only [List.all_cons, Bool.and_eq_true] at hty
    simp only [List.map_cons, List.nodup_cons] at hnd
    simp only [ksOuts, List.mem_append] at hmem
    have m1 := caseW_mono (C := C) T PT pv kf ⟨c.l, c.t + 2, c.k⟩ lab
    have hcase := fun (Q : Post) (f : Nat → Value) (s : List UInt8) => w_caseW (ok := ok) (P := P) (C := C) (T := T) (PT := PT) (pv := pv) (n := n) (mm := mm) (tm := tm) (kf := kf) (c := ⟨c.l, c.t + 2, c.k⟩) (lab := lab) (Q := Q) (f := f) (w := w) (b := b) (a := a) (base := base) (cs := cs) (x := v) (ver := ver) (s := s) ht hfx hB uB hU hty.1 hN
    simp only [casesW] at hm ⊢
    generalize caseW C T PT pv kf ⟨c.l, c.t + 2, c.k⟩ lab = z at m1 hm hcase ⊢
    obtain ⟨bb, c1, lab1⟩ := z
    have m2 := casesW_mono (C := C) T PT pv key r c1 lab1
    simp only at m1 hm hcase ⊢
    have h1n := hf.one
    have hkc : (key = c.t + 1) = False := by simp; omega
    have hkc' : (key = c.t) = False := by simp; omega
    have tail : ∀ y, (y, out) ∈ ksOuts ver r xr → y ∈ r.map (·.num) := by
      intro y hy
      have h1 : y ∈ (ksOuts ver r xr).map (fun z => z.1) := List.mem_map.2 ⟨(y, out), hy, rfl⟩
      rw [show (fun z : Nat × List UInt8 => z.1) = (·.1) from rfl, ksOuts_set] at h1
      exact ksSet_num r xr h1
    refine seqL_cons (wp_reg ?_)
    simp [hkey]
    generalize hBv : ((num : Int) == (kf.num : Int)) = Bv
    have hfu : FrW C (upd (upd f (c.t + 1) (.bool Bv)) c.t (.bool Bv)) pv b a ver true n := hf.keep (keeps_upd (keeps_upd (Keeps.refl _ _) (by omega)) (by omega)) (Nat.le_refl _)
    have hdu : Dst C (upd (upd f (c.t + 1) (.bool Bv)) c.t (.bool Bv)) w base s := by
      unfold Dst at hd ⊢
      rw [upd_apply, if_neg (by omega), upd_apply, if_neg (by omega)]
      exact hd
    have back : ∀ f' w', Wrote C (upd (upd f (c.t + 1) (.bool Bv)) c.t (.bool Bv)) w base s (kTag num out) n mm tm f' w' → Wrote C f w base s (kTag num out) n mm tm f' w' := by
      intro f' w' hw
      refine ⟨hw.dst, ?_, ?_⟩
      · have := hw.grew
        rwa [upd_apply, if_neg (by omega), upd_apply, if_neg (by omega)] at this
      · intro z hz1 hz
        rw [hw.keep z hz1 hz, upd_apply, if_neg (by omega), upd_apply, if_neg (by omega)]
    by_cases heq : num = kf.num
    · subst heq
      have hBt : Bv = true := by rw [← hBv]; simp
      have hset : kf.c.set v = true ∧ out = kf.c.wr ver v := by
        rcases hmem with h' | h'
        · split at h'
          · rename_i hs; simp at h'; exact ⟨hs, h'⟩
          · simp at h'
        · exact absurd (tail _ h') hnd.1
      obtain ⟨_, rfl⟩ := hset
      refine .inl ⟨by simp [hBt], ?_⟩
      refine hcase _ _ _ hfu hn (by omega) hmt (by omega) hb hcs hr hok hdu hsz ?_
      intro f' w' hw
      exact h f' w' (back f' w' hw)
    · have hBf : Bv = false := by rw [← hBv, beq_eq_false_iff_ne]; omega
      refine .inr ⟨by simp [hBf], ?_⟩
      have hmem' : (num, out) ∈ ksOuts ver r xr := by
        rcases hmem with h' | h'
        · split at h'
          · simp at h'; exact absurd h'.1 heq
          · simp at h'
        · exact h'
      refine ih xr _ _ _ w hty.2 hNr hnd.2 hrr hokr hmem' ?_ hfu (by omega) hm (by omega) (by omega) hcs hdu (fun f' w' hw => h f' w' (back f' w' hw))
      rw [upd_apply, if_neg (by omega), upd_apply, if_neg (by omega)]
      exact hkey
end
end Go.Kg

set_option linter.unusedSimpArgs false
set_option linter.unusedVariables false
set_option linter.unusedSectionVars false
namespace Go.Kg
open Go
section
variable {P : Program} {C : Cfg}
/-- w_range, where the body reads the list through the loop's own copy. -/
theorem w_rangeT {Q : Post} {f : Nat → Value} {w : World} {sT l t t' k n c sz : Nat} {a : Option Addr} {body : Ir} (hs : sliSz P sT = some sz) (hl : l < t) (ht1 : 1 < t) (htt : t + 4 ≤ t') (hn : n ≤ 1099511627776) (hv : f l = .slice a n c) (J : Nat → (Nat → Value) → World → Prop)
    (hJ : ∀ i f f' w, (∀ x, x < t → f' x = f x) → J i f w → J i f' w) (h0 : J 0 f w)
    (hb : ∀ i, i < n → ∀ f w, J i f w → f t = .slice a n c → f (t + 2) = .int .i64 i → f (t + 1) = .int .i64 n → body.wp P (fun e f' w' => e = .normal ∧ J (i + 1) f' w' ∧ f' t = .slice a n c ∧ f' (t + 2) = .int .i64 i ∧ f' (t + 1) = .int .i64 n) f w)
    (h : ∀ f' w', J n f' w' → Q .normal f' w') : (rangeI C sT l t t' k body).wp P Q f w := by
  obtain ⟨E, j, hu, _, _⟩ := sliSz_spec hs
  have e3 : ∀ n, (l = t + n) = False := by intro n; simp; omega
  have e4 : (l = t) = False := by simp; omega
  refine wp_seqI (wp_reg ?_)
  simp [hv, e3, e4, len_slice hu]
  show (Ir.loop _).wp P _ _ _
  refine ⟨fun f w => ∃ i : Nat, i ≤ n ∧ f t = .slice a n c ∧ f (t + 2) = .int .i64 i ∧ f (t + 1) = .int .i64 n ∧ J i f w, fun f _ => match f (t + 2) with | .int _ i => ((n : Int) - i).toNat | _ => 0, ?_, ?_⟩
  · refine ⟨0, by omega, by simp, by simp, by simp, hJ _ _ _ _ ?_ h0⟩
    intro x hx
    have x3 : ∀ n, (x = t + n) = False := by intro n; simp; omega
    have x4 : (x = t) = False := by simp; omega
    simp [x3, x4]
  · rintro f w ⟨i, hi, hft, h2, h3, hj⟩
    refine wp_seqI (wp_reg ?_)
    simp [h2, h3]
    by_cases hlt : i < n
    · refine .inl ⟨by simp; omega, ?_⟩
      show (Ir.seq _ _).wp P _ _ _
      refine wp_seqI ?_
      show body.wp P _ _ _
      refine Ir.wp_mono body ?_ (hb i hlt _ _ (hJ i _ _ _ ?_ hj) (by simpa using hft) (by simpa using h2) (by simpa using h3))
      · rintro e f' w' ⟨rfl, hj', hft', h2', h3'⟩
        show (Ir.reg _).wp P _ _ _
        refine wp_reg ?_
        have t3 : ∀ n, (t + 2 = t' + n) = False := by intro n; simp; omega
        have t4 : (t + 2 = t') = False := by simp; omega
        have t5 : (t + 1 = t') = False := by simp; omega
        have t6 : (t = t') = False := by simp; omega
        have wr : IntKind.i64.wrap ((i : Int) + 1) = ((i + 1 : Nat) : Int) := by rw [i64_small (by omega) (by omega)]; rfl
        simp [h2', t4, wr]
        refine ⟨⟨i + 1, by omega, by simp [t6, hft'], by simp, by simp [t5, h3'], hJ _ _ _ _ ?_ hj'⟩, ?_⟩
        · intro x hx
          have x3 : ∀ n, (x = t + n) = False := by intro n; simp; omega
          have x4 : (x = t') = False := by simp; omega
          simp [x3, x4]
        · first | omega | (simp only [h2]; omega)
      · intro x hx
        have x3 : ∀ n, (x = t + n) = False := by intro n; simp; omega
        simp [x3]
    · have : i = n := by omega
      subst this
      refine .inr ⟨by simp, ?_⟩
      show inBlockF k Q (.exit k) _ _
      rw [inBlockF_exit, if_pos rfl]
      refine h _ _ (hJ _ _ _ _ ?_ hj)
      intro x hx
      have x3 : ∀ n, (x = t + n) = False := by intro n; simp; omega
      simp [x3]
theorem secWI_mono (T PT pv sl : Nat) (ks : List KF) (tk : Nat) (c : Ct) (lab0 : Nat := 0) : c.l + 3 ≤ (secWI C T PT pv sl ks tk c lab0).2.l ∧ c.t ≤ (secWI C T PT pv sl ks tk c lab0).2.t := by
  have h1 := preW_t C T PT pv sl c.l ks (c.t + 1)
  have h2 := casesW_mono (C := C) T PT pv ((preW C T PT pv sl c.l ks (c.t + 1)).2 + 10 + 6) ks ⟨c.l + 3, (preW C T PT pv sl c.l ks (c.t + 1)).2 + 10 + 7, c.k + 3⟩ lab0
  simp only [secWI]
  simp only at h2
  omega
variable {ok : TagL → Prop}
theorem w_sec (ht : TyC P C) (hfx : C.fx = true) (hu : isAgg16 (kindOf P C.E.tUu) = true → TyUuE P C.E) (hB : sliSz P C.E.tBs = some 1) (uB : P.underlying C.E.tBs = some (.slice C.E.tU8)) (kU : kindOf P C.E.tU32 = .scl) (hT : TagsC P C.E ok)
    {T PT pv sl tk to lab0 : Nat} {ks : List KF} (hS : SliI P sl C.E.tU32 1 4 (.int .u32 0)) (hty : (ks.all (·.tyW P C T)) = true) (hN : KsNeedW P C ok ks) (hnd : (ks.map (·.num)).Nodup) (hlen : ks.length ≤ 1000) (hF : fldOff P T tk = some to) {c : Ct} {Q : Post} {f : Nat → Value} {w : World} {b a base : Nat} {cs : List Value} {x : KsT ks} {u : TagL} {uv : Value} {ver : Int} {fl : Bool} {s : List UInt8}
    (hf : FrW C f pv b a ver fl c.l) (hc : (secWI C T PT pv sl ks tk c lab0).2.l ≤ c.t) (hb : b < base) (hcs : CellsAt w b a cs) (hr : KsRep w (· < base) cs ks x) (hok : KsOk ok ks x) (huv : cs[to]? = some uv) (hl : TagsAt w (· < base) uv u) (hok2 : ok u) (hd : Dst C f w base s)
    (hsz : s.length + (secW ver fl ks x u).length ≤ 1099511627776) (h : ∀ f' w', Wrote C f w base s (secW ver fl ks x u) c.l (secWI C T PT pv sl ks tk c lab0).2.l c.t f' w' → Q .normal f' w') : (secWI C T PT pv sl ks tk c lab0).1.wp P Q f w := by
  have h1c := hf.one
  have hpt := hf.ptrN
  have hsf := hf.sfN hfx
  have hmono := secWI_mono (C := C) T PT pv sl ks tk c lab0
  have hU := hT.uv
  simp only [secWI] at hc h hmono ⊢
  generalize htp : (preW C T PT pv sl c.l ks (c.t + 1)).2 = tp at hc h hmono ⊢
  have htp1 : c.t + 1 ≤ tp := by rw [← htp]; exact preW_t C T PT pv sl c.l ks (c.t + 1)
  have hcm := casesW_mono (C := C) T PT pv (tp + 10 + 6) ks ⟨c.l + 3, tp + 10 + 7, c.k + 3⟩ lab0
  have hcw : ∀ {num : Nat} {out : List UInt8} {Q : Post} {f : Nat → Value} {w : World} {s : List UInt8}, _ := fun {num out Q f w s} => w_casesW (ok := ok) (P := P) (C := C) (T := T) (PT := PT) (pv := pv) (key := tp + 10 + 6) (n := c.l) (mm := (casesW C T PT pv (tp + 10 + 6) ks ⟨c.l + 3, tp + 10 + 7, c.k + 3⟩ lab0).2.l) (tm := tp + 10 + 4) (Q := Q) (b := b) (a := a) (base := base) (cs := cs) (ver := ver) (s := s) (num := num) (out := out) ht hfx hB uB hU (by omega) hb (x := x) (ks := ks) (c := ⟨c.l + 3, tp + 10 + 7, c.k + 3⟩) (lab := lab0) (f := f) (w := w)
  generalize hcs1 : casesW C T PT pv (tp + 10 + 6) ks ⟨c.l + 3, tp + 10 + 7, c.k + 3⟩ lab0 = z at hc h hmono hcm hcw ⊢
  obtain ⟨cw, c1⟩ := z
  simp only at hc h hmono hcm hcw ⊢
  refine w_flex (hf.flg.1 hfx).1 (by omega) (by omega) ?_ ?_
  · rintro rfl f1 hk1 h11
    simp only [secW, if_true, List.length_append] at hsz h
    simp only [List.cons_append, List.nil_append]
    refine seqL_cons (wp_reg ?_)
    simp
    generalize hf2 : upd f1 c.l (.slice none 0 0) = f2
    have k2 : ∀ z, z < c.t → z ≠ 1 → z ≠ c.l → f2 z = f z := by
      intro z hz hz1 hzl
      subst hf2
      rw [upd_apply, if_neg hzl]
      exact hk1 z hz hz1
    have k21 : f2 1 = f 1 := by subst hf2; rw [upd_apply, if_neg (by omega)]; exact h11
    show (seqL (_ ++ _)).wp P _ f2 w
    refine seqL_append ?_
    refine w_pre ht hu hS (w0 := w) (f0 := f2) (tm := c.t) (K := (· < base)) (by omega) (by omega) (by omega) hcs (fun _ _ _ => trivial) ((k2 pv (by omega) (by omega) (by omega)).trans hf.ptr) ks x [] (c.t + 1) f2 w hty hr (by simpa using hlen) (by omega) ⟨Ext.refl _ _, by subst hf2; simpa using Own.nil w w.heap.size C.E.tU32 1, fun _ _ _ => rfl⟩ hN ?_
    intro f3 w3 h3
    simp only [List.nil_append] at h3
    have he3 := h3.ext
    have f3k : ∀ z, z < c.t → z ≠ 1 → z ≠ c.l → f3 z = f z := fun z hz hz1 hzl => (h3.keep z hz hzl).trans (k2 z hz hz1 hzl)
    have f31 : f3 1 = f 1 := (h3.keep 1 (by omega) (by omega)).trans k21
    have hd3 : Dst C f3 w3 base s := by unfold Dst at hd ⊢; rw [f31]; exact ⟨Own.ext hd.1 he3 (fun _ _ h => h), Nat.le_trans hd.2 he3.size⟩
    have hcs3 : CellsAt w3 b a cs := CellsAt.ext (K := fun _ => True) (C := none1) he3 (fun _ _ _ h => h) hcs trivial
    have hr3 := KsRep_ext he3 (K := (· < base)) (fun _ _ _ h => h) ks hr
    have hl3 : TagsAt w3 (· < base) uv u := hl.ext he3 (fun _ _ _ h => h)
    have hca := hcs3 to uv huv
    obtain ⟨ad, cp, hve, hcp⟩ := Own.form h3.own
    have hnum : ((ksSet ks x).map fun n => (Value.int .u32 (n : Nat))).length = (ksSet ks x).length := by simp
    rw [hnum] at hve hcp
    have hsl := ksSet_len ks x
    have hksn : (ksSet ks x).length = ksN ks x := by rw [← ksOuts_set ver, List.length_map, ksOuts_len]
    have hul : u.length < 4294967296 := by
      rcases hl with ⟨_, rfl⟩ | ⟨_, _, _, _, _, _, _, _, h, _⟩
      · simp
      · exact h.1
    have q0 : ∀ z, z < c.t → ∀ k, (z = tp + k) = False := by intro z hz k; simp; omega
    have q0' : ∀ z, z < c.t → (z = tp) = False := by intro z hz; simp; omega
    have q03 : ∀ z, z < c.t → ∀ k, (z = tp + 3 + k) = False := by intro z hz k; simp; omega
    have w64 : IntKind.i64.wrap (((ksSet ks x).length : Int) + (u.length : Int)) = ((ksSet ks x).length : Int) + (u.length : Int) := i64_small (by omega) (by omega)
    have w32 : IntKind.u32.wrap (((ksSet ks x).length : Int) + (u.length : Int)) = (((ksN ks x + u.length) % 4294967296 : Nat) : Int) := by rw [hksn]; simp [IntKind.wrap, IntKind.signed, IntKind.bits]
    have q9 : ∀ k, (tp = tp + 3 + k) = False := by intro k; simp; omega
    refine seqL_cons (wp_reg ?_)
    have hpv3 : f3 pv = .pointer (some ⟨b, a, none⟩) := (f3k pv (by omega) (by omega) (by omega)).trans hf.ptr
    simp [addrR, hpv3, hve, hF, Addr.add_mk, len_slice hS.und, q0 pv (by omega), q0' pv (by omega), q0 c.l (by omega), q0' c.l (by omega)]
    refine (hT.len w3 _ _ _ _ _ hca hl3).mono ?_
    rintro _ w3' ⟨rfl, rfl⟩
    simp [ht.iInt, ht.iU32, w64, bin?, q9, f31]
    rw [w32]
    refine (hU _ (Nat.mod_lt _ (by omega)) w3' base (f 1) s (by have := hd3.1; rwa [f31] at this) hd3.2 (by omega)).mono ?_
    rintro v4 w4 ⟨ho4, hg4⟩
    simp
    generalize hf4 : upd (upd _ (tp + 9) v4) 1 v4 = f4
    have f4k : ∀ z, z < c.t → z ≠ 1 → z ≠ c.l → f4 z = f z := by
      intro z hz hz1 hzl
      subst hf4
      simp [q0 z hz, q0' z hz, q03 z hz, hz1]
      exact f3k z hz hz1 hzl
    have f41 : f4 1 = v4 := by subst hf4; simp
    have f4L : f4 c.l = .slice ad (ksSet ks x).length cp := by
      subst hf4
      have : (c.l = 1) = False := by simp; omega
      simp [q0 c.l (by omega), q0' c.l (by omega), q03 c.l (by omega), this, hve]
    have hd4 : Dst C f4 w4 base (s ++ uvOut ((ksN ks x + u.length) % 4294967296)) := ⟨by rw [f41]; exact ho4, Nat.le_trans hd3.2 hg4.size⟩
    have hg04 : Grew w (f 1) w4 (f4 1) := by rw [f41]; exact Grew.pre he3 hg4
    -- what the loop reads
    have hrow : ksSet ks x ≠ [] → ∃ g, ad = some ⟨g, 0, none⟩ ∧ ¬ own1 (f4 1) g ∧ ∀ i n, (ksSet ks x)[i]? = some n → w4.cell? ⟨g, i, none⟩ = some (.int .u32 (n : Nat)) := by
      intro hne
      obtain ⟨g, c', hve', hg, hglt, hcell⟩ := Own.cells1 h3.own (by simpa using hne)
      rw [hve, hnum] at hve'
      cases hve'
      have hno : ¬ own1 (f 1) g := fun ho => by have := (Own.below hd.1 ho).2; omega
      refine ⟨g, rfl, ?_, ?_⟩
      · rw [f41]
        intro ho
        rcases hg4.own g ho with h' | h'
        · exact hno h'
        · omega
      · intro i n hi
        exact hg4.ext.cell (hcell i _ (by simp [hi])) hno
    have hfr4 : FrW C f4 pv b a ver true c.l := hf.keep (fun z hz hz1 => f4k z (by omega) hz1 (by omega)) (Nat.le_refl _)
    refine seqL_cons ?_
    refine w_rangeT hS.siz (by omega) (by omega) (by omega) (by omega) f4L (fun i f' w' => Wrote C f4 w4 base (s ++ uvOut ((ksN ks x + u.length) % 4294967296)) (((ksOuts ver ks x).take i).flatMap fun y => kTag y.1 y.2) c.l c1.l c.t f' w') ?_ ?_ ?_ ?_
    · rintro i g g' w' hx hw
      refine ⟨?_, ?_, ?_⟩
      · have := hw.dst; unfold Dst at this ⊢; rwa [hx 1 (by omega)]
      · have := hw.grew; rwa [hx 1 (by omega)]
      · intro z hz1 hz; rw [hx z (by omega)]; exact hw.keep z hz1 hz
    · simpa using Wrote.refl hd4 c.l c1.l c.t
    · rintro i hi f5 w5 hw5 ht5 hi5 hn5
      have hlen2 : (ksOuts ver ks x).length = (ksSet ks x).length := by rw [ksOuts_len, hksn]
      obtain ⟨⟨num, out⟩, hy⟩ : ∃ y, (ksOuts ver ks x)[i]? = some y := ⟨_, List.getElem?_eq_getElem (by omega)⟩
      have hny : (ksSet ks x)[i]? = some num := by rw [← ksOuts_set ver, List.getElem?_map, hy]; rfl
      have hne : ksSet ks x ≠ [] := by intro h; rw [h] at hny; simp at hny
      obtain ⟨g, rfl, hng, hcell⟩ := hrow hne
      have c5 : w5.cell? ⟨g, i, none⟩ = some (.int .u32 (num : Nat)) := hw5.grew.ext.cell (hcell i num hny) hng
      have hfm := flatMap_take (fun y : Nat × List UInt8 => kTag y.1 y.2) (ksOuts ver ks x) i (num, out) hy
      have hle := flatMap_take_le (fun y : Nat × List UInt8 => kTag y.1 y.2) (ksOuts ver ks x) (i + 1)
      rw [hfm, ← ksOuts_wr] at hle
      simp only [List.length_append] at hle
      have e5 : ∀ k, k < 4 → ∀ j, 4 ≤ j → (tp + 10 + k = tp + 10 + j) = False := by intro k hk j hj; simp; omega
      refine seqL_cons (wp_reg ?_)
      simp [ht5, hi5, idx?, hS.siz, hi, Addr.add_mk, ld_scl kU, c5]
      refine seqL_cons (wp_reg ?_)
      simp
      show Ir.wp P (Ir.block (c.k + 2) cw) _ _ w5
      generalize hf6 : upd (upd (upd (upd f5 (tp + 10 + 4) _) (tp + 10 + 5) _) (c.l + 2) _) (tp + 10 + 6) _ = f6
      have k6 : ∀ z, z < tp + 10 + 4 → z ≠ c.l + 2 → f6 z = f5 z := by
        intro z hz hz2
        subst hf6
        have a3 : ∀ n, 4 ≤ n → (z = tp + 10 + n) = False := by intro n hn; simp; omega
        simp [a3, hz2]
      have k6k : f6 (tp + 10 + 6) = .int .u32 (num : Nat) := by subst hf6; simp
      have hfr6 : FrW C f6 pv b a ver true c.l := hfr4.keep (fun z hz hz1 => (k6 z (by omega) (by omega)).trans (hw5.keep z hz1 (.inl hz))) (Nat.le_refl _)
      have hd6 : Dst C f6 w5 base (s ++ uvOut ((ksN ks x + u.length) % 4294967296) ++ ((ksOuts ver ks x).take i).flatMap fun y => kTag y.1 y.2) := by
        have := hw5.dst
        unfold Dst at this ⊢
        rwa [k6 1 (by omega) (by omega)]
      have hK4 : ∀ b, b < w3'.heap.size → b < base → ¬ own1 (f 1) b := fun b _ hb ho => by have := (Own.below hd.1 ho).1; omega
      have hK5 : ∀ b, b < w4.heap.size → b < base → ¬ own1 (f4 1) b := fun b _ hb ho => by have := (Own.below hd4.1 ho).1; omega
      have hcs5 : CellsAt w5 b a cs := CellsAt.ext (K := (· < base)) hw5.grew.ext hK5 (CellsAt.ext (K := (· < base)) hg4.ext hK4 hcs3 hb) hb
      have hr5 := KsRep_ext hw5.grew.ext (K := (· < base)) hK5 ks (KsRep_ext hg4.ext (K := (· < base)) hK4 ks hr3)
      refine hcw (num := num) (out := out) (s := s ++ uvOut ((ksN ks x + u.length) % 4294967296) ++ ((ksOuts ver ks x).take i).flatMap fun y => kTag y.1 y.2) (by simp only [List.length_append]; omega) hty hN hnd hr5 hok (List.mem_of_getElem? hy) k6k hfr6 (by omega) (Nat.le_refl _) (by omega) (by omega) hcs5 hd6 ?_
      intro f7 w7 hw7
      show Exit.normal = Exit.normal ∧ _
      have hw57 : Wrote C f5 w5 base (s ++ uvOut ((ksN ks x + u.length) % 4294967296) ++ ((ksOuts ver ks x).take i).flatMap fun y => kTag y.1 y.2) (kTag num out) c.l c1.l c.t f7 w7 := by
        refine ⟨hw7.dst, ?_, ?_⟩
        · have := hw7.grew
          rwa [k6 1 (by omega) (by omega)] at this
        · intro z hz1 hz
          rw [hw7.keep z hz1 (by omega), k6 z (by omega) (by omega)]
      have hw47 := hw5.trans hw57 (Nat.le_refl _) (Nat.le_refl _) (Nat.le_refl _)
      refine ⟨rfl, by rw [hfm]; exact hw47, ?_, ?_, ?_⟩
      · rw [hw7.keep (tp + 10) (by omega) (by omega), k6 (tp + 10) (by omega) (by omega)]; exact ht5
      · rw [hw7.keep (tp + 10 + 2) (by omega) (by omega), k6 (tp + 10 + 2) (by omega) (by omega)]; exact hi5
      · rw [hw7.keep (tp + 10 + 1) (by omega) (by omega), k6 (tp + 10 + 1) (by omega) (by omega)]; exact hn5
    · intro f8 w8 hw8
      have hall : (ksOuts ver ks x).take (ksSet ks x).length = ksOuts ver ks x := by rw [hksn, ← ksOuts_len ver, List.take_length]
      rw [hall, ← ksOuts_wr] at hw8
      have hpv8 : f8 pv = .pointer (some ⟨b, a, none⟩) := ((hw8.keep pv (by omega) (.inl (by omega))).trans (f4k pv (by omega) (by omega) (by omega))).trans hf.ptr
      have hK4 : ∀ b, b < w3'.heap.size → b < base → ¬ own1 (f 1) b := fun b _ hb ho => by have := (Own.below hd.1 ho).1; omega
      have hK5 : ∀ b, b < w4.heap.size → b < base → ¬ own1 (f4 1) b := fun b _ hb ho => by have := (Own.below hd4.1 ho).1; omega
      have hcs8 : CellsAt w8 b a cs := CellsAt.ext (K := (· < base)) hw8.grew.ext hK5 (CellsAt.ext (K := (· < base)) hg4.ext hK4 hcs3 hb) hb
      have hl8 : TagsAt w8 (· < base) uv u := (hl3.ext hg4.ext (K := (· < base)) hK4).ext hw8.grew.ext (K := (· < base)) hK5
      have q8 : ∀ k, (pv = c1.t + 1 + k) = False := by intro k; simp; omega
      have q8' : (pv = c1.t + 1) = False := by simp; omega
      have o8 : ∀ k, (1 = c1.t + 1 + k) = False := by intro k; simp; omega
      have o8' : (1 = c1.t + 1) = False := by simp; omega
      have o9 : (c1.t = 0) = False := by simp; omega
      show (Ir.reg _).wp P Q f8 w8
      refine wp_reg ?_
      simp [addrR, hpv8, hF, Addr.add_mk, q8, q8', o8, o8', o9]
      refine (hT.each w8 base (f8 1) _ b (a + to) uv u hok2 (fun h => by have := (Own.below hw8.dst.1 h).1; omega) (hcs8 to uv huv) hl8 hw8.dst.1 hw8.dst.2 (by simp only [List.length_append]; omega)).mono ?_
      rintro v9 w9 ⟨ho9, hg9⟩
      try simp
      refine h _ w9 ⟨⟨?_, ?_⟩, ?_, ?_⟩
      · simp
        simp only [List.append_assoc] at ho9 ⊢
        exact ho9
      · exact Nat.le_trans hw8.dst.2 hg9.size
      · simp
        exact (hg04.trans hw8.grew).trans hg9
      · intro z hz1 hz
        have z8 : ∀ k, (z = c1.t + 1 + k) = False := by intro k; simp; omega
        have z8' : (z = c1.t + 1) = False := by simp; omega
        simp [z8, z8', hz1]
        rw [hw8.keep z hz1 hz]
        exact f4k z (by omega) hz1 (by omega)
  · rintro rfl f1 hk1 h11
    show Q .normal f1 w
    refine h f1 w ?_
    simp only [secW, Bool.false_eq_true, if_false]
    exact ⟨by rw [List.append_nil]; unfold Dst at hd ⊢; rwa [h11], by rw [h11]; exact Grew.refl _ _, KeepR.of hk1 (by omega)⟩
/-- what AppendTo of a message with known tags asks -/
structure KmOk (P : Program) (C : Cfg) (ok : TagL → Prop) (T PT sl : Nat) (Sw : Sch) (ks : List KF) (tk to nl : Nat) : Prop where
  ty : TyC P C
  fx : C.fx = true
  cfg : C.sv = 5 ∧ C.sf = 6
  uu : isAgg16 (kindOf P C.E.tUu) = true → TyUuE P C.E
  bs : sliSz P C.E.tBs = some 1
  uB : P.underlying C.E.tBs = some (.slice C.E.tU8)
  kU : kindOf P C.E.tU32 = .scl
  sS : SliI P sl C.E.tU32 1 4 (.int .u32 0)
  tyW : Sw.tyW P C T = true
  tyK : (ks.all (·.tyW P C T)) = true
  f0 : fldOff P T 0 = some 0
  ft : fldOff P T tk = some to
  need : Sw.NeedW P C ok
  needK : KsNeedW P C ok ks
  tags : TagsC P C.E ok
  nd : (ks.map (·.num)).Nodup
  len : ks.length ≤ 1000
  nl : (secWI C T PT 0 sl ks tk (Sw.genW C T PT 0 (ct0 C nl)).2).2.l ≤ nl
theorem appendToK {T PT sl tk to flex nl nt g : Nat} {Sw : Sch} {ks : List KF} (hm : KmOk P C ok T PT sl Sw ks tk to nl) (hnt : 2 ≤ nt) (hI : FnIs P g nt [.t 4] (msgWk C T PT sl flex Sw ks tk nl)) {w : World} {b a base : Nat} {cs : List Value} {x : Sw.T} {y : KsT ks} {u : TagL} {uv : Value} {ver : Int} {v : Value} {s : List UInt8}
    (hcs : CellsAt w b a cs) (hver : cs[0]? = some (.int .i16 ver)) (hrep : Sw.Rep w (· < base) cs x) (hrk : KsRep w (· < base) cs ks y) (huv : cs[to]? = some uv) (hl : TagsAt w (· < base) uv u) (hok : Sw.TagsOk ok x) (hokk : KsOk ok ks y) (hoku : ok u) (hb : b < base) (ho : OwnB C.E.tU8 w base v s) (hbase : base ≤ w.heap.size)
    (hsz : s.length + (Sw.wr ver (flagAt C flex ver) x ++ secW ver (flagAt C flex ver) ks y u).length ≤ 1099511627776) :
    Ret P g #[.pointer (some ⟨b, a, none⟩), v] w fun v' w' => OwnB C.E.tU8 w' base v' (s ++ (Sw.wr ver (flagAt C flex ver) x ++ secW ver (flagAt C flex ver) ks y u)) ∧ Grew w v w' v' := by
  obtain ⟨ht, hfx, ⟨hc5, hc6⟩, huu, hbs, hub, hku, hsS, hty, htyk, h0, hft, hN, hNk, hT, hnd, hlen, hnl⟩ := hm
  have hl7 := (genW_mono (C := C) Sw T PT 0 (ct0 C nl))
  have hls := secWI_mono (C := C) T PT 0 sl ks tk (Sw.genW C T PT 0 (ct0 C nl)).2
  have q7 : (ct0 C nl).l = 7 := by simp [ct0, hfx]
  have qt : (ct0 C nl).t = nl + 8 := by simp [ct0, hfx]
  have hnl6 : 7 ≤ nl := by omega
  refine hI.ret (args := [_, _]) hnt ?_
  have cv := hcs 0 _ hver
  simp only [Nat.add_zero] at cv
  have n1 : ∀ k, (1 = nl + k) = False := by intro k; simp; omega
  have n0 : ∀ k, (0 = nl + k) = False := by intro k; simp; omega
  have n5 : ∀ k, (5 = nl + k) = False := by intro k; simp; omega
  have n1' : (1 = nl) = False := by simp; omega
  have n0' : (0 = nl) = False := by simp; omega
  have n5' : (5 = nl) = False := by simp; omega
  have nz : (nl = 0) = False := by simp; omega
  simp only [List.length_append] at hsz
  -- behind the head
  have behind : ∀ (f : Nat → Value), f 0 = .pointer (some ⟨b, a, none⟩) → f 1 = v → f 5 = .int .i16 ver → f 6 = .bool (flagAt C flex ver) →
      (seqL ((Sw.genW C T PT 0 (ct0 C nl)).1 ++ [(secWI C T PT 0 sl ks tk (Sw.genW C T PT 0 (ct0 C nl)).2).1, .reg [⟨none, some (secWI C T PT 0 sl ks tk (Sw.genW C T PT 0 (ct0 C nl)).2).2.t, .move (.tmp 1), C.E.tBs⟩,
        ⟨none, some 4, .assign (.tmp (secWI C T PT 0 sl ks tk (Sw.genW C T PT 0 (ct0 C nl)).2).2.t), C.E.tBs⟩], .ret])).wp P
        (retPost P [.t 4] fun v' w' => OwnB C.E.tU8 w' base v' (s ++ (Sw.wr ver (flagAt C flex ver) x ++ secW ver (flagAt C flex ver) ks y u)) ∧ Grew w v w' v') f w := by
    intro f f0 f1 f5 f6
    have hfr : FrW C f 0 b a ver (flagAt C flex ver) (ct0 C nl).l := ⟨f0, ⟨by omega, by omega⟩, by rw [hc5]; exact f5, ⟨by omega, by omega⟩, ⟨fun hx => ⟨by rw [hc6]; exact f6, by omega⟩, fun hx => by rw [hfx] at hx; cases hx⟩, fun hx => by omega, by omega⟩
    have hd : Dst C f w base s := ⟨by rw [f1]; exact ho, hbase⟩
    refine seqL_append ?_
    refine soundW ht Sw T PT 0 (ct0 C nl) _ f w b a cs x ver (flagAt C flex ver) base s hty hN hfr (by omega) hb hcs hrep hok hd (by omega) ?_
    intro f' w' hw
    have hK : ∀ b, b < w.heap.size → b < base → ¬ own1 (f 1) b := fun b _ hb ho => by have := (Own.below hd.1 ho).1; omega
    refine seqL_cons ?_
    refine w_sec ht hfx huu hbs hub hku hT hsS htyk hNk hnd hlen hft ((hfr.keep hw.keep.keeps (Nat.le_refl _)).up hl7.1) (by omega) hb (CellsAt.ext (K := (· < base)) hw.grew.ext hK hcs hb) (KsRep_ext hw.grew.ext (K := (· < base)) hK ks hrk) hokk huv (hl.ext hw.grew.ext (K := (· < base)) hK) hoku hw.dst (by simp only [List.length_append]; omega) ?_
    intro f'' w'' hw2
    have hd2 := hw2.dst.1
    have hg2 := hw.grew.trans hw2.grew
    rw [f1] at hg2
    refine seqL_cons (wp_reg ?_)
    simp
    show retPost P _ _ .ret _ _
    simp
    exact ⟨by rw [← List.append_assoc]; exact hd2, hg2⟩
  have key : (seqL ([.reg [⟨none, some 4, .assign (.const (.slice none 0 0)), C.E.tBs⟩],
    .reg (addrR C T PT 0 0 nl ++ [⟨none, some (nl + 3), .load C.E.tI16 (.tmp (nl + 2)), C.E.tI16⟩, ⟨none, some 5, .assign (.tmp (nl + 3)), C.E.tI16⟩]),
    .reg [⟨none, some (nl + 4), .move (.tmp 5), C.E.tI16⟩]] ++ ([Ir.reg [⟨none, some (nl + 5), .move (.tmp 5), C.E.tI16⟩, ⟨none, some (nl + 6), .binOp .geq C.E.tI16 (.tmp (nl + 5)) (.const (.int .i16 flex)) C.E.tI16, C.E.tB⟩, ⟨none, some 6, .assign (.tmp (nl + 6)), C.E.tB⟩],
      .reg [⟨none, some (nl + 7), .move (.tmp 6), C.E.tB⟩]] ++ ((Sw.genW C T PT 0 (ct0 C nl)).1 ++ [(secWI C T PT 0 sl ks tk (Sw.genW C T PT 0 (ct0 C nl)).2).1, .reg [⟨none, some (secWI C T PT 0 sl ks tk (Sw.genW C T PT 0 (ct0 C nl)).2).2.t, .move (.tmp 1), C.E.tBs⟩,
        ⟨none, some 4, .assign (.tmp (secWI C T PT 0 sl ks tk (Sw.genW C T PT 0 (ct0 C nl)).2).2.t), C.E.tBs⟩], .ret])))).wp P
        (retPost P [.t 4] fun v' w' => OwnB C.E.tU8 w' base v' (s ++ (Sw.wr ver (flagAt C flex ver) x ++ secW ver (flagAt C flex ver) ks y u)) ∧ Grew w v w' v') (frame0 [.pointer (some ⟨b, a, none⟩), v]) w := by
    simp only [List.cons_append, List.nil_append]
    refine seqL_cons (wp_reg ?_)
    simp
    refine seqL_cons (wp_reg ?_)
    simp [addrR, h0, Addr.add_mk, ld_scl ht.kI16, cv, n0, n0']
    refine seqL_cons (wp_reg ?_)
    simp
    refine seqL_cons (wp_reg ?_)
    simp [n5, n5']
    refine seqL_cons (wp_reg ?_)
    simp
    refine behind _ ?_ ?_ ?_ ?_
    · simp [n0, n0']
    · simp [n1, n1', nz]
    · simp [n5, n5']
    · simp [flagAt, hfx]
  have e : msgWk C T PT sl flex Sw ks tk nl = seqL ([.reg [⟨none, some 4, .assign (.const (.slice none 0 0)), C.E.tBs⟩],
    .reg (addrR C T PT 0 0 nl ++ [⟨none, some (nl + 3), .load C.E.tI16 (.tmp (nl + 2)), C.E.tI16⟩, ⟨none, some 5, .assign (.tmp (nl + 3)), C.E.tI16⟩]),
    .reg [⟨none, some (nl + 4), .move (.tmp 5), C.E.tI16⟩]] ++ ([Ir.reg [⟨none, some (nl + 5), .move (.tmp 5), C.E.tI16⟩, ⟨none, some (nl + 6), .binOp .geq C.E.tI16 (.tmp (nl + 5)) (.const (.int .i16 flex)) C.E.tI16, C.E.tB⟩, ⟨none, some 6, .assign (.tmp (nl + 6)), C.E.tB⟩],
      .reg [⟨none, some (nl + 7), .move (.tmp 6), C.E.tB⟩]] ++ ((Sw.genW C T PT 0 (ct0 C nl)).1 ++ [(secWI C T PT 0 sl ks tk (Sw.genW C T PT 0 (ct0 C nl)).2).1, .reg [⟨none, some (secWI C T PT 0 sl ks tk (Sw.genW C T PT 0 (ct0 C nl)).2).2.t, .move (.tmp 1), C.E.tBs⟩,
        ⟨none, some 4, .assign (.tmp (secWI C T PT 0 sl ks tk (Sw.genW C T PT 0 (ct0 C nl)).2).2.t), C.E.tBs⟩], .ret]))) := by
    simp only [msgWk, List.append_assoc]
  rw [e]
  exact key
end
end Go.Kg

set_option linter.unusedSimpArgs false
set_option linter.unusedVariables false
namespace Go.Kg
open Go
structure TyTg (P : Program) (E : Env) : Prop extends TyWs P E where
  g0 : fldOff P E.t_kmsg_Tags 0 = some 0
  kM : kindOf P E.t_map_uint32_l_uint8 = .scl
  uM : P.underlying E.t_map_uint32_l_uint8 = some (.map E.tU32 E.tBs)
  kBs : kindOf P E.tBs = .scl
section
variable {P : Program} {E : Env} (ht : TyTg P E)
include ht
theorem isM : isMapT P E.t_map_uint32_l_uint8 = true := by simp [isMapT, ht.uM]
theorem c_TLen (hI : FnIs P E.f_pkmsg_Tags_Len nt_pkmsg_Tags_Len (rs_pkmsg_Tags_Len E) (ir_pkmsg_Tags_Len E)) (w : World) (K : Nat → Prop) (b o : Nat) (v : Value) (l : TagL) (hc : w.cell? ⟨b, o, none⟩ = some v) (hl : TagsAt w K v l) :
    Ret P E.f_pkmsg_Tags_Len #[.pointer (some ⟨b, o, none⟩)] w fun u w' => u = .int .i64 l.length ∧ w' = w := by
  refine hI.call (args := [_]) (by simp [nt_pkmsg_Tags_Len]) ?_
  simp [ir_pkmsg_Tags_Len, rs_pkmsg_Tags_Len, ht.g0, Addr.add_mk, ld_scl ht.kM, hc]
  rcases hl with ⟨rfl, rfl⟩ | ⟨bb, es, clock, rfl, _, hb, hs, _⟩
  · simp [isM ht, mapLen?]
  · simp [isM ht, mapLen?, hb, hs]
/-- No tags: Each does nothing. -/
theorem c_Each0 (hI : FnIs P E.f_pkmsg_Tags_Each nt_pkmsg_Tags_Each (rs_pkmsg_Tags_Each E) (ir_pkmsg_Tags_Each E)) (w : World) (b o : Nat) (v fn : Value) (K : Nat → Prop) (hc : w.cell? ⟨b, o, none⟩ = some v) (hl : TagsAt w K v []) :
    Ret P E.f_pkmsg_Tags_Each #[.pointer (some ⟨b, o, none⟩), fn] w fun u w' => w' = w := by
  refine hI.call (args := [_, _]) (by simp [nt_pkmsg_Tags_Each]) ?_
  have hlen : mapLen? w (match v with | .map m => m | _ => none) = some (.int .i64 0) ∧ ∃ m, v = .map m := by
    rcases hl with ⟨rfl, _⟩ | ⟨bb, es, clock, rfl, _, hb, hs, _⟩
    · exact ⟨rfl, _, rfl⟩
    · refine ⟨?_, _, rfl⟩
      simp only [mapLen?, hb]
      simp at hs
      simp [hs]
  obtain ⟨h1, m, rfl⟩ := hlen
  simp only at h1
  simp [ir_pkmsg_Tags_Each, rs_pkmsg_Tags_Each, ht.g0, Addr.add_mk, ld_scl ht.kM, hc, isM ht, h1]
  refine cw_true (by simp) ?_
  simp
end
end Go.Kg

set_option linter.unusedSimpArgs false
set_option linter.unusedVariables false
namespace Go.Kg
open Go
/-- An entry of the map says a tag. -/
def EntAt (w : World) (K : Nat → Prop) (c : Nat) (e : MapEntry) (x : Nat × List UInt8) : Prop := e.key = .int .u32 x.1 ∧ x.1 < 4294967296 ∧ e.born < c ∧ BytesAt w K e.val x.2
def EL (w : World) (K : Nat → Prop) (c : Nat) : List MapEntry → TagL → Prop
  | [], [] => True
  | e :: L, x :: l => EntAt w K c e x ∧ EL w K c L l
  | _, _ => False
theorem EL.of {w : World} {K : Nat → Prop} {c : Nat} : ∀ {L : List MapEntry} {l : TagL}, L.length = l.length → (∀ (i : Nat) e x, L[i]? = some e → l[i]? = some x → EntAt w K c e x) → EL w K c L l
  | [], [], _, _ => trivial
  | e :: L, x :: l, h, hx => ⟨hx 0 e x rfl rfl, EL.of (by simpa using h) (fun i e x h1 h2 => hx (i + 1) e x (by simpa using h1) (by simpa using h2))⟩
  | [], _ :: _, h, _ => by simp at h
  | _ :: _, [], h, _ => by simp at h
theorem EL.get {w : World} {K : Nat → Prop} {c : Nat} : ∀ {L : List MapEntry} {l : TagL}, EL w K c L l → L.length = l.length ∧ ∀ (i : Nat) e x, L[i]? = some e → l[i]? = some x → EntAt w K c e x
  | [], [], _ => ⟨rfl, fun i e x h => by simp at h⟩
  | e :: L, x :: l, h => ⟨by simpa using (EL.get h.2).1, fun i e' x' h1 h2 => by
      cases i with
      | zero => simp at h1 h2; subst h1; subst h2; exact h.1
      | succ i => exact (EL.get h.2).2 i e' x' (by simpa using h1) (by simpa using h2)⟩
  | [], _ :: _, h => h.elim
  | _ :: _, [], h => h.elim
theorem EL.up {w : World} {K : Nat → Prop} {c c' : Nat} (hc : c ≤ c') : ∀ {L : List MapEntry} {l : TagL}, EL w K c L l → EL w K c' L l
  | [], [], _ => trivial
  | e :: L, x :: l, h => ⟨⟨h.1.1, h.1.2.1, Nat.lt_of_lt_of_le h.1.2.2.1 hc, h.1.2.2.2⟩, EL.up hc h.2⟩
  | [], _ :: _, h => h.elim
  | _ :: _, [], h => h.elim
theorem EL.mem {w : World} {K : Nat → Prop} {c : Nat} : ∀ {L : List MapEntry} {l : TagL}, EL w K c L l → ∀ e ∈ L, ∃ x ∈ l, EntAt w K c e x
  | e :: L, x :: l, h, e', he => by
    rcases List.mem_cons.1 he with rfl | he
    · exact ⟨x, List.mem_cons_self .., h.1⟩
    · obtain ⟨y, hy, hh⟩ := EL.mem h.2 e' he; exact ⟨y, List.mem_cons_of_mem _ hy, hh⟩
/-- Tags as lists -/
theorem tagsAt_iff {w : World} {K : Nat → Prop} {v : Value} {l : TagL} : TagsAt w K v l ↔ (v = .map none ∧ l = []) ∨ ∃ b es clock, v = .map (some b) ∧ K b ∧ w.heap[b]? = some (.map es clock) ∧ EL w K clock es.toList l ∧ (l.map (·.1)).Nodup ∧ (es.toList.map (·.born)).Nodup ∧ (l.length < 4294967296 ∧ l ≠ []) := by
  constructor
  · rintro (h | ⟨b, es, clock, rfl, hk, hb, hs, hn, hl, hx⟩)
    · exact .inl h
    · exact .inr ⟨b, es, clock, rfl, hk, hb, EL.of (by simpa using hs) (fun i e x h1 h2 => hx i e x (by simpa using h1) h2), hn.1, hn.2, hl⟩
  · rintro (h | ⟨b, es, clock, rfl, hk, hb, he, h1, h2, hl⟩)
    · exact .inl h
    · have := he.get
      exact .inr ⟨b, es, clock, rfl, hk, hb, by simpa using this.1, ⟨h1, h2⟩, hl, fun i e x h1 h2 => this.2 i e x (by simpa using h1) h2⟩
theorem findNow_spec {w : World} {K : Nat → Prop} {c k : Nat} {v : Value} {s : List UInt8} (hk : k < 4294967296) (hv : BytesAt w K v s) : ∀ {L : List MapEntry} {l : TagL} (i : Nat), EL w K c L l →
    (Instr.findNow (.int .u32) (.int .u32 k) L i = some none ∧ EL w K (c + 1) (L ++ [{ key := .int .u32 k, val := v, born := c }]) (setTag k s l)) ∨
    (∃ j e, Instr.findNow (.int .u32) (.int .u32 k) L i = some (some (i + j, e.val)) ∧ L[j]? = some e ∧ e.key = .int .u32 k ∧ EL w K c (L.modify j fun e => { e with key := .int .u32 k, val := v }) (setTag k s l))
  | [], [], i, _ => .inl ⟨rfl, ⟨rfl, hk, Nat.lt_succ_self c, hv⟩, trivial⟩
  | e :: L, x :: l, i, h => by
    obtain ⟨⟨h1, h2, h3, h4⟩, h5⟩ := h
    by_cases hx : x.1 = k
    · refine .inr ⟨0, e, ?_, rfl, by rw [h1, hx], ?_⟩
      · simp [Instr.findNow, Instr.sameNow, h1, hx]
      · simp only [List.modify_zero_cons, setTag, if_pos hx]
        exact ⟨⟨rfl, hk, h3, hv⟩, h5⟩
    · have hne : ((k : Int) == (x.1 : Int)) = false := by simp; omega
      have hf : Instr.findNow (.int .u32) (.int .u32 k) (e :: L) i = Instr.findNow (.int .u32) (.int .u32 k) L (i + 1) := by
        simp [Instr.findNow, Instr.sameNow, h1, hne]
      rw [hf]
      rcases findNow_spec hk hv (i + 1) h5 with ⟨a1, a2⟩ | ⟨j, e', a1, a2, a3, a4⟩
      · refine .inl ⟨a1, ?_⟩
        simp only [setTag, if_neg hx]
        exact ⟨⟨h1, h2, Nat.lt_succ_of_lt h3, h4⟩, a2⟩
      · refine .inr ⟨j + 1, e', by rw [a1]; congr 3; omega, by simpa using a2, a3, ?_⟩
        simp only [setTag, if_neg hx, List.modify_succ_cons]
        exact ⟨⟨h1, h2, h3, h4⟩, a4⟩
  | [], _ :: _, i, h => h.elim
  | _ :: _, [], i, h => h.elim
theorem modify_born {j : Nat} {f : MapEntry → MapEntry} (hf : ∀ e, (f e).born = e.born) : ∀ L : List MapEntry, (L.modify j f).map (·.born) = L.map (·.born) := by
  induction j with
  | zero => intro L; cases L <;> simp [hf]
  | succ j ih => intro L; cases L with
    | nil => simp
    | cons e L => simp [ih L]
theorem check_u32 {P : Program} {T : TypeId} (hT : P.underlying T = some (.int .u32)) {w : World} {b : Bool} {k : Int} : (Instr.checkKey b 10000 T (.int .u32 k)).run P w = .ok () w := by
  have : ∀ n, (Instr.checkKey b (n + 1) T (.int .u32 k)).run P w = .ok () w := by intro n; simp [Instr.checkKey, run_underlying hT]
  exact this 9999
/-- m[k] = v -/
theorem run_mapUpdate {P : Program} {T KT VT : TypeId} (hT : P.underlying T = some (.map KT VT)) (hK : P.underlying KT = some (.int .u32)) {w : World} {K : Nat → Prop} {b k clock : Nat} {v : Value} {s : List UInt8} {es : Array MapEntry} {l : TagL}
    (hk : k < 4294967296) (hv : BytesAt w K v s) (hb : w.heap[b]? = some (.map es clock)) (he : EL w K clock es.toList l) (hn : (es.toList.map (·.born)).Nodup) :
    ∃ es' clock', (Instr.mapUpdate T (.map (some b)) (.int .u32 k) v).run P w = .ok () (w.setBlk b (.map es' clock')) ∧ EL w K clock' es'.toList (setTag k s l) ∧ (es'.toList.map (·.born)).Nodup := by
  have hget : (getObj b).run P w = .ok (.map es clock) w := by simp [getObj, Sem.run, hb]
  have hset : ∀ o, (setObj b o).run P w = .ok () (w.setBlk b o) := by intro o; simp [setObj, Sem.run, hb, World.setBlk]
  have hfk : ∀ r, Instr.findNow (.int .u32) (.int .u32 k) es.toList 0 = some r → (Instr.findKey KT (.int .u32 k) es.toList).run P w = .ok r w := by
    intro r hr; simp [Instr.findKey, run_underlying hK, hr]
  rcases findNow_spec hk hv 0 he with ⟨a1, a2⟩ | ⟨j, e, a1, a2, a3, a4⟩
  · refine ⟨es.push { key := .int .u32 k, val := v, born := clock }, clock + 1, ?_, by simpa using a2, ?_⟩
    · simp [Instr.mapUpdate, run_underlying hT, hget, check_u32 hK, hfk _ a1, hset]
    · simp only [Array.toList_push, List.map_append, List.map_cons, List.map_nil]
      rw [List.nodup_append]
      refine ⟨hn, by simp, ?_⟩
      intro a ha b hb
      simp only [List.mem_singleton] at hb
      obtain ⟨e, he1, rfl⟩ := List.mem_map.1 ha
      obtain ⟨x, _, hx⟩ := he.mem e he1
      have := hx.2.2.1
      omega
  · refine ⟨es.modify j fun e => { e with key := .int .u32 k, val := v }, clock, ?_, by simpa using a4, ?_⟩
    · have hj : es[j]? = some e := by simpa using a2
      have hsame : (Instr.sameBits 10000 (.int .u32 (k : Int)) (.int .u32 (k : Int))) = true := by simp [Instr.sameBits]
      simp [Instr.mapUpdate, run_underlying hT, hget, check_u32 hK, hfk _ a1, hset, Instr.keyThatStays, hj, a3, hsame]
    · simp only [Array.toList_modify]
      rw [modify_born]
      · exact hn
      · intro e; rfl
theorem EL.ext {C : Nat → Prop} {w w' : World} {D c : Nat} (he : Ext C w w') (hD : ¬ C D) : ∀ {L : List MapEntry} {l : TagL}, EL w (· = D) c L l → EL w' (· = D) c L l
  | [], [], _ => trivial
  | e :: L, x :: l, h => ⟨⟨h.1.1, h.1.2.1, h.1.2.2.1, h.1.2.2.2.ext he (fun b _ hb => by subst hb; exact hD)⟩, EL.ext he hD h.2⟩
  | [], _ :: _, h => h.elim
  | _ :: _, [], h => h.elim
theorem setTag_ne (k : Nat) (v : List UInt8) (l : TagL) : setTag k v l ≠ [] := by
  cases l with
  | nil => simp [setTag]
  | cons x l => simp only [setTag]; split <;> simp
/-- the map lies in a block from base on, the bytes in D -/
def TagsM (w : World) (D base : Nat) (u : Value) (l : TagL) : Prop :=
  (u = .map none ∧ l = []) ∨ ∃ m es clock, u = .map (some m) ∧ base ≤ m ∧ w.heap[m]? = some (.map es clock) ∧ EL w (· = D) clock es.toList l ∧ (es.toList.map (·.born)).Nodup ∧ l ≠ []
theorem TagsM.one {w : World} {D base : Nat} {u : Value} {l : TagL} (h : TagsM w D base u l) : u.oneCell' = true ∧ u.cells = #[u] := by
  rcases h with ⟨rfl, _⟩ | ⟨_, _, _, rfl, _⟩ <;> exact ⟨rfl, rfl⟩
@[simp] theorem stp_mapUpdate {P : Program} {f : Nat → Value} {ty : TypeId} {w : World} {K : Value → World → Prop} {T : TypeId} {a b c : Operand} : stp P f (.mapUpdate T a b c) ty w K = stepF P f (.mapUpdate T a b c) ty w K := (rfl)
@[simp] theorem stp_makeMap {P : Program} {f : Nat → Value} {ty : TypeId} {w : World} {K : Value → World → Prop} {T : TypeId} : stp P f (.makeMap T none) ty w K = K (.map (some w.heap.size)) (w.alloc (.map #[] 0)) := by
  show stepF P f (.makeMap T none) ty w K = _
  rw [stepF_ok (v := .map (some w.heap.size)) (w' := w.alloc (.map #[] 0))]
  simp [runF, execOp, Instr.makeMap, newObj, Sem.run]
section
variable {P : Program} {E : Env} (ht : TyTg P E)
include ht
/-- t.Set(key, val); t's cell lies in a block of its own. -/
theorem c_TSet (hu : P.underlying E.tU32 = some (.int .u32)) (hI : FnIs P E.f_pkmsg_Tags_Set nt_pkmsg_Tags_Set (rs_pkmsg_Tags_Set E) (ir_pkmsg_Tags_Set E)) {w : World} {D base b k : Nat} {u v : Value} {s : List UInt8} {l : TagL} {et : TypeId}
    (hk : k < 4294967296) (hv : BytesAt w (· = D) v s) (hc : w.heap[b]? = some (.cells #[u] et (0, 0))) (hl : TagsM w D base u l) (hD : D < base) (hb : base ≤ b) (hbs : base ≤ w.heap.size) :
    Ret P E.f_pkmsg_Tags_Set #[.pointer (some ⟨b, 0, none⟩), .int .u32 k, v] w fun _ w' => ∃ u', w'.heap[b]? = some (.cells #[u'] et (0, 0)) ∧ TagsM w' D base u' (setTag k s l) ∧ Ext (fun x => base ≤ x) w w' := by
  refine hI.call (args := [_, _, _]) (by simp [nt_pkmsg_Tags_Set]) ?_
  have c0 : w.cell? ⟨b, 0, none⟩ = some u := by rw [cell_of_blk hc]; rfl
  rcases hl with ⟨rfl, rfl⟩ | ⟨m, es, clock, rfl, hm, hmb, he, hn, _⟩
  · simp [ir_pkmsg_Tags_Set, rs_pkmsg_Tags_Set, ht.g0, Addr.add_mk, ld_scl ht.kM, c0, bin_nil_map ht.uM]
    refine cw_true (by simp) ?_
    have hb2 : (w.alloc (.map #[] 0)).heap[b]? = some (.cells #[.map none] et (0, 0)) := alloc_old hc
    have hne : w.heap.size ≠ b := fun h => by have := lt_of_heap hc; omega
    simp [ht.g0, Addr.add_mk, store_scl ht.kM, put1K_blk hb2]
    generalize hw1 : (w.alloc (.map #[] 0)).setBlk b (.cells #[.map (some w.heap.size)] et (0, 0)) = w1
    have hE : Ext (fun x => base ≤ x) w w1 := by subst hw1; exact ((Ext.refl _ w).alloc _).setBlk (Or.inr hb) _
    have hb1 : w1.heap[b]? = some (.cells #[.map (some w.heap.size)] et (0, 0)) := by subst hw1; exact setBlk_same hb2
    have hm1 : w1.heap[w.heap.size]? = some (.map #[] 0) := by subst hw1; rw [setBlk_other hne]; exact alloc_new
    have c1 : w1.cell? ⟨b, 0, none⟩ = some (.map (some w.heap.size)) := by rw [cell_of_blk hb1]; rfl
    obtain ⟨es', clock', hr, he', hn'⟩ := run_mapUpdate (es := #[]) (l := []) ht.uM hu hk (hv.ext hE (fun x _ hx => by subst hx; omega)) hm1 trivial (by simp)
    simp [c1, ld_scl ht.kM]
    refine ⟨rfl, ?_⟩
    rw [stepF_skip (w' := w1.setBlk w.heap.size (.map es' clock'))]
    · refine ⟨_, (by rw [setBlk_other (Ne.symm hne)]; exact hb1), .inr ⟨w.heap.size, es', clock', rfl, hbs, setBlk_same hm1, ?_, hn', setTag_ne _ _ _⟩, hE.setBlk (Or.inr hbs) _⟩
      exact EL.ext ((Ext.refl (fun x => base ≤ x) w1).setBlk (Or.inr hbs) _) (by omega) he'
    · simp [runF, execOp, hr]
  · simp [ir_pkmsg_Tags_Set, rs_pkmsg_Tags_Set, ht.g0, Addr.add_mk, ld_scl ht.kM, c0, bin_nil_map ht.uM]
    refine cw_false (by simp) ?_
    obtain ⟨es', clock', hr, he', hn'⟩ := run_mapUpdate ht.uM hu hk hv hmb he hn
    have hne : m ≠ b := fun h => by subst h; rw [hc] at hmb; cases hmb
    simp [ht.g0, Addr.add_mk, ld_scl ht.kM, c0]
    rw [stepF_skip (w' := w.setBlk m (.map es' clock'))]
    · refine ⟨_, (by rw [setBlk_other (Ne.symm hne)]; exact hc), .inr ⟨m, es', clock', rfl, hm, setBlk_same hmb, ?_, hn', setTag_ne _ _ _⟩, (Ext.refl _ w).setBlk (Or.inr hm) _⟩
      exact EL.ext ((Ext.refl (fun x => base ≤ x) w).setBlk (Or.inr hm) _) (by omega) he'
    · simp [runF, execOp, hr]
end
/-- what is kept while tags are read -/
structure RTs (E : Env) (w0 : World) (pb D : Nat) (rs0 : RS) (n : Nat) (f : Nat → Value) (w : World) (l : TagL) (rs : RS) (k : Nat) : Prop where
  f0 : f 0 = .pointer (some ⟨pb, 0, none⟩)
  f3 : f 3 = .pointer (some ⟨w0.heap.size + 1, 0, none⟩)
  f4 : f 4 = .int .u32 k
  f2 : f 2 = .pointer (some ⟨w0.heap.size, 0, none⟩)
  ext : Ext (· = pb) w0 w
  rd : RdAt E.tRd w pb D rs
  cell : ∃ u, w.heap[w0.heap.size + 1]? = some (.cells #[u] E.t_kmsg_Tags (0, 0)) ∧ TagsM w D (w0.heap.size + 1) u l
  res : w.heap[w0.heap.size]? = some (.cells #[.map none] E.t_kmsg_Tags (0, 0))
  nd : (l.map (·.1)).Nodup
  len : l.length + k ≤ n
  todo : rdTagN k l rs = rdTagN n [] rs0
  kn : n < 4294967296
theorem Ext.grow {C : Nat → Prop} {a b c : World} {n : Nat} (h : Ext C a b) (k : Ext (fun x => n ≤ x) b c) (hn : a.heap.size ≤ n) : Ext C a c :=
  ⟨k.os.trans h.os, k.tape.trans h.tape, k.output.trans h.output, Nat.le_trans h.size k.size, fun i hi hc => (k.block i (Nat.lt_of_lt_of_le hi h.size) (by omega)).trans (h.block i hi hc)⟩
theorem EL.mono {w : World} {K K' : Nat → Prop} {c : Nat} (hk : ∀ b, K b → K' b) : ∀ {L : List MapEntry} {l : TagL}, EL w K c L l → EL w K' c L l
  | [], [], _ => trivial
  | e :: L, x :: l, h => ⟨⟨h.1.1, h.1.2.1, h.1.2.2.1, h.1.2.2.2.mono (fun b _ => hk b)⟩, EL.mono hk h.2⟩
  | [], _ :: _, h => h.elim
  | _ :: _, [], h => h.elim
theorem setTag_len1 (k : Nat) (v : List UInt8) (l : TagL) : (setTag k v l).length ≤ l.length + 1 := (setTag_len k v l).1
theorem TagsM.ext {C : Nat → Prop} {w w' : World} {D base : Nat} {u : Value} {l : TagL} (h : TagsM w D base u l) (he : Ext C w w') (hD : ¬ C D) (hC : ∀ k, k < w.heap.size → base ≤ k → ¬ C k) : TagsM w' D base u l := by
  rcases h with h | ⟨m, es, clock, rfl, hm, hb, h1, h2⟩
  · exact .inl h
  · exact .inr ⟨m, es, clock, rfl, hm, he.old hb (hC m (lt_of_heap hb) hm), h1.ext he hD, h2⟩
section
variable {P : Program} {E : Env} (ht : TyTg P E)
include ht
set_option maxHeartbeats 1000000 in
theorem c_readTags (C : CfgR) (hE : C.E = E) (hu : P.underlying E.tU32 = some (.int .u32)) (hi : intKind? P E.tU32 = some .u32) (hi' : intKind? P E.tInt = some .i64) (hk : kindOf P E.t_kmsg_Tags = .agg 1) (hz : zeroOf P E.t_kmsg_Tags = some (.agg #[.map none]))
    (hI : FnIs P E.f_kmsg_internalReadTags nt_kmsg_internalReadTags (rs_kmsg_internalReadTags E) (ir_kmsg_internalReadTags E))
    (hU : RdC P E.tRd E.f_pkbin_Reader_Uvarint fun rs => (.int .u32 (rdUv rs).1, (rdUv rs).2)) (hS : SpanC P E.tRd E.f_pkbin_Reader_Span)
    (hT : ∀ {w : World} {D base b k : Nat} {u v : Value} {s : List UInt8} {l : TagL} {et : TypeId}, k < 4294967296 → BytesAt w (· = D) v s → w.heap[b]? = some (.cells #[u] et (0, 0)) → TagsM w D base u l → D < base → base ≤ b → base ≤ w.heap.size →
      Ret P E.f_pkmsg_Tags_Set #[.pointer (some ⟨b, 0, none⟩), .int .u32 k, v] w fun _ w' => ∃ u', w'.heap[b]? = some (.cells #[u'] et (0, 0)) ∧ TagsM w' D base u' (setTag k s l) ∧ Ext (fun x => base ≤ x) w w') : TagsRC P C := by
  subst hE
  intro w pb D rs hne hD hr
  refine hI.call (args := [_]) (by simp [nt_kmsg_internalReadTags]) ?_
  have hlt : pb < w.heap.size := by obtain ⟨sv, hb, _⟩ := hr; exact lt_of_heap hb
  simp [ir_kmsg_internalReadTags, rs_kmsg_internalReadTags, hz, Value.cells]
  generalize hw1 : w.alloc (.cells #[.map none] C.E.t_kmsg_Tags) = w1
  have hs1 : w1.heap.size = w.heap.size + 1 := by subst hw1; simp
  have hx1 : Ext none1 w w1 := by subst hw1; exact (Ext.refl _ w).alloc _
  have hb0 : w1.heap[w.heap.size]? = some (.cells #[.map none] C.E.t_kmsg_Tags (0, 0)) := by subst hw1; exact alloc_new
  generalize hw2 : w1.alloc (.cells #[.map none] C.E.t_kmsg_Tags) = w2
  have hs2 : w2.heap.size = w.heap.size + 2 := by subst hw2; simp [hs1]
  have hx2 : Ext none1 w w2 := by subst hw2; exact hx1.alloc _
  have hb1 : w2.heap[w.heap.size + 1]? = some (.cells #[.map none] C.E.t_kmsg_Tags (0, 0)) := by subst hw2; rw [← hs1]; exact alloc_new
  have hb02 : w2.heap[w.heap.size]? = some (.cells #[.map none] C.E.t_kmsg_Tags (0, 0)) := by subst hw2; exact alloc_old hb0
  have hr2 : RdAt C.E.tRd w2 pb D rs := RdAt.ext hr hx2 (fun h => h) (fun h => h)
  refine (hU w2 pb D rs hne hr2).mono ?_
  rintro _ w3 ⟨rfl, hx3, hr3⟩
  simp
  have hx03 : Ext (· = pb) w w3 := (hx2.mono (fun _ _ h => h.elim)).trans hx3
  refine cw_loop (fun f w' => ∃ l rs' k, RTs C.E w pb D (rdUv rs).2 (rdUv rs).1 f w' l rs' k) (fun f _ => match f 4 with | .int _ n => n.toNat | _ => 0) ?_ ?_
  · refine ⟨[], (rdUv rs).2, (rdUv rs).1, by simp, by simp [hs1], by simp, by simp, hx03, hr3, ⟨.map none, hx3.old hb1 (by omega), .inl ⟨rfl, rfl⟩⟩, hx3.old hb02 (by omega), by simp, by simp, rfl, rdUv_lt rs⟩
  · rintro f w4 ⟨l, rs4, k, h⟩
    simp [h.f4]
    by_cases hk0 : k = 0
    · refine cw_false (by simp [hk0]) ?_
      obtain ⟨u, hc, hM⟩ := h.cell
      have c0 : w4.cell? ⟨w.heap.size + 1, 0, none⟩ = some u := by rw [cell_of_blk hc]; rfl
      have hone := hM.one
      simp [h.f3, h.f2, ld_agg hk, cellsFrom, Addr.add_mk, c0, store_agg hk, allOne, hone.1, putK_blk h.res]
      have hov : over #[Value.map none] 0 [u] = #[u] := rfl
      simp only [hov]
      generalize hw5 : w4.setBlk w.heap.size (.cells #[u] C.E.t_kmsg_Tags (0, 0)) = w5
      have hb5 : w5.heap[w.heap.size]? = some (.cells #[u] C.E.t_kmsg_Tags (0, 0)) := by subst hw5; exact setBlk_same h.res
      have c5 : w5.cell? ⟨w.heap.size, 0, none⟩ = some u := by rw [cell_of_blk hb5]; rfl
      simp [c5]
      have hx5 : Ext (fun x => x = w.heap.size) w4 w5 := by subst hw5; exact (Ext.refl (fun x => x = w.heap.size) w4).setBlk (b := w.heap.size) (Or.inr rfl) _
      have hlen := h.len
      have hkn := h.kn
      have htodo := h.todo
      subst hk0
      simp only [rdTagN] at htodo
      have hl1 : (rdTags rs).1 = l := by rw [rdTags, ← htodo]
      have hl2 : (rdTags rs).2 = rs4 := by rw [rdTags, ← htodo]
      refine ⟨?_, by subst hw5; exact h.ext.setBlk (Or.inl (Nat.le_refl _)) _, ?_⟩
      · rw [hl1, tagsAt_iff]
        rcases hM with ⟨rfl, rfl⟩ | ⟨m, es, clock, rfl, hm, hmb, he, hn, hne⟩
        · exact .inl ⟨rfl, rfl⟩
        · refine .inr ⟨m, es, clock, rfl, .inr (by omega), hx5.old hmb ?_, ?_, h.nd, hn, by omega, hne⟩
          · intro e; subst e; rw [h.res] at hmb; cases hmb
          · exact EL.mono (fun b hb => .inl hb) (he.ext hx5 (by omega))
      · rw [hl2]
        exact RdAt.ext h.rd hx5 (by omega) (by omega)
    · refine cw_true (by simp; omega) ?_
      simp [h.f0]
      refine (hU w4 pb D rs4 hne h.rd).mono ?_
      rintro _ w5 ⟨rfl, hx5, hr5⟩
      simp [h.f0]
      refine (hU w5 pb D _ hne hr5).mono ?_
      rintro _ w6 ⟨rfl, hx6, hr6⟩
      simp [h.f0, hi, hi']
      have hwr : IntKind.i64.wrap ((rdUv (rdUv rs4).2).1 : Int) = ((rdUv (rdUv rs4).2).1 : Int) := i64_small (by omega) (by have := rdUv_lt (rdUv rs4).2; omega)
      rw [hwr]
      refine (hS w6 pb D _ _ hne hr6).mono ?_
      rintro v w7 ⟨hv, _, hx7, hr7⟩
      simp [h.f3]
      have hx47 : Ext (· = pb) w4 w7 := (hx5.trans hx6).trans hx7
      obtain ⟨u, hc, hM⟩ := h.cell
      have hsz := h.ext.size
      have hc7 : w7.heap[w.heap.size + 1]? = some (.cells #[u] C.E.t_kmsg_Tags (0, 0)) := hx47.old hc (by omega)
      refine (hT (rdUv_lt rs4) hv hc7 (hM.ext hx47 (fun e => hne e.symm) (by intro k _ hk e; omega)) (by omega) (by omega) (by have := lt_of_heap hc7; omega)).mono ?_
      rintro _ w8 ⟨u', hc8, hM8, hx8⟩
      simp [h.f4]
      have hkn := h.kn
      have hln := h.len
      have hwk : IntKind.u32.wrap ((k : Int) - 1) = ((k - 1 : Nat) : Int) := by simp [IntKind.wrap, IntKind.signed, IntKind.bits]; omega
      refine ⟨⟨_, _, k - 1, ⟨by simp [h.f0], by simp [h.f3], by simp [hwk], by simp [h.f2], ?_, hr7.ext hx8 (by omega) (by omega), ⟨u', hc8, hM8⟩, ?_, setTag_nodup _ _ _ h.nd, ?_, ?_, hkn⟩⟩, ?_⟩
      · exact (h.ext.trans hx47).grow hx8 (by omega)
      · exact hx8.old (hx47.old h.res (by omega)) (by omega)
      · exact Nat.le_trans (Nat.add_le_add_right (setTag_len1 _ _ l) _) (by omega)
      · rw [← h.todo]
        obtain ⟨k', rfl⟩ : ∃ k', k = k' + 1 := ⟨k - 1, by omega⟩
        simp only [Nat.add_sub_cancel, rdTagN, rdTag]
      · rw [hwk]; omega
end
end Go.Kg

set_option linter.unusedSimpArgs false
set_option linter.unusedVariables false
set_option linter.unusedSectionVars false
namespace Go.Kg
open Go
/-- what is told of a thing lies in blocks of K that are there -/
theorem Sch.Rep_ltK {w : World} {K : Nat → Prop} : ∀ (S : Sch) {cs : List Value} {x : S.T}, S.Rep w K cs x → S.Rep w (fun k => K k ∧ k < w.heap.size) cs x := by
  have hB : ∀ {v : Value} {s : List UInt8}, BytesAt w K v s → BytesAt w (fun k => K k ∧ k < w.heap.size) v s := by
    rintro v s (h | ⟨b, o, c, h1, h2, h3, h4⟩)
    · exact .inl h
    · refine .inr ⟨b, o, c, h1, h2, fun hs => ?_, h4⟩
      cases s with
      | nil => exact absurd rfl hs
      | cons y s => exact ⟨h3 hs, World.block_lt_of_cell? w _ (h4 0 y rfl)⟩
  have hP : ∀ {p : Prim} {v : Value} {x : p.T}, p.rep1 w K v x → p.rep1 w (fun k => K k ∧ k < w.heap.size) v x := by
    intro p v x h
    cases p with
    | bytes => exact hB h
    | nstr =>
      cases x with
      | none => exact h
      | some l => obtain ⟨a, h1, h2, h3⟩ := h; exact ⟨a, h1, ⟨h2, World.block_lt_of_cell? w _ h3⟩, h3⟩
    | nbytes =>
      cases x with
      | none => exact h
      | some l => exact ⟨hB h.1, h.2⟩
    | _ => exact h
  have hA : ∀ {sz : Nat} {v : Value} {ls : Option (List (List Value))}, ArrAt w K sz v ls → InHeap w v → ArrAt w (fun k => K k ∧ k < w.heap.size) sz v ls := by
    intro sz v ls h hi
    cases ls with
    | none => exact h
    | some ls => obtain ⟨b, o, c, rfl, hk, hn, hx⟩ := h; exact ⟨b, o, c, rfl, ⟨hk, hi _ _ _ rfl⟩, hn, hx⟩
  intro S
  induction S with
  | fin => intro cs x h; trivial
  | tags k o =>
    intro cs x ⟨v, h1, h2⟩
    refine ⟨v, h1, ?_⟩
    rcases h2 with h | ⟨b, es, clock, rfl, hk, hb, hs, hn, hl, hx⟩
    · exact .inl h
    · refine .inr ⟨b, es, clock, rfl, ⟨hk, lt_of_heap hb⟩, hb, hs, hn, hl, fun i e x h1 h2 => ?_⟩
      obtain ⟨a1, a2, a3, a4⟩ := hx i e x h1 h2
      exact ⟨a1, a2, a3, hB a4⟩
  | prim g k o p en d rest ih => intro cs x ⟨⟨v, h1, h2⟩, h3⟩; exact ⟨⟨v, h1, hP h2⟩, ih h3⟩
  | arrP g k o sT nul p rest ih =>
    intro cs x ⟨⟨v, ls, h1, h2, h3, h4, h5⟩, h6⟩
    refine ⟨⟨v, ls, h1, hA h2 h3.2, h3, h4, fun i es y hi hy => ?_⟩, ih h6⟩
    obtain ⟨u, a1, a2⟩ := h5 i es y hi hy
    exact ⟨u, a1, hP a2⟩
  | arrS g k o sT nul T PT sz df e rest ihe ih =>
    intro cs x ⟨⟨v, ls, h1, h2, h3, h4, h5⟩, h6⟩
    exact ⟨⟨v, ls, h1, hA h2 h3.2, h3, h4, fun i es y hi hy => ihe (h5 i es y hi hy)⟩, ih h6⟩
  | sub g k o T PT sz df e rest ihe ih => intro cs x ⟨h1, h2⟩; exact ⟨ihe h1, ih h2⟩
  | opt g k o T PT PP sz df e rest ihe ih =>
    intro cs x ⟨⟨v, h1, h2, h3⟩, h4⟩
    refine ⟨⟨v, h1, h2, fun y hy => ?_⟩, ih h4⟩
    obtain ⟨b, c, es, a1, a2, a3, a4, a5, a6⟩ := h3 y hy
    exact ⟨b, c, es, a1, ⟨a2, a3⟩, a3, a4, a5, ihe a6⟩
def KF.sv : (f : KF) → f.c.T → f.sch.T
  | ⟨_, _, _, .prim _ _⟩, x => (x, ())
  | ⟨_, _, _, .arr _ _ _ _ _ _⟩, x => (x, ())
  | ⟨_, _, _, .str _ _ _ _ _ _ _⟩, x => (x, ())
theorem KF.rep_sch {w : World} {K : Nat → Prop} {cs : List Value} (f : KF) (x : f.c.T) (h : f.c.Rep w K cs f.o x) : f.sch.Rep w K cs (f.sv x) := by
  obtain ⟨num, k, o, c⟩ := f
  cases c with
  | prim p d => exact ⟨h, trivial⟩
  | arr sT T PT sz df e => exact ⟨h, trivial⟩
  | str T PT sz df sm mk e => exact ⟨h.2, trivial⟩
theorem KF.rep_back {w w0 : World} {K K0 : Nat → Prop} {cs : List Value} (f : KF) (x : f.c.T) (h0 : f.c.Rep w0 K0 cs f.o x) (h : f.sch.Rep w K cs (f.sv x)) : f.c.Rep w K cs f.o x := by
  obtain ⟨num, k, o, c⟩ := f
  cases c with
  | prim p d => exact h.1
  | arr sT T PT sz df e => exact h.1
  | str T PT sz df sm mk e => exact ⟨h0.1, h.1⟩
theorem KsRep_ltK {w : World} {K : Nat → Prop} {cs : List Value} : ∀ (l : List KF) {x : KsT l}, KsRep w K cs l x → KsRep w (fun k => K k ∧ k < w.heap.size) cs l x
  | [], _, _ => trivial
  | f :: l, (v, r), h => ⟨f.rep_back v h.1 (Sch.Rep_ltK f.sch (f.rep_sch v h.1)), KsRep_ltK l h.2⟩
theorem KsRep_mono {w : World} {K K' : Nat → Prop} (hK : ∀ b, K b → K' b) {cs : List Value} : ∀ (l : List KF) {x : KsT l}, KsRep w K cs l x → KsRep w K' cs l x
  | [], _, _ => trivial
  | f :: l, (v, r), h => ⟨f.rep_back v h.1 (Sch.Rep_mono hK f.sch (f.rep_sch v h.1)), KsRep_mono hK l h.2⟩
/-- how many cells a known tag's field has -/
def KF.sz (f : KF) : Nat := match f.c with
  | .prim p _ => p.sz
  | .arr _ _ _ _ _ _ => 1
  | .str _ _ sz _ _ _ _ => sz
theorem Kn.Rep_cells {w : World} {K : Nat → Prop} {cs cs' : List Value} (f : KF) {x : f.c.T} (hc : ∀ j, f.o ≤ j → j < f.o + f.sz → cs'[j]? = cs[j]?) (h : f.c.Rep w K cs f.o x) : f.c.Rep w K cs' f.o x := by
  obtain ⟨num, k, o, c⟩ := f
  cases c with
  | prim p d =>
    simp only [KF.sz] at hc
    obtain ⟨v, h1, h2⟩ := h
    refine ⟨v, fun j u hj => ?_, h2⟩
    have h3 := rep1_sz h2
    have h4 := (List.getElem?_eq_some_iff.1 hj).1
    have h5 : j < p.sz := by rw [← h3]; simpa using h4
    have h6 := hc (o + j) (by omega) (by omega)
    simp only at h6 ⊢
    rw [h6]
    exact h1 j u hj
  | arr sT T PT sz df e =>
    simp only [KF.sz] at hc
    obtain ⟨v, ls, h1, h2, h3, h4, h5⟩ := h
    exact ⟨v, ls, (hc o (Nat.le_refl _) (by omega)).trans h1, h2, h3, h4, h5⟩
  | str T PT sz df sm mk e =>
    simp only [KF.sz] at hc
    have e1 : (cs'.drop o).take sz = (cs.drop o).take sz := by
      apply List.ext_getElem?
      intro j
      by_cases hj : j < sz
      · rw [List.getElem?_take, List.getElem?_take, if_pos hj, if_pos hj, List.getElem?_drop, List.getElem?_drop]
        exact hc _ (by omega) (by omega)
      · rw [List.getElem?_take, List.getElem?_take, if_neg hj, if_neg hj]
    show ((cs'.drop o).take sz).length = sz ∧ e.Rep w K ((cs'.drop o).take sz) x
    rw [e1]; exact h
section
variable {P : Program} {E : Env} (ht : TyTg P E)
include ht
/-- t.Set(key, val); t is a struct's field -/
theorem c_TSetM (hu : P.underlying E.tU32 = some (.int .u32)) (hI : FnIs P E.f_pkmsg_Tags_Set nt_pkmsg_Tags_Set (rs_pkmsg_Tags_Set E) (ir_pkmsg_Tags_Set E)) {w : World} {D base b o k : Nat} {u v : Value} {s : List UInt8} {l : TagL} {cc : Array Value} {et : TypeId}
    (hk : k < 4294967296) (hv : BytesAt w (· = D) v s) (hc : w.heap[b]? = some (.cells cc et (0, 0))) (hco : cc[o]? = some u) (hl : TagsM w D base u l) (hD : D < base) (hDb : D ≠ b) (hbs : base ≤ w.heap.size) :
    Ret P E.f_pkmsg_Tags_Set #[.pointer (some ⟨b, o, none⟩), .int .u32 k, v] w fun _ w' => ∃ u', w'.heap[b]? = some (.cells (cc.setIfInBounds o u') et (0, 0)) ∧ TagsM w' D base u' (setTag k s l) ∧ Ext (fun x => x = b ∨ u = .map (some x)) w w' ∧ (u' = u ∨ u' = .map (some w.heap.size)) := by
  refine hI.call (args := [_, _, _]) (by simp [nt_pkmsg_Tags_Set]) ?_
  have holt : o < cc.size := (Array.getElem?_eq_some_iff.1 hco).1
  have c0 : w.cell? ⟨b, o, none⟩ = some u := by rw [cell_of_blk hc]; exact hco
  rcases hl with ⟨rfl, rfl⟩ | ⟨m, es, clock, rfl, hm, hmb, he, hn, _⟩
  · simp [ir_pkmsg_Tags_Set, rs_pkmsg_Tags_Set, ht.g0, Addr.add_mk, ld_scl ht.kM, c0, bin_nil_map ht.uM]
    refine cw_true (by simp) ?_
    have hb2 : (w.alloc (.map #[] 0)).heap[b]? = some (.cells cc et (0, 0)) := alloc_old hc
    have hne : w.heap.size ≠ b := fun h => by have := lt_of_heap hc; omega
    simp [ht.g0, Addr.add_mk, store_scl ht.kM, put1K_blk hb2]
    refine ⟨rfl, holt, ?_⟩
    generalize hw1 : (w.alloc (.map #[] 0)).setBlk b (.cells (cc.setIfInBounds o (.map (some w.heap.size))) et (0, 0)) = w1
    have hE : Ext (fun x => x = b) w w1 := by subst hw1; exact ((Ext.refl (fun x => x = b) w).alloc _).setBlk (Or.inr rfl) _
    have hb1 : w1.heap[b]? = some (.cells (cc.setIfInBounds o (.map (some w.heap.size))) et (0, 0)) := by subst hw1; exact setBlk_same hb2
    have hm1 : w1.heap[w.heap.size]? = some (.map #[] 0) := by subst hw1; rw [setBlk_other hne]; exact alloc_new
    have c1 : w1.cell? ⟨b, o, none⟩ = some (.map (some w.heap.size)) := by rw [cell_of_blk hb1]; simp [holt]
    obtain ⟨es', clock', hr, he', hn'⟩ := run_mapUpdate (es := #[]) (l := []) ht.uM hu hk (hv.ext hE (fun x _ hx h => hDb (hx.symm.trans h))) hm1 trivial (by simp)
    simp [c1, ld_scl ht.kM]
    rw [stepF_skip (w' := w1.setBlk w.heap.size (.map es' clock'))]
    · refine ⟨_, (by rw [setBlk_other (Ne.symm hne)]; exact hb1), .inr ⟨w.heap.size, es', clock', rfl, hbs, setBlk_same hm1, ?_, hn', setTag_ne _ _ _⟩, hE.setBlk (Or.inl (Nat.le_refl _)) _, .inr rfl⟩
      exact EL.ext ((Ext.refl (fun x => base ≤ x) w1).setBlk (Or.inr hbs) _) (by omega) he'
    · simp [runF, execOp, hr]
  · simp [ir_pkmsg_Tags_Set, rs_pkmsg_Tags_Set, ht.g0, Addr.add_mk, ld_scl ht.kM, c0, bin_nil_map ht.uM]
    refine cw_false (by simp) ?_
    obtain ⟨es', clock', hr, he', hn'⟩ := run_mapUpdate ht.uM hu hk hv hmb he hn
    have hne : m ≠ b := fun h => by subst h; rw [hc] at hmb; cases hmb
    simp [ht.g0, Addr.add_mk, ld_scl ht.kM, c0]
    rw [stepF_skip (w' := w.setBlk m (.map es' clock'))]
    · have hcc : cc.setIfInBounds o (.map (some m)) = cc := by
        apply Array.ext_getElem?
        intro j
        rw [Array.getElem?_setIfInBounds]
        split
        · rename_i h; subst h; first | rw [hco] | rw [if_pos holt, hco]
        · rfl
      refine ⟨.map (some m), (by rw [setBlk_other (Ne.symm hne), hcc]; exact hc), .inr ⟨m, es', clock', rfl, hm, setBlk_same hmb, ?_, hn', setTag_ne _ _ _⟩, (Ext.refl _ w).setBlk (Or.inr (.inr rfl)) _, .inl rfl⟩
      exact EL.ext ((Ext.refl (fun x => base ≤ x) w).setBlk (Or.inr hm) _) (by omega) he'
    · simp [runF, execOp, hr]
end
theorem NeedR_rs {P : Program} {C : CfgR} (l : Nat) : ∀ S : Sch, S.NeedR P C → S.NeedR P { C with rs := l } := by
  intro S
  induction S with
  | fin => intro _; trivial
  | tags k o => intro h; exact h
  | prim g k o p en d rest ih => intro h; exact ⟨h.1, ih h.2⟩
  | arrP g k o sT nul p rest ih => intro h; exact ⟨h.1, h.2.1, ⟨⟨h.2.2.1.complete⟩, h.2.2.1.ok⟩, ih h.2.2.2⟩
  | arrS g k o sT nul T PT sz df e rest ihe ih => intro h; exact ⟨h.1, ⟨⟨h.2.1.complete⟩, h.2.1.ok⟩, h.2.2.1, ihe h.2.2.2.1, ih h.2.2.2.2⟩
  | sub g k o T PT sz df e rest ihe ih => intro h; exact ⟨h.1, ihe h.2.1, ih h.2.2⟩
  | opt g k o T PT PP sz df e rest ihe ih => intro h; exact ⟨h.1, ⟨⟨h.2.1.complete⟩, h.2.1.ok⟩, h.2.2.1, ihe h.2.2.2.1, ih h.2.2.2.2⟩
theorem tyR_rs {P : Program} {C : CfgR} (l : Nat) : ∀ (S : Sch) (T n lo : Nat), S.tyR P { C with rs := l } T n lo = S.tyR P C T n lo := by
  intro S
  induction S with
  | fin => intro T n lo; rfl
  | tags k o => intro T n lo; rfl
  | prim g k o p en d rest ih => intro T n lo; simp only [Sch.tyR, ih]
  | arrP g k o sT nul p rest ih => intro T n lo; simp only [Sch.tyR, ih]
  | arrS g k o sT nul T' PT sz df e rest ihe ih => intro T n lo; simp only [Sch.tyR, ihe, ih]
  | sub g k o T' PT sz df e rest ihe ih => intro T n lo; simp only [Sch.tyR, ihe, ih]
  | opt g k o T' PT PP sz df e rest ihe ih => intro T n lo; simp only [Sch.tyR, ihe, ih]
theorem TyR_rs {P : Program} {C : CfgR} (l : Nat) (h : TyR P C) : TyR P { C with rs := l } := ⟨h.c, h.uu, h.kTags, h.i32⟩
end Go.Kg

set_option linter.unusedSimpArgs false
set_option linter.unusedVariables false
set_option linter.unusedSectionVars false
namespace Go.Kg
open Go
def Sch.flatB : Sch → Bool
  | .fin => true
  | .tags _ _ => true
  | .prim g _ _ _ en _ rest => g.lo.isNone && en == 0 && rest.flatB
  | _ => false
section
variable {P : Program} {C : CfgR}
def SoundRF (P : Program) (C : CfgR) (S : Sch) : Prop := ∀ (T PT pv : Nat) (c : Ct) (Q : Post) (f : Nat → Value) (w : World) (b a n lo : Nat) (cc : Array Value) (e : TypeId) (ver : Int) (R : Rdr) (rs : RS),
  S.flatB = true → S.tyR P C T n lo = true → S.NeedR P C → FrR C R f pv b a ver true c.l → (S.genR C T PT pv c).2.l ≤ c.t → StR C R b a n w cc e rs →
  (∀ x rs', S.rd ver true rs = some (x, rs') → ∀ f' w' cc', RdTo C R b a n lo w cc e f c.l (S.genR C T PT pv c).2.l c.t rs' f' w' cc' → S.Rep w' (RK R) (segL cc' a n) x → Q .normal f' w') →
  (seqL (S.genR C T PT pv c).1).wp P Q f w
theorem soundRF_tags (ht : TyR P C) (k o : Nat) : SoundRF P C (.tags k o) := by
  intro T PT pv c Q f w b a n lo cc e ver R rs _ hty hN hf hc hs h1
  simp only [Sch.tyR, Bool.and_eq_true, beq_iff_eq, decide_eq_true_eq] at hty
  obtain ⟨⟨⟨hx, hF⟩, hlo⟩, hn⟩ := hty
  have hlt : c.l ≤ c.t := hc
  have hn10 := hf.nN
  have hpt := hf.ptrN
  refine seqL_one ?_
  refine r_cond (hf.flg hx) (by omega) ?_ ?_
  · rintro - f1 hk1
    refine wp_reg ?_
    have p1 : f1 pv = .pointer (some ⟨b, a, none⟩) := (hk1 pv (by omega)).trans hf.ptr
    have hrs := hf.rsN
    have p7 : f1 C.rs = .pointer (some ⟨R.pb, 0, none⟩) := (hk1 C.rs (by omega)).trans hf.rd
    have z7 : ∀ n, (C.rs = c.t + n) = False := by intro n; simp; omega
    have zp : ∀ n, (pv = c.t + n) = False := by intro n; simp; omega
    simp [p1, p7, z7, zp]
    refine (hN w R.pb R.D rs hs.rw_.ne.1 (Nat.lt_of_lt_of_le hs.rw_.lt.2.2.1 hs.rw_.lt.2.2.2) hs.rd).mono ?_
    rintro _ w1 ⟨⟨v, rfl, hv⟩, he1, hr1⟩
    have hs1 := hs.ext1 he1 hr1
    have hv1 : v.oneCell' = true := by
      rcases hv with ⟨rfl, _⟩ | ⟨_, _, _, rfl, _⟩ <;> rfl
    have hK : ∀ k, k = R.D ∨ w.heap.size ≤ k → RK R k := by
      rintro k (h | h)
      · exact .inl h
      · exact .inr (Nat.le_trans hs.rw_.lt.2.2.2 h)
    have huc : v.cells = #[v] := by cases v <;> simp_all [Value.oneCell', Value.cells]
    have hfit := hs1.fit
    simp [hF, Addr.add_mk, store_agg ht.kTags, allOne, hv1, putK_blk hs1.blk, over_one (show a + o < cc.size by omega)]
    refine ⟨by omega, ?_⟩
    have hput := put_one (cc := cc) (o := a + o) hv1 (by omega)
    refine h1 (rdTags rs).1 (rdTags rs).2 rfl _ _ _ ((RdTo.read hs he1 hr1 (KeepR.refl _ _ _ _)).trans (RdTo.put hs1 hput hlo (by rw [huc]; exact hn) (l := c.l) (m := c.l) (t := c.t) ?_) (Nat.le_refl _) (Nat.le_refl _) (Nat.le_refl _) (Nat.le_refl _)) ?_
    · intro y hy1 hy
      have x3 : ∀ n, (y = c.t + n) = False := by intro n; simp; omega
      simp [x3]
      exact hk1 y (by omega)
    · refine ⟨v, ?_, ?_⟩
      · rw [segL_get (by omega)]
        simp [Array.getElem?_setIfInBounds]; omega
      · have hE : Ext (fun k => k = b) w1 (w1.setBlk b (.cells (cc.setIfInBounds (a + o) v) e (0, 0))) := (Ext.refl (fun k => k = b) w1).setBlk (b := b) (Or.inr rfl) _
        exact TagsAt.ext hE (fun k hk1 hk2 hk3 => hs1.rw_.keepK k hk1 hk2 (.inr hk3)) (TagsAt.mono hK hv)
  · intro h; cases h
theorem soundRF (ht : TyR P C) : ∀ S : Sch, SoundRF P C S := by
  intro S
  induction S with
  | fin =>
    intro T PT pv c Q f w b a n lo cc e ver R rs _ _ _ hf _ hs h1
    exact h1 () rs rfl f w cc (RdTo.refl hs (KeepR.refl _ _ _ _)) trivial
  | tags k o => exact soundRF_tags ht k o
  | prim g k o p en d rest ih =>
    intro T PT pv c Q f w b a n lo cc e ver R rs hfl hty hN hf hc hs h1
    simp only [Sch.flatB, Bool.and_eq_true, beq_iff_eq, Option.isNone_iff_eq_none] at hfl
    obtain ⟨⟨hg, rfl⟩, hflr⟩ := hfl
    have hgon : g.on ver = true := by obtain ⟨lo, hi⟩ := g; simp only at hg; subst hg; rfl
    simp only [Sch.tyR, Bool.and_eq_true, beq_iff_eq, decide_eq_true_eq] at hty
    obtain ⟨⟨⟨⟨⟨hF, hk⟩, hen⟩, hlo⟩, hn⟩, htr⟩ := hty
    obtain ⟨hNp, hNr⟩ := hN
    have hn10 := hf.nN
    have hpt := hf.ptrN
    have hfit := hs.fit
    simp only [Sch.genR, if_true] at hc h1 ⊢
    have hm := (genR_mono (C := C) rest T PT pv ⟨c.l + 1, c.t + gdN g + readN C p + 4, c.k⟩)
    simp only at hm
    refine seqL_cons ?_
    refine w_guard ht.c (show f 8 = _ from hf.ver) (show 8 < c.t by omega) (by omega) ?_ (fun hoff => by rw [hgon] at hoff; cases hoff)
    intro hon f1 hk1 h11
    have hf1 := hf.keep hk1 (by omega)
    refine seqL_append ?_
    refine r_read ht (kOk_uu hk) hNp hs hf1 (by omega) ?_
    intro f2 w2 u hu hrep he2 hr2 hk2
    have hs2 := hs.ext1 he2 hr2
    have hsz := rep1_sz hrep
    refine seqL_one ?_
    refine r_store ht (o := o) ((hk2 pv (by omega) (by omega)).trans hf1.ptr) hF hk hu (rep1_one hrep) (by omega) (by omega) hs2.blk (by rw [hsz]; omega) ?_
    intro f3 cc3 hput hk3
    have hto : RdTo C R b a n lo w cc e f c.l (c.l + 1) c.t (p.rd true rs).2 f3 _ cc3 := (RdTo.read (lo := lo) hs he2 hr2 (KeepR.refl f c.l (c.l + 1) c.t)).trans (RdTo.put hs2 hput hlo (by rw [hsz]; exact hn) (l := c.l) (m := c.l + 1) (t := c.t) (by
      intro y hy1 hy
      rw [hk3 y (by omega), hk2 y (by omega) (by omega)]
      exact hk1 y (by omega) hy1)) (Nat.le_refl _) (Nat.le_refl _) (Nat.le_refl _) (Nat.le_refl _)
    have hfld : FldAt _ R (segL cc3 a n) o p (p.rd true rs).1 := FldAt.put hs2 hput (by rw [hsz]; exact hn) hrep
    have hrd : Sch.rd ver true (.prim g k o p 0 d rest) rs = (rest.rd ver true (p.rd true rs).2).map fun y => (((p.rd true rs).1, y.1), y.2) := by simp only [Sch.rd, if_pos hgon]; rfl
    refine ih T PT pv _ Q f3 _ b a n (o + p.sz) cc3 e ver R _ hflr htr hNr ((hf.keep hto.keep.keeps (Nat.le_refl _)).up (by simp only; omega)) (by simp only; omega) hto.st ?_
    intro y rs2 hy f4 w4 cc4 hto2 hrep2
    refine h1 ((p.rd true rs).1, y) rs2 (by rw [hrd, hy]; rfl) f4 w4 cc4 (hto.trans hto2 (by omega) (by simp) hm.1 (by simp only; omega)) ⟨?_, hrep2⟩
    exact hfld.move hto2.ext hto.st.rw_.keepK (fun j hj1 hj2 => by rw [segL_get (by omega), segL_get (by omega)]; exact hto2.same _ (.inl (by omega)))
  | arrP g k o sT nul p rest ih => intro T PT pv c Q f w b a n lo cc e ver R rs hfl; simp [Sch.flatB] at hfl
  | arrS g k o sT nul T' PT' sz df e rest ihe ih => intro T PT pv c Q f w b a n lo cc e' ver R rs hfl; simp [Sch.flatB] at hfl
  | sub g k o T' PT' sz df e rest ihe ih => intro T PT pv c Q f w b a n lo cc e' ver R rs hfl; simp [Sch.flatB] at hfl
  | opt g k o T' PT' PP sz df e rest ihe ih => intro T PT pv c Q f w b a n lo cc e' ver R rs hfl; simp [Sch.flatB] at hfl
theorem setD_other (a : Nat) {j : Nat} : ∀ (l : List DSt) (c : Array Value), (∀ x ∈ l, a + x.o ≠ j) → (setD a l c)[j]? = c[j]?
  | [], c, _ => rfl
  | x :: l, c, h => by
    rw [setD, setD_other a l _ (fun y hy => h y (List.mem_cons_of_mem _ hy)), Array.getElem?_setIfInBounds]
    rw [if_neg (h x (List.mem_cons_self ..))]
/-- a struct in a struct: its Default, then its fields -/
theorem r_sub (ht : TyR P C) {T PT pv k o T' PT' sz df b a n : Nat} {S : Sch} (hfl : S.flatB = true) (hF : fldOff P T k = some o) (hte : S.tyR P C T' sz 0 = true) (hdst : ((S.dst C.toCfg).all fun x => decide (x.o < sz)) = true) (hND : DefRC P C.toCfg sz df S) (hNs : S.NeedR P C) (hon : o + sz ≤ n) {c : Ct} {ver : Int} {Q : Post} {f : Nat → Value} {w : World} {cc : Array Value} {e : TypeId} {R : Rdr} {rs : RS}
    (hf : FrR C R f pv b a ver true c.l) (hm : (S.genR C T' PT' (c.l + 1) ⟨c.l + 2, c.t + 6, c.k⟩).2.l ≤ c.t) (hs : StR C R b a n w cc e rs)
    (h1 : ∀ x rs', S.rd ver true rs = some (x, rs') → ∀ f' w' cc', StR C R b a n w' cc' e rs' → cc'.size = cc.size → (∀ j, (j < a + o ∨ a + o + sz ≤ j) → cc'[j]? = cc[j]?) → Ext (CB R b) w w' → KeepR f f' c.l (S.genR C T' PT' (c.l + 1) ⟨c.l + 2, c.t + 6, c.k⟩).2.l c.t → S.Rep w' (RK R) (segL cc' (a + o) sz) x → Q .normal f' w') :
    (seqL (subR C T PT pv k PT' df c.l c.t ++ (S.genR C T' PT' (c.l + 1) ⟨c.l + 2, c.t + 6, c.k⟩).1)).wp P Q f w := by
  have hn10 := hf.nN
  have hpt := hf.ptrN
  have hfit := hs.fit
  have hmono := genR_mono (C := C) S T' PT' (c.l + 1) ⟨c.l + 2, c.t + 6, c.k⟩
  simp only at hmono
  have zl : ∀ m, (c.l = c.t + m) = False := by intro m; simp; omega
  have zl' : (c.l = c.t) = False := by simp; omega
  refine seqL_append ?_
  refine seqL_cons (wp_reg ?_)
  simp [addrR, hf.ptr, hF, Addr.add_mk]
  show (seqL _).wp P _ _ w
  refine seqL_cons (wp_reg ?_)
  simp [zl, zl']
  refine (hND w b (a + o) cc e hs.blk (by omega)).mono ?_
  rintro v w1 rfl
  generalize hcc1 : setD (a + o) (S.dst C.toCfg) cc = cc1
  have hsz1 : cc1.size = cc.size := by subst hcc1; exact setD_size ..
  have hsame1 : ∀ j, (j < a + o ∨ a + o + sz ≤ j) → cc1[j]? = cc[j]? := by
    intro j hj
    subst hcc1
    refine setD_other _ _ _ (fun x hx he => ?_)
    have := List.all_eq_true.1 hdst x hx
    simp only [decide_eq_true_eq] at this
    omega
  generalize hw1 : w.setBlk b (.cells cc1 e (0, 0)) = w1
  have hE1 : Ext (fun k => k = b) w w1 := by subst hw1; exact (Ext.refl (fun k => k = b) w).setBlk (b := b) (Or.inr rfl) _
  have hb1 : w1.heap[b]? = some (.cells cc1 e (0, 0)) := by subst hw1; exact setBlk_same hs.blk
  have hr1 : RdAt C.E.tRd w1 R.pb R.D rs := RdAt.ext hs.rd hE1 (fun h => hs.rw_.ne.2.2 h) (fun h => hs.rw_.ne.2.1 h.symm)
  have hrw1 : RW C R b w1 := hs.rw_.ext (hE1.mono (fun _ _ h => .inr h))
  show (Ir.reg _).wp P _ _ w1
  refine wp_reg ?_
  simp [zl, zl']
  have up : ∀ z, z < c.t → z ≠ c.l → z ≠ c.l + 1 → ∀ v1 v2 v3 v4 v5 v6 v7 v8, upd (upd (upd (upd (upd (upd (upd (upd f c.t v1) (c.t + 1) v2) (c.t + 2) v3) c.l v4) (c.t + 3) v5) (c.t + 4) v6) (c.t + 5) v7) (c.l + 1) v8 z = f z := by
    intro z hz hz1 hz2 v1 v2 v3 v4 v5 v6 v7 v8
    have a3 : ∀ n, (z = c.t + n) = False := by intro n; simp; omega
    have a4 : (z = c.t) = False := by simp; omega
    simp [a3, a4, hz1, hz2]
  refine soundRF ht S T' PT' (c.l + 1) ⟨c.l + 2, c.t + 6, c.k⟩ Q _ w1 b (a + o) sz 0 cc1 e ver R rs hfl hte hNs ?_ (by simp only; omega) ⟨hb1, by omega, hr1, hrw1⟩ ?_
  · refine ⟨by simp [zl, zl'], ⟨by omega, by simp only; omega⟩, hf.v0, ?_, fun hx => ?_, hf.flN, ?_, ?_, by simp only; omega, ⟨hf.rsN.1, by have := hf.rsN; simp only; omega⟩⟩
    · rw [up 8 (by omega) (by omega) (by omega)]; exact hf.ver
    · rw [up 9 (by omega) (by omega) (by omega)]; exact hf.flg hx
    · rw [up C.rs (by have := hf.rsN; omega) (by have := hf.rsN; omega) (by have := hf.rsN; omega)]; exact hf.rd
    · rw [up 2 (by omega) (by omega) (by omega)]; exact hf.us
  · intro x rs' hx f3 w3 cc3 hto hrep
    refine h1 x rs' hx f3 w3 cc3 ⟨hto.st.blk, by rw [hto.size, hsz1]; exact hfit, hto.st.rd, hto.st.rw_⟩ (hto.size.trans hsz1) (fun j hj => (hto.same j (by omega)).trans (hsame1 j hj)) ((hE1.mono (fun _ _ h => .inr h)).trans hto.ext) ?_ hrep
    intro z hz1 hz
    rw [hto.keep z hz1 (by simp only at hz ⊢; omega)]
    exact up z (by omega) (by omega) (by omega) _ _ _ _ _ _ _ _
end
end Go.Kg

set_option linter.unusedSimpArgs false
set_option linter.unusedVariables false
set_option linter.unusedSectionVars false
namespace Go.Kg
open Go
def Kn.raw (ver : Int) : (c : Kn) → RS → Option (c.T × RS)
  | .prim p _, rs => some (p.rd true rs)
  | .arr _ _ _ _ _ e, rs => arrRd none ver true (e.rd ver true) rs
  | .str _ _ _ _ _ _ e, rs => e.rd ver true rs
def Kn.NeedR (P : Program) (C : CfgR) : Kn → Prop
  | .prim p _ => PrimR P C p
  | .arr _ _ _ sz df e => LenRC P C ∧ EndC P C ∧ DefRC P C.toCfg sz df e ∧ e.NeedR P C
  | .str _ _ sz df _ _ e => DefRC P C.toCfg sz df e ∧ e.NeedR P C
/-- the checks on a known tag's types, for reading -/
def KF.tyR (P : Program) (C : CfgR) (T : Nat) (f : KF) : Bool := match f.c with
  | .str T' _ sz _ _ _ e => fldOff P T f.k == some f.o && e.flatB && e.tyR P C T' sz 0 && ((e.dst C.toCfg).all fun x => decide (x.o < sz))
  | _ => f.sch.tyR P C T (f.o + f.sz) f.o
theorem KF.tyR_rs {P : Program} {C : CfgR} (l : Nat) (T : Nat) (f : KF) : f.tyR P { C with rs := l } T = f.tyR P C T := by
  obtain ⟨num, k, o, c⟩ := f
  cases c with
  | prim p d => exact Go.Kg.tyR_rs l _ _ _ _
  | arr sT T' PT sz df e => exact Go.Kg.tyR_rs l _ _ _ _
  | str T' PT sz df sm mk e => simp only [KF.tyR, Go.Kg.tyR_rs]
def KsNeedR (P : Program) (C : CfgR) : List KF → Prop
  | [] => True
  | f :: l => f.c.NeedR P C ∧ KsNeedR P C l
section
variable {P : Program} {C : CfgR} {R : Rdr} {Q : Post} {f : Nat → Value} {w : World}
/-- a list's length that cannot be read: whatever stands there -/
theorem r_headBad (ht : TyR P C) {T PT pv k o sT l t b a n : Nat} {ver : Int} {fl : Bool} {cc : Array Value} {e : TypeId} {rs : RS} {v : Value} {rest : List Ir} (hF : fldOff P T k = some o) (hk : isScl (kindOf P sT) = true) (hN : LenRC P C) (hE : EndC P C) (hs : StR C R b a n w cc e rs) (hf : FrR C R f pv b a ver fl l) (hlt : l + 3 ≤ t)
    (hon : o < n) (hv : (segL cc a n)[o]? = some v) (hv1 : v.oneCell' = true) (hbad : (lenRd fl rs).2.bad = true) (h0 : ∀ f' w', f' 6 = R.ev → Ext (CB R b) w w' → Q .ret f' w') : (seqL (headR C T PT pv k sT l t none ++ rest)).wp P Q f w := by
  have hn10 := hf.nN
  have hpt := hf.ptrN
  have hrs := hf.rsN
  unfold headR
  simp only [List.append_nil, List.cons_append, List.nil_append, List.append_assoc]
  refine seqL_cons ?_
  refine w_load ht.c (fun h => by cases h) hf.ptr hF (kOk_scl hk) (cellsAt_seg hs.blk) (seg_one hv hv1) (by simpa using hv1) (by omega) (by omega) ?_
  intro f2 w2 hv2 he2 hk2
  have hv2' := loc_slice hv2
  refine seqL_cons (wp_reg ?_)
  have zl : (l = t + 4) = False := by simp; omega
  simp [hv2', zl]
  refine seqL_cons (wp_reg ?_)
  simp
  generalize hf3 : upd (upd (upd f2 (t + 4) v) (l + 1) v) (l + 2) (.int .i32 0) = f3
  have k3 : ∀ y, y < t → (y < l ∨ l + 3 ≤ y) → f3 y = f y := by
    intro y hy hy2
    subst hf3
    have x1 : (y = l + 2) = False := by simp; omega
    have x2 : (y = l + 1) = False := by simp; omega
    have x3 : (y = t + 4) = False := by simp; omega
    simp [x1, x2, x3]
    exact hk2 y hy (by omega)
  have hs2 : StR C R b a n w2 cc e rs := hs.ext1 (he2.mono (fun _ _ h => h.elim)) (hs.rd.ext he2 (fun h => h) (fun h => h))
  refine seqL_cons ?_
  refine r_len (fl := fl) hN hs2 (fun hx => (k3 9 (by omega) (by omega)).trans (hf.flg hx)) hf.flN (by omega) ((k3 C.rs (by omega) (by omega)).trans hf.rd) (by omega) (by omega) ?_
  intro f4 w4 hl4 he4 hr4 hk4
  have hs4 := hs2.ext1 he4 hr4
  have he24 : Ext (CB R b) w w4 := (he2.mono (fun _ _ h => h.elim)).trans (he4.mono (fun _ _ h => .inl h))
  have hlen := lenIN C
  refine seqL_cons ?_
  refine r_ok hE hs4 ((hk4 C.rs (by omega) (by omega)).trans ((k3 C.rs (by omega) (by omega)).trans hf.rd)) (by simp only [nulN]; omega) ?_ ?_
  · intro _ f5 h6
    exact h0 f5 w4 h6 he24
  · intro hb
    rw [hbad] at hb; cases hb
/-- if err := b.Complete(); err != nil {return err} -/
theorem r_err {r l t pb D : Nat} {rs : RS} {ev : Value} (hE : EndC0 P C) (uErr : ∃ ms, P.underlying C.E.tErr = some (.interface ms)) (hev : ∃ t v, ev = .iface t v) (hrd : RdAt C.E.tRd w pb D rs) (herr : w.cell? ⟨C.E.g_kbin_ErrNotEnoughData, 0, none⟩ = some ev) (hr : f r = .pointer (some ⟨pb, 0, none⟩)) (hl : l < t)
    (h0 : rs.bad = true → ∀ f', f' 6 = ev → Q .ret f' w) (h1 : rs.bad = false → ∀ f', (∀ y, y < t → y ≠ l → f' y = f y) → Q .normal f' w) : (seqL (errI C r l t)).wp P Q f w := by
  obtain ⟨ms, hms⟩ := uErr
  obtain ⟨tv, vv, rfl⟩ := hev
  have zl : ∀ n, (l = t + n) = False := by intro n; simp; omega
  have zl' : (l = t) = False := by simp; omega
  unfold errI
  refine seqL_cons (wp_reg ?_)
  simp [hr]
  refine (hE.complete w pb D rs _ hrd (fun _ => herr)).mono ?_
  rintro v w1 ⟨rfl, rfl⟩
  try simp
  show (Ir.seq _ _).wp P _ _ _
  refine wp_seqI (wp_reg ?_)
  cases hb : rs.bad
  · simp [zl, zl', bin_nnil_nil hms]
    refine .inr ⟨by simp, ?_⟩
    show Q .normal _ _
    refine h1 hb _ ?_
    intro y hy hyl
    have x3 : ∀ n, (y = t + n) = False := by intro n; simp; omega
    have x4 : (y = t) = False := by simp; omega
    simp [x3, x4, hyl]
  · simp [zl, zl', bin_nnil_iface hms]
    refine .inl ⟨by simp, ?_⟩
    refine seqL_cons (wp_reg ?_)
    simp [zl, zl']
    show Q .ret _ _
    exact h0 hb _ (by simp)
/-- a known tag's field is read by a reader of its own -/
theorem r_known (ht : TyR P C) {T PT pv : Nat} {kf : KF} (hfx : C.fx = true) {b a n : Nat} (hty : kf.tyR P C T = true) (hon : kf.o + kf.sz ≤ n) (hN : kf.c.NeedR P C) {c : Ct} {ver : Int} {cc : Array Value} {e : TypeId} {rs : RS} {K : Nat → Prop} {v : kf.c.T}
    (hf : FrR C R f pv b a ver true c.l) (hm : (knR C T PT pv kf c).2.l ≤ c.t) (hs : StR C R b a n w cc e rs) (hrep : kf.c.Rep w K (segL cc a n) kf.o v) (hnd : kf.c.rd ver v rs ≠ .dup)
    (h0 : kf.c.rd ver v rs = .err → ∀ f' w', f' 6 = R.ev → Ext (CB R b) w w' → Q .ret f' w')
    (h1 : ∀ y rs', kf.c.raw ver rs = some (y, rs') → kf.c.rd ver v rs = KO.of (some (y, rs')) → ∀ f' w' cc', StR C R b a n w' cc' e rs' → cc'.size = cc.size → (∀ j, (j < a + kf.o ∨ a + kf.o + kf.sz ≤ j) → cc'[j]? = cc[j]?) → Ext (CB R b) w w' → KeepR f f' c.l (knR C T PT pv kf c).2.l c.t → kf.c.Rep w' (RK R) (segL cc' a n) kf.o y → Q .normal f' w') :
    (seqL (knR C T PT pv kf c).1).wp P Q f w := by
  obtain ⟨num, k, o, cn⟩ := kf
  simp only at hrep hnd h0 h1 hN hon v
  have hn10 := hf.nN
  have hpt := hf.ptrN
  have hfit := hs.fit
  cases cn with
  | str T' PT' sz df sm mk e =>
    simp only [KF.tyR, Bool.and_eq_true, beq_iff_eq] at hty
    obtain ⟨⟨⟨hF, hfl⟩, hte⟩, hdst⟩ := hty
    obtain ⟨hND, hNs⟩ := hN
    simp only [KF.sz] at hon h1
    simp only [knR] at hm h1 ⊢
    refine r_sub ht hfl hF hte hdst hND hNs hon hf hm hs ?_
    intro x rs' hx f' w' cc' hst hsz hsame hext hk hr
    refine h1 x rs' hx (by show KO.of (e.rd ver true rs) = _; rw [hx]; rfl) f' w' cc' hst hsz hsame hext hk ?_
    have hfit' := hst.fit
    show (((segL cc' a n).drop o).take sz).length = sz ∧ e.Rep w' (RK R) (((segL cc' a n).drop o).take sz) x
    rw [segL_sub hon]
    refine ⟨?_, hr⟩
    have hl : (segL cc' (a + o) sz).length = sz := by simp only [segL, List.length_take, List.length_drop, Array.length_toList]; omega
    exact hl
  | prim p d =>
    simp only [KF.tyR, KF.sch, Sch.tyR, Bool.and_eq_true, beq_iff_eq, decide_eq_true_eq] at hty
    obtain ⟨⟨⟨⟨⟨hF, hk⟩, _⟩, _⟩, _⟩, _⟩ := hty
    simp only [KF.sz] at hon h1
    simp only [knR] at hm h1 ⊢
    refine seqL_append ?_
    refine r_read ht (kOk_uu hk) hN hs hf (by omega) ?_
    intro f2 w2 u hu hrep2 he2 hr2 hk2
    have hs2 := hs.ext1 he2 hr2
    have hsz := rep1_sz hrep2
    refine seqL_one ?_
    refine r_store ht (o := o) ((hk2 pv (by omega) (by omega)).trans hf.ptr) hF hk hu (rep1_one hrep2) (by omega) (by omega) hs2.blk (by rw [hsz]; omega) ?_
    intro f3 cc3 hput hk3
    have hto := (RdTo.read (lo := o) hs he2 hr2 (KeepR.refl f2 c.l (c.l + 1) c.t)).trans (RdTo.put hs2 hput (Nat.le_refl o) (by rw [hsz]; omega) (l := c.l) (m := c.l + 1) (t := c.t) (fun y hy1 hy => hk3 y (by omega))) (Nat.le_refl _) (Nat.le_refl _) (Nat.le_refl _) (Nat.le_refl _)
    refine h1 (p.rd true rs).1 (p.rd true rs).2 rfl rfl f3 _ cc3 hto.st hput.size (fun j hj => hput.same j (by rw [hsz]; omega)) hto.ext ?_ (FldAt.put hs2 hput (by rw [hsz]; omega) hrep2)
    intro y hy1 hy
    rw [hk3 y (by omega), hk2 y (by omega) (by omega)]
  | arr sT T' PT' sz df es =>
    simp only [KF.tyR, KF.sz] at hon h1 hty
    have hon' : o + 1 ≤ n := hon
    obtain ⟨hNl, hNe, hND, hNs⟩ := hN
    have hty' := hty
    simp only [KF.sch, Sch.tyR, Bool.and_eq_true, beq_iff_eq, decide_eq_true_eq] at hty'
    obtain ⟨⟨⟨⟨⟨⟨⟨⟨⟨hnul, hF⟩, hk⟩, hsli⟩, hel⟩, hok⟩, hte⟩, hlo⟩, hn⟩, _⟩ := hty'
    obtain ⟨v0, ls, hv0, harr, ⟨hsome, _⟩, hlen, _⟩ := hrep
    have hmk : c.l + 6 ≤ (knR C T PT pv ⟨num, k, o, .arr sT T' PT' sz df es⟩ c).2.l := by
      have := genR_mono (C := C) es T' PT' (c.l + 5) ⟨c.l + 6, c.t + headN C none + 11, c.k + 2⟩
      simp only [knR]
      exact this.1
    cases hb : (lenRd true rs).2.bad with
    | true =>
      have herr : Kn.rd ver (.arr sT T' PT' sz df es) v rs = .err := by simp only [Kn.rd, hb, if_true]
      obtain ⟨ad, cp, rfl, _⟩ := harr.form
      simp only [knR]
      rw [List.append_assoc]
      exact r_headBad ht hF hk hNl hNe hs hf (by omega) (by omega) hv0 rfl hb (h0 herr)
    | false =>
      cases hvs : (show Option (List es.T) from v).isSome with
      | true =>
        exfalso
        apply hnd
        simp only [Kn.rd, hb, Bool.false_eq_true, if_false]
        rw [if_pos hvs]
      | false =>
        have hrd : Kn.rd ver (.arr sT T' PT' sz df es) v rs = KO.of (arrRd none ver true (es.rd ver true) rs) := by
          simp only [Kn.rd, hb, Bool.false_eq_true, if_false]
          rw [if_neg (by rw [hvs]; simp)]
          rfl
        have hls : ls = none := by cases ls <;> simp_all
        subst hls
        have hv0' : v0 = .slice none 0 0 := harr
        subst hv0'
        have hchk : Sch.chkD (segL cc a (o + 1)) (KF.sch ⟨num, k, o, .arr sT T' PT' sz df es⟩) = true := by
          have : (segL cc a (o + 1))[o]? = some (.slice none 0 0) := by rw [segL_get (by omega)]; rw [segL_get (by omega)] at hv0; exact hv0
          simp only [KF.sch, Sch.chkD, this, isNilSli, Bool.and_self]
        have hgen := knR_sch C T PT pv ⟨num, k, o, .arr sT T' PT' sz df es⟩ c
        have hS := soundR ht (KF.sch ⟨num, k, o, .arr sT T' PT' sz df es⟩) T PT pv c Q f w b a (o + 1) o cc e ver true R rs hty ⟨hNl, hNe, hND, hNs, trivial⟩ hf (by rw [hgen]; exact hm) ⟨hs.blk, by omega, hs.rd, hs.rw_⟩ hchk
        rw [hgen] at hS
        have hsr : (Sch.rd ver true (KF.sch ⟨num, k, o, .arr sT T' PT' sz df es⟩) rs = none → arrRd none ver true (es.rd ver true) rs = none) ∧ ∀ x rs', Sch.rd ver true (KF.sch ⟨num, k, o, .arr sT T' PT' sz df es⟩) rs = some (x, rs') → ∃ y, arrRd none ver true (es.rd ver true) rs = some (y, rs') ∧ x = (y, ()) := by
          have e1 : Sch.rd ver true (KF.sch ⟨num, k, o, .arr sT T' PT' sz df es⟩) rs = match arrRd none ver true (es.rd ver true) rs with
            | none => none
            | some (a, rs1) => some ((a, ()), rs1) := by
            show Sch.rd ver true (.arrS ⟨none, none⟩ k o sT none T' PT' sz df es .fin) rs = _
            simp only [Sch.rd, Gd.on, if_true]
            cases arrRd none ver true (es.rd ver true) rs <;> rfl
          rw [e1]
          cases arrRd none ver true (es.rd ver true) rs with
          | none => exact ⟨fun _ => rfl, fun x rs' h => (by simp at h)⟩
          | some p =>
            obtain ⟨y, r1⟩ := p
            refine ⟨fun h => (by simp at h), fun x rs' h => ?_⟩
            have h' := Prod.mk.inj (Option.some.inj h)
            exact ⟨y, by rw [h'.2], h'.1.symm⟩
        refine hS ?_ ?_
        · intro hnone f' w' h6 he
          refine h0 ?_ f' w' h6 he
          rw [hrd, hsr.1 hnone]; rfl
        · intro x rs' hx f' w' cc' hto hrep'
          obtain ⟨y, hy, rfl⟩ := hsr.2 x rs' hx
          refine h1 y rs' hy (by rw [hrd, hy]; rfl) f' w' cc' ⟨hto.st.blk, by rw [hto.size]; exact hfit, hto.st.rd, hto.st.rw_⟩ hto.size (fun j hj => hto.same j (by omega)) hto.ext hto.keep ?_
          obtain ⟨v1, ls1, q1, q2, q3, q4, q5⟩ := hrep'.1
          have q1' : (segL cc' a (o + 1))[o]? = some v1 := q1
          rw [segL_get (by omega)] at q1'
          have q1n : (segL cc' a n)[o]? = some v1 := by rw [segL_get (by omega)]; exact q1'
          exact ⟨v1, ls1, q1n, q2, q3, q4, q5⟩
end
end Go.Kg

set_option linter.unusedSimpArgs false
set_option linter.unusedVariables false
set_option linter.unusedSectionVars false
namespace Go.Kg
open Go
section
variable {P : Program} {C : CfgR} {R : Rdr}
theorem bytes_one' {w : World} {K : Nat → Prop} {v : Value} {s : List UInt8} (h : BytesAt w K v s) : v.oneCell' = true := by
  obtain ⟨a, c, rfl, _⟩ := h.len; rfl
/-- b := kbin.Reader{Src: b.Span(int(b.Uvarint()))} -/
theorem r_open (hrb : TyRb P C.E) (iU : intKind? P C.E.tU32 = some .u32) (iI : intKind? P C.E.tInt = some .i64) (hU : RdC P C.E.tRd C.E.f_pkbin_Reader_Uvarint fun rs => (.int .u32 (rdUv rs).1, (rdUv rs).2)) (hS : SpanC P C.E.tRd C.E.f_pkbin_Reader_Span) {Q : Post} {f : Nat → Value} {w : World}
    {l t D pb : Nat} {rs : RS} (hr : f C.rs = .pointer (some ⟨pb, 0, none⟩)) (hne : pb ≠ D) (hD : D < w.heap.size) (hrd : RdAt C.E.tRd w pb D rs) (hl : l < t) (hrt : C.rs < t)
    (h : ∀ f' w' pi, f' l = .pointer (some ⟨pi, 0, none⟩) → w.heap.size ≤ pi → pi < w'.heap.size → RdAt C.E.tRd w' pi D ⟨(rdSpan (rdUv rs).1 (rdUv rs).2).1, false, (rdSpan (rdUv rs).1 (rdUv rs).2).2.nn⟩ → RdAt C.E.tRd w' pb D (rdSpan (rdUv rs).1 (rdUv rs).2).2 → Ext (· = pb) w w' → (∀ y, y < t → y ≠ l → f' y = f y) → Q .normal f' w') :
    (openI C l t).wp P Q f w := by
  have zr : ∀ n, (C.rs = t + n) = False := by intro n; simp; omega
  have zr' : (C.rs = t) = False := by simp; omega
  refine wp_reg ?_
  simp [openI, hr]
  refine (hU w pb D rs hne hrd).mono ?_
  rintro _ w1 ⟨rfl, he1, hr1⟩
  have hwr : IntKind.i64.wrap ((rdUv rs).1 : Int) = ((rdUv rs).1 : Int) := i64_small (by omega) (by have := rdUv_lt rs; omega)
  have hlt : pb < w.heap.size := by obtain ⟨sv, hb, _⟩ := hrd; exact lt_of_heap hb
  simp [iU, iI, hwr, hr, zr, zr']
  refine (hS w1 pb D _ _ hne hr1).mono ?_
  rintro v w2 ⟨hv, hnn, he2, hr2⟩
  have hv1 := bytes_one' hv
  have zl : ∀ n, (t + n = l) = False := by intro n; simp; omega
  simp [bld_rd hrb (cells_one hv1), hrb.z, Value.cells, zl, store_agg hrb.k, putK_blk alloc_new, hv1]
  have hov : over #[.slice none 0 0, .bool false] 0 [v, .bool false] = #[v, .bool false] := by simp [over]
  rw [hov]
  refine ⟨by simp only [allOne, hv1, Bool.true_and]; rfl, ?_⟩
  generalize hw3 : (w2.alloc (.cells #[.slice none 0 0, .bool false] C.E.tRd)).setBlk w2.heap.size (.cells #[v, .bool false] C.E.tRd (0, 0)) = w3
  have he12 : Ext (· = pb) w w2 := he1.trans he2
  have he3 : Ext none1 w2 w3 := by subst hw3; exact ((Ext.refl none1 w2).alloc _).setBlk (.inl (Nat.le_refl _)) _
  have hb3 : w3.heap[w2.heap.size]? = some (.cells #[v, .bool false] C.E.tRd (0, 0)) := by subst hw3; exact setBlk_same alloc_new
  refine h _ w3 w2.heap.size (by simp) he12.size (lt_of_heap hb3) ⟨v, hb3, hv.ext he3 (fun _ _ _ h => h), hnn⟩ (hr2.ext he3 (fun h => h) (fun h => h)) (he12.trans (he3.mono (fun _ _ h => h.elim))) ?_
  intro y hy hyl
  have x3 : ∀ n, (y = t + n) = False := by intro n; simp; omega
  have x4 : (y = t) = False := by simp; omega
  simp [x3, x4, hyl]
/-- one field behind the other: each at lo or above, all below hi -/
def ksLay (lo hi : Nat) : List KF → Bool
  | [] => decide (lo ≤ hi)
  | f :: l => decide (lo ≤ f.o) && ksLay (f.o + f.sz) hi l
theorem ksLay_le : ∀ {l : List KF} {lo hi : Nat}, ksLay lo hi l = true → lo ≤ hi
  | [], lo, hi, h => by simpa [ksLay] using h
  | f :: l, lo, hi, h => by
    simp only [ksLay, Bool.and_eq_true, decide_eq_true_eq] at h
    have := ksLay_le h.2
    omega
/-- what lies elsewhere does not count -/
theorem KsRep_cells {w : World} {K : Nat → Prop} {cs cs' : List Value} {hi : Nat} : ∀ {l : List KF} {lo : Nat} {x : KsT l}, ksLay lo hi l = true → (∀ j, lo ≤ j → j < hi → cs'[j]? = cs[j]?) → KsRep w K cs l x → KsRep w K cs' l x
  | [], _, _, _, _, _ => trivial
  | f :: l, lo, (v, r), hlay, hc, h => by
    simp only [ksLay, Bool.and_eq_true, decide_eq_true_eq] at hlay
    have hle := ksLay_le hlay.2
    exact ⟨Kn.Rep_cells f (fun j h1 h2 => hc j (by omega) (by omega)) h.1, KsRep_cells hlay.2 (fun j h1 h2 => hc j (by omega) h2) h.2⟩
theorem knR_mono (T PT pv : Nat) (kf : KF) (c : Ct) : c.l ≤ (knR C T PT pv kf c).2.l ∧ c.t ≤ (knR C T PT pv kf c).2.t := by
  have := genR_mono (C := C) kf.sch T PT pv c
  rw [knR_sch] at this
  exact this
theorem casesR_mono (T PT pv key : Nat) (d : Ir) : ∀ (ks : List KF) (c : Ct), c.l ≤ (casesR C T PT pv key d ks c).2.l ∧ c.t ≤ (casesR C T PT pv key d ks c).2.t
  | [], c => ⟨Nat.le_refl _, Nat.le_refl _⟩
  | f :: r, c => by
    have h1 := knR_mono (C := { C with rs := c.l }) T PT pv f ⟨c.l + 1, c.t + 6, c.k⟩
    have h2 := casesR_mono T PT pv key d r ⟨(knR { C with rs := c.l } T PT pv f ⟨c.l + 1, c.t + 6, c.k⟩).2.l + 1, (knR { C with rs := c.l } T PT pv f ⟨c.l + 1, c.t + 6, c.k⟩).2.t + 4, (knR { C with rs := c.l } T PT pv f ⟨c.l + 1, c.t + 6, c.k⟩).2.k⟩
    simp only [casesR]
    simp only at h1 h2
    omega
/-- what is asked of the section's types and readers -/
structure SecR (P : Program) (C : CfgR) : Prop where
  ty : TyR P C
  fx : C.fx = true
  rb : TyRb P C.E
  iU : intKind? P C.E.tU32 = some .u32
  iI : intKind? P C.E.tInt = some .i64
  uErr : ∃ ms, P.underlying C.E.tErr = some (.interface ms)
  endc : EndC0 P C
  uv : RdC P C.E.tRd C.E.f_pkbin_Reader_Uvarint fun rs => (.int .u32 (rdUv rs).1, (rdUv rs).2)
  span : SpanC P C.E.tRd C.E.f_pkbin_Reader_Span
/-- the inner reader's first state -/
def innerR (rs : RS) : RS := ⟨(rdSpan (rdUv rs).1 (rdUv rs).2).1, false, (rdSpan (rdUv rs).1 (rdUv rs).2).2.nn⟩
/-- what is left behind it -/
def outerR (rs : RS) : RS := (rdSpan (rdUv rs).1 (rdUv rs).2).2
theorem NeedRk_rs (l : Nat) : ∀ {c : Kn}, c.NeedR P C → c.NeedR P { C with rs := l } := by
  intro c h
  cases c with
  | prim p d => exact h
  | arr sT T PT sz df e => exact ⟨h.1, ⟨⟨h.2.1.complete⟩, h.2.1.ok⟩, h.2.2.1, NeedR_rs l e h.2.2.2⟩
  | str T PT sz df sm mk e => exact ⟨h.1, NeedR_rs l e h.2⟩
theorem r_cases (hsec : SecR P C) (hev : ∃ t v, R.ev = .iface t v) {T PT pv key kt n0 mm tm lo to a b n : Nat} {d : Ir} {e : TypeId} {ver : Int} {Q : Post} {rs : RS} {w : World} {cc : Array Value} {mp : Nat → Prop} (hkt : kt < tm) (hst : StR C R b a n w cc e rs) (hmp : ∀ k, mp k → k < w.heap.size) (hton : to < n) :
    ∀ (ks : List KF) (x : KsT ks) (lo : Nat) (c : Ct) (f : Nat → Value), (∀ kf ∈ ks, kf.tyR P C T = true) → KsNeedR P C ks → ksLay lo to ks = true → KsRep w (fun k => k = R.D ∨ (R.base ≤ k ∧ ¬ mp k)) (segL cc a n) ks x → f kt = .int .u32 key →
      FrR C R f pv b a ver true n0 → n0 ≤ c.l → (casesR C T PT pv kt d ks c).2.l ≤ mm → mm ≤ tm → tm ≤ c.t → ksStep ver ks key x (innerR rs) ≠ .dup →
      (ksStep ver ks key x (innerR rs) = .err → ∀ f' w', f' 6 = R.ev → Ext (CB R b) w w' → Q .ret f' w') →
      (ksStep ver ks key x (innerR rs) = .ok none → ∀ f', (∀ y, y < tm → f' y = f y) → d.wp P Q f' w) →
      (∀ y, ksStep ver ks key x (innerR rs) = .ok (some y) → ∀ f' w' cc', StR C R b a n w' cc' e (outerR rs) → cc'.size = cc.size → (∀ j, (j < a + lo ∨ a + to ≤ j) → cc'[j]? = cc[j]?) → Ext (CB R b) w w' → KeepR f f' n0 mm tm → KsRep w' (fun k => k = R.D ∨ (R.base ≤ k ∧ ¬ mp k)) (segL cc' a n) ks y → Q .normal f' w') →
      (casesR C T PT pv kt d ks c).1.wp P Q f w := by
  obtain ⟨ht, hfx, hrb, iU, iI, uErr, hE, hUv, hSp⟩ := hsec
  intro ks
  induction ks with
  | nil =>
    intro x lo c f _ _ _ _ _ _ _ _ _ _ _ _ hnone _
    exact hnone rfl f (fun _ _ => rfl)
  | cons kf r ih =>
    rintro ⟨v, xr⟩ lo c f hty ⟨hN, hNr⟩ hlay ⟨hr, hrr⟩ hkey hf hn hm hmt htm hnd herr hnone hsome
    simp only [ksLay, Bool.and_eq_true, decide_eq_true_eq] at hlay
    have hle := ksLay_le hlay.2
    have hn10 := hf.nN
    have hpt := hf.ptrN
    have hrs := hf.rsN
    have m1 := knR_mono (C := { C with rs := c.l }) T PT pv kf ⟨c.l + 1, c.t + 6, c.k⟩
    simp only at m1
    simp only [casesR] at hm ⊢
    have hkn := fun (Q' : Post) (f' : Nat → Value) (w' : World) (cc' : Array Value) (R' : Rdr) (rs' : RS) => r_known (P := P) (C := { C with rs := c.l }) (R := R') (Q := Q') (f := f') (w := w') (TyR_rs c.l ht) (T := T) (PT := PT) (pv := pv) (kf := kf) hfx (b := b) (a := a) (n := n) (c := ⟨c.l + 1, c.t + 6, c.k⟩) (ver := ver) (cc := cc') (e := e) (rs := rs') (v := v) (K := fun k => k = R.D ∨ (R.base ≤ k ∧ ¬ mp k))
    generalize hz : knR { C with rs := c.l } T PT pv kf ⟨c.l + 1, c.t + 6, c.k⟩ = z at hm m1 hkn ⊢
    obtain ⟨kb, c1⟩ := z
    simp only at hm m1 hkn ⊢
    have m2 := casesR_mono (C := C) T PT pv kt d r ⟨c1.l + 1, c1.t + 4, c1.k⟩
    simp only at m2
    refine seqL_cons (wp_reg ?_)
    have zk : (kt = c.t + 1) = False := by simp; omega
    have zk' : (kt = c.t) = False := by simp; omega
    have hB : ∃ B : Bool, ((key : Int) == (kf.num : Int)) = B ∧ (B = true ↔ key = kf.num) := by
      refine ⟨_, rfl, ?_⟩
      simp
      omega
    obtain ⟨B, hB0, hB⟩ := hB
    simp [hkey, hB0]
    generalize hfu : upd (upd f (c.t + 1) _) c.t _ = fu
    have hku : ∀ y, y < c.t → fu y = f y := by
      intro y hy
      subst hfu
      have x1 : (y = c.t + 1) = False := by simp; omega
      have x2 : (y = c.t) = False := by simp; omega
      simp [x1, x2]
    have hbu : fu c.t = .bool B := by
      subst hfu
      simp
    have hfr : FrR C R fu pv b a ver true n0 := hf.keep (fun y hy _ => hku y (by omega)) (Nat.le_refl _)
    have hKK : ∀ k, k < w.heap.size → (k = R.D ∨ (R.base ≤ k ∧ ¬ mp k)) → ¬ CB R b k := fun k hk h => hst.rw_.keepK k hk (h.elim .inl (fun h => .inr h.1))
    by_cases heq : key = kf.num
    · have hB' := hB.2 heq
      subst heq
      refine .inl ⟨by rw [hbu, hB'], ?_⟩
      have hstep : ksStep ver (kf :: r) kf.num (v, xr) (innerR rs) = (kf.c.rd ver v (innerR rs)).map (fun y => some (y, xr)) := by simp only [ksStep, if_true]; rfl
      rw [hstep] at hnd herr hnone hsome
      refine seqL_cons ?_
      refine r_open hrb iU iI hUv hSp ((hku C.rs (by omega)).trans hf.rd) hst.rw_.ne.1 (Nat.lt_of_lt_of_le hst.rw_.lt.2.2.1 hst.rw_.lt.2.2.2) hst.rd (by omega) (by omega) ?_
      intro f1 w1 pi h1l hpi hpi1 hri hro he1 hk1
      have hst1 : StR C R b a n w1 cc e (outerR rs) := hst.ext1 he1 hro
      have hlt0 := hst.rw_.lt
      have hsz1 := he1.size
      -- the inner state
      have hstI : StR { C with rs := c.l } ⟨pi, R.D, pi + 1, R.ev⟩ b a n w1 cc e (innerR rs) := by
        refine ⟨hst1.blk, hst1.fit, hri, ⟨⟨by simp only; omega, by simp only; omega, by simp only; omega, by simp only; omega⟩, ⟨by simp only; omega, hst.rw_.ne.2.1, by simp only; omega⟩, hst1.rw_.err, ⟨?_, hst.rw_.errN.2⟩⟩⟩
        have := World.block_lt_of_cell? w _ hst.rw_.err
        simp only at this ⊢; omega
      have f1k : ∀ y, y < c.t → y ≠ c.l → f1 y = f y := fun y hy hyl => (hk1 y (by omega) hyl).trans (hku y hy)
      have hfI : FrR { C with rs := c.l } ⟨pi, R.D, pi + 1, R.ev⟩ f1 pv b a ver true (c.l + 1) :=
        ⟨(f1k pv (by omega) (by omega)).trans hf.ptr, by omega, hf.v0, (f1k 8 (by omega) (by omega)).trans hf.ver, fun hx => (f1k 9 (by omega) (by omega)).trans (hf.flg hx), hf.flN, h1l, (f1k 2 (by omega) (by omega)).trans hf.us, by omega, ⟨by simp only; omega, by simp only; omega⟩⟩
      have hextI : ∀ w', Ext (CB ⟨pi, R.D, pi + 1, R.ev⟩ b) w1 w' → Ext (CB R b) w w' := by
        intro w' h
        refine Ext.trans' (C := CB R b) (he1.mono (fun _ _ h => .inl h)) h ?_
        rintro k hk (h' | h')
        · simp only at h'; omega
        · exact .inr h'
      have hr1 : kf.c.Rep w1 (fun k => k = R.D ∨ (R.base ≤ k ∧ ¬ mp k)) (segL cc a n) kf.o v := Kn.Rep_ext he1 (fun k hk h => fun hc => hKK k hk h (.inl hc)) kf.c hr
      refine seqL_append ?_
      refine hkn _ f1 w1 cc ⟨pi, R.D, pi + 1, R.ev⟩ (innerR rs) (by rw [KF.tyR_rs]; exact hty kf List.mem_cons_self) (by omega) (NeedRk_rs c.l hN) hfI (by omega) hstI hr1 (fun h => hnd (by rw [h]; rfl)) ?_ ?_
      · intro h f' w' h6 he
        exact herr (by rw [h]; rfl) f' w' h6 (hextI w' he)
      · intro y rs' hraw hrd f2 w2 cc2 hst2 hsz2 hsame2 he2 hk2 hrep2
        have h2l : f2 c.l = .pointer (some ⟨pi, 0, none⟩) := (hk2 c.l (by omega) (.inl (by omega))).trans h1l
        refine r_err (C := C) (pb := pi) (D := R.D) (rs := rs') (ev := R.ev) hE uErr hev hst2.rd hst2.rw_.err h2l (by omega) ?_ ?_
        · intro hbad f3 h6
          refine herr ?_ f3 w2 h6 (hextI w2 he2)
          rw [hrd]
          simp only [KO.of, hbad, if_true, KO.map]; rfl
        · intro hbad f3 hk3
          have hw2 := hextI w2 he2
          refine hsome (y, xr) ?_ f3 w2 cc2 ?_ hsz2 ?_ hw2 ?_ ⟨?_, ?_⟩
          · rw [hrd]
            simp only [KO.of, hbad, Bool.false_eq_true, if_false, KO.map]; rfl
          · refine ⟨hst2.blk, hst2.fit, ?_, hst.rw_.ext hw2⟩
            refine hro.ext he2 ?_ ?_
            · rintro (h' | h')
              · simp only at h'; omega
              · exact hst.rw_.ne.2.2 h'
            · rintro (h' | h')
              · simp only at h'; omega
              · exact hst.rw_.ne.2.1 h'.symm
          · intro j hj
            exact hsame2 j (by omega)
          · intro z hz1 hz
            rw [hk3 z (by omega) (by omega), hk2 z hz1 (by omega)]
            exact f1k z (by omega) (by omega)
          · refine kf.rep_back y hrep2 (Sch.Rep_mono (fun k hk => ?_) kf.sch (kf.rep_sch y hrep2))
            rcases hk with h' | h'
            · exact .inl h'
            · simp only at h'
              refine .inr ⟨by omega, fun hm' => ?_⟩
              have := hmp k hm'
              omega
          · refine KsRep_cells hlay.2 (fun j hj1 hj2 => ?_) (KsRep_ext hw2 hKK r hrr)
            rw [segL_get (by omega), segL_get (by omega)]
            exact hsame2 (a + j) (by omega)
    · have hstep : ksStep ver (kf :: r) key (v, xr) (innerR rs) = (ksStep ver r key xr (innerR rs)).map (Option.map fun r => (v, r)) := by simp only [ksStep, if_neg heq]; rfl
      rw [hstep] at hnd herr hnone hsome
      have hBf : B = false := by
        cases B
        · rfl
        · exact absurd (hB.1 rfl) heq
      refine .inr ⟨by rw [hbu, hBf], ?_⟩
      refine ih xr (kf.o + kf.sz) ⟨c1.l + 1, c1.t + 4, c1.k⟩ fu (fun g hg => hty g (List.mem_cons_of_mem _ hg)) hNr hlay.2 hrr ((hku kt (by omega)).trans hkey) hfr (by simp only; omega) hm hmt (by simp only; omega) (fun h => hnd (by rw [h]; rfl)) ?_ ?_ ?_
      · intro h f' w' h6 he
        exact herr (by rw [h]; rfl) f' w' h6 he
      · intro h f' hk'
        exact hnone (by rw [h]; rfl) f' (fun y hy => (hk' y hy).trans (hku y (by omega)))
      · intro y h f' w' cc' h1 h2 h3 h4 h5 h6
        refine hsome (v, y) (by rw [h]; rfl) f' w' cc' h1 h2 (fun j hj => h3 j (by omega)) h4 (fun z hz1 hz => (h5 z hz1 hz).trans (hku z (by omega))) ⟨?_, h6⟩
        refine Kn.Rep_cells kf (fun j hj1 hj2 => ?_) (Kn.Rep_ext h4 hKK kf.c hr)
        rw [segL_get (by omega), segL_get (by omega)]
        exact h3 (a + j) (by omega)
end
end Go.Kg

set_option linter.unusedSimpArgs false
set_option linter.unusedVariables false
set_option linter.unusedSectionVars false
namespace Go.Kg
open Go
/-- where pointers of what has been read lie: not the map of the unknown tags -/
def KX (R : Rdr) (uv : Value) (k : Nat) : Prop := k = R.D ∨ (R.base ≤ k ∧ ¬ uv = .map (some k))
structure KIn (C : CfgR) (R : Rdr) (ks : List KF) (ver : Int) (b a n lo to L mm tm N : Nat) (e : TypeId) (f0 : Nat → Value) (w0 : World) (cc0 : Array Value) (rs0 : RS) (i : Nat) (x : KsT ks) (u : TagL) (rs : RS) (f : Nat → Value) (w : World) : Prop where
  fi : f L = .int .u32 i
  keep : KeepR f0 f L mm tm
  ext : Ext (CB R b) w0 w
  st : ∃ cc uv, StR C R b a n w cc e rs ∧ cc.size = cc0.size ∧ (∀ j, (j < a + lo ∨ a + n ≤ j) → cc[j]? = cc0[j]?) ∧ cc[a + to]? = some uv ∧ TagsM w R.D R.base uv u ∧ (∀ m, uv = .map (some m) → w0.heap.size ≤ m) ∧ KsRep w (KX R uv) (segL cc a n) ks x
  nd : (u.map (·.1)).Nodup
  len : u.length + i ≤ N
  todo : kLoop (ksStep ver ks) i x u rs = kLoop (ksStep ver ks) N (ksDfl ks) [] rs0
section
variable {P : Program} {C : CfgR} {R : Rdr}
theorem secRI_mono (T PT pv : Nat) (ks : List KF) (tk : Nat) (c : Ct) : c.l + 2 ≤ (secRI C T PT pv ks tk c).2.l ∧ c.t + 16 ≤ (secRI C T PT pv ks tk c).2.t := by
  have := casesR_mono (C := C) T PT pv (c.t + 7) (unkR C T PT pv tk (c.l + 1) (c.t + 8)) ks ⟨c.l + 2, c.t + 16, c.k + 3⟩
  simp only [secRI]
  exact this
/-- i-- -/
theorem r_dec {Q : Post} {g : Nat → Value} {w : World} {L t i : Nat} (hi : g L = .int .u32 ((i + 1 : Nat) : Int)) (hlt : i + 1 < 4294967296) (hL : L < t) (h : ∀ g', (∀ y, y < t → y ≠ L → g' y = g y) → g' L = .int .u32 (i : Nat) → Q .normal g' w) :
    (Ir.reg [⟨none, some t, .move (.tmp L), C.E.tU32⟩, ⟨none, some (t + 1), .binOp .sub C.E.tU32 (.tmp t) (.const (.int .u32 1)) C.E.tU32, C.E.tU32⟩, ⟨none, some L, .assign (.tmp (t + 1)), C.E.tU32⟩]).wp P Q g w := by
  have hwk : IntKind.u32.wrap (((i + 1 : Nat) : Int) - 1) = (i : Int) := by simp [IntKind.wrap, IntKind.signed, IntKind.bits]; omega
  refine wp_reg ?_
  simp only [hi, regW_plain, updO, stp_move, stp_assign, stp_binOp, evF, upd_apply, if_true, bin_sub, hwk, optK, regW_nil]
  refine h _ ?_ (by simp)
  intro y hy hyL
  have x1 : (y = t) = False := by simp; omega
  have x2 : (y = t + 1) = False := by simp; omega
  simp [x1, x2, hyL]
theorem TagsM.map_lt {w : World} {D base m : Nat} {u : TagL} (h : TagsM w D base (.map (some m)) u) : m < w.heap.size ∧ base ≤ m := by
  rcases h with ⟨h, _⟩ | ⟨m', es, clock, h, hm, hb, _⟩
  · cases h
  · cases h; exact ⟨lt_of_heap hb, hm⟩
theorem r_sec (hsec : SecR P C) (htg : TyTg P C.E) (uU : P.underlying C.E.tU32 = some (.int .u32)) (hIset : FnIs P C.E.f_pkmsg_Tags_Set nt_pkmsg_Tags_Set (rs_pkmsg_Tags_Set C.E) (ir_pkmsg_Tags_Set C.E)) (hev : ∃ t v, R.ev = .iface t v) {T PT pv tk to lo a b n : Nat} {ks : List KF} {c : Ct} {e : TypeId} {ver : Int} {fl : Bool} {Q : Post} {rs : RS} {f : Nat → Value} {w : World} {cc : Array Value}
    (hF : fldOff P T tk = some to) (hty : ∀ kf ∈ ks, kf.tyR P C T = true) (hN : KsNeedR P C ks) (hlay : ksLay lo to ks = true) (hton : to + 1 ≤ n) (hf : FrR C R f pv b a ver fl c.l) (hc : (secRI C T PT pv ks tk c).2.l ≤ c.t) (hst : StR C R b a n w cc e rs)
    (hd : ∀ K, KsRep w K (segL cc a n) ks (ksDfl ks)) (hnil : cc[a + to]? = some (.map none))
    (hdup : ∀ rs', secRd ver fl ks rs ≠ some (none, rs'))
    (h0 : secRd ver fl ks rs = none → ∀ f' w', f' 6 = R.ev → Ext (CB R b) w w' → Q .ret f' w')
    (h1 : ∀ x u rs', secRd ver fl ks rs = some (some (x, u), rs') → ∀ f' w' cc' uv, StR C R b a n w' cc' e rs' → cc'.size = cc.size → (∀ j, (j < a + lo ∨ a + n ≤ j) → cc'[j]? = cc[j]?) → Ext (CB R b) w w' → KeepR f f' c.l (secRI C T PT pv ks tk c).2.l c.t → KsRep w' (RK R) (segL cc' a n) ks x → cc'[a + to]? = some uv → TagsAt w' (RK R) uv u → Q .normal f' w') :
    (secRI C T PT pv ks tk c).1.wp P Q f w := by
  have hsec' := hsec
  obtain ⟨ht, hfx, hrb, iU, iI, uErr, hE, hUv, hSp⟩ := hsec
  have hn10 := hf.nN
  have hpt := hf.ptrN
  have hrs := hf.rsN
  have hmono := secRI_mono (C := C) T PT pv ks tk c
  have hlo := ksLay_le hlay
  simp only [secRI] at hc h1 hmono ⊢
  have hcs := fun (Q' : Post) (rs' : RS) (w' : World) (cc' : Array Value) (mp : Nat → Prop) (key : Nat) => r_cases (P := P) (C := C) (R := R) hsec' hev (T := T) (PT := PT) (pv := pv) (key := key) (kt := c.t + 7) (n0 := c.l + 2) (mm := (casesR C T PT pv (c.t + 7) (unkR C T PT pv tk (c.l + 1) (c.t + 8)) ks ⟨c.l + 2, c.t + 16, c.k + 3⟩).2.l) (tm := c.t + 8) (to := to) (a := a) (b := b) (n := n) (d := unkR C T PT pv tk (c.l + 1) (c.t + 8)) (e := e) (ver := ver) (Q := Q') (rs := rs') (w := w') (cc := cc') (mp := mp) (ks := ks) (lo := lo) (c := ⟨c.l + 2, c.t + 16, c.k + 3⟩)
  generalize hz : casesR C T PT pv (c.t + 7) (unkR C T PT pv tk (c.l + 1) (c.t + 8)) ks ⟨c.l + 2, c.t + 16, c.k + 3⟩ = z at hc h1 hmono hcs ⊢
  obtain ⟨cw, c1⟩ := z
  simp only at hc h1 hmono hcs ⊢
  refine r_cond (hf.flg hfx) (by omega) ?_ ?_
  rotate_left
  · rintro rfl f1 hk1
    show Q .normal f1 w
    refine h1 (ksDfl ks) [] rs rfl f1 w cc (.map none) hst rfl (fun _ _ => rfl) (Ext.refl _ _) ?_ (hd _) hnil (.inl ⟨rfl, rfl⟩)
    intro z hz1 hz
    exact hk1 z (by omega)
  · rintro rfl f1 hk1
    have hsr : secRd ver true ks rs = kLoop (ksStep ver ks) (rdUv rs).1 (ksDfl ks) [] (rdUv rs).2 := rfl
    rw [hsr] at h0 h1 hdup
    have f1r : f1 C.rs = .pointer (some ⟨R.pb, 0, none⟩) := (hk1 C.rs (by omega)).trans hf.rd
    refine seqL_cons (wp_reg ?_)
    simp [f1r]
    refine (hUv w R.pb R.D rs hst.rw_.ne.1 hst.rd).mono ?_
    rintro _ w1 ⟨rfl, he1, hr1⟩
    simp
    have hst1 := hst.ext1 he1 hr1
    generalize hf2 : upd (upd f1 (c.t + 1) (.int .u32 (rdUv rs).1)) c.l (.int .u32 (rdUv rs).1) = f2
    have f2k : ∀ y, y < c.t → y ≠ c.l → f2 y = f y := by
      intro y hy hyl
      subst hf2
      have x1 : (y = c.t + 1) = False := by simp; omega
      simp [x1, hyl]
      exact hk1 y hy
    have f2i : f2 c.l = .int .u32 (rdUv rs).1 := by subst hf2; simp
    have hNlt := rdUv_lt rs
    -- the loop
    show (Ir.block c.k (Ir.loop _)).wp P Q f2 w1
    show (Ir.loop _).wp P (inBlockF c.k Q) f2 w1
    refine ⟨fun f' w' => ∃ i x u rs', KIn C R ks ver b a n lo to c.l c1.l c.t (rdUv rs).1 e f2 w1 cc (rdUv rs).2 i x u rs' f' w', fun f' _ => match f' c.l with | .int _ i => i.toNat | _ => 0, ?_, ?_⟩
    · exact ⟨(rdUv rs).1, ksDfl ks, [], (rdUv rs).2, f2i, KeepR.refl _ _ _ _, Ext.refl _ _, ⟨cc, .map none, hst1, rfl, fun _ _ => rfl, hnil, .inl ⟨rfl, rfl⟩, (fun m h => by cases h), KsRep_ext he1 (K := KX R (.map none)) (fun k hk h hc => by
        rcases h with h | h
        · exact hst.rw_.ne.1 (hc.symm.trans h)
        · have := hst.rw_.lt.1; have hc' : k = R.pb := hc; omega) ks (hd _)⟩, by simp, by simp, rfl⟩
    · rintro g w2 ⟨i, x, u, rs2, gi, gk, gext, ⟨cc2, uv, gst, gsz, gsame, guv, gM, gnew, grep⟩, gnd, glen, gtodo⟩
      have gk' : ∀ y, y ≠ 1 → y < c.t → (y < c.l ∨ c1.l ≤ y) → g y = f y := fun y hy1 hy hyl => (gk y hy1 (by omega)).trans (f2k y hy (by omega))
      refine wp_seqI ?_
      show (Ir.seq _ _).wp P _ g w2
      refine wp_seqI (wp_reg ?_)
      simp [gi]
      by_cases hi : i = 0
      · -- all is read
        subst hi
        refine .inr ⟨by simp, ?_⟩
        show inBlockF c.k Q (.exit c.k) _ _
        rw [inBlockF_exit, if_pos rfl]
        simp only [kLoop] at gtodo
        have hM : TagsAt w2 (RK R) uv u := by
          rw [tagsAt_iff]
          rcases gM with ⟨rfl, rfl⟩ | ⟨m, es, clock, rfl, hm, hmb, he, hn, hne⟩
          · exact .inl ⟨rfl, rfl⟩
          · exact .inr ⟨m, es, clock, rfl, .inr hm, hmb, EL.mono (fun b hb => .inl hb) he, gnd, hn, by omega, hne⟩
        refine h1 x u rs2 gtodo.symm _ w2 cc2 uv gst gsz gsame ?_ ?_ (KsRep_mono (fun k hk => hk.elim .inl (fun h => .inr h.1)) ks grep) guv hM
        · exact (he1.mono (fun _ _ h => .inl h)).trans gext
        · intro y hy1 hy
          have x1 : ∀ k, (y = c.t + k) = False := by intro k; simp; omega
          simp [x1]
          exact gk' y hy1 (by omega) (by omega)
      · refine .inl ⟨by simp; omega, ?_⟩
        obtain ⟨i, rfl⟩ : ∃ j, i = j + 1 := ⟨i - 1, by omega⟩
        generalize hg3 : upd (upd g (c.t + 2) _) (c.t + 3) _ = g3
        have g3k : ∀ y, y < c.t + 2 → g3 y = g y := by
          intro y hy
          subst hg3
          have x1 : (y = c.t + 2) = False := by simp; omega
          have x2 : (y = c.t + 3) = False := by simp; omega
          simp [x1, x2]
        have g3rs : g3 C.rs = .pointer (some ⟨R.pb, 0, none⟩) := (g3k C.rs (by omega)).trans ((gk' C.rs (by omega) (by omega) (by omega)).trans hf.rd)
        show (Ir.seq _ _).wp P _ g3 w2
        refine wp_seqI ?_
        show (seqL _).wp P _ g3 w2
        refine seqL_cons (wp_reg ?_)
        simp [g3rs]
        refine (hUv w2 R.pb R.D rs2 gst.rw_.ne.1 gst.rd).mono ?_
        rintro _ w3 ⟨rfl, he3, hr3⟩
        simp
        refine seqL_cons (wp_reg ?_)
        simp
        have hst3 := gst.ext1 he3 hr3
        generalize hg4 : upd (upd (upd g3 (c.t + 6) _) (c.l + 1) _) (c.t + 7) _ = g4
        have g4k : ∀ y, y < c.t + 2 → y ≠ c.l + 1 → g4 y = g y := by
          intro y hy hyl
          subst hg4
          have x1 : (y = c.t + 6) = False := by simp; omega
          have x2 : (y = c.t + 7) = False := by simp; omega
          simp [x1, x2, hyl]
          exact g3k y hy
        have g4key : g4 (c.t + 7) = .int .u32 ((rdUv rs2).1 : Nat) := by subst hg4; simp
        have g4l : g4 (c.l + 1) = .int .u32 ((rdUv rs2).1 : Nat) := by
          subst hg4
          have x1 : (c.l + 1 = c.t + 7) = False := by simp; omega
          simp [x1]
        have g4i : g4 c.l = .int .u32 ((i + 1 : Nat) : Int) := (g4k c.l (by omega) (by omega)).trans gi
        have hfr4 : FrR C R g4 pv b a ver true c.l := hf.keep (fun y hy hy1 => (g4k y (by omega) (by omega)).trans (gk' y hy1 (by omega) (.inl hy))) (Nat.le_refl _)
        have hK2 : ∀ k, k < w2.heap.size → KX R uv k → ¬ (k = R.pb) := fun k hk h hc => by
          rcases h with h | h
          · exact gst.rw_.ne.1 (hc.symm.trans h)
          · have := gst.rw_.lt.1; omega
        have grep3 : KsRep w3 (KX R uv) (segL cc2 a n) ks x := KsRep_ext he3 hK2 ks grep
        have gM3 : TagsM w3 R.D R.base uv u := gM.ext he3 (fun h => gst.rw_.ne.1 h.symm) (fun k hk hb h => by have := gst.rw_.lt.1; have h' : k = R.pb := h; omega)
        have hmp : ∀ k, (uv = .map (some k)) → k < w3.heap.size := fun k hk => by subst hk; exact (TagsM.map_lt gM3).1
        have hdup' : ksStep ver ks (rdUv rs2).1 x (innerR (rdUv rs2).2) ≠ .dup := by
          intro h
          refine hdup (outerR (rdUv rs2).2) ?_
          rw [← gtodo]
          simp only [kLoop]
          unfold innerR at h
          rw [h]
          rfl
        have glt : i + 1 < 4294967296 := by omega
        have gx3 : Ext (CB R b) w1 w3 := gext.trans (he3.mono (fun _ _ h => .inl h))
        show (Ir.block (c.k + 2) cw).wp P _ g4 w3
        show cw.wp P _ g4 w3
        have gK : ∀ y, y ≠ 1 → (y < c.l ∨ (c1.l ≤ y ∧ y < c.t)) → g4 y = f2 y := fun y hy1 hy => (g4k y (by omega) (by omega)).trans (gk y hy1 hy)
        refine hcs _ (rdUv rs2).2 w3 cc2 (fun k => uv = .map (some k)) (rdUv rs2).1 (by omega) hst3 hmp (by omega) x lo g4 hty hN hlay grep3 g4key (hfr4.up (by omega)) (Nat.le_refl _) (Nat.le_refl _) (by omega) (by omega) hdup' ?_ ?_ ?_
        · -- an error within
          intro herr g5 w5 h6 he5
          show Q .ret g5 w5
          refine h0 ?_ g5 w5 h6 ((he1.mono (fun _ _ h => .inl h)).trans (gx3.trans he5))
          rw [← gtodo]
          simp only [kLoop]
          unfold innerR at herr
          rw [herr]
        · -- an unknown one
          intro hnone g5 hk5
          have hloop : kLoop (ksStep ver ks) (i + 1) x u rs2 = kLoop (ksStep ver ks) i x (setTag (rdUv rs2).1 (rdSpan (rdUv (rdUv rs2).2).1 (rdUv (rdUv rs2).2).2).1 u) (outerR (rdUv rs2).2) := by
            simp only [kLoop]
            unfold innerR at hnone
            rw [hnone]; rfl
          have g5pv : g5 pv = .pointer (some ⟨b, a, none⟩) := (hk5 pv (by omega)).trans hfr4.ptr
          have g5rs : g5 C.rs = .pointer (some ⟨R.pb, 0, none⟩) := (hk5 C.rs (by omega)).trans hfr4.rd
          have g5l : g5 (c.l + 1) = .int .u32 ((rdUv rs2).1 : Nat) := (hk5 (c.l + 1) (by omega)).trans g4l
          have y1 : ∀ k, (pv = c.t + 8 + k) = False := by intro k; simp; omega
          have y1' : (pv = c.t + 8) = False := by simp; omega
          have y2 : ∀ k, (C.rs = c.t + 8 + k) = False := by intro k; simp; omega
          have y2' : (C.rs = c.t + 8) = False := by simp; omega
          have y3 : ∀ k, (c.l + 1 = c.t + 8 + k) = False := by intro k; simp; omega
          have y3' : (c.l + 1 = c.t + 8) = False := by simp; omega
          have y5 : ∀ k, (c.l = c.t + k) = False := by intro k; simp; omega
          refine Ir.cw_sound _ ?_
          have hD := (Ext.refl none1 w3).drew
          refine cw_regH (fun _ => True) trivial ?_
          simp +contextual [g5pv, g5rs, g5l, hF, Addr.add_mk, y1, y1', y2, y2', y3, y3', y5, iU, iI]
          have hrD : RdAt C.E.tRd w3.drew R.pb R.D (rdUv rs2).2 := hr3.ext hD (fun h => h) (fun h => h)
          refine (hUv w3.drew R.pb R.D _ gst.rw_.ne.1 hrD).mono ?_
          rintro _ w4 ⟨rfl, he4, hr4⟩
          have hwr : IntKind.i64.wrap ((rdUv (rdUv rs2).2).1 : Int) = ((rdUv (rdUv rs2).2).1 : Int) := i64_small (by omega) (by have := rdUv_lt (rdUv rs2).2; omega)
          simp [iU, iI, hwr, y2, y2', g5rs]
          refine (hSp w4 R.pb R.D _ _ gst.rw_.ne.1 hr4).mono ?_
          rintro v w5 ⟨hv, _, he5, hr5⟩
          have he35 : Ext (· = R.pb) w3 w5 := (hD.mono (fun _ _ h => h.elim)).trans (he4.trans he5)
          have hst5 : StR C R b a n w5 cc2 e (outerR (rdUv rs2).2) := hst3.ext1 he35 hr5
          have gM5 : TagsM w5 R.D R.base uv u := gM3.ext he35 (fun h => gst.rw_.ne.1 h.symm) (fun k hk hb h => by have := gst.rw_.lt.1; have h' : k = R.pb := h; omega)
          have hK3 : ∀ k, k < w3.heap.size → KX R uv k → ¬ (k = R.pb) := fun k hk h hc => by
            rcases h with h | h
            · exact gst.rw_.ne.1 (hc.symm.trans h)
            · have := gst.rw_.lt.1; omega
          have grep5 : KsRep w5 (KX R uv) (segL cc2 a n) ks x := KsRep_ext he35 hK3 ks grep3
          refine (c_TSetM htg uU hIset (rdUv_lt rs2) hv hst5.blk guv gM5 hst5.rw_.lt.2.2.1 (fun h => hst5.rw_.ne.2.1 h.symm) hst5.rw_.lt.2.2.2).mono ?_
          rintro _ w6 ⟨u', hb6, hM6, he6, hu6⟩
          try simp
          have hsz5 := he35.size
          have hsz3 := gx3.size
          have hx6 : ∀ k, k < w5.heap.size → (k = b ∨ uv = .map (some k)) → CB R b k ∨ w1.heap.size ≤ k := fun k hk h => h.elim (fun h => .inl (.inr h)) (fun h => .inr (gnew k h))
          have gx6 : Ext (CB R b) w1 w6 := Ext.trans' (C := CB R b) (gx3.trans (he35.mono (fun _ _ h => .inl h))) he6 (fun k hk h => by
            rcases hx6 k (by omega) h with h' | h'
            · exact h'
            · omega)
          have hmapb : ∀ k, uv = .map (some k) → R.base ≤ k ∧ k < w5.heap.size := fun k hk => by subst hk; exact ⟨(TagsM.map_lt gM5).2, (TagsM.map_lt gM5).1⟩
          have holt : a + to < cc2.size := (Array.getElem?_eq_some_iff.1 guv).1
          have hst6 : StR C R b a n w6 (cc2.setIfInBounds (a + to) u') e (outerR (rdUv rs2).2) := by
            refine ⟨hb6, by simpa using hst5.fit, hst5.rd.ext he6 ?_ ?_, ⟨⟨hst5.rw_.lt.1, hst5.rw_.lt.2.1, hst5.rw_.lt.2.2.1, Nat.le_trans hst5.rw_.lt.2.2.2 he6.size⟩, hst5.rw_.ne, he6.cell hst5.rw_.err ?_, hst5.rw_.errN⟩⟩
            · rintro (h | h)
              · exact hst5.rw_.ne.2.2 h
              · have := (hmapb _ h).1; have := hst5.rw_.lt.1; omega
            · rintro (h | h)
              · exact hst5.rw_.ne.2.1 h.symm
              · have := (hmapb _ h).1; have := hst5.rw_.lt.2.2.1; omega
            · rintro (h | h)
              · exact hst5.rw_.errN.2 h
              · have h7 : w1.heap.size ≤ C.E.g_kbin_ErrNotEnoughData := gnew _ h
                have h8 := World.block_lt_of_cell? w _ hst.rw_.err
                have h9 := he1.size
                simp only at h8
                omega
          -- the fields
          have grep6 : KsRep w6 (KX R u') (segL (cc2.setIfInBounds (a + to) u') a n) ks x := by
            have q1 := KsRep_ltK ks grep5
            have q2 := KsRep_ext he6 (K := fun k => KX R uv k ∧ k < w5.heap.size) (fun k hk h hc => by
              rcases hc with hc | hc
              · rcases h.1 with h' | h'
                · exact hst5.rw_.ne.2.1 (hc.symm.trans h')
                · have := hst5.rw_.lt.2.1; omega
              · rcases h.1 with h' | h'
                · have := (hmapb _ hc).1; have := hst5.rw_.lt.2.2.1; omega
                · exact h'.2 hc) ks q1
            have q3 := KsRep_mono (K' := KX R u') (fun k h => by
              rcases h.1 with h' | h'
              · exact .inl h'
              · refine .inr ⟨h'.1, fun hc => ?_⟩
                rcases hu6 with rfl | rfl
                · exact h'.2 hc
                · cases hc; have := h.2; omega) ks q2
            refine KsRep_cells hlay (fun j hj1 hj2 => ?_) q3
            rw [segL_get (by omega), segL_get (by omega), Array.getElem?_setIfInBounds, if_neg (by omega)]
          show (Ir.reg _).wp P _ _ w6
          refine r_dec (i := i) ?_ glt (by omega) ?_
          · have y0 : ∀ k, (c.l = c.t + 8 + k) = False := by intro k; simp; omega
            have y0' : (c.l = c.t + 8) = False := by simp; omega
            simp [y0, y0']
            exact (hk5 c.l (by omega)).trans g4i
          · intro g7 hk7 h7i
            refine ⟨⟨i, x, setTag (rdUv rs2).1 (rdSpan (rdUv (rdUv rs2).2).1 (rdUv (rdUv rs2).2).2).1 u, outerR (rdUv rs2).2, h7i, ?_, gx6, ⟨_, u', hst6, by simpa using gsz, ?_, ?_, hM6, ?_, grep6⟩, setTag_nodup _ _ _ gnd, ?_, ?_⟩, ?_⟩
            · intro y hy1 hy
              have y0 : ∀ k, (y = c.t + 8 + k) = False := by intro k; simp; omega
              have y0' : (y = c.t + 8) = False := by simp; omega
              rw [hk7 y (by omega) (by omega)]
              simp [y0, y0']
              rw [hk5 y (by omega)]
              exact gK y hy1 hy
            · intro j hj
              rw [Array.getElem?_setIfInBounds, if_neg (by omega)]
              exact gsame j hj
            · simp [holt]
            · intro m hm
              rcases hu6 with rfl | rfl
              · exact gnew m hm
              · cases hm; omega
            · have := setTag_len1 (rdUv rs2).1 (rdSpan (rdUv (rdUv rs2).2).1 (rdUv (rdUv rs2).2).2).1 u
              omega
            · rw [← hloop]; exact gtodo
            · simp only [h7i, gi]
              omega
        · -- a known one
          intro x' hx' g5 w5 cc5 hst5 hsz5 hsame5 he5 hk5 hrep5
          have hloop : kLoop (ksStep ver ks) (i + 1) x u rs2 = kLoop (ksStep ver ks) i x' u (outerR (rdUv rs2).2) := by
            simp only [kLoop]
            unfold innerR at hx'
            rw [hx']; rfl
          have guv5 : cc5[a + to]? = some uv := by rw [hsame5 (a + to) (by omega)]; exact guv
          have gM5 : TagsM w5 R.D R.base uv u := gM3.ext he5 (fun h => by
            rcases h with h | h
            · exact gst.rw_.ne.1 h.symm
            · exact gst.rw_.ne.2.1 h.symm) (fun k hk hb h => by
            have := gst.rw_.lt.1
            have := gst.rw_.lt.2.1
            rcases h with h | h <;> omega)
          show (Ir.reg _).wp P _ g5 w5
          refine r_dec (i := i) ((hk5 c.l (by omega) (.inl (by omega))).trans g4i) glt (by omega) ?_
          intro g7 hk7 h7i
          refine ⟨⟨i, x', u, outerR (rdUv rs2).2, h7i, ?_, gx3.trans he5, ⟨cc5, uv, hst5, by rw [hsz5]; exact gsz, ?_, guv5, gM5, gnew, hrep5⟩, gnd, by omega, ?_⟩, ?_⟩
          · intro y hy1 hy
            rw [hk7 y (by omega) (by omega), hk5 y hy1 (by omega)]
            exact gK y hy1 hy
          · intro j hj
            rw [hsame5 j (by omega)]
            exact gsame j hj
          · rw [← hloop]; exact gtodo
          · simp only [h7i, gi]
            omega
end
end Go.Kg

set_option linter.unusedSimpArgs false
set_option linter.unusedVariables false
set_option linter.unusedSectionVars false
namespace Go.Kg
open Go
/-- what lies elsewhere does not count -/
theorem Sch.Rep_cells {P : Program} {C : CfgR} {w : World} {K : Nat → Prop} {cs cs' : List Value} : ∀ (S : Sch) {T n lo : Nat} {x : S.T}, S.tyR P C T n lo = true → (∀ j, lo ≤ j → j < n → cs'[j]? = cs[j]?) → S.Rep w K cs x → S.Rep w K cs' x := by
  intro S
  induction S generalizing cs cs' with
  | fin => intros; trivial
  | tags k o =>
    intro T n lo x ht h hr
    simp only [Sch.tyR, Bool.and_eq_true, decide_eq_true_eq] at ht
    obtain ⟨v, h1, h2⟩ := hr
    exact ⟨v, (h o (by omega) (by omega)).trans h1, h2⟩
  | prim g k o p en d rest ih =>
    rintro T n lo ⟨x, r⟩ ht h ⟨⟨v, h1, h2⟩, hr⟩
    simp only [Sch.tyR, Bool.and_eq_true, decide_eq_true_eq] at ht
    refine ⟨⟨v, fun j u hj => ?_, h2⟩, ih ht.2 (fun j h1 h2 => h j (by omega) h2) hr⟩
    have h3 := rep1_sz h2
    have h4 := (List.getElem?_eq_some_iff.1 hj).1
    have h5 : j < p.sz := by rw [← h3]; simpa using h4
    rw [h (o + j) (by omega) (by omega)]
    exact h1 j u hj
  | arrP g k o sT nul p rest ih =>
    rintro T n lo ⟨x, r⟩ ht h ⟨⟨v, ls, h1, h2⟩, hr⟩
    simp only [Sch.tyR, Bool.and_eq_true, decide_eq_true_eq] at ht
    exact ⟨⟨v, ls, (h o (by omega) (by omega)).trans h1, h2⟩, ih ht.2 (fun j h1 h2 => h j (by omega) h2) hr⟩
  | arrS g k o sT nul T' PT sz df e rest ihe ih =>
    rintro T n lo ⟨x, r⟩ ht h ⟨⟨v, ls, h1, h2⟩, hr⟩
    simp only [Sch.tyR, Bool.and_eq_true, decide_eq_true_eq] at ht
    exact ⟨⟨v, ls, (h o (by omega) (by omega)).trans h1, h2⟩, ih ht.2 (fun j h1 h2 => h j (by omega) h2) hr⟩
  | sub g k o T' PT sz df e rest ihe ih =>
    rintro T n lo ⟨x, r⟩ ht h ⟨hx, hr⟩
    simp only [Sch.tyR, Bool.and_eq_true, decide_eq_true_eq] at ht
    refine ⟨ihe ht.1.1.1.2 (fun j h1 h2 => ?_) hx, ih ht.2 (fun j h1 h2 => h j (by omega) h2) hr⟩
    rw [List.getElem?_take, List.getElem?_take, if_pos h2, if_pos h2, List.getElem?_drop, List.getElem?_drop]
    exact h _ (by omega) (by omega)
  | opt g k o T' PT PP sz df e rest ihe ih =>
    rintro T n lo ⟨x, r⟩ ht h ⟨⟨v, h1, h2⟩, hr⟩
    simp only [Sch.tyR, Bool.and_eq_true, decide_eq_true_eq] at ht
    exact ⟨⟨v, (h o (by omega) (by omega)).trans h1, h2⟩, ih ht.2 (fun j h1 h2 => h j (by omega) h2) hr⟩
/-- a struct's cells are all there -/
def KF.lenB (f : KF) (cs : List Value) : Bool := match f.c with
  | .str _ _ sz _ _ _ _ => ((cs.drop f.o).take sz).length == sz
  | _ => true
/-- the known tags' cells are those of defaults -/
def ksChkD (cs : List Value) : List KF → Bool
  | [] => true
  | f :: l => (f.sch.chkD cs && f.lenB cs) && ksChkD cs l
theorem KF.sv_dfl (f : KF) : f.sv f.c.dfl = f.sch.dfl := by
  obtain ⟨num, k, o, c⟩ := f
  cases c <;> rfl
theorem KsRep_dfl {w : World} {K : Nat → Prop} {cs : List Value} : ∀ (l : List KF), ksChkD cs l = true → KsRep w K cs l (ksDfl l)
  | [], _ => trivial
  | f :: l, h => by
    simp only [ksChkD, Bool.and_eq_true] at h
    have hs : f.sch.Rep w K cs (f.sv f.c.dfl) := by rw [f.sv_dfl]; exact Sch.repD f.sch h.1.1
    refine ⟨?_, KsRep_dfl l h.2⟩
    have hl := h.1.2
    obtain ⟨num, k, o, c⟩ := f
    cases c with
    | prim p d => exact hs.1
    | arr sT T PT sz df e => exact hs.1
    | str T PT sz df sm mk e => exact ⟨by simpa [KF.lenB] using hl, hs.1⟩
/-- a message with known tags stands in memory -/
def KmRep (w : World) (K : Nat → Prop) (cs : List Value) (M : KM) (x : M.T) : Prop := M.S.Rep w K cs x.1 ∧ KsRep w K cs M.ks x.2.1 ∧ (Sch.tags M.tk M.to).Rep w K cs x.2.2
/-- n: how many cells; lo: the known tags' first cell -/
structure MsgRm (P : Program) (C : CfgR) (T PT n lo : Nat) (M : KM) (kv : Bool) (nl : Nat) : Prop where
  rs7 : C.rs = 7
  sec : SecR P C
  tg : TyTg P C.E
  uU : P.underlying C.E.tU32 = some (.int .u32)
  setI : FnIs P C.E.f_pkmsg_Tags_Set nt_pkmsg_Tags_Set (rs_pkmsg_Tags_Set C.E) (ir_pkmsg_Tags_Set C.E)
  tyR : M.S.tyR P C T lo 1 = true
  need : M.S.NeedR P C
  tyK : (M.ks.all fun kf => kf.tyR P C T) = true
  needK : KsNeedR P C M.ks
  lay : ksLay lo M.to M.ks = true
  ton : M.to + 1 ≤ n
  lo1 : 1 ≤ lo
  f0 : fldOff P T 0 = some 0
  ft : fldOff P T M.tk = some M.to
  nl : (secRI C T PT 10 M.ks M.tk (M.S.genR C T PT 10 (ctR C kv nl)).2).2.l ≤ nl
/-- what is read, at the end -/
def MPost (M : KM) (X : Nat → Prop) (b a n : Nat) (w : World) (cc : Array Value) (e : TypeId) (ver : Int) (fl : Bool) (ev : Value) (rs : RS) (v : Value) (w' : World) : Prop :=
  Ext X w w' ∧ (M.rd ver fl rs = none → v = ev) ∧ ∀ x rs', M.rd ver fl rs = some (some x, rs') → v = (if rs'.bad then ev else .nilIface) ∧
    ∃ cc', w'.heap[b]? = some (.cells cc' e (0, 0)) ∧ cc'.size = cc.size ∧ (∀ j, (j < a + 1 ∨ a + n ≤ j) → cc'[j]? = cc[j]?) ∧ KmRep w' (fun k => k < w'.heap.size) (segL cc' a n) M x
theorem km_none {ver : Int} {fl : Bool} {M : KM} {rs : RS} (h : M.S.rd ver fl rs = none) : M.rd ver fl rs = none := by simp only [KM.rd, h]; rfl
theorem km_none2 {ver : Int} {fl : Bool} {M : KM} {rs rs1 : RS} {x : M.S.T} (h : M.S.rd ver fl rs = some (x, rs1)) (h2 : secRd ver fl M.ks rs1 = none) : M.rd ver fl rs = none := by simp only [KM.rd, h, Option.bind_some, h2]; rfl
theorem km_some {ver : Int} {fl : Bool} {M : KM} {rs rs1 rs2 : RS} {x : M.S.T} {y : Option (KsT M.ks × TagL)} (h : M.S.rd ver fl rs = some (x, rs1)) (h2 : secRd ver fl M.ks rs1 = some (y, rs2)) : M.rd ver fl rs = some (y.map fun y => ((x, y.1, y.2) : M.T), rs2) := by simp only [KM.rd, h, Option.bind_some, h2]; rfl
theorem retPost_mono {P : Program} {l : List Rv} {X Y : Value → World → Prop} (h : ∀ v w, X v w → Y v w) {e : Exit} {f : Nat → Value} {w : World} (hx : retPost P l X e f w) : retPost P l Y e f w := by
  cases e with
  | normal => revert hx; simp only [retPost]; cases rvs? P f w l <;> simp [optK]; exact h _ _
  | ret => revert hx; simp only [retPost]; cases rvs? P f w l <;> simp [optK]; exact h _ _
  | _ => exact hx
theorem behindM {P : Program} {C : CfgR} {R : Rdr} {T PT n lo nl : Nat} {kv : Bool} {M : KM} (hm : MsgRm P C T PT n lo M kv nl) (hev : ∃ t v, R.ev = .iface t v) {f : Nat → Value} {w : World} {b a : Nat} {cc : Array Value} {e : TypeId} {ver : Int} {fl : Bool} {rs : RS}
    (hf : FrR C R f 10 b a ver fl (ctR C kv nl).l) (hst : StR C R b a n w cc e rs) (hchk : M.S.chkD (segL cc a n) = true) (hks : ksChkD (segL cc a n) M.ks = true) (hnil : cc[a + M.to]? = some (.map none)) (hdup : ∀ rs', M.rd ver fl rs ≠ some (none, rs')) :
    (seqL ((M.S.genR C T PT 10 (ctR C kv nl)).1 ++ (secRI C T PT 10 M.ks M.tk (M.S.genR C T PT 10 (ctR C kv nl)).2).1 :: completeI C (secRI C T PT 10 M.ks M.tk (M.S.genR C T PT 10 (ctR C kv nl)).2).2.t)).wp P
      (retPost P [.t 6] fun v w' => MPost M (CB R b) b a n w cc e ver fl R.ev rs v w') f w := by
  obtain ⟨hrs, hsec, htg, huU, hset, htyR, hN, htyK, hNK, hlay, hton, hlo1, hf0, hft, hnl⟩ := hm
  have hfx := hsec.fx
  have hmono := genR_mono (C := C) M.S T PT 10 (ctR C kv nl)
  have hmono2 := secRI_mono (C := C) T PT 10 M.ks M.tk (M.S.genR C T PT 10 (ctR C kv nl)).2
  have hle := ksLay_le hlay
  have q6 : (ctR C kv nl).l = 11 := by simp [ctR, hfx]
  have qt : nl + 10 ≤ (ctR C kv nl).t := by simp [ctR, hfx]; omega
  have hfit := hst.fit
  have htyK' : ∀ kf ∈ M.ks, kf.tyR P C T = true := by simpa using htyK
  have hstL : StR C R b a lo w cc e rs := ⟨hst.blk, by omega, hst.rd, hst.rw_⟩
  have hchkL : M.S.chkD (segL cc a lo) = true := chkD_congr M.S htyR (fun j _ hj => by rw [segL_get hj, segL_get (by omega)]) hchk
  refine seqL_append ?_
  refine soundR hsec.ty M.S T PT 10 (ctR C kv nl) _ f w b a lo 1 cc e ver fl R rs htyR hN hf (by omega) hstL hchkL ?_ ?_
  · intro hnone f' w' h6 he
    show retPost P [.t 6] (fun v w' => MPost M (CB R b) b a n w cc e ver fl R.ev rs v w') .ret f' w'
    simp [h6]
    have hn := km_none hnone
    exact ⟨he, fun _ => rfl, fun x rs' h => by rw [hn] at h; cases h⟩
  · intro x rs1 hx f1 w1 cc1 hto hrep
    have hst1 : StR C R b a n w1 cc1 e rs1 := ⟨hto.st.blk, by rw [hto.size]; exact hfit, hto.st.rd, hto.st.rw_⟩
    have hf1 : FrR C R f1 10 b a ver fl (M.S.genR C T PT 10 (ctR C kv nl)).2.l := (hf.keep hto.keep.keeps (Nat.le_refl _)).up hmono.1
    show (seqL (_ :: _)).wp P _ f1 w1
    refine seqL_cons ?_
    refine r_sec hsec htg huU hset hev hft htyK' hNK hlay hton hf1 (by omega) hst1 (fun K => KsRep_cells hlay (fun j h1 h2 => ?_) (KsRep_dfl M.ks hks)) ?_ ?_ ?_ ?_
    · rw [segL_get (by omega), segL_get (by omega)]
      exact hto.same _ (.inr (by omega))
    · rw [hto.same _ (.inr (by omega))]; exact hnil
    · intro rs' h
      exact hdup rs' (km_some hx h)
    · intro h f' w' h6 he
      show retPost P [.t 6] (fun v w' => MPost M (CB R b) b a n w cc e ver fl R.ev rs v w') .ret f' w'
      simp [h6]
      have hn := km_none2 hx h
      exact ⟨hto.ext.trans he, fun _ => rfl, fun x rs' h => by rw [hn] at h; cases h⟩
    · intro y u rs2 h f2 w2 cc2 uv hst2 hsz2 hsame2 he2 hk2 hrep2 huv hu
      have hs := km_some hx h
      have k7 : f2 C.rs = .pointer (some ⟨R.pb, 0, none⟩) := by rw [hk2 C.rs (by omega) (.inl (by omega))]; exact hf1.rd
      show (seqL (completeI C _)).wp P _ f2 w2
      refine r_complete hsec.endc hst2 k7 ?_
      intro f3 h6
      show retPost P [.t 6] (fun v w' => MPost M (CB R b) b a n w cc e ver fl R.ev rs v w') .ret f3 w2
      simp [h6]
      refine ⟨hto.ext.trans he2, fun h => (by rw [hs] at h; cases h), fun x2 rs3 h2 => ?_⟩
      rw [hs] at h2
      cases h2
      refine ⟨rfl, cc2, hst2.blk, hsz2.trans hto.size, fun j hj => ?_, ?_, ?_, ?_⟩
      · rw [hsame2 j (by omega)]
        exact hto.same j (by omega)
      · have r1 := Sch.Rep_ext he2 (K := RK R) (fun k hk h => hst1.rw_.keepK k hk h) M.S hrep
        have r2 := Sch.Rep_cells (cs' := segL cc2 a n) M.S htyR (fun j h1 h2 => (segL_get (c := cc2) (a := a) (n := n) (j := j) (by omega)).trans ((hsame2 _ (.inl (by omega))).trans (segL_get h2).symm)) r1
        exact Sch.Rep_lt M.S r2
      · exact KsRep_mono (fun k hk => hk.2) M.ks (KsRep_ltK M.ks hrep2)
      · exact Sch.Rep_lt (.tags M.tk M.to) (x := u) ⟨uv, by rw [segL_get (by omega)]; exact huv, hu⟩
def ReadPostM (M : KM) (b a n : Nat) (w : World) (cc : Array Value) (e : TypeId) (ver : Int) (fl : Bool) (ev : Value) (rs : RS) (v : Value) (w' : World) : Prop := MPost M (· = b) b a n w cc e ver fl ev rs v w'
set_option maxHeartbeats 1000000 in
theorem readFromM {P : Program} {C : CfgR} {T PT flex df n lo nl nt g : Nat} {M : KM} {Sd : Sch} (hm : MsgRm P C T PT n lo M false nl) (hdef : DefRC P C.toCfg n df Sd) (hnt : 3 ≤ nt) (hI : FnIs P g nt [.t 6] (msgRk C T PT flex df false M.S M.ks M.tk nl)) {w : World} {b a D : Nat} {cc : Array Value} {e : TypeId} {sv : Value} {src : List UInt8} {ver : Int} {ev : Value}
    (hb : w.heap[b]? = some (.cells cc e (0, 0))) (hfit : a + n ≤ cc.size) (hver : (setD a (Sd.dst C.toCfg) cc)[a]? = some (.int .i16 ver)) (hchk : M.S.chkD (segL (setD a (Sd.dst C.toCfg) cc) a n) = true) (hks : ksChkD (segL (setD a (Sd.dst C.toCfg) cc) a n) M.ks = true) (hnil : (setD a (Sd.dst C.toCfg) cc)[a + M.to]? = some (.map none)) (hsrc : BytesAt w (· = D) sv src) (hD : D < w.heap.size) (hbD : b ≠ D)
    (herr : w.cell? ⟨C.E.g_kbin_ErrNotEnoughData, 0, none⟩ = some ev) (hev : ∃ t v, ev = .iface t v) (hgb : C.E.g_kbin_ErrNotEnoughData ≠ b) (hv0 : 0 ≤ ver) (hdup : ∀ rs', M.rd ver (flagAt C.toCfg flex ver) ⟨src, false, nonNil sv⟩ ≠ some (none, rs')) :
    Ret P g #[.pointer (some ⟨b, a, none⟩), sv, .bool false] w fun v w' => ReadPostM M b a n w (setD a (Sd.dst C.toCfg) cc) e ver (flagAt C.toCfg flex ver) ev ⟨src, false, nonNil sv⟩ v w' := by
  have hfx := hm.sec.fx
  have hrs := hm.rs7
  have hf0 := hm.f0
  have hnl := hm.nl
  have hrb := hm.sec.rb
  have ht := hm.sec.ty
  have hlt := lt_of_heap hb
  have hl7 := (genR_mono (C := C) M.S T PT 10 (ctR C false nl)).1
  have hl8 := secRI_mono (C := C) T PT 10 M.ks M.tk (M.S.genR C T PT 10 (ctR C false nl)).2
  have q6 : (ctR C false nl).l = 11 := by simp [ctR, hfx]
  have hnl10 : 10 ≤ nl := by omega
  refine hI.ret (args := [_, _, _]) hnt ?_
  generalize hccD : setD a (Sd.dst C.toCfg) cc = ccD at *
  have hszD : ccD.size = cc.size := by subst hccD; exact setD_size _ _ _
  have hsv1 := bytes_one hsrc
  have hgw : C.E.g_kbin_ErrNotEnoughData < w.heap.size := World.block_lt_of_cell? w _ herr
  generalize hR : (⟨w.heap.size, D, w.heap.size + 1, ev⟩ : Rdr) = R
  have rpb : R.pb = w.heap.size := by subst hR; rfl
  have rD : R.D = D := by subst hR; rfl
  have rbase : R.base = w.heap.size + 1 := by subst hR; rfl
  have rev : R.ev = ev := by subst hR; rfl
  -- behind the head
  have behind : ∀ (f : Nat → Value) (w1 : World), Ext (· = b) w w1 → StR C R b a n w1 ccD e ⟨src, false, nonNil sv⟩ → f 10 = .pointer (some ⟨b, a, none⟩) → f 2 = .bool false → f 7 = .pointer (some ⟨w.heap.size, 0, none⟩) → f 8 = .int .i16 ver → f 9 = .bool (flagAt C.toCfg flex ver) →
      (seqL ((M.S.genR C T PT 10 (ctR C false nl)).1 ++ (secRI C T PT 10 M.ks M.tk (M.S.genR C T PT 10 (ctR C false nl)).2).1 :: completeI C (secRI C T PT 10 M.ks M.tk (M.S.genR C T PT 10 (ctR C false nl)).2).2.t)).wp P (retPost P [.t 6] fun v w' => ReadPostM M b a n w ccD e ver (flagAt C.toCfg flex ver) ev ⟨src, false, nonNil sv⟩ v w') f w1 := by
    intro f w1 he1 hst fpv f2 f7 f8 f9
    have tot : ∀ w', Ext (CB R b) w1 w' → Ext (· = b) w w' := by
      intro w' h
      refine he1.trans' h ?_
      rintro x hx (h | h)
      · rw [rpb] at h; omega
      · exact h
    refine Ir.wp_mono _ ?_ (behindM hm (by rw [rev]; exact hev) ⟨fpv, ⟨by omega, by omega⟩, fun _ => hv0, f8, fun _ => f9, (fun hx => by rw [hfx] at hx; cases hx), (by rw [hrs, rpb]; exact f7), f2, by omega, ⟨by omega, by omega⟩⟩ hst hchk hks hnil hdup)
    intro x f' w' hx
    refine retPost_mono ?_ hx
    rintro v w' ⟨a1, a2, a3⟩
    rw [rev] at a2 a3
    exact ⟨tot _ a1, a2, a3⟩
  -- the head
  have n0 : ∀ k, (0 = nl + k) = False := by intro k; simp; omega
  have n1 : ∀ k, (1 = nl + k) = False := by intro k; simp; omega
  have n2 : ∀ k, (2 = nl + k) = False := by intro k; simp; omega
  have n6 : ∀ k, (6 = nl + k) = False := by intro k; simp; omega
  have n7 : ∀ k, (7 = nl + k) = False := by intro k; simp; omega
  have n8 : ∀ k, (8 = nl + k) = False := by intro k; simp; omega
  have n9 : ∀ k, (9 = nl + k) = False := by intro k; simp; omega
  have n0' : (0 = nl) = False := by simp; omega
  have n1' : (1 = nl) = False := by simp; omega
  have n2' : (2 = nl) = False := by simp; omega
  have n7' : (7 = nl) = False := by simp; omega
  have n8' : (8 = nl) = False := by simp; omega
  have n9' : (9 = nl) = False := by simp; omega
  have m0 : (nl = 0) = False := by simp; omega
  have m1 : (nl = 1) = False := by simp; omega
  have m2 : (nl = 2) = False := by simp; omega
  have m3 : (nl = 3) = False := by simp; omega
  have m4 : (nl = 4) = False := by simp; omega
  have m5 : (nl = 5) = False := by simp; omega
  have m6 : (nl = 6) = False := by simp; omega
  have m7 : (nl = 7) = False := by simp; omega
  have m8 : (nl = 8) = False := by simp; omega
  have m9 : (nl = 9) = False := by simp; omega
  have kI16 : kindOf P C.E.tI16 = .scl := ht.c.kI16
  -- the world behind the head
  generalize hw1 : w.setBlk b (.cells ccD e (0, 0)) = w1
  have hw1s : w1.heap.size = w.heap.size := by subst hw1; simp
  have hbw1 : w1.heap[b]? = some (.cells ccD e (0, 0)) := by subst hw1; exact setBlk_same hb
  have hE1 : Ext (fun k => k = b) w w1 := by subst hw1; exact (Ext.refl (fun k => k = b) w).setBlk (b := b) (Or.inr rfl) _
  generalize hw2 : (w1.alloc (.cells #[.slice none 0 0, .bool false] C.E.tRd)).setBlk w1.heap.size (.cells #[sv, .bool false] C.E.tRd (0, 0)) = w2
  have hE2 : Ext none1 w1 w2 := by subst hw2; exact ((Ext.refl none1 w1).alloc _).setBlk (.inl (Nat.le_refl _)) _
  have hpb2 : w2.heap[w.heap.size]? = some (.cells #[sv, .bool false] C.E.tRd (0, 0)) := by subst hw2; rw [← hw1s]; exact setBlk_same alloc_new
  have hbw2 : w2.heap[b]? = some (.cells ccD e (0, 0)) := hE2.old hbw1 (fun h => h)
  have hE12 : Ext (fun k => k = b) w w2 := hE1.trans (hE2.mono (fun _ _ h => h.elim))
  have hst : StR C R b a n w2 ccD e ⟨src, false, nonNil sv⟩ := by
    refine ⟨hbw2, by omega, ?_, ⟨⟨?_, ?_, ?_, ?_⟩, ⟨?_, ?_, ?_⟩, ?_, ⟨?_, ?_⟩⟩⟩
    · rw [rpb, rD]
      exact ⟨sv, hpb2, hsrc.ext hE12 (by rintro k _ rfl h; exact hbD h.symm), rfl⟩
    · rw [rpb, rbase]; omega
    · rw [rbase]; omega
    · rw [rD, rbase]; omega
    · rw [rbase]; exact lt_of_heap hpb2
    · rw [rpb, rD]; omega
    · rw [rD]; exact hbD
    · rw [rpb]; omega
    · rw [rev]; exact hE12.cell herr (fun h => hgb h)
    · rw [rpb]; omega
    · exact hgb
  have cv : w2.cell? ⟨b, a, none⟩ = some (.int .i16 ver) := by rw [cell_of_blk hbw2]; exact hver
  have key : (seqL ([.reg [⟨none, some 6, .assign (.const .nilIface), C.E.tErr⟩],
    .reg [⟨none, some nl, .move (.tmp 0), PT⟩, ⟨none, some (nl + 1), .call { callee := .value (.func df), args := #[.tmp nl], argTypes := #[PT] }, C.E.tNil⟩],
    .reg [⟨none, some (nl + 2), .move (.tmp 1), C.E.tBs⟩, ⟨none, some (nl + 3), .build C.E.tRd #[(0, .tmp (nl + 2))], C.E.tRd⟩, ⟨none, some 7, .alloc C.E.tRd, C.E.tNil⟩, ⟨none, none, .store C.E.tRd (.tmp 7) (.tmp (nl + 3)), C.E.tNil⟩],
    .reg (addrR C.toCfg T PT 0 0 (nl + 4) ++ [⟨none, some (nl + 7), .load C.E.tI16 (.tmp (nl + 6)), C.E.tI16⟩, ⟨none, some 8, .assign (.tmp (nl + 7)), C.E.tI16⟩]),
    .reg [⟨none, some (nl + 8), .move (.tmp 8), C.E.tI16⟩]] ++ ([Ir.reg [⟨none, some (nl + 9), .move (.tmp 8), C.E.tI16⟩, ⟨none, some (nl + 10), .binOp .geq C.E.tI16 (.tmp (nl + 9)) (.const (.int .i16 flex)) C.E.tI16, C.E.tB⟩, ⟨none, some 9, .assign (.tmp (nl + 10)), C.E.tB⟩],
      .reg [⟨none, some (nl + 11), .move (.tmp 9), C.E.tB⟩]] ++ ([.reg [⟨none, some (nl + 12), .move (.tmp 0), PT⟩, ⟨none, some 10, .assign (.tmp (nl + 12)), PT⟩]] ++ ((M.S.genR C T PT 10 (ctR C false nl)).1 ++ (secRI C T PT 10 M.ks M.tk (M.S.genR C T PT 10 (ctR C false nl)).2).1 :: completeI C (secRI C T PT 10 M.ks M.tk (M.S.genR C T PT 10 (ctR C false nl)).2).2.t))))).wp P
        (retPost P [.t 6] fun v w' => ReadPostM M b a n w ccD e ver (flagAt C.toCfg flex ver) ev ⟨src, false, nonNil sv⟩ v w') (frame0 [.pointer (some ⟨b, a, none⟩), sv, .bool false]) w := by
    simp only [List.cons_append, List.nil_append]
    refine seqL_cons (wp_reg ?_)
    simp
    refine seqL_cons (wp_reg ?_)
    simp
    refine (hdef w b a cc e hb hfit).mono ?_
    rintro v w1' ⟨rfl⟩
    rw [hccD, hw1]
    refine seqL_cons (wp_reg ?_)
    simp [n0, n0', n1, n1', n2, n2', n6, n7, n7', n8, n8', n9, n9', m0, m1, m2, m3, m4, m5, m6, m7, m8, m9, bld_rd hrb (cells_one hsv1), hrb.z, Value.cells, store_agg hrb.k, putK_blk alloc_new, hsv1]
    have hov : over #[.slice none 0 0, .bool false] 0 [sv, .bool false] = #[sv, .bool false] := by simp [over]
    rw [hov, hw2]
    refine ⟨by simp only [allOne, hsv1, Bool.true_and]; rfl, ?_⟩
    show (seqL _).wp P _ _ w2
    refine seqL_cons (wp_reg ?_)
    simp [n0, n0', n1, n1', n2, n2', n6, n7, n7', n8, n8', n9, n9', m0, m1, m2, m3, m4, m5, m6, m7, m8, m9, addrR, hf0, Addr.add_mk, ld_scl kI16, cv]
    refine seqL_cons (wp_reg ?_)
    simp [n0, n0', n1, n1', n2, n2', n6, n7, n7', n8, n8', n9, n9', m0, m1, m2, m3, m4, m5, m6, m7, m8, m9]
    have e1w : w1.heap.size = w.heap.size := hw1s
    refine seqL_cons (wp_reg ?_)
    simp [n0, n0', n1, n1', n2, n2', n6, n7, n7', n8, n8', n9, n9', m0, m1, m2, m3, m4, m5, m6, m7, m8, m9]
    show (Ir.reg _).wp P _ _ _
    refine wp_reg ?_
    simp [n0, n0', n1, n1', n2, n2', n6, n7, n7', n8, n8', n9, n9', m0, m1, m2, m3, m4, m5, m6, m7, m8, m9]
    refine seqL_cons (wp_reg ?_)
    simp [n0, n0', n1, n1', n2, n2', n6, n7, n7', n8, n8', n9, n9', m0, m1, m2, m3, m4, m5, m6, m7, m8, m9]
    refine behind _ w2 hE12 hst ?_ ?_ ?_ ?_ ?_
    · simp [n0, n0', n1, n1', n2, n2', n6, n7, n7', n8, n8', n9, n9', m0, m1, m2, m3, m4, m5, m6, m7, m8, m9]
    · simp [n0, n0', n1, n1', n2, n2', n6, n7, n7', n8, n8', n9, n9', m0, m1, m2, m3, m4, m5, m6, m7, m8, m9]
    · simp [n0, n0', n1, n1', n2, n2', n6, n7, n7', n8, n8', n9, n9', m0, m1, m2, m3, m4, m5, m6, m7, m8, m9, e1w]
    · simp [n0, n0', n1, n1', n2, n2', n6, n7, n7', n8, n8', n9, n9', m0, m1, m2, m3, m4, m5, m6, m7, m8, m9]
    · simp [n0, n0', n1, n1', n2, n2', n6, n7, n7', n8, n8', n9, n9', m0, m1, m2, m3, m4, m5, m6, m7, m8, m9, flagAt, hfx]
  have := key
  simp only [← List.append_assoc] at this
  exact this
end Go.Kg

set_option linter.unusedSimpArgs false
set_option linter.unusedVariables false
set_option linter.unusedSectionVars false
namespace Go.Kg
open Go
end Go.Kg

set_option linter.unusedSimpArgs false
set_option linter.unusedVariables false
set_option linter.unusedSectionVars false
namespace Go.Kg
open Go
/-- what Again hands back -/
def AgainPostM (M : KM) (ver : Int) (fl : Bool) (src : List UInt8) (w : World) (u : Value) (w' : World) : Prop :=
  Ext none1 w w' ∧ ∃ nn, match M.rd ver fl ⟨src, false, nn⟩ with
    | some (some x, rs) => if rs.bad then u = .tuple #[.slice none 0 0, .bool false] else ∃ v, u = .tuple #[v, .bool true] ∧ BytesAt w' (fun k => w.heap.size ≤ k) v (M.wr ver fl x)
    | _ => u = .tuple #[.slice none 0 0, .bool false]
theorem againM {P : Program} {C : CfgR} {T PT flex n lo g nt fPtr fSet fRF fApp fR df nl ntR ntRF : Nat} {M : KM} {Sd : Sch} {z : Array Value} {ev : Value} (hnt : 2 ≤ nt) (hI : FnIs P g nt [.t 4, .t 5] (irAgain C.toCfg PT fPtr fSet fRF fApp))
    (hRF : FnIs P fRF ntRF [.t 4] (irRF C.toCfg PT fR)) (hntRF : 2 ≤ ntRF) (hm : MsgRm P C T PT n lo M false nl) (hdef : DefRC P C.toCfg n df Sd) (hntR : 3 ≤ ntR) (hR : FnIs P fR ntR [.t 6] (msgRk C T PT flex df false M.S M.ks M.tk nl))
    (hPtr : ∀ w, Ret P fPtr #[] w fun v w' => v = .pointer (some ⟨w.heap.size, 0, none⟩) ∧ w'.heap[w.heap.size]? = some (.cells (setD 0 (Sd.dst C.toCfg) z) T (0, 0)) ∧ Ext none1 w w' ∧ w.heap.size < w'.heap.size)
    (hSet : ∀ {w : World} {b : Nat} {c : Array Value} {e : TypeId}, w.heap[b]? = some (.cells c e (0, 0)) → 0 < c.size → ∀ ver : Int, Ret P fSet #[.pointer (some ⟨b, 0, none⟩), .int .i16 ver] w fun _ w' => w' = w.setBlk b (.cells (c.setIfInBounds 0 (.int .i16 ver)) e (0, 0)))
    (hApp : ∀ {w : World} {b a base : Nat} {cs : List Value} {x : M.T} {ver : Int} {v : Value} {s : List UInt8}, CellsAt w b a cs → cs[0]? = some (.int .i16 ver) → KmRep w (· < base) cs M x → M.TagsOk tagsOk x → b < base → OwnB C.E.tU8 w base v s → base ≤ w.heap.size →
      s.length + (M.wr ver (flagAt C.toCfg flex ver) x).length ≤ 1099511627776 → Ret P fApp #[.pointer (some ⟨b, a, none⟩), v] w fun v' w' => OwnB C.E.tU8 w' base v' (s ++ M.wr ver (flagAt C.toCfg flex ver) x) ∧ Grew w v w' v')
    (iI16 : intKind? P C.E.tI16 = some .i16) (iInt : intKind? P C.E.tInt = some .i64) (tBs : SliI P C.E.tBs C.E.tU8 1 1 (.int .u8 0)) (uErr : ∃ ms, P.underlying C.E.tErr = some (.interface ms)) (hev : ∃ t v, ev = .iface t v) (hn : z.size = n) (hn1 : 1 ≤ n)
    (hidem : ∀ ver : Int, (setD 0 (Sd.dst C.toCfg) ((setD 0 (Sd.dst C.toCfg) z).setIfInBounds 0 (.int .i16 ver))) = (setD 0 (Sd.dst C.toCfg) z).setIfInBounds 0 (.int .i16 ver))
    (hchk : ∀ ver : Int, M.S.chkD ((setD 0 (Sd.dst C.toCfg) z).setIfInBounds 0 (.int .i16 ver)).toList = true) (hks : ∀ ver : Int, ksChkD ((setD 0 (Sd.dst C.toCfg) z).setIfInBounds 0 (.int .i16 ver)).toList M.ks = true) (hnil : ∀ ver : Int, ((setD 0 (Sd.dst C.toCfg) z).setIfInBounds 0 (.int .i16 ver))[M.to]? = some (.map none)) (ver : Int) (hv : 0 ≤ ver ∧ ver < 32768)
    {w : World} {K : Nat → Prop} {sv : Value} {src : List UInt8} (hsrc : BytesAt w K sv src) (hlen : src.length ≤ 1099511627776) (herr : w.cell? ⟨C.E.g_kbin_ErrNotEnoughData, 0, none⟩ = some ev)
    (hdup : ∀ nn rs, M.rd ver (flagAt C.toCfg flex ver) ⟨src, false, nn⟩ ≠ some (none, rs))
    (hgood : ∀ nn x rs, M.rd ver (flagAt C.toCfg flex ver) ⟨src, false, nn⟩ = some (some x, rs) → rs.bad = false → M.TagsOk tagsOk x ∧ (M.wr ver (flagAt C.toCfg flex ver) x).length ≤ 1099511627776) :
    Ret P g #[.int .i64 ver, sv] w fun u w' => AgainPostM M ver (flagAt C.toCfg flex ver) src w u w' := by
  refine hI.call (args := [_, _]) hnt ?_
  simp [irAgain]
  refine (hPtr w).mono ?_
  rintro v w1 ⟨rfl, hb1, he1, hlt1⟩
  have e1 : IntKind.i16.wrap ver = ver := by simp [IntKind.wrap, IntKind.signed, IntKind.bits]; omega
  simp [iI16, iInt, e1]
  have hs0 : 0 < (setD 0 (Sd.dst C.toCfg) z).size := by rw [setD_size]; omega
  refine (hSet hb1 hs0 ver).mono ?_
  rintro v w2 rfl
  generalize hcc : (setD 0 (Sd.dst C.toCfg) z).setIfInBounds 0 (.int .i16 ver) = cc
  have hccn : cc.size = n := by subst hcc; simp [setD_size, hn]
  generalize hw2 : w1.setBlk w.heap.size (.cells cc T (0, 0)) = w2
  have hb2 : w2.heap[w.heap.size]? = some (.cells cc T (0, 0)) := by subst hw2; exact setBlk_same hb1
  have he2 : Ext none1 w w2 := by subst hw2; exact he1.setBlk (.inl (Nat.le_refl _)) _
  have hsz2 : w.heap.size < w2.heap.size := by subst hw2; simpa using hlt1
  have hsrc2 : BytesAt w2 K sv src := hsrc.ext he2 (fun _ _ _ h => h)
  refine st_app_bytes tBs (s := []) (base := w2.heap.size) (v := .slice none 0 0) (by simp) (by simpa [OwnB, cellsOf] using Own.nil w2 w2.heap.size C.E.tU8 1) (Nat.le_refl _) (k := K) (bs := src) (by simpa using hsrc2) (by simpa using hlen) ?_
  intro v3 w3 ho3 hg3
  rw [List.nil_append] at ho3
  have he23 : Ext none1 w2 w3 := hg3.ext.mono (fun k _ h => by simp [own1, Value.ownBlock] at h)
  have hgw : C.E.g_kbin_ErrNotEnoughData < w.heap.size := World.block_lt_of_cell? w _ herr
  have hsz3 := hg3.size
  obtain ⟨D, hD, hD2⟩ := (own_bytesK ho3).oneD C.E.g_kbin_ErrNotEnoughData
  have hDlt : D < w3.heap.size := by rcases hD2 with h | h <;> omega
  have hbD : w.heap.size ≠ D := by rcases hD2 with h | h <;> omega
  have hb3 := he23.old hb2 (fun h => h)
  have hid := hidem ver
  rw [hcc] at hid
  have hcc0 : cc[0]? = some (.int .i16 ver) := by subst hcc; simp [hs0]
  have hck := hchk ver
  rw [hcc] at hck
  have hks' := hks ver
  rw [hcc] at hks'
  have hnil' := hnil ver
  rw [hcc] at hnil'
  have hseg : segL cc 0 n = cc.toList := by rw [← hccn]; simp only [segL, List.drop_zero]; exact List.take_of_length_le (by simp)
  have hrd := readFromM (w := w3) (b := w.heap.size) (a := 0) (D := D) (cc := cc) (e := T) (ver := ver) (ev := ev) hm hdef hntR hR hb3 (by omega) (by rw [hid]; exact hcc0) (by rw [hid, hseg]; exact hck) (by rw [hid, hseg]; exact hks') (by rw [hid, Nat.zero_add]; exact hnil') hD hDlt hbD (he23.cell (he2.cell herr (fun h => h)) (fun h => h)) hev (by omega) hv.1 (hdup _)
  rw [hid] at hrd
  have he03 : Ext none1 w w3 := he2.trans he23
  obtain ⟨ms, hms⟩ := uErr
  obtain ⟨tv, vv, rfl⟩ := hev
  refine (c_RF hntRF hRF hrd).mono ?_
  rintro v4 w4 ⟨he4, hnone, hsome⟩
  have he04 : Ext none1 w w4 := he03.trans' he4 (fun k hk hk2 => by have h3 : k = w.heap.size := hk2; omega)
  cases hx : M.rd ver (flagAt C.toCfg flex ver) ⟨src, false, nonNil v3⟩ with
  | none =>
    have := hnone hx
    subst this
    simp [bin_nnil_iface hms]
    refine cw_true (by simp) ?_
    simp
    exact ⟨he04, nonNil v3, by rw [hx]⟩
  | some p =>
    obtain ⟨x, rs⟩ := p
    cases x with
    | none => exact absurd hx (hdup _ _)
    | some x =>
    obtain ⟨hv4, cc4, hb4, hsz4, hsame4, hrep4⟩ := hsome x rs hx
    cases hbad : rs.bad with
    | true =>
      rw [hbad] at hv4
      simp at hv4
      subst hv4
      simp [bin_nnil_iface hms]
      refine cw_true (by simp) ?_
      simp
      exact ⟨he04, nonNil v3, by rw [hx]; simp [hbad]⟩
    | false =>
      rw [hbad] at hv4
      simp at hv4
      subst hv4
      obtain ⟨hok, hszx⟩ := hgood _ _ _ hx hbad
      simp [bin_nnil_nil hms]
      refine cw_false (by simp) ?_
      simp
      refine (hApp (base := w4.heap.size) (b := w.heap.size) (a := 0) (cs := segL cc4 0 n) (x := x) (ver := ver) (s := []) (cellsAt_seg hb4) ?_ ?_ hok ?_ (by simpa [OwnB, cellsOf] using Own.nil w4 w4.heap.size C.E.tU8 1) (Nat.le_refl _) (by simpa using hszx)).mono ?_
      · rw [segL_get (by omega), hsame4 _ (.inl (by omega))]; exact hcc0
      · exact hrep4
      · exact lt_of_heap hb4
      · rintro v5 w5 ⟨ho5, hg5⟩
        rw [List.nil_append] at ho5
        refine ⟨?_, nonNil v3, ?_⟩
        · exact he04.trans (hg5.ext.mono (fun k _ h => by simp [own1, Value.ownBlock] at h))
        · rw [hx]
          simp [hbad]
          exact BytesAt.mono (own_bytesK ho5) (fun k _ h => by have := he04.size; omega)
end Go.Kg

set_option linter.unusedSimpArgs false
set_option linter.unusedVariables false
namespace Go.Kg
open Go
section
variable {P : Program} {E : Env}
end
end Go.Kg

set_option linter.unusedSimpArgs false
set_option linter.unusedVariables false
namespace Go.Kg
open Go
section
variable {P : Program} {C : Cfg}
theorem primW_i16 (h : ∀ n : Int, WrC P C.E.tU8 C.E.f_kbin_AppendInt16 [.int .i16 n] (bigE 2 (n % 65536).toNat)) : PrimW P C .i16 := by
  intro fl _ x u w base v s hp
  have : u = .int .i16 x := hp
  subst this
  exact h x w base v s
theorem primW_i32 (h : ∀ n : Int, WrC P C.E.tU8 C.E.f_kbin_AppendInt32 [.int .i32 n] (bigE 4 (n % 4294967296).toNat)) : PrimW P C .i32 := by
  intro fl _ x u w base v s hp
  have : u = .int .i32 x := hp
  subst this
  exact h x w base v s
theorem primW_str (h : ∀ l, WrC P C.E.tU8 C.E.f_kbin_AppendString [strV l] (wStr l)) (hc : C.fx = true → ∀ l, WrC P C.E.tU8 C.E.f_kbin_AppendCompactString [strV l] (wCStr l)) : PrimW P C .str := by
  intro fl hfl x u w base v s hp
  have : u = strV x := hp
  subst this
  cases fl
  · exact h x w base v s
  · exact hc (hfl rfl) x w base v s
end
end Go.Kg

set_option linter.unusedSimpArgs false
set_option linter.unusedVariables false
namespace Go.Kg
open Go Go.ChangeShapes Go.WideShapes Go.ChangeAt Go.RowKit
theorem FnIs.of {P : Program} {g N : Nat} {rs : List Rv} {ir : Ir} {fn : Func} (hm : P.follows .mixedOrders = true) (h1 : P.funcs[g]? = some fn) (h2 : fn.body.bind (erase N) = some ir) (h3 : fn.ntmps = N)
    (h4 : fn.results = (rs.map Rv.var).toArray) (h5 : (fn.name == "runtime.NumGoroutine") = false) : FnIs P g N rs ir := by
  refine ⟨hm, ?_⟩
  cases hb : fn.body with
  | none => rw [hb] at h2; cases h2
  | some c => rw [hb] at h2; exact ⟨fn, c, h1, hb, h3, h4, h5, h2⟩
theorem sli_of {P : Program} {t e s bytes : Nat} {z : Value} (hu : P.underlying t = some (.slice e)) (hi : (P.info? e).map (fun i => (i.zero, i.size, i.bytes)) = some (some z, s, bytes)) (hz : z.cells.size = s) : SliI P t e s bytes z := by
  refine ⟨hu, ?_, hz⟩
  cases h : P.info? e with
  | none => rw [h] at hi; cases hi
  | some i => rw [h] at hi; simp at hi; exact ⟨i, rfl, hi.1, hi.2.1, hi.2.2⟩
def FH.okB (h : FH) : Bool := decide (-1 ≤ h.tag) && decide (h.tag < 1000) && decide (-9223372036854775808 ≤ h.dflt) && decide (h.dflt < 9223372036854775808)
def FS.okB : FS → Bool
  | .nil => true
  | .cons h sub rest => h.okB && decide (sub.len ≤ 1000) && sub.okB && rest.okB
theorem FS.ok_of : ∀ {F : FS}, F.okB = true → F.okAll
  | .nil, _ => trivial
  | .cons h sub rest, hb => by
    simp only [FS.okB, FH.okB, Bool.and_eq_true, decide_eq_true_eq] at hb
    exact ⟨⟨hb.1.1.1.1.1.1, hb.1.1.1.1.1.2⟩, ⟨hb.1.1.1.1.2, hb.1.1.1.2⟩, hb.1.1.2, FS.ok_of hb.1.2, FS.ok_of hb.2⟩
def psNe (xs : List FSrc) : Bool := !xs.isEmpty && decide (xs.length ≤ 1000) && xs.all fun x => !x.ps.isEmpty && psOk x.ps
theorem psNe_of {xs : List FSrc} (h : psNe xs = true) : xs ≠ [] ∧ xs.length ≤ 1000 ∧ (∀ x ∈ xs, x.ps ≠ []) ∧ ∀ x ∈ xs, psOk x.ps = true := by
  simp only [psNe, Bool.and_eq_true, List.all_eq_true, Bool.not_eq_true', List.isEmpty_eq_false_iff, decide_eq_true_eq] at h
  exact ⟨h.1.1, h.1.2, fun x hx => (h.2 x hx).1, fun x hx => (h.2 x hx).2⟩
/-- the functions of a message's own lists -/
def subsOk (P : Program) : List FSrc → Prop
  | [] => True
  | x :: r => (∀ g F, x.sub = some (g, F) → SubC P g F) ∧ subsOk P r
theorem srcOk_of {P : Program} : ∀ {xs : List FSrc}, (∀ x ∈ xs, psOk x.ps = true) → subsOk P xs → srcOk P xs
  | [], _, _ => trivial
  | x :: r, h, hs => ⟨h x List.mem_cons_self, hs.1, srcOk_of (fun y hy => h y (List.mem_cons_of_mem _ hy)) hs.2⟩
theorem sub_of {P : Program} {E : Env} (ht : TyK P E) {g nt : Nat} {xs : List FSrc} (hI : FnIs P g nt [.t 0] (irSub E xs)) (hb : psNe xs = true) (hs : subsOk P xs) : SubC P g (mkFS xs) := by
  obtain ⟨h1, h2, h3, h4⟩ := psNe_of hb
  exact sub_sound ht hI h1 h2 (srcOk_of h4 hs) h3
theorem msg_of {P : Program} {E : Env} (ht : TyK P E) {g nt : Nat} {xs : List FSrc} {fx : Int} (hI : FnIs P g nt [.c 0 E.t_spec_Message] (irMsg E xs fx)) (hb : psNe xs = true) (hs : subsOk P xs) : MsgC P g (mkFS xs) fx := by
  obtain ⟨h1, h2, h3, h4⟩ := psNe_of hb
  exact msg_sound ht hI h1 h2 (srcOk_of h4 hs) h3
theorem ext_kept {w w' : World} (h : Ext none1 w w') (may : MemPlace → Prop) : w.keptBut w' may := by
  refine ⟨h.os, h.output, fun i hi => ?_⟩
  rw [h.block i hi (fun h => h)]
  have : ∃ o, w.heap[i]? = some o := ⟨_, Array.getElem?_eq_getElem hi⟩
  obtain ⟨o, ho⟩ := this
  rw [ho]
  cases o <;> simp
theorem ext_frozen {w w' : World} (h : Ext none1 w w') (a : Addr) (ha : a.block < w.heap.size) : w'.frozen? a = w.frozen? a := by
  simp only [World.frozen?, h.block a.block ha (fun h => h)]
theorem post_of_ext {H : Type} {enc : TypeId × Value → H} {P : Program} {f : Func} {s : ChangeSpec} {apart fresh handsOn again : Bool} {W W' : World} {args : Array Value} {v : Value} {ds gs : List (DataW H)} {before pa pv : List MemPlace}
    (hW : DataW.Whole enc P f.params.toList s.vars apart W args.toList ds gs before)
    (hres : ∀ (b : Nat) (sp : Nat → Bool) (hd : Bool), DataW.TrodAll enc P W' b sp hd f.resultTypes.toList (v.resultList f.resultTypes.size) (s.fn H (ds ++ gs)).results [])
    (hargs : ∀ sp : Nat → Bool, (∀ p ∈ before, sp p.block = true) → DataW.TrodAll enc P W' 0 sp true f.params.toList args.toList (s.fn H (ds ++ gs)).args pa)
    (hvars : ∀ sp : Nat → Bool, (∀ p ∈ before, sp p.block = true) → DataW.TrodVars enc P W' sp s.vars (s.fn H (ds ++ gs)).vars pv)
    (hps : before = pa ++ pv) (he : Ext none1 W W')
    (hok : ∀ (j : Nat) (t : TypeId) (r : Value), f.resultTypes[j]? = some t → (v.resultList f.resultTypes.size)[j]? = some r → Value.okWide P W' .any 0 t r) :
    s.post enc P f apart fresh handsOn again W args v W' := by
  have hold : ∀ p ∈ before, (fun b => decide (b < W.heap.size)) p.block = true := fun p hp => by simpa using hW.lt p hp
  have hlt := hW.lt
  refine ⟨ds, gs, before, [], pa, pv, hW, hres _ _ _, hargs _ hold, hvars _ hold, World.keptBut_mono (fun p hp => ⟨hp, ?_⟩) (ext_kept he (· ∈ before)), fun _ => ?_⟩
  · rw [hps, List.mem_append] at hp
    exact Or.inr hp
  · obtain ⟨_, _, _, _, _, hz, hn⟩ := hW
    refine ⟨hok, _, _, ([] ++ pa) ++ pv, ⟨[] ++ pa, pv, trodAll_append (hargs _ (fun _ _ => rfl)) (hres _ _ _), hvars _ (fun _ _ => rfl), rfl, ?_, ?_⟩, ?_⟩
    · intro b off hp
      have hp' : MemPlace.cell b off ∈ before := by rw [hps]; simpa using hp
      rw [ext_frozen he _ (hlt _ hp')]
      exact hz b off hp'
    · intro ha
      have := hn ha
      rw [hps] at this
      simpa using this
    · intro p hp _
      rw [hps]
      simpa using hp
end Go.Kg

set_option linter.unusedSimpArgs false
set_option linter.unusedVariables false
namespace Go.Kg
open Go Go.ChangeShapes Go.WideShapes Go.ChangeAt Go.RowKit
/-- an argument reads behind the call as it did -/
theorem ext_trod {H : Type} {enc : TypeId × Value → H} {P : Program} {t : TypeId} (hl : laidOutB P = true) (hr : P.readableRec t = true) (hrow : t < P.types.size) {W W' : World} {v : Value} {d : DataW H} {ps : List MemPlace}
    (h : DataW.Trod enc P W 0 (fun _ => true) true t v d ps) (he : Ext none1 W W') (hlt : ∀ x ∈ ps, x.block < W.heap.size) {sp : Nat → Bool} (hs : ∀ p ∈ ps, sp p.block = true) : DataW.Trod enc P W' 0 sp true t v d ps := by
  have hb : Below W.heap.size W W' := ⟨he.os, he.tape, he.output, he.size, fun k hk => he.block k hk (fun h => h)⟩
  exact WideElems.Trod_stays hl hr hrow h (fun x hx => hb.same (hlt x hx)) hs
end Go.Kg

set_option linter.unusedSimpArgs false
set_option linter.unusedVariables false
namespace Go.Kg
open Go Go.ChangeShapes Go.WideShapes Go.ChangeAt Go.RowKit
mutual
def Tr.sz : Tr → Nat
  | .mk _ s _ l u => 1 + s.length + Tr.szL l + (u.map fun x => 1 + x.2.length).sum
def Tr.szL : List Tr → Nat
  | [] => 0
  | t :: l => t.sz + Tr.szL l
end
theorem Tr.sz_pos (t : Tr) : 1 ≤ t.sz := by cases t; simp only [Tr.sz]; omega
theorem Tr.sz_mem : ∀ {l : List Tr} {t : Tr}, t ∈ l → t.sz ≤ Tr.szL l
  | x :: l, t, h => by
    simp only [Tr.szL]
    rcases List.mem_cons.1 h with rfl | h
    · omega
    · have := Tr.sz_mem h; omega
theorem Tr.szL_le (t : Tr) : Tr.szL t.l + 1 ≤ t.sz := by cases t; simp only [Tr.sz, Tr.l]; omega
theorem Tr.sz_at (t : Tr) (i : Nat) : (t.at i).sz ≤ t.sz := by
  unfold Tr.at
  cases h : t.l[i]? with
  | none => simp only [Option.getD_none]; have := t.sz_pos; simp [Tr.none, Tr.sz, Tr.szL]; omega
  | some x => have := Tr.sz_mem (List.mem_of_getElem? h); have := t.szL_le; simp only [Option.getD_some]; omega
theorem counted_len (fl nul : Bool) (n k : Nat) (hn : n ≤ 32767) (hk : k ≤ 4) : (countedS fl nul n k).length ≤ 5 := by
  unfold countedS
  split
  · simp
  · split
    · exact @uvS_len 4 (n + 1) (by omega)
    · split <;> simp [fixE_len] <;> omega
theorem flat_wt {f : Tr → List UInt8} {c : Nat} : ∀ (l : List Tr) (k : Nat), (∀ t ∈ l, (f t).length ≤ c * t.sz) → ((l.take k).flatMap f).length ≤ c * Tr.szL l
  | [], k, _ => by simp
  | t :: l, 0, _ => by simp
  | t :: l, k + 1, h => by
    have h1 := h t List.mem_cons_self
    have h2 := flat_wt l k (fun x hx => h x (List.mem_cons_of_mem _ hx))
    simp only [List.take_succ_cons, List.flatMap_cons, List.length_append, Tr.szL, Nat.mul_add]; omega
def tagWt (l : TagL) : Nat := (l.map fun x => 10 + x.2.length).sum
theorem insU_wt {least : Nat} {x : Nat × List UInt8} : ∀ {l : TagL}, tagWt (insU least x l) ≤ 10 + x.2.length + tagWt l
  | [] => by unfold insU; split <;> simp [tagWt]
  | y :: l => by
    have ih := @insU_wt least x l
    simp only [tagWt] at ih ⊢
    unfold insU; split
    · simp
    · simp only
      split
      · simp only [List.map_cons, List.sum_cons]; omega
      · split
        · simp
        · simp
theorem unkS_wt (least : Nat) (u : TagL) : tagWt (unkS least u) ≤ tagWt u := by
  have : ∀ (l out : TagL), tagWt (l.foldl (fun out x => insU least x out) out) ≤ tagWt out + tagWt l := by
    intro l
    induction l with
    | nil => intro out; simp [tagWt]
    | cons y l ih =>
      intro out
      have h1 := ih (insU least y out)
      have h2 := @insU_wt least y out
      have h3 : tagWt (y :: l) = 10 + y.2.length + tagWt l := by simp [tagWt]
      simp only [List.foldl_cons]
      omega
  have h1 : tagWt (unkS least u) ≤ tagWt ([] : TagL) + tagWt (u.take 32767) := this (u.take 32767) []
  have h2 : ∀ (l : TagL) (k : Nat), tagWt (l.take k) ≤ tagWt l := by
    intro l
    induction l with
    | nil => intro k; simp [tagWt]
    | cons y l ih =>
      intro k
      cases k with
      | zero => simp [tagWt]
      | succ k =>
        have h3 : tagWt (y :: l) = 10 + y.2.length + tagWt l := by simp [tagWt]
        have h4 : tagWt (y :: l.take k) = 10 + y.2.length + tagWt (l.take k) := by simp [tagWt]
        have := ih k
        rw [List.take_succ_cons]; omega
  have h3 := h2 u 32767
  have h4 : tagWt ([] : TagL) = 0 := rfl
  omega
theorem tagWt_sz (u : TagL) : tagWt u ≤ 10 * (u.map fun x => 1 + x.2.length).sum := by
  induction u with
  | nil => simp [tagWt]
  | cons x u ih =>
    have h3 : tagWt (x :: u) = 10 + x.2.length + tagWt u := by simp [tagWt]
    simp only [List.map_cons, List.sum_cons]; omega
theorem tail_wt (fl : Bool) (t : Tr) (ht : t.Ok) : (tailS fl t).length ≤ 15 * t.sz := by
  unfold tailS
  cases fl
  · simp
  simp only [if_true, List.length_append]
  obtain ⟨_, h2, h3⟩ := unkS_spec 0 t.u
  have hw := unkS_wt 0 t.u
  have hz := tagWt_sz t.u
  have hsz : (t.u.map fun x => 1 + x.2.length).sum + 1 ≤ t.sz := by cases t; simp only [Tr.sz, Tr.u]; omega
  have hq : ∀ (q : TagL), (∀ x ∈ q, x ∈ t.u) → ((q.map fun x => (x.1, x.2.take 32767)).flatMap fun x => tagS x.1 x.2).length ≤ tagWt q := by
    intro q
    induction q with
    | nil => intro _; simp
    | cons x q ih =>
      intro hx
      have h1 := ih (fun y hy => hx y (List.mem_cons_of_mem _ hy))
      have hx1 := ht.u x (hx x List.mem_cons_self)
      have a := @uvS_len 4 x.1 (by omega)
      have b := @uvS_len 4 (x.2.take 32767).length (by simp; omega)
      have c : tagWt (x :: q) = 10 + x.2.length + tagWt q := by simp [tagWt]
      have d : (x.2.take 32767).length ≤ x.2.length := by simp; omega
      have e : (tagS x.1 (x.2.take 32767)).length = (uvS x.1).length + (uvS (x.2.take 32767).length).length + (x.2.take 32767).length := by simp only [tagS, List.length_append]
      simp only [List.map_cons, List.flatMap_cons, List.length_append]
      omega
  have h5 := hq _ h3
  have h6 := @uvS_len 4 ((unkS 0 t.u).map fun x => (x.1, x.2.take 32767)).length (by simp; omega)
  omega
end Go.Kg

set_option linter.unusedSimpArgs false
set_option linter.unusedVariables false
set_option linter.unusedSectionVars false
namespace Go.Kg
open Go
def Sch.flds : Sch → Nat
  | .fin => 0
  | .tags _ _ => 0
  | .prim _ _ _ _ _ _ r => r.flds + 1
  | .arrP _ _ _ _ _ _ r => r.flds + 1
  | .arrS _ _ _ _ _ _ _ _ _ _ r => r.flds + 1
  | .sub _ _ _ _ _ _ _ _ r => r.flds + 1
  | .opt _ _ _ _ _ _ _ _ _ r => r.flds + 1
/-- the plain fields against S; the fields behind them -/
def fitP (M : Nat) (flx : Nat → Bool) : FS → Sch → Option FS
  | F, .fin => some F
  | .cons h _ rest, .prim g _ _ p _ _ r => if decide (h.tag < 0) && onAt M g h && decide (h.kind = primK p) && (!p.txt || nnAt M g h) then fitP M flx rest r else none
  | .cons h _ rest, .arrP g _ _ _ nul p r => if decide (h.tag < 0) && onAt M g h && decide (h.kind = 11) && decide (h.of_ = primK p) && nulOk M g h nul then fitP M flx rest r else none
  | .cons h sub rest, .arrS g _ _ _ nul _ _ _ _ e r => if decide (h.tag < 0) && onAt M g h && decide (h.kind = 11) && decide (h.of_ = 10) && nulOk M g h nul && fitS M flx sub e then fitP M flx rest r else none
  | .cons h sub rest, .sub g _ _ _ _ _ _ e r => if decide (h.tag < 0) && onAt M g h && decide (h.kind = 10) && decide (h.null < 0) && fitS M flx sub e then fitP M flx rest r else none
  | .cons h sub rest, .opt g _ _ _ _ _ _ _ e r => if decide (h.tag < 0) && onAt M g h && decide (h.kind = 10) && decide (0 ≤ h.null) && fitS M flx sub e then fitP M flx rest r else none
  | .nil, .tags _ _ => some .nil
  | _, _ => none
/-- it ends with no tags of its own -/
def Sch.endF : Sch → Bool
  | .fin => true
  | .tags _ _ => false
  | .prim _ _ _ _ _ _ r => r.endF
  | .arrP _ _ _ _ _ _ r => r.endF
  | .arrS _ _ _ _ _ _ _ _ _ _ r => r.endF
  | .sub _ _ _ _ _ _ _ _ r => r.endF
  | .opt _ _ _ _ _ _ _ _ _ r => r.endF
/-- the entry of a field -/
def feOf (v : Int) (fl : Bool) (h : FH) (sub : FS) : FE := ⟨h, partL (sub.list v fl) v fl, usualL (sub.list v fl), knownL ((sub.list v fl).map (·.h))⟩
theorem list_cons (v : Int) (fl : Bool) (h : FH) (sub rest : FS) : (FS.cons h sub rest).list v fl = feOf v fl h sub :: rest.list v fl := rfl
theorem plainS_cons (v : Int) (fl : Bool) (h : FH) (sub rest : FS) (n : Nat) (t : Tr) : plainS (.cons h sub rest) v fl n t = (if h.tag < 0 ∧ h.has v = true then fieldS (feOf v fl h sub) v fl (t.at n) else []) ++ plainS rest v fl (n + 1) t := by
  simp [plainS, FS.list, List.zipIdx_cons, feOf]
theorem opt_if {α : Type} {b : Bool} {o : Option α} {x : α} (h : (if b = true then o else none) = some x) : b = true ∧ o = some x := by
  cases b
  · cases h
  · exact ⟨rfl, h⟩
theorem fitP_tag {M : Nat} {flx : Nat → Bool} {h : FH} {sub rest : FS} {S : Sch} {F2 : FS} (hS : S ≠ .fin) (hb : fitP M flx (.cons h sub rest) S = some F2) : h.tag < 0 ∧ ∃ r, fitP M flx rest r = some F2 ∧ S.flds = r.flds + 1 := by
  cases S with
  | fin => exact absurd rfl hS
  | tags k o => simp [fitP] at hb
  | prim g k o p en d r => simp only [fitP] at hb; obtain ⟨hc, hb⟩ := opt_if hb; simp only [Bool.and_eq_true, decide_eq_true_eq] at hc; exact ⟨hc.1.1.1, r, hb, rfl⟩
  | arrP g k o sT nul p r => simp only [fitP] at hb; obtain ⟨hc, hb⟩ := opt_if hb; simp only [Bool.and_eq_true, decide_eq_true_eq] at hc; exact ⟨hc.1.1.1.1, r, hb, rfl⟩
  | arrS g k o sT nul T PT sz df e r => simp only [fitP] at hb; obtain ⟨hc, hb⟩ := opt_if hb; simp only [Bool.and_eq_true, decide_eq_true_eq] at hc; exact ⟨hc.1.1.1.1.1, r, hb, rfl⟩
  | sub g k o T PT sz df e r => simp only [fitP] at hb; obtain ⟨hc, hb⟩ := opt_if hb; simp only [Bool.and_eq_true, decide_eq_true_eq] at hc; exact ⟨hc.1.1.1.1, r, hb, rfl⟩
  | opt g k o T PT PP sz df e r => simp only [fitP] at hb; obtain ⟨hc, hb⟩ := opt_if hb; simp only [Bool.and_eq_true, decide_eq_true_eq] at hc; exact ⟨hc.1.1.1.1, r, hb, rfl⟩
theorem fitP_list {M : Nat} {flx : Nat → Bool} (v : Int) (fl : Bool) : ∀ {F : FS} {S : Sch} {F2 : FS}, fitP M flx F S = some F2 → ∃ pre, F.list v fl = pre ++ F2.list v fl ∧ pre.length = S.flds ∧ ∀ x ∈ pre, x.h.tag < 0 := by
  intro F
  induction F with
  | nil =>
    intro S F2 hb
    cases S with
    | fin => cases hb; exact ⟨[], rfl, rfl, by simp⟩
    | tags k o => cases hb; exact ⟨[], rfl, rfl, by simp⟩
    | _ => simp [fitP] at hb
  | cons h sub rest ihs ih =>
    intro S F2 hb
    by_cases hS : S = .fin
    · subst hS; cases hb; exact ⟨[], rfl, rfl, by simp⟩
    · obtain ⟨ht, r, hr, hf⟩ := fitP_tag hS hb
      obtain ⟨pre, h1, h2, h3⟩ := ih hr
      refine ⟨feOf v fl h sub :: pre, by rw [list_cons, h1]; rfl, by simp [h2, hf], ?_⟩
      intro x hx
      rcases List.mem_cons.1 hx with rfl | hx
      · exact ht
      · exact h3 x hx
/-- the plain fields' texts -/
theorem conv_pre {M : Nat} {flx : Nat → Bool} {v : Nat} (hv : v ≤ M) : ∀ (S : Sch) (F : FS) (n : Nat) (t : Tr) (F2 : FS), fitP M flx F S = some F2 → S.endF = true → t.Ok → ∃ x : S.T, S.wr v (flx v) x ++ plainS F2 v (flx v) (n + S.flds) t = plainS F v (flx v) n t ∧ S.wf v (flx v) x := by
  intro S
  induction S with
  | fin =>
    intro F n t F2 hb hE ht
    have : F = F2 := by cases F <;> simpa [fitP] using hb
    subst this
    exact ⟨(), by simp [Sch.wr, Sch.flds], trivial⟩
  | tags k o => intro F n t F2 hb hE ht; cases hE
  | prim g k o p en d r ih =>
    intro F n t F2 hb hE ht
    cases F with
    | nil => simp [fitP] at hb
    | cons h sub rest =>
      simp only [fitP] at hb
      obtain ⟨hc, hb⟩ := opt_if hb
      simp only [Bool.and_eq_true, decide_eq_true_eq, Bool.or_eq_true, Bool.not_eq_true'] at hc
      obtain ⟨⟨⟨htag, hon⟩, hkind⟩, hnul⟩ := hc
      obtain ⟨y, hy1, hy2⟩ := ih rest (n + 1) t F2 hb hE ht
      have hgo := onAt_of hon hv
      have ef : n + (r.flds + 1) = n + 1 + r.flds := by omega
      rw [plainS_cons, ← hgo, ← hy1]
      simp only [Sch.flds, ef]
      cases hg : g.on v
      · refine ⟨(p.dfl 0, y), ?_, fun h => (by rw [hg] at h; cases h), hy2⟩
        simp [Sch.wr, hg]
      · have hfk : fieldS (feOf v (flx v) h sub) v (flx v) (t.at n) = valS (primK p) (partL (sub.list v (flx v)) v (flx v)) (h.isNull v (t.at n).nul) (flx v) (t.at n) := by
          have h11 : ¬ (primK p = 11) := by cases p <;> simp [primK]
          have h10 : ¬ (primK p = 10) := by cases p <;> simp [primK]
          simp only [feOf, fieldS, hkind, if_neg h11, h10, false_and, if_false]
        obtain ⟨x, hx1, hx2⟩ := valS_prim p (partL (sub.list v (flx v)) v (flx v)) (h.isNull v (t.at n).nul) (flx v) (t.at n) (fun htx => by
          rcases hnul with h' | h'
          · rw [htx] at h'; cases h'
          · exact nnAt_of h' hv hg _)
        refine ⟨(x, y), ?_, fun _ => hx2, hy2⟩
        simp [Sch.wr, hg, htag, hfk, hx1]
  | arrP g k o sT nul p r ih =>
    intro F n t F2 hb hE ht
    cases F with
    | nil => simp [fitP] at hb
    | cons h sub rest =>
      simp only [fitP] at hb
      obtain ⟨hc, hb⟩ := opt_if hb
      simp only [Bool.and_eq_true, decide_eq_true_eq] at hc
      obtain ⟨⟨⟨⟨htag, hon⟩, hkind⟩, hof⟩, hnul⟩ := hc
      obtain ⟨y, hy1, hy2⟩ := ih rest (n + 1) t F2 hb hE ht
      have hgo := onAt_of hon hv
      have ef : n + (r.flds + 1) = n + 1 + r.flds := by omega
      rw [plainS_cons, ← hgo, ← hy1]
      simp only [Sch.flds, ef]
      cases hg : g.on v
      · refine ⟨(none, y), ?_, fun h => (by rw [hg] at h; cases h), hy2⟩
        simp [Sch.wr, hg]
      · obtain ⟨a, ha1, ha2, ha3⟩ := list_conv (g := p.wr (flx v)) (W := p.wf) (f := valS (primK p) (partL (sub.list v (flx v)) v (flx v)) false (flx v)) nul v (h.isNull v (t.at n).nul) (flx v) (t.at n)
          (fun hn => by subst hn; exact nnAt_of hnul hv hg _) (fun m hm hnn => by subst hm; exact nlAt_of hnul hv hg hnn) (fun x _ => valS_prim p _ false (flx v) x (fun _ => rfl))
        refine ⟨(a, y), ?_, fun _ => ⟨ha2, ha3⟩, hy2⟩
        simp only [Sch.wr, hg, if_true, htag, true_and, feOf, fieldS, hkind, hof, ha1, List.append_assoc]; rfl
  | arrS g k o sT nul T PT sz df e r ihe ih =>
    intro F n t F2 hb hE ht
    cases F with
    | nil => simp [fitP] at hb
    | cons h sub rest =>
      simp only [fitP] at hb
      obtain ⟨hc, hb⟩ := opt_if hb
      simp only [Bool.and_eq_true, decide_eq_true_eq] at hc
      obtain ⟨⟨⟨⟨⟨htag, hon⟩, hkind⟩, hof⟩, hnul⟩, hsub⟩ := hc
      obtain ⟨y, hy1, hy2⟩ := ih rest (n + 1) t F2 hb hE ht
      have hgo := onAt_of hon hv
      have ef : n + (r.flds + 1) = n + 1 + r.flds := by omega
      rw [plainS_cons, ← hgo, ← hy1]
      simp only [Sch.flds, ef]
      cases hg : g.on v
      · refine ⟨(none, y), ?_, fun h => (by rw [hg] at h; cases h), hy2⟩
        simp [Sch.wr, hg]
      · obtain ⟨a, ha1, ha2, ha3⟩ := list_conv (g := e.wr v (flx v)) (W := e.wf v (flx v)) (f := valS 10 (partL (sub.list v (flx v)) v (flx v)) false (flx v)) nul v (h.isNull v (t.at n).nul) (flx v) (t.at n)
          (fun hn => by subst hn; exact nnAt_of hnul hv hg _) (fun m hm hnn => by subst hm; exact nlAt_of hnul hv hg hnn) (fun x hx => by
            obtain ⟨z, hz1, hz2⟩ := conv_all (flx := flx) hv hsub ((ht.at n).l x (List.mem_of_mem_take hx))
            exact ⟨z, hz1, hz2⟩)
        refine ⟨(a, y), ?_, fun _ => ⟨ha2, ha3⟩, hy2⟩
        simp only [Sch.wr, hg, if_true, htag, true_and, feOf, fieldS, hkind, hof, ha1, List.append_assoc]; rfl
  | sub g k o T PT sz df e r ihe ih =>
    intro F n t F2 hb hE ht
    cases F with
    | nil => simp [fitP] at hb
    | cons h sub rest =>
      simp only [fitP] at hb
      obtain ⟨hc, hb⟩ := opt_if hb
      simp only [Bool.and_eq_true, decide_eq_true_eq] at hc
      obtain ⟨⟨⟨⟨htag, hon⟩, hkind⟩, hnul⟩, hsub⟩ := hc
      obtain ⟨y, hy1, hy2⟩ := ih rest (n + 1) t F2 hb hE ht
      have hgo := onAt_of hon hv
      have ef : n + (r.flds + 1) = n + 1 + r.flds := by omega
      rw [plainS_cons, ← hgo, ← hy1]
      simp only [Sch.flds, ef]
      obtain ⟨z, hz1, hz2⟩ := conv_all (flx := flx) hv hsub (ht.at n)
      refine ⟨(z, y), ?_, fun _ => hz2, hy2⟩
      cases hg : g.on v
      · simp [Sch.wr, hg]
      · have hnn : ¬ (0 ≤ h.null) := by omega
        simp only [Sch.wr, hg, if_true, htag, true_and, feOf, fieldS, hkind, hz1, List.append_assoc]
        simp [hnn, valS, partS]
  | opt g k o T PT PP sz df e r ihe ih =>
    intro F n t F2 hb hE ht
    cases F with
    | nil => simp [fitP] at hb
    | cons h sub rest =>
      simp only [fitP] at hb
      obtain ⟨hc, hb⟩ := opt_if hb
      simp only [Bool.and_eq_true, decide_eq_true_eq] at hc
      obtain ⟨⟨⟨⟨htag, hon⟩, hkind⟩, hnul⟩, hsub⟩ := hc
      obtain ⟨y, hy1, hy2⟩ := ih rest (n + 1) t F2 hb hE ht
      have hgo := onAt_of hon hv
      have ef : n + (r.flds + 1) = n + 1 + r.flds := by omega
      rw [plainS_cons, ← hgo, ← hy1]
      simp only [Sch.flds, ef]
      obtain ⟨z, hz1, hz2⟩ := conv_all (flx := flx) hv hsub (ht.at n)
      have f1 : fixE 1 (-1) = [255] := by decide
      have f2 : fixE 1 1 = [1] := by decide
      refine ⟨(if h.isNull v (t.at n).nul = true then none else some z, y), ?_, fun _ x hx => ?_, hy2⟩
      · cases hg : g.on v
        · simp [Sch.wr, hg]
        · simp only [Sch.wr, hg, if_true, htag, true_and, feOf, fieldS, hkind, hnul, and_self]
          rw [if_neg (show ¬ (10 : Int) = 11 by decide)]
          by_cases hq : h.isNull v (t.at n).nul = true
          · simp [optW, f1, hq]
          · simp [optW, hz1, f2, partS, hq]
      · split at hx
        · cases hx
        · cases hx; exact hz2
end Go.Kg

set_option linter.unusedSimpArgs false
set_option linter.unusedVariables false
set_option linter.unusedSectionVars false
namespace Go.Kg
open Go
def Sch.wt2 : Sch → Nat
  | .fin => 1
  | .tags _ _ => 1
  | .prim _ _ _ _ _ _ r => 16 + r.wt2
  | .arrP _ _ _ _ _ _ r => 21 + r.wt2
  | .arrS _ _ _ _ _ _ _ _ _ e r => 5 + (e.wt2 + 15) + r.wt2
  | .sub _ _ _ _ _ _ _ e r => (e.wt2 + 15) + r.wt2
  | .opt _ _ _ _ _ _ _ _ e r => 1 + (e.wt2 + 15) + r.wt2
theorem Tr.sz_s (t : Tr) : t.s.length + 1 ≤ t.sz := by cases t; simp only [Tr.sz, Tr.s]; omega
theorem valS_wt (p : Prim) (part : Tr → List UInt8) (nul fl : Bool) (t : Tr) : (valS (primK p) part nul fl t).length ≤ 16 * t.sz := by
  have hz := t.sz_s
  have hs : ∀ k, k ≤ 4 → (countedS fl nul (if nul then [] else t.s.take 32767).length k ++ (if nul then [] else t.s.take 32767)).length ≤ 16 * t.sz := by
    intro k hk
    have hc := counted_len fl nul (if nul then [] else t.s.take 32767).length k (by split <;> simp <;> omega) hk
    have hl : (if nul then [] else t.s.take 32767).length ≤ t.s.length := by split <;> simp <;> omega
    rw [List.length_append]; omega
  cases p with
  | str => exact hs 2 (by omega)
  | nstr => exact hs 2 (by omega)
  | bytes => exact hs 4 (by omega)
  | nbytes => exact hs 4 (by omega)
  | _ => simp [valS, primK, widthS, fixE_len]; try omega
theorem plainS_nil (v : Int) (fl : Bool) (n : Nat) (t : Tr) : plainS .nil v fl n t = [] := rfl
theorem fitS_fitP {M : Nat} {flx : Nat → Bool} : ∀ {F : FS} {S : Sch}, fitS M flx F S = true → fitP M flx F S = some .nil
  | .nil, .fin, _ => rfl
  | .nil, .tags _ _, _ => rfl
  | .nil, .prim .., hb => by simp [fitS] at hb
  | .nil, .arrP .., hb => by simp [fitS] at hb
  | .nil, .arrS .., hb => by simp [fitS] at hb
  | .nil, .sub .., hb => by simp [fitS] at hb
  | .nil, .opt .., hb => by simp [fitS] at hb
  | .cons h sub rest, .fin, hb => by simp [fitS] at hb
  | .cons h sub rest, .tags _ _, hb => by simp [fitS] at hb
  | .cons h sub rest, .prim .., hb => by
    simp only [fitS] at hb
    rw [Bool.and_eq_true] at hb
    simp only [fitP, if_pos hb.1]; exact fitS_fitP hb.2
  | .cons h sub rest, .arrP .., hb => by
    simp only [fitS] at hb
    rw [Bool.and_eq_true] at hb
    simp only [fitP, if_pos hb.1]; exact fitS_fitP hb.2
  | .cons h sub rest, .arrS .., hb => by
    simp only [fitS] at hb
    rw [Bool.and_eq_true] at hb
    simp only [fitP, if_pos hb.1]; exact fitS_fitP hb.2
  | .cons h sub rest, .sub .., hb => by
    simp only [fitS] at hb
    rw [Bool.and_eq_true] at hb
    simp only [fitP, if_pos hb.1]; exact fitS_fitP hb.2
  | .cons h sub rest, .opt .., hb => by
    simp only [fitS] at hb
    rw [Bool.and_eq_true] at hb
    simp only [fitP, if_pos hb.1]; exact fitS_fitP hb.2
theorem pre_wt {M : Nat} {flx : Nat → Bool} {v : Nat} (hv : v ≤ M) : ∀ (S : Sch) (F : FS) (n : Nat) (t : Tr) (F2 : FS), fitP M flx F S = some F2 → t.Ok → (plainS F v (flx v) n t).length ≤ S.wt2 * t.sz + (plainS F2 v (flx v) (n + S.flds) t).length := by
  intro S
  have nest : ∀ {e : Sch} {sub : FS}, (∀ (F : FS) (n : Nat) (t : Tr) (F2 : FS), fitP M flx F e = some F2 → t.Ok → (plainS F v (flx v) n t).length ≤ e.wt2 * t.sz + (plainS F2 v (flx v) (n + e.flds) t).length) → fitS M flx sub e = true → ∀ t : Tr, t.Ok → (partL (sub.list v (flx v)) v (flx v) t).length ≤ (e.wt2 + 15) * t.sz := by
    intro e sub ihe hsub t ht
    have h1 := ihe sub 0 t .nil (fitS_fitP hsub) ht
    have h2 := tail_wt (flx v) t ht
    have h3 := partS_plain (fitS_noTag hsub) v (flx v) t
    rw [plainS_nil] at h1
    show (partS sub v (flx v) t).length ≤ _
    rw [h3, List.length_append, Nat.add_mul]
    simp only [List.length_nil] at h1
    omega
  induction S with
  | fin =>
    intro F n t F2 hb ht
    have : F = F2 := by cases F <;> simpa [fitP] using hb
    subst this
    simp [Sch.flds]
  | tags k o =>
    intro F n t F2 hb ht
    cases F with
    | nil => simp [plainS_nil]
    | cons => simp [fitP] at hb
  | prim g k o p en d r ih =>
    intro F n t F2 hb ht
    cases F with
    | nil => simp [fitP] at hb
    | cons h sub rest =>
      simp only [fitP] at hb
      obtain ⟨hc, hb⟩ := opt_if hb
      simp only [Bool.and_eq_true, decide_eq_true_eq] at hc
      obtain ⟨⟨⟨htag, hon⟩, hkind⟩, hnul⟩ := hc
      have h1 := ih rest (n + 1) t F2 hb ht
      have ef : n + (r.flds + 1) = n + 1 + r.flds := by omega
      rw [plainS_cons, List.length_append]
      simp only [Sch.flds, ef, Sch.wt2, Nat.add_mul]
      have hfk : fieldS (feOf v (flx v) h sub) v (flx v) (t.at n) = valS (primK p) (partL (sub.list v (flx v)) v (flx v)) (h.isNull v (t.at n).nul) (flx v) (t.at n) := by
        have h11 : ¬ (primK p = 11) := by cases p <;> simp [primK]
        have h10 : ¬ (primK p = 10) := by cases p <;> simp [primK]
        simp only [feOf, fieldS, hkind, if_neg h11, h10, false_and, if_false]
      have h2 := valS_wt p (partL (sub.list v (flx v)) v (flx v)) (h.isNull v (t.at n).nul) (flx v) (t.at n)
      have h3 := t.sz_at n
      rw [hfk]
      split
      · omega
      · simp only [List.length_nil]; omega
  | arrP g k o sT nul p r ih =>
    intro F n t F2 hb ht
    cases F with
    | nil => simp [fitP] at hb
    | cons h sub rest =>
      simp only [fitP] at hb
      obtain ⟨hc, hb⟩ := opt_if hb
      simp only [Bool.and_eq_true, decide_eq_true_eq] at hc
      obtain ⟨⟨⟨⟨htag, hon⟩, hkind⟩, hof⟩, hnul⟩ := hc
      have h1 := ih rest (n + 1) t F2 hb ht
      have ef : n + (r.flds + 1) = n + 1 + r.flds := by omega
      rw [plainS_cons, List.length_append]
      simp only [Sch.flds, ef, Sch.wt2, Nat.add_mul]
      have hp := t.sz_pos
      have hc := counted_len (flx v) (h.isNull v (t.at n).nul) (if h.isNull v (t.at n).nul then [] else (t.at n).l.take 32767).length 4 (by split <;> simp <;> omega) (by omega)
      have hf : ((if h.isNull v (t.at n).nul then [] else (t.at n).l.take 32767).flatMap (valS (primK p) (partL (sub.list v (flx v)) v (flx v)) false (flx v))).length ≤ 16 * t.sz := by
        have h2 := flat_wt (c := 16) (f := valS (primK p) (partL (sub.list v (flx v)) v (flx v)) false (flx v)) (t.at n).l 32767 (fun x _ => valS_wt p _ _ _ x)
        have h3 : 16 * Tr.szL (t.at n).l ≤ 16 * t.sz := Nat.mul_le_mul_left _ (by have := (t.at n).szL_le; have := t.sz_at n; omega)
        split
        · simp
        · omega
      have hfe : fieldS (feOf v (flx v) h sub) v (flx v) (t.at n) = countedS (flx v) (h.isNull v (t.at n).nul) (if h.isNull v (t.at n).nul then [] else (t.at n).l.take 32767).length 4 ++ (if h.isNull v (t.at n).nul then [] else (t.at n).l.take 32767).flatMap (valS (primK p) (partL (sub.list v (flx v)) v (flx v)) false (flx v)) := by
        simp only [feOf, fieldS, hkind, hof, if_true]; rfl
      split
      · rw [hfe, List.length_append]; omega
      · simp only [List.length_nil]; omega
  | arrS g k o sT nul T PT sz df e r ihe ih =>
    intro F n t F2 hb ht
    cases F with
    | nil => simp [fitP] at hb
    | cons h sub rest =>
      simp only [fitP] at hb
      obtain ⟨hc, hb⟩ := opt_if hb
      simp only [Bool.and_eq_true, decide_eq_true_eq] at hc
      obtain ⟨⟨⟨⟨⟨htag, hon⟩, hkind⟩, hof⟩, hnul⟩, hsub⟩ := hc
      have h1 := ih rest (n + 1) t F2 hb ht
      have ef : n + (r.flds + 1) = n + 1 + r.flds := by omega
      rw [plainS_cons, List.length_append]
      simp only [Sch.flds, ef, Sch.wt2, Nat.add_mul 5, Nat.add_mul _ r.wt2]
      have hp := t.sz_pos
      have hc := counted_len (flx v) (h.isNull v (t.at n).nul) (if h.isNull v (t.at n).nul then [] else (t.at n).l.take 32767).length 4 (by split <;> simp <;> omega) (by omega)
      have hf : ((if h.isNull v (t.at n).nul then [] else (t.at n).l.take 32767).flatMap (valS 10 (partL (sub.list v (flx v)) v (flx v)) false (flx v))).length ≤ (e.wt2 + 15) * t.sz := by
        have h2 := flat_wt (c := e.wt2 + 15) (f := valS 10 (partL (sub.list v (flx v)) v (flx v)) false (flx v)) (t.at n).l 32767 (fun x hx => nest ihe hsub x ((ht.at n).l x hx))
        have h3 : (e.wt2 + 15) * Tr.szL (t.at n).l ≤ (e.wt2 + 15) * t.sz := Nat.mul_le_mul_left _ (by have := (t.at n).szL_le; have := t.sz_at n; omega)
        split
        · simp
        · omega
      have hfe : fieldS (feOf v (flx v) h sub) v (flx v) (t.at n) = countedS (flx v) (h.isNull v (t.at n).nul) (if h.isNull v (t.at n).nul then [] else (t.at n).l.take 32767).length 4 ++ (if h.isNull v (t.at n).nul then [] else (t.at n).l.take 32767).flatMap (valS (10) (partL (sub.list v (flx v)) v (flx v)) false (flx v)) := by
        simp only [feOf, fieldS, hkind, hof, if_true]; rfl
      split
      · rw [hfe, List.length_append]; omega
      · simp only [List.length_nil]; omega
  | sub g k o T PT sz df e r ihe ih =>
    intro F n t F2 hb ht
    cases F with
    | nil => simp [fitP] at hb
    | cons h sub rest =>
      simp only [fitP] at hb
      obtain ⟨hc, hb⟩ := opt_if hb
      simp only [Bool.and_eq_true, decide_eq_true_eq] at hc
      obtain ⟨⟨⟨⟨htag, hon⟩, hkind⟩, hnul⟩, hsub⟩ := hc
      have h1 := ih rest (n + 1) t F2 hb ht
      have ef : n + (r.flds + 1) = n + 1 + r.flds := by omega
      rw [plainS_cons, List.length_append]
      simp only [Sch.flds, ef, Sch.wt2, Nat.add_mul _ r.wt2]
      have hf := nest ihe hsub (t.at n) (ht.at n)
      have h3 : (e.wt2 + 15) * (t.at n).sz ≤ (e.wt2 + 15) * t.sz := Nat.mul_le_mul_left _ (t.sz_at n)
      have hnn : ¬ (0 ≤ h.null) := by omega
      split
      · simp only [feOf, fieldS, hkind]
        simp [hnn, valS]; omega
      · simp only [List.length_nil]; omega
  | opt g k o T PT PP sz df e r ihe ih =>
    intro F n t F2 hb ht
    cases F with
    | nil => simp [fitP] at hb
    | cons h sub rest =>
      simp only [fitP] at hb
      obtain ⟨hc, hb⟩ := opt_if hb
      simp only [Bool.and_eq_true, decide_eq_true_eq] at hc
      obtain ⟨⟨⟨⟨htag, hon⟩, hkind⟩, hnul⟩, hsub⟩ := hc
      have h1 := ih rest (n + 1) t F2 hb ht
      have ef : n + (r.flds + 1) = n + 1 + r.flds := by omega
      rw [plainS_cons, List.length_append]
      simp only [Sch.flds, ef, Sch.wt2, Nat.add_mul 1, Nat.add_mul _ r.wt2]
      have hp := t.sz_pos
      have hf := nest ihe hsub (t.at n) (ht.at n)
      have h3 : (e.wt2 + 15) * (t.at n).sz ≤ (e.wt2 + 15) * t.sz := Nat.mul_le_mul_left _ (t.sz_at n)
      have hfe : fieldS (feOf v (flx v) h sub) v (flx v) (t.at n) = if h.isNull v (t.at n).nul = true then fixE 1 (-1) else fixE 1 1 ++ partL (sub.list v (flx v)) v (flx v) (t.at n) := by
        simp only [feOf, fieldS, hkind, hnul, and_self, if_true]
        rw [if_neg (show ¬ (10 : Int) = 11 by decide)]; rfl
      split
      · rw [hfe]
        by_cases hq : h.isNull v (t.at n).nul = true
        · rw [if_pos hq, fixE_len]; omega
        · rw [if_neg hq, List.length_append, fixE_len]; omega
      · simp only [List.length_nil]; omega
theorem nest_wt {M : Nat} {flx : Nat → Bool} {v : Nat} (hv : v ≤ M) {e : Sch} {sub : FS} (hsub : fitS M flx sub e = true) (t : Tr) (ht : t.Ok) : (partL (sub.list v (flx v)) v (flx v) t).length ≤ (e.wt2 + 15) * t.sz := by
  have h1 := pre_wt hv e sub 0 t .nil (fitS_fitP hsub) ht
  have h2 := tail_wt (flx v) t ht
  have h3 := partS_plain (fitS_noTag hsub) v (flx v) t
  rw [plainS_nil] at h1
  show (partS sub v (flx v) t).length ≤ _
  rw [h3, List.length_append, Nat.add_mul]
  simp only [List.length_nil] at h1
  omega
end Go.Kg

set_option linter.unusedSimpArgs false
set_option linter.unusedVariables false
set_option linter.unusedSectionVars false
namespace Go.Kg
open Go
def Prim.okD : Prim → Int → Bool
  | .bool, d => decide (d = 0 ∨ d = 1)
  | .i8, d => decide (-128 ≤ d ∧ d < 128)
  | .i16, d => decide (-32768 ≤ d ∧ d < 32768)
  | .u16, d => decide (0 ≤ d ∧ d < 65536)
  | .i32, d => decide (-2147483648 ≤ d ∧ d < 2147483648)
  | .i64, d => decide (-9223372036854775808 ≤ d ∧ d < 9223372036854775808)
  | .uuid, _ => true
  | _, _ => false
theorem Prim.okD_wf {p : Prim} {d : Int} (h : p.okD d = true) : p.wf (p.dfl d) := by
  cases p <;> simp only [Prim.okD, decide_eq_true_eq] at h <;> first | exact h | trivial | (cases h; done) | (show (List.replicate 16 (0 : UInt8)).length = 16; simp)
theorem isD_int {d : Int} {x : Int} (h : (x == d) = true) : x = d := by simpa using h
/-- a number's field: as by default, or else it is written -/
theorem prim_k {p : Prim} {d : Int} (hok : p.okD d = true) {h : FH} {sub : FS} {v : Int} (hkind : h.kind = primK p) (hd : p = .uuid ∨ h.dflt = d) (t : Tr) :
    ∃ x : p.T, p.wf x ∧ p.isD d x = usualS (feOf v true h sub) t ∧ (usualS (feOf v true h sub) t = false → p.wr true x = fieldS (feOf v true h sub) v true t) := by
  have hfk : fieldS (feOf v true h sub) v true t = valS (primK p) (partL (sub.list v true) v true) (h.isNull v t.nul) true t := by
    have h11 : ¬ (primK p = 11) := by cases p <;> simp [primK]
    have h10 : ¬ (primK p = 10) := by cases p <;> simp [primK]
    simp only [feOf, fieldS, hkind, if_neg h11, h10, false_and, if_false]
  have htx : p.txt = false := by cases p <;> first | rfl | cases hok
  cases hu : usualS (feOf v true h sub) t
  · obtain ⟨x, hx1, hx2⟩ := valS_prim p (partL (sub.list v true) v true) (h.isNull v t.nul) true t (fun h => by rw [htx] at h; cases h)
    refine ⟨x, hx2, ?_, fun _ => by rw [hx1, hfk]⟩
    have hint : ∀ (w : Nat), (∀ q : p.T, p.isD d q = true → q = p.dfl d) → p.wr true (p.dfl d) = fixE w h.dflt → valS (primK p) (partL (sub.list v true) v true) (h.isNull v t.nul) true t = fixE w t.n → usualS (feOf v true h sub) t = (fixE w t.n == fixE w h.dflt) → p.isD d x = false := by
      intro w h1 h2 h3 h4
      cases hq : p.isD d x
      · rfl
      · have := h1 x hq
        subst this
        rw [h2, h3] at hx1
        rw [h4, hx1] at hu
        simp at hu
    have hus : ∀ (w : Nat), (primK p ≠ 0 ∧ primK p ≠ 7 ∧ primK p ≠ 8 ∧ primK p ≠ 9 ∧ primK p ≠ 10 ∧ primK p ≠ 11) → widthS (primK p) = w → usualS (feOf v true h sub) t = (fixE w t.n == fixE w h.dflt) := by
      rintro w ⟨h0, h7, h8, h9, h10, h11⟩ hw
      simp only [usualS, feOf, hkind, if_neg h0, if_neg h7, h8, h9, or_self, if_false, if_neg h11, if_neg h10, hw]
    cases p with
    | i8 =>
      obtain rfl : h.dflt = d := hd.resolve_left (by simp)
      exact hint 1 (fun q hq => isD_int hq) (by simp [Prim.wr, Prim.dfl, fixE]) rfl (hus 1 (by simp [primK]) rfl)
    | i16 =>
      obtain rfl : h.dflt = d := hd.resolve_left (by simp)
      exact hint 2 (fun q hq => isD_int hq) (by rw [fixE_eq]; rfl) rfl (hus 2 (by simp [primK]) rfl)
    | u16 =>
      obtain rfl : h.dflt = d := hd.resolve_left (by simp)
      exact hint 2 (fun q hq => isD_int hq) (by rw [fixE_eq]; rfl) rfl (hus 2 (by simp [primK]) rfl)
    | i32 =>
      obtain rfl : h.dflt = d := hd.resolve_left (by simp)
      exact hint 4 (fun q hq => isD_int hq) (by rw [fixE_eq]; rfl) rfl (hus 4 (by simp [primK]) rfl)
    | i64 =>
      obtain rfl : h.dflt = d := hd.resolve_left (by simp)
      exact hint 8 (fun q hq => isD_int hq) (by rw [fixE_eq]; rfl) rfl (hus 8 (by simp [primK]) rfl)
    | bool =>
      obtain rfl : h.dflt = d := hd.resolve_left (by simp)
      have hok' : h.dflt = 0 ∨ h.dflt = 1 := by simpa [Prim.okD] using hok
      have hu' : (t.n % 2 == h.dflt) = false := by
        simpa [usualS, feOf, hkind, primK] using hu
      have hx1' : [if (show Bool from x) then (1 : UInt8) else 0] = [bval (t.n % 2)] := hx1
      show ((show Bool from x) == decide (h.dflt ≠ 0)) = false
      have b0 : bval 0 = 0 := by decide
      have b1 : bval 1 = 1 := by decide
      have hx' : ∀ b : Bool, [if b = true then (1 : UInt8) else 0] = [bval (t.n % 2)] → (b == decide (h.dflt ≠ 0)) = false := by
        intro b hb
        rcases Int.emod_two_eq t.n with hn | hn <;> rcases hok' with hd' | hd' <;> rw [hn, hd'] at hu' <;> rw [hn] at hb <;> rw [hd'] <;> cases b <;> first | rfl | (simp [b0, b1] at hb; done) | (simp at hu'; done)
      exact hx' _ hx1'
    | uuid =>
      have hu' : (t.s.take 16).all (· == 0) = false := by
        simpa [usualS, feOf, hkind, primK] using hu
      have hx1' : (show List UInt8 from x) = (t.s ++ List.replicate 16 0).take 16 := by
        have := hx1
        simp [valS, primK] at this
        simpa [Prim.wr] using this
      show ((show List UInt8 from x) == List.replicate 16 0) = false
      rw [hx1']
      cases hq : ((t.s ++ List.replicate 16 (0 : UInt8)).take 16 == List.replicate 16 0)
      · rfl
      · have hq' : (t.s ++ List.replicate 16 (0 : UInt8)).take 16 = List.replicate 16 0 := by simpa using hq
        exfalso
        have : (t.s.take 16).all (· == 0) = true := by
          rw [List.all_eq_true]
          intro y hy
          have hm : y ∈ (t.s ++ List.replicate 16 (0 : UInt8)).take 16 := by
            rw [List.take_append]
            exact List.mem_append_left _ hy
          rw [hq'] at hm
          have := List.eq_of_mem_replicate hm
          simp [this]
        rw [this] at hu'; cases hu'
    | _ => cases htx <;> cases hok
  · exact ⟨p.dfl d, Prim.okD_wf hok, p.isD_dfl d, fun h => by cases h⟩
theorem insU_ge {least : Nat} {x : Nat × List UInt8} : ∀ {l : TagL}, (∀ y ∈ l, least ≤ y.1) → ∀ y ∈ insU least x l, least ≤ y.1 := by
  intro l hl y hy
  by_cases hx : x.1 < least
  · have : insU least x l = l := by unfold insU; rw [if_pos hx]
    rw [this] at hy
    exact hl y hy
  · rcases insU_memT hy with rfl | hy
    · omega
    · exact hl y hy
theorem unkS_ge (least : Nat) (u : TagL) : ∀ y ∈ unkS least u, least ≤ y.1 := by
  have : ∀ (l out : TagL), (∀ y ∈ out, least ≤ y.1) → ∀ y ∈ l.foldl (fun out x => insU least x out) out, least ≤ y.1 := by
    intro l
    induction l with
    | nil => intro out h; exact h
    | cons x l ih => intro out h; exact ih _ (insU_ge h)
  exact this _ [] (by simp)
/-- the unknown ones -/
theorem tags_convM (least : Nat) (u : TagL) (hu : ∀ x ∈ u, x.1 < 4294967296) : ∃ l : TagL, tagsOk l ∧ l.length = ((unkS least u).map fun x => (x.1, x.2.take 32767)).length ∧ tagsOut l = (((unkS least u).map fun x => (x.1, x.2.take 32767)).flatMap fun x => tagS x.1 x.2) ∧ ∀ t ∈ l, least ≤ t.1 := by
  obtain ⟨h1, h2, h3⟩ := unkS_spec least u
  have h4 := unkS_ge least u
  generalize unkS least u = q at h1 h2 h3 h4
  refine ⟨q.map fun x => (x.1, x.2.take 32767), ⟨by simp; omega, ?_, ?_⟩, rfl, ?_, ?_⟩
  · rw [List.map_map]
    show (q.map (·.1)).Nodup
    rw [List.nodup_iff_pairwise_ne, List.pairwise_map]
    exact h1.imp fun h => by omega
  · intro x hx
    obtain ⟨y, hy, rfl⟩ := List.mem_map.1 hx
    exact ⟨hu y (h3 y hy), by simp; omega⟩
  · have hs : sortTags (q.map fun x => (x.1, x.2.take 32767)) = q.map fun x => (x.1, x.2.take 32767) := by
      refine sortTags_of_sorted _ ?_
      rw [List.pairwise_map]
      exact h1.imp fun h => by simp only; omega
    simp only [tagsOut, hs]
    refine flat_congr _ fun x hx => ?_
    obtain ⟨y, hy, rfl⟩ := List.mem_map.1 hx
    have hy1 := hu y (h3 y hy)
    simp only [tagS]
    rw [uvS_out hy1, uvS_out (by simp; omega), Nat.mod_eq_of_lt hy1, List.append_assoc]
  · intro x hx
    obtain ⟨y, hy, rfl⟩ := List.mem_map.1 hx
    exact h4 y hy
/-- a field of a struct that may be by default: always the very text -/
theorem prim_s {p : Prim} {d : Int} (hq : p.eqS = true) (hok : p = .str ∨ p.okD d = true) {h : FH} {sub : FS} {v : Int} (hkind : h.kind = primK p) (hd : p = .str ∨ h.dflt = d) (hnul : h.null < 0) (t : Tr) :
    ∃ x : p.T, p.wf x ∧ p.isD d x = usualS (feOf v true h sub) t ∧ p.wr true x = fieldS (feOf v true h sub) v true t := by
  have hfk : fieldS (feOf v true h sub) v true t = valS (primK p) (partL (sub.list v true) v true) (h.isNull v t.nul) true t := by
    have h11 : ¬ (primK p = 11) := by cases p <;> simp [primK]
    have h10 : ¬ (primK p = 10) := by cases p <;> simp [primK]
    simp only [feOf, fieldS, hkind, if_neg h11, h10, false_and, if_false]
  have hisn : h.isNull v t.nul = false := by simp [FH.isNull]; omega
  by_cases hp : p = .str
  · subst hp
    have hus : usualS (feOf v true h sub) t = t.s.isEmpty := by
      have : ¬ (0 ≤ h.null) := by omega
      simp [usualS, feOf, hkind, primK, this]
    refine ⟨(show List UInt8 from t.s.take 32767), ?_, ?_, ?_⟩
    · show (t.s.take 32767).length ≤ 32767
      simp; omega
    · rw [hus]
      show (t.s.take 32767).isEmpty = t.s.isEmpty
      cases t.s <;> simp
    · rw [hfk, hisn]
      show wCStr (t.s.take 32767) = _
      have hl : (t.s.take 32767).length ≤ 32767 := by simp; omega
      simp only [valS, primK, wCStr, countedS]
      simp
      rw [uvS_out (by omega), Nat.mod_eq_of_lt (by omega)]
  · have hok' := hok.resolve_left hp
    have hd' := hd.resolve_left hp
    cases hu : usualS (feOf v true h sub) t
    · obtain ⟨x, h1, h2, h3⟩ := prim_k hok' (sub := sub) (v := v) hkind (.inr hd') t
      exact ⟨x, h1, by rw [h2, hu], h3 hu⟩
    · refine ⟨p.dfl d, Prim.okD_wf hok', p.isD_dfl d, ?_⟩
      have hint : ∀ (w : Nat), (primK p ≠ 0 ∧ primK p ≠ 7 ∧ primK p ≠ 8 ∧ primK p ≠ 9 ∧ primK p ≠ 10 ∧ primK p ≠ 11) → widthS (primK p) = w → p.wr true (p.dfl d) = fixE w d → p.wr true (p.dfl d) = fieldS (feOf v true h sub) v true t := by
        rintro w ⟨h0, h7, h8, h9, h10, h11⟩ hw hx
        have hus : usualS (feOf v true h sub) t = (fixE w t.n == fixE w h.dflt) := by
          simp only [usualS, feOf, hkind, if_neg h0, if_neg h7, h8, h9, or_self, if_false, if_neg h11, if_neg h10, hw]
        rw [hus] at hu
        have hu' : fixE w t.n = fixE w h.dflt := by simpa using hu
        rw [hfk, hx, ← hd', ← hu']
        simp only [valS, if_neg h0, if_neg h7, if_neg h8, if_neg h9, if_neg h10, hw]
      cases p with
      | i8 => exact hint 1 (by simp [primK]) rfl (by simp [Prim.wr, Prim.dfl, fixE])
      | i16 => exact hint 2 (by simp [primK]) rfl (by rw [fixE_eq]; rfl)
      | i32 => exact hint 4 (by simp [primK]) rfl (by rw [fixE_eq]; rfl)
      | i64 => exact hint 8 (by simp [primK]) rfl (by rw [fixE_eq]; rfl)
      | str => exact absurd rfl hp
      | bool => cases hq
      | u16 => cases hq
      | uuid => cases hq
      | nstr => cases hq
      | bytes => cases hq
      | nbytes => cases hq
/-- a struct's fields, each of which may be by default -/
def fitD (M : Nat) : FS → Sch → Bool
  | .cons h _ rest, .prim g _ _ p _ d r => decide (h.tag < 0) && g.lo.isNone && onAt M g h && decide (h.kind = primK p) && p.eqS && (decide (p = .str) || (p.okD d && decide (h.dflt = d))) && decide (h.null < 0) && fitD M rest r
  | .nil, .tags _ _ => true
  | _, _ => false
theorem fitD_noTag {M : Nat} : ∀ {F : FS} {S : Sch}, fitD M F S = true → noTag F = true
  | .nil, _, _ => rfl
  | .cons h sub rest, .prim g k o p en d r, hb => by
    simp only [fitD, Bool.and_eq_true] at hb
    simp only [noTag, hb.1.1.1.1.1.1.1, fitD_noTag hb.2, Bool.and_self]
  | .cons h sub rest, .fin, hb => by simp [fitD] at hb
  | .cons h sub rest, .tags _ _, hb => by simp [fitD] at hb
  | .cons h sub rest, .arrP .., hb => by simp [fitD] at hb
  | .cons h sub rest, .arrS .., hb => by simp [fitD] at hb
  | .cons h sub rest, .sub .., hb => by simp [fitD] at hb
  | .cons h sub rest, .opt .., hb => by simp [fitD] at hb
theorem conv_d {M : Nat} {v : Nat} (hv : v ≤ M) : ∀ (S : Sch) (F : FS) (n : Nat) (t : Tr), fitD M F S = true → t.Ok → ∃ x : S.T, S.wf v true x ∧ S.wr v true x = plainS F v true n t ++ tailS true t ∧ S.isD x = (((F.list v true).zipIdx n).all (fun (x, i) => usualS x (t.at i)) && (unkS 0 t.u).isEmpty) := by
  intro S
  induction S with
  | tags k o =>
    intro F n t hb ht
    cases F with
    | cons h sub rest => simp [fitD] at hb
    | nil =>
      obtain ⟨l, h1, h2, h3, _⟩ := tags_convM 0 t.u ht.u
      refine ⟨l, fun _ => h1, ?_, ?_⟩
      · have hl := h1.1
        simp only [Sch.wr, plainS, tailS, FS.list, List.zipIdx_nil, List.flatMap_nil, List.nil_append, if_true, ← h2, ← h3]
        rw [uvS_out (by omega), Nat.mod_eq_of_lt (by omega)]
      · simp only [Sch.isD, FS.list, List.zipIdx_nil, List.all_nil, Bool.true_and]
        rw [List.length_map] at h2
        show List.isEmpty l = _
        cases l <;> cases hx : unkS 0 t.u <;> simp_all
  | prim g k o p en d r ih =>
    intro F n t hb ht
    cases F with
    | nil => simp [fitD] at hb
    | cons h sub rest =>
      simp only [fitD, Bool.and_eq_true, decide_eq_true_eq, Bool.or_eq_true, Option.isNone_iff_eq_none] at hb
      obtain ⟨⟨⟨⟨⟨⟨⟨htag, hg⟩, hon⟩, hkind⟩, hq⟩, hd⟩, hnul⟩, hrest⟩ := hb
      have hgon : g.on v = true := by obtain ⟨lo, hi⟩ := g; simp only at hg; subst hg; rfl
      obtain ⟨y, hy1, hy2, hy3⟩ := ih rest (n + 1) t hrest ht
      have hgo := onAt_of hon hv
      obtain ⟨x, hx1, hx2, hx3⟩ := prim_s (d := d) hq (hd.imp id (·.1)) (sub := sub) (v := v) hkind (hd.imp id (·.2)) hnul (t.at n)
      refine ⟨(x, y), ⟨fun _ => hx1, hy1⟩, ?_, ?_⟩
      · rw [plainS_cons, ← hgo]
        simp only [Sch.wr, hgon, if_true, htag, true_and, hx3, hy2, List.append_assoc]
      · rw [list_cons, List.zipIdx_cons, List.all_cons]
        simp only [Sch.isD, hx2, hy3, Bool.and_assoc]
  | fin => intro F n t hb; cases F <;> simp [fitD] at hb
  | arrP g k o sT nul p r ih => intro F n t hb; cases F <;> simp [fitD] at hb
  | arrS g k o sT nul T PT sz df e r ihe ih => intro F n t hb; cases F <;> simp [fitD] at hb
  | sub g k o T PT sz df e r ihe ih => intro F n t hb; cases F <;> simp [fitD] at hb
  | opt g k o T PT PP sz df e r ihe ih => intro F n t hb; cases F <;> simp [fitD] at hb
def Kn.wt2 : Kn → Nat
  | .prim _ _ => 16
  | .arr _ _ _ _ _ e => 5 + (e.wt2 + 15)
  | .str _ _ _ _ _ _ e => e.wt2 + 15
def fitKn (M : Nat) (flx : Nat → Bool) (h : FH) (sub : FS) : Kn → Bool
  | .prim p d => p.okD d && decide (h.kind = primK p) && (decide (h.dflt = d) || decide (primK p = 7))
  | .arr _ _ _ _ _ e => decide (h.kind = 11) && decide (h.of_ = 10) && nnAt M ⟨none, none⟩ h && fitS M flx sub e
  | .str _ _ _ _ _ _ e => decide (h.kind = 10) && decide (h.null < 0) && fitS M flx sub e && fitD M sub e
def fitKs (M : Nat) (flx : Nat → Bool) : Nat → FS → List KF → Bool
  | _, .nil, [] => true
  | lo, .cons h sub rest, f :: l => decide (h.tag = (lo : Int)) && decide (f.num = lo) && fitKn M flx h sub f.c && decide (f.c.wt2 ≤ 4095) && fitKs M flx (lo + 1) rest l
  | _, _, _ => false
theorem conv_kn {M : Nat} {flx : Nat → Bool} {v : Nat} (hv : v ≤ M) (hfl : flx v = true) {h : FH} {sub : FS} {c : Kn} (hb : fitKn M flx h sub c = true) (hw : c.wt2 ≤ 4095) {t : Tr} (ht : t.Ok) (hz : t.sz ≤ 1048576) :
    ∃ x : c.T, c.wf v x ∧ (c.set x = !usualS (feOf v true h sub) t) ∧ (c.set x = true → c.wr v x = fieldS (feOf v true h sub) v true t ∧ (c.wr v x).length < 4294967296) := by
  cases c with
  | str T PT sz df sm mk e =>
    simp only [fitKn, Bool.and_eq_true, decide_eq_true_eq] at hb
    obtain ⟨⟨⟨hkind, hnul⟩, hsub⟩, hfd⟩ := hb
    obtain ⟨x, h1, h2, h3⟩ := conv_d hv e sub 0 t hfd ht
    have hnn : ¬ (0 ≤ h.null) := by omega
    have hfe : fieldS (feOf v true h sub) v true t = partS sub v true t := by
      simp only [feOf, fieldS, hkind]
      simp [hnn, valS, partS]
    have hus : usualS (feOf v true h sub) t = usualL (sub.list v true) t := by
      simp [usualS, feOf, hkind]
    have hk0 : knownL ((sub.list v true).map (·.h)) = 0 := knownL_none _ 0 (noTag_heads v true (fitD_noTag hfd))
    have hwr : (Kn.str T PT sz df sm mk e).wr v x = fieldS (feOf v true h sub) v true t := by
      rw [hfe, partS_plain (fitD_noTag hfd)]
      exact h2
    refine ⟨x, h1, ?_, fun _ => ⟨hwr, ?_⟩⟩
    · show (!e.isD x) = _
      rw [hus, h3]
      simp only [usualL, hk0]
    · rw [hwr, hfe]
      have hn := nest_wt (flx := flx) hv hsub t ht
      rw [hfl] at hn
      have hn : (partS sub v true t).length ≤ (e.wt2 + 15) * t.sz := hn
      have hw' : e.wt2 + 15 ≤ 4095 := hw
      have h4 : (e.wt2 + 15) * t.sz ≤ 4095 * 1048576 := Nat.mul_le_mul hw' hz
      omega
  | prim p d =>
    simp only [fitKn, Bool.and_eq_true, decide_eq_true_eq, Bool.or_eq_true] at hb
    obtain ⟨⟨hok, hkind⟩, hd⟩ := hb
    have hd' : p = .uuid ∨ h.dflt = d := by
      rcases hd with hd | hd
      · exact .inr hd
      · refine .inl ?_
        cases p <;> first | rfl | (simp [primK] at hd; done)
    obtain ⟨x, h1, h2, h3⟩ := prim_k hok (sub := sub) (v := v) hkind hd' t
    refine ⟨x, h1, ?_, fun hs => ?_⟩
    · show (!p.isD d x) = _
      rw [h2]
    · have hs' : (!p.isD d x) = true := hs
      rw [h2] at hs'
      have hcap := prim_cap p true x h1
      exact ⟨h3 (by simpa using hs'), by show (p.wr true x).length < _; omega⟩
  | arr sT T PT sz df e =>
    simp only [fitKn, Bool.and_eq_true, decide_eq_true_eq] at hb
    obtain ⟨⟨⟨hkind, hof⟩, hnn⟩, hsub⟩ := hb
    have hnul : h.isNull v t.nul = false := nnAt_of hnn hv rfl _
    obtain ⟨xs, h1, h2, h3⟩ := pick_all (f := valS 10 (partL (sub.list v true) v true) false true) (g := e.wr v true) (W := e.wf v true) (t.l.take 32767) (fun x hx => by
      obtain ⟨z, hz1, hz2⟩ := conv_all (flx := flx) hv hsub (ht.l x (List.mem_of_mem_take hx))
      rw [hfl] at hz1 hz2
      exact ⟨z, hz1, hz2⟩)
    have hl : (t.l.take 32767).length ≤ 32767 := by simp; omega
    have hfe : fieldS (feOf v true h sub) v true t = countedS true false (t.l.take 32767).length 4 ++ (t.l.take 32767).flatMap (valS 10 (partL (sub.list v true) v true) false true) := by
      simp only [feOf, fieldS, hkind, hof, if_true, hnul]; rfl
    have hus : usualS (feOf v true h sub) t = t.l.isEmpty := by
      simp [usualS, feOf, hkind]
    have hwr : (Kn.arr sT T PT sz df e).wr v (some xs) = fieldS (feOf v true h sub) v true t := by
      rw [hfe, ← h1]
      show lenW none true xs.length false ++ xs.flatMap (e.wr v true) = _
      congr 1
      rw [h2]
      simp [lenW, countedS, wCLen]
      rw [uvS_out (by omega)]
    refine ⟨some xs, ⟨⟨by show xs.length ≤ 32767; omega, by simp⟩, h3⟩, ?_, fun _ => ⟨hwr, ?_⟩⟩
    · show (!xs.isEmpty) = _
      rw [hus]
      cases hx : t.l with
      | nil => rw [hx] at h2; simp at h2; simp [h2]
      | cons y l =>
        rw [hx] at h2
        cases xs with
        | nil => simp at h2
        | cons => rfl
    · rw [hwr, hfe, List.length_append]
      have hc := counted_len true false (t.l.take 32767).length 4 hl (by omega)
      have hf := flat_wt (c := e.wt2 + 15) (f := valS 10 (partL (sub.list v true) v true) false true) t.l 32767 (fun x hx => by
        have := nest_wt (flx := flx) hv hsub x (ht.l x hx)
        rw [hfl] at this
        exact this)
      have hw' : 5 + (e.wt2 + 15) ≤ 4095 := hw
      have h4 : (e.wt2 + 15) * Tr.szL t.l ≤ 4090 * 1048576 := Nat.mul_le_mul (by omega) (by have := t.szL_le; omega)
      omega
/-- what the reference writes of the known ones -/
def knO (L : List (FE × Nat)) (v : Int) (t : Tr) : List (Nat × List UInt8) := L.flatMap fun (x, i) => if usualS x (t.at i) = false then [(x.h.tag.toNat, fieldS x v true (t.at i))] else []
theorem conv_ks {M : Nat} {flx : Nat → Bool} {v : Nat} (hv : v ≤ M) (hfl : flx v = true) {t : Tr} (ht : t.Ok) (hz : t.sz ≤ 1048576) : ∀ (l : List KF) (F : FS) (lo n : Nat), fitKs M flx lo F l = true → ∃ x : KsT l, KsWf v l x ∧ ksOuts v l x = knO ((F.list v true).zipIdx n) v t
  | [], .nil, lo, n, _ => ⟨(), trivial, rfl⟩
  | [], .cons _ _ _, lo, n, hb => by simp [fitKs] at hb
  | _ :: _, .nil, lo, n, hb => by simp [fitKs] at hb
  | f :: l, .cons h sub rest, lo, n, hb => by
    simp only [fitKs, Bool.and_eq_true, decide_eq_true_eq] at hb
    obtain ⟨⟨⟨⟨htag, hnum⟩, hkn⟩, hw⟩, hrest⟩ := hb
    obtain ⟨y, hy1, hy2⟩ := conv_ks hv hfl ht hz l rest (lo + 1) (n + 1) hrest
    obtain ⟨x, h1, h2, h3⟩ := conv_kn hv hfl hkn hw (ht.at n) (Nat.le_trans (t.sz_at n) hz)
    refine ⟨(x, y), ⟨⟨h1, fun hs => (h3 hs).2⟩, hy1⟩, ?_⟩
    have e1 : knO (((FS.cons h sub rest).list v true).zipIdx n) v t = (if usualS (feOf v true h sub) (t.at n) = false then [(h.tag.toNat, fieldS (feOf v true h sub) v true (t.at n))] else []) ++ knO ((rest.list v true).zipIdx (n + 1)) v t := by
      simp only [knO, list_cons, List.zipIdx_cons, List.flatMap_cons]; rfl
    rw [e1, ← hy2]
    simp only [ksOuts]
    congr 1
    rw [h2]
    cases hu : usualS (feOf v true h sub) (t.at n)
    · have hs : f.c.set x = true := by rw [h2, hu]; rfl
      simp only [Bool.not_false, if_true, (h3 hs).1, hnum, htag]
      rfl
    · simp
end Go.Kg

set_option linter.unusedSimpArgs false
set_option linter.unusedVariables false
set_option linter.unusedSectionVars false
namespace Go.Kg
open Go
def tagsFrom : Nat → List FE → Prop
  | _, [] => True
  | lo, x :: l => x.h.tag = (lo : Int) ∧ tagsFrom (lo + 1) l
theorem fitKs_tags {M : Nat} {flx : Nat → Bool} (v : Int) (fl : Bool) : ∀ {l : List KF} {F : FS} {lo : Nat}, fitKs M flx lo F l = true → tagsFrom lo (F.list v fl) ∧ (F.list v fl).length = l.length ∧ l.map (·.num) = List.range' lo l.length
  | [], .nil, lo, _ => ⟨trivial, rfl, rfl⟩
  | [], .cons _ _ _, lo, hb => by simp [fitKs] at hb
  | _ :: _, .nil, lo, hb => by simp [fitKs] at hb
  | f :: l, .cons h sub rest, lo, hb => by
    simp only [fitKs, Bool.and_eq_true, decide_eq_true_eq] at hb
    obtain ⟨h1, h2, h3⟩ := fitKs_tags v fl hb.2
    refine ⟨⟨hb.1.1.1.1, h1⟩, by rw [list_cons]; simp [h2], ?_⟩
    simp only [List.map_cons, List.length_cons, List.range'_succ, h3, hb.1.1.1.2]
theorem tagsFrom_nn : ∀ {L : List FE} {lo : Nat}, tagsFrom lo L → ∀ x ∈ L, (lo : Int) ≤ x.h.tag
  | x :: L, lo, h, y, hy => by
    rcases List.mem_cons.1 hy with rfl | hy
    · rw [h.1]; omega
    · have := tagsFrom_nn h.2 y hy; omega
theorem zip_mem {α : Type} : ∀ {L : List α} {n : Nat} {y : α × Nat}, y ∈ L.zipIdx n → y.1 ∈ L
  | [], _, _, h => by simp at h
  | x :: L, n, y, h => by
    rw [List.zipIdx_cons] at h
    rcases List.mem_cons.1 h with rfl | h
    · exact List.mem_cons_self
    · exact List.mem_cons_of_mem _ (zip_mem h)
/-- what is written of the number k -/
def knK (v : Int) (t : Tr) (k : Nat) (x : FE × Nat) : List (Nat × List UInt8) := if x.1.h.tag = (k : Int) ∧ usualS x.1 (t.at x.2) = false then [(k, fieldS x.1 v true (t.at x.2))] else []
theorem flat_nil {α β : Type} {f : α → List β} : ∀ (l : List α), (∀ x ∈ l, f x = []) → l.flatMap f = []
  | [], _ => rfl
  | x :: l, h => by rw [List.flatMap_cons, h x List.mem_cons_self, flat_nil l (fun y hy => h y (List.mem_cons_of_mem _ hy))]; rfl
theorem flat_congr' {α β : Type} {f g : α → List β} : ∀ (l : List α), (∀ x ∈ l, f x = g x) → l.flatMap f = l.flatMap g
  | [], _ => rfl
  | x :: l, h => by rw [List.flatMap_cons, List.flatMap_cons, h x List.mem_cons_self, flat_congr' l (fun y hy => h y (List.mem_cons_of_mem _ hy))]
theorem kn_seq (v : Int) (t : Tr) : ∀ (L : List FE) (lo n : Nat), tagsFrom lo L → ((List.range' lo L.length).flatMap fun k => (L.zipIdx n).flatMap (knK v t k)) = knO (L.zipIdx n) v t
  | [], lo, n, _ => rfl
  | x :: L, lo, n, h => by
    have ih := kn_seq v t L (lo + 1) (n + 1) h.2
    have hz : ∀ y ∈ L.zipIdx (n + 1), y.1 ∈ L := fun y hy => zip_mem hy
    have h0 : (L.zipIdx (n + 1)).flatMap (knK v t lo) = [] := flat_nil _ fun y hy => by
      have := tagsFrom_nn h.2 y.1 (hz y hy)
      simp only [knK]
      rw [if_neg]; rintro ⟨h', _⟩; omega
    simp only [List.length_cons, List.range'_succ, List.flatMap_cons, List.zipIdx_cons]
    rw [h0, List.append_nil]
    have e1 : ((List.range' (lo + 1) L.length).flatMap fun k => knK v t k (x, n) ++ (L.zipIdx (n + 1)).flatMap (knK v t k)) = (List.range' (lo + 1) L.length).flatMap fun k => (L.zipIdx (n + 1)).flatMap (knK v t k) := flat_congr' _ fun k hk => by
      have hk' : lo + 1 ≤ k := (List.mem_range'_1.1 hk).1
      have : knK v t k (x, n) = [] := by
        simp only [knK, h.1]
        rw [if_neg]; rintro ⟨h', _⟩; omega
      rw [this]; rfl
    rw [e1, ih]
    simp only [knO, List.flatMap_cons]
    congr 1
    simp only [knK, h.1, true_and, Int.toNat_natCast]
theorem knownL_seq : ∀ (L : List FE) (lo : Nat), tagsFrom lo L → (L.map (·.h)).foldl (fun n h => if 0 ≤ h.tag then max n (h.tag.toNat + 1) else n) lo = lo + L.length
  | [], lo, _ => rfl
  | x :: L, lo, h => by
    have ih := knownL_seq L (lo + 1) h.2
    simp only [List.map_cons, List.foldl_cons, h.1]
    rw [if_pos (by omega)]
    have : max lo ((lo : Int).toNat + 1) = lo + 1 := by omega
    rw [this, ih, List.length_cons]; omega
theorem knownL_app (pre L : List FE) (hp : ∀ x ∈ pre, x.h.tag < 0) (hL : tagsFrom 0 L) : knownL ((pre ++ L).map (·.h)) = L.length := by
  unfold knownL
  rw [List.map_append, List.foldl_append, knownL_none (pre.map (·.h)) 0 (fun h hh => by obtain ⟨x, hx, rfl⟩ := List.mem_map.1 hh; exact hp x hx), knownL_seq L 0 hL]
  omega
def fitM (M : Nat) (flx : Nat → Bool) (F : FS) (K : KM) : Bool := K.S.endF && decide (K.ks.length ≤ 100) && (match fitP M flx F K.S with | some F2 => fitKs M flx 0 F2 K.ks | none => false)
theorem fitM_of {M : Nat} {flx : Nat → Bool} {F : FS} {K : KM} (h : fitM M flx F K = true) : K.S.endF = true ∧ K.ks.length ≤ 100 ∧ ∃ F2, fitP M flx F K.S = some F2 ∧ fitKs M flx 0 F2 K.ks = true := by
  simp only [fitM, Bool.and_eq_true, decide_eq_true_eq] at h
  refine ⟨h.1.1, h.1.2, ?_⟩
  cases hp : fitP M flx F K.S with
  | none => rw [hp] at h; cases h.2
  | some F2 => rw [hp] at h; exact ⟨F2, rfl, h.2⟩
theorem ksOuts_mem {ver : Int} : ∀ {l : List KF} {x : KsT l}, KsWf ver l x → ∀ y ∈ ksOuts ver l x, y.1 ∈ l.map (·.num) ∧ y.2.length < 4294967296
  | [], _, _, y, hy => by simp [ksOuts] at hy
  | f :: l, (v, r), h, y, hy => by
    simp only [ksOuts, List.mem_append] at hy
    rcases hy with hy | hy
    · split at hy
      · rename_i hs
        simp only [List.mem_singleton] at hy
        subst hy
        exact ⟨by simp, h.1.2 hs⟩
      · simp at hy
    · obtain ⟨h1, h2⟩ := ksOuts_mem h.2 y hy
      exact ⟨by simp only [List.map_cons, List.mem_cons]; exact .inr h1, h2⟩
/-- What the reference writes of a tree is what the code writes of some value that may be. -/
theorem conv_kmS {M : Nat} {flx : Nat → Bool} {v : Nat} (hv : v ≤ M) {F : FS} {K : KM} (hb : fitM M flx F K = true) {t : Tr} (ht : t.Ok) (hz : t.sz ≤ 1048576) : ∃ x : K.T, K.wr v (flx v) x = partS F v (flx v) t ∧ K.wf v (flx v) x ∧ K.S.wr v (flx v) x.1 = plainS F v (flx v) 0 t := by
  obtain ⟨hE, hlen, F2, hp, hk⟩ := fitM_of hb
  obtain ⟨x, hx1, hx2⟩ := conv_pre hv K.S F 0 t F2 hp hE ht
  obtain ⟨pre, hpre, hpl, hpt⟩ := fitP_list (v : Int) (flx v) hp
  obtain ⟨htf, hll, hnum⟩ := fitKs_tags (v : Int) (flx v) hk
  have hF2 : plainS F2 v (flx v) (0 + K.S.flds) t = [] := by
    unfold plainS
    refine flat_nil _ fun y hy => ?_
    have hm : y.1 ∈ F2.list (v : Int) (flx v) := zip_mem hy
    have := tagsFrom_nn htf y.1 hm
    simp only
    rw [if_neg]; rintro ⟨h', _⟩; omega
  rw [hF2, List.append_nil] at hx1
  cases hfl : flx v
  · rw [hfl] at hx1 hx2
    refine ⟨(x, ksDfl K.ks, []), ?_, ⟨hx2, (fun h => by cases h), (fun h => by cases h), (fun h => by cases h)⟩, hx1⟩
    simp only [KM.wr, secW, Bool.false_eq_true, if_false, List.append_nil, hx1]
    simp [partS, partL, plainS]
  · rw [hfl] at hx1 hx2 hpre htf hll
    obtain ⟨y, hy1, hy2⟩ := conv_ks hv hfl ht hz K.ks F2 0 K.S.flds hk
    obtain ⟨u, hu1, hu2, hu3, hu4⟩ := tags_convM K.ks.length t.u ht.u
    have hkl : knownL ((F.list v true).map (·.h)) = K.ks.length := by rw [hpre, knownL_app pre _ hpt htf, hll]
    have hnn := ksN_le K.ks y
    have hul := hu1.1
    refine ⟨(x, y, u), ?_, ⟨hx2, fun _ => hy1, fun _ => hu1, fun _ z hz => ?_⟩, hx1⟩
    · have hkn : ((List.range (knownL ((F.list v true).map (·.h)))).flatMap fun k => (F.list v true).zipIdx.flatMap fun (x, i) => if x.h.tag = k ∧ usualS x (t.at i) = false then [(k, fieldS x v true (t.at i))] else []) = ksOuts v K.ks y := by
        rw [hy2, hkl, List.range_eq_range', ← hll, ← kn_seq v t _ 0 _ htf]
        refine flat_congr' _ fun k _ => ?_
        rw [hpre, List.zipIdx_append, List.flatMap_append, flat_nil (pre.zipIdx 0)]
        · rw [List.nil_append, hpl, Nat.zero_add]; rfl
        · intro z hz
          have hm : z.1 ∈ pre := zip_mem hz
          have := hpt z.1 hm
          simp only
          rw [if_neg]; rintro ⟨h', _⟩; omega
      have hpart : partS F v true t = plainS F v true 0 t ++ (uvS (ksOuts v K.ks y ++ (unkS K.ks.length t.u).map fun x => (x.1, x.2.take 32767)).length ++ (ksOuts v K.ks y ++ (unkS K.ks.length t.u).map fun x => (x.1, x.2.take 32767)).flatMap fun x => tagS x.1 x.2) := by
        have h0 : partS F v true t = plainS F v true 0 t ++ uvS (((List.range (knownL ((F.list v true).map (·.h)))).flatMap fun k => (F.list v true).zipIdx.flatMap fun (x, i) => if x.h.tag = k ∧ usualS x (t.at i) = false then [(k, fieldS x v true (t.at i))] else []) ++ (unkS (knownL ((F.list v true).map (·.h))) t.u).map fun x => (x.1, x.2.take 32767)).length ++ (((List.range (knownL ((F.list v true).map (·.h)))).flatMap fun k => (F.list v true).zipIdx.flatMap fun (x, i) => if x.h.tag = k ∧ usualS x (t.at i) = false then [(k, fieldS x v true (t.at i))] else []) ++ (unkS (knownL ((F.list v true).map (·.h))) t.u).map fun x => (x.1, x.2.take 32767)).flatMap fun x => tagS x.1 x.2 := rfl
        rw [h0, hkn, hkl, List.append_assoc]
      rw [hpart]
      simp only [KM.wr, secW, if_true, hx1]
      congr 1
      rw [List.length_append, ksOuts_len, ← hu2, List.flatMap_append, ← hu3, ksOuts_wr, List.append_assoc]
      rw [uvS_out (by omega)]
      congr 1
      congr 1
      refine flat_congr _ fun z hz => ?_
      obtain ⟨m1, m2⟩ := ksOuts_mem hy1 z hz
      rw [hnum] at m1
      have m3 := (List.mem_range'_1.1 m1).2
      simp only [kTag, tagS]
      rw [uvS_out (by omega), uvS_out m2, Nat.mod_eq_of_lt (show z.1 < 4294967296 by omega)]
    · rw [hnum]
      intro hm
      have m3 := (List.mem_range'_1.1 hm).2
      have := hu4 z hz
      omega
theorem ksW_len {ver : Int} {l : List KF} {x : KsT l} (h : KsWf ver l x) : (ksW ver l x).length ≤ l.length * 4294967306 := by
  rw [ksOuts_wr]
  have h1 := flat_cap (g := fun y : Nat × List UInt8 => kTag y.1 y.2) (n := 4294967306) (ksOuts ver l x) (fun y hy => by
    have := (ksOuts_mem h y hy).2
    have a := uvOut_len5 y.1
    have b := uvOut_len5 (y.2.length % 4294967296)
    simp only [kTag, List.length_append]; omega)
  have h2 : (ksOuts ver l x).length ≤ l.length := by rw [ksOuts_len]; exact ksN_le l x
  exact Nat.le_trans h1 (Nat.mul_le_mul_right _ h2)
theorem partM_le {M : Nat} {flx : Nat → Bool} {v : Nat} (hv : v ≤ M) {F : FS} {K : KM} (hb : fitM M flx F K = true) {t : Tr} (ht : t.Ok) (hz : t.sz ≤ 1048576) (hw : K.S.wt2 ≤ 100000) : (partS F v (flx v) t).length + 2 ≤ 1099511627776 := by
  obtain ⟨hE, hlen, F2, hp, hk⟩ := fitM_of hb
  have hwt := pre_wt hv K.S F 0 t F2 hp ht
  obtain ⟨⟨x1, x2, x3⟩, y1, y2, y3⟩ := conv_kmS hv hb ht hz
  obtain ⟨htf, hll, hnum⟩ := fitKs_tags (v : Int) (flx v) hk
  have hF2 : plainS F2 v (flx v) (0 + K.S.flds) t = [] := by
    unfold plainS
    refine flat_nil _ fun y hy => ?_
    have hm : y.1 ∈ F2.list (v : Int) (flx v) := zip_mem hy
    have := tagsFrom_nn htf y.1 hm
    simp only
    rw [if_neg]; rintro ⟨h', _⟩; omega
  rw [hF2, List.length_nil, Nat.add_zero] at hwt
  have h1 : K.S.wt2 * t.sz ≤ 100000 * 1048576 := Nat.mul_le_mul hw hz
  rw [← y1]
  simp only at y3
  simp only [KM.wr, List.length_append, y3]
  have h2 : (secW v (flx v) K.ks x2 x3).length ≤ 10 + 100 * 4294967306 + 40000 * 32777 := by
    cases hfl : flx v
    · simp [secW]
    · have a1 : (ksW v K.ks x2).length ≤ K.ks.length * 4294967306 := ksW_len (y2.ks hfl)
      have a2 : (uvOut (x3.length % 4294967296) ++ tagsOut x3).length ≤ 5 + 40000 * 32777 := tags_cap x3 (y2.u hfl)
      have a3 := uvOut_len5 ((ksN K.ks x2 + x3.length) % 4294967296)
      have a4 : K.ks.length * 4294967306 ≤ 100 * 4294967306 := Nat.mul_le_mul_right _ hlen
      rw [List.length_append] at a2
      simp only [secW, if_true, List.length_append]
      omega
  omega
theorem conv_km {M : Nat} {flx : Nat → Bool} {v : Nat} (hv : v ≤ M) {F : FS} {K : KM} (hb : fitM M flx F K = true) {t : Tr} (ht : t.Ok) (hz : t.sz ≤ 1048576) : ∃ x : K.T, K.wr v (flx v) x = partS F v (flx v) t ∧ K.wf v (flx v) x := by
  obtain ⟨x, h1, h2, _⟩ := conv_kmS hv hb ht hz
  exact ⟨x, h1, h2⟩
end Go.Kg

set_option linter.unusedSimpArgs false
set_option linter.unusedVariables false
set_option linter.unusedSectionVars false
namespace Go.Kg
open Go
structure AgLM (P : Program) (E : Env) (fMax fAg M : Nat) (K : KM) (flx : Nat → Bool) (ev : Value) : Prop where
  max : ∀ w, Ret P fMax #[] w fun u w' => u = .int .i64 M ∧ Ext none1 w w'
  again : ∀ v : Nat, v ≤ M → ∀ {w : World} {X : Nat → Prop} {sv : Value} {src : List UInt8}, BytesAt w X sv src → src.length ≤ 1099511627776 → w.cell? ⟨E.g_kbin_ErrNotEnoughData, 0, none⟩ = some ev →
    (∀ nn rs, K.rd v (flx v) ⟨src, false, nn⟩ ≠ some (none, rs)) →
    (∀ nn x rs, K.rd v (flx v) ⟨src, false, nn⟩ = some (some x, rs) → rs.bad = false → K.TagsOk tagsOk x ∧ (K.wr v (flx v) x).length ≤ 1099511627776) →
    Ret P fAg #[.int .i64 v, sv] w fun u w' => AgainPostM K v (flx v) src w u w'
  hM : M < 32768
  pos : ∀ v : Nat, v ≤ M → K.Ok v (flx v)
structure AgWM (P : Program) (fMsg M : Nat) (K : KM) (flx : Nat → Bool) (F : FS) (fx : Int) : Prop where
  msg : MsgC P fMsg F fx
  ok : F.okAll
  len : F.len ≤ 1000
  flex : ∀ v : Nat, v ≤ M → flexAt fx v = flx v
  fit : fitM M flx F K = true
theorem km_ok {K : KM} {flx : Nat → Bool} {M : Nat} (h : ((List.range (M + 1)).all fun v => K.S.posE v (flx v) && K.ks.all fun f => decide (f.num < 4294967296) && f.c.posE v) = true) (hnd : (K.ks.map (·.num)).Nodup) (hlen : K.ks.length ≤ 1000) : ∀ v : Nat, v ≤ M → K.Ok v (flx v) := by
  intro v hv
  have h1 := List.all_eq_true.1 h v (by simp; omega)
  rw [Bool.and_eq_true, List.all_eq_true] at h1
  refine ⟨h1.1, fun _ => ⟨hnd, fun f hf => ?_, hlen⟩⟩
  have h2 := h1.2 f hf
  rw [Bool.and_eq_true, decide_eq_true_eq] at h2
  exact h2
theorem appendToM {P : Program} {C : Cfg} {ok : TagL → Prop} {T PT sl flex nl nt g : Nat} {M : KM} (hm : KmOk P C ok T PT sl M.S M.ks M.tk M.to nl) (hnt : 2 ≤ nt) (hI : FnIs P g nt [.t 4] (msgWk C T PT sl flex M.S M.ks M.tk nl)) {w : World} {b a base : Nat} {cs : List Value} {x : M.T} {ver : Int} {v : Value} {s : List UInt8}
    (hcs : CellsAt w b a cs) (hver : cs[0]? = some (.int .i16 ver)) (hrep : KmRep w (· < base) cs M x) (hok : M.TagsOk ok x) (hb : b < base) (ho : OwnB C.E.tU8 w base v s) (hbase : base ≤ w.heap.size)
    (hsz : s.length + (M.wr ver (flagAt C flex ver) x).length ≤ 1099511627776) :
    Ret P g #[.pointer (some ⟨b, a, none⟩), v] w fun v' w' => OwnB C.E.tU8 w' base v' (s ++ M.wr ver (flagAt C flex ver) x) ∧ Grew w v w' v' := by
  obtain ⟨r1, r2, ⟨uv, r3, r4⟩⟩ := hrep
  obtain ⟨k1, k2, k3⟩ := hok
  exact appendToK hm hnt hI hcs hver r1 r2 r3 r4 k1 k2 k3 hb ho hbase hsz
section
variable {P : Program} {E : Env} (ht : TyK P E) (hs : SpecFns P E)
include ht hs
set_option maxHeartbeats 2000000 in
theorem c_FnCutM (hVe : FnIs P E.f_laws_version nt_laws_version (rs_laws_version E) (ir_laws_version E)) (hFz : ∀ (w : World) (cs : List Value) (t : Tr), TreeAt w cs t → Ret P E.f_laws_zzFits2 #[.agg cs.toArray] w (SomeB w)) (iU16 : intKind? P E.tU16 = some .u16)
    {fMax fMsg fAg M g nt tup : Nat} {K : KM} {flx : Nat → Bool} {ev : Value} {F : FS} {fx : Int} (hL : AgLM P E fMax fAg M K flx ev) (hW : AgWM P fMsg M K flx F fx) (hnt : 3 ≤ nt) (hI : FnIs P g nt [.t 6] (irFnCut E fMax fMsg fAg tup)) (n : Nat) (hn : n < 256) (at_ : Nat) (hat : at_ < 65536) {w : World} {cs : List Value} {t : Tr}
    (hT : TreeAt w cs t) (hz : t.sz ≤ 1048576) (hwt : K.S.wt2 ≤ 100000) (herr : w.cell? ⟨E.g_kbin_ErrNotEnoughData, 0, none⟩ = some ev) :
    Ret P g #[.int .u8 n, .agg cs.toArray, .int .u16 at_] w fun u w' => u = .bool true ∧ Ext none1 w w' := by
  have hvM : verOf n M ≤ M := by have := Nat.mod_lt n (show 0 < M + 1 by omega); simp only [verOf]; omega
  have hV := fun w => c_version hVe ht.iU8 ht.iInt n M hn hL.hM w
  obtain ⟨x, hx, hwf⟩ := conv_km (flx := flx) hvM hW.fit hT.ok hz
  have hsz : (partS F (verOf n M) (flx (verOf n M)) t).length ≤ 1099511627776 := by have := partM_le (flx := flx) hvM hW.fit hT.ok hz hwt; omega
  have hlen : (K.wr (verOf n M) (flx (verOf n M)) x).length ≤ 1099511627776 := by rw [hx]; exact hsz
  have hrd : ∀ nn, ∃ y nn', K.rd (verOf n M) (flx (verOf n M)) ⟨K.wr (verOf n M) (flx (verOf n M)) x, false, nn⟩ = some (some y, ⟨[], false, nn'⟩) ∧ K.wr (verOf n M) (flx (verOf n M)) y = K.wr (verOf n M) (flx (verOf n M)) x ∧ K.TagsOk tagsOk y := by
    intro nn
    obtain ⟨z, nn', e1, e2, e3⟩ := rd_km (hL.pos _ hvM) hwf [] nn
    rw [List.append_nil] at e1
    exact ⟨z, nn', e1, e2, e3⟩
  have hgood : ∀ nn y rs, K.rd (verOf n M) (flx (verOf n M)) ⟨K.wr (verOf n M) (flx (verOf n M)) x, false, nn⟩ = some (some y, rs) → rs.bad = false ∧ K.wr (verOf n M) (flx (verOf n M)) y = K.wr (verOf n M) (flx (verOf n M)) x ∧ K.TagsOk tagsOk y := by
    intro nn y rs h
    obtain ⟨z, nn', e1, e2, e3⟩ := hrd nn
    rw [e1] at h
    cases h
    exact ⟨rfl, e2, e3⟩
  have hsome : ∀ nn, ∃ y rs, K.rd (verOf n M) (flx (verOf n M)) ⟨K.wr (verOf n M) (flx (verOf n M)) x, false, nn⟩ = some (some y, rs) := by
    intro nn
    obtain ⟨z, nn', e1, _⟩ := hrd nn
    exact ⟨_, _, e1⟩
  have hdup : ∀ nn rs, K.rd (verOf n M) (flx (verOf n M)) ⟨K.wr (verOf n M) (flx (verOf n M)) x, false, nn⟩ ≠ some (none, rs) := by
    intro nn rs h
    obtain ⟨z, nn', e1, _⟩ := hrd nn
    rw [e1] at h
    cases h
  have h5 := hT.five
  refine hI.call (args := [_, _, _]) hnt ?_
  have hv : ∀ (a : Array Value), (Value.agg a).cells = a := fun a => rfl
  simp [irFnCut, hv]
  generalize hw1 : w.alloc (.cells cs.toArray E.t_spec_Tree) = w1
  have hE1 : Ext none1 w w1 := by subst hw1; exact (Ext.refl none1 w).alloc _
  have hb1 : w1.heap[w.heap.size]? = some (.cells cs.toArray E.t_spec_Tree (0, 0)) := by subst hw1; exact alloc_new
  have hcT : ∀ wx, Ext none1 w1 wx → cellsFrom wx ⟨w.heap.size, 0, none⟩ 0 5 = some cs := by
    intro wx hx
    have := cellsFrom_row (hx.old hb1 (fun h => h))
    simpa [h5.1] using this
  simp [ld_agg ht.kT, hcT w1 (Ext.refl _ _)]
  refine (hFz w1 cs t (hT.ext hE1)).mono ?_
  rintro _ w2 ⟨⟨b, rfl⟩, he2⟩
  simp
  cases b
  · refine cw_true (by simp) ?_
    simp
    exact hE1.trans he2
  refine cw_false (by simp) ?_
  simp
  refine (hL.max w2).mono ?_
  rintro _ w3 ⟨rfl, he3⟩
  simp
  refine cw_false (by simp) ?_
  simp
  have hE13 := he2.trans he3
  have hE3 := hE1.trans hE13
  have hD := (Ext.refl none1 w3).drew
  refine cw_regH (Ext none1 w3) hD ?_
  have r3 := Ext.refl none1 w3
  have lT : ∀ wx, Ext none1 w3 wx → cellsFrom wx ⟨w.heap.size, 0, none⟩ 0 5 = some cs := fun wx hx => hcT wx (hE13.trans hx)
  simp +contextual [ld_agg ht.kT, lT, lT w3.drew hD]
  refine (hW.msg w3.drew).mono ?_
  rintro _ w4 ⟨fv, rfl, hF, he4⟩
  have hD4 := hD.trans he4
  simp [hD4]
  refine (hV w4).mono ?_
  rintro _ w5 ⟨rfl, rfl⟩
  simp [hD4]
  refine (sp_Write ht.toTyM hs (fx := fx) (ver := (verOf n M : Int)) hW.ok hW.len w5 fv cs t hF (hT.ext (hE3.trans hD4)) (by rw [hW.flex _ hvM]; exact hsz)).mono ?_
  intro v8 w8 h8
  rw [hW.flex _ hvM, ← hx] at h8
  have hD8 := hD4.trans h8.2
  simp [hD8]
  refine (hV w8).mono ?_
  rintro _ w9 ⟨rfl, rfl⟩
  try simp
  have hb8 := own_bytes h8.1
  have hE8 := hE3.trans hD8
  refine (hL.again _ hvM hb8 hlen (hE8.cell herr (fun h => h)) hdup (fun nn y rs h1 h2 => ⟨(hgood nn y rs h1).2.2, by rw [(hgood nn y rs h1).2.1]; exact hlen⟩)).mono ?_
  rintro u w10 ⟨he10, nn, hu⟩
  obtain ⟨y, rs, hy⟩ := hsome nn
  obtain ⟨g1, g2, _⟩ := hgood nn y rs hy
  rw [hy] at hu
  simp only [g1, Bool.false_eq_true, if_false] at hu
  obtain ⟨v2, rfl, hv2⟩ := hu
  have hE10 := hE8.trans he10
  have hb10 := hb8.ext he10 (fun _ _ _ h => h)
  obtain ⟨a8, c8, rfl, hc8⟩ := hb10.len
  generalize hSS : K.wr (verOf n M) (flx (verOf n M)) x = ss at *
  simp [len_slice ht.uBs]
  by_cases hl0 : ss.length = 0
  · refine cw_true (by simp [List.eq_nil_of_length_eq_zero hl0]) ?_
    simp
    exact hE10
  have hss : ss ≠ [] := by rintro rfl; simp at hl0
  refine cw_false (by simp [hss]) ?_
  simp
  have hD10 := (Ext.refl none1 w10).drew
  refine cw_regH (Ext none1 w10) hD10 ?_
  have e16 : IntKind.i64.wrap (at_ : Int) = at_ := i64_small (by omega) (by omega)
  have hk : at_ % ss.length < ss.length := Nat.mod_lt _ (by omega)
  have ek : ((at_ : Int).tmod (ss.length : Int)) = ((at_ % ss.length : Nat) : Int) := by rw [Int.tmod_eq_emod_of_nonneg (by omega)]; rfl
  have hne0 : ¬ ((ss.length : Int) = 0) := by omega
  have hsl := slice_hi (P := P) (T := E.tBs) ht.sBs.siz (a := a8) (n := ss.length) (c := c8) (k := .i64) (l := at_ % ss.length) (by omega)
  generalize hkk : at_ % ss.length = kk at *
  simp +contextual [iU16, ht.iInt, e16, bin?, hne0, ek, hsl, hss, len_slice ht.uBs]
  refine (hV w10.drew).mono ?_
  rintro _ w11 ⟨rfl, rfl⟩
  simp [hD10]
  have hE11 := hE10.trans hD10
  have hbk := (hb10.ext hD10 (fun _ _ _ h => h)).upTo (l := kk) (by omega)
  have hcut : ∀ nn y rs, K.rd (verOf n M) (flx (verOf n M)) ⟨ss.take kk, false, nn⟩ = some (y, rs) → rs.bad = true ∧ y ≠ none := by
    intro nn y rs h
    rw [← hSS] at h hk
    exact cut_km (hL.pos _ hvM) hwf kk hk nn h
  refine (hL.again _ hvM hbk (by simp; omega) (hE11.cell herr (fun h => h)) (fun nn rs h => (hcut nn _ rs h).2 rfl) (fun nn y rs h1 h2 => by rw [(hcut nn _ rs h1).1] at h2; cases h2)).mono ?_
  rintro u w12 ⟨he12, nn2, hu⟩
  have hu2 : u = .tuple #[.slice none 0 0, .bool false] := by
    cases hr : K.rd (verOf n M) (flx (verOf n M)) ⟨ss.take kk, false, nn2⟩ with
    | none => rw [hr] at hu; exact hu
    | some p =>
      obtain ⟨y2, rs2⟩ := p
      rw [hr] at hu
      cases y2 with
      | none => exact hu
      | some y2 =>
        simp only [(hcut _ _ _ hr).1, if_true] at hu
        exact hu
  subst hu2
  have hD12 := hD10.trans he12
  simp [hD12]
  exact hE10.trans hD12
end
end Go.Kg

set_option linter.unusedSimpArgs false
set_option linter.unusedVariables false
set_option linter.unusedSectionVars false
namespace Go.Kg
open Go
section
variable {P : Program} {E : Env} (ht : TyK P E) (hs : SpecFns P E)
include ht hs
end
end Go.Kg

set_option linter.unusedSimpArgs false
set_option linter.unusedVariables false
set_option linter.unusedSectionVars false
namespace Go.Kg
open Go
section
variable {P : Program} {E : Env} (ht : TyK P E) (hs : SpecFns P E)
include ht hs
end
end Go.Kg

set_option linter.unusedSimpArgs false
set_option linter.unusedVariables false
set_option linter.unusedSectionVars false
namespace Go.Kg
open Go
section
variable {P : Program} {E : Env} (ht : TyK P E) (hs : SpecFns P E)
include ht hs
end
end Go.Kg

set_option linter.unusedSimpArgs false
set_option linter.unusedVariables false
set_option linter.unusedSectionVars false
namespace Go.Kg
open Go
section
variable {P : Program} {C : Cfg} {ok : TagL → Prop}
end
/-- a part of a text -/
def Ir.rt : Ir → Ir
  | .seq _ b => b
  | c => c
def Ir.lt : Ir → Ir
  | .seq a _ => a
  | c => c
def Ir.inn : Ir → Ir
  | .block _ c => c
  | .loop c => c
  | c => c
end Go.Kg

set_option linter.unusedSimpArgs false
set_option linter.unusedVariables false
namespace Go.Kg
open Go
/-- where what is written stands while tags are written: the cell bd; nothing of 'prot' is touched -/
structure DstAt (E : Env) (base bd : Nat) (w0 : World) (v0 : Value) (prot : Nat → Prop) (s : List UInt8) (w : World) (v : Value) : Prop where
  cell : w.heap[bd]? = some (.cells #[v] E.tBs (0, 0))
  own : OwnB E.tU8 w base v s
  grew : Grew w0 v0 w v
  off : ∀ k, prot k → k < w.heap.size ∧ ¬ own1 v k
theorem ownB_cells {e : Nat} {w : World} {base : Nat} {v : Value} {s : List UInt8} (h : OwnB e w base v s) : v.cells = #[v] ∧ v.oneCell' = true := by
  obtain ⟨n, _, h⟩ := h
  rcases h with ⟨rfl, _⟩ | ⟨g, cap, cur, rfl, _⟩ <;> exact ⟨rfl, rfl⟩
theorem DstAt.step {E : Env} {base bd : Nat} {w0 w w' : World} {v0 v v' : Value} {prot : Nat → Prop} {s out : List UInt8} (hD : DstAt E base bd w0 v0 prot s w v) (hbd : w0.heap.size ≤ bd) (hnp : ¬ prot bd) (hnb : ¬ own1 v bd)
    (ho : OwnB E.tU8 w' base v' (s ++ out)) (hg : Grew w v w' v') :
    w'.heap[bd]? = some (.cells #[v] E.tBs (0, 0)) ∧ DstAt E base bd w0 v0 prot (s ++ out) (w'.setBlk bd (.cells #[v'] E.tBs (0, 0))) v' ∧ ¬ own1 v' bd ∧ ∀ k, prot k → (w'.setBlk bd (.cells #[v'] E.tBs (0, 0))).heap[k]? = w.heap[k]? := by
  have hlt := lt_of_heap hD.cell
  have hc : w'.heap[bd]? = some (.cells #[v] E.tBs (0, 0)) := hg.ext.old hD.cell hnb
  have hnb' : ¬ own1 v' bd := fun h => (hg.own bd h).elim hnb (fun h => by omega)
  have hoff : ∀ k, prot k → k < w'.heap.size ∧ ¬ own1 v' k := fun k hk => ⟨Nat.lt_of_lt_of_le (hD.off k hk).1 hg.ext.size, fun h => (hg.own k h).elim (hD.off k hk).2 (fun h' => by have := (hD.off k hk).1; omega)⟩
  have hG := hD.grew.trans hg
  refine ⟨hc, ⟨setBlk_same hc, Own.ext ho ((Ext.refl (fun x => x = bd) w').setBlk (b := bd) (Or.inr rfl) _) (fun b h e => hnb' (by subst e; exact h)), ⟨hG.ext.setBlk (Or.inl hbd) _, hG.own⟩, by simpa using hoff⟩, hnb', ?_⟩
  intro k hk
  have hne : k ≠ bd := fun e => hnp (by subst e; exact hk)
  rw [setBlk_other hne]
  exact hg.ext.block k (hD.off k hk).1 (hD.off k hk).2
section
variable {P : Program} {E : Env} (ht : TyTg P E)
include ht
theorem c_AE1 (hS : SliI P E.tBs E.tU8 1 1 (.int .u8 0)) (hi : intKind? P E.tU32 = some .u32) (hi' : intKind? P E.tInt = some .i64) (hI : FnIs P E.f_pkmsg_Tags_AppendEach_1 nt_pkmsg_Tags_AppendEach_1 (rs_pkmsg_Tags_AppendEach_1 E) (ir_pkmsg_Tags_AppendEach_1 E))
    (hU : ∀ n : Nat, n < 4294967296 → WrC P E.tU8 E.f_kbin_AppendUvarint [.int .u32 n] (uvOut n))
    {base bd : Nat} {w0 w : World} {v0 v val : Value} {prot : Nat → Prop} {s : List UInt8} {x : Nat × List UInt8} {K : Nat → Prop}
    (hD : DstAt E base bd w0 v0 prot s w v) (hbd : w0.heap.size ≤ bd) (hb : base ≤ w0.heap.size) (hnp : ¬ prot bd) (hnb : ¬ own1 v bd) (hx : x.1 < 4294967296) (hxl : x.2.length < 4294967296) (hv : BytesAt w K val x.2) (hK : ∀ k, K k → k < base) (hsz : s.length + (tagW x).length ≤ 1099511627776) :
    Ret P E.f_pkmsg_Tags_AppendEach_1 #[.int .u32 x.1, val, .pointer (some ⟨bd, 0, none⟩)] w fun _ w' => ∃ v', DstAt E base bd w0 v0 prot (s ++ tagW x) w' v' ∧ ¬ own1 v' bd ∧ ∀ k, prot k → w'.heap[k]? = w.heap[k]? := by
  have hbdlt := lt_of_heap hD.cell
  have hxu : uvOut x.1 ++ uvOut x.2.length ++ x.2 = tagW x := by simp [tagW, Nat.mod_eq_of_lt hxl]
  have hsz' : s.length + ((uvOut x.1).length + (uvOut x.2.length).length + x.2.length) ≤ 1099511627776 := by rw [← hxu] at hsz; simp only [List.length_append] at hsz; omega
  refine hI.call (args := [_, _, _]) (by simp [nt_pkmsg_Tags_AppendEach_1]) ?_
  have c0 : w.cell? ⟨bd, 0, none⟩ = some v := by rw [cell_of_blk hD.cell]; rfl
  have hsw : base ≤ w.heap.size := Nat.le_trans hb hD.grew.size
  simp [ir_pkmsg_Tags_AppendEach_1, rs_pkmsg_Tags_AppendEach_1, ld_scl ht.kBs, c0]
  refine (hU x.1 hx w base v s hD.own hsw (by omega)).mono ?_
  rintro v1 w1 ⟨ho1, hg1⟩
  obtain ⟨hc1, hD1, hn1, hp1⟩ := hD.step hbd hnp hnb ho1 hg1
  have hva : BytesAt w1 K val x.2 := hv.ext hg1.ext (fun b _ hk h => by have := (Own.below hD.own h).1; have := hK b hk; omega)
  simp [store_scl ht.kBs, (ownB_cells ho1).2, put1K_blk hc1]
  generalize hw1' : w1.setBlk bd (.cells #[v1] E.tBs (0, 0)) = w1' at *
  have hva1 : BytesAt w1' K val x.2 := by subst hw1'; exact hva.ext ((Ext.refl (fun k => k = bd) w1).setBlk (b := bd) (Or.inr rfl) _) (fun b _ hk e => by have := hK b hk; omega)
  have c1 : w1'.cell? ⟨bd, 0, none⟩ = some v1 := by rw [cell_of_blk hD1.cell]; rfl
  obtain ⟨a, c, rfl, _⟩ := hva1.len
  have hw32 : IntKind.u32.wrap (x.2.length : Int) = (x.2.length : Int) := by simp [IntKind.wrap, IntKind.signed, IntKind.bits]; omega
  have uBs := hS.und
  simp [ld_scl ht.kBs, c1, len_slice uBs, hi, hi', hw32]
  refine (hU x.2.length hxl w1' base v1 _ hD1.own (Nat.le_trans hb hD1.grew.size) (by simp; omega)).mono ?_
  rintro v2 w2 ⟨ho2, hg2⟩
  obtain ⟨hc2, hD2, hn2, hp2⟩ := hD1.step hbd hnp hn1 ho2 hg2
  have hvb : BytesAt w2 K (.slice a x.2.length c) x.2 := hva1.ext hg2.ext (fun b _ hk h => by have := (Own.below hD1.own h).1; have := hK b hk; omega)
  simp [store_scl ht.kBs, (ownB_cells ho2).2, put1K_blk hc2]
  generalize hw2' : w2.setBlk bd (.cells #[v2] E.tBs (0, 0)) = w2' at *
  have hvb1 : BytesAt w2' K (.slice a x.2.length c) x.2 := by subst hw2'; exact hvb.ext ((Ext.refl (fun k => k = bd) w2).setBlk (b := bd) (Or.inr rfl) _) (fun b _ hk e => by have := hK b hk; omega)
  have c2 : w2'.cell? ⟨bd, 0, none⟩ = some v2 := by rw [cell_of_blk hD2.cell]; rfl
  simp [ld_scl ht.kBs, c2]
  refine st_app_bytes hS (by simp) hD2.own (Nat.le_trans hb hD2.grew.size) (by simpa using hvb1) (by simp; omega) ?_
  intro v3 w3 ho3 hg3
  obtain ⟨hc3, hD3, hn3, hp3⟩ := hD2.step hbd hnp hn2 ho3 hg3
  simp [store_scl ht.kBs, (ownB_cells ho3).2, put1K_blk hc3]
  refine ⟨v3, ?_, hn3, fun k hk => ?_⟩
  · rw [← hxu]; simpa [List.append_assoc] using hD3
  · rw [hp3 k hk, hp2 k hk, hp1 k hk]
end
end Go.Kg
