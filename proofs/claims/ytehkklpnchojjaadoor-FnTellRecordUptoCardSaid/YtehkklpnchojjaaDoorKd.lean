/- What is proved here: how the code of the messages runs, in general: a semantics of calls by their texts, and contracts of the functions of kbin and of the reference. No condition but those that each theorem names. -/
import Derived.Lib.AppendZerosOnto
import Derived.ProofKit
import Derived.WideKeyArgs
import Derived.ChangeSlices
import Derived.OpenShut
import Derived.RowKit
import Derived.Test.YtehkklpnchojjaaDoorKc
set_option linter.unusedSectionVars false
set_option linter.unusedSimpArgs false
set_option linter.unusedVariables false
set_option linter.unusedSimpArgs false
set_option linter.unusedVariables false
set_option linter.unusedSectionVars false
namespace Go.Kg
open Go
def NullC (P : Program) (V : EnvV) : Prop := ∀ w K n d o, OcAt w K n d o → (o.getD []).length ≤ 1099511627776 → Ret P V.f_impl_null #[.agg #[n, d]] w fun v' w' => BytesOpt w' (NewB w) v' o ∧ Ext none1 w w'
def OwnC (P : Program) (E : Env) (V : EnvV) : Prop := ∀ w K v s, BytesAt w K v s → s.length ≤ 1099511627776 → Ret P V.f_impl_own #[v] w fun v' w' => Fresh E.tU8 w v' w' s
def krCells (r : RecV) (kv vv : Value) : Array Value := #[.int .i32 r.len, .int .i8 r.attr, .int .i32 0, .int .i64 r.delta, .int .i32 r.off, kv, vv, .slice none 0 0]
def MkInv (V : EnvV) (r : RecV) (kv vv hv0 : Value) (w : World) (b5 : Nat) (f : Nat → Value) (w' : World) : Prop :=
  ∃ i hv xs, i ≤ r.hs.length ∧ f 0 = .slice none 0 0 ∧ f 5 = .pointer (some ⟨b5, 0, none⟩) ∧ f 25 = hv0 ∧ f 26 = .int .i64 r.hs.length ∧ f 27 = .int .i64 i ∧
    GrowAt V.t_kmsg_Header 2 (fun w K p => KHd w K p.1 p.2) (KvT kv vv r.key r.val) w w' b5 (krCells r kv vv) V.t_kmsg_Record 7 (r.hs.take i) hv xs
def AppC (P : Program) (E : Env) (V : EnvV) : Prop := ∀ w base v s b cs r,
    w.heap[b]? = some (.cells cs.toArray V.t_kmsg_Record (0, 0)) → KRec w (· < base) cs r → b < base → r.fit → OwnB E.tU8 w base v s → base ≤ w.heap.size → s.length + (recW r).length ≤ 1099511627776 →
    Ret P V.f_pkmsg_Record_AppendTo #[.pointer (some ⟨b, 0, none⟩), v] w fun v' w' => OwnB E.tU8 w' base v' (s ++ recW r) ∧ Grew w v w' v'
def mkTail (E : Env) (V : EnvV) : HT :=
  .act ⟨none, some 43, .call { callee := .builtin .append, args := #[.tmp 35, .tmp 42], argTypes := #[V.t_l_kmsg_Header, V.t_l_kmsg_Header] }, V.t_l_kmsg_Header⟩
    (.free ⟨none, some 44, .nilCheck (.tmp 31), E.tNil⟩ (.free ⟨none, some 45, .fieldAddr V.t_kmsg_Record (.tmp 44) 7, E.tNil⟩ (.act ⟨none, none, .store V.t_l_kmsg_Header (.tmp 45) (.tmp 43), E.tNil⟩ .done .stop))) .stop
def mk40 (E : Env) (V : EnvV) (r alt : HT) : HT := .act ⟨none, some 40, .call { callee := .value (.func V.f_impl_null), args := #[.tmp 39], argTypes := #[V.t_impl_Octets] }, E.tBs⟩ (.free ⟨none, some 41, .build V.t_kmsg_Header #[(0, .tmp 37), (1, .tmp 40)], V.t_kmsg_Header⟩ r) alt
def mk42 (V : EnvV) (r alt : HT) : HT := .act ⟨none, some 42, .buildSlice V.t_l_kmsg_Header 1 #[(0, .tmp 41)], V.t_l_kmsg_Header⟩ r alt
def mk35 (V : EnvV) (r alt : HT) : HT := .act ⟨none, some 35, .load V.t_l_kmsg_Header (.tmp 34), V.t_l_kmsg_Header⟩ r alt
def mkA (E : Env) (V : EnvV) : HT := mk40 E V (mk42 V (mkTail E V) .stop) .stop
def mkB (E : Env) (V : EnvV) : HT := mk40 E V (mk35 V (mk42 V (mkTail E V) .stop) (mk42 V (mk35 V (mkTail E V) .stop) .stop)) .stop
def mkTree (E : Env) (V : EnvV) : HT :=
  .free ⟨none, some 31, .move (.tmp 5), V.t_pkmsg_Record⟩ (.free ⟨none, some 32, .move (.tmp 5), V.t_pkmsg_Record⟩ (.free ⟨none, some 33, .nilCheck (.tmp 32), E.tNil⟩ (.free ⟨none, some 34, .fieldAddr V.t_kmsg_Record (.tmp 33) 7, E.tNil⟩
    (.free ⟨none, some 36, .fieldAddr V.t_impl_Header (.tmp 7) 0, E.tNil⟩ (.free ⟨none, some 37, .load E.tS (.tmp 36), E.tS⟩ (.free ⟨none, some 38, .fieldAddr V.t_impl_Header (.tmp 7) 1, E.tNil⟩ (.free ⟨none, some 39, .load V.t_impl_Octets (.tmp 38), V.t_impl_Octets⟩
      (mk35 V (mkA E V) (mkB E V)))))))))
section
variable {P : Program} {E : Env} {V : EnvV} (ht : TyV P E V)
include ht
theorem c_mkTail {R : World → (Nat → Prop) → List Value × HdV → Prop} {T : World → (Nat → Prop) → Unit → Prop} (hR : Stays R) (hT : Stays T) {S : World → Prop} {Q : (Nat → Value) → World → Prop} {w w6 wb : World} {b5 nb b7 : Nat} {cur : Array Value} {hs : List HdV} {hv : Value} {xs : List Value} {cs : List Value} {x : HdV} {H : Obj} {f : Nat → Value}
    (G : GrowAt V.t_kmsg_Header 2 R T w w6 b5 cur V.t_kmsg_Record 7 hs hv xs) (hc8 : 7 < cur.size) (he : Ext none1 w6 wb) (hS : ∀ w', w'.heap[b7]? = some H → S w') (h7 : w6.heap[b7]? = some H) (h75 : b7 ≠ b5) (h7o : ¬ own1 hv b7)
    (f31 : f 31 = .pointer (some ⟨b5, 0, none⟩)) (f35 : f 35 = hv) (f42 : f 42 = .slice (some ⟨nb, 0, none⟩) 1 1) (hnb : CellsAt wb nb 0 cs) (hl : cs.length = 2) (h1 : ∀ u ∈ cs, u.oneCell' = true) (hx : R wb (fun b => w6.heap.size ≤ b) (cs, x)) (hmx : hs.length ≤ 1000000)
    (q : ∀ f' v' w', (∀ k, k < 42 → f' k = f k) → GrowAt V.t_kmsg_Header 2 R T w w' b5 cur V.t_kmsg_Record 7 (hs ++ [x]) v' (xs ++ cs) → Q f' w') : (mkTail E V).cw P S Q f wb := by
  simp only [mkTail, ht_act, ht_free, ht_stop, and_true]
  have hxl : xs.length = hs.length * 2 := G.row.1
  refine st_append ht.sK (by omega) (x := .tmp 35) (y := .tmp 42) (base := w.heap.size) (xs := xs) ?_ (ad := some ⟨nb, 0, none⟩) (m := 1) (c := 1) (news := cs) ?_ (by omega) (by simp) ?_ h1 (by simp only [maxLen]; omega) (by omega) (Nat.le_trans G.ext.size he.size) ?_
  · rw [evF_tmp, f35]; exact Own.ext G.own he (fun _ _ h => h)
  · rw [evF_tmp, f42]
  · intro a ha j u hj
    cases ha
    rw [Addr.add_mk]
    exact hnb j u hj
  intro v' w' ho hg
  rw [evF_tmp, f35] at hg
  obtain ⟨hb2, G2⟩ := G.step hR hT he hl hx ho hg
  have hb7 : w'.heap[b7]? = some H := hg.ext.old (he.old h7 (fun h => h)) h7o
  have hv1 : v'.oneCell' = true := by
    obtain ⟨n, _, h | ⟨g, cap, cur', h, _⟩⟩ := ho
    · rw [h.1]; rfl
    · rw [h]; rfl
  refine ⟨hS _ hb7, ?_⟩
  simp [f31, ht.kr7, Addr.add_mk, store_scl ht.kLK, put1K_blk hb2, hv1, hc8]
  refine ⟨hS _ (by rw [setBlk_other h75]; exact hb7), ?_⟩
  refine q _ v' _ ?_ G2
  intro k hk
  simp [show ¬ k = 43 by omega, show ¬ k = 44 by omega, show ¬ k = 45 by omega]
theorem c_mkTree (hN : NullC P V) {T : World → (Nat → Prop) → Unit → Prop} (hT : Stays T) {Q : (Nat → Value) → World → Prop} {w w6 : World} {b5 b7 : Nat} {cur : Array Value} {hs : List HdV} {hv : Value} {xs : List Value} {x : HdV} {n d : Value} {K : Nat → Prop} {f : Nat → Value}
    (G : GrowAt V.t_kmsg_Header 2 (fun w K p => KHd w K p.1 p.2) T w w6 b5 cur V.t_kmsg_Record 7 hs hv xs) (hc8 : 7 < cur.size) (h7 : w6.heap[b7]? = some (.cells #[strV x.1, n, d] V.t_impl_Header (0, 0))) (h75 : b7 ≠ b5) (h7o : ¬ own1 hv b7)
    (f5 : f 5 = .pointer (some ⟨b5, 0, none⟩)) (f7 : f 7 = .pointer (some ⟨b7, 0, none⟩)) (ho : OcAt w6 K n d x.2) (hlx : (x.2.getD []).length ≤ 1099511627776) (hmx : hs.length ≤ 1000000)
    (q : ∀ f' v' w' cs, (∀ k, k < 31 → f' k = f k) → GrowAt V.t_kmsg_Header 2 (fun w K p => KHd w K p.1 p.2) T w w' b5 cur V.t_kmsg_Record 7 (hs ++ [x]) v' (xs ++ cs) → Q f' w') :
    (mkTree E V).cw P (fun w' => w'.heap[b7]? = some (.cells #[strV x.1, n, d] V.t_impl_Header (0, 0))) Q f w6 := by
  have c7 : ∀ w', Ext none1 w6 w' → w'.cell? ⟨b5, 7, none⟩ = some hv := fun w' he => by rw [cell_of_blk (he.old G.blk (fun h => h))]; simp [hc8]
  have r0 : ∀ w' : World, w'.heap[b7]? = some (.cells #[strV x.1, n, d] V.t_impl_Header (0, 0)) → w'.cell? ⟨b7, 0, none⟩ = some (strV x.1) := fun w' h => by rw [cell_of_blk h]; rfl
  have r1 : ∀ w' : World, w'.heap[b7]? = some (.cells #[strV x.1, n, d] V.t_impl_Header (0, 0)) → cellsFrom w' ⟨b7, 1, none⟩ 0 2 = some [n, d] := fun w' h => cellsFrom_blk h 1 2 (by simp)
  have hx0 := Ext.refl none1 w6
  -- behind null
  have fin : ∀ (f' : Nat → Value) (w8 : World) dv, Ext none1 w6 w8 → BytesOpt w8 (NewB w6) dv x.2 → (∀ k, k < 31 → f' k = f k) → f' 31 = .pointer (some ⟨b5, 0, none⟩) → f' 35 = hv → f' 42 = .slice (some ⟨w8.heap.size, 0, none⟩) 1 1 →
      (mkTail E V).cw P (fun w' => w'.heap[b7]? = some (.cells #[strV x.1, n, d] V.t_impl_Header (0, 0))) Q f' (w8.alloc (.cells #[strV x.1, dv] V.t_kmsg_Header)) := by
    intro f' w8 dv he8 hdv hk31 g31 g35 g42
    have ha : Ext none1 w8 (w8.alloc (.cells #[strV x.1, dv] V.t_kmsg_Header)) := (Ext.refl _ _).alloc _
    obtain ⟨a1, c1, hdvs, _⟩ := (BytesOpt.bytes ht.rs hdv).len
    refine c_mkTail ht stays_KHd hT (cs := [strV x.1, dv]) (x := x) (H := .cells #[strV x.1, n, d] V.t_impl_Header (0, 0)) G hc8 (he8.trans ha) (fun w' h => h) h7 h75 h7o g31 g35 g42 ?_ rfl ?_ ⟨dv, rfl, BytesOpt.extV hdv ha (by simp [none1])⟩ hmx ?_
    · intro j u hj
      rw [cell_of_blk alloc_new]
      simpa using hj
    · intro u hu
      simp at hu
      rcases hu with rfl | rfl
      · rfl
      · rw [hdvs]; rfl
    · intro f2 v' w' hk2 G2
      exact q f2 v' w' _ (fun k hk => (hk2 k (by omega)).trans (hk31 k hk)) G2
  have nul : ∀ w7, Ext none1 w6 w7 → Ret P V.f_impl_null #[.agg #[n, d]] w7 fun v' w' => BytesOpt w' (NewB w6) v' x.2 ∧ Ext none1 w7 w' := fun w7 he => (hN w7 K n d x.2 (ho.ext he (by simp [none1])) hlx).mono (fun v' w' h => ⟨BytesOpt.mono (fun b hb => Nat.le_trans he.size hb) h.1, h.2⟩)
  have key : ∀ g : Nat → Value, (∀ k, k < 31 → g k = f k) → g 31 = .pointer (some ⟨b5, 0, none⟩) → g 34 = .pointer (some ⟨b5, 7, none⟩) → g 37 = strV x.1 → g 39 = .agg #[n, d] →
      (mk35 V (mkA E V) (mkB E V)).cw P (fun w' => w'.heap[b7]? = some (.cells #[strV x.1, n, d] V.t_impl_Header (0, 0))) Q g w6 := by
    intro g gk g31 g34 g37 g39
    have s42 : ∀ (a : Option Addr) (m c : Nat) (w8 : World) (g' : Nat → Value) (ty : TypeId) (K' : Value → World → Prop), g' 41 = .agg #[strV x.1, .slice a m c] →
        stepF P g' (.buildSlice V.t_l_kmsg_Header 1 #[(0, .tmp 41)]) ty w8 K' = K' (.slice (some ⟨w8.heap.size, 0, none⟩) 1 1) (w8.alloc (.cells #[strV x.1, .slice a m c] V.t_kmsg_Header)) := by
      intro a m c w8 g' ty K' h
      rw [st_bsl (parts := #[(0, Operand.tmp 41)]) (n := 1) ht.sK (by omega) rfl rfl (by omega) (by omega) (by simp [allSz, h, Value.cells])]
      simp [flat, h, Value.cells]
    simp only [mk35, ht_act]
    refine ⟨?_, ?_⟩
    · -- the load comes first
      simp [g34, ld_scl ht.kLK, c7 w6 hx0, h7]
      simp only [mkA, mk40, mk42, ht_act, ht_stop, and_true]
      simp [g39]
      refine (nul w6 hx0).mono ?_
      rintro dv w8 ⟨hdv, he8⟩
      obtain ⟨a1, c1, hdvs, _⟩ := (BytesOpt.bytes ht.rs hdv).len
      subst hdvs
      have h78 := he8.old h7 (fun h => h)
      simp [h78, g37, bld_kh ht]
      rw [s42 a1 (x.2.getD []).length c1 _ _ _ _ (by simp)]
      refine ⟨((Ext.refl none1 w8).alloc _).old h78 (fun h => h), ?_⟩
      exact fin _ w8 _ he8 hdv (fun k hk => by simp [show ¬ k = 35 by omega, show ¬ k = 40 by omega, show ¬ k = 41 by omega, show ¬ k = 42 by omega, gk k hk]) (by simp [g31]) (by simp) (by simp)
    · simp only [mkB, mk40, ht_act, ht_stop, and_true]
      simp [g39]
      refine (nul w6 hx0).mono ?_
      rintro dv w8 ⟨hdv, he8⟩
      obtain ⟨a1, c1, hdvs, _⟩ := (BytesOpt.bytes ht.rs hdv).len
      subst hdvs
      have h78 := he8.old h7 (fun h => h)
      simp [h78, g37, bld_kh ht]
      simp only [mk35, mk42, ht_act, ht_stop, and_true]
      refine ⟨?_, ?_⟩
      · simp [g34, ld_scl ht.kLK, c7 w8 he8, h78]
        rw [s42 a1 (x.2.getD []).length c1 _ _ _ _ (by simp)]
        refine ⟨((Ext.refl none1 w8).alloc _).old h78 (fun h => h), ?_⟩
        exact fin _ w8 _ he8 hdv (fun k hk => by simp [show ¬ k = 35 by omega, show ¬ k = 40 by omega, show ¬ k = 41 by omega, show ¬ k = 42 by omega, gk k hk]) (by simp [g31]) (by simp) (by simp)
      · simp
        rw [s42 a1 (x.2.getD []).length c1 _ _ _ _ (by simp)]
        have h79 := ((Ext.refl none1 w8).alloc (.cells #[strV x.1, .slice a1 (x.2.getD []).length c1] V.t_kmsg_Header)).old h78 (fun h => h)
        refine ⟨h79, ?_⟩
        simp [g34, ld_scl ht.kLK, c7 _ (he8.trans ((Ext.refl none1 w8).alloc _)), h79]
        exact fin _ w8 _ he8 hdv (fun k hk => by simp [show ¬ k = 35 by omega, show ¬ k = 40 by omega, show ¬ k = 41 by omega, show ¬ k = 42 by omega, gk k hk]) (by simp [g31]) (by simp) (by simp)
  simp only [mkTree]
  generalize hA : mk35 V (mkA E V) (mkB E V) = A at key ⊢
  simp +contextual [f5, f7, ht.kr7, ht.ih0, ht.ih1, Addr.add_mk, ld_scl ht.rs.kS, ld_agg ht.kOc, r0, r1, r0 w6 h7, r1 w6 h7]
  refine key _ ?_ ?_ ?_ ?_ ?_
  · intro k hk
    simp [show ¬ k = 31 by omega, show ¬ k = 32 by omega, show ¬ k = 33 by omega, show ¬ k = 34 by omega, show ¬ k = 36 by omega, show ¬ k = 37 by omega, show ¬ k = 38 by omega, show ¬ k = 39 by omega]
  all_goals simp
end
section
variable {P : Program} {E : Env} {V : EnvV} (ht : TyV P E V)
include ht
set_option maxHeartbeats 1000000 in
theorem c_Make (hI : FnIs P V.f_impl_MakeRecord nt_impl_MakeRecord (rs_impl_MakeRecord E V) (ir_impl_MakeRecord E V)) (hN : NullC P V) (hOw : OwnC P E V) (hA : AppC P E V) : ∀ w K cs r, IRec w K cs r → r.fit → (recW r).length ≤ 1099511627776 → r.hs.length ≤ 1000000 →
    Ret P V.f_impl_MakeRecord #[.slice none 0 0, .agg cs.toArray] w fun v' w' => BytesAt w' All v' (recW r) ∧ Ext none1 w w' := by
  intro w K cs r hr hfit hsz hmx
  have hr0 := hr
  obtain ⟨kn, kd, vn, vd, hv0, rfl, hk, hvl, hh⟩ := hr0
  refine hI.call (args := [_, _]) (by simp [nt_impl_MakeRecord]) ?_
  generalize hcur : [Value.int .i32 r.len, .int .i8 r.attr, .int .i64 r.delta, .int .i32 r.off, kn, kd, vn, vd, hv0] = cs at hr ⊢
  have hcc : (Value.agg cs.toArray).cells = cs.toArray := rfl
  have hcl : cs.length = 9 := by rw [← hcur]; rfl
  simp only [ir_impl_MakeRecord, rs_impl_MakeRecord, cw_seq]
  simp [hcc]
  generalize hw1 : w.alloc (.cells cs.toArray V.t_impl_Record) = w1
  obtain ⟨hE, hb1⟩ := box_rec hw1
  have hD := (Ext.refl none1 w1).drew
  have q : ∀ (i : Nat) u, cs[i]? = some u → ∀ w', Ext none1 w1 w' → w'.cell? ⟨w.heap.size, i, none⟩ = some u := fun i u hu w' he => by rw [cell_of_blk (he.old hb1 (fun h => h))]; simpa using hu
  have hr1 := Ext.refl none1 w1
  have q0 := q 0 _ (by rw [← hcur]; rfl)
  have q1 := q 1 _ (by rw [← hcur]; rfl)
  have q2 := q 2 _ (by rw [← hcur]; rfl)
  have q3 := q 3 _ (by rw [← hcur]; rfl)
  have q8 := q 8 hv0 (by rw [← hcur]; rfl)
  have x4 : ∀ w', Ext none1 w1 w' → cellsFrom w' ⟨w.heap.size, 4, none⟩ 0 2 = some [kn, kd] := fun w' he => by rw [cellsFrom_blk (he.old hb1 (fun h => h)) 4 2 (by simp [hcl]), ← hcur]; rfl
  have x6 : ∀ w', Ext none1 w1 w' → cellsFrom w' ⟨w.heap.size, 6, none⟩ 0 2 = some [vn, vd] := fun w' he => by rw [cellsFrom_blk (he.old hb1 (fun h => h)) 6 2 (by simp [hcl]), ← hcur]; rfl
  have hkl := hfit.key
  have hvl' := hfit.val
  have hnl := hfit.hn
  refine cw_then (fun f w4 => ∃ b5 kv vv, f 0 = .slice none 0 0 ∧ f 3 = .pointer (some ⟨w.heap.size, 0, none⟩) ∧ f 5 = .pointer (some ⟨b5, 0, none⟩) ∧ Ext none1 w1 w4 ∧
    GrowAt V.t_kmsg_Header 2 (fun w K p => KHd w K p.1 p.2) (KvT kv vv r.key r.val) w w4 b5 (krCells r kv vv) V.t_kmsg_Record 7 [] (.slice none 0 0) []) ?_ ?_
  · refine cw_regH (Ext none1 w1) hD ?_
    simp +contextual [ht.ir0, ht.ir1, ht.ir2, ht.ir3, ht.ir4, ht.ir5, Addr.add_mk, ld_scl ht.kI32, ld_scl ht.kI8, ld_scl ht.kI64, ld_agg ht.kOc, q0, q1, q2, q3, x4, x6, q0 w1 hr1, q1 w1 hr1, q2 w1 hr1, q3 w1 hr1, x4 _ hD, x6 _ hD]
    refine (hN w1.drew K kn kd r.key (hk.ext (hE.trans hD) (by simp [none1])) (by omega)).mono ?_
    rintro kv w2 ⟨hkv, he2⟩
    have hD2 := hD.trans he2
    refine ⟨hD2, ?_⟩
    refine (hN w2 K vn vd r.val (hvl.ext (hE.trans hD2) (by simp [none1])) (by omega)).mono ?_
    rintro vv w3 ⟨hvv, he3⟩
    have hD3 := hD2.trans he3
    refine ⟨hD3, ?_⟩
    obtain ⟨a1, c1, h1, _⟩ := (BytesOpt.bytes ht.rs hkv).len
    obtain ⟨a2, c2, h2, _⟩ := (BytesOpt.bytes ht.rs hvv).len
    subst h1
    subst h2
    simp [bld_kr ht]
    refine ⟨hD3.alloc _, ?_⟩
    have hcc2 : ∀ l : Array Value, (Value.agg l).cells = l := fun _ => rfl
    simp only [hcc2]
    have hE4 : Ext none1 w w3 := hE.trans hD3
    have hkv3 : BytesOpt w3 (NewB w1.drew) (.slice a1 (r.key.getD []).length c1) r.key := BytesOpt.extV hkv he3 (by simp [none1])
    have hT3 : KvT (.slice a1 (r.key.getD []).length c1) (.slice a2 (r.val.getD []).length c2) r.key r.val w3 All () := ⟨BytesOpt.mono (fun _ _ => trivial) hkv3, BytesOpt.mono (fun _ _ => trivial) hvv⟩
    exact ⟨_, _, GrowAt.start stays_KvT hE4 hT3 rfl⟩
  rintro f w4 ⟨b5, kv, vv, f0, f3, f5, hE4, G⟩
  obtain ⟨ah, ch, rfl, _⟩ := hh.len
  rw [cw_seq]
  refine cw_then (fun f w5 => ∃ hv xs, f 0 = .slice none 0 0 ∧ f 5 = .pointer (some ⟨b5, 0, none⟩) ∧ GrowAt V.t_kmsg_Header 2 (fun w K p => KHd w K p.1 p.2) (KvT kv vv r.key r.val) w w5 b5 (krCells r kv vv) V.t_kmsg_Record 7 r.hs hv xs) ?_ ?_
  · simp [f3, ht.ir6, Addr.add_mk, ld_scl ht.kLI, q8 w4 hE4, len_slice ht.sI.und]
    refine cw_loop (MkInv V r kv vv (.slice ah r.hs.length ch) w b5) (fun f _ => match f 27 with | .int _ i => ((r.hs.length : Int) - i).toNat | _ => 0)
      ⟨0, _, _, by omega, by simp [f0], by simp [f5], by simp, by simp, by simp, by simpa using G⟩ ?_
    rintro f w5 ⟨i, hv, xs, hi, f0, f5, f25, f26, f27, G⟩
    simp [f26, f27]
    by_cases hlt : i < r.hs.length
    rotate_left
    · refine cw_false (by simp; omega) ?_
      simp
      have : i = r.hs.length := by omega
      subst this
      exact ⟨by simp [f0], by simp [f5], hv, xs, by simpa using G⟩
    refine cw_true (by simp; omega) ?_
    obtain ⟨x, hx⟩ : ∃ x, r.hs[i]? = some x := ⟨_, List.getElem?_eq_getElem hlt⟩
    obtain ⟨bb, oo, cc, cs2, hvv, _, _, hcl2, hcx0, hrel⟩ := hh.get hx
    cases hvv
    have hcx := cellsFrom_list0 (hcx0.extV (C := none1) G.ext (fun _ h => h))
    rw [hcl2] at hcx
    have hrel3 := hrel.ext G.ext (by simp [none1])
    have hrel0 := hrel
    obtain ⟨n, d, rfl, b, l, rfl, hd, hol⟩ := hrel0
    obtain ⟨ad, cd, rfl, _⟩ := hd.len
    have ho2 : allOne [strV x.1, .bool b, .slice ad l.length cd] = true := rfl
    simp [f27, f25, idx?, ht.sI.siz, hlt, Addr.add_mk, ld_agg ht.kIH, hcx, ht.zIH, hd_zc, store_agg ht.kIH, ho2, putK_blk alloc_new, hd_over]
    generalize hw6 : (w5.alloc (.cells #[.string ⟨#[]⟩, .bool false, .slice none 0 0] V.t_impl_Header)).setBlk w5.heap.size (.cells #[strV x.1, .bool b, .slice ad l.length cd] V.t_impl_Header (0, 0)) = w6
    obtain ⟨hx6, hb6⟩ := put_new hw6
    have G6 := G.post stays_KHd stays_KvT hx6
    have hD6 := (Ext.refl none1 w6).drew
    have GD := G6.post stays_KHd stays_KvT hD6
    have hb5 : b5 < w5.heap.size := lt_of_heap G.blk
    have hxf := hfit.hs x (List.mem_of_getElem? hx)
    have hwr : IntKind.i64.wrap ((i : Int) + 1) = (i : Int) + 1 := i64_small (by omega) (by omega)
    refine cw_regT (t := mkTree E V) (fun w' => w'.heap[w5.heap.size]? = some (.cells #[strV x.1, .bool b, .slice ad l.length cd] V.t_impl_Header (0, 0))) hb6 ?_
    refine c_mkTree ht hN stays_KvT (b7 := w5.heap.size) (x := x) (n := .bool b) (d := .slice ad l.length cd) (K := K) GD (by simp [krCells]) hb6 (by omega) (fun ho => by have := (Own.below G.own ho).2; omega) (by simp [f5]) (by simp) ⟨b, l, rfl, hd.ext ((G.ext.trans hx6).trans hD6) (by simp [none1]), hol⟩ (by have := hxf.2; omega) (by simp; omega) ?_
    intro f' v' w' cs' hk' G'
    simp [hk' 27 (by omega), hk' 26 (by omega), hk' 25 (by omega), f27]
    refine ⟨⟨i + 1, v', xs ++ cs', by omega, by simp [hk' 0 (by omega), f0], by simp [hk' 5 (by omega), f5], by simp [hk' 25 (by omega), f25], by simp [hk' 26 (by omega), f26], by simp [hwr], ?_⟩, by rw [hwr]; omega⟩
    rw [List.take_add_one, hx]
    simpa using G'
  rintro f w5 ⟨hv, xs, f0, f5, G⟩
  simp [f0, f5]
  refine (hOw w5 All (.slice none 0 0) [] (.inl ⟨⟨_, rfl⟩, rfl⟩) (by simp)).mono ?_
  rintro v w6 hf
  have hblk : w6.heap[b5]? = some (.cells [Value.int .i32 r.len, .int .i8 r.attr, .int .i32 0, .int .i64 r.delta, .int .i32 r.off, kv, vv, hv].toArray V.t_kmsg_Record (0, 0)) := hf.2.old G.blk (fun h => h)
  have hls := LsAt.mono (G.ls (by omega)) (K' := fun b => b < w5.heap.size) (R' := KHd w5 (fun b => b < w5.heap.size)) (fun b hb => hb.2) (fun cs x h => h.mono (fun b hb => hb.1))
  have hls6 := LsAt.ext (R := fun w => KHd w (fun b => b < w5.heap.size)) (by omega) hls hf.2 (fun cs x h => h.ext hf.2 (by simp [none1])) (by simp [none1])
  refine (hA w6 w5.heap.size v [] b5 _ r hblk ⟨⟨0, kv, vv, hv, rfl, BytesOpt.extV (BytesOpt.mono (fun b hb => hb.1) G.oth.1) hf.2 (by simp [none1]), BytesOpt.extV (BytesOpt.mono (fun b hb => hb.1) G.oth.2) hf.2 (by simp [none1]), hls6, fun _ => rfl⟩⟩ (lt_of_heap G.blk) hfit hf.1 hf.2.size (by simpa using hsz)).mono ?_
  rintro v' w7 ⟨o7, g7⟩
  have hfr := Fresh.grow hf o7 g7
  exact ⟨by simpa using own_bytes o7, G.ext.trans hfr.2⟩
end
end Go.Kg

set_option linter.unusedSimpArgs false
set_option linter.unusedVariables false
namespace Go.Kg
open Go
/-- u: the numbers of the readers that are 'unsafe' (String, CompactString, NullableString, CompactNullableString). rs: where the reader stands. -/
structure CfgR extends Cfg where
  rs : Nat
  u : Nat × Nat × Nat × Nat
end Go.Kg

set_option linter.unusedSimpArgs false
set_option linter.unusedVariables false
set_option linter.unusedSectionVars false
namespace Go.Kg
open Go
/-- the cells of a struct within a block -/
def segL (c : Array Value) (a n : Nat) : List Value := (c.toList.drop a).take n
theorem segL_get {c : Array Value} {a n j : Nat} (h : j < n) : (segL c a n)[j]? = c[a + j]? := by simp [segL, List.getElem?_take, h, List.getElem?_drop]
structure Rdr where
  pb : Nat
  D : Nat
  base : Nat
  ev : Value
def RK (R : Rdr) (k : Nat) : Prop := k = R.D ∨ R.base ≤ k
def CB (R : Rdr) (b k : Nat) : Prop := k = R.pb ∨ k = b
structure RW (C : CfgR) (R : Rdr) (b : Nat) (w : World) : Prop where
  lt : R.pb < R.base ∧ b < R.base ∧ R.D < R.base ∧ R.base ≤ w.heap.size
  ne : R.pb ≠ R.D ∧ b ≠ R.D ∧ R.pb ≠ b
  err : w.cell? ⟨C.E.g_kbin_ErrNotEnoughData, 0, none⟩ = some R.ev
  errN : C.E.g_kbin_ErrNotEnoughData ≠ R.pb ∧ C.E.g_kbin_ErrNotEnoughData ≠ b
section
variable {P : Program} {C : CfgR} {R : Rdr}
theorem RW.ext {b : Nat} {w w' : World} (h : RW C R b w) (he : Ext (CB R b) w w') : RW C R b w' :=
  ⟨⟨h.lt.1, h.lt.2.1, h.lt.2.2.1, Nat.le_trans h.lt.2.2.2 he.size⟩, h.ne, he.cell h.err (by rintro (h1 | h1); exact h.errN.1 h1; exact h.errN.2 h1), h.errN⟩
theorem RW.keepK {b : Nat} {w : World} (h : RW C R b w) : ∀ k, k < w.heap.size → RK R k → ¬ CB R b k := by
  obtain ⟨⟨h1, h2, h3, h4⟩, ⟨h5, h6, h7⟩, _, _⟩ := h
  rintro k _ (hk | hk) (hc | hc) <;> omega
structure FrR (C : CfgR) (R : Rdr) (f : Nat → Value) (pv b a : Nat) (ver : Int) (fl : Bool) (n : Nat) : Prop where
  ptr : f pv = .pointer (some ⟨b, a, none⟩)
  ptrN : 8 < pv ∧ pv < n
  v0 : C.fx = true → 0 ≤ ver
  ver : f 8 = .int .i16 ver
  flg : C.fx = true → f 9 = .bool fl
  flN : C.fx = false → fl = false
  rd : f C.rs = .pointer (some ⟨R.pb, 0, none⟩)
  us : f 2 = .bool false
  nN : 10 ≤ n
  rsN : 7 ≤ C.rs ∧ C.rs < n
theorem FrR.keep {f f' : Nat → Value} {pv b a n : Nat} {ver : Int} {fl : Bool} (h : FrR C R f pv b a ver fl n) {t : Nat} (hk : Keeps f f' t) (ht : n ≤ t) : FrR C R f' pv b a ver fl n := by
  have h1 := h.ptrN
  have h2 := h.nN
  have h3 := h.rsN
  exact ⟨(hk _ (by omega) (by omega)).trans h.ptr, h1, h.v0, (hk _ (by omega) (by omega)).trans h.ver, fun hx => (hk _ (by omega) (by omega)).trans (h.flg hx), h.flN, (hk _ (by omega) (by omega)).trans h.rd, (hk _ (by omega) (by omega)).trans h.us, h2, h3⟩
theorem FrR.up {f : Nat → Value} {pv b a n m : Nat} {ver : Int} {fl : Bool} (h : FrR C R f pv b a ver fl n) (hm : n ≤ m) : FrR C R f pv b a ver fl m :=
  ⟨h.ptr, ⟨h.ptrN.1, by have := h.ptrN; omega⟩, h.v0, h.ver, h.flg, h.flN, h.rd, h.us, by have := h.nN; omega, ⟨h.rsN.1, by have := h.rsN; omega⟩⟩
structure StR (C : CfgR) (R : Rdr) (b a n : Nat) (w : World) (cc : Array Value) (e : TypeId) (rs : RS) : Prop where
  blk : w.heap[b]? = some (.cells cc e (0, 0))
  fit : a + n ≤ cc.size
  rd : RdAt C.E.tRd w R.pb R.D rs
  rw_ : RW C R b w
/-- only the reader's block has turned (and new ones) -/
theorem StR.ext1 {b a n : Nat} {w w' : World} {cc : Array Value} {e : TypeId} {rs rs' : RS} (h : StR C R b a n w cc e rs) (he : Ext (· = R.pb) w w') (hr : RdAt C.E.tRd w' R.pb R.D rs') : StR C R b a n w' cc e rs' :=
  ⟨he.old h.blk (fun h' => h.rw_.ne.2.2 h'.symm), h.fit, hr, h.rw_.ext (he.mono (fun _ _ h => .inl h))⟩
structure RdTo (C : CfgR) (R : Rdr) (b a n lo : Nat) (w : World) (cc : Array Value) (e : TypeId) (f : Nat → Value) (l m t : Nat) (rs' : RS) (f' : Nat → Value) (w' : World) (cc' : Array Value) : Prop where
  ext : Ext (CB R b) w w'
  st : StR C R b a n w' cc' e rs'
  size : cc'.size = cc.size
  same : ∀ j, (j < a + lo ∨ a + n ≤ j) → cc'[j]? = cc[j]?
  keep : KeepR f f' l m t
theorem RdTo.trans {b a n lo lo' : Nat} {w w1 w2 : World} {cc c1 c2 : Array Value} {e : TypeId} {f f1 f2 : Nat → Value} {l m t l' m' t' : Nat} {r1 r2 : RS} (x : RdTo C R b a n lo w cc e f l m t r1 f1 w1 c1) (y : RdTo C R b a n lo' w1 c1 e f1 l' m' t' r2 f2 w2 c2)
    (hlo : lo ≤ lo') (hl : l ≤ l') (hm : m ≤ m') (ht : t ≤ t') : RdTo C R b a n lo w cc e f l m' t r2 f2 w2 c2 :=
  ⟨x.ext.trans y.ext, y.st, y.size.trans x.size, fun j hj => (y.same j (by omega)).trans (x.same j hj), x.keep.trans y.keep hl hm ht⟩
/-- A field stands in a struct's cells. -/
def FldAt (w : World) (R : Rdr) (cs : List Value) (o : Nat) (p : Prim) (x : p.T) : Prop := ∃ v, seg cs o v.cells.toList ∧ p.rep1 w (RK R) v x
theorem rep1_sz {w : World} {K : Nat → Prop} {p : Prim} {u : Value} {x : p.T} (h : p.rep1 w K u x) : u.cells.size = p.sz := by
  have := rep1_one h
  by_cases hp : p = .uuid
  · subst hp
    simp only [if_true] at this
    obtain ⟨c, rfl, hc, _⟩ := this
    exact hc
  · simp only [if_neg hp] at this
    have h2 : p.sz = 1 := by cases p <;> first | rfl | exact absurd rfl hp
    rw [h2]
    cases u <;> simp_all [Value.oneCell', Value.cells]
theorem FldAt.move {w w' : World} {cs cs' : List Value} {o : Nat} {p : Prim} {x : p.T} (h : FldAt w R cs o p x) {Cx : Nat → Prop} (he : Ext Cx w w') (hK : ∀ k, k < w.heap.size → RK R k → ¬ Cx k) (hc : ∀ j, o ≤ j → j < o + p.sz → cs'[j]? = cs[j]?) : FldAt w' R cs' o p x := by
  obtain ⟨v, h1, h2⟩ := h
  refine ⟨v, fun j u hj => ?_, Prim.rep1_ext he hK h2⟩
  rw [hc (o + j) (by omega)]
  · exact h1 j u hj
  · have := (List.getElem?_eq_some_iff.1 hj).1
    have h3 := rep1_sz h2
    simp at this
    omega
variable {Q : Post} {f : Nat → Value} {w : World}
/-- what a store leaves: u's cells stand at o -/
structure Put (cc : Array Value) (o : Nat) (u : Value) (cc' : Array Value) : Prop where
  size : cc'.size = cc.size
  same : ∀ j, (j < o ∨ o + u.cells.size ≤ j) → cc'[j]? = cc[j]?
  new : ∀ j v, u.cells.toList[j]? = some v → cc'[o + j]? = some v
/-- a field was put -/
theorem RdTo.put {b a n lo o : Nat} {cc cc' : Array Value} {e : TypeId} {f' : Nat → Value} {l m t : Nat} {rs : RS} {u : Value} (hs : StR C R b a n w cc e rs) (hp : Put cc (a + o) u cc') (hlo : lo ≤ o) (hn : o + u.cells.size ≤ n) (hk : KeepR f f' l m t) :
    RdTo C R b a n lo w cc e f l m t rs f' (w.setBlk b (.cells cc' e (0, 0))) cc' := by
  have hE : Ext (· = b) w (w.setBlk b (.cells cc' e (0, 0))) := (Ext.refl (fun k => k = b) w).setBlk (b := b) (Or.inr rfl) _
  have hE' : Ext (CB R b) w (w.setBlk b (.cells cc' e (0, 0))) := hE.mono (fun _ _ h => .inr h)
  exact ⟨hE', ⟨setBlk_same hs.blk, by rw [hp.size]; exact hs.fit, hs.rd.ext hE (fun h => hs.rw_.ne.2.2 h) (fun h => hs.rw_.ne.2.1 h.symm), hs.rw_.ext hE'⟩, hp.size, fun j hj => hp.same j (by omega), hk⟩
theorem FldAt.put {b a n o : Nat} {cc cc' : Array Value} {e : TypeId} {rs : RS} {p : Prim} {u : Value} {x : p.T} (hs : StR C R b a n w cc e rs) (hp : Put cc (a + o) u cc') (hn : o + u.cells.size ≤ n) (hr : p.rep1 w (RK R) u x) : FldAt (w.setBlk b (.cells cc' e (0, 0))) R (segL cc' a n) o p x := by
  have hE : Ext (· = b) w (w.setBlk b (.cells cc' e (0, 0))) := (Ext.refl (fun k => k = b) w).setBlk (b := b) (Or.inr rfl) _
  refine ⟨u, fun j v hj => ?_, Prim.rep1_ext hE (fun k hk1 hk2 hk3 => hs.rw_.keepK k hk1 hk2 (.inr hk3)) hr⟩
  have hj' : j < u.cells.size := by have := (List.getElem?_eq_some_iff.1 hj).1; simpa using this
  rw [segL_get (by omega), ← Nat.add_assoc]
  exact hp.new j v hj
end
end Go.Kg

set_option linter.unusedSimpArgs false
set_option linter.unusedVariables false
set_option linter.unusedSectionVars false
namespace Go.Kg
open Go
/-- what stands in a new element -/
def sliZ (P : Program) (sT : TypeId) : Option (Array Value) := match P.underlying sT with
  | some (.slice e) => match P.info? e with
    | some i => if i.bytes ≤ 131072 ∧ 0 < i.size then match i.zero with
      | some z => if z.cells.size = i.size then some z.cells else none
      | none => none
      else none
    | none => none
  | _ => none
section
variable {P : Program} {C : CfgR}
theorem RdTo.refl {R : Rdr} {b a n lo : Nat} {w : World} {cc : Array Value} {e : TypeId} {f f' : Nat → Value} {l m t : Nat} {rs : RS} (h : StR C R b a n w cc e rs) (hk : KeepR f f' l m t) : RdTo C R b a n lo w cc e f l m t rs f' w cc :=
  ⟨Ext.refl _ _, h, rfl, fun _ _ => rfl, hk⟩
/-- only the reader has turned -/
theorem RdTo.read {R : Rdr} {b a n lo : Nat} {w w' : World} {cc : Array Value} {e : TypeId} {f f' : Nat → Value} {l m t : Nat} {rs rs' : RS} (h : StR C R b a n w cc e rs) (he : Ext (· = R.pb) w w') (hr : RdAt C.E.tRd w' R.pb R.D rs') (hk : KeepR f f' l m t) : RdTo C R b a n lo w cc e f l m t rs' f' w' cc :=
  ⟨he.mono (fun _ _ h => .inl h), h.ext1 he hr, rfl, fun _ _ => rfl, hk⟩
end
end Go.Kg

set_option linter.unusedSimpArgs false
set_option linter.unusedVariables false
set_option linter.unusedSectionVars false
namespace Go.Kg
open Go
theorem intKind_und {P : Program} {T : Nat} {k : IntKind} (h : intKind? P T = some k) : P.underlying T = some (.int k) := by
  unfold intKind? at h
  split at h
  · rename_i k' hu; cases h; exact hu
  · cases h
theorem sliZ_spec {P : Program} {sT : Nat} {z : Array Value} (h : sliZ P sT = some z) : ∃ e i v, P.underlying sT = some (.slice e) ∧ P.info? e = some i ∧ i.bytes ≤ 131072 ∧ 0 < i.size ∧ i.zero = some v ∧ v.cells = z ∧ z.size = i.size := by
  unfold sliZ at h
  split at h
  · rename_i e hu
    split at h
    · rename_i i hi
      split at h
      · rename_i hb
        split at h
        · rename_i v hv
          split at h
          · rename_i hs
            cases h
            exact ⟨e, i, v, hu, hi, hb.1, hb.2, hv, rfl, hs⟩
          · cases h
        · cases h
      · cases h
    · cases h
  · cases h
/-- append(nil, make([]T, n)...) -/
theorem st_appz {P : Program} {f : Nat → Value} {w : World} {sT tn ty : Nat} {z : Array Value} {kn : IntKind} {x y : Operand} {K : Value → World → Prop} {lv : Int} (hz : sliZ P sT = some z) (htn : intKind? P tn = some kn) (hx : evF f x = .slice none 0 0) (hy : evF f y = .int .i32 lv) (h0 : 0 < lv) (h1 : lv < 2147483648)
    (h : ∀ cap more e, lv.toNat ≤ cap → K (.slice (some ⟨w.heap.size, 0, none⟩) lv.toNat cap) (w.drew.alloc (.cells (Builtin.zeroCells z lv.toNat ++ more) e))) :
    stepF P f (.call { callee := .builtin .append, args := #[x, y], argTypes := #[sT, tn] }) ty w K := by
  obtain ⟨e, i, v, hu, hi, hb, hs, hv, rfl, hzs⟩ := sliZ_spec hz
  have hn : ((lv.toNat : Nat) : Int) = lv := by omega
  have h48 : lv.toNat * i.bytes ≤ 281474976710656 := by
    have : lv.toNat * i.bytes ≤ 2147483648 * 131072 := Nat.mul_le_mul (by omega) hb
    omega
  have hr := Lib.run_append_nil_zeros (P := P) w sT tn ty e i v .i32 kn hu (intKind_und htn) hi hv lv.toNat (by omega) hs (by omega) h48
  rw [hn] at hr
  rw [stepF_ok (v := .slice (some ⟨w.heap.size, 0, none⟩) lv.toNat (grownCap w lv.toNat 0 e)) (w' := w.drew.alloc (.cells (Builtin.zeroCells v.cells lv.toNat ++ Builtin.zeroCells v.cells (grownCap w lv.toNat 0 e - lv.toNat)) e))]
  · exact h _ _ _ (grownCap_ge w lv.toNat 0 e)
  · simp only [runF, execOp, resolve, invoke, builtin, Sem.run_bind, Sem.run_pure, Result.andThen_ok, List.map_toArray, List.map_cons, List.map_nil, hx, hy, hr]
section
variable {P : Program} {C : CfgR} {R : Rdr}
variable {Q : Post} {f : Nat → Value} {w : World}
end
end Go.Kg

set_option linter.unusedSimpArgs false
set_option linter.unusedVariables false
set_option linter.unusedSectionVars false
namespace Go.Kg
open Go
section
variable {P : Program} {C : CfgR} {R : Rdr} {Q : Post} {f : Nat → Value} {w : World}
end
end Go.Kg

set_option linter.unusedSimpArgs false
set_option linter.unusedVariables false
set_option linter.unusedSectionVars false
namespace Go.Kg
open Go
section
variable {P : Program} {C : CfgR} {R : Rdr} {Q : Post} {f : Nat → Value} {w : World}
end
end Go.Kg

set_option linter.unusedSimpArgs false
set_option linter.unusedVariables false
set_option linter.unusedSectionVars false
namespace Go.Kg
open Go
theorem Ext.trans' {C D E : Nat → Prop} {a b c : World} (h : Ext C a b) (k : Ext D b c) (hD : ∀ x, x < a.heap.size → D x → E x) (hC : ∀ x, x < a.heap.size → C x → E x := by intro x _ h; first | exact h | exact .inl h) : Ext E a c :=
  ⟨k.os.trans h.os, k.tape.trans h.tape, k.output.trans h.output, Nat.le_trans h.size k.size,
   fun i hi hc => (k.block i (Nat.lt_of_lt_of_le hi h.size) (fun hd => hc (hD i hi hd))).trans (h.block i hi (fun hd => hc (hC i hi hd)))⟩
section
variable {P : Program} {C : CfgR} {R : Rdr} {Q : Post} {f : Nat → Value} {w : World}
end
end Go.Kg

set_option linter.unusedSimpArgs false
set_option linter.unusedVariables false
set_option linter.unusedSectionVars false
namespace Go.Kg
open Go
theorem cells_one {v : Value} (h : v.oneCell' = true) : v.cells = #[v] := by cases v <;> simp_all [Value.oneCell', Value.cells]
section
variable {P : Program} {C : CfgR} {R : Rdr} {Q : Post} {f : Nat → Value} {w : World}
end
end Go.Kg

set_option linter.unusedSimpArgs false
set_option linter.unusedVariables false
set_option linter.unusedSectionVars false
namespace Go.Kg
open Go
section
variable {P : Program} {C : CfgR}
def EltP (p : Prim) (w : World) (K : Nat → Prop) (es : List Value) (y : p.T) : Prop := ∃ u, es = u.cells.toList ∧ p.rep1 w K u y
def EltS (S : Sch) (w : World) (K : Nat → Prop) (es : List Value) (y : S.T) : Prop := S.Rep w K es y
theorem EltP.ext (p : Prim) : ∀ w w' K X es y, EltP p w K es y → Ext X w w' → (∀ k, k < w.heap.size → K k → ¬ X k) → EltP p w' K es y := by
  rintro w w' K X es y ⟨u, h1, h2⟩ he hK
  exact ⟨u, h1, Prim.rep1_ext he hK h2⟩
theorem EltP.mono (p : Prim) : ∀ w (K K' : Nat → Prop) es y, EltP p w K es y → (∀ k, K k → K' k) → EltP p w K' es y := by
  rintro w K K' es y ⟨u, h1, h2⟩ hK
  exact ⟨u, h1, Prim.rep1_mono hK h2⟩
theorem EltS.ext (S : Sch) : ∀ w w' K X es y, EltS S w K es y → Ext X w w' → (∀ k, k < w.heap.size → K k → ¬ X k) → EltS S w' K es y := fun w w' K X es y h he hK => Sch.Rep_ext he hK S h
theorem EltS.mono (S : Sch) : ∀ w (K K' : Nat → Prop) es y, EltS S w K es y → (∀ k, K k → K' k) → EltS S w K' es y := fun w K K' es y h hK => Sch.Rep_mono hK S h
/-- A list's field stands in a struct's cells. -/
def ArrFld {α : Type} (Relt : World → (Nat → Prop) → List Value → α → Prop) (w : World) (K : Nat → Prop) (sz : Nat) (cs : List Value) (o : Nat) (A : Option (List α)) : Prop :=
  ∃ v ls, cs[o]? = some v ∧ ArrAt w K sz v ls ∧ (ls.isSome = A.isSome ∧ InHeap w v) ∧ (ls.getD []).length = (A.getD []).length ∧ ∀ (i : Nat) (es : List Value) x, (ls.getD [])[i]? = some es → (A.getD [])[i]? = some x → Relt w K es x
theorem ArrFld.move {α : Type} {Relt : World → (Nat → Prop) → List Value → α → Prop} (hRext : ∀ w w' K X es y, Relt w K es y → Ext X w w' → (∀ k, k < w.heap.size → K k → ¬ X k) → Relt w' K es y) {w w' : World} {K X : Nat → Prop} {sz o : Nat} {cs cs' : List Value} {A : Option (List α)} (h : ArrFld Relt w K sz cs o A) (he : Ext X w w') (hK : ∀ k, k < w.heap.size → K k → ¬ X k) (hc : cs'[o]? = cs[o]?) : ArrFld Relt w' K sz cs' o A := by
  obtain ⟨v, ls, h1, h2, h3, h4, h5⟩ := h
  exact ⟨v, ls, hc.trans h1, ArrAt.ext he hK h2, ⟨h3.1, h3.2.ext he⟩, h4, fun i es x hi hx => hRext _ _ _ _ _ _ (h5 i es x hi hx) he hK⟩
end
end Go.Kg

set_option linter.unusedSimpArgs false
set_option linter.unusedVariables false
set_option linter.unusedSectionVars false
namespace Go.Kg
open Go
section
variable {P : Program} {C : CfgR}
end
end Go.Kg

set_option linter.unusedSimpArgs false
set_option linter.unusedVariables false
set_option linter.unusedSectionVars false
namespace Go.Kg
open Go
section
variable {P : Program} {C : CfgR}
end
end Go.Kg

set_option linter.unusedSimpArgs false
set_option linter.unusedVariables false
set_option linter.unusedSectionVars false
namespace Go.Kg
open Go
/-- a reader's cells -/
structure TyRb (P : Program) (E : Env) : Prop where
  z : zeroOf P E.tRd = some (.agg #[.slice none 0 0, .bool false])
  pl : places P E.tRd = some [(0, 1), (1, 1)]
  k : kindOf P E.tRd = .agg 2
theorem bld_rd {P : Program} {E : Env} (ht : TyRb P E) {sv : Value} (h : sv.cells = #[sv]) : bld? P E.tRd [(0, sv)] = some (.agg #[sv, .bool false]) := by
  have hz : (Value.agg #[.slice none 0 0, .bool false]).cells = #[.slice none 0 0, .bool false] := rfl
  simp only [bld?, ht.z, ht.pl, Instr.fill, hz]
  simp [h]
theorem bytes_one {w : World} {K : Nat → Prop} {v : Value} {s : List UInt8} (h : BytesAt w K v s) : v.oneCell' = true := by
  obtain ⟨a, c, rfl, _⟩ := h.len; rfl
end Go.Kg

set_option linter.unusedSimpArgs false
set_option linter.unusedVariables false
set_option linter.unusedSectionVars false
namespace Go.Kg
open Go
structure RdV (P : Program) (E : Env) : Prop where
  vi : RdC P E.tRd E.f_pkbin_Reader_Varint fun rs => (.int .i32 (rdVi rs).1, (rdVi rs).2)
  i8 : RdC P E.tRd E.f_pkbin_Reader_Int8 fun rs => (.int .i8 (IntKind.i8.wrap (rdFixed 1 rs).1), (rdFixed 1 rs).2)
  vl : RdC P E.tRd E.f_pkbin_Reader_Varlong fun rs => (.int .i64 (rdVl rs).1, (rdVl rs).2)
  vn : RdC P E.tRd E.f_pkbin_Reader_VarintArrayLen fun rs => (.int .i32 (rdVn rs).1, (rdVn rs).2)
  vb : RdPC P E.tRd E.f_pkbin_Reader_VarintBytes RNBytes rdVb
  vs : ∀ w pb D rs, pb ≠ D → D < w.heap.size → RdAt E.tRd w pb D rs → Ret P E.f_pkbin_Reader_VarintString #[.pointer (some ⟨pb, 0, none⟩)] w fun v w' => v = strV (rdVs rs).1 ∧ Ext (· = pb) w w' ∧ RdAt E.tRd w' pb D (rdVs rs).2
  ok : ∀ w pb D rs, RdAt E.tRd w pb D rs → Ret P E.f_pkbin_Reader_Ok #[.pointer (some ⟨pb, 0, none⟩)] w fun v w' => v = .bool !rs.bad ∧ w' = w
  complete : ∀ w pb D rs ev, RdAt E.tRd w pb D rs → (rs.bad = true → w.cell? ⟨E.g_kbin_ErrNotEnoughData, 0, none⟩ = some ev) → Ret P E.f_pkbin_Reader_Complete #[.pointer (some ⟨pb, 0, none⟩)] w fun v w' => v = (if rs.bad then ev else .nilIface) ∧ w' = w
structure RfSt (E : Env) (V : EnvV) (w1 : World) (b pb D : Nat) (cur : Array Value) (rs : RS) (f : Nat → Value) (w' : World) : Prop where
  f2 : f 2 = .bool false
  f7 : f 7 = .pointer (some ⟨pb, 0, none⟩)
  f8 : f 8 = .pointer (some ⟨b, 0, none⟩)
  blk : w'.heap[b]? = some (.cells cur V.t_kmsg_Record (0, 0))
  rd : RdAt E.tRd w' pb D rs
  ext : Ext (fun k => k = b ∨ k = pb) w1 w'
theorem RfSt.blk2 {E : Env} {V : EnvV} {w1 w' w2 : World} {b pb D : Nat} {cur : Array Value} {rs : RS} {f : Nat → Value} (h : RfSt E V w1 b pb D cur rs f w') (hbp : b ≠ pb) (he : Ext (· = pb) w' w2) : w2.heap[b]? = some (.cells cur V.t_kmsg_Record (0, 0)) := he.old h.blk (fun e => hbp e)
/-- the reader has read, the record's block is written -/
theorem RfSt.put {E : Env} {V : EnvV} {w1 w' w2 : World} {b pb D : Nat} {cur cur' : Array Value} {rs rs' : RS} {f f' : Nat → Value} (h : RfSt E V w1 b pb D cur rs f w') (hbp : b ≠ pb) (hbD : D ≠ b) (he : Ext (· = pb) w' w2) (hr : RdAt E.tRd w2 pb D rs')
    (h2 : f' 2 = f 2) (h7 : f' 7 = f 7) (h8 : f' 8 = f 8) : RfSt E V w1 b pb D cur' rs' f' (w2.setBlk b (.cells cur' V.t_kmsg_Record (0, 0))) := by
  have hb := h.blk2 hbp he
  refine ⟨h2.trans h.f2, h7.trans h.f7, h8.trans h.f8, setBlk_same hb, hr.ext (C := (· = b)) ((Ext.refl (fun x => x = b) w2).setBlk (.inr rfl) _) (fun e => hbp e.symm) hbD, ?_⟩
  exact (h.ext.trans (he.mono (fun _ _ e => .inr e))).setBlk (.inr (.inl rfl)) _
theorem bytes_put {w w2 : World} {D b pb : Nat} {v : Value} {o : Option (List UInt8)} {x : Obj} (h : BytesOpt w (· = D) v o) (hDp : pb ≠ D) (hDb : D ≠ b) (he : Ext (· = pb) w w2) : BytesOpt (w2.setBlk b x) (· = D) v o := by
  have h1 := BytesOpt.extV h he (fun k _ hk e => hDp (e.symm.trans hk))
  exact BytesOpt.extV h1 ((Ext.refl (fun x => x = b) w2).setBlk (.inr rfl) _) (fun k _ hk e => hDb (hk.symm.trans e))
theorem rdVn_lt (rs : RS) : -2147483648 ≤ (rdVn rs).1 ∧ (rdVn rs).1 < 2147483648 := by
  have := rdVi_lt rs
  unfold rdVn capLen; split
  · exact ⟨by decide, by decide⟩
  · exact this
/-- the list that is being read -/
def HsSt (w : World) (w2 : World) (b pb D N i : Nat) (hv : Value) (hs : List HdV) : Prop :=
  (N = 0 ∧ hv = .slice none 0 0 ∧ hs = []) ∨ ∃ ab cap e cur2, hv = .slice (some ⟨ab, 0, none⟩) N cap ∧ N ≤ cap ∧ w.heap[ab]? = some (.cells cur2 e (0, 0)) ∧ N * 2 ≤ cur2.size ∧ w2.heap.size ≤ ab ∧ ab ≠ b ∧ ab ≠ pb ∧ ab ≠ D ∧ RowOf 2 (fun cs x => KHd w (· = D) cs x) (cur2.toList.take (i * 2)) hs
structure RhInv (E : Env) (V : EnvV) (w2 : World) (b D : Nat) (cur : Array Value) (kv vv hv : Value) (k v : Option (List UInt8)) (lv : Int) (rs1 : RS) (f : Nat → Value) (w' : World) : Prop where
  ex : ∃ i, i ≤ lv.toNat ∧ f 18 = .int .i32 i ∧ f 17 = .int .i32 lv ∧ f 16 = hv ∧ RfSt E V w2 b w2.heap.size D cur (rdHs i rs1).2 f w' ∧ BytesOpt w' (· = D) kv k ∧ BytesOpt w' (· = D) vv v ∧ HsSt w' w2 b w2.heap.size D lv.toNat i hv (rdHs i rs1).1
theorem take_set2 {α : Type} {L : List α} {p : Nat} {x y : α} (h : p + 1 < L.length) : ((L.set p x).set (p + 1) y).take (p + 2) = L.take p ++ [x, y] := by
  obtain ⟨L1, L2, rfl, hl⟩ : ∃ L1 L2, L = L1 ++ L2 ∧ L1.length = p := ⟨L.take p, L.drop p, (List.take_append_drop p L).symm, by simp; omega⟩
  subst hl
  match L2, h with
  | [], h => simp at h; omega
  | [a], h => simp at h
  | a :: b :: r, h => simp [List.set_append, List.take_append, List.take_of_length_le (show L1.length ≤ L1.length + 2 by omega)]
theorem sliZ_of {P : Program} {t e s bytes : Nat} {z : Value} (h : SliI P t e s bytes z) (hb : bytes ≤ 131072) (hs : 0 < s) : sliZ P t = some z.cells := by
  obtain ⟨i, h1, h2, h3, h4⟩ := h.inf
  have := h.zs
  simp [sliZ, h.und, h1, h2, h3, h4, hb, hs, this]
section
variable {P : Program} {E : Env} {V : EnvV} (ht : TyV P E V)
include ht
set_option maxHeartbeats 1000000 in
theorem c_RecRead (hrb : TyRb P E) (hI : FnIs P V.f_pkmsg_Record_readFrom nt_pkmsg_Record_readFrom (rs_pkmsg_Record_readFrom E V) (ir_pkmsg_Record_readFrom E V)) (hD1 : FnIs P V.f_pkmsg_Record_Default nt_pkmsg_Record_Default (rs_pkmsg_Record_Default E V) (ir_pkmsg_Record_Default E V))
    (hD2 : FnIs P V.f_pkmsg_Header_Default nt_pkmsg_Header_Default (rs_pkmsg_Header_Default E V) (ir_pkmsg_Header_Default E V)) (hR : RdV P E) : ∀ w b D sv s ev,
    w.heap[b]? = some (.cells #[.int .i32 0, .int .i8 0, .int .i32 0, .int .i64 0, .int .i32 0, .slice none 0 0, .slice none 0 0, .slice none 0 0] V.t_kmsg_Record (0, 0)) → BytesAt w (· = D) sv s → D ≠ b → D < w.heap.size →
    w.cell? ⟨E.g_kbin_ErrNotEnoughData, 0, none⟩ = some ev → E.g_kbin_ErrNotEnoughData ≠ b →
    Ret P V.f_pkmsg_Record_readFrom #[.pointer (some ⟨b, 0, none⟩), sv, .bool false] w fun v w' => Ext (· = b) w w' ∧ v = (if (rdRec ⟨s, false, nonNil sv⟩).2.bad then ev else .nilIface) ∧
      ((rdRec ⟨s, false, nonNil sv⟩).2.bad = false → ∃ cs, w'.heap[b]? = some (.cells cs.toArray V.t_kmsg_Record (0, 0)) ∧ KRec w' (fun k => k = D ∨ w.heap.size ≤ k) cs (rdRec ⟨s, false, nonNil sv⟩).1) := by
  intro w b D sv s ev hb hsv hDb hDl herr hgb
  refine hI.call (args := [_, _, _]) (by simp [nt_pkmsg_Record_readFrom]) ?_
  have hbl := lt_of_heap hb
  have hsv1 := bytes_one hsv
  have hsvc : sv.cells = #[sv] := cells_one hsv1
  simp only [ir_pkmsg_Record_readFrom, rs_pkmsg_Record_readFrom, cw_seq]
  have dfl1 : ∀ w, Ret P V.f_pkmsg_Record_Default #[.pointer (some ⟨b, 0, none⟩)] w fun _ w' => w' = w := fun w => by
    refine hD1.call (args := [_]) (by simp [nt_pkmsg_Record_Default]) ?_
    simp [ir_pkmsg_Record_Default, rs_pkmsg_Record_Default]
  have hz : (Value.agg #[.slice none 0 0, .bool false]).cells = #[.slice none 0 0, .bool false] := rfl
  have hov : over #[Value.slice none 0 0, .bool false] 0 [sv, .bool false] = #[sv, .bool false] := rfl
  have ho2 : allOne [sv, .bool false] = true := by
    obtain ⟨a0, c0, hsvs, _⟩ := hsv.len
    rw [hsvs]; rfl
  generalize hk0 : (#[Value.int .i32 0, .int .i8 0, .int .i32 0, .int .i64 0, .int .i32 0, .slice none 0 0, .slice none 0 0, .slice none 0 0] : Array Value) = cur0 at hb ⊢
  -- the head
  refine cw_then (fun f w1 => w1 = w ∧ f 0 = .pointer (some ⟨b, 0, none⟩) ∧ f 1 = sv ∧ f 2 = .bool false) (by simp [meet]) ?_
  rintro f w1 ⟨rfl, f0, f1, f2⟩
  rw [cw_seq]
  refine cw_then (fun f w2 => w2 = w1 ∧ f 0 = .pointer (some ⟨b, 0, none⟩) ∧ f 1 = sv ∧ f 2 = .bool false) ?_ ?_
  · simp [f0]
    refine (dfl1 w1).mono ?_
    rintro v w2 rfl
    simp [meet, f0, f1, f2]
  clear f0 f1 f2 f
  rintro f w2 ⟨rfl, f0, f1, f2⟩
  rw [cw_seq]
  refine cw_then (fun f w1 => f 0 = .pointer (some ⟨b, 0, none⟩) ∧ f 2 = .bool false ∧ f 7 = .pointer (some ⟨w2.heap.size, 0, none⟩) ∧ w1.heap[b]? = some (.cells cur0 V.t_kmsg_Record (0, 0)) ∧ RdAt E.tRd w1 w2.heap.size D ⟨s, false, nonNil sv⟩ ∧ Ext none1 w2 w1) ?_ ?_
  · simp [f1, bld_rd hrb hsvc, hrb.z, hz, store_agg hrb.k, ho2, putK_blk alloc_new, hov]
    generalize hw4 : (w2.alloc (.cells #[.slice none 0 0, .bool false] E.tRd)).setBlk w2.heap.size (.cells #[sv, .bool false] E.tRd (0, 0)) = w4
    obtain ⟨hx4, hb4⟩ := put_new hw4
    simp [meet, f0, f2]
    exact ⟨hx4.old hb (fun h => h), ⟨sv, hb4, hsv.ext hx4 (by simp [none1]), rfl⟩, hx4⟩
  clear f0 f1 f2 f
  rintro f w1 ⟨f0, f2, f7, hb1, hr1, hE1⟩
  rw [cw_seq]
  have hbp : b ≠ w2.heap.size := by omega
  have hDp : w2.heap.size ≠ D := by omega
  refine cw_then (RfSt E V w2 b w2.heap.size D cur0 ⟨s, false, nonNil sv⟩) ?_ ?_
  · simp [meet, f0]
    exact ⟨by simp [f2], by simp [f7], by simp, hb1, hr1, hE1.mono (fun _ _ h => h.elim)⟩
  clear f0 f2 f7 f hb1 hr1 hE1
  rintro f w1 F
  generalize hrs0 : (⟨s, false, nonNil sv⟩ : RS) = rs0 at F ⊢
  rw [cw_seq]
  -- length
  refine cw_then (RfSt E V w2 b w2.heap.size D #[.int .i32 (rdVi rs0).1, .int .i8 0, .int .i32 0, .int .i64 0, .int .i32 0, .slice none 0 0, .slice none 0 0, .slice none 0 0] (rdVi rs0).2) ?_ ?_
  · simp [F.f7]
    refine (hR.vi w1 w2.heap.size D rs0 hDp F.rd).mono ?_
    rintro v w3 ⟨rfl, he, hr⟩
    have hb3 := F.blk2 hbp he
    subst hk0
    simp [F.f8, ht.kr0, Addr.add_mk, store_scl ht.kI32, Value.oneCell', put1K_blk hb3]
    exact F.put hbp hDb he hr (by simp) (by simp) (by simp)
  clear F f w1
  generalize ha : rdVi rs0 = a
  rintro f w1 F
  rw [cw_seq]
  refine cw_then (RfSt E V w2 b w2.heap.size D #[.int .i32 a.1, .int .i8 (rdI8 a.2).1, .int .i32 0, .int .i64 0, .int .i32 0, .slice none 0 0, .slice none 0 0, .slice none 0 0] (rdI8 a.2).2) ?_ ?_
  · simp [F.f7]
    refine (hR.i8 w1 w2.heap.size D a.2 hDp F.rd).mono ?_
    rintro v w3 ⟨rfl, he, hr⟩
    have hb3 := F.blk2 hbp he
    simp [F.f8, ht.kr1, Addr.add_mk, store_scl ht.kI8, Value.oneCell', put1K_blk hb3]
    exact F.put hbp hDb he hr (by simp) (by simp) (by simp)
  clear F f w1
  generalize hb' : rdI8 a.2 = bb
  rintro f w1 F
  rw [cw_seq]
  refine cw_then (RfSt E V w2 b w2.heap.size D #[.int .i32 a.1, .int .i8 bb.1, .int .i32 (IntKind.i32.wrap (rdVl bb.2).1), .int .i64 (rdVl bb.2).1, .int .i32 0, .slice none 0 0, .slice none 0 0, .slice none 0 0] (rdVl bb.2).2) ?_ ?_
  · simp [F.f7]
    refine (hR.vl w1 w2.heap.size D bb.2 hDp F.rd).mono ?_
    rintro v w3 ⟨rfl, he, hr⟩
    have hb3 := F.blk2 hbp he
    simp [F.f8, ht.kr2, ht.kr3, Addr.add_mk, store_scl ht.kI64, store_scl ht.kI32, Value.oneCell', put1K_blk hb3, put1K_blk (setBlk_same hb3), setBlk_setBlk, ht.ws.iI64, ht.ws.iI32]
    exact F.put hbp hDb he hr (by simp) (by simp) (by simp)
  clear F f w1
  generalize hc' : rdVl bb.2 = c
  rintro f w1 F
  rw [cw_seq]
  refine cw_then (RfSt E V w2 b w2.heap.size D #[.int .i32 a.1, .int .i8 bb.1, .int .i32 (IntKind.i32.wrap c.1), .int .i64 c.1, .int .i32 (rdVi c.2).1, .slice none 0 0, .slice none 0 0, .slice none 0 0] (rdVi c.2).2) ?_ ?_
  · simp [F.f7]
    refine (hR.vi w1 w2.heap.size D c.2 hDp F.rd).mono ?_
    rintro v w3 ⟨rfl, he, hr⟩
    have hb3 := F.blk2 hbp he
    simp [F.f8, ht.kr4, Addr.add_mk, store_scl ht.kI32, Value.oneCell', put1K_blk hb3]
    exact F.put hbp hDb he hr (by simp) (by simp) (by simp)
  clear F f w1
  generalize hd' : rdVi c.2 = d
  rintro f w1 F
  rw [cw_seq]
  refine cw_then (fun f w' => ∃ kv, RfSt E V w2 b w2.heap.size D #[.int .i32 a.1, .int .i8 bb.1, .int .i32 (IntKind.i32.wrap c.1), .int .i64 c.1, .int .i32 d.1, kv, .slice none 0 0, .slice none 0 0] (rdVb d.2).2 f w' ∧ BytesOpt w' (· = D) kv (rdVb d.2).1) ?_ ?_
  · simp [F.f7]
    refine (hR.vb w1 w2.heap.size D d.2 hDp (Nat.lt_of_lt_of_le hDl F.ext.size) F.rd).mono ?_
    rintro kv w3 ⟨hkv, he, hr⟩
    have hb3 := F.blk2 hbp he
    have hk1 := bytes_one (BytesOpt.bytes ht.rs hkv)
    simp [F.f8, ht.kr5, Addr.add_mk, store_scl ht.rs.kBs, hk1, put1K_blk hb3]
    exact ⟨kv, F.put hbp hDb he hr (by simp) (by simp) (by simp), bytes_put hkv hDp hDb (Ext.refl _ _)⟩
  clear F f w1
  generalize hk' : rdVb d.2 = k
  rintro f w1 ⟨kv, F, hkv⟩
  rw [cw_seq]
  refine cw_then (fun f w' => ∃ vv, RfSt E V w2 b w2.heap.size D #[.int .i32 a.1, .int .i8 bb.1, .int .i32 (IntKind.i32.wrap c.1), .int .i64 c.1, .int .i32 d.1, kv, vv, .slice none 0 0] (rdVb k.2).2 f w' ∧ BytesOpt w' (· = D) kv k.1 ∧ BytesOpt w' (· = D) vv (rdVb k.2).1) ?_ ?_
  · simp [F.f7]
    refine (hR.vb w1 w2.heap.size D k.2 hDp (Nat.lt_of_lt_of_le hDl F.ext.size) F.rd).mono ?_
    rintro vv w3 ⟨hvv, he, hr⟩
    have hb3 := F.blk2 hbp he
    have hk1 := bytes_one (BytesOpt.bytes ht.rs hvv)
    simp [F.f8, ht.kr6, Addr.add_mk, store_scl ht.rs.kBs, hk1, put1K_blk hb3]
    exact ⟨vv, F.put hbp hDb he hr (by simp) (by simp) (by simp), bytes_put hkv hDp hDb he, bytes_put hvv hDp hDb (Ext.refl _ _)⟩
  clear F f w1 hkv
  generalize hv' : rdVb k.2 = v
  rintro f w1 ⟨vv, F, hkv, hvv⟩
  have hrec : rdRec rs0 = bnd rdVn (fun l => bnd (rdHs l.toNat) fun h rs => ((⟨a.1, bb.1, c.1, d.1, k.1, v.1, h⟩ : RecV), rs)) v.2 := by
    simp only [rdRec, Kg.bnd, ha, hb', hc', hd', hk', hv']
  rw [cw_seq]
  have c7 : w1.cell? ⟨b, 7, none⟩ = some (.slice none 0 0) := by rw [cell_of_blk F.blk]; rfl
  simp [F.f8, F.f7, ht.kr7, Addr.add_mk, ld_scl ht.kLK, c7]
  refine (hR.vn w1 w2.heap.size D v.2 hDp F.rd).mono ?_
  rintro _ w3 ⟨rfl, he, hr⟩
  simp [F.f7]
  refine (hR.ok w3 w2.heap.size D _ hr).mono ?_
  rintro _ w4 ⟨rfl, rfl⟩
  have herr4 : w4.cell? ⟨E.g_kbin_ErrNotEnoughData, 0, none⟩ = some ev := by
    have hlt := World.block_lt_of_cell? w2 _ herr
    refine (F.ext.trans (he.mono (fun _ _ e => .inr e))).cell herr (fun e => ?_)
    rcases e with e | e
    · exact hgb e
    · have : E.g_kbin_ErrNotEnoughData < w2.heap.size := hlt
      omega
  simp
  cases hbad : (rdVn v.2).2.bad with
  | true =>
    have hbR : (rdRec rs0).2.bad = true := by rw [hrec]; exact (good_hs _).bad _ hbad
    refine cw_true (by simp [hbad]) ?_
    simp [F.f7]
    refine (hR.complete w4 w2.heap.size D _ ev hr (fun _ => herr4)).mono ?_
    rintro _ w5 ⟨rfl, rfl⟩
    simp [hbad, hbR]
    exact (F.ext.trans (he.mono (fun _ _ e => .inr e))).mono (fun k hk e => e.elim id (fun e => by omega))
  | false =>
    refine cw_false (by simp [hbad]) ?_
    have hlt := rdVn_lt v.2
    have hr : RdAt E.tRd w4 w2.heap.size D (rdVn v.2).2 := hr
    generalize hl' : rdVn v.2 = l at hr hbad hlt ⊢
    have F4 : RfSt E V w2 b w2.heap.size D #[.int .i32 a.1, .int .i8 bb.1, .int .i32 (IntKind.i32.wrap c.1), .int .i64 c.1, .int .i32 d.1, kv, vv, .slice none 0 0] l.2 f w4 := ⟨F.f2, F.f7, F.f8, F.blk2 hbp he, hr, F.ext.trans (he.mono (fun _ _ e => .inr e))⟩
    have hkv4 : BytesOpt w4 (· = D) kv k.1 := BytesOpt.extV hkv he (fun q _ hq e => hDp (e.symm.trans hq))
    have hvv4 : BytesOpt w4 (· = D) vv v.1 := BytesOpt.extV hvv he (fun q _ hq e => hDp (e.symm.trans hq))
    have hsl : slice? P V.t_l_kmsg_Header (.slice none 0 0) none (some (.int .i64 0)) none = some (.slice none 0 0) := by simp [slice?, ht.sK.siz]
    have hD2' : ∀ (w : World) (p : Addr), Ret P V.f_pkmsg_Header_Default #[.pointer (some p)] w fun _ w' => w' = w := fun w p => by
      refine hD2.call (args := [_]) (by simp [nt_pkmsg_Header_Default]) ?_
      simp [ir_pkmsg_Header_Default, rs_pkmsg_Header_Default]
    -- the list is made
    refine cw_skip.mpr ?_
    simp only [thenF]
    rw [cw_seq]
    refine cw_then (fun f w' => RfSt E V w2 b w2.heap.size D #[.int .i32 a.1, .int .i8 bb.1, .int .i32 (IntKind.i32.wrap c.1), .int .i64 c.1, .int .i32 d.1, kv, vv, .slice none 0 0] l.2 f w' ∧ w' = w4 ∧ f 16 = .slice none 0 0 ∧ f 17 = .int .i32 l.1) ?_ ?_
    · simp [hsl]
      exact ⟨by simp [F.f2], by simp [F.f7], by simp [F.f8], F4.blk, F4.rd, F4.ext⟩
    clear F4 hkv hvv c7 he F
    clear f w1
    rintro f w5 ⟨F, rfl, f16, f17⟩
    rw [cw_seq]
    refine cw_then (fun f w' => ∃ hv, RhInv E V w2 b D #[.int .i32 a.1, .int .i8 bb.1, .int .i32 (IntKind.i32.wrap c.1), .int .i64 c.1, .int .i32 d.1, kv, vv, .slice none 0 0] kv vv hv k.1 v.1 l.1 l.2 (upd f 18 (.int .i32 0)) w') ?_ ?_
    · simp [f16, f17, bin?]
      by_cases h0 : 0 < l.1
      · refine cw_true (by simp [h0]) ?_
        simp
        refine st_appz (sliZ_of ht.sK (by omega) (by omega)) ht.rs.iI32 (by simp [f16]) (by simp [f17]) h0 hlt.2 ?_
        intro cap more e hcap
        have hal : Ext none1 w5 (w5.drew.alloc (.cells (Builtin.zeroCells (Value.agg #[.string ⟨#[]⟩, .slice none 0 0]).cells l.1.toNat ++ more) e)) := (Ext.refl none1 w5).drew.alloc _
        have hsz5 := F.ext.size
        refine ⟨.slice (some ⟨w5.heap.size, 0, none⟩) l.1.toNat cap, ⟨0, by omega, by simp, by simp [f17], by simp, ⟨by simp [F.f2], by simp [F.f7], by simp [F.f8], hal.old F.blk (fun h => h), F.rd.ext hal (fun h => h) (fun h => h), F.ext.trans (hal.mono (fun _ _ h => h.elim))⟩, BytesOpt.extV hkv4 hal (by simp [none1]), BytesOpt.extV hvv4 hal (by simp [none1]), ?_⟩⟩
        have hlt5 := F.rd.lt
        refine .inr ⟨w5.heap.size, cap, e, _, rfl, hcap, alloc_new, ?_, hsz5, by omega, by omega, by omega, by simp [rdHs, RowOf]⟩
        have hzz : (Value.agg #[.string ⟨#[]⟩, .slice none 0 0]).cells.size = 2 := rfl
        simp [Builtin.zeroCells, hzz]
      · refine cw_false (by simp [h0]) ?_
        simp
        refine ⟨_, ⟨0, by omega, by simp, by simp [f17], by simp [f16], ⟨by simp [F.f2], by simp [F.f7], by simp [F.f8], F.blk, F.rd, F.ext⟩, hkv4, hvv4, .inl ⟨by omega, rfl, rfl⟩⟩⟩
    clear F f16 f17 f
    rintro f w6 ⟨hv, hI⟩
    rw [cw_seq]
    refine cw_then (fun f w' => f 16 = hv ∧ RfSt E V w2 b w2.heap.size D #[.int .i32 a.1, .int .i8 bb.1, .int .i32 (IntKind.i32.wrap c.1), .int .i64 c.1, .int .i32 d.1, kv, vv, .slice none 0 0] (rdHs l.1.toNat l.2).2 f w' ∧ BytesOpt w' (· = D) kv k.1 ∧ BytesOpt w' (· = D) vv v.1 ∧ HsSt w' w2 b w2.heap.size D l.1.toNat l.1.toNat hv (rdHs l.1.toNat l.2).1) ?_ ?_
    · simp
      refine cw_loop (RhInv E V w2 b D #[.int .i32 a.1, .int .i8 bb.1, .int .i32 (IntKind.i32.wrap c.1), .int .i64 c.1, .int .i32 d.1, kv, vv, .slice none 0 0] kv vv hv k.1 v.1 l.1 l.2) (fun f _ => match f 18 with | .int _ i => (l.1 - i).toNat | _ => 0) hI ?_
      clear hI
      rintro f w7 ⟨i, hi, f18, f17, f16, F, hkv, hvv, hH⟩
      simp [f18, f17, bin?]
      by_cases hlt2 : (i : Int) < l.1
      rotate_left
      · refine cw_false (by simp [hlt2]) ?_
        simp
        have : i = l.1.toNat := by omega
        subst this
        exact ⟨by simp [f16], ⟨by simp [F.f2], by simp [F.f7], by simp [F.f8], F.blk, F.rd, F.ext⟩, hkv, hvv, hH⟩
      refine cw_true (by simp [hlt2]) ?_
      rcases hH with ⟨h0, _⟩ | ⟨ab, cap, e, cur2, rfl, hcap, hab, hsz2, hle, hne1, hne2, hne3, hrow⟩
      · omega
      have hiN : i < l.1.toNat := by omega
      simp [f16, f18, idx?, ht.sK.siz, hiN, Addr.add_mk]
      refine (hD2' w7 _).mono ?_
      rintro _ w8 rfl
      simp [F.f2]
      refine cw_false (by simp [F.f2]) ?_
      simp [F.f7]
      refine (hR.vs w8 w2.heap.size D _ hDp (Nat.lt_of_lt_of_le hDl F.ext.size) F.rd).mono ?_
      rintro _ w9 ⟨rfl, he9, hr9⟩
      have hab9 := he9.old hab (fun e => hne2 e)
      have hs1 : (strV (rdVs (rdHs i l.2).2).1).oneCell' = true := rfl
      simp [ht.kh0, Addr.add_mk, store_scl ht.rs.kS, hs1, put1K_blk hab9]
      refine ⟨by omega, ?_⟩
      generalize hk9 : rdVs (rdHs i l.2).2 = kk at hr9 ⊢
      generalize hw10 : w9.setBlk ab (.cells (cur2.setIfInBounds (i * 2) (strV kk.1)) e (0, 0)) = w10
      have hab10 : w10.heap[ab]? = some (.cells (cur2.setIfInBounds (i * 2) (strV kk.1)) e (0, 0)) := by rw [← hw10]; exact setBlk_same hab9
      have hx10 : Ext (fun x => x = ab) w9 w10 := by rw [← hw10]; exact (Ext.refl (fun x => x = ab) w9).setBlk (.inr rfl) _
      have hr10 := hr9.ext hx10 (fun e => hne2 e.symm) (fun e => hne3 e.symm)
      have hDl10 : D < w10.heap.size := by have := F.ext.size; have := he9.size; have := hx10.size; omega
      refine (hR.vb w10 w2.heap.size D _ hDp hDl10 hr10).mono ?_
      rintro v2 w11 ⟨hv2, he11, hr11⟩
      have hab11 := he11.old hab10 (fun e => hne2 e)
      have hv21 := bytes_one (BytesOpt.bytes ht.rs hv2)
      simp [ht.kh1, Addr.add_mk, store_scl ht.rs.kBs, hv21, put1K_blk hab11]
      refine ⟨by omega, ?_⟩
      generalize hk11 : rdVb kk.2 = v3 at hr11 hv2 ⊢
      generalize hw12 : w11.setBlk ab (.cells ((cur2.setIfInBounds (i * 2) (strV kk.1)).setIfInBounds (i * 2 + 1) v2) e (0, 0)) = w12
      have hab12 : w12.heap[ab]? = some (.cells ((cur2.setIfInBounds (i * 2) (strV kk.1)).setIfInBounds (i * 2 + 1) v2) e (0, 0)) := by rw [← hw12]; exact setBlk_same hab11
      have hx12 : Ext (fun x => x = ab) w11 w12 := by rw [← hw12]; exact (Ext.refl (fun x => x = ab) w11).setBlk (.inr rfl) _
      have hall : Ext (fun x => x = ab ∨ x = w2.heap.size) w8 w12 := (((he9.mono (fun _ _ e => .inr e)).trans (hx10.mono (fun _ _ e => .inl e))).trans (he11.mono (fun _ _ e => .inr e))).trans (hx12.mono (fun _ _ e => .inl e))
      have hDX : ∀ q, q < w8.heap.size → q = D → ¬ (q = ab ∨ q = w2.heap.size) := fun q _ hq e => e.elim (fun e => hne3 (e.symm.trans hq)) (fun e => hDp (e.symm.trans hq))
      have hwr : IntKind.i32.wrap ((i : Int) + 1) = (i : Int) + 1 := by rw [IntKind.wrap_i32]; omega
      have hstep : rdHs (i + 1) l.2 = ((rdHs i l.2).1 ++ [(kk.1, v3.1)], v3.2) := by simp only [rdHs, rdHd, Kg.bnd, hk9, hk11]
      have hX2 : Ext (fun q => q = b ∨ q = w2.heap.size) w2 w12 := by
        refine ⟨hall.os.trans F.ext.os, hall.tape.trans F.ext.tape, hall.output.trans F.ext.output, Nat.le_trans F.ext.size hall.size, fun q hq hn => ?_⟩
        rw [hall.block q (Nat.lt_of_lt_of_le hq F.ext.size) (fun e => e.elim (fun e => by omega) (fun e => by omega))]
        exact F.ext.block q hq hn
      simp [f18, bin?, hwr]
      refine ⟨⟨i + 1, by omega, by simp [hwr], by simp [f17], by simp [f16], ⟨by simp [F.f2], by simp [F.f7], by simp [F.f8], hall.old F.blk (fun e => e.elim (fun e => hne1 e.symm) hbp), ?_, hX2⟩, BytesOpt.extV hkv hall hDX, BytesOpt.extV hvv hall hDX, ?_⟩, by omega⟩
      · rw [hstep]; exact hr11.ext hx12 (fun e => hne2 e.symm) (fun e => hne3 e.symm)
      · rw [hstep]
        refine .inr ⟨ab, cap, e, _, rfl, hcap, hab12, by simp; omega, hle, hne1, hne2, hne3, ?_⟩
        have htk : ((cur2.setIfInBounds (i * 2) (strV kk.1)).setIfInBounds (i * 2 + 1) v2).toList.take ((i + 1) * 2) = cur2.toList.take (i * 2) ++ [strV kk.1, v2] := by
          have := take_set2 (L := cur2.toList) (p := i * 2) (x := strV kk.1) (y := v2) (by simp; omega)
          rw [show (i + 1) * 2 = i * 2 + 2 by omega, ← this]
          simp
        rw [htk]
        refine RowOf.snoc (hrow.imp fun cs x h => h.ext hall hDX) rfl ⟨v2, rfl, BytesOpt.extV hv2 hx12 (fun q _ hq e => hne3 (e.symm.trans hq))⟩
    · rintro f w7 ⟨f16, F, hkv, hvv, hH⟩
      have hone : hv.oneCell' = true := by
        rcases hH with ⟨_, h, _⟩ | ⟨ab, cap, e, cur2, h, _⟩
        · rw [h]; rfl
        · rw [h]; rfl
      have hx8 : ∀ (c2 : Array Value), Ext (fun x => x = b) w7 (w7.setBlk b (.cells c2 V.t_kmsg_Record (0, 0))) := fun c2 => (Ext.refl (fun x => x = b) w7).setBlk (.inr rfl) _
      simp [f16, F.f7, F.f8, ht.kr7, Addr.add_mk, store_scl ht.kLK, hone, put1K_blk F.blk]
      generalize hw8 : w7.setBlk b (.cells #[.int .i32 a.1, .int .i8 bb.1, .int .i32 (IntKind.i32.wrap c.1), .int .i64 c.1, .int .i32 d.1, kv, vv, hv] V.t_kmsg_Record (0, 0)) = w8
      have hX8 : Ext (fun x => x = b) w7 w8 := by rw [← hw8]; exact hx8 _
      have hb8 : w8.heap[b]? = some (.cells #[.int .i32 a.1, .int .i8 bb.1, .int .i32 (IntKind.i32.wrap c.1), .int .i64 c.1, .int .i32 d.1, kv, vv, hv] V.t_kmsg_Record (0, 0)) := by rw [← hw8]; exact setBlk_same F.blk
      have hr8 := F.rd.ext hX8 (fun e => hbp e.symm) hDb
      have hE8 : Ext (fun q => q = b ∨ q = w2.heap.size) w2 w8 := F.ext.trans (hX8.mono (fun _ _ e => .inl e))
      have herr8 : w8.cell? ⟨E.g_kbin_ErrNotEnoughData, 0, none⟩ = some ev := by
        have hlt := World.block_lt_of_cell? w2 _ herr
        refine hE8.cell herr (fun e => ?_)
        rcases e with e | e
        · exact hgb e
        · have : E.g_kbin_ErrNotEnoughData < w2.heap.size := hlt
          omega
      refine (hR.complete w8 w2.heap.size D _ ev hr8 (fun _ => herr8)).mono ?_
      rintro _ w9 ⟨rfl, rfl⟩
      have hfin : rdRec rs0 = (⟨a.1, bb.1, c.1, d.1, k.1, v.1, (rdHs l.1.toNat l.2).1⟩, (rdHs l.1.toNat l.2).2) := by rw [hrec]; simp only [Kg.bnd, hl']
      rw [hfin]
      simp
      refine ⟨hE8.mono (fun q hq e => e.elim id (fun e => by omega)), fun _ => ⟨[.int .i32 a.1, .int .i8 bb.1, .int .i32 (IntKind.i32.wrap c.1), .int .i64 c.1, .int .i32 d.1, kv, vv, hv], hb8, ⟨_, kv, vv, hv, rfl, ?_, ?_, ?_, ?_⟩⟩⟩
      · exact BytesOpt.mono (fun q hq => .inl hq) (BytesOpt.extV hkv hX8 (fun q _ hq e => hDb (hq.symm.trans e)))
      · exact BytesOpt.mono (fun q hq => .inl hq) (BytesOpt.extV hvv hX8 (fun q _ hq e => hDb (hq.symm.trans e)))
      · have hlen : ∀ n rs, (rdHs n rs).1.length = n := by
          intro n rs
          induction n with
          | zero => rfl
          | succ n ih => simp [rdHs, Kg.bnd, ih]
        rcases hH with ⟨h0, h1, h2⟩ | ⟨ab, cap, e, cur2, h1, hcap, hab, hsz2, hle, hne1, hne2, hne3, hrow⟩
        · rw [h1, h2]; exact .inl ⟨⟨_, rfl⟩, rfl⟩
        · refine .inr ⟨ab, 0, cap, cur2.toList.take (l.1.toNat * 2), by rw [hlen]; exact h1, by rw [hlen]; exact hcap, fun _ => .inr hle, ?_, hrow.imp fun cs x h => (h.ext hX8 (fun q _ hq e => hDb (hq.symm.trans e))).mono (fun q hq => .inl hq)⟩
          intro q u hq
          rw [cell_of_blk (hX8.old hab hne1)]
          rw [List.getElem?_take] at hq
          split at hq
          · simpa using hq
          · cases hq
      · intro hd0
        have : c.1 = 0 := hd0
        rw [this]; rfl
end
end Go.Kg

set_option linter.unusedSimpArgs false
set_option linter.unusedVariables false
set_option linter.unusedSectionVars false
namespace Go.Kg
open Go
def kr0 : Array Value := #[.int .i32 0, .int .i8 0, .int .i32 0, .int .i64 0, .int .i32 0, .slice none 0 0, .slice none 0 0, .slice none 0 0]
def ReadC (P : Program) (E : Env) (V : EnvV) (g : Nat) (more : List Value) : Prop := ∀ w b D sv s ev,
    w.heap[b]? = some (.cells kr0 V.t_kmsg_Record (0, 0)) → BytesAt w (· = D) sv s → D ≠ b → D < w.heap.size →
    w.cell? ⟨E.g_kbin_ErrNotEnoughData, 0, none⟩ = some ev → E.g_kbin_ErrNotEnoughData ≠ b →
    Ret P g (#[.pointer (some ⟨b, 0, none⟩), sv] ++ more.toArray) w fun v w' => Ext (· = b) w w' ∧ v = (if (rdRec ⟨s, false, nonNil sv⟩).2.bad then ev else .nilIface) ∧
      ((rdRec ⟨s, false, nonNil sv⟩).2.bad = false → ∃ cs, w'.heap[b]? = some (.cells cs.toArray V.t_kmsg_Record (0, 0)) ∧ KRec w' (fun k => k = D ∨ w.heap.size ≤ k) cs (rdRec ⟨s, false, nonNil sv⟩).1)
def OctC (P : Program) (V : EnvV) : Prop := ∀ w K d o, BytesOpt w K d o → (o.getD []).length ≤ 1099511627776 → Ret P V.f_impl_octets #[d] w fun v' w' => ∃ n' d', v' = .agg #[n', d'] ∧ OcAt w' (NewB w) n' d' o ∧ Ext none1 w w'
/-- a block without bytes holds no bytes -/
theorem BytesAt.off {w : World} {K : Nat → Prop} {v : Value} {s : List UInt8} {b1 : Nat} {z : Array Value} {t : TypeId} {fz : Nat × Nat} (h : BytesAt w K v s) (hb : w.heap[b1]? = some (.cells z t fz)) (hz : ∀ (i : Nat) (x : Int), z[i]? ≠ some (Value.int .u8 x)) : BytesAt w (fun b => b ≠ b1) v s := by
  rcases h with h | ⟨b, o, c, h1, h2, hk, h3⟩
  · exact .inl h
  · refine .inr ⟨b, o, c, h1, h2, fun hs => ?_, h3⟩
    obtain ⟨x, xs, rfl⟩ := List.exists_cons_of_ne_nil hs
    rintro rfl
    have := h3 0 x rfl
    rw [cell_of_blk hb] at this
    exact hz _ _ this
theorem OcAt.off {w : World} {K : Nat → Prop} {n d : Value} {o : Option (List UInt8)} {b1 : Nat} {z : Array Value} {t : TypeId} {fz : Nat × Nat} (h : OcAt w K n d o) (hb : w.heap[b1]? = some (.cells z t fz)) (hz : ∀ (i : Nat) (x : Int), z[i]? ≠ some (Value.int .u8 x)) : OcAt w (fun b => b ≠ b1) n d o := by
  obtain ⟨b, l, h1, h2, h3⟩ := h; exact ⟨b, l, h1, h2.off hb hz, h3⟩
/-- own bytes lie in one block -/
theorem own_one {u8 : Nat} {w : World} {base : Nat} {v : Value} {s : List UInt8} (h : OwnB u8 w base v s) {D0 : Nat} (h0 : D0 < w.heap.size) : ∃ D, D < w.heap.size ∧ (D = D0 ∨ base ≤ D) ∧ BytesAt w (· = D) v s := by
  have hb := own_bytesK h
  rcases hb with h1 | ⟨b, o, c, rfl, h2, h3, h4⟩
  · exact ⟨D0, h0, .inl rfl, .inl h1⟩
  · by_cases hs : s = []
    · exact ⟨D0, h0, .inl rfl, .inr ⟨b, o, c, rfl, h2, fun hn => absurd hs hn, h4⟩⟩
    · exact ⟨b, (h3 hs).2, .inr (h3 hs).1, .inr ⟨b, o, c, rfl, h2, fun _ => rfl, h4⟩⟩
section
variable {P : Program} {E : Env} {V : EnvV} (ht : TyV P E V)
include ht
theorem c_RecRead' (hI : FnIs P V.f_pkmsg_Record_ReadFrom nt_pkmsg_Record_ReadFrom (rs_pkmsg_Record_ReadFrom E V) (ir_pkmsg_Record_ReadFrom E V)) (h : ReadC P E V V.f_pkmsg_Record_readFrom [.bool false]) : ReadC P E V V.f_pkmsg_Record_ReadFrom [] := by
  intro w b D sv s ev hb hsv hDb hDl herr hgb
  refine hI.call (args := [_, _]) (by simp [nt_pkmsg_Record_ReadFrom]) ?_
  simp [ir_pkmsg_Record_ReadFrom, rs_pkmsg_Record_ReadFrom]
  refine (h w b D sv s ev hb hsv hDb hDl herr hgb).mono ?_
  intro v w' hv
  simpa using hv
theorem KRec.forms {w : World} {K : Nat → Prop} {cs : List Value} {r : RecV} (h : KRec w K cs r) : ∃ td kv vv hv, cs = [.int .i32 r.len, .int .i8 r.attr, .int .i32 td, .int .i64 r.delta, .int .i32 r.off, kv, vv, hv] ∧ BytesOpt w K kv r.key ∧ BytesOpt w K vv r.val ∧ LsAt w K 2 (KHd w K) hv r.hs := by
  obtain ⟨td, kv, vv, hv, h1, h2, h3, h4, _⟩ := h.ex
  exact ⟨td, kv, vv, hv, h1, h2, h3, h4⟩
omit ht in
theorem zc9 (a b c d : Int) (n1 d1 n2 d2 h : Value) : (Value.agg #[.int .i32 a, .int .i8 b, .int .i64 c, .int .i32 d, n1, d1, n2, d2, h]).cells = #[.int .i32 a, .int .i8 b, .int .i64 c, .int .i32 d, n1, d1, n2, d2, h] := rfl
end
def tlStore (E : Env) (V : EnvV) : HT := .act ⟨none, none, .store V.t_impl_Record (.tmp 5) (.tmp 27), E.tNil⟩ .done .stop
def tl5 (E : Env) (V : EnvV) (r : HT) : HT := .act ⟨none, some 5, .alloc V.t_impl_Record, E.tNil⟩ r .stop
def tl23 (E : Env) (V : EnvV) (r alt : HT) : HT := .act ⟨none, some 23, .call { callee := .value (.func V.f_impl_octets), args := #[.tmp 22], argTypes := #[E.tBs] }, V.t_impl_Octets⟩ r alt
def tl26 (E : Env) (V : EnvV) (r alt : HT) : HT := .act ⟨none, some 26, .call { callee := .value (.func V.f_impl_octets), args := #[.tmp 25], argTypes := #[E.tBs] }, V.t_impl_Octets⟩ r alt
def tl27 (V : EnvV) (r : HT) : HT := .free ⟨none, some 27, .build V.t_impl_Record #[(0, .tmp 14), (1, .tmp 16), (2, .tmp 18), (3, .tmp 20), (4, .tmp 23), (5, .tmp 26)], V.t_impl_Record⟩ r
def tlActs (E : Env) (V : EnvV) : HT := tl23 E V (tl26 E V (tl27 V (tl5 E V (tlStore E V))) (tl5 E V (tl26 E V (tl27 V (tlStore E V)) .stop))) (tl5 E V (tl23 E V (tl26 E V (tl27 V (tlStore E V)) .stop) .stop))
def tlTree (E : Env) (V : EnvV) : HT :=
  .free ⟨none, some 13, .fieldAddr V.t_kmsg_Record (.tmp 4) 0, E.tNil⟩ (.free ⟨none, some 14, .load E.tI32 (.tmp 13), E.tI32⟩ (.free ⟨none, some 15, .fieldAddr V.t_kmsg_Record (.tmp 4) 1, E.tNil⟩ (.free ⟨none, some 16, .load E.tI8 (.tmp 15), E.tI8⟩
  (.free ⟨none, some 17, .fieldAddr V.t_kmsg_Record (.tmp 4) 3, E.tNil⟩ (.free ⟨none, some 18, .load E.tI64 (.tmp 17), E.tI64⟩ (.free ⟨none, some 19, .fieldAddr V.t_kmsg_Record (.tmp 4) 4, E.tNil⟩ (.free ⟨none, some 20, .load E.tI32 (.tmp 19), E.tI32⟩
  (.free ⟨none, some 21, .fieldAddr V.t_kmsg_Record (.tmp 4) 5, E.tNil⟩ (.free ⟨none, some 22, .load E.tBs (.tmp 21), E.tBs⟩ (.free ⟨none, some 24, .fieldAddr V.t_kmsg_Record (.tmp 4) 6, E.tNil⟩ (.free ⟨none, some 25, .load E.tBs (.tmp 24), E.tBs⟩ (tlActs E V))))))))))))
section
variable {P : Program} {E : Env} {V : EnvV} (ht : TyV P E V)
include ht
theorem c_tlTree (hO : OctC P V) {Q : (Nat → Value) → World → Prop} {w4 : World} {b4 : Nat} {K : Nat → Prop} {r : RecV} {td : Int} {kv vv hv : Value} {f : Nat → Value} (hb4 : w4.heap[b4]? = some (.cells #[.int .i32 r.len, .int .i8 r.attr, .int .i32 td, .int .i64 r.delta, .int .i32 r.off, kv, vv, hv] V.t_kmsg_Record (0, 0)))
    (hkv : BytesOpt w4 K kv r.key) (hvv : BytesOpt w4 K vv r.val) (hkl : (r.key.getD []).length ≤ 1099511627776) (hvl : (r.val.getD []).length ≤ 1099511627776) (f4 : f 4 = .pointer (some ⟨b4, 0, none⟩))
    (q : ∀ f' b5 w' n1 d1 n2 d2, (∀ k, k < 13 → k ≠ 5 → f' k = f k) → f' 5 = .pointer (some ⟨b5, 0, none⟩) → w4.heap.size ≤ b5 → w'.heap[b5]? = some (.cells #[.int .i32 r.len, .int .i8 r.attr, .int .i64 r.delta, .int .i32 r.off, n1, d1, n2, d2, .slice none 0 0] V.t_impl_Record (0, 0)) →
      OvT n1 d1 n2 d2 r.key r.val w' (fun b => b ≠ b5) () → Ext none1 w4 w' → Q f' w') : (tlTree E V).cw P (Ext none1 w4) Q f w4 := by
  have hx0 := Ext.refl none1 w4
  have c : ∀ (i : Nat) u, #[Value.int .i32 r.len, .int .i8 r.attr, .int .i32 td, .int .i64 r.delta, .int .i32 r.off, kv, vv, hv][i]? = some u → ∀ w', Ext none1 w4 w' → w'.cell? ⟨b4, i, none⟩ = some u := fun i u hu w' he => by rw [cell_of_blk (he.old hb4 (fun h => h))]; exact hu
  have c0 := c 0 _ rfl
  have c1 := c 1 _ rfl
  have c3 := c 3 _ rfl
  have c4 := c 4 _ rfl
  have c5 := c 5 _ rfl
  have c6 := c 6 _ rfl
  have oct1 : ∀ w7, Ext none1 w4 w7 → Ret P V.f_impl_octets #[kv] w7 fun v' w' => ∃ n' d', v' = .agg #[n', d'] ∧ OcAt w' (NewB w7) n' d' r.key ∧ Ext none1 w7 w' := fun w7 he => hO w7 K kv r.key (BytesOpt.extV hkv he (by simp [none1])) hkl
  have oct2 : ∀ w7, Ext none1 w4 w7 → Ret P V.f_impl_octets #[vv] w7 fun v' w' => ∃ n' d', v' = .agg #[n', d'] ∧ OcAt w' (NewB w7) n' d' r.val ∧ Ext none1 w7 w' := fun w7 he => hO w7 K vv r.val (BytesOpt.extV hvv he (by simp [none1])) hvl
  -- the store
  have fin : ∀ (f' : Nat → Value) (w8 : World) (b5 : Nat) n1 d1 n2 d2, Ext none1 w4 w8 → (∀ k, k < 13 → k ≠ 5 → f' k = f k) → f' 5 = .pointer (some ⟨b5, 0, none⟩) → w4.heap.size ≤ b5 → w8.heap[b5]? = some (.cells #[.int .i32 0, .int .i8 0, .int .i64 0, .int .i32 0, .bool false, .slice none 0 0, .bool false, .slice none 0 0, .slice none 0 0] V.t_impl_Record (0, 0)) →
      f' 27 = .agg #[.int .i32 r.len, .int .i8 r.attr, .int .i64 r.delta, .int .i32 r.off, n1, d1, n2, d2, .slice none 0 0] → OcAt w8 (fun b => b ≠ b5) n1 d1 r.key → OcAt w8 (fun b => b ≠ b5) n2 d2 r.val → (tlStore E V).cw P (Ext none1 w4) Q f' w8 := by
    intro f' w8 b5 n1 d1 n2 d2 he8 fk g5 hle hb5 g27 o1 o2
    have hone : allOne [Value.int .i32 r.len, .int .i8 r.attr, .int .i64 r.delta, .int .i32 r.off, n1, d1, n2, d2, .slice none 0 0] = true := by
      obtain ⟨x1, l1, rfl, hd1, _⟩ := o1
      obtain ⟨x2, l2, rfl, hd2, _⟩ := o2
      obtain ⟨_, _, rfl, _⟩ := hd1.len
      obtain ⟨_, _, rfl, _⟩ := hd2.len
      rfl
    have hov : over #[.int .i32 0, .int .i8 0, .int .i64 0, .int .i32 0, .bool false, .slice none 0 0, .bool false, .slice none 0 0, .slice none 0 0] 0 [Value.int .i32 r.len, .int .i8 r.attr, .int .i64 r.delta, .int .i32 r.off, n1, d1, n2, d2, .slice none 0 0] = #[.int .i32 r.len, .int .i8 r.attr, .int .i64 r.delta, .int .i32 r.off, n1, d1, n2, d2, .slice none 0 0] := rfl
    simp only [tlStore, ht_act, ht_stop, and_true, ht_done]
    simp [g5, g27, store_agg ht.kIR, hone, putK_blk hb5, hov]
    have hs9 : Ext none1 w4 (w8.setBlk b5 (.cells #[.int .i32 r.len, .int .i8 r.attr, .int .i64 r.delta, .int .i32 r.off, n1, d1, n2, d2, .slice none 0 0] V.t_impl_Record (0, 0))) := he8.setBlk (.inl hle) _
    have hx9 : Ext (fun x => x = b5) w8 (w8.setBlk b5 (.cells #[.int .i32 r.len, .int .i8 r.attr, .int .i64 r.delta, .int .i32 r.off, n1, d1, n2, d2, .slice none 0 0] V.t_impl_Record (0, 0))) := (Ext.refl (fun x => x = b5) w8).setBlk (.inr rfl) _
    exact ⟨hs9, q _ b5 _ n1 d1 n2 d2 fk g5 hle (setBlk_same hb5) ⟨o1.ext hx9 (fun k _ hk e => hk e), o2.ext hx9 (fun k _ hk e => hk e)⟩ hs9⟩
  have hcc : ∀ l : Array Value, (Value.agg l).cells = l := fun _ => rfl
  have key : ∀ g : Nat → Value, (∀ k, k < 13 → k ≠ 5 → g k = f k) → g 14 = .int .i32 r.len → g 16 = .int .i8 r.attr → g 18 = .int .i64 r.delta → g 20 = .int .i32 r.off → g 22 = kv → g 25 = vv → (tlActs E V).cw P (Ext none1 w4) Q g w4 := by
    intro g gk g14 g16 g18 g20 g22 g25
    simp only [tlActs, tl23, ht_act]
    refine ⟨?_, ?_⟩
    · simp [g22]
      refine (oct1 w4 hx0).mono ?_
      rintro _ w5 ⟨n1, d1, rfl, o1, he5⟩
      refine ⟨he5, ?_⟩
      simp only [tl26, ht_act]
      refine ⟨?_, ?_⟩
      · simp [g25]
        refine (oct2 w5 he5).mono ?_
        rintro _ w6 ⟨n2, d2, rfl, o2, he6⟩
        have he46 := he5.trans he6
        refine ⟨he46, ?_⟩
        simp [tl27, g14, g16, g18, g20, bld_ir ht, tl5, ht.zIR, zc9]
        refine ⟨he46.alloc _, ?_⟩
        refine fin _ _ w6.heap.size n1 d1 n2 d2 (he46.alloc _) (fun k hk h5 => by simp [show ¬ k = 23 by omega, show ¬ k = 26 by omega, show ¬ k = 27 by omega, h5, gk k hk h5]) (by simp) he46.size alloc_new (by simp) ?_ ?_
        · exact (OcAt.mono ((o1.ext he6 (by simp [none1])).here) (fun b hb => by have := hb.2; omega)).ext ((Ext.refl none1 w6).alloc _) (by simp [none1])
        · exact (OcAt.mono o2.here (fun b hb => by have := hb.2; omega)).ext ((Ext.refl none1 w6).alloc _) (by simp [none1])
      · simp only [tl5, ht_act, ht_stop, and_true]
        simp [ht.zIR, zc9]
        have ha5 := he5.alloc (.cells #[.int .i32 0, .int .i8 0, .int .i64 0, .int .i32 0, .bool false, .slice none 0 0, .bool false, .slice none 0 0, .slice none 0 0] V.t_impl_Record)
        refine ⟨ha5, ?_⟩
        simp [g25]
        refine (oct2 _ ha5).mono ?_
        rintro _ w6 ⟨n2, d2, rfl, o2, he6⟩
        have he46 := ha5.trans he6
        refine ⟨he46, ?_⟩
        simp [tl27, g14, g16, g18, g20, bld_ir ht]
        refine fin _ _ w5.heap.size n1 d1 n2 d2 he46 (fun k hk h5 => by simp [show ¬ k = 23 by omega, show ¬ k = 26 by omega, show ¬ k = 27 by omega, h5, gk k hk h5]) (by simp) he5.size (he6.old alloc_new (fun h => h)) (by simp) ?_ ?_
        · exact (OcAt.mono o1.here (fun b hb => by have := hb.2; omega)).ext (((Ext.refl none1 w5).alloc _).trans he6) (by simp [none1])
        · refine OcAt.mono o2 (fun b hb => ?_)
          have : w5.heap.size + 1 ≤ b := by simpa [NewB] using hb
          omega
    · simp only [tl5, ht_act, ht_stop, and_true]
      simp [ht.zIR, zc9]
      have ha5 := hx0.alloc (.cells #[.int .i32 0, .int .i8 0, .int .i64 0, .int .i32 0, .bool false, .slice none 0 0, .bool false, .slice none 0 0, .slice none 0 0] V.t_impl_Record)
      refine ⟨ha5, ?_⟩
      simp [g22]
      refine (oct1 _ ha5).mono ?_
      rintro _ w5 ⟨n1, d1, rfl, o1, he5⟩
      have he45 := ha5.trans he5
      refine ⟨he45, ?_⟩
      simp only [tl26, ht_act, ht_stop, and_true]
      simp [g25]
      refine (oct2 w5 he45).mono ?_
      rintro _ w6 ⟨n2, d2, rfl, o2, he6⟩
      have he46 := he45.trans he6
      refine ⟨he46, ?_⟩
      simp [tl27, g14, g16, g18, g20, bld_ir ht]
      refine fin _ _ w4.heap.size n1 d1 n2 d2 he46 (fun k hk h5 => by simp [show ¬ k = 23 by omega, show ¬ k = 26 by omega, show ¬ k = 27 by omega, h5, gk k hk h5]) (by simp) (Nat.le_refl _) ((he5.trans he6).old alloc_new (fun h => h)) (by simp) ?_ ?_
      · refine (OcAt.mono o1 (fun b hb => ?_)).ext he6 (by simp [none1])
        have : w4.heap.size + 1 ≤ b := by simpa [NewB] using hb
        omega
      · refine OcAt.mono o2 (fun b hb => ?_)
        have h1 := he5.size
        have : w5.heap.size ≤ b := hb
        simp at h1
        omega
  simp only [tlTree]
  generalize hA : tlActs E V = A at key ⊢
  simp +contextual [f4, ht.kr0, ht.kr1, ht.kr3, ht.kr4, ht.kr5, ht.kr6, Addr.add_mk, ld_scl ht.kI32, ld_scl ht.kI8, ld_scl ht.kI64, ld_scl ht.rs.kBs, c0, c1, c3, c4, c5, c6, c0 w4 hx0, c1 w4 hx0, c3 w4 hx0, c4 w4 hx0, c5 w4 hx0, c6 w4 hx0]
  refine key _ ?_ ?_ ?_ ?_ ?_ ?_ ?_
  · intro k hk h5
    simp [show ¬ k = 13 by omega, show ¬ k = 14 by omega, show ¬ k = 15 by omega, show ¬ k = 16 by omega, show ¬ k = 17 by omega, show ¬ k = 18 by omega, show ¬ k = 19 by omega, show ¬ k = 20 by omega, show ¬ k = 21 by omega, show ¬ k = 22 by omega, show ¬ k = 24 by omega, show ¬ k = 25 by omega]
  all_goals simp
end
def thTail (E : Env) (V : EnvV) : HT :=
  .act ⟨none, some 44, .call { callee := .builtin .append, args := #[.tmp 36, .tmp 43], argTypes := #[V.t_l_impl_Header, V.t_l_impl_Header] }, V.t_l_impl_Header⟩
    (.free ⟨none, some 45, .fieldAddr V.t_impl_Record (.tmp 5) 6, E.tNil⟩ (.act ⟨none, none, .store V.t_l_impl_Header (.tmp 45) (.tmp 44), E.tNil⟩ .done .stop)) .stop
def th41 (E : Env) (V : EnvV) (r alt : HT) : HT := .act ⟨none, some 41, .call { callee := .value (.func V.f_impl_octets), args := #[.tmp 40], argTypes := #[E.tBs] }, V.t_impl_Octets⟩ (.free ⟨none, some 42, .build V.t_impl_Header #[(0, .tmp 38), (1, .tmp 41)], V.t_impl_Header⟩ r) alt
def th43 (V : EnvV) (r alt : HT) : HT := .act ⟨none, some 43, .buildSlice V.t_l_impl_Header 1 #[(0, .tmp 42)], V.t_l_impl_Header⟩ r alt
def th36 (V : EnvV) (r alt : HT) : HT := .act ⟨none, some 36, .load V.t_l_impl_Header (.tmp 35), V.t_l_impl_Header⟩ r alt
def thA (E : Env) (V : EnvV) : HT := th41 E V (th43 V (thTail E V) .stop) .stop
def thB (E : Env) (V : EnvV) : HT := th41 E V (th36 V (th43 V (thTail E V) .stop) (th43 V (th36 V (thTail E V) .stop) .stop)) .stop
def thTree (E : Env) (V : EnvV) : HT :=
  .free ⟨none, some 35, .fieldAddr V.t_impl_Record (.tmp 5) 6, E.tNil⟩ (.free ⟨none, some 37, .fieldAddr V.t_kmsg_Header (.tmp 7) 0, E.tNil⟩ (.free ⟨none, some 38, .load E.tS (.tmp 37), E.tS⟩
    (.free ⟨none, some 39, .fieldAddr V.t_kmsg_Header (.tmp 7) 1, E.tNil⟩ (.free ⟨none, some 40, .load E.tBs (.tmp 39), E.tBs⟩ (th36 V (thA E V) (thB E V))))))
section
variable {P : Program} {E : Env} {V : EnvV} (ht : TyV P E V)
include ht
theorem c_thTail {R : World → (Nat → Prop) → List Value × HdV → Prop} {T : World → (Nat → Prop) → Unit → Prop} (hR : Stays R) (hT : Stays T) {S : World → Prop} {Q : (Nat → Value) → World → Prop} {w w6 wb : World} {b5 nb b7 : Nat} {cur : Array Value} {hs : List HdV} {hv : Value} {xs : List Value} {cs : List Value} {x : HdV} {H : Obj} {f : Nat → Value}
    (G : GrowAt V.t_impl_Header 3 R T w w6 b5 cur V.t_impl_Record 8 hs hv xs) (hc8 : 8 < cur.size) (he : Ext none1 w6 wb) (hS : ∀ w', w'.heap[b7]? = some H → S w') (h7 : w6.heap[b7]? = some H) (h75 : b7 ≠ b5) (h7o : ¬ own1 hv b7)
    (f5 : f 5 = .pointer (some ⟨b5, 0, none⟩)) (f36 : f 36 = hv) (f43 : f 43 = .slice (some ⟨nb, 0, none⟩) 1 1) (hnb : CellsAt wb nb 0 cs) (hl : cs.length = 3) (h1 : ∀ u ∈ cs, u.oneCell' = true) (hx : R wb (fun b => w6.heap.size ≤ b) (cs, x)) (hmx : hs.length ≤ 1000000)
    (q : ∀ f' v' w', (∀ k, k < 43 → f' k = f k) → GrowAt V.t_impl_Header 3 R T w w' b5 cur V.t_impl_Record 8 (hs ++ [x]) v' (xs ++ cs) → Q f' w') : (thTail E V).cw P S Q f wb := by
  simp only [thTail, ht_act, ht_free, ht_stop, and_true]
  have hxl : xs.length = hs.length * 3 := G.row.1
  refine st_append ht.sI (by omega) (x := .tmp 36) (y := .tmp 43) (base := w.heap.size) (xs := xs) ?_ (ad := some ⟨nb, 0, none⟩) (m := 1) (c := 1) (news := cs) ?_ (by omega) (by simp) ?_ h1 (by simp only [maxLen]; omega) (by omega) (Nat.le_trans G.ext.size he.size) ?_
  · rw [evF_tmp, f36]; exact Own.ext G.own he (fun _ _ h => h)
  · rw [evF_tmp, f43]
  · intro a ha j u hj
    cases ha
    rw [Addr.add_mk]
    exact hnb j u hj
  intro v' w' ho hg
  rw [evF_tmp, f36] at hg
  obtain ⟨hb2, G2⟩ := G.step hR hT he hl hx ho hg
  have hb7 : w'.heap[b7]? = some H := hg.ext.old (he.old h7 (fun h => h)) h7o
  have hv1 : v'.oneCell' = true := by
    obtain ⟨n, _, h | ⟨g, cap, cur', h, _⟩⟩ := ho
    · rw [h.1]; rfl
    · rw [h]; rfl
  refine ⟨hS _ hb7, ?_⟩
  simp [f5, ht.ir6, Addr.add_mk, store_scl ht.kLI, put1K_blk hb2, hv1, hc8]
  refine ⟨hS _ (by rw [setBlk_other h75]; exact hb7), ?_⟩
  refine q _ v' _ ?_ G2
  intro k hk
  simp [show ¬ k = 44 by omega, show ¬ k = 45 by omega]
theorem c_thTree (hN : OctC P V) {T : World → (Nat → Prop) → Unit → Prop} (hT : Stays T) {Q : (Nat → Value) → World → Prop} {w w6 : World} {b5 b7 : Nat} {cur : Array Value} {hs : List HdV} {hv : Value} {xs : List Value} {x : HdV} {d : Value} {K : Nat → Prop} {f : Nat → Value}
    (G : GrowAt V.t_impl_Header 3 (fun w K p => IHd w K p.1 p.2) T w w6 b5 cur V.t_impl_Record 8 hs hv xs) (hc8 : 8 < cur.size) (h7 : w6.heap[b7]? = some (.cells #[strV x.1, d] V.t_kmsg_Header (0, 0))) (h75 : b7 ≠ b5) (h7o : ¬ own1 hv b7)
    (f5 : f 5 = .pointer (some ⟨b5, 0, none⟩)) (f7 : f 7 = .pointer (some ⟨b7, 0, none⟩)) (ho : BytesOpt w6 K d x.2) (hlx : (x.2.getD []).length ≤ 1099511627776) (hmx : hs.length ≤ 1000000)
    (q : ∀ f' v' w' cs, (∀ k, k < 35 → f' k = f k) → GrowAt V.t_impl_Header 3 (fun w K p => IHd w K p.1 p.2) T w w' b5 cur V.t_impl_Record 8 (hs ++ [x]) v' (xs ++ cs) → Q f' w') :
    (thTree E V).cw P (fun w' => w'.heap[b7]? = some (.cells #[strV x.1, d] V.t_kmsg_Header (0, 0))) Q f w6 := by
  have c8 : ∀ w', Ext none1 w6 w' → w'.cell? ⟨b5, 8, none⟩ = some hv := fun w' he => by rw [cell_of_blk (he.old G.blk (fun h => h))]; simp [hc8]
  have r0 : ∀ w' : World, w'.heap[b7]? = some (.cells #[strV x.1, d] V.t_kmsg_Header (0, 0)) → w'.cell? ⟨b7, 0, none⟩ = some (strV x.1) := fun w' h => by rw [cell_of_blk h]; rfl
  have r1 : ∀ w' : World, w'.heap[b7]? = some (.cells #[strV x.1, d] V.t_kmsg_Header (0, 0)) → w'.cell? ⟨b7, 1, none⟩ = some d := fun w' h => by rw [cell_of_blk h]; rfl
  have hx0 := Ext.refl none1 w6
  have fin : ∀ (f' : Nat → Value) (w8 : World) n dv, Ext none1 w6 w8 → OcAt w8 (NewB w6) n dv x.2 → (∀ k, k < 35 → f' k = f k) → f' 36 = hv → f' 43 = .slice (some ⟨w8.heap.size, 0, none⟩) 1 1 →
      (thTail E V).cw P (fun w' => w'.heap[b7]? = some (.cells #[strV x.1, d] V.t_kmsg_Header (0, 0))) Q f' (w8.alloc (.cells #[strV x.1, n, dv] V.t_impl_Header)) := by
    intro f' w8 n dv he8 hdv hk35 g36 g43
    have ha : Ext none1 w8 (w8.alloc (.cells #[strV x.1, n, dv] V.t_impl_Header)) := (Ext.refl _ _).alloc _
    have hdv0 := hdv
    obtain ⟨bb, ll, hn, hd, _⟩ := hdv0
    obtain ⟨a1, c1, hdvs, _⟩ := hd.len
    refine c_thTail ht stays_IHd hT (cs := [strV x.1, n, dv]) (x := x) (H := .cells #[strV x.1, d] V.t_kmsg_Header (0, 0)) G hc8 (he8.trans ha) (fun w' h => h) h7 h75 h7o ((hk35 5 (by omega)).trans f5) g36 g43 ?_ rfl ?_ ⟨n, dv, rfl, hdv.ext ha (by simp [none1])⟩ hmx ?_
    · intro j u hj
      rw [cell_of_blk alloc_new]
      simpa using hj
    · intro u hu
      simp at hu
      rcases hu with rfl | rfl | rfl
      · rfl
      · rw [hn]; rfl
      · rw [hdvs]; rfl
    · intro f2 v' w' hk2 G2
      exact q f2 v' w' _ (fun k hk => (hk2 k (by omega)).trans (hk35 k hk)) G2
  have oct : ∀ w7, Ext none1 w6 w7 → Ret P V.f_impl_octets #[d] w7 fun v' w' => ∃ n' d', v' = .agg #[n', d'] ∧ OcAt w' (NewB w6) n' d' x.2 ∧ Ext none1 w7 w' := fun w7 he => (hN w7 K d x.2 (BytesOpt.extV ho he (by simp [none1])) hlx).mono (fun v' w' ⟨n', d', h1, h2, h3⟩ => ⟨n', d', h1, h2.mono (fun b hb => Nat.le_trans he.size hb), h3⟩)
  have key : ∀ g : Nat → Value, (∀ k, k < 35 → g k = f k) → g 35 = .pointer (some ⟨b5, 8, none⟩) → g 38 = strV x.1 → g 40 = d →
      (th36 V (thA E V) (thB E V)).cw P (fun w' => w'.heap[b7]? = some (.cells #[strV x.1, d] V.t_kmsg_Header (0, 0))) Q g w6 := by
    intro g gk g35 g38 g40
    have s43 : ∀ (n dv : Value) (w8 : World) (g' : Nat → Value) (ty : TypeId) (K' : Value → World → Prop), g' 42 = .agg #[strV x.1, n, dv] →
        stepF P g' (.buildSlice V.t_l_impl_Header 1 #[(0, .tmp 42)]) ty w8 K' = K' (.slice (some ⟨w8.heap.size, 0, none⟩) 1 1) (w8.alloc (.cells #[strV x.1, n, dv] V.t_impl_Header)) := by
      intro n dv w8 g' ty K' h
      rw [st_bsl (parts := #[(0, Operand.tmp 42)]) (n := 1) ht.sI (by omega) rfl rfl (by omega) (by omega) (by simp [allSz, h, Value.cells])]
      simp [flat, h, Value.cells]
    simp only [th36, ht_act]
    refine ⟨?_, ?_⟩
    · simp [g35, ld_scl ht.kLI, c8 w6 hx0, h7]
      simp only [thA, th41, th43, ht_act, ht_stop, and_true]
      simp [g40]
      refine (oct w6 hx0).mono ?_
      rintro _ w8 ⟨n, dv, rfl, hdv, he8⟩
      have h78 := he8.old h7 (fun h => h)
      simp [h78, g38, bld_ih ht]
      rw [s43 n dv _ _ _ _ (by simp)]
      refine ⟨((Ext.refl none1 w8).alloc _).old h78 (fun h => h), ?_⟩
      exact fin _ w8 n dv he8 hdv (fun k hk => by simp [show ¬ k = 36 by omega, show ¬ k = 41 by omega, show ¬ k = 42 by omega, show ¬ k = 43 by omega, gk k hk]) (by simp) (by simp)
    · simp only [thB, th41, ht_act, ht_stop, and_true]
      simp [g40]
      refine (oct w6 hx0).mono ?_
      rintro _ w8 ⟨n, dv, rfl, hdv, he8⟩
      have h78 := he8.old h7 (fun h => h)
      simp [h78, g38, bld_ih ht]
      simp only [th36, th43, ht_act, ht_stop, and_true]
      refine ⟨?_, ?_⟩
      · simp [g35, ld_scl ht.kLI, c8 w8 he8, h78]
        rw [s43 n dv _ _ _ _ (by simp)]
        refine ⟨((Ext.refl none1 w8).alloc _).old h78 (fun h => h), ?_⟩
        exact fin _ w8 n dv he8 hdv (fun k hk => by simp [show ¬ k = 36 by omega, show ¬ k = 41 by omega, show ¬ k = 42 by omega, show ¬ k = 43 by omega, gk k hk]) (by simp) (by simp)
      · simp
        rw [s43 n dv _ _ _ _ (by simp)]
        have h79 := ((Ext.refl none1 w8).alloc (.cells #[strV x.1, n, dv] V.t_impl_Header)).old h78 (fun h => h)
        refine ⟨h79, ?_⟩
        simp [g35, ld_scl ht.kLI, c8 _ (he8.trans ((Ext.refl none1 w8).alloc _)), h79]
        exact fin _ w8 n dv he8 hdv (fun k hk => by simp [show ¬ k = 36 by omega, show ¬ k = 41 by omega, show ¬ k = 42 by omega, show ¬ k = 43 by omega, gk k hk]) (by simp) (by simp)
  simp only [thTree]
  generalize hA : th36 V (thA E V) (thB E V) = A at key ⊢
  simp +contextual [f5, f7, ht.ir6, ht.kh0, ht.kh1, Addr.add_mk, ld_scl ht.rs.kS, ld_scl ht.rs.kBs, r0, r1, r0 w6 h7, r1 w6 h7]
  refine key _ ?_ ?_ ?_ ?_
  · intro k hk
    simp [show ¬ k = 35 by omega, show ¬ k = 37 by omega, show ¬ k = 38 by omega, show ¬ k = 39 by omega, show ¬ k = 40 by omega]
  all_goals simp
def ThInv (V : EnvV) (r : RecV) (n1 d1 n2 d2 hvK : Value) (w4 : World) (b1 b5 : Nat) (f : Nat → Value) (w' : World) : Prop :=
  ∃ i hv xs, i ≤ r.hs.length ∧ f 2 = .pointer (some ⟨b1, 0, none⟩) ∧ f 5 = .pointer (some ⟨b5, 0, none⟩) ∧ f 29 = hvK ∧ f 30 = .int .i64 r.hs.length ∧ f 31 = .int .i64 i ∧
    GrowAt V.t_impl_Header 3 (fun w K p => IHd w K p.1 p.2) (OvT n1 d1 n2 d2 r.key r.val) w4 w' b5 #[.int .i32 r.len, .int .i8 r.attr, .int .i64 r.delta, .int .i32 r.off, n1, d1, n2, d2, .slice none 0 0] V.t_impl_Record 8 (r.hs.take i) hv xs
def TlPost (w : World) (s : List UInt8) (u : Value) (w' : World) : Prop := Ext none1 w w' ∧ ∃ cs ok nn, u = .tuple #[.agg cs.toArray, .bool ok] ∧ cs.length = 9 ∧ allOne cs = true ∧ ok = !(rdRec ⟨s, false, nn⟩).2.bad ∧ (ok = true → IRec w' All cs (rdRec ⟨s, false, nn⟩).1)
set_option maxHeartbeats 1000000 in
theorem c_Tell (hI : FnIs P V.f_impl_TellRecord nt_impl_TellRecord (rs_impl_TellRecord E V) (ir_impl_TellRecord E V)) (hOw : OwnC P E V) (hO : OctC P V) (hRF : ReadC P E V V.f_pkmsg_Record_ReadFrom []) : ∀ w K v s ty eu, BytesAt w K v s → s.length ≤ 1099511627776 →
    w.cell? ⟨E.g_kbin_ErrNotEnoughData, 0, none⟩ = some (.iface ty eu) → (∀ nn, (rdRec ⟨s, false, nn⟩).2.bad = false → (rdRec ⟨s, false, nn⟩).1.fit ∧ (rdRec ⟨s, false, nn⟩).1.hs.length ≤ 1000000) →
    Ret P V.f_impl_TellRecord #[v] w (TlPost w s) := by
  intro w K v s ty eu hv hsz herr hfits
  refine hI.call (args := [_]) (by simp [nt_impl_TellRecord]) ?_
  simp only [ir_impl_TellRecord, rs_impl_TellRecord, cw_seq]
  have hcc : ∀ l : Array Value, (Value.agg l).cells = l := fun _ => rfl
  generalize hz9 : (#[.int .i32 0, .int .i8 0, .int .i64 0, .int .i32 0, .bool false, .slice none 0 0, .bool false, .slice none 0 0, .slice none 0 0] : Array Value) = z9
  have hz9s : z9.size = 9 := by rw [← hz9]; rfl
  refine cw_then (fun f w1 => f 0 = v ∧ f 2 = .pointer (some ⟨w.heap.size, 0, none⟩) ∧ w1 = w.alloc (.cells z9 V.t_impl_Record)) ?_ ?_
  · simp [ht.zIR, hcc, meet, hz9]
  rintro f w1 ⟨f0, f2, hw1⟩
  obtain ⟨hE1, hb1⟩ := box_rec hw1.symm
  have hs1 : w1.heap.size = w.heap.size + 1 := by rw [hw1]; simp
  rw [cw_seq]
  refine cw_then (fun f w2 => f 0 = v ∧ f 2 = .pointer (some ⟨w.heap.size, 0, none⟩) ∧ f 4 = .pointer (some ⟨w1.heap.size, 0, none⟩) ∧ w2 = w1.alloc (.cells kr0 V.t_kmsg_Record)) ?_ ?_
  · simp [ht.zKR, hcc, meet, f0, f2, kr0]
  clear f0 f2 f
  rintro f w2 ⟨f0, f2, f4, hw2⟩
  obtain ⟨hE2, hb2⟩ := box_rec hw2.symm
  have hs2 : w2.heap.size = w1.heap.size + 1 := by rw [hw2]; simp
  have hE12 := hE1.trans hE2
  rw [cw_seq]
  simp [f0, f4]
  refine (hOw w2 K v s (hv.ext hE12 (by simp [none1])) hsz).mono ?_
  rintro sv w3 hf
  have hb23 := hf.2.old hb2 (fun h => h)
  have hb13 := (hE2.trans hf.2).old hb1 (fun h => h)
  obtain ⟨D, hDl, hDc, hsv⟩ := own_one hf.1 (D0 := w.heap.size) (by have := hf.2.size; omega)
  have hE13 := hE12.trans hf.2
  have herr3 : w3.cell? ⟨E.g_kbin_ErrNotEnoughData, 0, none⟩ = some (.iface ty eu) := hE13.cell herr (fun h => h)
  have hgw := World.block_lt_of_cell? w _ herr
  have hgw' : E.g_kbin_ErrNotEnoughData < w.heap.size := hgw
  refine (hRF w3 w1.heap.size D sv s _ hb23 hsv (by omega) hDl herr3 (by omega)).mono ?_
  rintro ve w4 ⟨hE4, hve, hrec⟩
  obtain ⟨ms, hms⟩ := ht.uErr
  have hb14 := hE4.old hb13 (by omega)
  have hE04 : Ext none1 w w4 := hE13.trans' hE4 (fun x hx e => by omega)
  cases hbad : (rdRec ⟨s, false, nonNil sv⟩).2.bad with
  | true =>
    rw [hbad] at hve
    simp at hve
    subst hve
    simp [bin_nnil_iface hms]
    refine cw_true (by simp) ?_
    have hov : over z9 0 z9.toList = z9 := by
      rw [← hz9]; rfl
    have hone : allOne z9.toList = true := by rw [← hz9]; rfl
    have hb0 := bld_ir0 ht
    rw [hz9] at hb0
    simp [f2, hb0, store_agg ht.kIR, hz9s, hone, putK_blk hb14, hov]
    generalize hw5 : w4.setBlk w.heap.size (.cells z9 V.t_impl_Record (0, 0)) = w5
    have hb5 : w5.heap[w.heap.size]? = some (.cells z9 V.t_impl_Record (0, 0)) := by rw [← hw5]; exact setBlk_same hb14
    have hE5 : Ext none1 w w5 := by rw [← hw5]; exact hE04.setBlk (.inl (Nat.le_refl _)) _
    have x5 : cellsFrom w5 ⟨w.heap.size, 0, none⟩ 0 9 = some z9.toList := by
      rw [cellsFrom_blk hb5 0 9 (by omega)]
      have := List.take_of_length_le (l := z9.toList) (i := 9) (by simp [hz9s])
      simpa using this
    simp [ld_agg ht.kIR, x5]
    exact ⟨hE5, z9.toList, false, nonNil sv, by simp, by simp [hz9s], hone, by simp [hbad], by simp⟩
  | false =>
    rw [hbad] at hve
    simp at hve
    subst hve
    obtain ⟨ck, hbk, hK⟩ := hrec hbad
    obtain ⟨hfit, hmx⟩ := hfits _ hbad
    generalize hrr : (rdRec ⟨s, false, nonNil sv⟩).1 = r at hK hfit hmx
    obtain ⟨td, kv, vv, hvK, rfl, hkv, hvv, hls⟩ := KRec.forms ht hK
    obtain ⟨aK, cK, rfl, _⟩ := hls.len
    have hnl := hfit.hn
    simp [bin_nnil_nil hms]
    refine cw_false (by simp) ?_
    refine cw_skip.mpr ?_
    simp only [thenF]
    rw [cw_seq]
    have hD4 := (Ext.refl none1 w4).drew
    refine cw_then (fun f w5 => ∃ b5 n1 d1 n2 d2, f 2 = .pointer (some ⟨w.heap.size, 0, none⟩) ∧ f 4 = .pointer (some ⟨w1.heap.size, 0, none⟩) ∧ f 5 = .pointer (some ⟨b5, 0, none⟩) ∧
      GrowAt V.t_impl_Header 3 (fun w K p => IHd w K p.1 p.2) (OvT n1 d1 n2 d2 r.key r.val) w4 w5 b5 #[.int .i32 r.len, .int .i8 r.attr, .int .i64 r.delta, .int .i32 r.off, n1, d1, n2, d2, .slice none 0 0] V.t_impl_Record 8 [] (.slice none 0 0) []) ?_ ?_
    · refine cw_regT (t := tlTree E V) (Ext none1 w4.drew) (Ext.refl _ _) ?_
      refine c_tlTree ht hO (b4 := w1.heap.size) (r := r) (td := td) (kv := kv) (vv := vv) (hv := .slice aK r.hs.length cK) (K := fun k => k = D ∨ w3.heap.size ≤ k) hbk (BytesOpt.extV hkv hD4 (by simp [none1])) (BytesOpt.extV hvv hD4 (by simp [none1])) (by have := hfit.key; omega) (by have := hfit.val; omega) (by simp [f4]) ?_
      intro f' b5 w5 n1 d1 n2 d2 hk' g5 hle hb5 hT hE5
      refine ⟨b5, n1, d1, n2, d2, by rw [hk' 2 (by omega) (by omega)]; simp [f2], by rw [hk' 4 (by omega) (by omega)]; simp [f4], g5, ⟨hb5, Own.nil _ _ _ _, RowOf.nil, ?_, by simp [own1, Value.ownBlock], hD4.trans hE5, hle⟩⟩
      exact stays_OvT.mono (stays_OvT.here hT) (fun b hb => ⟨hb.2, by simp [own1, Value.ownBlock], hb.1⟩)
    clear f0 f2 f4 f
    rintro f w5 ⟨b5, n1, d1, n2, d2, f2, f4, f5, G⟩
    have hbk5 := G.ext.old hbk (fun h => h)
    have ck7 : w5.cell? ⟨w1.heap.size, 7, none⟩ = some (.slice aK r.hs.length cK) := by rw [cell_of_blk hbk5]; rfl
    rw [cw_seq]
    refine cw_then (fun f w6 => ∃ hv xs, f 2 = .pointer (some ⟨w.heap.size, 0, none⟩) ∧ f 5 = .pointer (some ⟨b5, 0, none⟩) ∧
      GrowAt V.t_impl_Header 3 (fun w K p => IHd w K p.1 p.2) (OvT n1 d1 n2 d2 r.key r.val) w4 w6 b5 #[.int .i32 r.len, .int .i8 r.attr, .int .i64 r.delta, .int .i32 r.off, n1, d1, n2, d2, .slice none 0 0] V.t_impl_Record 8 r.hs hv xs) ?_ ?_
    · simp [f4, ht.kr7, Addr.add_mk, ld_scl ht.kLK, ck7, len_slice ht.sK.und]
      refine cw_loop (ThInv V r n1 d1 n2 d2 (.slice aK r.hs.length cK) w4 w.heap.size b5) (fun f _ => match f 31 with | .int _ i => ((r.hs.length : Int) - i).toNat | _ => 0)
        ⟨0, _, _, by omega, by simp [f2], by simp [f5], by simp, by simp, by simp, by simpa using G⟩ ?_
      rintro f w6 ⟨i, hv, xs, hi, f2, f5, f29, f30, f31, G⟩
      simp [f30, f31]
      by_cases hlt : i < r.hs.length
      rotate_left
      · refine cw_false (by simp; omega) ?_
        simp
        have : i = r.hs.length := by omega
        subst this
        exact ⟨by simp [f2], by simp [f5], hv, xs, by simpa using G⟩
      refine cw_true (by simp; omega) ?_
      obtain ⟨x, hx⟩ : ∃ x, r.hs[i]? = some x := ⟨_, List.getElem?_eq_getElem hlt⟩
      obtain ⟨bb, oo, cc, cs2, hvv2, _, _, hcl2, hcx0, hrel⟩ := hls.get hx
      cases hvv2
      have hcx := cellsFrom_list0 (hcx0.extV (C := none1) G.ext (fun _ h => h))
      rw [hcl2] at hcx
      obtain ⟨d, rfl, hod⟩ := hrel
      have hod6 := BytesOpt.extV hod G.ext (by simp [none1])
      obtain ⟨ad, cd, hds, _⟩ := (BytesOpt.bytes ht.rs hod).len
      subst hds
      have ho2 : allOne [strV x.1, .slice ad (x.2.getD []).length cd] = true := rfl
      have hzk : (Value.agg #[.string ⟨#[]⟩, .slice none 0 0]).cells = #[.string ⟨#[]⟩, .slice none 0 0] := rfl
      have hovk : over #[Value.string ⟨#[]⟩, .slice none 0 0] 0 [strV x.1, .slice ad (x.2.getD []).length cd] = #[strV x.1, .slice ad (x.2.getD []).length cd] := rfl
      simp [f31, f29, idx?, ht.sK.siz, hlt, Addr.add_mk, ld_agg ht.kKH, hcx, ht.zKH, hzk, store_agg ht.kKH, ho2, putK_blk alloc_new, hovk]
      generalize hw7 : (w6.alloc (.cells #[.string ⟨#[]⟩, .slice none 0 0] V.t_kmsg_Header)).setBlk w6.heap.size (.cells #[strV x.1, .slice ad (x.2.getD []).length cd] V.t_kmsg_Header (0, 0)) = w7
      obtain ⟨hx7, hb7⟩ := put_new hw7
      have hD7 := (Ext.refl none1 w7).drew
      have GD := G.post stays_IHd stays_OvT (hx7.trans hD7)
      have hb5l : b5 < w6.heap.size := lt_of_heap G.blk
      have hxf := hfit.hs x (List.mem_of_getElem? hx)
      have hwr : IntKind.i64.wrap ((i : Int) + 1) = (i : Int) + 1 := i64_small (by omega) (by omega)
      refine cw_regT (t := thTree E V) (fun w' => w'.heap[w6.heap.size]? = some (.cells #[strV x.1, .slice ad (x.2.getD []).length cd] V.t_kmsg_Header (0, 0))) hb7 ?_
      refine c_thTree ht hO stays_OvT (b7 := w6.heap.size) (x := x) (d := .slice ad (x.2.getD []).length cd) (K := fun k => k = D ∨ w3.heap.size ≤ k) GD (by simp) hb7 (by omega) (fun ho => by have := (Own.below G.own ho).2; omega) (by simp [f5]) (by simp) (BytesOpt.extV hod6 (hx7.trans hD7) (by simp [none1])) (by have := hxf.2; omega) (by simp; omega) ?_
      intro f' v' w' cs' hk' G'
      simp [hk' 31 (by omega), f31]
      refine ⟨⟨i + 1, v', xs ++ cs', by omega, by simp [hk' 2 (by omega), f2], by simp [hk' 5 (by omega), f5], by simp [hk' 29 (by omega), f29], by simp [hk' 30 (by omega), f30], by simp [hwr], ?_⟩, by rw [hwr]; omega⟩
      rw [List.take_add_one, hx]
      simpa using G'
    clear f2 f4 f5 f G
    rintro f w6 ⟨hv, xs, f2, f5, G⟩
    have hb16 := G.ext.old hb14 (fun h => h)
    obtain ⟨aI, cI, hvs, _⟩ := (G.ls (by omega)).len
    subst hvs
    have hone : allOne [Value.int .i32 r.len, .int .i8 r.attr, .int .i64 r.delta, .int .i32 r.off, n1, d1, n2, d2, .slice aI r.hs.length cI] = true := by
      obtain ⟨⟨x1, l1, rfl, hd1, _⟩, ⟨x2, l2, rfl, hd2, _⟩⟩ := G.oth
      obtain ⟨_, _, rfl, _⟩ := hd1.len
      obtain ⟨_, _, rfl, _⟩ := hd2.len
      rfl
    have hbI : w6.heap[b5]? = some (.cells [Value.int .i32 r.len, .int .i8 r.attr, .int .i64 r.delta, .int .i32 r.off, n1, d1, n2, d2, .slice aI r.hs.length cI].toArray V.t_impl_Record (0, 0)) := G.blk
    generalize hcs9 : [Value.int .i32 r.len, .int .i8 r.attr, .int .i64 r.delta, .int .i32 r.off, n1, d1, n2, d2, .slice aI r.hs.length cI] = cs9 at hone hbI
    have hcl9 : cs9.length = 9 := by rw [← hcs9]; rfl
    have x6 : cellsFrom w6 ⟨b5, 0, none⟩ 0 9 = some cs9 := by rw [cellsFrom_blk hbI 0 9 (by simp [hcl9])]; simp [← hcl9]
    have hov : over z9 0 cs9 = cs9.toArray := by
      have : z9.toList.drop cs9.length = [] := by rw [hcl9, ← hz9s]; simp
      simp [over, this]
    simp [f2, f5, ld_agg ht.kIR, x6, store_agg ht.kIR, hcl9, hone, putK_blk hb16, hz9s, hov]
    generalize hw7 : w6.setBlk w.heap.size (.cells cs9.toArray V.t_impl_Record (0, 0)) = w7
    have hb7 : w7.heap[w.heap.size]? = some (.cells cs9.toArray V.t_impl_Record (0, 0)) := by rw [← hw7]; exact setBlk_same hb16
    have hE7 : Ext none1 w w7 := by rw [← hw7]; exact (hE04.trans G.ext).setBlk (.inl (Nat.le_refl _)) _
    have hX7 : Ext (fun x => x = w.heap.size) w6 w7 := by rw [← hw7]; exact (Ext.refl (fun x => x = w.heap.size) w6).setBlk (.inr rfl) _
    have x7 : cellsFrom w7 ⟨w.heap.size, 0, none⟩ 0 9 = some cs9 := by rw [cellsFrom_blk hb7 0 9 (by simp [hcl9])]; simp [← hcl9]
    simp [x7]
    refine ⟨hE7, cs9, true, nonNil sv, by simp, hcl9, hone, by simp [hbad], fun _ => ?_⟩
    rw [hrr]
    have hnz : ∀ (i : Nat) (x : Int), z9[i]? ≠ some (Value.int .u8 x) := by
      intro i x h
      rw [← hz9] at h
      rcases i with _ | _ | _ | _ | _ | _ | _ | _ | _ | i <;> simp at h
    have hkk : ∀ q, q < w6.heap.size → q ≠ w.heap.size → ¬ q = w.heap.size := fun q _ h => h
    refine ⟨⟨n1, d1, n2, d2, _, hcs9.symm, ((G.oth.1.off hb16 hnz).ext hX7 hkk).mono (fun _ _ => trivial), ((G.oth.2.off hb16 hnz).ext hX7 hkk).mono (fun _ _ => trivial), ?_⟩⟩
    have hls1 := LsAt.mono (G.ls (by omega)) (K' := fun b => b ≠ w.heap.size) (R' := IHd w6 (fun b => b ≠ w.heap.size)) (fun b hb => by have := hE04.size; have := hb.1; have := hs1; have := hs2; have := hf.2.size; have := hE4.size; omega) (fun cs x h => by
      obtain ⟨n, d, h1, h2⟩ := h
      exact ⟨n, d, h1, h2.off hb16 hnz⟩)
    exact LsAt.mono (LsAt.ext (R := fun w' => IHd w' (fun b => b ≠ w.heap.size)) (by omega) hls1 hX7 (fun cs x h => h.ext hX7 hkk) hkk) (fun _ _ => trivial) (fun cs x h => h.mono (fun _ _ => trivial))
end
end Go.Kg

set_option linter.unusedSimpArgs false
set_option linter.unusedVariables false
set_option linter.unusedSectionVars false
namespace Go.Kg
open Go
section
variable {P : Program} {C : CfgR}
end
end Go.Kg

set_option linter.unusedSimpArgs false
set_option linter.unusedVariables false
namespace Go.Kg
open Go
end Go.Kg

set_option linter.unusedSimpArgs false
set_option linter.unusedVariables false
set_option linter.unusedSectionVars false
namespace Go.Kg
open Go
end Go.Kg

set_option linter.unusedSimpArgs false
set_option linter.unusedVariables false
namespace Go.Kg
open Go
section
variable {P : Program} {E : Env}
end
end Go.Kg

set_option linter.unusedSimpArgs false
set_option linter.unusedVariables false
namespace Go.Kg
open Go
section
variable {P : Program} {E : Env}
end
end Go.Kg

set_option linter.unusedSimpArgs false
set_option linter.unusedVariables false
namespace Go.Kg
open Go
/-- No cell of the tree's box but the list's. -/
def zT (lv : Value) : List Value := [.int .i64 0, .slice none 0 0, .bool false, lv, .slice none 0 0]
/-- A tree that says no text and no tags, its lists in blocks of K. -/
inductive DTr (w : World) (K : Nat → Prop) : List Value → Tr → Prop where
  | mk {n : Int} {nul : Bool} {l : List Tr} {lv : Value} {ls : Option (List (List Value))} (hn : fits n) (ha : ArrAt w K 5 lv ls) (hl : (ls.getD []).length = l.length)
      (he : ∀ (i : Nat) c t, (ls.getD [])[i]? = some c → l[i]? = some t → DTr w K c t) : DTr w K [.int .i64 n, .slice none 0 0, .bool nul, lv, .slice none 0 0] (.mk n [] nul l [])
theorem DTr.ext {C K : Nat → Prop} {w w' : World} (he : Ext C w w') (hK : ∀ b, b < w.heap.size → K b → ¬ C b) {cs : List Value} {t : Tr} (h : DTr w K cs t) : DTr w' K cs t := by
  induction h with
  | mk hn ha hl _ ih => exact .mk hn (ha.ext he hK) hl ih
theorem ArrAt.mono {w : World} {K K' : Nat → Prop} (h : ∀ b, K b → K' b) {sz : Nat} {v : Value} {ls : Option (List (List Value))} (ha : ArrAt w K sz v ls) : ArrAt w K' sz v ls := by
  cases ls with
  | none => exact ha
  | some ls => obtain ⟨b, o, c, rfl, hk, hn, hx⟩ := ha; exact ⟨b, o, c, rfl, h b hk, hn, hx⟩
theorem DTr.mono {K K' : Nat → Prop} {w : World} (hK : ∀ b, K b → K' b) {cs : List Value} {t : Tr} (h : DTr w K cs t) : DTr w K' cs t := by
  induction h with
  | mk hn ha hl _ ih => exact .mk hn (ha.mono hK) hl ih
theorem DTr.tree {K : Nat → Prop} {w : World} {cs : List Value} {t : Tr} (h : DTr w K cs t) : TreeAt w cs t := by
  induction h with
  | mk hn ha hl _ ih => exact .mk ⟨hn, by simp⟩ (.inl ⟨⟨_, rfl⟩, rfl⟩) (ha.mono (fun _ _ => trivial)).toE hl ih ⟨none, ⟨_, rfl⟩, rfl, by simp⟩
structure TyD (P : Program) (E : Env) : Prop extends TyM P E where
  pT5 : places P E.t_spec_Tree = some [(0, 1), (1, 1), (2, 1), (3, 1), (4, 1)]
  fT3 : ∀ (a b c d e : Value), fld? P E.t_spec_Tree 3 #[a, b, c, d, e] = some d
section
variable {P : Program} {E : Env} (ht : TyD P E)
include ht
end
end Go.Kg

set_option linter.unusedSimpArgs false
set_option linter.unusedVariables false
namespace Go.Kg
open Go
theorem FS.okAll.dflt : ∀ {F : FS}, F.okAll → ∀ h ∈ F.heads, fits h.dflt
  | .nil, _, h, hh => by cases hh
  | .cons h' s r, ho, h, hh => by
    rcases List.mem_cons.1 hh with rfl | hh
    · exact ho.2.1
    · exact FS.okAll.dflt ho.2.2.2.2 h hh
def FH.zero : FH := ⟨0, 0, 0, 0, 0, 0, 0⟩
def FH.set (h : FH) (k : Nat) (n : Int) : FH :=
  match k with
  | 0 => { h with kind := n } | 1 => { h with frm := n } | 2 => { h with to := n } | 3 => { h with null := n } | 4 => { h with tag := n } | 5 => { h with dflt := n } | _ => { h with of_ := n }
/-- A field's text: its parts in order, and the function of its own fields (with these). -/
structure FSrc where
  ps : List (Nat × Int)
  sub : Option (Nat × FS)
def FSrc.h (x : FSrc) : FH := x.ps.foldl (fun h p => h.set p.1 p.2) FH.zero
def FSrc.subF (x : FSrc) : FS := match x.sub with | some (_, F) => F | none => .nil
def FSrc.sz (x : FSrc) : Nat := match x.sub with | some _ => 2 | none => 1
structure TyK (P : Program) (E : Env) : Prop extends TyD P E where
  pF8 : places P E.t_spec_Field = some [(0, 1), (1, 1), (2, 1), (3, 1), (4, 1), (5, 1), (6, 1), (7, 1)]
  gF : SliI P E.t_l_spec_Field E.t_spec_Field 8 80 (.agg zField)
  pM : places P E.t_spec_Message = some [(0, 1), (1, 1)]
  zM : zeroOf P E.t_spec_Message = some (.agg #[.slice none 0 0, .int .i64 0])
  kM : kindOf P E.t_spec_Message = .agg 2
/-- Fields whose rows lie in blocks of K. -/
def FsCellsK (w : World) (K : Nat → Prop) : List (List Value) → FS → Prop
  | [], .nil => True
  | c :: cs, .cons h sub rest => (∃ sv ls, c = h.cells ++ [sv] ∧ ArrAt w K 8 sv ls ∧ FsCellsK w K (ls.getD []) sub) ∧ FsCellsK w K cs rest
  | _, _ => False
def FsAtK (w : World) (K : Nat → Prop) (v : Value) (F : FS) : Prop := ∃ ls, ArrAt w K 8 v ls ∧ FsCellsK w K (ls.getD []) F
theorem FsCellsK.ext {C K K' : Nat → Prop} {w w' : World} (he : Ext C w w') (hK : ∀ b, b < w.heap.size → K b → ¬ C b) (hm : ∀ b, K b → K' b) : ∀ {F : FS} {ls : List (List Value)}, FsCellsK w K ls F → FsCellsK w' K' ls F := by
  intro F
  induction F with
  | nil => intro ls h; cases ls with
    | nil => trivial
    | cons c cs => exact h.elim
  | cons h sub rest ihs ihr =>
    intro ls hh
    cases ls with
    | nil => exact hh.elim
    | cons c cs =>
      obtain ⟨⟨sv, l, h1, h2, h3⟩, h4⟩ := hh
      exact ⟨⟨sv, l, h1, (h2.ext he hK).mono hm, ihs h3⟩, ihr h4⟩
theorem FsAtK.ext {C K K' : Nat → Prop} {w w' : World} (he : Ext C w w') (hK : ∀ b, b < w.heap.size → K b → ¬ C b) (hm : ∀ b, K b → K' b) {v : Value} {F : FS} (h : FsAtK w K v F) : FsAtK w' K' v F := by
  obtain ⟨ls, h1, h2⟩ := h; exact ⟨ls, (h1.ext he hK).mono hm, h2.ext he hK hm⟩
theorem FsCellsK.all {K : Nat → Prop} {w : World} : ∀ {F : FS} {ls : List (List Value)}, FsCellsK w K ls F → FsCells w ls F := by
  intro F
  induction F with
  | nil => intro ls h; cases ls with
    | nil => trivial
    | cons c cs => exact h.elim
  | cons h sub rest ihs ihr =>
    intro ls hh
    cases ls with
    | nil => exact hh.elim
    | cons c cs =>
      obtain ⟨⟨sv, l, h1, h2, h3⟩, h4⟩ := hh
      exact ⟨⟨sv, l, h1, h2.mono (fun _ _ => trivial), ihs h3⟩, ihr h4⟩
theorem FsAtK.all {K : Nat → Prop} {w : World} {v : Value} {F : FS} (h : FsAtK w K v F) : FsAt w v F := by
  obtain ⟨ls, h1, h2⟩ := h; exact ⟨ls, h1.mono (fun _ _ => trivial), h2.all⟩
/-- What the fields are, once made: their rows at base and above. -/
def FldsV (w : World) (base : Nat) : List FSrc → List Value → Prop
  | [], [] => True
  | x :: r, v :: vs => (∃ sv, v = .agg (x.h.cells ++ [sv]).toArray ∧ FsAtK w (base ≤ ·) sv x.subF) ∧ FldsV w base r vs
  | _, _ => False
theorem FldsV.ext {w w' : World} {base : Nat} (he : Ext none1 w w') : ∀ {xs : List FSrc} {vs : List Value}, FldsV w base xs vs → FldsV w' base xs vs
  | [], [], _ => trivial
  | x :: r, v :: vs, h => ⟨by obtain ⟨sv, h1, h2⟩ := h.1; exact ⟨sv, h1, h2.ext he (fun _ _ _ h => h) (fun _ h => h)⟩, FldsV.ext he h.2⟩
  | [], _ :: _, h => h.elim
  | _ :: _, [], h => h.elim
theorem FldsV.len {w : World} {base : Nat} : ∀ {xs : List FSrc} {vs : List Value}, FldsV w base xs vs → vs.length = xs.length ∧ ∀ v ∈ vs, v.cells.size = 8
  | [], [], _ => ⟨rfl, by simp⟩
  | x :: r, v :: vs, h => by
    obtain ⟨h1, h2⟩ := FldsV.len h.2
    obtain ⟨sv, rfl, _⟩ := h.1
    refine ⟨by simp [h1], fun u hu => ?_⟩
    rcases List.mem_cons.1 hu with rfl | hu
    · simp [Value.cells]
    · exact h2 u hu
  | [], _ :: _, h => h.elim
  | _ :: _, [], h => h.elim
theorem FsAtK.nil (w : World) (K : Nat → Prop) : FsAtK w K (.slice none 0 0) .nil := ⟨none, rfl, trivial⟩
section
variable {P : Program} {E : Env} (ht : TyK P E)
include ht
end
end Go.Kg

set_option linter.unusedSimpArgs false
set_option linter.unusedVariables false
namespace Go.Kg
open Go
def Sch.cap : Sch → Nat
  | .fin => 0
  | .tags _ _ => 5 + 40000 * 32777
  | .prim _ _ _ _ _ _ r => 32772 + r.cap
  | .arrP _ _ _ _ _ _ r => 5 + 32767 * 32772 + r.cap
  | .arrS _ _ _ _ _ _ _ _ _ e r => 5 + 32767 * e.cap + r.cap
  | .sub _ _ _ _ _ _ _ e r => e.cap + r.cap
  | .opt _ _ _ _ _ _ _ _ e r => 1 + e.cap + r.cap
end Go.Kg

set_option linter.unusedSimpArgs false
set_option linter.unusedVariables false
namespace Go.Kg
open Go
/-- s[:l] of bytes -/
theorem BytesAt.upTo {w : World} {K : Nat → Prop} {a : Option Addr} {n c : Nat} {s : List UInt8} (h : BytesAt w K (.slice a n c) s) {l : Nat} (hl : l ≤ s.length) : BytesAt w K (.slice (if c = 0 then a else a.map (·.add 0)) l c) (s.take l) := by
  rcases h with ⟨⟨a', hv⟩, rfl⟩ | ⟨b, o, c', hv, h2, hk, h3⟩
  · cases hv
    have : l = 0 := by simpa using hl
    subst this
    exact .inl ⟨⟨a, by simp⟩, by simp⟩
  · cases hv
    refine .inr ⟨b, o, c, by simp [Nat.min_eq_left hl, Addr.add_mk], by simp; omega, fun h => hk (by rintro rfl; simp at h), ?_⟩
    intro i x hx
    rw [List.getElem?_take] at hx
    split at hx
    · exact h3 _ _ hx
    · cases hx
section
variable {P : Program} {E : Env} (ht : TyK P E) (hs : SpecFns P E)
include ht hs
end
end Go.Kg

set_option linter.unusedSimpArgs false
set_option linter.unusedVariables false
set_option linter.unusedSectionVars false
namespace Go.Kg
open Go
structure TellFs (P : Program) (E : Env) (V : EnvV) : Prop where
  fits : ∀ w K cs r, IRec w K cs r → r.hs.length < 9000000000000000000 → Ret P V.f_laws_zzFits9 #[.agg cs.toArray] w (SomeB w)
  little : ∀ w K cs r, IRec w K cs r → r.fit → (restW r).length ≤ 1099511627776 → Ret P V.f_laws_little #[.agg cs.toArray] w fun v w' => v = .bool (decide (r.hs.length ≤ 1000) && decide ((restW r).length ≤ 131072)) ∧ Ext none1 w w'
  meas : ∀ w K cs r, IRec w K cs r → r.fit → (restW r).length < 2147483648 → Ret P V.f_spec_Measured #[.agg cs.toArray] w fun v w' => ∃ cs', v = .agg cs'.toArray ∧ IRec w' K cs' { r with len := (restW r).length } ∧ Ext none1 w w'
  bytes : ∀ w K cs r, IRec w K cs r → r.fit → (recW r).length ≤ 1099511627776 → Ret P V.f_spec_RecordBytes #[.agg cs.toArray] w fun v w' => Fresh E.tU8 w v w' (recW r)
  tell : ∀ w K v s ty eu, BytesAt w K v s → s.length ≤ 1099511627776 → w.cell? ⟨E.g_kbin_ErrNotEnoughData, 0, none⟩ = some (.iface ty eu) → (∀ nn, (rdRec ⟨s, false, nn⟩).2.bad = false → (rdRec ⟨s, false, nn⟩).1.fit ∧ (rdRec ⟨s, false, nn⟩).1.hs.length ≤ 1000000) →
    Ret P V.f_impl_TellRecord #[v] w (TlPost w s)
  same : ∀ w K K' cs cs' r, IRec w K cs r → IRec w K' cs' r → r.fit → Ret P V.f_spec_SameRecord #[.agg cs.toArray, .agg cs'.toArray] w fun v w' => v = .bool true ∧ Ext none1 w w'
  make : ∀ w K cs r, IRec w K cs r → r.fit → (recW r).length ≤ 1099511627776 → r.hs.length ≤ 1000000 → Ret P V.f_impl_MakeRecord #[.slice none 0 0, .agg cs.toArray] w fun v' w' => BytesAt w' All v' (recW r) ∧ Ext none1 w w'
  sm : SameC P E
theorem IRec.one {w : World} {K : Nat → Prop} {cs : List Value} {r : RecV} (h : IRec w K cs r) : cs.length = 9 ∧ allOne cs = true := by
  obtain ⟨kn, kd, vn, vd, hv, rfl, ⟨b1, l1, rfl, hd1, _⟩, ⟨b2, l2, rfl, hd2, _⟩, hh⟩ := h.ex
  obtain ⟨a1, c1, rfl, _⟩ := hd1.len
  obtain ⟨a2, c2, rfl, _⟩ := hd2.len
  obtain ⟨a3, c3, rfl, _⟩ := hh.len
  exact ⟨rfl, rfl⟩
theorem over_all {z : Array Value} {cs : List Value} (h : z.size = cs.length) : over z 0 cs = cs.toArray := by
  have : z.toList.drop cs.length = [] := by rw [← h]; simp
  simp [over, this]
def FtA (V : EnvV) (K : Nat → Prop) (w : World) (a : Nat) (r : RecV) (f : Nat → Value) (w4 : World) : Prop := ∃ cs', f 1 = .int .u16 a ∧ f 2 = .pointer (some ⟨w.heap.size, 0, none⟩) ∧ w4.heap[w.heap.size]? = some (.cells cs'.toArray V.t_impl_Record (0, 0)) ∧ IRec w4 K cs' r ∧ Ext none1 w w4
def FtB (w w4 : World) (a : Nat) (r : RecV) (f : Nat → Value) (w5 : World) : Prop := ∃ bv, f 1 = .int .u16 a ∧ f 2 = .pointer (some ⟨w.heap.size, 0, none⟩) ∧ f 5 = bv ∧ BytesAt w5 All bv (recW r) ∧ Ext none1 w4 w5
def FtC (V : EnvV) (w w5 : World) (a : Nat) (r : RecV) (bv : Value) (f : Nat → Value) (w6 : World) : Prop := ∃ b6 cg, f 1 = .int .u16 a ∧ f 2 = .pointer (some ⟨w.heap.size, 0, none⟩) ∧ f 5 = bv ∧ f 6 = .pointer (some ⟨b6, 0, none⟩) ∧ f 7 = .bool true ∧ w6.heap[b6]? = some (.cells cg.toArray V.t_impl_Record (0, 0)) ∧ IRec w6 All cg r ∧ Ext none1 w5 w6
def FtD (w w6 : World) (b6 : Nat) (bv : Value) (f : Nat → Value) (w7 : World) : Prop := f 2 = .pointer (some ⟨w.heap.size, 0, none⟩) ∧ f 5 = bv ∧ f 6 = .pointer (some ⟨b6, 0, none⟩) ∧ f 7 = .bool true ∧ f 9 = .bool false ∧ Ext none1 w6 w7
section
variable {P : Program} {E : Env} {V : EnvV} (ht : TyV P E V)
include ht
set_option maxHeartbeats 1000000 in
theorem c_FnTell {g : Nat} (hI : FnIs P g nt_laws_FnTellRecord (rs_laws_FnTellRecord E V) (ir_laws_FnTellRecord E V)) (iU16 : intKind? P E.tU16 = some .u16) (F : TellFs P E V) : ∀ w cs r (a : Nat) ty eu, IRec w (fun b => b < w.heap.size) cs r → r.fit → (restW r).length ≤ 1099511000000 → a < 65536 →
    w.cell? ⟨E.g_kbin_ErrNotEnoughData, 0, none⟩ = some (.iface ty eu) → Ret P g #[.agg cs.toArray, .int .u16 a] w fun v w' => v = .bool true ∧ Ext none1 w w' := by
  intro w cs r a ty eu hr hfit hsz ha herr
  refine hI.call (args := [_, _]) (by simp [nt_laws_FnTellRecord]) ?_
  obtain ⟨hcl, hone⟩ := hr.one
  have hcc : ∀ l : List Value, (Value.agg l.toArray).cells = l.toArray := fun _ => rfl
  have hcc' : ∀ l : Array Value, (Value.agg l).cells = l := fun _ => rfl
  have hnl := hfit.hn
  simp only [ir_laws_FnTellRecord, rs_laws_FnTellRecord, cw_seq]
  refine cw_then (fun f w1 => f 1 = .int .u16 a ∧ f 2 = .pointer (some ⟨w.heap.size, 0, none⟩) ∧ w1 = w.alloc (.cells cs.toArray V.t_impl_Record)) (by simp [hcc, meet]) ?_
  rintro f w1 ⟨f1, f2, hw1⟩
  obtain ⟨hE1, hb1⟩ := box_rec hw1.symm
  have xx : ∀ (w' : World) (q : List Value) (b : Nat) (t : TypeId), q.length = 9 → w'.heap[b]? = some (.cells q.toArray t (0, 0)) → cellsFrom w' ⟨b, 0, none⟩ 0 9 = some q := fun w' q b t hq hb => by rw [cellsFrom_blk hb 0 9 (by simp [hq])]; simp [← hq]
  have x1 := xx w1 cs _ _ hcl hb1
  rw [cw_seq]
  simp [f2, ld_agg ht.kIR, x1]
  refine (F.fits w1 _ cs r (hr.ext hE1 (by simp [none1])) (by omega)).mono ?_
  rintro _ w2 ⟨⟨bf, rfl⟩, he2⟩
  simp
  cases bf with
  | false =>
    refine cw_true (by simp) ?_
    simp
    exact hE1.trans he2
  | true =>
  refine cw_false (by simp) ?_
  have hb2 := he2.old hb1 (fun h => h)
  have hE2 := hE1.trans he2
  simp [f2, ld_agg ht.kIR, xx w2 cs _ _ hcl hb2]
  refine (F.little w2 _ cs r (hr.ext hE2 (by simp [none1])) hfit (by omega)).mono ?_
  rintro _ w3 ⟨rfl, he3⟩
  have hE3 := hE2.trans he3
  by_cases hlit : r.hs.length ≤ 1000 ∧ (restW r).length ≤ 131072
  rotate_left
  · have hb : (decide (r.hs.length ≤ 1000) && decide ((restW r).length ≤ 131072)) = false := by
      rw [Bool.and_eq_false_iff]
      by_cases h : r.hs.length ≤ 1000
      · exact .inr (by simp; omega)
      · exact .inl (by simp; omega)
    simp [hb]
    refine cw_true (by simp) ?_
    simp
    exact hE3
  have hb : (decide (r.hs.length ≤ 1000) && decide ((restW r).length ≤ 131072)) = true := by simp [hlit.1, hlit.2]
  simp [hb]
  refine cw_false (by simp) ?_
  have hb3 := he3.old hb2 (fun h => h)
  obtain ⟨hn1000, hr17⟩ := hlit
  generalize hr' : ({ r with len := ((restW r).length : Int) } : RecV) = r'
  have hrest : restW r' = restW r := by rw [← hr']; rfl
  have hhs : r'.hs = r.hs := by rw [← hr']
  have hfit' : r'.fit := by
    rw [← hr']
    exact ⟨⟨by show (-2147483648 : Int) ≤ ((restW r).length : Int); omega, by show ((restW r).length : Int) < 2147483648; omega⟩, hfit.attr, hfit.delta, hfit.off, hfit.key, hfit.val, hfit.hn, hfit.hs⟩
  have hvl : (vW r'.len).length ≤ 10 := by
    have h1 : -2147483648 ≤ r'.len ∧ r'.len < 2147483648 := hfit'.len
    have := uvS_len (k := 9) (n := zz r'.len) (by have := zz_lt32 h1.1 h1.2; simp; omega)
    simpa [vW] using this
  have hrl : (recW r').length ≤ 1000000 := by simp only [recW, List.length_append, hrest]; omega
  have hrp : 0 < (recW r').length := by
    have := uvS_pos' (zz r'.len)
    simp only [recW, List.length_append, vW]; omega
  refine cw_skip.mpr ?_
  simp only [thenF]
  rw [cw_seq]
  refine cw_then (FtA V (fun b => b < w.heap.size) w a r') ?_ ?_
  · simp [f2, ld_agg ht.kIR, xx w3 cs _ _ hcl hb3]
    refine (F.meas w3 _ cs r (hr.ext hE3 (by simp [none1])) hfit (by omega)).mono ?_
    rintro _ w4 ⟨cs', rfl, hr4, he4⟩
    rw [hr'] at hr4
    obtain ⟨hcl', hone'⟩ := hr4.one
    have hb4 := he4.old hb3 (fun h => h)
    simp [f2, store_agg ht.kIR, hcl', hone', putK_blk hb4, hcl, over_all (z := cs.toArray) (cs := cs') (by simp [hcl, hcl'])]
    generalize hw5 : w4.setBlk w.heap.size (.cells cs'.toArray V.t_impl_Record (0, 0)) = w5
    have hE5 : Ext none1 w w5 := by rw [← hw5]; exact (hE3.trans he4).setBlk (.inl (Nat.le_refl _)) _
    have hX5 : Ext (fun x => x = w.heap.size) w4 w5 := by rw [← hw5]; exact (Ext.refl (fun x => x = w.heap.size) w4).setBlk (.inr rfl) _
    exact ⟨cs', by simp [f1], by simp [f2], by rw [← hw5]; exact setBlk_same hb4, hr4.ext hX5 (fun b _ hb e => by omega), hE5⟩
  clear f1 f2 f
  rintro f w4 ⟨cs', f1, f2, hb4, hr4, hE4⟩
  obtain ⟨hcl', hone'⟩ := hr4.one
  rw [cw_seq]
  refine cw_then (FtB w w4 a r') ?_ ?_
  · simp [f2, ld_agg ht.kIR, xx w4 cs' _ _ hcl' hb4]
    refine (F.bytes w4 _ cs' r' hr4 hfit' (by omega)).mono ?_
    rintro bv w5 hf
    exact ⟨bv, by simp [f1], by simp [f2], by simp, own_bytes hf.1, hf.2⟩
  clear f1 f2 f
  rintro f w5 ⟨bv, f1, f2, f5, hbv, hE45⟩
  obtain ⟨ab, cb, rfl, hcb⟩ := hbv.len
  have hE5 := hE4.trans hE45
  have herr5 : w5.cell? ⟨E.g_kbin_ErrNotEnoughData, 0, none⟩ = some (.iface ty eu) := hE5.cell herr (fun h => h)
  rw [cw_seq]
  refine cw_then (FtC V w w5 a r' (.slice ab (recW r').length cb)) ?_ ?_
  · simp [f5]
    have hrd := fun nn => rd_rec hfit' nn []
    refine (F.tell w5 All _ (recW r') ty eu hbv (by omega) herr5 (fun nn _ => ?_)).mono ?_
    · obtain ⟨nn', h⟩ := hrd nn
      rw [List.append_nil] at h
      rw [h]
      exact ⟨hfit', by simp [hhs]; omega⟩
    rintro _ w6 ⟨he6, cg, ok, nn, rfl, hcg, hog, hok, hrg⟩
    obtain ⟨nn', h⟩ := hrd nn
    rw [List.append_nil] at h
    rw [h] at hok hrg
    have hok' : ok = true := by simpa using hok
    subst hok'
    have hrg' := hrg rfl
    simp [ht.zIR, hcc', store_agg ht.kIR, hcg, hog, putK_blk alloc_new, over_all (z := #[.int .i32 0, .int .i8 0, .int .i64 0, .int .i32 0, .bool false, .slice none 0 0, .bool false, .slice none 0 0, .slice none 0 0]) (cs := cg) (by simp [hcg])]
    generalize hw7 : (w6.alloc (.cells #[.int .i32 0, .int .i8 0, .int .i64 0, .int .i32 0, .bool false, .slice none 0 0, .bool false, .slice none 0 0, .slice none 0 0] V.t_impl_Record)).setBlk w6.heap.size (.cells cg.toArray V.t_impl_Record (0, 0)) = w7
    obtain ⟨hx7, hb7⟩ := put_new hw7
    exact ⟨w6.heap.size, cg, by simp [f1], by simp [f2], by simp [f5], by simp, by simp, hb7, hrg'.ext hx7 (by simp [none1]), he6.trans hx7⟩
  clear f1 f2 f5 f
  rintro f w6 ⟨b6, cg, f1, f2, f5, f6, f7, hb6, hrg, hE56⟩
  have hE6 := hE5.trans hE56
  have hbv6 := hbv.ext hE56 (by simp [none1])
  have herr6 : w6.cell? ⟨E.g_kbin_ErrNotEnoughData, 0, none⟩ = some (.iface ty eu) := hE6.cell herr (fun h => h)
  obtain ⟨hclg, honeg⟩ := hrg.one
  rw [cw_seq]
  refine cw_then (FtD w w6 b6 (.slice ab (recW r').length cb)) ?_ ?_
  · have hm : (a : Int).tmod ((recW r').length : Int) = ((a % (recW r').length : Nat) : Int) := by simp [Int.tmod]
    have hml : a % (recW r').length < (recW r').length := Nat.mod_lt _ hrp
    have hi64 : IntKind.i64.wrap (a : Int) = a := i64_small (by omega) (by omega)
    have hne : ¬ recW r' = [] := by intro h; rw [h] at hrp; simp at hrp
    have hsl : slice? P E.tBs (.slice ab (recW r').length cb) none (some (.int .i64 ((a : Int) % ((recW r').length : Int)))) none = some (.slice (if cb = 0 then ab else ab.map (·.add 0)) (a % (recW r').length) cb) := by
      have h1 : ((a : Int) % ((recW r').length : Int)) = ((a % (recW r').length : Nat) : Int) := by simp
      have h2 : a % (recW r').length ≤ cb := by omega
      rw [h1]
      simp only [slice?, ht.rs.sBs]
      simp [h2]
      rw [h1]
      exact ⟨⟨Int.natCast_nonneg _, by exact_mod_cast h2⟩, Int.toNat_natCast _⟩
    simp [f5, f1, iU16, ht.rs.iInt, hi64, len_slice ht.rs.uBs, bin?, hne, hm, hsl]
    refine (F.tell w6 All _ ((recW r').take (a % (recW r').length)) ty eu (hbv6.upTo (Nat.le_of_lt hml)) (by simp; omega) herr6 (fun nn hb => ?_)).mono ?_
    · rw [cut_rec hfit' nn hml] at hb; cases hb
    rintro _ w7 ⟨he7, cz, ok, nn, rfl, hcz, hoz, hok, _⟩
    rw [cut_rec hfit' nn hml] at hok
    have hok' : ok = false := by simpa using hok
    subst hok'
    simp [ht.zIR, hcc', store_agg ht.kIR, hcz, hoz, putK_blk alloc_new]
    exact ⟨by simp [f2], by simp [f5], by simp [f6], by simp [f7], by simp, he7.trans (((Ext.refl none1 w7).alloc _).setBlk (.inl (Nat.le_refl _)) _)⟩
  clear f1 f2 f5 f6 f7 f
  rintro f w7 ⟨f2, f5, f6, f7, f9, hE67⟩
  have hb67 := hE67.old hb6 (fun h => h)
  have hE47 := (hE45.trans hE56).trans hE67
  have hb47 := hE47.old hb4 (fun h => h)
  rw [cw_seq, cw_reg, regW_cut 6]
  generalize hR : regW P _ (List.drop 6 _) = R
  simp only [List.take_succ_cons, List.take_zero]
  simp [f7, f9]
  subst hR
  simp only [List.drop_succ_cons, List.drop_zero]
  rw [regW_cut 5]
  generalize hR : regW P _ (List.drop 5 _) = R
  simp only [List.take_succ_cons, List.take_zero]
  simp [f2, f6, ld_agg ht.kIR, xx w7 cg _ _ hclg hb67, xx w7 cs' _ _ hcl' hb47]
  refine (F.same w7 All _ cg cs' r' (hrg.ext hE67 (by simp [none1])) (hr4.ext hE47 (by simp [none1])) hfit').mono ?_
  rintro _ w8 ⟨rfl, he8⟩
  subst hR
  have hb68 := he8.old hb67 (fun h => h)
  simp [f5, f6, ld_agg ht.kIR, xx w8 cg _ _ hclg hb68]
  refine (F.make w8 All cg r' (hrg.ext (hE67.trans he8) (by simp [none1])) hfit' (by omega) (by simp [hhs]; omega)).mono ?_
  rintro mv w9 ⟨hmv, he9⟩
  refine (F.sm w9 All All mv _ (recW r') (recW r') hmv (hbv6.ext ((hE67.trans he8).trans he9) (by simp [none1])) (by omega)).mono ?_
  rintro _ w10 ⟨rfl, he10⟩
  simp
  exact (((hE6.trans hE67).trans he8).trans he9).trans he10
end
end Go.Kg

set_option linter.unusedSimpArgs false
set_option linter.unusedVariables false
namespace Go.Kg
open Go
section
variable {P : Program} {E : Env}
end
end Go.Kg

set_option linter.unusedSimpArgs false
set_option linter.unusedVariables false
namespace Go.Kg
open Go
structure TyTg (P : Program) (E : Env) : Prop extends TyWs P E where
  g0 : fldOff P E.t_kmsg_Tags 0 = some 0
  kM : kindOf P E.t_map_uint32_l_uint8 = .scl
  uM : P.underlying E.t_map_uint32_l_uint8 = some (.map E.tU32 E.tBs)
  kBs : kindOf P E.tBs = .scl
section
variable {P : Program} {E : Env} (ht : TyTg P E)
include ht
end
end Go.Kg

set_option linter.unusedSimpArgs false
set_option linter.unusedVariables false
namespace Go.Kg
open Go
section
variable {P : Program} {C : Cfg}
end
end Go.Kg

set_option linter.unusedSimpArgs false
set_option linter.unusedVariables false
namespace Go.Kg
open Go Go.ChangeShapes Go.WideShapes Go.ChangeAt Go.RowKit
theorem FnIs.of {P : Program} {g N : Nat} {rs : List Rv} {ir : Ir} {fn : Func} (hm : P.follows .mixedOrders = true) (h1 : P.funcs[g]? = some fn) (h2 : fn.body.bind (erase N) = some ir) (h3 : fn.ntmps = N)
    (h4 : fn.results = (rs.map Rv.var).toArray) (h5 : (fn.name == "runtime.NumGoroutine") = false) : FnIs P g N rs ir := by
  refine ⟨hm, ?_⟩
  cases hb : fn.body with
  | none => rw [hb] at h2; cases h2
  | some c => rw [hb] at h2; exact ⟨fn, c, h1, hb, h3, h4, h5, h2⟩
theorem sli_of {P : Program} {t e s bytes : Nat} {z : Value} (hu : P.underlying t = some (.slice e)) (hi : (P.info? e).map (fun i => (i.zero, i.size, i.bytes)) = some (some z, s, bytes)) (hz : z.cells.size = s) : SliI P t e s bytes z := by
  refine ⟨hu, ?_, hz⟩
  cases h : P.info? e with
  | none => rw [h] at hi; cases hi
  | some i => rw [h] at hi; simp at hi; exact ⟨i, rfl, hi.1, hi.2.1, hi.2.2⟩
theorem ext_kept {w w' : World} (h : Ext none1 w w') (may : MemPlace → Prop) : w.keptBut w' may := by
  refine ⟨h.os, h.output, fun i hi => ?_⟩
  rw [h.block i hi (fun h => h)]
  have : ∃ o, w.heap[i]? = some o := ⟨_, Array.getElem?_eq_getElem hi⟩
  obtain ⟨o, ho⟩ := this
  rw [ho]
  cases o <;> simp
theorem ext_frozen {w w' : World} (h : Ext none1 w w') (a : Addr) (ha : a.block < w.heap.size) : w'.frozen? a = w.frozen? a := by
  simp only [World.frozen?, h.block a.block ha (fun h => h)]
theorem post_of_ext {H : Type} {enc : TypeId × Value → H} {P : Program} {f : Func} {s : ChangeSpec} {apart fresh handsOn again : Bool} {W W' : World} {args : Array Value} {v : Value} {ds gs : List (DataW H)} {before pa pv : List MemPlace}
    (hW : DataW.Whole enc P f.params.toList s.vars apart W args.toList ds gs before)
    (hres : ∀ (b : Nat) (sp : Nat → Bool) (hd : Bool), DataW.TrodAll enc P W' b sp hd f.resultTypes.toList (v.resultList f.resultTypes.size) (s.fn H (ds ++ gs)).results [])
    (hargs : ∀ sp : Nat → Bool, (∀ p ∈ before, sp p.block = true) → DataW.TrodAll enc P W' 0 sp true f.params.toList args.toList (s.fn H (ds ++ gs)).args pa)
    (hvars : ∀ sp : Nat → Bool, (∀ p ∈ before, sp p.block = true) → DataW.TrodVars enc P W' sp s.vars (s.fn H (ds ++ gs)).vars pv)
    (hps : before = pa ++ pv) (he : Ext none1 W W')
    (hok : ∀ (j : Nat) (t : TypeId) (r : Value), f.resultTypes[j]? = some t → (v.resultList f.resultTypes.size)[j]? = some r → Value.okWide P W' .any 0 t r) :
    s.post enc P f apart fresh handsOn again W args v W' := by
  have hold : ∀ p ∈ before, (fun b => decide (b < W.heap.size)) p.block = true := fun p hp => by simpa using hW.lt p hp
  have hlt := hW.lt
  refine ⟨ds, gs, before, [], pa, pv, hW, hres _ _ _, hargs _ hold, hvars _ hold, World.keptBut_mono (fun p hp => ⟨hp, ?_⟩) (ext_kept he (· ∈ before)), fun _ => ?_⟩
  · rw [hps, List.mem_append] at hp
    exact Or.inr hp
  · obtain ⟨_, _, _, _, _, hz, hn⟩ := hW
    refine ⟨hok, _, _, ([] ++ pa) ++ pv, ⟨[] ++ pa, pv, trodAll_append (hargs _ (fun _ _ => rfl)) (hres _ _ _), hvars _ (fun _ _ => rfl), rfl, ?_, ?_⟩, ?_⟩
    · intro b off hp
      have hp' : MemPlace.cell b off ∈ before := by rw [hps]; simpa using hp
      rw [ext_frozen he _ (hlt _ hp')]
      exact hz b off hp'
    · intro ha
      have := hn ha
      rw [hps] at this
      simpa using this
    · intro p hp _
      rw [hps]
      simpa using hp
end Go.Kg

set_option linter.unusedSimpArgs false
set_option linter.unusedVariables false
namespace Go.Kg
open Go Go.ChangeShapes Go.WideShapes Go.ChangeAt Go.RowKit
/-- an argument reads behind the call as it did -/
theorem ext_trod {H : Type} {enc : TypeId × Value → H} {P : Program} {t : TypeId} (hl : laidOutB P = true) (hr : P.readableRec t = true) (hrow : t < P.types.size) {W W' : World} {v : Value} {d : DataW H} {ps : List MemPlace}
    (h : DataW.Trod enc P W 0 (fun _ => true) true t v d ps) (he : Ext none1 W W') (hlt : ∀ x ∈ ps, x.block < W.heap.size) {sp : Nat → Bool} (hs : ∀ p ∈ ps, sp p.block = true) : DataW.Trod enc P W' 0 sp true t v d ps := by
  have hb : Below W.heap.size W W' := ⟨he.os, he.tape, he.output, he.size, fun k hk => he.block k hk (fun h => h)⟩
  exact WideElems.Trod_stays hl hr hrow h (fun x hx => hb.same (hlt x hx)) hs
end Go.Kg

set_option linter.unusedSimpArgs false
set_option linter.unusedVariables false
namespace Go.Kg
open Go Go.ChangeShapes Go.WideShapes Go.ChangeAt Go.RowKit
mutual
def Tr.sz : Tr → Nat
  | .mk _ s _ l u => 1 + s.length + Tr.szL l + (u.map fun x => 1 + x.2.length).sum
def Tr.szL : List Tr → Nat
  | [] => 0
  | t :: l => t.sz + Tr.szL l
end
end Go.Kg

set_option linter.unusedSimpArgs false
set_option linter.unusedVariables false
namespace Go.Kg
open Go Go.ChangeShapes Go.WideShapes Go.ChangeAt Go.RowKit
/-- what the bulk of data is -/
structure BulkL {H : Type} (b : DataW H → Nat) (bs : List (DataW H) → Nat) : Prop where
  slice : ∀ e s, b (.slice e s) = bs e + bs s + 1
  agg : ∀ p, b (.agg p) = bs p + 1
  pos : ∀ d, 1 ≤ b d
  nil : bs [] = 0
  cons : ∀ d r, bs (d :: r) = b d + bs r
theorem BulkL.len {H : Type} {b : DataW H → Nat} {bs : List (DataW H) → Nat} (h : BulkL b bs) : ∀ l, l.length ≤ bs l
  | [] => by simp [h.nil]
  | d :: r => by have := h.pos d; have := h.len r; rw [h.cons, List.length_cons]; omega
/-- what is asked of the types of Tree and Tag -/
structure TyTr (P : Program) (E : Env) (tI64 : Nat) : Prop where
  tr : ∃ f0 f1 f2 f3 f4 : Field, P.underlying E.t_spec_Tree = some (.struct #[f0, f1, f2, f3, f4]) ∧ (f0.type = tI64 ∧ f0.offset = 0) ∧ (f1.type = E.tBs ∧ f1.offset = 1) ∧ (f2.type = E.tB ∧ f2.offset = 2) ∧ (f3.type = E.t_l_spec_Tree ∧ f3.offset = 3) ∧ (f4.type = E.t_l_spec_Tag ∧ f4.offset = 4)
  tg : ∃ f0 f1 : Field, P.underlying E.t_spec_Tag = some (.struct #[f0, f1]) ∧ (f0.type = E.tU32 ∧ f0.offset = 0) ∧ (f1.type = E.tBs ∧ f1.offset = 1)
  i64 : P.underlying tI64 = some (.int .i64)
  u32 : P.underlying E.tU32 = some (.int .u32)
  u8 : P.underlying E.tU8 = some (.int .u8)
  bool : P.underlying E.tB = some .bool
  bs : P.underlying E.tBs = some (.slice E.tU8)
  lt : P.underlying E.t_l_spec_Tree = some (.slice E.t_spec_Tree)
  lu : P.underlying E.t_l_spec_Tag = some (.slice E.t_spec_Tag)
  c1 : P.cellsOf tI64 = 1 ∧ P.cellsOf E.tU32 = 1 ∧ P.cellsOf E.tU8 = 1 ∧ P.cellsOf E.tB = 1 ∧ P.cellsOf E.tBs = 1 ∧ P.cellsOf E.t_l_spec_Tree = 1 ∧ P.cellsOf E.t_l_spec_Tag = 1
  cT : P.cellsOf E.t_spec_Tree = 5
  cU : P.cellsOf E.t_spec_Tag = 2
section
variable {H : Type} {enc : TypeId × Value → H} {P : Program} {W : World}
theorem spot_of_cells {a : Addr} {k : Nat} {cs : List Value} (h : W.cells? 0 (a.add (0 * k)) k = some cs) (hk : 0 < k) : a.spot = none := by
  have h0 : a.add (0 * k) = a := by simp [Addr.add]
  rw [h0] at h
  obtain ⟨_, hl, hc⟩ := World.cells?_some h
  have h1 := hc 0 hk
  have h2 : cs[0]? = some cs[0] := List.getElem?_eq_getElem (by omega)
  rw [h2] at h1
  have ha : a.add 0 = a := by simp [Addr.add]
  rw [ha] at h1
  cases hs : a.spot with
  | none => rfl
  | some s =>
    simp only [World.cell?, hs] at h1
    split at h1 <;> simp at h1
/-- bytes within -/
theorem open_bytesIn {t e : TypeId} (ht : P.underlying t = some (.slice e)) (he : P.underlying e = some (.int .u8)) (hc : P.cellsOf e = 1) {b : DataW H → Nat} {bs : List (DataW H) → Nat} (hB : BulkL b bs) {n : Nat} {c : Value} {x : DataW H × List MemPlace}
    (h : DataW.trod enc P W 0 (fun _ => true) true n t [c] = some x) : ∃ s, BytesAt W All c s ∧ s.length + 1 ≤ b x.1 := by
  have hsp : ∀ a len cap, c = .slice (some a) len cap → 0 < cap → a.spot = none := by
    rintro a len cap rfl hcap
    rcases DataW.trod_slice ht h with ⟨h1, _⟩ | ⟨a', len', cap', elems, rest, m, _, h1, hx, hb, hl, hm, hlen, hel, hsp, _⟩
    · cases h1
    · cases h1
      by_cases h0 : 0 < len
      · have := hel 0 h0
        rw [hc] at this
        have hget : elems[0]? = some elems[0] := List.getElem?_eq_getElem (by omega)
        rw [hget] at this
        obtain ⟨cs, hcs, _⟩ := Option.bind_eq_some_iff.1 this
        exact spot_of_cells hcs (by omega)
      · obtain ⟨hr1, hr2⟩ := hsp rfl
        have := hr2 0 (by omega)
        rw [hc] at this
        have hget : rest[0]? = some rest[0] := List.getElem?_eq_getElem (by omega)
        rw [hget] at this
        obtain ⟨cs, hcs, _⟩ := Option.bind_eq_some_iff.1 this
        have e0 : (len + 0) * 1 = 0 * 1 := by omega
        rw [e0] at hcs
        exact spot_of_cells hcs (by omega)
  rcases open_ints ht he hc h with ⟨h1, hx⟩ | ⟨a, len, cap, zs, h1, hb, hl, hm, hzl, hx, hcell, hwf⟩
  · cases h1
    exact ⟨[], .inl ⟨⟨_, rfl⟩, rfl⟩, by have := hB.pos x.1; simpa using this⟩
  · cases h1
    simp only [if_true] at hzl
    have hbk : len + 1 ≤ b x.1 := by
      rw [hx, hB.slice]
      have := hB.len (lits .u8 (zs.take len))
      simp only [lits, List.length_map, List.length_take] at this
      simp only [lits] at this ⊢
      omega
    by_cases hcap : cap = 0
    · subst hcap
      have h0 : len = 0 := by omega
      subst h0
      exact ⟨[], .inl ⟨⟨_, rfl⟩, rfl⟩, by simpa using hbk⟩
    have hs := hsp a len cap rfl (by omega)
    obtain ⟨ab, ao, sp⟩ := a
    simp only at hs
    subst hs
    have hlen : (zs.take len).length = len := by simp; omega
    refine ⟨(zs.take len).map fun z => UInt8.ofNat z.toNat, .inr ⟨ab, ao, cap, by rw [List.length_map, hlen], by rw [List.length_map, hlen]; exact hl, fun _ => trivial, fun i x hx => ?_⟩, by rw [List.length_map, hlen]; exact hbk⟩
    rw [List.getElem?_map, Option.map_eq_some_iff] at hx
    obtain ⟨z, hz, rfl⟩ := hx
    rw [List.getElem?_take] at hz
    split at hz
    · obtain ⟨hi, hzz⟩ := List.getElem?_eq_some_iff.1 hz
      have hc1 := hcell i hi
      rw [Addr.add_mk, List.getD_eq_getElem?_getD, hz] at hc1
      have hw := hwf z (List.mem_of_getElem? hz)
      simp [Lit.wf, IntKind.min, IntKind.max, IntKind.signed, IntKind.bits] at hw
      rw [hc1]
      simp
      omega
    · cases hz
/-- a slice of things of sz cells each -/
theorem open_things {t e : TypeId} {sz : Nat} (ht : P.underlying t = some (.slice e)) (hc : P.cellsOf e = sz) (hsz : 0 < sz) {b : DataW H → Nat} {bs : List (DataW H) → Nat} (hB : BulkL b bs) {n : Nat} {c : Value} {x : DataW H × List MemPlace}
    (h : DataW.trod enc P W 0 (fun _ => true) true n t [c] = some x) (hk : b x.1 ≤ 1048576) :
    ∃ (ls : Option (List (List Value))) (ys : List (DataW H × List MemPlace)) (m : Nat), ArrE W All sz c ls ∧ ys.length = (ls.getD []).length ∧ n = m + 1 ∧ bs (ys.map (·.1)) + 1 ≤ b x.1 ∧
      ∀ (i : Nat) cs y, (ls.getD [])[i]? = some cs → ys[i]? = some y → DataW.trod enc P W 0 (fun _ => true) true m e cs = some y := by
  obtain ⟨m, rfl⟩ : ∃ m, n = m + 1 := by
    cases n with
    | zero => simp [DataW.trod] at h
    | succ m => exact ⟨m, rfl⟩
  rcases DataW.trod_slice ht h with ⟨h1, hx⟩ | ⟨a, len, cap, elems, rest, m', hm', h1, hx, hb, hl, hm, hlen, hel, hsp, _⟩
  · cases h1
    exact ⟨none, [], m, ⟨_, rfl⟩, rfl, rfl, by have := hB.pos x.1; simpa [hB.nil] using this, fun i cs y h => by simp at h⟩
  · cases h1
    cases hm'
    rw [hc] at hel hsp
    have hbk : bs (elems.map (·.1)) + 1 ≤ b x.1 := by rw [hx, hB.slice]; omega
    have hlk : len ≤ 1048576 := by
      have := hB.len (elems.map (·.1))
      rw [List.length_map] at this
      omega
    by_cases hcap : cap = 0
    · subst hcap
      have h0 : len = 0 := by omega
      subst h0
      have he : elems = [] := List.eq_nil_of_length_eq_zero hlen
      subst he
      exact ⟨none, [], m, ⟨_, rfl⟩, rfl, rfl, by simpa using hbk, fun i cs y h => by simp at h⟩
    have hs : a.spot = none := by
      by_cases h0 : 0 < len
      · have := hel 0 h0
        have hget : elems[0]? = some elems[0] := List.getElem?_eq_getElem (by omega)
        rw [hget] at this
        obtain ⟨cs, hcs, _⟩ := Option.bind_eq_some_iff.1 this
        exact spot_of_cells hcs hsz
      · obtain ⟨hr1, hr2⟩ := hsp rfl
        have := hr2 0 (by omega)
        have hget : rest[0]? = some rest[0] := List.getElem?_eq_getElem (by omega)
        rw [hget] at this
        obtain ⟨cs, hcs, _⟩ := Option.bind_eq_some_iff.1 this
        have e0 : (len + 0) * sz = 0 * sz := by
          have : len = 0 := by omega
          subst this; rfl
        rw [e0] at hcs
        exact spot_of_cells hcs hsz
    obtain ⟨ab, ao, sp⟩ := a
    simp only at hs
    subst hs
    -- the cells of each
    have hcs : ∀ i, i < len → ∃ cs y, W.cells? 0 (⟨ab, ao + i * sz, none⟩ : Addr) sz = some cs ∧ elems[i]? = some y ∧ DataW.trod enc P W 0 (fun _ => true) true m e cs = some y := by
      intro i hi
      have h2 := hel i hi
      have hget : elems[i]? = some elems[i] := List.getElem?_eq_getElem (by omega)
      rw [hget] at h2
      obtain ⟨cs, h3, h4⟩ := Option.bind_eq_some_iff.1 h2
      rw [Addr.add_mk] at h3
      exact ⟨cs, _, h3, hget, h4⟩
    let cellsI : Nat → List Value := fun i => (W.cells? 0 (⟨ab, ao + i * sz, none⟩ : Addr) sz).getD []
    have hcI : ∀ i, i < len → W.cells? 0 (⟨ab, ao + i * sz, none⟩ : Addr) sz = some (cellsI i) := by
      intro i hi
      obtain ⟨cs, y, h3, _⟩ := hcs i hi
      simp only [cellsI, h3, Option.getD_some]
    refine ⟨some ((List.range len).map cellsI), elems, m, ⟨ab, ao, cap, by simp, trivial, ⟨by simpa using hl, by simp; omega⟩, ?_⟩, by simp [hlen], rfl, hbk, ?_⟩
    · intro i cs hi
      rw [List.getElem?_map, Option.map_eq_some_iff] at hi
      obtain ⟨j, hj, rfl⟩ := hi
      obtain ⟨hjl, hjj⟩ := List.getElem?_eq_some_iff.1 hj
      simp at hjl hjj
      subst hjj
      obtain ⟨_, h4, h5⟩ := World.cells?_some (hcI i hjl)
      refine ⟨h4, fun j u hu => ?_⟩
      have hj2 := (List.getElem?_eq_some_iff.1 hu).1
      have := h5 j (by omega)
      rw [Addr.add_mk, hu] at this
      exact this
    · intro i cs y hi hy
      simp only [Option.getD_some] at hi
      rw [List.getElem?_map, Option.map_eq_some_iff] at hi
      obtain ⟨j, hj, rfl⟩ := hi
      obtain ⟨hjl, hjj⟩ := List.getElem?_eq_some_iff.1 hj
      simp at hjl hjj
      subst hjj
      obtain ⟨cs', y', h3, h4, h5⟩ := hcs i hjl
      rw [hcI i hjl] at h3
      cases h3
      rw [h4] at hy
      cases hy
      exact h5
variable {E : Env} {tI64 : Nat} (hT : TyTr P E tI64) {b : DataW H → Nat} {bs : List (DataW H) → Nat} (hB : BulkL b bs)
include hT hB
end
/-- a struct's value -/
theorem agg_of_ok {P : Program} {w : World} {r : Reach} {base t : Nat} {v : Value} {fs : Array Field} (hu : P.underlying t = some (.struct fs)) (h : Value.okWide P w r base t v) : ∃ cs : Array Value, v = .agg cs := by
  simp only [Value.okWide, hu] at h
  obtain ⟨cs, rfl, _⟩ := h
  exact ⟨cs, rfl⟩
end Go.Kg

set_option linter.unusedSimpArgs false
set_option linter.unusedVariables false
set_option linter.unusedSectionVars false
namespace Go.Kg
open Go Go.ChangeShapes Go.WideShapes Go.ChangeAt Go.RowKit
structure TyVr (P : Program) (E : Env) (V : EnvV) : Prop where
  oc : ∃ f0 f1 : Field, P.underlying V.t_impl_Octets = some (.struct #[f0, f1]) ∧ (f0.type = E.tB ∧ f0.offset = 0) ∧ (f1.type = E.tBs ∧ f1.offset = 1)
  ih : ∃ f0 f1 : Field, P.underlying V.t_impl_Header = some (.struct #[f0, f1]) ∧ (f0.type = E.tS ∧ f0.offset = 0) ∧ (f1.type = V.t_impl_Octets ∧ f1.offset = 1)
  ir : ∃ f0 f1 f2 f3 f4 f5 f6 : Field, P.underlying V.t_impl_Record = some (.struct #[f0, f1, f2, f3, f4, f5, f6]) ∧ (f0.type = E.tI32 ∧ f0.offset = 0) ∧ (f1.type = E.tI8 ∧ f1.offset = 1) ∧ (f2.type = E.tI64 ∧ f2.offset = 2) ∧ (f3.type = E.tI32 ∧ f3.offset = 3) ∧ (f4.type = V.t_impl_Octets ∧ f4.offset = 4) ∧ (f5.type = V.t_impl_Octets ∧ f5.offset = 6) ∧ (f6.type = V.t_l_impl_Header ∧ f6.offset = 8)
  i32 : P.underlying E.tI32 = some (.int .i32)
  i8 : P.underlying E.tI8 = some (.int .i8)
  i64 : P.underlying E.tI64 = some (.int .i64)
  u8 : P.underlying E.tU8 = some (.int .u8)
  bool : P.underlying E.tB = some .bool
  str : P.underlying E.tS = some .string
  bs : P.underlying E.tBs = some (.slice E.tU8)
  lh : P.underlying V.t_l_impl_Header = some (.slice V.t_impl_Header)
  c1 : P.cellsOf E.tI32 = 1 ∧ P.cellsOf E.tI8 = 1 ∧ P.cellsOf E.tI64 = 1 ∧ P.cellsOf E.tU8 = 1 ∧ P.cellsOf E.tB = 1 ∧ P.cellsOf E.tS = 1 ∧ P.cellsOf E.tBs = 1 ∧ P.cellsOf V.t_l_impl_Header = 1
  cO : P.cellsOf V.t_impl_Octets = 2
  cH : P.cellsOf V.t_impl_Header = 3
  cR : P.cellsOf V.t_impl_Record = 9
def hdSz (h : HdV) : Nat := h.1.length + (h.2.getD []).length + 1
theorem vW_len {n : Int} (h0 : -9223372036854775808 ≤ n) (h1 : n < 9223372036854775808) : (vW n).length ≤ 10 := by
  have := uvS_len (k := 9) (n := zz n) (by have := zz_lt64 h0 h1; simp; omega)
  simpa [vW] using this
theorem ocW_len {o : Option (List UInt8)} (h : (o.getD []).length ≤ 1048576) : (ocW o).length ≤ 10 + (o.getD []).length := by
  cases o with
  | none => have := vW_len (n := -1) (by omega) (by omega); simp [ocW]; omega
  | some l =>
    have h' : l.length ≤ 1048576 := h
    have := vW_len (n := (l.length : Int)) (by omega) (by omega)
    simp [ocW]; omega
theorem hdW_len {h : HdV} (hs : hdSz h ≤ 1048576) : (hdW h).length ≤ 20 + hdSz h := by
  unfold hdSz at hs ⊢
  have h1 := vW_len (n := (h.1.length : Int)) (by omega) (by omega)
  have h2 := ocW_len (o := h.2) (by omega)
  simp only [hdW, vsW, List.length_append]; omega
theorem hds_len : ∀ {hs : List HdV}, (hs.map hdSz).sum ≤ 1048576 → (hs.flatMap hdW).length ≤ 21 * (hs.map hdSz).sum
  | [], _ => by simp
  | h :: hs, hk => by
    simp only [List.map_cons, List.sum_cons] at hk ⊢
    have h1 := hds_len (hs := hs) (by omega)
    have h2 := hdW_len (h := h) (by omega)
    have h3 : 1 ≤ hdSz h := by unfold hdSz; omega
    simp only [List.flatMap_cons, List.length_append]; omega
theorem hdSz_mem : ∀ {hs : List HdV} {h : HdV}, h ∈ hs → hdSz h ≤ (hs.map hdSz).sum
  | x :: hs, h, hm => by
    simp only [List.map_cons, List.sum_cons]
    rcases List.mem_cons.1 hm with rfl | hm
    · omega
    · have := hdSz_mem hm; omega
theorem hdSz_len : ∀ (hs : List HdV), hs.length ≤ (hs.map hdSz).sum
  | [] => Nat.le_refl _
  | h :: hs => by have := hdSz_len hs; simp only [List.length_cons, List.map_cons, List.sum_cons]; unfold hdSz at *; omega
theorem flat_row {sz : Nat} (hsz : 0 < sz) {w : World} {b : Nat} {R : List Value → HdV → Prop} : ∀ (ls : List (List Value)) (hs : List HdV) (o : Nat), ls.length = hs.length → (∀ (i : Nat) cs, ls[i]? = some cs → cs.length = sz ∧ CellsAt w b (o + i * sz) cs) →
    (∀ (i : Nat) cs x, ls[i]? = some cs → hs[i]? = some x → R cs x) → CellsAt w b o ls.flatten ∧ RowOf sz R ls.flatten hs := by
  intro ls
  induction ls with
  | nil =>
    intro hs o hl _ _
    have : hs = [] := List.eq_nil_of_length_eq_zero hl.symm
    subst this
    exact ⟨fun j u h => by simp at h, ⟨by simp, by simp⟩⟩
  | cons cs ls ih =>
    intro hs o hl hc hr
    cases hs with
    | nil => simp at hl
    | cons h hs =>
      obtain ⟨h1, h2⟩ := hc 0 cs rfl
      obtain ⟨i1, i2, i3⟩ := ih hs (o + sz) (by simpa using hl) (fun i c hi => by
        have := hc (i + 1) c (by simpa using hi)
        refine ⟨this.1, ?_⟩
        have e : o + (i + 1) * sz = o + sz + i * sz := by rw [Nat.add_mul]; omega
        rw [← e]; exact this.2) (fun i c x hi hx => hr (i + 1) c x (by simpa using hi) (by simpa using hx))
      refine ⟨fun j u hj => ?_, ⟨by simp [h1, i2, Nat.add_mul]; omega, fun i x hx => ?_⟩⟩
      · rw [List.flatten_cons] at hj
        by_cases hjl : j < sz
        · rw [List.getElem?_append_left (by omega)] at hj
          have := h2 j u hj
          simpa using this
        · rw [List.getElem?_append_right (by omega), h1] at hj
          have := i1 (j - sz) u hj
          rw [← this]; congr 2; omega
      · rw [List.flatten_cons]
        cases i with
        | zero =>
          simp at hx
          subst hx
          have := hr 0 cs h rfl rfl
          rw [Nat.zero_mul, List.drop_zero, ← h1, List.take_left]
          exact this
        | succ i =>
          have := i3 i x (by simpa using hx)
          have e : (i + 1) * sz = cs.length + i * sz := by rw [Nat.add_mul, h1]; omega
          rw [e, List.drop_append, List.drop_of_length_le (Nat.le_add_right _ _)]
          simpa using this
section
variable {H : Type} {enc : TypeId × Value → H} {P : Program} {W : World}
variable {E : Env} {V : EnvV} (hT : TyVr P E V) {b : DataW H → Nat} {bs : List (DataW H) → Nat} (hB : BulkL b bs) (hS : ∀ l, b (.lit (.string l)) = l.length + 1)
include hT hB
theorem open_oct {n : Nat} {cs : List Value} {x : DataW H × List MemPlace} (h : DataW.trod enc P W 0 (fun _ => true) true n V.t_impl_Octets cs = some x) (hk : b x.1 ≤ 1048576) : ∃ n d o, cs = [n, d] ∧ OcAt W All n d o ∧ (o.getD []).length + 1 ≤ b x.1 := by
  obtain ⟨f0, f1, hu, ⟨h0t, h0o⟩, ⟨h1t, h1o⟩⟩ := hT.oc
  obtain ⟨xs, m', rfl, hx, hcl, hxl, hf⟩ := DataW.trod_struct hu h
  rw [hT.cO] at hcl
  obtain ⟨c0, c1, rfl⟩ : ∃ c0 c1, cs = [c0, c1] := by
    match cs, hcl with
    | [c0, c1], _ => exact ⟨c0, c1, rfl⟩
  obtain ⟨x0, x1, rfl⟩ : ∃ x0 x1, xs = [x0, x1] := by
    match xs, hxl with
    | [x0, x1], _ => exact ⟨x0, x1, rfl⟩
  obtain ⟨k1, k2, k3, k4, k5, k6, k7, k8⟩ := hT.c1
  have e0 := hf 0 f0 rfl
  have e1 := hf 1 f1 rfl
  rw [h0t, h0o, k5] at e0
  rw [h1t, h1o, k7] at e1
  simp at e0 e1
  obtain ⟨bb, hbb, _⟩ := DataW.trod_bool hT.bool e0
  cases hbb
  obtain ⟨s, hs, hsb⟩ := open_bytesIn hT.bs hT.u8 k4 hB e1
  refine ⟨.bool bb, c1, if bb then none else some s, rfl, ⟨bb, s, rfl, hs, rfl⟩, ?_⟩
  have hp0 := hB.pos x0.1
  rw [hx, hB.agg]
  simp only [List.map_cons, List.map_nil, hB.cons, hB.nil]
  cases bb <;> simp <;> omega
include hS
theorem open_ih {n : Nat} {cs : List Value} {x : DataW H × List MemPlace} (h : DataW.trod enc P W 0 (fun _ => true) true n V.t_impl_Header cs = some x) (hk : b x.1 ≤ 1048576) : ∃ hd : HdV, IHd W All cs hd ∧ hdSz hd ≤ b x.1 := by
  obtain ⟨f0, f1, hu, ⟨h0t, h0o⟩, ⟨h1t, h1o⟩⟩ := hT.ih
  obtain ⟨xs, m', rfl, hx, hcl, hxl, hf⟩ := DataW.trod_struct hu h
  rw [hT.cH] at hcl
  obtain ⟨c0, c1, c2, rfl⟩ : ∃ c0 c1 c2, cs = [c0, c1, c2] := by
    match cs, hcl with
    | [c0, c1, c2], _ => exact ⟨c0, c1, c2, rfl⟩
  obtain ⟨x0, x1, rfl⟩ : ∃ x0 x1, xs = [x0, x1] := by
    match xs, hxl with
    | [x0, x1], _ => exact ⟨x0, x1, rfl⟩
  obtain ⟨k1, k2, k3, k4, k5, k6, k7, k8⟩ := hT.c1
  have e0 := hf 0 f0 rfl
  have e1 := hf 1 f1 rfl
  rw [h0t, h0o, k6] at e0
  rw [h1t, h1o, hT.cO] at e1
  simp at e0 e1
  have hbx : b x.1 = b x0.1 + b x1.1 + 1 := by
    rw [hx, hB.agg]
    simp only [List.map_cons, List.map_nil, hB.cons, hB.nil]
    omega
  obtain ⟨s, hs, hx0, _⟩ := DataW.trod_string hT.str e0
  cases hs
  have hb0 : b x0.1 = s.data.toList.length + 1 := by rw [hx0]; exact hS _
  obtain ⟨n, d, o, hcs, ho, hob⟩ := open_oct hT hB e1 (by omega)
  cases hcs
  refine ⟨(s.data.toList, o), ⟨c1, c2, rfl, ho⟩, ?_⟩
  show s.data.toList.length + (o.getD []).length + 1 ≤ _
  omega
theorem open_rec {n : Nat} {cs : List Value} {x : DataW H × List MemPlace} (h : DataW.trod enc P W 0 (fun _ => true) true n V.t_impl_Record cs = some x) (hk : b x.1 ≤ 1048576) :
    ∃ r, IRec W (fun q => q < W.heap.size) cs r ∧ r.fit ∧ (restW r).length ≤ 1099511000000 := by
  obtain ⟨f0, f1, f2, f3, f4, f5, f6, hu, ⟨h0t, h0o⟩, ⟨h1t, h1o⟩, ⟨h2t, h2o⟩, ⟨h3t, h3o⟩, ⟨h4t, h4o⟩, ⟨h5t, h5o⟩, ⟨h6t, h6o⟩⟩ := hT.ir
  obtain ⟨xs, m, rfl, hx, hcl, hxl, hf⟩ := DataW.trod_struct hu h
  rw [hT.cR] at hcl
  obtain ⟨c0, c1, c2, c3, c4, c5, c6, c7, c8, rfl⟩ : ∃ c0 c1 c2 c3 c4 c5 c6 c7 c8, cs = [c0, c1, c2, c3, c4, c5, c6, c7, c8] := by
    match cs, hcl with
    | [c0, c1, c2, c3, c4, c5, c6, c7, c8], _ => exact ⟨c0, c1, c2, c3, c4, c5, c6, c7, c8, rfl⟩
  obtain ⟨x0, x1, x2, x3, x4, x5, x6, rfl⟩ : ∃ x0 x1 x2 x3 x4 x5 x6, xs = [x0, x1, x2, x3, x4, x5, x6] := by
    match xs, hxl with
    | [x0, x1, x2, x3, x4, x5, x6], _ => exact ⟨x0, x1, x2, x3, x4, x5, x6, rfl⟩
  obtain ⟨k1, k2, k3, k4, k5, k6, k7, k8⟩ := hT.c1
  have e0 := hf 0 f0 rfl
  have e1 := hf 1 f1 rfl
  have e2 := hf 2 f2 rfl
  have e3 := hf 3 f3 rfl
  have e4 := hf 4 f4 rfl
  have e5 := hf 5 f5 rfl
  have e6 := hf 6 f6 rfl
  rw [h0t, h0o, k1] at e0
  rw [h1t, h1o, k2] at e1
  rw [h2t, h2o, k3] at e2
  rw [h3t, h3o, k1] at e3
  rw [h4t, h4o, hT.cO] at e4
  rw [h5t, h5o, hT.cO] at e5
  rw [h6t, h6o, k8] at e6
  simp at e0 e1 e2 e3 e4 e5 e6
  have hbx : b x.1 = b x0.1 + (b x1.1 + (b x2.1 + (b x3.1 + (b x4.1 + (b x5.1 + b x6.1))))) + 1 := by
    rw [hx, hB.agg]
    simp only [List.map_cons, List.map_nil, hB.cons, hB.nil]
    omega
  obtain ⟨z0, hz0, _, w0⟩ := DataW.trod_int hT.i32 e0
  obtain ⟨z1, hz1, _, w1⟩ := DataW.trod_int hT.i8 e1
  obtain ⟨z2, hz2, _, w2⟩ := DataW.trod_int hT.i64 e2
  obtain ⟨z3, hz3, _, w3⟩ := DataW.trod_int hT.i32 e3
  cases hz0; cases hz1; cases hz2; cases hz3
  simp [Lit.wf, IntKind.min, IntKind.max, IntKind.signed, IntKind.bits] at w0 w1 w2 w3
  obtain ⟨kn, kd, ko, hcs4, hok, hkb⟩ := open_oct hT hB e4 (by omega)
  cases hcs4
  obtain ⟨vn, vd, vo, hcs5, hov, hvb⟩ := open_oct hT hB e5 (by omega)
  cases hcs5
  obtain ⟨ls, ys, m', ha, hl, hm', hbk, hel⟩ := open_things hT.lh hT.cH (by omega) hB e6 (by omega)
  have all : ∀ (L : List (List Value)) (ys : List (DataW H × List MemPlace)), ys.length = L.length → bs (ys.map (·.1)) ≤ 1048576 → (∀ (i : Nat) cs y, L[i]? = some cs → ys[i]? = some y → DataW.trod enc P W 0 (fun _ => true) true m' V.t_impl_Header cs = some y) →
      ∃ l : List HdV, l.length = L.length ∧ (∀ (i : Nat) c t, L[i]? = some c → l[i]? = some t → IHd W All c t) ∧ (l.map hdSz).sum ≤ bs (ys.map (·.1)) := by
    intro L
    induction L with
    | nil =>
      intro ys hl _ _
      have : ys = [] := List.eq_nil_of_length_eq_zero hl
      subst this
      exact ⟨[], rfl, fun i c x h => by simp at h, by simp⟩
    | cons cs L ihL =>
      intro ys hl hkk hel
      cases ys with
      | nil => simp at hl
      | cons y ys =>
        simp only [List.map_cons, hB.cons] at hkk
        obtain ⟨l, h1, h2, h3⟩ := ihL ys (by simpa using hl) (by omega) (fun i cs y hi hy => hel (i + 1) cs y (by simpa using hi) (by simpa using hy))
        obtain ⟨t, ht, htz⟩ := open_ih hT hB hS (hel 0 cs y rfl rfl) (by omega)
        refine ⟨t :: l, by simp [h1], ?_, ?_⟩
        · intro i c x hi hx
          cases i with
          | zero => simp at hi hx; subst hi; subst hx; exact ht
          | succ i => exact h2 i c x (by simpa using hi) (by simpa using hx)
        · simp only [List.map_cons, List.sum_cons, hB.cons]; omega
  obtain ⟨hs, h1, h2, h3⟩ := all (ls.getD []) ys hl (by omega) hel
  have hsum : (hs.map hdSz).sum ≤ 1048576 := by omega
  have hlen := hdSz_len hs
  have hkl := ocW_len (o := ko) (by omega)
  have hvl := ocW_len (o := vo) (by omega)
  have hhl := hds_len hsum
  have hL : LsAt W (fun q => q < W.heap.size) 3 (IHd W (fun q => q < W.heap.size)) c8 hs := by
    cases ls with
    | none =>
      obtain ⟨a, rfl⟩ := ha
      exact .inl ⟨⟨a, rfl⟩, List.eq_nil_of_length_eq_zero h1⟩
    | some L =>
      obtain ⟨bb, o, c, rfl, _, ⟨hc, _⟩, hcs⟩ := ha
      have h1' : hs.length = L.length := h1
      obtain ⟨g1, g2⟩ := flat_row (sz := 3) (by omega) (R := IHd W All) L hs o h1'.symm hcs h2
      refine .inr ⟨bb, o, c, L.flatten, by rw [h1'], by omega, fun hne => ?_, g1, g2.imp fun cs x h => ?_⟩
      · obtain ⟨y, l', rfl⟩ := List.exists_cons_of_ne_nil hne
        cases L with
        | nil => simp at h1'
        | cons q L =>
          obtain ⟨q1, q2⟩ := hcs 0 q rfl
          obtain ⟨u, us, rfl⟩ := List.exists_cons_of_ne_nil (l := q) (by rintro rfl; simp at q1)
          exact World.block_lt_of_cell? W _ (q2 0 u rfl)
      · obtain ⟨n, d, e1, e2⟩ := h
        exact ⟨n, d, e1, e2.here.mono (fun b hb => hb.2)⟩
  refine ⟨⟨z0, z1, z2, z3, ko, vo, hs⟩, ⟨⟨c4, c5, c6, c7, c8, rfl, hok.here.mono (fun b hb => hb.2), hov.here.mono (fun b hb => hb.2), hL⟩⟩, ⟨by constructor <;> simp <;> omega, by constructor <;> simp <;> omega, by constructor <;> simp <;> omega, by constructor <;> simp <;> omega, by simp; omega, by simp; omega, by simp; omega, fun h hm => ?_⟩, ?_⟩
  · have h5 : hdSz h ≤ 1048576 := Nat.le_trans (hdSz_mem hm) hsum
    unfold hdSz at h5
    constructor <;> omega
  · have v1 := vW_len (n := z2) (by omega) (by omega)
    have v2 := vW_len (n := z3) (by omega) (by omega)
    have v3 := vW_len (n := (hs.length : Int)) (by omega) (by omega)
    simp only [restW, List.length_append, List.length_cons, List.length_nil]
    omega
end
end Go.Kg

set_option linter.unusedSimpArgs false
set_option linter.unusedVariables false
namespace Go.Kg
open Go
theorem c_SameV {P : Program} {E : Env} (ht : TyWr P E) (uBs : P.underlying E.tBs = some (.slice E.tU8)) (kU8 : kindOf P E.tU8 = .scl) (hI : FnIs P E.f_spec_Same nt_spec_Same (rs_spec_Same E) (ir_spec_Same E)) (w : World) (K K' : Nat → Prop) (va vb : Value) (s t : List UInt8) (hs : BytesAt w K va s) (hb : BytesAt w K' vb t) (hls : s.length ≤ 1099511627776) :
    Ret P E.f_spec_Same #[va, vb] w fun r w' => r = .bool (s == t) ∧ Ext none1 w w' := by
  obtain ⟨a1, c1, rfl, _⟩ := hs.len
  obtain ⟨a2, c2, rfl, _⟩ := hb.len
  refine hI.call (args := [_, _]) (by simp [nt_spec_Same]) ?_
  simp [ir_spec_Same, rs_spec_Same, len_slice uBs]
  by_cases hl : s.length = t.length
  · refine cw_false (by simp [hl]) ?_
    simp [len_slice uBs]
    refine cw_loop (SmInv (.slice a1 s.length c1) (.slice a2 t.length c2) s t w) (fun f _ => match f 13 with | .int _ i => ((s.length : Int) - i).toNat | _ => 0) ?_ ?_
    · exact ⟨0, by omega, by simp, by simp, by simp, by simp, by simp, Ext.refl _ _⟩
    · rintro f w' ⟨i, hi, hp, h13, h12, h0, h1, he⟩
      simp [h13, h12]
      by_cases hlt : i < s.length
      · refine cw_true (by simp; omega) ?_
        obtain ⟨x, hx⟩ : ∃ x, s[i]? = some x := ⟨_, List.getElem?_eq_getElem hlt⟩
        obtain ⟨y, hy⟩ : ∃ y, t[i]? = some y := ⟨_, List.getElem?_eq_getElem (by omega)⟩
        rcases hs with ⟨_, h⟩ | ⟨b1, o1, c1', hv1, _, _, hc1⟩
        · subst h; simp at hx
        cases hv1
        rcases hb with ⟨_, h⟩ | ⟨b2, o2, c2', hv2, _, _, hc2⟩
        · subst h; simp at hy
        cases hv2
        simp [h13]
        refine cw_regH (Ext none1 w) he.drew ?_
        have heD := he.drew
        have x1 : ∀ w', Ext none1 w w' → w'.cell? ⟨b1, o1 + i, none⟩ = some (.int .u8 x.toNat) := fun w' h => h.cell (hc1 i x hx) (fun h => h)
        have y1 : ∀ w', Ext none1 w w' → w'.cell? ⟨b2, o2 + i, none⟩ = some (.int .u8 y.toNat) := fun w' h => h.cell (hc2 i y hy) (fun h => h)
        have hlt2 : i < t.length := by omega
        have ei : IntKind.i64.wrap ((i : Int) + 1) = ((i + 1 : Nat) : Int) := by rw [i64_small (by omega) (by omega)]; rfl
        simp +contextual [h13, h12, h0, h1, idx?, ht.sBs.siz, hlt, hlt2, Addr.add_mk, ld_scl kU8, x1, y1, x1 w' he, y1 w' he, heD]
        by_cases hxy : x = y
        · subst hxy
          refine cw_false (by simp) ?_
          simp [h13, ei]
          exact ⟨⟨i + 1, by omega, take_eq_succ hp hx hy, by simp, by simp [h12], by simp [h0], by simp [h1], heD⟩, by omega⟩
        · refine cw_true (by simp; intro h; exact hxy (UInt8.toNat_inj.1 (by omega))) ?_
          simp
          refine ⟨?_, heD⟩
          rintro rfl
          rw [hx] at hy
          exact hxy (by simpa using hy)
      · refine cw_false (by simp; omega) ?_
        have : i = s.length := by omega
        subst this
        rw [List.take_length, hl, List.take_length] at hp
        simp [hp, he]
  · refine cw_true (by simp; omega) ?_
    simp [Ext.refl]
    rintro rfl
    exact hl rfl
/-- all functions of the seat -/
structure FnsV (P : Program) (E : Env) (V : EnvV) : Prop where
  own : FnIs P V.f_impl_own nt_impl_own (rs_impl_own E V) (ir_impl_own E V)
  octets : FnIs P V.f_impl_octets nt_impl_octets (rs_impl_octets E V) (ir_impl_octets E V)
  null : FnIs P V.f_impl_null nt_impl_null (rs_impl_null E V) (ir_impl_null E V)
  tell : FnIs P V.f_impl_TellRecord nt_impl_TellRecord (rs_impl_TellRecord E V) (ir_impl_TellRecord E V)
  make : FnIs P V.f_impl_MakeRecord nt_impl_MakeRecord (rs_impl_MakeRecord E V) (ir_impl_MakeRecord E V)
  app : FnIs P V.f_pkmsg_Record_AppendTo nt_pkmsg_Record_AppendTo (rs_pkmsg_Record_AppendTo E V) (ir_pkmsg_Record_AppendTo E V)
  rdF : FnIs P V.f_pkmsg_Record_ReadFrom nt_pkmsg_Record_ReadFrom (rs_pkmsg_Record_ReadFrom E V) (ir_pkmsg_Record_ReadFrom E V)
  rdf : FnIs P V.f_pkmsg_Record_readFrom nt_pkmsg_Record_readFrom (rs_pkmsg_Record_readFrom E V) (ir_pkmsg_Record_readFrom E V)
  d1 : FnIs P V.f_pkmsg_Record_Default nt_pkmsg_Record_Default (rs_pkmsg_Record_Default E V) (ir_pkmsg_Record_Default E V)
  d2 : FnIs P V.f_pkmsg_Header_Default nt_pkmsg_Header_Default (rs_pkmsg_Header_Default E V) (ir_pkmsg_Header_Default E V)
  meas : FnIs P V.f_spec_Measured nt_spec_Measured (rs_spec_Measured E V) (ir_spec_Measured E V)
  bytes : FnIs P V.f_spec_RecordBytes nt_spec_RecordBytes (rs_spec_RecordBytes E V) (ir_spec_RecordBytes E V)
  rest : FnIs P V.f_spec_RecordRest nt_spec_RecordRest (rs_spec_RecordRest E V) (ir_spec_RecordRest E V)
  varint : FnIs P V.f_spec_Varint nt_spec_Varint (rs_spec_Varint E V) (ir_spec_Varint E V)
  turned : FnIs P V.f_spec_Turned nt_spec_Turned (rs_spec_Turned E V) (ir_spec_Turned E V)
  soct : FnIs P V.f_spec_OctetsBytes nt_spec_OctetsBytes (rs_spec_OctetsBytes E V) (ir_spec_OctetsBytes E V)
  shd : FnIs P V.f_spec_HeaderBytes nt_spec_HeaderBytes (rs_spec_HeaderBytes E V) (ir_spec_HeaderBytes E V)
  smr : FnIs P V.f_spec_SameRecord nt_spec_SameRecord (rs_spec_SameRecord E V) (ir_spec_SameRecord E V)
  smo : FnIs P V.f_spec_SameOctets nt_spec_SameOctets (rs_spec_SameOctets E V) (ir_spec_SameOctets E V)
  smh : FnIs P V.f_spec_SameHeaders nt_spec_SameHeaders (rs_spec_SameHeaders E V) (ir_spec_SameHeaders E V)
  z7 : FnIs P V.f_laws_zzFits7 nt_laws_zzFits7 (rs_laws_zzFits7 E V) (ir_laws_zzFits7 E V)
  z8 : FnIs P V.f_laws_zzFits8 nt_laws_zzFits8 (rs_laws_zzFits8 E V) (ir_laws_zzFits8 E V)
  z9 : FnIs P V.f_laws_zzFits9 nt_laws_zzFits9 (rs_laws_zzFits9 E V) (ir_laws_zzFits9 E V)
  z10 : FnIs P V.f_laws_zzFits10 nt_laws_zzFits10 (rs_laws_zzFits10 E V) (ir_laws_zzFits10 E V)
  little : FnIs P V.f_laws_little nt_laws_little (rs_laws_little E V) (ir_laws_little E V)
theorem tellFs {P : Program} {E : Env} {V : EnvV} (ht : TyV P E V) (hrb : TyRb P E) (F : FnsV P E V) (hW : WrV P E) (hR : RdV P E) (hU : ∀ n : Nat, n < 18446744073709551616 → SpC P E.tU8 E.f_spec_Uvarint [.int .u64 n] (uvS n)) (hS : SameC P E) : TellFs P E V := by
  have sv : SVarC P E V := fun n h0 h1 => c_SVarint ht F.varint (fun n h0 h1 w => c_STurned ht F.turned h0 h1 w) hU h0 h1
  have so : SOcC P E V := c_SOctets ht F.soct sv
  have sh : SHdC P E V := c_SHeader ht F.shd sv so
  have sr : SRestC P E V := c_SRest ht F.rest sv so sh
  have f8 := fun w K n d o h => c_zzFits8 ht F.z8 w K n d o h
  have f7 := fun w K cs h x => c_zzFits7 ht F.z7 f8 w K cs h x
  have f10 := fun w K hv hs h hm => c_zzFits10 ht F.z10 f7 w K hv hs h hm
  have ho : OwnC P E V := c_own ht F.own
  have hoc : OctC P V := c_octets ht F.octets
  have hn : NullC P V := c_nullV ht F.null
  have smo : SmOcC P V := c_SmOc ht F.smo hS
  have rf : ReadC P E V V.f_pkmsg_Record_readFrom [.bool false] := fun w b D sv s ev hb hsv h1 h2 h3 h4 => c_RecRead ht hrb F.rdf F.d1 F.d2 hR w b D sv s ev hb hsv h1 h2 h3 h4
  exact {
    fits := fun w K cs r h hm => c_zzFits9 ht F.z9 f8 f10 w K cs r h hm
    little := c_little ht F.little sr
    meas := c_SMeas ht F.meas sr
    bytes := c_SRec ht F.bytes sv sr
    tell := c_Tell ht F.tell ho hoc (c_RecRead' ht F.rdF rf)
    same := c_SmRec ht F.smr smo (fun w K K' va vb hs h1 h2 h3 h4 => c_SmHs ht F.smh smo w K K' va vb hs h1 h2 h3 h4)
    make := c_Make ht F.make hn ho (c_RecApp ht F.app hW)
    sm := hS }
end Go.Kg
