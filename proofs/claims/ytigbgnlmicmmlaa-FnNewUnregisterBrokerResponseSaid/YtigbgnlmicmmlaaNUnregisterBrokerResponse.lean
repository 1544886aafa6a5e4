/- A new UnregisterBrokerResponse is written, at every version, as the defaults of the reference are. Of every version: no condition. -/
import Derived.Test.YtigbgnlmicmmlaaKgF
import Derived.Test.YtigbgnlmicmmlaaRows
import Derived.ProofKit
import Derived.OpenShut
set_option linter.unusedVariables false
set_option linter.unusedSectionVars false
set_option linter.unusedSimpArgs false
set_option maxRecDepth 100000
namespace Go.Proofs.Ytigbgnlmicmmlaa
namespace newUnregisterBrokerResponse
open Go Go.Kg kg Go.ChangeShapes Go.WideShapes Go.ChangeAt Go.RowKit
def cfg : Cfg := ⟨env, true, 5, 6⟩
def sch : Sch := .prim ⟨none, none⟩ 1 1 .i32 0 0 (.prim ⟨none, none⟩ 2 2 .i16 0 0 (.prim ⟨none, none⟩ 3 3 .nstr 0 0 (.tags 4 4)))
def nl : Nat := (sch.genW cfg 86 49 0 ⟨7, 0, 0⟩).2.l
theorem isW : FnIs Try.prog 51 58 [.t 4] (msgW cfg 86 49 0 sch nl) := FnIs.of mixed Try.func51 (by kernel_rfl) (by kernel_rfl) (by kernel_rfl) (by kernel_rfl)
theorem isD : FnIs Try.prog 92 2 [] (seqL (genD cfg 86 49 (sch.dst cfg) 2)) := FnIs.of mixed Try.func92 (by kernel_rfl) (by kernel_rfl) (by kernel_rfl) (by kernel_rfl)
theorem isS : FnIs Try.prog 50 8 [] (irSetV cfg 86 49) := FnIs.of mixed Try.func50 (by kernel_rfl) (by kernel_rfl) (by kernel_rfl) (by kernel_rfl)
theorem isP : FnIs Try.prog 48 3 [.t 0] (irNewPtr cfg 86 49 92) := FnIs.of mixed Try.func48 (by kernel_rfl) (by kernel_rfl) (by kernel_rfl) (by kernel_rfl)
theorem isN : FnIs Try.prog 23 11 [.t 2] (irNew cfg 49 48 50 51) := FnIs.of mixed Try.func23 (by kernel_rfl) (by kernel_rfl) (by kernel_rfl) (by kernel_rfl)
theorem isV : FnIs Try.prog 49 3 [.t 2] (irMaxV env 0) := FnIs.of mixed Try.func49 (by kernel_rfl) (by kernel_rfl) (by kernel_rfl) (by kernel_rfl)
theorem isM : FnIs Try.prog 21 4 [.t 0] (irMax env 49 48 49) := FnIs.of mixed Try.func21 (by kernel_rfl) (by kernel_rfl) (by kernel_rfl) (by kernel_rfl)
theorem isL : FnIs Try.prog 5 22 [.t 2] (irFnNew env 21 22 23) := FnIs.of mixed Try.func5 (by kernel_rfl) (by kernel_rfl) (by kernel_rfl) (by kernel_rfl)
def src_UnregisterBrokerResponse : List FSrc := [⟨[(0, 3), (2, (-1)), (3, (-1)), (4, (-1))], none⟩, ⟨[(0, 2), (2, (-1)), (3, (-1)), (4, (-1))], none⟩, ⟨[(0, 8), (2, (-1)), (3, 0), (4, (-1))], none⟩]
theorem isc_UnregisterBrokerResponse : FnIs Try.prog 22 6 [.c 0 env.t_spec_Message] (irMsg env src_UnregisterBrokerResponse 0) := FnIs.of mixed Try.func22 (by kernel_rfl) (by kernel_rfl) (by kernel_rfl) (by kernel_rfl)
theorem msg_UnregisterBrokerResponse : MsgC Try.prog 22 (mkFS src_UnregisterBrokerResponse) 0 := msg_of tyK isc_UnregisterBrokerResponse (by kernel_rfl) ⟨(fun g F h => by cases h), ⟨(fun g F h => by cases h), ⟨(fun g F h => by cases h), trivial⟩⟩⟩
theorem need : sch.NeedW Try.prog cfg (· = []) := ⟨primW_i32 w_i32, ⟨primW_i16 w_i16, ⟨primW_nstr w_nstr (fun _ => w_cnstr), tagsC⟩⟩⟩
theorem mok : MsgOk Try.prog cfg (· = []) 86 49 0 sch nl := ⟨tyC true, ⟨rfl, rfl⟩, by kernel_rfl, by kernel_rfl, need, of_decide_eq_true (by kernel_rfl)⟩
noncomputable def z : Array Value := match zeroOf Try.prog 86 with | some (.agg z) => z | _ => #[]
theorem hz : zeroOf Try.prog 86 = some (.agg z) := by kernel_rfl
theorem hsz : (decide (0 < z.size)) = true := by kernel_rfl
theorem hdf : defOk Try.prog 86 z.size (sch.dst cfg) = true := by kernel_rfl
theorem hDef {w : World} {b a : Nat} {c : Array Value} {e : TypeId} (hb : w.heap[b]? = some (.cells c e (0, 0))) (hn : a + z.size ≤ c.size) : Ret Try.prog 92 #[.pointer (some ⟨b, a, none⟩)] w fun _ w' => w' = w.setBlk b (.cells (setD a (sch.dst cfg) c) e (0, 0)) := defaultC (by decide) isD hdf (dst_one cfg sch) hb hn
theorem hPtr (w : World) : Ret Try.prog 48 #[] w fun v w' => v = .pointer (some ⟨w.heap.size, 0, none⟩) ∧ w'.heap[w.heap.size]? = some (.cells (setD 0 (sch.dst cfg) z) 86 (0, 0)) ∧ Ext none1 w w' ∧ w.heap.size < w'.heap.size := newPtrC isP hz (Nat.le_refl _) hDef w
theorem hchk : ∀ ver : Int, sch.chkD ((setD 0 (sch.dst cfg) z).setIfInBounds 0 (.int .i16 ver)).toList = true := fun ver => by kernel_rfl
theorem chk : newChk (mkFS src_UnregisterBrokerResponse) 0 sch cfg 0 0 = true := by kernel_rfl
theorem hNew (v : Nat) (hv : v ≤ 0) : SpC Try.prog env.tU8 23 [.int .i64 v] (sch.wr v (flagAt cfg 0 v) sch.dfl) := newC (flex := 0) (nl := 0) (n := 0) (C := cfg) (S := sch) (z := z) (by decide) isN hPtr (fun hb hc ver => setVC (by decide) isS (by kernel_rfl) (by kernel_rfl) hb hc ver)
  (fun hcs hver hrep hok hb ho hbase hsz => appendTo mok (by decide) isW hcs hver hrep hok hb ho hbase hsz) (by kernel_rfl) (by kernel_rfl) (of_decide_eq_true hsz) hchk v ⟨by omega, by omega⟩ (newChk_of chk v hv).2
theorem law : NewLaw Try.prog env 21 22 23 0 (mkFS src_UnregisterBrokerResponse) 0 (fun v => sch.wr v (flagAt cfg 0 v) sch.dfl) where
  max w := c_max (by decide) isM (by kernel_rfl) (by kernel_rfl) (fun w => (hPtr w).mono fun _ _ h => h.2.2.1) (fun v w => c_maxV (by decide) isV v w) w
  msg := msg_UnregisterBrokerResponse
  new v hv := hNew v hv
  hM := by decide
  ok := FS.ok_of (by kernel_rfl)
  len := of_decide_eq_true (by kernel_rfl)
  same v hv := (newChk_of chk v hv).1
  short v hv := (newChk_of chk v hv).2

theorem own : ownKnob Try.prog.godebug = none := by kernel_rfl
theorem walk (n : Nat) (hn : n < 256) (w : World) : Ret Try.prog 5 #[.int .u8 n] w fun u w' => u = .bool true ∧ Ext none1 w w' := c_FnNew tyK spF is_spec_Default is_laws_version law (by decide) isL n hn w

set_option maxRecDepth 100000 in
theorem lifted (os : Os) (started : os.Started) (H : Type) (enc : TypeId × Value → H) :
    ReturnsInHanded {} Try.checked os 5 .any (Rows.fnNewUnregisterBrokerResponseSpec.pre6 enc Try.prog Try.f5 Rows.fnNewUnregisterBrokerResponseRow.domain false) (Rows.fnNewUnregisterBrokerResponseSpec.post enc Try.prog Try.f5 false true false false) := by
  refine returnsInHanded_of_change (C := Try.checked) own started (by kernel_rfl) Try.func5
    (ChangeSpec.witness6 (enc := enc) (C := Try.checked) false ⟨#[], #[.int .u8 0], []⟩ 8 (by kernel_rfl) (by kernel_rfl) (by kernel_rfl) (by kernel_rfl)) ?_
  intro W base args ds gs before hval0 hW hcnd _
  have hval : ∀ (j : Nat) t v, Try.f5.params[j]? = some t → args[j]? = some v → Value.okWide Try.prog W .any base t v := hval0
  have hW' := hW
  obtain ⟨p, q, hA0, hV, rfl, hfz, hnd⟩ := hW
  have hA : DataW.TrodAll enc Try.prog W 0 (fun _ => true) true Try.f5.params.toList args.toList ds p := hA0
  rw [Try.params5] at hA hval
  obtain ⟨v0, vs0, d0, ds0, p0, q0, hargs, rfl, rfl, h0, r0⟩ := trodAll_cons hA
  obtain ⟨rfl, rfl, rfl⟩ := trodAll_nil r0
  obtain rfl : args = #[v0] := by cases args; simp_all
  obtain ⟨rfl, rfl⟩ := trodVars_none hV
  obtain ⟨a0, rfl, rfl, rfl, w0⟩ := open_int Try.underlying5 (hval 0 5 v0 rfl rfl) h0
  clear hA0 hval0
  simp only [List.append_nil] at hW'
  have hx : 0 ≤ a0 ∧ a0 ≤ 255 := by simpa [Lit.wf, IntKind.min, IntKind.max, IntKind.signed, IntKind.bits] using w0
  obtain ⟨n, rfl⟩ : ∃ n : Nat, a0 = (n : Int) := ⟨a0.toNat, by omega⟩
  refine ((walk n (by omega) W).2).mono fun e W' ⟨v, he, hv, hx'⟩ => ?_
  subst he; subst hv
  exact ⟨_, rfl, post_of_ext (pa := []) (pv := []) hW' (fun _ _ _ => (trodAll_cons_mk (shut_bool Try.underlying4 _) trodAll_mk0)) (fun sp _ => (trodAll_cons_mk (shut_int Try.underlying5 w0) trodAll_mk0)) (fun _ _ => rfl) rfl
    hx' (ok_one (by kernel_rfl) rfl (okWide_bool_mk Try.underlying4 _))⟩

/-- the law holds of every input -/
theorem proved : Rows.FnNewUnregisterBrokerResponseSaid :=
  OpenClaim.holds_of_wide 5 Try.f5 rfl rfl rfl rfl rfl rfl rfl ⟨rfl, rfl, rfl, rfl, rfl⟩ rfl rfl rfl rfl rfl (by kernel_rfl) Try.func5 (by kernel_rfl)
    (of_decide_eq_true (by kernel_rfl)) (by unfold Func.isWrapper; first | (rw [if_pos (by decide +kernel)]; kernel_rfl) | (rw [if_neg (by decide +kernel)]; exact ⟨rfl, rfl⟩))
    (fun os started H enc _ => lifted os started H enc)
end newUnregisterBrokerResponse
end Go.Proofs.Ytigbgnlmicmmlaa
