/- A new StopReplicaRequest is written, at every version, as the defaults of the reference are. Of every version: no condition. -/
import Derived.Test.YtigbgnlmicmmlabKgF
import Derived.Test.YtigbgnlmicmmlabRows
import Derived.ProofKit
import Derived.OpenShut
set_option linter.unusedVariables false
set_option linter.unusedSectionVars false
set_option linter.unusedSimpArgs false
set_option maxRecDepth 100000
namespace Go.Proofs.Ytigbgnlmicmmlab
namespace newStopReplicaRequest
open Go Go.Kg kg Go.ChangeShapes Go.WideShapes Go.ChangeAt Go.RowKit
def cfg : Cfg := ⟨env, true, 5, 6⟩
def sch : Sch := .prim ⟨none, none⟩ 1 1 .i32 0 0 (.prim ⟨none, none⟩ 2 2 .i32 0 0 (.prim ⟨some 4, none⟩ 3 3 .bool 0 0 (.prim ⟨some 1, none⟩ 4 4 .i64 0 (-1) (.prim ⟨some 0, some 2⟩ 5 5 .bool 0 0 (.arrS ⟨none, none⟩ 6 6 127 none 133 130 5 167 (.prim ⟨none, none⟩ 0 0 .str 0 0 (.prim ⟨some 0, some 0⟩ 1 1 .i32 0 0 (.arrP ⟨some 1, some 2⟩ 2 2 111 none .i32 (.arrS ⟨some 3, none⟩ 3 3 131 none 136 134 4 168 (.prim ⟨none, none⟩ 0 0 .i32 0 0 (.prim ⟨none, none⟩ 1 1 .i32 0 (-1) (.prim ⟨none, none⟩ 2 2 .bool 0 0 (.tags 3 3)))) (.tags 4 4))))) (.tags 7 7))))))
def nl : Nat := (sch.genW cfg 129 54 0 ⟨7, 0, 0⟩).2.l
theorem isW : FnIs Try.prog 56 245 [.t 4] (msgW cfg 129 54 2 sch nl) := FnIs.of mixed Try.func56 (by kernel_rfl) (by kernel_rfl) (by kernel_rfl) (by kernel_rfl)
theorem isD : FnIs Try.prog 93 5 [] (seqL (genD cfg 129 54 (sch.dst cfg) 2)) := FnIs.of mixed Try.func93 (by kernel_rfl) (by kernel_rfl) (by kernel_rfl) (by kernel_rfl)
theorem isS : FnIs Try.prog 55 8 [] (irSetV cfg 129 54) := FnIs.of mixed Try.func55 (by kernel_rfl) (by kernel_rfl) (by kernel_rfl) (by kernel_rfl)
theorem isP : FnIs Try.prog 52 3 [.t 0] (irNewPtr cfg 129 54 93) := FnIs.of mixed Try.func52 (by kernel_rfl) (by kernel_rfl) (by kernel_rfl) (by kernel_rfl)
theorem isN : FnIs Try.prog 27 11 [.t 2] (irNew cfg 54 52 55 56) := FnIs.of mixed Try.func27 (by kernel_rfl) (by kernel_rfl) (by kernel_rfl) (by kernel_rfl)
theorem isV : FnIs Try.prog 53 3 [.t 2] (irMaxV env 4) := FnIs.of mixed Try.func53 (by kernel_rfl) (by kernel_rfl) (by kernel_rfl) (by kernel_rfl)
theorem isM : FnIs Try.prog 25 4 [.t 0] (irMax env 54 52 53) := FnIs.of mixed Try.func25 (by kernel_rfl) (by kernel_rfl) (by kernel_rfl) (by kernel_rfl)
theorem isL : FnIs Try.prog 7 22 [.t 2] (irFnNew env 25 26 27) := FnIs.of mixed Try.func7 (by kernel_rfl) (by kernel_rfl) (by kernel_rfl) (by kernel_rfl)
def src_sStopReplicaRequestTopicPartitionState : List FSrc := [⟨[(0, 3), (2, (-1)), (3, (-1)), (4, (-1))], none⟩, ⟨[(0, 3), (2, (-1)), (3, (-1)), (4, (-1)), (5, (-1))], none⟩, ⟨[(0, 0), (2, (-1)), (3, (-1)), (4, (-1))], none⟩]
theorem isc_sStopReplicaRequestTopicPartitionState : FnIs Try.prog 94 5 [.t 0] (irSub env src_sStopReplicaRequestTopicPartitionState) := FnIs.of mixed Try.func94 (by kernel_rfl) (by kernel_rfl) (by kernel_rfl) (by kernel_rfl)
theorem sub_sStopReplicaRequestTopicPartitionState : SubC Try.prog 94 (mkFS src_sStopReplicaRequestTopicPartitionState) := sub_of tyK isc_sStopReplicaRequestTopicPartitionState (by kernel_rfl) ⟨(fun g F h => by cases h), ⟨(fun g F h => by cases h), ⟨(fun g F h => by cases h), trivial⟩⟩⟩
def src_sStopReplicaRequestTopic : List FSrc := [⟨[(0, 8), (2, (-1)), (3, (-1)), (4, (-1))], none⟩, ⟨[(0, 3), (2, 0), (3, (-1)), (4, (-1))], none⟩, ⟨[(0, 11), (1, 1), (2, 2), (3, (-1)), (4, (-1)), (6, 3)], none⟩, ⟨[(0, 11), (1, 3), (2, (-1)), (3, (-1)), (4, (-1)), (6, 10)], some (94, mkFS src_sStopReplicaRequestTopicPartitionState)⟩]
theorem isc_sStopReplicaRequestTopic : FnIs Try.prog 54 7 [.t 0] (irSub env src_sStopReplicaRequestTopic) := FnIs.of mixed Try.func54 (by kernel_rfl) (by kernel_rfl) (by kernel_rfl) (by kernel_rfl)
theorem sub_sStopReplicaRequestTopic : SubC Try.prog 54 (mkFS src_sStopReplicaRequestTopic) := sub_of tyK isc_sStopReplicaRequestTopic (by kernel_rfl) ⟨(fun g F h => by cases h), ⟨(fun g F h => by cases h), ⟨(fun g F h => by cases h), ⟨(fun g F h => by cases h; exact sub_sStopReplicaRequestTopicPartitionState), trivial⟩⟩⟩⟩
def src_StopReplicaRequest : List FSrc := [⟨[(0, 3), (2, (-1)), (3, (-1)), (4, (-1))], none⟩, ⟨[(0, 3), (2, (-1)), (3, (-1)), (4, (-1))], none⟩, ⟨[(0, 0), (1, 4), (2, (-1)), (3, (-1)), (4, (-1))], none⟩, ⟨[(0, 4), (1, 1), (2, (-1)), (3, (-1)), (4, (-1)), (5, (-1))], none⟩, ⟨[(0, 0), (2, 2), (3, (-1)), (4, (-1))], none⟩, ⟨[(0, 11), (2, (-1)), (3, (-1)), (4, (-1)), (6, 10)], some (54, mkFS src_sStopReplicaRequestTopic)⟩]
theorem isc_StopReplicaRequest : FnIs Try.prog 26 10 [.c 0 env.t_spec_Message] (irMsg env src_StopReplicaRequest 2) := FnIs.of mixed Try.func26 (by kernel_rfl) (by kernel_rfl) (by kernel_rfl) (by kernel_rfl)
theorem msg_StopReplicaRequest : MsgC Try.prog 26 (mkFS src_StopReplicaRequest) 2 := msg_of tyK isc_StopReplicaRequest (by kernel_rfl) ⟨(fun g F h => by cases h), ⟨(fun g F h => by cases h), ⟨(fun g F h => by cases h), ⟨(fun g F h => by cases h), ⟨(fun g F h => by cases h), ⟨(fun g F h => by cases h; exact sub_sStopReplicaRequestTopic), trivial⟩⟩⟩⟩⟩⟩
theorem need : sch.NeedW Try.prog cfg (· = []) := ⟨primW_i32 w_i32, ⟨primW_i32 w_i32, ⟨primW_bool w_bool, ⟨primW_i64 w_i64, ⟨primW_bool w_bool, ⟨lenWC_none w_len (fun _ => w_clen), ⟨primW_str w_str (fun _ => w_cstr), ⟨primW_i32 w_i32, ⟨primW_i32 w_i32, lenWC_none w_len (fun _ => w_clen), ⟨lenWC_none w_len (fun _ => w_clen), ⟨primW_i32 w_i32, ⟨primW_i32 w_i32, ⟨primW_bool w_bool, tagsC⟩⟩⟩, tagsC⟩⟩⟩⟩, tagsC⟩⟩⟩⟩⟩⟩
theorem mok : MsgOk Try.prog cfg (· = []) 129 54 2 sch nl := ⟨tyC true, ⟨rfl, rfl⟩, by kernel_rfl, by kernel_rfl, need, of_decide_eq_true (by kernel_rfl)⟩
noncomputable def z : Array Value := match zeroOf Try.prog 129 with | some (.agg z) => z | _ => #[]
theorem hz : zeroOf Try.prog 129 = some (.agg z) := by kernel_rfl
theorem hsz : (decide (0 < z.size)) = true := by kernel_rfl
theorem hdf : defOk Try.prog 129 z.size (sch.dst cfg) = true := by kernel_rfl
theorem hDef {w : World} {b a : Nat} {c : Array Value} {e : TypeId} (hb : w.heap[b]? = some (.cells c e (0, 0))) (hn : a + z.size ≤ c.size) : Ret Try.prog 93 #[.pointer (some ⟨b, a, none⟩)] w fun _ w' => w' = w.setBlk b (.cells (setD a (sch.dst cfg) c) e (0, 0)) := defaultC (by decide) isD hdf (dst_one cfg sch) hb hn
theorem hPtr (w : World) : Ret Try.prog 52 #[] w fun v w' => v = .pointer (some ⟨w.heap.size, 0, none⟩) ∧ w'.heap[w.heap.size]? = some (.cells (setD 0 (sch.dst cfg) z) 129 (0, 0)) ∧ Ext none1 w w' ∧ w.heap.size < w'.heap.size := newPtrC isP hz (Nat.le_refl _) hDef w
theorem hchk : ∀ ver : Int, sch.chkD ((setD 0 (sch.dst cfg) z).setIfInBounds 0 (.int .i16 ver)).toList = true := fun ver => by kernel_rfl
theorem chk : newChk (mkFS src_StopReplicaRequest) 2 sch cfg 2 4 = true := by kernel_rfl
theorem hNew (v : Nat) (hv : v ≤ 4) : SpC Try.prog env.tU8 27 [.int .i64 v] (sch.wr v (flagAt cfg 2 v) sch.dfl) := newC (flex := 2) (nl := 0) (n := 0) (C := cfg) (S := sch) (z := z) (by decide) isN hPtr (fun hb hc ver => setVC (by decide) isS (by kernel_rfl) (by kernel_rfl) hb hc ver)
  (fun hcs hver hrep hok hb ho hbase hsz => appendTo mok (by decide) isW hcs hver hrep hok hb ho hbase hsz) (by kernel_rfl) (by kernel_rfl) (of_decide_eq_true hsz) hchk v ⟨by omega, by omega⟩ (newChk_of chk v hv).2
theorem law : NewLaw Try.prog env 25 26 27 4 (mkFS src_StopReplicaRequest) 2 (fun v => sch.wr v (flagAt cfg 2 v) sch.dfl) where
  max w := c_max (by decide) isM (by kernel_rfl) (by kernel_rfl) (fun w => (hPtr w).mono fun _ _ h => h.2.2.1) (fun v w => c_maxV (by decide) isV v w) w
  msg := msg_StopReplicaRequest
  new v hv := hNew v hv
  hM := by decide
  ok := FS.ok_of (by kernel_rfl)
  len := of_decide_eq_true (by kernel_rfl)
  same v hv := (newChk_of chk v hv).1
  short v hv := (newChk_of chk v hv).2

theorem own : ownKnob Try.prog.godebug = none := by kernel_rfl
theorem walk (n : Nat) (hn : n < 256) (w : World) : Ret Try.prog 7 #[.int .u8 n] w fun u w' => u = .bool true ∧ Ext none1 w w' := c_FnNew tyK spF is_spec_Default is_laws_version law (by decide) isL n hn w

set_option maxRecDepth 100000 in
theorem lifted (os : Os) (started : os.Started) (H : Type) (enc : TypeId × Value → H) :
    ReturnsInHanded {} Try.checked os 7 .any (Rows.fnNewStopReplicaRequestSpec.pre6 enc Try.prog Try.f7 Rows.fnNewStopReplicaRequestRow.domain false) (Rows.fnNewStopReplicaRequestSpec.post enc Try.prog Try.f7 false true false false) := by
  refine returnsInHanded_of_change (C := Try.checked) own started (by kernel_rfl) Try.func7
    (ChangeSpec.witness6 (enc := enc) (C := Try.checked) false ⟨#[], #[.int .u8 0], []⟩ 8 (by kernel_rfl) (by kernel_rfl) (by kernel_rfl) (by kernel_rfl)) ?_
  intro W base args ds gs before hval0 hW hcnd _
  have hval : ∀ (j : Nat) t v, Try.f7.params[j]? = some t → args[j]? = some v → Value.okWide Try.prog W .any base t v := hval0
  have hW' := hW
  obtain ⟨p, q, hA0, hV, rfl, hfz, hnd⟩ := hW
  have hA : DataW.TrodAll enc Try.prog W 0 (fun _ => true) true Try.f7.params.toList args.toList ds p := hA0
  rw [Try.params7] at hA hval
  obtain ⟨v0, vs0, d0, ds0, p0, q0, hargs, rfl, rfl, h0, r0⟩ := trodAll_cons hA
  obtain ⟨rfl, rfl, rfl⟩ := trodAll_nil r0
  obtain rfl : args = #[v0] := by cases args; simp_all
  obtain ⟨rfl, rfl⟩ := trodVars_none hV
  obtain ⟨a0, rfl, rfl, rfl, w0⟩ := open_int Try.underlying5 (hval 0 5 v0 rfl rfl) h0
  clear hA0 hval0
  simp only [List.append_nil] at hW'
  have hx : 0 ≤ a0 ∧ a0 ≤ 255 := by simpa [Lit.wf, IntKind.min, IntKind.max, IntKind.signed, IntKind.bits] using w0
  obtain ⟨n, rfl⟩ : ∃ n : Nat, a0 = (n : Int) := ⟨a0.toNat, by omega⟩
  refine ((walk n (by omega) W).2).mono fun e W' ⟨v, he, hv, hx'⟩ => ?_
  subst he; subst hv
  exact ⟨_, rfl, post_of_ext (pa := []) (pv := []) hW' (fun _ _ _ => (trodAll_cons_mk (shut_bool Try.underlying4 _) trodAll_mk0)) (fun sp _ => (trodAll_cons_mk (shut_int Try.underlying5 w0) trodAll_mk0)) (fun _ _ => rfl) rfl
    hx' (ok_one (by kernel_rfl) rfl (okWide_bool_mk Try.underlying4 _))⟩

/-- the law holds of every input -/
theorem proved : Rows.FnNewStopReplicaRequestSaid :=
  OpenClaim.holds_of_wide 7 Try.f7 rfl rfl rfl rfl rfl rfl rfl ⟨rfl, rfl, rfl, rfl, rfl⟩ rfl rfl rfl rfl rfl (by kernel_rfl) Try.func7 (by kernel_rfl)
    (of_decide_eq_true (by kernel_rfl)) (by unfold Func.isWrapper; first | (rw [if_pos (by decide +kernel)]; kernel_rfl) | (rw [if_neg (by decide +kernel)]; exact ⟨rfl, rfl⟩))
    (fun os started H enc _ => lifted os started H enc)
end newStopReplicaRequest
end Go.Proofs.Ytigbgnlmicmmlab
