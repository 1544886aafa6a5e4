/- A new OffsetForLeaderEpochRequest is written, at every version, as the defaults of the reference are. Of every version: no condition. -/
import Derived.Test.YtigbgnlmicmmlaaKgF
import Derived.Test.YtigbgnlmicmmlaaRows
import Derived.ProofKit
import Derived.OpenShut
set_option linter.unusedVariables false
set_option linter.unusedSectionVars false
set_option linter.unusedSimpArgs false
set_option maxRecDepth 100000
namespace Go.Proofs.Ytigbgnlmicmmlaa
namespace newOffsetForLeaderEpochRequest
open Go Go.Kg kg Go.ChangeShapes Go.WideShapes Go.ChangeAt Go.RowKit
def cfg : Cfg := ⟨env, true, 5, 6⟩
def sch : Sch := .prim ⟨some 3, none⟩ 1 1 .i32 0 (-2) (.arrS ⟨none, none⟩ 2 2 107 none 113 110 3 171 (.prim ⟨none, none⟩ 0 0 .str 0 0 (.arrS ⟨none, none⟩ 1 1 111 none 116 114 4 172 (.prim ⟨none, none⟩ 0 0 .i32 0 0 (.prim ⟨some 2, none⟩ 1 1 .i32 0 (-1) (.prim ⟨none, none⟩ 2 2 .i32 0 0 (.tags 3 3)))) (.tags 2 2))) (.tags 3 3))
def nl : Nat := (sch.genW cfg 109 58 0 ⟨7, 0, 0⟩).2.l
theorem isW : FnIs Try.prog 70 156 [.t 4] (msgW cfg 109 58 4 sch nl) := FnIs.of mixed Try.func70 (by kernel_rfl) (by kernel_rfl) (by kernel_rfl) (by kernel_rfl)
theorem isD : FnIs Try.prog 105 5 [] (seqL (genD cfg 109 58 (sch.dst cfg) 2)) := FnIs.of mixed Try.func105 (by kernel_rfl) (by kernel_rfl) (by kernel_rfl) (by kernel_rfl)
theorem isS : FnIs Try.prog 69 8 [] (irSetV cfg 109 58) := FnIs.of mixed Try.func69 (by kernel_rfl) (by kernel_rfl) (by kernel_rfl) (by kernel_rfl)
theorem isP : FnIs Try.prog 66 3 [.t 0] (irNewPtr cfg 109 58 105) := FnIs.of mixed Try.func66 (by kernel_rfl) (by kernel_rfl) (by kernel_rfl) (by kernel_rfl)
theorem isN : FnIs Try.prog 35 11 [.t 2] (irNew cfg 58 66 69 70) := FnIs.of mixed Try.func35 (by kernel_rfl) (by kernel_rfl) (by kernel_rfl) (by kernel_rfl)
theorem isV : FnIs Try.prog 67 3 [.t 2] (irMaxV env 4) := FnIs.of mixed Try.func67 (by kernel_rfl) (by kernel_rfl) (by kernel_rfl) (by kernel_rfl)
theorem isM : FnIs Try.prog 33 4 [.t 0] (irMax env 58 66 67) := FnIs.of mixed Try.func33 (by kernel_rfl) (by kernel_rfl) (by kernel_rfl) (by kernel_rfl)
theorem isL : FnIs Try.prog 9 22 [.t 2] (irFnNew env 33 34 35) := FnIs.of mixed Try.func9 (by kernel_rfl) (by kernel_rfl) (by kernel_rfl) (by kernel_rfl)
def src_sOffsetForLeaderEpochRequestTopicPartition : List FSrc := [⟨[(0, 3), (2, (-1)), (3, (-1)), (4, (-1))], none⟩, ⟨[(0, 3), (1, 2), (2, (-1)), (3, (-1)), (4, (-1)), (5, (-1))], none⟩, ⟨[(0, 3), (2, (-1)), (3, (-1)), (4, (-1))], none⟩]
theorem isc_sOffsetForLeaderEpochRequestTopicPartition : FnIs Try.prog 106 5 [.t 0] (irSub env src_sOffsetForLeaderEpochRequestTopicPartition) := FnIs.of mixed Try.func106 (by kernel_rfl) (by kernel_rfl) (by kernel_rfl) (by kernel_rfl)
theorem sub_sOffsetForLeaderEpochRequestTopicPartition : SubC Try.prog 106 (mkFS src_sOffsetForLeaderEpochRequestTopicPartition) := sub_of tyK isc_sOffsetForLeaderEpochRequestTopicPartition (by kernel_rfl) ⟨(fun g F h => by cases h), ⟨(fun g F h => by cases h), ⟨(fun g F h => by cases h), trivial⟩⟩⟩
def src_sOffsetForLeaderEpochRequestTopic : List FSrc := [⟨[(0, 8), (2, (-1)), (3, (-1)), (4, (-1))], none⟩, ⟨[(0, 11), (2, (-1)), (3, (-1)), (4, (-1)), (6, 10)], some (106, mkFS src_sOffsetForLeaderEpochRequestTopicPartition)⟩]
theorem isc_sOffsetForLeaderEpochRequestTopic : FnIs Try.prog 68 5 [.t 0] (irSub env src_sOffsetForLeaderEpochRequestTopic) := FnIs.of mixed Try.func68 (by kernel_rfl) (by kernel_rfl) (by kernel_rfl) (by kernel_rfl)
theorem sub_sOffsetForLeaderEpochRequestTopic : SubC Try.prog 68 (mkFS src_sOffsetForLeaderEpochRequestTopic) := sub_of tyK isc_sOffsetForLeaderEpochRequestTopic (by kernel_rfl) ⟨(fun g F h => by cases h), ⟨(fun g F h => by cases h; exact sub_sOffsetForLeaderEpochRequestTopicPartition), trivial⟩⟩
def src_OffsetForLeaderEpochRequest : List FSrc := [⟨[(0, 3), (1, 3), (2, (-1)), (3, (-1)), (4, (-1)), (5, (-2))], none⟩, ⟨[(0, 11), (2, (-1)), (3, (-1)), (4, (-1)), (6, 10)], some (68, mkFS src_sOffsetForLeaderEpochRequestTopic)⟩]
theorem isc_OffsetForLeaderEpochRequest : FnIs Try.prog 34 6 [.c 0 env.t_spec_Message] (irMsg env src_OffsetForLeaderEpochRequest 4) := FnIs.of mixed Try.func34 (by kernel_rfl) (by kernel_rfl) (by kernel_rfl) (by kernel_rfl)
theorem msg_OffsetForLeaderEpochRequest : MsgC Try.prog 34 (mkFS src_OffsetForLeaderEpochRequest) 4 := msg_of tyK isc_OffsetForLeaderEpochRequest (by kernel_rfl) ⟨(fun g F h => by cases h), ⟨(fun g F h => by cases h; exact sub_sOffsetForLeaderEpochRequestTopic), trivial⟩⟩
theorem need : sch.NeedW Try.prog cfg (· = []) := ⟨primW_i32 w_i32, ⟨lenWC_none w_len (fun _ => w_clen), ⟨primW_str w_str (fun _ => w_cstr), ⟨lenWC_none w_len (fun _ => w_clen), ⟨primW_i32 w_i32, ⟨primW_i32 w_i32, ⟨primW_i32 w_i32, tagsC⟩⟩⟩, tagsC⟩⟩, tagsC⟩⟩
theorem mok : MsgOk Try.prog cfg (· = []) 109 58 4 sch nl := ⟨tyC true, ⟨rfl, rfl⟩, by kernel_rfl, by kernel_rfl, need, of_decide_eq_true (by kernel_rfl)⟩
noncomputable def z : Array Value := match zeroOf Try.prog 109 with | some (.agg z) => z | _ => #[]
theorem hz : zeroOf Try.prog 109 = some (.agg z) := by kernel_rfl
theorem hsz : (decide (0 < z.size)) = true := by kernel_rfl
theorem hdf : defOk Try.prog 109 z.size (sch.dst cfg) = true := by kernel_rfl
theorem hDef {w : World} {b a : Nat} {c : Array Value} {e : TypeId} (hb : w.heap[b]? = some (.cells c e (0, 0))) (hn : a + z.size ≤ c.size) : Ret Try.prog 105 #[.pointer (some ⟨b, a, none⟩)] w fun _ w' => w' = w.setBlk b (.cells (setD a (sch.dst cfg) c) e (0, 0)) := defaultC (by decide) isD hdf (dst_one cfg sch) hb hn
theorem hPtr (w : World) : Ret Try.prog 66 #[] w fun v w' => v = .pointer (some ⟨w.heap.size, 0, none⟩) ∧ w'.heap[w.heap.size]? = some (.cells (setD 0 (sch.dst cfg) z) 109 (0, 0)) ∧ Ext none1 w w' ∧ w.heap.size < w'.heap.size := newPtrC isP hz (Nat.le_refl _) hDef w
theorem hchk : ∀ ver : Int, sch.chkD ((setD 0 (sch.dst cfg) z).setIfInBounds 0 (.int .i16 ver)).toList = true := fun ver => by kernel_rfl
theorem chk : newChk (mkFS src_OffsetForLeaderEpochRequest) 4 sch cfg 4 4 = true := by kernel_rfl
theorem hNew (v : Nat) (hv : v ≤ 4) : SpC Try.prog env.tU8 35 [.int .i64 v] (sch.wr v (flagAt cfg 4 v) sch.dfl) := newC (flex := 4) (nl := 0) (n := 0) (C := cfg) (S := sch) (z := z) (by decide) isN hPtr (fun hb hc ver => setVC (by decide) isS (by kernel_rfl) (by kernel_rfl) hb hc ver)
  (fun hcs hver hrep hok hb ho hbase hsz => appendTo mok (by decide) isW hcs hver hrep hok hb ho hbase hsz) (by kernel_rfl) (by kernel_rfl) (of_decide_eq_true hsz) hchk v ⟨by omega, by omega⟩ (newChk_of chk v hv).2
theorem law : NewLaw Try.prog env 33 34 35 4 (mkFS src_OffsetForLeaderEpochRequest) 4 (fun v => sch.wr v (flagAt cfg 4 v) sch.dfl) where
  max w := c_max (by decide) isM (by kernel_rfl) (by kernel_rfl) (fun w => (hPtr w).mono fun _ _ h => h.2.2.1) (fun v w => c_maxV (by decide) isV v w) w
  msg := msg_OffsetForLeaderEpochRequest
  new v hv := hNew v hv
  hM := by decide
  ok := FS.ok_of (by kernel_rfl)
  len := of_decide_eq_true (by kernel_rfl)
  same v hv := (newChk_of chk v hv).1
  short v hv := (newChk_of chk v hv).2

theorem own : ownKnob Try.prog.godebug = none := by kernel_rfl
theorem walk (n : Nat) (hn : n < 256) (w : World) : Ret Try.prog 9 #[.int .u8 n] w fun u w' => u = .bool true ∧ Ext none1 w w' := c_FnNew tyK spF is_spec_Default is_laws_version law (by decide) isL n hn w

set_option maxRecDepth 100000 in
theorem lifted (os : Os) (started : os.Started) (H : Type) (enc : TypeId × Value → H) :
    ReturnsInHanded {} Try.checked os 9 .any (Rows.fnNewOffsetForLeaderEpochRequestSpec.pre6 enc Try.prog Try.f9 Rows.fnNewOffsetForLeaderEpochRequestRow.domain false) (Rows.fnNewOffsetForLeaderEpochRequestSpec.post enc Try.prog Try.f9 false true false false) := by
  refine returnsInHanded_of_change (C := Try.checked) own started (by kernel_rfl) Try.func9
    (ChangeSpec.witness6 (enc := enc) (C := Try.checked) false ⟨#[], #[.int .u8 0], []⟩ 8 (by kernel_rfl) (by kernel_rfl) (by kernel_rfl) (by kernel_rfl)) ?_
  intro W base args ds gs before hval0 hW hcnd _
  have hval : ∀ (j : Nat) t v, Try.f9.params[j]? = some t → args[j]? = some v → Value.okWide Try.prog W .any base t v := hval0
  have hW' := hW
  obtain ⟨p, q, hA0, hV, rfl, hfz, hnd⟩ := hW
  have hA : DataW.TrodAll enc Try.prog W 0 (fun _ => true) true Try.f9.params.toList args.toList ds p := hA0
  rw [Try.params9] at hA hval
  obtain ⟨v0, vs0, d0, ds0, p0, q0, hargs, rfl, rfl, h0, r0⟩ := trodAll_cons hA
  obtain ⟨rfl, rfl, rfl⟩ := trodAll_nil r0
  obtain rfl : args = #[v0] := by cases args; simp_all
  obtain ⟨rfl, rfl⟩ := trodVars_none hV
  obtain ⟨a0, rfl, rfl, rfl, w0⟩ := open_int Try.underlying5 (hval 0 5 v0 rfl rfl) h0
  clear hA0 hval0
  simp only [List.append_nil] at hW'
  have hx : 0 ≤ a0 ∧ a0 ≤ 255 := by simpa [Lit.wf, IntKind.min, IntKind.max, IntKind.signed, IntKind.bits] using w0
  obtain ⟨n, rfl⟩ : ∃ n : Nat, a0 = (n : Int) := ⟨a0.toNat, by omega⟩
  refine ((walk n (by omega) W).2).mono fun e W' ⟨v, he, hv, hx'⟩ => ?_
  subst he; subst hv
  exact ⟨_, rfl, post_of_ext (pa := []) (pv := []) hW' (fun _ _ _ => (trodAll_cons_mk (shut_bool Try.underlying4 _) trodAll_mk0)) (fun sp _ => (trodAll_cons_mk (shut_int Try.underlying5 w0) trodAll_mk0)) (fun _ _ => rfl) rfl
    hx' (ok_one (by kernel_rfl) rfl (okWide_bool_mk Try.underlying4 _))⟩

/-- the law holds of every input -/
theorem proved : Rows.FnNewOffsetForLeaderEpochRequestSaid :=
  OpenClaim.holds_of_wide 9 Try.f9 rfl rfl rfl rfl rfl rfl rfl ⟨rfl, rfl, rfl, rfl, rfl⟩ rfl rfl rfl rfl rfl (by kernel_rfl) Try.func9 (by kernel_rfl)
    (of_decide_eq_true (by kernel_rfl)) (by unfold Func.isWrapper; first | (rw [if_pos (by decide +kernel)]; kernel_rfl) | (rw [if_neg (by decide +kernel)]; exact ⟨rfl, rfl⟩))
    (fun os started H enc _ => lifted os started H enc)
end newOffsetForLeaderEpochRequest
end Go.Proofs.Ytigbgnlmicmmlaa
