/- A new WriteTxnMarkersRequest is written, at every version, as the defaults of the reference are. Of every version: no condition. -/
import Derived.Test.YtigbgnlmicmmlabKgF
import Derived.Test.YtigbgnlmicmmlabRows
import Derived.ProofKit
import Derived.OpenShut
set_option linter.unusedVariables false
set_option linter.unusedSectionVars false
set_option linter.unusedSimpArgs false
set_option maxRecDepth 100000
namespace Go.Proofs.Ytigbgnlmicmmlab
namespace newWriteTxnMarkersRequest
open Go Go.Kg kg Go.ChangeShapes Go.WideShapes Go.ChangeAt Go.RowKit
def cfg : Cfg := ⟨env, true, 5, 6⟩
def sch : Sch := .arrS ⟨none, none⟩ 1 1 101 none 108 104 7 163 (.prim ⟨none, none⟩ 0 0 .i64 0 0 (.prim ⟨none, none⟩ 1 1 .i16 0 0 (.prim ⟨none, none⟩ 2 2 .bool 0 0 (.arrS ⟨none, none⟩ 3 3 105 none 113 110 3 164 (.prim ⟨none, none⟩ 0 0 .str 0 0 (.arrP ⟨none, none⟩ 1 1 111 none .i32 (.tags 2 2))) (.prim ⟨none, none⟩ 4 4 .i32 0 0 (.prim ⟨some 2, none⟩ 5 5 .i8 0 0 (.tags 6 6))))))) (.tags 2 2)
def nl : Nat := (sch.genW cfg 103 50 0 ⟨7, 0, 0⟩).2.l
theorem isW : FnIs Try.prog 46 191 [.t 4] (msgW cfg 103 50 1 sch nl) := FnIs.of mixed Try.func46 (by kernel_rfl) (by kernel_rfl) (by kernel_rfl) (by kernel_rfl)
theorem isD : FnIs Try.prog 85 2 [] (seqL (genD cfg 103 50 (sch.dst cfg) 2)) := FnIs.of mixed Try.func85 (by kernel_rfl) (by kernel_rfl) (by kernel_rfl) (by kernel_rfl)
theorem isS : FnIs Try.prog 45 8 [] (irSetV cfg 103 50) := FnIs.of mixed Try.func45 (by kernel_rfl) (by kernel_rfl) (by kernel_rfl) (by kernel_rfl)
theorem isP : FnIs Try.prog 42 3 [.t 0] (irNewPtr cfg 103 50 85) := FnIs.of mixed Try.func42 (by kernel_rfl) (by kernel_rfl) (by kernel_rfl) (by kernel_rfl)
theorem isN : FnIs Try.prog 21 11 [.t 2] (irNew cfg 50 42 45 46) := FnIs.of mixed Try.func21 (by kernel_rfl) (by kernel_rfl) (by kernel_rfl) (by kernel_rfl)
theorem isV : FnIs Try.prog 43 3 [.t 2] (irMaxV env 2) := FnIs.of mixed Try.func43 (by kernel_rfl) (by kernel_rfl) (by kernel_rfl) (by kernel_rfl)
theorem isM : FnIs Try.prog 19 4 [.t 0] (irMax env 50 42 43) := FnIs.of mixed Try.func19 (by kernel_rfl) (by kernel_rfl) (by kernel_rfl) (by kernel_rfl)
theorem isL : FnIs Try.prog 5 22 [.t 2] (irFnNew env 19 20 21) := FnIs.of mixed Try.func5 (by kernel_rfl) (by kernel_rfl) (by kernel_rfl) (by kernel_rfl)
def src_sWriteTxnMarkersRequestMarkerTopic : List FSrc := [⟨[(0, 8), (2, (-1)), (3, (-1)), (4, (-1))], none⟩, ⟨[(0, 11), (2, (-1)), (3, (-1)), (4, (-1)), (6, 3)], none⟩]
theorem isc_sWriteTxnMarkersRequestMarkerTopic : FnIs Try.prog 86 4 [.t 0] (irSub env src_sWriteTxnMarkersRequestMarkerTopic) := FnIs.of mixed Try.func86 (by kernel_rfl) (by kernel_rfl) (by kernel_rfl) (by kernel_rfl)
theorem sub_sWriteTxnMarkersRequestMarkerTopic : SubC Try.prog 86 (mkFS src_sWriteTxnMarkersRequestMarkerTopic) := sub_of tyK isc_sWriteTxnMarkersRequestMarkerTopic (by kernel_rfl) ⟨(fun g F h => by cases h), ⟨(fun g F h => by cases h), trivial⟩⟩
def src_sWriteTxnMarkersRequestMarker : List FSrc := [⟨[(0, 4), (2, (-1)), (3, (-1)), (4, (-1))], none⟩, ⟨[(0, 2), (2, (-1)), (3, (-1)), (4, (-1))], none⟩, ⟨[(0, 0), (2, (-1)), (3, (-1)), (4, (-1))], none⟩, ⟨[(0, 11), (2, (-1)), (3, (-1)), (4, (-1)), (6, 10)], some (86, mkFS src_sWriteTxnMarkersRequestMarkerTopic)⟩, ⟨[(0, 3), (2, (-1)), (3, (-1)), (4, (-1))], none⟩, ⟨[(0, 1), (1, 2), (2, (-1)), (3, (-1)), (4, (-1))], none⟩]
theorem isc_sWriteTxnMarkersRequestMarker : FnIs Try.prog 44 9 [.t 0] (irSub env src_sWriteTxnMarkersRequestMarker) := FnIs.of mixed Try.func44 (by kernel_rfl) (by kernel_rfl) (by kernel_rfl) (by kernel_rfl)
theorem sub_sWriteTxnMarkersRequestMarker : SubC Try.prog 44 (mkFS src_sWriteTxnMarkersRequestMarker) := sub_of tyK isc_sWriteTxnMarkersRequestMarker (by kernel_rfl) ⟨(fun g F h => by cases h), ⟨(fun g F h => by cases h), ⟨(fun g F h => by cases h), ⟨(fun g F h => by cases h; exact sub_sWriteTxnMarkersRequestMarkerTopic), ⟨(fun g F h => by cases h), ⟨(fun g F h => by cases h), trivial⟩⟩⟩⟩⟩⟩
def src_WriteTxnMarkersRequest : List FSrc := [⟨[(0, 11), (2, (-1)), (3, (-1)), (4, (-1)), (6, 10)], some (44, mkFS src_sWriteTxnMarkersRequestMarker)⟩]
theorem isc_WriteTxnMarkersRequest : FnIs Try.prog 20 5 [.c 0 env.t_spec_Message] (irMsg env src_WriteTxnMarkersRequest 1) := FnIs.of mixed Try.func20 (by kernel_rfl) (by kernel_rfl) (by kernel_rfl) (by kernel_rfl)
theorem msg_WriteTxnMarkersRequest : MsgC Try.prog 20 (mkFS src_WriteTxnMarkersRequest) 1 := msg_of tyK isc_WriteTxnMarkersRequest (by kernel_rfl) ⟨(fun g F h => by cases h; exact sub_sWriteTxnMarkersRequestMarker), trivial⟩
theorem need : sch.NeedW Try.prog cfg (· = []) := ⟨lenWC_none w_len (fun _ => w_clen), ⟨primW_i64 w_i64, ⟨primW_i16 w_i16, ⟨primW_bool w_bool, ⟨lenWC_none w_len (fun _ => w_clen), ⟨primW_str w_str (fun _ => w_cstr), ⟨primW_i32 w_i32, lenWC_none w_len (fun _ => w_clen), tagsC⟩⟩, ⟨primW_i32 w_i32, ⟨primW_i8 w_i8, tagsC⟩⟩⟩⟩⟩⟩, tagsC⟩
theorem mok : MsgOk Try.prog cfg (· = []) 103 50 1 sch nl := ⟨tyC true, ⟨rfl, rfl⟩, by kernel_rfl, by kernel_rfl, need, of_decide_eq_true (by kernel_rfl)⟩
noncomputable def z : Array Value := match zeroOf Try.prog 103 with | some (.agg z) => z | _ => #[]
theorem hz : zeroOf Try.prog 103 = some (.agg z) := by kernel_rfl
theorem hsz : (decide (0 < z.size)) = true := by kernel_rfl
theorem hdf : defOk Try.prog 103 z.size (sch.dst cfg) = true := by kernel_rfl
theorem hDef {w : World} {b a : Nat} {c : Array Value} {e : TypeId} (hb : w.heap[b]? = some (.cells c e (0, 0))) (hn : a + z.size ≤ c.size) : Ret Try.prog 85 #[.pointer (some ⟨b, a, none⟩)] w fun _ w' => w' = w.setBlk b (.cells (setD a (sch.dst cfg) c) e (0, 0)) := defaultC (by decide) isD hdf (dst_one cfg sch) hb hn
theorem hPtr (w : World) : Ret Try.prog 42 #[] w fun v w' => v = .pointer (some ⟨w.heap.size, 0, none⟩) ∧ w'.heap[w.heap.size]? = some (.cells (setD 0 (sch.dst cfg) z) 103 (0, 0)) ∧ Ext none1 w w' ∧ w.heap.size < w'.heap.size := newPtrC isP hz (Nat.le_refl _) hDef w
theorem hchk : ∀ ver : Int, sch.chkD ((setD 0 (sch.dst cfg) z).setIfInBounds 0 (.int .i16 ver)).toList = true := fun ver => by kernel_rfl
theorem chk : newChk (mkFS src_WriteTxnMarkersRequest) 1 sch cfg 1 2 = true := by kernel_rfl
theorem hNew (v : Nat) (hv : v ≤ 2) : SpC Try.prog env.tU8 21 [.int .i64 v] (sch.wr v (flagAt cfg 1 v) sch.dfl) := newC (flex := 1) (nl := 0) (n := 0) (C := cfg) (S := sch) (z := z) (by decide) isN hPtr (fun hb hc ver => setVC (by decide) isS (by kernel_rfl) (by kernel_rfl) hb hc ver)
  (fun hcs hver hrep hok hb ho hbase hsz => appendTo mok (by decide) isW hcs hver hrep hok hb ho hbase hsz) (by kernel_rfl) (by kernel_rfl) (of_decide_eq_true hsz) hchk v ⟨by omega, by omega⟩ (newChk_of chk v hv).2
theorem law : NewLaw Try.prog env 19 20 21 2 (mkFS src_WriteTxnMarkersRequest) 1 (fun v => sch.wr v (flagAt cfg 1 v) sch.dfl) where
  max w := c_max (by decide) isM (by kernel_rfl) (by kernel_rfl) (fun w => (hPtr w).mono fun _ _ h => h.2.2.1) (fun v w => c_maxV (by decide) isV v w) w
  msg := msg_WriteTxnMarkersRequest
  new v hv := hNew v hv
  hM := by decide
  ok := FS.ok_of (by kernel_rfl)
  len := of_decide_eq_true (by kernel_rfl)
  same v hv := (newChk_of chk v hv).1
  short v hv := (newChk_of chk v hv).2

theorem own : ownKnob Try.prog.godebug = none := by kernel_rfl
theorem walk (n : Nat) (hn : n < 256) (w : World) : Ret Try.prog 5 #[.int .u8 n] w fun u w' => u = .bool true ∧ Ext none1 w w' := c_FnNew tyK spF is_spec_Default is_laws_version law (by decide) isL n hn w

set_option maxRecDepth 100000 in
theorem lifted (os : Os) (started : os.Started) (H : Type) (enc : TypeId × Value → H) :
    ReturnsInHanded {} Try.checked os 5 .any (Rows.fnNewWriteTxnMarkersRequestSpec.pre6 enc Try.prog Try.f5 Rows.fnNewWriteTxnMarkersRequestRow.domain false) (Rows.fnNewWriteTxnMarkersRequestSpec.post enc Try.prog Try.f5 false true false false) := by
  refine returnsInHanded_of_change (C := Try.checked) own started (by kernel_rfl) Try.func5
    (ChangeSpec.witness6 (enc := enc) (C := Try.checked) false ⟨#[], #[.int .u8 0], []⟩ 8 (by kernel_rfl) (by kernel_rfl) (by kernel_rfl) (by kernel_rfl)) ?_
  intro W base args ds gs before hval0 hW hcnd _
  have hval : ∀ (j : Nat) t v, Try.f5.params[j]? = some t → args[j]? = some v → Value.okWide Try.prog W .any base t v := hval0
  have hW' := hW
  obtain ⟨p, q, hA0, hV, rfl, hfz, hnd⟩ := hW
  have hA : DataW.TrodAll enc Try.prog W 0 (fun _ => true) true Try.f5.params.toList args.toList ds p := hA0
  rw [Try.params5] at hA hval
  obtain ⟨v0, vs0, d0, ds0, p0, q0, hargs, rfl, rfl, h0, r0⟩ := trodAll_cons hA
  obtain ⟨rfl, rfl, rfl⟩ := trodAll_nil r0
  obtain rfl : args = #[v0] := by cases args; simp_all
  obtain ⟨rfl, rfl⟩ := trodVars_none hV
  obtain ⟨a0, rfl, rfl, rfl, w0⟩ := open_int Try.underlying5 (hval 0 5 v0 rfl rfl) h0
  clear hA0 hval0
  simp only [List.append_nil] at hW'
  have hx : 0 ≤ a0 ∧ a0 ≤ 255 := by simpa [Lit.wf, IntKind.min, IntKind.max, IntKind.signed, IntKind.bits] using w0
  obtain ⟨n, rfl⟩ : ∃ n : Nat, a0 = (n : Int) := ⟨a0.toNat, by omega⟩
  refine ((walk n (by omega) W).2).mono fun e W' ⟨v, he, hv, hx'⟩ => ?_
  subst he; subst hv
  exact ⟨_, rfl, post_of_ext (pa := []) (pv := []) hW' (fun _ _ _ => (trodAll_cons_mk (shut_bool Try.underlying4 _) trodAll_mk0)) (fun sp _ => (trodAll_cons_mk (shut_int Try.underlying5 w0) trodAll_mk0)) (fun _ _ => rfl) rfl
    hx' (ok_one (by kernel_rfl) rfl (okWide_bool_mk Try.underlying4 _))⟩

/-- the law holds of every input -/
theorem proved : Rows.FnNewWriteTxnMarkersRequestSaid :=
  OpenClaim.holds_of_wide 5 Try.f5 rfl rfl rfl rfl rfl rfl rfl ⟨rfl, rfl, rfl, rfl, rfl⟩ rfl rfl rfl rfl rfl (by kernel_rfl) Try.func5 (by kernel_rfl)
    (of_decide_eq_true (by kernel_rfl)) (by unfold Func.isWrapper; first | (rw [if_pos (by decide +kernel)]; kernel_rfl) | (rw [if_neg (by decide +kernel)]; exact ⟨rfl, rfl⟩))
    (fun os started H enc _ => lifted os started H enc)
end newWriteTxnMarkersRequest
end Go.Proofs.Ytigbgnlmicmmlab
