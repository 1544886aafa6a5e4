/- A new FetchResponse is written, at every version, as the defaults of the reference are. Of every version: no condition. -/
import Derived.Test.YtidabeiamjhmdaaGreatKd
import Derived.Test.YtidabeiamjhmdaaGreatKgF
import Derived.Test.YtidabeiamjhmdaaGreatRows
import Derived.ProofKit
import Derived.OpenShut
set_option linter.unusedVariables false
set_option linter.unusedSectionVars false
set_option linter.unusedSimpArgs false
set_option maxRecDepth 100000
namespace Go.Proofs.YtidabeiamjhmdaaGreat
namespace newFetchResponse
open Go Go.Kg kg Go.ChangeShapes Go.WideShapes Go.ChangeAt Go.RowKit
def cfg : Cfg := ⟨env, true, 5, 6⟩
def sch : Sch := .prim ⟨some 1, none⟩ 1 1 .i32 0 0 (.prim ⟨some 7, none⟩ 2 2 .i16 0 0 (.prim ⟨some 7, none⟩ 3 3 .i32 0 0 (.fin)))
def ks : List KF := [⟨0, 5, 5, .arr 49 93 90 5 123 (.prim ⟨none, none⟩ 0 0 .i32 0 0 (.prim ⟨none, none⟩ 1 1 .str 0 0 (.prim ⟨none, none⟩ 2 2 .i32 0 0 (.prim ⟨none, none⟩ 3 3 .nstr 0 0 (.tags 4 4)))))⟩]
noncomputable def whole : Ir := match Tryz.f16.body.bind (erase 594) with | some c => c | none => .skip
noncomputable def body : Ir := ((whole.nth 8).rt.rt.rt.inn.inn.rt.rt.lt).inn
theorem isW : FnIs Tryz.prog 16 594 [.t 4] (msgWo cfg 54 39 83 12 sch 4 48 body ⟨48, 470, 9⟩ 3 ks 6 60) := FnIs.of mixed Tryz.func16 (by kernel_rfl) (by kernel_rfl) (by kernel_rfl) (by kernel_rfl)
theorem isD : FnIs Tryz.prog 18 2 [] (seqL (genD cfg 54 39 (Sch.dst cfg .fin) 2)) := FnIs.of mixed Tryz.func18 (by kernel_rfl) (by kernel_rfl) (by kernel_rfl) (by kernel_rfl)
theorem isS : FnIs Tryz.prog 15 8 [] (irSetV cfg 54 39) := FnIs.of mixed Tryz.func15 (by kernel_rfl) (by kernel_rfl) (by kernel_rfl) (by kernel_rfl)
theorem isP : FnIs Tryz.prog 11 3 [.t 0] (irNewPtr cfg 54 39 18) := FnIs.of mixed Tryz.func11 (by kernel_rfl) (by kernel_rfl) (by kernel_rfl) (by kernel_rfl)
theorem isN : FnIs Tryz.prog 7 11 [.t 2] (irNew cfg 39 11 15 16) := FnIs.of mixed Tryz.func7 (by kernel_rfl) (by kernel_rfl) (by kernel_rfl) (by kernel_rfl)
theorem isV : FnIs Tryz.prog 12 3 [.t 2] (irMaxV env 18) := FnIs.of mixed Tryz.func12 (by kernel_rfl) (by kernel_rfl) (by kernel_rfl) (by kernel_rfl)
theorem isM : FnIs Tryz.prog 4 4 [.t 0] (irMax env 39 11 12) := FnIs.of mixed Tryz.func4 (by kernel_rfl) (by kernel_rfl) (by kernel_rfl) (by kernel_rfl)
theorem isL : FnIs Tryz.prog 3 22 [.t 2] (irFnNew env 4 5 7) := FnIs.of mixed Tryz.func3 (by kernel_rfl) (by kernel_rfl) (by kernel_rfl) (by kernel_rfl)
def src_sFetchResponseTopicPartitionDivergingEpoch : List FSrc := [⟨[(0, 3), (2, (-1)), (3, (-1)), (4, (-1)), (5, (-1))], none⟩, ⟨[(0, 4), (2, (-1)), (3, (-1)), (4, (-1)), (5, (-1))], none⟩]
theorem isc_sFetchResponseTopicPartitionDivergingEpoch : FnIs Tryz.prog 54 4 [.t 0] (irSub env src_sFetchResponseTopicPartitionDivergingEpoch) := FnIs.of mixed Tryz.func54 (by kernel_rfl) (by kernel_rfl) (by kernel_rfl) (by kernel_rfl)
theorem sub_sFetchResponseTopicPartitionDivergingEpoch : SubC Tryz.prog 54 (mkFS src_sFetchResponseTopicPartitionDivergingEpoch) := sub_of tyK isc_sFetchResponseTopicPartitionDivergingEpoch (by kernel_rfl) ⟨(fun g F h => by cases h), ⟨(fun g F h => by cases h), trivial⟩⟩
def src_sFetchResponseTopicPartitionCurrentLeader : List FSrc := [⟨[(0, 3), (2, (-1)), (3, (-1)), (4, (-1)), (5, (-1))], none⟩, ⟨[(0, 3), (2, (-1)), (3, (-1)), (4, (-1)), (5, (-1))], none⟩]
theorem isc_sFetchResponseTopicPartitionCurrentLeader : FnIs Tryz.prog 55 4 [.t 0] (irSub env src_sFetchResponseTopicPartitionCurrentLeader) := FnIs.of mixed Tryz.func55 (by kernel_rfl) (by kernel_rfl) (by kernel_rfl) (by kernel_rfl)
theorem sub_sFetchResponseTopicPartitionCurrentLeader : SubC Tryz.prog 55 (mkFS src_sFetchResponseTopicPartitionCurrentLeader) := sub_of tyK isc_sFetchResponseTopicPartitionCurrentLeader (by kernel_rfl) ⟨(fun g F h => by cases h), ⟨(fun g F h => by cases h), trivial⟩⟩
def src_sFetchResponseTopicPartitionSnapshotID : List FSrc := [⟨[(0, 4), (2, (-1)), (3, (-1)), (4, (-1)), (5, (-1))], none⟩, ⟨[(0, 3), (2, (-1)), (3, (-1)), (4, (-1)), (5, (-1))], none⟩]
theorem isc_sFetchResponseTopicPartitionSnapshotID : FnIs Tryz.prog 56 4 [.t 0] (irSub env src_sFetchResponseTopicPartitionSnapshotID) := FnIs.of mixed Tryz.func56 (by kernel_rfl) (by kernel_rfl) (by kernel_rfl) (by kernel_rfl)
theorem sub_sFetchResponseTopicPartitionSnapshotID : SubC Tryz.prog 56 (mkFS src_sFetchResponseTopicPartitionSnapshotID) := sub_of tyK isc_sFetchResponseTopicPartitionSnapshotID (by kernel_rfl) ⟨(fun g F h => by cases h), ⟨(fun g F h => by cases h), trivial⟩⟩
def src_sFetchResponseTopicPartitionAbortedTransaction : List FSrc := [⟨[(0, 4), (2, (-1)), (3, (-1)), (4, (-1))], none⟩, ⟨[(0, 4), (2, (-1)), (3, (-1)), (4, (-1))], none⟩]
theorem isc_sFetchResponseTopicPartitionAbortedTransaction : FnIs Tryz.prog 57 4 [.t 0] (irSub env src_sFetchResponseTopicPartitionAbortedTransaction) := FnIs.of mixed Tryz.func57 (by kernel_rfl) (by kernel_rfl) (by kernel_rfl) (by kernel_rfl)
theorem sub_sFetchResponseTopicPartitionAbortedTransaction : SubC Tryz.prog 57 (mkFS src_sFetchResponseTopicPartitionAbortedTransaction) := sub_of tyK isc_sFetchResponseTopicPartitionAbortedTransaction (by kernel_rfl) ⟨(fun g F h => by cases h), ⟨(fun g F h => by cases h), trivial⟩⟩
def src_sFetchResponseTopicPartition : List FSrc := [⟨[(0, 3), (2, (-1)), (3, (-1)), (4, (-1))], none⟩, ⟨[(0, 2), (2, (-1)), (3, (-1)), (4, (-1))], none⟩, ⟨[(0, 4), (2, (-1)), (3, (-1)), (4, (-1))], none⟩, ⟨[(0, 4), (1, 4), (2, (-1)), (3, (-1)), (4, (-1)), (5, (-1))], none⟩, ⟨[(0, 4), (1, 5), (2, (-1)), (3, (-1)), (4, (-1)), (5, (-1))], none⟩, ⟨[(0, 10), (2, (-1)), (3, (-1)), (4, 0)], some (54, mkFS src_sFetchResponseTopicPartitionDivergingEpoch)⟩, ⟨[(0, 10), (2, (-1)), (3, (-1)), (4, 1)], some (55, mkFS src_sFetchResponseTopicPartitionCurrentLeader)⟩, ⟨[(0, 10), (2, (-1)), (3, (-1)), (4, 2)], some (56, mkFS src_sFetchResponseTopicPartitionSnapshotID)⟩, ⟨[(0, 11), (1, 4), (2, (-1)), (3, 4), (4, (-1)), (6, 10)], some (57, mkFS src_sFetchResponseTopicPartitionAbortedTransaction)⟩, ⟨[(0, 3), (1, 11), (2, (-1)), (3, (-1)), (4, (-1)), (5, (-1))], none⟩, ⟨[(0, 9), (2, (-1)), (3, 0), (4, (-1))], none⟩]
theorem isc_sFetchResponseTopicPartition : FnIs Tryz.prog 19 17 [.t 0] (irSub env src_sFetchResponseTopicPartition) := FnIs.of mixed Tryz.func19 (by kernel_rfl) (by kernel_rfl) (by kernel_rfl) (by kernel_rfl)
theorem sub_sFetchResponseTopicPartition : SubC Tryz.prog 19 (mkFS src_sFetchResponseTopicPartition) := sub_of tyK isc_sFetchResponseTopicPartition (by kernel_rfl) ⟨(fun g F h => by cases h), ⟨(fun g F h => by cases h), ⟨(fun g F h => by cases h), ⟨(fun g F h => by cases h), ⟨(fun g F h => by cases h), ⟨(fun g F h => by cases h; exact sub_sFetchResponseTopicPartitionDivergingEpoch), ⟨(fun g F h => by cases h; exact sub_sFetchResponseTopicPartitionCurrentLeader), ⟨(fun g F h => by cases h; exact sub_sFetchResponseTopicPartitionSnapshotID), ⟨(fun g F h => by cases h; exact sub_sFetchResponseTopicPartitionAbortedTransaction), ⟨(fun g F h => by cases h), ⟨(fun g F h => by cases h), trivial⟩⟩⟩⟩⟩⟩⟩⟩⟩⟩⟩
def src_sFetchResponseTopic : List FSrc := [⟨[(0, 8), (2, 12), (3, (-1)), (4, (-1))], none⟩, ⟨[(0, 7), (1, 13), (2, (-1)), (3, (-1)), (4, (-1))], none⟩, ⟨[(0, 11), (2, (-1)), (3, (-1)), (4, (-1)), (6, 10)], some (19, mkFS src_sFetchResponseTopicPartition)⟩]
theorem isc_sFetchResponseTopic : FnIs Tryz.prog 13 6 [.t 0] (irSub env src_sFetchResponseTopic) := FnIs.of mixed Tryz.func13 (by kernel_rfl) (by kernel_rfl) (by kernel_rfl) (by kernel_rfl)
theorem sub_sFetchResponseTopic : SubC Tryz.prog 13 (mkFS src_sFetchResponseTopic) := sub_of tyK isc_sFetchResponseTopic (by kernel_rfl) ⟨(fun g F h => by cases h), ⟨(fun g F h => by cases h), ⟨(fun g F h => by cases h; exact sub_sFetchResponseTopicPartition), trivial⟩⟩⟩
def src_sFetchResponseBroker : List FSrc := [⟨[(0, 3), (2, (-1)), (3, (-1)), (4, (-1))], none⟩, ⟨[(0, 8), (2, (-1)), (3, (-1)), (4, (-1))], none⟩, ⟨[(0, 3), (2, (-1)), (3, (-1)), (4, (-1))], none⟩, ⟨[(0, 8), (2, (-1)), (3, 0), (4, (-1))], none⟩]
theorem isc_sFetchResponseBroker : FnIs Tryz.prog 14 6 [.t 0] (irSub env src_sFetchResponseBroker) := FnIs.of mixed Tryz.func14 (by kernel_rfl) (by kernel_rfl) (by kernel_rfl) (by kernel_rfl)
theorem sub_sFetchResponseBroker : SubC Tryz.prog 14 (mkFS src_sFetchResponseBroker) := sub_of tyK isc_sFetchResponseBroker (by kernel_rfl) ⟨(fun g F h => by cases h), ⟨(fun g F h => by cases h), ⟨(fun g F h => by cases h), ⟨(fun g F h => by cases h), trivial⟩⟩⟩⟩
def src_FetchResponse : List FSrc := [⟨[(0, 3), (1, 1), (2, (-1)), (3, (-1)), (4, (-1))], none⟩, ⟨[(0, 2), (1, 7), (2, (-1)), (3, (-1)), (4, (-1))], none⟩, ⟨[(0, 3), (1, 7), (2, (-1)), (3, (-1)), (4, (-1))], none⟩, ⟨[(0, 11), (2, (-1)), (3, (-1)), (4, (-1)), (6, 10)], some (13, mkFS src_sFetchResponseTopic)⟩, ⟨[(0, 11), (2, (-1)), (3, (-1)), (4, 0), (6, 10)], some (14, mkFS src_sFetchResponseBroker)⟩]
theorem isc_FetchResponse : FnIs Tryz.prog 5 10 [.c 0 env.t_spec_Message] (irMsg env src_FetchResponse 12) := FnIs.of mixed Tryz.func5 (by kernel_rfl) (by kernel_rfl) (by kernel_rfl) (by kernel_rfl)
theorem msg_FetchResponse : MsgC Tryz.prog 5 (mkFS src_FetchResponse) 12 := msg_of tyK isc_FetchResponse (by kernel_rfl) ⟨(fun g F h => by cases h), ⟨(fun g F h => by cases h), ⟨(fun g F h => by cases h), ⟨(fun g F h => by cases h; exact sub_sFetchResponseTopic), ⟨(fun g F h => by cases h; exact sub_sFetchResponseBroker), trivial⟩⟩⟩⟩⟩
theorem need : sch.NeedW Tryz.prog cfg (· = []) := ⟨primW_i32 w_i32, ⟨primW_i16 w_i16, ⟨primW_i32 w_i32, trivial⟩⟩⟩
theorem needK : KsNeedW Tryz.prog cfg (· = []) ks := ⟨⟨lenWC_none w_len (fun _ => w_clen), ⟨primW_i32 w_i32, ⟨primW_str w_str (fun _ => w_cstr), ⟨primW_i32 w_i32, ⟨primW_nstr w_nstr (fun _ => w_cnstr), tagsC⟩⟩⟩⟩⟩, trivial⟩
theorem uuE : isAgg16 (kindOf Tryz.prog env.tUu) = true → TyUuE Tryz.prog env := fun _ => { toTyUu := tyUu, g := by kernel_rfl, u8 := by kernel_rfl, k8 := by kernel_rfl, i8 := ⟨(Tryz.prog.info? env.tU8).get (by kernel_rfl), by kernel_rfl⟩, c8 := by kernel_rfl }
theorem tBs : SliI Tryz.prog env.tBs env.tU8 1 1 (.int .u8 0) := sli_of (by kernel_rfl) (by kernel_rfl) rfl
theorem mok : KoOk Tryz.prog cfg (· = []) 54 39 83 sch 4 4 48 19 ⟨48, 470, 9⟩ 3 ks 6 6 60 := { ty := tyC true, fx := rfl, cfg := ⟨rfl, rfl⟩, uu := uuE, bs := tBs.siz, uB := by kernel_rfl, kU := by kernel_rfl, sS := sli_of (by kernel_rfl) (by kernel_rfl) rfl, tyW := by kernel_rfl, tyK := by kernel_rfl, f0 := by kernel_rfl, ft := by kernel_rfl, need := need, needK := needK, tags := tagsC, nd := by decide, len := by decide, fo := by kernel_rfl, kS := by kernel_rfl, sli := by kernel_rfl, lenC := lenWC_none w_len (fun _ => w_clen), c2l := of_decide_eq_true (by kernel_rfl), c2t := of_decide_eq_true (by kernel_rfl), nl := of_decide_eq_true (by kernel_rfl) }
noncomputable def z : Array Value := match zeroOf Tryz.prog 54 with | some (.agg z) => z | _ => #[]
theorem hz : zeroOf Tryz.prog 54 = some (.agg z) := by kernel_rfl
theorem hsz : (decide (0 < z.size)) = true := by kernel_rfl
theorem hdf : defOk Tryz.prog 54 z.size (Sch.dst cfg .fin) = true := by kernel_rfl
theorem hDef {w : World} {b a : Nat} {c : Array Value} {e : TypeId} (hb : w.heap[b]? = some (.cells c e (0, 0))) (hn : a + z.size ≤ c.size) : Ret Tryz.prog 18 #[.pointer (some ⟨b, a, none⟩)] w fun _ w' => w' = w.setBlk b (.cells (setD a (Sch.dst cfg .fin) c) e (0, 0)) := defaultC (by decide) isD hdf (dst_one cfg .fin) hb hn
theorem hPtr (w : World) : Ret Tryz.prog 11 #[] w fun v w' => v = .pointer (some ⟨w.heap.size, 0, none⟩) ∧ w'.heap[w.heap.size]? = some (.cells z 54 (0, 0)) ∧ Ext none1 w w' ∧ w.heap.size < w'.heap.size := newPtrC (S := .fin) isP hz (Nat.le_refl _) hDef w
theorem hchk : ∀ ver : Int, sch.chkD (z.setIfInBounds 0 (.int .i16 ver)).toList = true := fun ver => by kernel_rfl
theorem hks : ∀ ver : Int, ksChkD (z.setIfInBounds 0 (.int .i16 ver)).toList ks = true := fun ver => by kernel_rfl
theorem hver : ∀ ver : Int, (z.setIfInBounds 0 (.int .i16 ver)).toList[0]? = some (.int .i16 ver) := fun ver => by kernel_rfl
theorem hoo : ∀ ver : Int, (z.setIfInBounds 0 (.int .i16 ver)).toList[4]? = some (.slice none 0 0) := fun ver => by kernel_rfl
theorem hto : ∀ ver : Int, (z.setIfInBounds 0 (.int .i16 ver)).toList[6]? = some (.map none) := fun ver => by kernel_rfl
theorem okK : KsOk (· = []) ks (ksDfl ks) := ⟨(fun i y hy => by cases hy), trivial⟩
def N (v : Nat) : List UInt8 := sch.wr v (flagAt cfg 12 v) sch.dfl ++ (lenW none (flagAt cfg 12 v) 0 true ++ secW v (flagAt cfg 12 v) ks (ksDfl ks) [])
theorem chk : ((List.range 19).all fun v => (partS (mkFS src_FetchResponse) v (flexAt 12 v) (mkFS src_FetchResponse).dflT == N v) && decide ((N v).length ≤ 1099511627776)) = true := by kernel_rfl
theorem chk_of : ∀ v : Nat, v ≤ 18 → partS (mkFS src_FetchResponse) v (flexAt 12 v) (mkFS src_FetchResponse).dflT = N v ∧ (N v).length ≤ 1099511627776 := by
  intro v hv
  have := List.all_eq_true.1 chk v (by simp; omega)
  simp only [Bool.and_eq_true, beq_iff_eq, decide_eq_true_eq] at this
  exact this
theorem hNew (v : Nat) (hv : v ≤ 18) : SpC Tryz.prog env.tU8 7 [.int .i64 v] (N v) := newCO (C := cfg) (z := z) (by decide) isN hPtr (fun hb hc ver => setVC (by decide) isS (by kernel_rfl) (by kernel_rfl) hb hc ver) v
  (fun hcs hb ho hbase hsz => appendToO (x := sch.dfl) (y := ksDfl ks) (u := []) (uv := .map none) mok (by decide) isW hcs (hver v) (hoo v) (Sch.repD sch (hchk v)) (KsRep_dfl ks (hks v)) (hto v) (.inl ⟨rfl, rfl⟩) sch.tagsD okK rfl hb ho hbase hsz) (by kernel_rfl) (by kernel_rfl) (of_decide_eq_true hsz) ⟨by omega, by omega⟩ (chk_of v hv).2
theorem law : NewLaw Tryz.prog env 4 5 7 18 (mkFS src_FetchResponse) 12 N where
  max w := c_max (by decide) isM (by kernel_rfl) (by kernel_rfl) (fun w => (hPtr w).mono fun _ _ h => h.2.2.1) (fun v w => c_maxV (by decide) isV v w) w
  msg := msg_FetchResponse
  new v hv := hNew v hv
  hM := by decide
  ok := FS.ok_of (by kernel_rfl)
  len := of_decide_eq_true (by kernel_rfl)
  same v hv := (chk_of v hv).1
  short v hv := (chk_of v hv).2

theorem own : ownKnob Tryz.prog.godebug = none := by kernel_rfl
theorem walk (n : Nat) (hn : n < 256) (w : World) : Ret Tryz.prog 3 #[.int .u8 n] w fun u w' => u = .bool true ∧ Ext none1 w w' := c_FnNew tyK spF is_spec_Default is_laws_version law (by decide) isL n hn w

set_option maxRecDepth 100000 in
theorem lifted (os : Os) (started : os.Started) (H : Type) (enc : TypeId × Value → H) :
    ReturnsInHanded {} Tryz.checked os 3 .any (Rows.fnNewFetchResponseSpec.pre6 enc Tryz.prog Tryz.f3 Rows.fnNewFetchResponseRow.domain false) (Rows.fnNewFetchResponseSpec.post enc Tryz.prog Tryz.f3 false true false false) := by
  refine returnsInHanded_of_change (C := Tryz.checked) own started (by kernel_rfl) Tryz.func3
    (ChangeSpec.witness6 (enc := enc) (C := Tryz.checked) false ⟨#[], #[.int .u8 0], []⟩ 8 (by kernel_rfl) (by kernel_rfl) (by kernel_rfl) (by kernel_rfl)) ?_
  intro W base args ds gs before hval0 hW hcnd _
  have hval : ∀ (j : Nat) t v, Tryz.f3.params[j]? = some t → args[j]? = some v → Value.okWide Tryz.prog W .any base t v := hval0
  have hW' := hW
  obtain ⟨p, q, hA0, hV, rfl, hfz, hnd⟩ := hW
  have hA : DataW.TrodAll enc Tryz.prog W 0 (fun _ => true) true Tryz.f3.params.toList args.toList ds p := hA0
  rw [Tryz.params3] at hA hval
  obtain ⟨v0, vs0, d0, ds0, p0, q0, hargs, rfl, rfl, h0, r0⟩ := trodAll_cons hA
  obtain ⟨rfl, rfl, rfl⟩ := trodAll_nil r0
  obtain rfl : args = #[v0] := by cases args; simp_all
  obtain ⟨rfl, rfl⟩ := trodVars_none hV
  obtain ⟨a0, rfl, rfl, rfl, w0⟩ := open_int Tryz.underlying5 (hval 0 5 v0 rfl rfl) h0
  clear hA0 hval0
  simp only [List.append_nil] at hW'
  have hx : 0 ≤ a0 ∧ a0 ≤ 255 := by simpa [Lit.wf, IntKind.min, IntKind.max, IntKind.signed, IntKind.bits] using w0
  obtain ⟨n, rfl⟩ : ∃ n : Nat, a0 = (n : Int) := ⟨a0.toNat, by omega⟩
  refine ((walk n (by omega) W).2).mono fun e W' ⟨v, he, hv, hx'⟩ => ?_
  subst he; subst hv
  exact ⟨_, rfl, post_of_ext (pa := []) (pv := []) hW' (fun _ _ _ => (trodAll_cons_mk (shut_bool Tryz.underlying4 _) trodAll_mk0)) (fun sp _ => (trodAll_cons_mk (shut_int Tryz.underlying5 w0) trodAll_mk0)) (fun _ _ => rfl) rfl
    hx' (ok_one (by kernel_rfl) rfl (okWide_bool_mk Tryz.underlying4 _))⟩

/-- the law holds of every input -/
theorem proved : Rows.FnNewFetchResponseSaid :=
  OpenClaim.holds_of_wide 3 Tryz.f3 rfl rfl rfl rfl rfl rfl rfl ⟨rfl, rfl, rfl, rfl, rfl⟩ rfl rfl rfl rfl rfl (by kernel_rfl) Tryz.func3 (by kernel_rfl)
    (of_decide_eq_true (by kernel_rfl)) (by unfold Func.isWrapper; first | (rw [if_pos (by decide +kernel)]; kernel_rfl) | (rw [if_neg (by decide +kernel)]; exact ⟨rfl, rfl⟩))
    (fun os started H enc _ => lifted os started H enc)
end newFetchResponse
end Go.Proofs.YtidabeiamjhmdaaGreat
