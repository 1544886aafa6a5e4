/- A ListConfigResourcesRequest that ends anywhere ahead of its end is an error. -/
import Derived.Test.YtjdncblianigiaaDoorKgF
import Derived.Test.YtjdncblianigiaaDoorRows
import Derived.Test.YtjdncblianigiaaDoorTie
import Derived.Test.YtjdncblianigiaaDoorCards
import Derived.ProofKit
import Derived.OpenShut
import Derived.Stop.LaidErr
import Derived.Handed
import Derived.JoinedOf
import Derived.SevenTiedAt
import Derived.Deep.DeepHandedRow
import Derived.Lib.LaidTab
set_option linter.unusedVariables false
set_option linter.unusedSectionVars false
set_option linter.unusedSimpArgs false
set_option maxRecDepth 100000
namespace Go.Proofs.YtjdncblianigiaaDoor
namespace cutListConfigResourcesRequest
open Go Go.Kg kg Go.ChangeShapes Go.WideShapes Go.ChangeAt Go.RowKit
def cfg : Cfg := ⟨env, true, 5, 6⟩
def cfgR : CfgR := ⟨⟨env, true, 5, 6⟩, 139, 138, 128, 126⟩
def sch : Sch := .arrP ⟨some 1, none⟩ 1 1 153 none .i8 (.tags 2 2)
def nl : Nat := (sch.genW cfg 155 67 0 ⟨7, 0, 0⟩).2.l
def nlR : Nat := (sch.genR cfgR 155 67 0 (ctR cfgR false 0)).2.l
theorem isW : FnIs Tryd.prog 74 61 [.t 4] (msgW cfg 155 67 0 sch nl) := FnIs.of mixed Tryd.func74 (by kernel_rfl) (by kernel_rfl) (by kernel_rfl) (by kernel_rfl)
theorem isD : FnIs Tryd.prog 115 2 [] (seqL (genD cfg 155 67 (sch.dst cfg) 2)) := FnIs.of mixed Tryd.func115 (by kernel_rfl) (by kernel_rfl) (by kernel_rfl) (by kernel_rfl)
theorem isS : FnIs Tryd.prog 72 8 [] (irSetV cfg 155 67) := FnIs.of mixed Tryd.func72 (by kernel_rfl) (by kernel_rfl) (by kernel_rfl) (by kernel_rfl)
theorem isP : FnIs Tryd.prog 70 3 [.t 0] (irNewPtr cfg 155 67 115) := FnIs.of mixed Tryd.func70 (by kernel_rfl) (by kernel_rfl) (by kernel_rfl) (by kernel_rfl)
theorem isV : FnIs Tryd.prog 71 3 [.t 2] (irMaxV env 1) := FnIs.of mixed Tryd.func71 (by kernel_rfl) (by kernel_rfl) (by kernel_rfl) (by kernel_rfl)
theorem isM : FnIs Tryd.prog 30 4 [.t 0] (irMax env 67 70 71) := FnIs.of mixed Tryd.func30 (by kernel_rfl) (by kernel_rfl) (by kernel_rfl) (by kernel_rfl)
theorem isA : FnIs Tryd.prog 32 19 [.t 4, .t 5] (irAgain cfg 67 70 72 73 74) := FnIs.of mixed Tryd.func32 (by kernel_rfl) (by kernel_rfl) (by kernel_rfl) (by kernel_rfl)
theorem isF : FnIs Tryd.prog 73 8 [.t 4] (irRF cfg 67 116) := FnIs.of mixed Tryd.func73 (by kernel_rfl) (by kernel_rfl) (by kernel_rfl) (by kernel_rfl)
theorem isR : FnIs Tryd.prog 116 70 [.t 6] (msgR cfgR 155 67 0 115 false sch nlR) := FnIs.of mixed Tryd.func116 (by kernel_rfl) (by kernel_rfl) (by kernel_rfl) (by kernel_rfl)
theorem need : sch.NeedW Tryd.prog cfg tagsOk := ⟨primW_i8 w_i8, lenWC_none w_len (fun _ => w_clen), tagsT⟩
theorem mok : MsgOk Tryd.prog cfg tagsOk 155 67 0 sch nl := ⟨tyC2 true, ⟨rfl, rfl⟩, by kernel_rfl, by kernel_rfl, need, of_decide_eq_true (by kernel_rfl)⟩
theorem endc : EndC Tryd.prog cfgR := endC_of tyRs (by kernel_rfl) is_pkbin_Reader_Ok is_pkbin_Reader_Complete
theorem needR : sch.NeedR Tryd.prog cfgR := ⟨primR_i8 r_Int8, lenRC_of r_Len (fun _ => r_CLen), endc, (r_Tags cfgR rfl)⟩
noncomputable def z : Array Value := match zeroOf Tryd.prog 155 with | some (.agg z) => z | _ => #[]
theorem hz : zeroOf Tryd.prog 155 = some (.agg z) := by kernel_rfl
theorem hzn : z.size = 3 := by kernel_rfl
theorem hDef : DefRC Tryd.prog cfg 3 115 sch := fun w b a c et hb hn => defaultC (by decide) isD (by kernel_rfl) (dst_one cfg sch) hb hn
theorem hPtr (w : World) : Ret Tryd.prog 70 #[] w fun v w' => v = .pointer (some ⟨w.heap.size, 0, none⟩) ∧ w'.heap[w.heap.size]? = some (.cells (setD 0 (sch.dst cfg) z) 155 (0, 0)) ∧ Ext none1 w w' ∧ w.heap.size < w'.heap.size := newPtrC isP hz (Nat.le_of_eq hzn.symm) (fun hb hn => hDef _ _ _ _ _ hb hn) w
theorem mrk : MsgRk Tryd.prog cfgR 155 67 0 115 3 sch nlR := ⟨⟨⟨by kernel_rfl, by kernel_rfl, by kernel_rfl, uuF, fun _ => trivial⟩, uuF, by kernel_rfl, by kernel_rfl⟩, tyRb, by kernel_rfl, needR, endc, hDef, by kernel_rfl, of_decide_eq_true (by kernel_rfl)⟩
theorem hchk : ∀ ver : Int, sch.chkD ((setD 0 (sch.dst cfg) z).setIfInBounds 0 (.int .i16 ver)).toList = true := fun ver => by kernel_rfl
theorem hid : ∀ ver : Int, (setD 0 (sch.dst cfg) ((setD 0 (sch.dst cfg) z).setIfInBounds 0 (.int .i16 ver))) = (setD 0 (sch.dst cfg) z).setIfInBounds 0 (.int .i16 ver) := fun ver => by kernel_rfl
def flx (v : Nat) : Bool := flagAt cfg 0 v
theorem hpos : ((List.range 2).all fun v => sch.posE v (flx v)) = true := by kernel_rfl
theorem agl {tv : TypeId} {vv : Value} : AgL Tryd.prog env 30 32 1 sch flx (.iface tv vv) where
  max w := c_max (by decide) isM (by kernel_rfl) (by kernel_rfl) (fun w => (hPtr w).mono fun _ _ h => h.2.2.1) (fun v w => c_maxV (by decide) isV v w) w
  again v hv _ _ _ _ hs hlen herr hgood := againC (et := 0) (nl2 := 0) (C := cfgR) (T := 155) (flex := 0) (S := sch) (z := z) (by decide) isA isF (by decide) mrk (by decide) isR hPtr (fun hb hc ver => setVC (by decide) isS (by kernel_rfl) (by kernel_rfl) hb hc ver)
    (fun hcs hver hrep hok hb ho hbase hsz => appendTo mok (by decide) isW hcs hver hrep hok hb ho hbase hsz) (by kernel_rfl) (by kernel_rfl) tBs ⟨_, Tryd.underlying48⟩ ⟨_, _, rfl⟩ hzn (by decide) hid hchk (v : Int) ⟨by omega, by omega⟩ hs hlen herr hgood
  hM := by decide
  pos v hv := List.all_eq_true.1 hpos v (by simp; omega)
theorem tyTr : TyTr Tryd.prog env 2 := { tr := ⟨_, _, _, _, _, Tryd.underlying32, ⟨rfl, rfl⟩, ⟨rfl, rfl⟩, ⟨rfl, rfl⟩, ⟨rfl, rfl⟩, ⟨rfl, rfl⟩⟩, tg := ⟨_, _, Tryd.underlying139, ⟨rfl, rfl⟩, ⟨rfl, rfl⟩⟩, i64 := by kernel_rfl, u32 := by kernel_rfl, u8 := by kernel_rfl, bool := by kernel_rfl, bs := by kernel_rfl, lt := by kernel_rfl, lu := by kernel_rfl, c1 := ⟨by kernel_rfl, by kernel_rfl, by kernel_rfl, by kernel_rfl, by kernel_rfl, by kernel_rfl, by kernel_rfl⟩, cT := by kernel_rfl, cU := by kernel_rfl }
theorem bulkPos {H : Type} (d : DataW H) : 1 ≤ Rows.uptoBulk d := by
  cases d with
  | lit l => cases l <;> simp [Rows.uptoBulk]
  | nil => simp [Rows.uptoBulk]
  | ptr d => simp [Rows.uptoBulk]
  | slice elems spare => simp [Rows.uptoBulk]
  | agg parts => simp [Rows.uptoBulk]
  | iface t d => simp [Rows.uptoBulk]
  | map entries => simp [Rows.uptoBulk]
  | held h => simp [Rows.uptoBulk]
theorem bulkL {H : Type} : BulkL (H := H) Rows.uptoBulk Rows.uptoBulkAll := { slice := fun _ _ => by simp only [Rows.uptoBulk], agg := fun _ => by simp only [Rows.uptoBulk], nil := by simp only [Rows.uptoBulkAll], cons := fun _ _ => by simp only [Rows.uptoBulkAll], pos := bulkPos }
theorem fits (w : World) (cs : List Value) (t : Tr) (h : TreeAt w cs t) : Ret Tryd.prog env.f_laws_zzFits2 #[.agg cs.toArray] w (SomeB w) := c_zzFits2 tyK.toTyF is_laws_zzFits2 (fun w uv u h => c_zzFits3 tyK.toTyF is_laws_zzFits3 (fun w k bv x h1 h2 => c_zzFits4 tyK.toTyF is_laws_zzFits4 w k bv x h1 h2) (by kernel_rfl) w uv u h) w cs t h
def src_ListConfigResourcesRequest : List FSrc := [⟨[(0, 11), (1, 1), (2, (-1)), (3, (-1)), (4, (-1)), (6, 1)], none⟩]
theorem isc_ListConfigResourcesRequest : FnIs Tryd.prog 31 4 [.c 0 env.t_spec_Message] (irMsg env src_ListConfigResourcesRequest 0) := FnIs.of mixed Tryd.func31 (by kernel_rfl) (by kernel_rfl) (by kernel_rfl) (by kernel_rfl)
theorem msg_ListConfigResourcesRequest : MsgC Tryd.prog 31 (mkFS src_ListConfigResourcesRequest) 0 := msg_of tyK isc_ListConfigResourcesRequest (by kernel_rfl) ⟨(fun g F h => by cases h), trivial⟩
theorem isL : FnIs Tryd.prog 10 56 [.t 6] (irFnCut env 30 31 32 24) := FnIs.of mixed Tryd.func10 (by kernel_rfl) (by kernel_rfl) (by kernel_rfl) (by kernel_rfl)
theorem hflex : ((List.range 2).all fun v => flexAt 0 v == flx v) = true := by kernel_rfl
theorem hfit : fitS 1 flx (mkFS src_ListConfigResourcesRequest) sch = true := by kernel_rfl
theorem agw : AgW Tryd.prog 31 1 sch flx (mkFS src_ListConfigResourcesRequest) 0 where
  msg := msg_ListConfigResourcesRequest
  ok := FS.ok_of (by kernel_rfl)
  len := of_decide_eq_true (by kernel_rfl)
  flex v hv := by simpa using List.all_eq_true.1 hflex v (by simp; omega)
  fit := hfit
theorem own : ownKnob Tryd.prog.godebug = none := by kernel_rfl
theorem laidOut : laidOutB Tryd.prog = true := by kernel_rfl
theorem gType : (Tryd.prog.globals[0]?).map (·.type) = some 48 := by kernel_rfl
theorem err_of_laid {W : World} (h : laidMetH Tryd.prog Rows.fnCutListConfigResourcesRequestUptoRow.laid W) : ∃ tv vv, W.cell? ⟨0, 0, none⟩ = some (.iface tv vv) := by
  have h' : laidMet Tryd.prog Rows.fnCutListConfigResourcesRequestUptoRow.laid W := h
  obtain ⟨a1, s1, hv1, _, _, _⟩ := laid_sentinel h' (by kernel_rfl) gType Tryd.underlying48 rowE Tryd.underlying227 Tryd.underlying245 rfl rfl Tryd.underlying9 (by kernel_rfl) (by kernel_rfl)
  exact ⟨227, .pointer (some a1), by simpa using World.var?_cell (by kernel_rfl) hv1 0⟩
noncomputable def low : Nat := (World.holding Tryd.prog default ⟨#[], #[], []⟩).heap.size
noncomputable def laidWorld (os : Os) : World :=
  let w0 := World.holding Tryd.prog os ⟨#[.cells #[.string { data := #[114, 101, 115, 112, 111, 110, 115, 101, 32, 100, 105, 100, 32, 110, 111, 116, 32, 99, 111, 110, 116, 97, 105, 110, 32, 101, 110, 111, 117, 103, 104, 32, 100, 97, 116, 97, 32, 116, 111, 32, 98, 101, 32, 118, 97, 108, 105, 100] }] 245], #[], []⟩
  { w0 with heap := w0.heap.modify 0 fun
      | .cells _ t frozen => .cells #[.iface 227 (.pointer (some ⟨low, 0, none⟩))] t frozen
      | o => o }
theorem laidWorld_met (os : Os) (args : Array Value) : laidMetH Tryd.prog Rows.fnCutListConfigResourcesRequestUptoRow.laid ((laidWorld os).forCall (fun _ _ => 0) ⟨#[], args, []⟩).memory :=
  laidMet_of_run (ps := [.cell 0 0, .cell low 0]) 8 (by kernel_rfl) (by kernel_rfl) (by kernel_rfl)
theorem walk {tv : TypeId} {vv : Value} (n : Nat) (hn : n < 256) (at_ : Nat) (hat : at_ < 65536) {w : World} {cs : List Value} {t : Tr} (hT : TreeAt w cs t) (hz : t.sz ≤ 1048576) (herr : w.cell? ⟨0, 0, none⟩ = some (.iface tv vv)) : Ret Tryd.prog 10 #[.int .u8 n, .agg cs.toArray, .int .u16 at_] w fun u w' => u = .bool true ∧ Ext none1 w w' :=
  c_FnCut tyK spF is_laws_version fits (by kernel_rfl) agl agw (by decide) isL n hn at_ hat hT (part_le (by have := Nat.mod_lt n (show 0 < 1 + 1 by omega); simp only [verOf]; omega) hfit hT.ok (of_decide_eq_true (by kernel_rfl)) hz) herr
theorem reads (os : Os) {H : Type} (enc : TypeId × Value → H) : ∃ places, DataW.whole enc Tryd.prog ((laidWorld os).forCall (fun _ _ => 0) ⟨#[], #[.int .u8 0, .agg #[.int .i64 0, .slice none 0 0, .bool false, .slice none 0 0, .slice none 0 0], .int .u16 0], []⟩).memory Tryd.f10.params.toList Rows.fnCutListConfigResourcesRequestSpec.vars false (#[.int .u8 0, .agg #[.int .i64 0, .slice none 0 0, .bool false, .slice none 0 0, .slice none 0 0], .int .u16 0] : Array Value).toList 8 = some ([.lit (.int .u8 0), .agg [.lit (.int .i64 0), .nil, .lit (.bool false), .nil, .nil], .lit (.int .u16 0)], [], places) := ⟨[], by kernel_rfl⟩

theorem contract (H : Type) (enc : TypeId × Value → H) (W : World) (base : Nat) (args : Array Value) (ds gs : List (DataW H)) (before : List MemPlace)
    (hval0 : ∀ (j : Nat) t v, Tryd.f10.params[j]? = some t → args[j]? = some v → Value.okWide Tryd.prog W .any base t v)
    (hW : DataW.Whole enc Tryd.prog Tryd.f10.params.toList Rows.fnCutListConfigResourcesRequestSpec.vars false W args.toList ds gs before) (hbulk : Rows.uptoBulkAll (ds ++ gs) ≤ 1048576) (hL : laidMetH Tryd.prog Rows.fnCutListConfigResourcesRequestUptoRow.laid W) :
    Calls Tryd.prog 10 args W fun e W' => ∃ v, e = .returned v ∧ Rows.fnCutListConfigResourcesRequestSpec.post enc Tryd.prog Tryd.f10 false true false false W args v W' := by
  have hval : ∀ (j : Nat) t v, Tryd.f10.params[j]? = some t → args[j]? = some v → Value.okWide Tryd.prog W .any base t v := hval0
  have hW' := hW
  have hlt0 := hW'.lt
  obtain ⟨p, q, hA0, hV, rfl, hfz, hnd⟩ := hW
  have hA : DataW.TrodAll enc Tryd.prog W 0 (fun _ => true) true Tryd.f10.params.toList args.toList ds p := hA0
  rw [Tryd.params10] at hA hval
  obtain ⟨v0, vs0, d0, ds0, p0, q0, hargs, rfl, rfl, h0, r0⟩ := trodAll_cons hA
  obtain ⟨v1, vs1, d1, ds1, p1, q1, hargs1, rfl, rfl, h1, r1⟩ := trodAll_cons r0
  obtain ⟨v2, vs2, d2, ds2, p2, q2, hargs2, rfl, rfl, h2, r2⟩ := trodAll_cons r1
  obtain ⟨rfl, rfl, rfl⟩ := trodAll_nil r2
  obtain rfl : args = #[v0, v1, v2] := by rw [← Array.toArray_toList (xs := args), hargs, hargs1, hargs2]
  obtain ⟨rfl, rfl⟩ := trodVars_none hV
  obtain ⟨a0, rfl, rfl, rfl, w0⟩ := open_int Tryd.underlying5 (hval 0 5 v0 rfl rfl) h0
  obtain ⟨a2, rfl, rfl, rfl, w2⟩ := open_int Tryd.underlying40 (hval 2 40 v2 rfl rfl) h2
  have hx2 : 0 ≤ a2 ∧ a2 ≤ 65535 := by simpa [Lit.wf, IntKind.min, IntKind.max, IntKind.signed, IntKind.bits] using w2
  obtain ⟨at_, rfl⟩ : ∃ at_ : Nat, a2 = (at_ : Int) := ⟨a2.toNat, by omega⟩
  obtain ⟨cs, rfl⟩ := agg_of_ok Tryd.underlying32 (hval 1 32 v1 rfl rfl)
  have hbk : Rows.uptoBulk d1 ≤ 1048576 := by
    simp only [List.append_nil, List.cons_append, List.nil_append, Rows.uptoBulkAll] at hbulk
    omega
  obtain ⟨t, hT, hz⟩ := open_arg tyTr bulkL h1 hbk
  obtain ⟨tv, vv, herr⟩ := err_of_laid hL
  clear hA0 hval0
  simp only [List.append_nil, List.nil_append] at hW' hlt0
  have hx : 0 ≤ a0 ∧ a0 ≤ 255 := by simpa [Lit.wf, IntKind.min, IntKind.max, IntKind.signed, IntKind.bits] using w0
  obtain ⟨n, rfl⟩ : ∃ n : Nat, a0 = (n : Int) := ⟨a0.toNat, by omega⟩
  refine ((walk n (by omega) at_ (by omega) hT hz herr).2).mono fun e W' ⟨v, he, hv, hx'⟩ => ?_
  subst he; subst hv
  exact ⟨_, rfl, post_of_ext (pa := [] ++ (p1 ++ ([] ++ []))) (pv := []) hW' (fun _ _ _ => (trodAll_cons_mk (shut_bool Tryd.underlying4 _) trodAll_mk0)) (fun sp hsp => (trodAll_cons_mk (shut_int Tryd.underlying5 w0) (trodAll_cons_mk (ext_trod laidOut (by kernel_rfl) (of_decide_eq_true (by kernel_rfl)) h1 hx' (fun x hx => hlt0 x (by simpa using hx)) (fun x hx => hsp x (by simpa using hx))) (trodAll_cons_mk (shut_int Tryd.underlying40 w2) trodAll_mk0)))) (fun _ _ => rfl) (by simp)
    hx' (ok_one (by kernel_rfl) rfl (okWide_bool_mk Tryd.underlying4 _))⟩

set_option maxRecDepth 100000 in
theorem lifted (os : Os) (started : os.Started) (H : Type) (enc : TypeId × Value → H) (F : Stop.Interp) :
    ReturnsInHanded {} Tryd.checked os 10 .any ((Rows.OpenSpec.upto Rows.fnCutListConfigResourcesRequestSpec).preRow enc Tryd.prog Tryd.f10 Rows.fnCutListConfigResourcesRequestUptoRow.domain false Rows.fnCutListConfigResourcesRequestUptoRow.laid) (((Rows.OpenSpec.upto Rows.fnCutListConfigResourcesRequestSpec).at F).post enc Tryd.prog Tryd.f10 false true false false) := by
  obtain ⟨places, hx⟩ := reads os enc
  refine returnsInHanded_of_row (C := Tryd.checked) (s := Rows.OpenSpec.upto Rows.fnCutListConfigResourcesRequestSpec) own started (by kernel_rfl) Tryd.func10
    (witness_row_at (enc := enc) (C := Tryd.checked) false (laidWorld os) #[.int .u8 0, .agg #[.int .i64 0, .slice none 0 0, .bool false, .slice none 0 0, .slice none 0 0], .int .u16 0] rfl (by kernel_rfl) (by kernel_rfl) (by kernel_rfl)
      (OpenSpec.preRow_of_cond 8 hx (by kernel_rfl) (fun k hk => by cases hk; kernel_rfl) (by kernel_rfl) (laidWorld_met os _))) ?_
  intro W base args ds gs before hval hW _ hcond _ hL _ _
  exact contract H enc W base args ds gs before hval hW (of_decide_eq_true (hcond _ rfl)) hL

theorem row : Rows.FnCutListConfigResourcesRequestUptoSaid :=
  OpenClaim.holds_of_cond 10 Tryd.f10 rfl rfl rfl rfl rfl rfl rfl ⟨rfl, rfl, rfl, rfl, rfl⟩ rfl rfl rfl rfl rfl (by kernel_rfl) Tryd.func10 (by kernel_rfl)
    (of_decide_eq_true (by kernel_rfl)) (by unfold Func.isWrapper; first | (rw [if_pos (by decide +kernel)]; kernel_rfl) | (rw [if_neg (by decide +kernel)]; exact ⟨rfl, rfl⟩))
    (fun os started H enc _ F => by rw [OpenClaim.pre_eq_preRow]; exact lifted os started H enc F)

theorem proved : Rows.FnCutListConfigResourcesRequestUptoCardSaid :=
  Claim7.holds_tied_plain_at .later [] [.sentinel] true (true, "cf22fd3da99fb43956c5cbb22f72959a516922b58f088c56bd2d8f33b868e35b") false
    row (fun _ h => by cases h) (by kernel_rfl) (fun _ h => by cases h) fnCutListConfigResourcesRequestUpto_row_tie rfl ⟨rfl, rfl⟩ (by kernel_rfl) rfl
    (fun f fn hf hfn => by
      obtain rfl : f = 10 := Option.some.inj ((show Tryd.prog.funcNamed "pub-kmsg/laws.FnCutListConfigResourcesRequest" = some 10 by kernel_rfl).symm.trans hf) |>.symm
      obtain rfl : fn = Tryd.f10 := (Option.some.inj (Tryd.func10.symm.trans hfn)).symm
      exact ⟨by kernel_rfl, fun j t ht => by
        rw [Tryd.params10] at ht
        have hm : t ∈ [5, 32, 40] := by simpa using Array.mem_of_getElem? ht
        have hall : ([5, 32, 40].all fun u => !Tryd.prog.wantsStandIn u) = true := by kernel_rfl
        exact (show Tryd.prog.wantsStandIn t = false by simpa using List.all_eq_true.1 hall t hm)⟩)
    (by kernel_rfl)
end cutListConfigResourcesRequest
end Go.Proofs.YtjdncblianigiaaDoor
