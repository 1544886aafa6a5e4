/- A DescribeConfigsRequest that ends anywhere ahead of its end is an error. -/
import Derived.Test.YtgajindbafacgaaGreatDoorKgF
import Derived.Test.YtgajindbafacgaaGreatDoorRows
import Derived.Test.YtgajindbafacgaaGreatDoorTie
import Derived.Test.YtgajindbafacgaaGreatDoorCards
import Derived.ProofKit
import Derived.OpenShut
import Derived.Stop.LaidErr
import Derived.Handed
import Derived.JoinedOf
import Derived.SevenTiedAt
import Derived.Deep.DeepHandedRow
import Derived.Lib.LaidTab
set_option linter.unusedVariables false
set_option linter.unusedSectionVars false
set_option linter.unusedSimpArgs false
set_option maxRecDepth 100000
namespace Go.Proofs.YtgajindbafacgaaGreatDoor
namespace cutDescribeConfigsRequest
open Go Go.Kg kg Go.ChangeShapes Go.WideShapes Go.ChangeAt Go.RowKit
def cfg : Cfg := ⟨env, true, 5, 6⟩
def cfgR : CfgR := ⟨⟨env, true, 5, 6⟩, 7, 95, 94, 87, 85⟩
def sch : Sch := .arrS ⟨none, none⟩ 1 1 103 none 111 106 4 109 (.prim ⟨none, none⟩ 0 0 .i8 108 0 (.prim ⟨none, none⟩ 1 1 .str 0 0 (.arrP ⟨none, none⟩ 2 2 109 (some 0) .str (.tags 3 3)))) (.prim ⟨some 1, none⟩ 2 2 .bool 0 0 (.prim ⟨some 3, none⟩ 3 3 .bool 0 0 (.tags 4 4)))
def nl : Nat := (sch.genW cfg 105 55 0 ⟨7, 0, 0⟩).2.l
def nlR : Nat := (sch.genR cfgR 105 55 0 (ctR cfgR false 0)).2.l
theorem isW : FnIs Tryz.prog 33 148 [.t 4] (msgW cfg 105 55 4 sch nl) := FnIs.of mixed Tryz.func33 (by kernel_rfl) (by kernel_rfl) (by kernel_rfl) (by kernel_rfl)
theorem isD : FnIs Tryz.prog 65 2 [] (sch.genDf cfg 105 55) := FnIs.of mixed Tryz.func65 (by kernel_rfl) (by kernel_rfl) (by kernel_rfl) (by kernel_rfl)
theorem isS : FnIs Tryz.prog 31 8 [] (irSetV cfg 105 55) := FnIs.of mixed Tryz.func31 (by kernel_rfl) (by kernel_rfl) (by kernel_rfl) (by kernel_rfl)
theorem isP : FnIs Tryz.prog 28 3 [.t 0] (irNewPtr cfg 105 55 65) := FnIs.of mixed Tryz.func28 (by kernel_rfl) (by kernel_rfl) (by kernel_rfl) (by kernel_rfl)
theorem isV : FnIs Tryz.prog 29 3 [.t 2] (irMaxV env 4) := FnIs.of mixed Tryz.func29 (by kernel_rfl) (by kernel_rfl) (by kernel_rfl) (by kernel_rfl)
theorem isM : FnIs Tryz.prog 13 4 [.t 0] (irMax env 55 28 29) := FnIs.of mixed Tryz.func13 (by kernel_rfl) (by kernel_rfl) (by kernel_rfl) (by kernel_rfl)
theorem isA : FnIs Tryz.prog 15 19 [.t 4, .t 5] (irAgain cfg 55 28 31 32 33) := FnIs.of mixed Tryz.func15 (by kernel_rfl) (by kernel_rfl) (by kernel_rfl) (by kernel_rfl)
theorem isF : FnIs Tryz.prog 32 8 [.t 4] (irRF cfg 55 66) := FnIs.of mixed Tryz.func32 (by kernel_rfl) (by kernel_rfl) (by kernel_rfl) (by kernel_rfl)
theorem isR : FnIs Tryz.prog 66 164 [.t 6] (msgR cfgR 105 55 4 65 false sch nlR) := FnIs.of mixed Tryz.func66 (by kernel_rfl) (by kernel_rfl) (by kernel_rfl) (by kernel_rfl)
theorem need : sch.NeedW Tryz.prog cfg tagsOk := ⟨lenWC_none w_len (fun _ => w_clen), ⟨primW_i8 w_i8, ⟨primW_str w_str (fun _ => w_cstr), ⟨primW_str w_str (fun _ => w_cstr), lenWC_some w_nlen (fun _ => w_cnlen), tagsT⟩⟩⟩, ⟨primW_bool w_bool, ⟨primW_bool w_bool, tagsT⟩⟩⟩
theorem mok : MsgOk Tryz.prog cfg tagsOk 105 55 4 sch nl := ⟨tyC2 true, ⟨rfl, rfl⟩, by kernel_rfl, by kernel_rfl, need, of_decide_eq_true (by kernel_rfl)⟩
theorem endc : EndC Tryz.prog cfgR := endC_of tyRs (by kernel_rfl) is_pkbin_Reader_Ok is_pkbin_Reader_Complete
theorem isD_0 : FnIs Tryz.prog 109 2 [] (Sch.genDf cfg 111 106 (.prim ⟨none, none⟩ 0 0 .i8 108 0 (.prim ⟨none, none⟩ 1 1 .str 0 0 (.arrP ⟨none, none⟩ 2 2 109 (some 0) .str (.tags 3 3))))) := FnIs.of mixed Tryz.func109 (by kernel_rfl) (by kernel_rfl) (by kernel_rfl) (by kernel_rfl)
theorem dfr_0 : DefRC Tryz.prog cfg 4 109 (.prim ⟨none, none⟩ 0 0 .i8 108 0 (.prim ⟨none, none⟩ 1 1 .str 0 0 (.arrP ⟨none, none⟩ 2 2 109 (some 0) .str (.tags 3 3)))) := fun w b a c et hb hn => defaultCI (by decide) isD_0 (by kernel_rfl) hb hn
theorem needR : sch.NeedR Tryz.prog cfgR := ⟨lenRC_of r_Len (fun _ => r_CLen), endc, dfr_0, ⟨primR_i8 r_Int8, ⟨primR_str r_String (fun _ => r_CString), ⟨primR_str r_String (fun _ => r_CString), lenRC_of r_Len (fun _ => r_CLen), endc, (r_Tags cfgR rfl)⟩⟩⟩, ⟨primR_bool r_Bool, ⟨primR_bool r_Bool, (r_Tags cfgR rfl)⟩⟩⟩
noncomputable def z : Array Value := match zeroOf Tryz.prog 105 with | some (.agg z) => z | _ => #[]
theorem hz : zeroOf Tryz.prog 105 = some (.agg z) := by kernel_rfl
theorem hzn : z.size = 5 := by kernel_rfl
theorem hDef : DefRC Tryz.prog cfg 5 65 sch := fun w b a c et hb hn => defaultCI (by decide) isD (by kernel_rfl) hb hn
theorem hPtr (w : World) : Ret Tryz.prog 28 #[] w fun v w' => v = .pointer (some ⟨w.heap.size, 0, none⟩) ∧ w'.heap[w.heap.size]? = some (.cells (setD 0 (sch.dst cfg) z) 105 (0, 0)) ∧ Ext none1 w w' ∧ w.heap.size < w'.heap.size := newPtrC isP hz (Nat.le_of_eq hzn.symm) (fun hb hn => hDef _ _ _ _ _ hb hn) w
theorem mrk : MsgRk Tryz.prog cfgR 105 55 4 65 5 sch nlR := ⟨rfl, ⟨⟨by kernel_rfl, by kernel_rfl, by kernel_rfl, uuF, fun _ => trivial⟩, uuF, by kernel_rfl, by kernel_rfl⟩, tyRb, by kernel_rfl, needR, endc, hDef, by kernel_rfl, of_decide_eq_true (by kernel_rfl)⟩
theorem hchk : ∀ ver : Int, sch.chkD ((setD 0 (sch.dst cfg) z).setIfInBounds 0 (.int .i16 ver)).toList = true := fun ver => by kernel_rfl
theorem hid : ∀ ver : Int, (setD 0 (sch.dst cfg) ((setD 0 (sch.dst cfg) z).setIfInBounds 0 (.int .i16 ver))) = (setD 0 (sch.dst cfg) z).setIfInBounds 0 (.int .i16 ver) := fun ver => by kernel_rfl
def flx (v : Nat) : Bool := flagAt cfg 4 v
theorem hpos : ((List.range 5).all fun v => sch.posE v (flx v)) = true := by kernel_rfl
theorem agl {tv : TypeId} {vv : Value} : AgL Tryz.prog env 13 15 4 sch flx (.iface tv vv) where
  max w := c_max (by decide) isM (by kernel_rfl) (by kernel_rfl) (fun w => (hPtr w).mono fun _ _ h => h.2.2.1) (fun v w => c_maxV (by decide) isV v w) w
  again v hv _ _ _ _ hs hlen herr hgood := againC (et := 0) (nl2 := 0) (C := cfgR) (T := 105) (flex := 4) (S := sch) (z := z) (by decide) isA isF (by decide) mrk (by decide) isR hPtr (fun hb hc ver => setVC (by decide) isS (by kernel_rfl) (by kernel_rfl) hb hc ver)
    (fun hcs hver hrep hok hb ho hbase hsz => appendTo mok (by decide) isW hcs hver hrep hok hb ho hbase hsz) (by kernel_rfl) (by kernel_rfl) tBs ⟨_, Tryz.underlying52⟩ ⟨_, _, rfl⟩ hzn (by decide) hid hchk (v : Int) ⟨by omega, by omega⟩ hs hlen herr hgood
  hM := by decide
  pos v hv := List.all_eq_true.1 hpos v (by simp; omega)
theorem tyTr : TyTr Tryz.prog env 2 := { tr := ⟨_, _, _, _, _, Tryz.underlying26, ⟨rfl, rfl⟩, ⟨rfl, rfl⟩, ⟨rfl, rfl⟩, ⟨rfl, rfl⟩, ⟨rfl, rfl⟩⟩, tg := ⟨_, _, Tryz.underlying61, ⟨rfl, rfl⟩, ⟨rfl, rfl⟩⟩, i64 := by kernel_rfl, u32 := by kernel_rfl, u8 := by kernel_rfl, bool := by kernel_rfl, bs := by kernel_rfl, lt := by kernel_rfl, lu := by kernel_rfl, c1 := ⟨by kernel_rfl, by kernel_rfl, by kernel_rfl, by kernel_rfl, by kernel_rfl, by kernel_rfl, by kernel_rfl⟩, cT := by kernel_rfl, cU := by kernel_rfl }
theorem bulkPos {H : Type} (d : DataW H) : 1 ≤ Rows.uptoBulk d := by
  cases d with
  | lit l => cases l <;> simp [Rows.uptoBulk]
  | nil => simp [Rows.uptoBulk]
  | ptr d => simp [Rows.uptoBulk]
  | slice elems spare => simp [Rows.uptoBulk]
  | agg parts => simp [Rows.uptoBulk]
  | iface t d => simp [Rows.uptoBulk]
  | map entries => simp [Rows.uptoBulk]
  | held h => simp [Rows.uptoBulk]
theorem bulkL {H : Type} : BulkL (H := H) Rows.uptoBulk Rows.uptoBulkAll := { slice := fun _ _ => by simp only [Rows.uptoBulk], agg := fun _ => by simp only [Rows.uptoBulk], nil := by simp only [Rows.uptoBulkAll], cons := fun _ _ => by simp only [Rows.uptoBulkAll], pos := bulkPos }
theorem fits (w : World) (cs : List Value) (t : Tr) (h : TreeAt w cs t) : Ret Tryz.prog env.f_laws_zzFits2 #[.agg cs.toArray] w (SomeB w) := c_zzFits2 tyK.toTyF is_laws_zzFits2 (fun w uv u h => c_zzFits3 tyK.toTyF is_laws_zzFits3 (fun w k bv x h1 h2 => c_zzFits4 tyK.toTyF is_laws_zzFits4 w k bv x h1 h2) (by kernel_rfl) w uv u h) w cs t h
def src_sDescribeConfigsRequestResource : List FSrc := [⟨[(0, 1), (2, (-1)), (3, (-1)), (4, (-1))], none⟩, ⟨[(0, 8), (2, (-1)), (3, (-1)), (4, (-1))], none⟩, ⟨[(0, 11), (2, (-1)), (3, 0), (4, (-1)), (6, 8)], none⟩]
theorem isc_sDescribeConfigsRequestResource : FnIs Tryz.prog 30 5 [.t 0] (irSub env src_sDescribeConfigsRequestResource) := FnIs.of mixed Tryz.func30 (by kernel_rfl) (by kernel_rfl) (by kernel_rfl) (by kernel_rfl)
theorem sub_sDescribeConfigsRequestResource : SubC Tryz.prog 30 (mkFS src_sDescribeConfigsRequestResource) := sub_of tyK isc_sDescribeConfigsRequestResource (by kernel_rfl) ⟨(fun g F h => by cases h), ⟨(fun g F h => by cases h), ⟨(fun g F h => by cases h), trivial⟩⟩⟩
def src_DescribeConfigsRequest : List FSrc := [⟨[(0, 11), (2, (-1)), (3, (-1)), (4, (-1)), (6, 10)], some (30, mkFS src_sDescribeConfigsRequestResource)⟩, ⟨[(0, 0), (1, 1), (2, (-1)), (3, (-1)), (4, (-1))], none⟩, ⟨[(0, 0), (1, 3), (2, (-1)), (3, (-1)), (4, (-1))], none⟩]
theorem isc_DescribeConfigsRequest : FnIs Tryz.prog 14 7 [.c 0 env.t_spec_Message] (irMsg env src_DescribeConfigsRequest 4) := FnIs.of mixed Tryz.func14 (by kernel_rfl) (by kernel_rfl) (by kernel_rfl) (by kernel_rfl)
theorem msg_DescribeConfigsRequest : MsgC Tryz.prog 14 (mkFS src_DescribeConfigsRequest) 4 := msg_of tyK isc_DescribeConfigsRequest (by kernel_rfl) ⟨(fun g F h => by cases h; exact sub_sDescribeConfigsRequestResource), ⟨(fun g F h => by cases h), ⟨(fun g F h => by cases h), trivial⟩⟩⟩
theorem isL : FnIs Tryz.prog 4 56 [.t 6] (irFnCut env 13 14 15 35) := FnIs.of mixed Tryz.func4 (by kernel_rfl) (by kernel_rfl) (by kernel_rfl) (by kernel_rfl)
theorem hflex : ((List.range 5).all fun v => flexAt 4 v == flx v) = true := by kernel_rfl
theorem hfit : fitS 4 flx (mkFS src_DescribeConfigsRequest) sch = true := by kernel_rfl
theorem agw : AgW Tryz.prog 14 4 sch flx (mkFS src_DescribeConfigsRequest) 4 where
  msg := msg_DescribeConfigsRequest
  ok := FS.ok_of (by kernel_rfl)
  len := of_decide_eq_true (by kernel_rfl)
  flex v hv := by simpa using List.all_eq_true.1 hflex v (by simp; omega)
  fit := hfit
theorem own : ownKnob Tryz.prog.godebug = none := by kernel_rfl
theorem laidOut : laidOutB Tryz.prog = true := by kernel_rfl
theorem gType : (Tryz.prog.globals[0]?).map (·.type) = some 52 := by kernel_rfl
theorem err_of_laid {W : World} (h : laidMetH Tryz.prog Rows.fnCutDescribeConfigsRequestUptoRow.laid W) : ∃ tv vv, W.cell? ⟨0, 0, none⟩ = some (.iface tv vv) := by
  have h' : laidMet Tryz.prog Rows.fnCutDescribeConfigsRequestUptoRow.laid W := h
  obtain ⟨a1, s1, hv1, _, _, _⟩ := laid_sentinel h' (by kernel_rfl) gType Tryz.underlying52 rowE Tryz.underlying210 Tryz.underlying228 rfl rfl Tryz.underlying9 (by kernel_rfl) (by kernel_rfl)
  exact ⟨210, .pointer (some a1), by simpa using World.var?_cell (by kernel_rfl) hv1 0⟩
noncomputable def low : Nat := (World.holding Tryz.prog default ⟨#[], #[], []⟩).heap.size
noncomputable def laidWorld (os : Os) : World :=
  let w0 := World.holding Tryz.prog os ⟨#[.cells #[.string { data := #[114, 101, 115, 112, 111, 110, 115, 101, 32, 100, 105, 100, 32, 110, 111, 116, 32, 99, 111, 110, 116, 97, 105, 110, 32, 101, 110, 111, 117, 103, 104, 32, 100, 97, 116, 97, 32, 116, 111, 32, 98, 101, 32, 118, 97, 108, 105, 100] }] 228], #[], []⟩
  { w0 with heap := w0.heap.modify 0 fun
      | .cells _ t frozen => .cells #[.iface 210 (.pointer (some ⟨low, 0, none⟩))] t frozen
      | o => o }
theorem laidWorld_met (os : Os) (args : Array Value) : laidMetH Tryz.prog Rows.fnCutDescribeConfigsRequestUptoRow.laid ((laidWorld os).forCall (fun _ _ => 0) ⟨#[], args, []⟩).memory :=
  laidMet_of_run (ps := [.cell 0 0, .cell low 0]) 8 (by kernel_rfl) (by kernel_rfl) (by kernel_rfl)
theorem walk {tv : TypeId} {vv : Value} (n : Nat) (hn : n < 256) (at_ : Nat) (hat : at_ < 65536) {w : World} {cs : List Value} {t : Tr} (hT : TreeAt w cs t) (hz : t.sz ≤ 1048576) (herr : w.cell? ⟨0, 0, none⟩ = some (.iface tv vv)) : Ret Tryz.prog 4 #[.int .u8 n, .agg cs.toArray, .int .u16 at_] w fun u w' => u = .bool true ∧ Ext none1 w w' :=
  c_FnCut tyK spF is_laws_version fits (by kernel_rfl) agl agw (by decide) isL n hn at_ hat hT (part_le (by have := Nat.mod_lt n (show 0 < 4 + 1 by omega); simp only [verOf]; omega) hfit hT.ok (of_decide_eq_true (by kernel_rfl)) hz) herr
theorem reads (os : Os) {H : Type} (enc : TypeId × Value → H) : ∃ places, DataW.whole enc Tryz.prog ((laidWorld os).forCall (fun _ _ => 0) ⟨#[], #[.int .u8 0, .agg #[.int .i64 0, .slice none 0 0, .bool false, .slice none 0 0, .slice none 0 0], .int .u16 0], []⟩).memory Tryz.f4.params.toList Rows.fnCutDescribeConfigsRequestSpec.vars false (#[.int .u8 0, .agg #[.int .i64 0, .slice none 0 0, .bool false, .slice none 0 0, .slice none 0 0], .int .u16 0] : Array Value).toList 8 = some ([.lit (.int .u8 0), .agg [.lit (.int .i64 0), .nil, .lit (.bool false), .nil, .nil], .lit (.int .u16 0)], [], places) := ⟨[], by kernel_rfl⟩

theorem contract (H : Type) (enc : TypeId × Value → H) (W : World) (base : Nat) (args : Array Value) (ds gs : List (DataW H)) (before : List MemPlace)
    (hval0 : ∀ (j : Nat) t v, Tryz.f4.params[j]? = some t → args[j]? = some v → Value.okWide Tryz.prog W .any base t v)
    (hW : DataW.Whole enc Tryz.prog Tryz.f4.params.toList Rows.fnCutDescribeConfigsRequestSpec.vars false W args.toList ds gs before) (hbulk : Rows.uptoBulkAll (ds ++ gs) ≤ 1048576) (hL : laidMetH Tryz.prog Rows.fnCutDescribeConfigsRequestUptoRow.laid W) :
    Calls Tryz.prog 4 args W fun e W' => ∃ v, e = .returned v ∧ Rows.fnCutDescribeConfigsRequestSpec.post enc Tryz.prog Tryz.f4 false true false false W args v W' := by
  have hval : ∀ (j : Nat) t v, Tryz.f4.params[j]? = some t → args[j]? = some v → Value.okWide Tryz.prog W .any base t v := hval0
  have hW' := hW
  have hlt0 := hW'.lt
  obtain ⟨p, q, hA0, hV, rfl, hfz, hnd⟩ := hW
  have hA : DataW.TrodAll enc Tryz.prog W 0 (fun _ => true) true Tryz.f4.params.toList args.toList ds p := hA0
  rw [Tryz.params4] at hA hval
  obtain ⟨v0, vs0, d0, ds0, p0, q0, hargs, rfl, rfl, h0, r0⟩ := trodAll_cons hA
  obtain ⟨v1, vs1, d1, ds1, p1, q1, hargs1, rfl, rfl, h1, r1⟩ := trodAll_cons r0
  obtain ⟨v2, vs2, d2, ds2, p2, q2, hargs2, rfl, rfl, h2, r2⟩ := trodAll_cons r1
  obtain ⟨rfl, rfl, rfl⟩ := trodAll_nil r2
  obtain rfl : args = #[v0, v1, v2] := by rw [← Array.toArray_toList (xs := args), hargs, hargs1, hargs2]
  obtain ⟨rfl, rfl⟩ := trodVars_none hV
  obtain ⟨a0, rfl, rfl, rfl, w0⟩ := open_int Tryz.underlying5 (hval 0 5 v0 rfl rfl) h0
  obtain ⟨a2, rfl, rfl, rfl, w2⟩ := open_int Tryz.underlying39 (hval 2 39 v2 rfl rfl) h2
  have hx2 : 0 ≤ a2 ∧ a2 ≤ 65535 := by simpa [Lit.wf, IntKind.min, IntKind.max, IntKind.signed, IntKind.bits] using w2
  obtain ⟨at_, rfl⟩ : ∃ at_ : Nat, a2 = (at_ : Int) := ⟨a2.toNat, by omega⟩
  obtain ⟨cs, rfl⟩ := agg_of_ok Tryz.underlying26 (hval 1 26 v1 rfl rfl)
  have hbk : Rows.uptoBulk d1 ≤ 1048576 := by
    simp only [List.append_nil, List.cons_append, List.nil_append, Rows.uptoBulkAll] at hbulk
    omega
  obtain ⟨t, hT, hz⟩ := open_arg tyTr bulkL h1 hbk
  obtain ⟨tv, vv, herr⟩ := err_of_laid hL
  clear hA0 hval0
  simp only [List.append_nil, List.nil_append] at hW' hlt0
  have hx : 0 ≤ a0 ∧ a0 ≤ 255 := by simpa [Lit.wf, IntKind.min, IntKind.max, IntKind.signed, IntKind.bits] using w0
  obtain ⟨n, rfl⟩ : ∃ n : Nat, a0 = (n : Int) := ⟨a0.toNat, by omega⟩
  refine ((walk n (by omega) at_ (by omega) hT hz herr).2).mono fun e W' ⟨v, he, hv, hx'⟩ => ?_
  subst he; subst hv
  exact ⟨_, rfl, post_of_ext (pa := [] ++ (p1 ++ ([] ++ []))) (pv := []) hW' (fun _ _ _ => (trodAll_cons_mk (shut_bool Tryz.underlying4 _) trodAll_mk0)) (fun sp hsp => (trodAll_cons_mk (shut_int Tryz.underlying5 w0) (trodAll_cons_mk (ext_trod laidOut (by kernel_rfl) (of_decide_eq_true (by kernel_rfl)) h1 hx' (fun x hx => hlt0 x (by simpa using hx)) (fun x hx => hsp x (by simpa using hx))) (trodAll_cons_mk (shut_int Tryz.underlying39 w2) trodAll_mk0)))) (fun _ _ => rfl) (by simp)
    hx' (ok_one (by kernel_rfl) rfl (okWide_bool_mk Tryz.underlying4 _))⟩

set_option maxRecDepth 100000 in
theorem lifted (os : Os) (started : os.Started) (H : Type) (enc : TypeId × Value → H) (F : Stop.Interp) :
    ReturnsInHanded {} Tryz.checked os 4 .any ((Rows.OpenSpec.upto Rows.fnCutDescribeConfigsRequestSpec).preRow enc Tryz.prog Tryz.f4 Rows.fnCutDescribeConfigsRequestUptoRow.domain false Rows.fnCutDescribeConfigsRequestUptoRow.laid) (((Rows.OpenSpec.upto Rows.fnCutDescribeConfigsRequestSpec).at F).post enc Tryz.prog Tryz.f4 false true false false) := by
  obtain ⟨places, hx⟩ := reads os enc
  refine returnsInHanded_of_row (C := Tryz.checked) (s := Rows.OpenSpec.upto Rows.fnCutDescribeConfigsRequestSpec) own started (by kernel_rfl) Tryz.func4
    (witness_row_at (enc := enc) (C := Tryz.checked) false (laidWorld os) #[.int .u8 0, .agg #[.int .i64 0, .slice none 0 0, .bool false, .slice none 0 0, .slice none 0 0], .int .u16 0] rfl (by kernel_rfl) (by kernel_rfl) (by kernel_rfl)
      (OpenSpec.preRow_of_cond 8 hx (by kernel_rfl) (fun k hk => by cases hk; kernel_rfl) (by kernel_rfl) (laidWorld_met os _))) ?_
  intro W base args ds gs before hval hW _ hcond _ hL _ _
  exact contract H enc W base args ds gs before hval hW (of_decide_eq_true (hcond _ rfl)) hL

theorem row : Rows.FnCutDescribeConfigsRequestUptoSaid :=
  OpenClaim.holds_of_cond 4 Tryz.f4 rfl rfl rfl rfl rfl rfl rfl ⟨rfl, rfl, rfl, rfl, rfl⟩ rfl rfl rfl rfl rfl (by kernel_rfl) Tryz.func4 (by kernel_rfl)
    (of_decide_eq_true (by kernel_rfl)) (by unfold Func.isWrapper; first | (rw [if_pos (by decide +kernel)]; kernel_rfl) | (rw [if_neg (by decide +kernel)]; exact ⟨rfl, rfl⟩))
    (fun os started H enc _ F => by rw [OpenClaim.pre_eq_preRow]; exact lifted os started H enc F)

theorem proved : Rows.FnCutDescribeConfigsRequestUptoCardSaid :=
  Claim7.holds_tied_plain_at .later [] [.sentinel] true (true, "7236b0003db61e536347a0a400f80406a2c864bd540d67491e037b5f935d8620") false
    row (fun _ h => by cases h) (by kernel_rfl) (fun _ h => by cases h) fnCutDescribeConfigsRequestUpto_row_tie rfl ⟨rfl, rfl⟩ (by kernel_rfl) rfl
    (fun f fn hf hfn => by
      obtain rfl : f = 4 := Option.some.inj ((show Tryz.prog.funcNamed "pub-kmsg/laws.FnCutDescribeConfigsRequest" = some 4 by kernel_rfl).symm.trans hf) |>.symm
      obtain rfl : fn = Tryz.f4 := (Option.some.inj (Tryz.func4.symm.trans hfn)).symm
      exact ⟨by kernel_rfl, fun j t ht => by
        rw [Tryz.params4] at ht
        have hm : t ∈ [5, 26, 39] := by simpa using Array.mem_of_getElem? ht
        have hall : ([5, 26, 39].all fun u => !Tryz.prog.wantsStandIn u) = true := by kernel_rfl
        exact (show Tryz.prog.wantsStandIn t = false by simpa using List.all_eq_true.1 hall t hm)⟩)
    (by kernel_rfl)
end cutDescribeConfigsRequest
end Go.Proofs.YtgajindbafacgaaGreatDoor
