/- A whole request of ApiVersions, at each version, is the frame of the reference: its length, key, version, number, the client's id (or none), of flexible ones a tag section, and what it says. Its conditions: the arguments hold together at most 1048576 values and letters. -/
import Derived.Test.YtebdoebjmipldaaGreatDoorKgF
import Derived.Test.YtebdoebjmipldaaGreatDoorKe
import Derived.Test.YtebdoebjmipldaaGreatDoorRows
import Derived.Test.YtebdoebjmipldaaGreatDoorTie
import Derived.Test.YtebdoebjmipldaaGreatDoorCards
import Derived.ProofKit
import Derived.OpenShut
import Derived.Stop.LaidErr
import Derived.Handed
import Derived.JoinedOf
import Derived.SevenTiedAt
import Derived.Deep.DeepHandedRow
import Derived.Lib.LaidTab
set_option linter.unusedVariables false
set_option linter.unusedSectionVars false
set_option linter.unusedSimpArgs false
set_option maxRecDepth 100000
namespace Go.Proofs.YtebdoebjmipldaaGreatDoor
namespace frameApiVersions
open Go Go.Kg kg Go.ChangeShapes Go.WideShapes Go.ChangeAt Go.RowKit
def cfg : Cfg := ⟨env, true, 5, 6⟩
def cfgR : CfgR := ⟨⟨env, true, 5, 6⟩, 7, 43, 42, 48, 46⟩
def sch : Sch := .prim ⟨some 3, none⟩ 1 1 .str 0 0 (.prim ⟨some 3, none⟩ 2 2 .str 0 0 (.prim ⟨some 5, none⟩ 3 3 .nstr 0 0 (.prim ⟨some 5, none⟩ 4 4 .i32 0 (-1) (.tags 5 5))))
def nl : Nat := (sch.genW cfg 68 46 0 ⟨7, 0, 0⟩).2.l
def nlR : Nat := (sch.genR cfgR 68 46 0 (ctR cfgR false 0)).2.l
theorem isW : FnIs Tryz.prog 84 82 [.t 4] (msgW cfg 68 46 3 sch nl) := FnIs.of mixed Tryz.func84 (by kernel_rfl) (by kernel_rfl) (by kernel_rfl) (by kernel_rfl)
theorem isD : FnIs Tryz.prog 24 5 [] (sch.genDf cfg 68 46) := FnIs.of mixed Tryz.func24 (by kernel_rfl) (by kernel_rfl) (by kernel_rfl) (by kernel_rfl)
theorem isS : FnIs Tryz.prog 18 8 [] (irSetV cfg 68 46) := FnIs.of mixed Tryz.func18 (by kernel_rfl) (by kernel_rfl) (by kernel_rfl) (by kernel_rfl)
theorem isP : FnIs Tryz.prog 15 3 [.t 0] (irNewPtr cfg 68 46 24) := FnIs.of mixed Tryz.func15 (by kernel_rfl) (by kernel_rfl) (by kernel_rfl) (by kernel_rfl)
theorem isV : FnIs Tryz.prog 16 3 [.t 2] (irMaxV env 5) := FnIs.of mixed Tryz.func16 (by kernel_rfl) (by kernel_rfl) (by kernel_rfl) (by kernel_rfl)
theorem isM : FnIs Tryz.prog 7 4 [.t 0] (irMax env 46 15 16) := FnIs.of mixed Tryz.func7 (by kernel_rfl) (by kernel_rfl) (by kernel_rfl) (by kernel_rfl)
theorem isF : FnIs Tryz.prog 19 8 [.t 4] (irRF cfg 46 33) := FnIs.of mixed Tryz.func19 (by kernel_rfl) (by kernel_rfl) (by kernel_rfl) (by kernel_rfl)
theorem isR : FnIs Tryz.prog 33 80 [.t 6] (msgR cfgR 68 46 3 24 false sch nlR) := FnIs.of mixed Tryz.func33 (by kernel_rfl) (by kernel_rfl) (by kernel_rfl) (by kernel_rfl)
theorem need : sch.NeedW Tryz.prog cfg tagsOk := ⟨primW_str w_str (fun _ => w_cstr), ⟨primW_str w_str (fun _ => w_cstr), ⟨primW_nstr w_nstr (fun _ => w_cnstr), ⟨primW_i32 w_i32, tagsT⟩⟩⟩⟩
theorem mok : MsgOk Tryz.prog cfg tagsOk 68 46 3 sch nl := ⟨tyC2 true, ⟨rfl, rfl⟩, by kernel_rfl, by kernel_rfl, need, of_decide_eq_true (by kernel_rfl)⟩
theorem endc0 : EndC0 Tryz.prog cfgR := endC0_of tyRs (by kernel_rfl) is_pkbin_Reader_Complete
theorem needR : sch.NeedR Tryz.prog cfgR := ⟨primR_str r_String (fun _ => r_CString), ⟨primR_str r_String (fun _ => r_CString), ⟨primR_nstr r_NString (fun _ => r_CNString), ⟨primR_i32 r_Int32, (r_Tags cfgR rfl)⟩⟩⟩⟩
noncomputable def z : Array Value := match zeroOf Tryz.prog 68 with | some (.agg z) => z | _ => #[]
theorem hz : zeroOf Tryz.prog 68 = some (.agg z) := by kernel_rfl
theorem hzn : z.size = 6 := by kernel_rfl
theorem hDef : DefRC Tryz.prog cfg 6 24 sch := fun w b a c et hb hn => defaultCI (by decide) isD (by kernel_rfl) hb hn
theorem hPtr (w : World) : Ret Tryz.prog 15 #[] w fun v w' => v = .pointer (some ⟨w.heap.size, 0, none⟩) ∧ w'.heap[w.heap.size]? = some (.cells (setD 0 (sch.dst cfg) z) 68 (0, 0)) ∧ Ext none1 w w' ∧ w.heap.size < w'.heap.size := newPtrC isP hz (Nat.le_of_eq hzn.symm) (fun hb hn => hDef _ _ _ _ _ hb hn) w
theorem mrk : MsgRk Tryz.prog cfgR 68 46 3 24 6 sch nlR := ⟨rfl, ⟨⟨by kernel_rfl, by kernel_rfl, by kernel_rfl, uuF, fun _ => trivial⟩, uuF, by kernel_rfl, by kernel_rfl⟩, tyRb, by kernel_rfl, needR, endc0, hDef, by kernel_rfl, of_decide_eq_true (by kernel_rfl)⟩
theorem hchk : ∀ ver : Int, sch.chkD ((setD 0 (sch.dst cfg) z).setIfInBounds 0 (.int .i16 ver)).toList = true := fun ver => by kernel_rfl
theorem hid : ∀ ver : Int, (setD 0 (sch.dst cfg) ((setD 0 (sch.dst cfg) z).setIfInBounds 0 (.int .i16 ver))) = (setD 0 (sch.dst cfg) z).setIfInBounds 0 (.int .i16 ver) := fun ver => by kernel_rfl
def flx (v : Nat) : Bool := flagAt cfg 3 v
theorem hpos : ((List.range 6).all fun v => sch.posE v (flx v)) = true := by kernel_rfl
theorem frl {tv : TypeId} {vv : Value} : FrL Tryz.prog env envX 5 sch flx (.iface tv vv) where
  max w := c_max (by decide) isM (by kernel_rfl) (by kernel_rfl) (fun w => (hPtr w).mono fun _ _ h => h.2.2.1) (fun v w => c_maxV (by decide) isV v w) w
  frame v hv corr has l _ _ _ _ hs hlen herr hgood := frameC (C := cfgR) (T := 68) (flex := 3) (S := sch) (z := z) tyX fmX rfl ix_impl_FrameApiVersions isF (by decide) mrk (by decide) isR hPtr (fun hb hc ver => setVC (by decide) isS (by kernel_rfl) (by kernel_rfl) hb hc ver)
    (fun hcs hver hrep hok hb ho hbase hsz => appendTo mok (by decide) isW hcs hver hrep hok hb ho hbase hsz) tBs ⟨_, Tryz.underlying54⟩ ⟨_, _, rfl⟩ hzn (by decide) hid hchk (v : Int) corr ⟨by omega, by omega⟩ has l hs hlen herr hgood
  hM := by decide
  pos v hv := List.all_eq_true.1 hpos v (by simp; omega)
theorem tyTr : TyTr Tryz.prog env 2 := { tr := ⟨_, _, _, _, _, Tryz.underlying28, ⟨rfl, rfl⟩, ⟨rfl, rfl⟩, ⟨rfl, rfl⟩, ⟨rfl, rfl⟩, ⟨rfl, rfl⟩⟩, tg := ⟨_, _, Tryz.underlying61, ⟨rfl, rfl⟩, ⟨rfl, rfl⟩⟩, i64 := by kernel_rfl, u32 := by kernel_rfl, u8 := by kernel_rfl, bool := by kernel_rfl, bs := by kernel_rfl, lt := by kernel_rfl, lu := by kernel_rfl, c1 := ⟨by kernel_rfl, by kernel_rfl, by kernel_rfl, by kernel_rfl, by kernel_rfl, by kernel_rfl, by kernel_rfl⟩, cT := by kernel_rfl, cU := by kernel_rfl }
theorem bulkPos {H : Type} (d : DataW H) : 1 ≤ Rows.uptoBulk d := by
  cases d with
  | lit l => cases l <;> simp [Rows.uptoBulk]
  | nil => simp [Rows.uptoBulk]
  | ptr d => simp [Rows.uptoBulk]
  | slice elems spare => simp [Rows.uptoBulk]
  | agg parts => simp [Rows.uptoBulk]
  | iface t d => simp [Rows.uptoBulk]
  | map entries => simp [Rows.uptoBulk]
  | held h => simp [Rows.uptoBulk]
theorem bulkL {H : Type} : BulkL (H := H) Rows.uptoBulk Rows.uptoBulkAll := { slice := fun _ _ => by simp only [Rows.uptoBulk], agg := fun _ => by simp only [Rows.uptoBulk], nil := by simp only [Rows.uptoBulkAll], cons := fun _ _ => by simp only [Rows.uptoBulkAll], pos := bulkPos }
theorem fits (w : World) (cs : List Value) (t : Tr) (h : TreeAt w cs t) : Ret Tryz.prog env.f_laws_zzFits2 #[.agg cs.toArray] w (SomeB w) := c_zzFits2 tyK.toTyF is_laws_zzFits2 (fun w uv u h => c_zzFits3 tyK.toTyF is_laws_zzFits3 (fun w k bv x h1 h2 => c_zzFits4 tyK.toTyF is_laws_zzFits4 w k bv x h1 h2) (by kernel_rfl) w uv u h) w cs t h
theorem bulkS {H : Type} : ∀ l : List UInt8, Rows.uptoBulk (H := H) (.lit (.string l)) = l.length + 1 := fun l => by simp only [Rows.uptoBulk]
def src_ApiVersionsRequest : List FSrc := [⟨[(0, 8), (1, 3), (2, (-1)), (3, (-1)), (4, (-1))], none⟩, ⟨[(0, 8), (1, 3), (2, (-1)), (3, (-1)), (4, (-1))], none⟩, ⟨[(0, 8), (1, 5), (2, (-1)), (3, 5), (4, (-1))], none⟩, ⟨[(0, 3), (1, 5), (2, (-1)), (3, (-1)), (4, (-1)), (5, (-1))], none⟩]
theorem isc_ApiVersionsRequest : FnIs Tryz.prog 10 7 [.c 0 env.t_spec_Message] (irMsg env src_ApiVersionsRequest 3) := FnIs.of mixed Tryz.func10 (by kernel_rfl) (by kernel_rfl) (by kernel_rfl) (by kernel_rfl)
theorem msg_ApiVersionsRequest : MsgC Tryz.prog 10 (mkFS src_ApiVersionsRequest) 3 := msg_of tyK isc_ApiVersionsRequest (by kernel_rfl) ⟨(fun g F h => by cases h), ⟨(fun g F h => by cases h), ⟨(fun g F h => by cases h), ⟨(fun g F h => by cases h), trivial⟩⟩⟩⟩
theorem hflex : ((List.range 6).all fun v => flexAt 3 v == flx v) = true := by kernel_rfl
theorem hfit : fitS 5 flx (mkFS src_ApiVersionsRequest) sch = true := by kernel_rfl
theorem agw : AgW Tryz.prog envX.f_spec_ApiVersionsRequest 5 sch flx (mkFS src_ApiVersionsRequest) 3 where
  msg := msg_ApiVersionsRequest
  ok := FS.ok_of (by kernel_rfl)
  len := of_decide_eq_true (by kernel_rfl)
  flex v hv := by simpa using List.all_eq_true.1 hflex v (by simp; omega)
  fit := hfit
theorem hwt : sch.wt ≤ 1048000 := of_decide_eq_true (by kernel_rfl)
theorem own : ownKnob Tryz.prog.godebug = none := by kernel_rfl
theorem laidOut : laidOutB Tryz.prog = true := by kernel_rfl
theorem gType : (Tryz.prog.globals[1]?).map (·.type) = some 54 := by kernel_rfl
theorem err_of_laid {W : World} (h : laidMetH Tryz.prog Rows.fnFrameApiVersionsUptoRow.laid W) : ∃ tv vv, W.cell? ⟨1, 0, none⟩ = some (.iface tv vv) := by
  have h' : laidMet Tryz.prog Rows.fnFrameApiVersionsUptoRow.laid W := h
  obtain ⟨a1, s1, hv1, _, _, _⟩ := laid_sentinel h' (by kernel_rfl) gType Tryz.underlying54 rowE Tryz.underlying126 Tryz.underlying181 rfl rfl Tryz.underlying9 (by kernel_rfl) (by kernel_rfl)
  exact ⟨126, .pointer (some a1), by simpa using World.var?_cell (by kernel_rfl) hv1 0⟩
noncomputable def low : Nat := (World.holding Tryz.prog default ⟨#[], #[], []⟩).heap.size
noncomputable def laidWorld (os : Os) : World :=
  let w0 := World.holding Tryz.prog os ⟨#[.cells #[.string { data := #[114, 101, 115, 112, 111, 110, 115, 101, 32, 100, 105, 100, 32, 110, 111, 116, 32, 99, 111, 110, 116, 97, 105, 110, 32, 101, 110, 111, 117, 103, 104, 32, 100, 97, 116, 97, 32, 116, 111, 32, 98, 101, 32, 118, 97, 108, 105, 100] }] 181], #[], []⟩
  { w0 with heap := w0.heap.modify 1 fun
      | .cells _ t frozen => .cells #[.iface 126 (.pointer (some ⟨low, 0, none⟩))] t frozen
      | o => o }
theorem laidWorld_met (os : Os) (args : Array Value) : laidMetH Tryz.prog Rows.fnFrameApiVersionsUptoRow.laid ((laidWorld os).forCall (fun _ _ => 0) ⟨#[], args, []⟩).memory :=
  laidMet_of_run (ps := [.cell 1 0, .cell low 0]) 8 (by kernel_rfl) (by kernel_rfl) (by kernel_rfl)
theorem walk {tv : TypeId} {vv : Value} (n : Nat) (hn : n < 256) (has : Bool) (l : List UInt8) (hl : l.length ≤ 1048576) (corr : Int) {w : World} {cs : List Value} {t : Tr} (hT : TreeAt w cs t) (hz : t.sz ≤ 1048576) (herr : w.cell? ⟨1, 0, none⟩ = some (.iface tv vv)) : Ret Tryz.prog 3 #[.int .u8 n, .agg #[.bool has, strV l], .int .i32 corr, .agg cs.toArray] w fun u w' => u = .bool true ∧ Ext none1 w w' :=
  c_FnFrame tyK tyX spF is_laws_version fits fnsX.toFlFs frl agw n hn has l hl corr hT (by
    have hv : verOf n 5 ≤ 5 := by have := Nat.mod_lt n (show 0 < 5 + 1 by omega); simp only [verOf]; omega
    have := part_wt hv sch (mkFS src_ApiVersionsRequest) 0 t hfit hT.ok
    rw [← partS_plain (fitS_noTag hfit)] at this
    exact Nat.le_trans this (Nat.le_trans (Nat.mul_le_mul hwt hz) (by omega))) herr
theorem reads (os : Os) {H : Type} (enc : TypeId × Value → H) : ∃ places, DataW.whole enc Tryz.prog ((laidWorld os).forCall (fun _ _ => 0) ⟨#[], #[.int .u8 0, .agg #[.bool false, .string ⟨#[]⟩], .int .i32 0, .agg #[.int .i64 0, .slice none 0 0, .bool false, .slice none 0 0, .slice none 0 0]], []⟩).memory Tryz.f3.params.toList Rows.fnFrameApiVersionsSpec.vars false (#[.int .u8 0, .agg #[.bool false, .string ⟨#[]⟩], .int .i32 0, .agg #[.int .i64 0, .slice none 0 0, .bool false, .slice none 0 0, .slice none 0 0]] : Array Value).toList 8 = some ([.lit (.int .u8 0), .agg [.lit (.bool false), .lit (.string [])], .lit (.int .i32 0), .agg [.lit (.int .i64 0), .nil, .lit (.bool false), .nil, .nil]], [], places) := ⟨[], by kernel_rfl⟩

theorem contract (H : Type) (enc : TypeId × Value → H) (W : World) (base : Nat) (args : Array Value) (ds gs : List (DataW H)) (before : List MemPlace)
    (hval0 : ∀ (j : Nat) t v, Tryz.f3.params[j]? = some t → args[j]? = some v → Value.okWide Tryz.prog W .any base t v)
    (hW : DataW.Whole enc Tryz.prog Tryz.f3.params.toList Rows.fnFrameApiVersionsSpec.vars false W args.toList ds gs before) (hbulk : Rows.uptoBulkAll (ds ++ gs) ≤ 1048576) (hL : laidMetH Tryz.prog Rows.fnFrameApiVersionsUptoRow.laid W) :
    Calls Tryz.prog 3 args W fun e W' => ∃ v, e = .returned v ∧ Rows.fnFrameApiVersionsSpec.post enc Tryz.prog Tryz.f3 false true false false W args v W' := by
  have hval : ∀ (j : Nat) t v, Tryz.f3.params[j]? = some t → args[j]? = some v → Value.okWide Tryz.prog W .any base t v := hval0
  have hW' := hW
  have hlt0 := hW'.lt
  obtain ⟨p, q, hA0, hV, rfl, hfz, hnd⟩ := hW
  have hA : DataW.TrodAll enc Tryz.prog W 0 (fun _ => true) true Tryz.f3.params.toList args.toList ds p := hA0
  rw [Tryz.params3] at hA hval
  obtain ⟨v0, vs0, d0, ds0, p0, q0, hargs, rfl, rfl, h0, r0⟩ := trodAll_cons hA
  obtain ⟨v1, vs1, d1, ds1, p1, q1, hargs1, rfl, rfl, h1, r1⟩ := trodAll_cons r0
  obtain ⟨v2, vs2, d2, ds2, p2, q2, hargs2, rfl, rfl, h2, r2⟩ := trodAll_cons r1
  obtain ⟨v3, vs3, d3, ds3, p3, q3, hargs3, rfl, rfl, h3, r3⟩ := trodAll_cons r2
  obtain ⟨rfl, rfl, rfl⟩ := trodAll_nil r3
  obtain rfl : args = #[v0, v1, v2, v3] := by rw [← Array.toArray_toList (xs := args), hargs, hargs1, hargs2, hargs3]
  obtain ⟨rfl, rfl⟩ := trodVars_none hV
  obtain ⟨a0, rfl, rfl, rfl, w0⟩ := open_int Tryz.underlying5 (hval 0 5 v0 rfl rfl) h0
  obtain ⟨a2, rfl, rfl, rfl, w2⟩ := open_int Tryz.underlying21 (hval 2 21 v2 rfl rfl) h2
  obtain ⟨ci, rfl⟩ := agg_of_ok Tryz.underlying23 (hval 1 23 v1 rfl rfl)
  obtain ⟨cs, rfl⟩ := agg_of_ok Tryz.underlying28 (hval 3 28 v3 rfl rfl)
  have hbk1 : Rows.uptoBulk d1 ≤ 1048576 := by
    simp only [List.append_nil, List.cons_append, List.nil_append, Rows.uptoBulkAll] at hbulk
    omega
  have hbk3 : Rows.uptoBulk d3 ≤ 1048576 := by
    simp only [List.append_nil, List.cons_append, List.nil_append, Rows.uptoBulkAll] at hbulk
    omega
  obtain ⟨has, l, rfl, hl⟩ := open_id tyXr bulkL bulkS h1 hbk1
  obtain ⟨t, hT, hz⟩ := open_arg tyTr bulkL h3 hbk3
  obtain ⟨tv, vv, herr⟩ := err_of_laid hL
  clear hA0 hval0
  simp only [List.append_nil, List.nil_append] at hW' hlt0
  have hx : 0 ≤ a0 ∧ a0 ≤ 255 := by simpa [Lit.wf, IntKind.min, IntKind.max, IntKind.signed, IntKind.bits] using w0
  obtain ⟨n, rfl⟩ : ∃ n : Nat, a0 = (n : Int) := ⟨a0.toNat, by omega⟩
  refine ((walk n (by omega) has l hl a2 hT hz herr).2).mono fun e W' ⟨v, he, hv, hx'⟩ => ?_
  subst he; subst hv
  exact ⟨_, rfl, post_of_ext (pa := [] ++ (p1 ++ ([] ++ (p3 ++ [])))) (pv := []) hW' (fun _ _ _ => (trodAll_cons_mk (shut_bool Tryz.underlying4 _) trodAll_mk0)) (fun sp hsp => (trodAll_cons_mk (shut_int Tryz.underlying5 w0) (trodAll_cons_mk (ext_trod laidOut (by kernel_rfl) (of_decide_eq_true (by kernel_rfl)) h1 hx' (fun x hx => hlt0 x (by simp [hx])) (fun x hx => hsp x (by simp [hx]))) (trodAll_cons_mk (shut_int Tryz.underlying21 w2) (trodAll_cons_mk (ext_trod laidOut (by kernel_rfl) (of_decide_eq_true (by kernel_rfl)) h3 hx' (fun x hx => hlt0 x (by simp [hx])) (fun x hx => hsp x (by simp [hx]))) trodAll_mk0))))) (fun _ _ => rfl) (by simp)
    hx' (ok_one (by kernel_rfl) rfl (okWide_bool_mk Tryz.underlying4 _))⟩

set_option maxRecDepth 100000 in
theorem lifted (os : Os) (started : os.Started) (H : Type) (enc : TypeId × Value → H) (F : Stop.Interp) :
    ReturnsInHanded {} Tryz.checked os 3 .any ((Rows.OpenSpec.upto Rows.fnFrameApiVersionsSpec).preRow enc Tryz.prog Tryz.f3 Rows.fnFrameApiVersionsUptoRow.domain false Rows.fnFrameApiVersionsUptoRow.laid) (((Rows.OpenSpec.upto Rows.fnFrameApiVersionsSpec).at F).post enc Tryz.prog Tryz.f3 false true false false) := by
  obtain ⟨places, hx⟩ := reads os enc
  refine returnsInHanded_of_row (C := Tryz.checked) (s := Rows.OpenSpec.upto Rows.fnFrameApiVersionsSpec) own started (by kernel_rfl) Tryz.func3
    (witness_row_at (enc := enc) (C := Tryz.checked) false (laidWorld os) #[.int .u8 0, .agg #[.bool false, .string ⟨#[]⟩], .int .i32 0, .agg #[.int .i64 0, .slice none 0 0, .bool false, .slice none 0 0, .slice none 0 0]] rfl (by kernel_rfl) (by kernel_rfl) (by kernel_rfl)
      (OpenSpec.preRow_of_cond 8 hx (by kernel_rfl) (fun k hk => by cases hk; kernel_rfl) (by kernel_rfl) (laidWorld_met os _))) ?_
  intro W base args ds gs before hval hW _ hcond _ hL _ _
  exact contract H enc W base args ds gs before hval hW (of_decide_eq_true (hcond _ rfl)) hL

theorem row : Rows.FnFrameApiVersionsUptoSaid :=
  OpenClaim.holds_of_cond 3 Tryz.f3 rfl rfl rfl rfl rfl rfl rfl ⟨rfl, rfl, rfl, rfl, rfl⟩ rfl rfl rfl rfl rfl (by kernel_rfl) Tryz.func3 (by kernel_rfl)
    (of_decide_eq_true (by kernel_rfl)) (by unfold Func.isWrapper; first | (rw [if_pos (by decide +kernel)]; kernel_rfl) | (rw [if_neg (by decide +kernel)]; exact ⟨rfl, rfl⟩))
    (fun os started H enc _ F => by rw [OpenClaim.pre_eq_preRow]; exact lifted os started H enc F)

theorem proved : Rows.FnFrameApiVersionsUptoCardSaid :=
  Claim7.holds_tied_plain_at .later [] [.sentinel] true (true, "aab62fd5817169a05619725a592726610795339887e6035ba411dace3886aee5") false
    row (fun _ h => by cases h) (by kernel_rfl) (fun _ h => by cases h) fnFrameApiVersionsUpto_row_tie rfl ⟨rfl, rfl⟩ (by kernel_rfl) rfl
    (fun f fn hf hfn => by
      obtain rfl : f = 3 := Option.some.inj ((show Tryz.prog.funcNamed "pub-kmsg/laws.FnFrameApiVersions" = some 3 by kernel_rfl).symm.trans hf) |>.symm
      obtain rfl : fn = Tryz.f3 := (Option.some.inj (Tryz.func3.symm.trans hfn)).symm
      exact ⟨by kernel_rfl, fun j t ht => by
        rw [Tryz.params3] at ht
        have hm : t ∈ [5, 23, 21, 28] := by simpa using Array.mem_of_getElem? ht
        have hall : ([5, 23, 21, 28].all fun u => !Tryz.prog.wantsStandIn u) = true := by kernel_rfl
        exact (show Tryz.prog.wantsStandIn t = false by simpa using List.all_eq_true.1 hall t hm)⟩)
    (by kernel_rfl)
end frameApiVersions
end Go.Proofs.YtebdoebjmipldaaGreatDoor
