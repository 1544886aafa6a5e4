/- Whatever a OffsetCommitValue says, written by the reference, is read, and written back byte by byte. -/
import Derived.Test.YtglpicecddfcnaaGreatDoorKgF
import Derived.Test.YtglpicecddfcnaaGreatDoorRows
import Derived.Test.YtglpicecddfcnaaGreatDoorTie
import Derived.Test.YtglpicecddfcnaaGreatDoorCards
import Derived.ProofKit
import Derived.OpenShut
import Derived.Stop.LaidErr
import Derived.Handed
import Derived.JoinedOf
import Derived.SevenTiedAt
import Derived.Deep.DeepHandedRow
import Derived.Lib.LaidTab
set_option linter.unusedVariables false
set_option linter.unusedSectionVars false
set_option linter.unusedSimpArgs false
set_option maxRecDepth 100000
namespace Go.Proofs.YtglpicecddfcnaaGreatDoor
namespace againOffsetCommitValue
open Go Go.Kg kg Go.ChangeShapes Go.WideShapes Go.ChangeAt Go.RowKit
def cfg : Cfg := ⟨env, true, 5, 6⟩
def cfgR : CfgR := ⟨⟨env, true, 5, 6⟩, 7, 88, 87, 999999, 999999⟩
def sch : Sch := .prim ⟨none, none⟩ 1 1 .i64 0 0 (.prim ⟨some 3, none⟩ 2 2 .i32 0 0 (.prim ⟨none, none⟩ 3 3 .str 0 0 (.prim ⟨none, none⟩ 4 4 .i64 0 0 (.prim ⟨some 1, some 1⟩ 5 5 .i64 0 0 (.fin)))))
def schD : Sch := .prim ⟨none, none⟩ 1 1 .i64 0 0 (.prim ⟨some 3, none⟩ 2 2 .i32 0 0 (.prim ⟨none, none⟩ 3 3 .str 0 0 (.prim ⟨none, none⟩ 4 4 .i64 0 0 (.prim ⟨some 1, some 1⟩ 5 5 .i64 0 0 ((.prim ⟨none, none⟩ 6 6 .uuid 0 0 (.tags 7 22)))))))
def ks : List KF := [⟨0, 6, 6, .prim .uuid 0⟩]
def km : KM := ⟨sch, ks, 7, 22⟩
def nl : Nat := (secWI cfg 52 72 0 78 ks 7 ((schK sch).genW cfg 52 72 0 (ct0 cfg 0)).2).2.l
def nlR : Nat := (secRI cfgR 52 72 10 ks 7 (sch.genR cfgR 52 72 10 (ctR cfgR true 0)).2).2.l
theorem isW : FnIs Tryz.prog 27 126 [.t 4] (msgWk cfg 52 72 78 4 (schK sch) ks 7 nl) := FnIs.of mixed Tryz.func27 (by kernel_rfl) (by kernel_rfl) (by kernel_rfl) (by kernel_rfl)
theorem isD : FnIs Tryz.prog 51 2 [] (schD.genDf cfg 52 72) := FnIs.of mixed Tryz.func51 (by kernel_rfl) (by kernel_rfl) (by kernel_rfl) (by kernel_rfl)
theorem isN : FnIs Tryz.prog 25 4 [.c 0 52] (irNewK cfg 52 51) := FnIs.of mixed Tryz.func25 (by kernel_rfl) (by kernel_rfl) (by kernel_rfl) (by kernel_rfl)
theorem isK : FnIs Tryz.prog 8 14 [.t 6] (irKept env) := FnIs.of mixed Tryz.func8 (by kernel_rfl) (by kernel_rfl) (by kernel_rfl) (by kernel_rfl)
theorem isA : FnIs Tryz.prog 10 11 [.t 2, .t 3] (irAgainK cfg 52 25 26 27) := FnIs.of mixed Tryz.func10 (by kernel_rfl) (by kernel_rfl) (by kernel_rfl) (by kernel_rfl)
theorem isF : FnIs Tryz.prog 26 8 [.t 4] (irRF cfg 72 52) := FnIs.of mixed Tryz.func26 (by kernel_rfl) (by kernel_rfl) (by kernel_rfl) (by kernel_rfl)
theorem isR : FnIs Tryz.prog 52 109 [.t 6] (msgRk cfgR 52 72 4 51 true sch ks 7 nlR) := FnIs.of mixed Tryz.func52 (by kernel_rfl) (by kernel_rfl) (by kernel_rfl) (by kernel_rfl)
theorem endc : EndC Tryz.prog cfgR := endC_of tyRs (by kernel_rfl) is_pkbin_Reader_Ok is_pkbin_Reader_Complete
theorem need : (schK sch).NeedW Tryz.prog cfg tagsOk := ⟨primW_i16 w_i16, ⟨primW_i64 w_i64, ⟨primW_i32 w_i32, ⟨primW_str w_str (fun _ => w_cstr), ⟨primW_i64 w_i64, ⟨primW_i64 w_i64, trivial⟩⟩⟩⟩⟩⟩
theorem needR : sch.NeedR Tryz.prog cfgR := ⟨primR_i64 r_Int64, ⟨primR_i32 r_Int32, ⟨primR_str r_String (fun _ => r_CString), ⟨primR_i64 r_Int64, ⟨primR_i64 r_Int64, trivial⟩⟩⟩⟩⟩
theorem needK : KsNeedW Tryz.prog cfg tagsOk ks := ⟨⟨primW_uuid w_uuid, rfl⟩, trivial⟩
theorem needKR : KsNeedR Tryz.prog cfgR ks := ⟨primR_uuid r_Uuid, trivial⟩
theorem uuE : isAgg16 (kindOf Tryz.prog env.tUu) = true → TyUuE Tryz.prog env := fun _ => { toTyUu := tyUu, g := by kernel_rfl, u8 := by kernel_rfl, k8 := by kernel_rfl, i8 := ⟨(Tryz.prog.info? env.tU8).get (by kernel_rfl), by kernel_rfl⟩, c8 := by kernel_rfl }
theorem mok : KmOk Tryz.prog cfg tagsOk 52 72 78 (schK sch) ks 7 22 nl := { ty := tyC2 true, fx := rfl, cfg := ⟨rfl, rfl⟩, uu := uuE, bs := tBs.siz, uB := by kernel_rfl, kU := by kernel_rfl, sS := sli_of (by kernel_rfl) (by kernel_rfl) rfl, tyW := by kernel_rfl, tyK := by kernel_rfl, f0 := by kernel_rfl, ft := by kernel_rfl, need := need, needK := needK, tags := tagsT, nd := by decide, len := by decide, nl := of_decide_eq_true (by kernel_rfl) }
theorem tyR : TyR Tryz.prog cfgR := ⟨⟨by kernel_rfl, by kernel_rfl, by kernel_rfl, uuF, fun _ => trivial⟩, uuF, by kernel_rfl, by kernel_rfl⟩
theorem sec : SecR Tryz.prog cfgR := { ty := tyR, fx := rfl, rb := tyRb, iU := by kernel_rfl, iI := by kernel_rfl, uErr := ⟨_, Tryz.underlying55⟩, endc := endc, uv := r_Uv, span := r_Span }
noncomputable def z : Array Value := match zeroOf Tryz.prog 52 with | some (.agg z) => z | _ => #[]
theorem hz : zeroOf Tryz.prog 52 = some (.agg z) := by kernel_rfl
theorem hzn : z.size = 23 := by kernel_rfl
theorem hDef : DefRC Tryz.prog cfg 23 51 schD := fun w b a c et hb hn => defaultCI (by decide) isD (by kernel_rfl) hb hn
noncomputable def zD : Array Value := setD 0 (schD.dst cfg) z
theorem hkT : kindOf Tryz.prog 52 = .agg 23 := by kernel_rfl
theorem hone : allOne zD.toList = true := by kernel_rfl
theorem hid : setD 0 (schD.dst cfg) zD = zD := by kernel_rfl
theorem hchk : sch.chkD zD.toList = true := by kernel_rfl
theorem hks : ksChkD zD.toList ks = true := by kernel_rfl
theorem hnil : zD[22]? = some (.map none) := by kernel_rfl
theorem hzDn : zD.size = 23 := by kernel_rfl
theorem hNew (w : World) : Ret Tryz.prog 25 #[] w fun v w' => v = .agg zD ∧ Ext none1 w w' := newKC isN hz hzn hkT hone hDef w
theorem mrk : MsgRm Tryz.prog cfgR 52 72 23 6 km true nlR := { rs7 := rfl, sec := sec, tg := tyTg, uU := by kernel_rfl, setI := is_pkmsg_Tags_Set, tyR := by kernel_rfl, need := needR, tyK := by kernel_rfl, needK := needKR, lay := by kernel_rfl, ton := by decide, lo1 := by decide, f0 := by kernel_rfl, ft := by kernel_rfl, nl := of_decide_eq_true (by kernel_rfl) }
def src_OffsetCommitValue : List FSrc := [⟨[(0, 4), (2, (-1)), (3, (-1)), (4, (-1))], none⟩, ⟨[(0, 3), (1, 3), (2, (-1)), (3, (-1)), (4, (-1))], none⟩, ⟨[(0, 8), (2, (-1)), (3, (-1)), (4, (-1))], none⟩, ⟨[(0, 4), (2, (-1)), (3, (-1)), (4, (-1))], none⟩, ⟨[(0, 4), (1, 1), (2, 1), (3, (-1)), (4, (-1))], none⟩, ⟨[(0, 7), (2, (-1)), (3, (-1)), (4, 0)], none⟩]
theorem isc_OffsetCommitValue : FnIs Tryz.prog 9 9 [.c 0 env.t_spec_Message] (irMsg env src_OffsetCommitValue 4) := FnIs.of mixed Tryz.func9 (by kernel_rfl) (by kernel_rfl) (by kernel_rfl) (by kernel_rfl)
theorem msg_OffsetCommitValue : MsgC Tryz.prog 9 (mkFS src_OffsetCommitValue) 4 := msg_of tyK isc_OffsetCommitValue (by kernel_rfl) ⟨(fun g F h => by cases h), ⟨(fun g F h => by cases h), ⟨(fun g F h => by cases h), ⟨(fun g F h => by cases h), ⟨(fun g F h => by cases h), ⟨(fun g F h => by cases h), trivial⟩⟩⟩⟩⟩⟩
theorem hflex : ((List.range 5).all fun v => flexAt 4 v == flagAt cfg 4 v) = true := by kernel_rfl
theorem hfit : fitM 4 (fun v => flagAt cfg 4 v) (mkFS src_OffsetCommitValue) km = true := by kernel_rfl
theorem hpos : ((List.range 5).all fun v => km.S.posE v ((fun v : Nat => flagAt cfg 4 v) v) && km.ks.all fun f => decide (f.num < 4294967296) && f.c.posE v) = true := by kernel_rfl
theorem aglk {tv : TypeId} {vv : Value} : AgLMK Tryz.prog env 9 8 10 4 km (flagAt cfg 4) (.iface tv vv) (mkFS src_OffsetCommitValue) 4 where
  again hs hlen herr hv0 hdup hgood := againMK (C := cfgR) (T := 52) (flex := 4) (K := km) (Sd := schD) (z := z) (zD := zD) (by decide) isA isF (by decide) mrk (primR_i16 r_Int16) hDef (by decide) isR hNew hz hzn hzDn hkT hone hid hchk hks hnil
    (fun hcs hver hrep hok hb ho hbase hsz => appendToM (M := km.kw) mok (by decide) isW hcs hver hrep hok hb ho hbase hsz) tBs ⟨_, Tryz.underlying55⟩ ⟨_, _, rfl⟩ hs hlen herr hv0 hdup hgood
  kept w fv cs t v hF hT hsz := c_Kept tyK spF (by decide) isK (FS.ok_of (by kernel_rfl)) (of_decide_eq_true (by kernel_rfl)) w fv cs t v hF hT hsz
  msg := msg_OffsetCommitValue
  flex v hv := by simpa using List.all_eq_true.1 hflex v (by simp; omega)
  fit := hfit
  wt := of_decide_eq_true (by kernel_rfl)
  hM := by decide
  pos := km_ok (M := 4) (flx := fun v : Nat => flagAt cfg 4 v) hpos (by decide) (by decide)
theorem tyTr : TyTr Tryz.prog env 2 := { tr := ⟨_, _, _, _, _, Tryz.underlying26, ⟨rfl, rfl⟩, ⟨rfl, rfl⟩, ⟨rfl, rfl⟩, ⟨rfl, rfl⟩, ⟨rfl, rfl⟩⟩, tg := ⟨_, _, Tryz.underlying70, ⟨rfl, rfl⟩, ⟨rfl, rfl⟩⟩, i64 := by kernel_rfl, u32 := by kernel_rfl, u8 := by kernel_rfl, bool := by kernel_rfl, bs := by kernel_rfl, lt := by kernel_rfl, lu := by kernel_rfl, c1 := ⟨by kernel_rfl, by kernel_rfl, by kernel_rfl, by kernel_rfl, by kernel_rfl, by kernel_rfl, by kernel_rfl⟩, cT := by kernel_rfl, cU := by kernel_rfl }
theorem bulkPos {H : Type} (d : DataW H) : 1 ≤ Rows.uptoBulk d := by
  cases d with
  | lit l => cases l <;> simp [Rows.uptoBulk]
  | nil => simp [Rows.uptoBulk]
  | ptr d => simp [Rows.uptoBulk]
  | slice elems spare => simp [Rows.uptoBulk]
  | agg parts => simp [Rows.uptoBulk]
  | iface t d => simp [Rows.uptoBulk]
  | map entries => simp [Rows.uptoBulk]
  | held h => simp [Rows.uptoBulk]
theorem bulkL {H : Type} : BulkL (H := H) Rows.uptoBulk Rows.uptoBulkAll := { slice := fun _ _ => by simp only [Rows.uptoBulk], agg := fun _ => by simp only [Rows.uptoBulk], nil := by simp only [Rows.uptoBulkAll], cons := fun _ _ => by simp only [Rows.uptoBulkAll], pos := bulkPos }
theorem fits (w : World) (cs : List Value) (t : Tr) (h : TreeAt w cs t) : Ret Tryz.prog env.f_laws_zzFits2 #[.agg cs.toArray] w (SomeB w) := c_zzFits2 tyK.toTyF is_laws_zzFits2 (fun w uv u h => c_zzFits3 tyK.toTyF is_laws_zzFits3 (fun w k bv x h1 h2 => c_zzFits4 tyK.toTyF is_laws_zzFits4 w k bv x h1 h2) (by kernel_rfl) w uv u h) w cs t h
theorem isL : FnIs Tryz.prog 3 28 [.t 4] (irFnAgainK env 9 8 10 33 5) := FnIs.of mixed Tryz.func3 (by kernel_rfl) (by kernel_rfl) (by kernel_rfl) (by kernel_rfl)
theorem own : ownKnob Tryz.prog.godebug = none := by kernel_rfl
theorem laidOut : laidOutB Tryz.prog = true := by kernel_rfl
theorem gType : (Tryz.prog.globals[1]?).map (·.type) = some 55 := by kernel_rfl
theorem err_of_laid {W : World} (h : laidMetH Tryz.prog Rows.fnAgainOffsetCommitValueUptoRow.laid W) : ∃ tv vv, W.cell? ⟨1, 0, none⟩ = some (.iface tv vv) := by
  have h' : laidMet Tryz.prog Rows.fnAgainOffsetCommitValueUptoRow.laid W := h
  obtain ⟨a1, s1, hv1, _, _, _⟩ := laid_sentinel h' (by kernel_rfl) gType Tryz.underlying55 rowE Tryz.underlying194 Tryz.underlying211 rfl rfl Tryz.underlying9 (by kernel_rfl) (by kernel_rfl)
  exact ⟨194, .pointer (some a1), by simpa using World.var?_cell (by kernel_rfl) hv1 0⟩
noncomputable def low : Nat := (World.holding Tryz.prog default ⟨#[], #[], []⟩).heap.size
noncomputable def laidWorld (os : Os) : World :=
  let w0 := World.holding Tryz.prog os ⟨#[.cells #[.string { data := #[114, 101, 115, 112, 111, 110, 115, 101, 32, 100, 105, 100, 32, 110, 111, 116, 32, 99, 111, 110, 116, 97, 105, 110, 32, 101, 110, 111, 117, 103, 104, 32, 100, 97, 116, 97, 32, 116, 111, 32, 98, 101, 32, 118, 97, 108, 105, 100] }] 211], #[], []⟩
  { w0 with heap := w0.heap.modify 1 fun
      | .cells _ t frozen => .cells #[.iface 194 (.pointer (some ⟨low, 0, none⟩))] t frozen
      | o => o }
theorem laidWorld_met (os : Os) (args : Array Value) : laidMetH Tryz.prog Rows.fnAgainOffsetCommitValueUptoRow.laid ((laidWorld os).forCall (fun _ _ => 0) ⟨#[], args, []⟩).memory :=
  laidMet_of_run (ps := [.cell 1 0, .cell low 0]) 8 (by kernel_rfl) (by kernel_rfl) (by kernel_rfl)
theorem walk {tv : TypeId} {vv : Value} (n : Nat) (hn : n < 256) {w : World} {cs : List Value} {t : Tr} (hT : TreeAt w cs t) (hz : t.sz ≤ 1048576) (herr : w.cell? ⟨1, 0, none⟩ = some (.iface tv vv)) : Ret Tryz.prog 3 #[.int .u8 n, .agg cs.toArray] w fun u w' => u = .bool true ∧ Ext none1 w w' :=
  c_FnAgainMK tyK spF fits aglk (by decide) isL n hn hT hz herr
theorem reads (os : Os) {H : Type} (enc : TypeId × Value → H) : ∃ places, DataW.whole enc Tryz.prog ((laidWorld os).forCall (fun _ _ => 0) ⟨#[], #[.int .u8 0, .agg #[.int .i64 0, .slice none 0 0, .bool false, .slice none 0 0, .slice none 0 0]], []⟩).memory Tryz.f3.params.toList Rows.fnAgainOffsetCommitValueSpec.vars false (#[.int .u8 0, .agg #[.int .i64 0, .slice none 0 0, .bool false, .slice none 0 0, .slice none 0 0]] : Array Value).toList 8 = some ([.lit (.int .u8 0), .agg [.lit (.int .i64 0), .nil, .lit (.bool false), .nil, .nil]], [], places) := ⟨[], by kernel_rfl⟩

theorem contract (H : Type) (enc : TypeId × Value → H) (W : World) (base : Nat) (args : Array Value) (ds gs : List (DataW H)) (before : List MemPlace)
    (hval0 : ∀ (j : Nat) t v, Tryz.f3.params[j]? = some t → args[j]? = some v → Value.okWide Tryz.prog W .any base t v)
    (hW : DataW.Whole enc Tryz.prog Tryz.f3.params.toList Rows.fnAgainOffsetCommitValueSpec.vars false W args.toList ds gs before) (hbulk : Rows.uptoBulkAll (ds ++ gs) ≤ 1048576) (hL : laidMetH Tryz.prog Rows.fnAgainOffsetCommitValueUptoRow.laid W) :
    Calls Tryz.prog 3 args W fun e W' => ∃ v, e = .returned v ∧ Rows.fnAgainOffsetCommitValueSpec.post enc Tryz.prog Tryz.f3 false true false false W args v W' := by
  have hval : ∀ (j : Nat) t v, Tryz.f3.params[j]? = some t → args[j]? = some v → Value.okWide Tryz.prog W .any base t v := hval0
  have hW' := hW
  have hlt0 := hW'.lt
  obtain ⟨p, q, hA0, hV, rfl, hfz, hnd⟩ := hW
  have hA : DataW.TrodAll enc Tryz.prog W 0 (fun _ => true) true Tryz.f3.params.toList args.toList ds p := hA0
  rw [Tryz.params3] at hA hval
  obtain ⟨v0, vs0, d0, ds0, p0, q0, hargs, rfl, rfl, h0, r0⟩ := trodAll_cons hA
  obtain ⟨v1, vs1, d1, ds1, p1, q1, hargs1, rfl, rfl, h1, r1⟩ := trodAll_cons r0
  obtain ⟨rfl, rfl, rfl⟩ := trodAll_nil r1
  obtain rfl : args = #[v0, v1] := by rw [← Array.toArray_toList (xs := args), hargs, hargs1]
  obtain ⟨rfl, rfl⟩ := trodVars_none hV
  obtain ⟨a0, rfl, rfl, rfl, w0⟩ := open_int Tryz.underlying5 (hval 0 5 v0 rfl rfl) h0
  obtain ⟨cs, rfl⟩ := agg_of_ok Tryz.underlying26 (hval 1 26 v1 rfl rfl)
  have hbk : Rows.uptoBulk d1 ≤ 1048576 := by
    simp only [List.append_nil, List.cons_append, List.nil_append, Rows.uptoBulkAll] at hbulk
    omega
  obtain ⟨t, hT, hz⟩ := open_arg tyTr bulkL h1 hbk
  obtain ⟨tv, vv, herr⟩ := err_of_laid hL
  clear hA0 hval0
  simp only [List.append_nil, List.nil_append] at hW' hlt0
  have hx : 0 ≤ a0 ∧ a0 ≤ 255 := by simpa [Lit.wf, IntKind.min, IntKind.max, IntKind.signed, IntKind.bits] using w0
  obtain ⟨n, rfl⟩ : ∃ n : Nat, a0 = (n : Int) := ⟨a0.toNat, by omega⟩
  refine ((walk n (by omega) hT hz herr).2).mono fun e W' ⟨v, he, hv, hx'⟩ => ?_
  subst he; subst hv
  exact ⟨_, rfl, post_of_ext (pa := [] ++ (p1 ++ [])) (pv := []) hW' (fun _ _ _ => (trodAll_cons_mk (shut_bool Tryz.underlying4 _) trodAll_mk0)) (fun sp hsp => (trodAll_cons_mk (shut_int Tryz.underlying5 w0) (trodAll_cons_mk (ext_trod laidOut (by kernel_rfl) (of_decide_eq_true (by kernel_rfl)) h1 hx' (fun x hx => hlt0 x (by simpa using hx)) (fun x hx => hsp x (by simpa using hx))) (trodAll_mk0)))) (fun _ _ => rfl) (by simp)
    hx' (ok_one (by kernel_rfl) rfl (okWide_bool_mk Tryz.underlying4 _))⟩

set_option maxRecDepth 100000 in
theorem lifted (os : Os) (started : os.Started) (H : Type) (enc : TypeId × Value → H) (F : Stop.Interp) :
    ReturnsInHanded {} Tryz.checked os 3 .any ((Rows.OpenSpec.upto Rows.fnAgainOffsetCommitValueSpec).preRow enc Tryz.prog Tryz.f3 Rows.fnAgainOffsetCommitValueUptoRow.domain false Rows.fnAgainOffsetCommitValueUptoRow.laid) (((Rows.OpenSpec.upto Rows.fnAgainOffsetCommitValueSpec).at F).post enc Tryz.prog Tryz.f3 false true false false) := by
  obtain ⟨places, hx⟩ := reads os enc
  refine returnsInHanded_of_row (C := Tryz.checked) (s := Rows.OpenSpec.upto Rows.fnAgainOffsetCommitValueSpec) own started (by kernel_rfl) Tryz.func3
    (witness_row_at (enc := enc) (C := Tryz.checked) false (laidWorld os) #[.int .u8 0, .agg #[.int .i64 0, .slice none 0 0, .bool false, .slice none 0 0, .slice none 0 0]] rfl (by kernel_rfl) (by kernel_rfl) (by kernel_rfl)
      (OpenSpec.preRow_of_cond 8 hx (by kernel_rfl) (fun k hk => by cases hk; kernel_rfl) (by kernel_rfl) (laidWorld_met os _))) ?_
  intro W base args ds gs before hval hW _ hcond _ hL _ _
  exact contract H enc W base args ds gs before hval hW (of_decide_eq_true (hcond _ rfl)) hL

theorem row : Rows.FnAgainOffsetCommitValueUptoSaid :=
  OpenClaim.holds_of_cond 3 Tryz.f3 rfl rfl rfl rfl rfl rfl rfl ⟨rfl, rfl, rfl, rfl, rfl⟩ rfl rfl rfl rfl rfl (by kernel_rfl) Tryz.func3 (by kernel_rfl)
    (of_decide_eq_true (by kernel_rfl)) (by unfold Func.isWrapper; first | (rw [if_pos (by decide +kernel)]; kernel_rfl) | (rw [if_neg (by decide +kernel)]; exact ⟨rfl, rfl⟩))
    (fun os started H enc _ F => by rw [OpenClaim.pre_eq_preRow]; exact lifted os started H enc F)

theorem proved : Rows.FnAgainOffsetCommitValueUptoCardSaid :=
  Claim7.holds_tied_plain_at .later [] [.sentinel] true (true, "a3750599caa4c96890164a8f1d81e5617f30edd1b304e6df1bbcae174018661c") false
    row (fun _ h => by cases h) (by kernel_rfl) (fun _ h => by cases h) fnAgainOffsetCommitValueUpto_row_tie rfl ⟨rfl, rfl⟩ (by kernel_rfl) rfl
    (fun f fn hf hfn => by
      obtain rfl : f = 3 := Option.some.inj ((show Tryz.prog.funcNamed "pub-kmsg/laws.FnAgainOffsetCommitValue" = some 3 by kernel_rfl).symm.trans hf) |>.symm
      obtain rfl : fn = Tryz.f3 := (Option.some.inj (Tryz.func3.symm.trans hfn)).symm
      exact ⟨by kernel_rfl, fun j t ht => by
        rw [Tryz.params3] at ht
        have hm : t ∈ [5, 26] := by simpa using Array.mem_of_getElem? ht
        have hall : ([5, 26].all fun u => !Tryz.prog.wantsStandIn u) = true := by kernel_rfl
        exact (show Tryz.prog.wantsStandIn t = false by simpa using List.all_eq_true.1 hall t hm)⟩)
    (by kernel_rfl)
end againOffsetCommitValue
end Go.Proofs.YtglpicecddfcnaaGreatDoor
