/- A ConsumerMemberAssignment that ends anywhere ahead of its end is an error. -/
import Derived.Test.YtgajindbafacgaaDoorKgF
import Derived.Test.YtgajindbafacgaaDoorRows
import Derived.Test.YtgajindbafacgaaDoorTie
import Derived.Test.YtgajindbafacgaaDoorCards
import Derived.ProofKit
import Derived.OpenShut
import Derived.Stop.LaidErr
import Derived.Handed
import Derived.JoinedOf
import Derived.SevenTiedAt
import Derived.Deep.DeepHandedRow
import Derived.Lib.LaidTab
set_option linter.unusedVariables false
set_option linter.unusedSectionVars false
set_option linter.unusedSimpArgs false
set_option maxRecDepth 100000
namespace Go.Proofs.YtgajindbafacgaaDoor
namespace cutConsumerMemberAssignment
open Go Go.Kg kg Go.ChangeShapes Go.WideShapes Go.ChangeAt Go.RowKit
def cfg : Cfg := ⟨env, false, 5, 6⟩
def cfgR : CfgR := ⟨⟨env, false, 5, 6⟩, 7, 71, 70, 85, 83⟩
def sch : Sch := .arrS ⟨none, none⟩ 1 1 62 none 110 108 2 100 (.prim ⟨none, none⟩ 0 0 .str 0 0 (.arrP ⟨none, none⟩ 1 1 82 none .i32 (.fin))) (.prim ⟨none, none⟩ 2 2 .nbytes 0 0 (.fin))
def nl : Nat := ((schK sch).genW cfg 64 107 0 ⟨6, 0, 0⟩).2.l
def nlR : Nat := (sch.genR cfgR 64 107 0 (ctR cfgR true 0)).2.l
theorem isW : FnIs Tryd.prog 38 80 [.t 4] (msgW cfg 64 107 0 (schK sch) nl) := FnIs.of mixed Tryd.func38 (by kernel_rfl) (by kernel_rfl) (by kernel_rfl) (by kernel_rfl)
theorem isD : FnIs Tryd.prog 62 2 [] (sch.genDf cfg 64 107) := FnIs.of mixed Tryd.func62 (by kernel_rfl) (by kernel_rfl) (by kernel_rfl) (by kernel_rfl)
theorem isN : FnIs Tryd.prog 36 4 [.c 0 64] (irNewK cfg 64 62) := FnIs.of mixed Tryd.func36 (by kernel_rfl) (by kernel_rfl) (by kernel_rfl) (by kernel_rfl)
theorem isK : FnIs Tryd.prog 14 14 [.t 6] (irKept env) := FnIs.of mixed Tryd.func14 (by kernel_rfl) (by kernel_rfl) (by kernel_rfl) (by kernel_rfl)
theorem isA : FnIs Tryd.prog 18 11 [.t 2, .t 3] (irAgainK cfg 64 36 37 38) := FnIs.of mixed Tryd.func18 (by kernel_rfl) (by kernel_rfl) (by kernel_rfl) (by kernel_rfl)
theorem isF : FnIs Tryd.prog 37 8 [.t 4] (irRF cfg 107 63) := FnIs.of mixed Tryd.func37 (by kernel_rfl) (by kernel_rfl) (by kernel_rfl) (by kernel_rfl)
theorem isR : FnIs Tryd.prog 63 113 [.t 6] (msgR cfgR 64 107 0 62 true sch nlR) := FnIs.of mixed Tryd.func63 (by kernel_rfl) (by kernel_rfl) (by kernel_rfl) (by kernel_rfl)
theorem need : (schK sch).NeedW Tryd.prog cfg tagsOk := ⟨primW_i16 w_i16, ⟨lenWC_none w_len (fun h => by cases h), ⟨primW_str w_str (fun h => by cases h), ⟨primW_i32 w_i32, lenWC_none w_len (fun h => by cases h), trivial⟩⟩, ⟨primW_nbytes w_nbytes (fun h => by cases h), trivial⟩⟩⟩
theorem mok : MsgOk Tryd.prog cfg tagsOk 64 107 0 (schK sch) nl := ⟨tyC2 false, ⟨rfl, rfl⟩, by kernel_rfl, by kernel_rfl, need, of_decide_eq_true (by kernel_rfl)⟩
theorem endc : EndC Tryd.prog cfgR := endC_of tyRs (by kernel_rfl) is_pkbin_Reader_Ok is_pkbin_Reader_Complete
theorem isD_0 : FnIs Tryd.prog 100 2 [] (Sch.genDf cfg 110 108 (.prim ⟨none, none⟩ 0 0 .str 0 0 (.arrP ⟨none, none⟩ 1 1 82 none .i32 (.fin)))) := FnIs.of mixed Tryd.func100 (by kernel_rfl) (by kernel_rfl) (by kernel_rfl) (by kernel_rfl)
theorem dfr_0 : DefRC Tryd.prog cfg 2 100 (.prim ⟨none, none⟩ 0 0 .str 0 0 (.arrP ⟨none, none⟩ 1 1 82 none .i32 (.fin))) := fun w b a c et hb hn => defaultCI (by decide) isD_0 (by kernel_rfl) hb hn
theorem needR : sch.NeedR Tryd.prog cfgR := ⟨lenRC_of r_Len (fun h => by cases h), endc, dfr_0, ⟨primR_str r_String (fun h => by cases h), ⟨primR_i32 r_Int32, lenRC_of r_Len (fun h => by cases h), endc, trivial⟩⟩, ⟨primR_nbytes r_NBytes (fun h => by cases h), trivial⟩⟩
noncomputable def z : Array Value := match zeroOf Tryd.prog 64 with | some (.agg z) => z | _ => #[]
theorem hz : zeroOf Tryd.prog 64 = some (.agg z) := by kernel_rfl
theorem hzn : z.size = 3 := by kernel_rfl
noncomputable def zD : Array Value := setD 0 (sch.dst cfg) z
theorem hDef : DefRC Tryd.prog cfg 3 62 sch := fun w b a c et hb hn => defaultCI (by decide) isD (by kernel_rfl) hb hn
theorem mrk : MsgRkv Tryd.prog cfgR 64 107 0 62 3 sch nlR := ⟨rfl, ⟨⟨by kernel_rfl, by kernel_rfl, by kernel_rfl, uuF, fun _ => trivial⟩, uuF, by kernel_rfl, by kernel_rfl⟩, tyRb, by kernel_rfl, needR, endc, primR_i16 r_Int16, hDef, by kernel_rfl, of_decide_eq_true (by kernel_rfl), by decide⟩
theorem hkT : kindOf Tryd.prog 64 = .agg 3 := by kernel_rfl
theorem hone : allOne zD.toList = true := by kernel_rfl
theorem hid : setD 0 (sch.dst cfg) zD = zD := by kernel_rfl
theorem hchk : sch.chkD zD.toList = true := by kernel_rfl
theorem hzDn : zD.size = 3 := by kernel_rfl
theorem hNew (w : World) : Ret Tryd.prog 36 #[] w fun v w' => v = .agg zD ∧ Ext none1 w w' := newKC isN hz hzn hkT hone hDef w
def src_sConsumerMemberAssignmentTopic : List FSrc := [⟨[(0, 8), (2, (-1)), (3, (-1)), (4, (-1))], none⟩, ⟨[(0, 11), (2, (-1)), (3, (-1)), (4, (-1)), (6, 3)], none⟩]
theorem isc_sConsumerMemberAssignmentTopic : FnIs Tryd.prog 35 4 [.t 0] (irSub env src_sConsumerMemberAssignmentTopic) := FnIs.of mixed Tryd.func35 (by kernel_rfl) (by kernel_rfl) (by kernel_rfl) (by kernel_rfl)
theorem sub_sConsumerMemberAssignmentTopic : SubC Tryd.prog 35 (mkFS src_sConsumerMemberAssignmentTopic) := sub_of tyK isc_sConsumerMemberAssignmentTopic (by kernel_rfl) ⟨(fun g F h => by cases h), ⟨(fun g F h => by cases h), trivial⟩⟩
def src_ConsumerMemberAssignment : List FSrc := [⟨[(0, 11), (2, (-1)), (3, (-1)), (4, (-1)), (6, 10)], some (35, mkFS src_sConsumerMemberAssignmentTopic)⟩, ⟨[(0, 9), (2, (-1)), (3, (-1)), (4, (-1))], none⟩]
theorem isc_ConsumerMemberAssignment : FnIs Tryd.prog 17 6 [.c 0 env.t_spec_Message] (irMsg env src_ConsumerMemberAssignment (-1)) := FnIs.of mixed Tryd.func17 (by kernel_rfl) (by kernel_rfl) (by kernel_rfl) (by kernel_rfl)
theorem msg_ConsumerMemberAssignment : MsgC Tryd.prog 17 (mkFS src_ConsumerMemberAssignment) (-1) := msg_of tyK isc_ConsumerMemberAssignment (by kernel_rfl) ⟨(fun g F h => by cases h; exact sub_sConsumerMemberAssignmentTopic), ⟨(fun g F h => by cases h), trivial⟩⟩
theorem hflex : ((List.range 3).all fun v => flexAt (-1) v == flagAt cfg 0 v) = true := by kernel_rfl
theorem hfit : fitS 2 (fun v => flagAt cfg 0 v) (mkFS src_ConsumerMemberAssignment) sch = true := by kernel_rfl
theorem hpos : ((List.range 3).all fun v => sch.posE v (flagAt cfg 0 v)) = true := by kernel_rfl
theorem aglk {tv : TypeId} {vv : Value} : AgLK Tryd.prog env 17 14 18 2 sch (flagAt cfg 0) false (.iface tv vv) (mkFS src_ConsumerMemberAssignment) (-1) where
  again hs hlen herr hv0 hgood := againKC (C := cfgR) (T := 64) (flex := 0) (S := sch) (z := z) (zD := zD) (by decide) isA isF (by decide) mrk (by decide) isR hNew hz hzn hzDn hkT hone hid hchk
    (fun hcs hver hrep hok hb ho hbase hsz => appendTo mok (by decide) isW hcs hver hrep hok hb ho hbase hsz) tBs ⟨_, Tryd.underlying49⟩ ⟨_, _, rfl⟩ hs hlen herr hv0 hgood
  kept w fv cs t v hF hT hsz := c_Kept tyK spF (by decide) isK (FS.ok_of (by kernel_rfl)) (of_decide_eq_true (by kernel_rfl)) w fv cs t v hF hT hsz
  msg := msg_ConsumerMemberAssignment
  flex v hv := by simpa using List.all_eq_true.1 hflex v (by simp; omega)
  fit := hfit
  hM := by decide
  pos v hv := List.all_eq_true.1 hpos v (by simp; omega)
theorem tyTr : TyTr Tryd.prog env 2 := { tr := ⟨_, _, _, _, _, Tryd.underlying38, ⟨rfl, rfl⟩, ⟨rfl, rfl⟩, ⟨rfl, rfl⟩, ⟨rfl, rfl⟩, ⟨rfl, rfl⟩⟩, tg := ⟨_, _, Tryd.underlying105, ⟨rfl, rfl⟩, ⟨rfl, rfl⟩⟩, i64 := by kernel_rfl, u32 := by kernel_rfl, u8 := by kernel_rfl, bool := by kernel_rfl, bs := by kernel_rfl, lt := by kernel_rfl, lu := by kernel_rfl, c1 := ⟨by kernel_rfl, by kernel_rfl, by kernel_rfl, by kernel_rfl, by kernel_rfl, by kernel_rfl, by kernel_rfl⟩, cT := by kernel_rfl, cU := by kernel_rfl }
theorem bulkPos {H : Type} (d : DataW H) : 1 ≤ Rows.uptoBulk d := by
  cases d with
  | lit l => cases l <;> simp [Rows.uptoBulk]
  | nil => simp [Rows.uptoBulk]
  | ptr d => simp [Rows.uptoBulk]
  | slice elems spare => simp [Rows.uptoBulk]
  | agg parts => simp [Rows.uptoBulk]
  | iface t d => simp [Rows.uptoBulk]
  | map entries => simp [Rows.uptoBulk]
  | held h => simp [Rows.uptoBulk]
theorem bulkL {H : Type} : BulkL (H := H) Rows.uptoBulk Rows.uptoBulkAll := { slice := fun _ _ => by simp only [Rows.uptoBulk], agg := fun _ => by simp only [Rows.uptoBulk], nil := by simp only [Rows.uptoBulkAll], cons := fun _ _ => by simp only [Rows.uptoBulkAll], pos := bulkPos }
theorem fits (w : World) (cs : List Value) (t : Tr) (h : TreeAt w cs t) : Ret Tryd.prog env.f_laws_zzFits2 #[.agg cs.toArray] w (SomeB w) := c_zzFits2 tyK.toTyF is_laws_zzFits2 (fun w uv u h => c_zzFits3 tyK.toTyF is_laws_zzFits3 (fun w k bv x h1 h2 => c_zzFits4 tyK.toTyF is_laws_zzFits4 w k bv x h1 h2) (by kernel_rfl) w uv u h) w cs t h
theorem isL : FnIs Tryd.prog 6 42 [.t 6] (irFnCutK env 17 14 18 24 3) := FnIs.of mixed Tryd.func6 (by kernel_rfl) (by kernel_rfl) (by kernel_rfl) (by kernel_rfl)
theorem own : ownKnob Tryd.prog.godebug = none := by kernel_rfl
theorem laidOut : laidOutB Tryd.prog = true := by kernel_rfl
theorem gType : (Tryd.prog.globals[0]?).map (·.type) = some 49 := by kernel_rfl
theorem err_of_laid {W : World} (h : laidMetH Tryd.prog Rows.fnCutConsumerMemberAssignmentUptoRow.laid W) : ∃ tv vv, W.cell? ⟨0, 0, none⟩ = some (.iface tv vv) := by
  have h' : laidMet Tryd.prog Rows.fnCutConsumerMemberAssignmentUptoRow.laid W := h
  obtain ⟨a1, s1, hv1, _, _, _⟩ := laid_sentinel h' (by kernel_rfl) gType Tryd.underlying49 rowE Tryd.underlying189 Tryd.underlying207 rfl rfl Tryd.underlying9 (by kernel_rfl) (by kernel_rfl)
  exact ⟨189, .pointer (some a1), by simpa using World.var?_cell (by kernel_rfl) hv1 0⟩
noncomputable def low : Nat := (World.holding Tryd.prog default ⟨#[], #[], []⟩).heap.size
noncomputable def laidWorld (os : Os) : World :=
  let w0 := World.holding Tryd.prog os ⟨#[.cells #[.string { data := #[114, 101, 115, 112, 111, 110, 115, 101, 32, 100, 105, 100, 32, 110, 111, 116, 32, 99, 111, 110, 116, 97, 105, 110, 32, 101, 110, 111, 117, 103, 104, 32, 100, 97, 116, 97, 32, 116, 111, 32, 98, 101, 32, 118, 97, 108, 105, 100] }] 207], #[], []⟩
  { w0 with heap := w0.heap.modify 0 fun
      | .cells _ t frozen => .cells #[.iface 189 (.pointer (some ⟨low, 0, none⟩))] t frozen
      | o => o }
theorem laidWorld_met (os : Os) (args : Array Value) : laidMetH Tryd.prog Rows.fnCutConsumerMemberAssignmentUptoRow.laid ((laidWorld os).forCall (fun _ _ => 0) ⟨#[], args, []⟩).memory :=
  laidMet_of_run (ps := [.cell 0 0, .cell low 0]) 8 (by kernel_rfl) (by kernel_rfl) (by kernel_rfl)
theorem walk {tv : TypeId} {vv : Value} (n : Nat) (hn : n < 256) (at_ : Nat) (hat : at_ < 65536) {w : World} {cs : List Value} {t : Tr} (hT : TreeAt w cs t) (hz : t.sz ≤ 1048576) (herr : w.cell? ⟨0, 0, none⟩ = some (.iface tv vv)) : Ret Tryd.prog 6 #[.int .u8 n, .agg cs.toArray, .int .u16 at_] w fun u w' => u = .bool true ∧ Ext none1 w w' :=
  c_FnCutK tyK spF fits (by kernel_rfl) aglk (by decide) (by decide) isL n hn at_ hat rfl hT (fun v hv => by rw [show flexAt (-1) (v : Int) = flagAt cfg 0 v from by simpa using List.all_eq_true.1 hflex v (by simp; omega)]; exact part_le2 (flx := fun v => flagAt cfg 0 v) hv hfit hT.ok (of_decide_eq_true (by kernel_rfl)) hz) herr
theorem reads (os : Os) {H : Type} (enc : TypeId × Value → H) : ∃ places, DataW.whole enc Tryd.prog ((laidWorld os).forCall (fun _ _ => 0) ⟨#[], #[.int .u8 0, .agg #[.int .i64 0, .slice none 0 0, .bool false, .slice none 0 0, .slice none 0 0], .int .u16 0], []⟩).memory Tryd.f6.params.toList Rows.fnCutConsumerMemberAssignmentSpec.vars false (#[.int .u8 0, .agg #[.int .i64 0, .slice none 0 0, .bool false, .slice none 0 0, .slice none 0 0], .int .u16 0] : Array Value).toList 8 = some ([.lit (.int .u8 0), .agg [.lit (.int .i64 0), .nil, .lit (.bool false), .nil, .nil], .lit (.int .u16 0)], [], places) := ⟨[], by kernel_rfl⟩

theorem contract (H : Type) (enc : TypeId × Value → H) (W : World) (base : Nat) (args : Array Value) (ds gs : List (DataW H)) (before : List MemPlace)
    (hval0 : ∀ (j : Nat) t v, Tryd.f6.params[j]? = some t → args[j]? = some v → Value.okWide Tryd.prog W .any base t v)
    (hW : DataW.Whole enc Tryd.prog Tryd.f6.params.toList Rows.fnCutConsumerMemberAssignmentSpec.vars false W args.toList ds gs before) (hbulk : Rows.uptoBulkAll (ds ++ gs) ≤ 1048576) (hL : laidMetH Tryd.prog Rows.fnCutConsumerMemberAssignmentUptoRow.laid W) :
    Calls Tryd.prog 6 args W fun e W' => ∃ v, e = .returned v ∧ Rows.fnCutConsumerMemberAssignmentSpec.post enc Tryd.prog Tryd.f6 false true false false W args v W' := by
  have hval : ∀ (j : Nat) t v, Tryd.f6.params[j]? = some t → args[j]? = some v → Value.okWide Tryd.prog W .any base t v := hval0
  have hW' := hW
  have hlt0 := hW'.lt
  obtain ⟨p, q, hA0, hV, rfl, hfz, hnd⟩ := hW
  have hA : DataW.TrodAll enc Tryd.prog W 0 (fun _ => true) true Tryd.f6.params.toList args.toList ds p := hA0
  rw [Tryd.params6] at hA hval
  obtain ⟨v0, vs0, d0, ds0, p0, q0, hargs, rfl, rfl, h0, r0⟩ := trodAll_cons hA
  obtain ⟨v1, vs1, d1, ds1, p1, q1, hargs1, rfl, rfl, h1, r1⟩ := trodAll_cons r0
  obtain ⟨v2, vs2, d2, ds2, p2, q2, hargs2, rfl, rfl, h2, r2⟩ := trodAll_cons r1
  obtain ⟨rfl, rfl, rfl⟩ := trodAll_nil r2
  obtain rfl : args = #[v0, v1, v2] := by rw [← Array.toArray_toList (xs := args), hargs, hargs1, hargs2]
  obtain ⟨rfl, rfl⟩ := trodVars_none hV
  obtain ⟨a0, rfl, rfl, rfl, w0⟩ := open_int Tryd.underlying5 (hval 0 5 v0 rfl rfl) h0
  obtain ⟨a2, rfl, rfl, rfl, w2⟩ := open_int Tryd.underlying40 (hval 2 40 v2 rfl rfl) h2
  have hx2 : 0 ≤ a2 ∧ a2 ≤ 65535 := by simpa [Lit.wf, IntKind.min, IntKind.max, IntKind.signed, IntKind.bits] using w2
  obtain ⟨at_, rfl⟩ : ∃ at_ : Nat, a2 = (at_ : Int) := ⟨a2.toNat, by omega⟩
  obtain ⟨cs, rfl⟩ := agg_of_ok Tryd.underlying38 (hval 1 38 v1 rfl rfl)
  have hbk : Rows.uptoBulk d1 ≤ 1048576 := by
    simp only [List.append_nil, List.cons_append, List.nil_append, Rows.uptoBulkAll] at hbulk
    omega
  obtain ⟨t, hT, hz⟩ := open_arg tyTr bulkL h1 hbk
  obtain ⟨tv, vv, herr⟩ := err_of_laid hL
  clear hA0 hval0
  simp only [List.append_nil, List.nil_append] at hW' hlt0
  have hx : 0 ≤ a0 ∧ a0 ≤ 255 := by simpa [Lit.wf, IntKind.min, IntKind.max, IntKind.signed, IntKind.bits] using w0
  obtain ⟨n, rfl⟩ : ∃ n : Nat, a0 = (n : Int) := ⟨a0.toNat, by omega⟩
  refine ((walk n (by omega) at_ (by omega) hT hz herr).2).mono fun e W' ⟨v, he, hv, hx'⟩ => ?_
  subst he; subst hv
  exact ⟨_, rfl, post_of_ext (pa := [] ++ (p1 ++ ([] ++ []))) (pv := []) hW' (fun _ _ _ => (trodAll_cons_mk (shut_bool Tryd.underlying4 _) trodAll_mk0)) (fun sp hsp => (trodAll_cons_mk (shut_int Tryd.underlying5 w0) (trodAll_cons_mk (ext_trod laidOut (by kernel_rfl) (of_decide_eq_true (by kernel_rfl)) h1 hx' (fun x hx => hlt0 x (by simpa using hx)) (fun x hx => hsp x (by simpa using hx))) (trodAll_cons_mk (shut_int Tryd.underlying40 w2) trodAll_mk0)))) (fun _ _ => rfl) (by simp)
    hx' (ok_one (by kernel_rfl) rfl (okWide_bool_mk Tryd.underlying4 _))⟩

set_option maxRecDepth 100000 in
theorem lifted (os : Os) (started : os.Started) (H : Type) (enc : TypeId × Value → H) (F : Stop.Interp) :
    ReturnsInHanded {} Tryd.checked os 6 .any ((Rows.OpenSpec.upto Rows.fnCutConsumerMemberAssignmentSpec).preRow enc Tryd.prog Tryd.f6 Rows.fnCutConsumerMemberAssignmentUptoRow.domain false Rows.fnCutConsumerMemberAssignmentUptoRow.laid) (((Rows.OpenSpec.upto Rows.fnCutConsumerMemberAssignmentSpec).at F).post enc Tryd.prog Tryd.f6 false true false false) := by
  obtain ⟨places, hx⟩ := reads os enc
  refine returnsInHanded_of_row (C := Tryd.checked) (s := Rows.OpenSpec.upto Rows.fnCutConsumerMemberAssignmentSpec) own started (by kernel_rfl) Tryd.func6
    (witness_row_at (enc := enc) (C := Tryd.checked) false (laidWorld os) #[.int .u8 0, .agg #[.int .i64 0, .slice none 0 0, .bool false, .slice none 0 0, .slice none 0 0], .int .u16 0] rfl (by kernel_rfl) (by kernel_rfl) (by kernel_rfl)
      (OpenSpec.preRow_of_cond 8 hx (by kernel_rfl) (fun k hk => by cases hk; kernel_rfl) (by kernel_rfl) (laidWorld_met os _))) ?_
  intro W base args ds gs before hval hW _ hcond _ hL _ _
  exact contract H enc W base args ds gs before hval hW (of_decide_eq_true (hcond _ rfl)) hL

theorem row : Rows.FnCutConsumerMemberAssignmentUptoSaid :=
  OpenClaim.holds_of_cond 6 Tryd.f6 rfl rfl rfl rfl rfl rfl rfl ⟨rfl, rfl, rfl, rfl, rfl⟩ rfl rfl rfl rfl rfl (by kernel_rfl) Tryd.func6 (by kernel_rfl)
    (of_decide_eq_true (by kernel_rfl)) (by unfold Func.isWrapper; first | (rw [if_pos (by decide +kernel)]; kernel_rfl) | (rw [if_neg (by decide +kernel)]; exact ⟨rfl, rfl⟩))
    (fun os started H enc _ F => by rw [OpenClaim.pre_eq_preRow]; exact lifted os started H enc F)

theorem proved : Rows.FnCutConsumerMemberAssignmentUptoCardSaid :=
  Claim7.holds_tied_plain_at .later [] [.sentinel] true (true, "30e41f8dc7906e409c80e14d0de16f65b65cd272f4a9036c4495973a0fe31a05") false
    row (fun _ h => by cases h) (by kernel_rfl) (fun _ h => by cases h) fnCutConsumerMemberAssignmentUpto_row_tie rfl ⟨rfl, rfl⟩ (by kernel_rfl) rfl
    (fun f fn hf hfn => by
      obtain rfl : f = 6 := Option.some.inj ((show Tryd.prog.funcNamed "pub-kmsg/laws.FnCutConsumerMemberAssignment" = some 6 by kernel_rfl).symm.trans hf) |>.symm
      obtain rfl : fn = Tryd.f6 := (Option.some.inj (Tryd.func6.symm.trans hfn)).symm
      exact ⟨by kernel_rfl, fun j t ht => by
        rw [Tryd.params6] at ht
        have hm : t ∈ [5, 38, 40] := by simpa using Array.mem_of_getElem? ht
        have hall : ([5, 38, 40].all fun u => !Tryd.prog.wantsStandIn u) = true := by kernel_rfl
        exact (show Tryd.prog.wantsStandIn t = false by simpa using List.all_eq_true.1 hall t hm)⟩)
    (by kernel_rfl)
end cutConsumerMemberAssignment
end Go.Proofs.YtgajindbafacgaaDoor
