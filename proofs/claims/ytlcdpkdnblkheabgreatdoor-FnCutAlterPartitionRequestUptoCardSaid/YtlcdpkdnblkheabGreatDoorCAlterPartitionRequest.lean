/- A AlterPartitionRequest that ends anywhere ahead of its end is an error. -/
import Derived.Test.YtlcdpkdnblkheabGreatDoorKgF
import Derived.Test.YtlcdpkdnblkheabGreatDoorRows
import Derived.Test.YtlcdpkdnblkheabGreatDoorTie
import Derived.Test.YtlcdpkdnblkheabGreatDoorCards
import Derived.ProofKit
import Derived.OpenShut
import Derived.Stop.LaidErr
import Derived.Handed
import Derived.JoinedOf
import Derived.SevenTiedAt
import Derived.Deep.DeepHandedRow
import Derived.Lib.LaidTab
set_option linter.unusedVariables false
set_option linter.unusedSectionVars false
set_option linter.unusedSimpArgs false
set_option maxRecDepth 100000
namespace Go.Proofs.YtlcdpkdnblkheabGreatDoor
namespace cutAlterPartitionRequest
open Go Go.Kg kg Go.ChangeShapes Go.WideShapes Go.ChangeAt Go.RowKit
def cfg : Cfg := ⟨env, true, 5, 6⟩
def cfgR : CfgR := ⟨⟨env, true, 5, 6⟩, 7, 111, 110, 118, 116⟩
def sch : Sch := .prim ⟨none, none⟩ 1 1 .i32 0 0 (.prim ⟨none, none⟩ 2 2 .i64 0 (-1) (.arrS ⟨none, none⟩ 3 3 127 none 134 130 19 135 (.prim ⟨some 0, some 1⟩ 0 0 .str 0 0 (.prim ⟨some 2, none⟩ 1 1 .uuid 0 0 (.arrS ⟨none, none⟩ 2 17 132 none 140 136 7 137 (.prim ⟨none, none⟩ 0 0 .i32 0 0 (.prim ⟨none, none⟩ 1 1 .i32 0 0 (.arrP ⟨some 0, some 2⟩ 2 2 137 none .i32 (.arrS ⟨some 3, none⟩ 3 3 138 none 143 141 3 138 (.prim ⟨none, none⟩ 0 0 .i32 0 0 (.prim ⟨none, none⟩ 1 1 .i64 0 (-1) (.tags 2 2))) (.prim ⟨some 1, none⟩ 4 4 .i8 0 0 (.prim ⟨none, none⟩ 5 5 .i32 0 0 (.tags 6 6))))))) (.tags 3 18)))) (.tags 4 4)))
def nl : Nat := (sch.genW cfg 129 59 0 ⟨7, 0, 0⟩).2.l
def nlR : Nat := (sch.genR cfgR 129 59 0 (ctR cfgR false 0)).2.l
theorem isW : FnIs Tryz.prog 52 278 [.t 4] (msgW cfg 129 59 0 sch nl) := FnIs.of mixed Tryz.func52 (by kernel_rfl) (by kernel_rfl) (by kernel_rfl) (by kernel_rfl)
theorem isD : FnIs Tryz.prog 90 5 [] (sch.genDf cfg 129 59) := FnIs.of mixed Tryz.func90 (by kernel_rfl) (by kernel_rfl) (by kernel_rfl) (by kernel_rfl)
theorem isS : FnIs Tryz.prog 50 8 [] (irSetV cfg 129 59) := FnIs.of mixed Tryz.func50 (by kernel_rfl) (by kernel_rfl) (by kernel_rfl) (by kernel_rfl)
theorem isP : FnIs Tryz.prog 47 3 [.t 0] (irNewPtr cfg 129 59 90) := FnIs.of mixed Tryz.func47 (by kernel_rfl) (by kernel_rfl) (by kernel_rfl) (by kernel_rfl)
theorem isV : FnIs Tryz.prog 48 3 [.t 2] (irMaxV env 3) := FnIs.of mixed Tryz.func48 (by kernel_rfl) (by kernel_rfl) (by kernel_rfl) (by kernel_rfl)
theorem isM : FnIs Tryz.prog 21 4 [.t 0] (irMax env 59 47 48) := FnIs.of mixed Tryz.func21 (by kernel_rfl) (by kernel_rfl) (by kernel_rfl) (by kernel_rfl)
theorem isA : FnIs Tryz.prog 23 19 [.t 4, .t 5] (irAgain cfg 59 47 50 51 52) := FnIs.of mixed Tryz.func23 (by kernel_rfl) (by kernel_rfl) (by kernel_rfl) (by kernel_rfl)
theorem isF : FnIs Tryz.prog 51 8 [.t 4] (irRF cfg 59 92) := FnIs.of mixed Tryz.func51 (by kernel_rfl) (by kernel_rfl) (by kernel_rfl) (by kernel_rfl)
theorem isR : FnIs Tryz.prog 92 287 [.t 6] (msgR cfgR 129 59 0 90 false sch nlR) := FnIs.of mixed Tryz.func92 (by kernel_rfl) (by kernel_rfl) (by kernel_rfl) (by kernel_rfl)
theorem need : sch.NeedW Tryz.prog cfg tagsOk := ⟨primW_i32 w_i32, ⟨primW_i64 w_i64, ⟨lenWC_none w_len (fun _ => w_clen), ⟨primW_str w_str (fun _ => w_cstr), ⟨primW_uuid w_uuid, ⟨lenWC_none w_len (fun _ => w_clen), ⟨primW_i32 w_i32, ⟨primW_i32 w_i32, ⟨primW_i32 w_i32, lenWC_none w_len (fun _ => w_clen), ⟨lenWC_none w_len (fun _ => w_clen), ⟨primW_i32 w_i32, ⟨primW_i64 w_i64, tagsT⟩⟩, ⟨primW_i8 w_i8, ⟨primW_i32 w_i32, tagsT⟩⟩⟩⟩⟩⟩, tagsT⟩⟩⟩, tagsT⟩⟩⟩
theorem mok : MsgOk Tryz.prog cfg tagsOk 129 59 0 sch nl := ⟨tyC2 true, ⟨rfl, rfl⟩, by kernel_rfl, by kernel_rfl, need, of_decide_eq_true (by kernel_rfl)⟩
theorem endc : EndC Tryz.prog cfgR := endC_of tyRs (by kernel_rfl) is_pkbin_Reader_Ok is_pkbin_Reader_Complete
theorem isD_0 : FnIs Tryz.prog 138 5 [] (Sch.genDf cfg 143 141 (.prim ⟨none, none⟩ 0 0 .i32 0 0 (.prim ⟨none, none⟩ 1 1 .i64 0 (-1) (.tags 2 2)))) := FnIs.of mixed Tryz.func138 (by kernel_rfl) (by kernel_rfl) (by kernel_rfl) (by kernel_rfl)
theorem dfr_0 : DefRC Tryz.prog cfg 3 138 (.prim ⟨none, none⟩ 0 0 .i32 0 0 (.prim ⟨none, none⟩ 1 1 .i64 0 (-1) (.tags 2 2))) := fun w b a c et hb hn => defaultCI (by decide) isD_0 (by kernel_rfl) hb hn
theorem isD_1 : FnIs Tryz.prog 137 2 [] (Sch.genDf cfg 140 136 (.prim ⟨none, none⟩ 0 0 .i32 0 0 (.prim ⟨none, none⟩ 1 1 .i32 0 0 (.arrP ⟨some 0, some 2⟩ 2 2 137 none .i32 (.arrS ⟨some 3, none⟩ 3 3 138 none 143 141 3 138 (.prim ⟨none, none⟩ 0 0 .i32 0 0 (.prim ⟨none, none⟩ 1 1 .i64 0 (-1) (.tags 2 2))) (.prim ⟨some 1, none⟩ 4 4 .i8 0 0 (.prim ⟨none, none⟩ 5 5 .i32 0 0 (.tags 6 6)))))))) := FnIs.of mixed Tryz.func137 (by kernel_rfl) (by kernel_rfl) (by kernel_rfl) (by kernel_rfl)
theorem dfr_1 : DefRC Tryz.prog cfg 7 137 (.prim ⟨none, none⟩ 0 0 .i32 0 0 (.prim ⟨none, none⟩ 1 1 .i32 0 0 (.arrP ⟨some 0, some 2⟩ 2 2 137 none .i32 (.arrS ⟨some 3, none⟩ 3 3 138 none 143 141 3 138 (.prim ⟨none, none⟩ 0 0 .i32 0 0 (.prim ⟨none, none⟩ 1 1 .i64 0 (-1) (.tags 2 2))) (.prim ⟨some 1, none⟩ 4 4 .i8 0 0 (.prim ⟨none, none⟩ 5 5 .i32 0 0 (.tags 6 6))))))) := fun w b a c et hb hn => defaultCI (by decide) isD_1 (by kernel_rfl) hb hn
theorem isD_2 : FnIs Tryz.prog 135 2 [] (Sch.genDf cfg 134 130 (.prim ⟨some 0, some 1⟩ 0 0 .str 0 0 (.prim ⟨some 2, none⟩ 1 1 .uuid 0 0 (.arrS ⟨none, none⟩ 2 17 132 none 140 136 7 137 (.prim ⟨none, none⟩ 0 0 .i32 0 0 (.prim ⟨none, none⟩ 1 1 .i32 0 0 (.arrP ⟨some 0, some 2⟩ 2 2 137 none .i32 (.arrS ⟨some 3, none⟩ 3 3 138 none 143 141 3 138 (.prim ⟨none, none⟩ 0 0 .i32 0 0 (.prim ⟨none, none⟩ 1 1 .i64 0 (-1) (.tags 2 2))) (.prim ⟨some 1, none⟩ 4 4 .i8 0 0 (.prim ⟨none, none⟩ 5 5 .i32 0 0 (.tags 6 6))))))) (.tags 3 18))))) := FnIs.of mixed Tryz.func135 (by kernel_rfl) (by kernel_rfl) (by kernel_rfl) (by kernel_rfl)
theorem dfr_2 : DefRC Tryz.prog cfg 19 135 (.prim ⟨some 0, some 1⟩ 0 0 .str 0 0 (.prim ⟨some 2, none⟩ 1 1 .uuid 0 0 (.arrS ⟨none, none⟩ 2 17 132 none 140 136 7 137 (.prim ⟨none, none⟩ 0 0 .i32 0 0 (.prim ⟨none, none⟩ 1 1 .i32 0 0 (.arrP ⟨some 0, some 2⟩ 2 2 137 none .i32 (.arrS ⟨some 3, none⟩ 3 3 138 none 143 141 3 138 (.prim ⟨none, none⟩ 0 0 .i32 0 0 (.prim ⟨none, none⟩ 1 1 .i64 0 (-1) (.tags 2 2))) (.prim ⟨some 1, none⟩ 4 4 .i8 0 0 (.prim ⟨none, none⟩ 5 5 .i32 0 0 (.tags 6 6))))))) (.tags 3 18)))) := fun w b a c et hb hn => defaultCI (by decide) isD_2 (by kernel_rfl) hb hn
theorem needR : sch.NeedR Tryz.prog cfgR := ⟨primR_i32 r_Int32, ⟨primR_i64 r_Int64, ⟨lenRC_of r_Len (fun _ => r_CLen), endc, dfr_2, ⟨primR_str r_String (fun _ => r_CString), ⟨primR_uuid r_Uuid, ⟨lenRC_of r_Len (fun _ => r_CLen), endc, dfr_1, ⟨primR_i32 r_Int32, ⟨primR_i32 r_Int32, ⟨primR_i32 r_Int32, lenRC_of r_Len (fun _ => r_CLen), endc, ⟨lenRC_of r_Len (fun _ => r_CLen), endc, dfr_0, ⟨primR_i32 r_Int32, ⟨primR_i64 r_Int64, (r_Tags cfgR rfl)⟩⟩, ⟨primR_i8 r_Int8, ⟨primR_i32 r_Int32, (r_Tags cfgR rfl)⟩⟩⟩⟩⟩⟩, (r_Tags cfgR rfl)⟩⟩⟩, (r_Tags cfgR rfl)⟩⟩⟩
noncomputable def z : Array Value := match zeroOf Tryz.prog 129 with | some (.agg z) => z | _ => #[]
theorem hz : zeroOf Tryz.prog 129 = some (.agg z) := by kernel_rfl
theorem hzn : z.size = 5 := by kernel_rfl
theorem hDef : DefRC Tryz.prog cfg 5 90 sch := fun w b a c et hb hn => defaultCI (by decide) isD (by kernel_rfl) hb hn
theorem hPtr (w : World) : Ret Tryz.prog 47 #[] w fun v w' => v = .pointer (some ⟨w.heap.size, 0, none⟩) ∧ w'.heap[w.heap.size]? = some (.cells (setD 0 (sch.dst cfg) z) 129 (0, 0)) ∧ Ext none1 w w' ∧ w.heap.size < w'.heap.size := newPtrC isP hz (Nat.le_of_eq hzn.symm) (fun hb hn => hDef _ _ _ _ _ hb hn) w
theorem mrk : MsgRk Tryz.prog cfgR 129 59 0 90 5 sch nlR := ⟨rfl, ⟨⟨by kernel_rfl, by kernel_rfl, by kernel_rfl, uuF, fun _ => trivial⟩, uuF, by kernel_rfl, by kernel_rfl⟩, tyRb, by kernel_rfl, needR, endc, hDef, by kernel_rfl, of_decide_eq_true (by kernel_rfl)⟩
theorem hchk : ∀ ver : Int, sch.chkD ((setD 0 (sch.dst cfg) z).setIfInBounds 0 (.int .i16 ver)).toList = true := fun ver => by kernel_rfl
theorem hid : ∀ ver : Int, (setD 0 (sch.dst cfg) ((setD 0 (sch.dst cfg) z).setIfInBounds 0 (.int .i16 ver))) = (setD 0 (sch.dst cfg) z).setIfInBounds 0 (.int .i16 ver) := fun ver => by kernel_rfl
def flx (v : Nat) : Bool := flagAt cfg 0 v
theorem hpos : ((List.range 4).all fun v => sch.posE v (flx v)) = true := by kernel_rfl
theorem agl {tv : TypeId} {vv : Value} : AgL Tryz.prog env 21 23 3 sch flx (.iface tv vv) where
  max w := c_max (by decide) isM (by kernel_rfl) (by kernel_rfl) (fun w => (hPtr w).mono fun _ _ h => h.2.2.1) (fun v w => c_maxV (by decide) isV v w) w
  again v hv _ _ _ _ hs hlen herr hgood := againC (et := 0) (nl2 := 0) (C := cfgR) (T := 129) (flex := 0) (S := sch) (z := z) (by decide) isA isF (by decide) mrk (by decide) isR hPtr (fun hb hc ver => setVC (by decide) isS (by kernel_rfl) (by kernel_rfl) hb hc ver)
    (fun hcs hver hrep hok hb ho hbase hsz => appendTo mok (by decide) isW hcs hver hrep hok hb ho hbase hsz) (by kernel_rfl) (by kernel_rfl) tBs ⟨_, Tryz.underlying52⟩ ⟨_, _, rfl⟩ hzn (by decide) hid hchk (v : Int) ⟨by omega, by omega⟩ hs hlen herr hgood
  hM := by decide
  pos v hv := List.all_eq_true.1 hpos v (by simp; omega)
theorem tyTr : TyTr Tryz.prog env 2 := { tr := ⟨_, _, _, _, _, Tryz.underlying26, ⟨rfl, rfl⟩, ⟨rfl, rfl⟩, ⟨rfl, rfl⟩, ⟨rfl, rfl⟩, ⟨rfl, rfl⟩⟩, tg := ⟨_, _, Tryz.underlying65, ⟨rfl, rfl⟩, ⟨rfl, rfl⟩⟩, i64 := by kernel_rfl, u32 := by kernel_rfl, u8 := by kernel_rfl, bool := by kernel_rfl, bs := by kernel_rfl, lt := by kernel_rfl, lu := by kernel_rfl, c1 := ⟨by kernel_rfl, by kernel_rfl, by kernel_rfl, by kernel_rfl, by kernel_rfl, by kernel_rfl, by kernel_rfl⟩, cT := by kernel_rfl, cU := by kernel_rfl }
theorem bulkPos {H : Type} (d : DataW H) : 1 ≤ Rows.uptoBulk d := by
  cases d with
  | lit l => cases l <;> simp [Rows.uptoBulk]
  | nil => simp [Rows.uptoBulk]
  | ptr d => simp [Rows.uptoBulk]
  | slice elems spare => simp [Rows.uptoBulk]
  | agg parts => simp [Rows.uptoBulk]
  | iface t d => simp [Rows.uptoBulk]
  | map entries => simp [Rows.uptoBulk]
  | held h => simp [Rows.uptoBulk]
theorem bulkL {H : Type} : BulkL (H := H) Rows.uptoBulk Rows.uptoBulkAll := { slice := fun _ _ => by simp only [Rows.uptoBulk], agg := fun _ => by simp only [Rows.uptoBulk], nil := by simp only [Rows.uptoBulkAll], cons := fun _ _ => by simp only [Rows.uptoBulkAll], pos := bulkPos }
theorem fits (w : World) (cs : List Value) (t : Tr) (h : TreeAt w cs t) : Ret Tryz.prog env.f_laws_zzFits2 #[.agg cs.toArray] w (SomeB w) := c_zzFits2 tyK.toTyF is_laws_zzFits2 (fun w uv u h => c_zzFits3 tyK.toTyF is_laws_zzFits3 (fun w k bv x h1 h2 => c_zzFits4 tyK.toTyF is_laws_zzFits4 w k bv x h1 h2) (by kernel_rfl) w uv u h) w cs t h
def src_sAlterPartitionRequestTopicPartitionNewEpochISR : List FSrc := [⟨[(0, 3), (2, (-1)), (3, (-1)), (4, (-1))], none⟩, ⟨[(0, 4), (2, (-1)), (3, (-1)), (4, (-1)), (5, (-1))], none⟩]
theorem isc_sAlterPartitionRequestTopicPartitionNewEpochISR : FnIs Tryz.prog 134 4 [.t 0] (irSub env src_sAlterPartitionRequestTopicPartitionNewEpochISR) := FnIs.of mixed Tryz.func134 (by kernel_rfl) (by kernel_rfl) (by kernel_rfl) (by kernel_rfl)
theorem sub_sAlterPartitionRequestTopicPartitionNewEpochISR : SubC Tryz.prog 134 (mkFS src_sAlterPartitionRequestTopicPartitionNewEpochISR) := sub_of tyK isc_sAlterPartitionRequestTopicPartitionNewEpochISR (by kernel_rfl) ⟨(fun g F h => by cases h), ⟨(fun g F h => by cases h), trivial⟩⟩
def src_sAlterPartitionRequestTopicPartition : List FSrc := [⟨[(0, 3), (2, (-1)), (3, (-1)), (4, (-1))], none⟩, ⟨[(0, 3), (2, (-1)), (3, (-1)), (4, (-1))], none⟩, ⟨[(0, 11), (2, 2), (3, (-1)), (4, (-1)), (6, 3)], none⟩, ⟨[(0, 11), (1, 3), (2, (-1)), (3, (-1)), (4, (-1)), (6, 10)], some (134, mkFS src_sAlterPartitionRequestTopicPartitionNewEpochISR)⟩, ⟨[(0, 1), (1, 1), (2, (-1)), (3, (-1)), (4, (-1))], none⟩, ⟨[(0, 3), (2, (-1)), (3, (-1)), (4, (-1))], none⟩]
theorem isc_sAlterPartitionRequestTopicPartition : FnIs Tryz.prog 91 9 [.t 0] (irSub env src_sAlterPartitionRequestTopicPartition) := FnIs.of mixed Tryz.func91 (by kernel_rfl) (by kernel_rfl) (by kernel_rfl) (by kernel_rfl)
theorem sub_sAlterPartitionRequestTopicPartition : SubC Tryz.prog 91 (mkFS src_sAlterPartitionRequestTopicPartition) := sub_of tyK isc_sAlterPartitionRequestTopicPartition (by kernel_rfl) ⟨(fun g F h => by cases h), ⟨(fun g F h => by cases h), ⟨(fun g F h => by cases h), ⟨(fun g F h => by cases h; exact sub_sAlterPartitionRequestTopicPartitionNewEpochISR), ⟨(fun g F h => by cases h), ⟨(fun g F h => by cases h), trivial⟩⟩⟩⟩⟩⟩
def src_sAlterPartitionRequestTopic : List FSrc := [⟨[(0, 8), (2, 1), (3, (-1)), (4, (-1))], none⟩, ⟨[(0, 7), (1, 2), (2, (-1)), (3, (-1)), (4, (-1))], none⟩, ⟨[(0, 11), (2, (-1)), (3, (-1)), (4, (-1)), (6, 10)], some (91, mkFS src_sAlterPartitionRequestTopicPartition)⟩]
theorem isc_sAlterPartitionRequestTopic : FnIs Tryz.prog 49 6 [.t 0] (irSub env src_sAlterPartitionRequestTopic) := FnIs.of mixed Tryz.func49 (by kernel_rfl) (by kernel_rfl) (by kernel_rfl) (by kernel_rfl)
theorem sub_sAlterPartitionRequestTopic : SubC Tryz.prog 49 (mkFS src_sAlterPartitionRequestTopic) := sub_of tyK isc_sAlterPartitionRequestTopic (by kernel_rfl) ⟨(fun g F h => by cases h), ⟨(fun g F h => by cases h), ⟨(fun g F h => by cases h; exact sub_sAlterPartitionRequestTopicPartition), trivial⟩⟩⟩
def src_AlterPartitionRequest : List FSrc := [⟨[(0, 3), (2, (-1)), (3, (-1)), (4, (-1))], none⟩, ⟨[(0, 4), (2, (-1)), (3, (-1)), (4, (-1)), (5, (-1))], none⟩, ⟨[(0, 11), (2, (-1)), (3, (-1)), (4, (-1)), (6, 10)], some (49, mkFS src_sAlterPartitionRequestTopic)⟩]
theorem isc_AlterPartitionRequest : FnIs Tryz.prog 22 7 [.c 0 env.t_spec_Message] (irMsg env src_AlterPartitionRequest 0) := FnIs.of mixed Tryz.func22 (by kernel_rfl) (by kernel_rfl) (by kernel_rfl) (by kernel_rfl)
theorem msg_AlterPartitionRequest : MsgC Tryz.prog 22 (mkFS src_AlterPartitionRequest) 0 := msg_of tyK isc_AlterPartitionRequest (by kernel_rfl) ⟨(fun g F h => by cases h), ⟨(fun g F h => by cases h), ⟨(fun g F h => by cases h; exact sub_sAlterPartitionRequestTopic), trivial⟩⟩⟩
theorem isL : FnIs Tryz.prog 6 56 [.t 6] (irFnCut env 21 22 23 35) := FnIs.of mixed Tryz.func6 (by kernel_rfl) (by kernel_rfl) (by kernel_rfl) (by kernel_rfl)
theorem hflex : ((List.range 4).all fun v => flexAt 0 v == flx v) = true := by kernel_rfl
theorem hfit : fitS 3 flx (mkFS src_AlterPartitionRequest) sch = true := by kernel_rfl
theorem agw : AgW Tryz.prog 22 3 sch flx (mkFS src_AlterPartitionRequest) 0 where
  msg := msg_AlterPartitionRequest
  ok := FS.ok_of (by kernel_rfl)
  len := of_decide_eq_true (by kernel_rfl)
  flex v hv := by simpa using List.all_eq_true.1 hflex v (by simp; omega)
  fit := hfit
theorem own : ownKnob Tryz.prog.godebug = none := by kernel_rfl
theorem laidOut : laidOutB Tryz.prog = true := by kernel_rfl
theorem gType : (Tryz.prog.globals[1]?).map (·.type) = some 52 := by kernel_rfl
theorem err_of_laid {W : World} (h : laidMetH Tryz.prog Rows.fnCutAlterPartitionRequestUptoRow.laid W) : ∃ tv vv, W.cell? ⟨1, 0, none⟩ = some (.iface tv vv) := by
  have h' : laidMet Tryz.prog Rows.fnCutAlterPartitionRequestUptoRow.laid W := h
  obtain ⟨a1, s1, hv1, _, _, _⟩ := laid_sentinel h' (by kernel_rfl) gType Tryz.underlying52 rowE Tryz.underlying228 Tryz.underlying246 rfl rfl Tryz.underlying9 (by kernel_rfl) (by kernel_rfl)
  exact ⟨228, .pointer (some a1), by simpa using World.var?_cell (by kernel_rfl) hv1 0⟩
noncomputable def low : Nat := (World.holding Tryz.prog default ⟨#[], #[], []⟩).heap.size
noncomputable def laidWorld (os : Os) : World :=
  let w0 := World.holding Tryz.prog os ⟨#[.cells #[.string { data := #[114, 101, 115, 112, 111, 110, 115, 101, 32, 100, 105, 100, 32, 110, 111, 116, 32, 99, 111, 110, 116, 97, 105, 110, 32, 101, 110, 111, 117, 103, 104, 32, 100, 97, 116, 97, 32, 116, 111, 32, 98, 101, 32, 118, 97, 108, 105, 100] }] 246], #[], []⟩
  { w0 with heap := w0.heap.modify 1 fun
      | .cells _ t frozen => .cells #[.iface 228 (.pointer (some ⟨low, 0, none⟩))] t frozen
      | o => o }
theorem laidWorld_met (os : Os) (args : Array Value) : laidMetH Tryz.prog Rows.fnCutAlterPartitionRequestUptoRow.laid ((laidWorld os).forCall (fun _ _ => 0) ⟨#[], args, []⟩).memory :=
  laidMet_of_run (ps := [.cell 1 0, .cell low 0]) 8 (by kernel_rfl) (by kernel_rfl) (by kernel_rfl)
theorem walk {tv : TypeId} {vv : Value} (n : Nat) (hn : n < 256) (at_ : Nat) (hat : at_ < 65536) {w : World} {cs : List Value} {t : Tr} (hT : TreeAt w cs t) (hz : t.sz ≤ 1048576) (herr : w.cell? ⟨1, 0, none⟩ = some (.iface tv vv)) : Ret Tryz.prog 6 #[.int .u8 n, .agg cs.toArray, .int .u16 at_] w fun u w' => u = .bool true ∧ Ext none1 w w' :=
  c_FnCut tyK spF is_laws_version fits (by kernel_rfl) agl agw (by decide) isL n hn at_ hat hT (part_le (by have := Nat.mod_lt n (show 0 < 3 + 1 by omega); simp only [verOf]; omega) hfit hT.ok (of_decide_eq_true (by kernel_rfl)) hz) herr
theorem reads (os : Os) {H : Type} (enc : TypeId × Value → H) : ∃ places, DataW.whole enc Tryz.prog ((laidWorld os).forCall (fun _ _ => 0) ⟨#[], #[.int .u8 0, .agg #[.int .i64 0, .slice none 0 0, .bool false, .slice none 0 0, .slice none 0 0], .int .u16 0], []⟩).memory Tryz.f6.params.toList Rows.fnCutAlterPartitionRequestSpec.vars false (#[.int .u8 0, .agg #[.int .i64 0, .slice none 0 0, .bool false, .slice none 0 0, .slice none 0 0], .int .u16 0] : Array Value).toList 8 = some ([.lit (.int .u8 0), .agg [.lit (.int .i64 0), .nil, .lit (.bool false), .nil, .nil], .lit (.int .u16 0)], [], places) := ⟨[], by kernel_rfl⟩

theorem contract (H : Type) (enc : TypeId × Value → H) (W : World) (base : Nat) (args : Array Value) (ds gs : List (DataW H)) (before : List MemPlace)
    (hval0 : ∀ (j : Nat) t v, Tryz.f6.params[j]? = some t → args[j]? = some v → Value.okWide Tryz.prog W .any base t v)
    (hW : DataW.Whole enc Tryz.prog Tryz.f6.params.toList Rows.fnCutAlterPartitionRequestSpec.vars false W args.toList ds gs before) (hbulk : Rows.uptoBulkAll (ds ++ gs) ≤ 1048576) (hL : laidMetH Tryz.prog Rows.fnCutAlterPartitionRequestUptoRow.laid W) :
    Calls Tryz.prog 6 args W fun e W' => ∃ v, e = .returned v ∧ Rows.fnCutAlterPartitionRequestSpec.post enc Tryz.prog Tryz.f6 false true false false W args v W' := by
  have hval : ∀ (j : Nat) t v, Tryz.f6.params[j]? = some t → args[j]? = some v → Value.okWide Tryz.prog W .any base t v := hval0
  have hW' := hW
  have hlt0 := hW'.lt
  obtain ⟨p, q, hA0, hV, rfl, hfz, hnd⟩ := hW
  have hA : DataW.TrodAll enc Tryz.prog W 0 (fun _ => true) true Tryz.f6.params.toList args.toList ds p := hA0
  rw [Tryz.params6] at hA hval
  obtain ⟨v0, vs0, d0, ds0, p0, q0, hargs, rfl, rfl, h0, r0⟩ := trodAll_cons hA
  obtain ⟨v1, vs1, d1, ds1, p1, q1, hargs1, rfl, rfl, h1, r1⟩ := trodAll_cons r0
  obtain ⟨v2, vs2, d2, ds2, p2, q2, hargs2, rfl, rfl, h2, r2⟩ := trodAll_cons r1
  obtain ⟨rfl, rfl, rfl⟩ := trodAll_nil r2
  obtain rfl : args = #[v0, v1, v2] := by rw [← Array.toArray_toList (xs := args), hargs, hargs1, hargs2]
  obtain ⟨rfl, rfl⟩ := trodVars_none hV
  obtain ⟨a0, rfl, rfl, rfl, w0⟩ := open_int Tryz.underlying5 (hval 0 5 v0 rfl rfl) h0
  obtain ⟨a2, rfl, rfl, rfl, w2⟩ := open_int Tryz.underlying39 (hval 2 39 v2 rfl rfl) h2
  have hx2 : 0 ≤ a2 ∧ a2 ≤ 65535 := by simpa [Lit.wf, IntKind.min, IntKind.max, IntKind.signed, IntKind.bits] using w2
  obtain ⟨at_, rfl⟩ : ∃ at_ : Nat, a2 = (at_ : Int) := ⟨a2.toNat, by omega⟩
  obtain ⟨cs, rfl⟩ := agg_of_ok Tryz.underlying26 (hval 1 26 v1 rfl rfl)
  have hbk : Rows.uptoBulk d1 ≤ 1048576 := by
    simp only [List.append_nil, List.cons_append, List.nil_append, Rows.uptoBulkAll] at hbulk
    omega
  obtain ⟨t, hT, hz⟩ := open_arg tyTr bulkL h1 hbk
  obtain ⟨tv, vv, herr⟩ := err_of_laid hL
  clear hA0 hval0
  simp only [List.append_nil, List.nil_append] at hW' hlt0
  have hx : 0 ≤ a0 ∧ a0 ≤ 255 := by simpa [Lit.wf, IntKind.min, IntKind.max, IntKind.signed, IntKind.bits] using w0
  obtain ⟨n, rfl⟩ : ∃ n : Nat, a0 = (n : Int) := ⟨a0.toNat, by omega⟩
  refine ((walk n (by omega) at_ (by omega) hT hz herr).2).mono fun e W' ⟨v, he, hv, hx'⟩ => ?_
  subst he; subst hv
  exact ⟨_, rfl, post_of_ext (pa := [] ++ (p1 ++ ([] ++ []))) (pv := []) hW' (fun _ _ _ => (trodAll_cons_mk (shut_bool Tryz.underlying4 _) trodAll_mk0)) (fun sp hsp => (trodAll_cons_mk (shut_int Tryz.underlying5 w0) (trodAll_cons_mk (ext_trod laidOut (by kernel_rfl) (of_decide_eq_true (by kernel_rfl)) h1 hx' (fun x hx => hlt0 x (by simpa using hx)) (fun x hx => hsp x (by simpa using hx))) (trodAll_cons_mk (shut_int Tryz.underlying39 w2) trodAll_mk0)))) (fun _ _ => rfl) (by simp)
    hx' (ok_one (by kernel_rfl) rfl (okWide_bool_mk Tryz.underlying4 _))⟩

set_option maxRecDepth 100000 in
theorem lifted (os : Os) (started : os.Started) (H : Type) (enc : TypeId × Value → H) (F : Stop.Interp) :
    ReturnsInHanded {} Tryz.checked os 6 .any ((Rows.OpenSpec.upto Rows.fnCutAlterPartitionRequestSpec).preRow enc Tryz.prog Tryz.f6 Rows.fnCutAlterPartitionRequestUptoRow.domain false Rows.fnCutAlterPartitionRequestUptoRow.laid) (((Rows.OpenSpec.upto Rows.fnCutAlterPartitionRequestSpec).at F).post enc Tryz.prog Tryz.f6 false true false false) := by
  obtain ⟨places, hx⟩ := reads os enc
  refine returnsInHanded_of_row (C := Tryz.checked) (s := Rows.OpenSpec.upto Rows.fnCutAlterPartitionRequestSpec) own started (by kernel_rfl) Tryz.func6
    (witness_row_at (enc := enc) (C := Tryz.checked) false (laidWorld os) #[.int .u8 0, .agg #[.int .i64 0, .slice none 0 0, .bool false, .slice none 0 0, .slice none 0 0], .int .u16 0] rfl (by kernel_rfl) (by kernel_rfl) (by kernel_rfl)
      (OpenSpec.preRow_of_cond 8 hx (by kernel_rfl) (fun k hk => by cases hk; kernel_rfl) (by kernel_rfl) (laidWorld_met os _))) ?_
  intro W base args ds gs before hval hW _ hcond _ hL _ _
  exact contract H enc W base args ds gs before hval hW (of_decide_eq_true (hcond _ rfl)) hL

theorem row : Rows.FnCutAlterPartitionRequestUptoSaid :=
  OpenClaim.holds_of_cond 6 Tryz.f6 rfl rfl rfl rfl rfl rfl rfl ⟨rfl, rfl, rfl, rfl, rfl⟩ rfl rfl rfl rfl rfl (by kernel_rfl) Tryz.func6 (by kernel_rfl)
    (of_decide_eq_true (by kernel_rfl)) (by unfold Func.isWrapper; first | (rw [if_pos (by decide +kernel)]; kernel_rfl) | (rw [if_neg (by decide +kernel)]; exact ⟨rfl, rfl⟩))
    (fun os started H enc _ F => by rw [OpenClaim.pre_eq_preRow]; exact lifted os started H enc F)

theorem proved : Rows.FnCutAlterPartitionRequestUptoCardSaid :=
  Claim7.holds_tied_plain_at .later [] [.sentinel] true (true, "53e713203b637dc6c8a68e5b7f237fa6ba74057f6662d3d79498c01118c6064c") false
    row (fun _ h => by cases h) (by kernel_rfl) (fun _ h => by cases h) fnCutAlterPartitionRequestUpto_row_tie rfl ⟨rfl, rfl⟩ (by kernel_rfl) rfl
    (fun f fn hf hfn => by
      obtain rfl : f = 6 := Option.some.inj ((show Tryz.prog.funcNamed "pub-kmsg/laws.FnCutAlterPartitionRequest" = some 6 by kernel_rfl).symm.trans hf) |>.symm
      obtain rfl : fn = Tryz.f6 := (Option.some.inj (Tryz.func6.symm.trans hfn)).symm
      exact ⟨by kernel_rfl, fun j t ht => by
        rw [Tryz.params6] at ht
        have hm : t ∈ [5, 26, 39] := by simpa using Array.mem_of_getElem? ht
        have hall : ([5, 26, 39].all fun u => !Tryz.prog.wantsStandIn u) = true := by kernel_rfl
        exact (show Tryz.prog.wantsStandIn t = false by simpa using List.all_eq_true.1 hall t hm)⟩)
    (by kernel_rfl)
end cutAlterPartitionRequest
end Go.Proofs.YtlcdpkdnblkheabGreatDoor
