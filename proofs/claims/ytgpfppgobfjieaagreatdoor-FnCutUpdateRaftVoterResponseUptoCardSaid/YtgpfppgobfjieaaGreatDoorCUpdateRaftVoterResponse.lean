/- A UpdateRaftVoterResponse that ends anywhere ahead of its end is an error. -/
import Derived.Test.YtgpfppgobfjieaaGreatDoorKgF
import Derived.Test.YtgpfppgobfjieaaGreatDoorRows
import Derived.Test.YtgpfppgobfjieaaGreatDoorTie
import Derived.Test.YtgpfppgobfjieaaGreatDoorCards
import Derived.ProofKit
import Derived.OpenShut
import Derived.Stop.LaidErr
import Derived.Handed
import Derived.JoinedOf
import Derived.SevenTiedAt
import Derived.Deep.DeepHandedRow
import Derived.Lib.LaidTab
set_option linter.unusedVariables false
set_option linter.unusedSectionVars false
set_option linter.unusedSimpArgs false
set_option maxRecDepth 100000
namespace Go.Proofs.YtgpfppgobfjieaaGreatDoor
namespace cutUpdateRaftVoterResponse
open Go Go.Kg kg Go.ChangeShapes Go.WideShapes Go.ChangeAt Go.RowKit
def cfg : Cfg := ⟨env, true, 5, 6⟩
def dj : List DJ := [.sb 3 3 61 80 [⟨0, 0, Prim.ty env .i32, .int .i32 (-1)⟩, ⟨1, 1, Prim.ty env .i32, .int .i32 (-1)⟩]]
def cfgR : CfgR := ⟨⟨env, true, 5, 6⟩, 7, 52, 51, 999999, 999999⟩
def sch : Sch := .prim ⟨none, none⟩ 1 1 .i32 0 0 (.prim ⟨none, none⟩ 2 2 .i16 0 0 (.fin))
def schD : Sch := .prim ⟨none, none⟩ 1 1 .i32 0 0 (.prim ⟨none, none⟩ 2 2 .i16 0 0 ((.prim ⟨none, none⟩ 0 3 .i32 0 (-1) (.prim ⟨none, none⟩ 1 4 .i32 0 (-1) (.tags 4 8)))))
def ks : List KF := [⟨0, 3, 3, .str 61 80 5 33 31 32 (.prim ⟨none, none⟩ 0 0 .i32 0 (-1) (.prim ⟨none, none⟩ 1 1 .i32 0 (-1) (.prim ⟨none, none⟩ 2 2 .str 0 0 (.prim ⟨none, none⟩ 3 3 .i32 0 0 (.tags 4 4)))))⟩]
def km : KM := ⟨sch, ks, 4, 8⟩
def nl : Nat := (secWI cfg 63 41 0 75 ks 4 (sch.genW cfg 63 41 0 (ct0 cfg 0)).2).2.l
def nlR : Nat := (secRI cfgR 63 41 10 ks 4 (sch.genR cfgR 63 41 10 (ctR cfgR false 0)).2).2.l
theorem isW : FnIs Tryz.prog 17 131 [.t 4] (msgWk cfg 63 41 75 0 sch ks 4 nl) := FnIs.of mixed Tryz.func17 (by kernel_rfl) (by kernel_rfl) (by kernel_rfl) (by kernel_rfl)
theorem isD : FnIs Tryz.prog 19 13 [] (irDefJ cfg 63 41 dj) := FnIs.of mixed Tryz.func19 (by kernel_rfl) (by kernel_rfl) (by kernel_rfl) (by kernel_rfl)
theorem isS : FnIs Tryz.prog 15 8 [] (irSetV cfg 63 41) := FnIs.of mixed Tryz.func15 (by kernel_rfl) (by kernel_rfl) (by kernel_rfl) (by kernel_rfl)
theorem isP : FnIs Tryz.prog 11 3 [.t 0] (irNewPtr cfg 63 41 19) := FnIs.of mixed Tryz.func11 (by kernel_rfl) (by kernel_rfl) (by kernel_rfl) (by kernel_rfl)
theorem isV : FnIs Tryz.prog 12 3 [.t 2] (irMaxV env 0) := FnIs.of mixed Tryz.func12 (by kernel_rfl) (by kernel_rfl) (by kernel_rfl) (by kernel_rfl)
theorem isM : FnIs Tryz.prog 5 4 [.t 0] (irMax env 41 11 12) := FnIs.of mixed Tryz.func5 (by kernel_rfl) (by kernel_rfl) (by kernel_rfl) (by kernel_rfl)
theorem isA : FnIs Tryz.prog 9 19 [.t 4, .t 5] (irAgain cfg 41 11 15 16 17) := FnIs.of mixed Tryz.func9 (by kernel_rfl) (by kernel_rfl) (by kernel_rfl) (by kernel_rfl)
theorem isF : FnIs Tryz.prog 16 8 [.t 4] (irRF cfg 41 28) := FnIs.of mixed Tryz.func16 (by kernel_rfl) (by kernel_rfl) (by kernel_rfl) (by kernel_rfl)
theorem isR : FnIs Tryz.prog 28 110 [.t 6] (msgRk cfgR 63 41 0 19 false sch ks 4 nlR) := FnIs.of mixed Tryz.func28 (by kernel_rfl) (by kernel_rfl) (by kernel_rfl) (by kernel_rfl)
theorem endc0 : EndC0 Tryz.prog cfgR := endC0_of tyRs (by kernel_rfl) is_pkbin_Reader_Complete
theorem need : sch.NeedW Tryz.prog cfg tagsOk := ⟨primW_i32 w_i32, ⟨primW_i16 w_i16, trivial⟩⟩
theorem needR : sch.NeedR Tryz.prog cfgR := ⟨primR_i32 r_Int32, ⟨primR_i16 r_Int16, trivial⟩⟩
theorem isD_0 : FnIs Tryz.prog 33 8 [] (Sch.genDf cfg 61 80 ((.prim ⟨none, none⟩ 0 0 .i32 0 (-1) (.prim ⟨none, none⟩ 1 1 .i32 0 (-1) (.prim ⟨none, none⟩ 2 2 .str 0 0 (.prim ⟨none, none⟩ 3 3 .i32 0 0 (.tags 4 4))))))) := FnIs.of mixed Tryz.func33 (by kernel_rfl) (by kernel_rfl) (by kernel_rfl) (by kernel_rfl)
theorem dfr_0 : DefRC Tryz.prog cfg 5 33 ((.prim ⟨none, none⟩ 0 0 .i32 0 (-1) (.prim ⟨none, none⟩ 1 1 .i32 0 (-1) (.prim ⟨none, none⟩ 2 2 .str 0 0 (.prim ⟨none, none⟩ 3 3 .i32 0 0 (.tags 4 4)))))) := fun w b a c et hb hn => defaultCI (by decide) isD_0 (by kernel_rfl) hb hn
theorem uB : Tryz.prog.underlying env.tB = some .bool := by kernel_rfl
noncomputable def wholeTS : Ir := match Tryz.f59.body.bind (erase 56) with | some c => c | none => .skip
noncomputable def bodyTS : Ir := wholeTS.rt.rt.lt.rt.inn.inn.rt.rt.inn
theorem isTS : FnIs Tryz.prog 59 56 [.t 4] (irSameT env bodyTS) := FnIs.of mixed Tryz.func59 (by kernel_rfl) (by kernel_rfl) (by kernel_rfl) (by kernel_rfl)
theorem isSm0 : FnIs Tryz.prog 31 38 [.t 4] (irSameS cfg 61 59 ((.prim ⟨none, none⟩ 0 0 .i32 0 (-1) (.prim ⟨none, none⟩ 1 1 .i32 0 (-1) (.prim ⟨none, none⟩ 2 2 .str 0 0 (.prim ⟨none, none⟩ 3 3 .i32 0 0 (.tags 4 4))))))) := FnIs.of mixed Tryz.func31 (by kernel_rfl) (by kernel_rfl) (by kernel_rfl) (by kernel_rfl)
theorem isMk0 : FnIs Tryz.prog 32 4 [.c 0 61] (irNewK cfg 61 33) := FnIs.of mixed Tryz.func32 (by kernel_rfl) (by kernel_rfl) (by kernel_rfl) (by kernel_rfl)
theorem sameK0 : SameK Tryz.prog 31 ((.prim ⟨none, none⟩ 0 0 .i32 0 (-1) (.prim ⟨none, none⟩ 1 1 .i32 0 (-1) (.prim ⟨none, none⟩ 2 2 .str 0 0 (.prim ⟨none, none⟩ 3 3 .i32 0 0 (.tags 4 4)))))) := fun w K cs ds x hr hd => c_sameS (C := cfg) (fun w K u l hl => c_sameT tyTg uB isTS (by decide) hl) isSm0 (by decide) (by kernel_rfl) hr hd
noncomputable def z0 : Array Value := match zeroOf Tryz.prog 61 with | some (.agg z) => z | _ => #[]
theorem hz0 : zeroOf Tryz.prog 61 = some (.agg z0) := by kernel_rfl
theorem hzn0 : z0.size = 5 := by kernel_rfl
theorem hk0 : kindOf Tryz.prog 61 = .agg 5 := by kernel_rfl
theorem hone0 : allOne (setD 0 (Sch.dst cfg ((.prim ⟨none, none⟩ 0 0 .i32 0 (-1) (.prim ⟨none, none⟩ 1 1 .i32 0 (-1) (.prim ⟨none, none⟩ 2 2 .str 0 0 (.prim ⟨none, none⟩ 3 3 .i32 0 0 (.tags 4 4))))))) z0).toList = true := by kernel_rfl
theorem hchk0 : Sch.chkD (setD 0 (Sch.dst cfg ((.prim ⟨none, none⟩ 0 0 .i32 0 (-1) (.prim ⟨none, none⟩ 1 1 .i32 0 (-1) (.prim ⟨none, none⟩ 2 2 .str 0 0 (.prim ⟨none, none⟩ 3 3 .i32 0 0 (.tags 4 4))))))) z0).toList ((.prim ⟨none, none⟩ 0 0 .i32 0 (-1) (.prim ⟨none, none⟩ 1 1 .i32 0 (-1) (.prim ⟨none, none⟩ 2 2 .str 0 0 (.prim ⟨none, none⟩ 3 3 .i32 0 0 (.tags 4 4)))))) = true := by kernel_rfl
theorem mkK0 : MkC Tryz.prog 32 ((.prim ⟨none, none⟩ 0 0 .i32 0 (-1) (.prim ⟨none, none⟩ 1 1 .i32 0 (-1) (.prim ⟨none, none⟩ 2 2 .str 0 0 (.prim ⟨none, none⟩ 3 3 .i32 0 0 (.tags 4 4)))))) := fun w => (newKC isMk0 hz0 hzn0 hk0 hone0 dfr_0 w).mono fun v w' h => ⟨⟨_, h.1, hchk0⟩, h.2⟩
theorem needK : KsNeedW Tryz.prog cfg tagsOk ks := ⟨⟨⟨primW_i32 w_i32, ⟨primW_i32 w_i32, ⟨primW_str w_str (fun _ => w_cstr), ⟨primW_i32 w_i32, tagsT⟩⟩⟩⟩, sameK0, mkK0⟩, trivial⟩
theorem needKR : KsNeedR Tryz.prog cfgR ks := ⟨⟨dfr_0, ⟨primR_i32 r_Int32, ⟨primR_i32 r_Int32, ⟨primR_str r_String (fun _ => r_CString), ⟨primR_i32 r_Int32, (r_Tags cfgR rfl)⟩⟩⟩⟩⟩, trivial⟩
theorem uuE : isAgg16 (kindOf Tryz.prog env.tUu) = true → TyUuE Tryz.prog env := fun h => by rw [noUu] at h; cases h
theorem mok : KmOk Tryz.prog cfg tagsOk 63 41 75 sch ks 4 8 nl := { ty := tyC2 true, fx := rfl, cfg := ⟨rfl, rfl⟩, uu := uuE, bs := tBs.siz, uB := by kernel_rfl, kU := by kernel_rfl, sS := sli_of (by kernel_rfl) (by kernel_rfl) rfl, tyW := by kernel_rfl, tyK := by kernel_rfl, f0 := by kernel_rfl, ft := by kernel_rfl, need := need, needK := needK, tags := tagsT, nd := by decide, len := by decide, nl := of_decide_eq_true (by kernel_rfl) }
theorem tyR : TyR Tryz.prog cfgR := ⟨⟨by kernel_rfl, by kernel_rfl, by kernel_rfl, uuF, fun _ => trivial⟩, uuF, by kernel_rfl, by kernel_rfl⟩
theorem sec : SecR Tryz.prog cfgR := { ty := tyR, fx := rfl, rb := tyRb, iU := by kernel_rfl, iI := by kernel_rfl, uErr := ⟨_, Tryz.underlying50⟩, endc := endc0, uv := r_Uv, span := r_Span }
noncomputable def z : Array Value := match zeroOf Tryz.prog 63 with | some (.agg z) => z | _ => #[]
theorem hz : zeroOf Tryz.prog 63 = some (.agg z) := by kernel_rfl
theorem hzn : z.size = 9 := by kernel_rfl
theorem hDef : DefRC Tryz.prog cfg 9 19 schD := defaultCJ (by decide) isD (by kernel_rfl) rfl
theorem hPtr (w : World) : Ret Tryz.prog 11 #[] w fun v w' => v = .pointer (some ⟨w.heap.size, 0, none⟩) ∧ w'.heap[w.heap.size]? = some (.cells (setD 0 (schD.dst cfg) z) 63 (0, 0)) ∧ Ext none1 w w' ∧ w.heap.size < w'.heap.size := newPtrC isP hz (Nat.le_of_eq hzn.symm) (fun hb hn => hDef _ _ _ _ _ hb hn) w
theorem mrk : MsgRm Tryz.prog cfgR 63 41 9 3 km false nlR := { rs7 := rfl, sec := sec, tg := tyTg, uU := by kernel_rfl, setI := is_pkmsg_Tags_Set, tyR := by kernel_rfl, need := needR, tyK := by kernel_rfl, needK := needKR, lay := by kernel_rfl, ton := by decide, lo1 := by decide, f0 := by kernel_rfl, ft := by kernel_rfl, nl := of_decide_eq_true (by kernel_rfl) }
theorem hchk : ∀ ver : Int, sch.chkD ((setD 0 (schD.dst cfg) z).setIfInBounds 0 (.int .i16 ver)).toList = true := fun ver => by kernel_rfl
theorem hks : ∀ ver : Int, ksChkD ((setD 0 (schD.dst cfg) z).setIfInBounds 0 (.int .i16 ver)).toList ks = true := fun ver => by kernel_rfl
theorem hnil : ∀ ver : Int, ((setD 0 (schD.dst cfg) z).setIfInBounds 0 (.int .i16 ver))[8]? = some (.map none) := fun ver => by kernel_rfl
theorem hid : ∀ ver : Int, (setD 0 (schD.dst cfg) ((setD 0 (schD.dst cfg) z).setIfInBounds 0 (.int .i16 ver))) = (setD 0 (schD.dst cfg) z).setIfInBounds 0 (.int .i16 ver) := fun ver => by kernel_rfl
def flx (v : Nat) : Bool := flagAt cfg 0 v
theorem hpos : ((List.range 1).all fun v => km.S.posE v (flx v) && km.ks.all fun f => decide (f.num < 4294967296) && f.c.posE v) = true := by kernel_rfl
theorem agl {tv : TypeId} {vv : Value} : AgLM Tryz.prog env 5 9 0 km flx (.iface tv vv) where
  max w := c_max (by decide) isM (by kernel_rfl) (by kernel_rfl) (fun w => (hPtr w).mono fun _ _ h => h.2.2.1) (fun v w => c_maxV (by decide) isV v w) w
  again v hv _ _ _ _ hs hlen herr hdup hgood := againM (C := cfgR) (T := 63) (flex := 0) (M := km) (Sd := schD) (z := z) (by decide) isA isF (by decide) mrk hDef (by decide) isR hPtr (fun hb hc ver => setVC (by decide) isS (by kernel_rfl) (by kernel_rfl) hb hc ver)
    (fun hcs hver hrep hok hb ho hbase hsz => appendToM (M := km) mok (by decide) isW hcs hver hrep hok hb ho hbase hsz) (by kernel_rfl) (by kernel_rfl) tBs ⟨_, Tryz.underlying50⟩ ⟨_, _, rfl⟩ hzn (by decide) hid hchk hks hnil (v : Int) ⟨by omega, by omega⟩ hs hlen herr hdup hgood
  hM := by decide
  pos := km_ok (M := 0) hpos (by decide) (by decide)
theorem tyTr : TyTr Tryz.prog env 2 := { tr := ⟨_, _, _, _, _, Tryz.underlying26, ⟨rfl, rfl⟩, ⟨rfl, rfl⟩, ⟨rfl, rfl⟩, ⟨rfl, rfl⟩, ⟨rfl, rfl⟩⟩, tg := ⟨_, _, Tryz.underlying55, ⟨rfl, rfl⟩, ⟨rfl, rfl⟩⟩, i64 := by kernel_rfl, u32 := by kernel_rfl, u8 := by kernel_rfl, bool := by kernel_rfl, bs := by kernel_rfl, lt := by kernel_rfl, lu := by kernel_rfl, c1 := ⟨by kernel_rfl, by kernel_rfl, by kernel_rfl, by kernel_rfl, by kernel_rfl, by kernel_rfl, by kernel_rfl⟩, cT := by kernel_rfl, cU := by kernel_rfl }
theorem bulkPos {H : Type} (d : DataW H) : 1 ≤ Rows.uptoBulk d := by
  cases d with
  | lit l => cases l <;> simp [Rows.uptoBulk]
  | nil => simp [Rows.uptoBulk]
  | ptr d => simp [Rows.uptoBulk]
  | slice elems spare => simp [Rows.uptoBulk]
  | agg parts => simp [Rows.uptoBulk]
  | iface t d => simp [Rows.uptoBulk]
  | map entries => simp [Rows.uptoBulk]
  | held h => simp [Rows.uptoBulk]
theorem bulkL {H : Type} : BulkL (H := H) Rows.uptoBulk Rows.uptoBulkAll := { slice := fun _ _ => by simp only [Rows.uptoBulk], agg := fun _ => by simp only [Rows.uptoBulk], nil := by simp only [Rows.uptoBulkAll], cons := fun _ _ => by simp only [Rows.uptoBulkAll], pos := bulkPos }
theorem fits (w : World) (cs : List Value) (t : Tr) (h : TreeAt w cs t) : Ret Tryz.prog env.f_laws_zzFits2 #[.agg cs.toArray] w (SomeB w) := c_zzFits2 tyK.toTyF is_laws_zzFits2 (fun w uv u h => c_zzFits3 tyK.toTyF is_laws_zzFits3 (fun w k bv x h1 h2 => c_zzFits4 tyK.toTyF is_laws_zzFits4 w k bv x h1 h2) (by kernel_rfl) w uv u h) w cs t h
def src_sUpdateRaftVoterResponseCurrentLeader : List FSrc := [⟨[(0, 3), (2, (-1)), (3, (-1)), (4, (-1)), (5, (-1))], none⟩, ⟨[(0, 3), (2, (-1)), (3, (-1)), (4, (-1)), (5, (-1))], none⟩, ⟨[(0, 8), (2, (-1)), (3, (-1)), (4, (-1))], none⟩, ⟨[(0, 3), (2, (-1)), (3, (-1)), (4, (-1))], none⟩]
theorem isc_sUpdateRaftVoterResponseCurrentLeader : FnIs Tryz.prog 14 6 [.t 0] (irSub env src_sUpdateRaftVoterResponseCurrentLeader) := FnIs.of mixed Tryz.func14 (by kernel_rfl) (by kernel_rfl) (by kernel_rfl) (by kernel_rfl)
theorem sub_sUpdateRaftVoterResponseCurrentLeader : SubC Tryz.prog 14 (mkFS src_sUpdateRaftVoterResponseCurrentLeader) := sub_of tyK isc_sUpdateRaftVoterResponseCurrentLeader (by kernel_rfl) ⟨(fun g F h => by cases h), ⟨(fun g F h => by cases h), ⟨(fun g F h => by cases h), ⟨(fun g F h => by cases h), trivial⟩⟩⟩⟩
def src_UpdateRaftVoterResponse : List FSrc := [⟨[(0, 3), (2, (-1)), (3, (-1)), (4, (-1))], none⟩, ⟨[(0, 2), (2, (-1)), (3, (-1)), (4, (-1))], none⟩, ⟨[(0, 10), (2, (-1)), (3, (-1)), (4, 0)], some (14, mkFS src_sUpdateRaftVoterResponseCurrentLeader)⟩]
theorem isc_UpdateRaftVoterResponse : FnIs Tryz.prog 7 7 [.c 0 env.t_spec_Message] (irMsg env src_UpdateRaftVoterResponse 0) := FnIs.of mixed Tryz.func7 (by kernel_rfl) (by kernel_rfl) (by kernel_rfl) (by kernel_rfl)
theorem msg_UpdateRaftVoterResponse : MsgC Tryz.prog 7 (mkFS src_UpdateRaftVoterResponse) 0 := msg_of tyK isc_UpdateRaftVoterResponse (by kernel_rfl) ⟨(fun g F h => by cases h), ⟨(fun g F h => by cases h), ⟨(fun g F h => by cases h; exact sub_sUpdateRaftVoterResponseCurrentLeader), trivial⟩⟩⟩
theorem isL : FnIs Tryz.prog 3 56 [.t 6] (irFnCut env 5 7 9 36) := FnIs.of mixed Tryz.func3 (by kernel_rfl) (by kernel_rfl) (by kernel_rfl) (by kernel_rfl)
theorem hflex : ((List.range 1).all fun v => flexAt 0 v == flx v) = true := by kernel_rfl
theorem hfit : fitM 0 flx (mkFS src_UpdateRaftVoterResponse) km = true := by kernel_rfl
theorem agw : AgWM Tryz.prog 7 0 km flx (mkFS src_UpdateRaftVoterResponse) 0 where
  msg := msg_UpdateRaftVoterResponse
  ok := FS.ok_of (by kernel_rfl)
  len := of_decide_eq_true (by kernel_rfl)
  flex v hv := by simpa using List.all_eq_true.1 hflex v (by simp; omega)
  fit := hfit
theorem own : ownKnob Tryz.prog.godebug = none := by kernel_rfl
theorem laidOut : laidOutB Tryz.prog = true := by kernel_rfl
theorem gType : (Tryz.prog.globals[1]?).map (·.type) = some 50 := by kernel_rfl
theorem err_of_laid {W : World} (h : laidMetH Tryz.prog Rows.fnCutUpdateRaftVoterResponseUptoRow.laid W) : ∃ tv vv, W.cell? ⟨1, 0, none⟩ = some (.iface tv vv) := by
  have h' : laidMet Tryz.prog Rows.fnCutUpdateRaftVoterResponseUptoRow.laid W := h
  obtain ⟨a1, s1, hv1, _, _, _⟩ := laid_sentinel h' (by kernel_rfl) gType Tryz.underlying50 rowE Tryz.underlying145 Tryz.underlying162 rfl rfl Tryz.underlying9 (by kernel_rfl) (by kernel_rfl)
  exact ⟨145, .pointer (some a1), by simpa using World.var?_cell (by kernel_rfl) hv1 0⟩
noncomputable def low : Nat := (World.holding Tryz.prog default ⟨#[], #[], []⟩).heap.size
noncomputable def laidWorld (os : Os) : World :=
  let w0 := World.holding Tryz.prog os ⟨#[.cells #[.string { data := #[114, 101, 115, 112, 111, 110, 115, 101, 32, 100, 105, 100, 32, 110, 111, 116, 32, 99, 111, 110, 116, 97, 105, 110, 32, 101, 110, 111, 117, 103, 104, 32, 100, 97, 116, 97, 32, 116, 111, 32, 98, 101, 32, 118, 97, 108, 105, 100] }] 162], #[], []⟩
  { w0 with heap := w0.heap.modify 1 fun
      | .cells _ t frozen => .cells #[.iface 145 (.pointer (some ⟨low, 0, none⟩))] t frozen
      | o => o }
theorem laidWorld_met (os : Os) (args : Array Value) : laidMetH Tryz.prog Rows.fnCutUpdateRaftVoterResponseUptoRow.laid ((laidWorld os).forCall (fun _ _ => 0) ⟨#[], args, []⟩).memory :=
  laidMet_of_run (ps := [.cell 1 0, .cell low 0]) 8 (by kernel_rfl) (by kernel_rfl) (by kernel_rfl)
theorem walk {tv : TypeId} {vv : Value} (n : Nat) (hn : n < 256) (at_ : Nat) (hat : at_ < 65536) {w : World} {cs : List Value} {t : Tr} (hT : TreeAt w cs t) (hz : t.sz ≤ 1048576) (herr : w.cell? ⟨1, 0, none⟩ = some (.iface tv vv)) : Ret Tryz.prog 3 #[.int .u8 n, .agg cs.toArray, .int .u16 at_] w fun u w' => u = .bool true ∧ Ext none1 w w' :=
  c_FnCutM tyK spF is_laws_version fits (by kernel_rfl) agl agw (by decide) isL n hn at_ hat hT hz (of_decide_eq_true (by kernel_rfl)) herr
theorem reads (os : Os) {H : Type} (enc : TypeId × Value → H) : ∃ places, DataW.whole enc Tryz.prog ((laidWorld os).forCall (fun _ _ => 0) ⟨#[], #[.int .u8 0, .agg #[.int .i64 0, .slice none 0 0, .bool false, .slice none 0 0, .slice none 0 0], .int .u16 0], []⟩).memory Tryz.f3.params.toList Rows.fnCutUpdateRaftVoterResponseSpec.vars false (#[.int .u8 0, .agg #[.int .i64 0, .slice none 0 0, .bool false, .slice none 0 0, .slice none 0 0], .int .u16 0] : Array Value).toList 8 = some ([.lit (.int .u8 0), .agg [.lit (.int .i64 0), .nil, .lit (.bool false), .nil, .nil], .lit (.int .u16 0)], [], places) := ⟨[], by kernel_rfl⟩

theorem contract (H : Type) (enc : TypeId × Value → H) (W : World) (base : Nat) (args : Array Value) (ds gs : List (DataW H)) (before : List MemPlace)
    (hval0 : ∀ (j : Nat) t v, Tryz.f3.params[j]? = some t → args[j]? = some v → Value.okWide Tryz.prog W .any base t v)
    (hW : DataW.Whole enc Tryz.prog Tryz.f3.params.toList Rows.fnCutUpdateRaftVoterResponseSpec.vars false W args.toList ds gs before) (hbulk : Rows.uptoBulkAll (ds ++ gs) ≤ 1048576) (hL : laidMetH Tryz.prog Rows.fnCutUpdateRaftVoterResponseUptoRow.laid W) :
    Calls Tryz.prog 3 args W fun e W' => ∃ v, e = .returned v ∧ Rows.fnCutUpdateRaftVoterResponseSpec.post enc Tryz.prog Tryz.f3 false true false false W args v W' := by
  have hval : ∀ (j : Nat) t v, Tryz.f3.params[j]? = some t → args[j]? = some v → Value.okWide Tryz.prog W .any base t v := hval0
  have hW' := hW
  have hlt0 := hW'.lt
  obtain ⟨p, q, hA0, hV, rfl, hfz, hnd⟩ := hW
  have hA : DataW.TrodAll enc Tryz.prog W 0 (fun _ => true) true Tryz.f3.params.toList args.toList ds p := hA0
  rw [Tryz.params3] at hA hval
  obtain ⟨v0, vs0, d0, ds0, p0, q0, hargs, rfl, rfl, h0, r0⟩ := trodAll_cons hA
  obtain ⟨v1, vs1, d1, ds1, p1, q1, hargs1, rfl, rfl, h1, r1⟩ := trodAll_cons r0
  obtain ⟨v2, vs2, d2, ds2, p2, q2, hargs2, rfl, rfl, h2, r2⟩ := trodAll_cons r1
  obtain ⟨rfl, rfl, rfl⟩ := trodAll_nil r2
  obtain rfl : args = #[v0, v1, v2] := by rw [← Array.toArray_toList (xs := args), hargs, hargs1, hargs2]
  obtain ⟨rfl, rfl⟩ := trodVars_none hV
  obtain ⟨a0, rfl, rfl, rfl, w0⟩ := open_int Tryz.underlying5 (hval 0 5 v0 rfl rfl) h0
  obtain ⟨a2, rfl, rfl, rfl, w2⟩ := open_int Tryz.underlying27 (hval 2 27 v2 rfl rfl) h2
  have hx2 : 0 ≤ a2 ∧ a2 ≤ 65535 := by simpa [Lit.wf, IntKind.min, IntKind.max, IntKind.signed, IntKind.bits] using w2
  obtain ⟨at_, rfl⟩ : ∃ at_ : Nat, a2 = (at_ : Int) := ⟨a2.toNat, by omega⟩
  obtain ⟨cs, rfl⟩ := agg_of_ok Tryz.underlying26 (hval 1 26 v1 rfl rfl)
  have hbk : Rows.uptoBulk d1 ≤ 1048576 := by
    simp only [List.append_nil, List.cons_append, List.nil_append, Rows.uptoBulkAll] at hbulk
    omega
  obtain ⟨t, hT, hz⟩ := open_arg tyTr bulkL h1 hbk
  obtain ⟨tv, vv, herr⟩ := err_of_laid hL
  clear hA0 hval0
  simp only [List.append_nil, List.nil_append] at hW' hlt0
  have hx : 0 ≤ a0 ∧ a0 ≤ 255 := by simpa [Lit.wf, IntKind.min, IntKind.max, IntKind.signed, IntKind.bits] using w0
  obtain ⟨n, rfl⟩ : ∃ n : Nat, a0 = (n : Int) := ⟨a0.toNat, by omega⟩
  refine ((walk n (by omega) at_ (by omega) hT hz herr).2).mono fun e W' ⟨v, he, hv, hx'⟩ => ?_
  subst he; subst hv
  exact ⟨_, rfl, post_of_ext (pa := [] ++ (p1 ++ ([] ++ []))) (pv := []) hW' (fun _ _ _ => (trodAll_cons_mk (shut_bool Tryz.underlying4 _) trodAll_mk0)) (fun sp hsp => (trodAll_cons_mk (shut_int Tryz.underlying5 w0) (trodAll_cons_mk (ext_trod laidOut (by kernel_rfl) (of_decide_eq_true (by kernel_rfl)) h1 hx' (fun x hx => hlt0 x (by simpa using hx)) (fun x hx => hsp x (by simpa using hx))) (trodAll_cons_mk (shut_int Tryz.underlying27 w2) trodAll_mk0)))) (fun _ _ => rfl) (by simp)
    hx' (ok_one (by kernel_rfl) rfl (okWide_bool_mk Tryz.underlying4 _))⟩

set_option maxRecDepth 100000 in
theorem lifted (os : Os) (started : os.Started) (H : Type) (enc : TypeId × Value → H) (F : Stop.Interp) :
    ReturnsInHanded {} Tryz.checked os 3 .any ((Rows.OpenSpec.upto Rows.fnCutUpdateRaftVoterResponseSpec).preRow enc Tryz.prog Tryz.f3 Rows.fnCutUpdateRaftVoterResponseUptoRow.domain false Rows.fnCutUpdateRaftVoterResponseUptoRow.laid) (((Rows.OpenSpec.upto Rows.fnCutUpdateRaftVoterResponseSpec).at F).post enc Tryz.prog Tryz.f3 false true false false) := by
  obtain ⟨places, hx⟩ := reads os enc
  refine returnsInHanded_of_row (C := Tryz.checked) (s := Rows.OpenSpec.upto Rows.fnCutUpdateRaftVoterResponseSpec) own started (by kernel_rfl) Tryz.func3
    (witness_row_at (enc := enc) (C := Tryz.checked) false (laidWorld os) #[.int .u8 0, .agg #[.int .i64 0, .slice none 0 0, .bool false, .slice none 0 0, .slice none 0 0], .int .u16 0] rfl (by kernel_rfl) (by kernel_rfl) (by kernel_rfl)
      (OpenSpec.preRow_of_cond 8 hx (by kernel_rfl) (fun k hk => by cases hk; kernel_rfl) (by kernel_rfl) (laidWorld_met os _))) ?_
  intro W base args ds gs before hval hW _ hcond _ hL _ _
  exact contract H enc W base args ds gs before hval hW (of_decide_eq_true (hcond _ rfl)) hL

theorem row : Rows.FnCutUpdateRaftVoterResponseUptoSaid :=
  OpenClaim.holds_of_cond 3 Tryz.f3 rfl rfl rfl rfl rfl rfl rfl ⟨rfl, rfl, rfl, rfl, rfl⟩ rfl rfl rfl rfl rfl (by kernel_rfl) Tryz.func3 (by kernel_rfl)
    (of_decide_eq_true (by kernel_rfl)) (by unfold Func.isWrapper; first | (rw [if_pos (by decide +kernel)]; kernel_rfl) | (rw [if_neg (by decide +kernel)]; exact ⟨rfl, rfl⟩))
    (fun os started H enc _ F => by rw [OpenClaim.pre_eq_preRow]; exact lifted os started H enc F)

theorem proved : Rows.FnCutUpdateRaftVoterResponseUptoCardSaid :=
  Claim7.holds_tied_plain_at .later [] [.sentinel] true (true, "0f3fb3961f8eb8d8d5446b99b1b9f0f70200102b45e73bbdaa867c7ccba468d8") false
    row (fun _ h => by cases h) (by kernel_rfl) (fun _ h => by cases h) fnCutUpdateRaftVoterResponseUpto_row_tie rfl ⟨rfl, rfl⟩ (by kernel_rfl) rfl
    (fun f fn hf hfn => by
      obtain rfl : f = 3 := Option.some.inj ((show Tryz.prog.funcNamed "pub-kmsg/laws.FnCutUpdateRaftVoterResponse" = some 3 by kernel_rfl).symm.trans hf) |>.symm
      obtain rfl : fn = Tryz.f3 := (Option.some.inj (Tryz.func3.symm.trans hfn)).symm
      exact ⟨by kernel_rfl, fun j t ht => by
        rw [Tryz.params3] at ht
        have hm : t ∈ [5, 26, 27] := by simpa using Array.mem_of_getElem? ht
        have hall : ([5, 26, 27].all fun u => !Tryz.prog.wantsStandIn u) = true := by kernel_rfl
        exact (show Tryz.prog.wantsStandIn t = false by simpa using List.all_eq_true.1 hall t hm)⟩)
    (by kernel_rfl)
end cutUpdateRaftVoterResponse
end Go.Proofs.YtgpfppgobfjieaaGreatDoor
