/- What is read of any bytes as a FetchRequest is written as bytes that are read again, and written as the same. Of any bytes: no condition. -/
import Derived.Test.YthmmcbmgeoaefaaGreatDoorKgF
import Derived.Test.YthmmcbmgeoaefaaGreatDoorRows
import Derived.Test.YthmmcbmgeoaefaaGreatDoorTie
import Derived.Test.YthmmcbmgeoaefaaGreatDoorCards
import Derived.ProofKit
import Derived.OpenShut
import Derived.Stop.LaidErr
import Derived.Handed
import Derived.JoinedOf
import Derived.SevenTiedAt
import Derived.Deep.DeepHandedRow
import Derived.Lib.LaidTab
set_option linter.unusedVariables false
set_option linter.unusedSectionVars false
set_option linter.unusedSimpArgs false
set_option maxRecDepth 100000
namespace Go.Proofs.YthmmcbmgeoaefaaGreatDoor
namespace anyFetchRequest
open Go Go.Kg kg Go.ChangeShapes Go.WideShapes Go.ChangeAt Go.RowKit
def cfg : Cfg := ⟨env, true, 5, 6⟩
def cfgR : CfgR := ⟨⟨env, true, 5, 6⟩, 7, 39, 38, 52, 50⟩
def dj : List DJ := [.st ⟨1, 1, Prim.ty env .nstr, .pointer none⟩, .st ⟨2, 2, Prim.ty env .i32, .int .i32 (-1)⟩, .sb 3 3 43 74 [⟨0, 0, Prim.ty env .i32, .int .i32 (-1)⟩, ⟨1, 1, Prim.ty env .i64, .int .i64 (-1)⟩], .st ⟨6, 8, Prim.ty env .i32, .int .i32 2147483647⟩, .st ⟨9, 11, Prim.ty env .i32, .int .i32 (-1)⟩]
def ksP : List KF := [⟨0, 6, 6, .prim .uuid 0⟩, ⟨1, 7, 22, .prim .i64 9223372036854775807⟩]
theorem naP : (ksP.all fun f => f.c.noArr) = true := by rfl
theorem dfP : (ksP.all fun f => f.c.dflB) = true := by rfl
def ksT : List KF := [⟨0, 1, 1, .prim .nstr 0⟩, ⟨1, 3, 3, .str 43 74 3 28 26 27 (.prim ⟨none, none⟩ 0 0 .i32 0 (-1) (.prim ⟨none, none⟩ 1 1 .i64 0 (-1) (.tags 2 2)))⟩]
theorem naT : (ksT.all fun f => f.c.noArr) = true := by rfl
theorem dfT : (ksT.all fun f => f.c.dflB) = true := by rfl
def cusP : Cus := secCus ksP 8 23 64 62 0 naP (fun ver => KsWf_dfl ver dfP)
def s1 : Sch := .prim ⟨some 0, some 14⟩ 2 2 .i32 0 (-1) (.fin)
def s2 : Sch := .prim ⟨none, none⟩ 4 6 .i32 0 0 (.prim ⟨none, none⟩ 5 7 .i32 0 0 (.prim ⟨some 3, none⟩ 6 8 .i32 0 2147483647 (.prim ⟨some 4, none⟩ 7 9 .i8 0 0 (.prim ⟨some 7, none⟩ 8 10 .i32 0 0 (.prim ⟨some 7, none⟩ 9 11 .i32 0 (-1) (.arrS ⟨none, none⟩ 10 12 45 none 57 53 19 37 (.prim ⟨some 0, some 12⟩ 0 0 .str 0 0 (.prim ⟨some 13, none⟩ 1 1 .uuid 0 0 (.arrS ⟨none, none⟩ 2 17 55 none 62 60 24 43 (.prim ⟨none, none⟩ 0 0 .i32 0 0 (.prim ⟨some 9, none⟩ 1 1 .i32 0 (-1) (.prim ⟨none, none⟩ 2 2 .i64 0 0 (.prim ⟨some 12, none⟩ 3 3 .i32 0 (-1) (.prim ⟨some 5, none⟩ 4 4 .i64 0 (-1) (.prim ⟨none, none⟩ 5 5 .i32 0 0 (.cus cusP))))))) (.tags 3 18)))) (.arrS ⟨some 7, none⟩ 11 13 46 none 70 67 19 49 (.prim ⟨some 7, some 12⟩ 0 0 .str 0 0 (.prim ⟨some 13, none⟩ 1 1 .uuid 0 0 (.arrP ⟨none, none⟩ 2 17 68 none .i32 (.tags 3 18)))) (.prim ⟨some 11, none⟩ 12 14 .str 0 0 (.fin)))))))))
theorem in1 : s1.inB 2 3 = true := by rfl
theorem in2 : s2.inB 6 15 = true := by rfl
def c1 : Cus := Cus.ofSch s1 2 3 48 in1
def c2 : Cus := Cus.ofSch s2 6 15 48 in2
def c3 : Cus := secCus ksT 13 15 64 48 0 naT (fun ver => KsWf_dfl ver dfT)
def dits : List DI := (dj.flatMap DJ.sts).map DI.st
theorem ditOne : ((dits.filterMap DI.st?).all fun x => x.v.oneCell') = true := by rfl
def cusT : Cus := (c1.seq (c2.seq c3)).withDit (fun _ => dits) (fun _ => List.all_eq_true.1 ditOne)
def sch : Sch := .cus cusT
def nl : Nat := (sch.genW cfg 48 30 0 ⟨7, 0, 0⟩).2.l
def nlR : Nat := (sch.genR cfgR 48 30 0 (ctR cfgR false 0)).2.l
theorem isW : FnIs Tryz.prog 12 538 [.t 4] (msgW cfg 48 30 12 sch nl) := FnIs.of mixed Tryz.func12 (by kernel_rfl) (by kernel_rfl) (by kernel_rfl) (by kernel_rfl)
theorem isD : FnIs Tryz.prog 13 25 [] (irDefJ cfg 48 30 dj) := FnIs.of mixed Tryz.func13 (by kernel_rfl) (by kernel_rfl) (by kernel_rfl) (by kernel_rfl)
theorem isS : FnIs Tryz.prog 10 8 [] (irSetV cfg 48 30) := FnIs.of mixed Tryz.func10 (by kernel_rfl) (by kernel_rfl) (by kernel_rfl) (by kernel_rfl)
theorem isP : FnIs Tryz.prog 8 3 [.t 0] (irNewPtr cfg 48 30 13) := FnIs.of mixed Tryz.func8 (by kernel_rfl) (by kernel_rfl) (by kernel_rfl) (by kernel_rfl)
theorem isV : FnIs Tryz.prog 9 3 [.t 2] (irMaxV env 18) := FnIs.of mixed Tryz.func9 (by kernel_rfl) (by kernel_rfl) (by kernel_rfl) (by kernel_rfl)
theorem isM : FnIs Tryz.prog 4 4 [.t 0] (irMax env 30 8 9) := FnIs.of mixed Tryz.func4 (by kernel_rfl) (by kernel_rfl) (by kernel_rfl) (by kernel_rfl)
theorem isA : FnIs Tryz.prog 5 19 [.t 4, .t 5] (irAgain cfg 30 8 10 11 12) := FnIs.of mixed Tryz.func5 (by kernel_rfl) (by kernel_rfl) (by kernel_rfl) (by kernel_rfl)
theorem isF : FnIs Tryz.prog 11 8 [.t 4] (irRF cfg 30 14) := FnIs.of mixed Tryz.func11 (by kernel_rfl) (by kernel_rfl) (by kernel_rfl) (by kernel_rfl)
theorem isR : FnIs Tryz.prog 14 492 [.t 6] (msgR cfgR 48 30 12 13 false sch nlR) := FnIs.of mixed Tryz.func14 (by kernel_rfl) (by kernel_rfl) (by kernel_rfl) (by kernel_rfl)
theorem endc : EndC Tryz.prog cfgR := endC_of tyRs (by kernel_rfl) is_pkbin_Reader_Ok is_pkbin_Reader_Complete
theorem endc0 : EndC0 Tryz.prog cfgR := endc.toEndC0
theorem uuE : isAgg16 (kindOf Tryz.prog env.tUu) = true → TyUuE Tryz.prog env := fun _ => { toTyUu := tyUu, g := by kernel_rfl, u8 := by kernel_rfl, k8 := by kernel_rfl, i8 := ⟨(Tryz.prog.info? env.tU8).get (by kernel_rfl), by kernel_rfl⟩, c8 := by kernel_rfl }
theorem tyR : TyR Tryz.prog cfgR := ⟨⟨by kernel_rfl, by kernel_rfl, by kernel_rfl, uuF, fun _ => trivial⟩, uuF, by kernel_rfl, by kernel_rfl⟩
theorem sec : SecR Tryz.prog cfgR := { ty := tyR, fx := rfl, rb := tyRb, iU := by kernel_rfl, iI := by kernel_rfl, uErr := ⟨_, Tryz.underlying35⟩, endc := endc0, uv := r_Uv, span := r_Span }
theorem sS : SliI Tryz.prog 64 env.tU32 1 4 (.int .u32 0) := sli_of (by kernel_rfl) (by kernel_rfl) rfl
theorem needWP : KsNeedW Tryz.prog cfg tagsOk ksP := ⟨primW_uuid w_uuid, ⟨primW_i64 w_i64, trivial⟩⟩
theorem needRP : KsNeedR Tryz.prog cfgR ksP := ⟨primR_uuid r_Uuid, ⟨primR_i64 r_Int64, trivial⟩⟩
theorem tyWP : (ksP.all (·.tyW Tryz.prog cfg 62)) = true := by kernel_rfl
theorem tyRP : (ksP.all fun kf => kf.tyR Tryz.prog cfgR 62) = true := by kernel_rfl
theorem ftP : fldOff Tryz.prog 62 8 = some 23 := by kernel_rfl
theorem sw_cusP : cusP.SoundW Tryz.prog cfg tagsOk := secCus_w (tyC2 true) rfl uuE tBs.siz (by kernel_rfl) (by kernel_rfl) tagsT sS tyWP needWP (by decide) (by decide) ftP
theorem sr_cusP : ∀ l, cusP.SoundR Tryz.prog { cfgR with rs := l } := fun l => secCus_r (lo := 6) (secR_rs l sec) tyTg (by kernel_rfl) is_pkmsg_Tags_Set ftP (ksTyR_rs l 62 tyRP) (KsNeedR_rs l needRP) (by rfl)
theorem need1 : s1.NeedW Tryz.prog cfg tagsOk := ⟨primW_i32 w_i32, trivial⟩
theorem needR1 : s1.NeedR Tryz.prog cfgR := ⟨primR_i32 r_Int32, trivial⟩
theorem sw_c1 : c1.SoundW Tryz.prog cfg tagsOk := ofSch_w (tyC2 true) (by kernel_rfl) need1
theorem tyR1 : s1.tyR Tryz.prog cfgR 48 3 2 = true := by kernel_rfl
theorem sr_c1 : ∀ l, c1.SoundR Tryz.prog { cfgR with rs := l } := fun l => ofSch_r (TyR_rs l tyR) (by decide) ((tyR_rs l s1 48 3 2).trans tyR1) (NeedR_rs l s1 needR1)
theorem need2 : s2.NeedW Tryz.prog cfg tagsOk := ⟨primW_i32 w_i32, ⟨primW_i32 w_i32, ⟨primW_i32 w_i32, ⟨primW_i8 w_i8, ⟨primW_i32 w_i32, ⟨primW_i32 w_i32, ⟨lenWC_none w_len (fun _ => w_clen), ⟨primW_str w_str (fun _ => w_cstr), ⟨primW_uuid w_uuid, ⟨lenWC_none w_len (fun _ => w_clen), ⟨primW_i32 w_i32, ⟨primW_i32 w_i32, ⟨primW_i64 w_i64, ⟨primW_i32 w_i32, ⟨primW_i64 w_i64, ⟨primW_i32 w_i32, sw_cusP⟩⟩⟩⟩⟩⟩, tagsT⟩⟩⟩, ⟨lenWC_none w_len (fun _ => w_clen), ⟨primW_str w_str (fun _ => w_cstr), ⟨primW_uuid w_uuid, ⟨primW_i32 w_i32, lenWC_none w_len (fun _ => w_clen), tagsT⟩⟩⟩, ⟨primW_str w_str (fun _ => w_cstr), trivial⟩⟩⟩⟩⟩⟩⟩⟩⟩
theorem isD_0 : FnIs Tryz.prog 43 14 [] (Sch.genDf cfg 62 60 (.prim ⟨none, none⟩ 0 0 .i32 0 0 (.prim ⟨some 9, none⟩ 1 1 .i32 0 (-1) (.prim ⟨none, none⟩ 2 2 .i64 0 0 (.prim ⟨some 12, none⟩ 3 3 .i32 0 (-1) (.prim ⟨some 5, none⟩ 4 4 .i64 0 (-1) (.prim ⟨none, none⟩ 5 5 .i32 0 0 (.cus cusP)))))))) := FnIs.of mixed Tryz.func43 (by kernel_rfl) (by kernel_rfl) (by kernel_rfl) (by kernel_rfl)
theorem dfr_0 : DefRC Tryz.prog cfg 24 43 (.prim ⟨none, none⟩ 0 0 .i32 0 0 (.prim ⟨some 9, none⟩ 1 1 .i32 0 (-1) (.prim ⟨none, none⟩ 2 2 .i64 0 0 (.prim ⟨some 12, none⟩ 3 3 .i32 0 (-1) (.prim ⟨some 5, none⟩ 4 4 .i64 0 (-1) (.prim ⟨none, none⟩ 5 5 .i32 0 0 (.cus cusP))))))) := fun w b a c et hb hn => defaultCI (by decide) isD_0 (by kernel_rfl) hb hn
theorem isD_1 : FnIs Tryz.prog 37 2 [] (Sch.genDf cfg 57 53 (.prim ⟨some 0, some 12⟩ 0 0 .str 0 0 (.prim ⟨some 13, none⟩ 1 1 .uuid 0 0 (.arrS ⟨none, none⟩ 2 17 55 none 62 60 24 43 (.prim ⟨none, none⟩ 0 0 .i32 0 0 (.prim ⟨some 9, none⟩ 1 1 .i32 0 (-1) (.prim ⟨none, none⟩ 2 2 .i64 0 0 (.prim ⟨some 12, none⟩ 3 3 .i32 0 (-1) (.prim ⟨some 5, none⟩ 4 4 .i64 0 (-1) (.prim ⟨none, none⟩ 5 5 .i32 0 0 (.cus cusP))))))) (.tags 3 18))))) := FnIs.of mixed Tryz.func37 (by kernel_rfl) (by kernel_rfl) (by kernel_rfl) (by kernel_rfl)
theorem dfr_1 : DefRC Tryz.prog cfg 19 37 (.prim ⟨some 0, some 12⟩ 0 0 .str 0 0 (.prim ⟨some 13, none⟩ 1 1 .uuid 0 0 (.arrS ⟨none, none⟩ 2 17 55 none 62 60 24 43 (.prim ⟨none, none⟩ 0 0 .i32 0 0 (.prim ⟨some 9, none⟩ 1 1 .i32 0 (-1) (.prim ⟨none, none⟩ 2 2 .i64 0 0 (.prim ⟨some 12, none⟩ 3 3 .i32 0 (-1) (.prim ⟨some 5, none⟩ 4 4 .i64 0 (-1) (.prim ⟨none, none⟩ 5 5 .i32 0 0 (.cus cusP))))))) (.tags 3 18)))) := fun w b a c et hb hn => defaultCI (by decide) isD_1 (by kernel_rfl) hb hn
theorem isD_2 : FnIs Tryz.prog 49 2 [] (Sch.genDf cfg 70 67 (.prim ⟨some 7, some 12⟩ 0 0 .str 0 0 (.prim ⟨some 13, none⟩ 1 1 .uuid 0 0 (.arrP ⟨none, none⟩ 2 17 68 none .i32 (.tags 3 18))))) := FnIs.of mixed Tryz.func49 (by kernel_rfl) (by kernel_rfl) (by kernel_rfl) (by kernel_rfl)
theorem dfr_2 : DefRC Tryz.prog cfg 19 49 (.prim ⟨some 7, some 12⟩ 0 0 .str 0 0 (.prim ⟨some 13, none⟩ 1 1 .uuid 0 0 (.arrP ⟨none, none⟩ 2 17 68 none .i32 (.tags 3 18)))) := fun w b a c et hb hn => defaultCI (by decide) isD_2 (by kernel_rfl) hb hn
theorem needR2 : s2.NeedR Tryz.prog cfgR := ⟨primR_i32 r_Int32, ⟨primR_i32 r_Int32, ⟨primR_i32 r_Int32, ⟨primR_i8 r_Int8, ⟨primR_i32 r_Int32, ⟨primR_i32 r_Int32, ⟨lenRC_of r_Len (fun _ => r_CLen), endc, dfr_1, ⟨primR_str r_String (fun _ => r_CString), ⟨primR_uuid r_Uuid, ⟨lenRC_of r_Len (fun _ => r_CLen), endc, dfr_0, ⟨primR_i32 r_Int32, ⟨primR_i32 r_Int32, ⟨primR_i64 r_Int64, ⟨primR_i32 r_Int32, ⟨primR_i64 r_Int64, ⟨primR_i32 r_Int32, sr_cusP⟩⟩⟩⟩⟩⟩, (r_Tags cfgR rfl)⟩⟩⟩, ⟨lenRC_of r_Len (fun _ => r_CLen), endc, dfr_2, ⟨primR_str r_String (fun _ => r_CString), ⟨primR_uuid r_Uuid, ⟨primR_i32 r_Int32, lenRC_of r_Len (fun _ => r_CLen), endc, (r_Tags cfgR rfl)⟩⟩⟩, ⟨primR_str r_String (fun _ => r_CString), trivial⟩⟩⟩⟩⟩⟩⟩⟩⟩
theorem sw_c2 : c2.SoundW Tryz.prog cfg tagsOk := ofSch_w (tyC2 true) (by kernel_rfl) need2
theorem tyR2 : s2.tyR Tryz.prog cfgR 48 15 6 = true := by kernel_rfl
theorem sr_c2 : ∀ l, c2.SoundR Tryz.prog { cfgR with rs := l } := fun l => ofSch_r (TyR_rs l tyR) (by decide) ((tyR_rs l s2 48 15 6).trans tyR2) (NeedR_rs l s2 needR2)
theorem isD_3 : FnIs Tryz.prog 28 8 [] (Sch.genDf cfg 43 74 ((.prim ⟨none, none⟩ 0 0 .i32 0 (-1) (.prim ⟨none, none⟩ 1 1 .i64 0 (-1) (.tags 2 2))))) := FnIs.of mixed Tryz.func28 (by kernel_rfl) (by kernel_rfl) (by kernel_rfl) (by kernel_rfl)
theorem dfr_3 : DefRC Tryz.prog cfg 3 28 ((.prim ⟨none, none⟩ 0 0 .i32 0 (-1) (.prim ⟨none, none⟩ 1 1 .i64 0 (-1) (.tags 2 2)))) := fun w b a c et hb hn => defaultCI (by decide) isD_3 (by kernel_rfl) hb hn
theorem uB : Tryz.prog.underlying env.tB = some .bool := by kernel_rfl
noncomputable def wholeTS : Ir := match Tryz.f60.body.bind (erase 56) with | some c => c | none => .skip
noncomputable def bodyTS : Ir := wholeTS.rt.rt.lt.rt.inn.inn.rt.rt.inn
theorem isTS : FnIs Tryz.prog 60 56 [.t 4] (irSameT env bodyTS) := FnIs.of mixed Tryz.func60 (by kernel_rfl) (by kernel_rfl) (by kernel_rfl) (by kernel_rfl)
theorem isSm1 : FnIs Tryz.prog 26 24 [.t 4] (irSameS cfg 43 60 ((.prim ⟨none, none⟩ 0 0 .i32 0 (-1) (.prim ⟨none, none⟩ 1 1 .i64 0 (-1) (.tags 2 2))))) := FnIs.of mixed Tryz.func26 (by kernel_rfl) (by kernel_rfl) (by kernel_rfl) (by kernel_rfl)
theorem isMk1 : FnIs Tryz.prog 27 4 [.c 0 43] (irNewK cfg 43 28) := FnIs.of mixed Tryz.func27 (by kernel_rfl) (by kernel_rfl) (by kernel_rfl) (by kernel_rfl)
theorem sameK1 : SameK Tryz.prog 26 ((.prim ⟨none, none⟩ 0 0 .i32 0 (-1) (.prim ⟨none, none⟩ 1 1 .i64 0 (-1) (.tags 2 2)))) := fun w K cs ds x hr hd => c_sameS (C := cfg) (fun w K u l hl => c_sameT tyTg uB isTS (by decide) hl) isSm1 (by decide) (by kernel_rfl) hr hd
noncomputable def z1 : Array Value := match zeroOf Tryz.prog 43 with | some (.agg z) => z | _ => #[]
theorem hz1 : zeroOf Tryz.prog 43 = some (.agg z1) := by kernel_rfl
theorem hzn1 : z1.size = 3 := by kernel_rfl
theorem hk1 : kindOf Tryz.prog 43 = .agg 3 := by kernel_rfl
theorem hone1 : allOne (setD 0 (Sch.dst cfg ((.prim ⟨none, none⟩ 0 0 .i32 0 (-1) (.prim ⟨none, none⟩ 1 1 .i64 0 (-1) (.tags 2 2))))) z1).toList = true := by kernel_rfl
theorem hchk1 : Sch.chkD (setD 0 (Sch.dst cfg ((.prim ⟨none, none⟩ 0 0 .i32 0 (-1) (.prim ⟨none, none⟩ 1 1 .i64 0 (-1) (.tags 2 2))))) z1).toList ((.prim ⟨none, none⟩ 0 0 .i32 0 (-1) (.prim ⟨none, none⟩ 1 1 .i64 0 (-1) (.tags 2 2)))) = true := by kernel_rfl
theorem mkK1 : MkC Tryz.prog 27 ((.prim ⟨none, none⟩ 0 0 .i32 0 (-1) (.prim ⟨none, none⟩ 1 1 .i64 0 (-1) (.tags 2 2)))) := fun w => (newKC isMk1 hz1 hzn1 hk1 hone1 dfr_3 w).mono fun v w' h => ⟨⟨_, h.1, hchk1⟩, h.2⟩
theorem needWT : KsNeedW Tryz.prog cfg tagsOk ksT := ⟨primW_nstr w_nstr (fun _ => w_cnstr), ⟨⟨⟨primW_i32 w_i32, ⟨primW_i64 w_i64, tagsT⟩⟩, sameK1, mkK1⟩, trivial⟩⟩
theorem needRT : KsNeedR Tryz.prog cfgR ksT := ⟨primR_nstr r_NString (fun _ => r_CNString), ⟨⟨dfr_3, ⟨primR_i32 r_Int32, ⟨primR_i64 r_Int64, (r_Tags cfgR rfl)⟩⟩⟩, trivial⟩⟩
theorem tyWT : (ksT.all (·.tyW Tryz.prog cfg 48)) = true := by kernel_rfl
theorem tyRT : (ksT.all fun kf => kf.tyR Tryz.prog cfgR 48) = true := by kernel_rfl
theorem ftT : fldOff Tryz.prog 48 13 = some 15 := by kernel_rfl
theorem sw_c3 : c3.SoundW Tryz.prog cfg tagsOk := secCus_w (tyC2 true) rfl uuE tBs.siz (by kernel_rfl) (by kernel_rfl) tagsT sS tyWT needWT (by decide) (by decide) ftT
theorem sr_c3 : ∀ l, c3.SoundR Tryz.prog { cfgR with rs := l } := fun l => secCus_r (lo := 1) (secR_rs l sec) tyTg (by kernel_rfl) is_pkmsg_Tags_Set ftT (ksTyR_rs l 48 tyRT) (KsNeedR_rs l needRT) (by rfl)
theorem dis2 : ∀ j ∈ c2.own, j ∉ c3.own := of_decide_eq_true (by kernel_rfl)
theorem dis1 : ∀ j ∈ c1.own, j ∉ (c2.seq c3).own := of_decide_eq_true (by kernel_rfl)
theorem sw_T : cusT.SoundW Tryz.prog cfg tagsOk := withDit_w (seq_w sw_c1 (seq_w sw_c2 sw_c3))
theorem sr_T : ∀ l, cusT.SoundR Tryz.prog { cfgR with rs := l } := fun l => withDit_r (seq_r dis1 (sr_c1 l) (seq_r dis2 (sr_c2 l) (sr_c3 l)))
theorem mok : MsgOk Tryz.prog cfg tagsOk 48 30 12 sch nl := ⟨tyC2 true, ⟨rfl, rfl⟩, by kernel_rfl, by kernel_rfl, sw_T, of_decide_eq_true (by kernel_rfl)⟩
noncomputable def z : Array Value := match zeroOf Tryz.prog 48 with | some (.agg z) => z | _ => #[]
theorem hz : zeroOf Tryz.prog 48 = some (.agg z) := by kernel_rfl
theorem hzn : z.size = 16 := by kernel_rfl
theorem hDef : DefRC Tryz.prog cfg 16 13 sch := defaultCJ (by decide) isD (by kernel_rfl) rfl
theorem hPtr (w : World) : Ret Tryz.prog 8 #[] w fun v w' => v = .pointer (some ⟨w.heap.size, 0, none⟩) ∧ w'.heap[w.heap.size]? = some (.cells (setD 0 (sch.dst cfg) z) 48 (0, 0)) ∧ Ext none1 w w' ∧ w.heap.size < w'.heap.size := newPtrC isP hz (Nat.le_of_eq hzn.symm) (fun hb hn => hDef _ _ _ _ _ hb hn) w
theorem mrk : MsgRk Tryz.prog cfgR 48 30 12 13 16 sch nlR := ⟨rfl, tyR, tyRb, by kernel_rfl, sr_T, endc0, hDef, by kernel_rfl, of_decide_eq_true (by kernel_rfl)⟩
theorem hchk : ∀ ver : Int, sch.chkD ((setD 0 (sch.dst cfg) z).setIfInBounds 0 (.int .i16 ver)).toList = true := fun ver => by kernel_rfl
theorem hid : ∀ ver : Int, (setD 0 (sch.dst cfg) ((setD 0 (sch.dst cfg) z).setIfInBounds 0 (.int .i16 ver))) = (setD 0 (sch.dst cfg) z).setIfInBounds 0 (.int .i16 ver) := fun ver => by kernel_rfl
def flx (v : Nat) : Bool := flagAt cfg 12 v
theorem hpos : ((List.range 19).all fun v => sch.posE v (flx v)) = true := by kernel_rfl
theorem agl {tv : TypeId} {vv : Value} : AgL Tryz.prog env 4 5 18 sch flx (.iface tv vv) where
  max w := c_max (by decide) isM (by kernel_rfl) (by kernel_rfl) (fun w => (hPtr w).mono fun _ _ h => h.2.2.1) (fun v w => c_maxV (by decide) isV v w) w
  again v hv _ _ _ _ hs hlen herr hgood := againC (et := 0) (nl2 := 0) (C := cfgR) (T := 48) (flex := 12) (S := sch) (z := z) (by decide) isA isF (by decide) mrk (by decide) isR hPtr (fun hb hc ver => setVC (by decide) isS (by kernel_rfl) (by kernel_rfl) hb hc ver)
    (fun hcs hver hrep hok hb ho hbase hsz => appendTo mok (by decide) isW hcs hver hrep hok hb ho hbase hsz) (by kernel_rfl) (by kernel_rfl) tBs ⟨_, Tryz.underlying35⟩ ⟨_, _, rfl⟩ hzn (by decide) hid hchk (v : Int) ⟨by omega, by omega⟩ hs hlen herr hgood
  hM := by decide
  pos v hv := List.all_eq_true.1 hpos v (by simp; omega)
theorem isL : FnIs Tryz.prog 3 43 [.t 4] (irFnAny env 4 5 24) := FnIs.of mixed Tryz.func3 (by kernel_rfl) (by kernel_rfl) (by kernel_rfl) (by kernel_rfl)
theorem own : ownKnob Tryz.prog.godebug = none := by kernel_rfl
theorem laidOut : laidOutB Tryz.prog = true := by kernel_rfl
theorem gType : (Tryz.prog.globals[1]?).map (·.type) = some 35 := by kernel_rfl
theorem err_of_laid {W : World} (h : laidMetH Tryz.prog Rows.fnAnyFetchRequestRow.laid W) : ∃ tv vv, W.cell? ⟨1, 0, none⟩ = some (.iface tv vv) := by
  have h' : laidMet Tryz.prog Rows.fnAnyFetchRequestRow.laid W := h
  obtain ⟨a1, s1, hv1, _, _, _⟩ := laid_sentinel h' (by kernel_rfl) gType Tryz.underlying35 rowE Tryz.underlying142 Tryz.underlying159 rfl rfl Tryz.underlying9 (by kernel_rfl) (by kernel_rfl)
  exact ⟨142, .pointer (some a1), by simpa using World.var?_cell (by kernel_rfl) hv1 0⟩
noncomputable def low : Nat := (World.holding Tryz.prog default ⟨#[], #[], []⟩).heap.size
noncomputable def laidWorld (os : Os) : World :=
  let w0 := World.holding Tryz.prog os ⟨#[.cells #[.string { data := #[114, 101, 115, 112, 111, 110, 115, 101, 32, 100, 105, 100, 32, 110, 111, 116, 32, 99, 111, 110, 116, 97, 105, 110, 32, 101, 110, 111, 117, 103, 104, 32, 100, 97, 116, 97, 32, 116, 111, 32, 98, 101, 32, 118, 97, 108, 105, 100] }] 159], #[], []⟩
  { w0 with heap := w0.heap.modify 1 fun
      | .cells _ t frozen => .cells #[.iface 142 (.pointer (some ⟨low, 0, none⟩))] t frozen
      | o => o }
theorem laidWorld_met (os : Os) (args : Array Value) : laidMetH Tryz.prog Rows.fnAnyFetchRequestRow.laid ((laidWorld os).forCall (fun _ _ => 0) ⟨#[], args, []⟩).memory :=
  laidMet_of_run (ps := [.cell 1 0, .cell low 0]) 8 (by kernel_rfl) (by kernel_rfl) (by kernel_rfl)
theorem walk {tv : TypeId} {vv : Value} (n : Nat) (hn : n < 256) {w : World} {sv : Value} {src : List UInt8} (hs : BytesAt w All sv src) (herr : w.cell? ⟨1, 0, none⟩ = some (.iface tv vv)) : Ret Tryz.prog 3 #[.int .u8 n, sv] w fun u w' => u = .bool true ∧ Ext none1 w w' := c_FnAny0 (by kernel_rfl) (fun w K K' va vb s t h1 h2 h3 => c_SameV tyWr (by kernel_rfl) (by kernel_rfl) is_spec_Same w K K' va vb s t h1 h2 h3) is_laws_version (by kernel_rfl) (by kernel_rfl) agl (by decide) isL n hn hs herr

set_option maxRecDepth 100000 in
theorem lifted (os : Os) (started : os.Started) (H : Type) (enc : TypeId × Value → H) :
    ReturnsInHanded {} Tryz.checked os 3 .any (fun w args => (Rows.fnAnyFetchRequestSpec.pre enc Tryz.prog Tryz.f3 [] false w args ∧ laidMetH Tryz.prog Rows.fnAnyFetchRequestRow.laid w) ∧ sizedMet enc Tryz.prog Tryz.f3 (OpenSpec.ofChange Rows.fnAnyFetchRequestSpec) false w args) (Rows.fnAnyFetchRequestSpec.post enc Tryz.prog Tryz.f3 false true false false) := by
  refine returnsInHanded_of_change_and (C := Tryz.checked) (X := fun w _ => laidMetH Tryz.prog Rows.fnAnyFetchRequestRow.laid w) (fun _ _ _ hh h => h.of_heap hh) own started (by kernel_rfl) Tryz.func3
    (ChangeSpec.witness_at (enc := enc) (C := Tryz.checked) (os := os) (X := fun w _ => laidMetH Tryz.prog Rows.fnAnyFetchRequestRow.laid w) false (laidWorld os) #[.int .u8 0, .slice none 0 0] 8 rfl (by kernel_rfl) (by kernel_rfl) (by kernel_rfl) (by kernel_rfl) (by kernel_rfl) (laidWorld_met os _)) ?_
  intro W base args ds gs before hval0 hW _ _ hL _
  have hval : ∀ (j : Nat) t v, Tryz.f3.params[j]? = some t → args[j]? = some v → Value.okWide Tryz.prog W .any base t v := hval0
  have hW' := hW
  have hlt0 := hW'.lt
  obtain ⟨p, q, hA0, hV, rfl, hfz, hnd⟩ := hW
  have hA : DataW.TrodAll enc Tryz.prog W 0 (fun _ => true) true Tryz.f3.params.toList args.toList ds p := hA0
  rw [Tryz.params3] at hA hval
  obtain ⟨v0, vs0, d0, ds0, p0, q0, hargs, rfl, rfl, h0, r0⟩ := trodAll_cons hA
  obtain ⟨v1, vs1, d1, ds1, p1, q1, hargs1, rfl, rfl, h1, r1⟩ := trodAll_cons r0
  obtain ⟨rfl, rfl, rfl⟩ := trodAll_nil r1
  obtain rfl : args = #[v0, v1] := by rw [← Array.toArray_toList (xs := args), hargs, hargs1]
  obtain ⟨rfl, rfl⟩ := trodVars_none hV
  obtain ⟨a0, rfl, rfl, rfl, w0⟩ := open_int Tryz.underlying5 (hval 0 5 v0 rfl rfl) h0
  obtain ⟨src, hsrc⟩ := open_bytesAt Tryz.underlying22 Tryz.underlying5 (by kernel_rfl) (hval 1 22 v1 rfl rfl) h1
  obtain ⟨tv, vv, herr⟩ := err_of_laid hL
  clear hA0 hval0
  simp only [List.append_nil, List.nil_append] at hW' hlt0
  have hx : 0 ≤ a0 ∧ a0 ≤ 255 := by simpa [Lit.wf, IntKind.min, IntKind.max, IntKind.signed, IntKind.bits] using w0
  obtain ⟨n, rfl⟩ : ∃ n : Nat, a0 = (n : Int) := ⟨a0.toNat, by omega⟩
  refine ((walk n (by omega) hsrc herr).2).mono fun e W' ⟨v, he, hv, hx'⟩ => ?_
  subst he; subst hv
  exact ⟨_, rfl, post_of_ext (pa := [] ++ (p1 ++ [])) (pv := []) hW' (fun _ _ _ => (trodAll_cons_mk (shut_bool Tryz.underlying4 _) trodAll_mk0)) (fun sp hsp => (trodAll_cons_mk (shut_int Tryz.underlying5 w0) (trodAll_cons_mk (ext_trod laidOut (by kernel_rfl) (of_decide_eq_true (by kernel_rfl)) h1 hx' (fun x hx => hlt0 x (by simpa using hx)) (fun x hx => hsp x (by simpa using hx))) trodAll_mk0))) (fun _ _ => rfl) (by simp)
    hx' (ok_one (by kernel_rfl) rfl (okWide_bool_mk Tryz.underlying4 _))⟩

theorem row : Rows.FnAnyFetchRequestSaid :=
  OpenClaim.holds_of_wide 3 Tryz.f3 rfl rfl rfl rfl rfl rfl rfl ⟨rfl, rfl, rfl, rfl, rfl⟩ rfl rfl rfl rfl rfl (by kernel_rfl) Tryz.func3 (by kernel_rfl)
    (of_decide_eq_true (by kernel_rfl)) (by unfold Func.isWrapper; first | (rw [if_pos (by decide +kernel)]; kernel_rfl) | (rw [if_neg (by decide +kernel)]; exact ⟨rfl, rfl⟩))
    (fun os started H enc _ => lifted os started H enc)

theorem proved : Rows.FnAnyFetchRequestCardSaid :=
  Claim7.holds_tied_plain_at .later [] [.sentinel] true (true, "98cbf8d9b01201cc42c51e59f0764202e4bdf777eab3b042434c47e0f0a415ba") false
    row (fun _ h => by cases h) (by kernel_rfl) (fun _ h => by cases h) fnAnyFetchRequest_row_tie rfl ⟨rfl, rfl⟩ (by kernel_rfl) rfl
    (fun f fn hf hfn => by
      obtain rfl : f = 3 := Option.some.inj ((show Tryz.prog.funcNamed "pub-kmsg/laws.FnAnyFetchRequest" = some 3 by kernel_rfl).symm.trans hf) |>.symm
      obtain rfl : fn = Tryz.f3 := (Option.some.inj (Tryz.func3.symm.trans hfn)).symm
      exact ⟨by kernel_rfl, fun j t ht => by
        rw [Tryz.params3] at ht
        have hm : t ∈ [5, 22] := by simpa using Array.mem_of_getElem? ht
        have hall : ([5, 22].all fun u => !Tryz.prog.wantsStandIn u) = true := by kernel_rfl
        exact (show Tryz.prog.wantsStandIn t = false by simpa using List.all_eq_true.1 hall t hm)⟩)
    (by kernel_rfl)
end anyFetchRequest
end Go.Proofs.YthmmcbmgeoaefaaGreatDoor
