/- What is read of any bytes as a ShareGroupHeartbeatResponse is written as bytes that are read again, and written as the same. Of any bytes: no condition. -/
import Derived.Test.YtgajindbafacgaaDoorKgF
import Derived.Test.YtgajindbafacgaaDoorRows
import Derived.Test.YtgajindbafacgaaDoorTie
import Derived.Test.YtgajindbafacgaaDoorCards
import Derived.ProofKit
import Derived.OpenShut
import Derived.Stop.LaidErr
import Derived.Handed
import Derived.JoinedOf
import Derived.SevenTiedAt
import Derived.Deep.DeepHandedRow
import Derived.Lib.LaidTab
set_option linter.unusedVariables false
set_option linter.unusedSectionVars false
set_option linter.unusedSimpArgs false
set_option maxRecDepth 100000
namespace Go.Proofs.YtgajindbafacgaaDoor
namespace anyShareGroupHeartbeatResponse
open Go Go.Kg kg Go.ChangeShapes Go.WideShapes Go.ChangeAt Go.RowKit
def cfg : Cfg := ⟨env, true, 5, 6⟩
def cfgR : CfgR := ⟨⟨env, true, 5, 6⟩, 7, 71, 70, 85, 83⟩
def sch : Sch := .prim ⟨none, none⟩ 1 1 .i32 0 0 (.prim ⟨none, none⟩ 2 2 .i16 0 0 (.prim ⟨none, none⟩ 3 3 .nstr 0 0 (.prim ⟨none, none⟩ 4 4 .nstr 0 0 (.prim ⟨none, none⟩ 5 5 .i32 0 0 (.prim ⟨none, none⟩ 6 6 .i32 0 0 (.opt ⟨none, none⟩ 7 7 96 89 125 2 88 (.arrS ⟨none, none⟩ 0 0 94 none 100 97 18 89 (.prim ⟨none, none⟩ 0 0 .uuid 0 0 (.arrP ⟨none, none⟩ 1 16 82 none .i32 (.tags 2 17))) (.tags 1 1)) (.tags 8 8)))))))
def nl : Nat := (sch.genW cfg 91 52 0 ⟨7, 0, 0⟩).2.l
def nlR : Nat := (sch.genR cfgR 91 52 0 (ctR cfgR false 0)).2.l
theorem isW : FnIs Tryd.prog 28 189 [.t 4] (msgW cfg 91 52 0 sch nl) := FnIs.of mixed Tryd.func28 (by kernel_rfl) (by kernel_rfl) (by kernel_rfl) (by kernel_rfl)
theorem isD : FnIs Tryd.prog 52 7 [] (sch.genDf cfg 91 52) := FnIs.of mixed Tryd.func52 (by kernel_rfl) (by kernel_rfl) (by kernel_rfl) (by kernel_rfl)
theorem isS : FnIs Tryd.prog 26 8 [] (irSetV cfg 91 52) := FnIs.of mixed Tryd.func26 (by kernel_rfl) (by kernel_rfl) (by kernel_rfl) (by kernel_rfl)
theorem isP : FnIs Tryd.prog 24 3 [.t 0] (irNewPtr cfg 91 52 52) := FnIs.of mixed Tryd.func24 (by kernel_rfl) (by kernel_rfl) (by kernel_rfl) (by kernel_rfl)
theorem isV : FnIs Tryd.prog 25 3 [.t 2] (irMaxV env 1) := FnIs.of mixed Tryd.func25 (by kernel_rfl) (by kernel_rfl) (by kernel_rfl) (by kernel_rfl)
theorem isM : FnIs Tryd.prog 11 4 [.t 0] (irMax env 52 24 25) := FnIs.of mixed Tryd.func11 (by kernel_rfl) (by kernel_rfl) (by kernel_rfl) (by kernel_rfl)
theorem isA : FnIs Tryd.prog 12 19 [.t 4, .t 5] (irAgain cfg 52 24 26 27 28) := FnIs.of mixed Tryd.func12 (by kernel_rfl) (by kernel_rfl) (by kernel_rfl) (by kernel_rfl)
theorem isF : FnIs Tryd.prog 27 8 [.t 4] (irRF cfg 52 53) := FnIs.of mixed Tryd.func27 (by kernel_rfl) (by kernel_rfl) (by kernel_rfl) (by kernel_rfl)
theorem isR : FnIs Tryd.prog 53 192 [.t 6] (msgR cfgR 91 52 0 52 false sch nlR) := FnIs.of mixed Tryd.func53 (by kernel_rfl) (by kernel_rfl) (by kernel_rfl) (by kernel_rfl)
theorem need : sch.NeedW Tryd.prog cfg tagsOk := ⟨primW_i32 w_i32, ⟨primW_i16 w_i16, ⟨primW_nstr w_nstr (fun _ => w_cnstr), ⟨primW_nstr w_nstr (fun _ => w_cnstr), ⟨primW_i32 w_i32, ⟨primW_i32 w_i32, ⟨tBs, ⟨lenWC_none w_len (fun _ => w_clen), ⟨primW_uuid w_uuid, ⟨primW_i32 w_i32, lenWC_none w_len (fun _ => w_clen), tagsT⟩⟩, tagsT⟩, tagsT⟩⟩⟩⟩⟩⟩⟩
theorem mok : MsgOk Tryd.prog cfg tagsOk 91 52 0 sch nl := ⟨tyC2 true, ⟨rfl, rfl⟩, by kernel_rfl, by kernel_rfl, need, of_decide_eq_true (by kernel_rfl)⟩
theorem endc : EndC Tryd.prog cfgR := endC_of tyRs (by kernel_rfl) is_pkbin_Reader_Ok is_pkbin_Reader_Complete
theorem isD_0 : FnIs Tryd.prog 89 2 [] (Sch.genDf cfg 100 97 (.prim ⟨none, none⟩ 0 0 .uuid 0 0 (.arrP ⟨none, none⟩ 1 16 82 none .i32 (.tags 2 17)))) := FnIs.of mixed Tryd.func89 (by kernel_rfl) (by kernel_rfl) (by kernel_rfl) (by kernel_rfl)
theorem dfr_0 : DefRC Tryd.prog cfg 18 89 (.prim ⟨none, none⟩ 0 0 .uuid 0 0 (.arrP ⟨none, none⟩ 1 16 82 none .i32 (.tags 2 17))) := fun w b a c et hb hn => defaultCI (by decide) isD_0 (by kernel_rfl) hb hn
theorem isD_1 : FnIs Tryd.prog 88 2 [] (Sch.genDf cfg 96 89 (.arrS ⟨none, none⟩ 0 0 94 none 100 97 18 89 (.prim ⟨none, none⟩ 0 0 .uuid 0 0 (.arrP ⟨none, none⟩ 1 16 82 none .i32 (.tags 2 17))) (.tags 1 1))) := FnIs.of mixed Tryd.func88 (by kernel_rfl) (by kernel_rfl) (by kernel_rfl) (by kernel_rfl)
theorem dfr_1 : DefRC Tryd.prog cfg 2 88 (.arrS ⟨none, none⟩ 0 0 94 none 100 97 18 89 (.prim ⟨none, none⟩ 0 0 .uuid 0 0 (.arrP ⟨none, none⟩ 1 16 82 none .i32 (.tags 2 17))) (.tags 1 1)) := fun w b a c et hb hn => defaultCI (by decide) isD_1 (by kernel_rfl) hb hn
theorem needR : sch.NeedR Tryd.prog cfgR := ⟨primR_i32 r_Int32, ⟨primR_i16 r_Int16, ⟨primR_nstr r_NString (fun _ => r_CNString), ⟨primR_nstr r_NString (fun _ => r_CNString), ⟨primR_i32 r_Int32, ⟨primR_i32 r_Int32, ⟨primR_i8 r_Int8, endc, dfr_1, ⟨lenRC_of r_Len (fun _ => r_CLen), endc, dfr_0, ⟨primR_uuid r_Uuid, ⟨primR_i32 r_Int32, lenRC_of r_Len (fun _ => r_CLen), endc, (r_Tags cfgR rfl)⟩⟩, (r_Tags cfgR rfl)⟩, (r_Tags cfgR rfl)⟩⟩⟩⟩⟩⟩⟩
noncomputable def z : Array Value := match zeroOf Tryd.prog 91 with | some (.agg z) => z | _ => #[]
theorem hz : zeroOf Tryd.prog 91 = some (.agg z) := by kernel_rfl
theorem hzn : z.size = 9 := by kernel_rfl
theorem hDef : DefRC Tryd.prog cfg 9 52 sch := fun w b a c et hb hn => defaultCI (by decide) isD (by kernel_rfl) hb hn
theorem hPtr (w : World) : Ret Tryd.prog 24 #[] w fun v w' => v = .pointer (some ⟨w.heap.size, 0, none⟩) ∧ w'.heap[w.heap.size]? = some (.cells (setD 0 (sch.dst cfg) z) 91 (0, 0)) ∧ Ext none1 w w' ∧ w.heap.size < w'.heap.size := newPtrC isP hz (Nat.le_of_eq hzn.symm) (fun hb hn => hDef _ _ _ _ _ hb hn) w
theorem mrk : MsgRk Tryd.prog cfgR 91 52 0 52 9 sch nlR := ⟨rfl, ⟨⟨by kernel_rfl, by kernel_rfl, by kernel_rfl, uuF, fun _ => trivial⟩, uuF, by kernel_rfl, by kernel_rfl⟩, tyRb, by kernel_rfl, needR, endc, hDef, by kernel_rfl, of_decide_eq_true (by kernel_rfl)⟩
theorem hchk : ∀ ver : Int, sch.chkD ((setD 0 (sch.dst cfg) z).setIfInBounds 0 (.int .i16 ver)).toList = true := fun ver => by kernel_rfl
theorem hid : ∀ ver : Int, (setD 0 (sch.dst cfg) ((setD 0 (sch.dst cfg) z).setIfInBounds 0 (.int .i16 ver))) = (setD 0 (sch.dst cfg) z).setIfInBounds 0 (.int .i16 ver) := fun ver => by kernel_rfl
def flx (v : Nat) : Bool := flagAt cfg 0 v
theorem hpos : ((List.range 2).all fun v => sch.posE v (flx v)) = true := by kernel_rfl
theorem agl {tv : TypeId} {vv : Value} : AgL Tryd.prog env 11 12 1 sch flx (.iface tv vv) where
  max w := c_max (by decide) isM (by kernel_rfl) (by kernel_rfl) (fun w => (hPtr w).mono fun _ _ h => h.2.2.1) (fun v w => c_maxV (by decide) isV v w) w
  again v hv _ _ _ _ hs hlen herr hgood := againC (et := 0) (nl2 := 0) (C := cfgR) (T := 91) (flex := 0) (S := sch) (z := z) (by decide) isA isF (by decide) mrk (by decide) isR hPtr (fun hb hc ver => setVC (by decide) isS (by kernel_rfl) (by kernel_rfl) hb hc ver)
    (fun hcs hver hrep hok hb ho hbase hsz => appendTo mok (by decide) isW hcs hver hrep hok hb ho hbase hsz) (by kernel_rfl) (by kernel_rfl) tBs ⟨_, Tryd.underlying49⟩ ⟨_, _, rfl⟩ hzn (by decide) hid hchk (v : Int) ⟨by omega, by omega⟩ hs hlen herr hgood
  hM := by decide
  pos v hv := List.all_eq_true.1 hpos v (by simp; omega)
theorem isL : FnIs Tryd.prog 4 43 [.t 4] (irFnAny env 11 12 24) := FnIs.of mixed Tryd.func4 (by kernel_rfl) (by kernel_rfl) (by kernel_rfl) (by kernel_rfl)
theorem own : ownKnob Tryd.prog.godebug = none := by kernel_rfl
theorem laidOut : laidOutB Tryd.prog = true := by kernel_rfl
theorem gType : (Tryd.prog.globals[0]?).map (·.type) = some 49 := by kernel_rfl
theorem err_of_laid {W : World} (h : laidMetH Tryd.prog Rows.fnAnyShareGroupHeartbeatResponseRow.laid W) : ∃ tv vv, W.cell? ⟨0, 0, none⟩ = some (.iface tv vv) := by
  have h' : laidMet Tryd.prog Rows.fnAnyShareGroupHeartbeatResponseRow.laid W := h
  obtain ⟨a1, s1, hv1, _, _, _⟩ := laid_sentinel h' (by kernel_rfl) gType Tryd.underlying49 rowE Tryd.underlying189 Tryd.underlying207 rfl rfl Tryd.underlying9 (by kernel_rfl) (by kernel_rfl)
  exact ⟨189, .pointer (some a1), by simpa using World.var?_cell (by kernel_rfl) hv1 0⟩
noncomputable def low : Nat := (World.holding Tryd.prog default ⟨#[], #[], []⟩).heap.size
noncomputable def laidWorld (os : Os) : World :=
  let w0 := World.holding Tryd.prog os ⟨#[.cells #[.string { data := #[114, 101, 115, 112, 111, 110, 115, 101, 32, 100, 105, 100, 32, 110, 111, 116, 32, 99, 111, 110, 116, 97, 105, 110, 32, 101, 110, 111, 117, 103, 104, 32, 100, 97, 116, 97, 32, 116, 111, 32, 98, 101, 32, 118, 97, 108, 105, 100] }] 207], #[], []⟩
  { w0 with heap := w0.heap.modify 0 fun
      | .cells _ t frozen => .cells #[.iface 189 (.pointer (some ⟨low, 0, none⟩))] t frozen
      | o => o }
theorem laidWorld_met (os : Os) (args : Array Value) : laidMetH Tryd.prog Rows.fnAnyShareGroupHeartbeatResponseRow.laid ((laidWorld os).forCall (fun _ _ => 0) ⟨#[], args, []⟩).memory :=
  laidMet_of_run (ps := [.cell 0 0, .cell low 0]) 8 (by kernel_rfl) (by kernel_rfl) (by kernel_rfl)
theorem walk {tv : TypeId} {vv : Value} (n : Nat) (hn : n < 256) {w : World} {sv : Value} {src : List UInt8} (hs : BytesAt w All sv src) (herr : w.cell? ⟨0, 0, none⟩ = some (.iface tv vv)) : Ret Tryd.prog 4 #[.int .u8 n, sv] w fun u w' => u = .bool true ∧ Ext none1 w w' := c_FnAny tyK.toTyF is_spec_Same is_laws_version (by kernel_rfl) (by kernel_rfl) agl (by decide) isL n hn hs herr

set_option maxRecDepth 100000 in
theorem lifted (os : Os) (started : os.Started) (H : Type) (enc : TypeId × Value → H) :
    ReturnsInHanded {} Tryd.checked os 4 .any (fun w args => (Rows.fnAnyShareGroupHeartbeatResponseSpec.pre enc Tryd.prog Tryd.f4 [] false w args ∧ laidMetH Tryd.prog Rows.fnAnyShareGroupHeartbeatResponseRow.laid w) ∧ sizedMet enc Tryd.prog Tryd.f4 (OpenSpec.ofChange Rows.fnAnyShareGroupHeartbeatResponseSpec) false w args) (Rows.fnAnyShareGroupHeartbeatResponseSpec.post enc Tryd.prog Tryd.f4 false true false false) := by
  refine returnsInHanded_of_change_and (C := Tryd.checked) (X := fun w _ => laidMetH Tryd.prog Rows.fnAnyShareGroupHeartbeatResponseRow.laid w) (fun _ _ _ hh h => h.of_heap hh) own started (by kernel_rfl) Tryd.func4
    (ChangeSpec.witness_at (enc := enc) (C := Tryd.checked) (os := os) (X := fun w _ => laidMetH Tryd.prog Rows.fnAnyShareGroupHeartbeatResponseRow.laid w) false (laidWorld os) #[.int .u8 0, .slice none 0 0] 8 rfl (by kernel_rfl) (by kernel_rfl) (by kernel_rfl) (by kernel_rfl) (by kernel_rfl) (laidWorld_met os _)) ?_
  intro W base args ds gs before hval0 hW _ _ hL _
  have hval : ∀ (j : Nat) t v, Tryd.f4.params[j]? = some t → args[j]? = some v → Value.okWide Tryd.prog W .any base t v := hval0
  have hW' := hW
  have hlt0 := hW'.lt
  obtain ⟨p, q, hA0, hV, rfl, hfz, hnd⟩ := hW
  have hA : DataW.TrodAll enc Tryd.prog W 0 (fun _ => true) true Tryd.f4.params.toList args.toList ds p := hA0
  rw [Tryd.params4] at hA hval
  obtain ⟨v0, vs0, d0, ds0, p0, q0, hargs, rfl, rfl, h0, r0⟩ := trodAll_cons hA
  obtain ⟨v1, vs1, d1, ds1, p1, q1, hargs1, rfl, rfl, h1, r1⟩ := trodAll_cons r0
  obtain ⟨rfl, rfl, rfl⟩ := trodAll_nil r1
  obtain rfl : args = #[v0, v1] := by rw [← Array.toArray_toList (xs := args), hargs, hargs1]
  obtain ⟨rfl, rfl⟩ := trodVars_none hV
  obtain ⟨a0, rfl, rfl, rfl, w0⟩ := open_int Tryd.underlying5 (hval 0 5 v0 rfl rfl) h0
  obtain ⟨src, hsrc⟩ := open_bytesAt Tryd.underlying22 Tryd.underlying5 (by kernel_rfl) (hval 1 22 v1 rfl rfl) h1
  obtain ⟨tv, vv, herr⟩ := err_of_laid hL
  clear hA0 hval0
  simp only [List.append_nil, List.nil_append] at hW' hlt0
  have hx : 0 ≤ a0 ∧ a0 ≤ 255 := by simpa [Lit.wf, IntKind.min, IntKind.max, IntKind.signed, IntKind.bits] using w0
  obtain ⟨n, rfl⟩ : ∃ n : Nat, a0 = (n : Int) := ⟨a0.toNat, by omega⟩
  refine ((walk n (by omega) hsrc herr).2).mono fun e W' ⟨v, he, hv, hx'⟩ => ?_
  subst he; subst hv
  exact ⟨_, rfl, post_of_ext (pa := [] ++ (p1 ++ [])) (pv := []) hW' (fun _ _ _ => (trodAll_cons_mk (shut_bool Tryd.underlying4 _) trodAll_mk0)) (fun sp hsp => (trodAll_cons_mk (shut_int Tryd.underlying5 w0) (trodAll_cons_mk (ext_trod laidOut (by kernel_rfl) (of_decide_eq_true (by kernel_rfl)) h1 hx' (fun x hx => hlt0 x (by simpa using hx)) (fun x hx => hsp x (by simpa using hx))) trodAll_mk0))) (fun _ _ => rfl) (by simp)
    hx' (ok_one (by kernel_rfl) rfl (okWide_bool_mk Tryd.underlying4 _))⟩

theorem row : Rows.FnAnyShareGroupHeartbeatResponseSaid :=
  OpenClaim.holds_of_wide 4 Tryd.f4 rfl rfl rfl rfl rfl rfl rfl ⟨rfl, rfl, rfl, rfl, rfl⟩ rfl rfl rfl rfl rfl (by kernel_rfl) Tryd.func4 (by kernel_rfl)
    (of_decide_eq_true (by kernel_rfl)) (by unfold Func.isWrapper; first | (rw [if_pos (by decide +kernel)]; kernel_rfl) | (rw [if_neg (by decide +kernel)]; exact ⟨rfl, rfl⟩))
    (fun os started H enc _ => lifted os started H enc)

theorem proved : Rows.FnAnyShareGroupHeartbeatResponseCardSaid :=
  Claim7.holds_tied_plain_at .later [] [.sentinel] true (true, "30e41f8dc7906e409c80e14d0de16f65b65cd272f4a9036c4495973a0fe31a05") false
    row (fun _ h => by cases h) (by kernel_rfl) (fun _ h => by cases h) fnAnyShareGroupHeartbeatResponse_row_tie rfl ⟨rfl, rfl⟩ (by kernel_rfl) rfl
    (fun f fn hf hfn => by
      obtain rfl : f = 4 := Option.some.inj ((show Tryd.prog.funcNamed "pub-kmsg/laws.FnAnyShareGroupHeartbeatResponse" = some 4 by kernel_rfl).symm.trans hf) |>.symm
      obtain rfl : fn = Tryd.f4 := (Option.some.inj (Tryd.func4.symm.trans hfn)).symm
      exact ⟨by kernel_rfl, fun j t ht => by
        rw [Tryd.params4] at ht
        have hm : t ∈ [5, 22] := by simpa using Array.mem_of_getElem? ht
        have hall : ([5, 22].all fun u => !Tryd.prog.wantsStandIn u) = true := by kernel_rfl
        exact (show Tryd.prog.wantsStandIn t = false by simpa using List.all_eq_true.1 hall t hm)⟩)
    (by kernel_rfl)
end anyShareGroupHeartbeatResponse
end Go.Proofs.YtgajindbafacgaaDoor
