/- What is read of any bytes as a EndTxnMarker is written as bytes that are read again, and written as the same. Of any bytes: no condition. -/
import Derived.Test.YtgajindbafacgaaDoorKgF
import Derived.Test.YtgajindbafacgaaDoorRows
import Derived.Test.YtgajindbafacgaaDoorTie
import Derived.Test.YtgajindbafacgaaDoorCards
import Derived.ProofKit
import Derived.OpenShut
import Derived.Stop.LaidErr
import Derived.Handed
import Derived.JoinedOf
import Derived.SevenTiedAt
import Derived.Deep.DeepHandedRow
import Derived.Lib.LaidTab
set_option linter.unusedVariables false
set_option linter.unusedSectionVars false
set_option linter.unusedSimpArgs false
set_option maxRecDepth 100000
namespace Go.Proofs.YtgajindbafacgaaDoor
namespace anyEndTxnMarker
open Go Go.Kg kg Go.ChangeShapes Go.WideShapes Go.ChangeAt Go.RowKit
def cfg : Cfg := ⟨env, false, 5, 6⟩
def cfgR : CfgR := ⟨⟨env, false, 5, 6⟩, 7, 71, 70, 85, 83⟩
def sch : Sch := .prim ⟨none, none⟩ 1 1 .i32 0 0 (.fin)
def nl : Nat := ((schK sch).genW cfg 55 102 0 ⟨6, 0, 0⟩).2.l
def nlR : Nat := (sch.genR cfgR 55 102 0 (ctR cfgR true 0)).2.l
theorem isW : FnIs Tryd.prog 31 28 [.t 4] (msgW cfg 55 102 0 (schK sch) nl) := FnIs.of mixed Tryd.func31 (by kernel_rfl) (by kernel_rfl) (by kernel_rfl) (by kernel_rfl)
theorem isD : FnIs Tryd.prog 58 2 [] (sch.genDf cfg 55 102) := FnIs.of mixed Tryd.func58 (by kernel_rfl) (by kernel_rfl) (by kernel_rfl) (by kernel_rfl)
theorem isN : FnIs Tryd.prog 29 4 [.c 0 55] (irNewK cfg 55 58) := FnIs.of mixed Tryd.func29 (by kernel_rfl) (by kernel_rfl) (by kernel_rfl) (by kernel_rfl)
theorem isK : FnIs Tryd.prog 14 14 [.t 6] (irKept env) := FnIs.of mixed Tryd.func14 (by kernel_rfl) (by kernel_rfl) (by kernel_rfl) (by kernel_rfl)
theorem isA : FnIs Tryd.prog 13 11 [.t 2, .t 3] (irAgainK cfg 55 29 30 31) := FnIs.of mixed Tryd.func13 (by kernel_rfl) (by kernel_rfl) (by kernel_rfl) (by kernel_rfl)
theorem isF : FnIs Tryd.prog 30 8 [.t 4] (irRF cfg 102 59) := FnIs.of mixed Tryd.func30 (by kernel_rfl) (by kernel_rfl) (by kernel_rfl) (by kernel_rfl)
theorem isR : FnIs Tryd.prog 59 31 [.t 6] (msgR cfgR 55 102 0 58 true sch nlR) := FnIs.of mixed Tryd.func59 (by kernel_rfl) (by kernel_rfl) (by kernel_rfl) (by kernel_rfl)
theorem need : (schK sch).NeedW Tryd.prog cfg tagsOk := ⟨primW_i16 w_i16, ⟨primW_i32 w_i32, trivial⟩⟩
theorem mok : MsgOk Tryd.prog cfg tagsOk 55 102 0 (schK sch) nl := ⟨tyC2 false, ⟨rfl, rfl⟩, by kernel_rfl, by kernel_rfl, need, of_decide_eq_true (by kernel_rfl)⟩
theorem endc : EndC Tryd.prog cfgR := endC_of tyRs (by kernel_rfl) is_pkbin_Reader_Ok is_pkbin_Reader_Complete
theorem needR : sch.NeedR Tryd.prog cfgR := ⟨primR_i32 r_Int32, trivial⟩
noncomputable def z : Array Value := match zeroOf Tryd.prog 55 with | some (.agg z) => z | _ => #[]
theorem hz : zeroOf Tryd.prog 55 = some (.agg z) := by kernel_rfl
theorem hzn : z.size = 2 := by kernel_rfl
noncomputable def zD : Array Value := setD 0 (sch.dst cfg) z
theorem hDef : DefRC Tryd.prog cfg 2 58 sch := fun w b a c et hb hn => defaultCI (by decide) isD (by kernel_rfl) hb hn
theorem mrk : MsgRkv Tryd.prog cfgR 55 102 0 58 2 sch nlR := ⟨rfl, ⟨⟨by kernel_rfl, by kernel_rfl, by kernel_rfl, uuF, fun _ => trivial⟩, uuF, by kernel_rfl, by kernel_rfl⟩, tyRb, by kernel_rfl, needR, endc, primR_i16 r_Int16, hDef, by kernel_rfl, of_decide_eq_true (by kernel_rfl), by decide⟩
theorem hkT : kindOf Tryd.prog 55 = .agg 2 := by kernel_rfl
theorem hone : allOne zD.toList = true := by kernel_rfl
theorem hid : setD 0 (sch.dst cfg) zD = zD := by kernel_rfl
theorem hchk : sch.chkD zD.toList = true := by kernel_rfl
theorem hzDn : zD.size = 2 := by kernel_rfl
theorem hNew (w : World) : Ret Tryd.prog 29 #[] w fun v w' => v = .agg zD ∧ Ext none1 w w' := newKC isN hz hzn hkT hone hDef w
def src_EndTxnMarker : List FSrc := [⟨[(0, 3), (2, (-1)), (3, (-1)), (4, (-1))], none⟩]
theorem isc_EndTxnMarker : FnIs Tryd.prog 15 4 [.c 0 env.t_spec_Message] (irMsg env src_EndTxnMarker (-1)) := FnIs.of mixed Tryd.func15 (by kernel_rfl) (by kernel_rfl) (by kernel_rfl) (by kernel_rfl)
theorem msg_EndTxnMarker : MsgC Tryd.prog 15 (mkFS src_EndTxnMarker) (-1) := msg_of tyK isc_EndTxnMarker (by kernel_rfl) ⟨(fun g F h => by cases h), trivial⟩
theorem hflex : ((List.range 1).all fun v => flexAt (-1) v == flagAt cfg 0 v) = true := by kernel_rfl
theorem hfit : fitS 0 (fun v => flagAt cfg 0 v) (mkFS src_EndTxnMarker) sch = true := by kernel_rfl
theorem hpos : ((List.range 1).all fun v => sch.posE v (flagAt cfg 0 v)) = true := by kernel_rfl
theorem aglk {tv : TypeId} {vv : Value} : AgLK Tryd.prog env 15 14 13 0 sch (flagAt cfg 0) false (.iface tv vv) (mkFS src_EndTxnMarker) (-1) where
  again hs hlen herr hv0 hgood := againKC (C := cfgR) (T := 55) (flex := 0) (S := sch) (z := z) (zD := zD) (by decide) isA isF (by decide) mrk (by decide) isR hNew hz hzn hzDn hkT hone hid hchk
    (fun hcs hver hrep hok hb ho hbase hsz => appendTo mok (by decide) isW hcs hver hrep hok hb ho hbase hsz) tBs ⟨_, Tryd.underlying49⟩ ⟨_, _, rfl⟩ hs hlen herr hv0 hgood
  kept w fv cs t v hF hT hsz := c_Kept tyK spF (by decide) isK (FS.ok_of (by kernel_rfl)) (of_decide_eq_true (by kernel_rfl)) w fv cs t v hF hT hsz
  msg := msg_EndTxnMarker
  flex v hv := by simpa using List.all_eq_true.1 hflex v (by simp; omega)
  fit := hfit
  hM := by decide
  pos v hv := List.all_eq_true.1 hpos v (by simp; omega)
theorem isL : FnIs Tryd.prog 5 45 [.t 2] (irFnAnyK env 15 14 13 24) := FnIs.of mixed Tryd.func5 (by kernel_rfl) (by kernel_rfl) (by kernel_rfl) (by kernel_rfl)
theorem own : ownKnob Tryd.prog.godebug = none := by kernel_rfl
theorem laidOut : laidOutB Tryd.prog = true := by kernel_rfl
theorem gType : (Tryd.prog.globals[0]?).map (·.type) = some 49 := by kernel_rfl
theorem err_of_laid {W : World} (h : laidMetH Tryd.prog Rows.fnAnyEndTxnMarkerRow.laid W) : ∃ tv vv, W.cell? ⟨0, 0, none⟩ = some (.iface tv vv) := by
  have h' : laidMet Tryd.prog Rows.fnAnyEndTxnMarkerRow.laid W := h
  obtain ⟨a1, s1, hv1, _, _, _⟩ := laid_sentinel h' (by kernel_rfl) gType Tryd.underlying49 rowE Tryd.underlying189 Tryd.underlying207 rfl rfl Tryd.underlying9 (by kernel_rfl) (by kernel_rfl)
  exact ⟨189, .pointer (some a1), by simpa using World.var?_cell (by kernel_rfl) hv1 0⟩
noncomputable def low : Nat := (World.holding Tryd.prog default ⟨#[], #[], []⟩).heap.size
noncomputable def laidWorld (os : Os) : World :=
  let w0 := World.holding Tryd.prog os ⟨#[.cells #[.string { data := #[114, 101, 115, 112, 111, 110, 115, 101, 32, 100, 105, 100, 32, 110, 111, 116, 32, 99, 111, 110, 116, 97, 105, 110, 32, 101, 110, 111, 117, 103, 104, 32, 100, 97, 116, 97, 32, 116, 111, 32, 98, 101, 32, 118, 97, 108, 105, 100] }] 207], #[], []⟩
  { w0 with heap := w0.heap.modify 0 fun
      | .cells _ t frozen => .cells #[.iface 189 (.pointer (some ⟨low, 0, none⟩))] t frozen
      | o => o }
theorem laidWorld_met (os : Os) (args : Array Value) : laidMetH Tryd.prog Rows.fnAnyEndTxnMarkerRow.laid ((laidWorld os).forCall (fun _ _ => 0) ⟨#[], args, []⟩).memory :=
  laidMet_of_run (ps := [.cell 0 0, .cell low 0]) 8 (by kernel_rfl) (by kernel_rfl) (by kernel_rfl)
theorem walk {tv : TypeId} {vv : Value} {w : World} {sv : Value} {src : List UInt8} (hs : BytesAt w All sv src) (herr : w.cell? ⟨0, 0, none⟩ = some (.iface tv vv)) : Ret Tryd.prog 5 #[sv] w fun u w' => u = .bool true ∧ Ext none1 w w' := c_FnAnyK tyK spF aglk (fun _ => rfl) (by decide) isL hs herr (of_decide_eq_true (by kernel_rfl))

set_option maxRecDepth 100000 in
theorem lifted (os : Os) (started : os.Started) (H : Type) (enc : TypeId × Value → H) :
    ReturnsInHanded {} Tryd.checked os 5 .any (fun w args => (Rows.fnAnyEndTxnMarkerSpec.pre enc Tryd.prog Tryd.f5 [] false w args ∧ laidMetH Tryd.prog Rows.fnAnyEndTxnMarkerRow.laid w) ∧ sizedMet enc Tryd.prog Tryd.f5 (OpenSpec.ofChange Rows.fnAnyEndTxnMarkerSpec) false w args) (Rows.fnAnyEndTxnMarkerSpec.post enc Tryd.prog Tryd.f5 false true false false) := by
  refine returnsInHanded_of_change_and (C := Tryd.checked) (X := fun w _ => laidMetH Tryd.prog Rows.fnAnyEndTxnMarkerRow.laid w) (fun _ _ _ hh h => h.of_heap hh) own started (by kernel_rfl) Tryd.func5
    (ChangeSpec.witness_at (enc := enc) (C := Tryd.checked) (os := os) (X := fun w _ => laidMetH Tryd.prog Rows.fnAnyEndTxnMarkerRow.laid w) false (laidWorld os) #[.slice none 0 0] 8 rfl (by kernel_rfl) (by kernel_rfl) (by kernel_rfl) (by kernel_rfl) (by kernel_rfl) (laidWorld_met os _)) ?_
  intro W base args ds gs before hval0 hW _ _ hL _
  have hval : ∀ (j : Nat) t v, Tryd.f5.params[j]? = some t → args[j]? = some v → Value.okWide Tryd.prog W .any base t v := hval0
  have hW' := hW
  have hlt0 := hW'.lt
  obtain ⟨p, q, hA0, hV, rfl, hfz, hnd⟩ := hW
  have hA : DataW.TrodAll enc Tryd.prog W 0 (fun _ => true) true Tryd.f5.params.toList args.toList ds p := hA0
  rw [Tryd.params5] at hA hval
  obtain ⟨v1, vs1, d1, ds1, p1, q1, hargs1, rfl, rfl, h1, r1⟩ := trodAll_cons hA
  obtain ⟨rfl, rfl, rfl⟩ := trodAll_nil r1
  obtain rfl : args = #[v1] := by rw [← Array.toArray_toList (xs := args), hargs1]
  obtain ⟨rfl, rfl⟩ := trodVars_none hV
  obtain ⟨src, hsrc⟩ := open_bytesAt Tryd.underlying22 Tryd.underlying5 (by kernel_rfl) (hval 0 22 v1 rfl rfl) h1
  obtain ⟨tv, vv, herr⟩ := err_of_laid hL
  clear hA0 hval0
  simp only [List.append_nil, List.nil_append] at hW' hlt0
  refine ((walk hsrc herr).2).mono fun e W' ⟨v, he, hv, hx'⟩ => ?_
  subst he; subst hv
  exact ⟨_, rfl, post_of_ext (pa := (p1 ++ [])) (pv := []) hW' (fun _ _ _ => (trodAll_cons_mk (shut_bool Tryd.underlying4 _) trodAll_mk0)) (fun sp hsp => ((trodAll_cons_mk (ext_trod laidOut (by kernel_rfl) (of_decide_eq_true (by kernel_rfl)) h1 hx' (fun x hx => hlt0 x (by simpa using hx)) (fun x hx => hsp x (by simpa using hx))) trodAll_mk0))) (fun _ _ => rfl) (by simp)
    hx' (ok_one (by kernel_rfl) rfl (okWide_bool_mk Tryd.underlying4 _))⟩

theorem row : Rows.FnAnyEndTxnMarkerSaid :=
  OpenClaim.holds_of_wide 5 Tryd.f5 rfl rfl rfl rfl rfl rfl rfl ⟨rfl, rfl, rfl, rfl, rfl⟩ rfl rfl rfl rfl rfl (by kernel_rfl) Tryd.func5 (by kernel_rfl)
    (of_decide_eq_true (by kernel_rfl)) (by unfold Func.isWrapper; first | (rw [if_pos (by decide +kernel)]; kernel_rfl) | (rw [if_neg (by decide +kernel)]; exact ⟨rfl, rfl⟩))
    (fun os started H enc _ => lifted os started H enc)

theorem proved : Rows.FnAnyEndTxnMarkerCardSaid :=
  Claim7.holds_tied_plain_at .later [] [.sentinel] true (true, "30e41f8dc7906e409c80e14d0de16f65b65cd272f4a9036c4495973a0fe31a05") false
    row (fun _ h => by cases h) (by kernel_rfl) (fun _ h => by cases h) fnAnyEndTxnMarker_row_tie rfl ⟨rfl, rfl⟩ (by kernel_rfl) rfl
    (fun f fn hf hfn => by
      obtain rfl : f = 5 := Option.some.inj ((show Tryd.prog.funcNamed "pub-kmsg/laws.FnAnyEndTxnMarker" = some 5 by kernel_rfl).symm.trans hf) |>.symm
      obtain rfl : fn = Tryd.f5 := (Option.some.inj (Tryd.func5.symm.trans hfn)).symm
      exact ⟨by kernel_rfl, fun j t ht => by
        rw [Tryd.params5] at ht
        have hm : t ∈ [22] := by simpa using Array.mem_of_getElem? ht
        have hall : ([22].all fun u => !Tryd.prog.wantsStandIn u) = true := by kernel_rfl
        exact (show Tryd.prog.wantsStandIn t = false by simpa using List.all_eq_true.1 hall t hm)⟩)
    (by kernel_rfl)
end anyEndTxnMarker
end Go.Proofs.YtgajindbafacgaaDoor
