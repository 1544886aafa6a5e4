/- A record with its own length is read as it was, and written again; what ends anywhere ahead of its end is an error. -/
import Derived.Test.YtehkklpnchojjaaDoorKgF
import Derived.Test.YtehkklpnchojjaaDoorKd
import Derived.Test.YtehkklpnchojjaaDoorRows
import Derived.Test.YtehkklpnchojjaaDoorTie
import Derived.Test.YtehkklpnchojjaaDoorCards
import Derived.ProofKit
import Derived.OpenShut
import Derived.Stop.LaidErr
import Derived.Handed
import Derived.JoinedOf
import Derived.SevenTiedAt
import Derived.Deep.DeepHandedRow
import Derived.Lib.LaidTab
set_option linter.unusedVariables false
set_option linter.unusedSectionVars false
set_option linter.unusedSimpArgs false
set_option maxRecDepth 100000
namespace Go.Proofs.YtehkklpnchojjaaDoor
namespace tellRecord
open Go Go.Kg kg Go.ChangeShapes Go.WideShapes Go.ChangeAt Go.RowKit
theorem bulkPos {H : Type} (d : DataW H) : 1 ≤ Rows.uptoBulk d := by
  cases d with
  | lit l => cases l <;> simp [Rows.uptoBulk]
  | nil => simp [Rows.uptoBulk]
  | ptr d => simp [Rows.uptoBulk]
  | slice elems spare => simp [Rows.uptoBulk]
  | agg parts => simp [Rows.uptoBulk]
  | iface t d => simp [Rows.uptoBulk]
  | map entries => simp [Rows.uptoBulk]
  | held h => simp [Rows.uptoBulk]
theorem bulkL {H : Type} : BulkL (H := H) Rows.uptoBulk Rows.uptoBulkAll := { slice := fun _ _ => by simp only [Rows.uptoBulk], agg := fun _ => by simp only [Rows.uptoBulk], nil := by simp only [Rows.uptoBulkAll], cons := fun _ _ => by simp only [Rows.uptoBulkAll], pos := bulkPos }

theorem bulkS {H : Type} : ∀ l : List UInt8, Rows.uptoBulk (H := H) (.lit (.string l)) = l.length + 1 := fun l => by simp only [Rows.uptoBulk]
theorem isL : FnIs Tryd.prog 3 nt_laws_FnTellRecord (rs_laws_FnTellRecord env envV) (ir_laws_FnTellRecord env envV) := FnIs.of mixed Tryd.func3 (by kernel_rfl) (by kernel_rfl) (by kernel_rfl) (by kernel_rfl)
theorem own : ownKnob Tryd.prog.godebug = none := by kernel_rfl
theorem laidOut : laidOutB Tryd.prog = true := by kernel_rfl
theorem gType : (Tryd.prog.globals[0]?).map (·.type) = some 46 := by kernel_rfl
theorem err_of_laid {W : World} (h : laidMetH Tryd.prog Rows.fnTellRecordUptoRow.laid W) : ∃ tv vv, W.cell? ⟨0, 0, none⟩ = some (.iface tv vv) := by
  have h' : laidMet Tryd.prog Rows.fnTellRecordUptoRow.laid W := h
  obtain ⟨a1, s1, hv1, _, _, _⟩ := laid_sentinel h' (by kernel_rfl) gType Tryd.underlying46 rowE Tryd.underlying96 Tryd.underlying112 rfl rfl Tryd.underlying9 (by kernel_rfl) (by kernel_rfl)
  exact ⟨96, .pointer (some a1), by simpa using World.var?_cell (by kernel_rfl) hv1 0⟩
noncomputable def low : Nat := (World.holding Tryd.prog default ⟨#[], #[], []⟩).heap.size
noncomputable def laidWorld (os : Os) : World :=
  let w0 := World.holding Tryd.prog os ⟨#[.cells #[.string { data := #[114, 101, 115, 112, 111, 110, 115, 101, 32, 100, 105, 100, 32, 110, 111, 116, 32, 99, 111, 110, 116, 97, 105, 110, 32, 101, 110, 111, 117, 103, 104, 32, 100, 97, 116, 97, 32, 116, 111, 32, 98, 101, 32, 118, 97, 108, 105, 100] }] 112], #[], []⟩
  { w0 with heap := w0.heap.modify 0 fun
      | .cells _ t frozen => .cells #[.iface 96 (.pointer (some ⟨low, 0, none⟩))] t frozen
      | o => o }
theorem laidWorld_met (os : Os) (args : Array Value) : laidMetH Tryd.prog Rows.fnTellRecordUptoRow.laid ((laidWorld os).forCall (fun _ _ => 0) ⟨#[], args, []⟩).memory :=
  laidMet_of_run (ps := [.cell 0 0, .cell low 0]) 8 (by kernel_rfl) (by kernel_rfl) (by kernel_rfl)
theorem walk {tv : TypeId} {vv : Value} (at_ : Nat) (hat : at_ < 65536) {w : World} {cs : List Value} {r : RecV} (hr : IRec w (fun q => q < w.heap.size) cs r) (hf : r.fit) (hs : (restW r).length ≤ 1099511000000) (herr : w.cell? ⟨0, 0, none⟩ = some (.iface tv vv)) : Ret Tryd.prog 3 #[.agg cs.toArray, .int .u16 at_] w fun u w' => u = .bool true ∧ Ext none1 w w' :=
  c_FnTell tyV isL (by kernel_rfl) tell w cs r at_ tv vv hr hf hs hat herr
theorem reads (os : Os) {H : Type} (enc : TypeId × Value → H) : ∃ places, DataW.whole enc Tryd.prog ((laidWorld os).forCall (fun _ _ => 0) ⟨#[], #[.agg #[.int .i32 0, .int .i8 0, .int .i64 0, .int .i32 0, .bool false, .slice none 0 0, .bool false, .slice none 0 0, .slice none 0 0], .int .u16 0], []⟩).memory Tryd.f3.params.toList Rows.fnTellRecordSpec.vars false (#[.agg #[.int .i32 0, .int .i8 0, .int .i64 0, .int .i32 0, .bool false, .slice none 0 0, .bool false, .slice none 0 0, .slice none 0 0], .int .u16 0] : Array Value).toList 8 = some ([.agg [.lit (.int .i32 0), .lit (.int .i8 0), .lit (.int .i64 0), .lit (.int .i32 0), .agg [.lit (.bool false), .nil], .agg [.lit (.bool false), .nil], .nil], .lit (.int .u16 0)], [], places) := ⟨[], by kernel_rfl⟩

theorem contract (H : Type) (enc : TypeId × Value → H) (W : World) (base : Nat) (args : Array Value) (ds gs : List (DataW H)) (before : List MemPlace)
    (hval0 : ∀ (j : Nat) t v, Tryd.f3.params[j]? = some t → args[j]? = some v → Value.okWide Tryd.prog W .any base t v)
    (hW : DataW.Whole enc Tryd.prog Tryd.f3.params.toList Rows.fnTellRecordSpec.vars false W args.toList ds gs before) (hbulk : Rows.uptoBulkAll (ds ++ gs) ≤ 1048576) (hL : laidMetH Tryd.prog Rows.fnTellRecordUptoRow.laid W) :
    Calls Tryd.prog 3 args W fun e W' => ∃ v, e = .returned v ∧ Rows.fnTellRecordSpec.post enc Tryd.prog Tryd.f3 false true false false W args v W' := by
  have hval : ∀ (j : Nat) t v, Tryd.f3.params[j]? = some t → args[j]? = some v → Value.okWide Tryd.prog W .any base t v := hval0
  have hW' := hW
  have hlt0 := hW'.lt
  obtain ⟨p, q, hA0, hV, rfl, hfz, hnd⟩ := hW
  have hA : DataW.TrodAll enc Tryd.prog W 0 (fun _ => true) true Tryd.f3.params.toList args.toList ds p := hA0
  rw [Tryd.params3] at hA hval
  obtain ⟨v0, vs0, d0, ds0, p0, q0, hargs, rfl, rfl, h0, r0⟩ := trodAll_cons hA
  obtain ⟨v1, vs1, d1, ds1, p1, q1, hargs1, rfl, rfl, h1, r1⟩ := trodAll_cons r0
  obtain ⟨rfl, rfl, rfl⟩ := trodAll_nil r1
  obtain rfl : args = #[v0, v1] := by rw [← Array.toArray_toList (xs := args), hargs, hargs1]
  obtain ⟨rfl, rfl⟩ := trodVars_none hV
  obtain ⟨a1, rfl, rfl, rfl, w1⟩ := open_int Tryd.underlying29 (hval 1 29 v1 rfl rfl) h1
  have hx1 : 0 ≤ a1 ∧ a1 ≤ 65535 := by simpa [Lit.wf, IntKind.min, IntKind.max, IntKind.signed, IntKind.bits] using w1
  obtain ⟨at_, rfl⟩ : ∃ at_ : Nat, a1 = (at_ : Int) := ⟨a1.toNat, by omega⟩
  obtain ⟨cs, rfl⟩ := agg_of_ok Tryd.underlying28 (hval 0 28 v0 rfl rfl)
  have hbk : Rows.uptoBulk d0 ≤ 1048576 := by
    simp only [List.append_nil, List.cons_append, List.nil_append, Rows.uptoBulkAll] at hbulk
    omega
  have h0' := h0
  obtain ⟨fu, hn⟩ := h0'
  obtain ⟨r, hr, hfit, hs⟩ := open_rec tyVr bulkL bulkS hn hbk
  obtain ⟨tv, vv, herr⟩ := err_of_laid hL
  clear hA0 hval0
  simp only [List.append_nil, List.nil_append] at hW' hlt0
  refine ((walk at_ (by omega) (cs := cs.toList) hr hfit hs herr).2).mono fun e W' ⟨v, he, hv, hx'⟩ => ?_
  subst he; subst hv
  exact ⟨_, rfl, post_of_ext (pa := p0 ++ ([] ++ [])) (pv := []) hW' (fun _ _ _ => (trodAll_cons_mk (shut_bool Tryd.underlying4 _) trodAll_mk0)) (fun sp hsp => (trodAll_cons_mk (ext_trod laidOut (by kernel_rfl) (of_decide_eq_true (by kernel_rfl)) h0 hx' (fun x hx => hlt0 x (by simpa using hx)) (fun x hx => hsp x (by simpa using hx))) (trodAll_cons_mk (shut_int Tryd.underlying29 w1) trodAll_mk0))) (fun _ _ => rfl) (by simp)
    hx' (ok_one (by kernel_rfl) rfl (okWide_bool_mk Tryd.underlying4 _))⟩

set_option maxRecDepth 100000 in
theorem lifted (os : Os) (started : os.Started) (H : Type) (enc : TypeId × Value → H) (F : Stop.Interp) :
    ReturnsInHanded {} Tryd.checked os 3 .any ((Rows.OpenSpec.upto Rows.fnTellRecordSpec).preRow enc Tryd.prog Tryd.f3 Rows.fnTellRecordUptoRow.domain false Rows.fnTellRecordUptoRow.laid) (((Rows.OpenSpec.upto Rows.fnTellRecordSpec).at F).post enc Tryd.prog Tryd.f3 false true false false) := by
  obtain ⟨places, hx⟩ := reads os enc
  refine returnsInHanded_of_row (C := Tryd.checked) (s := Rows.OpenSpec.upto Rows.fnTellRecordSpec) own started (by kernel_rfl) Tryd.func3
    (witness_row_at (enc := enc) (C := Tryd.checked) false (laidWorld os) #[.agg #[.int .i32 0, .int .i8 0, .int .i64 0, .int .i32 0, .bool false, .slice none 0 0, .bool false, .slice none 0 0, .slice none 0 0], .int .u16 0] rfl (by kernel_rfl) (by kernel_rfl) (by kernel_rfl)
      (OpenSpec.preRow_of_cond 8 hx (by kernel_rfl) (fun k hk => by cases hk; kernel_rfl) (by kernel_rfl) (laidWorld_met os _))) ?_
  intro W base args ds gs before hval hW _ hcond _ hL _ _
  exact contract H enc W base args ds gs before hval hW (of_decide_eq_true (hcond _ rfl)) hL

theorem row : Rows.FnTellRecordUptoSaid :=
  OpenClaim.holds_of_cond 3 Tryd.f3 rfl rfl rfl rfl rfl rfl rfl ⟨rfl, rfl, rfl, rfl, rfl⟩ rfl rfl rfl rfl rfl (by kernel_rfl) Tryd.func3 (by kernel_rfl)
    (of_decide_eq_true (by kernel_rfl)) (by unfold Func.isWrapper; first | (rw [if_pos (by decide +kernel)]; kernel_rfl) | (rw [if_neg (by decide +kernel)]; exact ⟨rfl, rfl⟩))
    (fun os started H enc _ F => by rw [OpenClaim.pre_eq_preRow]; exact lifted os started H enc F)

theorem proved : Rows.FnTellRecordUptoCardSaid :=
  Claim7.holds_tied_plain_at .later [] [.sentinel] true (true, "712c38b5942997fb5185592f7015428ef08c7bdb4fc62bd4f3ac7eee851b670f") false
    row (fun _ h => by cases h) (by kernel_rfl) (fun _ h => by cases h) fnTellRecordUpto_row_tie rfl ⟨rfl, rfl⟩ (by kernel_rfl) rfl
    (fun f fn hf hfn => by
      obtain rfl : f = 3 := Option.some.inj ((show Tryd.prog.funcNamed "pub-kmsg/laws.FnTellRecord" = some 3 by kernel_rfl).symm.trans hf) |>.symm
      obtain rfl : fn = Tryd.f3 := (Option.some.inj (Tryd.func3.symm.trans hfn)).symm
      exact ⟨by kernel_rfl, fun j t ht => by
        rw [Tryd.params3] at ht
        have hm : t ∈ [28, 29] := by simpa using Array.mem_of_getElem? ht
        have hall : ([28, 29].all fun u => !Tryd.prog.wantsStandIn u) = true := by kernel_rfl
        exact (show Tryd.prog.wantsStandIn t = false by simpa using List.all_eq_true.1 hall t hm)⟩)
    (by kernel_rfl)
end tellRecord
end Go.Proofs.YtehkklpnchojjaaDoor
