/- A text is read as the value of TransactionState whose word it is, and any other one is an error, also when unmarshalled: for every text, no condition. -/
import Derived.Test.YtfmkmpnomjmdoaaDoorKb
import Derived.Test.YtfmkmpnomjmdoaaDoorKgS
import Derived.Test.YtfmkmpnomjmdoaaDoorChecked
import Derived.Test.YtfmkmpnomjmdoaaDoorRows
import Derived.Test.YtfmkmpnomjmdoaaDoorTie
import Derived.Test.YtfmkmpnomjmdoaaDoorCards
import Derived.KernelRfl
import Derived.PinnedBridge
import Derived.Lib.LaidTab
import Derived.ChangeMaps5
import Derived.Handed
import Derived.JoinedOf
import Derived.SevenTiedAt
import Derived.ProofKit
import Derived.OpenShut
set_option linter.unusedVariables false
set_option linter.unusedSectionVars false
set_option linter.unusedSimpArgs false
set_option maxRecDepth 100000
namespace Go.Proofs.YtfmkmpnomjmdoaaDoor
namespace parseTransactionState
open Go Go.Kg Go.ChangeShapes Go.WideShapes Go.ChangeAt Go.RowKit
def env : Env := { tNil := 0, t_int32_int := 66, tBs := 26, tB := 4, tErr := 34, tInt := 3, tI32 := 21, tI64 := 2, tI8 := 31, tAny := 20, tS := 9, tUint := 92, tU16 := 77, tU32 := 62, tU8 := 5 }
theorem mixed : Tryd.prog.follows .mixedOrders = true := by kernel_rfl
theorem isIdx : FnIs Tryd.prog 19 25 [.t 4] (irIndex env) := FnIs.of mixed Tryd.func19 (by kernel_rfl) (by kernel_rfl) (by kernel_rfl) (by kernel_rfl)
theorem isRep : FnIs Tryd.prog 16 67 [.t 6] (irReplaceAll env 19) := FnIs.of mixed Tryd.func16 (by kernel_rfl) (by kernel_rfl) (by kernel_rfl) (by kernel_rfl)
theorem isNm0 : FnIs Tryd.prog 14 14 [.t 2] (irStrnorm env 16 17 18) := FnIs.of mixed Tryd.func14 (by kernel_rfl) (by kernel_rfl) (by kernel_rfl) (by kernel_rfl)
theorem isBlk : FnIs Tryd.prog 13 13 [.t 2] (irBlank env) := FnIs.of mixed Tryd.func13 (by kernel_rfl) (by kernel_rfl) (by kernel_rfl) (by kernel_rfl)
theorem isNrm : FnIs Tryd.prog 9 67 [.t 2] (irNormal env 13) := FnIs.of mixed Tryd.func9 (by kernel_rfl) (by kernel_rfl) (by kernel_rfl) (by kernel_rfl)
theorem isPrs : FnIs Tryd.prog 12 23 [.t 4, .t 5] (irParsed env 9 28 40) := FnIs.of mixed Tryd.func12 (by kernel_rfl) (by kernel_rfl) (by kernel_rfl) (by kernel_rfl)
theorem isPln : FnIs Tryd.prog 4 22 [.t 2] (irPlain env 9) := FnIs.of mixed Tryd.func4 (by kernel_rfl) (by kernel_rfl) (by kernel_rfl) (by kernel_rfl)
theorem isPrd : FnIs Tryd.prog 7 29 [.t 8] (irParsedB env 12 28 23) := FnIs.of mixed Tryd.func7 (by kernel_rfl) (by kernel_rfl) (by kernel_rfl) (by kernel_rfl)
theorem isP8 : FnIs Tryd.prog 10 23 [.t 2, .t 3] (irParse8 env 14 15 32) := FnIs.of mixed Tryd.func10 (by kernel_rfl) (by kernel_rfl) (by kernel_rfl) (by kernel_rfl)
theorem isUnm : FnIs Tryd.prog 11 17 [.t 4] (irUnm env 10 35 32 43) := FnIs.of mixed Tryd.func11 (by kernel_rfl) (by kernel_rfl) (by kernel_rfl) (by kernel_rfl)
theorem isPb : FnIs Tryd.prog 5 15 [.t 2, .t 3] (irParseB env 10 35 32) := FnIs.of mixed Tryd.func5 (by kernel_rfl) (by kernel_rfl) (by kernel_rfl) (by kernel_rfl)
theorem isOf : FnIs Tryd.prog 6 13 [.t 2, .t 3] (irOfText env 11 32) := FnIs.of mixed Tryd.func6 (by kernel_rfl) (by kernel_rfl) (by kernel_rfl) (by kernel_rfl)
theorem isNm : FnIs Tryd.prog 8 10 [.t 0] (irNames8 env 28 40) := FnIs.of mixed Tryd.func8 (by kernel_rfl) (by kernel_rfl) (by kernel_rfl) (by kernel_rfl)
theorem isL : FnIs Tryd.prog 3 36 [.t 2] (irParseLaw env 4 5 6 8 7 23 28) := FnIs.of mixed Tryd.func3 (by kernel_rfl) (by kernel_rfl) (by kernel_rfl) (by kernel_rfl)
theorem isErr : FnIs Tryd.prog 15 7 [.t 2] (irErrNew env 47 45) := FnIs.of mixed Tryd.func15 (by kernel_rfl) (by kernel_rfl) (by kernel_rfl) (by kernel_rfl)
theorem uS : Tryd.prog.underlying env.tS = some .string := by kernel_rfl
theorem uBs : Tryd.prog.underlying env.tBs = some (.slice env.tU8) := by kernel_rfl
theorem uU8 : Tryd.prog.underlying env.tU8 = some (.int .u8) := by kernel_rfl
theorem uB : Tryd.prog.underlying env.tB = some .bool := by kernel_rfl
theorem kU8 : kindOf Tryd.prog env.tU8 = .scl := by kernel_rfl
theorem kT : kindOf Tryd.prog 32 = .scl := by kernel_rfl
theorem zT : zeroOf Tryd.prog 32 = some (.int .i8 0) := by kernel_rfl
theorem iT : intKind? Tryd.prog 32 = some .i8 := by kernel_rfl
theorem iInt : intKind? Tryd.prog env.tInt = some .i64 := by kernel_rfl
theorem uPE : Tryd.prog.underlying 45 = some (.pointer 47) := by kernel_rfl
theorem tBs : SliI Tryd.prog env.tBs env.tU8 1 1 (.int .u8 0) := sli_of (by kernel_rfl) (by kernel_rfl) rfl
theorem uErr : ∃ ms, Tryd.prog.underlying env.tErr = some (.interface ms) := ⟨_, Tryd.underlying34⟩
theorem bldE (s : ByteArray) : bld? Tryd.prog 47 [(0, .string s)] = some (.agg #[.string s]) := by kernel_rfl
def zn : Value := .agg #[.int .i64 0, .string ⟨#[]⟩]
theorem tyNm : TyNm Tryd.prog env 28 40 zn := { sN := sli_of (by kernel_rfl) (by kernel_rfl) rfl, kN := by kernel_rfl, n0 := by kernel_rfl, n1 := by kernel_rfl, kS := by kernel_rfl, zN := ⟨.int .i64 0, .string ⟨#[]⟩, by kernel_rfl⟩, pl := by kernel_rfl, iInt := iInt, kI := by kernel_rfl }
theorem builderX : Builder.Extra Tryd.prog Tryd.laysLow_ren := { sizeBuilder := by kernel_rfl, liesBuilder := by kernel_rfl, t5 := Tryd.laysLow.t5, a5 := Tryd.laysLow.a5, z5 := Tryd.laysLow.z5, v5 := Tryd.laysLow.v5, infoByte := by kernel_rfl, cellsByte := by kernel_rfl, sizeByte := by kernel_rfl, neB5 := by decide }
def Tb (w : World) : Prop := Lib.TabIs Tryd.prog w "strings.asciiSpace" .u8 Lib.asciiSpaceTab
theorem walk {w : World} {s : List UInt8} (hlen : s.length < 9223372036854775808) (ht : Tb w) : Ret Tryd.prog 3 #[strV s] w fun u w' => u = .bool true ∧ Ext none1 w w' := by
  have hN := fun (w : World) (s : List UInt8) (h : s.length ≤ 1000) => c_Normal (w := w) uS uBs uU8 kU8 tBs (by decide) isNrm (fun w c => c_blank (by decide) isBlk w c) h
  have hRep := fun (w : World) (s : List UInt8) (d : UInt8) (h : s.length ≤ 1000) => c_zzReplaceAll (w := w) (d := d) uS uBs uU8 tBs (by decide) isRep (fun w r d h => c_zzIndex uS (by decide) isIdx h) h
  have hNm0 := fun (w : World) (h : s.length ≤ 200) (hs : ∀ c ∈ s, c < 128) (ht : Tb w) => c_strnorm (Tb := Tb) (fun _ _ he h => var_ext he h) (by decide) isNm0 hRep (fun w s h1 h2 h3 => trim_of Tryd.laysTrim ⟨by kernel_rfl⟩ ⟨_, _, Tryd.func17, rfl, by kernel_rfl⟩ w s h1 h2 h3) (fun w s h1 h2 => lower_of Tryd.laysLow builderX ⟨_, _, Tryd.func18, rfl, by kernel_rfl⟩ w s h1 h2) (w := w) (s := s) (by omega) hs ht
  have hP8 := fun (w : World) (h : s.length ≤ 200) (hs : ∀ c ∈ s, c < 128) (ht : Tb w) => c_Parse8 (by decide) isP8 (hNm0 w h hs ht) (fun w s => c_errNew bldE uPE (by decide) isErr w s)
  exact c_ParseLaw uS (by decide) isL hlen (fun f ty w K hx h => conv_str uS uBs uU8 f ty w K hx h) (c_plain uS (by decide) isPln hN hlen)
    (fun w1 he h1 h2 => c_ParseB uErr iT iInt (by decide) isPb (hP8 w1 h1 h2 (var_ext he ht)))
    (fun w1 v he hv h1 h2 => c_OfText kT zT iT iInt uErr tBs (by decide) isOf hv (by omega) (fun he2 hb hv2 => c_Unm kT uS uBs uU8 (by decide) isUnm hb hv2 (hP8 _ h1 h2 (var_ext (he.trans he2) ht))))
    (fun w => c_Names8 tyNm isNm w)
    (fun w v h hv => c_parsedB uB (by decide) isPrd (fun w hv => c_Parsed tyNm (by decide) isPrs hN hv (by decide) (by decide) (by omega)) hv)

/-! ## The laid tables -/
theorem own : ownKnob Tryd.prog.godebug = none := by kernel_rfl
theorem laidOut : laidOutB Tryd.prog = true := by kernel_rfl
def laid5 : List (String × DataW Unit) := [("unicode/utf8.acceptRanges", Lib.acceptData), ("unicode.White_Space", Lib.whiteData), ("strings.asciiSpace", Lib.tabData .u8 Lib.asciiSpaceTab), ("unicode.CaseRanges", Lib.caseData), ("unicode/utf8.first", Lib.firstData)]
theorem laid_eq : Rows.fnParseTransactionStateRow.laid = laid5 := by kernel_rfl
theorem noHandles : (laid5.filter fun x => x.2.handleName?.isSome) = [] := by kernel_rfl
theorem laid_iff {W : World} : laidMetH Tryd.prog Rows.fnParseTransactionStateRow.laid W ↔ laidMet Tryd.prog laid5 W := by
  rw [laid_eq]
  unfold laidMetH
  rw [noHandles]
theorem perm_of_walk : [("strings.asciiSpace", Lib.tabData .u8 Lib.asciiSpaceTab), ("unicode/utf8.acceptRanges", Lib.acceptData), ("unicode.White_Space", Lib.whiteData), ("unicode.CaseRanges", Lib.caseData), ("unicode/utf8.first", Lib.firstData)].Perm laid5 :=
  (List.Perm.swap _ _ _).trans (.cons _ (.swap _ _ _))
theorem perm_of_met : ([("strings.asciiSpace", Lib.tabData .u8 Lib.asciiSpaceTab), ("unicode/utf8.first", Lib.firstData), ("unicode/utf8.acceptRanges", Lib.acceptData), ("unicode.White_Space", Lib.whiteData)] ++ [("unicode.CaseRanges", Lib.caseData)]).Perm laid5 := by
  refine .trans ?_ perm_of_walk
  exact .cons _ ((List.Perm.swap _ _ _).trans (.cons _ ((List.Perm.swap _ _ _).trans (.cons _ (.swap _ _ _)))))
theorem tb_of_laid {W : World} (h : laidMetH Tryd.prog Rows.fnParseTransactionStateRow.laid W) : Tb W :=
  Lib.tabIs_of_head (g := 0) (t := 51) (e := env.tU8) (n := 256) (by kernel_rfl) (by kernel_rfl) (by kernel_rfl) uU8 (by kernel_rfl) (by kernel_rfl) (laidMet_perm perm_of_walk.symm (laid_iff.1 h))
/-- The witness: the settled world with three blocks more, the five variables holding what they are laid as. -/
noncomputable def laidWorld (os : Os) : World :=
  let N := (World.settled Tryd.prog os).heap.size
  let w0 := World.holding Tryd.prog os ⟨#[.cells (Lib.whiteT.map fun (z : Nat) => Value.int .u16 (z : Int)).toArray (Tryd.laysTrim_ren.t 198), .cells #[.slice (some ⟨N, 0, Option.none⟩) 7 7, .slice Option.none 0 0, .int .i64 2] (Tryd.laysTrim_ren.t 196),
    .cells Lib.caseCells5 (Tryd.laysLow_ren.t 208)], #[], []⟩
  let put (h : Array Obj) (g : Nat) (cs : Array Value) : Array Obj := h.modify g fun
    | .cells _ t frozen => .cells cs t frozen
    | o => o
  let h1 := put w0.heap 0 (Lib.asciiSpaceTab.map fun z => Value.int .u8 z).toArray
  let h2 := put h1 (Tryd.laysTrim_ren.g 3) (Lib.firstTab.map fun z => Value.int .u8 z).toArray
  let h3 := put h2 (Tryd.laysTrim_ren.g 4) ((List.range 16).flatMap fun i => [Value.int .u8 (Lib.accLo i), Value.int .u8 (Lib.accHi i)]).toArray
  let h4 := put h3 (Tryd.laysTrim_ren.g 6) #[.pointer (some ⟨N + 1, 0, Option.none⟩)]
  let h5 := put h4 (Tryd.laysLow_ren.g 13) #[.slice (some ⟨N + 2, 0, Option.none⟩) 336 336]
  { w0 with heap := h5 }
theorem laidWorld_met (os : Os) (args : Array Value) : laidMetH Tryd.prog Rows.fnParseTransactionStateRow.laid ((laidWorld os).forCall (fun _ _ => 0) ⟨#[], args, []⟩).memory :=
  laid_iff.2 (laidMet_perm perm_of_met (laidMet_with_case (ρ := Tryd.laysLow_ren) { Tryd.laysLow with } Tryd.laysLow.t206 ⟨by kernel_rfl, by kernel_rfl, by kernel_rfl, by kernel_rfl, by kernel_rfl, by kernel_rfl⟩
    10 (by kernel_rfl) (by kernel_rfl) (by kernel_rfl) ((World.settled Tryd.prog default).heap.size + 2) (Tryd.laysLow_ren.t 208) (of_decide_eq_true (by kernel_rfl)) (by kernel_rfl) (by kernel_rfl) (by kernel_rfl)))

theorem strV_data (s : ByteArray) : Value.string s = strV s.data.toList := by cases s; simp [strV]

set_option maxRecDepth 100000 in
theorem lifted (os : Os) (started : os.Started) (H : Type) (enc : TypeId × Value → H) :
    ReturnsInHanded {} Tryd.checked os 3 .any (fun w args => (Rows.fnParseTransactionStateSpec.pre enc Tryd.prog Tryd.f3 [] false w args ∧ laidMetH Tryd.prog Rows.fnParseTransactionStateRow.laid w) ∧ sizedMet enc Tryd.prog Tryd.f3 (OpenSpec.ofChange Rows.fnParseTransactionStateSpec) false w args) (Rows.fnParseTransactionStateSpec.post enc Tryd.prog Tryd.f3 false true false false) := by
  refine returnsInHanded_of_change_and (C := Tryd.checked) (X := fun w _ => laidMetH Tryd.prog Rows.fnParseTransactionStateRow.laid w) (fun _ _ _ hh h => h.of_heap hh) own started (by kernel_rfl) Tryd.func3
    (witness_atRef (enc := enc) (C := Tryd.checked) (os := os) (X := fun w _ => laidMetH Tryd.prog Rows.fnParseTransactionStateRow.laid w) false (laidWorld os) #[.string ⟨#[]⟩] 8 rfl (by kernel_rfl) (by kernel_rfl) (by kernel_rfl) (by kernel_rfl) (by kernel_rfl) (laidWorld_met os _)) ?_
  intro W base args ds gs before hval0 hW _ _ hL _
  have hval : ∀ (j : Nat) t v, Tryd.f3.params[j]? = some t → args[j]? = some v → Value.okWide Tryd.prog W .any base t v := hval0
  have hW' := hW
  obtain ⟨p, q, hA0, hV, rfl, hfz, hnd⟩ := hW
  have hA : DataW.TrodAll enc Tryd.prog W 0 (fun _ => true) true Tryd.f3.params.toList args.toList ds p := hA0
  rw [Tryd.params3] at hA hval
  obtain ⟨v0, vs0, d0, ds0, p0, q0, hargs, rfl, rfl, h0, r0⟩ := trodAll_cons hA
  obtain ⟨rfl, rfl, rfl⟩ := trodAll_nil r0
  obtain rfl : args = #[v0] := by rw [← Array.toArray_toList (xs := args), hargs]
  obtain ⟨rfl, rfl⟩ := trodVars_none hV
  obtain ⟨s, rfl, rfl, rfl, hs⟩ := Go.ChangeMaps.open_string Tryd.underlying9 (hval 0 9 v0 rfl rfl) h0
  have htb := tb_of_laid hL
  clear hA0 hval0
  simp only [List.append_nil, List.nil_append] at hW'
  have hw := walk (w := W) (s := s.data.toList) (by have : s.data.toList.length = s.size := Array.length_toList
                                                    unfold maxLen at hs; omega) htb
  rw [← strV_data] at hw
  refine (hw.2).mono fun e W' ⟨v, he, hv, hx'⟩ => ?_
  subst he; subst hv
  exact ⟨_, rfl, post_of_ext (pa := [] ++ []) (pv := []) hW' (fun _ _ _ => (trodAll_cons_mk (shut_bool Tryd.underlying4 _) trodAll_mk0)) (fun sp hsp => (trodAll_cons_mk (Go.ChangeMaps.shut_string Tryd.underlying9 hs) trodAll_mk0)) (fun _ _ => rfl) (by simp)
    hx' (ok_one (by kernel_rfl) rfl (okWide_bool_mk Tryd.underlying4 _))⟩

theorem row : Rows.FnParseTransactionStateSaid :=
  OpenClaim.holds_of_wide 3 Tryd.f3 rfl rfl rfl rfl rfl rfl rfl ⟨rfl, rfl, rfl, rfl, rfl⟩ rfl rfl rfl rfl rfl (by kernel_rfl) Tryd.func3 (by kernel_rfl)
    (of_decide_eq_true (by kernel_rfl)) (by unfold Func.isWrapper; first | (rw [if_pos (by decide +kernel)]; kernel_rfl) | (rw [if_neg (by decide +kernel)]; exact ⟨rfl, rfl⟩))
    (fun os started H enc _ => lifted os started H enc)

theorem proved : Rows.FnParseTransactionStateCardSaid :=
  Claim7.holds_tied_plain_at .later [] [.data, .listed, .data, .pinned, .pinned] true (true, "02cbdde15f3439b3875a6625a8aeb1fa4fd50c797f68a87ef3e6bf5348efdd3a") false
    row (fun _ h => by cases h) (by kernel_rfl) (fun _ h => by cases h) fnParseTransactionState_row_tie rfl ⟨rfl, rfl⟩ (by kernel_rfl) rfl
    (fun f fn hf hfn => by
      obtain rfl : f = 3 := Option.some.inj ((show Tryd.prog.funcNamed "pub-kmsg/laws.FnParseTransactionState" = some 3 by kernel_rfl).symm.trans hf) |>.symm
      obtain rfl : fn = Tryd.f3 := (Option.some.inj (Tryd.func3.symm.trans hfn)).symm
      exact ⟨by kernel_rfl, fun j t ht => by
        rw [Tryd.params3] at ht
        have hm : t ∈ [9] := by simpa using Array.mem_of_getElem? ht
        have hall : ([9].all fun u => !Tryd.prog.wantsStandIn u) = true := by kernel_rfl
        exact (show Tryd.prog.wantsStandIn t = false by simpa using List.all_eq_true.1 hall t hm)⟩)
    (by kernel_rfl)
end parseTransactionState
end Go.Proofs.YtfmkmpnomjmdoaaDoor
