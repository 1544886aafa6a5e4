/- All words of IncrementalAlterConfigOp are those that the documentation names, in order. Of no input: no condition. -/
import Derived.Test.YtgajindbafacgaaKa
import Derived.Test.YtgajindbafacgaaChecked
import Derived.Test.YtgajindbafacgaaRows
import Derived.KernelRfl
import Derived.ProofKit
import Derived.OpenShut
set_option linter.unusedVariables false
set_option linter.unusedSectionVars false
set_option linter.unusedSimpArgs false
set_option maxRecDepth 100000
namespace Go.Proofs.Ytgajindbafacgaa
namespace wordsIncrementalAlterConfigOp
open Go Go.Kg Go.ChangeShapes Go.WideShapes Go.ChangeAt Go.RowKit
def env : Env := { tNil := 0, tB := 4, tInt := 3, tI32 := 21, tI64 := 2, tAny := 20, tS := 9, tU32 := 38, tU8 := 5 }
theorem mixed : Try.prog.follows .mixedOrders = true := by kernel_rfl
def words : List ByteArray := [⟨#[83, 69, 84]⟩, ⟨#[68, 69, 76, 69, 84, 69]⟩, ⟨#[65, 80, 80, 69, 78, 68]⟩, ⟨#[83, 85, 66, 84, 82, 65, 67, 84]⟩]
theorem isK : FnIs Try.prog 8 2 [.t 0] (irStrs env 23 words) := FnIs.of mixed Try.func8 (by kernel_rfl) (by kernel_rfl) (by kernel_rfl) (by kernel_rfl)
theorem isI : FnIs Try.prog 5 2 [.t 0] (irWrap 23 8) := FnIs.of mixed Try.func5 (by kernel_rfl) (by kernel_rfl) (by kernel_rfl) (by kernel_rfl)
theorem isN : FnIs Try.prog 7 6 [.t 0] (irNames4 env 26 30 ⟨#[83, 69, 84]⟩ ⟨#[68, 69, 76, 69, 84, 69]⟩ ⟨#[65, 80, 80, 69, 78, 68]⟩ ⟨#[83, 85, 66, 84, 82, 65, 67, 84]⟩) := FnIs.of mixed Try.func7 (by kernel_rfl) (by kernel_rfl) (by kernel_rfl) (by kernel_rfl)
theorem isW : FnIs Try.prog 6 19 [.t 2] (irWords env 23 26 30) := FnIs.of mixed Try.func6 (by kernel_rfl) (by kernel_rfl) (by kernel_rfl) (by kernel_rfl)
theorem isS : FnIs Try.prog 4 26 [.t 4] (irSameWords env 23) := FnIs.of mixed Try.func4 (by kernel_rfl) (by kernel_rfl) (by kernel_rfl) (by kernel_rfl)
theorem isL : FnIs Try.prog 3 5 [.t 0] (irWordsLaw env 23 26 5 7 6 4) := FnIs.of mixed Try.func3 (by kernel_rfl) (by kernel_rfl) (by kernel_rfl) (by kernel_rfl)
def zs : Value := .string ⟨#[]⟩
def zn : Value := .agg #[.int .i64 0, .string ⟨#[]⟩]
theorem tyWd : TyWd Try.prog env 23 26 30 zs zn := { sS := sli_of (by kernel_rfl) (by kernel_rfl) rfl, sN := sli_of (by kernel_rfl) (by kernel_rfl) rfl, kN := by kernel_rfl, n1 := by kernel_rfl, kS := by kernel_rfl, zN := ⟨.int .i64 0, .string ⟨#[]⟩, by kernel_rfl⟩, pl := by kernel_rfl, iInt := by kernel_rfl }
theorem own : ownKnob Try.prog.godebug = none := by kernel_rfl
theorem walk (w : World) : Ret Try.prog 3 #[] w fun u w' => u = .bool true ∧ Ext none1 w w' :=
  c_WordsLaw tyWd (ws := words) isL (by decide) (by decide) (fun w => c_Wrap isI (c_Strs tyWd isK (by decide) (by decide) w)) (fun w => c_Names4 tyWd isN w) isW (by decide) isS (by decide) w

set_option maxRecDepth 100000 in
theorem lifted (os : Os) (started : os.Started) (H : Type) (enc : TypeId × Value → H) :
    ReturnsInHanded {} Try.checked os 3 .any (Rows.fnIncrementalAlterConfigOpWordsSpec.pre6 enc Try.prog Try.f3 Rows.fnIncrementalAlterConfigOpWordsRow.domain false) (Rows.fnIncrementalAlterConfigOpWordsSpec.post enc Try.prog Try.f3 false true false false) := by
  refine returnsInHanded_of_change (C := Try.checked) own started (by kernel_rfl) Try.func3
    (ChangeSpec.witness6 (enc := enc) (C := Try.checked) false ⟨#[], #[], []⟩ 8 (by kernel_rfl) (by kernel_rfl) (by kernel_rfl) (by kernel_rfl)) ?_
  intro W base args ds gs before hval0 hW hcnd _
  have hW' := hW
  obtain ⟨p, q, hA0, hV, rfl, hfz, hnd⟩ := hW
  have hA : DataW.TrodAll enc Try.prog W 0 (fun _ => true) true Try.f3.params.toList args.toList ds p := hA0
  rw [Try.params3] at hA
  obtain ⟨hargs, rfl, rfl⟩ := trodAll_nil hA
  obtain rfl : args = #[] := by rw [← Array.toArray_toList (xs := args), hargs]
  obtain ⟨rfl, rfl⟩ := trodVars_none hV
  clear hA0 hval0
  simp only [List.append_nil] at hW'
  refine ((walk W).2).mono fun e W' ⟨v, he, hv, hx'⟩ => ?_
  subst he; subst hv
  exact ⟨_, rfl, post_of_ext (pa := []) (pv := []) hW' (fun _ _ _ => (trodAll_cons_mk (shut_bool Try.underlying4 _) trodAll_mk0)) (fun sp _ => trodAll_mk0) (fun _ _ => rfl) rfl
    hx' (ok_one (by kernel_rfl) rfl (okWide_bool_mk Try.underlying4 _))⟩

/-- the law holds -/
theorem proved : Rows.FnIncrementalAlterConfigOpWordsSaid :=
  OpenClaim.holds_of_wide 3 Try.f3 rfl rfl rfl rfl rfl rfl rfl ⟨rfl, rfl, rfl, rfl, rfl⟩ rfl rfl rfl rfl rfl (by kernel_rfl) Try.func3 (by kernel_rfl)
    (of_decide_eq_true (by kernel_rfl)) (by unfold Func.isWrapper; first | (rw [if_pos (by decide +kernel)]; kernel_rfl) | (rw [if_neg (by decide +kernel)]; exact ⟨rfl, rfl⟩))
    (fun os started H enc _ => lifted os started H enc)
end wordsIncrementalAlterConfigOp
end Go.Proofs.Ytgajindbafacgaa
