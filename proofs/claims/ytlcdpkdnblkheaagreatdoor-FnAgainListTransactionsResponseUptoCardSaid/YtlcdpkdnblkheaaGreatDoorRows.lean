/-
  NARROWER THAN 'FOR EVERY INPUT', by the rows' own cells (each row's printed sentence says how): FnAgainFindCoordinatorResponse: loops, laid · FnAgainListTransactionsResponse: loops, laid · FnCutOffsetCommitResponse: loops, laid · FnCutReadShareGroupStateSummaryRequest: loops, laid · FnAgainAlterConfigsRequest: loops, laid.
  DERIVED. THE GIVEN ROWS OF THIS SEAT. 5 by the template 'for every input the law returns true; each argument reads behind the call as it read before'; 0 by the template 'total and deterministic' (their statements: YtlcdpkdnblkheaaGreatDoorTotals.lean).
  GIVEN WITH THE SEED: the statements are not yours to turn. If you find one false, say at which input.
  Laid BY PROGRAM, IN A SANDBOX (cutbox-rows.mjs): the forced cells as the released guide's own fill.sh prints them over the translation bdfa4410346050f6… (all of the seat's roots in one cut). By AI agents, Wed Nov 11 2026. No macro, syntax, notation, axiom, sorry.
-/
import Derived.Test.YtlcdpkdnblkheaaGreatDoorChecked
import GoSem.Claim
import GoSem.ClaimJoined
import GoSem.ClaimMapViews
import Derived.JoinedTies
import Derived.KernelRfl
namespace Go.Proofs.YtlcdpkdnblkheaaGreatDoor
/- THE CELL 'sum', in the pinned program and in every row, IS THE sha256 OF THE DUMP (.gsa) THAT YtlcdpkdnblkheaaGreatDoorProg.lean LOADS. Nothing in Lean hashes anything: it is a label: what it is worth is what the hold of that sum in a sandbox is worth. -/
noncomputable def Tryz.pinned : Pinned := { name := "ytlcdpkdnblkheaagreatdoor", sum := "bdfa4410346050f6d0bbc8f7b03d9942e976846f562ba27d1239586346a4a9c5", checked := Tryz.checked }
namespace Rows
def none {H : Type} : Left H := { results := [], args := [] }

/- WHAT THE LISTED PACKAGE-LEVEL VARIABLES READ AS WHEN THE CALL BEGINS. Each datum BY PROGRAM (the guide's laid-datum.mjs) off the statement by which the dump's own 'gosem.cut.vars' lays the variable. In a bare row this is a premise. The card (YtlcdpkdnblkheaaGreatDoorCards.lean) ties it to the program's text. -/
def laid_pub_kmsg_pub_kmsg_inner_kbin_ErrNotEnoughData {H : Type} : DataW H := .iface "*errors.errorString" (.ptr (.agg [.lit (.string [114, 101, 115, 112, 111, 110, 115, 101, 32, 100, 105, 100, 32, 110, 111, 116, 32, 99, 111, 110, 116, 97, 105, 110, 32, 101, 110, 111, 117, 103, 104, 32, 100, 97, 116, 97, 32, 116, 111, 32, 98, 101, 32, 118, 97, 108, 105, 100])]))

/-- 'laws.FnAgainFindCoordinatorResponse': WHATEVER THE INPUT: true; the input reads as it did. -/
def fnAgainFindCoordinatorResponseSpec : ChangeSpec := { name := "fnAgainFindCoordinatorResponse", fn := fun _ => fun
  | [d1, d2] => { results := [.lit (.bool true)], args := [d1, d2] }
  | _ => none }
def fnAgainFindCoordinatorResponseRow : OpenClaim := { program := "ytlcdpkdnblkheaagreatdoor", sum := "bdfa4410346050f6d0bbc8f7b03d9942e976846f562ba27d1239586346a4a9c5", func := "pub-kmsg/laws.FnAgainFindCoordinatorResponse", spec := "fnAgainFindCoordinatorResponse", inPlace := ["internal/reflectlite.ValueOf", "internal/reflectlite.Swapper", "(internal/reflectlite.Value).Len"], unfollowed := true, recurses := true, named := ["encoding/binary.BigEndian", "pub-kmsg/pub/kmsg/inner/kbin.ErrNotEnoughData"], loops := true, apart := false, laid := [("pub-kmsg/pub/kmsg/inner/kbin.ErrNotEnoughData", laid_pub_kmsg_pub_kmsg_inner_kbin_ErrNotEnoughData)] }
def FnAgainFindCoordinatorResponseSaid : Prop := fnAgainFindCoordinatorResponseRow.holds Tryz.pinned (OpenSpec.ofChange fnAgainFindCoordinatorResponseSpec)

/-- ITS FALSE NEIGHBOUR: 'it returns false'. Refute it at one input. -/
def fnAgainFindCoordinatorResponseWrong : ChangeSpec := { name := "fnAgainFindCoordinatorResponse", fn := fun _ => fun
  | [d1, d2] => { results := [.lit (.bool false)], args := [d1, d2] }
  | _ => none }
def FnAgainFindCoordinatorResponseWrongFalsely : Prop := fnAgainFindCoordinatorResponseRow.holds Tryz.pinned (OpenSpec.ofChange fnAgainFindCoordinatorResponseWrong)

/-- 'laws.FnAgainListTransactionsResponse': WHATEVER THE INPUT: true; the input reads as it did. -/
def fnAgainListTransactionsResponseSpec : ChangeSpec := { name := "fnAgainListTransactionsResponse", fn := fun _ => fun
  | [d1, d2] => { results := [.lit (.bool true)], args := [d1, d2] }
  | _ => none }
def fnAgainListTransactionsResponseRow : OpenClaim := { program := "ytlcdpkdnblkheaagreatdoor", sum := "bdfa4410346050f6d0bbc8f7b03d9942e976846f562ba27d1239586346a4a9c5", func := "pub-kmsg/laws.FnAgainListTransactionsResponse", spec := "fnAgainListTransactionsResponse", inPlace := ["internal/reflectlite.ValueOf", "internal/reflectlite.Swapper", "(internal/reflectlite.Value).Len"], unfollowed := true, recurses := true, named := ["encoding/binary.BigEndian", "pub-kmsg/pub/kmsg/inner/kbin.ErrNotEnoughData"], loops := true, apart := false, laid := [("pub-kmsg/pub/kmsg/inner/kbin.ErrNotEnoughData", laid_pub_kmsg_pub_kmsg_inner_kbin_ErrNotEnoughData)] }
def FnAgainListTransactionsResponseSaid : Prop := fnAgainListTransactionsResponseRow.holds Tryz.pinned (OpenSpec.ofChange fnAgainListTransactionsResponseSpec)

/-- ITS FALSE NEIGHBOUR: 'it returns false'. Refute it at one input. -/
def fnAgainListTransactionsResponseWrong : ChangeSpec := { name := "fnAgainListTransactionsResponse", fn := fun _ => fun
  | [d1, d2] => { results := [.lit (.bool false)], args := [d1, d2] }
  | _ => none }
def FnAgainListTransactionsResponseWrongFalsely : Prop := fnAgainListTransactionsResponseRow.holds Tryz.pinned (OpenSpec.ofChange fnAgainListTransactionsResponseWrong)

/-- 'laws.FnCutOffsetCommitResponse': WHATEVER THE INPUT: true; the input reads as it did. -/
def fnCutOffsetCommitResponseSpec : ChangeSpec := { name := "fnCutOffsetCommitResponse", fn := fun _ => fun
  | [d1, d2, d3] => { results := [.lit (.bool true)], args := [d1, d2, d3] }
  | _ => none }
def fnCutOffsetCommitResponseRow : OpenClaim := { program := "ytlcdpkdnblkheaagreatdoor", sum := "bdfa4410346050f6d0bbc8f7b03d9942e976846f562ba27d1239586346a4a9c5", func := "pub-kmsg/laws.FnCutOffsetCommitResponse", spec := "fnCutOffsetCommitResponse", inPlace := ["internal/reflectlite.ValueOf", "internal/reflectlite.Swapper", "(internal/reflectlite.Value).Len"], unfollowed := true, recurses := true, named := ["encoding/binary.BigEndian", "pub-kmsg/pub/kmsg/inner/kbin.ErrNotEnoughData"], loops := true, apart := false, laid := [("pub-kmsg/pub/kmsg/inner/kbin.ErrNotEnoughData", laid_pub_kmsg_pub_kmsg_inner_kbin_ErrNotEnoughData)] }
def FnCutOffsetCommitResponseSaid : Prop := fnCutOffsetCommitResponseRow.holds Tryz.pinned (OpenSpec.ofChange fnCutOffsetCommitResponseSpec)

/-- ITS FALSE NEIGHBOUR: 'it returns false'. Refute it at one input. -/
def fnCutOffsetCommitResponseWrong : ChangeSpec := { name := "fnCutOffsetCommitResponse", fn := fun _ => fun
  | [d1, d2, d3] => { results := [.lit (.bool false)], args := [d1, d2, d3] }
  | _ => none }
def FnCutOffsetCommitResponseWrongFalsely : Prop := fnCutOffsetCommitResponseRow.holds Tryz.pinned (OpenSpec.ofChange fnCutOffsetCommitResponseWrong)

/-- 'laws.FnCutReadShareGroupStateSummaryRequest': WHATEVER THE INPUT: true; the input reads as it did. -/
def fnCutReadShareGroupStateSummaryRequestSpec : ChangeSpec := { name := "fnCutReadShareGroupStateSummaryRequest", fn := fun _ => fun
  | [d1, d2, d3] => { results := [.lit (.bool true)], args := [d1, d2, d3] }
  | _ => none }
def fnCutReadShareGroupStateSummaryRequestRow : OpenClaim := { program := "ytlcdpkdnblkheaagreatdoor", sum := "bdfa4410346050f6d0bbc8f7b03d9942e976846f562ba27d1239586346a4a9c5", func := "pub-kmsg/laws.FnCutReadShareGroupStateSummaryRequest", spec := "fnCutReadShareGroupStateSummaryRequest", inPlace := ["internal/reflectlite.ValueOf", "internal/reflectlite.Swapper", "(internal/reflectlite.Value).Len"], unfollowed := true, recurses := true, named := ["encoding/binary.BigEndian", "pub-kmsg/pub/kmsg/inner/kbin.ErrNotEnoughData"], loops := true, apart := false, laid := [("pub-kmsg/pub/kmsg/inner/kbin.ErrNotEnoughData", laid_pub_kmsg_pub_kmsg_inner_kbin_ErrNotEnoughData)] }
def FnCutReadShareGroupStateSummaryRequestSaid : Prop := fnCutReadShareGroupStateSummaryRequestRow.holds Tryz.pinned (OpenSpec.ofChange fnCutReadShareGroupStateSummaryRequestSpec)

/-- ITS FALSE NEIGHBOUR: 'it returns false'. Refute it at one input. -/
def fnCutReadShareGroupStateSummaryRequestWrong : ChangeSpec := { name := "fnCutReadShareGroupStateSummaryRequest", fn := fun _ => fun
  | [d1, d2, d3] => { results := [.lit (.bool false)], args := [d1, d2, d3] }
  | _ => none }
def FnCutReadShareGroupStateSummaryRequestWrongFalsely : Prop := fnCutReadShareGroupStateSummaryRequestRow.holds Tryz.pinned (OpenSpec.ofChange fnCutReadShareGroupStateSummaryRequestWrong)

/-- 'laws.FnAgainAlterConfigsRequest': WHATEVER THE INPUT: true; the input reads as it did. -/
def fnAgainAlterConfigsRequestSpec : ChangeSpec := { name := "fnAgainAlterConfigsRequest", fn := fun _ => fun
  | [d1, d2] => { results := [.lit (.bool true)], args := [d1, d2] }
  | _ => none }
def fnAgainAlterConfigsRequestRow : OpenClaim := { program := "ytlcdpkdnblkheaagreatdoor", sum := "bdfa4410346050f6d0bbc8f7b03d9942e976846f562ba27d1239586346a4a9c5", func := "pub-kmsg/laws.FnAgainAlterConfigsRequest", spec := "fnAgainAlterConfigsRequest", inPlace := ["internal/reflectlite.ValueOf", "internal/reflectlite.Swapper", "(internal/reflectlite.Value).Len"], unfollowed := true, recurses := true, named := ["encoding/binary.BigEndian", "pub-kmsg/pub/kmsg/inner/kbin.ErrNotEnoughData"], loops := true, apart := false, laid := [("pub-kmsg/pub/kmsg/inner/kbin.ErrNotEnoughData", laid_pub_kmsg_pub_kmsg_inner_kbin_ErrNotEnoughData)] }
def FnAgainAlterConfigsRequestSaid : Prop := fnAgainAlterConfigsRequestRow.holds Tryz.pinned (OpenSpec.ofChange fnAgainAlterConfigsRequestSpec)

/-- ITS FALSE NEIGHBOUR: 'it returns false'. Refute it at one input. -/
def fnAgainAlterConfigsRequestWrong : ChangeSpec := { name := "fnAgainAlterConfigsRequest", fn := fun _ => fun
  | [d1, d2] => { results := [.lit (.bool false)], args := [d1, d2] }
  | _ => none }
def FnAgainAlterConfigsRequestWrongFalsely : Prop := fnAgainAlterConfigsRequestRow.holds Tryz.pinned (OpenSpec.ofChange fnAgainAlterConfigsRequestWrong)

/- THE SECOND FORM. 'bulk': how many values and letters a reading holds, each counted each time it is reached (what is shared counts as often as it is met; a slice's spare places count too). A statement '..UptoSaid' is the law's where the arguments, and the package variables that the reading takes, are together of bulk at most 1048576: NARROWER than '..Said'. Prove '..Said' where nothing that the law and all that it calls make is longer than what came in: it says more and counts as full. Else prove '..UptoSaid'. A law counts once. -/
mutual
def uptoBulk {H : Type} : DataW H → Nat
  | .lit (.string bytes) => bytes.length + 1
  | .lit _ => 1
  | .nil => 1
  | .ptr d => uptoBulk d + 1
  | .slice elems spare => uptoBulkAll elems + uptoBulkAll spare + 1
  | .agg parts => uptoBulkAll parts + 1
  | .iface _ d => uptoBulk d + 1
  | .map entries => uptoBulkEntries entries + 1
  | .held _ => 1
def uptoBulkAll {H : Type} : List (DataW H) → Nat
  | [] => 0
  | d :: r => uptoBulk d + uptoBulkAll r
def uptoBulkEntries {H : Type} : List (Lit × DataW H) → Nat
  | [] => 0
  | x :: r => uptoBulkEntry x + uptoBulkEntries r
def uptoBulkEntry {H : Type} : Lit × DataW H → Nat
  | (.string bytes, d) => bytes.length + uptoBulk d + 1
  | (_, d) => uptoBulk d + 1
 end
def uptoSmall : (H : Type) → List (DataW H) → Bool := fun _ ds => decide (uptoBulkAll ds ≤ 1048576)
def OpenSpec.upto (s : _root_.Go.ChangeSpec) : _root_.Go.OpenSpec := { _root_.Go.OpenSpec.ofChange s with cond := some uptoSmall }

/-- 'laws.FnAgainFindCoordinatorResponse', WHERE WHAT IT READS IS OF BULK AT MOST 1048576: true; the input reads as it did. -/
def fnAgainFindCoordinatorResponseUptoRow : OpenClaim := { program := "ytlcdpkdnblkheaagreatdoor", sum := "bdfa4410346050f6d0bbc8f7b03d9942e976846f562ba27d1239586346a4a9c5", func := "pub-kmsg/laws.FnAgainFindCoordinatorResponse", spec := "fnAgainFindCoordinatorResponse", inPlace := ["internal/reflectlite.ValueOf", "internal/reflectlite.Swapper", "(internal/reflectlite.Value).Len"], unfollowed := true, recurses := true, named := ["encoding/binary.BigEndian", "pub-kmsg/pub/kmsg/inner/kbin.ErrNotEnoughData"], loops := true, apart := false, laid := [("pub-kmsg/pub/kmsg/inner/kbin.ErrNotEnoughData", laid_pub_kmsg_pub_kmsg_inner_kbin_ErrNotEnoughData)], narrowed := true }
def FnAgainFindCoordinatorResponseUptoSaid : Prop := fnAgainFindCoordinatorResponseUptoRow.holds Tryz.pinned (OpenSpec.upto fnAgainFindCoordinatorResponseSpec)

/-- 'laws.FnAgainListTransactionsResponse', WHERE WHAT IT READS IS OF BULK AT MOST 1048576: true; the input reads as it did. -/
def fnAgainListTransactionsResponseUptoRow : OpenClaim := { program := "ytlcdpkdnblkheaagreatdoor", sum := "bdfa4410346050f6d0bbc8f7b03d9942e976846f562ba27d1239586346a4a9c5", func := "pub-kmsg/laws.FnAgainListTransactionsResponse", spec := "fnAgainListTransactionsResponse", inPlace := ["internal/reflectlite.ValueOf", "internal/reflectlite.Swapper", "(internal/reflectlite.Value).Len"], unfollowed := true, recurses := true, named := ["encoding/binary.BigEndian", "pub-kmsg/pub/kmsg/inner/kbin.ErrNotEnoughData"], loops := true, apart := false, laid := [("pub-kmsg/pub/kmsg/inner/kbin.ErrNotEnoughData", laid_pub_kmsg_pub_kmsg_inner_kbin_ErrNotEnoughData)], narrowed := true }
def FnAgainListTransactionsResponseUptoSaid : Prop := fnAgainListTransactionsResponseUptoRow.holds Tryz.pinned (OpenSpec.upto fnAgainListTransactionsResponseSpec)

/-- 'laws.FnCutOffsetCommitResponse', WHERE WHAT IT READS IS OF BULK AT MOST 1048576: true; the input reads as it did. -/
def fnCutOffsetCommitResponseUptoRow : OpenClaim := { program := "ytlcdpkdnblkheaagreatdoor", sum := "bdfa4410346050f6d0bbc8f7b03d9942e976846f562ba27d1239586346a4a9c5", func := "pub-kmsg/laws.FnCutOffsetCommitResponse", spec := "fnCutOffsetCommitResponse", inPlace := ["internal/reflectlite.ValueOf", "internal/reflectlite.Swapper", "(internal/reflectlite.Value).Len"], unfollowed := true, recurses := true, named := ["encoding/binary.BigEndian", "pub-kmsg/pub/kmsg/inner/kbin.ErrNotEnoughData"], loops := true, apart := false, laid := [("pub-kmsg/pub/kmsg/inner/kbin.ErrNotEnoughData", laid_pub_kmsg_pub_kmsg_inner_kbin_ErrNotEnoughData)], narrowed := true }
def FnCutOffsetCommitResponseUptoSaid : Prop := fnCutOffsetCommitResponseUptoRow.holds Tryz.pinned (OpenSpec.upto fnCutOffsetCommitResponseSpec)

/-- 'laws.FnCutReadShareGroupStateSummaryRequest', WHERE WHAT IT READS IS OF BULK AT MOST 1048576: true; the input reads as it did. -/
def fnCutReadShareGroupStateSummaryRequestUptoRow : OpenClaim := { program := "ytlcdpkdnblkheaagreatdoor", sum := "bdfa4410346050f6d0bbc8f7b03d9942e976846f562ba27d1239586346a4a9c5", func := "pub-kmsg/laws.FnCutReadShareGroupStateSummaryRequest", spec := "fnCutReadShareGroupStateSummaryRequest", inPlace := ["internal/reflectlite.ValueOf", "internal/reflectlite.Swapper", "(internal/reflectlite.Value).Len"], unfollowed := true, recurses := true, named := ["encoding/binary.BigEndian", "pub-kmsg/pub/kmsg/inner/kbin.ErrNotEnoughData"], loops := true, apart := false, laid := [("pub-kmsg/pub/kmsg/inner/kbin.ErrNotEnoughData", laid_pub_kmsg_pub_kmsg_inner_kbin_ErrNotEnoughData)], narrowed := true }
def FnCutReadShareGroupStateSummaryRequestUptoSaid : Prop := fnCutReadShareGroupStateSummaryRequestUptoRow.holds Tryz.pinned (OpenSpec.upto fnCutReadShareGroupStateSummaryRequestSpec)

/-- 'laws.FnAgainAlterConfigsRequest', WHERE WHAT IT READS IS OF BULK AT MOST 1048576: true; the input reads as it did. -/
def fnAgainAlterConfigsRequestUptoRow : OpenClaim := { program := "ytlcdpkdnblkheaagreatdoor", sum := "bdfa4410346050f6d0bbc8f7b03d9942e976846f562ba27d1239586346a4a9c5", func := "pub-kmsg/laws.FnAgainAlterConfigsRequest", spec := "fnAgainAlterConfigsRequest", inPlace := ["internal/reflectlite.ValueOf", "internal/reflectlite.Swapper", "(internal/reflectlite.Value).Len"], unfollowed := true, recurses := true, named := ["encoding/binary.BigEndian", "pub-kmsg/pub/kmsg/inner/kbin.ErrNotEnoughData"], loops := true, apart := false, laid := [("pub-kmsg/pub/kmsg/inner/kbin.ErrNotEnoughData", laid_pub_kmsg_pub_kmsg_inner_kbin_ErrNotEnoughData)], narrowed := true }
def FnAgainAlterConfigsRequestUptoSaid : Prop := fnAgainAlterConfigsRequestUptoRow.holds Tryz.pinned (OpenSpec.upto fnAgainAlterConfigsRequestSpec)

end Rows
end Go.Proofs.YtlcdpkdnblkheaaGreatDoor
