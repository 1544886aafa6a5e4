/-
  NARROWER THAN 'FOR EVERY INPUT', by the rows' own cells (each row's printed sentence says how): FnAgainDescribeProducersResponse: loops, laid · FnAgainDeleteACLsResponse: loops, laid · FnCutDeleteRecordsResponse: loops, laid · FnCutAlterPartitionRequest: loops, laid · FnCutDescribeShareGroupOffsetsResponse: loops, laid.
  DERIVED. THE GIVEN ROWS OF THIS SEAT. 5 by the template 'for every input the law returns true; each argument reads behind the call as it read before'; 0 by the template 'total and deterministic' (their statements: YtlcdpkdnblkheabGreatDoorTotals.lean).
  GIVEN WITH THE SEED: the statements are not yours to turn. If you find one false, say at which input.
  Laid BY PROGRAM, IN A SANDBOX (cutbox-rows.mjs): the forced cells as the released guide's own fill.sh prints them over the translation 74ad34afb6187578… (all of the seat's roots in one cut). By AI agents, Wed Nov 11 2026. No macro, syntax, notation, axiom, sorry.
-/
import Derived.Test.YtlcdpkdnblkheabGreatDoorChecked
import GoSem.Claim
import GoSem.ClaimJoined
import GoSem.ClaimMapViews
import Derived.JoinedTies
import Derived.KernelRfl
namespace Go.Proofs.YtlcdpkdnblkheabGreatDoor
/- THE CELL 'sum', in the pinned program and in every row, IS THE sha256 OF THE DUMP (.gsa) THAT YtlcdpkdnblkheabGreatDoorProg.lean LOADS. Nothing in Lean hashes anything: it is a label: what it is worth is what the hold of that sum in a sandbox is worth. -/
noncomputable def Tryz.pinned : Pinned := { name := "ytlcdpkdnblkheabgreatdoor", sum := "74ad34afb6187578521b6be8cdae5452ac3055ddf94ad5ee56ecf99a1a6a388d", checked := Tryz.checked }
namespace Rows
def none {H : Type} : Left H := { results := [], args := [] }

/- WHAT THE LISTED PACKAGE-LEVEL VARIABLES READ AS WHEN THE CALL BEGINS. Each datum BY PROGRAM (the guide's laid-datum.mjs) off the statement by which the dump's own 'gosem.cut.vars' lays the variable. In a bare row this is a premise. The card (YtlcdpkdnblkheabGreatDoorCards.lean) ties it to the program's text. -/
def laid_pub_kmsg_pub_kmsg_inner_kbin_ErrNotEnoughData {H : Type} : DataW H := .iface "*errors.errorString" (.ptr (.agg [.lit (.string [114, 101, 115, 112, 111, 110, 115, 101, 32, 100, 105, 100, 32, 110, 111, 116, 32, 99, 111, 110, 116, 97, 105, 110, 32, 101, 110, 111, 117, 103, 104, 32, 100, 97, 116, 97, 32, 116, 111, 32, 98, 101, 32, 118, 97, 108, 105, 100])]))

/-- 'laws.FnAgainDescribeProducersResponse': WHATEVER THE INPUT: true; the input reads as it did. -/
def fnAgainDescribeProducersResponseSpec : ChangeSpec := { name := "fnAgainDescribeProducersResponse", fn := fun _ => fun
  | [d1, d2] => { results := [.lit (.bool true)], args := [d1, d2] }
  | _ => none }
def fnAgainDescribeProducersResponseRow : OpenClaim := { program := "ytlcdpkdnblkheabgreatdoor", sum := "74ad34afb6187578521b6be8cdae5452ac3055ddf94ad5ee56ecf99a1a6a388d", func := "pub-kmsg/laws.FnAgainDescribeProducersResponse", spec := "fnAgainDescribeProducersResponse", inPlace := ["internal/reflectlite.ValueOf", "internal/reflectlite.Swapper", "(internal/reflectlite.Value).Len"], unfollowed := true, recurses := true, named := ["encoding/binary.BigEndian", "pub-kmsg/pub/kmsg/inner/kbin.ErrNotEnoughData"], loops := true, apart := false, laid := [("pub-kmsg/pub/kmsg/inner/kbin.ErrNotEnoughData", laid_pub_kmsg_pub_kmsg_inner_kbin_ErrNotEnoughData)] }
def FnAgainDescribeProducersResponseSaid : Prop := fnAgainDescribeProducersResponseRow.holds Tryz.pinned (OpenSpec.ofChange fnAgainDescribeProducersResponseSpec)

/-- ITS FALSE NEIGHBOUR: 'it returns false'. Refute it at one input. -/
def fnAgainDescribeProducersResponseWrong : ChangeSpec := { name := "fnAgainDescribeProducersResponse", fn := fun _ => fun
  | [d1, d2] => { results := [.lit (.bool false)], args := [d1, d2] }
  | _ => none }
def FnAgainDescribeProducersResponseWrongFalsely : Prop := fnAgainDescribeProducersResponseRow.holds Tryz.pinned (OpenSpec.ofChange fnAgainDescribeProducersResponseWrong)

/-- 'laws.FnAgainDeleteACLsResponse': WHATEVER THE INPUT: true; the input reads as it did. -/
def fnAgainDeleteACLsResponseSpec : ChangeSpec := { name := "fnAgainDeleteACLsResponse", fn := fun _ => fun
  | [d1, d2] => { results := [.lit (.bool true)], args := [d1, d2] }
  | _ => none }
def fnAgainDeleteACLsResponseRow : OpenClaim := { program := "ytlcdpkdnblkheabgreatdoor", sum := "74ad34afb6187578521b6be8cdae5452ac3055ddf94ad5ee56ecf99a1a6a388d", func := "pub-kmsg/laws.FnAgainDeleteACLsResponse", spec := "fnAgainDeleteACLsResponse", inPlace := ["internal/reflectlite.ValueOf", "internal/reflectlite.Swapper", "(internal/reflectlite.Value).Len"], unfollowed := true, recurses := true, named := ["encoding/binary.BigEndian", "pub-kmsg/pub/kmsg/inner/kbin.ErrNotEnoughData"], loops := true, apart := false, laid := [("pub-kmsg/pub/kmsg/inner/kbin.ErrNotEnoughData", laid_pub_kmsg_pub_kmsg_inner_kbin_ErrNotEnoughData)] }
def FnAgainDeleteACLsResponseSaid : Prop := fnAgainDeleteACLsResponseRow.holds Tryz.pinned (OpenSpec.ofChange fnAgainDeleteACLsResponseSpec)

/-- ITS FALSE NEIGHBOUR: 'it returns false'. Refute it at one input. -/
def fnAgainDeleteACLsResponseWrong : ChangeSpec := { name := "fnAgainDeleteACLsResponse", fn := fun _ => fun
  | [d1, d2] => { results := [.lit (.bool false)], args := [d1, d2] }
  | _ => none }
def FnAgainDeleteACLsResponseWrongFalsely : Prop := fnAgainDeleteACLsResponseRow.holds Tryz.pinned (OpenSpec.ofChange fnAgainDeleteACLsResponseWrong)

/-- 'laws.FnCutDeleteRecordsResponse': WHATEVER THE INPUT: true; the input reads as it did. -/
def fnCutDeleteRecordsResponseSpec : ChangeSpec := { name := "fnCutDeleteRecordsResponse", fn := fun _ => fun
  | [d1, d2, d3] => { results := [.lit (.bool true)], args := [d1, d2, d3] }
  | _ => none }
def fnCutDeleteRecordsResponseRow : OpenClaim := { program := "ytlcdpkdnblkheabgreatdoor", sum := "74ad34afb6187578521b6be8cdae5452ac3055ddf94ad5ee56ecf99a1a6a388d", func := "pub-kmsg/laws.FnCutDeleteRecordsResponse", spec := "fnCutDeleteRecordsResponse", inPlace := ["internal/reflectlite.ValueOf", "internal/reflectlite.Swapper", "(internal/reflectlite.Value).Len"], unfollowed := true, recurses := true, named := ["encoding/binary.BigEndian", "pub-kmsg/pub/kmsg/inner/kbin.ErrNotEnoughData"], loops := true, apart := false, laid := [("pub-kmsg/pub/kmsg/inner/kbin.ErrNotEnoughData", laid_pub_kmsg_pub_kmsg_inner_kbin_ErrNotEnoughData)] }
def FnCutDeleteRecordsResponseSaid : Prop := fnCutDeleteRecordsResponseRow.holds Tryz.pinned (OpenSpec.ofChange fnCutDeleteRecordsResponseSpec)

/-- ITS FALSE NEIGHBOUR: 'it returns false'. Refute it at one input. -/
def fnCutDeleteRecordsResponseWrong : ChangeSpec := { name := "fnCutDeleteRecordsResponse", fn := fun _ => fun
  | [d1, d2, d3] => { results := [.lit (.bool false)], args := [d1, d2, d3] }
  | _ => none }
def FnCutDeleteRecordsResponseWrongFalsely : Prop := fnCutDeleteRecordsResponseRow.holds Tryz.pinned (OpenSpec.ofChange fnCutDeleteRecordsResponseWrong)

/-- 'laws.FnCutAlterPartitionRequest': WHATEVER THE INPUT: true; the input reads as it did. -/
def fnCutAlterPartitionRequestSpec : ChangeSpec := { name := "fnCutAlterPartitionRequest", fn := fun _ => fun
  | [d1, d2, d3] => { results := [.lit (.bool true)], args := [d1, d2, d3] }
  | _ => none }
def fnCutAlterPartitionRequestRow : OpenClaim := { program := "ytlcdpkdnblkheabgreatdoor", sum := "74ad34afb6187578521b6be8cdae5452ac3055ddf94ad5ee56ecf99a1a6a388d", func := "pub-kmsg/laws.FnCutAlterPartitionRequest", spec := "fnCutAlterPartitionRequest", inPlace := ["internal/reflectlite.ValueOf", "internal/reflectlite.Swapper", "(internal/reflectlite.Value).Len"], unfollowed := true, recurses := true, named := ["encoding/binary.BigEndian", "pub-kmsg/pub/kmsg/inner/kbin.ErrNotEnoughData"], loops := true, apart := false, laid := [("pub-kmsg/pub/kmsg/inner/kbin.ErrNotEnoughData", laid_pub_kmsg_pub_kmsg_inner_kbin_ErrNotEnoughData)] }
def FnCutAlterPartitionRequestSaid : Prop := fnCutAlterPartitionRequestRow.holds Tryz.pinned (OpenSpec.ofChange fnCutAlterPartitionRequestSpec)

/-- ITS FALSE NEIGHBOUR: 'it returns false'. Refute it at one input. -/
def fnCutAlterPartitionRequestWrong : ChangeSpec := { name := "fnCutAlterPartitionRequest", fn := fun _ => fun
  | [d1, d2, d3] => { results := [.lit (.bool false)], args := [d1, d2, d3] }
  | _ => none }
def FnCutAlterPartitionRequestWrongFalsely : Prop := fnCutAlterPartitionRequestRow.holds Tryz.pinned (OpenSpec.ofChange fnCutAlterPartitionRequestWrong)

/-- 'laws.FnCutDescribeShareGroupOffsetsResponse': WHATEVER THE INPUT: true; the input reads as it did. -/
def fnCutDescribeShareGroupOffsetsResponseSpec : ChangeSpec := { name := "fnCutDescribeShareGroupOffsetsResponse", fn := fun _ => fun
  | [d1, d2, d3] => { results := [.lit (.bool true)], args := [d1, d2, d3] }
  | _ => none }
def fnCutDescribeShareGroupOffsetsResponseRow : OpenClaim := { program := "ytlcdpkdnblkheabgreatdoor", sum := "74ad34afb6187578521b6be8cdae5452ac3055ddf94ad5ee56ecf99a1a6a388d", func := "pub-kmsg/laws.FnCutDescribeShareGroupOffsetsResponse", spec := "fnCutDescribeShareGroupOffsetsResponse", inPlace := ["internal/reflectlite.ValueOf", "internal/reflectlite.Swapper", "(internal/reflectlite.Value).Len"], unfollowed := true, recurses := true, named := ["encoding/binary.BigEndian", "pub-kmsg/pub/kmsg/inner/kbin.ErrNotEnoughData"], loops := true, apart := false, laid := [("pub-kmsg/pub/kmsg/inner/kbin.ErrNotEnoughData", laid_pub_kmsg_pub_kmsg_inner_kbin_ErrNotEnoughData)] }
def FnCutDescribeShareGroupOffsetsResponseSaid : Prop := fnCutDescribeShareGroupOffsetsResponseRow.holds Tryz.pinned (OpenSpec.ofChange fnCutDescribeShareGroupOffsetsResponseSpec)

/-- ITS FALSE NEIGHBOUR: 'it returns false'. Refute it at one input. -/
def fnCutDescribeShareGroupOffsetsResponseWrong : ChangeSpec := { name := "fnCutDescribeShareGroupOffsetsResponse", fn := fun _ => fun
  | [d1, d2, d3] => { results := [.lit (.bool false)], args := [d1, d2, d3] }
  | _ => none }
def FnCutDescribeShareGroupOffsetsResponseWrongFalsely : Prop := fnCutDescribeShareGroupOffsetsResponseRow.holds Tryz.pinned (OpenSpec.ofChange fnCutDescribeShareGroupOffsetsResponseWrong)

/- THE SECOND FORM. 'bulk': how many values and letters a reading holds, each counted each time it is reached (what is shared counts as often as it is met; a slice's spare places count too). A statement '..UptoSaid' is the law's where the arguments, and the package variables that the reading takes, are together of bulk at most 1048576: NARROWER than '..Said'. Prove '..Said' where nothing that the law and all that it calls make is longer than what came in: it says more and counts as full. Else prove '..UptoSaid'. A law counts once. -/
mutual
def uptoBulk {H : Type} : DataW H → Nat
  | .lit (.string bytes) => bytes.length + 1
  | .lit _ => 1
  | .nil => 1
  | .ptr d => uptoBulk d + 1
  | .slice elems spare => uptoBulkAll elems + uptoBulkAll spare + 1
  | .agg parts => uptoBulkAll parts + 1
  | .iface _ d => uptoBulk d + 1
  | .map entries => uptoBulkEntries entries + 1
  | .held _ => 1
def uptoBulkAll {H : Type} : List (DataW H) → Nat
  | [] => 0
  | d :: r => uptoBulk d + uptoBulkAll r
def uptoBulkEntries {H : Type} : List (Lit × DataW H) → Nat
  | [] => 0
  | x :: r => uptoBulkEntry x + uptoBulkEntries r
def uptoBulkEntry {H : Type} : Lit × DataW H → Nat
  | (.string bytes, d) => bytes.length + uptoBulk d + 1
  | (_, d) => uptoBulk d + 1
 end
def uptoSmall : (H : Type) → List (DataW H) → Bool := fun _ ds => decide (uptoBulkAll ds ≤ 1048576)
def OpenSpec.upto (s : _root_.Go.ChangeSpec) : _root_.Go.OpenSpec := { _root_.Go.OpenSpec.ofChange s with cond := some uptoSmall }

/-- 'laws.FnAgainDescribeProducersResponse', WHERE WHAT IT READS IS OF BULK AT MOST 1048576: true; the input reads as it did. -/
def fnAgainDescribeProducersResponseUptoRow : OpenClaim := { program := "ytlcdpkdnblkheabgreatdoor", sum := "74ad34afb6187578521b6be8cdae5452ac3055ddf94ad5ee56ecf99a1a6a388d", func := "pub-kmsg/laws.FnAgainDescribeProducersResponse", spec := "fnAgainDescribeProducersResponse", inPlace := ["internal/reflectlite.ValueOf", "internal/reflectlite.Swapper", "(internal/reflectlite.Value).Len"], unfollowed := true, recurses := true, named := ["encoding/binary.BigEndian", "pub-kmsg/pub/kmsg/inner/kbin.ErrNotEnoughData"], loops := true, apart := false, laid := [("pub-kmsg/pub/kmsg/inner/kbin.ErrNotEnoughData", laid_pub_kmsg_pub_kmsg_inner_kbin_ErrNotEnoughData)], narrowed := true }
def FnAgainDescribeProducersResponseUptoSaid : Prop := fnAgainDescribeProducersResponseUptoRow.holds Tryz.pinned (OpenSpec.upto fnAgainDescribeProducersResponseSpec)

/-- 'laws.FnAgainDeleteACLsResponse', WHERE WHAT IT READS IS OF BULK AT MOST 1048576: true; the input reads as it did. -/
def fnAgainDeleteACLsResponseUptoRow : OpenClaim := { program := "ytlcdpkdnblkheabgreatdoor", sum := "74ad34afb6187578521b6be8cdae5452ac3055ddf94ad5ee56ecf99a1a6a388d", func := "pub-kmsg/laws.FnAgainDeleteACLsResponse", spec := "fnAgainDeleteACLsResponse", inPlace := ["internal/reflectlite.ValueOf", "internal/reflectlite.Swapper", "(internal/reflectlite.Value).Len"], unfollowed := true, recurses := true, named := ["encoding/binary.BigEndian", "pub-kmsg/pub/kmsg/inner/kbin.ErrNotEnoughData"], loops := true, apart := false, laid := [("pub-kmsg/pub/kmsg/inner/kbin.ErrNotEnoughData", laid_pub_kmsg_pub_kmsg_inner_kbin_ErrNotEnoughData)], narrowed := true }
def FnAgainDeleteACLsResponseUptoSaid : Prop := fnAgainDeleteACLsResponseUptoRow.holds Tryz.pinned (OpenSpec.upto fnAgainDeleteACLsResponseSpec)

/-- 'laws.FnCutDeleteRecordsResponse', WHERE WHAT IT READS IS OF BULK AT MOST 1048576: true; the input reads as it did. -/
def fnCutDeleteRecordsResponseUptoRow : OpenClaim := { program := "ytlcdpkdnblkheabgreatdoor", sum := "74ad34afb6187578521b6be8cdae5452ac3055ddf94ad5ee56ecf99a1a6a388d", func := "pub-kmsg/laws.FnCutDeleteRecordsResponse", spec := "fnCutDeleteRecordsResponse", inPlace := ["internal/reflectlite.ValueOf", "internal/reflectlite.Swapper", "(internal/reflectlite.Value).Len"], unfollowed := true, recurses := true, named := ["encoding/binary.BigEndian", "pub-kmsg/pub/kmsg/inner/kbin.ErrNotEnoughData"], loops := true, apart := false, laid := [("pub-kmsg/pub/kmsg/inner/kbin.ErrNotEnoughData", laid_pub_kmsg_pub_kmsg_inner_kbin_ErrNotEnoughData)], narrowed := true }
def FnCutDeleteRecordsResponseUptoSaid : Prop := fnCutDeleteRecordsResponseUptoRow.holds Tryz.pinned (OpenSpec.upto fnCutDeleteRecordsResponseSpec)

/-- 'laws.FnCutAlterPartitionRequest', WHERE WHAT IT READS IS OF BULK AT MOST 1048576: true; the input reads as it did. -/
def fnCutAlterPartitionRequestUptoRow : OpenClaim := { program := "ytlcdpkdnblkheabgreatdoor", sum := "74ad34afb6187578521b6be8cdae5452ac3055ddf94ad5ee56ecf99a1a6a388d", func := "pub-kmsg/laws.FnCutAlterPartitionRequest", spec := "fnCutAlterPartitionRequest", inPlace := ["internal/reflectlite.ValueOf", "internal/reflectlite.Swapper", "(internal/reflectlite.Value).Len"], unfollowed := true, recurses := true, named := ["encoding/binary.BigEndian", "pub-kmsg/pub/kmsg/inner/kbin.ErrNotEnoughData"], loops := true, apart := false, laid := [("pub-kmsg/pub/kmsg/inner/kbin.ErrNotEnoughData", laid_pub_kmsg_pub_kmsg_inner_kbin_ErrNotEnoughData)], narrowed := true }
def FnCutAlterPartitionRequestUptoSaid : Prop := fnCutAlterPartitionRequestUptoRow.holds Tryz.pinned (OpenSpec.upto fnCutAlterPartitionRequestSpec)

/-- 'laws.FnCutDescribeShareGroupOffsetsResponse', WHERE WHAT IT READS IS OF BULK AT MOST 1048576: true; the input reads as it did. -/
def fnCutDescribeShareGroupOffsetsResponseUptoRow : OpenClaim := { program := "ytlcdpkdnblkheabgreatdoor", sum := "74ad34afb6187578521b6be8cdae5452ac3055ddf94ad5ee56ecf99a1a6a388d", func := "pub-kmsg/laws.FnCutDescribeShareGroupOffsetsResponse", spec := "fnCutDescribeShareGroupOffsetsResponse", inPlace := ["internal/reflectlite.ValueOf", "internal/reflectlite.Swapper", "(internal/reflectlite.Value).Len"], unfollowed := true, recurses := true, named := ["encoding/binary.BigEndian", "pub-kmsg/pub/kmsg/inner/kbin.ErrNotEnoughData"], loops := true, apart := false, laid := [("pub-kmsg/pub/kmsg/inner/kbin.ErrNotEnoughData", laid_pub_kmsg_pub_kmsg_inner_kbin_ErrNotEnoughData)], narrowed := true }
def FnCutDescribeShareGroupOffsetsResponseUptoSaid : Prop := fnCutDescribeShareGroupOffsetsResponseUptoRow.holds Tryz.pinned (OpenSpec.upto fnCutDescribeShareGroupOffsetsResponseSpec)

end Rows
end Go.Proofs.YtlcdpkdnblkheabGreatDoor
