/-
  NARROWER THAN 'FOR EVERY INPUT', by the rows' own cells (each row's printed sentence says how): FnAnyDeleteShareGroupStateResponse: laid · FnAnyWriteShareGroupStateResponse: laid · FnAnyAlterShareGroupOffsetsRequest: laid · FnAnyListOffsetsRequest: laid · FnAnyDescribeTransactionsResponse: laid · FnAnyBrokerRegistrationResponse: laid · FnAgainPushTelemetryRequest: loops, laid · FnCutListConfigResourcesRequest: loops, laid.
  DERIVED. THE GIVEN ROWS OF THIS SEAT. 8 by the template 'for every input the law returns true; each argument reads behind the call as it read before'; 0 by the template 'total and deterministic' (their statements: YtjdncblianigiaaDoorTotals.lean).
  GIVEN WITH THE SEED: the statements are not yours to turn. If you find one false, say at which input.
  Laid BY PROGRAM, IN A SANDBOX (cutbox-rows.mjs): the forced cells as the released guide's own fill.sh prints them over the translation 0d10f69ada3e0a32… (all of the seat's roots in one cut). By AI agents, Wed Nov 11 2026. No macro, syntax, notation, axiom, sorry.
-/
import Derived.Test.YtjdncblianigiaaDoorChecked
import GoSem.Claim
import GoSem.ClaimJoined
import GoSem.ClaimMapViews
import Derived.JoinedTies
import Derived.KernelRfl
namespace Go.Proofs.YtjdncblianigiaaDoor
/- THE CELL 'sum', in the pinned program and in every row, IS THE sha256 OF THE DUMP (.gsa) THAT YtjdncblianigiaaDoorProg.lean LOADS. Nothing in Lean hashes anything: it is a label: what it is worth is what the hold of that sum in a sandbox is worth. -/
noncomputable def Tryd.pinned : Pinned := { name := "ytjdncblianigiaadoor", sum := "0d10f69ada3e0a32870a619ee7318785dbafa2f718933758f37347a36413bf8c", checked := Tryd.checked }
namespace Rows
def none {H : Type} : Left H := { results := [], args := [] }

/- WHAT THE LISTED PACKAGE-LEVEL VARIABLES READ AS WHEN THE CALL BEGINS. Each datum BY PROGRAM (the guide's laid-datum.mjs) off the statement by which the dump's own 'gosem.cut.vars' lays the variable. In a bare row this is a premise. The card (YtjdncblianigiaaDoorCards.lean) ties it to the program's text. -/
def laid_pub_kmsg_pub_kmsg_inner_kbin_ErrNotEnoughData {H : Type} : DataW H := .iface "*errors.errorString" (.ptr (.agg [.lit (.string [114, 101, 115, 112, 111, 110, 115, 101, 32, 100, 105, 100, 32, 110, 111, 116, 32, 99, 111, 110, 116, 97, 105, 110, 32, 101, 110, 111, 117, 103, 104, 32, 100, 97, 116, 97, 32, 116, 111, 32, 98, 101, 32, 118, 97, 108, 105, 100])]))

/-- 'laws.FnAnyDeleteShareGroupStateResponse': WHATEVER THE INPUT: true; the input reads as it did. -/
def fnAnyDeleteShareGroupStateResponseSpec : ChangeSpec := { name := "fnAnyDeleteShareGroupStateResponse", fn := fun _ => fun
  | [d1, d2] => { results := [.lit (.bool true)], args := [d1, d2] }
  | _ => none }
def fnAnyDeleteShareGroupStateResponseRow : OpenClaim := { program := "ytjdncblianigiaadoor", sum := "0d10f69ada3e0a32870a619ee7318785dbafa2f718933758f37347a36413bf8c", func := "pub-kmsg/laws.FnAnyDeleteShareGroupStateResponse", spec := "fnAnyDeleteShareGroupStateResponse", inPlace := ["internal/reflectlite.ValueOf", "internal/reflectlite.Swapper", "(internal/reflectlite.Value).Len"], unfollowed := true, recurses := true, named := ["encoding/binary.BigEndian", "pub-kmsg/pub/kmsg/inner/kbin.ErrNotEnoughData"], apart := false, laid := [("pub-kmsg/pub/kmsg/inner/kbin.ErrNotEnoughData", laid_pub_kmsg_pub_kmsg_inner_kbin_ErrNotEnoughData)] }
def FnAnyDeleteShareGroupStateResponseSaid : Prop := fnAnyDeleteShareGroupStateResponseRow.holds Tryd.pinned (OpenSpec.ofChange fnAnyDeleteShareGroupStateResponseSpec)

/-- ITS FALSE NEIGHBOUR: 'it returns false'. Refute it at one input. -/
def fnAnyDeleteShareGroupStateResponseWrong : ChangeSpec := { name := "fnAnyDeleteShareGroupStateResponse", fn := fun _ => fun
  | [d1, d2] => { results := [.lit (.bool false)], args := [d1, d2] }
  | _ => none }
def FnAnyDeleteShareGroupStateResponseWrongFalsely : Prop := fnAnyDeleteShareGroupStateResponseRow.holds Tryd.pinned (OpenSpec.ofChange fnAnyDeleteShareGroupStateResponseWrong)

/-- 'laws.FnAnyWriteShareGroupStateResponse': WHATEVER THE INPUT: true; the input reads as it did. -/
def fnAnyWriteShareGroupStateResponseSpec : ChangeSpec := { name := "fnAnyWriteShareGroupStateResponse", fn := fun _ => fun
  | [d1, d2] => { results := [.lit (.bool true)], args := [d1, d2] }
  | _ => none }
def fnAnyWriteShareGroupStateResponseRow : OpenClaim := { program := "ytjdncblianigiaadoor", sum := "0d10f69ada3e0a32870a619ee7318785dbafa2f718933758f37347a36413bf8c", func := "pub-kmsg/laws.FnAnyWriteShareGroupStateResponse", spec := "fnAnyWriteShareGroupStateResponse", inPlace := ["internal/reflectlite.ValueOf", "internal/reflectlite.Swapper", "(internal/reflectlite.Value).Len"], unfollowed := true, recurses := true, named := ["encoding/binary.BigEndian", "pub-kmsg/pub/kmsg/inner/kbin.ErrNotEnoughData"], apart := false, laid := [("pub-kmsg/pub/kmsg/inner/kbin.ErrNotEnoughData", laid_pub_kmsg_pub_kmsg_inner_kbin_ErrNotEnoughData)] }
def FnAnyWriteShareGroupStateResponseSaid : Prop := fnAnyWriteShareGroupStateResponseRow.holds Tryd.pinned (OpenSpec.ofChange fnAnyWriteShareGroupStateResponseSpec)

/-- ITS FALSE NEIGHBOUR: 'it returns false'. Refute it at one input. -/
def fnAnyWriteShareGroupStateResponseWrong : ChangeSpec := { name := "fnAnyWriteShareGroupStateResponse", fn := fun _ => fun
  | [d1, d2] => { results := [.lit (.bool false)], args := [d1, d2] }
  | _ => none }
def FnAnyWriteShareGroupStateResponseWrongFalsely : Prop := fnAnyWriteShareGroupStateResponseRow.holds Tryd.pinned (OpenSpec.ofChange fnAnyWriteShareGroupStateResponseWrong)

/-- 'laws.FnAnyAlterShareGroupOffsetsRequest': WHATEVER THE INPUT: true; the input reads as it did. -/
def fnAnyAlterShareGroupOffsetsRequestSpec : ChangeSpec := { name := "fnAnyAlterShareGroupOffsetsRequest", fn := fun _ => fun
  | [d1, d2] => { results := [.lit (.bool true)], args := [d1, d2] }
  | _ => none }
def fnAnyAlterShareGroupOffsetsRequestRow : OpenClaim := { program := "ytjdncblianigiaadoor", sum := "0d10f69ada3e0a32870a619ee7318785dbafa2f718933758f37347a36413bf8c", func := "pub-kmsg/laws.FnAnyAlterShareGroupOffsetsRequest", spec := "fnAnyAlterShareGroupOffsetsRequest", inPlace := ["internal/reflectlite.ValueOf", "internal/reflectlite.Swapper", "(internal/reflectlite.Value).Len"], unfollowed := true, recurses := true, named := ["encoding/binary.BigEndian", "pub-kmsg/pub/kmsg/inner/kbin.ErrNotEnoughData"], apart := false, laid := [("pub-kmsg/pub/kmsg/inner/kbin.ErrNotEnoughData", laid_pub_kmsg_pub_kmsg_inner_kbin_ErrNotEnoughData)] }
def FnAnyAlterShareGroupOffsetsRequestSaid : Prop := fnAnyAlterShareGroupOffsetsRequestRow.holds Tryd.pinned (OpenSpec.ofChange fnAnyAlterShareGroupOffsetsRequestSpec)

/-- ITS FALSE NEIGHBOUR: 'it returns false'. Refute it at one input. -/
def fnAnyAlterShareGroupOffsetsRequestWrong : ChangeSpec := { name := "fnAnyAlterShareGroupOffsetsRequest", fn := fun _ => fun
  | [d1, d2] => { results := [.lit (.bool false)], args := [d1, d2] }
  | _ => none }
def FnAnyAlterShareGroupOffsetsRequestWrongFalsely : Prop := fnAnyAlterShareGroupOffsetsRequestRow.holds Tryd.pinned (OpenSpec.ofChange fnAnyAlterShareGroupOffsetsRequestWrong)

/-- 'laws.FnAnyListOffsetsRequest': WHATEVER THE INPUT: true; the input reads as it did. -/
def fnAnyListOffsetsRequestSpec : ChangeSpec := { name := "fnAnyListOffsetsRequest", fn := fun _ => fun
  | [d1, d2] => { results := [.lit (.bool true)], args := [d1, d2] }
  | _ => none }
def fnAnyListOffsetsRequestRow : OpenClaim := { program := "ytjdncblianigiaadoor", sum := "0d10f69ada3e0a32870a619ee7318785dbafa2f718933758f37347a36413bf8c", func := "pub-kmsg/laws.FnAnyListOffsetsRequest", spec := "fnAnyListOffsetsRequest", inPlace := ["internal/reflectlite.ValueOf", "internal/reflectlite.Swapper", "(internal/reflectlite.Value).Len"], unfollowed := true, recurses := true, named := ["encoding/binary.BigEndian", "pub-kmsg/pub/kmsg/inner/kbin.ErrNotEnoughData"], apart := false, laid := [("pub-kmsg/pub/kmsg/inner/kbin.ErrNotEnoughData", laid_pub_kmsg_pub_kmsg_inner_kbin_ErrNotEnoughData)] }
def FnAnyListOffsetsRequestSaid : Prop := fnAnyListOffsetsRequestRow.holds Tryd.pinned (OpenSpec.ofChange fnAnyListOffsetsRequestSpec)

/-- ITS FALSE NEIGHBOUR: 'it returns false'. Refute it at one input. -/
def fnAnyListOffsetsRequestWrong : ChangeSpec := { name := "fnAnyListOffsetsRequest", fn := fun _ => fun
  | [d1, d2] => { results := [.lit (.bool false)], args := [d1, d2] }
  | _ => none }
def FnAnyListOffsetsRequestWrongFalsely : Prop := fnAnyListOffsetsRequestRow.holds Tryd.pinned (OpenSpec.ofChange fnAnyListOffsetsRequestWrong)

/-- 'laws.FnAnyDescribeTransactionsResponse': WHATEVER THE INPUT: true; the input reads as it did. -/
def fnAnyDescribeTransactionsResponseSpec : ChangeSpec := { name := "fnAnyDescribeTransactionsResponse", fn := fun _ => fun
  | [d1, d2] => { results := [.lit (.bool true)], args := [d1, d2] }
  | _ => none }
def fnAnyDescribeTransactionsResponseRow : OpenClaim := { program := "ytjdncblianigiaadoor", sum := "0d10f69ada3e0a32870a619ee7318785dbafa2f718933758f37347a36413bf8c", func := "pub-kmsg/laws.FnAnyDescribeTransactionsResponse", spec := "fnAnyDescribeTransactionsResponse", inPlace := ["internal/reflectlite.ValueOf", "internal/reflectlite.Swapper", "(internal/reflectlite.Value).Len"], unfollowed := true, recurses := true, named := ["encoding/binary.BigEndian", "pub-kmsg/pub/kmsg/inner/kbin.ErrNotEnoughData"], apart := false, laid := [("pub-kmsg/pub/kmsg/inner/kbin.ErrNotEnoughData", laid_pub_kmsg_pub_kmsg_inner_kbin_ErrNotEnoughData)] }
def FnAnyDescribeTransactionsResponseSaid : Prop := fnAnyDescribeTransactionsResponseRow.holds Tryd.pinned (OpenSpec.ofChange fnAnyDescribeTransactionsResponseSpec)

/-- ITS FALSE NEIGHBOUR: 'it returns false'. Refute it at one input. -/
def fnAnyDescribeTransactionsResponseWrong : ChangeSpec := { name := "fnAnyDescribeTransactionsResponse", fn := fun _ => fun
  | [d1, d2] => { results := [.lit (.bool false)], args := [d1, d2] }
  | _ => none }
def FnAnyDescribeTransactionsResponseWrongFalsely : Prop := fnAnyDescribeTransactionsResponseRow.holds Tryd.pinned (OpenSpec.ofChange fnAnyDescribeTransactionsResponseWrong)

/-- 'laws.FnAnyBrokerRegistrationResponse': WHATEVER THE INPUT: true; the input reads as it did. -/
def fnAnyBrokerRegistrationResponseSpec : ChangeSpec := { name := "fnAnyBrokerRegistrationResponse", fn := fun _ => fun
  | [d1, d2] => { results := [.lit (.bool true)], args := [d1, d2] }
  | _ => none }
def fnAnyBrokerRegistrationResponseRow : OpenClaim := { program := "ytjdncblianigiaadoor", sum := "0d10f69ada3e0a32870a619ee7318785dbafa2f718933758f37347a36413bf8c", func := "pub-kmsg/laws.FnAnyBrokerRegistrationResponse", spec := "fnAnyBrokerRegistrationResponse", inPlace := ["internal/reflectlite.ValueOf", "internal/reflectlite.Swapper", "(internal/reflectlite.Value).Len"], unfollowed := true, recurses := true, named := ["encoding/binary.BigEndian", "pub-kmsg/pub/kmsg/inner/kbin.ErrNotEnoughData"], apart := false, laid := [("pub-kmsg/pub/kmsg/inner/kbin.ErrNotEnoughData", laid_pub_kmsg_pub_kmsg_inner_kbin_ErrNotEnoughData)] }
def FnAnyBrokerRegistrationResponseSaid : Prop := fnAnyBrokerRegistrationResponseRow.holds Tryd.pinned (OpenSpec.ofChange fnAnyBrokerRegistrationResponseSpec)

/-- ITS FALSE NEIGHBOUR: 'it returns false'. Refute it at one input. -/
def fnAnyBrokerRegistrationResponseWrong : ChangeSpec := { name := "fnAnyBrokerRegistrationResponse", fn := fun _ => fun
  | [d1, d2] => { results := [.lit (.bool false)], args := [d1, d2] }
  | _ => none }
def FnAnyBrokerRegistrationResponseWrongFalsely : Prop := fnAnyBrokerRegistrationResponseRow.holds Tryd.pinned (OpenSpec.ofChange fnAnyBrokerRegistrationResponseWrong)

/-- 'laws.FnAgainPushTelemetryRequest': WHATEVER THE INPUT: true; the input reads as it did. -/
def fnAgainPushTelemetryRequestSpec : ChangeSpec := { name := "fnAgainPushTelemetryRequest", fn := fun _ => fun
  | [d1, d2] => { results := [.lit (.bool true)], args := [d1, d2] }
  | _ => none }
def fnAgainPushTelemetryRequestRow : OpenClaim := { program := "ytjdncblianigiaadoor", sum := "0d10f69ada3e0a32870a619ee7318785dbafa2f718933758f37347a36413bf8c", func := "pub-kmsg/laws.FnAgainPushTelemetryRequest", spec := "fnAgainPushTelemetryRequest", inPlace := ["internal/reflectlite.ValueOf", "internal/reflectlite.Swapper", "(internal/reflectlite.Value).Len"], unfollowed := true, recurses := true, named := ["encoding/binary.BigEndian", "pub-kmsg/pub/kmsg/inner/kbin.ErrNotEnoughData"], loops := true, apart := false, laid := [("pub-kmsg/pub/kmsg/inner/kbin.ErrNotEnoughData", laid_pub_kmsg_pub_kmsg_inner_kbin_ErrNotEnoughData)] }
def FnAgainPushTelemetryRequestSaid : Prop := fnAgainPushTelemetryRequestRow.holds Tryd.pinned (OpenSpec.ofChange fnAgainPushTelemetryRequestSpec)

/-- ITS FALSE NEIGHBOUR: 'it returns false'. Refute it at one input. -/
def fnAgainPushTelemetryRequestWrong : ChangeSpec := { name := "fnAgainPushTelemetryRequest", fn := fun _ => fun
  | [d1, d2] => { results := [.lit (.bool false)], args := [d1, d2] }
  | _ => none }
def FnAgainPushTelemetryRequestWrongFalsely : Prop := fnAgainPushTelemetryRequestRow.holds Tryd.pinned (OpenSpec.ofChange fnAgainPushTelemetryRequestWrong)

/-- 'laws.FnCutListConfigResourcesRequest': WHATEVER THE INPUT: true; the input reads as it did. -/
def fnCutListConfigResourcesRequestSpec : ChangeSpec := { name := "fnCutListConfigResourcesRequest", fn := fun _ => fun
  | [d1, d2, d3] => { results := [.lit (.bool true)], args := [d1, d2, d3] }
  | _ => none }
def fnCutListConfigResourcesRequestRow : OpenClaim := { program := "ytjdncblianigiaadoor", sum := "0d10f69ada3e0a32870a619ee7318785dbafa2f718933758f37347a36413bf8c", func := "pub-kmsg/laws.FnCutListConfigResourcesRequest", spec := "fnCutListConfigResourcesRequest", inPlace := ["internal/reflectlite.ValueOf", "internal/reflectlite.Swapper", "(internal/reflectlite.Value).Len"], unfollowed := true, recurses := true, named := ["encoding/binary.BigEndian", "pub-kmsg/pub/kmsg/inner/kbin.ErrNotEnoughData"], loops := true, apart := false, laid := [("pub-kmsg/pub/kmsg/inner/kbin.ErrNotEnoughData", laid_pub_kmsg_pub_kmsg_inner_kbin_ErrNotEnoughData)] }
def FnCutListConfigResourcesRequestSaid : Prop := fnCutListConfigResourcesRequestRow.holds Tryd.pinned (OpenSpec.ofChange fnCutListConfigResourcesRequestSpec)

/-- ITS FALSE NEIGHBOUR: 'it returns false'. Refute it at one input. -/
def fnCutListConfigResourcesRequestWrong : ChangeSpec := { name := "fnCutListConfigResourcesRequest", fn := fun _ => fun
  | [d1, d2, d3] => { results := [.lit (.bool false)], args := [d1, d2, d3] }
  | _ => none }
def FnCutListConfigResourcesRequestWrongFalsely : Prop := fnCutListConfigResourcesRequestRow.holds Tryd.pinned (OpenSpec.ofChange fnCutListConfigResourcesRequestWrong)

/- THE SECOND FORM. 'bulk': how many values and letters a reading holds, each counted each time it is reached (what is shared counts as often as it is met; a slice's spare places count too). A statement '..UptoSaid' is the law's where the arguments, and the package variables that the reading takes, are together of bulk at most 1048576: NARROWER than '..Said'. Prove '..Said' where nothing that the law and all that it calls make is longer than what came in: it says more and counts as full. Else prove '..UptoSaid'. A law counts once. -/
mutual
def uptoBulk {H : Type} : DataW H → Nat
  | .lit (.string bytes) => bytes.length + 1
  | .lit _ => 1
  | .nil => 1
  | .ptr d => uptoBulk d + 1
  | .slice elems spare => uptoBulkAll elems + uptoBulkAll spare + 1
  | .agg parts => uptoBulkAll parts + 1
  | .iface _ d => uptoBulk d + 1
  | .map entries => uptoBulkEntries entries + 1
  | .held _ => 1
def uptoBulkAll {H : Type} : List (DataW H) → Nat
  | [] => 0
  | d :: r => uptoBulk d + uptoBulkAll r
def uptoBulkEntries {H : Type} : List (Lit × DataW H) → Nat
  | [] => 0
  | x :: r => uptoBulkEntry x + uptoBulkEntries r
def uptoBulkEntry {H : Type} : Lit × DataW H → Nat
  | (.string bytes, d) => bytes.length + uptoBulk d + 1
  | (_, d) => uptoBulk d + 1
 end
def uptoSmall : (H : Type) → List (DataW H) → Bool := fun _ ds => decide (uptoBulkAll ds ≤ 1048576)
def OpenSpec.upto (s : _root_.Go.ChangeSpec) : _root_.Go.OpenSpec := { _root_.Go.OpenSpec.ofChange s with cond := some uptoSmall }

/-- 'laws.FnAnyDeleteShareGroupStateResponse', WHERE WHAT IT READS IS OF BULK AT MOST 1048576: true; the input reads as it did. -/
def fnAnyDeleteShareGroupStateResponseUptoRow : OpenClaim := { program := "ytjdncblianigiaadoor", sum := "0d10f69ada3e0a32870a619ee7318785dbafa2f718933758f37347a36413bf8c", func := "pub-kmsg/laws.FnAnyDeleteShareGroupStateResponse", spec := "fnAnyDeleteShareGroupStateResponse", inPlace := ["internal/reflectlite.ValueOf", "internal/reflectlite.Swapper", "(internal/reflectlite.Value).Len"], unfollowed := true, recurses := true, named := ["encoding/binary.BigEndian", "pub-kmsg/pub/kmsg/inner/kbin.ErrNotEnoughData"], apart := false, laid := [("pub-kmsg/pub/kmsg/inner/kbin.ErrNotEnoughData", laid_pub_kmsg_pub_kmsg_inner_kbin_ErrNotEnoughData)], narrowed := true }
def FnAnyDeleteShareGroupStateResponseUptoSaid : Prop := fnAnyDeleteShareGroupStateResponseUptoRow.holds Tryd.pinned (OpenSpec.upto fnAnyDeleteShareGroupStateResponseSpec)

/-- 'laws.FnAnyWriteShareGroupStateResponse', WHERE WHAT IT READS IS OF BULK AT MOST 1048576: true; the input reads as it did. -/
def fnAnyWriteShareGroupStateResponseUptoRow : OpenClaim := { program := "ytjdncblianigiaadoor", sum := "0d10f69ada3e0a32870a619ee7318785dbafa2f718933758f37347a36413bf8c", func := "pub-kmsg/laws.FnAnyWriteShareGroupStateResponse", spec := "fnAnyWriteShareGroupStateResponse", inPlace := ["internal/reflectlite.ValueOf", "internal/reflectlite.Swapper", "(internal/reflectlite.Value).Len"], unfollowed := true, recurses := true, named := ["encoding/binary.BigEndian", "pub-kmsg/pub/kmsg/inner/kbin.ErrNotEnoughData"], apart := false, laid := [("pub-kmsg/pub/kmsg/inner/kbin.ErrNotEnoughData", laid_pub_kmsg_pub_kmsg_inner_kbin_ErrNotEnoughData)], narrowed := true }
def FnAnyWriteShareGroupStateResponseUptoSaid : Prop := fnAnyWriteShareGroupStateResponseUptoRow.holds Tryd.pinned (OpenSpec.upto fnAnyWriteShareGroupStateResponseSpec)

/-- 'laws.FnAnyAlterShareGroupOffsetsRequest', WHERE WHAT IT READS IS OF BULK AT MOST 1048576: true; the input reads as it did. -/
def fnAnyAlterShareGroupOffsetsRequestUptoRow : OpenClaim := { program := "ytjdncblianigiaadoor", sum := "0d10f69ada3e0a32870a619ee7318785dbafa2f718933758f37347a36413bf8c", func := "pub-kmsg/laws.FnAnyAlterShareGroupOffsetsRequest", spec := "fnAnyAlterShareGroupOffsetsRequest", inPlace := ["internal/reflectlite.ValueOf", "internal/reflectlite.Swapper", "(internal/reflectlite.Value).Len"], unfollowed := true, recurses := true, named := ["encoding/binary.BigEndian", "pub-kmsg/pub/kmsg/inner/kbin.ErrNotEnoughData"], apart := false, laid := [("pub-kmsg/pub/kmsg/inner/kbin.ErrNotEnoughData", laid_pub_kmsg_pub_kmsg_inner_kbin_ErrNotEnoughData)], narrowed := true }
def FnAnyAlterShareGroupOffsetsRequestUptoSaid : Prop := fnAnyAlterShareGroupOffsetsRequestUptoRow.holds Tryd.pinned (OpenSpec.upto fnAnyAlterShareGroupOffsetsRequestSpec)

/-- 'laws.FnAnyListOffsetsRequest', WHERE WHAT IT READS IS OF BULK AT MOST 1048576: true; the input reads as it did. -/
def fnAnyListOffsetsRequestUptoRow : OpenClaim := { program := "ytjdncblianigiaadoor", sum := "0d10f69ada3e0a32870a619ee7318785dbafa2f718933758f37347a36413bf8c", func := "pub-kmsg/laws.FnAnyListOffsetsRequest", spec := "fnAnyListOffsetsRequest", inPlace := ["internal/reflectlite.ValueOf", "internal/reflectlite.Swapper", "(internal/reflectlite.Value).Len"], unfollowed := true, recurses := true, named := ["encoding/binary.BigEndian", "pub-kmsg/pub/kmsg/inner/kbin.ErrNotEnoughData"], apart := false, laid := [("pub-kmsg/pub/kmsg/inner/kbin.ErrNotEnoughData", laid_pub_kmsg_pub_kmsg_inner_kbin_ErrNotEnoughData)], narrowed := true }
def FnAnyListOffsetsRequestUptoSaid : Prop := fnAnyListOffsetsRequestUptoRow.holds Tryd.pinned (OpenSpec.upto fnAnyListOffsetsRequestSpec)

/-- 'laws.FnAnyDescribeTransactionsResponse', WHERE WHAT IT READS IS OF BULK AT MOST 1048576: true; the input reads as it did. -/
def fnAnyDescribeTransactionsResponseUptoRow : OpenClaim := { program := "ytjdncblianigiaadoor", sum := "0d10f69ada3e0a32870a619ee7318785dbafa2f718933758f37347a36413bf8c", func := "pub-kmsg/laws.FnAnyDescribeTransactionsResponse", spec := "fnAnyDescribeTransactionsResponse", inPlace := ["internal/reflectlite.ValueOf", "internal/reflectlite.Swapper", "(internal/reflectlite.Value).Len"], unfollowed := true, recurses := true, named := ["encoding/binary.BigEndian", "pub-kmsg/pub/kmsg/inner/kbin.ErrNotEnoughData"], apart := false, laid := [("pub-kmsg/pub/kmsg/inner/kbin.ErrNotEnoughData", laid_pub_kmsg_pub_kmsg_inner_kbin_ErrNotEnoughData)], narrowed := true }
def FnAnyDescribeTransactionsResponseUptoSaid : Prop := fnAnyDescribeTransactionsResponseUptoRow.holds Tryd.pinned (OpenSpec.upto fnAnyDescribeTransactionsResponseSpec)

/-- 'laws.FnAnyBrokerRegistrationResponse', WHERE WHAT IT READS IS OF BULK AT MOST 1048576: true; the input reads as it did. -/
def fnAnyBrokerRegistrationResponseUptoRow : OpenClaim := { program := "ytjdncblianigiaadoor", sum := "0d10f69ada3e0a32870a619ee7318785dbafa2f718933758f37347a36413bf8c", func := "pub-kmsg/laws.FnAnyBrokerRegistrationResponse", spec := "fnAnyBrokerRegistrationResponse", inPlace := ["internal/reflectlite.ValueOf", "internal/reflectlite.Swapper", "(internal/reflectlite.Value).Len"], unfollowed := true, recurses := true, named := ["encoding/binary.BigEndian", "pub-kmsg/pub/kmsg/inner/kbin.ErrNotEnoughData"], apart := false, laid := [("pub-kmsg/pub/kmsg/inner/kbin.ErrNotEnoughData", laid_pub_kmsg_pub_kmsg_inner_kbin_ErrNotEnoughData)], narrowed := true }
def FnAnyBrokerRegistrationResponseUptoSaid : Prop := fnAnyBrokerRegistrationResponseUptoRow.holds Tryd.pinned (OpenSpec.upto fnAnyBrokerRegistrationResponseSpec)

/-- 'laws.FnAgainPushTelemetryRequest', WHERE WHAT IT READS IS OF BULK AT MOST 1048576: true; the input reads as it did. -/
def fnAgainPushTelemetryRequestUptoRow : OpenClaim := { program := "ytjdncblianigiaadoor", sum := "0d10f69ada3e0a32870a619ee7318785dbafa2f718933758f37347a36413bf8c", func := "pub-kmsg/laws.FnAgainPushTelemetryRequest", spec := "fnAgainPushTelemetryRequest", inPlace := ["internal/reflectlite.ValueOf", "internal/reflectlite.Swapper", "(internal/reflectlite.Value).Len"], unfollowed := true, recurses := true, named := ["encoding/binary.BigEndian", "pub-kmsg/pub/kmsg/inner/kbin.ErrNotEnoughData"], loops := true, apart := false, laid := [("pub-kmsg/pub/kmsg/inner/kbin.ErrNotEnoughData", laid_pub_kmsg_pub_kmsg_inner_kbin_ErrNotEnoughData)], narrowed := true }
def FnAgainPushTelemetryRequestUptoSaid : Prop := fnAgainPushTelemetryRequestUptoRow.holds Tryd.pinned (OpenSpec.upto fnAgainPushTelemetryRequestSpec)

/-- 'laws.FnCutListConfigResourcesRequest', WHERE WHAT IT READS IS OF BULK AT MOST 1048576: true; the input reads as it did. -/
def fnCutListConfigResourcesRequestUptoRow : OpenClaim := { program := "ytjdncblianigiaadoor", sum := "0d10f69ada3e0a32870a619ee7318785dbafa2f718933758f37347a36413bf8c", func := "pub-kmsg/laws.FnCutListConfigResourcesRequest", spec := "fnCutListConfigResourcesRequest", inPlace := ["internal/reflectlite.ValueOf", "internal/reflectlite.Swapper", "(internal/reflectlite.Value).Len"], unfollowed := true, recurses := true, named := ["encoding/binary.BigEndian", "pub-kmsg/pub/kmsg/inner/kbin.ErrNotEnoughData"], loops := true, apart := false, laid := [("pub-kmsg/pub/kmsg/inner/kbin.ErrNotEnoughData", laid_pub_kmsg_pub_kmsg_inner_kbin_ErrNotEnoughData)], narrowed := true }
def FnCutListConfigResourcesRequestUptoSaid : Prop := fnCutListConfigResourcesRequestUptoRow.holds Tryd.pinned (OpenSpec.upto fnCutListConfigResourcesRequestSpec)

end Rows
end Go.Proofs.YtjdncblianigiaaDoor
