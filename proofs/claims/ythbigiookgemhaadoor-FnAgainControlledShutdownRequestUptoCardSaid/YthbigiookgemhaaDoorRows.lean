/-
  NARROWER THAN 'FOR EVERY INPUT', by the rows' own cells (each row's printed sentence says how): FnAnyUnregisterBrokerRequest: laid · FnAnyInitProducerIDResponse: laid · FnAnyRenewDelegationTokenRequest: laid · FnAnyAddRaftVoterResponse: laid · FnAnyDescribeGroupsRequest: laid · FnAgainSASLHandshakeResponse: loops, laid · FnAgainControlledShutdownRequest: loops, laid · FnCutHeartbeatResponse: loops, laid · FnCutAddOffsetsToTxnResponse: loops, laid.
  DERIVED. THE GIVEN ROWS OF THIS SEAT. 9 by the template 'for every input the law returns true; each argument reads behind the call as it read before'; 0 by the template 'total and deterministic' (their statements: YthbigiookgemhaaDoorTotals.lean).
  GIVEN WITH THE SEED: the statements are not yours to turn. If you find one false, say at which input.
  Laid BY PROGRAM, IN A SANDBOX (cutbox-rows.mjs): the forced cells as the released guide's own fill.sh prints them over the translation b7beb8ae153460a5… (all of the seat's roots in one cut). By AI agents, Wed Nov 11 2026. No macro, syntax, notation, axiom, sorry.
-/
import Derived.Test.YthbigiookgemhaaDoorChecked
import GoSem.Claim
import GoSem.ClaimJoined
import GoSem.ClaimMapViews
import Derived.JoinedTies
import Derived.KernelRfl
namespace Go.Proofs.YthbigiookgemhaaDoor
/- THE CELL 'sum', in the pinned program and in every row, IS THE sha256 OF THE DUMP (.gsa) THAT YthbigiookgemhaaDoorProg.lean LOADS. Nothing in Lean hashes anything: it is a label: what it is worth is what the hold of that sum in a sandbox is worth. -/
noncomputable def Tryd.pinned : Pinned := { name := "ythbigiookgemhaadoor", sum := "b7beb8ae153460a5a73b0e53b7afe190ed81892fde913d4620357768bd336c15", checked := Tryd.checked }
namespace Rows
def none {H : Type} : Left H := { results := [], args := [] }

/- WHAT THE LISTED PACKAGE-LEVEL VARIABLES READ AS WHEN THE CALL BEGINS. Each datum BY PROGRAM (the guide's laid-datum.mjs) off the statement by which the dump's own 'gosem.cut.vars' lays the variable. In a bare row this is a premise. The card (YthbigiookgemhaaDoorCards.lean) ties it to the program's text. -/
def laid_pub_kmsg_pub_kmsg_inner_kbin_ErrNotEnoughData {H : Type} : DataW H := .iface "*errors.errorString" (.ptr (.agg [.lit (.string [114, 101, 115, 112, 111, 110, 115, 101, 32, 100, 105, 100, 32, 110, 111, 116, 32, 99, 111, 110, 116, 97, 105, 110, 32, 101, 110, 111, 117, 103, 104, 32, 100, 97, 116, 97, 32, 116, 111, 32, 98, 101, 32, 118, 97, 108, 105, 100])]))

/-- 'laws.FnAnyUnregisterBrokerRequest': WHATEVER THE INPUT: true; the input reads as it did. -/
def fnAnyUnregisterBrokerRequestSpec : ChangeSpec := { name := "fnAnyUnregisterBrokerRequest", fn := fun _ => fun
  | [d1, d2] => { results := [.lit (.bool true)], args := [d1, d2] }
  | _ => none }
def fnAnyUnregisterBrokerRequestRow : OpenClaim := { program := "ythbigiookgemhaadoor", sum := "b7beb8ae153460a5a73b0e53b7afe190ed81892fde913d4620357768bd336c15", func := "pub-kmsg/laws.FnAnyUnregisterBrokerRequest", spec := "fnAnyUnregisterBrokerRequest", inPlace := ["internal/reflectlite.ValueOf", "internal/reflectlite.Swapper", "(internal/reflectlite.Value).Len"], unfollowed := true, recurses := true, named := ["encoding/binary.BigEndian", "pub-kmsg/pub/kmsg/inner/kbin.ErrNotEnoughData"], apart := false, laid := [("pub-kmsg/pub/kmsg/inner/kbin.ErrNotEnoughData", laid_pub_kmsg_pub_kmsg_inner_kbin_ErrNotEnoughData)] }
def FnAnyUnregisterBrokerRequestSaid : Prop := fnAnyUnregisterBrokerRequestRow.holds Tryd.pinned (OpenSpec.ofChange fnAnyUnregisterBrokerRequestSpec)

/-- ITS FALSE NEIGHBOUR: 'it returns false'. Refute it at one input. -/
def fnAnyUnregisterBrokerRequestWrong : ChangeSpec := { name := "fnAnyUnregisterBrokerRequest", fn := fun _ => fun
  | [d1, d2] => { results := [.lit (.bool false)], args := [d1, d2] }
  | _ => none }
def FnAnyUnregisterBrokerRequestWrongFalsely : Prop := fnAnyUnregisterBrokerRequestRow.holds Tryd.pinned (OpenSpec.ofChange fnAnyUnregisterBrokerRequestWrong)

/-- 'laws.FnAnyInitProducerIDResponse': WHATEVER THE INPUT: true; the input reads as it did. -/
def fnAnyInitProducerIDResponseSpec : ChangeSpec := { name := "fnAnyInitProducerIDResponse", fn := fun _ => fun
  | [d1, d2] => { results := [.lit (.bool true)], args := [d1, d2] }
  | _ => none }
def fnAnyInitProducerIDResponseRow : OpenClaim := { program := "ythbigiookgemhaadoor", sum := "b7beb8ae153460a5a73b0e53b7afe190ed81892fde913d4620357768bd336c15", func := "pub-kmsg/laws.FnAnyInitProducerIDResponse", spec := "fnAnyInitProducerIDResponse", inPlace := ["internal/reflectlite.ValueOf", "internal/reflectlite.Swapper", "(internal/reflectlite.Value).Len"], unfollowed := true, recurses := true, named := ["encoding/binary.BigEndian", "pub-kmsg/pub/kmsg/inner/kbin.ErrNotEnoughData"], apart := false, laid := [("pub-kmsg/pub/kmsg/inner/kbin.ErrNotEnoughData", laid_pub_kmsg_pub_kmsg_inner_kbin_ErrNotEnoughData)] }
def FnAnyInitProducerIDResponseSaid : Prop := fnAnyInitProducerIDResponseRow.holds Tryd.pinned (OpenSpec.ofChange fnAnyInitProducerIDResponseSpec)

/-- ITS FALSE NEIGHBOUR: 'it returns false'. Refute it at one input. -/
def fnAnyInitProducerIDResponseWrong : ChangeSpec := { name := "fnAnyInitProducerIDResponse", fn := fun _ => fun
  | [d1, d2] => { results := [.lit (.bool false)], args := [d1, d2] }
  | _ => none }
def FnAnyInitProducerIDResponseWrongFalsely : Prop := fnAnyInitProducerIDResponseRow.holds Tryd.pinned (OpenSpec.ofChange fnAnyInitProducerIDResponseWrong)

/-- 'laws.FnAnyRenewDelegationTokenRequest': WHATEVER THE INPUT: true; the input reads as it did. -/
def fnAnyRenewDelegationTokenRequestSpec : ChangeSpec := { name := "fnAnyRenewDelegationTokenRequest", fn := fun _ => fun
  | [d1, d2] => { results := [.lit (.bool true)], args := [d1, d2] }
  | _ => none }
def fnAnyRenewDelegationTokenRequestRow : OpenClaim := { program := "ythbigiookgemhaadoor", sum := "b7beb8ae153460a5a73b0e53b7afe190ed81892fde913d4620357768bd336c15", func := "pub-kmsg/laws.FnAnyRenewDelegationTokenRequest", spec := "fnAnyRenewDelegationTokenRequest", inPlace := ["internal/reflectlite.ValueOf", "internal/reflectlite.Swapper", "(internal/reflectlite.Value).Len"], unfollowed := true, recurses := true, named := ["encoding/binary.BigEndian", "pub-kmsg/pub/kmsg/inner/kbin.ErrNotEnoughData"], apart := false, laid := [("pub-kmsg/pub/kmsg/inner/kbin.ErrNotEnoughData", laid_pub_kmsg_pub_kmsg_inner_kbin_ErrNotEnoughData)] }
def FnAnyRenewDelegationTokenRequestSaid : Prop := fnAnyRenewDelegationTokenRequestRow.holds Tryd.pinned (OpenSpec.ofChange fnAnyRenewDelegationTokenRequestSpec)

/-- ITS FALSE NEIGHBOUR: 'it returns false'. Refute it at one input. -/
def fnAnyRenewDelegationTokenRequestWrong : ChangeSpec := { name := "fnAnyRenewDelegationTokenRequest", fn := fun _ => fun
  | [d1, d2] => { results := [.lit (.bool false)], args := [d1, d2] }
  | _ => none }
def FnAnyRenewDelegationTokenRequestWrongFalsely : Prop := fnAnyRenewDelegationTokenRequestRow.holds Tryd.pinned (OpenSpec.ofChange fnAnyRenewDelegationTokenRequestWrong)

/-- 'laws.FnAnyAddRaftVoterResponse': WHATEVER THE INPUT: true; the input reads as it did. -/
def fnAnyAddRaftVoterResponseSpec : ChangeSpec := { name := "fnAnyAddRaftVoterResponse", fn := fun _ => fun
  | [d1, d2] => { results := [.lit (.bool true)], args := [d1, d2] }
  | _ => none }
def fnAnyAddRaftVoterResponseRow : OpenClaim := { program := "ythbigiookgemhaadoor", sum := "b7beb8ae153460a5a73b0e53b7afe190ed81892fde913d4620357768bd336c15", func := "pub-kmsg/laws.FnAnyAddRaftVoterResponse", spec := "fnAnyAddRaftVoterResponse", inPlace := ["internal/reflectlite.ValueOf", "internal/reflectlite.Swapper", "(internal/reflectlite.Value).Len"], unfollowed := true, recurses := true, named := ["encoding/binary.BigEndian", "pub-kmsg/pub/kmsg/inner/kbin.ErrNotEnoughData"], apart := false, laid := [("pub-kmsg/pub/kmsg/inner/kbin.ErrNotEnoughData", laid_pub_kmsg_pub_kmsg_inner_kbin_ErrNotEnoughData)] }
def FnAnyAddRaftVoterResponseSaid : Prop := fnAnyAddRaftVoterResponseRow.holds Tryd.pinned (OpenSpec.ofChange fnAnyAddRaftVoterResponseSpec)

/-- ITS FALSE NEIGHBOUR: 'it returns false'. Refute it at one input. -/
def fnAnyAddRaftVoterResponseWrong : ChangeSpec := { name := "fnAnyAddRaftVoterResponse", fn := fun _ => fun
  | [d1, d2] => { results := [.lit (.bool false)], args := [d1, d2] }
  | _ => none }
def FnAnyAddRaftVoterResponseWrongFalsely : Prop := fnAnyAddRaftVoterResponseRow.holds Tryd.pinned (OpenSpec.ofChange fnAnyAddRaftVoterResponseWrong)

/-- 'laws.FnAnyDescribeGroupsRequest': WHATEVER THE INPUT: true; the input reads as it did. -/
def fnAnyDescribeGroupsRequestSpec : ChangeSpec := { name := "fnAnyDescribeGroupsRequest", fn := fun _ => fun
  | [d1, d2] => { results := [.lit (.bool true)], args := [d1, d2] }
  | _ => none }
def fnAnyDescribeGroupsRequestRow : OpenClaim := { program := "ythbigiookgemhaadoor", sum := "b7beb8ae153460a5a73b0e53b7afe190ed81892fde913d4620357768bd336c15", func := "pub-kmsg/laws.FnAnyDescribeGroupsRequest", spec := "fnAnyDescribeGroupsRequest", inPlace := ["internal/reflectlite.ValueOf", "internal/reflectlite.Swapper", "(internal/reflectlite.Value).Len"], unfollowed := true, recurses := true, named := ["encoding/binary.BigEndian", "pub-kmsg/pub/kmsg/inner/kbin.ErrNotEnoughData"], apart := false, laid := [("pub-kmsg/pub/kmsg/inner/kbin.ErrNotEnoughData", laid_pub_kmsg_pub_kmsg_inner_kbin_ErrNotEnoughData)] }
def FnAnyDescribeGroupsRequestSaid : Prop := fnAnyDescribeGroupsRequestRow.holds Tryd.pinned (OpenSpec.ofChange fnAnyDescribeGroupsRequestSpec)

/-- ITS FALSE NEIGHBOUR: 'it returns false'. Refute it at one input. -/
def fnAnyDescribeGroupsRequestWrong : ChangeSpec := { name := "fnAnyDescribeGroupsRequest", fn := fun _ => fun
  | [d1, d2] => { results := [.lit (.bool false)], args := [d1, d2] }
  | _ => none }
def FnAnyDescribeGroupsRequestWrongFalsely : Prop := fnAnyDescribeGroupsRequestRow.holds Tryd.pinned (OpenSpec.ofChange fnAnyDescribeGroupsRequestWrong)

/-- 'laws.FnAgainSASLHandshakeResponse': WHATEVER THE INPUT: true; the input reads as it did. -/
def fnAgainSASLHandshakeResponseSpec : ChangeSpec := { name := "fnAgainSASLHandshakeResponse", fn := fun _ => fun
  | [d1, d2] => { results := [.lit (.bool true)], args := [d1, d2] }
  | _ => none }
def fnAgainSASLHandshakeResponseRow : OpenClaim := { program := "ythbigiookgemhaadoor", sum := "b7beb8ae153460a5a73b0e53b7afe190ed81892fde913d4620357768bd336c15", func := "pub-kmsg/laws.FnAgainSASLHandshakeResponse", spec := "fnAgainSASLHandshakeResponse", recurses := true, named := ["encoding/binary.BigEndian", "pub-kmsg/pub/kmsg/inner/kbin.ErrNotEnoughData"], loops := true, apart := false, laid := [("pub-kmsg/pub/kmsg/inner/kbin.ErrNotEnoughData", laid_pub_kmsg_pub_kmsg_inner_kbin_ErrNotEnoughData)] }
def FnAgainSASLHandshakeResponseSaid : Prop := fnAgainSASLHandshakeResponseRow.holds Tryd.pinned (OpenSpec.ofChange fnAgainSASLHandshakeResponseSpec)

/-- ITS FALSE NEIGHBOUR: 'it returns false'. Refute it at one input. -/
def fnAgainSASLHandshakeResponseWrong : ChangeSpec := { name := "fnAgainSASLHandshakeResponse", fn := fun _ => fun
  | [d1, d2] => { results := [.lit (.bool false)], args := [d1, d2] }
  | _ => none }
def FnAgainSASLHandshakeResponseWrongFalsely : Prop := fnAgainSASLHandshakeResponseRow.holds Tryd.pinned (OpenSpec.ofChange fnAgainSASLHandshakeResponseWrong)

/-- 'laws.FnAgainControlledShutdownRequest': WHATEVER THE INPUT: true; the input reads as it did. -/
def fnAgainControlledShutdownRequestSpec : ChangeSpec := { name := "fnAgainControlledShutdownRequest", fn := fun _ => fun
  | [d1, d2] => { results := [.lit (.bool true)], args := [d1, d2] }
  | _ => none }
def fnAgainControlledShutdownRequestRow : OpenClaim := { program := "ythbigiookgemhaadoor", sum := "b7beb8ae153460a5a73b0e53b7afe190ed81892fde913d4620357768bd336c15", func := "pub-kmsg/laws.FnAgainControlledShutdownRequest", spec := "fnAgainControlledShutdownRequest", inPlace := ["internal/reflectlite.ValueOf", "internal/reflectlite.Swapper", "(internal/reflectlite.Value).Len"], unfollowed := true, recurses := true, named := ["encoding/binary.BigEndian", "pub-kmsg/pub/kmsg/inner/kbin.ErrNotEnoughData"], loops := true, apart := false, laid := [("pub-kmsg/pub/kmsg/inner/kbin.ErrNotEnoughData", laid_pub_kmsg_pub_kmsg_inner_kbin_ErrNotEnoughData)] }
def FnAgainControlledShutdownRequestSaid : Prop := fnAgainControlledShutdownRequestRow.holds Tryd.pinned (OpenSpec.ofChange fnAgainControlledShutdownRequestSpec)

/-- ITS FALSE NEIGHBOUR: 'it returns false'. Refute it at one input. -/
def fnAgainControlledShutdownRequestWrong : ChangeSpec := { name := "fnAgainControlledShutdownRequest", fn := fun _ => fun
  | [d1, d2] => { results := [.lit (.bool false)], args := [d1, d2] }
  | _ => none }
def FnAgainControlledShutdownRequestWrongFalsely : Prop := fnAgainControlledShutdownRequestRow.holds Tryd.pinned (OpenSpec.ofChange fnAgainControlledShutdownRequestWrong)

/-- 'laws.FnCutHeartbeatResponse': WHATEVER THE INPUT: true; the input reads as it did. -/
def fnCutHeartbeatResponseSpec : ChangeSpec := { name := "fnCutHeartbeatResponse", fn := fun _ => fun
  | [d1, d2, d3] => { results := [.lit (.bool true)], args := [d1, d2, d3] }
  | _ => none }
def fnCutHeartbeatResponseRow : OpenClaim := { program := "ythbigiookgemhaadoor", sum := "b7beb8ae153460a5a73b0e53b7afe190ed81892fde913d4620357768bd336c15", func := "pub-kmsg/laws.FnCutHeartbeatResponse", spec := "fnCutHeartbeatResponse", inPlace := ["internal/reflectlite.ValueOf", "internal/reflectlite.Swapper", "(internal/reflectlite.Value).Len"], unfollowed := true, recurses := true, named := ["encoding/binary.BigEndian", "pub-kmsg/pub/kmsg/inner/kbin.ErrNotEnoughData"], loops := true, apart := false, laid := [("pub-kmsg/pub/kmsg/inner/kbin.ErrNotEnoughData", laid_pub_kmsg_pub_kmsg_inner_kbin_ErrNotEnoughData)] }
def FnCutHeartbeatResponseSaid : Prop := fnCutHeartbeatResponseRow.holds Tryd.pinned (OpenSpec.ofChange fnCutHeartbeatResponseSpec)

/-- ITS FALSE NEIGHBOUR: 'it returns false'. Refute it at one input. -/
def fnCutHeartbeatResponseWrong : ChangeSpec := { name := "fnCutHeartbeatResponse", fn := fun _ => fun
  | [d1, d2, d3] => { results := [.lit (.bool false)], args := [d1, d2, d3] }
  | _ => none }
def FnCutHeartbeatResponseWrongFalsely : Prop := fnCutHeartbeatResponseRow.holds Tryd.pinned (OpenSpec.ofChange fnCutHeartbeatResponseWrong)

/-- 'laws.FnCutAddOffsetsToTxnResponse': WHATEVER THE INPUT: true; the input reads as it did. -/
def fnCutAddOffsetsToTxnResponseSpec : ChangeSpec := { name := "fnCutAddOffsetsToTxnResponse", fn := fun _ => fun
  | [d1, d2, d3] => { results := [.lit (.bool true)], args := [d1, d2, d3] }
  | _ => none }
def fnCutAddOffsetsToTxnResponseRow : OpenClaim := { program := "ythbigiookgemhaadoor", sum := "b7beb8ae153460a5a73b0e53b7afe190ed81892fde913d4620357768bd336c15", func := "pub-kmsg/laws.FnCutAddOffsetsToTxnResponse", spec := "fnCutAddOffsetsToTxnResponse", inPlace := ["internal/reflectlite.ValueOf", "internal/reflectlite.Swapper", "(internal/reflectlite.Value).Len"], unfollowed := true, recurses := true, named := ["encoding/binary.BigEndian", "pub-kmsg/pub/kmsg/inner/kbin.ErrNotEnoughData"], loops := true, apart := false, laid := [("pub-kmsg/pub/kmsg/inner/kbin.ErrNotEnoughData", laid_pub_kmsg_pub_kmsg_inner_kbin_ErrNotEnoughData)] }
def FnCutAddOffsetsToTxnResponseSaid : Prop := fnCutAddOffsetsToTxnResponseRow.holds Tryd.pinned (OpenSpec.ofChange fnCutAddOffsetsToTxnResponseSpec)

/-- ITS FALSE NEIGHBOUR: 'it returns false'. Refute it at one input. -/
def fnCutAddOffsetsToTxnResponseWrong : ChangeSpec := { name := "fnCutAddOffsetsToTxnResponse", fn := fun _ => fun
  | [d1, d2, d3] => { results := [.lit (.bool false)], args := [d1, d2, d3] }
  | _ => none }
def FnCutAddOffsetsToTxnResponseWrongFalsely : Prop := fnCutAddOffsetsToTxnResponseRow.holds Tryd.pinned (OpenSpec.ofChange fnCutAddOffsetsToTxnResponseWrong)

/- THE SECOND FORM. 'bulk': how many values and letters a reading holds, each counted each time it is reached (what is shared counts as often as it is met; a slice's spare places count too). A statement '..UptoSaid' is the law's where the arguments, and the package variables that the reading takes, are together of bulk at most 1048576: NARROWER than '..Said'. Prove '..Said' where nothing that the law and all that it calls make is longer than what came in: it says more and counts as full. Else prove '..UptoSaid'. A law counts once. -/
mutual
def uptoBulk {H : Type} : DataW H → Nat
  | .lit (.string bytes) => bytes.length + 1
  | .lit _ => 1
  | .nil => 1
  | .ptr d => uptoBulk d + 1
  | .slice elems spare => uptoBulkAll elems + uptoBulkAll spare + 1
  | .agg parts => uptoBulkAll parts + 1
  | .iface _ d => uptoBulk d + 1
  | .map entries => uptoBulkEntries entries + 1
  | .held _ => 1
def uptoBulkAll {H : Type} : List (DataW H) → Nat
  | [] => 0
  | d :: r => uptoBulk d + uptoBulkAll r
def uptoBulkEntries {H : Type} : List (Lit × DataW H) → Nat
  | [] => 0
  | x :: r => uptoBulkEntry x + uptoBulkEntries r
def uptoBulkEntry {H : Type} : Lit × DataW H → Nat
  | (.string bytes, d) => bytes.length + uptoBulk d + 1
  | (_, d) => uptoBulk d + 1
 end
def uptoSmall : (H : Type) → List (DataW H) → Bool := fun _ ds => decide (uptoBulkAll ds ≤ 1048576)
def OpenSpec.upto (s : _root_.Go.ChangeSpec) : _root_.Go.OpenSpec := { _root_.Go.OpenSpec.ofChange s with cond := some uptoSmall }

/-- 'laws.FnAnyUnregisterBrokerRequest', WHERE WHAT IT READS IS OF BULK AT MOST 1048576: true; the input reads as it did. -/
def fnAnyUnregisterBrokerRequestUptoRow : OpenClaim := { program := "ythbigiookgemhaadoor", sum := "b7beb8ae153460a5a73b0e53b7afe190ed81892fde913d4620357768bd336c15", func := "pub-kmsg/laws.FnAnyUnregisterBrokerRequest", spec := "fnAnyUnregisterBrokerRequest", inPlace := ["internal/reflectlite.ValueOf", "internal/reflectlite.Swapper", "(internal/reflectlite.Value).Len"], unfollowed := true, recurses := true, named := ["encoding/binary.BigEndian", "pub-kmsg/pub/kmsg/inner/kbin.ErrNotEnoughData"], apart := false, laid := [("pub-kmsg/pub/kmsg/inner/kbin.ErrNotEnoughData", laid_pub_kmsg_pub_kmsg_inner_kbin_ErrNotEnoughData)], narrowed := true }
def FnAnyUnregisterBrokerRequestUptoSaid : Prop := fnAnyUnregisterBrokerRequestUptoRow.holds Tryd.pinned (OpenSpec.upto fnAnyUnregisterBrokerRequestSpec)

/-- 'laws.FnAnyInitProducerIDResponse', WHERE WHAT IT READS IS OF BULK AT MOST 1048576: true; the input reads as it did. -/
def fnAnyInitProducerIDResponseUptoRow : OpenClaim := { program := "ythbigiookgemhaadoor", sum := "b7beb8ae153460a5a73b0e53b7afe190ed81892fde913d4620357768bd336c15", func := "pub-kmsg/laws.FnAnyInitProducerIDResponse", spec := "fnAnyInitProducerIDResponse", inPlace := ["internal/reflectlite.ValueOf", "internal/reflectlite.Swapper", "(internal/reflectlite.Value).Len"], unfollowed := true, recurses := true, named := ["encoding/binary.BigEndian", "pub-kmsg/pub/kmsg/inner/kbin.ErrNotEnoughData"], apart := false, laid := [("pub-kmsg/pub/kmsg/inner/kbin.ErrNotEnoughData", laid_pub_kmsg_pub_kmsg_inner_kbin_ErrNotEnoughData)], narrowed := true }
def FnAnyInitProducerIDResponseUptoSaid : Prop := fnAnyInitProducerIDResponseUptoRow.holds Tryd.pinned (OpenSpec.upto fnAnyInitProducerIDResponseSpec)

/-- 'laws.FnAnyRenewDelegationTokenRequest', WHERE WHAT IT READS IS OF BULK AT MOST 1048576: true; the input reads as it did. -/
def fnAnyRenewDelegationTokenRequestUptoRow : OpenClaim := { program := "ythbigiookgemhaadoor", sum := "b7beb8ae153460a5a73b0e53b7afe190ed81892fde913d4620357768bd336c15", func := "pub-kmsg/laws.FnAnyRenewDelegationTokenRequest", spec := "fnAnyRenewDelegationTokenRequest", inPlace := ["internal/reflectlite.ValueOf", "internal/reflectlite.Swapper", "(internal/reflectlite.Value).Len"], unfollowed := true, recurses := true, named := ["encoding/binary.BigEndian", "pub-kmsg/pub/kmsg/inner/kbin.ErrNotEnoughData"], apart := false, laid := [("pub-kmsg/pub/kmsg/inner/kbin.ErrNotEnoughData", laid_pub_kmsg_pub_kmsg_inner_kbin_ErrNotEnoughData)], narrowed := true }
def FnAnyRenewDelegationTokenRequestUptoSaid : Prop := fnAnyRenewDelegationTokenRequestUptoRow.holds Tryd.pinned (OpenSpec.upto fnAnyRenewDelegationTokenRequestSpec)

/-- 'laws.FnAnyAddRaftVoterResponse', WHERE WHAT IT READS IS OF BULK AT MOST 1048576: true; the input reads as it did. -/
def fnAnyAddRaftVoterResponseUptoRow : OpenClaim := { program := "ythbigiookgemhaadoor", sum := "b7beb8ae153460a5a73b0e53b7afe190ed81892fde913d4620357768bd336c15", func := "pub-kmsg/laws.FnAnyAddRaftVoterResponse", spec := "fnAnyAddRaftVoterResponse", inPlace := ["internal/reflectlite.ValueOf", "internal/reflectlite.Swapper", "(internal/reflectlite.Value).Len"], unfollowed := true, recurses := true, named := ["encoding/binary.BigEndian", "pub-kmsg/pub/kmsg/inner/kbin.ErrNotEnoughData"], apart := false, laid := [("pub-kmsg/pub/kmsg/inner/kbin.ErrNotEnoughData", laid_pub_kmsg_pub_kmsg_inner_kbin_ErrNotEnoughData)], narrowed := true }
def FnAnyAddRaftVoterResponseUptoSaid : Prop := fnAnyAddRaftVoterResponseUptoRow.holds Tryd.pinned (OpenSpec.upto fnAnyAddRaftVoterResponseSpec)

/-- 'laws.FnAnyDescribeGroupsRequest', WHERE WHAT IT READS IS OF BULK AT MOST 1048576: true; the input reads as it did. -/
def fnAnyDescribeGroupsRequestUptoRow : OpenClaim := { program := "ythbigiookgemhaadoor", sum := "b7beb8ae153460a5a73b0e53b7afe190ed81892fde913d4620357768bd336c15", func := "pub-kmsg/laws.FnAnyDescribeGroupsRequest", spec := "fnAnyDescribeGroupsRequest", inPlace := ["internal/reflectlite.ValueOf", "internal/reflectlite.Swapper", "(internal/reflectlite.Value).Len"], unfollowed := true, recurses := true, named := ["encoding/binary.BigEndian", "pub-kmsg/pub/kmsg/inner/kbin.ErrNotEnoughData"], apart := false, laid := [("pub-kmsg/pub/kmsg/inner/kbin.ErrNotEnoughData", laid_pub_kmsg_pub_kmsg_inner_kbin_ErrNotEnoughData)], narrowed := true }
def FnAnyDescribeGroupsRequestUptoSaid : Prop := fnAnyDescribeGroupsRequestUptoRow.holds Tryd.pinned (OpenSpec.upto fnAnyDescribeGroupsRequestSpec)

/-- 'laws.FnAgainSASLHandshakeResponse', WHERE WHAT IT READS IS OF BULK AT MOST 1048576: true; the input reads as it did. -/
def fnAgainSASLHandshakeResponseUptoRow : OpenClaim := { program := "ythbigiookgemhaadoor", sum := "b7beb8ae153460a5a73b0e53b7afe190ed81892fde913d4620357768bd336c15", func := "pub-kmsg/laws.FnAgainSASLHandshakeResponse", spec := "fnAgainSASLHandshakeResponse", recurses := true, named := ["encoding/binary.BigEndian", "pub-kmsg/pub/kmsg/inner/kbin.ErrNotEnoughData"], loops := true, apart := false, laid := [("pub-kmsg/pub/kmsg/inner/kbin.ErrNotEnoughData", laid_pub_kmsg_pub_kmsg_inner_kbin_ErrNotEnoughData)], narrowed := true }
def FnAgainSASLHandshakeResponseUptoSaid : Prop := fnAgainSASLHandshakeResponseUptoRow.holds Tryd.pinned (OpenSpec.upto fnAgainSASLHandshakeResponseSpec)

/-- 'laws.FnAgainControlledShutdownRequest', WHERE WHAT IT READS IS OF BULK AT MOST 1048576: true; the input reads as it did. -/
def fnAgainControlledShutdownRequestUptoRow : OpenClaim := { program := "ythbigiookgemhaadoor", sum := "b7beb8ae153460a5a73b0e53b7afe190ed81892fde913d4620357768bd336c15", func := "pub-kmsg/laws.FnAgainControlledShutdownRequest", spec := "fnAgainControlledShutdownRequest", inPlace := ["internal/reflectlite.ValueOf", "internal/reflectlite.Swapper", "(internal/reflectlite.Value).Len"], unfollowed := true, recurses := true, named := ["encoding/binary.BigEndian", "pub-kmsg/pub/kmsg/inner/kbin.ErrNotEnoughData"], loops := true, apart := false, laid := [("pub-kmsg/pub/kmsg/inner/kbin.ErrNotEnoughData", laid_pub_kmsg_pub_kmsg_inner_kbin_ErrNotEnoughData)], narrowed := true }
def FnAgainControlledShutdownRequestUptoSaid : Prop := fnAgainControlledShutdownRequestUptoRow.holds Tryd.pinned (OpenSpec.upto fnAgainControlledShutdownRequestSpec)

/-- 'laws.FnCutHeartbeatResponse', WHERE WHAT IT READS IS OF BULK AT MOST 1048576: true; the input reads as it did. -/
def fnCutHeartbeatResponseUptoRow : OpenClaim := { program := "ythbigiookgemhaadoor", sum := "b7beb8ae153460a5a73b0e53b7afe190ed81892fde913d4620357768bd336c15", func := "pub-kmsg/laws.FnCutHeartbeatResponse", spec := "fnCutHeartbeatResponse", inPlace := ["internal/reflectlite.ValueOf", "internal/reflectlite.Swapper", "(internal/reflectlite.Value).Len"], unfollowed := true, recurses := true, named := ["encoding/binary.BigEndian", "pub-kmsg/pub/kmsg/inner/kbin.ErrNotEnoughData"], loops := true, apart := false, laid := [("pub-kmsg/pub/kmsg/inner/kbin.ErrNotEnoughData", laid_pub_kmsg_pub_kmsg_inner_kbin_ErrNotEnoughData)], narrowed := true }
def FnCutHeartbeatResponseUptoSaid : Prop := fnCutHeartbeatResponseUptoRow.holds Tryd.pinned (OpenSpec.upto fnCutHeartbeatResponseSpec)

/-- 'laws.FnCutAddOffsetsToTxnResponse', WHERE WHAT IT READS IS OF BULK AT MOST 1048576: true; the input reads as it did. -/
def fnCutAddOffsetsToTxnResponseUptoRow : OpenClaim := { program := "ythbigiookgemhaadoor", sum := "b7beb8ae153460a5a73b0e53b7afe190ed81892fde913d4620357768bd336c15", func := "pub-kmsg/laws.FnCutAddOffsetsToTxnResponse", spec := "fnCutAddOffsetsToTxnResponse", inPlace := ["internal/reflectlite.ValueOf", "internal/reflectlite.Swapper", "(internal/reflectlite.Value).Len"], unfollowed := true, recurses := true, named := ["encoding/binary.BigEndian", "pub-kmsg/pub/kmsg/inner/kbin.ErrNotEnoughData"], loops := true, apart := false, laid := [("pub-kmsg/pub/kmsg/inner/kbin.ErrNotEnoughData", laid_pub_kmsg_pub_kmsg_inner_kbin_ErrNotEnoughData)], narrowed := true }
def FnCutAddOffsetsToTxnResponseUptoSaid : Prop := fnCutAddOffsetsToTxnResponseUptoRow.holds Tryd.pinned (OpenSpec.upto fnCutAddOffsetsToTxnResponseSpec)

end Rows
end Go.Proofs.YthbigiookgemhaaDoor
