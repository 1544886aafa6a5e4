/-
  No cell of these rows narrows 'for every input' (looked for: loops, veiled, ifaces, maps, wideKeys, modest, calm, conditions, laid).
  DERIVED. THE GIVEN ROWS OF THIS SEAT. 8 by the template 'for every input the law returns true; each argument reads behind the call as it read before'; 0 by the template 'total and deterministic' (their statements: YtigbgnlmicmmlaaTotals.lean).
  GIVEN WITH THE SEED: the statements are not yours to turn. If you find one false, say at which input.
  Laid BY PROGRAM, IN A SANDBOX (cutbox-rows.mjs): the forced cells as the released guide's own fill.sh prints them over the translation 1198037629fc5d3f… (all of the seat's roots in one cut). By AI agents, Wed Nov 11 2026. No macro, syntax, notation, axiom, sorry.
-/
import Derived.Test.YtigbgnlmicmmlaaChecked
import GoSem.Claim
import GoSem.ClaimJoined
import GoSem.ClaimMapViews
import Derived.JoinedTies
import Derived.KernelRfl
namespace Go.Proofs.Ytigbgnlmicmmlaa
/- THE CELL 'sum', in the pinned program and in every row, IS THE sha256 OF THE DUMP (.gsa) THAT YtigbgnlmicmmlaaProg.lean LOADS. Nothing in Lean hashes anything: it is a label: what it is worth is what the hold of that sum in a sandbox is worth. -/
noncomputable def Try.pinned : Pinned := { name := "ytigbgnlmicmmlaa", sum := "1198037629fc5d3f0db4e2461b2ff7a2f8cd6e3e1d081d2d64d737d062ab307f", checked := Try.checked }
namespace Rows
def none {H : Type} : Left H := { results := [], args := [] }

/-- 'laws.FnNewAllocateProducerIDsRequest': WHATEVER THE INPUT: true; the input reads as it did. -/
def fnNewAllocateProducerIDsRequestSpec : ChangeSpec := { name := "fnNewAllocateProducerIDsRequest", fn := fun _ => fun
  | [d] => { results := [.lit (.bool true)], args := [d] }
  | _ => none }
def fnNewAllocateProducerIDsRequestRow : OpenClaim := { program := "ytigbgnlmicmmlaa", sum := "1198037629fc5d3f0db4e2461b2ff7a2f8cd6e3e1d081d2d64d737d062ab307f", func := "pub-kmsg/laws.FnNewAllocateProducerIDsRequest", spec := "fnNewAllocateProducerIDsRequest", inPlace := ["internal/reflectlite.ValueOf", "internal/reflectlite.Swapper", "(internal/reflectlite.Value).Len"], unfollowed := true, recurses := true, apart := false }
def FnNewAllocateProducerIDsRequestSaid : Prop := fnNewAllocateProducerIDsRequestRow.holds Try.pinned (OpenSpec.ofChange fnNewAllocateProducerIDsRequestSpec)

/-- ITS FALSE NEIGHBOUR: 'it returns false'. Refute it at one input. -/
def fnNewAllocateProducerIDsRequestWrong : ChangeSpec := { name := "fnNewAllocateProducerIDsRequest", fn := fun _ => fun
  | [d] => { results := [.lit (.bool false)], args := [d] }
  | _ => none }
def FnNewAllocateProducerIDsRequestWrongFalsely : Prop := fnNewAllocateProducerIDsRequestRow.holds Try.pinned (OpenSpec.ofChange fnNewAllocateProducerIDsRequestWrong)

/-- 'laws.FnNewRenewDelegationTokenResponse': WHATEVER THE INPUT: true; the input reads as it did. -/
def fnNewRenewDelegationTokenResponseSpec : ChangeSpec := { name := "fnNewRenewDelegationTokenResponse", fn := fun _ => fun
  | [d] => { results := [.lit (.bool true)], args := [d] }
  | _ => none }
def fnNewRenewDelegationTokenResponseRow : OpenClaim := { program := "ytigbgnlmicmmlaa", sum := "1198037629fc5d3f0db4e2461b2ff7a2f8cd6e3e1d081d2d64d737d062ab307f", func := "pub-kmsg/laws.FnNewRenewDelegationTokenResponse", spec := "fnNewRenewDelegationTokenResponse", inPlace := ["internal/reflectlite.ValueOf", "internal/reflectlite.Swapper", "(internal/reflectlite.Value).Len"], unfollowed := true, recurses := true, apart := false }
def FnNewRenewDelegationTokenResponseSaid : Prop := fnNewRenewDelegationTokenResponseRow.holds Try.pinned (OpenSpec.ofChange fnNewRenewDelegationTokenResponseSpec)

/-- ITS FALSE NEIGHBOUR: 'it returns false'. Refute it at one input. -/
def fnNewRenewDelegationTokenResponseWrong : ChangeSpec := { name := "fnNewRenewDelegationTokenResponse", fn := fun _ => fun
  | [d] => { results := [.lit (.bool false)], args := [d] }
  | _ => none }
def FnNewRenewDelegationTokenResponseWrongFalsely : Prop := fnNewRenewDelegationTokenResponseRow.holds Try.pinned (OpenSpec.ofChange fnNewRenewDelegationTokenResponseWrong)

/-- 'laws.FnNewUnregisterBrokerResponse': WHATEVER THE INPUT: true; the input reads as it did. -/
def fnNewUnregisterBrokerResponseSpec : ChangeSpec := { name := "fnNewUnregisterBrokerResponse", fn := fun _ => fun
  | [d] => { results := [.lit (.bool true)], args := [d] }
  | _ => none }
def fnNewUnregisterBrokerResponseRow : OpenClaim := { program := "ytigbgnlmicmmlaa", sum := "1198037629fc5d3f0db4e2461b2ff7a2f8cd6e3e1d081d2d64d737d062ab307f", func := "pub-kmsg/laws.FnNewUnregisterBrokerResponse", spec := "fnNewUnregisterBrokerResponse", inPlace := ["internal/reflectlite.ValueOf", "internal/reflectlite.Swapper", "(internal/reflectlite.Value).Len"], unfollowed := true, recurses := true, apart := false }
def FnNewUnregisterBrokerResponseSaid : Prop := fnNewUnregisterBrokerResponseRow.holds Try.pinned (OpenSpec.ofChange fnNewUnregisterBrokerResponseSpec)

/-- ITS FALSE NEIGHBOUR: 'it returns false'. Refute it at one input. -/
def fnNewUnregisterBrokerResponseWrong : ChangeSpec := { name := "fnNewUnregisterBrokerResponse", fn := fun _ => fun
  | [d] => { results := [.lit (.bool false)], args := [d] }
  | _ => none }
def FnNewUnregisterBrokerResponseWrongFalsely : Prop := fnNewUnregisterBrokerResponseRow.holds Try.pinned (OpenSpec.ofChange fnNewUnregisterBrokerResponseWrong)

/-- 'laws.FnNewConsumerGroupDescribeRequest': WHATEVER THE INPUT: true; the input reads as it did. -/
def fnNewConsumerGroupDescribeRequestSpec : ChangeSpec := { name := "fnNewConsumerGroupDescribeRequest", fn := fun _ => fun
  | [d] => { results := [.lit (.bool true)], args := [d] }
  | _ => none }
def fnNewConsumerGroupDescribeRequestRow : OpenClaim := { program := "ytigbgnlmicmmlaa", sum := "1198037629fc5d3f0db4e2461b2ff7a2f8cd6e3e1d081d2d64d737d062ab307f", func := "pub-kmsg/laws.FnNewConsumerGroupDescribeRequest", spec := "fnNewConsumerGroupDescribeRequest", inPlace := ["internal/reflectlite.ValueOf", "internal/reflectlite.Swapper", "(internal/reflectlite.Value).Len"], unfollowed := true, recurses := true, apart := false }
def FnNewConsumerGroupDescribeRequestSaid : Prop := fnNewConsumerGroupDescribeRequestRow.holds Try.pinned (OpenSpec.ofChange fnNewConsumerGroupDescribeRequestSpec)

/-- ITS FALSE NEIGHBOUR: 'it returns false'. Refute it at one input. -/
def fnNewConsumerGroupDescribeRequestWrong : ChangeSpec := { name := "fnNewConsumerGroupDescribeRequest", fn := fun _ => fun
  | [d] => { results := [.lit (.bool false)], args := [d] }
  | _ => none }
def FnNewConsumerGroupDescribeRequestWrongFalsely : Prop := fnNewConsumerGroupDescribeRequestRow.holds Try.pinned (OpenSpec.ofChange fnNewConsumerGroupDescribeRequestWrong)

/-- 'laws.FnNewDescribeUserSCRAMCredentialsRequest': WHATEVER THE INPUT: true; the input reads as it did. -/
def fnNewDescribeUserSCRAMCredentialsRequestSpec : ChangeSpec := { name := "fnNewDescribeUserSCRAMCredentialsRequest", fn := fun _ => fun
  | [d] => { results := [.lit (.bool true)], args := [d] }
  | _ => none }
def fnNewDescribeUserSCRAMCredentialsRequestRow : OpenClaim := { program := "ytigbgnlmicmmlaa", sum := "1198037629fc5d3f0db4e2461b2ff7a2f8cd6e3e1d081d2d64d737d062ab307f", func := "pub-kmsg/laws.FnNewDescribeUserSCRAMCredentialsRequest", spec := "fnNewDescribeUserSCRAMCredentialsRequest", inPlace := ["internal/reflectlite.ValueOf", "internal/reflectlite.Swapper", "(internal/reflectlite.Value).Len"], unfollowed := true, recurses := true, apart := false }
def FnNewDescribeUserSCRAMCredentialsRequestSaid : Prop := fnNewDescribeUserSCRAMCredentialsRequestRow.holds Try.pinned (OpenSpec.ofChange fnNewDescribeUserSCRAMCredentialsRequestSpec)

/-- ITS FALSE NEIGHBOUR: 'it returns false'. Refute it at one input. -/
def fnNewDescribeUserSCRAMCredentialsRequestWrong : ChangeSpec := { name := "fnNewDescribeUserSCRAMCredentialsRequest", fn := fun _ => fun
  | [d] => { results := [.lit (.bool false)], args := [d] }
  | _ => none }
def FnNewDescribeUserSCRAMCredentialsRequestWrongFalsely : Prop := fnNewDescribeUserSCRAMCredentialsRequestRow.holds Try.pinned (OpenSpec.ofChange fnNewDescribeUserSCRAMCredentialsRequestWrong)

/-- 'laws.FnNewCreatePartitionsResponse': WHATEVER THE INPUT: true; the input reads as it did. -/
def fnNewCreatePartitionsResponseSpec : ChangeSpec := { name := "fnNewCreatePartitionsResponse", fn := fun _ => fun
  | [d] => { results := [.lit (.bool true)], args := [d] }
  | _ => none }
def fnNewCreatePartitionsResponseRow : OpenClaim := { program := "ytigbgnlmicmmlaa", sum := "1198037629fc5d3f0db4e2461b2ff7a2f8cd6e3e1d081d2d64d737d062ab307f", func := "pub-kmsg/laws.FnNewCreatePartitionsResponse", spec := "fnNewCreatePartitionsResponse", inPlace := ["internal/reflectlite.ValueOf", "internal/reflectlite.Swapper", "(internal/reflectlite.Value).Len"], unfollowed := true, recurses := true, apart := false }
def FnNewCreatePartitionsResponseSaid : Prop := fnNewCreatePartitionsResponseRow.holds Try.pinned (OpenSpec.ofChange fnNewCreatePartitionsResponseSpec)

/-- ITS FALSE NEIGHBOUR: 'it returns false'. Refute it at one input. -/
def fnNewCreatePartitionsResponseWrong : ChangeSpec := { name := "fnNewCreatePartitionsResponse", fn := fun _ => fun
  | [d] => { results := [.lit (.bool false)], args := [d] }
  | _ => none }
def FnNewCreatePartitionsResponseWrongFalsely : Prop := fnNewCreatePartitionsResponseRow.holds Try.pinned (OpenSpec.ofChange fnNewCreatePartitionsResponseWrong)

/-- 'laws.FnNewOffsetForLeaderEpochRequest': WHATEVER THE INPUT: true; the input reads as it did. -/
def fnNewOffsetForLeaderEpochRequestSpec : ChangeSpec := { name := "fnNewOffsetForLeaderEpochRequest", fn := fun _ => fun
  | [d] => { results := [.lit (.bool true)], args := [d] }
  | _ => none }
def fnNewOffsetForLeaderEpochRequestRow : OpenClaim := { program := "ytigbgnlmicmmlaa", sum := "1198037629fc5d3f0db4e2461b2ff7a2f8cd6e3e1d081d2d64d737d062ab307f", func := "pub-kmsg/laws.FnNewOffsetForLeaderEpochRequest", spec := "fnNewOffsetForLeaderEpochRequest", inPlace := ["internal/reflectlite.ValueOf", "internal/reflectlite.Swapper", "(internal/reflectlite.Value).Len"], unfollowed := true, recurses := true, apart := false }
def FnNewOffsetForLeaderEpochRequestSaid : Prop := fnNewOffsetForLeaderEpochRequestRow.holds Try.pinned (OpenSpec.ofChange fnNewOffsetForLeaderEpochRequestSpec)

/-- ITS FALSE NEIGHBOUR: 'it returns false'. Refute it at one input. -/
def fnNewOffsetForLeaderEpochRequestWrong : ChangeSpec := { name := "fnNewOffsetForLeaderEpochRequest", fn := fun _ => fun
  | [d] => { results := [.lit (.bool false)], args := [d] }
  | _ => none }
def FnNewOffsetForLeaderEpochRequestWrongFalsely : Prop := fnNewOffsetForLeaderEpochRequestRow.holds Try.pinned (OpenSpec.ofChange fnNewOffsetForLeaderEpochRequestWrong)

/-- 'laws.FnNewDeleteTopicsRequest': WHATEVER THE INPUT: true; the input reads as it did. -/
def fnNewDeleteTopicsRequestSpec : ChangeSpec := { name := "fnNewDeleteTopicsRequest", fn := fun _ => fun
  | [d] => { results := [.lit (.bool true)], args := [d] }
  | _ => none }
def fnNewDeleteTopicsRequestRow : OpenClaim := { program := "ytigbgnlmicmmlaa", sum := "1198037629fc5d3f0db4e2461b2ff7a2f8cd6e3e1d081d2d64d737d062ab307f", func := "pub-kmsg/laws.FnNewDeleteTopicsRequest", spec := "fnNewDeleteTopicsRequest", inPlace := ["internal/reflectlite.ValueOf", "internal/reflectlite.Swapper", "(internal/reflectlite.Value).Len"], unfollowed := true, recurses := true, apart := false }
def FnNewDeleteTopicsRequestSaid : Prop := fnNewDeleteTopicsRequestRow.holds Try.pinned (OpenSpec.ofChange fnNewDeleteTopicsRequestSpec)

/-- ITS FALSE NEIGHBOUR: 'it returns false'. Refute it at one input. -/
def fnNewDeleteTopicsRequestWrong : ChangeSpec := { name := "fnNewDeleteTopicsRequest", fn := fun _ => fun
  | [d] => { results := [.lit (.bool false)], args := [d] }
  | _ => none }
def FnNewDeleteTopicsRequestWrongFalsely : Prop := fnNewDeleteTopicsRequestRow.holds Try.pinned (OpenSpec.ofChange fnNewDeleteTopicsRequestWrong)

/- THE SECOND FORM. 'bulk': how many values and letters a reading holds, each counted each time it is reached (what is shared counts as often as it is met; a slice's spare places count too). A statement '..UptoSaid' is the law's where the arguments, and the package variables that the reading takes, are together of bulk at most 1048576: NARROWER than '..Said'. Prove '..Said' where nothing that the law and all that it calls make is longer than what came in: it says more and counts as full. Else prove '..UptoSaid'. A law counts once. -/
mutual
def uptoBulk {H : Type} : DataW H → Nat
  | .lit (.string bytes) => bytes.length + 1
  | .lit _ => 1
  | .nil => 1
  | .ptr d => uptoBulk d + 1
  | .slice elems spare => uptoBulkAll elems + uptoBulkAll spare + 1
  | .agg parts => uptoBulkAll parts + 1
  | .iface _ d => uptoBulk d + 1
  | .map entries => uptoBulkEntries entries + 1
  | .held _ => 1
def uptoBulkAll {H : Type} : List (DataW H) → Nat
  | [] => 0
  | d :: r => uptoBulk d + uptoBulkAll r
def uptoBulkEntries {H : Type} : List (Lit × DataW H) → Nat
  | [] => 0
  | x :: r => uptoBulkEntry x + uptoBulkEntries r
def uptoBulkEntry {H : Type} : Lit × DataW H → Nat
  | (.string bytes, d) => bytes.length + uptoBulk d + 1
  | (_, d) => uptoBulk d + 1
 end
def uptoSmall : (H : Type) → List (DataW H) → Bool := fun _ ds => decide (uptoBulkAll ds ≤ 1048576)
def OpenSpec.upto (s : _root_.Go.ChangeSpec) : _root_.Go.OpenSpec := { _root_.Go.OpenSpec.ofChange s with cond := some uptoSmall }

/-- 'laws.FnNewAllocateProducerIDsRequest', WHERE WHAT IT READS IS OF BULK AT MOST 1048576: true; the input reads as it did. -/
def fnNewAllocateProducerIDsRequestUptoRow : OpenClaim := { program := "ytigbgnlmicmmlaa", sum := "1198037629fc5d3f0db4e2461b2ff7a2f8cd6e3e1d081d2d64d737d062ab307f", func := "pub-kmsg/laws.FnNewAllocateProducerIDsRequest", spec := "fnNewAllocateProducerIDsRequest", inPlace := ["internal/reflectlite.ValueOf", "internal/reflectlite.Swapper", "(internal/reflectlite.Value).Len"], unfollowed := true, recurses := true, apart := false, narrowed := true }
def FnNewAllocateProducerIDsRequestUptoSaid : Prop := fnNewAllocateProducerIDsRequestUptoRow.holds Try.pinned (OpenSpec.upto fnNewAllocateProducerIDsRequestSpec)

/-- 'laws.FnNewRenewDelegationTokenResponse', WHERE WHAT IT READS IS OF BULK AT MOST 1048576: true; the input reads as it did. -/
def fnNewRenewDelegationTokenResponseUptoRow : OpenClaim := { program := "ytigbgnlmicmmlaa", sum := "1198037629fc5d3f0db4e2461b2ff7a2f8cd6e3e1d081d2d64d737d062ab307f", func := "pub-kmsg/laws.FnNewRenewDelegationTokenResponse", spec := "fnNewRenewDelegationTokenResponse", inPlace := ["internal/reflectlite.ValueOf", "internal/reflectlite.Swapper", "(internal/reflectlite.Value).Len"], unfollowed := true, recurses := true, apart := false, narrowed := true }
def FnNewRenewDelegationTokenResponseUptoSaid : Prop := fnNewRenewDelegationTokenResponseUptoRow.holds Try.pinned (OpenSpec.upto fnNewRenewDelegationTokenResponseSpec)

/-- 'laws.FnNewUnregisterBrokerResponse', WHERE WHAT IT READS IS OF BULK AT MOST 1048576: true; the input reads as it did. -/
def fnNewUnregisterBrokerResponseUptoRow : OpenClaim := { program := "ytigbgnlmicmmlaa", sum := "1198037629fc5d3f0db4e2461b2ff7a2f8cd6e3e1d081d2d64d737d062ab307f", func := "pub-kmsg/laws.FnNewUnregisterBrokerResponse", spec := "fnNewUnregisterBrokerResponse", inPlace := ["internal/reflectlite.ValueOf", "internal/reflectlite.Swapper", "(internal/reflectlite.Value).Len"], unfollowed := true, recurses := true, apart := false, narrowed := true }
def FnNewUnregisterBrokerResponseUptoSaid : Prop := fnNewUnregisterBrokerResponseUptoRow.holds Try.pinned (OpenSpec.upto fnNewUnregisterBrokerResponseSpec)

/-- 'laws.FnNewConsumerGroupDescribeRequest', WHERE WHAT IT READS IS OF BULK AT MOST 1048576: true; the input reads as it did. -/
def fnNewConsumerGroupDescribeRequestUptoRow : OpenClaim := { program := "ytigbgnlmicmmlaa", sum := "1198037629fc5d3f0db4e2461b2ff7a2f8cd6e3e1d081d2d64d737d062ab307f", func := "pub-kmsg/laws.FnNewConsumerGroupDescribeRequest", spec := "fnNewConsumerGroupDescribeRequest", inPlace := ["internal/reflectlite.ValueOf", "internal/reflectlite.Swapper", "(internal/reflectlite.Value).Len"], unfollowed := true, recurses := true, apart := false, narrowed := true }
def FnNewConsumerGroupDescribeRequestUptoSaid : Prop := fnNewConsumerGroupDescribeRequestUptoRow.holds Try.pinned (OpenSpec.upto fnNewConsumerGroupDescribeRequestSpec)

/-- 'laws.FnNewDescribeUserSCRAMCredentialsRequest', WHERE WHAT IT READS IS OF BULK AT MOST 1048576: true; the input reads as it did. -/
def fnNewDescribeUserSCRAMCredentialsRequestUptoRow : OpenClaim := { program := "ytigbgnlmicmmlaa", sum := "1198037629fc5d3f0db4e2461b2ff7a2f8cd6e3e1d081d2d64d737d062ab307f", func := "pub-kmsg/laws.FnNewDescribeUserSCRAMCredentialsRequest", spec := "fnNewDescribeUserSCRAMCredentialsRequest", inPlace := ["internal/reflectlite.ValueOf", "internal/reflectlite.Swapper", "(internal/reflectlite.Value).Len"], unfollowed := true, recurses := true, apart := false, narrowed := true }
def FnNewDescribeUserSCRAMCredentialsRequestUptoSaid : Prop := fnNewDescribeUserSCRAMCredentialsRequestUptoRow.holds Try.pinned (OpenSpec.upto fnNewDescribeUserSCRAMCredentialsRequestSpec)

/-- 'laws.FnNewCreatePartitionsResponse', WHERE WHAT IT READS IS OF BULK AT MOST 1048576: true; the input reads as it did. -/
def fnNewCreatePartitionsResponseUptoRow : OpenClaim := { program := "ytigbgnlmicmmlaa", sum := "1198037629fc5d3f0db4e2461b2ff7a2f8cd6e3e1d081d2d64d737d062ab307f", func := "pub-kmsg/laws.FnNewCreatePartitionsResponse", spec := "fnNewCreatePartitionsResponse", inPlace := ["internal/reflectlite.ValueOf", "internal/reflectlite.Swapper", "(internal/reflectlite.Value).Len"], unfollowed := true, recurses := true, apart := false, narrowed := true }
def FnNewCreatePartitionsResponseUptoSaid : Prop := fnNewCreatePartitionsResponseUptoRow.holds Try.pinned (OpenSpec.upto fnNewCreatePartitionsResponseSpec)

/-- 'laws.FnNewOffsetForLeaderEpochRequest', WHERE WHAT IT READS IS OF BULK AT MOST 1048576: true; the input reads as it did. -/
def fnNewOffsetForLeaderEpochRequestUptoRow : OpenClaim := { program := "ytigbgnlmicmmlaa", sum := "1198037629fc5d3f0db4e2461b2ff7a2f8cd6e3e1d081d2d64d737d062ab307f", func := "pub-kmsg/laws.FnNewOffsetForLeaderEpochRequest", spec := "fnNewOffsetForLeaderEpochRequest", inPlace := ["internal/reflectlite.ValueOf", "internal/reflectlite.Swapper", "(internal/reflectlite.Value).Len"], unfollowed := true, recurses := true, apart := false, narrowed := true }
def FnNewOffsetForLeaderEpochRequestUptoSaid : Prop := fnNewOffsetForLeaderEpochRequestUptoRow.holds Try.pinned (OpenSpec.upto fnNewOffsetForLeaderEpochRequestSpec)

/-- 'laws.FnNewDeleteTopicsRequest', WHERE WHAT IT READS IS OF BULK AT MOST 1048576: true; the input reads as it did. -/
def fnNewDeleteTopicsRequestUptoRow : OpenClaim := { program := "ytigbgnlmicmmlaa", sum := "1198037629fc5d3f0db4e2461b2ff7a2f8cd6e3e1d081d2d64d737d062ab307f", func := "pub-kmsg/laws.FnNewDeleteTopicsRequest", spec := "fnNewDeleteTopicsRequest", inPlace := ["internal/reflectlite.ValueOf", "internal/reflectlite.Swapper", "(internal/reflectlite.Value).Len"], unfollowed := true, recurses := true, apart := false, narrowed := true }
def FnNewDeleteTopicsRequestUptoSaid : Prop := fnNewDeleteTopicsRequestUptoRow.holds Try.pinned (OpenSpec.upto fnNewDeleteTopicsRequestSpec)

end Rows
end Go.Proofs.Ytigbgnlmicmmlaa
