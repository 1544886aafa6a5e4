/-
  No cell of these rows narrows 'for every input' (looked for: loops, veiled, ifaces, maps, wideKeys, modest, calm, conditions, laid).
  DERIVED. THE GIVEN ROWS OF THIS SEAT. 6 by the template 'for every input the law returns true; each argument reads behind the call as it read before'; 0 by the template 'total and deterministic' (their statements: YtigbgnlmicmmlabTotals.lean).
  GIVEN WITH THE SEED: the statements are not yours to turn. If you find one false, say at which input.
  Laid BY PROGRAM, IN A SANDBOX (cutbox-rows.mjs): the forced cells as the released guide's own fill.sh prints them over the translation 52816478419130cd… (all of the seat's roots in one cut). By AI agents, Wed Nov 11 2026. No macro, syntax, notation, axiom, sorry.
-/
import Derived.Test.YtigbgnlmicmmlabChecked
import GoSem.Claim
import GoSem.ClaimJoined
import GoSem.ClaimMapViews
import Derived.JoinedTies
import Derived.KernelRfl
namespace Go.Proofs.Ytigbgnlmicmmlab
/- THE CELL 'sum', in the pinned program and in every row, IS THE sha256 OF THE DUMP (.gsa) THAT YtigbgnlmicmmlabProg.lean LOADS. Nothing in Lean hashes anything: it is a label: what it is worth is what the hold of that sum in a sandbox is worth. -/
noncomputable def Try.pinned : Pinned := { name := "ytigbgnlmicmmlab", sum := "52816478419130cd0f221fe22a990448f3e2ca3b7b8b0c84a98c99b6f8e449f5", checked := Try.checked }
namespace Rows
def none {H : Type} : Left H := { results := [], args := [] }

/-- 'laws.FnNewInitializeShareGroupStateRequest': WHATEVER THE INPUT: true; the input reads as it did. -/
def fnNewInitializeShareGroupStateRequestSpec : ChangeSpec := { name := "fnNewInitializeShareGroupStateRequest", fn := fun _ => fun
  | [d] => { results := [.lit (.bool true)], args := [d] }
  | _ => none }
def fnNewInitializeShareGroupStateRequestRow : OpenClaim := { program := "ytigbgnlmicmmlab", sum := "52816478419130cd0f221fe22a990448f3e2ca3b7b8b0c84a98c99b6f8e449f5", func := "pub-kmsg/laws.FnNewInitializeShareGroupStateRequest", spec := "fnNewInitializeShareGroupStateRequest", inPlace := ["internal/reflectlite.ValueOf", "internal/reflectlite.Swapper", "(internal/reflectlite.Value).Len"], unfollowed := true, recurses := true, apart := false }
def FnNewInitializeShareGroupStateRequestSaid : Prop := fnNewInitializeShareGroupStateRequestRow.holds Try.pinned (OpenSpec.ofChange fnNewInitializeShareGroupStateRequestSpec)

/-- ITS FALSE NEIGHBOUR: 'it returns false'. Refute it at one input. -/
def fnNewInitializeShareGroupStateRequestWrong : ChangeSpec := { name := "fnNewInitializeShareGroupStateRequest", fn := fun _ => fun
  | [d] => { results := [.lit (.bool false)], args := [d] }
  | _ => none }
def FnNewInitializeShareGroupStateRequestWrongFalsely : Prop := fnNewInitializeShareGroupStateRequestRow.holds Try.pinned (OpenSpec.ofChange fnNewInitializeShareGroupStateRequestWrong)

/-- 'laws.FnNewListOffsetsResponse': WHATEVER THE INPUT: true; the input reads as it did. -/
def fnNewListOffsetsResponseSpec : ChangeSpec := { name := "fnNewListOffsetsResponse", fn := fun _ => fun
  | [d] => { results := [.lit (.bool true)], args := [d] }
  | _ => none }
def fnNewListOffsetsResponseRow : OpenClaim := { program := "ytigbgnlmicmmlab", sum := "52816478419130cd0f221fe22a990448f3e2ca3b7b8b0c84a98c99b6f8e449f5", func := "pub-kmsg/laws.FnNewListOffsetsResponse", spec := "fnNewListOffsetsResponse", inPlace := ["internal/reflectlite.ValueOf", "internal/reflectlite.Swapper", "(internal/reflectlite.Value).Len"], unfollowed := true, recurses := true, apart := false }
def FnNewListOffsetsResponseSaid : Prop := fnNewListOffsetsResponseRow.holds Try.pinned (OpenSpec.ofChange fnNewListOffsetsResponseSpec)

/-- ITS FALSE NEIGHBOUR: 'it returns false'. Refute it at one input. -/
def fnNewListOffsetsResponseWrong : ChangeSpec := { name := "fnNewListOffsetsResponse", fn := fun _ => fun
  | [d] => { results := [.lit (.bool false)], args := [d] }
  | _ => none }
def FnNewListOffsetsResponseWrongFalsely : Prop := fnNewListOffsetsResponseRow.holds Try.pinned (OpenSpec.ofChange fnNewListOffsetsResponseWrong)

/-- 'laws.FnNewWriteTxnMarkersRequest': WHATEVER THE INPUT: true; the input reads as it did. -/
def fnNewWriteTxnMarkersRequestSpec : ChangeSpec := { name := "fnNewWriteTxnMarkersRequest", fn := fun _ => fun
  | [d] => { results := [.lit (.bool true)], args := [d] }
  | _ => none }
def fnNewWriteTxnMarkersRequestRow : OpenClaim := { program := "ytigbgnlmicmmlab", sum := "52816478419130cd0f221fe22a990448f3e2ca3b7b8b0c84a98c99b6f8e449f5", func := "pub-kmsg/laws.FnNewWriteTxnMarkersRequest", spec := "fnNewWriteTxnMarkersRequest", inPlace := ["internal/reflectlite.ValueOf", "internal/reflectlite.Swapper", "(internal/reflectlite.Value).Len"], unfollowed := true, recurses := true, apart := false }
def FnNewWriteTxnMarkersRequestSaid : Prop := fnNewWriteTxnMarkersRequestRow.holds Try.pinned (OpenSpec.ofChange fnNewWriteTxnMarkersRequestSpec)

/-- ITS FALSE NEIGHBOUR: 'it returns false'. Refute it at one input. -/
def fnNewWriteTxnMarkersRequestWrong : ChangeSpec := { name := "fnNewWriteTxnMarkersRequest", fn := fun _ => fun
  | [d] => { results := [.lit (.bool false)], args := [d] }
  | _ => none }
def FnNewWriteTxnMarkersRequestWrongFalsely : Prop := fnNewWriteTxnMarkersRequestRow.holds Try.pinned (OpenSpec.ofChange fnNewWriteTxnMarkersRequestWrong)

/-- 'laws.FnNewAlterShareGroupOffsetsResponse': WHATEVER THE INPUT: true; the input reads as it did. -/
def fnNewAlterShareGroupOffsetsResponseSpec : ChangeSpec := { name := "fnNewAlterShareGroupOffsetsResponse", fn := fun _ => fun
  | [d] => { results := [.lit (.bool true)], args := [d] }
  | _ => none }
def fnNewAlterShareGroupOffsetsResponseRow : OpenClaim := { program := "ytigbgnlmicmmlab", sum := "52816478419130cd0f221fe22a990448f3e2ca3b7b8b0c84a98c99b6f8e449f5", func := "pub-kmsg/laws.FnNewAlterShareGroupOffsetsResponse", spec := "fnNewAlterShareGroupOffsetsResponse", inPlace := ["internal/reflectlite.ValueOf", "internal/reflectlite.Swapper", "(internal/reflectlite.Value).Len"], unfollowed := true, recurses := true, apart := false }
def FnNewAlterShareGroupOffsetsResponseSaid : Prop := fnNewAlterShareGroupOffsetsResponseRow.holds Try.pinned (OpenSpec.ofChange fnNewAlterShareGroupOffsetsResponseSpec)

/-- ITS FALSE NEIGHBOUR: 'it returns false'. Refute it at one input. -/
def fnNewAlterShareGroupOffsetsResponseWrong : ChangeSpec := { name := "fnNewAlterShareGroupOffsetsResponse", fn := fun _ => fun
  | [d] => { results := [.lit (.bool false)], args := [d] }
  | _ => none }
def FnNewAlterShareGroupOffsetsResponseWrongFalsely : Prop := fnNewAlterShareGroupOffsetsResponseRow.holds Try.pinned (OpenSpec.ofChange fnNewAlterShareGroupOffsetsResponseWrong)

/-- 'laws.FnNewStopReplicaRequest': WHATEVER THE INPUT: true; the input reads as it did. -/
def fnNewStopReplicaRequestSpec : ChangeSpec := { name := "fnNewStopReplicaRequest", fn := fun _ => fun
  | [d] => { results := [.lit (.bool true)], args := [d] }
  | _ => none }
def fnNewStopReplicaRequestRow : OpenClaim := { program := "ytigbgnlmicmmlab", sum := "52816478419130cd0f221fe22a990448f3e2ca3b7b8b0c84a98c99b6f8e449f5", func := "pub-kmsg/laws.FnNewStopReplicaRequest", spec := "fnNewStopReplicaRequest", inPlace := ["internal/reflectlite.ValueOf", "internal/reflectlite.Swapper", "(internal/reflectlite.Value).Len"], unfollowed := true, recurses := true, apart := false }
def FnNewStopReplicaRequestSaid : Prop := fnNewStopReplicaRequestRow.holds Try.pinned (OpenSpec.ofChange fnNewStopReplicaRequestSpec)

/-- ITS FALSE NEIGHBOUR: 'it returns false'. Refute it at one input. -/
def fnNewStopReplicaRequestWrong : ChangeSpec := { name := "fnNewStopReplicaRequest", fn := fun _ => fun
  | [d] => { results := [.lit (.bool false)], args := [d] }
  | _ => none }
def FnNewStopReplicaRequestWrongFalsely : Prop := fnNewStopReplicaRequestRow.holds Try.pinned (OpenSpec.ofChange fnNewStopReplicaRequestWrong)

/-- 'laws.FnNewDescribeGroupsResponse': WHATEVER THE INPUT: true; the input reads as it did. -/
def fnNewDescribeGroupsResponseSpec : ChangeSpec := { name := "fnNewDescribeGroupsResponse", fn := fun _ => fun
  | [d] => { results := [.lit (.bool true)], args := [d] }
  | _ => none }
def fnNewDescribeGroupsResponseRow : OpenClaim := { program := "ytigbgnlmicmmlab", sum := "52816478419130cd0f221fe22a990448f3e2ca3b7b8b0c84a98c99b6f8e449f5", func := "pub-kmsg/laws.FnNewDescribeGroupsResponse", spec := "fnNewDescribeGroupsResponse", inPlace := ["internal/reflectlite.ValueOf", "internal/reflectlite.Swapper", "(internal/reflectlite.Value).Len"], unfollowed := true, recurses := true, apart := false }
def FnNewDescribeGroupsResponseSaid : Prop := fnNewDescribeGroupsResponseRow.holds Try.pinned (OpenSpec.ofChange fnNewDescribeGroupsResponseSpec)

/-- ITS FALSE NEIGHBOUR: 'it returns false'. Refute it at one input. -/
def fnNewDescribeGroupsResponseWrong : ChangeSpec := { name := "fnNewDescribeGroupsResponse", fn := fun _ => fun
  | [d] => { results := [.lit (.bool false)], args := [d] }
  | _ => none }
def FnNewDescribeGroupsResponseWrongFalsely : Prop := fnNewDescribeGroupsResponseRow.holds Try.pinned (OpenSpec.ofChange fnNewDescribeGroupsResponseWrong)

/- THE SECOND FORM. 'bulk': how many values and letters a reading holds, each counted each time it is reached (what is shared counts as often as it is met; a slice's spare places count too). A statement '..UptoSaid' is the law's where the arguments, and the package variables that the reading takes, are together of bulk at most 1048576: NARROWER than '..Said'. Prove '..Said' where nothing that the law and all that it calls make is longer than what came in: it says more and counts as full. Else prove '..UptoSaid'. A law counts once. -/
mutual
def uptoBulk {H : Type} : DataW H → Nat
  | .lit (.string bytes) => bytes.length + 1
  | .lit _ => 1
  | .nil => 1
  | .ptr d => uptoBulk d + 1
  | .slice elems spare => uptoBulkAll elems + uptoBulkAll spare + 1
  | .agg parts => uptoBulkAll parts + 1
  | .iface _ d => uptoBulk d + 1
  | .map entries => uptoBulkEntries entries + 1
  | .held _ => 1
def uptoBulkAll {H : Type} : List (DataW H) → Nat
  | [] => 0
  | d :: r => uptoBulk d + uptoBulkAll r
def uptoBulkEntries {H : Type} : List (Lit × DataW H) → Nat
  | [] => 0
  | x :: r => uptoBulkEntry x + uptoBulkEntries r
def uptoBulkEntry {H : Type} : Lit × DataW H → Nat
  | (.string bytes, d) => bytes.length + uptoBulk d + 1
  | (_, d) => uptoBulk d + 1
 end
def uptoSmall : (H : Type) → List (DataW H) → Bool := fun _ ds => decide (uptoBulkAll ds ≤ 1048576)
def OpenSpec.upto (s : _root_.Go.ChangeSpec) : _root_.Go.OpenSpec := { _root_.Go.OpenSpec.ofChange s with cond := some uptoSmall }

/-- 'laws.FnNewInitializeShareGroupStateRequest', WHERE WHAT IT READS IS OF BULK AT MOST 1048576: true; the input reads as it did. -/
def fnNewInitializeShareGroupStateRequestUptoRow : OpenClaim := { program := "ytigbgnlmicmmlab", sum := "52816478419130cd0f221fe22a990448f3e2ca3b7b8b0c84a98c99b6f8e449f5", func := "pub-kmsg/laws.FnNewInitializeShareGroupStateRequest", spec := "fnNewInitializeShareGroupStateRequest", inPlace := ["internal/reflectlite.ValueOf", "internal/reflectlite.Swapper", "(internal/reflectlite.Value).Len"], unfollowed := true, recurses := true, apart := false, narrowed := true }
def FnNewInitializeShareGroupStateRequestUptoSaid : Prop := fnNewInitializeShareGroupStateRequestUptoRow.holds Try.pinned (OpenSpec.upto fnNewInitializeShareGroupStateRequestSpec)

/-- 'laws.FnNewListOffsetsResponse', WHERE WHAT IT READS IS OF BULK AT MOST 1048576: true; the input reads as it did. -/
def fnNewListOffsetsResponseUptoRow : OpenClaim := { program := "ytigbgnlmicmmlab", sum := "52816478419130cd0f221fe22a990448f3e2ca3b7b8b0c84a98c99b6f8e449f5", func := "pub-kmsg/laws.FnNewListOffsetsResponse", spec := "fnNewListOffsetsResponse", inPlace := ["internal/reflectlite.ValueOf", "internal/reflectlite.Swapper", "(internal/reflectlite.Value).Len"], unfollowed := true, recurses := true, apart := false, narrowed := true }
def FnNewListOffsetsResponseUptoSaid : Prop := fnNewListOffsetsResponseUptoRow.holds Try.pinned (OpenSpec.upto fnNewListOffsetsResponseSpec)

/-- 'laws.FnNewWriteTxnMarkersRequest', WHERE WHAT IT READS IS OF BULK AT MOST 1048576: true; the input reads as it did. -/
def fnNewWriteTxnMarkersRequestUptoRow : OpenClaim := { program := "ytigbgnlmicmmlab", sum := "52816478419130cd0f221fe22a990448f3e2ca3b7b8b0c84a98c99b6f8e449f5", func := "pub-kmsg/laws.FnNewWriteTxnMarkersRequest", spec := "fnNewWriteTxnMarkersRequest", inPlace := ["internal/reflectlite.ValueOf", "internal/reflectlite.Swapper", "(internal/reflectlite.Value).Len"], unfollowed := true, recurses := true, apart := false, narrowed := true }
def FnNewWriteTxnMarkersRequestUptoSaid : Prop := fnNewWriteTxnMarkersRequestUptoRow.holds Try.pinned (OpenSpec.upto fnNewWriteTxnMarkersRequestSpec)

/-- 'laws.FnNewAlterShareGroupOffsetsResponse', WHERE WHAT IT READS IS OF BULK AT MOST 1048576: true; the input reads as it did. -/
def fnNewAlterShareGroupOffsetsResponseUptoRow : OpenClaim := { program := "ytigbgnlmicmmlab", sum := "52816478419130cd0f221fe22a990448f3e2ca3b7b8b0c84a98c99b6f8e449f5", func := "pub-kmsg/laws.FnNewAlterShareGroupOffsetsResponse", spec := "fnNewAlterShareGroupOffsetsResponse", inPlace := ["internal/reflectlite.ValueOf", "internal/reflectlite.Swapper", "(internal/reflectlite.Value).Len"], unfollowed := true, recurses := true, apart := false, narrowed := true }
def FnNewAlterShareGroupOffsetsResponseUptoSaid : Prop := fnNewAlterShareGroupOffsetsResponseUptoRow.holds Try.pinned (OpenSpec.upto fnNewAlterShareGroupOffsetsResponseSpec)

/-- 'laws.FnNewStopReplicaRequest', WHERE WHAT IT READS IS OF BULK AT MOST 1048576: true; the input reads as it did. -/
def fnNewStopReplicaRequestUptoRow : OpenClaim := { program := "ytigbgnlmicmmlab", sum := "52816478419130cd0f221fe22a990448f3e2ca3b7b8b0c84a98c99b6f8e449f5", func := "pub-kmsg/laws.FnNewStopReplicaRequest", spec := "fnNewStopReplicaRequest", inPlace := ["internal/reflectlite.ValueOf", "internal/reflectlite.Swapper", "(internal/reflectlite.Value).Len"], unfollowed := true, recurses := true, apart := false, narrowed := true }
def FnNewStopReplicaRequestUptoSaid : Prop := fnNewStopReplicaRequestUptoRow.holds Try.pinned (OpenSpec.upto fnNewStopReplicaRequestSpec)

/-- 'laws.FnNewDescribeGroupsResponse', WHERE WHAT IT READS IS OF BULK AT MOST 1048576: true; the input reads as it did. -/
def fnNewDescribeGroupsResponseUptoRow : OpenClaim := { program := "ytigbgnlmicmmlab", sum := "52816478419130cd0f221fe22a990448f3e2ca3b7b8b0c84a98c99b6f8e449f5", func := "pub-kmsg/laws.FnNewDescribeGroupsResponse", spec := "fnNewDescribeGroupsResponse", inPlace := ["internal/reflectlite.ValueOf", "internal/reflectlite.Swapper", "(internal/reflectlite.Value).Len"], unfollowed := true, recurses := true, apart := false, narrowed := true }
def FnNewDescribeGroupsResponseUptoSaid : Prop := fnNewDescribeGroupsResponseUptoRow.holds Try.pinned (OpenSpec.upto fnNewDescribeGroupsResponseSpec)

end Rows
end Go.Proofs.Ytigbgnlmicmmlab
