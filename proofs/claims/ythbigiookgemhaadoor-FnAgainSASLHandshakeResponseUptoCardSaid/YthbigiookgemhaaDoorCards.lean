/-
  DERIVED. GIVEN WITH THE SEED: THE CARDS: each row of YthbigiookgemhaaDoorRows.lean that lists a variable, with what it lists TIED to the program's text (the seventh form; the later family's looks); each row that meets fmt, with fmt's text TOLD by the authors' own Lean function (tested against real Go, not proved from fmt's source: count such statements apart). THE CARD IS WHAT COUNTS. Prove the row's statement (the work); the ties are given (YthbigiookgemhaaDoorTie.lean); close each card by the builder's one call (the guide's Derived/Test/ToyasCard.lean, 'card_holds'). Laid BY PROGRAM, IN A SANDBOX (cutbox-door.mjs). By AI agents, Wed Nov 11 2026. No macro, syntax, notation, axiom, sorry.
-/
import Derived.Test.YthbigiookgemhaaDoorRows
import GoSem.ClaimSeven
namespace Go.Proofs.YthbigiookgemhaaDoor
namespace Rows

/-- THE TIED CARD OF 'laws.FnAnyUnregisterBrokerRequest'. -/
def fnAnyUnregisterBrokerRequestCard : Claim7 := { stood := { row := fnAnyUnregisterBrokerRequestRow, standIns := [], harness := (true, "e5e044438621dbe66b084b1408afd92b75b8732d9041751a5843356deffccae0"), looks := false }, kinds := [], alts := [], laidByText := true, laidKinds := [.sentinel], laidTests := true, laidLooks := .later }
def FnAnyUnregisterBrokerRequestCardSaid : Prop := Claim7.holds Tryd.pinned (.plain (OpenSpec.ofChange fnAnyUnregisterBrokerRequestSpec)) fnAnyUnregisterBrokerRequestCard

/-- THE TIED CARD OF 'laws.FnAnyInitProducerIDResponse'. -/
def fnAnyInitProducerIDResponseCard : Claim7 := { stood := { row := fnAnyInitProducerIDResponseRow, standIns := [], harness := (true, "e5e044438621dbe66b084b1408afd92b75b8732d9041751a5843356deffccae0"), looks := false }, kinds := [], alts := [], laidByText := true, laidKinds := [.sentinel], laidTests := true, laidLooks := .later }
def FnAnyInitProducerIDResponseCardSaid : Prop := Claim7.holds Tryd.pinned (.plain (OpenSpec.ofChange fnAnyInitProducerIDResponseSpec)) fnAnyInitProducerIDResponseCard

/-- THE TIED CARD OF 'laws.FnAnyRenewDelegationTokenRequest'. -/
def fnAnyRenewDelegationTokenRequestCard : Claim7 := { stood := { row := fnAnyRenewDelegationTokenRequestRow, standIns := [], harness := (true, "e5e044438621dbe66b084b1408afd92b75b8732d9041751a5843356deffccae0"), looks := false }, kinds := [], alts := [], laidByText := true, laidKinds := [.sentinel], laidTests := true, laidLooks := .later }
def FnAnyRenewDelegationTokenRequestCardSaid : Prop := Claim7.holds Tryd.pinned (.plain (OpenSpec.ofChange fnAnyRenewDelegationTokenRequestSpec)) fnAnyRenewDelegationTokenRequestCard

/-- THE TIED CARD OF 'laws.FnAnyAddRaftVoterResponse'. -/
def fnAnyAddRaftVoterResponseCard : Claim7 := { stood := { row := fnAnyAddRaftVoterResponseRow, standIns := [], harness := (true, "e5e044438621dbe66b084b1408afd92b75b8732d9041751a5843356deffccae0"), looks := false }, kinds := [], alts := [], laidByText := true, laidKinds := [.sentinel], laidTests := true, laidLooks := .later }
def FnAnyAddRaftVoterResponseCardSaid : Prop := Claim7.holds Tryd.pinned (.plain (OpenSpec.ofChange fnAnyAddRaftVoterResponseSpec)) fnAnyAddRaftVoterResponseCard

/-- THE TIED CARD OF 'laws.FnAnyDescribeGroupsRequest'. -/
def fnAnyDescribeGroupsRequestCard : Claim7 := { stood := { row := fnAnyDescribeGroupsRequestRow, standIns := [], harness := (true, "e5e044438621dbe66b084b1408afd92b75b8732d9041751a5843356deffccae0"), looks := false }, kinds := [], alts := [], laidByText := true, laidKinds := [.sentinel], laidTests := true, laidLooks := .later }
def FnAnyDescribeGroupsRequestCardSaid : Prop := Claim7.holds Tryd.pinned (.plain (OpenSpec.ofChange fnAnyDescribeGroupsRequestSpec)) fnAnyDescribeGroupsRequestCard

/-- THE TIED CARD OF 'laws.FnAgainSASLHandshakeResponse'. -/
def fnAgainSASLHandshakeResponseCard : Claim7 := { stood := { row := fnAgainSASLHandshakeResponseRow, standIns := [], harness := (true, "e5e044438621dbe66b084b1408afd92b75b8732d9041751a5843356deffccae0"), looks := false }, kinds := [], alts := [], laidByText := true, laidKinds := [.sentinel], laidTests := true, laidLooks := .later }
def FnAgainSASLHandshakeResponseCardSaid : Prop := Claim7.holds Tryd.pinned (.plain (OpenSpec.ofChange fnAgainSASLHandshakeResponseSpec)) fnAgainSASLHandshakeResponseCard

/-- THE TIED CARD OF 'laws.FnAgainControlledShutdownRequest'. -/
def fnAgainControlledShutdownRequestCard : Claim7 := { stood := { row := fnAgainControlledShutdownRequestRow, standIns := [], harness := (true, "e5e044438621dbe66b084b1408afd92b75b8732d9041751a5843356deffccae0"), looks := false }, kinds := [], alts := [], laidByText := true, laidKinds := [.sentinel], laidTests := true, laidLooks := .later }
def FnAgainControlledShutdownRequestCardSaid : Prop := Claim7.holds Tryd.pinned (.plain (OpenSpec.ofChange fnAgainControlledShutdownRequestSpec)) fnAgainControlledShutdownRequestCard

/-- THE TIED CARD OF 'laws.FnCutHeartbeatResponse'. -/
def fnCutHeartbeatResponseCard : Claim7 := { stood := { row := fnCutHeartbeatResponseRow, standIns := [], harness := (true, "e5e044438621dbe66b084b1408afd92b75b8732d9041751a5843356deffccae0"), looks := false }, kinds := [], alts := [], laidByText := true, laidKinds := [.sentinel], laidTests := true, laidLooks := .later }
def FnCutHeartbeatResponseCardSaid : Prop := Claim7.holds Tryd.pinned (.plain (OpenSpec.ofChange fnCutHeartbeatResponseSpec)) fnCutHeartbeatResponseCard

/-- THE TIED CARD OF 'laws.FnCutAddOffsetsToTxnResponse'. -/
def fnCutAddOffsetsToTxnResponseCard : Claim7 := { stood := { row := fnCutAddOffsetsToTxnResponseRow, standIns := [], harness := (true, "e5e044438621dbe66b084b1408afd92b75b8732d9041751a5843356deffccae0"), looks := false }, kinds := [], alts := [], laidByText := true, laidKinds := [.sentinel], laidTests := true, laidLooks := .later }
def FnCutAddOffsetsToTxnResponseCardSaid : Prop := Claim7.holds Tryd.pinned (.plain (OpenSpec.ofChange fnCutAddOffsetsToTxnResponseSpec)) fnCutAddOffsetsToTxnResponseCard

/-- THE SECOND FORM's CARD OF 'laws.FnAnyUnregisterBrokerRequest'. -/
def fnAnyUnregisterBrokerRequestUptoCard : Claim7 := { stood := { row := fnAnyUnregisterBrokerRequestUptoRow, standIns := [], harness := (true, "e5e044438621dbe66b084b1408afd92b75b8732d9041751a5843356deffccae0"), looks := false }, kinds := [], alts := [], laidByText := true, laidKinds := [.sentinel], laidTests := true, laidLooks := .later }
def FnAnyUnregisterBrokerRequestUptoCardSaid : Prop := Claim7.holds Tryd.pinned (.plain (OpenSpec.upto fnAnyUnregisterBrokerRequestSpec)) fnAnyUnregisterBrokerRequestUptoCard

/-- THE SECOND FORM's CARD OF 'laws.FnAnyInitProducerIDResponse'. -/
def fnAnyInitProducerIDResponseUptoCard : Claim7 := { stood := { row := fnAnyInitProducerIDResponseUptoRow, standIns := [], harness := (true, "e5e044438621dbe66b084b1408afd92b75b8732d9041751a5843356deffccae0"), looks := false }, kinds := [], alts := [], laidByText := true, laidKinds := [.sentinel], laidTests := true, laidLooks := .later }
def FnAnyInitProducerIDResponseUptoCardSaid : Prop := Claim7.holds Tryd.pinned (.plain (OpenSpec.upto fnAnyInitProducerIDResponseSpec)) fnAnyInitProducerIDResponseUptoCard

/-- THE SECOND FORM's CARD OF 'laws.FnAnyRenewDelegationTokenRequest'. -/
def fnAnyRenewDelegationTokenRequestUptoCard : Claim7 := { stood := { row := fnAnyRenewDelegationTokenRequestUptoRow, standIns := [], harness := (true, "e5e044438621dbe66b084b1408afd92b75b8732d9041751a5843356deffccae0"), looks := false }, kinds := [], alts := [], laidByText := true, laidKinds := [.sentinel], laidTests := true, laidLooks := .later }
def FnAnyRenewDelegationTokenRequestUptoCardSaid : Prop := Claim7.holds Tryd.pinned (.plain (OpenSpec.upto fnAnyRenewDelegationTokenRequestSpec)) fnAnyRenewDelegationTokenRequestUptoCard

/-- THE SECOND FORM's CARD OF 'laws.FnAnyAddRaftVoterResponse'. -/
def fnAnyAddRaftVoterResponseUptoCard : Claim7 := { stood := { row := fnAnyAddRaftVoterResponseUptoRow, standIns := [], harness := (true, "e5e044438621dbe66b084b1408afd92b75b8732d9041751a5843356deffccae0"), looks := false }, kinds := [], alts := [], laidByText := true, laidKinds := [.sentinel], laidTests := true, laidLooks := .later }
def FnAnyAddRaftVoterResponseUptoCardSaid : Prop := Claim7.holds Tryd.pinned (.plain (OpenSpec.upto fnAnyAddRaftVoterResponseSpec)) fnAnyAddRaftVoterResponseUptoCard

/-- THE SECOND FORM's CARD OF 'laws.FnAnyDescribeGroupsRequest'. -/
def fnAnyDescribeGroupsRequestUptoCard : Claim7 := { stood := { row := fnAnyDescribeGroupsRequestUptoRow, standIns := [], harness := (true, "e5e044438621dbe66b084b1408afd92b75b8732d9041751a5843356deffccae0"), looks := false }, kinds := [], alts := [], laidByText := true, laidKinds := [.sentinel], laidTests := true, laidLooks := .later }
def FnAnyDescribeGroupsRequestUptoCardSaid : Prop := Claim7.holds Tryd.pinned (.plain (OpenSpec.upto fnAnyDescribeGroupsRequestSpec)) fnAnyDescribeGroupsRequestUptoCard

/-- THE SECOND FORM's CARD OF 'laws.FnAgainSASLHandshakeResponse'. -/
def fnAgainSASLHandshakeResponseUptoCard : Claim7 := { stood := { row := fnAgainSASLHandshakeResponseUptoRow, standIns := [], harness := (true, "e5e044438621dbe66b084b1408afd92b75b8732d9041751a5843356deffccae0"), looks := false }, kinds := [], alts := [], laidByText := true, laidKinds := [.sentinel], laidTests := true, laidLooks := .later }
def FnAgainSASLHandshakeResponseUptoCardSaid : Prop := Claim7.holds Tryd.pinned (.plain (OpenSpec.upto fnAgainSASLHandshakeResponseSpec)) fnAgainSASLHandshakeResponseUptoCard

/-- THE SECOND FORM's CARD OF 'laws.FnAgainControlledShutdownRequest'. -/
def fnAgainControlledShutdownRequestUptoCard : Claim7 := { stood := { row := fnAgainControlledShutdownRequestUptoRow, standIns := [], harness := (true, "e5e044438621dbe66b084b1408afd92b75b8732d9041751a5843356deffccae0"), looks := false }, kinds := [], alts := [], laidByText := true, laidKinds := [.sentinel], laidTests := true, laidLooks := .later }
def FnAgainControlledShutdownRequestUptoCardSaid : Prop := Claim7.holds Tryd.pinned (.plain (OpenSpec.upto fnAgainControlledShutdownRequestSpec)) fnAgainControlledShutdownRequestUptoCard

/-- THE SECOND FORM's CARD OF 'laws.FnCutHeartbeatResponse'. -/
def fnCutHeartbeatResponseUptoCard : Claim7 := { stood := { row := fnCutHeartbeatResponseUptoRow, standIns := [], harness := (true, "e5e044438621dbe66b084b1408afd92b75b8732d9041751a5843356deffccae0"), looks := false }, kinds := [], alts := [], laidByText := true, laidKinds := [.sentinel], laidTests := true, laidLooks := .later }
def FnCutHeartbeatResponseUptoCardSaid : Prop := Claim7.holds Tryd.pinned (.plain (OpenSpec.upto fnCutHeartbeatResponseSpec)) fnCutHeartbeatResponseUptoCard

/-- THE SECOND FORM's CARD OF 'laws.FnCutAddOffsetsToTxnResponse'. -/
def fnCutAddOffsetsToTxnResponseUptoCard : Claim7 := { stood := { row := fnCutAddOffsetsToTxnResponseUptoRow, standIns := [], harness := (true, "e5e044438621dbe66b084b1408afd92b75b8732d9041751a5843356deffccae0"), looks := false }, kinds := [], alts := [], laidByText := true, laidKinds := [.sentinel], laidTests := true, laidLooks := .later }
def FnCutAddOffsetsToTxnResponseUptoCardSaid : Prop := Claim7.holds Tryd.pinned (.plain (OpenSpec.upto fnCutAddOffsetsToTxnResponseSpec)) fnCutAddOffsetsToTxnResponseUptoCard
end Rows
end Go.Proofs.YthbigiookgemhaaDoor
