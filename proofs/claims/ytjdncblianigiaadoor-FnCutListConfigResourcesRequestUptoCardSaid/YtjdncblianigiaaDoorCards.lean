/-
  DERIVED. GIVEN WITH THE SEED: THE CARDS: each row of YtjdncblianigiaaDoorRows.lean that lists a variable, with what it lists TIED to the program's text (the seventh form; the later family's looks); each row that meets fmt, with fmt's text TOLD by the authors' own Lean function (tested against real Go, not proved from fmt's source: count such statements apart). THE CARD IS WHAT COUNTS. Prove the row's statement (the work); the ties are given (YtjdncblianigiaaDoorTie.lean); close each card by the builder's one call (the guide's Derived/Test/ToyasCard.lean, 'card_holds'). Laid BY PROGRAM, IN A SANDBOX (cutbox-door.mjs). By AI agents, Wed Nov 11 2026. No macro, syntax, notation, axiom, sorry.
-/
import Derived.Test.YtjdncblianigiaaDoorRows
import GoSem.ClaimSeven
namespace Go.Proofs.YtjdncblianigiaaDoor
namespace Rows

/-- THE TIED CARD OF 'laws.FnAnyDeleteShareGroupStateResponse'. -/
def fnAnyDeleteShareGroupStateResponseCard : Claim7 := { stood := { row := fnAnyDeleteShareGroupStateResponseRow, standIns := [], harness := (true, "cf22fd3da99fb43956c5cbb22f72959a516922b58f088c56bd2d8f33b868e35b"), looks := false }, kinds := [], alts := [], laidByText := true, laidKinds := [.sentinel], laidTests := true, laidLooks := .later }
def FnAnyDeleteShareGroupStateResponseCardSaid : Prop := Claim7.holds Tryd.pinned (.plain (OpenSpec.ofChange fnAnyDeleteShareGroupStateResponseSpec)) fnAnyDeleteShareGroupStateResponseCard

/-- THE TIED CARD OF 'laws.FnAnyWriteShareGroupStateResponse'. -/
def fnAnyWriteShareGroupStateResponseCard : Claim7 := { stood := { row := fnAnyWriteShareGroupStateResponseRow, standIns := [], harness := (true, "cf22fd3da99fb43956c5cbb22f72959a516922b58f088c56bd2d8f33b868e35b"), looks := false }, kinds := [], alts := [], laidByText := true, laidKinds := [.sentinel], laidTests := true, laidLooks := .later }
def FnAnyWriteShareGroupStateResponseCardSaid : Prop := Claim7.holds Tryd.pinned (.plain (OpenSpec.ofChange fnAnyWriteShareGroupStateResponseSpec)) fnAnyWriteShareGroupStateResponseCard

/-- THE TIED CARD OF 'laws.FnAnyAlterShareGroupOffsetsRequest'. -/
def fnAnyAlterShareGroupOffsetsRequestCard : Claim7 := { stood := { row := fnAnyAlterShareGroupOffsetsRequestRow, standIns := [], harness := (true, "cf22fd3da99fb43956c5cbb22f72959a516922b58f088c56bd2d8f33b868e35b"), looks := false }, kinds := [], alts := [], laidByText := true, laidKinds := [.sentinel], laidTests := true, laidLooks := .later }
def FnAnyAlterShareGroupOffsetsRequestCardSaid : Prop := Claim7.holds Tryd.pinned (.plain (OpenSpec.ofChange fnAnyAlterShareGroupOffsetsRequestSpec)) fnAnyAlterShareGroupOffsetsRequestCard

/-- THE TIED CARD OF 'laws.FnAnyListOffsetsRequest'. -/
def fnAnyListOffsetsRequestCard : Claim7 := { stood := { row := fnAnyListOffsetsRequestRow, standIns := [], harness := (true, "cf22fd3da99fb43956c5cbb22f72959a516922b58f088c56bd2d8f33b868e35b"), looks := false }, kinds := [], alts := [], laidByText := true, laidKinds := [.sentinel], laidTests := true, laidLooks := .later }
def FnAnyListOffsetsRequestCardSaid : Prop := Claim7.holds Tryd.pinned (.plain (OpenSpec.ofChange fnAnyListOffsetsRequestSpec)) fnAnyListOffsetsRequestCard

/-- THE TIED CARD OF 'laws.FnAnyDescribeTransactionsResponse'. -/
def fnAnyDescribeTransactionsResponseCard : Claim7 := { stood := { row := fnAnyDescribeTransactionsResponseRow, standIns := [], harness := (true, "cf22fd3da99fb43956c5cbb22f72959a516922b58f088c56bd2d8f33b868e35b"), looks := false }, kinds := [], alts := [], laidByText := true, laidKinds := [.sentinel], laidTests := true, laidLooks := .later }
def FnAnyDescribeTransactionsResponseCardSaid : Prop := Claim7.holds Tryd.pinned (.plain (OpenSpec.ofChange fnAnyDescribeTransactionsResponseSpec)) fnAnyDescribeTransactionsResponseCard

/-- THE TIED CARD OF 'laws.FnAnyBrokerRegistrationResponse'. -/
def fnAnyBrokerRegistrationResponseCard : Claim7 := { stood := { row := fnAnyBrokerRegistrationResponseRow, standIns := [], harness := (true, "cf22fd3da99fb43956c5cbb22f72959a516922b58f088c56bd2d8f33b868e35b"), looks := false }, kinds := [], alts := [], laidByText := true, laidKinds := [.sentinel], laidTests := true, laidLooks := .later }
def FnAnyBrokerRegistrationResponseCardSaid : Prop := Claim7.holds Tryd.pinned (.plain (OpenSpec.ofChange fnAnyBrokerRegistrationResponseSpec)) fnAnyBrokerRegistrationResponseCard

/-- THE TIED CARD OF 'laws.FnAgainPushTelemetryRequest'. -/
def fnAgainPushTelemetryRequestCard : Claim7 := { stood := { row := fnAgainPushTelemetryRequestRow, standIns := [], harness := (true, "cf22fd3da99fb43956c5cbb22f72959a516922b58f088c56bd2d8f33b868e35b"), looks := false }, kinds := [], alts := [], laidByText := true, laidKinds := [.sentinel], laidTests := true, laidLooks := .later }
def FnAgainPushTelemetryRequestCardSaid : Prop := Claim7.holds Tryd.pinned (.plain (OpenSpec.ofChange fnAgainPushTelemetryRequestSpec)) fnAgainPushTelemetryRequestCard

/-- THE TIED CARD OF 'laws.FnCutListConfigResourcesRequest'. -/
def fnCutListConfigResourcesRequestCard : Claim7 := { stood := { row := fnCutListConfigResourcesRequestRow, standIns := [], harness := (true, "cf22fd3da99fb43956c5cbb22f72959a516922b58f088c56bd2d8f33b868e35b"), looks := false }, kinds := [], alts := [], laidByText := true, laidKinds := [.sentinel], laidTests := true, laidLooks := .later }
def FnCutListConfigResourcesRequestCardSaid : Prop := Claim7.holds Tryd.pinned (.plain (OpenSpec.ofChange fnCutListConfigResourcesRequestSpec)) fnCutListConfigResourcesRequestCard

/-- THE SECOND FORM's CARD OF 'laws.FnAnyDeleteShareGroupStateResponse'. -/
def fnAnyDeleteShareGroupStateResponseUptoCard : Claim7 := { stood := { row := fnAnyDeleteShareGroupStateResponseUptoRow, standIns := [], harness := (true, "cf22fd3da99fb43956c5cbb22f72959a516922b58f088c56bd2d8f33b868e35b"), looks := false }, kinds := [], alts := [], laidByText := true, laidKinds := [.sentinel], laidTests := true, laidLooks := .later }
def FnAnyDeleteShareGroupStateResponseUptoCardSaid : Prop := Claim7.holds Tryd.pinned (.plain (OpenSpec.upto fnAnyDeleteShareGroupStateResponseSpec)) fnAnyDeleteShareGroupStateResponseUptoCard

/-- THE SECOND FORM's CARD OF 'laws.FnAnyWriteShareGroupStateResponse'. -/
def fnAnyWriteShareGroupStateResponseUptoCard : Claim7 := { stood := { row := fnAnyWriteShareGroupStateResponseUptoRow, standIns := [], harness := (true, "cf22fd3da99fb43956c5cbb22f72959a516922b58f088c56bd2d8f33b868e35b"), looks := false }, kinds := [], alts := [], laidByText := true, laidKinds := [.sentinel], laidTests := true, laidLooks := .later }
def FnAnyWriteShareGroupStateResponseUptoCardSaid : Prop := Claim7.holds Tryd.pinned (.plain (OpenSpec.upto fnAnyWriteShareGroupStateResponseSpec)) fnAnyWriteShareGroupStateResponseUptoCard

/-- THE SECOND FORM's CARD OF 'laws.FnAnyAlterShareGroupOffsetsRequest'. -/
def fnAnyAlterShareGroupOffsetsRequestUptoCard : Claim7 := { stood := { row := fnAnyAlterShareGroupOffsetsRequestUptoRow, standIns := [], harness := (true, "cf22fd3da99fb43956c5cbb22f72959a516922b58f088c56bd2d8f33b868e35b"), looks := false }, kinds := [], alts := [], laidByText := true, laidKinds := [.sentinel], laidTests := true, laidLooks := .later }
def FnAnyAlterShareGroupOffsetsRequestUptoCardSaid : Prop := Claim7.holds Tryd.pinned (.plain (OpenSpec.upto fnAnyAlterShareGroupOffsetsRequestSpec)) fnAnyAlterShareGroupOffsetsRequestUptoCard

/-- THE SECOND FORM's CARD OF 'laws.FnAnyListOffsetsRequest'. -/
def fnAnyListOffsetsRequestUptoCard : Claim7 := { stood := { row := fnAnyListOffsetsRequestUptoRow, standIns := [], harness := (true, "cf22fd3da99fb43956c5cbb22f72959a516922b58f088c56bd2d8f33b868e35b"), looks := false }, kinds := [], alts := [], laidByText := true, laidKinds := [.sentinel], laidTests := true, laidLooks := .later }
def FnAnyListOffsetsRequestUptoCardSaid : Prop := Claim7.holds Tryd.pinned (.plain (OpenSpec.upto fnAnyListOffsetsRequestSpec)) fnAnyListOffsetsRequestUptoCard

/-- THE SECOND FORM's CARD OF 'laws.FnAnyDescribeTransactionsResponse'. -/
def fnAnyDescribeTransactionsResponseUptoCard : Claim7 := { stood := { row := fnAnyDescribeTransactionsResponseUptoRow, standIns := [], harness := (true, "cf22fd3da99fb43956c5cbb22f72959a516922b58f088c56bd2d8f33b868e35b"), looks := false }, kinds := [], alts := [], laidByText := true, laidKinds := [.sentinel], laidTests := true, laidLooks := .later }
def FnAnyDescribeTransactionsResponseUptoCardSaid : Prop := Claim7.holds Tryd.pinned (.plain (OpenSpec.upto fnAnyDescribeTransactionsResponseSpec)) fnAnyDescribeTransactionsResponseUptoCard

/-- THE SECOND FORM's CARD OF 'laws.FnAnyBrokerRegistrationResponse'. -/
def fnAnyBrokerRegistrationResponseUptoCard : Claim7 := { stood := { row := fnAnyBrokerRegistrationResponseUptoRow, standIns := [], harness := (true, "cf22fd3da99fb43956c5cbb22f72959a516922b58f088c56bd2d8f33b868e35b"), looks := false }, kinds := [], alts := [], laidByText := true, laidKinds := [.sentinel], laidTests := true, laidLooks := .later }
def FnAnyBrokerRegistrationResponseUptoCardSaid : Prop := Claim7.holds Tryd.pinned (.plain (OpenSpec.upto fnAnyBrokerRegistrationResponseSpec)) fnAnyBrokerRegistrationResponseUptoCard

/-- THE SECOND FORM's CARD OF 'laws.FnAgainPushTelemetryRequest'. -/
def fnAgainPushTelemetryRequestUptoCard : Claim7 := { stood := { row := fnAgainPushTelemetryRequestUptoRow, standIns := [], harness := (true, "cf22fd3da99fb43956c5cbb22f72959a516922b58f088c56bd2d8f33b868e35b"), looks := false }, kinds := [], alts := [], laidByText := true, laidKinds := [.sentinel], laidTests := true, laidLooks := .later }
def FnAgainPushTelemetryRequestUptoCardSaid : Prop := Claim7.holds Tryd.pinned (.plain (OpenSpec.upto fnAgainPushTelemetryRequestSpec)) fnAgainPushTelemetryRequestUptoCard

/-- THE SECOND FORM's CARD OF 'laws.FnCutListConfigResourcesRequest'. -/
def fnCutListConfigResourcesRequestUptoCard : Claim7 := { stood := { row := fnCutListConfigResourcesRequestUptoRow, standIns := [], harness := (true, "cf22fd3da99fb43956c5cbb22f72959a516922b58f088c56bd2d8f33b868e35b"), looks := false }, kinds := [], alts := [], laidByText := true, laidKinds := [.sentinel], laidTests := true, laidLooks := .later }
def FnCutListConfigResourcesRequestUptoCardSaid : Prop := Claim7.holds Tryd.pinned (.plain (OpenSpec.upto fnCutListConfigResourcesRequestSpec)) fnCutListConfigResourcesRequestUptoCard
end Rows
end Go.Proofs.YtjdncblianigiaaDoor
