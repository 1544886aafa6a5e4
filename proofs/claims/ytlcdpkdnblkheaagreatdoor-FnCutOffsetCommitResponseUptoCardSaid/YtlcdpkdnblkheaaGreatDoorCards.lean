/-
  DERIVED. GIVEN WITH THE SEED: THE CARDS: each row of YtlcdpkdnblkheaaGreatDoorRows.lean that lists a variable, with what it lists TIED to the program's text (the seventh form; the later family's looks); each row that meets fmt, with fmt's text TOLD by the authors' own Lean function (tested against real Go, not proved from fmt's source: count such statements apart). THE CARD IS WHAT COUNTS. Prove the row's statement (the work); the ties are given (YtlcdpkdnblkheaaGreatDoorTie.lean); close each card by the builder's one call (the guide's Derived/Test/ToyasCard.lean, 'card_holds'). Laid BY PROGRAM, IN A SANDBOX (cutbox-door.mjs). By AI agents, Wed Nov 11 2026. No macro, syntax, notation, axiom, sorry.
-/
import Derived.Test.YtlcdpkdnblkheaaGreatDoorRows
import GoSem.ClaimSeven
namespace Go.Proofs.YtlcdpkdnblkheaaGreatDoor
namespace Rows

/-- THE TIED CARD OF 'laws.FnAgainFindCoordinatorResponse'. -/
def fnAgainFindCoordinatorResponseCard : Claim7 := { stood := { row := fnAgainFindCoordinatorResponseRow, standIns := [], harness := (true, "7df7752b60c52d0e5d68a59218632fdf98812ab38639590b585d9567e13e9350"), looks := false }, kinds := [], alts := [], laidByText := true, laidKinds := [.sentinel], laidTests := true, laidLooks := .later }
def FnAgainFindCoordinatorResponseCardSaid : Prop := Claim7.holds Tryz.pinned (.plain (OpenSpec.ofChange fnAgainFindCoordinatorResponseSpec)) fnAgainFindCoordinatorResponseCard

/-- THE TIED CARD OF 'laws.FnAgainListTransactionsResponse'. -/
def fnAgainListTransactionsResponseCard : Claim7 := { stood := { row := fnAgainListTransactionsResponseRow, standIns := [], harness := (true, "7df7752b60c52d0e5d68a59218632fdf98812ab38639590b585d9567e13e9350"), looks := false }, kinds := [], alts := [], laidByText := true, laidKinds := [.sentinel], laidTests := true, laidLooks := .later }
def FnAgainListTransactionsResponseCardSaid : Prop := Claim7.holds Tryz.pinned (.plain (OpenSpec.ofChange fnAgainListTransactionsResponseSpec)) fnAgainListTransactionsResponseCard

/-- THE TIED CARD OF 'laws.FnCutOffsetCommitResponse'. -/
def fnCutOffsetCommitResponseCard : Claim7 := { stood := { row := fnCutOffsetCommitResponseRow, standIns := [], harness := (true, "7df7752b60c52d0e5d68a59218632fdf98812ab38639590b585d9567e13e9350"), looks := false }, kinds := [], alts := [], laidByText := true, laidKinds := [.sentinel], laidTests := true, laidLooks := .later }
def FnCutOffsetCommitResponseCardSaid : Prop := Claim7.holds Tryz.pinned (.plain (OpenSpec.ofChange fnCutOffsetCommitResponseSpec)) fnCutOffsetCommitResponseCard

/-- THE TIED CARD OF 'laws.FnCutReadShareGroupStateSummaryRequest'. -/
def fnCutReadShareGroupStateSummaryRequestCard : Claim7 := { stood := { row := fnCutReadShareGroupStateSummaryRequestRow, standIns := [], harness := (true, "7df7752b60c52d0e5d68a59218632fdf98812ab38639590b585d9567e13e9350"), looks := false }, kinds := [], alts := [], laidByText := true, laidKinds := [.sentinel], laidTests := true, laidLooks := .later }
def FnCutReadShareGroupStateSummaryRequestCardSaid : Prop := Claim7.holds Tryz.pinned (.plain (OpenSpec.ofChange fnCutReadShareGroupStateSummaryRequestSpec)) fnCutReadShareGroupStateSummaryRequestCard

/-- THE TIED CARD OF 'laws.FnAgainAlterConfigsRequest'. -/
def fnAgainAlterConfigsRequestCard : Claim7 := { stood := { row := fnAgainAlterConfigsRequestRow, standIns := [], harness := (true, "7df7752b60c52d0e5d68a59218632fdf98812ab38639590b585d9567e13e9350"), looks := false }, kinds := [], alts := [], laidByText := true, laidKinds := [.sentinel], laidTests := true, laidLooks := .later }
def FnAgainAlterConfigsRequestCardSaid : Prop := Claim7.holds Tryz.pinned (.plain (OpenSpec.ofChange fnAgainAlterConfigsRequestSpec)) fnAgainAlterConfigsRequestCard

/-- THE SECOND FORM's CARD OF 'laws.FnAgainFindCoordinatorResponse'. -/
def fnAgainFindCoordinatorResponseUptoCard : Claim7 := { stood := { row := fnAgainFindCoordinatorResponseUptoRow, standIns := [], harness := (true, "7df7752b60c52d0e5d68a59218632fdf98812ab38639590b585d9567e13e9350"), looks := false }, kinds := [], alts := [], laidByText := true, laidKinds := [.sentinel], laidTests := true, laidLooks := .later }
def FnAgainFindCoordinatorResponseUptoCardSaid : Prop := Claim7.holds Tryz.pinned (.plain (OpenSpec.upto fnAgainFindCoordinatorResponseSpec)) fnAgainFindCoordinatorResponseUptoCard

/-- THE SECOND FORM's CARD OF 'laws.FnAgainListTransactionsResponse'. -/
def fnAgainListTransactionsResponseUptoCard : Claim7 := { stood := { row := fnAgainListTransactionsResponseUptoRow, standIns := [], harness := (true, "7df7752b60c52d0e5d68a59218632fdf98812ab38639590b585d9567e13e9350"), looks := false }, kinds := [], alts := [], laidByText := true, laidKinds := [.sentinel], laidTests := true, laidLooks := .later }
def FnAgainListTransactionsResponseUptoCardSaid : Prop := Claim7.holds Tryz.pinned (.plain (OpenSpec.upto fnAgainListTransactionsResponseSpec)) fnAgainListTransactionsResponseUptoCard

/-- THE SECOND FORM's CARD OF 'laws.FnCutOffsetCommitResponse'. -/
def fnCutOffsetCommitResponseUptoCard : Claim7 := { stood := { row := fnCutOffsetCommitResponseUptoRow, standIns := [], harness := (true, "7df7752b60c52d0e5d68a59218632fdf98812ab38639590b585d9567e13e9350"), looks := false }, kinds := [], alts := [], laidByText := true, laidKinds := [.sentinel], laidTests := true, laidLooks := .later }
def FnCutOffsetCommitResponseUptoCardSaid : Prop := Claim7.holds Tryz.pinned (.plain (OpenSpec.upto fnCutOffsetCommitResponseSpec)) fnCutOffsetCommitResponseUptoCard

/-- THE SECOND FORM's CARD OF 'laws.FnCutReadShareGroupStateSummaryRequest'. -/
def fnCutReadShareGroupStateSummaryRequestUptoCard : Claim7 := { stood := { row := fnCutReadShareGroupStateSummaryRequestUptoRow, standIns := [], harness := (true, "7df7752b60c52d0e5d68a59218632fdf98812ab38639590b585d9567e13e9350"), looks := false }, kinds := [], alts := [], laidByText := true, laidKinds := [.sentinel], laidTests := true, laidLooks := .later }
def FnCutReadShareGroupStateSummaryRequestUptoCardSaid : Prop := Claim7.holds Tryz.pinned (.plain (OpenSpec.upto fnCutReadShareGroupStateSummaryRequestSpec)) fnCutReadShareGroupStateSummaryRequestUptoCard

/-- THE SECOND FORM's CARD OF 'laws.FnAgainAlterConfigsRequest'. -/
def fnAgainAlterConfigsRequestUptoCard : Claim7 := { stood := { row := fnAgainAlterConfigsRequestUptoRow, standIns := [], harness := (true, "7df7752b60c52d0e5d68a59218632fdf98812ab38639590b585d9567e13e9350"), looks := false }, kinds := [], alts := [], laidByText := true, laidKinds := [.sentinel], laidTests := true, laidLooks := .later }
def FnAgainAlterConfigsRequestUptoCardSaid : Prop := Claim7.holds Tryz.pinned (.plain (OpenSpec.upto fnAgainAlterConfigsRequestSpec)) fnAgainAlterConfigsRequestUptoCard
end Rows
end Go.Proofs.YtlcdpkdnblkheaaGreatDoor
