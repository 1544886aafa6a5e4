/-
  DERIVED. GIVEN WITH THE SEED: THE CARDS: each row of YtgajindbafacgaaGreatDoorRows.lean that lists a variable, with what it lists TIED to the program's text (the seventh form; the later family's looks); each row that meets fmt, with fmt's text TOLD by the authors' own Lean function (tested against real Go, not proved from fmt's source: count such statements apart). THE CARD IS WHAT COUNTS. Prove the row's statement (the work); the ties are given (YtgajindbafacgaaGreatDoorTie.lean); close each card by the builder's one call (the guide's Derived/Test/ToyasCard.lean, 'card_holds'). Laid BY PROGRAM, IN A SANDBOX (cutbox-door.mjs). By AI agents, Wed Nov 11 2026. No macro, syntax, notation, axiom, sorry.
-/
import Derived.Test.YtgajindbafacgaaGreatDoorRows
import GoSem.ClaimSeven
namespace Go.Proofs.YtgajindbafacgaaGreatDoor
namespace Rows

/-- THE TIED CARD OF 'laws.FnAgainEndQuorumEpochRequest'. -/
def fnAgainEndQuorumEpochRequestCard : Claim7 := { stood := { row := fnAgainEndQuorumEpochRequestRow, standIns := [], harness := (true, "7236b0003db61e536347a0a400f80406a2c864bd540d67491e037b5f935d8620"), looks := false }, kinds := [], alts := [], laidByText := true, laidKinds := [.sentinel], laidTests := true, laidLooks := .later }
def FnAgainEndQuorumEpochRequestCardSaid : Prop := Claim7.holds Tryz.pinned (.plain (OpenSpec.ofChange fnAgainEndQuorumEpochRequestSpec)) fnAgainEndQuorumEpochRequestCard

/-- THE TIED CARD OF 'laws.FnCutDescribeConfigsRequest'. -/
def fnCutDescribeConfigsRequestCard : Claim7 := { stood := { row := fnCutDescribeConfigsRequestRow, standIns := [], harness := (true, "7236b0003db61e536347a0a400f80406a2c864bd540d67491e037b5f935d8620"), looks := false }, kinds := [], alts := [], laidByText := true, laidKinds := [.sentinel], laidTests := true, laidLooks := .later }
def FnCutDescribeConfigsRequestCardSaid : Prop := Claim7.holds Tryz.pinned (.plain (OpenSpec.ofChange fnCutDescribeConfigsRequestSpec)) fnCutDescribeConfigsRequestCard

/-- THE TIED CARD OF 'laws.FnCutShareFetchResponse'. -/
def fnCutShareFetchResponseCard : Claim7 := { stood := { row := fnCutShareFetchResponseRow, standIns := [], harness := (true, "7236b0003db61e536347a0a400f80406a2c864bd540d67491e037b5f935d8620"), looks := false }, kinds := [], alts := [], laidByText := true, laidKinds := [.sentinel], laidTests := true, laidLooks := .later }
def FnCutShareFetchResponseCardSaid : Prop := Claim7.holds Tryz.pinned (.plain (OpenSpec.ofChange fnCutShareFetchResponseSpec)) fnCutShareFetchResponseCard

/-- THE SECOND FORM's CARD OF 'laws.FnAgainEndQuorumEpochRequest'. -/
def fnAgainEndQuorumEpochRequestUptoCard : Claim7 := { stood := { row := fnAgainEndQuorumEpochRequestUptoRow, standIns := [], harness := (true, "7236b0003db61e536347a0a400f80406a2c864bd540d67491e037b5f935d8620"), looks := false }, kinds := [], alts := [], laidByText := true, laidKinds := [.sentinel], laidTests := true, laidLooks := .later }
def FnAgainEndQuorumEpochRequestUptoCardSaid : Prop := Claim7.holds Tryz.pinned (.plain (OpenSpec.upto fnAgainEndQuorumEpochRequestSpec)) fnAgainEndQuorumEpochRequestUptoCard

/-- THE SECOND FORM's CARD OF 'laws.FnCutDescribeConfigsRequest'. -/
def fnCutDescribeConfigsRequestUptoCard : Claim7 := { stood := { row := fnCutDescribeConfigsRequestUptoRow, standIns := [], harness := (true, "7236b0003db61e536347a0a400f80406a2c864bd540d67491e037b5f935d8620"), looks := false }, kinds := [], alts := [], laidByText := true, laidKinds := [.sentinel], laidTests := true, laidLooks := .later }
def FnCutDescribeConfigsRequestUptoCardSaid : Prop := Claim7.holds Tryz.pinned (.plain (OpenSpec.upto fnCutDescribeConfigsRequestSpec)) fnCutDescribeConfigsRequestUptoCard

/-- THE SECOND FORM's CARD OF 'laws.FnCutShareFetchResponse'. -/
def fnCutShareFetchResponseUptoCard : Claim7 := { stood := { row := fnCutShareFetchResponseUptoRow, standIns := [], harness := (true, "7236b0003db61e536347a0a400f80406a2c864bd540d67491e037b5f935d8620"), looks := false }, kinds := [], alts := [], laidByText := true, laidKinds := [.sentinel], laidTests := true, laidLooks := .later }
def FnCutShareFetchResponseUptoCardSaid : Prop := Claim7.holds Tryz.pinned (.plain (OpenSpec.upto fnCutShareFetchResponseSpec)) fnCutShareFetchResponseUptoCard
end Rows
end Go.Proofs.YtgajindbafacgaaGreatDoor
