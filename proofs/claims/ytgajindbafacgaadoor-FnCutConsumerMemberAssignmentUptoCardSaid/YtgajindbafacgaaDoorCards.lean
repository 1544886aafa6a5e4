/-
  DERIVED. GIVEN WITH THE SEED: THE CARDS: each row of YtgajindbafacgaaDoorRows.lean that lists a variable, with what it lists TIED to the program's text (the seventh form; the later family's looks); each row that meets fmt, with fmt's text TOLD by the authors' own Lean function (tested against real Go, not proved from fmt's source: count such statements apart). THE CARD IS WHAT COUNTS. Prove the row's statement (the work); the ties are given (YtgajindbafacgaaDoorTie.lean); close each card by the builder's one call (the guide's Derived/Test/ToyasCard.lean, 'card_holds'). Laid BY PROGRAM, IN A SANDBOX (cutbox-door.mjs). By AI agents, Wed Nov 11 2026. No macro, syntax, notation, axiom, sorry.
-/
import Derived.Test.YtgajindbafacgaaDoorRows
import GoSem.ClaimSeven
namespace Go.Proofs.YtgajindbafacgaaDoor
namespace Rows

/-- THE TIED CARD OF 'laws.FnAnyCreatePartitionsRequest'. -/
def fnAnyCreatePartitionsRequestCard : Claim7 := { stood := { row := fnAnyCreatePartitionsRequestRow, standIns := [], harness := (true, "30e41f8dc7906e409c80e14d0de16f65b65cd272f4a9036c4495973a0fe31a05"), looks := false }, kinds := [], alts := [], laidByText := true, laidKinds := [.sentinel], laidTests := true, laidLooks := .later }
def FnAnyCreatePartitionsRequestCardSaid : Prop := Claim7.holds Tryd.pinned (.plain (OpenSpec.ofChange fnAnyCreatePartitionsRequestSpec)) fnAnyCreatePartitionsRequestCard

/-- THE TIED CARD OF 'laws.FnAnyShareGroupHeartbeatResponse'. -/
def fnAnyShareGroupHeartbeatResponseCard : Claim7 := { stood := { row := fnAnyShareGroupHeartbeatResponseRow, standIns := [], harness := (true, "30e41f8dc7906e409c80e14d0de16f65b65cd272f4a9036c4495973a0fe31a05"), looks := false }, kinds := [], alts := [], laidByText := true, laidKinds := [.sentinel], laidTests := true, laidLooks := .later }
def FnAnyShareGroupHeartbeatResponseCardSaid : Prop := Claim7.holds Tryd.pinned (.plain (OpenSpec.ofChange fnAnyShareGroupHeartbeatResponseSpec)) fnAnyShareGroupHeartbeatResponseCard

/-- THE TIED CARD OF 'laws.FnAnyEndTxnMarker'. -/
def fnAnyEndTxnMarkerCard : Claim7 := { stood := { row := fnAnyEndTxnMarkerRow, standIns := [], harness := (true, "30e41f8dc7906e409c80e14d0de16f65b65cd272f4a9036c4495973a0fe31a05"), looks := false }, kinds := [], alts := [], laidByText := true, laidKinds := [.sentinel], laidTests := true, laidLooks := .later }
def FnAnyEndTxnMarkerCardSaid : Prop := Claim7.holds Tryd.pinned (.plain (OpenSpec.ofChange fnAnyEndTxnMarkerSpec)) fnAnyEndTxnMarkerCard

/-- THE TIED CARD OF 'laws.FnCutConsumerMemberAssignment'. -/
def fnCutConsumerMemberAssignmentCard : Claim7 := { stood := { row := fnCutConsumerMemberAssignmentRow, standIns := [], harness := (true, "30e41f8dc7906e409c80e14d0de16f65b65cd272f4a9036c4495973a0fe31a05"), looks := false }, kinds := [], alts := [], laidByText := true, laidKinds := [.sentinel], laidTests := true, laidLooks := .later }
def FnCutConsumerMemberAssignmentCardSaid : Prop := Claim7.holds Tryd.pinned (.plain (OpenSpec.ofChange fnCutConsumerMemberAssignmentSpec)) fnCutConsumerMemberAssignmentCard

/-- THE SECOND FORM's CARD OF 'laws.FnAnyCreatePartitionsRequest'. -/
def fnAnyCreatePartitionsRequestUptoCard : Claim7 := { stood := { row := fnAnyCreatePartitionsRequestUptoRow, standIns := [], harness := (true, "30e41f8dc7906e409c80e14d0de16f65b65cd272f4a9036c4495973a0fe31a05"), looks := false }, kinds := [], alts := [], laidByText := true, laidKinds := [.sentinel], laidTests := true, laidLooks := .later }
def FnAnyCreatePartitionsRequestUptoCardSaid : Prop := Claim7.holds Tryd.pinned (.plain (OpenSpec.upto fnAnyCreatePartitionsRequestSpec)) fnAnyCreatePartitionsRequestUptoCard

/-- THE SECOND FORM's CARD OF 'laws.FnAnyShareGroupHeartbeatResponse'. -/
def fnAnyShareGroupHeartbeatResponseUptoCard : Claim7 := { stood := { row := fnAnyShareGroupHeartbeatResponseUptoRow, standIns := [], harness := (true, "30e41f8dc7906e409c80e14d0de16f65b65cd272f4a9036c4495973a0fe31a05"), looks := false }, kinds := [], alts := [], laidByText := true, laidKinds := [.sentinel], laidTests := true, laidLooks := .later }
def FnAnyShareGroupHeartbeatResponseUptoCardSaid : Prop := Claim7.holds Tryd.pinned (.plain (OpenSpec.upto fnAnyShareGroupHeartbeatResponseSpec)) fnAnyShareGroupHeartbeatResponseUptoCard

/-- THE SECOND FORM's CARD OF 'laws.FnAnyEndTxnMarker'. -/
def fnAnyEndTxnMarkerUptoCard : Claim7 := { stood := { row := fnAnyEndTxnMarkerUptoRow, standIns := [], harness := (true, "30e41f8dc7906e409c80e14d0de16f65b65cd272f4a9036c4495973a0fe31a05"), looks := false }, kinds := [], alts := [], laidByText := true, laidKinds := [.sentinel], laidTests := true, laidLooks := .later }
def FnAnyEndTxnMarkerUptoCardSaid : Prop := Claim7.holds Tryd.pinned (.plain (OpenSpec.upto fnAnyEndTxnMarkerSpec)) fnAnyEndTxnMarkerUptoCard

/-- THE SECOND FORM's CARD OF 'laws.FnCutConsumerMemberAssignment'. -/
def fnCutConsumerMemberAssignmentUptoCard : Claim7 := { stood := { row := fnCutConsumerMemberAssignmentUptoRow, standIns := [], harness := (true, "30e41f8dc7906e409c80e14d0de16f65b65cd272f4a9036c4495973a0fe31a05"), looks := false }, kinds := [], alts := [], laidByText := true, laidKinds := [.sentinel], laidTests := true, laidLooks := .later }
def FnCutConsumerMemberAssignmentUptoCardSaid : Prop := Claim7.holds Tryd.pinned (.plain (OpenSpec.upto fnCutConsumerMemberAssignmentSpec)) fnCutConsumerMemberAssignmentUptoCard
end Rows
end Go.Proofs.YtgajindbafacgaaDoor
