/-
  DERIVED. GIVEN WITH THE SEED: THE CARDS: each row of YtglpicecddfcnaaGreatDoorRows.lean that lists a variable, with what it lists TIED to the program's text (the seventh form; the later family's looks); each row that meets fmt, with fmt's text TOLD by the authors' own Lean function (tested against real Go, not proved from fmt's source: count such statements apart). THE CARD IS WHAT COUNTS. Prove the row's statement (the work); the ties are given (YtglpicecddfcnaaGreatDoorTie.lean); close each card by the builder's one call (the guide's Derived/Test/ToyasCard.lean, 'card_holds'). Laid BY PROGRAM, IN A SANDBOX (cutbox-door.mjs). By AI agents, Wed Nov 11 2026. No macro, syntax, notation, axiom, sorry.
-/
import Derived.Test.YtglpicecddfcnaaGreatDoorRows
import GoSem.ClaimSeven
namespace Go.Proofs.YtglpicecddfcnaaGreatDoor
namespace Rows

/-- THE TIED CARD OF 'laws.FnAgainOffsetCommitValue'. -/
def fnAgainOffsetCommitValueCard : Claim7 := { stood := { row := fnAgainOffsetCommitValueRow, standIns := [], harness := (true, "a3750599caa4c96890164a8f1d81e5617f30edd1b304e6df1bbcae174018661c"), looks := false }, kinds := [], alts := [], laidByText := true, laidKinds := [.sentinel], laidTests := true, laidLooks := .later }
def FnAgainOffsetCommitValueCardSaid : Prop := Claim7.holds Tryz.pinned (.plain (OpenSpec.ofChange fnAgainOffsetCommitValueSpec)) fnAgainOffsetCommitValueCard

/-- THE TIED CARD OF 'laws.FnAgainApiVersionsResponse'. -/
def fnAgainApiVersionsResponseCard : Claim7 := { stood := { row := fnAgainApiVersionsResponseRow, standIns := [], harness := (true, "a3750599caa4c96890164a8f1d81e5617f30edd1b304e6df1bbcae174018661c"), looks := false }, kinds := [], alts := [], laidByText := true, laidKinds := [.sentinel], laidTests := true, laidLooks := .later }
def FnAgainApiVersionsResponseCardSaid : Prop := Claim7.holds Tryz.pinned (.plain (OpenSpec.ofChange fnAgainApiVersionsResponseSpec)) fnAgainApiVersionsResponseCard

/-- THE TIED CARD OF 'laws.FnCutUpdateRaftVoterResponse'. -/
def fnCutUpdateRaftVoterResponseCard : Claim7 := { stood := { row := fnCutUpdateRaftVoterResponseRow, standIns := [], harness := (true, "a3750599caa4c96890164a8f1d81e5617f30edd1b304e6df1bbcae174018661c"), looks := false }, kinds := [], alts := [], laidByText := true, laidKinds := [.sentinel], laidTests := true, laidLooks := .later }
def FnCutUpdateRaftVoterResponseCardSaid : Prop := Claim7.holds Tryz.pinned (.plain (OpenSpec.ofChange fnCutUpdateRaftVoterResponseSpec)) fnCutUpdateRaftVoterResponseCard

/-- THE TIED CARD OF 'laws.FnCutBeginQuorumEpochResponse'. -/
def fnCutBeginQuorumEpochResponseCard : Claim7 := { stood := { row := fnCutBeginQuorumEpochResponseRow, standIns := [], harness := (true, "a3750599caa4c96890164a8f1d81e5617f30edd1b304e6df1bbcae174018661c"), looks := false }, kinds := [], alts := [], laidByText := true, laidKinds := [.sentinel], laidTests := true, laidLooks := .later }
def FnCutBeginQuorumEpochResponseCardSaid : Prop := Claim7.holds Tryz.pinned (.plain (OpenSpec.ofChange fnCutBeginQuorumEpochResponseSpec)) fnCutBeginQuorumEpochResponseCard

/-- THE SECOND FORM's CARD OF 'laws.FnAgainOffsetCommitValue'. -/
def fnAgainOffsetCommitValueUptoCard : Claim7 := { stood := { row := fnAgainOffsetCommitValueUptoRow, standIns := [], harness := (true, "a3750599caa4c96890164a8f1d81e5617f30edd1b304e6df1bbcae174018661c"), looks := false }, kinds := [], alts := [], laidByText := true, laidKinds := [.sentinel], laidTests := true, laidLooks := .later }
def FnAgainOffsetCommitValueUptoCardSaid : Prop := Claim7.holds Tryz.pinned (.plain (OpenSpec.upto fnAgainOffsetCommitValueSpec)) fnAgainOffsetCommitValueUptoCard

/-- THE SECOND FORM's CARD OF 'laws.FnAgainApiVersionsResponse'. -/
def fnAgainApiVersionsResponseUptoCard : Claim7 := { stood := { row := fnAgainApiVersionsResponseUptoRow, standIns := [], harness := (true, "a3750599caa4c96890164a8f1d81e5617f30edd1b304e6df1bbcae174018661c"), looks := false }, kinds := [], alts := [], laidByText := true, laidKinds := [.sentinel], laidTests := true, laidLooks := .later }
def FnAgainApiVersionsResponseUptoCardSaid : Prop := Claim7.holds Tryz.pinned (.plain (OpenSpec.upto fnAgainApiVersionsResponseSpec)) fnAgainApiVersionsResponseUptoCard

/-- THE SECOND FORM's CARD OF 'laws.FnCutUpdateRaftVoterResponse'. -/
def fnCutUpdateRaftVoterResponseUptoCard : Claim7 := { stood := { row := fnCutUpdateRaftVoterResponseUptoRow, standIns := [], harness := (true, "a3750599caa4c96890164a8f1d81e5617f30edd1b304e6df1bbcae174018661c"), looks := false }, kinds := [], alts := [], laidByText := true, laidKinds := [.sentinel], laidTests := true, laidLooks := .later }
def FnCutUpdateRaftVoterResponseUptoCardSaid : Prop := Claim7.holds Tryz.pinned (.plain (OpenSpec.upto fnCutUpdateRaftVoterResponseSpec)) fnCutUpdateRaftVoterResponseUptoCard

/-- THE SECOND FORM's CARD OF 'laws.FnCutBeginQuorumEpochResponse'. -/
def fnCutBeginQuorumEpochResponseUptoCard : Claim7 := { stood := { row := fnCutBeginQuorumEpochResponseUptoRow, standIns := [], harness := (true, "a3750599caa4c96890164a8f1d81e5617f30edd1b304e6df1bbcae174018661c"), looks := false }, kinds := [], alts := [], laidByText := true, laidKinds := [.sentinel], laidTests := true, laidLooks := .later }
def FnCutBeginQuorumEpochResponseUptoCardSaid : Prop := Claim7.holds Tryz.pinned (.plain (OpenSpec.upto fnCutBeginQuorumEpochResponseSpec)) fnCutBeginQuorumEpochResponseUptoCard
end Rows
end Go.Proofs.YtglpicecddfcnaaGreatDoor
