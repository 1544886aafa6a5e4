/-
  DERIVED. GIVEN WITH THE SEED: THE CARDS: each row of YtlcdpkdnblkheabGreatDoorRows.lean that lists a variable, with what it lists TIED to the program's text (the seventh form; the later family's looks); each row that meets fmt, with fmt's text TOLD by the authors' own Lean function (tested against real Go, not proved from fmt's source: count such statements apart). THE CARD IS WHAT COUNTS. Prove the row's statement (the work); the ties are given (YtlcdpkdnblkheabGreatDoorTie.lean); close each card by the builder's one call (the guide's Derived/Test/ToyasCard.lean, 'card_holds'). Laid BY PROGRAM, IN A SANDBOX (cutbox-door.mjs). By AI agents, Wed Nov 11 2026. No macro, syntax, notation, axiom, sorry.
-/
import Derived.Test.YtlcdpkdnblkheabGreatDoorRows
import GoSem.ClaimSeven
namespace Go.Proofs.YtlcdpkdnblkheabGreatDoor
namespace Rows

/-- THE TIED CARD OF 'laws.FnAgainDescribeProducersResponse'. -/
def fnAgainDescribeProducersResponseCard : Claim7 := { stood := { row := fnAgainDescribeProducersResponseRow, standIns := [], harness := (true, "53e713203b637dc6c8a68e5b7f237fa6ba74057f6662d3d79498c01118c6064c"), looks := false }, kinds := [], alts := [], laidByText := true, laidKinds := [.sentinel], laidTests := true, laidLooks := .later }
def FnAgainDescribeProducersResponseCardSaid : Prop := Claim7.holds Tryz.pinned (.plain (OpenSpec.ofChange fnAgainDescribeProducersResponseSpec)) fnAgainDescribeProducersResponseCard

/-- THE TIED CARD OF 'laws.FnAgainDeleteACLsResponse'. -/
def fnAgainDeleteACLsResponseCard : Claim7 := { stood := { row := fnAgainDeleteACLsResponseRow, standIns := [], harness := (true, "53e713203b637dc6c8a68e5b7f237fa6ba74057f6662d3d79498c01118c6064c"), looks := false }, kinds := [], alts := [], laidByText := true, laidKinds := [.sentinel], laidTests := true, laidLooks := .later }
def FnAgainDeleteACLsResponseCardSaid : Prop := Claim7.holds Tryz.pinned (.plain (OpenSpec.ofChange fnAgainDeleteACLsResponseSpec)) fnAgainDeleteACLsResponseCard

/-- THE TIED CARD OF 'laws.FnCutDeleteRecordsResponse'. -/
def fnCutDeleteRecordsResponseCard : Claim7 := { stood := { row := fnCutDeleteRecordsResponseRow, standIns := [], harness := (true, "53e713203b637dc6c8a68e5b7f237fa6ba74057f6662d3d79498c01118c6064c"), looks := false }, kinds := [], alts := [], laidByText := true, laidKinds := [.sentinel], laidTests := true, laidLooks := .later }
def FnCutDeleteRecordsResponseCardSaid : Prop := Claim7.holds Tryz.pinned (.plain (OpenSpec.ofChange fnCutDeleteRecordsResponseSpec)) fnCutDeleteRecordsResponseCard

/-- THE TIED CARD OF 'laws.FnCutAlterPartitionRequest'. -/
def fnCutAlterPartitionRequestCard : Claim7 := { stood := { row := fnCutAlterPartitionRequestRow, standIns := [], harness := (true, "53e713203b637dc6c8a68e5b7f237fa6ba74057f6662d3d79498c01118c6064c"), looks := false }, kinds := [], alts := [], laidByText := true, laidKinds := [.sentinel], laidTests := true, laidLooks := .later }
def FnCutAlterPartitionRequestCardSaid : Prop := Claim7.holds Tryz.pinned (.plain (OpenSpec.ofChange fnCutAlterPartitionRequestSpec)) fnCutAlterPartitionRequestCard

/-- THE TIED CARD OF 'laws.FnCutDescribeShareGroupOffsetsResponse'. -/
def fnCutDescribeShareGroupOffsetsResponseCard : Claim7 := { stood := { row := fnCutDescribeShareGroupOffsetsResponseRow, standIns := [], harness := (true, "53e713203b637dc6c8a68e5b7f237fa6ba74057f6662d3d79498c01118c6064c"), looks := false }, kinds := [], alts := [], laidByText := true, laidKinds := [.sentinel], laidTests := true, laidLooks := .later }
def FnCutDescribeShareGroupOffsetsResponseCardSaid : Prop := Claim7.holds Tryz.pinned (.plain (OpenSpec.ofChange fnCutDescribeShareGroupOffsetsResponseSpec)) fnCutDescribeShareGroupOffsetsResponseCard

/-- THE SECOND FORM's CARD OF 'laws.FnAgainDescribeProducersResponse'. -/
def fnAgainDescribeProducersResponseUptoCard : Claim7 := { stood := { row := fnAgainDescribeProducersResponseUptoRow, standIns := [], harness := (true, "53e713203b637dc6c8a68e5b7f237fa6ba74057f6662d3d79498c01118c6064c"), looks := false }, kinds := [], alts := [], laidByText := true, laidKinds := [.sentinel], laidTests := true, laidLooks := .later }
def FnAgainDescribeProducersResponseUptoCardSaid : Prop := Claim7.holds Tryz.pinned (.plain (OpenSpec.upto fnAgainDescribeProducersResponseSpec)) fnAgainDescribeProducersResponseUptoCard

/-- THE SECOND FORM's CARD OF 'laws.FnAgainDeleteACLsResponse'. -/
def fnAgainDeleteACLsResponseUptoCard : Claim7 := { stood := { row := fnAgainDeleteACLsResponseUptoRow, standIns := [], harness := (true, "53e713203b637dc6c8a68e5b7f237fa6ba74057f6662d3d79498c01118c6064c"), looks := false }, kinds := [], alts := [], laidByText := true, laidKinds := [.sentinel], laidTests := true, laidLooks := .later }
def FnAgainDeleteACLsResponseUptoCardSaid : Prop := Claim7.holds Tryz.pinned (.plain (OpenSpec.upto fnAgainDeleteACLsResponseSpec)) fnAgainDeleteACLsResponseUptoCard

/-- THE SECOND FORM's CARD OF 'laws.FnCutDeleteRecordsResponse'. -/
def fnCutDeleteRecordsResponseUptoCard : Claim7 := { stood := { row := fnCutDeleteRecordsResponseUptoRow, standIns := [], harness := (true, "53e713203b637dc6c8a68e5b7f237fa6ba74057f6662d3d79498c01118c6064c"), looks := false }, kinds := [], alts := [], laidByText := true, laidKinds := [.sentinel], laidTests := true, laidLooks := .later }
def FnCutDeleteRecordsResponseUptoCardSaid : Prop := Claim7.holds Tryz.pinned (.plain (OpenSpec.upto fnCutDeleteRecordsResponseSpec)) fnCutDeleteRecordsResponseUptoCard

/-- THE SECOND FORM's CARD OF 'laws.FnCutAlterPartitionRequest'. -/
def fnCutAlterPartitionRequestUptoCard : Claim7 := { stood := { row := fnCutAlterPartitionRequestUptoRow, standIns := [], harness := (true, "53e713203b637dc6c8a68e5b7f237fa6ba74057f6662d3d79498c01118c6064c"), looks := false }, kinds := [], alts := [], laidByText := true, laidKinds := [.sentinel], laidTests := true, laidLooks := .later }
def FnCutAlterPartitionRequestUptoCardSaid : Prop := Claim7.holds Tryz.pinned (.plain (OpenSpec.upto fnCutAlterPartitionRequestSpec)) fnCutAlterPartitionRequestUptoCard

/-- THE SECOND FORM's CARD OF 'laws.FnCutDescribeShareGroupOffsetsResponse'. -/
def fnCutDescribeShareGroupOffsetsResponseUptoCard : Claim7 := { stood := { row := fnCutDescribeShareGroupOffsetsResponseUptoRow, standIns := [], harness := (true, "53e713203b637dc6c8a68e5b7f237fa6ba74057f6662d3d79498c01118c6064c"), looks := false }, kinds := [], alts := [], laidByText := true, laidKinds := [.sentinel], laidTests := true, laidLooks := .later }
def FnCutDescribeShareGroupOffsetsResponseUptoCardSaid : Prop := Claim7.holds Tryz.pinned (.plain (OpenSpec.upto fnCutDescribeShareGroupOffsetsResponseSpec)) fnCutDescribeShareGroupOffsetsResponseUptoCard
end Rows
end Go.Proofs.YtlcdpkdnblkheabGreatDoor
