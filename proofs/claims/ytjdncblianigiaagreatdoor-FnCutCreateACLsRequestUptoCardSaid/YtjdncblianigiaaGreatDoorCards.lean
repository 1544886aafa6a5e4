/-
  DERIVED. GIVEN WITH THE SEED: THE CARDS: each row of YtjdncblianigiaaGreatDoorRows.lean that lists a variable, with what it lists TIED to the program's text (the seventh form; the later family's looks); each row that meets fmt, with fmt's text TOLD by the authors' own Lean function (tested against real Go, not proved from fmt's source: count such statements apart). THE CARD IS WHAT COUNTS. Prove the row's statement (the work); the ties are given (YtjdncblianigiaaGreatDoorTie.lean); close each card by the builder's one call (the guide's Derived/Test/ToyasCard.lean, 'card_holds'). Laid BY PROGRAM, IN A SANDBOX (cutbox-door.mjs). By AI agents, Wed Nov 11 2026. No macro, syntax, notation, axiom, sorry.
-/
import Derived.Test.YtjdncblianigiaaGreatDoorRows
import GoSem.ClaimSeven
namespace Go.Proofs.YtjdncblianigiaaGreatDoor
namespace Rows

/-- THE TIED CARD OF 'laws.FnAgainUpdateFeaturesResponse'. -/
def fnAgainUpdateFeaturesResponseCard : Claim7 := { stood := { row := fnAgainUpdateFeaturesResponseRow, standIns := [], harness := (true, "cbbdfa7d2d42aa2f54ae23114d21dda9603d6f772d9cae0db07736e3fd8ec5bb"), looks := false }, kinds := [], alts := [], laidByText := true, laidKinds := [.sentinel], laidTests := true, laidLooks := .later }
def FnAgainUpdateFeaturesResponseCardSaid : Prop := Claim7.holds Tryz.pinned (.plain (OpenSpec.ofChange fnAgainUpdateFeaturesResponseSpec)) fnAgainUpdateFeaturesResponseCard

/-- THE TIED CARD OF 'laws.FnAgainDescribeClientQuotasRequest'. -/
def fnAgainDescribeClientQuotasRequestCard : Claim7 := { stood := { row := fnAgainDescribeClientQuotasRequestRow, standIns := [], harness := (true, "cbbdfa7d2d42aa2f54ae23114d21dda9603d6f772d9cae0db07736e3fd8ec5bb"), looks := false }, kinds := [], alts := [], laidByText := true, laidKinds := [.sentinel], laidTests := true, laidLooks := .later }
def FnAgainDescribeClientQuotasRequestCardSaid : Prop := Claim7.holds Tryz.pinned (.plain (OpenSpec.ofChange fnAgainDescribeClientQuotasRequestSpec)) fnAgainDescribeClientQuotasRequestCard

/-- THE TIED CARD OF 'laws.FnCutSyncGroupRequest'. -/
def fnCutSyncGroupRequestCard : Claim7 := { stood := { row := fnCutSyncGroupRequestRow, standIns := [], harness := (true, "cbbdfa7d2d42aa2f54ae23114d21dda9603d6f772d9cae0db07736e3fd8ec5bb"), looks := false }, kinds := [], alts := [], laidByText := true, laidKinds := [.sentinel], laidTests := true, laidLooks := .later }
def FnCutSyncGroupRequestCardSaid : Prop := Claim7.holds Tryz.pinned (.plain (OpenSpec.ofChange fnCutSyncGroupRequestSpec)) fnCutSyncGroupRequestCard

/-- THE TIED CARD OF 'laws.FnCutCreateACLsRequest'. -/
def fnCutCreateACLsRequestCard : Claim7 := { stood := { row := fnCutCreateACLsRequestRow, standIns := [], harness := (true, "cbbdfa7d2d42aa2f54ae23114d21dda9603d6f772d9cae0db07736e3fd8ec5bb"), looks := false }, kinds := [], alts := [], laidByText := true, laidKinds := [.sentinel], laidTests := true, laidLooks := .later }
def FnCutCreateACLsRequestCardSaid : Prop := Claim7.holds Tryz.pinned (.plain (OpenSpec.ofChange fnCutCreateACLsRequestSpec)) fnCutCreateACLsRequestCard

/-- THE SECOND FORM's CARD OF 'laws.FnAgainUpdateFeaturesResponse'. -/
def fnAgainUpdateFeaturesResponseUptoCard : Claim7 := { stood := { row := fnAgainUpdateFeaturesResponseUptoRow, standIns := [], harness := (true, "cbbdfa7d2d42aa2f54ae23114d21dda9603d6f772d9cae0db07736e3fd8ec5bb"), looks := false }, kinds := [], alts := [], laidByText := true, laidKinds := [.sentinel], laidTests := true, laidLooks := .later }
def FnAgainUpdateFeaturesResponseUptoCardSaid : Prop := Claim7.holds Tryz.pinned (.plain (OpenSpec.upto fnAgainUpdateFeaturesResponseSpec)) fnAgainUpdateFeaturesResponseUptoCard

/-- THE SECOND FORM's CARD OF 'laws.FnAgainDescribeClientQuotasRequest'. -/
def fnAgainDescribeClientQuotasRequestUptoCard : Claim7 := { stood := { row := fnAgainDescribeClientQuotasRequestUptoRow, standIns := [], harness := (true, "cbbdfa7d2d42aa2f54ae23114d21dda9603d6f772d9cae0db07736e3fd8ec5bb"), looks := false }, kinds := [], alts := [], laidByText := true, laidKinds := [.sentinel], laidTests := true, laidLooks := .later }
def FnAgainDescribeClientQuotasRequestUptoCardSaid : Prop := Claim7.holds Tryz.pinned (.plain (OpenSpec.upto fnAgainDescribeClientQuotasRequestSpec)) fnAgainDescribeClientQuotasRequestUptoCard

/-- THE SECOND FORM's CARD OF 'laws.FnCutSyncGroupRequest'. -/
def fnCutSyncGroupRequestUptoCard : Claim7 := { stood := { row := fnCutSyncGroupRequestUptoRow, standIns := [], harness := (true, "cbbdfa7d2d42aa2f54ae23114d21dda9603d6f772d9cae0db07736e3fd8ec5bb"), looks := false }, kinds := [], alts := [], laidByText := true, laidKinds := [.sentinel], laidTests := true, laidLooks := .later }
def FnCutSyncGroupRequestUptoCardSaid : Prop := Claim7.holds Tryz.pinned (.plain (OpenSpec.upto fnCutSyncGroupRequestSpec)) fnCutSyncGroupRequestUptoCard

/-- THE SECOND FORM's CARD OF 'laws.FnCutCreateACLsRequest'. -/
def fnCutCreateACLsRequestUptoCard : Claim7 := { stood := { row := fnCutCreateACLsRequestUptoRow, standIns := [], harness := (true, "cbbdfa7d2d42aa2f54ae23114d21dda9603d6f772d9cae0db07736e3fd8ec5bb"), looks := false }, kinds := [], alts := [], laidByText := true, laidKinds := [.sentinel], laidTests := true, laidLooks := .later }
def FnCutCreateACLsRequestUptoCardSaid : Prop := Claim7.holds Tryz.pinned (.plain (OpenSpec.upto fnCutCreateACLsRequestSpec)) fnCutCreateACLsRequestUptoCard
end Rows
end Go.Proofs.YtjdncblianigiaaGreatDoor
