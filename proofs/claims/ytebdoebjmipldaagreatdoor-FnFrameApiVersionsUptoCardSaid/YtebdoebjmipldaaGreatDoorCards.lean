/-
  DERIVED. GIVEN WITH THE SEED: THE CARDS: each row of YtebdoebjmipldaaGreatDoorRows.lean that lists a variable, with what it lists TIED to the program's text (the seventh form; the later family's looks); each row that meets fmt, with fmt's text TOLD by the authors' own Lean function (tested against real Go, not proved from fmt's source: count such statements apart). THE CARD IS WHAT COUNTS. Prove the row's statement (the work); the ties are given (YtebdoebjmipldaaGreatDoorTie.lean); close each card by the builder's one call (the guide's Derived/Test/ToyasCard.lean, 'card_holds'). Laid BY PROGRAM, IN A SANDBOX (cutbox-door.mjs). By AI agents, Wed Nov 11 2026. No macro, syntax, notation, axiom, sorry.
-/
import Derived.Test.YtebdoebjmipldaaGreatDoorRows
import GoSem.ClaimSeven
namespace Go.Proofs.YtebdoebjmipldaaGreatDoor
namespace Rows

/-- THE TIED CARD OF 'laws.FnFrameApiVersions'. -/
def fnFrameApiVersionsCard : Claim7 := { stood := { row := fnFrameApiVersionsRow, standIns := [], harness := (true, "aab62fd5817169a05619725a592726610795339887e6035ba411dace3886aee5"), looks := false }, kinds := [], alts := [], laidByText := true, laidKinds := [.sentinel], laidTests := true, laidLooks := .later }
def FnFrameApiVersionsCardSaid : Prop := Claim7.holds Tryz.pinned (.plain (OpenSpec.ofChange fnFrameApiVersionsSpec)) fnFrameApiVersionsCard

/-- THE SECOND FORM's CARD OF 'laws.FnFrameApiVersions'. -/
def fnFrameApiVersionsUptoCard : Claim7 := { stood := { row := fnFrameApiVersionsUptoRow, standIns := [], harness := (true, "aab62fd5817169a05619725a592726610795339887e6035ba411dace3886aee5"), looks := false }, kinds := [], alts := [], laidByText := true, laidKinds := [.sentinel], laidTests := true, laidLooks := .later }
def FnFrameApiVersionsUptoCardSaid : Prop := Claim7.holds Tryz.pinned (.plain (OpenSpec.upto fnFrameApiVersionsSpec)) fnFrameApiVersionsUptoCard
end Rows
end Go.Proofs.YtebdoebjmipldaaGreatDoor
