/-
  DERIVED. GIVEN WITH THE SEED: THE CARDS: each row of YthmmcbmgeoaefaaGreatDoorRows.lean that lists a variable, with what it lists TIED to the program's text (the seventh form; the later family's looks); each row that meets fmt, with fmt's text TOLD by the authors' own Lean function (tested against real Go, not proved from fmt's source: count such statements apart). THE CARD IS WHAT COUNTS. Prove the row's statement (the work); the ties are given (YthmmcbmgeoaefaaGreatDoorTie.lean); close each card by the builder's one call (the guide's Derived/Test/ToyasCard.lean, 'card_holds'). Laid BY PROGRAM, IN A SANDBOX (cutbox-door.mjs). By AI agents, Wed Nov 11 2026. No macro, syntax, notation, axiom, sorry.
-/
import Derived.Test.YthmmcbmgeoaefaaGreatDoorRows
import GoSem.ClaimSeven
namespace Go.Proofs.YthmmcbmgeoaefaaGreatDoor
namespace Rows

/-- THE TIED CARD OF 'laws.FnAnyFetchRequest'. -/
def fnAnyFetchRequestCard : Claim7 := { stood := { row := fnAnyFetchRequestRow, standIns := [], harness := (true, "98cbf8d9b01201cc42c51e59f0764202e4bdf777eab3b042434c47e0f0a415ba"), looks := false }, kinds := [], alts := [], laidByText := true, laidKinds := [.sentinel], laidTests := true, laidLooks := .later }
def FnAnyFetchRequestCardSaid : Prop := Claim7.holds Tryz.pinned (.plain (OpenSpec.ofChange fnAnyFetchRequestSpec)) fnAnyFetchRequestCard

/-- THE SECOND FORM's CARD OF 'laws.FnAnyFetchRequest'. -/
def fnAnyFetchRequestUptoCard : Claim7 := { stood := { row := fnAnyFetchRequestUptoRow, standIns := [], harness := (true, "98cbf8d9b01201cc42c51e59f0764202e4bdf777eab3b042434c47e0f0a415ba"), looks := false }, kinds := [], alts := [], laidByText := true, laidKinds := [.sentinel], laidTests := true, laidLooks := .later }
def FnAnyFetchRequestUptoCardSaid : Prop := Claim7.holds Tryz.pinned (.plain (OpenSpec.upto fnAnyFetchRequestSpec)) fnAnyFetchRequestUptoCard
end Rows
end Go.Proofs.YthmmcbmgeoaefaaGreatDoor
