/-
  DERIVED. GIVEN WITH THE SEED: THE CARDS: each row of YtllenpfdmaphiaaDoorRows.lean that lists a variable, with what it lists TIED to the program's text (the seventh form; the later family's looks); each row that meets fmt, with fmt's text TOLD by the authors' own Lean function (tested against real Go, not proved from fmt's source: count such statements apart). THE CARD IS WHAT COUNTS. Prove the row's statement (the work); the ties are given (YtllenpfdmaphiaaDoorTie.lean); close each card by the builder's one call (the guide's Derived/Test/ToyasCard.lean, 'card_holds'). Laid BY PROGRAM, IN A SANDBOX (cutbox-door.mjs). By AI agents, Wed Nov 11 2026. No macro, syntax, notation, axiom, sorry.
-/
import Derived.Test.YtllenpfdmaphiaaDoorRows
import GoSem.ClaimSeven
namespace Go.Proofs.YtllenpfdmaphiaaDoor
namespace Rows

/-- THE TIED CARD OF 'laws.FnAnyOffsetFetchResponse'. -/
def fnAnyOffsetFetchResponseCard : Claim7 := { stood := { row := fnAnyOffsetFetchResponseRow, standIns := [], harness := (true, "7cd44985be900434bcf340c0dea12bddee6881f94493273da9b395db13a0771c"), looks := false }, kinds := [], alts := [], laidByText := true, laidKinds := [.sentinel], laidTests := true, laidLooks := .later }
def FnAnyOffsetFetchResponseCardSaid : Prop := Claim7.holds Tryd.pinned (.plain (OpenSpec.ofChange fnAnyOffsetFetchResponseSpec)) fnAnyOffsetFetchResponseCard

/-- THE TIED CARD OF 'laws.FnCutEnvelopeRequest'. -/
def fnCutEnvelopeRequestCard : Claim7 := { stood := { row := fnCutEnvelopeRequestRow, standIns := [], harness := (true, "7cd44985be900434bcf340c0dea12bddee6881f94493273da9b395db13a0771c"), looks := false }, kinds := [], alts := [], laidByText := true, laidKinds := [.sentinel], laidTests := true, laidLooks := .later }
def FnCutEnvelopeRequestCardSaid : Prop := Claim7.holds Tryd.pinned (.plain (OpenSpec.ofChange fnCutEnvelopeRequestSpec)) fnCutEnvelopeRequestCard

/-- THE SECOND FORM's CARD OF 'laws.FnAnyOffsetFetchResponse'. -/
def fnAnyOffsetFetchResponseUptoCard : Claim7 := { stood := { row := fnAnyOffsetFetchResponseUptoRow, standIns := [], harness := (true, "7cd44985be900434bcf340c0dea12bddee6881f94493273da9b395db13a0771c"), looks := false }, kinds := [], alts := [], laidByText := true, laidKinds := [.sentinel], laidTests := true, laidLooks := .later }
def FnAnyOffsetFetchResponseUptoCardSaid : Prop := Claim7.holds Tryd.pinned (.plain (OpenSpec.upto fnAnyOffsetFetchResponseSpec)) fnAnyOffsetFetchResponseUptoCard

/-- THE SECOND FORM's CARD OF 'laws.FnCutEnvelopeRequest'. -/
def fnCutEnvelopeRequestUptoCard : Claim7 := { stood := { row := fnCutEnvelopeRequestUptoRow, standIns := [], harness := (true, "7cd44985be900434bcf340c0dea12bddee6881f94493273da9b395db13a0771c"), looks := false }, kinds := [], alts := [], laidByText := true, laidKinds := [.sentinel], laidTests := true, laidLooks := .later }
def FnCutEnvelopeRequestUptoCardSaid : Prop := Claim7.holds Tryd.pinned (.plain (OpenSpec.upto fnCutEnvelopeRequestSpec)) fnCutEnvelopeRequestUptoCard
end Rows
end Go.Proofs.YtllenpfdmaphiaaDoor
