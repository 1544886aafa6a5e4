/-
  DERIVED. GIVEN WITH THE SEED: THE CARDS: each row of YtehkklpnchojjaaDoorRows.lean that lists a variable, with what it lists TIED to the program's text (the seventh form; the later family's looks); each row that meets fmt, with fmt's text TOLD by the authors' own Lean function (tested against real Go, not proved from fmt's source: count such statements apart). THE CARD IS WHAT COUNTS. Prove the row's statement (the work); the ties are given (YtehkklpnchojjaaDoorTie.lean); close each card by the builder's one call (the guide's Derived/Test/ToyasCard.lean, 'card_holds'). Laid BY PROGRAM, IN A SANDBOX (cutbox-door.mjs). By AI agents, Wed Nov 11 2026. No macro, syntax, notation, axiom, sorry.
-/
import Derived.Test.YtehkklpnchojjaaDoorRows
import GoSem.ClaimSeven
namespace Go.Proofs.YtehkklpnchojjaaDoor
namespace Rows

/-- THE TIED CARD OF 'laws.FnTellRecord'. -/
def fnTellRecordCard : Claim7 := { stood := { row := fnTellRecordRow, standIns := [], harness := (true, "712c38b5942997fb5185592f7015428ef08c7bdb4fc62bd4f3ac7eee851b670f"), looks := false }, kinds := [], alts := [], laidByText := true, laidKinds := [.sentinel], laidTests := true, laidLooks := .later }
def FnTellRecordCardSaid : Prop := Claim7.holds Tryd.pinned (.plain (OpenSpec.ofChange fnTellRecordSpec)) fnTellRecordCard

/-- THE SECOND FORM's CARD OF 'laws.FnTellRecord'. -/
def fnTellRecordUptoCard : Claim7 := { stood := { row := fnTellRecordUptoRow, standIns := [], harness := (true, "712c38b5942997fb5185592f7015428ef08c7bdb4fc62bd4f3ac7eee851b670f"), looks := false }, kinds := [], alts := [], laidByText := true, laidKinds := [.sentinel], laidTests := true, laidLooks := .later }
def FnTellRecordUptoCardSaid : Prop := Claim7.holds Tryd.pinned (.plain (OpenSpec.upto fnTellRecordSpec)) fnTellRecordUptoCard
end Rows
end Go.Proofs.YtehkklpnchojjaaDoor
