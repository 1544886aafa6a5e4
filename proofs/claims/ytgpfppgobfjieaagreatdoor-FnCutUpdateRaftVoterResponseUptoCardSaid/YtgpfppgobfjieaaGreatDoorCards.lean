/-
  DERIVED. GIVEN WITH THE SEED: THE CARDS: each row of YtgpfppgobfjieaaGreatDoorRows.lean that lists a variable, with what it lists TIED to the program's text (the seventh form; the later family's looks); each row that meets fmt, with fmt's text TOLD by the authors' own Lean function (tested against real Go, not proved from fmt's source: count such statements apart). THE CARD IS WHAT COUNTS. Prove the row's statement (the work); the ties are given (YtgpfppgobfjieaaGreatDoorTie.lean); close each card by the builder's one call (the guide's Derived/Test/ToyasCard.lean, 'card_holds'). Laid BY PROGRAM, IN A SANDBOX (cutbox-door.mjs). By AI agents, Wed Nov 11 2026. No macro, syntax, notation, axiom, sorry.
-/
import Derived.Test.YtgpfppgobfjieaaGreatDoorRows
import GoSem.ClaimSeven
namespace Go.Proofs.YtgpfppgobfjieaaGreatDoor
namespace Rows

/-- THE TIED CARD OF 'laws.FnCutUpdateRaftVoterResponse'. -/
def fnCutUpdateRaftVoterResponseCard : Claim7 := { stood := { row := fnCutUpdateRaftVoterResponseRow, standIns := [], harness := (true, "0f3fb3961f8eb8d8d5446b99b1b9f0f70200102b45e73bbdaa867c7ccba468d8"), looks := false }, kinds := [], alts := [], laidByText := true, laidKinds := [.sentinel], laidTests := true, laidLooks := .later }
def FnCutUpdateRaftVoterResponseCardSaid : Prop := Claim7.holds Tryz.pinned (.plain (OpenSpec.ofChange fnCutUpdateRaftVoterResponseSpec)) fnCutUpdateRaftVoterResponseCard

/-- THE SECOND FORM's CARD OF 'laws.FnCutUpdateRaftVoterResponse'. -/
def fnCutUpdateRaftVoterResponseUptoCard : Claim7 := { stood := { row := fnCutUpdateRaftVoterResponseUptoRow, standIns := [], harness := (true, "0f3fb3961f8eb8d8d5446b99b1b9f0f70200102b45e73bbdaa867c7ccba468d8"), looks := false }, kinds := [], alts := [], laidByText := true, laidKinds := [.sentinel], laidTests := true, laidLooks := .later }
def FnCutUpdateRaftVoterResponseUptoCardSaid : Prop := Claim7.holds Tryz.pinned (.plain (OpenSpec.upto fnCutUpdateRaftVoterResponseSpec)) fnCutUpdateRaftVoterResponseUptoCard
end Rows
end Go.Proofs.YtgpfppgobfjieaaGreatDoor
