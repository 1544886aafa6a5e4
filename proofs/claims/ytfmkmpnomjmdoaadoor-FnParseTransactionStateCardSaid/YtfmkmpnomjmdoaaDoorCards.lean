/-
  DERIVED. GIVEN WITH THE SEED: THE CARDS: each row of YtfmkmpnomjmdoaaDoorRows.lean that lists a variable, with what it lists TIED to the program's text (the seventh form; the later family's looks); each row that meets fmt, with fmt's text TOLD by the authors' own Lean function (tested against real Go, not proved from fmt's source: count such statements apart). THE CARD IS WHAT COUNTS. Prove the row's statement (the work); the ties are given (YtfmkmpnomjmdoaaDoorTie.lean); close each card by the builder's one call (the guide's Derived/Test/ToyasCard.lean, 'card_holds'). Laid BY PROGRAM, IN A SANDBOX (cutbox-door.mjs). By AI agents, Wed Nov 11 2026. No macro, syntax, notation, axiom, sorry.
-/
import Derived.Test.YtfmkmpnomjmdoaaDoorRows
import GoSem.ClaimSeven
namespace Go.Proofs.YtfmkmpnomjmdoaaDoor
namespace Rows

/-- THE TIED CARD OF 'laws.FnParseTransactionState'. -/
def fnParseTransactionStateCard : Claim7 := { stood := { row := fnParseTransactionStateRow, standIns := [], harness := (true, "02cbdde15f3439b3875a6625a8aeb1fa4fd50c797f68a87ef3e6bf5348efdd3a"), looks := false }, kinds := [], alts := [], laidByText := true, laidKinds := [.data, .listed, .data, .pinned, .pinned], laidTests := true, laidLooks := .later }
def FnParseTransactionStateCardSaid : Prop := Claim7.holds Tryd.pinned (.plain (OpenSpec.ofChange fnParseTransactionStateSpec)) fnParseTransactionStateCard

/-- THE SECOND FORM's CARD OF 'laws.FnParseTransactionState'. -/
def fnParseTransactionStateUptoCard : Claim7 := { stood := { row := fnParseTransactionStateUptoRow, standIns := [], harness := (true, "02cbdde15f3439b3875a6625a8aeb1fa4fd50c797f68a87ef3e6bf5348efdd3a"), looks := false }, kinds := [], alts := [], laidByText := true, laidKinds := [.data, .listed, .data, .pinned, .pinned], laidTests := true, laidLooks := .later }
def FnParseTransactionStateUptoCardSaid : Prop := Claim7.holds Tryd.pinned (.plain (OpenSpec.upto fnParseTransactionStateSpec)) fnParseTransactionStateUptoCard
end Rows
end Go.Proofs.YtfmkmpnomjmdoaaDoor
