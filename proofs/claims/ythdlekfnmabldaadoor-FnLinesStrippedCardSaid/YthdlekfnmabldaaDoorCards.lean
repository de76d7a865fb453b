/-
  DERIVED. GIVEN WITH THE SEED: THE CARDS: each row of YthdlekfnmabldaaDoorRows.lean that lists a variable, with what it lists TIED to the program's text (the seventh form; the later family's looks); each row that meets fmt, with fmt's text TOLD by the authors' own Lean function (tested against real Go, not proved from fmt's source: count such statements apart). THE CARD IS WHAT COUNTS. Prove the row's statement (the work); the ties are given (YthdlekfnmabldaaDoorTie.lean); close each card by the builder's one call (the guide's Derived/Test/ToyasCard.lean, 'card_holds'). Laid BY PROGRAM, IN A SANDBOX (cutbox-door.mjs). By AI agents, Wed Nov 11 2026. No macro, syntax, notation, axiom, sorry.
-/
import Derived.Test.YthdlekfnmabldaaDoorRows
import GoSem.ClaimSeven
namespace Go.Proofs.YthdlekfnmabldaaDoor
namespace Rows

/-- THE TIED CARD OF 'laws.FnLinesStripped'. -/
def fnLinesStrippedCard : Claim7 := { stood := { row := fnLinesStrippedRow, standIns := [], harness := (true, "d6752542154252d45d597b621b8b4688dfa833b6eea025edbf85e8beaad6cd41"), looks := false }, kinds := [], alts := [], laidByText := true, laidKinds := [.sentinel], laidTests := true, laidLooks := .later }
def FnLinesStrippedCardSaid : Prop := Claim7.holds Tryd.pinned (.plain (OpenSpec.ofChange fnLinesStrippedSpec)) fnLinesStrippedCard

/-- THE SECOND FORM's CARD OF 'laws.FnLinesStripped'. -/
def fnLinesStrippedUptoCard : Claim7 := { stood := { row := fnLinesStrippedUptoRow, standIns := [], harness := (true, "d6752542154252d45d597b621b8b4688dfa833b6eea025edbf85e8beaad6cd41"), looks := false }, kinds := [], alts := [], laidByText := true, laidKinds := [.sentinel], laidTests := true, laidLooks := .later }
def FnLinesStrippedUptoCardSaid : Prop := Claim7.holds Tryd.pinned (.plain (OpenSpec.upto fnLinesStrippedSpec)) fnLinesStrippedUptoCard
end Rows
end Go.Proofs.YthdlekfnmabldaaDoor
