/-
  DERIVED. GIVEN WITH THE SEED: THE CARDS: each row of YtilpolbdofojoaaDoorRows.lean that lists a variable, with what it lists TIED to the program's text (the seventh form; the later family's looks); each row that meets fmt, with fmt's text TOLD by the authors' own Lean function (tested against real Go, not proved from fmt's source: count such statements apart). THE CARD IS WHAT COUNTS. Prove the row's statement (the work); the ties are given (YtilpolbdofojoaaDoorTie.lean); close each card by the builder's one call (the guide's Derived/Test/ToyasCard.lean, 'card_holds'). Laid BY PROGRAM, IN A SANDBOX (cutbox-door.mjs). By AI agents, Wed Nov 11 2026. No macro, syntax, notation, axiom, sorry.
-/
import Derived.Test.YtilpolbdofojoaaDoorRows
import GoSem.ClaimSeven
namespace Go.Proofs.YtilpolbdofojoaaDoor
namespace Rows

/-- THE TIED CARD OF 'laws.FnTextLengthAdded'. -/
def fnTextLengthAddedCard : Claim7 := { stood := { row := fnTextLengthAddedRow, standIns := [], harness := (true, "1f6a9f1b2d5cc7f10ba571ab2216281bda82b3bbac16fe7cf1d42b29470c5988"), looks := true }, kinds := [], alts := [], laidByText := true, laidKinds := [.data, .pinned], laidTests := true, laidLooks := .later }
def FnTextLengthAddedCardSaid : Prop := Claim7.holds Tryd.pinned (.plain (OpenSpec.ofChange fnTextLengthAddedSpec)) fnTextLengthAddedCard

/-- THE SECOND FORM's CARD OF 'laws.FnTextLengthAdded'. -/
def fnTextLengthAddedUptoCard : Claim7 := { stood := { row := fnTextLengthAddedUptoRow, standIns := [], harness := (true, "1f6a9f1b2d5cc7f10ba571ab2216281bda82b3bbac16fe7cf1d42b29470c5988"), looks := true }, kinds := [], alts := [], laidByText := true, laidKinds := [.data, .pinned], laidTests := true, laidLooks := .later }
def FnTextLengthAddedUptoCardSaid : Prop := Claim7.holds Tryd.pinned (.plain (OpenSpec.upto fnTextLengthAddedSpec)) fnTextLengthAddedUptoCard
end Rows
end Go.Proofs.YtilpolbdofojoaaDoor
