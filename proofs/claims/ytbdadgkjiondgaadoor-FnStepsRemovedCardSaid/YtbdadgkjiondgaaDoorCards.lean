/-
  DERIVED. GIVEN WITH THE SEED: THE CARDS: each row of YtbdadgkjiondgaaDoorRows.lean that lists a variable, with what it lists TIED to the program's text (the seventh form; the later family's looks); each row that meets fmt, with fmt's text TOLD by the authors' own Lean function (tested against real Go, not proved from fmt's source: count such statements apart). THE CARD IS WHAT COUNTS. Prove the row's statement (the work); the ties are given (YtbdadgkjiondgaaDoorTie.lean); close each card by the builder's one call (the guide's Derived/Test/ToyasCard.lean, 'card_holds'). Laid BY PROGRAM, IN A SANDBOX (cutbox-door.mjs). By AI agents, Wed Nov 11 2026. No macro, syntax, notation, axiom, sorry.
-/
import Derived.Test.YtbdadgkjiondgaaDoorRows
import GoSem.ClaimSeven
namespace Go.Proofs.YtbdadgkjiondgaaDoor
namespace Rows

/-- THE TIED CARD OF 'laws.FnSeen'. -/
def fnSeenCard : Claim7 := { stood := { row := fnSeenRow, standIns := [], harness := (true, "172b1c001eb1a1fff09a854c0af3f84ae7e7811f12d1052c09ae2224babebaf4"), looks := true }, kinds := [], alts := [], laidByText := true, laidKinds := [.data, .pinned], laidTests := true, laidLooks := .later }
def FnSeenCardSaid : Prop := Claim7.holds Tryd.pinned (.plain (OpenSpec.ofChange fnSeenSpec)) fnSeenCard

/-- THE TIED CARD OF 'laws.FnStepsRemoved'. -/
def fnStepsRemovedCard : Claim7 := { stood := { row := fnStepsRemovedRow, standIns := [], harness := (true, "172b1c001eb1a1fff09a854c0af3f84ae7e7811f12d1052c09ae2224babebaf4"), looks := true }, kinds := [], alts := [], laidByText := true, laidKinds := [.data, .pinned], laidTests := true, laidLooks := .later }
def FnStepsRemovedCardSaid : Prop := Claim7.holds Tryd.pinned (.plain (OpenSpec.ofChange fnStepsRemovedSpec)) fnStepsRemovedCard

/-- THE SECOND FORM's CARD OF 'laws.FnSeen'. -/
def fnSeenUptoCard : Claim7 := { stood := { row := fnSeenUptoRow, standIns := [], harness := (true, "172b1c001eb1a1fff09a854c0af3f84ae7e7811f12d1052c09ae2224babebaf4"), looks := true }, kinds := [], alts := [], laidByText := true, laidKinds := [.data, .pinned], laidTests := true, laidLooks := .later }
def FnSeenUptoCardSaid : Prop := Claim7.holds Tryd.pinned (.plain (OpenSpec.upto fnSeenSpec)) fnSeenUptoCard

/-- THE SECOND FORM's CARD OF 'laws.FnStepsRemoved'. -/
def fnStepsRemovedUptoCard : Claim7 := { stood := { row := fnStepsRemovedUptoRow, standIns := [], harness := (true, "172b1c001eb1a1fff09a854c0af3f84ae7e7811f12d1052c09ae2224babebaf4"), looks := true }, kinds := [], alts := [], laidByText := true, laidKinds := [.data, .pinned], laidTests := true, laidLooks := .later }
def FnStepsRemovedUptoCardSaid : Prop := Claim7.holds Tryd.pinned (.plain (OpenSpec.upto fnStepsRemovedSpec)) fnStepsRemovedUptoCard
end Rows
end Go.Proofs.YtbdadgkjiondgaaDoor
