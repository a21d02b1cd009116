/-
  DERIVED. GIVEN WITH THE SEED: THE CARDS: each row of YtfblohdfmaankaaGreatDoorRows.lean that lists a variable, with what it lists TIED to the program's text (the seventh form; the later family's looks); each row that meets fmt, with fmt's text TOLD by the authors' own Lean function (tested against real Go, not proved from fmt's source: count such statements apart). THE CARD IS WHAT COUNTS. Prove the row's statement (the work); the ties are given (YtfblohdfmaankaaGreatDoorTie.lean); close each card by the builder's one call (the guide's Derived/Test/ToyasCard.lean, 'card_holds'). Laid BY PROGRAM, IN A SANDBOX (cutbox-door.mjs). By AI agents, Wed Nov 11 2026. No macro, syntax, notation, axiom, sorry.
-/
import Derived.Test.YtfblohdfmaankaaGreatDoorRows
import GoSem.ClaimSeven
namespace Go.Proofs.YtfblohdfmaankaaGreatDoor
namespace Rows

/-- THE TIED CARD OF 'laws.FnTextWritten'. -/
def fnTextWrittenCard : Claim7 := { stood := { row := fnTextWrittenRow, standIns := [], harness := (true, "c0502be4f9b1ccf72b529796d8b9aeafcf62e7a22ada4f0ee7f5283785aed085"), looks := true }, kinds := [], alts := [], laidByText := true, laidKinds := [.data, .sentinel, .pinned], laidTests := true, laidLooks := .later }
def FnTextWrittenCardSaid : Prop := Claim7.holds Tryz.pinned (.plain (OpenSpec.ofChange fnTextWrittenSpec)) fnTextWrittenCard

/-- THE SECOND FORM's CARD OF 'laws.FnTextWritten'. -/
def fnTextWrittenUptoCard : Claim7 := { stood := { row := fnTextWrittenUptoRow, standIns := [], harness := (true, "c0502be4f9b1ccf72b529796d8b9aeafcf62e7a22ada4f0ee7f5283785aed085"), looks := true }, kinds := [], alts := [], laidByText := true, laidKinds := [.data, .sentinel, .pinned], laidTests := true, laidLooks := .later }
def FnTextWrittenUptoCardSaid : Prop := Claim7.holds Tryz.pinned (.plain (OpenSpec.upto fnTextWrittenSpec)) fnTextWrittenUptoCard
end Rows
end Go.Proofs.YtfblohdfmaankaaGreatDoor
