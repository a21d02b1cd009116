/-
  DERIVED. GIVEN WITH THE SEED: THE CARDS: each row of YthgcghpcikbnkaaGreatDoorRows.lean that lists a variable, with what it lists TIED to the program's text (the seventh form; the later family's looks); each row that meets fmt, with fmt's text TOLD by the authors' own Lean function (tested against real Go, not proved from fmt's source: count such statements apart). THE CARD IS WHAT COUNTS. Prove the row's statement (the work); the ties are given (YthgcghpcikbnkaaGreatDoorTie.lean); close each card by the builder's one call (the guide's Derived/Test/ToyasCard.lean, 'card_holds'). Laid BY PROGRAM, IN A SANDBOX (cutbox-door.mjs). By AI agents, Wed Nov 11 2026. No macro, syntax, notation, axiom, sorry.
-/
import Derived.Test.YthgcghpcikbnkaaGreatDoorRows
import GoSem.ClaimSeven
namespace Go.Proofs.YthgcghpcikbnkaaGreatDoor
namespace Rows

/-- THE TIED CARD OF 'laws.FnReadVariables'. -/
def fnReadVariablesCard : Claim7 := { stood := { row := fnReadVariablesRow, standIns := [], harness := (true, "86ac901a377b4eef047a184786c63845c0bd0bff9b5e05fb1f6e49f1e059b1c7"), looks := true }, kinds := [], alts := [], laidByText := true, laidKinds := [.data, .sentinel, .pinned], laidTests := true, laidLooks := .later }
def FnReadVariablesCardSaid : Prop := Claim7.holds Tryz.pinned (.plain (OpenSpec.ofChange fnReadVariablesSpec)) fnReadVariablesCard

/-- THE TIED CARD OF 'laws.FnReadSelections'. -/
def fnReadSelectionsCard : Claim7 := { stood := { row := fnReadSelectionsRow, standIns := [], harness := (true, "86ac901a377b4eef047a184786c63845c0bd0bff9b5e05fb1f6e49f1e059b1c7"), looks := true }, kinds := [], alts := [], laidByText := true, laidKinds := [.data, .sentinel, .pinned], laidTests := true, laidLooks := .later }
def FnReadSelectionsCardSaid : Prop := Claim7.holds Tryz.pinned (.plain (OpenSpec.ofChange fnReadSelectionsSpec)) fnReadSelectionsCard

/-- THE SECOND FORM's CARD OF 'laws.FnReadVariables'. -/
def fnReadVariablesUptoCard : Claim7 := { stood := { row := fnReadVariablesUptoRow, standIns := [], harness := (true, "86ac901a377b4eef047a184786c63845c0bd0bff9b5e05fb1f6e49f1e059b1c7"), looks := true }, kinds := [], alts := [], laidByText := true, laidKinds := [.data, .sentinel, .pinned], laidTests := true, laidLooks := .later }
def FnReadVariablesUptoCardSaid : Prop := Claim7.holds Tryz.pinned (.plain (OpenSpec.upto fnReadVariablesSpec)) fnReadVariablesUptoCard

/-- THE SECOND FORM's CARD OF 'laws.FnReadSelections'. -/
def fnReadSelectionsUptoCard : Claim7 := { stood := { row := fnReadSelectionsUptoRow, standIns := [], harness := (true, "86ac901a377b4eef047a184786c63845c0bd0bff9b5e05fb1f6e49f1e059b1c7"), looks := true }, kinds := [], alts := [], laidByText := true, laidKinds := [.data, .sentinel, .pinned], laidTests := true, laidLooks := .later }
def FnReadSelectionsUptoCardSaid : Prop := Claim7.holds Tryz.pinned (.plain (OpenSpec.upto fnReadSelectionsSpec)) fnReadSelectionsUptoCard
end Rows
end Go.Proofs.YthgcghpcikbnkaaGreatDoor
