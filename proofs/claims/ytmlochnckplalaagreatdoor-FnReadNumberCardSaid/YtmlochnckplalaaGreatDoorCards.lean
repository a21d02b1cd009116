/-
  DERIVED. GIVEN WITH THE SEED: THE CARDS: each row of YtmlochnckplalaaGreatDoorRows.lean that lists a variable, with what it lists TIED to the program's text (the seventh form; the later family's looks); each row that meets fmt, with fmt's text TOLD by the authors' own Lean function (tested against real Go, not proved from fmt's source: count such statements apart). THE CARD IS WHAT COUNTS. Prove the row's statement (the work); the ties are given (YtmlochnckplalaaGreatDoorTie.lean); close each card by the builder's one call (the guide's Derived/Test/ToyasCard.lean, 'card_holds'). Laid BY PROGRAM, IN A SANDBOX (cutbox-door.mjs). By AI agents, Wed Nov 11 2026. No macro, syntax, notation, axiom, sorry.
-/
import Derived.Test.YtmlochnckplalaaGreatDoorRows
import GoSem.ClaimSeven
namespace Go.Proofs.YtmlochnckplalaaGreatDoor
namespace Rows

/-- THE TIED CARD OF 'laws.FnReadNumber'. -/
def fnReadNumberCard : Claim7 := { stood := { row := fnReadNumberRow, standIns := [], harness := (true, "58872df9b07c59b38f51681ec1acc186fe839d3fd886a218ed7bfe84830f1351"), looks := true }, kinds := [], alts := [], laidByText := true, laidKinds := [.data, .pinned], laidTests := true, laidLooks := .later }
def FnReadNumberCardSaid : Prop := Claim7.holds Tryz.pinned (.plain (OpenSpec.ofChange fnReadNumberSpec)) fnReadNumberCard

/-- THE SECOND FORM's CARD OF 'laws.FnReadNumber'. -/
def fnReadNumberUptoCard : Claim7 := { stood := { row := fnReadNumberUptoRow, standIns := [], harness := (true, "58872df9b07c59b38f51681ec1acc186fe839d3fd886a218ed7bfe84830f1351"), looks := true }, kinds := [], alts := [], laidByText := true, laidKinds := [.data, .pinned], laidTests := true, laidLooks := .later }
def FnReadNumberUptoCardSaid : Prop := Claim7.holds Tryz.pinned (.plain (OpenSpec.upto fnReadNumberSpec)) fnReadNumberUptoCard
end Rows
end Go.Proofs.YtmlochnckplalaaGreatDoor
