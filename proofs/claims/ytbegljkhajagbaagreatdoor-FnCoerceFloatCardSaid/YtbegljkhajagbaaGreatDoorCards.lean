/-
  DERIVED. GIVEN WITH THE SEED: THE CARDS: each row of YtbegljkhajagbaaGreatDoorRows.lean that lists a variable, with what it lists TIED to the program's text (the seventh form; the later family's looks); each row that meets fmt, with fmt's text TOLD by the authors' own Lean function (tested against real Go, not proved from fmt's source: count such statements apart). THE CARD IS WHAT COUNTS. Prove the row's statement (the work); the ties are given (YtbegljkhajagbaaGreatDoorTie.lean); close each card by the builder's one call (the guide's Derived/Test/ToyasCard.lean, 'card_holds'). Laid BY PROGRAM, IN A SANDBOX (cutbox-door.mjs). By AI agents, Wed Nov 11 2026. No macro, syntax, notation, axiom, sorry.
-/
import Derived.Test.YtbegljkhajagbaaGreatDoorRows
import GoSem.ClaimSeven
namespace Go.Proofs.YtbegljkhajagbaaGreatDoor
namespace Rows

/-- THE TIED CARD OF 'laws.FnCoerceFloat'. -/
def fnCoerceFloatCard : Claim7 := { stood := { row := fnCoerceFloatRow, standIns := [], harness := (true, "e3e170ff318bc6926e467b11c58739c9f39410752866924acbe3d98c5e10d61a"), looks := true }, kinds := [], alts := [], laidByText := true, laidKinds := [.data, .data, .widerDeep, .widerDeep, .data, .data, .data, .data, .data, .sentinel, .sentinel, .pinned, .pinned], laidTests := true, laidLooks := .later }
def FnCoerceFloatCardSaid : Prop := Claim7.holds Tryz.pinned (.plain (OpenSpec.ofChange fnCoerceFloatSpec)) fnCoerceFloatCard

/-- THE SECOND FORM's CARD OF 'laws.FnCoerceFloat'. -/
def fnCoerceFloatUptoCard : Claim7 := { stood := { row := fnCoerceFloatUptoRow, standIns := [], harness := (true, "e3e170ff318bc6926e467b11c58739c9f39410752866924acbe3d98c5e10d61a"), looks := true }, kinds := [], alts := [], laidByText := true, laidKinds := [.data, .data, .widerDeep, .widerDeep, .data, .data, .data, .data, .data, .sentinel, .sentinel, .pinned, .pinned], laidTests := true, laidLooks := .later }
def FnCoerceFloatUptoCardSaid : Prop := Claim7.holds Tryz.pinned (.plain (OpenSpec.upto fnCoerceFloatSpec)) fnCoerceFloatUptoCard
end Rows
end Go.Proofs.YtbegljkhajagbaaGreatDoor
