/-
  DERIVED. GIVEN WITH THE SEED: THE CARDS: each row of YtmlochnckplalaaDoorRows.lean that lists a variable, with what it lists TIED to the program's text (the seventh form; the later family's looks); each row that meets fmt, with fmt's text TOLD by the authors' own Lean function (tested against real Go, not proved from fmt's source: count such statements apart). THE CARD IS WHAT COUNTS. Prove the row's statement (the work); the ties are given (YtmlochnckplalaaDoorTie.lean); close each card by the builder's one call (the guide's Derived/Test/ToyasCard.lean, 'card_holds'). Laid BY PROGRAM, IN A SANDBOX (cutbox-door.mjs). By AI agents, Wed Nov 11 2026. No macro, syntax, notation, axiom, sorry.
-/
import Derived.Test.YtmlochnckplalaaDoorRows
import GoSem.ClaimSeven
namespace Go.Proofs.YtmlochnckplalaaDoor
namespace Rows

/-- THE TIED CARD OF 'laws.FnIgnored'. -/
def fnIgnoredCard : Claim7 := { stood := { row := fnIgnoredRow, standIns := [], harness := (true, "368426cbfcce46b6aaf78f9e041d3b4744436466b373858393eef9d33d1e94bc"), looks := false }, kinds := [], alts := [], laidByText := true, laidKinds := [.data, .pinned], laidTests := true, laidLooks := .later }
def FnIgnoredCardSaid : Prop := Claim7.holds Tryd.pinned (.plain (OpenSpec.ofChange fnIgnoredSpec)) fnIgnoredCard

/-- THE SECOND FORM's CARD OF 'laws.FnIgnored'. -/
def fnIgnoredUptoCard : Claim7 := { stood := { row := fnIgnoredUptoRow, standIns := [], harness := (true, "368426cbfcce46b6aaf78f9e041d3b4744436466b373858393eef9d33d1e94bc"), looks := false }, kinds := [], alts := [], laidByText := true, laidKinds := [.data, .pinned], laidTests := true, laidLooks := .later }
def FnIgnoredUptoCardSaid : Prop := Claim7.holds Tryd.pinned (.plain (OpenSpec.upto fnIgnoredSpec)) fnIgnoredUptoCard
end Rows
end Go.Proofs.YtmlochnckplalaaDoor
