/-
  DERIVED. GIVEN WITH THE SEED: THE CARDS: each row of YbulkeaqaDoorRows.lean that lists a variable, with what it lists TIED to the program's text (the seventh form; the later family's looks); each row that meets fmt, with fmt's text TOLD by the authors' own Lean function (tested against real Go, not proved from fmt's source: count such statements apart). THE CARD IS WHAT COUNTS. Prove the row's statement (the work); the ties are given (YbulkeaqaDoorTie.lean); close each card by the builder's one call (the guide's Derived/Test/ToyasCard.lean, 'card_holds'). Laid BY PROGRAM, IN A SANDBOX (cutbox-door.mjs). By AI agents, Wed Nov 11 2026. No macro, syntax, notation, axiom, sorry.
-/
import Derived.Test.YbulkeaqaDoorRows
import GoSem.ClaimSeven
namespace Go.Proofs.YbulkeaqaDoor
namespace Rows

/-- THE TIED CARD OF 'driftmap.LawS6357AWhole'. -/
def lawS6357AWholeCard : Claim7 := { stood := { row := lawS6357AWholeRow, standIns := [], harness := (true, "b7be59032f8f17762a2a2f77199e88065731db1c18eab9414718991a4f6a8c3a"), looks := false }, kinds := [], alts := [], laidByText := true, laidKinds := [.data, .data], laidTests := true, laidLooks := .later }
def LawS6357AWholeCardSaid : Prop := Claim7.holds Ybad.pinned (.plain (OpenSpec.ofChange lawS6357AWholeSpec)) lawS6357AWholeCard
end Rows
end Go.Proofs.YbulkeaqaDoor
