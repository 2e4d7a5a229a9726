/-
  DERIVED. GIVEN WITH THE SEED: THE CARDS: each row of YbulkdjhiDoorRows.lean that lists a variable, with what it lists TIED to the program's text (the seventh form; the later family's looks); each row that meets fmt, with fmt's text TOLD by the authors' own Lean function (tested against real Go, not proved from fmt's source: count such statements apart). THE CARD IS WHAT COUNTS. Prove the row's statement (the work); the ties are given (YbulkdjhiDoorTie.lean); close each card by the builder's one call (the guide's Derived/Test/ToyasCard.lean, 'card_holds'). Laid BY PROGRAM, IN A SANDBOX (cutbox-door.mjs). By AI agents, Wed Nov 11 2026. No macro, syntax, notation, axiom, sorry.
-/
import Derived.Test.YbulkdjhiDoorRows
import GoSem.ClaimSeven
namespace Go.Proofs.YbulkdjhiDoor
namespace Rows

/-- THE TIED CARD OF 'octetwise.LawS5520AWhole'. -/
def lawS5520AWholeCard : Claim7 := { stood := { row := lawS5520AWholeRow, standIns := [], harness := (true, "c1e098513d00535a3e386acb4206bb8a3a0e5d957ba0669d7ca3b7fb2dca70f1"), looks := false }, kinds := [], alts := [], laidByText := true, laidKinds := [.data], laidTests := true, laidLooks := .later }
def LawS5520AWholeCardSaid : Prop := Claim7.holds Ybad.pinned (.plain (OpenSpec.ofChange lawS5520AWholeSpec)) lawS5520AWholeCard
end Rows
end Go.Proofs.YbulkdjhiDoor
