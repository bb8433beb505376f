/-
  DERIVED. GIVEN WITH THE SEED: THE CARDS: each row of YbulkgdpcDoorRows.lean that lists a variable, with what it lists TIED to the program's text (the seventh form; the later family's looks); each row that meets fmt, with fmt's text TOLD by the authors' own Lean function (tested against real Go, not proved from fmt's source: count such statements apart). THE CARD IS WHAT COUNTS. Prove the row's statement (the work); the ties are given (YbulkgdpcDoorTie.lean); close each card by the builder's one call (the guide's Derived/Test/ToyasCard.lean, 'card_holds'). Laid BY PROGRAM, IN A SANDBOX (cutbox-door.mjs). By AI agents, Wed Nov 11 2026. No macro, syntax, notation, axiom, sorry.
-/
import Derived.Test.YbulkgdpcDoorRows
import GoSem.ClaimSeven
namespace Go.Proofs.YbulkgdpcDoor
namespace Rows

/-- THE TIED CARD OF 'order.LawS9011BWhole'. -/
def lawS9011BWholeCard : Claim7 := { stood := { row := lawS9011BWholeRow, standIns := [], harness := (true, "db805fb22e4f239314340270ae0a403ee6b998dcc9d490f6e54cb05634ee88f1"), looks := true }, kinds := [], alts := [], laidByText := true, laidKinds := [.sentinel, .sentinel, .sentinel], laidTests := true, laidLooks := .later }
def LawS9011BWholeCardSaid : Prop := Claim7.holds Ybad.pinned (.plain (OpenSpec.ofChange lawS9011BWholeSpec)) lawS9011BWholeCard

/-- THE TIED CARD OF 'order.LawS9011BEncoded'. -/
def lawS9011BEncodedCard : Claim7 := { stood := { row := lawS9011BEncodedRow, standIns := [], harness := (true, "db805fb22e4f239314340270ae0a403ee6b998dcc9d490f6e54cb05634ee88f1"), looks := true }, kinds := [], alts := [], laidByText := true, laidKinds := [.sentinel, .sentinel, .sentinel], laidTests := true, laidLooks := .later }
def LawS9011BEncodedCardSaid : Prop := Claim7.holds Ybad.pinned (.plain (OpenSpec.ofChange lawS9011BEncodedSpec)) lawS9011BEncodedCard
end Rows
end Go.Proofs.YbulkgdpcDoor
