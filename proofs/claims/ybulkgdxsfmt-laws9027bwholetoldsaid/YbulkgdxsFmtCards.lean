/-
  DERIVED. GIVEN WITH THE SEED: THE CARDS: each row of YbulkgdxsFmtRows.lean that lists a variable, with what it lists TIED to the program's text (the seventh form; the later family's looks); each row that meets fmt, with fmt's text TOLD by the authors' own Lean function (tested against real Go, not proved from fmt's source: count such statements apart). THE CARD IS WHAT COUNTS. Prove the row's statement (the work); the ties are given (YbulkgdxsFmtTie.lean); close each card by the builder's one call (the guide's Derived/Test/ToyasCard.lean, 'card_holds'). Laid BY PROGRAM, IN A SANDBOX (cutbox-door.mjs). By AI agents, Wed Nov 11 2026. No macro, syntax, notation, axiom, sorry.
-/
import Derived.Test.YbulkgdxsFmtRows
import GoSem.ClaimSeven
namespace Go.Proofs.YbulkgdxsFmt
namespace Rows

/-- THE TOLD AND TIED CARD OF 'register.LawS9027AWhole'. -/
def lawS9027AWholeCard : Claim7 := { stood := { row := lawS9027AWholeRow, standIns := [], harness := (true, "7e0df62cc2bf6478b2ee3ab49c30724021a71795c5b95703c7de1eb39353e654"), looks := true }, told := true, laidByText := true, laidKinds := [.widerDeep], laidTests := true, laidLooks := .later, goes := false }
def LawS9027AWholeToldSaid : Prop := Claim7.holds Ybaf.pinned (.plain (OpenSpec.ofChange lawS9027AWholeSpec)) lawS9027AWholeCard
/-- ITS FALSE NEIGHBOUR. Refute it at one input. -/
def LawS9027AWholeToldWrongFalsely : Prop := Claim7.holds Ybaf.pinned (.plain (OpenSpec.ofChange lawS9027AWholeWrong)) lawS9027AWholeCard

/-- THE TOLD CARD OF 'register.LawS9027BWhole'. -/
def lawS9027BWholeCard : Claim7 := { stood := { row := lawS9027BWholeRow, standIns := [], harness := (true, "7e0df62cc2bf6478b2ee3ab49c30724021a71795c5b95703c7de1eb39353e654"), looks := true }, told := true, goes := false }
def LawS9027BWholeToldSaid : Prop := Claim7.holds Ybaf.pinned (.plain (OpenSpec.ofChange lawS9027BWholeSpec)) lawS9027BWholeCard
/-- ITS FALSE NEIGHBOUR. Refute it at one input. -/
def LawS9027BWholeToldWrongFalsely : Prop := Claim7.holds Ybaf.pinned (.plain (OpenSpec.ofChange lawS9027BWholeWrong)) lawS9027BWholeCard
end Rows
end Go.Proofs.YbulkgdxsFmt
