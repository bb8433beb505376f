/-
  No cell of these rows narrows 'for every input' (looked for: loops, veiled, ifaces, maps, wideKeys, modest, calm, conditions, laid).
  DERIVED. THE GIVEN ROWS OF THIS SEAT. 2 by the template 'for every input the law returns true; each argument reads behind the call as it read before'; 0 by the template 'total and deterministic' (their statements: YbulkgdpcTotals.lean).
  GIVEN WITH THE SEED: the statements are not yours to turn. If you find one false, say at which input.
  Laid BY PROGRAM, IN A SANDBOX (cutbox-rows.mjs): the forced cells as the released guide's own fill.sh prints them over the translation 521b180fb6e48f38… (all of the seat's roots in one cut). By AI agents, Wed Nov 11 2026. No macro, syntax, notation, axiom, sorry.
-/
import Derived.Test.YbulkgdpcChecked
import GoSem.Claim
import GoSem.ClaimJoined
import GoSem.ClaimMapViews
import Derived.JoinedTies
import Derived.KernelRfl
namespace Go.Proofs.Ybulkgdpc
/- THE CELL 'sum', in the pinned program and in every row, IS THE sha256 OF THE DUMP (.gsa) THAT YbulkgdpcProg.lean LOADS. Nothing in Lean hashes anything: it is a label: what it is worth is what the hold of that sum in a sandbox is worth. -/
noncomputable def Yba.pinned : Pinned := { name := "ybulkgdpc", sum := "521b180fb6e48f381842925bbb1a4f20b82301bafb67374d10fd3c9505ebc8b4", checked := Yba.checked }
namespace Rows
def none {H : Type} : Left H := { results := [], args := [] }

/-- 'sim.LawS9011AWhole': WHATEVER THE INPUT: true; the input reads as it did. -/
def lawS9011AWholeSpec : ChangeSpec := { name := "lawS9011AWhole", fn := fun _ => fun
  | [d1, d2, d3, d4, d5, d6] => { results := [.lit (.bool true)], args := [d1, d2, d3, d4, d5, d6] }
  | _ => none }
def lawS9011AWholeRow : OpenClaim := { program := "ybulkgdpc", sum := "521b180fb6e48f381842925bbb1a4f20b82301bafb67374d10fd3c9505ebc8b4", func := "example.com/triquorum/triquorum/internal/sim.LawS9011AWhole", spec := "lawS9011AWhole", apart := false }
def LawS9011AWholeSaid : Prop := lawS9011AWholeRow.holds Yba.pinned (OpenSpec.ofChange lawS9011AWholeSpec)

/-- ITS FALSE NEIGHBOUR: 'it returns false'. Refute it at one input. -/
def lawS9011AWholeWrong : ChangeSpec := { name := "lawS9011AWhole", fn := fun _ => fun
  | [d1, d2, d3, d4, d5, d6] => { results := [.lit (.bool false)], args := [d1, d2, d3, d4, d5, d6] }
  | _ => none }
def LawS9011AWholeWrongFalsely : Prop := lawS9011AWholeRow.holds Yba.pinned (OpenSpec.ofChange lawS9011AWholeWrong)

/-- 'sim.LawS9011CWhole': WHATEVER THE INPUT: true; the input reads as it did. -/
def lawS9011CWholeSpec : ChangeSpec := { name := "lawS9011CWhole", fn := fun _ => fun
  | [d1, d2] => { results := [.lit (.bool true)], args := [d1, d2] }
  | _ => none }
def lawS9011CWholeRow : OpenClaim := { program := "ybulkgdpc", sum := "521b180fb6e48f381842925bbb1a4f20b82301bafb67374d10fd3c9505ebc8b4", func := "example.com/triquorum/triquorum/internal/sim.LawS9011CWhole", spec := "lawS9011CWhole", apart := false }
def LawS9011CWholeSaid : Prop := lawS9011CWholeRow.holds Yba.pinned (OpenSpec.ofChange lawS9011CWholeSpec)

/-- ITS FALSE NEIGHBOUR: 'it returns false'. Refute it at one input. -/
def lawS9011CWholeWrong : ChangeSpec := { name := "lawS9011CWhole", fn := fun _ => fun
  | [d1, d2] => { results := [.lit (.bool false)], args := [d1, d2] }
  | _ => none }
def LawS9011CWholeWrongFalsely : Prop := lawS9011CWholeRow.holds Yba.pinned (OpenSpec.ofChange lawS9011CWholeWrong)

end Rows
end Go.Proofs.Ybulkgdpc
