/-
  No cell of these rows narrows 'for every input' (looked for: loops, veiled, ifaces, maps, wideKeys, modest, calm, conditions, laid).
  DERIVED. THE GIVEN ROWS OF THIS SEAT. 1 by the template 'for every input the law returns true; each argument reads behind the call as it read before'; 0 by the template 'total and deterministic' (their statements: YbulkgdxeTotals.lean).
  GIVEN WITH THE SEED: the statements are not yours to turn. If you find one false, say at which input.
  Laid BY PROGRAM, IN A SANDBOX (cutbox-rows.mjs): the forced cells as the released guide's own fill.sh prints them over the translation ed26def8611d744b… (all of the seat's roots in one cut). By AI agents, Wed Nov 11 2026. No macro, syntax, notation, axiom, sorry.
-/
import Derived.Test.YbulkgdxeChecked
import GoSem.Claim
import GoSem.ClaimJoined
import GoSem.ClaimMapViews
import Derived.JoinedTies
import Derived.KernelRfl
namespace Go.Proofs.Ybulkgdxe
/- THE CELL 'sum', in the pinned program and in every row, IS THE sha256 OF THE DUMP (.gsa) THAT YbulkgdxeProg.lean LOADS. Nothing in Lean hashes anything: it is a label: what it is worth is what the hold of that sum in a sandbox is worth. -/
noncomputable def Yba.pinned : Pinned := { name := "ybulkgdxe", sum := "ed26def8611d744b0a56c5b11e72ab41d5781f5be4bd58845912a897e4b59ee9", checked := Yba.checked }
namespace Rows
def none {H : Type} : Left H := { results := [], args := [] }

/-- 'lenfold.LawS9026BWhole': WHATEVER THE INPUT: true; the input reads as it did. -/
def lawS9026BWholeSpec : ChangeSpec := { name := "lawS9026BWhole", fn := fun _ => fun
  | [d] => { results := [.lit (.bool true)], args := [d] }
  | _ => none }
def lawS9026BWholeRow : OpenClaim := { program := "ybulkgdxe", sum := "ed26def8611d744b0a56c5b11e72ab41d5781f5be4bd58845912a897e4b59ee9", func := "example.com/lenfold/lenfold.LawS9026BWhole", spec := "lawS9026BWhole", apart := false }
def LawS9026BWholeSaid : Prop := lawS9026BWholeRow.holds Yba.pinned (OpenSpec.ofChange lawS9026BWholeSpec)

/-- ITS FALSE NEIGHBOUR: 'it returns false'. Refute it at one input. -/
def lawS9026BWholeWrong : ChangeSpec := { name := "lawS9026BWhole", fn := fun _ => fun
  | [d] => { results := [.lit (.bool false)], args := [d] }
  | _ => none }
def LawS9026BWholeWrongFalsely : Prop := lawS9026BWholeRow.holds Yba.pinned (OpenSpec.ofChange lawS9026BWholeWrong)

end Rows
end Go.Proofs.Ybulkgdxe
