/-
  NARROWER THAN 'FOR EVERY INPUT', by the rows' own cells (each row's printed sentence says how): LawS9027AWhole: laid.
  DERIVED. THE GIVEN ROWS OF THIS SEAT. 2 by the template 'for every input the law returns true; each argument reads behind the call as it read before'; 0 by the template 'total and deterministic' (their statements: YbulkgdxsFmtTotals.lean).
  GIVEN WITH THE SEED: the statements are not yours to turn. If you find one false, say at which input.
  Laid BY PROGRAM, IN A SANDBOX (cutbox-rows.mjs): the forced cells as the released guide's own fill.sh prints them over the translation 1fcfed5ad3a188ef… (all of the seat's roots in one cut). By AI agents, Wed Nov 11 2026. No macro, syntax, notation, axiom, sorry.
-/
import Derived.Test.YbulkgdxsFmtChecked
import GoSem.Claim
import GoSem.ClaimJoined
import GoSem.ClaimMapViews
import Derived.JoinedTies
import Derived.KernelRfl
namespace Go.Proofs.YbulkgdxsFmt
/- THE CELL 'sum', in the pinned program and in every row, IS THE sha256 OF THE DUMP (.gsa) THAT YbulkgdxsFmtProg.lean LOADS. Nothing in Lean hashes anything: it is a label: what it is worth is what the hold of that sum in a sandbox is worth. -/
noncomputable def Ybaf.pinned : Pinned := { name := "ybulkgdxsfmt", sum := "1fcfed5ad3a188eff39ff72da91b9817eab833ca2b511f87a5acf2e85f908e36", checked := Ybaf.checked }
namespace Rows
def none {H : Type} : Left H := { results := [], args := [] }

/- WHAT THE LISTED PACKAGE-LEVEL VARIABLES READ AS WHEN THE CALL BEGINS. Each datum BY PROGRAM (the guide's laid-datum.mjs) off the statement by which the dump's own 'gosem.cut.vars' lays the variable. In a bare row this is a premise. The card (YbulkgdxsFmtCards.lean) ties it to the program's text. -/
def laid_example_com_zhaomu_zhaomu_internal_register_markNames {H : Type} : DataW H := .agg [.lit (.string [112, 117, 114, 99, 104, 97, 115, 101, 100]), .lit (.string [114, 101, 105, 110, 118, 101, 115, 116])]

/-- 'register.LawS9027AWhole': WHATEVER THE INPUT: true; the input reads as it did. -/
def lawS9027AWholeSpec : ChangeSpec := { name := "lawS9027AWhole", vars := ["example.com/zhaomu/zhaomu/internal/register.markNames"], fn := fun _ => fun
  | [d, g1] => { results := [.lit (.bool true)], args := [d], vars := [g1] }
  | _ => none }
def lawS9027AWholeRow : OpenClaim := { program := "ybulkgdxsfmt", sum := "1fcfed5ad3a188eff39ff72da91b9817eab833ca2b511f87a5acf2e85f908e36", func := "example.com/zhaomu/zhaomu/internal/register.LawS9027AWhole", spec := "lawS9027AWhole", stops := ["fmt.errorf, its operands' methods called", "fmt.Sprintf"], inPlace := ["fmt.errorf"], unfollowed := true, recurses := true, named := ["example.com/zhaomu/zhaomu/internal/register.markNames"], apart := false, laid := [("example.com/zhaomu/zhaomu/internal/register.markNames", laid_example_com_zhaomu_zhaomu_internal_register_markNames)] }
/-- NO THEOREM (fmt's text is open here; it may be false): for the released tool's asking of the row's closed facts alone. THE STATEMENT IS 'LawS9027AWholeToldSaid' (YbulkgdxsFmtCards.lean). -/
def LawS9027AWholeFormAsk : Prop := lawS9027AWholeRow.holds Ybaf.pinned (OpenSpec.ofChange lawS9027AWholeSpec)

/-- ITS FALSE NEIGHBOUR: 'it returns false'. Refute it at one input. -/
def lawS9027AWholeWrong : ChangeSpec := { name := "lawS9027AWhole", vars := ["example.com/zhaomu/zhaomu/internal/register.markNames"], fn := fun _ => fun
  | [d, g1] => { results := [.lit (.bool false)], args := [d], vars := [g1] }
  | _ => none }
def LawS9027AWholeWrongFormAsk : Prop := lawS9027AWholeRow.holds Ybaf.pinned (OpenSpec.ofChange lawS9027AWholeWrong)

/-- 'register.LawS9027BWhole': WHATEVER THE INPUT: true; the input reads as it did. -/
def lawS9027BWholeSpec : ChangeSpec := { name := "lawS9027BWhole", fn := fun _ => fun
  | [d1, d2, d3, d4, d5, d6] => { results := [.lit (.bool true)], args := [d1, d2, d3, d4, d5, d6] }
  | _ => none }
def lawS9027BWholeRow : OpenClaim := { program := "ybulkgdxsfmt", sum := "1fcfed5ad3a188eff39ff72da91b9817eab833ca2b511f87a5acf2e85f908e36", func := "example.com/zhaomu/zhaomu/internal/register.LawS9027BWhole", spec := "lawS9027BWhole", stops := ["fmt.errorf, its operands' methods called", "fmt.Sprintf"], inPlace := ["fmt.errorf"], unfollowed := true, recurses := true, apart := false }
/-- NO THEOREM (fmt's text is open here; it may be false): for the released tool's asking of the row's closed facts alone. THE STATEMENT IS 'LawS9027BWholeToldSaid' (YbulkgdxsFmtCards.lean). -/
def LawS9027BWholeFormAsk : Prop := lawS9027BWholeRow.holds Ybaf.pinned (OpenSpec.ofChange lawS9027BWholeSpec)

/-- ITS FALSE NEIGHBOUR: 'it returns false'. Refute it at one input. -/
def lawS9027BWholeWrong : ChangeSpec := { name := "lawS9027BWhole", fn := fun _ => fun
  | [d1, d2, d3, d4, d5, d6] => { results := [.lit (.bool false)], args := [d1, d2, d3, d4, d5, d6] }
  | _ => none }
def LawS9027BWholeWrongFormAsk : Prop := lawS9027BWholeRow.holds Ybaf.pinned (OpenSpec.ofChange lawS9027BWholeWrong)

end Rows
end Go.Proofs.YbulkgdxsFmt
