/-
  NARROWER THAN 'FOR EVERY INPUT', by the rows' own cells (each row's printed sentence says how): LawS9011BWhole: laid · LawS9011BEncoded: laid.
  DERIVED. THE GIVEN ROWS OF THIS SEAT. 2 by the template 'for every input the law returns true; each argument reads behind the call as it read before'; 0 by the template 'total and deterministic' (their statements: YbulkgdpcDoorTotals.lean).
  GIVEN WITH THE SEED: the statements are not yours to turn. If you find one false, say at which input.
  Laid BY PROGRAM, IN A SANDBOX (cutbox-rows.mjs): the forced cells as the released guide's own fill.sh prints them over the translation 19f2ceb59842967d… (all of the seat's roots in one cut). By AI agents, Wed Nov 11 2026. No macro, syntax, notation, axiom, sorry.
-/
import Derived.Test.YbulkgdpcDoorChecked
import GoSem.Claim
import GoSem.ClaimJoined
import GoSem.ClaimMapViews
import Derived.JoinedTies
import Derived.KernelRfl
namespace Go.Proofs.YbulkgdpcDoor
/- THE CELL 'sum', in the pinned program and in every row, IS THE sha256 OF THE DUMP (.gsa) THAT YbulkgdpcDoorProg.lean LOADS. Nothing in Lean hashes anything: it is a label: what it is worth is what the hold of that sum in a sandbox is worth. -/
noncomputable def Ybad.pinned : Pinned := { name := "ybulkgdpcdoor", sum := "19f2ceb59842967d86e732032f1347956e605377f9864557deb872d8a0121f9a", checked := Ybad.checked }
namespace Rows
def none {H : Type} : Left H := { results := [], args := [] }

/- WHAT THE LISTED PACKAGE-LEVEL VARIABLES READ AS WHEN THE CALL BEGINS. Each datum BY PROGRAM (the guide's laid-datum.mjs) off the statement by which the dump's own 'gosem.cut.vars' lays the variable. In a bare row this is a premise. The card (YbulkgdpcDoorCards.lean) ties it to the program's text. -/
def laid_io_EOF {H : Type} : DataW H := .iface "*errors.errorString" (.ptr (.agg [.lit (.string [69, 79, 70])]))
def laid_io_ErrUnexpectedEOF {H : Type} : DataW H := .iface "*errors.errorString" (.ptr (.agg [.lit (.string [117, 110, 101, 120, 112, 101, 99, 116, 101, 100, 32, 69, 79, 70])]))
def laid_encoding_binary_errOverflow {H : Type} : DataW H := .iface "*errors.errorString" (.ptr (.agg [.lit (.string [98, 105, 110, 97, 114, 121, 58, 32, 118, 97, 114, 105, 110, 116, 32, 111, 118, 101, 114, 102, 108, 111, 119, 115, 32, 97, 32, 54, 52, 45, 98, 105, 116, 32, 105, 110, 116, 101, 103, 101, 114])]))

/-- 'order.LawS9011BWhole': WHATEVER THE INPUT: true; the input reads as it did. -/
def lawS9011BWholeSpec : ChangeSpec := { name := "lawS9011BWhole", fn := fun _ => fun
  | [d1, d2, d3, d4, d5, d6, d7] => { results := [.lit (.bool true)], args := [d1, d2, d3, d4, d5, d6, d7] }
  | _ => none }
def lawS9011BWholeRow : OpenClaim := { program := "ybulkgdpcdoor", sum := "19f2ceb59842967d86e732032f1347956e605377f9864557deb872d8a0121f9a", func := "example.com/triquorum/triquorum/order.LawS9011BWhole", spec := "lawS9011BWhole", unfollowed := true, recurses := true, named := ["io.EOF", "io.ErrUnexpectedEOF", "encoding/binary.errOverflow"], apart := false, laid := [("io.EOF", laid_io_EOF), ("io.ErrUnexpectedEOF", laid_io_ErrUnexpectedEOF), ("encoding/binary.errOverflow", laid_encoding_binary_errOverflow)] }
def LawS9011BWholeSaid : Prop := lawS9011BWholeRow.holds Ybad.pinned (OpenSpec.ofChange lawS9011BWholeSpec)

/-- ITS FALSE NEIGHBOUR: 'it returns false'. Refute it at one input. -/
def lawS9011BWholeWrong : ChangeSpec := { name := "lawS9011BWhole", fn := fun _ => fun
  | [d1, d2, d3, d4, d5, d6, d7] => { results := [.lit (.bool false)], args := [d1, d2, d3, d4, d5, d6, d7] }
  | _ => none }
def LawS9011BWholeWrongFalsely : Prop := lawS9011BWholeRow.holds Ybad.pinned (OpenSpec.ofChange lawS9011BWholeWrong)

/-- 'order.LawS9011BEncoded': WHATEVER THE INPUT: true; the input reads as it did. -/
def lawS9011BEncodedSpec : ChangeSpec := { name := "lawS9011BEncoded", fn := fun _ => fun
  | [d1, d2] => { results := [.lit (.bool true)], args := [d1, d2] }
  | _ => none }
def lawS9011BEncodedRow : OpenClaim := { program := "ybulkgdpcdoor", sum := "19f2ceb59842967d86e732032f1347956e605377f9864557deb872d8a0121f9a", func := "example.com/triquorum/triquorum/order.LawS9011BEncoded", spec := "lawS9011BEncoded", unfollowed := true, recurses := true, named := ["io.EOF", "io.ErrUnexpectedEOF", "encoding/binary.errOverflow"], apart := false, laid := [("io.EOF", laid_io_EOF), ("io.ErrUnexpectedEOF", laid_io_ErrUnexpectedEOF), ("encoding/binary.errOverflow", laid_encoding_binary_errOverflow)] }
def LawS9011BEncodedSaid : Prop := lawS9011BEncodedRow.holds Ybad.pinned (OpenSpec.ofChange lawS9011BEncodedSpec)

/-- ITS FALSE NEIGHBOUR: 'it returns false'. Refute it at one input. -/
def lawS9011BEncodedWrong : ChangeSpec := { name := "lawS9011BEncoded", fn := fun _ => fun
  | [d1, d2] => { results := [.lit (.bool false)], args := [d1, d2] }
  | _ => none }
def LawS9011BEncodedWrongFalsely : Prop := lawS9011BEncodedRow.holds Ybad.pinned (OpenSpec.ofChange lawS9011BEncodedWrong)

end Rows
end Go.Proofs.YbulkgdpcDoor
