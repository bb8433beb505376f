import Derived.Test.YbulkgdpcDoorRows
import Derived.Test.YbulkgdpcDoorB5
import Derived.ProofKit
import Derived.LaidMore
import Derived.OpenShut
import Derived.ShutString
import Derived.Stop.LaidErr
namespace Go.Proofs.YbulkgdpcDoor.lawB
open Go.ChangeShapes Go.WideShapes Go.ChangeAt Go.WideMaps Go.WideElems Go.RowKit
set_option linter.unusedVariables false

theorem own : ownKnob Ybad.prog.godebug = none := by kernel_rfl
theorem laidOut : laidOutB Ybad.prog = true := by kernel_rfl

/-- what the rows list -/
def laid3 : List (String × DataW Unit) := Rows.lawS9011BWholeRow.laid

def nmOf : DataW Unit → String
  | .iface n _ => n
  | _ => ""
def errName : String := nmOf Rows.laid_io_EOF
theorem errName_eq : "*" ++ "errors.errorString" = errName := by decide

theorem row63 (u : TypeId) (h : Ybad.prog.typeName? 3 u = some errName) : u = 63 :=
  typeName_ptr_named (nm := "errors.errorString") (by rw [errName_eq]; kernel_rfl) (by kernel_rfl) (by decide) u (by rw [errName_eq]; exact h)

theorem door_met (os : Os) (args : Array Value) : laidMetH Ybad.prog laid3 ((World.doorLaid Ybad.prog 400 os).forCall (fun _ _ => 0) ⟨#[], args, []⟩).memory :=
  laidMetH_of_parts3 (fuel := 8) (laidMet_of_run' 8 (by kernel_rfl) (by kernel_rfl)) (by kernel_rfl) (by kernel_rfl)

theorem cells65 : Ybad.prog.cellsOf 65 = 1 := by kernel_rfl
theorem cells9 : Ybad.prog.cellsOf 9 = 1 := by kernel_rfl
theorem g0 : Ybad.prog.globalNamed (laid3.map Prod.fst)[0]! = some 0 := by kernel_rfl
theorem g1 : Ybad.prog.globalNamed (laid3.map Prod.fst)[1]! = some 1 := by kernel_rfl
theorem g2 : Ybad.prog.globalNamed (laid3.map Prod.fst)[2]! = some 2 := by kernel_rfl
theorem t0 : (Ybad.prog.globals[0]?).map (·.type) = some 51 := by kernel_rfl
theorem t1 : (Ybad.prog.globals[1]?).map (·.type) = some 51 := by kernel_rfl
theorem t2 : (Ybad.prog.globals[2]?).map (·.type) = some 51 := by kernel_rfl
theorem nglob : 3 ≤ Ybad.prog.globals.size := by decide +kernel

theorem errs_of {W : World} (hL0 : laidMetH Ybad.prog laid3 W) : Errs W := by
  have hL : laidMet Ybad.prog laid3 W := by
    rw [MakeChecks.laidMetH_plain _ _ _ (by kernel_rfl)] at hL0
    exact hL0
  obtain ⟨a0, s0, hv0, _⟩ := laid_sentinel hL g0 t0 Ybad.underlying51 row63 Ybad.underlying63 Ybad.underlying65 rfl rfl Ybad.underlying9 cells65 cells9
  obtain ⟨a1, s1, hv1, _⟩ := laid_sentinel hL.tail g1 t1 Ybad.underlying51 row63 Ybad.underlying63 Ybad.underlying65 rfl rfl Ybad.underlying9 cells65 cells9
  obtain ⟨a2, s2, hv2, _⟩ := laid_sentinel hL.tail.tail g2 t2 Ybad.underlying51 row63 Ybad.underlying63 Ybad.underlying65 rfl rfl Ybad.underlying9 cells65 cells9
  exact ⟨⟨a0, by simpa using World.var?_cell g0 hv0 0⟩, ⟨a1, by simpa using World.var?_cell g1 hv1 0⟩, ⟨a2, by simpa using World.var?_cell g2 hv2 0⟩⟩

theorem errs_size {W : World} (h : Errs W) : 3 ≤ W.heap.size := by
  obtain ⟨a, ha⟩ := h.e2
  rcases Nat.lt_or_ge W.heap.size 3 with hlt | hge
  · exfalso
    have : W.heap[2]? = none := Array.getElem?_eq_none (by omega)
    simp [World.cell?, this] at ha
  · exact hge
end Go.Proofs.YbulkgdpcDoor.lawB
