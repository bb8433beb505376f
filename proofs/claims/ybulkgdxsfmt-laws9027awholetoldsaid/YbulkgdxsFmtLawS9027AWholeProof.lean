import Derived.Test.YbulkgdxsFmtRows
import Derived.Test.YbulkgdxsFmtTie
import Derived.Test.YbulkgdxsFmtCards
import Derived.Test.YbulkgdxsFmtG3
import Derived.SevenTiedAt
namespace Go.Proofs.YbulkgdxsFmt
open Go.Extern.Stop Go.Stop Go.Extern

/-- THE STATEMENT: the told and tied card. -/
theorem lawS9027AWhole.proved : Rows.LawS9027AWholeToldSaid :=
  Claim7.holds_of_told_tied_any_at .later (s := OpenSpec.ofChange Rows.lawS9027AWholeSpec) (c := Rows.lawS9027AWholeRow) 3 Ybaf.f3 "fmt.errorf, its operands' methods called" ["fmt.Sprintf"] [] Rows.lawS9027AWholeCard.stood.harness true false [.widerDeep] true (by kernel_rfl) rfl rfl rfl laidOut (by kernel_rfl) rfl ⟨rfl, rfl, rfl, rfl, rfl, rfl, rfl⟩ rfl rfl (by kernel_rfl) (by kernel_rfl) Ybaf.func3 (by kernel_rfl)
    (of_decide_eq_true (by kernel_rfl)) (of_decide_eq_true (by kernel_rfl)) stops.symm rfl stopKnobs.symm (by kernel_rfl)
    (by kernel_rfl) (by kernel_rfl) (by kernel_rfl) (by kernel_rfl) (by kernel_rfl) (by kernel_rfl) (by kernel_rfl) (by kernel_rfl) (by kernel_rfl) rfl (by kernel_rfl) rfl rfl
    rfl rfl
    rfl (by kernel_rfl) (by kernel_rfl) (by kernel_rfl) (by decide) (by kernel_rfl) lawS9027AWhole_row_tie
    (OpenClaim.moreEntering_of (by kernel_rfl) (by kernel_rfl) (by kernel_rfl) (by kernel_rfl) (by kernel_rfl) (by kernel_rfl) (by kernel_rfl) (by kernel_rfl) (by kernel_rfl) (by kernel_rfl))
    ⟨_, WideRow.started_initial, quiet _⟩
    (fun os started _ H enc _ => a_lifted os started H enc)
end Go.Proofs.YbulkgdxsFmt
