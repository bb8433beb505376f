import Derived.Test.YbulkgdxsFmtRows
import Derived.Test.YbulkgdxsFmtCards
import Derived.Test.YbulkgdxsFmtH7
import Derived.SevenToldRow
namespace Go.Proofs.YbulkgdxsFmt
open Go.Extern.Stop Go.Stop Go.Extern

theorem lawB.stops : Ybaf.pinned.checked.prog.stops = ["fmt.errorf, its operands' methods called", "fmt.Sprintf"] := by kernel_rfl
theorem lawB.stopKnobs : Ybaf.pinned.checked.prog.stopKnobs = [] := by kernel_rfl
theorem lawB.quiet (os : Os) : Stop.quiet Ybaf.pinned.checked.prog os := by
  intro k hk
  rw [lawB.stopKnobs] at hk
  cases hk

/-- THE STATEMENT: the told card. -/
theorem lawS9027BWhole.proved : Rows.LawS9027BWholeToldSaid :=
  Claim7.holds_of_told_any (s := OpenSpec.ofChange Rows.lawS9027BWholeSpec) (c := Rows.lawS9027BWholeRow) 4 Ybaf.f4 "fmt.errorf, its operands' methods called" ["fmt.Sprintf"] [] Rows.lawS9027BWholeCard.stood.harness true false (by kernel_rfl) rfl rfl rfl lawB.laidOut (by kernel_rfl) rfl ⟨rfl, rfl, rfl, rfl, rfl, rfl, rfl⟩ rfl rfl (by kernel_rfl) (by kernel_rfl) Ybaf.func4 (by kernel_rfl)
    (of_decide_eq_true (by kernel_rfl)) (of_decide_eq_true (by kernel_rfl)) lawB.stops.symm rfl lawB.stopKnobs.symm (by kernel_rfl)
    (by kernel_rfl) (by kernel_rfl) (by kernel_rfl) (by kernel_rfl) (by kernel_rfl) (by kernel_rfl) (by kernel_rfl) (by kernel_rfl) (by kernel_rfl) rfl (by kernel_rfl) rfl rfl
    rfl rfl
    rfl (by kernel_rfl) (by kernel_rfl) (by kernel_rfl) (by decide) (by kernel_rfl)
    (OpenClaim.moreEntering_of (by kernel_rfl) (by kernel_rfl) (by kernel_rfl) (by kernel_rfl) (by kernel_rfl) (by kernel_rfl) (by kernel_rfl) (by kernel_rfl) (by kernel_rfl) (by kernel_rfl))
    ⟨_, WideRow.started_initial, lawB.quiet _⟩
    (fun os started _ H enc _ => lawB.lifted os started H enc)
end Go.Proofs.YbulkgdxsFmt
