/- Two closed facts of the whole translation: its harness, and that it looks into no interface value. No conditions. -/
import Derived.Test.YtmlkcgacneealaaDoorRows
import GoSem.ClaimSeven
import Derived.KernelRfl
set_option linter.unusedVariables false
set_option linter.unusedSimpArgs false
namespace Go.Proofs.YtmlkcgacneealaaDoor
open Go
theorem prog_main : Tryd.pinned.checked.prog.mainIs = some (true, "570322591d50aed281b8eadefbfeb9a654fb497d93e3c22329b470258c53331a".toList) := by kernel_rfl
theorem prog_looks : false = Tryd.pinned.checked.prog.looks [] := by kernel_rfl
end Go.Proofs.YtmlkcgacneealaaDoor
