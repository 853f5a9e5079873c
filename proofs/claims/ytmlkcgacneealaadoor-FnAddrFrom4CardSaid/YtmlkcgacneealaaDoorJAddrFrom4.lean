/- Three closed facts of the card of FnAddrFrom4. No conditions. -/
import Derived.Test.YtmlkcgacneealaaDoorRows
import GoSem.ClaimSeven
import Derived.KernelRfl
set_option linter.unusedVariables false
set_option linter.unusedSimpArgs false
namespace Go.Proofs.YtmlkcgacneealaaDoor
open Go
theorem fnAddrFrom4_wfb : Rows.fnAddrFrom4Row.wfByText (OpenSpec.ofChange Rows.fnAddrFrom4Spec) = true := by kernel_rfl
theorem fnAddrFrom4_goes : false = Rows.fnAddrFrom4Row.goesBy Tryd.pinned.checked.prog := by kernel_rfl
theorem fnAddrFrom4_name : Tryd.prog.funcNamed "lib-guidepost/laws.FnAddrFrom4" = some 3 := by kernel_rfl
end Go.Proofs.YtmlkcgacneealaaDoor
