/- Closed facts of the whole translation that every row of this seat asks. No conditions. -/
import Derived.Test.YtmlkcgacneealaaDoorRows
import GoSem.ClaimSeven
import Derived.Test.YtmlkcgacneealaaDoorFacts
import Derived.KernelRfl
set_option linter.unusedVariables false
set_option linter.unusedSimpArgs false
namespace Go.Proofs.YtmlkcgacneealaaDoor
open Go
theorem prog_k1 : (fun (P : Program) (c : OpenClaim) => (laidOutB P : Bool)) Tryd.prog Rows.fnAddrFrom4Row = true := by kernel_rfl
theorem prog_k2 : (fun (P : Program) (c : OpenClaim) => (mapsRowed P : Bool)) Tryd.prog Rows.fnAddrFrom4Row = true := by kernel_rfl
theorem prog_k6 : (fun (P : Program) (c : OpenClaim) => ((P.stops == []) : Bool)) Tryd.prog Rows.fnAddrFrom4Row = true := by kernel_rfl
theorem prog_k8 : (fun (P : Program) (c : OpenClaim) => ((P.stopKnobs == []) : Bool)) Tryd.prog Rows.fnAddrFrom4Row = true := by kernel_rfl
theorem prog_k22 : (fun (P : Program) (c : OpenClaim) => ((c.plainKeys == P.plainKeys) : Bool)) Tryd.prog Rows.fnAddrFrom4Row = true := by kernel_rfl
theorem prog_k24 : (fun (P : Program) (c : OpenClaim) => (P.stopsHeard : Bool)) Tryd.prog Rows.fnAddrFrom4Row = true := by kernel_rfl
theorem prog_k25 : (fun (P : Program) (c : OpenClaim) => (P.mayEnter : Bool)) Tryd.prog Rows.fnAddrFrom4Row = true := by kernel_rfl
theorem prog_k26 : (fun (P : Program) (c : OpenClaim) => ((c.lifted == P.liftsFinal) : Bool)) Tryd.prog Rows.fnAddrFrom4Row = true := by kernel_rfl
theorem prog_k27 : (fun (P : Program) (c : OpenClaim) => ((P.make == some c.make) : Bool)) Tryd.prog Rows.fnAddrFrom4Row = true := by kernel_rfl
end Go.Proofs.YtmlkcgacneealaaDoor
