/- The closed facts of the row of FnSteps; three of its card. No conditions. -/
import Derived.Test.YtmlkcgacneealaaDoorRows
import GoSem.ClaimSeven
import Derived.Test.YtmlkcgacneealaaDoorShared2
import Derived.KernelRfl
set_option linter.unusedVariables false
set_option linter.unusedSimpArgs false
namespace Go.Proofs.YtmlkcgacneealaaDoor
open Go
theorem fnSteps_k0 : (fun (P : Program) (f : FuncId) (fn : Func) (s : ChangeSpec) (c : OpenClaim) => (c.wf (OpenSpec.ofChange s) : Bool)) Tryd.prog 13 Tryd.f13 Rows.fnStepsSpec Rows.fnStepsRow = true := by kernel_rfl
theorem fnSteps_k1 : (fun (P : Program) (f : FuncId) (fn : Func) (s : ChangeSpec) (c : OpenClaim) => (laidOutB P : Bool)) Tryd.prog 13 Tryd.f13 Rows.fnStepsSpec Rows.fnStepsRow = true := prog_k1
theorem fnSteps_k2 : (fun (P : Program) (f : FuncId) (fn : Func) (s : ChangeSpec) (c : OpenClaim) => (mapsRowed P : Bool)) Tryd.prog 13 Tryd.f13 Rows.fnStepsSpec Rows.fnStepsRow = true := prog_k2
theorem fnSteps_k3 : (fun (P : Program) (f : FuncId) (fn : Func) (s : ChangeSpec) (c : OpenClaim) => (fn.params.all (P.readableRec ·) : Bool)) Tryd.prog 13 Tryd.f13 Rows.fnStepsSpec Rows.fnStepsRow = true := by kernel_rfl
theorem fnSteps_k4 : (fun (P : Program) (f : FuncId) (fn : Func) (s : ChangeSpec) (c : OpenClaim) => (namedTie P c.named s.vars : Bool)) Tryd.prog 13 Tryd.f13 Rows.fnStepsSpec Rows.fnStepsRow = true := by kernel_rfl
theorem fnSteps_k5 : (fun (P : Program) (f : FuncId) (fn : Func) (s : ChangeSpec) (c : OpenClaim) => ((c.stops == []) : Bool)) Tryd.prog 13 Tryd.f13 Rows.fnStepsSpec Rows.fnStepsRow = true := by kernel_rfl
theorem fnSteps_k6 : (fun (P : Program) (f : FuncId) (fn : Func) (s : ChangeSpec) (c : OpenClaim) => ((P.stops == []) : Bool)) Tryd.prog 13 Tryd.f13 Rows.fnStepsSpec Rows.fnStepsRow = true := prog_k6
theorem fnSteps_k7 : (fun (P : Program) (f : FuncId) (fn : Func) (s : ChangeSpec) (c : OpenClaim) => ((c.knobs == []) : Bool)) Tryd.prog 13 Tryd.f13 Rows.fnStepsSpec Rows.fnStepsRow = true := by kernel_rfl
theorem fnSteps_k8 : (fun (P : Program) (f : FuncId) (fn : Func) (s : ChangeSpec) (c : OpenClaim) => ((P.stopKnobs == []) : Bool)) Tryd.prog 13 Tryd.f13 Rows.fnStepsSpec Rows.fnStepsRow = true := prog_k8
theorem fnSteps_k9 : (fun (P : Program) (f : FuncId) (fn : Func) (s : ChangeSpec) (c : OpenClaim) => ((c.inPlace == P.inPlace f) : Bool)) Tryd.prog 13 Tryd.f13 Rows.fnStepsSpec Rows.fnStepsRow = true := by kernel_rfl
theorem fnSteps_k10 : (fun (P : Program) (f : FuncId) (fn : Func) (s : ChangeSpec) (c : OpenClaim) => ((c.unfollowed == P.unfollowed f) : Bool)) Tryd.prog 13 Tryd.f13 Rows.fnStepsSpec Rows.fnStepsRow = true := by kernel_rfl
theorem fnSteps_k11 : (fun (P : Program) (f : FuncId) (fn : Func) (s : ChangeSpec) (c : OpenClaim) => ((c.recurses == P.recurses f) : Bool)) Tryd.prog 13 Tryd.f13 Rows.fnStepsSpec Rows.fnStepsRow = true := by kernel_rfl
theorem fnSteps_k12 : (fun (P : Program) (f : FuncId) (fn : Func) (s : ChangeSpec) (c : OpenClaim) => ((c.named == P.varsNamed f) : Bool)) Tryd.prog 13 Tryd.f13 Rows.fnStepsSpec Rows.fnStepsRow = true := by kernel_rfl
theorem fnSteps_k13 : (fun (P : Program) (f : FuncId) (fn : Func) (s : ChangeSpec) (c : OpenClaim) => ((c.maps == (fn.params.toList ++ s.plain.varTypes P).any (P.mapsRec ·)) : Bool)) Tryd.prog 13 Tryd.f13 Rows.fnStepsSpec Rows.fnStepsRow = true := by kernel_rfl
theorem fnSteps_k14 : (fun (P : Program) (f : FuncId) (fn : Func) (s : ChangeSpec) (c : OpenClaim) => ((c.ifaces == (fn.params.toList ++ s.plain.varTypes P).any (P.ifacesRec ·)) : Bool)) Tryd.prog 13 Tryd.f13 Rows.fnStepsSpec Rows.fnStepsRow = true := by kernel_rfl
theorem fnSteps_k15 : (fun (P : Program) (f : FuncId) (fn : Func) (s : ChangeSpec) (c : OpenClaim) => ((c.mapsOut == P.mapsAmong fn.resultTypes.toList) : Bool)) Tryd.prog 13 Tryd.f13 Rows.fnStepsSpec Rows.fnStepsRow = true := by kernel_rfl
theorem fnSteps_k16 : (fun (P : Program) (f : FuncId) (fn : Func) (s : ChangeSpec) (c : OpenClaim) => ((c.loops == (fn.params.toList ++ s.plain.varTypes P).any (P.loopsFrom ·)) : Bool)) Tryd.prog 13 Tryd.f13 Rows.fnStepsSpec Rows.fnStepsRow = true := by kernel_rfl
theorem fnSteps_k17 : (fun (P : Program) (f : FuncId) (fn : Func) (s : ChangeSpec) (c : OpenClaim) => ((c.wideKeys == (fn.params.toList ++ s.plain.varTypes P ++ fn.resultTypes.toList).any (P.wideKeysFrom ·)) : Bool)) Tryd.prog 13 Tryd.f13 Rows.fnStepsSpec Rows.fnStepsRow = true := by kernel_rfl
theorem fnSteps_k18 : (fun (P : Program) (f : FuncId) (fn : Func) (s : ChangeSpec) (c : OpenClaim) => (s.vars.all (P.varReadable ·) : Bool)) Tryd.prog 13 Tryd.f13 Rows.fnStepsSpec Rows.fnStepsRow = true := by kernel_rfl
theorem fnSteps_k19 : (fun (P : Program) (f : FuncId) (fn : Func) (s : ChangeSpec) (c : OpenClaim) => (fn.resultTypes.all (fun t => P.readableRec t && decide (t < P.types.size)) : Bool)) Tryd.prog 13 Tryd.f13 Rows.fnStepsSpec Rows.fnStepsRow = true := by kernel_rfl
theorem fnSteps_k20 : (fun (P : Program) (f : FuncId) (fn : Func) (s : ChangeSpec) (c : OpenClaim) => ((c.ifacesOut == fn.resultTypes.toList.any (P.ifacesRec ·)) : Bool)) Tryd.prog 13 Tryd.f13 Rows.fnStepsSpec Rows.fnStepsRow = true := by kernel_rfl
theorem fnSteps_k21 : (fun (P : Program) (f : FuncId) (fn : Func) (s : ChangeSpec) (c : OpenClaim) => ((c.loopsOut == fn.resultTypes.toList.any (P.loopsFrom ·)) : Bool)) Tryd.prog 13 Tryd.f13 Rows.fnStepsSpec Rows.fnStepsRow = true := by kernel_rfl
theorem fnSteps_k22 : (fun (P : Program) (f : FuncId) (fn : Func) (s : ChangeSpec) (c : OpenClaim) => ((c.plainKeys == P.plainKeys) : Bool)) Tryd.prog 13 Tryd.f13 Rows.fnStepsSpec Rows.fnStepsRow = true := prog_k22
theorem fnSteps_k23 : (fun (P : Program) (f : FuncId) (fn : Func) (s : ChangeSpec) (c : OpenClaim) => (c.shortTexts.isNone : Bool)) Tryd.prog 13 Tryd.f13 Rows.fnStepsSpec Rows.fnStepsRow = true := by kernel_rfl
theorem fnSteps_k24 : (fun (P : Program) (f : FuncId) (fn : Func) (s : ChangeSpec) (c : OpenClaim) => (P.stopsHeard : Bool)) Tryd.prog 13 Tryd.f13 Rows.fnStepsSpec Rows.fnStepsRow = true := prog_k24
theorem fnSteps_k25 : (fun (P : Program) (f : FuncId) (fn : Func) (s : ChangeSpec) (c : OpenClaim) => (P.mayEnter : Bool)) Tryd.prog 13 Tryd.f13 Rows.fnStepsSpec Rows.fnStepsRow = true := prog_k25
theorem fnSteps_k26 : (fun (P : Program) (f : FuncId) (fn : Func) (s : ChangeSpec) (c : OpenClaim) => ((c.lifted == P.liftsFinal) : Bool)) Tryd.prog 13 Tryd.f13 Rows.fnStepsSpec Rows.fnStepsRow = true := prog_k26
theorem fnSteps_k27 : (fun (P : Program) (f : FuncId) (fn : Func) (s : ChangeSpec) (c : OpenClaim) => ((P.make == some c.make) : Bool)) Tryd.prog 13 Tryd.f13 Rows.fnStepsSpec Rows.fnStepsRow = true := prog_k27
theorem fnSteps_k28 : (fun (P : Program) (f : FuncId) (fn : Func) (s : ChangeSpec) (c : OpenClaim) => ((c.kinds == (if c.domain.isEmpty then [] else fn.params.toList.map fun t => match P.underlying t with | some (.int k) => some k | _ => none)) : Bool)) Tryd.prog 13 Tryd.f13 Rows.fnStepsSpec Rows.fnStepsRow = true := by kernel_rfl
theorem fnSteps_k29 : (fun (P : Program) (f : FuncId) (fn : Func) (s : ChangeSpec) (c : OpenClaim) => ((c.pinned == c.pinnedBy) : Bool)) Tryd.prog 13 Tryd.f13 Rows.fnStepsSpec Rows.fnStepsRow = true := by kernel_rfl
theorem fnSteps_k30 : (fun (P : Program) (f : FuncId) (fn : Func) (s : ChangeSpec) (c : OpenClaim) => ((c.veiled == (fn.params.toList ++ s.plain.varTypes P ++ fn.resultTypes.toList).any (P.veiledRec ·)) : Bool)) Tryd.prog 13 Tryd.f13 Rows.fnStepsSpec Rows.fnStepsRow = true := by kernel_rfl
theorem fnSteps_k31 : (fun (P : Program) (f : FuncId) (fn : Func) (s : ChangeSpec) (c : OpenClaim) => (c.veiledFits P fn.params.toList (fn.params.toList ++ s.plain.varTypes P ++ fn.resultTypes.toList) : Bool)) Tryd.prog 13 Tryd.f13 Rows.fnStepsSpec Rows.fnStepsRow = true := by kernel_rfl
set_option maxRecDepth 100000 in
theorem fnSteps_facts : joinedFacts Tryd.prog 13 Tryd.f13 Rows.fnStepsSpec Rows.fnStepsRow = true := facts_of (P := Tryd.prog) (f := 13) (fn := Tryd.f13) (s := Rows.fnStepsSpec) (c := Rows.fnStepsRow) fnSteps_k0 fnSteps_k1 fnSteps_k2 fnSteps_k3 fnSteps_k4 fnSteps_k5 fnSteps_k6 fnSteps_k7 fnSteps_k8 fnSteps_k9 fnSteps_k10 fnSteps_k11 fnSteps_k12 fnSteps_k13 fnSteps_k14 fnSteps_k15 fnSteps_k16 fnSteps_k17 fnSteps_k18 fnSteps_k19 fnSteps_k20 fnSteps_k21 fnSteps_k22 fnSteps_k23 fnSteps_k24 fnSteps_k25 fnSteps_k26 fnSteps_k27 fnSteps_k28 fnSteps_k29 fnSteps_k30 fnSteps_k31
theorem fnSteps_wfb : Rows.fnStepsRow.wfByText (OpenSpec.ofChange Rows.fnStepsSpec) = true := by kernel_rfl
theorem fnSteps_goes : false = Rows.fnStepsRow.goesBy Tryd.pinned.checked.prog := by kernel_rfl
theorem fnSteps_name : Tryd.prog.funcNamed "lib-guidepost/laws.FnSteps" = some 13 := by kernel_rfl
end Go.Proofs.YtmlkcgacneealaaDoor
