/- The closed facts of the row of FnDotted; three of its card. No conditions. -/
import Derived.Test.YtmlkcgacneealaaDoorRows
import GoSem.ClaimSeven
import Derived.Test.YtmlkcgacneealaaDoorShared2
import Derived.KernelRfl
set_option linter.unusedVariables false
set_option linter.unusedSimpArgs false
namespace Go.Proofs.YtmlkcgacneealaaDoor
open Go
theorem fnDotted_k0 : (fun (P : Program) (f : FuncId) (fn : Func) (s : ChangeSpec) (c : OpenClaim) => (c.wf (OpenSpec.ofChange s) : Bool)) Tryd.prog 24 Tryd.f24 Rows.fnDottedSpec Rows.fnDottedRow = true := by kernel_rfl
theorem fnDotted_k1 : (fun (P : Program) (f : FuncId) (fn : Func) (s : ChangeSpec) (c : OpenClaim) => (laidOutB P : Bool)) Tryd.prog 24 Tryd.f24 Rows.fnDottedSpec Rows.fnDottedRow = true := prog_k1
theorem fnDotted_k2 : (fun (P : Program) (f : FuncId) (fn : Func) (s : ChangeSpec) (c : OpenClaim) => (mapsRowed P : Bool)) Tryd.prog 24 Tryd.f24 Rows.fnDottedSpec Rows.fnDottedRow = true := prog_k2
theorem fnDotted_k3 : (fun (P : Program) (f : FuncId) (fn : Func) (s : ChangeSpec) (c : OpenClaim) => (fn.params.all (P.readableRec ·) : Bool)) Tryd.prog 24 Tryd.f24 Rows.fnDottedSpec Rows.fnDottedRow = true := by kernel_rfl
theorem fnDotted_k4 : (fun (P : Program) (f : FuncId) (fn : Func) (s : ChangeSpec) (c : OpenClaim) => (namedTie P c.named s.vars : Bool)) Tryd.prog 24 Tryd.f24 Rows.fnDottedSpec Rows.fnDottedRow = true := by kernel_rfl
theorem fnDotted_k5 : (fun (P : Program) (f : FuncId) (fn : Func) (s : ChangeSpec) (c : OpenClaim) => ((c.stops == []) : Bool)) Tryd.prog 24 Tryd.f24 Rows.fnDottedSpec Rows.fnDottedRow = true := by kernel_rfl
theorem fnDotted_k6 : (fun (P : Program) (f : FuncId) (fn : Func) (s : ChangeSpec) (c : OpenClaim) => ((P.stops == []) : Bool)) Tryd.prog 24 Tryd.f24 Rows.fnDottedSpec Rows.fnDottedRow = true := prog_k6
theorem fnDotted_k7 : (fun (P : Program) (f : FuncId) (fn : Func) (s : ChangeSpec) (c : OpenClaim) => ((c.knobs == []) : Bool)) Tryd.prog 24 Tryd.f24 Rows.fnDottedSpec Rows.fnDottedRow = true := by kernel_rfl
theorem fnDotted_k8 : (fun (P : Program) (f : FuncId) (fn : Func) (s : ChangeSpec) (c : OpenClaim) => ((P.stopKnobs == []) : Bool)) Tryd.prog 24 Tryd.f24 Rows.fnDottedSpec Rows.fnDottedRow = true := prog_k8
theorem fnDotted_k9 : (fun (P : Program) (f : FuncId) (fn : Func) (s : ChangeSpec) (c : OpenClaim) => ((c.inPlace == P.inPlace f) : Bool)) Tryd.prog 24 Tryd.f24 Rows.fnDottedSpec Rows.fnDottedRow = true := by kernel_rfl
theorem fnDotted_k10 : (fun (P : Program) (f : FuncId) (fn : Func) (s : ChangeSpec) (c : OpenClaim) => ((c.unfollowed == P.unfollowed f) : Bool)) Tryd.prog 24 Tryd.f24 Rows.fnDottedSpec Rows.fnDottedRow = true := by kernel_rfl
theorem fnDotted_k11 : (fun (P : Program) (f : FuncId) (fn : Func) (s : ChangeSpec) (c : OpenClaim) => ((c.recurses == P.recurses f) : Bool)) Tryd.prog 24 Tryd.f24 Rows.fnDottedSpec Rows.fnDottedRow = true := by kernel_rfl
theorem fnDotted_k12 : (fun (P : Program) (f : FuncId) (fn : Func) (s : ChangeSpec) (c : OpenClaim) => ((c.named == P.varsNamed f) : Bool)) Tryd.prog 24 Tryd.f24 Rows.fnDottedSpec Rows.fnDottedRow = true := by kernel_rfl
theorem fnDotted_k13 : (fun (P : Program) (f : FuncId) (fn : Func) (s : ChangeSpec) (c : OpenClaim) => ((c.maps == (fn.params.toList ++ s.plain.varTypes P).any (P.mapsRec ·)) : Bool)) Tryd.prog 24 Tryd.f24 Rows.fnDottedSpec Rows.fnDottedRow = true := by kernel_rfl
theorem fnDotted_k14 : (fun (P : Program) (f : FuncId) (fn : Func) (s : ChangeSpec) (c : OpenClaim) => ((c.ifaces == (fn.params.toList ++ s.plain.varTypes P).any (P.ifacesRec ·)) : Bool)) Tryd.prog 24 Tryd.f24 Rows.fnDottedSpec Rows.fnDottedRow = true := by kernel_rfl
theorem fnDotted_k15 : (fun (P : Program) (f : FuncId) (fn : Func) (s : ChangeSpec) (c : OpenClaim) => ((c.mapsOut == P.mapsAmong fn.resultTypes.toList) : Bool)) Tryd.prog 24 Tryd.f24 Rows.fnDottedSpec Rows.fnDottedRow = true := by kernel_rfl
theorem fnDotted_k16 : (fun (P : Program) (f : FuncId) (fn : Func) (s : ChangeSpec) (c : OpenClaim) => ((c.loops == (fn.params.toList ++ s.plain.varTypes P).any (P.loopsFrom ·)) : Bool)) Tryd.prog 24 Tryd.f24 Rows.fnDottedSpec Rows.fnDottedRow = true := by kernel_rfl
theorem fnDotted_k17 : (fun (P : Program) (f : FuncId) (fn : Func) (s : ChangeSpec) (c : OpenClaim) => ((c.wideKeys == (fn.params.toList ++ s.plain.varTypes P ++ fn.resultTypes.toList).any (P.wideKeysFrom ·)) : Bool)) Tryd.prog 24 Tryd.f24 Rows.fnDottedSpec Rows.fnDottedRow = true := by kernel_rfl
theorem fnDotted_k18 : (fun (P : Program) (f : FuncId) (fn : Func) (s : ChangeSpec) (c : OpenClaim) => (s.vars.all (P.varReadable ·) : Bool)) Tryd.prog 24 Tryd.f24 Rows.fnDottedSpec Rows.fnDottedRow = true := by kernel_rfl
theorem fnDotted_k19 : (fun (P : Program) (f : FuncId) (fn : Func) (s : ChangeSpec) (c : OpenClaim) => (fn.resultTypes.all (fun t => P.readableRec t && decide (t < P.types.size)) : Bool)) Tryd.prog 24 Tryd.f24 Rows.fnDottedSpec Rows.fnDottedRow = true := by kernel_rfl
theorem fnDotted_k20 : (fun (P : Program) (f : FuncId) (fn : Func) (s : ChangeSpec) (c : OpenClaim) => ((c.ifacesOut == fn.resultTypes.toList.any (P.ifacesRec ·)) : Bool)) Tryd.prog 24 Tryd.f24 Rows.fnDottedSpec Rows.fnDottedRow = true := by kernel_rfl
theorem fnDotted_k21 : (fun (P : Program) (f : FuncId) (fn : Func) (s : ChangeSpec) (c : OpenClaim) => ((c.loopsOut == fn.resultTypes.toList.any (P.loopsFrom ·)) : Bool)) Tryd.prog 24 Tryd.f24 Rows.fnDottedSpec Rows.fnDottedRow = true := by kernel_rfl
theorem fnDotted_k22 : (fun (P : Program) (f : FuncId) (fn : Func) (s : ChangeSpec) (c : OpenClaim) => ((c.plainKeys == P.plainKeys) : Bool)) Tryd.prog 24 Tryd.f24 Rows.fnDottedSpec Rows.fnDottedRow = true := prog_k22
theorem fnDotted_k23 : (fun (P : Program) (f : FuncId) (fn : Func) (s : ChangeSpec) (c : OpenClaim) => (c.shortTexts.isNone : Bool)) Tryd.prog 24 Tryd.f24 Rows.fnDottedSpec Rows.fnDottedRow = true := by kernel_rfl
theorem fnDotted_k24 : (fun (P : Program) (f : FuncId) (fn : Func) (s : ChangeSpec) (c : OpenClaim) => (P.stopsHeard : Bool)) Tryd.prog 24 Tryd.f24 Rows.fnDottedSpec Rows.fnDottedRow = true := prog_k24
theorem fnDotted_k25 : (fun (P : Program) (f : FuncId) (fn : Func) (s : ChangeSpec) (c : OpenClaim) => (P.mayEnter : Bool)) Tryd.prog 24 Tryd.f24 Rows.fnDottedSpec Rows.fnDottedRow = true := prog_k25
theorem fnDotted_k26 : (fun (P : Program) (f : FuncId) (fn : Func) (s : ChangeSpec) (c : OpenClaim) => ((c.lifted == P.liftsFinal) : Bool)) Tryd.prog 24 Tryd.f24 Rows.fnDottedSpec Rows.fnDottedRow = true := prog_k26
theorem fnDotted_k27 : (fun (P : Program) (f : FuncId) (fn : Func) (s : ChangeSpec) (c : OpenClaim) => ((P.make == some c.make) : Bool)) Tryd.prog 24 Tryd.f24 Rows.fnDottedSpec Rows.fnDottedRow = true := prog_k27
theorem fnDotted_k28 : (fun (P : Program) (f : FuncId) (fn : Func) (s : ChangeSpec) (c : OpenClaim) => ((c.kinds == (if c.domain.isEmpty then [] else fn.params.toList.map fun t => match P.underlying t with | some (.int k) => some k | _ => none)) : Bool)) Tryd.prog 24 Tryd.f24 Rows.fnDottedSpec Rows.fnDottedRow = true := by kernel_rfl
theorem fnDotted_k29 : (fun (P : Program) (f : FuncId) (fn : Func) (s : ChangeSpec) (c : OpenClaim) => ((c.pinned == c.pinnedBy) : Bool)) Tryd.prog 24 Tryd.f24 Rows.fnDottedSpec Rows.fnDottedRow = true := by kernel_rfl
theorem fnDotted_k30 : (fun (P : Program) (f : FuncId) (fn : Func) (s : ChangeSpec) (c : OpenClaim) => ((c.veiled == (fn.params.toList ++ s.plain.varTypes P ++ fn.resultTypes.toList).any (P.veiledRec ·)) : Bool)) Tryd.prog 24 Tryd.f24 Rows.fnDottedSpec Rows.fnDottedRow = true := by kernel_rfl
theorem fnDotted_k31 : (fun (P : Program) (f : FuncId) (fn : Func) (s : ChangeSpec) (c : OpenClaim) => (c.veiledFits P fn.params.toList (fn.params.toList ++ s.plain.varTypes P ++ fn.resultTypes.toList) : Bool)) Tryd.prog 24 Tryd.f24 Rows.fnDottedSpec Rows.fnDottedRow = true := by kernel_rfl
set_option maxRecDepth 100000 in
theorem fnDotted_facts : joinedFacts Tryd.prog 24 Tryd.f24 Rows.fnDottedSpec Rows.fnDottedRow = true := facts_of (P := Tryd.prog) (f := 24) (fn := Tryd.f24) (s := Rows.fnDottedSpec) (c := Rows.fnDottedRow) fnDotted_k0 fnDotted_k1 fnDotted_k2 fnDotted_k3 fnDotted_k4 fnDotted_k5 fnDotted_k6 fnDotted_k7 fnDotted_k8 fnDotted_k9 fnDotted_k10 fnDotted_k11 fnDotted_k12 fnDotted_k13 fnDotted_k14 fnDotted_k15 fnDotted_k16 fnDotted_k17 fnDotted_k18 fnDotted_k19 fnDotted_k20 fnDotted_k21 fnDotted_k22 fnDotted_k23 fnDotted_k24 fnDotted_k25 fnDotted_k26 fnDotted_k27 fnDotted_k28 fnDotted_k29 fnDotted_k30 fnDotted_k31
theorem fnDotted_wfb : Rows.fnDottedRow.wfByText (OpenSpec.ofChange Rows.fnDottedSpec) = true := by kernel_rfl
theorem fnDotted_goes : false = Rows.fnDottedRow.goesBy Tryd.pinned.checked.prog := by kernel_rfl
theorem fnDotted_name : Tryd.prog.funcNamed "lib-guidepost/laws.FnDotted" = some 24 := by kernel_rfl
end Go.Proofs.YtmlkcgacneealaaDoor
