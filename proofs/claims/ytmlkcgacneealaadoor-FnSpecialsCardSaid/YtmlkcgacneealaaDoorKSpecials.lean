/- The closed facts of the row of FnSpecials; three of its card. No conditions. -/
import Derived.Test.YtmlkcgacneealaaDoorRows
import GoSem.ClaimSeven
import Derived.Test.YtmlkcgacneealaaDoorShared2
import Derived.KernelRfl
set_option linter.unusedVariables false
set_option linter.unusedSimpArgs false
namespace Go.Proofs.YtmlkcgacneealaaDoor
open Go
theorem fnSpecials_k0 : (fun (P : Program) (f : FuncId) (fn : Func) (s : ChangeSpec) (c : OpenClaim) => (c.wf (OpenSpec.ofChange s) : Bool)) Tryd.prog 6 Tryd.f6 Rows.fnSpecialsSpec Rows.fnSpecialsRow = true := by kernel_rfl
theorem fnSpecials_k1 : (fun (P : Program) (f : FuncId) (fn : Func) (s : ChangeSpec) (c : OpenClaim) => (laidOutB P : Bool)) Tryd.prog 6 Tryd.f6 Rows.fnSpecialsSpec Rows.fnSpecialsRow = true := prog_k1
theorem fnSpecials_k2 : (fun (P : Program) (f : FuncId) (fn : Func) (s : ChangeSpec) (c : OpenClaim) => (mapsRowed P : Bool)) Tryd.prog 6 Tryd.f6 Rows.fnSpecialsSpec Rows.fnSpecialsRow = true := prog_k2
theorem fnSpecials_k3 : (fun (P : Program) (f : FuncId) (fn : Func) (s : ChangeSpec) (c : OpenClaim) => (fn.params.all (P.readableRec ·) : Bool)) Tryd.prog 6 Tryd.f6 Rows.fnSpecialsSpec Rows.fnSpecialsRow = true := by kernel_rfl
theorem fnSpecials_k4 : (fun (P : Program) (f : FuncId) (fn : Func) (s : ChangeSpec) (c : OpenClaim) => (namedTie P c.named s.vars : Bool)) Tryd.prog 6 Tryd.f6 Rows.fnSpecialsSpec Rows.fnSpecialsRow = true := by kernel_rfl
theorem fnSpecials_k5 : (fun (P : Program) (f : FuncId) (fn : Func) (s : ChangeSpec) (c : OpenClaim) => ((c.stops == []) : Bool)) Tryd.prog 6 Tryd.f6 Rows.fnSpecialsSpec Rows.fnSpecialsRow = true := by kernel_rfl
theorem fnSpecials_k6 : (fun (P : Program) (f : FuncId) (fn : Func) (s : ChangeSpec) (c : OpenClaim) => ((P.stops == []) : Bool)) Tryd.prog 6 Tryd.f6 Rows.fnSpecialsSpec Rows.fnSpecialsRow = true := prog_k6
theorem fnSpecials_k7 : (fun (P : Program) (f : FuncId) (fn : Func) (s : ChangeSpec) (c : OpenClaim) => ((c.knobs == []) : Bool)) Tryd.prog 6 Tryd.f6 Rows.fnSpecialsSpec Rows.fnSpecialsRow = true := by kernel_rfl
theorem fnSpecials_k8 : (fun (P : Program) (f : FuncId) (fn : Func) (s : ChangeSpec) (c : OpenClaim) => ((P.stopKnobs == []) : Bool)) Tryd.prog 6 Tryd.f6 Rows.fnSpecialsSpec Rows.fnSpecialsRow = true := prog_k8
theorem fnSpecials_k9 : (fun (P : Program) (f : FuncId) (fn : Func) (s : ChangeSpec) (c : OpenClaim) => ((c.inPlace == P.inPlace f) : Bool)) Tryd.prog 6 Tryd.f6 Rows.fnSpecialsSpec Rows.fnSpecialsRow = true := by kernel_rfl
theorem fnSpecials_k10 : (fun (P : Program) (f : FuncId) (fn : Func) (s : ChangeSpec) (c : OpenClaim) => ((c.unfollowed == P.unfollowed f) : Bool)) Tryd.prog 6 Tryd.f6 Rows.fnSpecialsSpec Rows.fnSpecialsRow = true := by kernel_rfl
theorem fnSpecials_k11 : (fun (P : Program) (f : FuncId) (fn : Func) (s : ChangeSpec) (c : OpenClaim) => ((c.recurses == P.recurses f) : Bool)) Tryd.prog 6 Tryd.f6 Rows.fnSpecialsSpec Rows.fnSpecialsRow = true := by kernel_rfl
theorem fnSpecials_k12 : (fun (P : Program) (f : FuncId) (fn : Func) (s : ChangeSpec) (c : OpenClaim) => ((c.named == P.varsNamed f) : Bool)) Tryd.prog 6 Tryd.f6 Rows.fnSpecialsSpec Rows.fnSpecialsRow = true := by kernel_rfl
theorem fnSpecials_k13 : (fun (P : Program) (f : FuncId) (fn : Func) (s : ChangeSpec) (c : OpenClaim) => ((c.maps == (fn.params.toList ++ s.plain.varTypes P).any (P.mapsRec ·)) : Bool)) Tryd.prog 6 Tryd.f6 Rows.fnSpecialsSpec Rows.fnSpecialsRow = true := by kernel_rfl
theorem fnSpecials_k14 : (fun (P : Program) (f : FuncId) (fn : Func) (s : ChangeSpec) (c : OpenClaim) => ((c.ifaces == (fn.params.toList ++ s.plain.varTypes P).any (P.ifacesRec ·)) : Bool)) Tryd.prog 6 Tryd.f6 Rows.fnSpecialsSpec Rows.fnSpecialsRow = true := by kernel_rfl
theorem fnSpecials_k15 : (fun (P : Program) (f : FuncId) (fn : Func) (s : ChangeSpec) (c : OpenClaim) => ((c.mapsOut == P.mapsAmong fn.resultTypes.toList) : Bool)) Tryd.prog 6 Tryd.f6 Rows.fnSpecialsSpec Rows.fnSpecialsRow = true := by kernel_rfl
theorem fnSpecials_k16 : (fun (P : Program) (f : FuncId) (fn : Func) (s : ChangeSpec) (c : OpenClaim) => ((c.loops == (fn.params.toList ++ s.plain.varTypes P).any (P.loopsFrom ·)) : Bool)) Tryd.prog 6 Tryd.f6 Rows.fnSpecialsSpec Rows.fnSpecialsRow = true := by kernel_rfl
theorem fnSpecials_k17 : (fun (P : Program) (f : FuncId) (fn : Func) (s : ChangeSpec) (c : OpenClaim) => ((c.wideKeys == (fn.params.toList ++ s.plain.varTypes P ++ fn.resultTypes.toList).any (P.wideKeysFrom ·)) : Bool)) Tryd.prog 6 Tryd.f6 Rows.fnSpecialsSpec Rows.fnSpecialsRow = true := by kernel_rfl
theorem fnSpecials_k18 : (fun (P : Program) (f : FuncId) (fn : Func) (s : ChangeSpec) (c : OpenClaim) => (s.vars.all (P.varReadable ·) : Bool)) Tryd.prog 6 Tryd.f6 Rows.fnSpecialsSpec Rows.fnSpecialsRow = true := by kernel_rfl
theorem fnSpecials_k19 : (fun (P : Program) (f : FuncId) (fn : Func) (s : ChangeSpec) (c : OpenClaim) => (fn.resultTypes.all (fun t => P.readableRec t && decide (t < P.types.size)) : Bool)) Tryd.prog 6 Tryd.f6 Rows.fnSpecialsSpec Rows.fnSpecialsRow = true := by kernel_rfl
theorem fnSpecials_k20 : (fun (P : Program) (f : FuncId) (fn : Func) (s : ChangeSpec) (c : OpenClaim) => ((c.ifacesOut == fn.resultTypes.toList.any (P.ifacesRec ·)) : Bool)) Tryd.prog 6 Tryd.f6 Rows.fnSpecialsSpec Rows.fnSpecialsRow = true := by kernel_rfl
theorem fnSpecials_k21 : (fun (P : Program) (f : FuncId) (fn : Func) (s : ChangeSpec) (c : OpenClaim) => ((c.loopsOut == fn.resultTypes.toList.any (P.loopsFrom ·)) : Bool)) Tryd.prog 6 Tryd.f6 Rows.fnSpecialsSpec Rows.fnSpecialsRow = true := by kernel_rfl
theorem fnSpecials_k22 : (fun (P : Program) (f : FuncId) (fn : Func) (s : ChangeSpec) (c : OpenClaim) => ((c.plainKeys == P.plainKeys) : Bool)) Tryd.prog 6 Tryd.f6 Rows.fnSpecialsSpec Rows.fnSpecialsRow = true := prog_k22
theorem fnSpecials_k23 : (fun (P : Program) (f : FuncId) (fn : Func) (s : ChangeSpec) (c : OpenClaim) => (c.shortTexts.isNone : Bool)) Tryd.prog 6 Tryd.f6 Rows.fnSpecialsSpec Rows.fnSpecialsRow = true := by kernel_rfl
theorem fnSpecials_k24 : (fun (P : Program) (f : FuncId) (fn : Func) (s : ChangeSpec) (c : OpenClaim) => (P.stopsHeard : Bool)) Tryd.prog 6 Tryd.f6 Rows.fnSpecialsSpec Rows.fnSpecialsRow = true := prog_k24
theorem fnSpecials_k25 : (fun (P : Program) (f : FuncId) (fn : Func) (s : ChangeSpec) (c : OpenClaim) => (P.mayEnter : Bool)) Tryd.prog 6 Tryd.f6 Rows.fnSpecialsSpec Rows.fnSpecialsRow = true := prog_k25
theorem fnSpecials_k26 : (fun (P : Program) (f : FuncId) (fn : Func) (s : ChangeSpec) (c : OpenClaim) => ((c.lifted == P.liftsFinal) : Bool)) Tryd.prog 6 Tryd.f6 Rows.fnSpecialsSpec Rows.fnSpecialsRow = true := prog_k26
theorem fnSpecials_k27 : (fun (P : Program) (f : FuncId) (fn : Func) (s : ChangeSpec) (c : OpenClaim) => ((P.make == some c.make) : Bool)) Tryd.prog 6 Tryd.f6 Rows.fnSpecialsSpec Rows.fnSpecialsRow = true := prog_k27
theorem fnSpecials_k28 : (fun (P : Program) (f : FuncId) (fn : Func) (s : ChangeSpec) (c : OpenClaim) => ((c.kinds == (if c.domain.isEmpty then [] else fn.params.toList.map fun t => match P.underlying t with | some (.int k) => some k | _ => none)) : Bool)) Tryd.prog 6 Tryd.f6 Rows.fnSpecialsSpec Rows.fnSpecialsRow = true := by kernel_rfl
theorem fnSpecials_k29 : (fun (P : Program) (f : FuncId) (fn : Func) (s : ChangeSpec) (c : OpenClaim) => ((c.pinned == c.pinnedBy) : Bool)) Tryd.prog 6 Tryd.f6 Rows.fnSpecialsSpec Rows.fnSpecialsRow = true := by kernel_rfl
theorem fnSpecials_k30 : (fun (P : Program) (f : FuncId) (fn : Func) (s : ChangeSpec) (c : OpenClaim) => ((c.veiled == (fn.params.toList ++ s.plain.varTypes P ++ fn.resultTypes.toList).any (P.veiledRec ·)) : Bool)) Tryd.prog 6 Tryd.f6 Rows.fnSpecialsSpec Rows.fnSpecialsRow = true := by kernel_rfl
theorem fnSpecials_k31 : (fun (P : Program) (f : FuncId) (fn : Func) (s : ChangeSpec) (c : OpenClaim) => (c.veiledFits P fn.params.toList (fn.params.toList ++ s.plain.varTypes P ++ fn.resultTypes.toList) : Bool)) Tryd.prog 6 Tryd.f6 Rows.fnSpecialsSpec Rows.fnSpecialsRow = true := by kernel_rfl
set_option maxRecDepth 100000 in
theorem fnSpecials_facts : joinedFacts Tryd.prog 6 Tryd.f6 Rows.fnSpecialsSpec Rows.fnSpecialsRow = true := facts_of (P := Tryd.prog) (f := 6) (fn := Tryd.f6) (s := Rows.fnSpecialsSpec) (c := Rows.fnSpecialsRow) fnSpecials_k0 fnSpecials_k1 fnSpecials_k2 fnSpecials_k3 fnSpecials_k4 fnSpecials_k5 fnSpecials_k6 fnSpecials_k7 fnSpecials_k8 fnSpecials_k9 fnSpecials_k10 fnSpecials_k11 fnSpecials_k12 fnSpecials_k13 fnSpecials_k14 fnSpecials_k15 fnSpecials_k16 fnSpecials_k17 fnSpecials_k18 fnSpecials_k19 fnSpecials_k20 fnSpecials_k21 fnSpecials_k22 fnSpecials_k23 fnSpecials_k24 fnSpecials_k25 fnSpecials_k26 fnSpecials_k27 fnSpecials_k28 fnSpecials_k29 fnSpecials_k30 fnSpecials_k31
theorem fnSpecials_wfb : Rows.fnSpecialsRow.wfByText (OpenSpec.ofChange Rows.fnSpecialsSpec) = true := by kernel_rfl
theorem fnSpecials_goes : false = Rows.fnSpecialsRow.goesBy Tryd.pinned.checked.prog := by kernel_rfl
theorem fnSpecials_name : Tryd.prog.funcNamed "lib-guidepost/laws.FnSpecials" = some 6 := by kernel_rfl
end Go.Proofs.YtmlkcgacneealaaDoor
