/- The closed facts of the row of FnLengths; three of its card. No conditions. -/
import Derived.Test.YtmlkcgacneealaaDoorRows
import GoSem.ClaimSeven
import Derived.Test.YtmlkcgacneealaaDoorShared2
import Derived.KernelRfl
set_option linter.unusedVariables false
set_option linter.unusedSimpArgs false
namespace Go.Proofs.YtmlkcgacneealaaDoor
open Go
theorem fnLengths_k0 : (fun (P : Program) (f : FuncId) (fn : Func) (s : ChangeSpec) (c : OpenClaim) => (c.wf (OpenSpec.ofChange s) : Bool)) Tryd.prog 16 Tryd.f16 Rows.fnLengthsSpec Rows.fnLengthsRow = true := by kernel_rfl
theorem fnLengths_k1 : (fun (P : Program) (f : FuncId) (fn : Func) (s : ChangeSpec) (c : OpenClaim) => (laidOutB P : Bool)) Tryd.prog 16 Tryd.f16 Rows.fnLengthsSpec Rows.fnLengthsRow = true := prog_k1
theorem fnLengths_k2 : (fun (P : Program) (f : FuncId) (fn : Func) (s : ChangeSpec) (c : OpenClaim) => (mapsRowed P : Bool)) Tryd.prog 16 Tryd.f16 Rows.fnLengthsSpec Rows.fnLengthsRow = true := prog_k2
theorem fnLengths_k3 : (fun (P : Program) (f : FuncId) (fn : Func) (s : ChangeSpec) (c : OpenClaim) => (fn.params.all (P.readableRec ·) : Bool)) Tryd.prog 16 Tryd.f16 Rows.fnLengthsSpec Rows.fnLengthsRow = true := by kernel_rfl
theorem fnLengths_k4 : (fun (P : Program) (f : FuncId) (fn : Func) (s : ChangeSpec) (c : OpenClaim) => (namedTie P c.named s.vars : Bool)) Tryd.prog 16 Tryd.f16 Rows.fnLengthsSpec Rows.fnLengthsRow = true := by kernel_rfl
theorem fnLengths_k5 : (fun (P : Program) (f : FuncId) (fn : Func) (s : ChangeSpec) (c : OpenClaim) => ((c.stops == []) : Bool)) Tryd.prog 16 Tryd.f16 Rows.fnLengthsSpec Rows.fnLengthsRow = true := by kernel_rfl
theorem fnLengths_k6 : (fun (P : Program) (f : FuncId) (fn : Func) (s : ChangeSpec) (c : OpenClaim) => ((P.stops == []) : Bool)) Tryd.prog 16 Tryd.f16 Rows.fnLengthsSpec Rows.fnLengthsRow = true := prog_k6
theorem fnLengths_k7 : (fun (P : Program) (f : FuncId) (fn : Func) (s : ChangeSpec) (c : OpenClaim) => ((c.knobs == []) : Bool)) Tryd.prog 16 Tryd.f16 Rows.fnLengthsSpec Rows.fnLengthsRow = true := by kernel_rfl
theorem fnLengths_k8 : (fun (P : Program) (f : FuncId) (fn : Func) (s : ChangeSpec) (c : OpenClaim) => ((P.stopKnobs == []) : Bool)) Tryd.prog 16 Tryd.f16 Rows.fnLengthsSpec Rows.fnLengthsRow = true := prog_k8
theorem fnLengths_k9 : (fun (P : Program) (f : FuncId) (fn : Func) (s : ChangeSpec) (c : OpenClaim) => ((c.inPlace == P.inPlace f) : Bool)) Tryd.prog 16 Tryd.f16 Rows.fnLengthsSpec Rows.fnLengthsRow = true := by kernel_rfl
theorem fnLengths_k10 : (fun (P : Program) (f : FuncId) (fn : Func) (s : ChangeSpec) (c : OpenClaim) => ((c.unfollowed == P.unfollowed f) : Bool)) Tryd.prog 16 Tryd.f16 Rows.fnLengthsSpec Rows.fnLengthsRow = true := by kernel_rfl
theorem fnLengths_k11 : (fun (P : Program) (f : FuncId) (fn : Func) (s : ChangeSpec) (c : OpenClaim) => ((c.recurses == P.recurses f) : Bool)) Tryd.prog 16 Tryd.f16 Rows.fnLengthsSpec Rows.fnLengthsRow = true := by kernel_rfl
theorem fnLengths_k12 : (fun (P : Program) (f : FuncId) (fn : Func) (s : ChangeSpec) (c : OpenClaim) => ((c.named == P.varsNamed f) : Bool)) Tryd.prog 16 Tryd.f16 Rows.fnLengthsSpec Rows.fnLengthsRow = true := by kernel_rfl
theorem fnLengths_k13 : (fun (P : Program) (f : FuncId) (fn : Func) (s : ChangeSpec) (c : OpenClaim) => ((c.maps == (fn.params.toList ++ s.plain.varTypes P).any (P.mapsRec ·)) : Bool)) Tryd.prog 16 Tryd.f16 Rows.fnLengthsSpec Rows.fnLengthsRow = true := by kernel_rfl
theorem fnLengths_k14 : (fun (P : Program) (f : FuncId) (fn : Func) (s : ChangeSpec) (c : OpenClaim) => ((c.ifaces == (fn.params.toList ++ s.plain.varTypes P).any (P.ifacesRec ·)) : Bool)) Tryd.prog 16 Tryd.f16 Rows.fnLengthsSpec Rows.fnLengthsRow = true := by kernel_rfl
theorem fnLengths_k15 : (fun (P : Program) (f : FuncId) (fn : Func) (s : ChangeSpec) (c : OpenClaim) => ((c.mapsOut == P.mapsAmong fn.resultTypes.toList) : Bool)) Tryd.prog 16 Tryd.f16 Rows.fnLengthsSpec Rows.fnLengthsRow = true := by kernel_rfl
theorem fnLengths_k16 : (fun (P : Program) (f : FuncId) (fn : Func) (s : ChangeSpec) (c : OpenClaim) => ((c.loops == (fn.params.toList ++ s.plain.varTypes P).any (P.loopsFrom ·)) : Bool)) Tryd.prog 16 Tryd.f16 Rows.fnLengthsSpec Rows.fnLengthsRow = true := by kernel_rfl
theorem fnLengths_k17 : (fun (P : Program) (f : FuncId) (fn : Func) (s : ChangeSpec) (c : OpenClaim) => ((c.wideKeys == (fn.params.toList ++ s.plain.varTypes P ++ fn.resultTypes.toList).any (P.wideKeysFrom ·)) : Bool)) Tryd.prog 16 Tryd.f16 Rows.fnLengthsSpec Rows.fnLengthsRow = true := by kernel_rfl
theorem fnLengths_k18 : (fun (P : Program) (f : FuncId) (fn : Func) (s : ChangeSpec) (c : OpenClaim) => (s.vars.all (P.varReadable ·) : Bool)) Tryd.prog 16 Tryd.f16 Rows.fnLengthsSpec Rows.fnLengthsRow = true := by kernel_rfl
theorem fnLengths_k19 : (fun (P : Program) (f : FuncId) (fn : Func) (s : ChangeSpec) (c : OpenClaim) => (fn.resultTypes.all (fun t => P.readableRec t && decide (t < P.types.size)) : Bool)) Tryd.prog 16 Tryd.f16 Rows.fnLengthsSpec Rows.fnLengthsRow = true := by kernel_rfl
theorem fnLengths_k20 : (fun (P : Program) (f : FuncId) (fn : Func) (s : ChangeSpec) (c : OpenClaim) => ((c.ifacesOut == fn.resultTypes.toList.any (P.ifacesRec ·)) : Bool)) Tryd.prog 16 Tryd.f16 Rows.fnLengthsSpec Rows.fnLengthsRow = true := by kernel_rfl
theorem fnLengths_k21 : (fun (P : Program) (f : FuncId) (fn : Func) (s : ChangeSpec) (c : OpenClaim) => ((c.loopsOut == fn.resultTypes.toList.any (P.loopsFrom ·)) : Bool)) Tryd.prog 16 Tryd.f16 Rows.fnLengthsSpec Rows.fnLengthsRow = true := by kernel_rfl
theorem fnLengths_k22 : (fun (P : Program) (f : FuncId) (fn : Func) (s : ChangeSpec) (c : OpenClaim) => ((c.plainKeys == P.plainKeys) : Bool)) Tryd.prog 16 Tryd.f16 Rows.fnLengthsSpec Rows.fnLengthsRow = true := prog_k22
theorem fnLengths_k23 : (fun (P : Program) (f : FuncId) (fn : Func) (s : ChangeSpec) (c : OpenClaim) => (c.shortTexts.isNone : Bool)) Tryd.prog 16 Tryd.f16 Rows.fnLengthsSpec Rows.fnLengthsRow = true := by kernel_rfl
theorem fnLengths_k24 : (fun (P : Program) (f : FuncId) (fn : Func) (s : ChangeSpec) (c : OpenClaim) => (P.stopsHeard : Bool)) Tryd.prog 16 Tryd.f16 Rows.fnLengthsSpec Rows.fnLengthsRow = true := prog_k24
theorem fnLengths_k25 : (fun (P : Program) (f : FuncId) (fn : Func) (s : ChangeSpec) (c : OpenClaim) => (P.mayEnter : Bool)) Tryd.prog 16 Tryd.f16 Rows.fnLengthsSpec Rows.fnLengthsRow = true := prog_k25
theorem fnLengths_k26 : (fun (P : Program) (f : FuncId) (fn : Func) (s : ChangeSpec) (c : OpenClaim) => ((c.lifted == P.liftsFinal) : Bool)) Tryd.prog 16 Tryd.f16 Rows.fnLengthsSpec Rows.fnLengthsRow = true := prog_k26
theorem fnLengths_k27 : (fun (P : Program) (f : FuncId) (fn : Func) (s : ChangeSpec) (c : OpenClaim) => ((P.make == some c.make) : Bool)) Tryd.prog 16 Tryd.f16 Rows.fnLengthsSpec Rows.fnLengthsRow = true := prog_k27
theorem fnLengths_k28 : (fun (P : Program) (f : FuncId) (fn : Func) (s : ChangeSpec) (c : OpenClaim) => ((c.kinds == (if c.domain.isEmpty then [] else fn.params.toList.map fun t => match P.underlying t with | some (.int k) => some k | _ => none)) : Bool)) Tryd.prog 16 Tryd.f16 Rows.fnLengthsSpec Rows.fnLengthsRow = true := by kernel_rfl
theorem fnLengths_k29 : (fun (P : Program) (f : FuncId) (fn : Func) (s : ChangeSpec) (c : OpenClaim) => ((c.pinned == c.pinnedBy) : Bool)) Tryd.prog 16 Tryd.f16 Rows.fnLengthsSpec Rows.fnLengthsRow = true := by kernel_rfl
theorem fnLengths_k30 : (fun (P : Program) (f : FuncId) (fn : Func) (s : ChangeSpec) (c : OpenClaim) => ((c.veiled == (fn.params.toList ++ s.plain.varTypes P ++ fn.resultTypes.toList).any (P.veiledRec ·)) : Bool)) Tryd.prog 16 Tryd.f16 Rows.fnLengthsSpec Rows.fnLengthsRow = true := by kernel_rfl
theorem fnLengths_k31 : (fun (P : Program) (f : FuncId) (fn : Func) (s : ChangeSpec) (c : OpenClaim) => (c.veiledFits P fn.params.toList (fn.params.toList ++ s.plain.varTypes P ++ fn.resultTypes.toList) : Bool)) Tryd.prog 16 Tryd.f16 Rows.fnLengthsSpec Rows.fnLengthsRow = true := by kernel_rfl
set_option maxRecDepth 100000 in
theorem fnLengths_facts : joinedFacts Tryd.prog 16 Tryd.f16 Rows.fnLengthsSpec Rows.fnLengthsRow = true := facts_of (P := Tryd.prog) (f := 16) (fn := Tryd.f16) (s := Rows.fnLengthsSpec) (c := Rows.fnLengthsRow) fnLengths_k0 fnLengths_k1 fnLengths_k2 fnLengths_k3 fnLengths_k4 fnLengths_k5 fnLengths_k6 fnLengths_k7 fnLengths_k8 fnLengths_k9 fnLengths_k10 fnLengths_k11 fnLengths_k12 fnLengths_k13 fnLengths_k14 fnLengths_k15 fnLengths_k16 fnLengths_k17 fnLengths_k18 fnLengths_k19 fnLengths_k20 fnLengths_k21 fnLengths_k22 fnLengths_k23 fnLengths_k24 fnLengths_k25 fnLengths_k26 fnLengths_k27 fnLengths_k28 fnLengths_k29 fnLengths_k30 fnLengths_k31
theorem fnLengths_wfb : Rows.fnLengthsRow.wfByText (OpenSpec.ofChange Rows.fnLengthsSpec) = true := by kernel_rfl
theorem fnLengths_goes : false = Rows.fnLengthsRow.goesBy Tryd.pinned.checked.prog := by kernel_rfl
theorem fnLengths_name : Tryd.prog.funcNamed "lib-guidepost/laws.FnLengths" = some 16 := by kernel_rfl
end Go.Proofs.YtmlkcgacneealaaDoor
