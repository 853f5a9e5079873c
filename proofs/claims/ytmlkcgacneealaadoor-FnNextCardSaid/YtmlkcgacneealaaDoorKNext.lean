/- The closed facts of the row of FnNext; three of its card. No conditions. -/
import Derived.Test.YtmlkcgacneealaaDoorRows
import GoSem.ClaimSeven
import Derived.Test.YtmlkcgacneealaaDoorShared2
import Derived.KernelRfl
set_option linter.unusedVariables false
set_option linter.unusedSimpArgs false
namespace Go.Proofs.YtmlkcgacneealaaDoor
open Go
theorem fnNext_k0 : (fun (P : Program) (f : FuncId) (fn : Func) (s : ChangeSpec) (c : OpenClaim) => (c.wf (OpenSpec.ofChange s) : Bool)) Tryd.prog 9 Tryd.f9 Rows.fnNextSpec Rows.fnNextRow = true := by kernel_rfl
theorem fnNext_k1 : (fun (P : Program) (f : FuncId) (fn : Func) (s : ChangeSpec) (c : OpenClaim) => (laidOutB P : Bool)) Tryd.prog 9 Tryd.f9 Rows.fnNextSpec Rows.fnNextRow = true := prog_k1
theorem fnNext_k2 : (fun (P : Program) (f : FuncId) (fn : Func) (s : ChangeSpec) (c : OpenClaim) => (mapsRowed P : Bool)) Tryd.prog 9 Tryd.f9 Rows.fnNextSpec Rows.fnNextRow = true := prog_k2
theorem fnNext_k3 : (fun (P : Program) (f : FuncId) (fn : Func) (s : ChangeSpec) (c : OpenClaim) => (fn.params.all (P.readableRec ·) : Bool)) Tryd.prog 9 Tryd.f9 Rows.fnNextSpec Rows.fnNextRow = true := by kernel_rfl
theorem fnNext_k4 : (fun (P : Program) (f : FuncId) (fn : Func) (s : ChangeSpec) (c : OpenClaim) => (namedTie P c.named s.vars : Bool)) Tryd.prog 9 Tryd.f9 Rows.fnNextSpec Rows.fnNextRow = true := by kernel_rfl
theorem fnNext_k5 : (fun (P : Program) (f : FuncId) (fn : Func) (s : ChangeSpec) (c : OpenClaim) => ((c.stops == []) : Bool)) Tryd.prog 9 Tryd.f9 Rows.fnNextSpec Rows.fnNextRow = true := by kernel_rfl
theorem fnNext_k6 : (fun (P : Program) (f : FuncId) (fn : Func) (s : ChangeSpec) (c : OpenClaim) => ((P.stops == []) : Bool)) Tryd.prog 9 Tryd.f9 Rows.fnNextSpec Rows.fnNextRow = true := prog_k6
theorem fnNext_k7 : (fun (P : Program) (f : FuncId) (fn : Func) (s : ChangeSpec) (c : OpenClaim) => ((c.knobs == []) : Bool)) Tryd.prog 9 Tryd.f9 Rows.fnNextSpec Rows.fnNextRow = true := by kernel_rfl
theorem fnNext_k8 : (fun (P : Program) (f : FuncId) (fn : Func) (s : ChangeSpec) (c : OpenClaim) => ((P.stopKnobs == []) : Bool)) Tryd.prog 9 Tryd.f9 Rows.fnNextSpec Rows.fnNextRow = true := prog_k8
theorem fnNext_k9 : (fun (P : Program) (f : FuncId) (fn : Func) (s : ChangeSpec) (c : OpenClaim) => ((c.inPlace == P.inPlace f) : Bool)) Tryd.prog 9 Tryd.f9 Rows.fnNextSpec Rows.fnNextRow = true := by kernel_rfl
theorem fnNext_k10 : (fun (P : Program) (f : FuncId) (fn : Func) (s : ChangeSpec) (c : OpenClaim) => ((c.unfollowed == P.unfollowed f) : Bool)) Tryd.prog 9 Tryd.f9 Rows.fnNextSpec Rows.fnNextRow = true := by kernel_rfl
theorem fnNext_k11 : (fun (P : Program) (f : FuncId) (fn : Func) (s : ChangeSpec) (c : OpenClaim) => ((c.recurses == P.recurses f) : Bool)) Tryd.prog 9 Tryd.f9 Rows.fnNextSpec Rows.fnNextRow = true := by kernel_rfl
theorem fnNext_k12 : (fun (P : Program) (f : FuncId) (fn : Func) (s : ChangeSpec) (c : OpenClaim) => ((c.named == P.varsNamed f) : Bool)) Tryd.prog 9 Tryd.f9 Rows.fnNextSpec Rows.fnNextRow = true := by kernel_rfl
theorem fnNext_k13 : (fun (P : Program) (f : FuncId) (fn : Func) (s : ChangeSpec) (c : OpenClaim) => ((c.maps == (fn.params.toList ++ s.plain.varTypes P).any (P.mapsRec ·)) : Bool)) Tryd.prog 9 Tryd.f9 Rows.fnNextSpec Rows.fnNextRow = true := by kernel_rfl
theorem fnNext_k14 : (fun (P : Program) (f : FuncId) (fn : Func) (s : ChangeSpec) (c : OpenClaim) => ((c.ifaces == (fn.params.toList ++ s.plain.varTypes P).any (P.ifacesRec ·)) : Bool)) Tryd.prog 9 Tryd.f9 Rows.fnNextSpec Rows.fnNextRow = true := by kernel_rfl
theorem fnNext_k15 : (fun (P : Program) (f : FuncId) (fn : Func) (s : ChangeSpec) (c : OpenClaim) => ((c.mapsOut == P.mapsAmong fn.resultTypes.toList) : Bool)) Tryd.prog 9 Tryd.f9 Rows.fnNextSpec Rows.fnNextRow = true := by kernel_rfl
theorem fnNext_k16 : (fun (P : Program) (f : FuncId) (fn : Func) (s : ChangeSpec) (c : OpenClaim) => ((c.loops == (fn.params.toList ++ s.plain.varTypes P).any (P.loopsFrom ·)) : Bool)) Tryd.prog 9 Tryd.f9 Rows.fnNextSpec Rows.fnNextRow = true := by kernel_rfl
theorem fnNext_k17 : (fun (P : Program) (f : FuncId) (fn : Func) (s : ChangeSpec) (c : OpenClaim) => ((c.wideKeys == (fn.params.toList ++ s.plain.varTypes P ++ fn.resultTypes.toList).any (P.wideKeysFrom ·)) : Bool)) Tryd.prog 9 Tryd.f9 Rows.fnNextSpec Rows.fnNextRow = true := by kernel_rfl
theorem fnNext_k18 : (fun (P : Program) (f : FuncId) (fn : Func) (s : ChangeSpec) (c : OpenClaim) => (s.vars.all (P.varReadable ·) : Bool)) Tryd.prog 9 Tryd.f9 Rows.fnNextSpec Rows.fnNextRow = true := by kernel_rfl
theorem fnNext_k19 : (fun (P : Program) (f : FuncId) (fn : Func) (s : ChangeSpec) (c : OpenClaim) => (fn.resultTypes.all (fun t => P.readableRec t && decide (t < P.types.size)) : Bool)) Tryd.prog 9 Tryd.f9 Rows.fnNextSpec Rows.fnNextRow = true := by kernel_rfl
theorem fnNext_k20 : (fun (P : Program) (f : FuncId) (fn : Func) (s : ChangeSpec) (c : OpenClaim) => ((c.ifacesOut == fn.resultTypes.toList.any (P.ifacesRec ·)) : Bool)) Tryd.prog 9 Tryd.f9 Rows.fnNextSpec Rows.fnNextRow = true := by kernel_rfl
theorem fnNext_k21 : (fun (P : Program) (f : FuncId) (fn : Func) (s : ChangeSpec) (c : OpenClaim) => ((c.loopsOut == fn.resultTypes.toList.any (P.loopsFrom ·)) : Bool)) Tryd.prog 9 Tryd.f9 Rows.fnNextSpec Rows.fnNextRow = true := by kernel_rfl
theorem fnNext_k22 : (fun (P : Program) (f : FuncId) (fn : Func) (s : ChangeSpec) (c : OpenClaim) => ((c.plainKeys == P.plainKeys) : Bool)) Tryd.prog 9 Tryd.f9 Rows.fnNextSpec Rows.fnNextRow = true := prog_k22
theorem fnNext_k23 : (fun (P : Program) (f : FuncId) (fn : Func) (s : ChangeSpec) (c : OpenClaim) => (c.shortTexts.isNone : Bool)) Tryd.prog 9 Tryd.f9 Rows.fnNextSpec Rows.fnNextRow = true := by kernel_rfl
theorem fnNext_k24 : (fun (P : Program) (f : FuncId) (fn : Func) (s : ChangeSpec) (c : OpenClaim) => (P.stopsHeard : Bool)) Tryd.prog 9 Tryd.f9 Rows.fnNextSpec Rows.fnNextRow = true := prog_k24
theorem fnNext_k25 : (fun (P : Program) (f : FuncId) (fn : Func) (s : ChangeSpec) (c : OpenClaim) => (P.mayEnter : Bool)) Tryd.prog 9 Tryd.f9 Rows.fnNextSpec Rows.fnNextRow = true := prog_k25
theorem fnNext_k26 : (fun (P : Program) (f : FuncId) (fn : Func) (s : ChangeSpec) (c : OpenClaim) => ((c.lifted == P.liftsFinal) : Bool)) Tryd.prog 9 Tryd.f9 Rows.fnNextSpec Rows.fnNextRow = true := prog_k26
theorem fnNext_k27 : (fun (P : Program) (f : FuncId) (fn : Func) (s : ChangeSpec) (c : OpenClaim) => ((P.make == some c.make) : Bool)) Tryd.prog 9 Tryd.f9 Rows.fnNextSpec Rows.fnNextRow = true := prog_k27
theorem fnNext_k28 : (fun (P : Program) (f : FuncId) (fn : Func) (s : ChangeSpec) (c : OpenClaim) => ((c.kinds == (if c.domain.isEmpty then [] else fn.params.toList.map fun t => match P.underlying t with | some (.int k) => some k | _ => none)) : Bool)) Tryd.prog 9 Tryd.f9 Rows.fnNextSpec Rows.fnNextRow = true := by kernel_rfl
theorem fnNext_k29 : (fun (P : Program) (f : FuncId) (fn : Func) (s : ChangeSpec) (c : OpenClaim) => ((c.pinned == c.pinnedBy) : Bool)) Tryd.prog 9 Tryd.f9 Rows.fnNextSpec Rows.fnNextRow = true := by kernel_rfl
theorem fnNext_k30 : (fun (P : Program) (f : FuncId) (fn : Func) (s : ChangeSpec) (c : OpenClaim) => ((c.veiled == (fn.params.toList ++ s.plain.varTypes P ++ fn.resultTypes.toList).any (P.veiledRec ·)) : Bool)) Tryd.prog 9 Tryd.f9 Rows.fnNextSpec Rows.fnNextRow = true := by kernel_rfl
theorem fnNext_k31 : (fun (P : Program) (f : FuncId) (fn : Func) (s : ChangeSpec) (c : OpenClaim) => (c.veiledFits P fn.params.toList (fn.params.toList ++ s.plain.varTypes P ++ fn.resultTypes.toList) : Bool)) Tryd.prog 9 Tryd.f9 Rows.fnNextSpec Rows.fnNextRow = true := by kernel_rfl
set_option maxRecDepth 100000 in
theorem fnNext_facts : joinedFacts Tryd.prog 9 Tryd.f9 Rows.fnNextSpec Rows.fnNextRow = true := facts_of (P := Tryd.prog) (f := 9) (fn := Tryd.f9) (s := Rows.fnNextSpec) (c := Rows.fnNextRow) fnNext_k0 fnNext_k1 fnNext_k2 fnNext_k3 fnNext_k4 fnNext_k5 fnNext_k6 fnNext_k7 fnNext_k8 fnNext_k9 fnNext_k10 fnNext_k11 fnNext_k12 fnNext_k13 fnNext_k14 fnNext_k15 fnNext_k16 fnNext_k17 fnNext_k18 fnNext_k19 fnNext_k20 fnNext_k21 fnNext_k22 fnNext_k23 fnNext_k24 fnNext_k25 fnNext_k26 fnNext_k27 fnNext_k28 fnNext_k29 fnNext_k30 fnNext_k31
theorem fnNext_wfb : Rows.fnNextRow.wfByText (OpenSpec.ofChange Rows.fnNextSpec) = true := by kernel_rfl
theorem fnNext_goes : false = Rows.fnNextRow.goesBy Tryd.pinned.checked.prog := by kernel_rfl
theorem fnNext_name : Tryd.prog.funcNamed "lib-guidepost/laws.FnNext" = some 9 := by kernel_rfl
end Go.Proofs.YtmlkcgacneealaaDoor
