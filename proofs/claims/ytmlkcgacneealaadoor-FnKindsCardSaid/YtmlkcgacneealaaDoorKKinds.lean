/- The closed facts of the row of FnKinds; three of its card. No conditions. -/
import Derived.Test.YtmlkcgacneealaaDoorRows
import GoSem.ClaimSeven
import Derived.Test.YtmlkcgacneealaaDoorShared2
import Derived.KernelRfl
set_option linter.unusedVariables false
set_option linter.unusedSimpArgs false
namespace Go.Proofs.YtmlkcgacneealaaDoor
open Go
theorem fnKinds_k0 : (fun (P : Program) (f : FuncId) (fn : Func) (s : ChangeSpec) (c : OpenClaim) => (c.wf (OpenSpec.ofChange s) : Bool)) Tryd.prog 14 Tryd.f14 Rows.fnKindsSpec Rows.fnKindsRow = true := by kernel_rfl
theorem fnKinds_k1 : (fun (P : Program) (f : FuncId) (fn : Func) (s : ChangeSpec) (c : OpenClaim) => (laidOutB P : Bool)) Tryd.prog 14 Tryd.f14 Rows.fnKindsSpec Rows.fnKindsRow = true := prog_k1
theorem fnKinds_k2 : (fun (P : Program) (f : FuncId) (fn : Func) (s : ChangeSpec) (c : OpenClaim) => (mapsRowed P : Bool)) Tryd.prog 14 Tryd.f14 Rows.fnKindsSpec Rows.fnKindsRow = true := prog_k2
theorem fnKinds_k3 : (fun (P : Program) (f : FuncId) (fn : Func) (s : ChangeSpec) (c : OpenClaim) => (fn.params.all (P.readableRec ·) : Bool)) Tryd.prog 14 Tryd.f14 Rows.fnKindsSpec Rows.fnKindsRow = true := by kernel_rfl
theorem fnKinds_k4 : (fun (P : Program) (f : FuncId) (fn : Func) (s : ChangeSpec) (c : OpenClaim) => (namedTie P c.named s.vars : Bool)) Tryd.prog 14 Tryd.f14 Rows.fnKindsSpec Rows.fnKindsRow = true := by kernel_rfl
theorem fnKinds_k5 : (fun (P : Program) (f : FuncId) (fn : Func) (s : ChangeSpec) (c : OpenClaim) => ((c.stops == []) : Bool)) Tryd.prog 14 Tryd.f14 Rows.fnKindsSpec Rows.fnKindsRow = true := by kernel_rfl
theorem fnKinds_k6 : (fun (P : Program) (f : FuncId) (fn : Func) (s : ChangeSpec) (c : OpenClaim) => ((P.stops == []) : Bool)) Tryd.prog 14 Tryd.f14 Rows.fnKindsSpec Rows.fnKindsRow = true := prog_k6
theorem fnKinds_k7 : (fun (P : Program) (f : FuncId) (fn : Func) (s : ChangeSpec) (c : OpenClaim) => ((c.knobs == []) : Bool)) Tryd.prog 14 Tryd.f14 Rows.fnKindsSpec Rows.fnKindsRow = true := by kernel_rfl
theorem fnKinds_k8 : (fun (P : Program) (f : FuncId) (fn : Func) (s : ChangeSpec) (c : OpenClaim) => ((P.stopKnobs == []) : Bool)) Tryd.prog 14 Tryd.f14 Rows.fnKindsSpec Rows.fnKindsRow = true := prog_k8
theorem fnKinds_k9 : (fun (P : Program) (f : FuncId) (fn : Func) (s : ChangeSpec) (c : OpenClaim) => ((c.inPlace == P.inPlace f) : Bool)) Tryd.prog 14 Tryd.f14 Rows.fnKindsSpec Rows.fnKindsRow = true := by kernel_rfl
theorem fnKinds_k10 : (fun (P : Program) (f : FuncId) (fn : Func) (s : ChangeSpec) (c : OpenClaim) => ((c.unfollowed == P.unfollowed f) : Bool)) Tryd.prog 14 Tryd.f14 Rows.fnKindsSpec Rows.fnKindsRow = true := by kernel_rfl
theorem fnKinds_k11 : (fun (P : Program) (f : FuncId) (fn : Func) (s : ChangeSpec) (c : OpenClaim) => ((c.recurses == P.recurses f) : Bool)) Tryd.prog 14 Tryd.f14 Rows.fnKindsSpec Rows.fnKindsRow = true := by kernel_rfl
theorem fnKinds_k12 : (fun (P : Program) (f : FuncId) (fn : Func) (s : ChangeSpec) (c : OpenClaim) => ((c.named == P.varsNamed f) : Bool)) Tryd.prog 14 Tryd.f14 Rows.fnKindsSpec Rows.fnKindsRow = true := by kernel_rfl
theorem fnKinds_k13 : (fun (P : Program) (f : FuncId) (fn : Func) (s : ChangeSpec) (c : OpenClaim) => ((c.maps == (fn.params.toList ++ s.plain.varTypes P).any (P.mapsRec ·)) : Bool)) Tryd.prog 14 Tryd.f14 Rows.fnKindsSpec Rows.fnKindsRow = true := by kernel_rfl
theorem fnKinds_k14 : (fun (P : Program) (f : FuncId) (fn : Func) (s : ChangeSpec) (c : OpenClaim) => ((c.ifaces == (fn.params.toList ++ s.plain.varTypes P).any (P.ifacesRec ·)) : Bool)) Tryd.prog 14 Tryd.f14 Rows.fnKindsSpec Rows.fnKindsRow = true := by kernel_rfl
theorem fnKinds_k15 : (fun (P : Program) (f : FuncId) (fn : Func) (s : ChangeSpec) (c : OpenClaim) => ((c.mapsOut == P.mapsAmong fn.resultTypes.toList) : Bool)) Tryd.prog 14 Tryd.f14 Rows.fnKindsSpec Rows.fnKindsRow = true := by kernel_rfl
theorem fnKinds_k16 : (fun (P : Program) (f : FuncId) (fn : Func) (s : ChangeSpec) (c : OpenClaim) => ((c.loops == (fn.params.toList ++ s.plain.varTypes P).any (P.loopsFrom ·)) : Bool)) Tryd.prog 14 Tryd.f14 Rows.fnKindsSpec Rows.fnKindsRow = true := by kernel_rfl
theorem fnKinds_k17 : (fun (P : Program) (f : FuncId) (fn : Func) (s : ChangeSpec) (c : OpenClaim) => ((c.wideKeys == (fn.params.toList ++ s.plain.varTypes P ++ fn.resultTypes.toList).any (P.wideKeysFrom ·)) : Bool)) Tryd.prog 14 Tryd.f14 Rows.fnKindsSpec Rows.fnKindsRow = true := by kernel_rfl
theorem fnKinds_k18 : (fun (P : Program) (f : FuncId) (fn : Func) (s : ChangeSpec) (c : OpenClaim) => (s.vars.all (P.varReadable ·) : Bool)) Tryd.prog 14 Tryd.f14 Rows.fnKindsSpec Rows.fnKindsRow = true := by kernel_rfl
theorem fnKinds_k19 : (fun (P : Program) (f : FuncId) (fn : Func) (s : ChangeSpec) (c : OpenClaim) => (fn.resultTypes.all (fun t => P.readableRec t && decide (t < P.types.size)) : Bool)) Tryd.prog 14 Tryd.f14 Rows.fnKindsSpec Rows.fnKindsRow = true := by kernel_rfl
theorem fnKinds_k20 : (fun (P : Program) (f : FuncId) (fn : Func) (s : ChangeSpec) (c : OpenClaim) => ((c.ifacesOut == fn.resultTypes.toList.any (P.ifacesRec ·)) : Bool)) Tryd.prog 14 Tryd.f14 Rows.fnKindsSpec Rows.fnKindsRow = true := by kernel_rfl
theorem fnKinds_k21 : (fun (P : Program) (f : FuncId) (fn : Func) (s : ChangeSpec) (c : OpenClaim) => ((c.loopsOut == fn.resultTypes.toList.any (P.loopsFrom ·)) : Bool)) Tryd.prog 14 Tryd.f14 Rows.fnKindsSpec Rows.fnKindsRow = true := by kernel_rfl
theorem fnKinds_k22 : (fun (P : Program) (f : FuncId) (fn : Func) (s : ChangeSpec) (c : OpenClaim) => ((c.plainKeys == P.plainKeys) : Bool)) Tryd.prog 14 Tryd.f14 Rows.fnKindsSpec Rows.fnKindsRow = true := prog_k22
theorem fnKinds_k23 : (fun (P : Program) (f : FuncId) (fn : Func) (s : ChangeSpec) (c : OpenClaim) => (c.shortTexts.isNone : Bool)) Tryd.prog 14 Tryd.f14 Rows.fnKindsSpec Rows.fnKindsRow = true := by kernel_rfl
theorem fnKinds_k24 : (fun (P : Program) (f : FuncId) (fn : Func) (s : ChangeSpec) (c : OpenClaim) => (P.stopsHeard : Bool)) Tryd.prog 14 Tryd.f14 Rows.fnKindsSpec Rows.fnKindsRow = true := prog_k24
theorem fnKinds_k25 : (fun (P : Program) (f : FuncId) (fn : Func) (s : ChangeSpec) (c : OpenClaim) => (P.mayEnter : Bool)) Tryd.prog 14 Tryd.f14 Rows.fnKindsSpec Rows.fnKindsRow = true := prog_k25
theorem fnKinds_k26 : (fun (P : Program) (f : FuncId) (fn : Func) (s : ChangeSpec) (c : OpenClaim) => ((c.lifted == P.liftsFinal) : Bool)) Tryd.prog 14 Tryd.f14 Rows.fnKindsSpec Rows.fnKindsRow = true := prog_k26
theorem fnKinds_k27 : (fun (P : Program) (f : FuncId) (fn : Func) (s : ChangeSpec) (c : OpenClaim) => ((P.make == some c.make) : Bool)) Tryd.prog 14 Tryd.f14 Rows.fnKindsSpec Rows.fnKindsRow = true := prog_k27
theorem fnKinds_k28 : (fun (P : Program) (f : FuncId) (fn : Func) (s : ChangeSpec) (c : OpenClaim) => ((c.kinds == (if c.domain.isEmpty then [] else fn.params.toList.map fun t => match P.underlying t with | some (.int k) => some k | _ => none)) : Bool)) Tryd.prog 14 Tryd.f14 Rows.fnKindsSpec Rows.fnKindsRow = true := by kernel_rfl
theorem fnKinds_k29 : (fun (P : Program) (f : FuncId) (fn : Func) (s : ChangeSpec) (c : OpenClaim) => ((c.pinned == c.pinnedBy) : Bool)) Tryd.prog 14 Tryd.f14 Rows.fnKindsSpec Rows.fnKindsRow = true := by kernel_rfl
theorem fnKinds_k30 : (fun (P : Program) (f : FuncId) (fn : Func) (s : ChangeSpec) (c : OpenClaim) => ((c.veiled == (fn.params.toList ++ s.plain.varTypes P ++ fn.resultTypes.toList).any (P.veiledRec ·)) : Bool)) Tryd.prog 14 Tryd.f14 Rows.fnKindsSpec Rows.fnKindsRow = true := by kernel_rfl
theorem fnKinds_k31 : (fun (P : Program) (f : FuncId) (fn : Func) (s : ChangeSpec) (c : OpenClaim) => (c.veiledFits P fn.params.toList (fn.params.toList ++ s.plain.varTypes P ++ fn.resultTypes.toList) : Bool)) Tryd.prog 14 Tryd.f14 Rows.fnKindsSpec Rows.fnKindsRow = true := by kernel_rfl
set_option maxRecDepth 100000 in
theorem fnKinds_facts : joinedFacts Tryd.prog 14 Tryd.f14 Rows.fnKindsSpec Rows.fnKindsRow = true := facts_of (P := Tryd.prog) (f := 14) (fn := Tryd.f14) (s := Rows.fnKindsSpec) (c := Rows.fnKindsRow) fnKinds_k0 fnKinds_k1 fnKinds_k2 fnKinds_k3 fnKinds_k4 fnKinds_k5 fnKinds_k6 fnKinds_k7 fnKinds_k8 fnKinds_k9 fnKinds_k10 fnKinds_k11 fnKinds_k12 fnKinds_k13 fnKinds_k14 fnKinds_k15 fnKinds_k16 fnKinds_k17 fnKinds_k18 fnKinds_k19 fnKinds_k20 fnKinds_k21 fnKinds_k22 fnKinds_k23 fnKinds_k24 fnKinds_k25 fnKinds_k26 fnKinds_k27 fnKinds_k28 fnKinds_k29 fnKinds_k30 fnKinds_k31
theorem fnKinds_wfb : Rows.fnKindsRow.wfByText (OpenSpec.ofChange Rows.fnKindsSpec) = true := by kernel_rfl
theorem fnKinds_goes : false = Rows.fnKindsRow.goesBy Tryd.pinned.checked.prog := by kernel_rfl
theorem fnKinds_name : Tryd.prog.funcNamed "lib-guidepost/laws.FnKinds" = some 14 := by kernel_rfl
end Go.Proofs.YtmlkcgacneealaaDoor
