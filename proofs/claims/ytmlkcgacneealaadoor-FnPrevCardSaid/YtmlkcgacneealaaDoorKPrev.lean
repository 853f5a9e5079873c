/- The closed facts of the row of FnPrev; three of its card. No conditions. -/
import Derived.Test.YtmlkcgacneealaaDoorRows
import GoSem.ClaimSeven
import Derived.Test.YtmlkcgacneealaaDoorShared2
import Derived.KernelRfl
set_option linter.unusedVariables false
set_option linter.unusedSimpArgs false
namespace Go.Proofs.YtmlkcgacneealaaDoor
open Go
theorem fnPrev_k0 : (fun (P : Program) (f : FuncId) (fn : Func) (s : ChangeSpec) (c : OpenClaim) => (c.wf (OpenSpec.ofChange s) : Bool)) Tryd.prog 8 Tryd.f8 Rows.fnPrevSpec Rows.fnPrevRow = true := by kernel_rfl
theorem fnPrev_k1 : (fun (P : Program) (f : FuncId) (fn : Func) (s : ChangeSpec) (c : OpenClaim) => (laidOutB P : Bool)) Tryd.prog 8 Tryd.f8 Rows.fnPrevSpec Rows.fnPrevRow = true := prog_k1
theorem fnPrev_k2 : (fun (P : Program) (f : FuncId) (fn : Func) (s : ChangeSpec) (c : OpenClaim) => (mapsRowed P : Bool)) Tryd.prog 8 Tryd.f8 Rows.fnPrevSpec Rows.fnPrevRow = true := prog_k2
theorem fnPrev_k3 : (fun (P : Program) (f : FuncId) (fn : Func) (s : ChangeSpec) (c : OpenClaim) => (fn.params.all (P.readableRec ·) : Bool)) Tryd.prog 8 Tryd.f8 Rows.fnPrevSpec Rows.fnPrevRow = true := by kernel_rfl
theorem fnPrev_k4 : (fun (P : Program) (f : FuncId) (fn : Func) (s : ChangeSpec) (c : OpenClaim) => (namedTie P c.named s.vars : Bool)) Tryd.prog 8 Tryd.f8 Rows.fnPrevSpec Rows.fnPrevRow = true := by kernel_rfl
theorem fnPrev_k5 : (fun (P : Program) (f : FuncId) (fn : Func) (s : ChangeSpec) (c : OpenClaim) => ((c.stops == []) : Bool)) Tryd.prog 8 Tryd.f8 Rows.fnPrevSpec Rows.fnPrevRow = true := by kernel_rfl
theorem fnPrev_k6 : (fun (P : Program) (f : FuncId) (fn : Func) (s : ChangeSpec) (c : OpenClaim) => ((P.stops == []) : Bool)) Tryd.prog 8 Tryd.f8 Rows.fnPrevSpec Rows.fnPrevRow = true := prog_k6
theorem fnPrev_k7 : (fun (P : Program) (f : FuncId) (fn : Func) (s : ChangeSpec) (c : OpenClaim) => ((c.knobs == []) : Bool)) Tryd.prog 8 Tryd.f8 Rows.fnPrevSpec Rows.fnPrevRow = true := by kernel_rfl
theorem fnPrev_k8 : (fun (P : Program) (f : FuncId) (fn : Func) (s : ChangeSpec) (c : OpenClaim) => ((P.stopKnobs == []) : Bool)) Tryd.prog 8 Tryd.f8 Rows.fnPrevSpec Rows.fnPrevRow = true := prog_k8
theorem fnPrev_k9 : (fun (P : Program) (f : FuncId) (fn : Func) (s : ChangeSpec) (c : OpenClaim) => ((c.inPlace == P.inPlace f) : Bool)) Tryd.prog 8 Tryd.f8 Rows.fnPrevSpec Rows.fnPrevRow = true := by kernel_rfl
theorem fnPrev_k10 : (fun (P : Program) (f : FuncId) (fn : Func) (s : ChangeSpec) (c : OpenClaim) => ((c.unfollowed == P.unfollowed f) : Bool)) Tryd.prog 8 Tryd.f8 Rows.fnPrevSpec Rows.fnPrevRow = true := by kernel_rfl
theorem fnPrev_k11 : (fun (P : Program) (f : FuncId) (fn : Func) (s : ChangeSpec) (c : OpenClaim) => ((c.recurses == P.recurses f) : Bool)) Tryd.prog 8 Tryd.f8 Rows.fnPrevSpec Rows.fnPrevRow = true := by kernel_rfl
theorem fnPrev_k12 : (fun (P : Program) (f : FuncId) (fn : Func) (s : ChangeSpec) (c : OpenClaim) => ((c.named == P.varsNamed f) : Bool)) Tryd.prog 8 Tryd.f8 Rows.fnPrevSpec Rows.fnPrevRow = true := by kernel_rfl
theorem fnPrev_k13 : (fun (P : Program) (f : FuncId) (fn : Func) (s : ChangeSpec) (c : OpenClaim) => ((c.maps == (fn.params.toList ++ s.plain.varTypes P).any (P.mapsRec ·)) : Bool)) Tryd.prog 8 Tryd.f8 Rows.fnPrevSpec Rows.fnPrevRow = true := by kernel_rfl
theorem fnPrev_k14 : (fun (P : Program) (f : FuncId) (fn : Func) (s : ChangeSpec) (c : OpenClaim) => ((c.ifaces == (fn.params.toList ++ s.plain.varTypes P).any (P.ifacesRec ·)) : Bool)) Tryd.prog 8 Tryd.f8 Rows.fnPrevSpec Rows.fnPrevRow = true := by kernel_rfl
theorem fnPrev_k15 : (fun (P : Program) (f : FuncId) (fn : Func) (s : ChangeSpec) (c : OpenClaim) => ((c.mapsOut == P.mapsAmong fn.resultTypes.toList) : Bool)) Tryd.prog 8 Tryd.f8 Rows.fnPrevSpec Rows.fnPrevRow = true := by kernel_rfl
theorem fnPrev_k16 : (fun (P : Program) (f : FuncId) (fn : Func) (s : ChangeSpec) (c : OpenClaim) => ((c.loops == (fn.params.toList ++ s.plain.varTypes P).any (P.loopsFrom ·)) : Bool)) Tryd.prog 8 Tryd.f8 Rows.fnPrevSpec Rows.fnPrevRow = true := by kernel_rfl
theorem fnPrev_k17 : (fun (P : Program) (f : FuncId) (fn : Func) (s : ChangeSpec) (c : OpenClaim) => ((c.wideKeys == (fn.params.toList ++ s.plain.varTypes P ++ fn.resultTypes.toList).any (P.wideKeysFrom ·)) : Bool)) Tryd.prog 8 Tryd.f8 Rows.fnPrevSpec Rows.fnPrevRow = true := by kernel_rfl
theorem fnPrev_k18 : (fun (P : Program) (f : FuncId) (fn : Func) (s : ChangeSpec) (c : OpenClaim) => (s.vars.all (P.varReadable ·) : Bool)) Tryd.prog 8 Tryd.f8 Rows.fnPrevSpec Rows.fnPrevRow = true := by kernel_rfl
theorem fnPrev_k19 : (fun (P : Program) (f : FuncId) (fn : Func) (s : ChangeSpec) (c : OpenClaim) => (fn.resultTypes.all (fun t => P.readableRec t && decide (t < P.types.size)) : Bool)) Tryd.prog 8 Tryd.f8 Rows.fnPrevSpec Rows.fnPrevRow = true := by kernel_rfl
theorem fnPrev_k20 : (fun (P : Program) (f : FuncId) (fn : Func) (s : ChangeSpec) (c : OpenClaim) => ((c.ifacesOut == fn.resultTypes.toList.any (P.ifacesRec ·)) : Bool)) Tryd.prog 8 Tryd.f8 Rows.fnPrevSpec Rows.fnPrevRow = true := by kernel_rfl
theorem fnPrev_k21 : (fun (P : Program) (f : FuncId) (fn : Func) (s : ChangeSpec) (c : OpenClaim) => ((c.loopsOut == fn.resultTypes.toList.any (P.loopsFrom ·)) : Bool)) Tryd.prog 8 Tryd.f8 Rows.fnPrevSpec Rows.fnPrevRow = true := by kernel_rfl
theorem fnPrev_k22 : (fun (P : Program) (f : FuncId) (fn : Func) (s : ChangeSpec) (c : OpenClaim) => ((c.plainKeys == P.plainKeys) : Bool)) Tryd.prog 8 Tryd.f8 Rows.fnPrevSpec Rows.fnPrevRow = true := prog_k22
theorem fnPrev_k23 : (fun (P : Program) (f : FuncId) (fn : Func) (s : ChangeSpec) (c : OpenClaim) => (c.shortTexts.isNone : Bool)) Tryd.prog 8 Tryd.f8 Rows.fnPrevSpec Rows.fnPrevRow = true := by kernel_rfl
theorem fnPrev_k24 : (fun (P : Program) (f : FuncId) (fn : Func) (s : ChangeSpec) (c : OpenClaim) => (P.stopsHeard : Bool)) Tryd.prog 8 Tryd.f8 Rows.fnPrevSpec Rows.fnPrevRow = true := prog_k24
theorem fnPrev_k25 : (fun (P : Program) (f : FuncId) (fn : Func) (s : ChangeSpec) (c : OpenClaim) => (P.mayEnter : Bool)) Tryd.prog 8 Tryd.f8 Rows.fnPrevSpec Rows.fnPrevRow = true := prog_k25
theorem fnPrev_k26 : (fun (P : Program) (f : FuncId) (fn : Func) (s : ChangeSpec) (c : OpenClaim) => ((c.lifted == P.liftsFinal) : Bool)) Tryd.prog 8 Tryd.f8 Rows.fnPrevSpec Rows.fnPrevRow = true := prog_k26
theorem fnPrev_k27 : (fun (P : Program) (f : FuncId) (fn : Func) (s : ChangeSpec) (c : OpenClaim) => ((P.make == some c.make) : Bool)) Tryd.prog 8 Tryd.f8 Rows.fnPrevSpec Rows.fnPrevRow = true := prog_k27
theorem fnPrev_k28 : (fun (P : Program) (f : FuncId) (fn : Func) (s : ChangeSpec) (c : OpenClaim) => ((c.kinds == (if c.domain.isEmpty then [] else fn.params.toList.map fun t => match P.underlying t with | some (.int k) => some k | _ => none)) : Bool)) Tryd.prog 8 Tryd.f8 Rows.fnPrevSpec Rows.fnPrevRow = true := by kernel_rfl
theorem fnPrev_k29 : (fun (P : Program) (f : FuncId) (fn : Func) (s : ChangeSpec) (c : OpenClaim) => ((c.pinned == c.pinnedBy) : Bool)) Tryd.prog 8 Tryd.f8 Rows.fnPrevSpec Rows.fnPrevRow = true := by kernel_rfl
theorem fnPrev_k30 : (fun (P : Program) (f : FuncId) (fn : Func) (s : ChangeSpec) (c : OpenClaim) => ((c.veiled == (fn.params.toList ++ s.plain.varTypes P ++ fn.resultTypes.toList).any (P.veiledRec ·)) : Bool)) Tryd.prog 8 Tryd.f8 Rows.fnPrevSpec Rows.fnPrevRow = true := by kernel_rfl
theorem fnPrev_k31 : (fun (P : Program) (f : FuncId) (fn : Func) (s : ChangeSpec) (c : OpenClaim) => (c.veiledFits P fn.params.toList (fn.params.toList ++ s.plain.varTypes P ++ fn.resultTypes.toList) : Bool)) Tryd.prog 8 Tryd.f8 Rows.fnPrevSpec Rows.fnPrevRow = true := by kernel_rfl
set_option maxRecDepth 100000 in
theorem fnPrev_facts : joinedFacts Tryd.prog 8 Tryd.f8 Rows.fnPrevSpec Rows.fnPrevRow = true := facts_of (P := Tryd.prog) (f := 8) (fn := Tryd.f8) (s := Rows.fnPrevSpec) (c := Rows.fnPrevRow) fnPrev_k0 fnPrev_k1 fnPrev_k2 fnPrev_k3 fnPrev_k4 fnPrev_k5 fnPrev_k6 fnPrev_k7 fnPrev_k8 fnPrev_k9 fnPrev_k10 fnPrev_k11 fnPrev_k12 fnPrev_k13 fnPrev_k14 fnPrev_k15 fnPrev_k16 fnPrev_k17 fnPrev_k18 fnPrev_k19 fnPrev_k20 fnPrev_k21 fnPrev_k22 fnPrev_k23 fnPrev_k24 fnPrev_k25 fnPrev_k26 fnPrev_k27 fnPrev_k28 fnPrev_k29 fnPrev_k30 fnPrev_k31
theorem fnPrev_wfb : Rows.fnPrevRow.wfByText (OpenSpec.ofChange Rows.fnPrevSpec) = true := by kernel_rfl
theorem fnPrev_goes : false = Rows.fnPrevRow.goesBy Tryd.pinned.checked.prog := by kernel_rfl
theorem fnPrev_name : Tryd.prog.funcNamed "lib-guidepost/laws.FnPrev" = some 8 := by kernel_rfl
end Go.Proofs.YtmlkcgacneealaaDoor
