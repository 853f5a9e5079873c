/- The closed facts of the row of FnAddrFrom16; three of its card. No conditions. -/
import Derived.Test.YtmlkcgacneealaaDoorRows
import GoSem.ClaimSeven
import Derived.Test.YtmlkcgacneealaaDoorShared2
import Derived.KernelRfl
set_option linter.unusedVariables false
set_option linter.unusedSimpArgs false
namespace Go.Proofs.YtmlkcgacneealaaDoor
open Go
theorem fnAddrFrom16_k0 : (fun (P : Program) (f : FuncId) (fn : Func) (s : ChangeSpec) (c : OpenClaim) => (c.wf (OpenSpec.ofChange s) : Bool)) Tryd.prog 4 Tryd.f4 Rows.fnAddrFrom16Spec Rows.fnAddrFrom16Row = true := by kernel_rfl
theorem fnAddrFrom16_k1 : (fun (P : Program) (f : FuncId) (fn : Func) (s : ChangeSpec) (c : OpenClaim) => (laidOutB P : Bool)) Tryd.prog 4 Tryd.f4 Rows.fnAddrFrom16Spec Rows.fnAddrFrom16Row = true := prog_k1
theorem fnAddrFrom16_k2 : (fun (P : Program) (f : FuncId) (fn : Func) (s : ChangeSpec) (c : OpenClaim) => (mapsRowed P : Bool)) Tryd.prog 4 Tryd.f4 Rows.fnAddrFrom16Spec Rows.fnAddrFrom16Row = true := prog_k2
theorem fnAddrFrom16_k3 : (fun (P : Program) (f : FuncId) (fn : Func) (s : ChangeSpec) (c : OpenClaim) => (fn.params.all (P.readableRec ·) : Bool)) Tryd.prog 4 Tryd.f4 Rows.fnAddrFrom16Spec Rows.fnAddrFrom16Row = true := by kernel_rfl
theorem fnAddrFrom16_k4 : (fun (P : Program) (f : FuncId) (fn : Func) (s : ChangeSpec) (c : OpenClaim) => (namedTie P c.named s.vars : Bool)) Tryd.prog 4 Tryd.f4 Rows.fnAddrFrom16Spec Rows.fnAddrFrom16Row = true := by kernel_rfl
theorem fnAddrFrom16_k5 : (fun (P : Program) (f : FuncId) (fn : Func) (s : ChangeSpec) (c : OpenClaim) => ((c.stops == []) : Bool)) Tryd.prog 4 Tryd.f4 Rows.fnAddrFrom16Spec Rows.fnAddrFrom16Row = true := by kernel_rfl
theorem fnAddrFrom16_k6 : (fun (P : Program) (f : FuncId) (fn : Func) (s : ChangeSpec) (c : OpenClaim) => ((P.stops == []) : Bool)) Tryd.prog 4 Tryd.f4 Rows.fnAddrFrom16Spec Rows.fnAddrFrom16Row = true := prog_k6
theorem fnAddrFrom16_k7 : (fun (P : Program) (f : FuncId) (fn : Func) (s : ChangeSpec) (c : OpenClaim) => ((c.knobs == []) : Bool)) Tryd.prog 4 Tryd.f4 Rows.fnAddrFrom16Spec Rows.fnAddrFrom16Row = true := by kernel_rfl
theorem fnAddrFrom16_k8 : (fun (P : Program) (f : FuncId) (fn : Func) (s : ChangeSpec) (c : OpenClaim) => ((P.stopKnobs == []) : Bool)) Tryd.prog 4 Tryd.f4 Rows.fnAddrFrom16Spec Rows.fnAddrFrom16Row = true := prog_k8
theorem fnAddrFrom16_k9 : (fun (P : Program) (f : FuncId) (fn : Func) (s : ChangeSpec) (c : OpenClaim) => ((c.inPlace == P.inPlace f) : Bool)) Tryd.prog 4 Tryd.f4 Rows.fnAddrFrom16Spec Rows.fnAddrFrom16Row = true := by kernel_rfl
theorem fnAddrFrom16_k10 : (fun (P : Program) (f : FuncId) (fn : Func) (s : ChangeSpec) (c : OpenClaim) => ((c.unfollowed == P.unfollowed f) : Bool)) Tryd.prog 4 Tryd.f4 Rows.fnAddrFrom16Spec Rows.fnAddrFrom16Row = true := by kernel_rfl
theorem fnAddrFrom16_k11 : (fun (P : Program) (f : FuncId) (fn : Func) (s : ChangeSpec) (c : OpenClaim) => ((c.recurses == P.recurses f) : Bool)) Tryd.prog 4 Tryd.f4 Rows.fnAddrFrom16Spec Rows.fnAddrFrom16Row = true := by kernel_rfl
theorem fnAddrFrom16_k12 : (fun (P : Program) (f : FuncId) (fn : Func) (s : ChangeSpec) (c : OpenClaim) => ((c.named == P.varsNamed f) : Bool)) Tryd.prog 4 Tryd.f4 Rows.fnAddrFrom16Spec Rows.fnAddrFrom16Row = true := by kernel_rfl
theorem fnAddrFrom16_k13 : (fun (P : Program) (f : FuncId) (fn : Func) (s : ChangeSpec) (c : OpenClaim) => ((c.maps == (fn.params.toList ++ s.plain.varTypes P).any (P.mapsRec ·)) : Bool)) Tryd.prog 4 Tryd.f4 Rows.fnAddrFrom16Spec Rows.fnAddrFrom16Row = true := by kernel_rfl
theorem fnAddrFrom16_k14 : (fun (P : Program) (f : FuncId) (fn : Func) (s : ChangeSpec) (c : OpenClaim) => ((c.ifaces == (fn.params.toList ++ s.plain.varTypes P).any (P.ifacesRec ·)) : Bool)) Tryd.prog 4 Tryd.f4 Rows.fnAddrFrom16Spec Rows.fnAddrFrom16Row = true := by kernel_rfl
theorem fnAddrFrom16_k15 : (fun (P : Program) (f : FuncId) (fn : Func) (s : ChangeSpec) (c : OpenClaim) => ((c.mapsOut == P.mapsAmong fn.resultTypes.toList) : Bool)) Tryd.prog 4 Tryd.f4 Rows.fnAddrFrom16Spec Rows.fnAddrFrom16Row = true := by kernel_rfl
theorem fnAddrFrom16_k16 : (fun (P : Program) (f : FuncId) (fn : Func) (s : ChangeSpec) (c : OpenClaim) => ((c.loops == (fn.params.toList ++ s.plain.varTypes P).any (P.loopsFrom ·)) : Bool)) Tryd.prog 4 Tryd.f4 Rows.fnAddrFrom16Spec Rows.fnAddrFrom16Row = true := by kernel_rfl
theorem fnAddrFrom16_k17 : (fun (P : Program) (f : FuncId) (fn : Func) (s : ChangeSpec) (c : OpenClaim) => ((c.wideKeys == (fn.params.toList ++ s.plain.varTypes P ++ fn.resultTypes.toList).any (P.wideKeysFrom ·)) : Bool)) Tryd.prog 4 Tryd.f4 Rows.fnAddrFrom16Spec Rows.fnAddrFrom16Row = true := by kernel_rfl
theorem fnAddrFrom16_k18 : (fun (P : Program) (f : FuncId) (fn : Func) (s : ChangeSpec) (c : OpenClaim) => (s.vars.all (P.varReadable ·) : Bool)) Tryd.prog 4 Tryd.f4 Rows.fnAddrFrom16Spec Rows.fnAddrFrom16Row = true := by kernel_rfl
theorem fnAddrFrom16_k19 : (fun (P : Program) (f : FuncId) (fn : Func) (s : ChangeSpec) (c : OpenClaim) => (fn.resultTypes.all (fun t => P.readableRec t && decide (t < P.types.size)) : Bool)) Tryd.prog 4 Tryd.f4 Rows.fnAddrFrom16Spec Rows.fnAddrFrom16Row = true := by kernel_rfl
theorem fnAddrFrom16_k20 : (fun (P : Program) (f : FuncId) (fn : Func) (s : ChangeSpec) (c : OpenClaim) => ((c.ifacesOut == fn.resultTypes.toList.any (P.ifacesRec ·)) : Bool)) Tryd.prog 4 Tryd.f4 Rows.fnAddrFrom16Spec Rows.fnAddrFrom16Row = true := by kernel_rfl
theorem fnAddrFrom16_k21 : (fun (P : Program) (f : FuncId) (fn : Func) (s : ChangeSpec) (c : OpenClaim) => ((c.loopsOut == fn.resultTypes.toList.any (P.loopsFrom ·)) : Bool)) Tryd.prog 4 Tryd.f4 Rows.fnAddrFrom16Spec Rows.fnAddrFrom16Row = true := by kernel_rfl
theorem fnAddrFrom16_k22 : (fun (P : Program) (f : FuncId) (fn : Func) (s : ChangeSpec) (c : OpenClaim) => ((c.plainKeys == P.plainKeys) : Bool)) Tryd.prog 4 Tryd.f4 Rows.fnAddrFrom16Spec Rows.fnAddrFrom16Row = true := prog_k22
theorem fnAddrFrom16_k23 : (fun (P : Program) (f : FuncId) (fn : Func) (s : ChangeSpec) (c : OpenClaim) => (c.shortTexts.isNone : Bool)) Tryd.prog 4 Tryd.f4 Rows.fnAddrFrom16Spec Rows.fnAddrFrom16Row = true := by kernel_rfl
theorem fnAddrFrom16_k24 : (fun (P : Program) (f : FuncId) (fn : Func) (s : ChangeSpec) (c : OpenClaim) => (P.stopsHeard : Bool)) Tryd.prog 4 Tryd.f4 Rows.fnAddrFrom16Spec Rows.fnAddrFrom16Row = true := prog_k24
theorem fnAddrFrom16_k25 : (fun (P : Program) (f : FuncId) (fn : Func) (s : ChangeSpec) (c : OpenClaim) => (P.mayEnter : Bool)) Tryd.prog 4 Tryd.f4 Rows.fnAddrFrom16Spec Rows.fnAddrFrom16Row = true := prog_k25
theorem fnAddrFrom16_k26 : (fun (P : Program) (f : FuncId) (fn : Func) (s : ChangeSpec) (c : OpenClaim) => ((c.lifted == P.liftsFinal) : Bool)) Tryd.prog 4 Tryd.f4 Rows.fnAddrFrom16Spec Rows.fnAddrFrom16Row = true := prog_k26
theorem fnAddrFrom16_k27 : (fun (P : Program) (f : FuncId) (fn : Func) (s : ChangeSpec) (c : OpenClaim) => ((P.make == some c.make) : Bool)) Tryd.prog 4 Tryd.f4 Rows.fnAddrFrom16Spec Rows.fnAddrFrom16Row = true := prog_k27
theorem fnAddrFrom16_k28 : (fun (P : Program) (f : FuncId) (fn : Func) (s : ChangeSpec) (c : OpenClaim) => ((c.kinds == (if c.domain.isEmpty then [] else fn.params.toList.map fun t => match P.underlying t with | some (.int k) => some k | _ => none)) : Bool)) Tryd.prog 4 Tryd.f4 Rows.fnAddrFrom16Spec Rows.fnAddrFrom16Row = true := by kernel_rfl
theorem fnAddrFrom16_k29 : (fun (P : Program) (f : FuncId) (fn : Func) (s : ChangeSpec) (c : OpenClaim) => ((c.pinned == c.pinnedBy) : Bool)) Tryd.prog 4 Tryd.f4 Rows.fnAddrFrom16Spec Rows.fnAddrFrom16Row = true := by kernel_rfl
theorem fnAddrFrom16_k30 : (fun (P : Program) (f : FuncId) (fn : Func) (s : ChangeSpec) (c : OpenClaim) => ((c.veiled == (fn.params.toList ++ s.plain.varTypes P ++ fn.resultTypes.toList).any (P.veiledRec ·)) : Bool)) Tryd.prog 4 Tryd.f4 Rows.fnAddrFrom16Spec Rows.fnAddrFrom16Row = true := by kernel_rfl
theorem fnAddrFrom16_k31 : (fun (P : Program) (f : FuncId) (fn : Func) (s : ChangeSpec) (c : OpenClaim) => (c.veiledFits P fn.params.toList (fn.params.toList ++ s.plain.varTypes P ++ fn.resultTypes.toList) : Bool)) Tryd.prog 4 Tryd.f4 Rows.fnAddrFrom16Spec Rows.fnAddrFrom16Row = true := by kernel_rfl
set_option maxRecDepth 100000 in
theorem fnAddrFrom16_facts : joinedFacts Tryd.prog 4 Tryd.f4 Rows.fnAddrFrom16Spec Rows.fnAddrFrom16Row = true := facts_of (P := Tryd.prog) (f := 4) (fn := Tryd.f4) (s := Rows.fnAddrFrom16Spec) (c := Rows.fnAddrFrom16Row) fnAddrFrom16_k0 fnAddrFrom16_k1 fnAddrFrom16_k2 fnAddrFrom16_k3 fnAddrFrom16_k4 fnAddrFrom16_k5 fnAddrFrom16_k6 fnAddrFrom16_k7 fnAddrFrom16_k8 fnAddrFrom16_k9 fnAddrFrom16_k10 fnAddrFrom16_k11 fnAddrFrom16_k12 fnAddrFrom16_k13 fnAddrFrom16_k14 fnAddrFrom16_k15 fnAddrFrom16_k16 fnAddrFrom16_k17 fnAddrFrom16_k18 fnAddrFrom16_k19 fnAddrFrom16_k20 fnAddrFrom16_k21 fnAddrFrom16_k22 fnAddrFrom16_k23 fnAddrFrom16_k24 fnAddrFrom16_k25 fnAddrFrom16_k26 fnAddrFrom16_k27 fnAddrFrom16_k28 fnAddrFrom16_k29 fnAddrFrom16_k30 fnAddrFrom16_k31
theorem fnAddrFrom16_wfb : Rows.fnAddrFrom16Row.wfByText (OpenSpec.ofChange Rows.fnAddrFrom16Spec) = true := by kernel_rfl
theorem fnAddrFrom16_goes : false = Rows.fnAddrFrom16Row.goesBy Tryd.pinned.checked.prog := by kernel_rfl
theorem fnAddrFrom16_name : Tryd.prog.funcNamed "lib-guidepost/laws.FnAddrFrom16" = some 4 := by kernel_rfl
end Go.Proofs.YtmlkcgacneealaaDoor
