/- The closed facts of the row of FnLetters; three of its card. No conditions. -/
import Derived.Test.YtmlkcgacneealaaDoorRows
import GoSem.ClaimSeven
import Derived.Test.YtmlkcgacneealaaDoorShared2
import Derived.KernelRfl
set_option linter.unusedVariables false
set_option linter.unusedSimpArgs false
namespace Go.Proofs.YtmlkcgacneealaaDoor
open Go
theorem fnLettersU_k0 : (fun (P : Program) (f : FuncId) (fn : Func) (s : ChangeSpec) (c : OpenClaim) => (c.wf (OpenSpec.ofChange s) : Bool)) Tryd.prog 21 Tryd.f21 Rows.fnLettersSpec Rows.fnLettersUptoRow = true := by kernel_rfl
theorem fnLettersU_k1 : (fun (P : Program) (f : FuncId) (fn : Func) (s : ChangeSpec) (c : OpenClaim) => (laidOutB P : Bool)) Tryd.prog 21 Tryd.f21 Rows.fnLettersSpec Rows.fnLettersUptoRow = true := prog_k1
theorem fnLettersU_k2 : (fun (P : Program) (f : FuncId) (fn : Func) (s : ChangeSpec) (c : OpenClaim) => (mapsRowed P : Bool)) Tryd.prog 21 Tryd.f21 Rows.fnLettersSpec Rows.fnLettersUptoRow = true := prog_k2
theorem fnLettersU_k3 : (fun (P : Program) (f : FuncId) (fn : Func) (s : ChangeSpec) (c : OpenClaim) => (fn.params.all (P.readableRec ·) : Bool)) Tryd.prog 21 Tryd.f21 Rows.fnLettersSpec Rows.fnLettersUptoRow = true := by kernel_rfl
theorem fnLettersU_k4 : (fun (P : Program) (f : FuncId) (fn : Func) (s : ChangeSpec) (c : OpenClaim) => (namedTie P c.named s.vars : Bool)) Tryd.prog 21 Tryd.f21 Rows.fnLettersSpec Rows.fnLettersUptoRow = true := by kernel_rfl
theorem fnLettersU_k5 : (fun (P : Program) (f : FuncId) (fn : Func) (s : ChangeSpec) (c : OpenClaim) => ((c.stops == []) : Bool)) Tryd.prog 21 Tryd.f21 Rows.fnLettersSpec Rows.fnLettersUptoRow = true := by kernel_rfl
theorem fnLettersU_k6 : (fun (P : Program) (f : FuncId) (fn : Func) (s : ChangeSpec) (c : OpenClaim) => ((P.stops == []) : Bool)) Tryd.prog 21 Tryd.f21 Rows.fnLettersSpec Rows.fnLettersUptoRow = true := prog_k6
theorem fnLettersU_k7 : (fun (P : Program) (f : FuncId) (fn : Func) (s : ChangeSpec) (c : OpenClaim) => ((c.knobs == []) : Bool)) Tryd.prog 21 Tryd.f21 Rows.fnLettersSpec Rows.fnLettersUptoRow = true := by kernel_rfl
theorem fnLettersU_k8 : (fun (P : Program) (f : FuncId) (fn : Func) (s : ChangeSpec) (c : OpenClaim) => ((P.stopKnobs == []) : Bool)) Tryd.prog 21 Tryd.f21 Rows.fnLettersSpec Rows.fnLettersUptoRow = true := prog_k8
theorem fnLettersU_k9 : (fun (P : Program) (f : FuncId) (fn : Func) (s : ChangeSpec) (c : OpenClaim) => ((c.inPlace == P.inPlace f) : Bool)) Tryd.prog 21 Tryd.f21 Rows.fnLettersSpec Rows.fnLettersUptoRow = true := by kernel_rfl
theorem fnLettersU_k10 : (fun (P : Program) (f : FuncId) (fn : Func) (s : ChangeSpec) (c : OpenClaim) => ((c.unfollowed == P.unfollowed f) : Bool)) Tryd.prog 21 Tryd.f21 Rows.fnLettersSpec Rows.fnLettersUptoRow = true := by kernel_rfl
theorem fnLettersU_k11 : (fun (P : Program) (f : FuncId) (fn : Func) (s : ChangeSpec) (c : OpenClaim) => ((c.recurses == P.recurses f) : Bool)) Tryd.prog 21 Tryd.f21 Rows.fnLettersSpec Rows.fnLettersUptoRow = true := by kernel_rfl
theorem fnLettersU_k12 : (fun (P : Program) (f : FuncId) (fn : Func) (s : ChangeSpec) (c : OpenClaim) => ((c.named == P.varsNamed f) : Bool)) Tryd.prog 21 Tryd.f21 Rows.fnLettersSpec Rows.fnLettersUptoRow = true := by kernel_rfl
theorem fnLettersU_k13 : (fun (P : Program) (f : FuncId) (fn : Func) (s : ChangeSpec) (c : OpenClaim) => ((c.maps == (fn.params.toList ++ s.plain.varTypes P).any (P.mapsRec ·)) : Bool)) Tryd.prog 21 Tryd.f21 Rows.fnLettersSpec Rows.fnLettersUptoRow = true := by kernel_rfl
theorem fnLettersU_k14 : (fun (P : Program) (f : FuncId) (fn : Func) (s : ChangeSpec) (c : OpenClaim) => ((c.ifaces == (fn.params.toList ++ s.plain.varTypes P).any (P.ifacesRec ·)) : Bool)) Tryd.prog 21 Tryd.f21 Rows.fnLettersSpec Rows.fnLettersUptoRow = true := by kernel_rfl
theorem fnLettersU_k15 : (fun (P : Program) (f : FuncId) (fn : Func) (s : ChangeSpec) (c : OpenClaim) => ((c.mapsOut == P.mapsAmong fn.resultTypes.toList) : Bool)) Tryd.prog 21 Tryd.f21 Rows.fnLettersSpec Rows.fnLettersUptoRow = true := by kernel_rfl
theorem fnLettersU_k16 : (fun (P : Program) (f : FuncId) (fn : Func) (s : ChangeSpec) (c : OpenClaim) => ((c.loops == (fn.params.toList ++ s.plain.varTypes P).any (P.loopsFrom ·)) : Bool)) Tryd.prog 21 Tryd.f21 Rows.fnLettersSpec Rows.fnLettersUptoRow = true := by kernel_rfl
theorem fnLettersU_k17 : (fun (P : Program) (f : FuncId) (fn : Func) (s : ChangeSpec) (c : OpenClaim) => ((c.wideKeys == (fn.params.toList ++ s.plain.varTypes P ++ fn.resultTypes.toList).any (P.wideKeysFrom ·)) : Bool)) Tryd.prog 21 Tryd.f21 Rows.fnLettersSpec Rows.fnLettersUptoRow = true := by kernel_rfl
theorem fnLettersU_k18 : (fun (P : Program) (f : FuncId) (fn : Func) (s : ChangeSpec) (c : OpenClaim) => (s.vars.all (P.varReadable ·) : Bool)) Tryd.prog 21 Tryd.f21 Rows.fnLettersSpec Rows.fnLettersUptoRow = true := by kernel_rfl
theorem fnLettersU_k19 : (fun (P : Program) (f : FuncId) (fn : Func) (s : ChangeSpec) (c : OpenClaim) => (fn.resultTypes.all (fun t => P.readableRec t && decide (t < P.types.size)) : Bool)) Tryd.prog 21 Tryd.f21 Rows.fnLettersSpec Rows.fnLettersUptoRow = true := by kernel_rfl
theorem fnLettersU_k20 : (fun (P : Program) (f : FuncId) (fn : Func) (s : ChangeSpec) (c : OpenClaim) => ((c.ifacesOut == fn.resultTypes.toList.any (P.ifacesRec ·)) : Bool)) Tryd.prog 21 Tryd.f21 Rows.fnLettersSpec Rows.fnLettersUptoRow = true := by kernel_rfl
theorem fnLettersU_k21 : (fun (P : Program) (f : FuncId) (fn : Func) (s : ChangeSpec) (c : OpenClaim) => ((c.loopsOut == fn.resultTypes.toList.any (P.loopsFrom ·)) : Bool)) Tryd.prog 21 Tryd.f21 Rows.fnLettersSpec Rows.fnLettersUptoRow = true := by kernel_rfl
theorem fnLettersU_k22 : (fun (P : Program) (f : FuncId) (fn : Func) (s : ChangeSpec) (c : OpenClaim) => ((c.plainKeys == P.plainKeys) : Bool)) Tryd.prog 21 Tryd.f21 Rows.fnLettersSpec Rows.fnLettersUptoRow = true := prog_k22
theorem fnLettersU_k23 : (fun (P : Program) (f : FuncId) (fn : Func) (s : ChangeSpec) (c : OpenClaim) => (c.shortTexts.isNone : Bool)) Tryd.prog 21 Tryd.f21 Rows.fnLettersSpec Rows.fnLettersUptoRow = true := by kernel_rfl
theorem fnLettersU_k24 : (fun (P : Program) (f : FuncId) (fn : Func) (s : ChangeSpec) (c : OpenClaim) => (P.stopsHeard : Bool)) Tryd.prog 21 Tryd.f21 Rows.fnLettersSpec Rows.fnLettersUptoRow = true := prog_k24
theorem fnLettersU_k25 : (fun (P : Program) (f : FuncId) (fn : Func) (s : ChangeSpec) (c : OpenClaim) => (P.mayEnter : Bool)) Tryd.prog 21 Tryd.f21 Rows.fnLettersSpec Rows.fnLettersUptoRow = true := prog_k25
theorem fnLettersU_k26 : (fun (P : Program) (f : FuncId) (fn : Func) (s : ChangeSpec) (c : OpenClaim) => ((c.lifted == P.liftsFinal) : Bool)) Tryd.prog 21 Tryd.f21 Rows.fnLettersSpec Rows.fnLettersUptoRow = true := prog_k26
theorem fnLettersU_k27 : (fun (P : Program) (f : FuncId) (fn : Func) (s : ChangeSpec) (c : OpenClaim) => ((P.make == some c.make) : Bool)) Tryd.prog 21 Tryd.f21 Rows.fnLettersSpec Rows.fnLettersUptoRow = true := prog_k27
theorem fnLettersU_k28 : (fun (P : Program) (f : FuncId) (fn : Func) (s : ChangeSpec) (c : OpenClaim) => ((c.kinds == (if c.domain.isEmpty then [] else fn.params.toList.map fun t => match P.underlying t with | some (.int k) => some k | _ => none)) : Bool)) Tryd.prog 21 Tryd.f21 Rows.fnLettersSpec Rows.fnLettersUptoRow = true := by kernel_rfl
theorem fnLettersU_k29 : (fun (P : Program) (f : FuncId) (fn : Func) (s : ChangeSpec) (c : OpenClaim) => ((c.pinned == c.pinnedBy) : Bool)) Tryd.prog 21 Tryd.f21 Rows.fnLettersSpec Rows.fnLettersUptoRow = true := by kernel_rfl
theorem fnLettersU_k30 : (fun (P : Program) (f : FuncId) (fn : Func) (s : ChangeSpec) (c : OpenClaim) => ((c.veiled == (fn.params.toList ++ s.plain.varTypes P ++ fn.resultTypes.toList).any (P.veiledRec ·)) : Bool)) Tryd.prog 21 Tryd.f21 Rows.fnLettersSpec Rows.fnLettersUptoRow = true := by kernel_rfl
theorem fnLettersU_k31 : (fun (P : Program) (f : FuncId) (fn : Func) (s : ChangeSpec) (c : OpenClaim) => (c.veiledFits P fn.params.toList (fn.params.toList ++ s.plain.varTypes P ++ fn.resultTypes.toList) : Bool)) Tryd.prog 21 Tryd.f21 Rows.fnLettersSpec Rows.fnLettersUptoRow = true := by kernel_rfl
set_option maxRecDepth 100000 in
theorem fnLettersU_facts : joinedFacts Tryd.prog 21 Tryd.f21 Rows.fnLettersSpec Rows.fnLettersUptoRow = true := facts_of (P := Tryd.prog) (f := 21) (fn := Tryd.f21) (s := Rows.fnLettersSpec) (c := Rows.fnLettersUptoRow) fnLettersU_k0 fnLettersU_k1 fnLettersU_k2 fnLettersU_k3 fnLettersU_k4 fnLettersU_k5 fnLettersU_k6 fnLettersU_k7 fnLettersU_k8 fnLettersU_k9 fnLettersU_k10 fnLettersU_k11 fnLettersU_k12 fnLettersU_k13 fnLettersU_k14 fnLettersU_k15 fnLettersU_k16 fnLettersU_k17 fnLettersU_k18 fnLettersU_k19 fnLettersU_k20 fnLettersU_k21 fnLettersU_k22 fnLettersU_k23 fnLettersU_k24 fnLettersU_k25 fnLettersU_k26 fnLettersU_k27 fnLettersU_k28 fnLettersU_k29 fnLettersU_k30 fnLettersU_k31
theorem fnLettersU_wfb : Rows.fnLettersUptoRow.wfByText (Rows.OpenSpec.upto Rows.fnLettersSpec) = true := by kernel_rfl
theorem fnLettersU_goes : false = Rows.fnLettersUptoRow.goesBy Tryd.pinned.checked.prog := by kernel_rfl
theorem fnLettersU_name : Tryd.prog.funcNamed "lib-guidepost/laws.FnLetters" = some 21 := by kernel_rfl
end Go.Proofs.YtmlkcgacneealaaDoor
