/- FnTimer: closed facts of its row (3 of 3). Conditions: none. -/
import Derived.Test.YtalhhplphlobbaaGreatRows
import Derived.JoinedOf
import Derived.KernelRfl
set_option linter.unusedVariables false
namespace Go.Proofs.YtalhhplphlobbaaGreat.fnTimer
open Go
theorem k13 : (fun (P : Program) (f : FuncId) (fn : Func) (s : ChangeSpec) (c : OpenClaim) => ((c.named == P.varsNamed f) : Bool)) Tryz.pinned.checked.prog 4 Tryz.f4 Rows.fnTimerSpec Rows.fnTimerRow = true := by kernel_rfl
theorem k14 : (fun (P : Program) (f : FuncId) (fn : Func) (s : ChangeSpec) (c : OpenClaim) => ((c.maps == (fn.params.toList ++ s.plain.varTypes P).any (P.mapsRec ·)) : Bool)) Tryz.pinned.checked.prog 4 Tryz.f4 Rows.fnTimerSpec Rows.fnTimerRow = true := by kernel_rfl
theorem k15 : (fun (P : Program) (f : FuncId) (fn : Func) (s : ChangeSpec) (c : OpenClaim) => ((c.ifaces == (fn.params.toList ++ s.plain.varTypes P).any (P.ifacesRec ·)) : Bool)) Tryz.pinned.checked.prog 4 Tryz.f4 Rows.fnTimerSpec Rows.fnTimerRow = true := by kernel_rfl
theorem k16 : (fun (P : Program) (f : FuncId) (fn : Func) (s : ChangeSpec) (c : OpenClaim) => ((c.mapsOut == P.mapsAmong fn.resultTypes.toList) : Bool)) Tryz.pinned.checked.prog 4 Tryz.f4 Rows.fnTimerSpec Rows.fnTimerRow = true := by kernel_rfl
theorem k17 : (fun (P : Program) (f : FuncId) (fn : Func) (s : ChangeSpec) (c : OpenClaim) => ((c.loops == (fn.params.toList ++ s.plain.varTypes P).any (P.loopsFrom ·)) : Bool)) Tryz.pinned.checked.prog 4 Tryz.f4 Rows.fnTimerSpec Rows.fnTimerRow = true := by kernel_rfl
theorem k18 : (fun (P : Program) (f : FuncId) (fn : Func) (s : ChangeSpec) (c : OpenClaim) => ((c.wideKeys == (fn.params.toList ++ s.plain.varTypes P ++ fn.resultTypes.toList).any (P.wideKeysFrom ·)) : Bool)) Tryz.pinned.checked.prog 4 Tryz.f4 Rows.fnTimerSpec Rows.fnTimerRow = true := by kernel_rfl
theorem k19 : (fun (P : Program) (f : FuncId) (fn : Func) (s : ChangeSpec) (c : OpenClaim) => (s.vars.all (P.varReadable ·) : Bool)) Tryz.pinned.checked.prog 4 Tryz.f4 Rows.fnTimerSpec Rows.fnTimerRow = true := by kernel_rfl
theorem k20 : (fun (P : Program) (f : FuncId) (fn : Func) (s : ChangeSpec) (c : OpenClaim) => (fn.resultTypes.all (fun t => P.readableRec t && decide (t < P.types.size)) : Bool)) Tryz.pinned.checked.prog 4 Tryz.f4 Rows.fnTimerSpec Rows.fnTimerRow = true := by kernel_rfl
theorem k21 : (fun (P : Program) (f : FuncId) (fn : Func) (s : ChangeSpec) (c : OpenClaim) => ((c.ifacesOut == fn.resultTypes.toList.any (P.ifacesRec ·)) : Bool)) Tryz.pinned.checked.prog 4 Tryz.f4 Rows.fnTimerSpec Rows.fnTimerRow = true := by kernel_rfl
theorem k22 : (fun (P : Program) (f : FuncId) (fn : Func) (s : ChangeSpec) (c : OpenClaim) => ((c.loopsOut == fn.resultTypes.toList.any (P.loopsFrom ·)) : Bool)) Tryz.pinned.checked.prog 4 Tryz.f4 Rows.fnTimerSpec Rows.fnTimerRow = true := by kernel_rfl
theorem k23 : (fun (P : Program) (f : FuncId) (fn : Func) (s : ChangeSpec) (c : OpenClaim) => ((c.plainKeys == P.plainKeys) : Bool)) Tryz.pinned.checked.prog 4 Tryz.f4 Rows.fnTimerSpec Rows.fnTimerRow = true := by kernel_rfl
theorem k24 : (fun (P : Program) (f : FuncId) (fn : Func) (s : ChangeSpec) (c : OpenClaim) => (c.shortTexts.isNone : Bool)) Tryz.pinned.checked.prog 4 Tryz.f4 Rows.fnTimerSpec Rows.fnTimerRow = true := by kernel_rfl
theorem k25 : (fun (P : Program) (f : FuncId) (fn : Func) (s : ChangeSpec) (c : OpenClaim) => (P.stopsHeard : Bool)) Tryz.pinned.checked.prog 4 Tryz.f4 Rows.fnTimerSpec Rows.fnTimerRow = true := by kernel_rfl
theorem k26 : (fun (P : Program) (f : FuncId) (fn : Func) (s : ChangeSpec) (c : OpenClaim) => (P.mayEnter : Bool)) Tryz.pinned.checked.prog 4 Tryz.f4 Rows.fnTimerSpec Rows.fnTimerRow = true := by kernel_rfl
theorem k27 : (fun (P : Program) (f : FuncId) (fn : Func) (s : ChangeSpec) (c : OpenClaim) => ((c.lifted == P.liftsFinal) : Bool)) Tryz.pinned.checked.prog 4 Tryz.f4 Rows.fnTimerSpec Rows.fnTimerRow = true := by kernel_rfl
theorem k28 : (fun (P : Program) (f : FuncId) (fn : Func) (s : ChangeSpec) (c : OpenClaim) => ((P.make == some c.make) : Bool)) Tryz.pinned.checked.prog 4 Tryz.f4 Rows.fnTimerSpec Rows.fnTimerRow = true := by kernel_rfl
theorem k29 : (fun (P : Program) (f : FuncId) (fn : Func) (s : ChangeSpec) (c : OpenClaim) => ((c.kinds == (if c.domain.isEmpty then [] else fn.params.toList.map fun t => match P.underlying t with | some (.int k) => some k | _ => none)) : Bool)) Tryz.pinned.checked.prog 4 Tryz.f4 Rows.fnTimerSpec Rows.fnTimerRow = true := by kernel_rfl
theorem k30 : (fun (P : Program) (f : FuncId) (fn : Func) (s : ChangeSpec) (c : OpenClaim) => ((c.pinned == c.pinnedBy) : Bool)) Tryz.pinned.checked.prog 4 Tryz.f4 Rows.fnTimerSpec Rows.fnTimerRow = true := by kernel_rfl
theorem k31 : (fun (P : Program) (f : FuncId) (fn : Func) (s : ChangeSpec) (c : OpenClaim) => ((c.veiled == (fn.params.toList ++ s.plain.varTypes P ++ fn.resultTypes.toList).any (P.veiledRec ·)) : Bool)) Tryz.pinned.checked.prog 4 Tryz.f4 Rows.fnTimerSpec Rows.fnTimerRow = true := by kernel_rfl
theorem k32 : (fun (P : Program) (f : FuncId) (fn : Func) (s : ChangeSpec) (c : OpenClaim) => (c.veiledFits P fn.params.toList (fn.params.toList ++ s.plain.varTypes P ++ fn.resultTypes.toList) : Bool)) Tryz.pinned.checked.prog 4 Tryz.f4 Rows.fnTimerSpec Rows.fnTimerRow = true := by kernel_rfl
end Go.Proofs.YtalhhplphlobbaaGreat.fnTimer
