/- FnTimer: closed facts of its row (1 of 3). Conditions: none. -/
import Derived.Test.YtalhhplphlobbaaGreatRows
import Derived.JoinedOf
import Derived.KernelRfl
set_option linter.unusedVariables false
namespace Go.Proofs.YtalhhplphlobbaaGreat.fnTimer
open Go
theorem k1 : (fun (P : Program) (f : FuncId) (fn : Func) (s : ChangeSpec) (c : OpenClaim) => (c.wf (OpenSpec.ofChange s) : Bool)) Tryz.pinned.checked.prog 4 Tryz.f4 Rows.fnTimerSpec Rows.fnTimerRow = true := by kernel_rfl
theorem k2 : (fun (P : Program) (f : FuncId) (fn : Func) (s : ChangeSpec) (c : OpenClaim) => (laidOutB P : Bool)) Tryz.pinned.checked.prog 4 Tryz.f4 Rows.fnTimerSpec Rows.fnTimerRow = true := by kernel_rfl
theorem k3 : (fun (P : Program) (f : FuncId) (fn : Func) (s : ChangeSpec) (c : OpenClaim) => (mapsRowed P : Bool)) Tryz.pinned.checked.prog 4 Tryz.f4 Rows.fnTimerSpec Rows.fnTimerRow = true := by kernel_rfl
theorem k4 : (fun (P : Program) (f : FuncId) (fn : Func) (s : ChangeSpec) (c : OpenClaim) => (fn.params.all (P.readableRec ·) : Bool)) Tryz.pinned.checked.prog 4 Tryz.f4 Rows.fnTimerSpec Rows.fnTimerRow = true := by kernel_rfl
theorem k5 : (fun (P : Program) (f : FuncId) (fn : Func) (s : ChangeSpec) (c : OpenClaim) => (namedTie P c.named s.vars : Bool)) Tryz.pinned.checked.prog 4 Tryz.f4 Rows.fnTimerSpec Rows.fnTimerRow = true := by kernel_rfl
theorem k6 : (fun (P : Program) (f : FuncId) (fn : Func) (s : ChangeSpec) (c : OpenClaim) => ((c.stops == []) : Bool)) Tryz.pinned.checked.prog 4 Tryz.f4 Rows.fnTimerSpec Rows.fnTimerRow = true := by kernel_rfl
theorem k7 : (fun (P : Program) (f : FuncId) (fn : Func) (s : ChangeSpec) (c : OpenClaim) => ((P.stops == []) : Bool)) Tryz.pinned.checked.prog 4 Tryz.f4 Rows.fnTimerSpec Rows.fnTimerRow = true := by kernel_rfl
theorem k8 : (fun (P : Program) (f : FuncId) (fn : Func) (s : ChangeSpec) (c : OpenClaim) => ((c.knobs == []) : Bool)) Tryz.pinned.checked.prog 4 Tryz.f4 Rows.fnTimerSpec Rows.fnTimerRow = true := by kernel_rfl
theorem k9 : (fun (P : Program) (f : FuncId) (fn : Func) (s : ChangeSpec) (c : OpenClaim) => ((P.stopKnobs == []) : Bool)) Tryz.pinned.checked.prog 4 Tryz.f4 Rows.fnTimerSpec Rows.fnTimerRow = true := by kernel_rfl
theorem k10 : (fun (P : Program) (f : FuncId) (fn : Func) (s : ChangeSpec) (c : OpenClaim) => ((c.inPlace == P.inPlace f) : Bool)) Tryz.pinned.checked.prog 4 Tryz.f4 Rows.fnTimerSpec Rows.fnTimerRow = true := by kernel_rfl
end Go.Proofs.YtalhhplphlobbaaGreat.fnTimer
