/- FnTimer: closed facts of its row (2 of 3). Conditions: none. -/
import Derived.Test.YtalhhplphlobbaaGreatRows
import Derived.JoinedOf
import Derived.KernelRfl
set_option linter.unusedVariables false
namespace Go.Proofs.YtalhhplphlobbaaGreat.fnTimer
open Go
theorem k11 : (fun (P : Program) (f : FuncId) (fn : Func) (s : ChangeSpec) (c : OpenClaim) => ((c.unfollowed == P.unfollowed f) : Bool)) Tryz.pinned.checked.prog 4 Tryz.f4 Rows.fnTimerSpec Rows.fnTimerRow = true := by kernel_rfl
theorem k12 : (fun (P : Program) (f : FuncId) (fn : Func) (s : ChangeSpec) (c : OpenClaim) => ((c.recurses == P.recurses f) : Bool)) Tryz.pinned.checked.prog 4 Tryz.f4 Rows.fnTimerSpec Rows.fnTimerRow = true := by kernel_rfl
end Go.Proofs.YtalhhplphlobbaaGreat.fnTimer
