/-
  The facts of FnPlanOnce's row that the kernel reckons. No condition.
-/
import Derived.Test.YtghgffhcdnmpnaaGreatZD0
namespace Go.Proofs.YtghgffhcdnmpnaaGreat
open Go.ChangeShapes Go.WideShapes Go.ChangeAt Go.RowKit
set_option maxRecDepth 100000 in
theorem fnPlanOnce_closed : joinedFacts Tryz.pinned.checked.prog 7 Tryz.f7 Rows.fnPlanOnceSpec Rows.fnPlanOnceRow = true := by kernel_rfl
end Go.Proofs.YtghgffhcdnmpnaaGreat
