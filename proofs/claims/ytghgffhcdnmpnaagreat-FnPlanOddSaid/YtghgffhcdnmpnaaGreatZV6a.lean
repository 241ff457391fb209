/-
  The facts of FnPlanOdd's row that the kernel reckons. No condition.
-/
import Derived.Test.YtghgffhcdnmpnaaGreatZD0
namespace Go.Proofs.YtghgffhcdnmpnaaGreat
open Go.ChangeShapes Go.WideShapes Go.ChangeAt Go.RowKit
set_option maxRecDepth 100000 in
theorem fnPlanOdd_closed : joinedFacts Tryz.pinned.checked.prog 6 Tryz.f6 Rows.fnPlanOddSpec Rows.fnPlanOddRow = true := by kernel_rfl
end Go.Proofs.YtghgffhcdnmpnaaGreat
