/-
  The facts of FnPlanEven's row that the kernel reckons. No condition.
-/
import Derived.Test.YtghgffhcdnmpnaaGreatZD0
namespace Go.Proofs.YtghgffhcdnmpnaaGreat
open Go.ChangeShapes Go.WideShapes Go.ChangeAt Go.RowKit
set_option maxRecDepth 100000 in
theorem fnPlanEven_closed : joinedFacts Tryz.pinned.checked.prog 5 Tryz.f5 Rows.fnPlanEvenSpec Rows.fnPlanEvenRow = true := by kernel_rfl
end Go.Proofs.YtghgffhcdnmpnaaGreat
