/-
  The facts of FnPlanRange's row that the kernel reckons. No condition.
-/
import Derived.Test.YtghgffhcdnmpnaaGreatD0
namespace Go.Proofs.YtghgffhcdnmpnaaGreat
open Go.ChangeShapes Go.WideShapes Go.ChangeAt Go.RowKit
set_option maxRecDepth 100000 in
theorem fnPlanRange_closed : joinedFacts Tryz.pinned.checked.prog 8 Tryz.f8 Rows.fnPlanRangeSpec Rows.fnPlanRangeRow = true := by kernel_rfl
end Go.Proofs.YtghgffhcdnmpnaaGreat
