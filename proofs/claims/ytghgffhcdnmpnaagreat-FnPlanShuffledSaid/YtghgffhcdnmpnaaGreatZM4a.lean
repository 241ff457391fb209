/-
  The facts of FnPlanShuffled's row that the kernel reckons. No condition.
-/
import Derived.Test.YtghgffhcdnmpnaaGreatZD0
namespace Go.Proofs.YtghgffhcdnmpnaaGreat
open Go.ChangeShapes Go.WideShapes Go.ChangeAt Go.RowKit
set_option maxRecDepth 100000 in
theorem fnPlanShuffled_closed : joinedFacts Tryz.pinned.checked.prog 10 Tryz.f10 Rows.fnPlanShuffledSpec Rows.fnPlanShuffledRow = true := by kernel_rfl
end Go.Proofs.YtghgffhcdnmpnaaGreat
