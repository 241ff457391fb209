/-
  The facts of FnPlanRound's row that the kernel reckons. No condition.
-/
import Derived.Test.YtghgffhcdnmpnaaGreatZD0
namespace Go.Proofs.YtghgffhcdnmpnaaGreat
open Go.ChangeShapes Go.WideShapes Go.ChangeAt Go.RowKit
set_option maxRecDepth 100000 in
theorem fnPlanRound_closed : joinedFacts Tryz.pinned.checked.prog 9 Tryz.f9 Rows.fnPlanRoundSpec Rows.fnPlanRoundRow = true := by kernel_rfl
end Go.Proofs.YtghgffhcdnmpnaaGreat
