/-
  The facts of FnSteps' row that the kernel reckons. No condition.
-/
import Derived.Test.YtmpjikihnmagoaaGreatDoorZT71
set_option maxRecDepth 100000
namespace Go.Proofs.YtmpjikihnmagoaaGreatDoor
open Go.ChangeShapes Go.WideShapes Go.ChangeAt Go.RowKit
theorem fnSteps_closed : joinedFacts Tryz.pinned.checked.prog 5 Tryz.f5 Rows.fnStepsSpec Rows.fnStepsRow = true:=by kernel_rfl
end Go.Proofs.YtmpjikihnmagoaaGreatDoor
