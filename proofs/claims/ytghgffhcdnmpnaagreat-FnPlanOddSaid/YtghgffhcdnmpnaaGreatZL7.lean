/-
  The walk of FnPlanRound. Conditions: arguments that read as members and shares.
-/
import Derived.Test.YtghgffhcdnmpnaaGreatZF5a
import Derived.Test.YtghgffhcdnmpnaaGreatZC20
namespace Go.Proofs.YtghgffhcdnmpnaaGreat
open Go.RowKit Go.Sort
end Go.Proofs.YtghgffhcdnmpnaaGreat
