/-
  FnSteps: data are written as Kafka's protocol says, as many bytes are counted ahead, and they are read back. Conditions: none; the listed variable is tied to the program's text.
-/
import Derived.Test.YtmpjikihnmagoaaGreatDoorZT73
import Derived.Test.YtmpjikihnmagoaaGreatDoorTie
import Derived.Test.YtmpjikihnmagoaaGreatDoorCards
import Derived.SevenTiedAt
namespace Go.Proofs.YtmpjikihnmagoaaGreatDoor
open Go.ChangeShapes Go.WideShapes Go.ChangeAt Go.RowKit
/-- For every input FnSteps returns true; its arguments read as they did. -/
theorem fnSteps_holds : Rows.FnStepsSaid :=
 OpenClaim.holds_of_wide 5 Tryz.f5 rfl rfl rfl rfl rfl rfl rfl ⟨rfl, rfl, rfl, rfl, rfl⟩ rfl rfl rfl rfl rfl (by kernel_rfl) Tryz.func5 fnSteps_closed
  (of_decide_eq_true (by kernel_rfl)) (by unfold Func.isWrapper; first | (rw [if_pos (by decide +kernel)]; kernel_rfl) | (rw [if_neg (by decide +kernel)]; exact ⟨rfl, rfl⟩))
  (fun os started H enc _ => fnSteps_lifted os started H enc)
/-- The tied card. -/
theorem fnStepsCard_holds : Rows.FnStepsCardSaid :=
 Claim7.holds_tied_plain_at .later [] [.sentinel] true (true, "0fbacbd6ce9866663aaa65caede64f0450324cb9a2a72af28607c1b39ab10573") true
  fnSteps_holds (fun _ h => by cases h) (by kernel_rfl) (fun _ h => by cases h) fnSteps_row_tie rfl ⟨rfl, rfl⟩ (by kernel_rfl) rfl
  (fun f fn hf hfn => by
   obtain rfl : f = 5:=Option.some.inj ((show Tryz.prog.funcNamed "pub-kestrel/laws.FnSteps" = some 5 by kernel_rfl).symm.trans hf) |>.symm
   obtain rfl : fn = Tryz.f5:=(Option.some.inj (Tryz.func5.symm.trans hfn)).symm
   exact ⟨by kernel_rfl, fun j t ht => by
    rw [Tryz.params5] at ht
    have hm : t ∈ [40, 4]:=by simpa using Array.mem_of_getElem? ht
    have hall : ([40, 4].all fun u => !Tryz.prog.wantsStandIn u) = true:=by kernel_rfl
    exact (show Tryz.prog.wantsStandIn t = false by simpa using List.all_eq_true.1 hall t hm)⟩)
  (by kernel_rfl)
#print axioms fnStepsCard_holds
end Go.Proofs.YtmpjikihnmagoaaGreatDoor
