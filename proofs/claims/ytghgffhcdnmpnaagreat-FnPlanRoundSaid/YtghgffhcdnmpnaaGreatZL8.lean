/-
  FnPlanRound: round robin gives the partitions of all topics in order to the members in order, each to the next one that has subscribed to its topic. No condition: for every input.
-/
import Derived.Test.YtghgffhcdnmpnaaGreatZL7
import Derived.Test.YtghgffhcdnmpnaaGreatZL8a
namespace Go.Proofs.YtghgffhcdnmpnaaGreat
open Go.ChangeShapes Go.WideShapes Go.ChangeAt Go.RowKit Go.Sort
set_option maxRecDepth 100000 in
theorem fnPlanRound_law : LawWalk 9 Tryz.f9 := by
  intro H enc W base args ds ps hval hA
  rw [Tryz.params9] at hA hval
  obtain ⟨v0, v1, d0, d1, q0, q1, rfl, rfl, rfl, h0, h1⟩ := trodAll_two hA
  obtain ⟨A, ms, c, rfl, hm⟩ := arg_members (hval 0 29 v0 rfl rfl) h0
  obtain ⟨B, l, d, rfl, ht⟩ := arg_shares (hval 1 30 v1 rfl rfl) h1
  exact (fnPlanRound_walk A B c d ms l W hm ht).mono fun e W' ⟨h1, h2⟩ => ⟨h1, h2.below⟩
set_option maxRecDepth 100000 in
theorem fnPlanRound_lifted (os : Os) (started : os.Started) (H : Type) (enc : TypeId × Value → H) :
    ReturnsInHanded {} Tryz.checked os 9 .any (Rows.fnPlanRoundSpec.pre6 enc Tryz.prog Tryz.f9 Rows.fnPlanRoundRow.domain false) (Rows.fnPlanRoundSpec.post enc Tryz.prog Tryz.f9 false true false false) :=
  law_lifted fnPlanRound_law Tryz.func9 (by kernel_rfl) os started (by rw [Tryz.params9]; decide +kernel) (by kernel_rfl) rfl
    (fun ds hd => by
      have hd : ds.length = 2 := hd
      match ds, hd with
      | [d0, d1], _ => rfl)
    (ChangeSpec.witness6 (enc := enc) (C := Tryz.checked) false ⟨#[], #[.slice none 0 0, .slice none 0 0], []⟩ 8 (by kernel_rfl) (by kernel_rfl) (by kernel_rfl) (by kernel_rfl))
/-- For every input FnPlanRound returns true; its arguments read as they did. -/
theorem fnPlanRound_holds : Rows.FnPlanRoundSaid :=
  OpenClaim.holds_of_wide 9 Tryz.f9 rfl rfl rfl rfl rfl rfl rfl ⟨rfl, rfl, rfl, rfl, rfl⟩ rfl rfl rfl rfl rfl (by kernel_rfl) Tryz.func9 fnPlanRound_closed
    (of_decide_eq_true (by kernel_rfl)) (by unfold Func.isWrapper; first | (rw [if_pos (by decide +kernel)]; kernel_rfl) | (rw [if_neg (by decide +kernel)]; exact ⟨rfl, rfl⟩))
    (fun os started H enc _ => fnPlanRound_lifted os started H enc)
#print axioms fnPlanRound_holds
end Go.Proofs.YtghgffhcdnmpnaaGreat
