/-
  FnPlanRange: by ranges each topic's partitions go in order to its members in order, to each as many, and one more to the first ones. No condition: for every input.
-/
import Derived.Test.YtghgffhcdnmpnaaGreatF5
import Derived.Test.YtghgffhcdnmpnaaGreatF6a
namespace Go.Proofs.YtghgffhcdnmpnaaGreat
open Go.ChangeShapes Go.WideShapes Go.ChangeAt Go.RowKit Go.Sort
set_option maxRecDepth 100000 in
theorem fnPlanRange_law : LawWalk 8 Tryz.f8 := by
  intro H enc W base args ds ps hval hA
  rw [Tryz.params8] at hA hval
  obtain ⟨v0, v1, d0, d1, q0, q1, rfl, rfl, rfl, h0, h1⟩ := trodAll_two hA
  obtain ⟨A, ms, c, rfl, hm⟩ := arg_members (hval 0 29 v0 rfl rfl) h0
  obtain ⟨B, l, d, rfl, ht⟩ := arg_shares (hval 1 30 v1 rfl rfl) h1
  exact (fnPlanRange_walk A B c d ms l W hm ht).mono fun e W' ⟨h1, h2⟩ => ⟨h1, h2.below⟩
set_option maxRecDepth 100000 in
theorem fnPlanRange_lifted (os : Os) (started : os.Started) (H : Type) (enc : TypeId × Value → H) :
    ReturnsInHanded {} Tryz.checked os 8 .any (Rows.fnPlanRangeSpec.pre6 enc Tryz.prog Tryz.f8 Rows.fnPlanRangeRow.domain false) (Rows.fnPlanRangeSpec.post enc Tryz.prog Tryz.f8 false true false false) :=
  law_lifted fnPlanRange_law Tryz.func8 (by kernel_rfl) os started (by rw [Tryz.params8]; decide +kernel) (by kernel_rfl) rfl
    (fun ds hd => by
      have hd : ds.length = 2 := hd
      match ds, hd with
      | [d0, d1], _ => rfl)
    (ChangeSpec.witness6 (enc := enc) (C := Tryz.checked) false ⟨#[], #[.slice none 0 0, .slice none 0 0], []⟩ 8 (by kernel_rfl) (by kernel_rfl) (by kernel_rfl) (by kernel_rfl))
/-- For every input FnPlanRange returns true; its arguments read as they did. -/
theorem fnPlanRange_holds : Rows.FnPlanRangeSaid :=
  OpenClaim.holds_of_wide 8 Tryz.f8 rfl rfl rfl rfl rfl rfl rfl ⟨rfl, rfl, rfl, rfl, rfl⟩ rfl rfl rfl rfl rfl (by kernel_rfl) Tryz.func8 fnPlanRange_closed
    (of_decide_eq_true (by kernel_rfl)) (by unfold Func.isWrapper; first | (rw [if_pos (by decide +kernel)]; kernel_rfl) | (rw [if_neg (by decide +kernel)]; exact ⟨rfl, rfl⟩))
    (fun os started H enc _ => fnPlanRange_lifted os started H enc)
#print axioms fnPlanRange_holds
end Go.Proofs.YtghgffhcdnmpnaaGreat
