/-
  FnPlanEven: by round robin and the sticky strategies members who have subscribed to all topics have as many partitions as the others, or one more or less; by ranges as many as there are topics more or less. No condition: for every input.
-/
import Derived.Test.YtghgffhcdnmpnaaGreatZS6
import Derived.Test.YtghgffhcdnmpnaaGreatZS8a
namespace Go.Proofs.YtghgffhcdnmpnaaGreat
open Go.ChangeShapes Go.WideShapes Go.ChangeAt Go.RowKit Go.Sort
theorem u8_in8 {k : Int} (h : (Lit.int .u8 k).wf = true) : 0 ≤ k ∧ k ≤ 255 := by
  simp [Lit.wf, IntKind.min, IntKind.max, IntKind.signed, IntKind.bits] at h
  omega
set_option maxRecDepth 100000 in
theorem fnPlanEven_law : LawWalk 5 Tryz.f5 := by
  intro H enc W base args ds ps hval hA
  rw [Tryz.params5] at hA hval
  obtain ⟨v0, v1, v2, d0, d1, d2, p0, p1, p2, rfl, rfl, rfl, h0, h1, h2⟩ := trodAll_three hA
  obtain ⟨k, rfl, rfl, rfl, w0⟩ := open_int Tryz.underlying5 (hval 0 5 v0 rfl rfl) h0
  obtain ⟨A, ms, c, rfl, hm⟩ := arg_members (hval 1 29 v1 rfl rfl) h1
  obtain ⟨B, l, d, rfl, ht⟩ := arg_shares (hval 2 30 v2 rfl rfl) h2
  obtain ⟨t0, t1⟩ := u8_in8 w0
  exact (fnPlanEven_walk k t0 t1 A B c d ms l W hm ht).mono fun e W' ⟨h1, h2⟩ => ⟨h1, h2.below⟩
set_option maxRecDepth 100000 in
theorem fnPlanEven_lifted (os : Os) (started : os.Started) (H : Type) (enc : TypeId × Value → H) :
    ReturnsInHanded {} Tryz.checked os 5 .any (Rows.fnPlanEvenSpec.pre6 enc Tryz.prog Tryz.f5 Rows.fnPlanEvenRow.domain false) (Rows.fnPlanEvenSpec.post enc Tryz.prog Tryz.f5 false true false false) :=
  law_lifted fnPlanEven_law Tryz.func5 (by kernel_rfl) os started (by rw [Tryz.params5]; decide +kernel) (by kernel_rfl) rfl
    (fun ds hd => by
      have hd : ds.length = 3 := hd
      match ds, hd with
      | [d0, d1, d2], _ => rfl)
    (ChangeSpec.witness6 (enc := enc) (C := Tryz.checked) false ⟨#[], #[.int .u8 0, .slice none 0 0, .slice none 0 0], []⟩ 8 (by kernel_rfl) (by kernel_rfl) (by kernel_rfl) (by kernel_rfl))
/-- For every input FnPlanEven returns true; its arguments read as they did. -/
theorem fnPlanEven_holds : Rows.FnPlanEvenSaid :=
  OpenClaim.holds_of_wide 5 Tryz.f5 rfl rfl rfl rfl rfl rfl rfl ⟨rfl, rfl, rfl, rfl, rfl⟩ rfl rfl rfl rfl rfl (by kernel_rfl) Tryz.func5 fnPlanEven_closed
    (of_decide_eq_true (by kernel_rfl)) (by unfold Func.isWrapper; first | (rw [if_pos (by decide +kernel)]; kernel_rfl) | (rw [if_neg (by decide +kernel)]; exact ⟨rfl, rfl⟩))
    (fun os started H enc _ => fnPlanEven_lifted os started H enc)
#print axioms fnPlanEven_holds
end Go.Proofs.YtghgffhcdnmpnaaGreat
