/-
  FnPlanOnce: by each strategy each partition of a group that begins goes to one member, who has subscribed to its topic. No condition: for every input.
-/
import Derived.Test.YtghgffhcdnmpnaaGreatZS4
import Derived.Test.YtghgffhcdnmpnaaGreatZS7a
namespace Go.Proofs.YtghgffhcdnmpnaaGreat
open Go.ChangeShapes Go.WideShapes Go.ChangeAt Go.RowKit Go.Sort
theorem u8_in7 {k : Int} (h : (Lit.int .u8 k).wf = true) : 0 ≤ k ∧ k ≤ 255 := by
  simp [Lit.wf, IntKind.min, IntKind.max, IntKind.signed, IntKind.bits] at h
  omega
set_option maxRecDepth 100000 in
theorem fnPlanOnce_law : LawWalk 7 Tryz.f7 := by
  intro H enc W base args ds ps hval hA
  rw [Tryz.params7] at hA hval
  obtain ⟨v0, v1, v2, d0, d1, d2, p0, p1, p2, rfl, rfl, rfl, h0, h1, h2⟩ := trodAll_three hA
  obtain ⟨k, rfl, rfl, rfl, w0⟩ := open_int Tryz.underlying5 (hval 0 5 v0 rfl rfl) h0
  obtain ⟨A, ms, c, rfl, hm⟩ := arg_members (hval 1 29 v1 rfl rfl) h1
  obtain ⟨B, l, d, rfl, ht⟩ := arg_shares (hval 2 30 v2 rfl rfl) h2
  obtain ⟨t0, t1⟩ := u8_in7 w0
  exact (fnPlanOnce_walk k t0 t1 A B c d ms l W hm ht).mono fun e W' ⟨h1, h2⟩ => ⟨h1, h2.below⟩
set_option maxRecDepth 100000 in
theorem fnPlanOnce_lifted (os : Os) (started : os.Started) (H : Type) (enc : TypeId × Value → H) :
    ReturnsInHanded {} Tryz.checked os 7 .any (Rows.fnPlanOnceSpec.pre6 enc Tryz.prog Tryz.f7 Rows.fnPlanOnceRow.domain false) (Rows.fnPlanOnceSpec.post enc Tryz.prog Tryz.f7 false true false false) :=
  law_lifted fnPlanOnce_law Tryz.func7 (by kernel_rfl) os started (by rw [Tryz.params7]; decide +kernel) (by kernel_rfl) rfl
    (fun ds hd => by
      have hd : ds.length = 3 := hd
      match ds, hd with
      | [d0, d1, d2], _ => rfl)
    (ChangeSpec.witness6 (enc := enc) (C := Tryz.checked) false ⟨#[], #[.int .u8 0, .slice none 0 0, .slice none 0 0], []⟩ 8 (by kernel_rfl) (by kernel_rfl) (by kernel_rfl) (by kernel_rfl))
/-- For every input FnPlanOnce returns true; its arguments read as they did. -/
theorem fnPlanOnce_holds : Rows.FnPlanOnceSaid :=
  OpenClaim.holds_of_wide 7 Tryz.f7 rfl rfl rfl rfl rfl rfl rfl ⟨rfl, rfl, rfl, rfl, rfl⟩ rfl rfl rfl rfl rfl (by kernel_rfl) Tryz.func7 fnPlanOnce_closed
    (of_decide_eq_true (by kernel_rfl)) (by unfold Func.isWrapper; first | (rw [if_pos (by decide +kernel)]; kernel_rfl) | (rw [if_neg (by decide +kernel)]; exact ⟨rfl, rfl⟩))
    (fun os started H enc _ => fnPlanOnce_lifted os started H enc)
#print axioms fnPlanOnce_holds
end Go.Proofs.YtghgffhcdnmpnaaGreat
