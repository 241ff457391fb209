/-
  FnPlanShuffled: by ranges and by round robin the order in which members are given does not matter. No condition: for every input.
-/
import Derived.Test.YtghgffhcdnmpnaaGreatZM3
import Derived.Test.YtghgffhcdnmpnaaGreatZM4a
namespace Go.Proofs.YtghgffhcdnmpnaaGreat
open Go.ChangeShapes Go.WideShapes Go.ChangeAt Go.RowKit Go.Sort
theorem u8_in' {k : Int} (h : (Lit.int .u8 k).wf = true) : 0 ≤ k ∧ k ≤ 255 := by
  simp [Lit.wf, IntKind.min, IntKind.max, IntKind.signed, IntKind.bits] at h
  omega
set_option maxRecDepth 100000 in
theorem fnPlanShuffled_law : LawWalk 10 Tryz.f10 := by
  intro H enc W base args ds ps hval hA
  rw [Tryz.params10] at hA hval
  obtain ⟨v0, v1, v2, v3, d0, d1, d2, d3, p0, p1, p2, p3, rfl, rfl, rfl, h0, h1, h2, h3⟩ := trodAll_four hA
  obtain ⟨rb, rfl, rfl, rfl⟩ := open_bool Tryz.underlying4 (hval 0 4 v0 rfl rfl) h0
  obtain ⟨A, ms, c, rfl, hm⟩ := arg_members (hval 1 29 v1 rfl rfl) h1
  obtain ⟨B, l, d, rfl, ht⟩ := arg_shares (hval 2 30 v2 rfl rfl) h2
  obtain ⟨tn, rfl, rfl, rfl, w3⟩ := open_int Tryz.underlying5 (hval 3 5 v3 rfl rfl) h3
  obtain ⟨t0, t1⟩ := u8_in' w3
  obtain ⟨k, rfl⟩ : ∃ k : Nat, tn = (k : Int) := ⟨tn.toNat, by omega⟩
  cases rb with
  | false => exact (fnPlanShuffled_false k (by omega) A B c d ms l W hm ht).mono fun e W' ⟨h1, h2⟩ => ⟨h1, h2.below⟩
  | true => exact (fnPlanShuffled_true k (by omega) A B c d ms l W hm ht).mono fun e W' ⟨h1, h2⟩ => ⟨h1, h2.below⟩
set_option maxRecDepth 100000 in
theorem fnPlanShuffled_lifted (os : Os) (started : os.Started) (H : Type) (enc : TypeId × Value → H) :
    ReturnsInHanded {} Tryz.checked os 10 .any (Rows.fnPlanShuffledSpec.pre6 enc Tryz.prog Tryz.f10 Rows.fnPlanShuffledRow.domain false) (Rows.fnPlanShuffledSpec.post enc Tryz.prog Tryz.f10 false true false false) :=
  law_lifted fnPlanShuffled_law Tryz.func10 (by kernel_rfl) os started (by rw [Tryz.params10]; decide +kernel) (by kernel_rfl) rfl
    (fun ds hd => by
      have hd : ds.length = 4 := hd
      match ds, hd with
      | [d0, d1, d2, d3], _ => rfl)
    (ChangeSpec.witness6 (enc := enc) (C := Tryz.checked) false ⟨#[], #[.bool false, .slice none 0 0, .slice none 0 0, .int .u8 0], []⟩ 8 (by kernel_rfl) (by kernel_rfl) (by kernel_rfl) (by kernel_rfl))
/-- For every input FnPlanShuffled returns true; its arguments read as they did. -/
theorem fnPlanShuffled_holds : Rows.FnPlanShuffledSaid :=
  OpenClaim.holds_of_wide 10 Tryz.f10 rfl rfl rfl rfl rfl rfl rfl ⟨rfl, rfl, rfl, rfl, rfl⟩ rfl rfl rfl rfl rfl (by kernel_rfl) Tryz.func10 fnPlanShuffled_closed
    (of_decide_eq_true (by kernel_rfl)) (by unfold Func.isWrapper; first | (rw [if_pos (by decide +kernel)]; kernel_rfl) | (rw [if_neg (by decide +kernel)]; exact ⟨rfl, rfl⟩))
    (fun os started H enc _ => fnPlanShuffled_lifted os started H enc)
#print axioms fnPlanShuffled_holds
end Go.Proofs.YtghgffhcdnmpnaaGreat
