/-
  FnPartitionRound: round robin goes through the partitions, one at a time, and begins again behind the last one. No condition: for every input.
-/
import Derived.Test.YtghgffhcdnmpnaaGreatG2
namespace Go.Proofs.YtghgffhcdnmpnaaGreat
open Go.ChangeShapes Go.WideShapes Go.ChangeAt Go.RowKit Go.Sort
set_option maxRecDepth 100000 in
theorem fnPartitionRound_law : LawWalk 11 Tryz.f11 := by
  intro H enc W base args ds ps hval hA
  rw [Tryz.params11] at hA hval
  obtain ⟨v0, d0, rfl, rfl, h0⟩ := trodAll_one hA
  obtain ⟨A, l, c, rfl, hs⟩ := arg_ints (hval 0 49 v0 rfl rfl) h0
  exact (fnPartitionRound_walk A c l W hs).mono fun e W' ⟨h1, h2⟩ => ⟨h1, h2.below⟩
set_option maxRecDepth 100000 in
theorem fnPartitionRound_lifted (os : Os) (started : os.Started) (H : Type) (enc : TypeId × Value → H) :
    ReturnsInHanded {} Tryz.checked os 11 .any (Rows.fnPartitionRoundSpec.pre6 enc Tryz.prog Tryz.f11 Rows.fnPartitionRoundRow.domain false) (Rows.fnPartitionRoundSpec.post enc Tryz.prog Tryz.f11 false true false false) :=
  law_lifted fnPartitionRound_law Tryz.func11 (by kernel_rfl) os started (by rw [Tryz.params11]; decide +kernel) (by kernel_rfl) rfl
    (fun ds hd => by
      have hd : ds.length = 1 := hd
      match ds, hd with
      | [d0], _ => rfl)
    (ChangeSpec.witness6 (enc := enc) (C := Tryz.checked) false ⟨#[], #[.slice none 0 0], []⟩ 8 (by kernel_rfl) (by kernel_rfl) (by kernel_rfl) (by kernel_rfl))
/-- For every input FnPartitionRound returns true; its argument reads as it did. -/
theorem fnPartitionRound_holds : Rows.FnPartitionRoundSaid :=
  OpenClaim.holds_of_wide 11 Tryz.f11 rfl rfl rfl rfl rfl rfl rfl ⟨rfl, rfl, rfl, rfl, rfl⟩ rfl rfl rfl rfl rfl (by kernel_rfl) Tryz.func11 (by kernel_rfl)
    (of_decide_eq_true (by kernel_rfl)) (by unfold Func.isWrapper; first | (rw [if_pos (by decide +kernel)]; kernel_rfl) | (rw [if_neg (by decide +kernel)]; exact ⟨rfl, rfl⟩))
    (fun os started H enc _ => fnPartitionRound_lifted os started H enc)
#print axioms fnPartitionRound_holds
end Go.Proofs.YtghgffhcdnmpnaaGreat
