/-
  Round robin as a strategy (PlanK). Conditions: those of its Plan.
-/
import Derived.Test.YtghgffhcdnmpnaaGreatZL3
import Derived.Test.YtghgffhcdnmpnaaGreatZF1
import Derived.Test.YtghgffhcdnmpnaaGreatZF3
import Derived.StillTail
namespace Go.Proofs.YtghgffhcdnmpnaaGreat
open Go.RowKit Go.Sort
theorem gives_top {l : List (ByteArray × List ByteArray)} : ∀ (ps : List (ByteArray × Int)) (i : Nat) {k t : ByteArray}, gives (roundSeq l ps i) k t ≠ [] → ∃ p, (t, p) ∈ ps
  | [], i, k, t, h => by simp [roundSeq, gives] at h
  | x :: r, i, k, t, h => by
    unfold roundSeq at h
    split at h
    · by_cases hx : x.1 = t
      · exact ⟨x.2, by rw [← hx]; exact .head _⟩
      · have h2 : gives (roundSeq l r (rnext l x.1 l.length i + 1)) k t ≠ [] := by
          intro e
          apply h
          unfold gives at e ⊢
          rw [List.filter_cons_of_neg (by simp [hx])]
          exact e
        obtain ⟨p, hp⟩ := gives_top r _ h2
        exact ⟨p, .tail _ hp⟩
    · obtain ⟨p, hp⟩ := gives_top r _ h
      exact ⟨p, .tail _ hp⟩
theorem roundSeq_len {l : List (ByteArray × List ByteArray)} : ∀ (ps : List (ByteArray × Int)) (i : Nat), (roundSeq l ps i).length ≤ ps.length
  | [], i => by simp [roundSeq]
  | x :: r, i => by
    unfold roundSeq
    split
    · have := roundSeq_len (l := l) r (rnext l x.1 l.length i + 1)
      simp only [List.length_cons]
      omega
    · have := roundSeq_len (l := l) r (rnext l x.1 l.length i)
      simp only [List.length_cons]
      omega
end Go.Proofs.YtghgffhcdnmpnaaGreat
/-
  RoundPlan: the plan by round robin, as the reference reckons it. Conditions: one to seven members, at most twelve topics, a thousand partitions each; each topic is wanted.
-/
namespace Go.Proofs.YtghgffhcdnmpnaaGreat
open Go.RowKit Go.Sort
end Go.Proofs.YtghgffhcdnmpnaaGreat
