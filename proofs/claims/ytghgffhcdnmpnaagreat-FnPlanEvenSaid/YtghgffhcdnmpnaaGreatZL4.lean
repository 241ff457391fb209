/-
  Round robin as a strategy (PlanK). Conditions: those of its Plan.
-/
import Derived.Test.YtghgffhcdnmpnaaGreatZL3
import Derived.Test.YtghgffhcdnmpnaaGreatZF1
import Derived.Test.YtghgffhcdnmpnaaGreatZF3
import Derived.StillTail
namespace Go.Proofs.YtghgffhcdnmpnaaGreat
open Go.RowKit Go.Sort
theorem newRound_any (w : World) : Calls Tryz.prog 62 #[] w fun e w' => ∃ bs, e = .returned (.iface 132 (.pointer (some ⟨bs, 0, none⟩))) ∧ Kept [] w w' := by
  go_enter Tryz.func62, Tryz.ntmps62
  go_wp2
  go_ret
  exact ⟨_, rfl, (Kept.refl [] w).alloc _⟩
theorem strategy1 (w : World) : Calls Tryz.prog 42 #[.int .i64 1] w fun e w' => ∃ bs, e = .returned (.iface 132 (.pointer (some ⟨bs, 0, none⟩))) ∧ Kept [] w w' := by
  have H := Lib.hid (newRound_any w)
  go_enter Tryz.func42, Tryz.ntmps42
  go_wp2_with ((with_reducible refine H.out.mono ?_); rintro e w1 ⟨bs, rfl, hk⟩; have HK := Lib.hid hk; clear hk)
  go_ret
  exact ⟨_, rfl, HK.out⟩
theorem gives_top {l : List (ByteArray × List ByteArray)} : ∀ (ps : List (ByteArray × Int)) (i : Nat) {k t : ByteArray}, gives (roundSeq l ps i) k t ≠ [] → ∃ p, (t, p) ∈ ps
  | [], i, k, t, h => by simp [roundSeq, gives] at h
  | x :: r, i, k, t, h => by
    unfold roundSeq at h
    split at h
    · by_cases hx : x.1 = t
      · exact ⟨x.2, by rw [← hx]; exact .head _⟩
      · have h2 : gives (roundSeq l r (rnext l x.1 l.length i + 1)) k t ≠ [] := by
          intro e
          apply h
          unfold gives at e ⊢
          rw [List.filter_cons_of_neg (by simp [hx])]
          exact e
        obtain ⟨p, hp⟩ := gives_top r _ h2
        exact ⟨p, .tail _ hp⟩
    · obtain ⟨p, hp⟩ := gives_top r _ h
      exact ⟨p, .tail _ hp⟩
theorem roundSeq_len {l : List (ByteArray × List ByteArray)} : ∀ (ps : List (ByteArray × Int)) (i : Nat), (roundSeq l ps i).length ≤ ps.length
  | [], i => by simp [roundSeq]
  | x :: r, i => by
    unfold roundSeq
    split
    · have := roundSeq_len (l := l) r (rnext l x.1 l.length i + 1)
      simp only [List.length_cons]
      omega
    · have := roundSeq_len (l := l) r (rnext l x.1 l.length i)
      simp only [List.length_cons]
      omega
theorem goodRR_few {l : List (ByteArray × List ByteArray)} {tm : List (ByteArray × List Int)} {F : ByteArray → ByteArray → List Int} (h : GoodRR l tm F) (ht : Told l tm) (hp : PreRR l tm) : Few tm F := by
  obtain ⟨Lm, l1, _, _, h1, _, rfl⟩ := h
  refine ⟨fun k t hne => ?_, fun k t => ?_⟩
  · obtain ⟨p, hp⟩ := gives_top l1 0 hne
    obtain ⟨x, hx, hx2⟩ := List.mem_flatMap.1 (h1.mem_iff.1 hp)
    obtain ⟨q, _, hq⟩ := List.mem_map.1 hx2
    have : x.1 = t := congrArg Prod.fst hq
    rw [← this]
    exact List.mem_map.2 ⟨x, hx, rfl⟩
  · have h2 : (gives (roundSeq Lm l1 0) k t).length ≤ (roundSeq Lm l1 0).length := by
      unfold gives
      rw [List.length_map]
      exact List.length_filter_le _ _
    have h3 := roundSeq_len (l := Lm) l1 0
    have h4 := pairsOf_len (L := tm) (fun x hx => (hp.tops x hx).2.2.1)
    have h5 := h1.length_eq
    have h6 := ht.twelve
    omega
set_option maxRecDepth 100000 in
theorem planK1 : PlanK 1 132 169 (fun _ _ => True) GoodRR PreRR where
  made := fun W => (strategy1 W).mono fun e w' ⟨bs, h1, h2⟩ => ⟨bs, h1, trivial, h2⟩
  ok := fun _ _ _ _ _ => trivial
  find := fun _ _ => by kernel_rfl
  ahead := fun _ _ => by kernel_rfl
  enters := enters_of Tryz.func169 (by kernel_rfl) rfl
  call := fun W bs mb tb l tm _ hM hT ht hp => (planRound_any bs mb tb _ l tm W hM hT (fun _ h => h) ht hp).mono fun e w' ⟨pb, S, F, h1, h2, h3, h4, h5⟩ => ⟨pb, S, F, h1, h2, h3, h4, goodRR_few h4 ht hp, h5⟩
end Go.Proofs.YtghgffhcdnmpnaaGreat
/-
  RoundPlan: the plan by round robin, as the reference reckons it. Conditions: one to seven members, at most twelve topics, a thousand partitions each; each topic is wanted.
-/
namespace Go.Proofs.YtghgffhcdnmpnaaGreat
open Go.RowKit Go.Sort
end Go.Proofs.YtghgffhcdnmpnaaGreat
