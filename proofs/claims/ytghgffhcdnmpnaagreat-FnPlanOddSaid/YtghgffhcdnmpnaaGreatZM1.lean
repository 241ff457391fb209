/-
  Holder, kept: who has a partition in a plan; whether a member keeps what it has. Conditions: each partition that is asked for is had, by one member alone.
-/
import Derived.Test.YtghgffhcdnmpnaaGreatZF1
import Derived.Test.YtghgffhcdnmpnaaGreatZF5a
namespace Go.Proofs.YtghgffhcdnmpnaaGreat
open Go.RowKit Go.Sort
end Go.Proofs.YtghgffhcdnmpnaaGreat
/-
  Each partition goes to one member, by ranges and by round robin; the order of the members does not matter. In plain Lean. Condition: a group that fits.
-/
namespace Go.Proofs.YtghgffhcdnmpnaaGreat
open Go.RowKit Go.Sort
theorem mem_gives {s : List (ByteArray × ByteArray × Int)} {m t : ByteArray} {p : Int} : p ∈ gives s m t ↔ (m, t, p) ∈ s := by
  unfold gives
  constructor
  · intro h
    obtain ⟨x, hx, rfl⟩ := List.mem_map.1 h
    obtain ⟨h1, h2⟩ := List.mem_filter.1 hx
    have h3 : x.1 = m ∧ x.2.1 = t := by simpa using h2
    obtain ⟨a, b, c⟩ := x
    obtain ⟨h4, h5⟩ := h3
    simp only at h4 h5
    subst h4 h5
    exact h1
  · intro h
    exact List.mem_map.2 ⟨_, List.mem_filter.2 ⟨h, by simp⟩, rfl⟩
theorem rlo_all (m n : Nat) (hn : 0 < n) : rlo m n n = m := by
  unfold rlo
  have h1 := Nat.div_add_mod m n
  have h2 := Nat.mod_lt m hn
  omega
theorem topicUp_snd (ids : List ByteArray) (t : ByteArray) (ps : List Int) : ∀ k, k ≤ ids.length → (topicUp ids t ps k).map Prod.snd = (ps.take (rlo ps.length ids.length k)).map fun p => (t, p)
  | 0, _ => by simp [topicUp, rlo]
  | k + 1, hk => by
    have ih := topicUp_snd ids t ps k (by omega)
    have h1 : ids[k]? = some ids[k] := List.getElem?_eq_getElem (by omega)
    rw [topicUp_succ h1, List.map_append, ih, List.map_map]
    have h2 : rlo ps.length ids.length (k + 1) = rhi ps.length ids.length k := by
      rw [rlo_succ]
      unfold rhi
      rw [Nat.add_assoc]
    have h3 := rlo_le ps.length ids.length k
    rw [h2]
    have h4 : ps.take (rhi ps.length ids.length k) = ps.take (rlo ps.length ids.length k) ++ rpart ps ids.length k := by
      unfold rpart
      have h5 := List.take_append_drop (rlo ps.length ids.length k) (ps.take (rhi ps.length ids.length k))
      rw [List.take_take, Nat.min_eq_left h3] at h5
      exact h5.symm
    rw [h4, List.map_append]
    rfl
theorem topicSeq_snd {ids : List ByteArray} (h : 0 < ids.length) (t : ByteArray) (ps : List Int) : (topicSeq ids t ps).map Prod.snd = ps.map fun p => (t, p) := by
  rw [← topicUp_all, topicUp_snd ids t ps _ (Nat.le_refl _), rlo_all _ _ h, List.take_length]
theorem rangeSeq_snd {l : List (ByteArray × List ByteArray)} : ∀ {tm : List (ByteArray × List Int)}, (∀ x ∈ tm, 0 < (wantIds l x.1).length) → (rangeSeq l tm).map Prod.snd = pairsOf tm
  | [], _ => rfl
  | x :: tm, h => by
    have ih := rangeSeq_snd (l := l) (tm := tm) (fun y hy => h y (.tail _ hy))
    have h1 : rangeSeq l (x :: tm) = topicSeq (srt (wantIds l x.1)) x.1 x.2 ++ rangeSeq l tm := by simp [rangeSeq]
    have h2 : pairsOf (x :: tm) = (x.2.map fun p => (x.1, p)) ++ pairsOf tm := by simp [pairsOf]
    rw [h1, h2, List.map_append, ih, topicSeq_snd (by rw [srt_len]; exact h x (.head _))]
theorem Fits.perm {ms ms' : List MV} {ts : List Sh} (h : Fits ms ts) (hp : ms'.Perm ms) : Fits ms' ts where
  m1 := by rw [hp.length_eq]; exact h.m1
  m6 := by rw [hp.length_eq]; exact h.m6
  t1 := h.t1
  t6 := h.t6
  wanted := by
    unfold wantedB
    refine List.all_eq_true.2 (fun s hs => ?_)
    obtain ⟨m, hm, hst⟩ := h.want s hs
    exact List.any_eq_true.2 ⟨m, hp.mem_iff.2 hm, by simpa [wantB] using hst⟩
  tops := h.tops
  sorted := h.sorted
  mems := fun i m hm => by
    obtain ⟨j, hj⟩ := List.getElem?_of_mem (hp.mem_iff.1 (List.mem_of_getElem? hm))
    exact h.mems j m hj
  ids := fun i j a b hij ha hb he => by
    have hn : (ms'.map MV.id).Nodup := (hp.map MV.id).nodup_iff.2 h.inodup
    obtain ⟨hi, ea⟩ := List.getElem?_eq_some_iff.1 ha
    obtain ⟨hj, eb⟩ := List.getElem?_eq_some_iff.1 hb
    have := List.pairwise_iff_getElem.1 hn i j (by simpa using hi) (by simpa using hj) hij
    rw [List.getElem_map, List.getElem_map, ea, eb] at this
    exact this he
end Go.Proofs.YtghgffhcdnmpnaaGreat
