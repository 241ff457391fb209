/-
  Members in order and what they want; the gifts by ranges, step by step. In plain Lean. Conditions: those of each lemma.
-/
import Derived.Test.YtghgffhcdnmpnaaGreatF3
namespace Go.Proofs.YtghgffhcdnmpnaaGreat
open Go.RowKit Go.Sort
theorem srt_eq {a b : List ByteArray} (h : a.Perm b) (hs : a.Pairwise (fun x y => sle x y = true)) : a = srt b :=
  List.Perm.eq_of_pairwise (le := fun x y => sle x y = true) (fun x y _ _ => sle_antisymm x y) hs (srt_sorted b) (h.trans (srt_perm b).symm)
theorem ord_ids {os ms : List MV} (h : os.Perm ms) (hs : os.Pairwise (fun a b => sle a.id b.id = true)) (t : ByteArray) : (os.filter (wantB t)).map MV.id = srt (wantIds (memList ms) t) := by
  have h1 : wantIds (memList ms) t = (ms.filter (wantB t)).map MV.id := by
    unfold wantIds memList
    rw [List.filter_map, List.map_map]
    rfl
  rw [h1]
  refine srt_eq ((h.filter _).map _) ?_
  rw [List.pairwise_map]
  exact hs.sublist List.filter_sublist
theorem filter_take {α : Type} (p : α → Bool) {l : List α} {k : Nat} {y : α} (h : l[k]? = some y) : (l.take (k + 1)).filter p = (l.take k).filter p ++ if p y = true then [y] else [] := by
  rw [take_one h, List.filter_append]
  by_cases hp : p y = true <;> simp [hp]
theorem rangeSeq_snoc (l : List (ByteArray × List ByteArray)) (tm : List (ByteArray × List Int)) (x : ByteArray × List Int) : rangeSeq l (tm ++ [x]) = rangeSeq l tm ++ topicSeq (srt (wantIds l x.1)) x.1 x.2 := by
  simp [rangeSeq]
/-- The gifts of a topic to the first k of its members. -/
def topicUp (ids : List ByteArray) (t : ByteArray) (ps : List Int) (k : Nat) : List (ByteArray × ByteArray × Int) :=
  (List.range k).flatMap fun k => (rpart ps ids.length k).map fun p => (ids.getD k default, t, p)
theorem topicUp_succ {ids : List ByteArray} {t : ByteArray} {ps : List Int} {k : Nat} {y : ByteArray} (h : ids[k]? = some y) : topicUp ids t ps (k + 1) = topicUp ids t ps k ++ (rpart ps ids.length k).map fun p => (y, t, p) := by
  simp [topicUp, List.range_succ, List.getD_eq_getElem?_getD, h]
theorem topicUp_all (ids : List ByteArray) (t : ByteArray) (ps : List Int) : topicUp ids t ps ids.length = topicSeq ids t ps := rfl
theorem topicUp_len (ids : List ByteArray) (t : ByteArray) (ps : List Int) : ∀ k, (topicUp ids t ps k).length ≤ k * ps.length
  | 0 => by simp [topicUp]
  | k + 1 => by
    have h1 := topicUp_len ids t ps k
    have h2 := rpart_len ps ids.length k
    have h3 : topicUp ids t ps (k + 1) = topicUp ids t ps k ++ (rpart ps ids.length k).map fun p => (ids.getD k default, t, p) := by simp [topicUp, List.range_succ]
    rw [h3, List.length_append, List.length_map, Nat.add_mul]
    omega
theorem rangeSeq_len (l : List (ByteArray × List ByteArray)) (hl : l.length ≤ 7) : ∀ tm : List (ByteArray × List Int), (∀ x ∈ tm, x.2.length ≤ 1000) → (rangeSeq l tm).length ≤ tm.length * 7000
  | [], _ => by simp [rangeSeq]
  | x :: tm, h => by
    have h1 := rangeSeq_len l hl tm (fun y hy => h y (.tail _ hy))
    have h2 := h x (.head _)
    have h3 : rangeSeq l (x :: tm) = topicSeq (srt (wantIds l x.1)) x.1 x.2 ++ rangeSeq l tm := by simp [rangeSeq]
    have h4 := topicUp_len (srt (wantIds l x.1)) x.1 x.2 (srt (wantIds l x.1)).length
    rw [topicUp_all] at h4
    have h5 : (srt (wantIds l x.1)).length ≤ 7 := by
      rw [srt_len, wantIds, List.length_map]
      exact Nat.le_trans (List.length_filter_le _ _) hl
    have h6 : (srt (wantIds l x.1)).length * x.2.length ≤ 7 * 1000 := Nat.mul_le_mul h5 h2
    rw [h3, List.length_append, List.length_cons]
    omega
theorem rpart_get {ps : List Int} {n i c : Nat} {y : Int} (hy : ps[rlo ps.length n i + c]? = some y) (hc : rlo ps.length n i + c < rhi ps.length n i) : (rpart ps n i)[c]? = some y := by
  rw [rpart, List.getElem?_drop, List.getElem?_take, if_pos hc, hy]
theorem rpart_size (ps : List Int) (n i : Nat) (hi : i < n) : (rpart ps n i).length = ps.length / n + (if i < ps.length % n then 1 else 0) := by
  have := rhi_le ps.length n i hi
  rw [rpart, List.length_drop, List.length_take, Nat.min_eq_left this]
  unfold rhi
  rw [Nat.add_assoc, Nat.add_sub_cancel_left]
theorem rlo_succ (m n i : Nat) : rlo m n (i + 1) = rlo m n i + (m / n + (if i < m % n then 1 else 0)) := by
  unfold rlo
  rw [Nat.add_mul]
  split <;> omega
end Go.Proofs.YtghgffhcdnmpnaaGreat
