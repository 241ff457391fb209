/-
  ordered: members in the order of their ids. Conditions: at most a thousand members.
-/
import Derived.Test.YtghgffhcdnmpnaaGreatZF1
namespace Go.Proofs.YtghgffhcdnmpnaaGreat
open Go.RowKit Go.Sort
theorem run_slice_head {P : Program} {w : World} {t e : TypeId} {sz : Nat} (ht : P.underlying t = some (.slice e)) (hi : (P.info? e).map (·.size) = some sz) (a : Addr) (n c j : Nat) (hj : j ≤ c) :
    (Instr.sliceAt t (.slice (some a) n c) none (some (.int .i64 j)) none).run P w = .ok (.slice (some a) j c) w := by
  have hel : P.elem t = e := by simp [Program.elem, ht]
  have ht' : P.underlying t = some (.slice (P.elem t)) := by rw [hel, ht]
  cases hq : P.info? e with
  | none => simp [hq] at hi
  | some i =>
    have his : i.size = sz := by simpa [hq] using hi
    rw [run_sliceAt_slice (P := P) (w := w) t _ _ _ _ ht', run_slice_h (P := P) (w := w) t _ _ _ ht' _ _ (by omega) (by omega), hel]
    simp [sizeOf, typeInfo, hq, his, Result.andThen, sliced, Addr.add]
/-- The head of a row of one's own. -/
theorem own_head {w : World} {base : Nat} {e : TypeId} {s n c g : Nat} {xs : List Value} (h : w.ownsRow base e s (.slice (some ⟨g, 0, none⟩) n c) n xs) (j : Nat) (hj : j ≤ n) : w.ownsRow base e s (.slice (some ⟨g, 0, none⟩) j c) j (xs.take (j * s)) := by
  have hjs : j * s ≤ n * s := Nat.mul_le_mul_right s hj
  refine ⟨by rw [List.length_take, h.1]; omega, .inr ?_⟩
  rcases h.2 with ⟨h1, h2⟩ | ⟨g', cap, cur, h1, h2, h3, h4, h5, h6, h7⟩
  · cases h1
  · injection h1 with h1 h1' h1''
    injection h1 with h1
    injection h1 with h1
    subst h1 h1''
    refine ⟨g, c, cur, rfl, h2, h3, by omega, h5, h6, ?_⟩
    rw [← h7, List.take_take, Nat.min_eq_left hjs]
end Go.Proofs.YtghgffhcdnmpnaaGreat
/-
  Members in order and what they want; the gifts by ranges, step by step. In plain Lean. Conditions: those of each lemma.
-/
namespace Go.Proofs.YtghgffhcdnmpnaaGreat
open Go.RowKit Go.Sort
/-- The gifts of a topic to the first k of its members. -/
def topicUp (ids : List ByteArray) (t : ByteArray) (ps : List Int) (k : Nat) : List (ByteArray × ByteArray × Int) :=
  (List.range k).flatMap fun k => (rpart ps ids.length k).map fun p => (ids.getD k default, t, p)
theorem topicUp_succ {ids : List ByteArray} {t : ByteArray} {ps : List Int} {k : Nat} {y : ByteArray} (h : ids[k]? = some y) : topicUp ids t ps (k + 1) = topicUp ids t ps k ++ (rpart ps ids.length k).map fun p => (y, t, p) := by
  simp [topicUp, List.range_succ, List.getD_eq_getElem?_getD, h]
theorem topicUp_all (ids : List ByteArray) (t : ByteArray) (ps : List Int) : topicUp ids t ps ids.length = topicSeq ids t ps := rfl
theorem rlo_succ (m n i : Nat) : rlo m n (i + 1) = rlo m n i + (m / n + (if i < m % n then 1 else 0)) := by
  unfold rlo
  rw [Nat.add_mul]
  split <;> omega
end Go.Proofs.YtghgffhcdnmpnaaGreat
