/-
  A struct laid into a row at whatever place; rows of shares; shares in the order of their topics.
-/
import Derived.Test.YtghgffhcdnmpnaaGreatC10
import Derived.Test.YtghgffhcdnmpnaaGreatR2
namespace Go.Proofs.YtghgffhcdnmpnaaGreat
open Go.RowKit Go.Sort

theorem run_storeCells_at {P : Program} (g off : Nat) (t : TypeId) : ∀ (vs : List Value) (i : Nat) (cur : Array Value) (w : World), w.heap[g]? = some (.cells cur t (0, 0)) → off + i + vs.length ≤ cur.size → (∀ v ∈ vs, v.oneCell' = true) →
    (storeCells ⟨g, off, none⟩ vs i).run P w = .ok () (w.setRow g (cur.toList.take (off + i) ++ (vs ++ cur.toList.drop (off + i + vs.length))).toArray)
  | [], i, cur, w, hg, hl, _ => by
    have hv : w.heap[g]? = some (.cells cur t (0, 0)) := hg
    simp only [storeCells, List.nil_append, List.length_nil, Nat.add_zero, List.take_append_drop, Array.toArray_toList]
    show Result.ok () w = _
    congr 1
    unfold World.setRow
    cases w with
    | mk heap tape drawn os output =>
      congr 1
      apply Array.ext_getElem?
      intro k
      rw [Array.getElem?_modify]
      split
      · rename_i hk
        subst hk
        have hv' : heap[g]? = some (.cells cur t (0, 0)) := hv
        rw [hv']
        rfl
      · rfl
  | v :: rest, i, cur, w, hg, hl, h1 => by
    have hi : off + i < cur.size := by simp at hl; omega
    have hadd : (⟨g, off, none⟩ : Addr).add i = ⟨g, off + i, none⟩ := by unfold Addr.add; split <;> simp_all
    have hcell : w.cell? ⟨g, off + i, none⟩ = some cur[off + i] := by simp [World.cell?, hg, hi]
    have hfro : w.frozen? ⟨g, off + i, none⟩ = false := by simp [World.frozen?, hg]
    have hst : (store ((⟨g, off, none⟩ : Addr).add i) v).run P w = .ok () (w.setRow g (cur.setIfInBounds (off + i) v)) := by
      rw [hadd, run_store P w _ v _ (h1 v (by simp)), hcell]
      simp [hfro, setCell_eq_setRow w g (off + i) cur t (0, 0) v hg]
    have ih := run_storeCells_at (P := P) g off t rest (i + 1) (cur.setIfInBounds (off + i) v) (w.setRow g (cur.setIfInBounds (off + i) v)) (setRow_heap w g cur _ t _ hg) (by simp at hl ⊢; omega) (fun x hx => h1 x (by simp [hx]))
    simp only [storeCells, Sem.run_bind, hst, Result.andThen_ok, ih, setRow_setRow]
    congr 3
    apply List.ext_getElem?
    intro k
    simp only [Array.toList_setIfInBounds, List.getElem?_append, List.length_take, List.length_set, Array.length_toList, List.length_cons, List.getElem?_take, List.getElem?_drop, List.getElem?_set, List.getElem?_cons]
    have e1 : min (off + (i + 1)) cur.size = off + i + 1 := by omega
    have e2 : min (off + i) cur.size = off + i := by omega
    rw [e1, e2]
    by_cases hk : k < off + i
    · have a1 : k < off + i + 1 := by omega
      have a2 : k < off + (i + 1) := by omega
      have a3 : ¬ off + i = k := by omega
      simp [hk, a1, a2, a3]
    · by_cases hk2 : k = off + i
      · subst hk2
        have a2 : off + i < off + (i + 1) := by omega
        simp [hi, a2]
      · have a1 : ¬ k < off + i + 1 := by omega
        have a3 : ¬ k - (off + i) = 0 := by omega
        have a4 : k - (off + i) - 1 = k - (off + i + 1) := by omega
        have a5 : (k - (off + i) < rest.length + 1) = (k - (off + i + 1) < rest.length) := by apply propext; omega
        simp only [hk, a1, a3, if_false, a4, a5]
        split
        · rfl
        · rename_i hr
          have a6 : ¬ off + i = off + (i + 1) + rest.length + (k - (off + i + 1) - rest.length) := by omega
          have a7 : off + (i + 1) + rest.length + (k - (off + i + 1) - rest.length) = off + i + (rest.length + 1) + (k - (off + i) - (rest.length + 1)) := by omega
          simp only [a6, if_false]
          rw [a7]

theorem flat_set {α β : Type} (f : α → List β) (s : Nat) (hf : ∀ x, (f x).length = s) (y : α) : ∀ (l : List α) (j : Nat), j < l.length → (l.set j y).flatMap f = (l.flatMap f).take (j * s) ++ (f y ++ (l.flatMap f).drop (j * s + s))
  | [], j, h => by simp at h
  | x :: l, 0, _ => by
    simp only [List.set_cons_zero, List.flatMap_cons, Nat.zero_mul, List.take_zero, List.nil_append, Nat.zero_add]
    rw [show s = (f x).length from (hf x).symm, List.drop_left]
  | x :: l, j + 1, h => by
    have ih := flat_set f s hf y l j (by simpa using h)
    have hx := hf x
    simp only [List.set_cons_succ, List.flatMap_cons]
    rw [ih, List.take_append, List.drop_append, hx]
    have a1 : (f x).take ((j + 1) * s) = f x := List.take_of_length_le (by rw [hx, Nat.add_mul]; omega)
    have a2 : (f x).drop ((j + 1) * s + s) = [] := List.drop_eq_nil_of_le (by rw [hx, Nat.add_mul]; omega)
    have a3 : (j + 1) * s - s = j * s := by rw [Nat.add_mul]; omega
    have a4 : (j + 1) * s + s - s = j * s + s := by rw [Nat.add_mul]; omega
    rw [a1, a2, a3, a4, List.nil_append, List.append_assoc]

/-! ### Rows of shares -/
def shFlat (l : List (Sh × Value)) : List Value := l.flatMap shCells
theorem sh_len (p : Sh × Value) : (shCells p).length = 3 := rfl
theorem shFlat_len (l : List (Sh × Value)) : (shFlat l).length = l.length * 3 := flat_len shCells 3 sh_len l

/-- A share is laid into a row. -/
theorem own_store3 {P : Program} (hi : (P.info? 53).map (·.size) = some 3) {w : World} {base g n cap j : Nat} {l : List (Sh × Value)} (y : Sh × Value) (hy : y.2.oneCell' = true) (h : w.ownsRow base 53 3 (.slice (some ⟨g, 0, none⟩) n cap) n (shFlat l)) (hj : j < n) :
    ∃ w', (storeVar 53 ⟨g, j * 3, none⟩ (.agg (shCells y).toArray)).run P w = .ok () w' ∧ w'.ownsRow base 53 3 (.slice (some ⟨g, 0, none⟩) n cap) n (shFlat (l.set j y)) ∧ Kept [g] w w' := by
  have hln : l.length = n := by have := h.1; rw [shFlat_len] at this; omega
  rcases h.2 with ⟨e0, _⟩ | ⟨g', cap', cur, e0, hb, hg, hn, hm, hs, ht⟩
  · cases e0
  · injection e0 with e1 _ e3
    injection e1 with e1
    injection e1 with e1
    subst e1; subst e3
    have hfit : j * 3 + 0 + (shCells y).length ≤ cur.size := by rw [hs, sh_len]; omega
    have hst := run_storeCells_at (P := P) g (j * 3) 53 (shCells y) 0 cur w hg hfit (fun v hv => by
      simp only [shCells, List.mem_cons, List.not_mem_nil, or_false] at hv
      rcases hv with rfl | rfl | rfl
      · rfl
      · rfl
      · exact hy)
    have hc3 : (shCells y).toArray.size = 3 := rfl
    obtain ⟨new, hnew⟩ : ∃ new, (cur.toList.take (j * 3 + 0) ++ (shCells y ++ cur.toList.drop (j * 3 + 0 + (shCells y).length))).toArray = new := ⟨_, rfl⟩
    rw [hnew] at hst
    refine ⟨w.setRow g new, ?_, ⟨?_, .inr ⟨g, cap, new, rfl, hb, setRow_heap w g cur new 53 _ hg, hn, hm, ?_, ?_⟩⟩, (Kept.refl _ _).setRow (.inl (by simp)) _⟩
    · cases hq : P.info? 53 with
      | none => simp [hq] at hi
      | some i =>
        have hs3 : i.size = 3 := by simpa [hq] using hi
        simp [storeVar, Sem.run_bind, sizeOf, typeInfo, hq, hs3, Value.cells, hst, hc3]
    · rw [shFlat_len, List.length_set]; omega
    · rw [← hnew]
      simp only [List.size_toArray, List.length_append, List.length_take, List.length_drop, Array.length_toList, sh_len]
      omega
    · have hfl := flat_set shCells 3 sh_len y l j (by omega)
      unfold shFlat
      rw [hfl]
      have hl3 : cur.toList.take (n * 3) = l.flatMap shCells := ht
      rw [← hl3, ← hnew]
      apply List.ext_getElem?
      intro k
      simp only [List.getElem?_append, List.getElem?_take, List.getElem?_drop, List.length_take, Array.length_toList, sh_len]
      have e1 : min (j * 3 + 0) cur.size = j * 3 := by omega
      have e2 : min (j * 3) (min (n * 3) cur.size) = j * 3 := by omega
      rw [e1, e2]
      by_cases hk : k < n * 3
      · by_cases hk1 : k < j * 3
        · simp [hk, hk1]
        · by_cases hk2 : k - j * 3 < 3
          · simp [hk, hk1, hk2]
          · have a1 : j * 3 + 3 + (k - j * 3 - 3) = k := by omega
            simp [hk, hk1, hk2, a1]
      · have hk1 : ¬ k < j * 3 := by omega
        have hk2 : ¬ k - j * 3 < 3 := by omega
        have a1 : j * 3 + 3 + (k - j * 3 - 3) = k := by omega
        simp [hk, hk1, hk2, a1]

theorem own_cells3 {w : World} {base g n cap : Nat} {l : List (Sh × Value)} (h : w.ownsRow base 53 3 (.slice (some ⟨g, 0, none⟩) n cap) n (shFlat l)) {j : Nat} {x : Sh × Value} (hj : l[j]? = some x) : ∀ i v, (shCells x)[i]? = some v → w.cell? ⟨g, j * 3 + i, none⟩ = some v := by
  intro i v hv
  have hi : i < 3 := by have := (List.getElem?_eq_some_iff.1 hv).1; rwa [sh_len] at this
  have hf := flat_get shCells 3 sh_len (by decide) l j i hi
  rw [hj] at hf
  have hf' : (shFlat l)[j * 3 + i]? = some v := hf.trans hv
  have := h.cells (g := g) rfl (j * 3 + i) v hf'
  have hadd : (⟨g, 0, none⟩ : Addr).add (j * 3 + i) = ⟨g, j * 3 + i, none⟩ := by unfold Addr.add; split <;> simp_all
  rwa [hadd] at this
end Go.Proofs.YtghgffhcdnmpnaaGreat
