/-
  A struct laid into a row at whatever place; rows of shares; shares in the order of their topics.
-/
import Derived.Test.YtghgffhcdnmpnaaGreatZC9
import Derived.Test.YtghgffhcdnmpnaaGreatZB0
namespace Go.Proofs.YtghgffhcdnmpnaaGreat
open Go.RowKit Go.Sort

theorem run_storeCells_at {P : Program} (g off : Nat) (t : TypeId) : ∀ (vs : List Value) (i : Nat) (cur : Array Value) (w : World), w.heap[g]? = some (.cells cur t (0, 0)) → off + i + vs.length ≤ cur.size → (∀ v ∈ vs, v.oneCell' = true) →
    (storeCells ⟨g, off, none⟩ vs i).run P w = .ok () (w.setRow g (cur.toList.take (off + i) ++ (vs ++ cur.toList.drop (off + i + vs.length))).toArray)
  | [], i, cur, w, hg, hl, _ => by
    have hv : w.heap[g]? = some (.cells cur t (0, 0)) := hg
    simp only [storeCells, List.nil_append, List.length_nil, Nat.add_zero, List.take_append_drop, Array.toArray_toList]
    show Result.ok () w = _
    congr 1
    unfold World.setRow
    cases w with
    | mk heap tape drawn os output =>
      congr 1
      apply Array.ext_getElem?
      intro k
      rw [Array.getElem?_modify]
      split
      · rename_i hk
        subst hk
        have hv' : heap[g]? = some (.cells cur t (0, 0)) := hv
        rw [hv']
        rfl
      · rfl
  | v :: rest, i, cur, w, hg, hl, h1 => by
    have hi : off + i < cur.size := by simp at hl; omega
    have hadd : (⟨g, off, none⟩ : Addr).add i = ⟨g, off + i, none⟩ := by unfold Addr.add; split <;> simp_all
    have hcell : w.cell? ⟨g, off + i, none⟩ = some cur[off + i] := by simp [World.cell?, hg, hi]
    have hfro : w.frozen? ⟨g, off + i, none⟩ = false := by simp [World.frozen?, hg]
    have hst : (store ((⟨g, off, none⟩ : Addr).add i) v).run P w = .ok () (w.setRow g (cur.setIfInBounds (off + i) v)) := by
      rw [hadd, run_store P w _ v _ (h1 v (by simp)), hcell]
      simp [hfro, setCell_eq_setRow w g (off + i) cur t (0, 0) v hg]
    have ih := run_storeCells_at (P := P) g off t rest (i + 1) (cur.setIfInBounds (off + i) v) (w.setRow g (cur.setIfInBounds (off + i) v)) (setRow_heap w g cur _ t _ hg) (by simp at hl ⊢; omega) (fun x hx => h1 x (by simp [hx]))
    simp only [storeCells, Sem.run_bind, hst, Result.andThen_ok, ih, setRow_setRow]
    congr 3
    apply List.ext_getElem?
    intro k
    simp only [Array.toList_setIfInBounds, List.getElem?_append, List.length_take, List.length_set, Array.length_toList, List.length_cons, List.getElem?_take, List.getElem?_drop, List.getElem?_set, List.getElem?_cons]
    have e1 : min (off + (i + 1)) cur.size = off + i + 1 := by omega
    have e2 : min (off + i) cur.size = off + i := by omega
    rw [e1, e2]
    by_cases hk : k < off + i
    · have a1 : k < off + i + 1 := by omega
      have a2 : k < off + (i + 1) := by omega
      have a3 : ¬ off + i = k := by omega
      simp [hk, a1, a2, a3]
    · by_cases hk2 : k = off + i
      · subst hk2
        have a2 : off + i < off + (i + 1) := by omega
        simp [hi, a2]
      · have a1 : ¬ k < off + i + 1 := by omega
        have a3 : ¬ k - (off + i) = 0 := by omega
        have a4 : k - (off + i) - 1 = k - (off + i + 1) := by omega
        have a5 : (k - (off + i) < rest.length + 1) = (k - (off + i + 1) < rest.length) := by apply propext; omega
        simp only [hk, a1, a3, if_false, a4, a5]
        split
        · rfl
        · rename_i hr
          have a6 : ¬ off + i = off + (i + 1) + rest.length + (k - (off + i + 1) - rest.length) := by omega
          have a7 : off + (i + 1) + rest.length + (k - (off + i + 1) - rest.length) = off + i + (rest.length + 1) + (k - (off + i) - (rest.length + 1)) := by omega
          simp only [a6, if_false]
          rw [a7]

theorem flat_set {α β : Type} (f : α → List β) (s : Nat) (hf : ∀ x, (f x).length = s) (y : α) : ∀ (l : List α) (j : Nat), j < l.length → (l.set j y).flatMap f = (l.flatMap f).take (j * s) ++ (f y ++ (l.flatMap f).drop (j * s + s))
  | [], j, h => by simp at h
  | x :: l, 0, _ => by
    simp only [List.set_cons_zero, List.flatMap_cons, Nat.zero_mul, List.take_zero, List.nil_append, Nat.zero_add]
    rw [show s = (f x).length from (hf x).symm, List.drop_left]
  | x :: l, j + 1, h => by
    have ih := flat_set f s hf y l j (by simpa using h)
    have hx := hf x
    simp only [List.set_cons_succ, List.flatMap_cons]
    rw [ih, List.take_append, List.drop_append, hx]
    have a1 : (f x).take ((j + 1) * s) = f x := List.take_of_length_le (by rw [hx, Nat.add_mul]; omega)
    have a2 : (f x).drop ((j + 1) * s + s) = [] := List.drop_eq_nil_of_le (by rw [hx, Nat.add_mul]; omega)
    have a3 : (j + 1) * s - s = j * s := by rw [Nat.add_mul]; omega
    have a4 : (j + 1) * s + s - s = j * s + s := by rw [Nat.add_mul]; omega
    rw [a1, a2, a3, a4, List.nil_append, List.append_assoc]

/-! ### Rows of shares -/
def shFlat (l : List (Sh × Value)) : List Value := l.flatMap shCells
theorem sh_len (p : Sh × Value) : (shCells p).length = 3 := rfl
theorem shFlat_len (l : List (Sh × Value)) : (shFlat l).length = l.length * 3 := flat_len shCells 3 sh_len l

/-- A share is laid into a row. -/
theorem own_store3 {P : Program} (hi : (P.info? 53).map (·.size) = some 3) {w : World} {base g n cap j : Nat} {l : List (Sh × Value)} (y : Sh × Value) (hy : y.2.oneCell' = true) (h : w.ownsRow base 53 3 (.slice (some ⟨g, 0, none⟩) n cap) n (shFlat l)) (hj : j < n) :
    ∃ w', (storeVar 53 ⟨g, j * 3, none⟩ (.agg (shCells y).toArray)).run P w = .ok () w' ∧ w'.ownsRow base 53 3 (.slice (some ⟨g, 0, none⟩) n cap) n (shFlat (l.set j y)) ∧ Kept [g] w w' := by
  have hln : l.length = n := by have := h.1; rw [shFlat_len] at this; omega
  rcases h.2 with ⟨e0, _⟩ | ⟨g', cap', cur, e0, hb, hg, hn, hm, hs, ht⟩
  · cases e0
  · injection e0 with e1 _ e3
    injection e1 with e1
    injection e1 with e1
    subst e1; subst e3
    have hfit : j * 3 + 0 + (shCells y).length ≤ cur.size := by rw [hs, sh_len]; omega
    have hst := run_storeCells_at (P := P) g (j * 3) 53 (shCells y) 0 cur w hg hfit (fun v hv => by
      simp only [shCells, List.mem_cons, List.not_mem_nil, or_false] at hv
      rcases hv with rfl | rfl | rfl
      · rfl
      · rfl
      · exact hy)
    have hc3 : (shCells y).toArray.size = 3 := rfl
    obtain ⟨new, hnew⟩ : ∃ new, (cur.toList.take (j * 3 + 0) ++ (shCells y ++ cur.toList.drop (j * 3 + 0 + (shCells y).length))).toArray = new := ⟨_, rfl⟩
    rw [hnew] at hst
    refine ⟨w.setRow g new, ?_, ⟨?_, .inr ⟨g, cap, new, rfl, hb, setRow_heap w g cur new 53 _ hg, hn, hm, ?_, ?_⟩⟩, (Kept.refl _ _).setRow (.inl (by simp)) _⟩
    · cases hq : P.info? 53 with
      | none => simp [hq] at hi
      | some i =>
        have hs3 : i.size = 3 := by simpa [hq] using hi
        simp [storeVar, Sem.run_bind, sizeOf, typeInfo, hq, hs3, Value.cells, hst, hc3]
    · rw [shFlat_len, List.length_set]; omega
    · rw [← hnew]
      simp only [List.size_toArray, List.length_append, List.length_take, List.length_drop, Array.length_toList, sh_len]
      omega
    · have hfl := flat_set shCells 3 sh_len y l j (by omega)
      unfold shFlat
      rw [hfl]
      have hl3 : cur.toList.take (n * 3) = l.flatMap shCells := ht
      rw [← hl3, ← hnew]
      apply List.ext_getElem?
      intro k
      simp only [List.getElem?_append, List.getElem?_take, List.getElem?_drop, List.length_take, Array.length_toList, sh_len]
      have e1 : min (j * 3 + 0) cur.size = j * 3 := by omega
      have e2 : min (j * 3) (min (n * 3) cur.size) = j * 3 := by omega
      rw [e1, e2]
      by_cases hk : k < n * 3
      · by_cases hk1 : k < j * 3
        · simp [hk, hk1]
        · by_cases hk2 : k - j * 3 < 3
          · simp [hk, hk1, hk2]
          · have a1 : j * 3 + 3 + (k - j * 3 - 3) = k := by omega
            simp [hk, hk1, hk2, a1]
      · have hk1 : ¬ k < j * 3 := by omega
        have hk2 : ¬ k - j * 3 < 3 := by omega
        have a1 : j * 3 + 3 + (k - j * 3 - 3) = k := by omega
        simp [hk, hk1, hk2, a1]

theorem own_cells3 {w : World} {base g n cap : Nat} {l : List (Sh × Value)} (h : w.ownsRow base 53 3 (.slice (some ⟨g, 0, none⟩) n cap) n (shFlat l)) {j : Nat} {x : Sh × Value} (hj : l[j]? = some x) : ∀ i v, (shCells x)[i]? = some v → w.cell? ⟨g, j * 3 + i, none⟩ = some v := by
  intro i v hv
  have hi : i < 3 := by have := (List.getElem?_eq_some_iff.1 hv).1; rwa [sh_len] at this
  have hf := flat_get shCells 3 sh_len (by decide) l j i hi
  rw [hj] at hf
  have hf' : (shFlat l)[j * 3 + i]? = some v := hf.trans hv
  have := h.cells (g := g) rfl (j * 3 + i) v hf'
  have hadd : (⟨g, 0, none⟩ : Addr).add (j * 3 + i) = ⟨g, j * 3 + i, none⟩ := by unfold Addr.add; split <;> simp_all
  rwa [hadd] at this
end Go.Proofs.YtghgffhcdnmpnaaGreat
/-
  The insertion sort of shares by their topics. Condition: a million at most.
-/
namespace Go.Proofs.YtghgffhcdnmpnaaGreat
open Go.RowKit Go.Sort

theorem wanted_of {o : Oper} {ops : Array Oper} {tmps : Array Value} {j : Nat} {d : Tmp} {b want : Bool} {oj : Oper} (hg : o.guard = some (j, want)) (hj : ops[j]? = some oj) (hd : oj.dst = some d) (h : tmps[d]?.getD undef = .bool b) : Region.wanted o (yielded ops tmps) = (some b == some want) := by
  simp only [Region.wanted, hg]
  rw [yielded_of hj hd h]
def tlt (p q : Sh × Value) : Prop := bl p.1.top < bl q.1.top
def tle (p q : Sh × Value) : Prop := sle p.1.top q.1.top = true
theorem tle_of_not {p q : Sh × Value} (h : ¬ tlt q p) : tle p q := by
  simp only [tle, sle, decide_eq_true_eq]
  exact List.not_lt.1 h
theorem tle_of_lt {p q : Sh × Value} (h : tlt p q) : tle p q := by
  simp only [tle, sle, decide_eq_true_eq]
  exact List.le_of_lt h
theorem tle_trans {p q r : Sh × Value} (h : tle p q) (k : tle q r) : tle p r := sle_trans _ _ _ h k
theorem ins_done {A B : List (Sh × Value)} {x : Sh × Value} (h : (A ++ B).Pairwise tle) (hB : ∀ b ∈ B, tlt x b) (hA : A = [] ∨ ∃ A' y, A = A' ++ [y] ∧ ¬ tlt x y) : (A ++ x :: B).Pairwise tle := by
  rw [List.pairwise_append] at h ⊢
  obtain ⟨h1, h2, h3⟩ := h
  have hAx : ∀ a ∈ A, tle a x := by
    rcases hA with rfl | ⟨A', y, rfl, hxy⟩
    · simp
    · intro a ha
      rcases List.mem_append.1 ha with ha | ha
      · rw [List.pairwise_append] at h1
        exact tle_trans (h1.2.2 a ha y (by simp)) (tle_of_not hxy)
      · have : a = y := by simpa using ha
        subst this
        exact tle_of_not hxy
  refine ⟨h1, List.pairwise_cons.2 ⟨fun b hb => tle_of_lt (hB b hb), h2⟩, fun a ha b hb => ?_⟩
  rcases List.mem_cons.1 hb with rfl | hb
  · exact hAx a ha
  · exact h3 a ha b hb
set_option maxRecDepth 100000 in
set_option maxHeartbeats 800000 in
theorem cmp_any (x y : Sh × Value) (w : World) :
    Calls Tryz.prog 68 #[.agg #[.string x.1.mem, .string x.1.top, x.2], .agg #[.string y.1.mem, .string y.1.top, y.2]] w fun e w' => ∃ r : Int, e = .returned (.int .i64 r) ∧ (r < 0 ↔ bl x.1.top < bl y.1.top) ∧ Kept [] w w' := by
  have hbl : Op.bytesLess x.1.top.toList y.1.top.toList = decide (bl x.1.top < bl y.1.top) := by
    rw [bytesLess_eq, ByteArray.toList_eq, ByteArray.toList_eq]
    rfl
  have HBL := Lib.hid hbl
  clear hbl
  go_enter Tryz.func68, Tryz.ntmps68
  go_wp2
  · rename_i h
    rw [HBL.out] at h
    refine bodyPost_ret (results_tmp rfl _ _ _) rfl ⟨-1, rfl, by simpa using h, ((Kept.refl _ _).alloc _).alloc _⟩
  · rename_i h _
    rw [HBL.out] at h
    refine bodyPost_ret (results_tmp rfl _ _ _) rfl ⟨1, rfl, by simpa using h, ((Kept.refl _ _).alloc _).alloc _⟩
  · rename_i h _
    rw [HBL.out] at h
    refine bodyPost_ret (results_tmp rfl _ _ _) rfl ⟨0, rfl, by simpa using h, ((Kept.refl _ _).alloc _).alloc _⟩
def isF (g n cap j : Nat) (x y : Sh × Value) (ix : Nat) (v : Value) (_ : World) : Prop :=
  match ix with
  | 0 => v = .int .i64 ((j : Int) + 1)
  | 1 => v = .int .i64 0
  | 2 => v = .bool true
  | 3 => v = .bool true
  | 4 => v = .func (.func 68) #[] #[]
  | 5 => v = .slice (some ⟨g, 0, none⟩) n cap
  | 6 => v = .int .i64 ((j : Int) + 1)
  | 7 => v = .pointer (some ⟨g, (j + 1) * 3, none⟩)
  | 8 => v = .agg #[.string x.1.mem, .string x.1.top, x.2]
  | 9 => v = .slice (some ⟨g, 0, none⟩) n cap
  | 10 => v = .int .i64 ((j : Int) + 1)
  | 11 => v = .int .i64 j
  | 12 => v = .pointer (some ⟨g, j * 3, none⟩)
  | 13 => v = .agg #[.string y.1.mem, .string y.1.top, y.2]
  | 14 => ∃ r : Int, v = .int .i64 r ∧ (r < 0 ↔ bl x.1.top < bl y.1.top)
  | 15 => v = .bool (decide (bl x.1.top < bl y.1.top))
  | _ => True
theorem isF_stable {g n cap j x y} : ∀ ix v w w', isF g n cap j x y ix v w → Kept [] w w' → isF g n cap j x y ix v w' := by
  intro ix v w w' h k
  unfold isF at h ⊢
  split at h <;> (first | (exact h))
def isZ  (ix : Nat) (v : Value) (_ : World) : Prop :=
  match ix with
  | 0 => v = .int .i64 0
  | 1 => v = .int .i64 0
  | 2 => v = .bool false
  | 3 => v = .bool false
  | _ => True
theorem isZ_stable  : ∀ ix v w w', isZ ix v w → Kept [] w w' → isZ ix v w' := by
  intro ix v w w' h k
  unfold isZ at h ⊢
  split at h <;> (first | (exact h))
def isS (g n cap j : Nat) (x y : Sh × Value) (l2 : List (Sh × Value)) (ix : Nat) (v : Value) (W : World) : Prop :=
  match ix with
  | 0 => v = .slice (some ⟨g, 0, none⟩) n cap
  | 1 => v = .int .i64 ((j : Int) + 1)
  | 2 => v = .slice (some ⟨g, 0, none⟩) n cap
  | 3 => v = .int .i64 ((j : Int) + 1)
  | 4 => v = .int .i64 j
  | 5 => v = .slice (some ⟨g, 0, none⟩) n cap
  | 6 => v = .int .i64 ((j : Int) + 1)
  | 7 => v = .int .i64 j
  | 8 => v = .pointer (some ⟨g, j * 3, none⟩)
  | 9 => v = .agg #[.string y.1.mem, .string y.1.top, y.2]
  | 10 => v = .slice (some ⟨g, 0, none⟩) n cap
  | 11 => v = .int .i64 ((j : Int) + 1)
  | 12 => v = .pointer (some ⟨g, (j + 1) * 3, none⟩)
  | 13 => v = .agg #[.string x.1.mem, .string x.1.top, x.2]
  | 14 => v = .pointer (some ⟨g, (j + 1) * 3, none⟩)
  | 15 => W.ownsRow 0 53 3 (.slice (some ⟨g, 0, none⟩) n cap) n (shFlat (l2.set (j + 1) y))
  | 16 => v = .pointer (some ⟨g, j * 3, none⟩)
  | _ => True

def isE (g : Nat) (i : Nat) (a b : World) : Prop := Kept (match i with | 15 => [g] | _ => []) a b
theorem isE_R {g i : Nat} {a b c : World} (h : Kept [g] a b) (k : isE g i b c) : Kept [g] a c := by
  unfold isE at k
  split at k
  · exact h.trans k (fun x hx => .inl hx)
  · exact h.trans0 k
theorem isS_stable {g n cap j x y l2} : ∀ i jx v w w', i ≠ jx → isS g n cap j x y l2 jx v w → isE g i w w' → isS g n cap j x y l2 jx v w' := by
  intro i jx v w w' hij h hk
  unfold isS at h ⊢
  split at h <;> (first | (exact h) | skip)
  unfold isE at hk
  split at hk
  · exact absurd rfl hij
  · exact own_kept0 h hk
def isPre (g n cap : Nat) (l2 : List (Sh × Value)) (i : Nat) (w : World) : Prop := (i = 9 ∨ i = 13 ∨ i = 15) → w.ownsRow 0 53 3 (.slice (some ⟨g, 0, none⟩) n cap) n (shFlat l2)
theorem ow_store3 {P : Program} {o : Oper} {a : Act} {w w' : World} {Q : Exit → Act → World → Prop} {K : Act → World → Prop} (ty : TypeId) (x y : Operand) (ho : o.op = .store ty x y) {cs : Array Value} (g off : Nat) (hx : a.eval x = .pointer (some ⟨g, off, none⟩)) (hy : a.eval y = .agg cs)
    (hrun : (storeVar ty ⟨g, off, none⟩ (.agg cs)).run P w = .ok () w') (h : K (a.put o.dst undef) w') : o.wp P a w K Q := by
  unfold Oper.wp execOp
  simp only [ho, hx, hy, Instr.storeAt, Instr.sureAddr, Sem.run_bind, Sem.run_pure, Result.andThen_ok, hrun]
  exact h
theorem wl_store3 {P : Program} {ops : Array Oper} {rest : List Oper} {o : Oper} {a : Act} {w w' : World} {Q : Exit → Act → World → Prop} (hgd : o.guard = none) (ty : TypeId) (x y : Operand) (ho : o.op = .store ty x y) {cs : Array Value} (g off : Nat) (hx : a.eval x = .pointer (some ⟨g, off, none⟩)) (hy : a.eval y = .agg cs)
    (hrun : (storeVar ty ⟨g, off, none⟩ (.agg cs)).run P w = .ok () w') (h : wpList P ops Q rest (a.put o.dst undef) w') : wpList P ops Q (o :: rest) a w :=
  wpList_plain hgd fun _ hK => ow_store3 ty x y ho g off hx hy hrun (hK _ _ h)

set_option maxRecDepth 100000 in
set_option maxHeartbeats 3200000 in
/-- The insertion sort of shares by their topics. -/
theorem insShare_own (g n cap : Nat) (l : List (Sh × Value)) (w : World) (h : w.ownsRow 0 53 3 (.slice (some ⟨g, 0, none⟩) n cap) n (shFlat l)) (h1 : ∀ p ∈ l, p.2.oneCell' = true) (hn : n ≤ 1000000) :
    Calls Tryz.prog 97 #[.slice (some ⟨g, 0, none⟩) n cap, .int .i64 0, .int .i64 n, .func (.func 68) #[] #[]] w fun e w' => e = .returned (.tuple #[]) ∧ ∃ l', l'.Perm l ∧ l'.Pairwise tle ∧ w'.ownsRow 0 53 3 (.slice (some ⟨g, 0, none⟩) n cap) n (shFlat l') ∧ Kept [g] w w' := by
  have hln : l.length = n := by have := h.1; rw [shFlat_len] at this; omega
  have HO := Lib.hid h
  have H1 := Lib.hid h1
  clear h h1
  go_enter Tryz.func97, Tryz.ntmps97
  go_wp2
  go_loopg [8] n (fun k x wr => ∃ i l1, k = n - i ∧ x = .int .i64 ((i : Int) + 1) ∧ l1.Perm l ∧ (l1.take (i + 1)).Pairwise tle ∧ wr.ownsRow 0 53 3 (.slice (some ⟨g, 0, none⟩) n cap) n (shFlat l1) ∧ Kept [g] w wr)
  case atStart =>
    refine ⟨0, l, rfl, rfl, List.Perm.refl _, ?_, HO.out, Kept.refl _ _⟩
    cases l with
    | nil => simp
    | cons x r => simp
  case round =>
    obtain ⟨i, l1, hk, rfl, hp1, hs1, ho1, hk1⟩ := hrel
    have hl1 : l1.length = n := hp1.length_eq.trans hln
    have HP1 := Lib.hid hp1
    have HS1 := Lib.hid hs1
    have HO1 := Lib.hid ho1
    have HK1 := Lib.hid hk1
    clear hp1 hs1 ho1 hk1
    by_cases hlt : i + 1 < n
    · have hlt' : (i : Int) + 1 < (n : Int) := by omega
      go_wp2
      go_loopg [9] (i + 1) (fun k v wr => ∃ (A : List (Sh × Value)) (x : Sh × Value) (B C : List (Sh × Value)), k = A.length ∧ v = .int .i64 A.length ∧ A.length + B.length = i + 1 ∧ (A ++ x :: (B ++ C)).Perm l ∧ (A ++ B).Pairwise tle ∧ (∀ b ∈ B, tlt x b) ∧ wr.ownsRow 0 53 3 (.slice (some ⟨g, 0, none⟩) n cap) n (shFlat (A ++ x :: (B ++ C))) ∧ Kept [g] w wr)
      case atStart =>
        obtain ⟨x, hx⟩ : ∃ x, l1[i + 1]? = some x := ⟨_, List.getElem?_eq_getElem (by omega)⟩
        have hsplit : l1.take (i + 1) ++ x :: ([] ++ l1.drop (i + 2)) = l1 := by
          rw [List.nil_append, show x :: l1.drop (i + 2) = l1.drop (i + 1) from ?_, List.take_append_drop]
          rw [List.drop_eq_getElem_cons (l := l1) (i := i + 1) (by omega)]
          rw [List.getElem?_eq_getElem (by omega)] at hx
          rw [Option.some.inj hx]
        have hlen : (l1.take (i + 1)).length = i + 1 := by rw [List.length_take]; omega
        refine ⟨l1.take (i + 1), x, [], l1.drop (i + 2), hlen.symm, by rw [hlen]; rfl, by simp [hlen], by rw [hsplit]; exact HP1.out, by rw [List.append_nil]; exact HS1.out, by simp, by rw [hsplit]; exact HO1.out, HK1.out⟩
      case round =>
        obtain ⟨A, x, B, C, hk2, rfl, hAB, hp2, hs2, hB2, ho2, hk3⟩ := hrel
        have HP2 := Lib.hid hp2
        have HS2 := Lib.hid hs2
        have HB2 := Lib.hid hB2
        have HO2 := Lib.hid ho2
        have HK3 := Lib.hid hk3
        clear hp2 hs2 hB2 ho2 hk3
        have hpl : (A ++ x :: (B ++ C)).length = n := HP2.out.length_eq.trans hln
        have hAl : A.length ≤ i + 1 := by omega
        have next : (A ++ x :: B).Pairwise tle → ((A ++ x :: (B ++ C)).take (i + 1 + 1)).Pairwise tle := by
          intro h
          have h2 : (A ++ x :: (B ++ C)).take (i + 1 + 1) = A ++ x :: B := by
            rw [show A ++ x :: (B ++ C) = (A ++ x :: B) ++ C by simp, List.take_append_of_le_length (by simp; omega), List.take_of_length_le (by simp; omega)]
          rw [h2]
          exact h
        have NEXT := Lib.hid next
        clear next
        rcases List.eq_nil_or_concat A with rfl | ⟨A', y, rfl⟩
        · have hz : Value.int IntKind.i64 ((([] : List (Sh × Value)).length : Nat) : Int) = Value.int .i64 0 := rfl
          rw [hz]
          have hfin : ((x :: (B ++ C)).take (i + 1 + 1)).Pairwise tle := NEXT.out (ins_done HS2.out HB2.out (.inl rfl))
          have HFIN := Lib.hid hfin
          clear hfin
          go_wp2
          refine wp_region_gd' 16 (Kept []) (fun _ => Kept []) (fun _ _ => True) isZ mixed (by kernel_rfl) ((Kept.refl _ _).drew) (fun _ _ _ _ h k => h.trans0 k) (fun _ _ => trivial) (fun _ j v w w' _ h k => isZ_stable j v w w' h k) (fun _ _ _ _ _ _ _ _ => trivial) ?_ ?_
          · refine ⟨?_, ?_, ?_, ?_, ?_, ?_, ?_, ?_, ?_, ?_, ?_, ?_, ?_, ?_, ?_, ?_, trivial⟩
            all_goals go_light
            all_goals intro a W hR hpre hs hd
            all_goals have p9 : a.tmps[9]? = some (.int .i64 0) := hs.2.2 9 (by decide)
            all_goals have p1 : a.tmps[1]? = some (.int .i64 0) := hs.2.2 1 (by decide)
            all_goals have hRr : Kept [] W W := Kept.refl [] W
            · refine ⟨fun _ => ?_, fun hw => Bool.noConfusion (show true = false from hw)⟩
              refine ow_value (w' := W) (v := .int .i64 0) ?_ (.mk hRr rfl rfl)
              simp [go_sem, p9]
            · refine ⟨fun _ => ?_, fun hw => Bool.noConfusion (show true = false from hw)⟩
              refine ow_value (w' := W) (v := .int .i64 0) ?_ (.mk hRr rfl rfl)
              simp [go_sem, p1]
            · have q0 : _ = _ := hd.1 rfl
              have q1 : _ = _ := hd.2.1 rfl
              refine ⟨fun _ => ?_, fun hw => Bool.noConfusion (show true = false from hw)⟩
              refine ow_value (w' := W) (v := .bool false) ?_ (.mk hRr rfl rfl)
              simp [go_sem, q0, q1]
            · have q2 : _ = _ := hd.1 rfl
              refine ⟨fun _ => ?_, fun hw => Bool.noConfusion (show true = false from hw)⟩
              refine ow_value (w' := W) (v := .bool false) ?_ (.mk hRr rfl rfl)
              simp [go_sem, q2]
            · have q3 : _ = _ := hd.1 rfl
              exact ⟨fun hw => absurd (hw.symm.trans (wanted_of rfl rfl rfl q3)) (by decide), fun _ => ⟨Kept.refl _ _, trivial⟩⟩
            · have q3 : _ = _ := hd.1 rfl
              exact ⟨fun hw => absurd (hw.symm.trans (wanted_of rfl rfl rfl q3)) (by decide), fun _ => ⟨Kept.refl _ _, trivial⟩⟩
            · have q3 : _ = _ := hd.1 rfl
              exact ⟨fun hw => absurd (hw.symm.trans (wanted_of rfl rfl rfl q3)) (by decide), fun _ => ⟨Kept.refl _ _, trivial⟩⟩
            · have q3 : _ = _ := hd.2.2.1 rfl
              exact ⟨fun hw => absurd (hw.symm.trans (wanted_of rfl rfl rfl q3)) (by decide), fun _ => ⟨Kept.refl _ _, trivial⟩⟩
            · have q3 : _ = _ := hd.2.1 rfl
              exact ⟨fun hw => absurd (hw.symm.trans (wanted_of rfl rfl rfl q3)) (by decide), fun _ => ⟨Kept.refl _ _, trivial⟩⟩
            · have q3 : _ = _ := hd.1 rfl
              exact ⟨fun hw => absurd (hw.symm.trans (wanted_of rfl rfl rfl q3)) (by decide), fun _ => ⟨Kept.refl _ _, trivial⟩⟩
            · have q3 : _ = _ := hd.1 rfl
              exact ⟨fun hw => absurd (hw.symm.trans (wanted_of rfl rfl rfl q3)) (by decide), fun _ => ⟨Kept.refl _ _, trivial⟩⟩
            · have q3 : _ = _ := hd.2.1 rfl
              exact ⟨fun hw => absurd (hw.symm.trans (wanted_of rfl rfl rfl q3)) (by decide), fun _ => ⟨Kept.refl _ _, trivial⟩⟩
            · have q3 : _ = _ := hd.2.2.1 rfl
              exact ⟨fun hw => absurd (hw.symm.trans (wanted_of rfl rfl rfl q3)) (by decide), fun _ => ⟨Kept.refl _ _, trivial⟩⟩
            · have q3 : _ = _ := hd.2.1 rfl
              exact ⟨fun hw => absurd (hw.symm.trans (wanted_of rfl rfl rfl q3)) (by decide), fun _ => ⟨Kept.refl _ _, trivial⟩⟩
            · have q3 : _ = _ := hd.2.2.2.2.1 rfl
              exact ⟨fun hw => absurd (hw.symm.trans (wanted_of rfl rfl rfl q3)) (by decide), fun _ => ⟨Kept.refl _ _, trivial⟩⟩
            · have q3 : _ = _ := hd.2.1 rfl
              exact ⟨fun hw => absurd (hw.symm.trans (wanted_of rfl rfl rfl q3)) (by decide), fun _ => ⟨Kept.refl _ _, trivial⟩⟩
          · intro f W hR hf
            obtain ⟨f0, f1, f2, f3, f4, f5, f6, f7, f8, f9, f10, f11, f12, f13, f14, f15, -⟩ := hf
            change f 18 = _ at f0
            change f 19 = _ at f1
            change f 20 = _ at f2
            change f 21 = _ at f3
            clear f4
            obtain ⟨x4, f4⟩ : ∃ x, f 22 = x := ⟨_, rfl⟩
            clear f5
            obtain ⟨x5, f5⟩ : ∃ x, f 23 = x := ⟨_, rfl⟩
            clear f6
            obtain ⟨x6, f6⟩ : ∃ x, f 24 = x := ⟨_, rfl⟩
            clear f7
            obtain ⟨x7, f7⟩ : ∃ x, f 25 = x := ⟨_, rfl⟩
            clear f8
            obtain ⟨x8, f8⟩ : ∃ x, f 26 = x := ⟨_, rfl⟩
            clear f9
            obtain ⟨x9, f9⟩ : ∃ x, f 27 = x := ⟨_, rfl⟩
            clear f10
            obtain ⟨x10, f10⟩ : ∃ x, f 28 = x := ⟨_, rfl⟩
            clear f11
            obtain ⟨x11, f11⟩ : ∃ x, f 29 = x := ⟨_, rfl⟩
            clear f12
            obtain ⟨x12, f12⟩ : ∃ x, f 30 = x := ⟨_, rfl⟩
            clear f13
            obtain ⟨x13, f13⟩ : ∃ x, f 31 = x := ⟨_, rfl⟩
            clear f14
            obtain ⟨x14, f14⟩ : ∃ x, f 32 = x := ⟨_, rfl⟩
            clear f15
            obtain ⟨x15, f15⟩ : ∃ x, f 33 = x := ⟨_, rfl⟩
            simp only [headDsts, List.take_succ_cons, List.take_zero, List.filterMap_cons, List.filterMap_nil, setAll, f0, f1, f2, f3, f4, f5, f6, f7, f8, f9, f10, f11, f12, f13, f14, f15, List.setIfInBounds_toArray, List.set_cons_succ, List.set_cons_zero, List.drop_succ_cons, List.drop_zero]
            clear f0 f1 f2 f3 f4 f5 f6 f7 f8 f9 f10 f11 f12 f13 f14 f15 f
            have HR := Lib.hid hR
            clear hR
            go_wp2
            go_roundg (n - (i + 1))
            case measure => omega
            case rel => exact ⟨i + 1, _, rfl, rfl, HP2.out, HFIN.out, own_kept0 HO2.out HR.out, HK3.out.trans0 HR.out⟩
        · have hz : Value.int IntKind.i64 (((A'.concat y).length : Nat) : Int) = Value.int .i64 ((A'.length : Int) + 1) := by simp
          rw [hz]
          obtain ⟨j, hj⟩ : ∃ j, A'.length = j := ⟨_, rfl⟩
          rw [List.concat_eq_append] at HP2 HS2 HO2 NEXT hpl hAl
          rw [hj]
          have hjn : j + 1 < n := by
            rw [← hpl, ← hj]
            simp
          obtain ⟨l2, hl2⟩ : ∃ l2, A' ++ [y] ++ x :: (B ++ C) = l2 := ⟨_, rfl⟩
          rw [hl2] at HP2 HO2 NEXT
          have hyj : l2[j]? = some y := by rw [← hl2, ← hj]; simp
          have hxj : l2[j + 1]? = some x := by rw [← hl2, ← hj]; simp
          have hy1 : y.2.oneCell' = true := H1.out y (HP2.out.mem_iff.1 (List.mem_of_getElem? hyj))
          have hswap : (l2.set (j + 1) y).set j x = A' ++ x :: ((y :: B) ++ C) := by
            rw [← hl2, ← hj]
            simp
          have hx1 : x.2.oneCell' = true := H1.out x (HP2.out.mem_iff.1 (List.mem_of_getElem? hxj))
          have hjlt : (j : Int) + 1 < (n : Int) := by omega
          have hjl0 : (j : Int) < (n : Int) := by omega
          have HO := HO2
          by_cases hxy : tlt x y
          · have hdec : decide (bl x.1.top < bl y.1.top) = true := decide_eq_true hxy
            have hperm : (A' ++ x :: ((y :: B) ++ C)).Perm l := by
              refine List.Perm.trans ?_ HP2.out
              rw [← hl2, List.append_assoc]
              refine List.Perm.append_left _ ?_
              exact (List.Perm.swap y x (B ++ C)).trans (by simp) |>.trans (List.Perm.refl _)
            have hsort : (A' ++ (y :: B)).Pairwise tle := by
              have := HS2.out
              simpa using this
            have hBB : ∀ b ∈ y :: B, tlt x b := by
              intro b hb
              rcases List.mem_cons.1 hb with rfl | hb
              · exact hxy
              · exact HB2.out b hb
            have HPERM := Lib.hid hperm
            have HSORT := Lib.hid hsort
            have HBB := Lib.hid hBB
            have HSWAP := Lib.hid hswap
            clear hperm hsort hBB hswap hl2
            go_wp2
            refine wp_region_gd' 16 (Kept []) (fun _ => Kept []) (fun _ _ => True) (isF g n cap j x y) mixed (by kernel_rfl) ((Kept.refl _ _).drew) (fun _ _ _ _ h k => h.trans0 k) (fun _ _ => trivial) (fun _ jx v w w' _ h k => isF_stable jx v w w' h k) (fun _ _ _ _ _ _ _ _ => trivial) ?_ ?_
            · refine ⟨?_, ?_, ?_, ?_, ?_, ?_, ?_, ?_, ?_, ?_, ?_, ?_, ?_, ?_, ?_, ?_, trivial⟩
              all_goals go_light
              all_goals intro a W hR hpre hs hd
              all_goals have p9 : a.tmps[9]? = some (.int .i64 ((j : Int) + 1)) := hs.2.2 9 (by decide)
              all_goals have p1 : a.tmps[1]? = some (.int .i64 0) := hs.2.2 1 (by decide)
              all_goals have p3 : a.tmps[3]? = some (.func (.func 68) #[] #[]) := hs.2.2 3 (by decide)
              all_goals have p0 : a.tmps[0]? = some (.slice (some ⟨g, 0, none⟩) n cap) := hs.2.2 0 (by decide)
              all_goals have hRr : Kept [] W W := Kept.refl [] W
              all_goals have hwj : IntKind.i64.wrap (j : Int) = (j : Int) := by rw [IntWalk.i64_left, IntWalk.wrap64_in _ (by omega)]
              · refine ⟨fun _ => ?_, fun hw => Bool.noConfusion (show true = false from hw)⟩
                refine ow_value (w' := W) (v := .int .i64 ((j : Int) + 1)) ?_ (.mk hRr rfl rfl)
                simp [go_sem, p9]
              · refine ⟨fun _ => ?_, fun hw => Bool.noConfusion (show true = false from hw)⟩
                refine ow_value (w' := W) (v := .int .i64 0) ?_ (.mk hRr rfl rfl)
                simp [go_sem, p1]
              · have q0 : _ = _ := hd.1 rfl
                have q1 : _ = _ := hd.2.1 rfl
                refine ⟨fun _ => ?_, fun hw => Bool.noConfusion (show true = false from hw)⟩
                refine ow_value (w' := W) (v := .bool true) ?_ (.mk hRr rfl rfl)
                simp [go_sem, q0, q1]
              · have q2 : _ = _ := hd.1 rfl
                refine ⟨fun _ => ?_, fun hw => Bool.noConfusion (show true = false from hw)⟩
                refine ow_value (w' := W) (v := .bool true) ?_ (.mk hRr rfl rfl)
                simp [go_sem, q2]
              · have q3 : _ = _ := hd.1 rfl
                refine ⟨fun _ => ?_, fun hw => absurd (hw.symm.trans (wanted_of rfl rfl rfl q3)) (by decide)⟩
                refine ow_value (w' := W) (v := .func (.func 68) #[] #[]) ?_ (.mk hRr rfl rfl)
                simp [go_sem, p3]
              · have q3 : _ = _ := hd.1 rfl
                refine ⟨fun _ => ?_, fun hw => absurd (hw.symm.trans (wanted_of rfl rfl rfl q3)) (by decide)⟩
                refine ow_value (w' := W) (v := .slice (some ⟨g, 0, none⟩) n cap) ?_ (.mk hRr rfl rfl)
                simp [go_sem, p0]
              · have q3 : _ = _ := hd.1 rfl
                refine ⟨fun _ => ?_, fun hw => absurd (hw.symm.trans (wanted_of rfl rfl rfl q3)) (by decide)⟩
                refine ow_value (w' := W) (v := .int .i64 ((j : Int) + 1)) ?_ (.mk hRr rfl rfl)
                simp [go_sem, p9]
              · have q5 : _ = _ := hd.1 rfl
                have q6 : _ = _ := hd.2.1 rfl
                have q3 : _ = _ := hd.2.2.1 rfl
                refine ⟨fun _ => ?_, fun hw => absurd (hw.symm.trans (wanted_of rfl rfl rfl q3)) (by decide)⟩
                refine ow_value (w' := W) (v := .pointer (some ⟨g, (j + 1) * 3, none⟩)) ?_ (.mk hRr rfl rfl)
                simp [go_sem, q5, q6]
                intro h
                omega
              · have q7 : _ = _ := hd.1 rfl
                have q3 : _ = _ := hd.2.1 rfl
                refine ⟨fun _ => ?_, fun hw => absurd (hw.symm.trans (wanted_of rfl rfl rfl q3)) (by decide)⟩
                refine ow_load_struct 53 _ rfl Tryz.underlying53 rfl rfl g ((j + 1) * 3) (by simp [go_sem, q7]) [.string x.1.mem, .string x.1.top, x.2] rfl (own_cells3 (own_kept0 HO.out hR) hxj) ?_
                exact .mk hRr rfl rfl
              · have q3 : _ = _ := hd.1 rfl
                refine ⟨fun _ => ?_, fun hw => absurd (hw.symm.trans (wanted_of rfl rfl rfl q3)) (by decide)⟩
                refine ow_value (w' := W) (v := .slice (some ⟨g, 0, none⟩) n cap) ?_ (.mk hRr rfl rfl)
                simp [go_sem, p0]
              · have q3 : _ = _ := hd.1 rfl
                refine ⟨fun _ => ?_, fun hw => absurd (hw.symm.trans (wanted_of rfl rfl rfl q3)) (by decide)⟩
                refine ow_value (w' := W) (v := .int .i64 ((j : Int) + 1)) ?_ (.mk hRr rfl rfl)
                simp [go_sem, p9]
              · have q10 : _ = _ := hd.1 rfl
                have q3 : _ = _ := hd.2.1 rfl
                refine ⟨fun _ => ?_, fun hw => absurd (hw.symm.trans (wanted_of rfl rfl rfl q3)) (by decide)⟩
                refine ow_value (w' := W) (v := .int .i64 j) ?_ (.mk hRr rfl rfl)
                simp [go_sem, q10, hwj]
              · have q9 : _ = _ := hd.1 rfl
                have q11 : _ = _ := hd.2.1 rfl
                have q3 : _ = _ := hd.2.2.1 rfl
                refine ⟨fun _ => ?_, fun hw => absurd (hw.symm.trans (wanted_of rfl rfl rfl q3)) (by decide)⟩
                refine ow_value (w' := W) (v := .pointer (some ⟨g, j * 3, none⟩)) ?_ (.mk hRr rfl rfl)
                simp [go_sem, q9, q11]
                intro h
                omega
              · have q12 : _ = _ := hd.1 rfl
                have q3 : _ = _ := hd.2.1 rfl
                refine ⟨fun _ => ?_, fun hw => absurd (hw.symm.trans (wanted_of rfl rfl rfl q3)) (by decide)⟩
                refine ow_load_struct 53 _ rfl Tryz.underlying53 rfl rfl g (j * 3) (by simp [go_sem, q12]) [.string y.1.mem, .string y.1.top, y.2] rfl (own_cells3 (own_kept0 HO.out hR) hyj) ?_
                exact .mk hRr rfl rfl
              · have q4 : _ = _ := hd.1 rfl
                have q8 : _ = _ := hd.2.1 rfl
                have q13 : _ = _ := hd.2.2.1 rfl
                have q3 : _ = _ := hd.2.2.2.2.1 rfl
                refine ⟨fun _ => ?_, fun hw => absurd (hw.symm.trans (wanted_of rfl rfl rfl q3)) (by decide)⟩
                refine ow_call (w' := W) (f := 68) (args := #[.agg #[.string x.1.mem, .string x.1.top, x.2], .agg #[.string y.1.mem, .string y.1.top, y.2]]) (by simp [go_sem, q4, q8, q13]) (cmp_any x y W) ?_
                rintro e w'' ⟨r, rfl, h1, h2⟩
                exact ⟨_, rfl, .mk h2 ⟨r, rfl, h1⟩ rfl⟩
              · have q14 := hd.1 rfl
                have q3 : _ = _ := hd.2.1 rfl
                refine ⟨fun _ => ?_, fun hw => absurd (hw.symm.trans (wanted_of rfl rfl rfl q3)) (by decide)⟩
                obtain ⟨r, q14, hr⟩ := q14
                change _ = _ at q14
                refine ow_value (w' := W) (v := .bool (decide (bl x.1.top < bl y.1.top))) ?_ (.mk hRr rfl rfl)
                have hdr : decide (r < 0) = decide (bl x.1.top < bl y.1.top) := by simp only [hr]
                simp [go_sem, q14, hdr]
            · intro f W hR hf
              obtain ⟨f0, f1, f2, f3, f4, f5, f6, f7, f8, f9, f10, f11, f12, f13, f14, f15, -⟩ := hf
              change f 18 = _ at f0
              change f 19 = _ at f1
              change f 20 = _ at f2
              change f 21 = _ at f3
              change f 22 = _ at f4
              change f 23 = _ at f5
              change f 24 = _ at f6
              change f 25 = _ at f7
              change f 26 = _ at f8
              change f 27 = _ at f9
              change f 28 = _ at f10
              change f 29 = _ at f11
              change f 30 = _ at f12
              change f 31 = _ at f13
              change ∃ r : Int, (f 32) = .int .i64 r ∧ (r < 0 ↔ bl x.1.top < bl y.1.top) at f14
              obtain ⟨x14, g14⟩ : ∃ x, f 32 = x := ⟨_, rfl⟩
              rw [g14] at f14
              change f 33 = _ at f15
              simp only [headDsts, List.take_succ_cons, List.take_zero, List.filterMap_cons, List.filterMap_nil, setAll, f0, f1, f2, f3, f4, f5, f6, f7, f8, f9, f10, f11, f12, f13, g14, f15, List.setIfInBounds_toArray, List.set_cons_succ, List.set_cons_zero, List.drop_succ_cons, List.drop_zero]
              clear f0 f1 f2 f3 f4 f5 f6 f7 f8 f9 f10 f11 f12 f13 g14 f15 f
              rw [hdec]
              obtain ⟨r14, rfl, hr14⟩ := f14
              have HR := Lib.hid hR
              have HO3 := Lib.hid (own_kept0 HO2.out hR)
              clear hR hr14 HO
              go_wp2
              have hpreW : ∀ W', Kept [] W W' → W'.ownsRow 0 53 3 (.slice (some ⟨g, 0, none⟩) n cap) n (shFlat l2) := fun W' hk => own_kept0 HO3.out hk
              refine wp_region_gd' 17 (Kept [g]) (isE g) (isPre g n cap l2) (isS g n cap j x y l2) mixed (by kernel_rfl) ((Kept.refl _ _).drew) (fun i _ _ _ h k => isE_R h k) (fun i _ _ => hpreW _ ((Kept.refl _ _).drew)) isS_stable (fun i jx w w' hij hwt h hk hj => ?_) ?_ ?_
              · unfold isE at hk
                split at hk
                · rcases hj with rfl | rfl | rfl
                  · exact Bool.noConfusion (show true = false from hwt)
                  · exact Bool.noConfusion (show true = false from hwt)
                  · exact absurd rfl hij
                · exact own_kept0 (h hj) hk
              · refine ⟨?_, ?_, ?_, ?_, ?_, ?_, ?_, ?_, ?_, ?_, ?_, ?_, ?_, ?_, ?_, ?_, ?_, trivial⟩
                all_goals go_light
                all_goals intro a W hR hpre hs hd
                all_goals have p9 : a.tmps[9]? = some (.int .i64 ((j : Int) + 1)) := hs.2.2 9 (by decide)
                all_goals have p0 : a.tmps[0]? = some (.slice (some ⟨g, 0, none⟩) n cap) := hs.2.2 0 (by decide)
                all_goals have hRr : Kept [] W W := Kept.refl [] W
                all_goals have hwj : IntKind.i64.wrap (j : Int) = (j : Int) := by rw [IntWalk.i64_left, IntWalk.wrap64_in _ (by omega)]
                · refine ⟨fun _ => ?_, fun hw => Bool.noConfusion (show true = false from hw)⟩
                  refine ow_value (w' := W) (v := .slice (some ⟨g, 0, none⟩) n cap) ?_ (.mk hRr rfl rfl)
                  simp [go_sem, p0]
                · refine ⟨fun _ => ?_, fun hw => Bool.noConfusion (show true = false from hw)⟩
                  refine ow_value (w' := W) (v := .int .i64 ((j : Int) + 1)) ?_ (.mk hRr rfl rfl)
                  simp [go_sem, p9]
                · refine ⟨fun _ => ?_, fun hw => Bool.noConfusion (show true = false from hw)⟩
                  refine ow_value (w' := W) (v := .slice (some ⟨g, 0, none⟩) n cap) ?_ (.mk hRr rfl rfl)
                  simp [go_sem, p0]
                · refine ⟨fun _ => ?_, fun hw => Bool.noConfusion (show true = false from hw)⟩
                  refine ow_value (w' := W) (v := .int .i64 ((j : Int) + 1)) ?_ (.mk hRr rfl rfl)
                  simp [go_sem, p9]
                · have q3 : _ = _ := hd.1 rfl
                  refine ⟨fun _ => ?_, fun hw => Bool.noConfusion (show true = false from hw)⟩
                  refine ow_value (w' := W) (v := .int .i64 j) ?_ (.mk hRr rfl rfl)
                  simp [go_sem, q3, hwj]
                · refine ⟨fun _ => ?_, fun hw => Bool.noConfusion (show true = false from hw)⟩
                  refine ow_value (w' := W) (v := .slice (some ⟨g, 0, none⟩) n cap) ?_ (.mk hRr rfl rfl)
                  simp [go_sem, p0]
                · refine ⟨fun _ => ?_, fun hw => Bool.noConfusion (show true = false from hw)⟩
                  refine ow_value (w' := W) (v := .int .i64 ((j : Int) + 1)) ?_ (.mk hRr rfl rfl)
                  simp [go_sem, p9]
                · have q6 : _ = _ := hd.1 rfl
                  refine ⟨fun _ => ?_, fun hw => Bool.noConfusion (show true = false from hw)⟩
                  refine ow_value (w' := W) (v := .int .i64 j) ?_ (.mk hRr rfl rfl)
                  simp [go_sem, q6, hwj]
                · have q5 : _ = _ := hd.1 rfl
                  have q7 : _ = _ := hd.2.1 rfl
                  refine ⟨fun _ => ?_, fun hw => Bool.noConfusion (show true = false from hw)⟩
                  refine ow_value (w' := W) (v := .pointer (some ⟨g, j * 3, none⟩)) ?_ (.mk hRr rfl rfl)
                  simp [go_sem, q5, q7]
                  intro h
                  omega
                · have q8 : _ = _ := hd.1 rfl
                  refine ⟨fun _ => ?_, fun hw => Bool.noConfusion (show true = false from hw)⟩
                  refine ow_load_struct 53 _ rfl Tryz.underlying53 rfl rfl g (j * 3) (by simp [go_sem, q8]) [.string y.1.mem, .string y.1.top, y.2] rfl (own_cells3 (hpre (by simp)) hyj) ?_
                  exact .mk hRr rfl rfl
                · refine ⟨fun _ => ?_, fun hw => Bool.noConfusion (show true = false from hw)⟩
                  refine ow_value (w' := W) (v := .slice (some ⟨g, 0, none⟩) n cap) ?_ (.mk hRr rfl rfl)
                  simp [go_sem, p0]
                · refine ⟨fun _ => ?_, fun hw => Bool.noConfusion (show true = false from hw)⟩
                  refine ow_value (w' := W) (v := .int .i64 ((j : Int) + 1)) ?_ (.mk hRr rfl rfl)
                  simp [go_sem, p9]
                · have q10 : _ = _ := hd.1 rfl
                  have q11 : _ = _ := hd.2.1 rfl
                  refine ⟨fun _ => ?_, fun hw => Bool.noConfusion (show true = false from hw)⟩
                  refine ow_value (w' := W) (v := .pointer (some ⟨g, (j + 1) * 3, none⟩)) ?_ (.mk hRr rfl rfl)
                  simp [go_sem, q10, q11]
                  intro h
                  omega
                · have q12 : _ = _ := hd.1 rfl
                  refine ⟨fun _ => ?_, fun hw => Bool.noConfusion (show true = false from hw)⟩
                  refine ow_load_struct 53 _ rfl Tryz.underlying53 rfl rfl g ((j + 1) * 3) (by simp [go_sem, q12]) [.string x.1.mem, .string x.1.top, x.2] rfl (own_cells3 (hpre (by simp)) hxj) ?_
                  exact .mk hRr rfl rfl
                · have q0 : _ = _ := hd.1 rfl
                  have q1 : _ = _ := hd.2.1 rfl
                  refine ⟨fun _ => ?_, fun hw => Bool.noConfusion (show true = false from hw)⟩
                  refine ow_value (w' := W) (v := .pointer (some ⟨g, (j + 1) * 3, none⟩)) ?_ (.mk hRr rfl rfl)
                  simp [go_sem, q0, q1]
                  intro h
                  omega
                · have q14 : _ = _ := hd.1 rfl
                  have q9 : _ = _ := hd.2.1 rfl
                  refine ⟨fun _ => ?_, fun hw => Bool.noConfusion (show true = false from hw)⟩
                  obtain ⟨w', h1, h2, h3⟩ := own_store3 (P := Tryz.prog) (by kernel_rfl) y hy1 (hpre (by simp)) (show j + 1 < n by omega)
                  refine ow_store3 53 _ _ rfl g ((j + 1) * 3) (by simp [go_sem, q14]) (by simp [go_sem, q9, shCells]) h1 ?_
                  exact ⟨undef, rfl, h3, h2, fun _ => h2⟩
                · have q2 : _ = _ := hd.1 rfl
                  have q4 : _ = _ := hd.2.1 rfl
                  refine ⟨fun _ => ?_, fun hw => Bool.noConfusion (show true = false from hw)⟩
                  refine ow_value (w' := W) (v := .pointer (some ⟨g, j * 3, none⟩)) ?_ (.mk hRr rfl rfl)
                  simp [go_sem, q2, q4]
                  intro h
                  omega
              · intro f W hR hf
                obtain ⟨f0, f1, f2, f3, f4, f5, f6, f7, f8, f9, f10, f11, f12, f13, f14, f15, f16, -⟩ := hf
                change f 37 = _ at f0
                change f 38 = _ at f1
                change f 39 = _ at f2
                change f 40 = _ at f3
                change f 41 = _ at f4
                change f 42 = _ at f5
                change f 43 = _ at f6
                change f 44 = _ at f7
                change f 45 = _ at f8
                change f 46 = _ at f9
                change f 47 = _ at f10
                change f 48 = _ at f11
                change f 49 = _ at f12
                change f 50 = _ at f13
                change f 51 = _ at f14
                change W.ownsRow 0 53 3 (.slice (some ⟨g, 0, none⟩) n cap) n (shFlat (l2.set (j + 1) y)) at f15
                change f 52 = _ at f16
                simp only [headDsts, List.take_succ_cons, List.take_zero, List.filterMap_cons, List.filterMap_nil, setAll, f0, f1, f2, f3, f4, f5, f6, f7, f8, f9, f10, f11, f12, f13, f14, f16, List.setIfInBounds_toArray, List.set_cons_succ, List.set_cons_zero, List.drop_succ_cons, List.drop_zero]
                clear f0 f1 f2 f3 f4 f5 f6 f7 f8 f9 f10 f11 f12 f13 f14 f16 f
                obtain ⟨w3, hw1, hw2, hw3⟩ := own_store3 (P := Tryz.prog) (by kernel_rfl) x hx1 f15 (show j < n by omega)
                rw [HSWAP.out] at hw2
                refine wl_store3 rfl 53 (.tmp 52) (.tmp 50) rfl g (j * 3) rfl rfl hw1 ?_
                have hKn : Kept [g] w w3 := (((HK3.out.trans0 HR.out).trans0 (Kept.refl [] _)).trans hR (fun x hx => .inl hx)).trans hw3 (fun x hx => .inl hx)
                have HW2 := Lib.hid hw2
                have HKN := Lib.hid hKn
                clear hw1 hw2 hw3 hKn f15 hR hpreW HO3
                go_wp2
                go_roundg j
                case measure =>
                  rw [hk2]
                  simp [hj]
                case rel => exact ⟨A', x, y :: B, C, hj.symm, by rw [hj], by simp at hAB ⊢; omega, HPERM.out, HSORT.out, HBB.out, HW2.out, HKN.out⟩
          · have hdec : decide (bl x.1.top < bl y.1.top) = false := decide_eq_false hxy
            have hfin : (l2.take (i + 1 + 1)).Pairwise tle := NEXT.out (ins_done HS2.out HB2.out (.inr ⟨A', y, rfl, hxy⟩))
            have HFIN := Lib.hid hfin
            clear hfin hswap hl2
            go_wp2
            refine wp_region_gd' 16 (Kept []) (fun _ => Kept []) (fun _ _ => True) (isF g n cap j x y) mixed (by kernel_rfl) ((Kept.refl _ _).drew) (fun _ _ _ _ h k => h.trans0 k) (fun _ _ => trivial) (fun _ jx v w w' _ h k => isF_stable jx v w w' h k) (fun _ _ _ _ _ _ _ _ => trivial) ?_ ?_
            · refine ⟨?_, ?_, ?_, ?_, ?_, ?_, ?_, ?_, ?_, ?_, ?_, ?_, ?_, ?_, ?_, ?_, trivial⟩
              all_goals go_light
              all_goals intro a W hR hpre hs hd
              all_goals have p9 : a.tmps[9]? = some (.int .i64 ((j : Int) + 1)) := hs.2.2 9 (by decide)
              all_goals have p1 : a.tmps[1]? = some (.int .i64 0) := hs.2.2 1 (by decide)
              all_goals have p3 : a.tmps[3]? = some (.func (.func 68) #[] #[]) := hs.2.2 3 (by decide)
              all_goals have p0 : a.tmps[0]? = some (.slice (some ⟨g, 0, none⟩) n cap) := hs.2.2 0 (by decide)
              all_goals have hRr : Kept [] W W := Kept.refl [] W
              all_goals have hwj : IntKind.i64.wrap (j : Int) = (j : Int) := by rw [IntWalk.i64_left, IntWalk.wrap64_in _ (by omega)]
              · refine ⟨fun _ => ?_, fun hw => Bool.noConfusion (show true = false from hw)⟩
                refine ow_value (w' := W) (v := .int .i64 ((j : Int) + 1)) ?_ (.mk hRr rfl rfl)
                simp [go_sem, p9]
              · refine ⟨fun _ => ?_, fun hw => Bool.noConfusion (show true = false from hw)⟩
                refine ow_value (w' := W) (v := .int .i64 0) ?_ (.mk hRr rfl rfl)
                simp [go_sem, p1]
              · have q0 : _ = _ := hd.1 rfl
                have q1 : _ = _ := hd.2.1 rfl
                refine ⟨fun _ => ?_, fun hw => Bool.noConfusion (show true = false from hw)⟩
                refine ow_value (w' := W) (v := .bool true) ?_ (.mk hRr rfl rfl)
                simp [go_sem, q0, q1]
              · have q2 : _ = _ := hd.1 rfl
                refine ⟨fun _ => ?_, fun hw => Bool.noConfusion (show true = false from hw)⟩
                refine ow_value (w' := W) (v := .bool true) ?_ (.mk hRr rfl rfl)
                simp [go_sem, q2]
              · have q3 : _ = _ := hd.1 rfl
                refine ⟨fun _ => ?_, fun hw => absurd (hw.symm.trans (wanted_of rfl rfl rfl q3)) (by decide)⟩
                refine ow_value (w' := W) (v := .func (.func 68) #[] #[]) ?_ (.mk hRr rfl rfl)
                simp [go_sem, p3]
              · have q3 : _ = _ := hd.1 rfl
                refine ⟨fun _ => ?_, fun hw => absurd (hw.symm.trans (wanted_of rfl rfl rfl q3)) (by decide)⟩
                refine ow_value (w' := W) (v := .slice (some ⟨g, 0, none⟩) n cap) ?_ (.mk hRr rfl rfl)
                simp [go_sem, p0]
              · have q3 : _ = _ := hd.1 rfl
                refine ⟨fun _ => ?_, fun hw => absurd (hw.symm.trans (wanted_of rfl rfl rfl q3)) (by decide)⟩
                refine ow_value (w' := W) (v := .int .i64 ((j : Int) + 1)) ?_ (.mk hRr rfl rfl)
                simp [go_sem, p9]
              · have q5 : _ = _ := hd.1 rfl
                have q6 : _ = _ := hd.2.1 rfl
                have q3 : _ = _ := hd.2.2.1 rfl
                refine ⟨fun _ => ?_, fun hw => absurd (hw.symm.trans (wanted_of rfl rfl rfl q3)) (by decide)⟩
                refine ow_value (w' := W) (v := .pointer (some ⟨g, (j + 1) * 3, none⟩)) ?_ (.mk hRr rfl rfl)
                simp [go_sem, q5, q6]
                intro h
                omega
              · have q7 : _ = _ := hd.1 rfl
                have q3 : _ = _ := hd.2.1 rfl
                refine ⟨fun _ => ?_, fun hw => absurd (hw.symm.trans (wanted_of rfl rfl rfl q3)) (by decide)⟩
                refine ow_load_struct 53 _ rfl Tryz.underlying53 rfl rfl g ((j + 1) * 3) (by simp [go_sem, q7]) [.string x.1.mem, .string x.1.top, x.2] rfl (own_cells3 (own_kept0 HO.out hR) hxj) ?_
                exact .mk hRr rfl rfl
              · have q3 : _ = _ := hd.1 rfl
                refine ⟨fun _ => ?_, fun hw => absurd (hw.symm.trans (wanted_of rfl rfl rfl q3)) (by decide)⟩
                refine ow_value (w' := W) (v := .slice (some ⟨g, 0, none⟩) n cap) ?_ (.mk hRr rfl rfl)
                simp [go_sem, p0]
              · have q3 : _ = _ := hd.1 rfl
                refine ⟨fun _ => ?_, fun hw => absurd (hw.symm.trans (wanted_of rfl rfl rfl q3)) (by decide)⟩
                refine ow_value (w' := W) (v := .int .i64 ((j : Int) + 1)) ?_ (.mk hRr rfl rfl)
                simp [go_sem, p9]
              · have q10 : _ = _ := hd.1 rfl
                have q3 : _ = _ := hd.2.1 rfl
                refine ⟨fun _ => ?_, fun hw => absurd (hw.symm.trans (wanted_of rfl rfl rfl q3)) (by decide)⟩
                refine ow_value (w' := W) (v := .int .i64 j) ?_ (.mk hRr rfl rfl)
                simp [go_sem, q10, hwj]
              · have q9 : _ = _ := hd.1 rfl
                have q11 : _ = _ := hd.2.1 rfl
                have q3 : _ = _ := hd.2.2.1 rfl
                refine ⟨fun _ => ?_, fun hw => absurd (hw.symm.trans (wanted_of rfl rfl rfl q3)) (by decide)⟩
                refine ow_value (w' := W) (v := .pointer (some ⟨g, j * 3, none⟩)) ?_ (.mk hRr rfl rfl)
                simp [go_sem, q9, q11]
                intro h
                omega
              · have q12 : _ = _ := hd.1 rfl
                have q3 : _ = _ := hd.2.1 rfl
                refine ⟨fun _ => ?_, fun hw => absurd (hw.symm.trans (wanted_of rfl rfl rfl q3)) (by decide)⟩
                refine ow_load_struct 53 _ rfl Tryz.underlying53 rfl rfl g (j * 3) (by simp [go_sem, q12]) [.string y.1.mem, .string y.1.top, y.2] rfl (own_cells3 (own_kept0 HO.out hR) hyj) ?_
                exact .mk hRr rfl rfl
              · have q4 : _ = _ := hd.1 rfl
                have q8 : _ = _ := hd.2.1 rfl
                have q13 : _ = _ := hd.2.2.1 rfl
                have q3 : _ = _ := hd.2.2.2.2.1 rfl
                refine ⟨fun _ => ?_, fun hw => absurd (hw.symm.trans (wanted_of rfl rfl rfl q3)) (by decide)⟩
                refine ow_call (w' := W) (f := 68) (args := #[.agg #[.string x.1.mem, .string x.1.top, x.2], .agg #[.string y.1.mem, .string y.1.top, y.2]]) (by simp [go_sem, q4, q8, q13]) (cmp_any x y W) ?_
                rintro e w'' ⟨r, rfl, h1, h2⟩
                exact ⟨_, rfl, .mk h2 ⟨r, rfl, h1⟩ rfl⟩
              · have q14 := hd.1 rfl
                have q3 : _ = _ := hd.2.1 rfl
                refine ⟨fun _ => ?_, fun hw => absurd (hw.symm.trans (wanted_of rfl rfl rfl q3)) (by decide)⟩
                obtain ⟨r, q14, hr⟩ := q14
                change _ = _ at q14
                refine ow_value (w' := W) (v := .bool (decide (bl x.1.top < bl y.1.top))) ?_ (.mk hRr rfl rfl)
                have hdr : decide (r < 0) = decide (bl x.1.top < bl y.1.top) := by simp only [hr]
                simp [go_sem, q14, hdr]
            · intro f W hR hf
              obtain ⟨f0, f1, f2, f3, f4, f5, f6, f7, f8, f9, f10, f11, f12, f13, f14, f15, -⟩ := hf
              change f 18 = _ at f0
              change f 19 = _ at f1
              change f 20 = _ at f2
              change f 21 = _ at f3
              change f 22 = _ at f4
              change f 23 = _ at f5
              change f 24 = _ at f6
              change f 25 = _ at f7
              change f 26 = _ at f8
              change f 27 = _ at f9
              change f 28 = _ at f10
              change f 29 = _ at f11
              change f 30 = _ at f12
              change f 31 = _ at f13
              change ∃ r : Int, (f 32) = .int .i64 r ∧ (r < 0 ↔ bl x.1.top < bl y.1.top) at f14
              obtain ⟨x14, g14⟩ : ∃ x, f 32 = x := ⟨_, rfl⟩
              rw [g14] at f14
              change f 33 = _ at f15
              simp only [headDsts, List.take_succ_cons, List.take_zero, List.filterMap_cons, List.filterMap_nil, setAll, f0, f1, f2, f3, f4, f5, f6, f7, f8, f9, f10, f11, f12, f13, g14, f15, List.setIfInBounds_toArray, List.set_cons_succ, List.set_cons_zero, List.drop_succ_cons, List.drop_zero]
              clear f0 f1 f2 f3 f4 f5 f6 f7 f8 f9 f10 f11 f12 f13 g14 f15 f
              rw [hdec]
              have HR := Lib.hid hR
              clear hR f14
              go_wp2
              go_roundg (n - (i + 1))
              case measure => omega
              case rel => exact ⟨i + 1, _, rfl, rfl, HP2.out, HFIN.out, own_kept0 HO2.out HR.out, HK3.out.trans0 HR.out⟩
    · have hin : n ≤ i + 1 := by omega
      have hlt' : ¬ (i : Int) + 1 < (n : Int) := by omega
      go_wp2
      refine bodyPost_end (results_none rfl _ _ _) rfl ?_
      refine ⟨rfl, l1, HP1.out, ?_, HO1.out, HK1.out⟩
      have := HS1.out
      rwa [List.take_of_length_le (by omega)] at this

end Go.Proofs.YtghgffhcdnmpnaaGreat
/-
  slices.SortFunc of shares by their topics. Condition: twelve at most.
-/
namespace Go.Proofs.YtghgffhcdnmpnaaGreat
open Go.RowKit Go.Sort
set_option maxRecDepth 100000 in
set_option maxHeartbeats 3200000 in
/-- pdqsort of twelve shares at most. -/
theorem pdqShare_own (g n cap : Nat) (l : List (Sh × Value)) (lim : Int) (w : World) (h : w.ownsRow 0 53 3 (.slice (some ⟨g, 0, none⟩) n cap) n (shFlat l)) (h1 : ∀ p ∈ l, p.2.oneCell' = true) (hn : n ≤ 12) :
    Calls Tryz.prog 88 #[.slice (some ⟨g, 0, none⟩) n cap, .int .i64 0, .int .i64 n, .int .i64 lim, .func (.func 68) #[] #[]] w fun e w' => e = .returned (.tuple #[]) ∧ ∃ l', l'.Perm l ∧ l'.Pairwise tle ∧ w'.ownsRow 0 53 3 (.slice (some ⟨g, 0, none⟩) n cap) n (shFlat l') ∧ Kept [g] w w' := by
  have hc := insShare_own g n cap l w h h1 (by omega)
  have HC := Lib.hid hc
  clear hc h h1
  have hn' : (n : Int) ≤ 12 := by omega
  go_enter Tryz.func88, Tryz.ntmps88
  go_wp2
  refine wp_loop_once ?_
  go_wp2_with (with_reducible refine HC.out.mono ?_; rintro e w1 ⟨rfl, l', hp, hs, ho, hk⟩)
  refine bodyPost_ret (results_none rfl _ _ _) rfl ?_
  exact ⟨rfl, l', hp, hs, ho, hk⟩
set_option maxRecDepth 100000 in
set_option maxHeartbeats 3200000 in
/-- slices.SortFunc of twelve shares at most. -/
theorem sortShares_own (g n cap : Nat) (l : List (Sh × Value)) (w : World) (h : w.ownsRow 0 53 3 (.slice (some ⟨g, 0, none⟩) n cap) n (shFlat l)) (h1 : ∀ p ∈ l, p.2.oneCell' = true) (hn : n ≤ 12) :
    Calls Tryz.prog 67 #[.slice (some ⟨g, 0, none⟩) n cap, .func (.func 68) #[] #[]] w fun e w' => e = .returned (.tuple #[]) ∧ ∃ l', l'.Perm l ∧ l'.Pairwise tle ∧ w'.ownsRow 0 53 3 (.slice (some ⟨g, 0, none⟩) n cap) n (shFlat l') ∧ Kept [g] w w' := by
  have HC := Lib.hid (fun lim => pdqShare_own g n cap l lim w h h1 hn)
  have hb := Tryz.bits_Len (n : Int) w (by omega) (by omega)
  have HB := Lib.hid hb
  clear hb h h1
  go_enter Tryz.func67, Tryz.ntmps67
  go_wp2_with (first | (with_reducible refine HB.out.mono ?_; rintro e w1 ⟨rfl, rfl⟩) | (with_reducible refine (HC.out _).mono ?_; rintro e w1 ⟨rfl, l', hp, hs, ho, hk⟩))
  refine bodyPost_end (results_none rfl _ _ _) rfl ?_
  exact ⟨rfl, l', hp, hs, ho, hk⟩
end Go.Proofs.YtghgffhcdnmpnaaGreat
/-
  shares: a member's map read out in the order of its topics. Conditions: twelve topics at most, no list longer than a million.
-/
namespace Go.Proofs.YtghgffhcdnmpnaaGreat
open Go.RowKit Go.Sort
theorem info53 : (Tryz.prog.info? 53).map (fun i => (i.zero, i.size, i.bytes)) = some (some (.agg #[.string ⟨#[]⟩, .string ⟨#[]⟩, .slice none 0 0]), 3, 56) := by kernel_rfl
set_option maxRecDepth 100000 in
set_option maxHeartbeats 3200000 in
theorem sortNil (w : World) : Calls Tryz.prog 67 #[.slice none 0 0, .func (.func 68) #[] #[]] w fun e w' => e = .returned (.tuple #[]) ∧ w = w' := by
  have h97 : ∀ w, Calls Tryz.prog 97 #[.slice none 0 0, .int .i64 0, .int .i64 0, .func (.func 68) #[] #[]] w fun e w' => e = .returned (.tuple #[]) ∧ w = w' := by
    intro w
    go_enter Tryz.func97, Tryz.ntmps97
    go_wp2
    refine wp_loop_once ?_
    go_wp2
    exact bodyPost_end (results_none rfl _ _ _) rfl ⟨rfl, rfl⟩
  have h88 : ∀ lim w, Calls Tryz.prog 88 #[.slice none 0 0, .int .i64 0, .int .i64 0, .int .i64 lim, .func (.func 68) #[] #[]] w fun e w' => e = .returned (.tuple #[]) ∧ w = w' := by
    intro lim w
    have H := Lib.hid (h97 w)
    go_enter Tryz.func88, Tryz.ntmps88
    go_wp2
    refine wp_loop_once ?_
    go_wp2_with (with_reducible refine H.out.mono ?_; rintro e w1 ⟨rfl, rfl⟩)
    exact bodyPost_ret (results_none rfl _ _ _) rfl ⟨rfl, rfl⟩
  have hb := Tryz.bits_Len 0 w (by omega) (by omega)
  have HB := Lib.hid hb
  have HC := Lib.hid (fun lim => h88 lim w)
  clear hb h97 h88
  go_enter Tryz.func67, Tryz.ntmps67
  go_wp2_with (first | (with_reducible refine HB.out.mono ?_; rintro e w1 ⟨rfl, rfl⟩) | (with_reducible refine (HC.out _).mono ?_; rintro e w1 ⟨rfl, rfl⟩))
  exact bodyPost_end (results_none rfl _ _ _) rfl ⟨rfl, rfl⟩
set_option maxRecDepth 100000 in
set_option maxHeartbeats 3200000 in
theorem shares_nil (id : ByteArray) (w : World) : Calls Tryz.prog 45 #[.string id, .map none] w fun e w' => e = .returned (.slice none 0 0) ∧ Kept [] w w' := by
  have HS := Lib.hid sortNil
  have hr := run_range_nilMap w 89 9 49 Tryz.underlying89
  have hnx := run_next_nilMap (P := Tryz.prog) w 0 0 0 #[]
  go_enter Tryz.func45, Tryz.ntmps45
  go_wp2
  refine wp_loop_once ?_
  go_wp2_with (with_reducible refine (HS.out _).mono ?_; rintro e w1 ⟨rfl, rfl⟩)
  go_ret
  exact ⟨rfl, (Kept.refl _ _).alloc _⟩

/-! ### What shares gives -/
def mkSh (id : ByteArray) (f : ByteArray → List Int) (t : ByteArray) : Sh := ⟨id, t, f t⟩
def fullTops (f : ByteArray → List Int) (ts : List ByteArray) : List ByteArray := ts.filter fun t => decide (f t ≠ [])
theorem fullTops_snoc (f : ByteArray → List Int) (ts : List ByteArray) (t : ByteArray) : fullTops f (ts ++ [t]) = fullTops f ts ++ (if f t = [] then [] else [t]) := by
  by_cases h : f t = [] <;> simp [fullTops, h]
theorem sorted_unique {id : ByteArray} {f : ByteArray → List Int} {ts : List ByteArray} {l : List (Sh × Value)} (h : (l.map Prod.fst).Perm (ts.map (mkSh id f))) (hs : l.Pairwise tle) : l.map Prod.fst = (srt ts).map (mkSh id f) := by
  refine List.Perm.eq_of_pairwise (le := fun a b : Sh => sle a.top b.top = true) ?_ ?_ ?_ (h.trans ((srt_perm ts).symm.map _))
  · intro a b ha hb h1 h2
    obtain ⟨x, _, rfl⟩ := List.mem_map.1 (h.mem_iff.1 ha)
    obtain ⟨y, _, rfl⟩ := List.mem_map.1 hb
    have : x = y := sle_antisymm _ _ h1 h2
    rw [this]
  · rw [List.pairwise_map]
    exact hs
  · rw [List.pairwise_map]
    exact srt_sorted ts
theorem own_ge {w : World} {base : Nat} {e : TypeId} {s n : Nat} {v : Value} {xs : List Value} (h : w.ownsRow base e s v n xs) : ∀ g, v.ownBlock = some g → base ≤ g := by
  intro g hg
  rcases h.2 with ⟨rfl, _⟩ | ⟨g', cap, cur, rfl, hb, _⟩
  · cases hg
  · have : g' = g := by simpa [Value.ownBlock] using hg
    omega
theorem three_sl (w : World) (p : Sh × Value) : SlIs (w.alloc (.cells #[.string p.1.mem, .string p.1.top, p.2] 53)) 3 (some ⟨w.heap.size, 0, none⟩) 1 (shFlat [p]) := by
  refine ⟨rfl, by omega, fun _ => ⟨_, _, rfl, fun i u hu => ?_⟩⟩
  rw [cell_of_row _ _ _ _ _ _ (heap_alloc_new _ _)]
  rw [Nat.zero_add]
  simpa [shFlat, shCells] using hu
theorem own_rebase {w : World} {base base' : Nat} {e : TypeId} {s n : Nat} {v : Value} {xs : List Value} (h : w.ownsRow base e s v n xs) (hb : ∀ g, v.ownBlock = some g → base' ≤ g) : w.ownsRow base' e s v n xs := by
  refine ⟨h.1, ?_⟩
  rcases h.2 with h2 | ⟨g, cap, cur, hv, hg, r⟩
  · exact .inl h2
  · subst hv
    exact .inr ⟨g, cap, cur, rfl, hb g rfl, r⟩
theorem own_types_ne {w : World} {base base' : Nat} {e e' : TypeId} {s s' n n' : Nat} {v v' : Value} {xs xs' : List Value} (h : w.ownsRow base e s v n xs) (h' : w.ownsRow base' e' s' v' n' xs') (hne : e ≠ e') : ∀ g, v.ownBlock = some g → g ∉ v'.ownBlock.toList := by
  intro g hg hm
  have hg' : v'.ownBlock = some g := by simpa using hm
  rcases h'.2 with ⟨rfl, _⟩ | ⟨g', cap, cur, rfl, _, hh, _⟩
  · cases hg'
  · have : g' = g := by simpa [Value.ownBlock] using hg'
    subst this
    exact own_block_ne h hh hne g' hg rfl
theorem walked_sub {α : Type} {l : List α} {done : List Nat} {x : α} (h : x ∈ walked l done) : x ∈ l := by
  obtain ⟨i, _, hi⟩ := List.mem_filterMap.1 h
  exact List.mem_of_getElem? hi
theorem walked_nodup {α : Type} {l : List α} (hl : l.Nodup) : ∀ {done : List Nat}, done.Nodup → (walked l done).Nodup
  | [], _ => List.nodup_nil
  | i :: r, h => by
    have h' := List.nodup_cons.1 h
    have ih := walked_nodup hl h'.2
    unfold walked at ih ⊢
    cases hi : l[i]? with
    | none => rw [List.filterMap_cons_none hi]; exact ih
    | some x =>
      rw [List.filterMap_cons_some hi]
      refine List.nodup_cons.2 ⟨fun hm => ?_, ih⟩
      obtain ⟨j, hj, hjx⟩ := List.mem_filterMap.1 hm
      have := (List.getElem?_inj (List.getElem?_eq_some_iff.1 hi).1 hl).1 (hi.trans hjx.symm)
      exact h'.1 (this ▸ hj)
/-- slices.SortFunc of shares, nil let in. -/
theorem sortShares_any (base : Nat) (v : Value) (L : List (Sh × Value)) (w : World) (h : w.ownsRow base 53 3 v L.length (shFlat L)) (h1 : ∀ p ∈ L, p.2.oneCell' = true) (hn : L.length ≤ 12) :
    Calls Tryz.prog 67 #[v, .func (.func 68) #[] #[]] w fun e w' => e = .returned (.tuple #[]) ∧ ∃ l', l'.Perm L ∧ l'.Pairwise tle ∧ w'.ownsRow base 53 3 v L.length (shFlat l') ∧ Kept v.ownBlock.toList w w' := by
  rcases h.2 with ⟨rfl, h0⟩ | ⟨g, cap, cur, rfl, hb, _⟩
  · obtain rfl := List.eq_nil_of_length_eq_zero h0
    refine (sortNil w).mono ?_
    rintro e w' ⟨rfl, rfl⟩
    exact ⟨rfl, [], List.Perm.refl _, List.Pairwise.nil, World.ownsRow_nil _ _ _ _, Kept.refl _ _⟩
  · refine (sortShares_own g L.length cap L w (own_mono h (Nat.zero_le _)) h1 hn).mono ?_
    rintro e w' ⟨rfl, l', h2, h3, h4, h5⟩
    exact ⟨rfl, l', h2, h3, own_rebase h4 (own_ge h), h5⟩
set_option maxRecDepth 100000 in
set_option maxHeartbeats 3200000 in
/-- shares of a member's map. -/
theorem shares_map (id : ByteArray) (b : Nat) (f : ByteArray → List Int) (M : List (ByteArray × Value)) (w : World) (hM : MapIs Value.string w b M) (hrows : ∀ t u, (t, u) ∈ M → w.ownsRow 0 21 1 u (f t).length (ints (f t))) (hl : (fullTops f (M.map Prod.fst)).length ≤ 12) (hf : ∀ t, (f t).length ≤ 1000000) :
    Calls Tryz.prog 45 #[.string id, .map (some b)] w fun e w' => ∃ v L, e = .returned v ∧ L.map Prod.fst = (srt (fullTops f (M.map Prod.fst))).map (mkSh id f) ∧ w'.ownsRow w.heap.size 53 3 v L.length (shFlat L) ∧ (∀ p ∈ L, w'.ownsRow w.heap.size 21 1 p.2 p.1.parts.length (ints p.1.parts)) ∧ Kept [] w w' := by
  have HM := Lib.hid hM
  have HR := Lib.hid hrows
  have HF := Lib.hid hf
  have hkn := hM.nodup
  have HKN := Lib.hid hkn
  have hblt := hM.lt
  clear hM hrows hf hkn
  go_enter Tryz.func45, Tryz.ntmps45
  go_wp2_with (refine wl_range rfl _ 89 rfl 9 49 Tryz.underlying89 b M rfl HM.out ?_; intro w1 hI hk1 hs1; have HI := Lib.hid hI; have HK1 := Lib.hid hk1; clear hI hk1)
  simp only [Act.put, List.setIfInBounds_toArray, List.set_cons_succ, List.set_cons_zero]
  obtain ⟨z, hz⟩ : ∃ z, w.heap.size = z := ⟨_, rfl⟩
  rw [hz] at HI ⊢
  go_loopg [5] M.length (fun k v wr => ∃ done L, k = M.length - done.length ∧ IterIs Value.string wr z b M done ∧ L.map Prod.fst = (fullTops f (walked (M.map Prod.fst) done)).map (mkSh id f) ∧ wr.ownsRow (z + 1) 53 3 v L.length (shFlat L) ∧ (∀ p ∈ L, wr.ownsRow (z + 1) 21 1 p.2 p.1.parts.length (ints p.1.parts)) ∧ Kept [] w wr)
  case atStart =>
    exact ⟨[], [], rfl, HI.out, rfl, World.ownsRow_nil _ _ _ _, by simp, HK1.out⟩
  case round =>
    obtain ⟨done, L, hk, hI2, hL, ho, hps, hKr⟩ := hrel
    have HI2 := Lib.hid hI2
    have HL := Lib.hid hL
    have HO := Lib.hid ho
    have HPS := Lib.hid hps
    have HKR := Lib.hid hKr
    clear hI2 hL ho hps hKr
    have hdl := HI2.out.left
    have hzr : z ≤ wr.heap.size := by have := HI2.out.lt; omega
    have hLl : L.length ≤ 12 := by
      have h1 := congrArg List.length HL.out
      rw [List.length_map, List.length_map] at h1
      have h2 : (fullTops f (walked (M.map Prod.fst) done)).length ≤ (fullTops f (M.map Prod.fst)).length := by
        refine List.Nodup.length_le_of_subset ((walked_nodup HKN.out HI2.out.2.1).sublist List.filter_sublist) (fun t ht => ?_)
        have h3 := List.mem_filter.1 ht
        exact List.mem_filter.2 ⟨walked_sub h3.1, h3.2⟩
      omega
    by_cases hd : done.length < M.length
    · go_wp2_with (first | (refine wl_next rfl _ rfl z b M done rfl HI2.out (fun e => absurd e (by omega)) ?_; intro i p w2 hp hi hI3 hK3 hs3; obtain ⟨t, u⟩ := p; have HI3 := Lib.hid hI3; have HK3 := Lib.hid hK3; have HP := Lib.hid hp; have HNI := Lib.hid hi; have hK23 := (HKR.out.trans HK3.out (fun x hx => .inr (by have := List.mem_singleton.1 hx; omega))); have hu2 := own_kept0 (HR.out t u (List.mem_of_getElem? hp)) hK23; obtain ⟨A, c, rfl⟩ := own_form hu2; obtain ⟨A', c', he, hsl, _⟩ := own_sl hu2; cases he; have HCL := Lib.hid (clone60 A (f t).length c (ints (f t)) w2 hsl (ints_one _) (by have := HF.out t; omega)); have HK23 := Lib.hid hK23; have HOW : ∀ W, Kept [] w2 W → W.ownsRow (z + 1) 53 3 u5 L.length (shFlat L) := fun W hk => own_kept0 (HK3.out.own HO.out (fun g hg hm => by have h1 := own_ge HO.out g hg; have h2 := List.mem_singleton.1 hm; omega)) hk; clear hI3 hK3 hp hi hu2 hsl hK23) | (refine wl_entry rfl _ rfl z b M done i _ rfl HI3.out HP.out ?_) | (with_reducible refine HCL.out.mono ?_; rintro e w3 ⟨v1, rfl, ho3, hk3⟩; obtain ⟨A1, c1, rfl⟩ := own_form ho3; have HO3 := Lib.hid ho3; have HK4 := Lib.hid hk3; clear ho3 hk3) | (at_builtin; refine wl_append rfl _ _ 30 rfl (z + 1) 53 Tryz.underlying30 info53 rfl (by decide) u5 L.length (shFlat L) rfl (HOW _ ((HK4.out.alloc _))) (some ⟨w3.heap.size, 0, none⟩) 1 1 (shFlat [(mkSh id f t, .slice A1 (f t).length c1)]) rfl (three_sl w3 (mkSh id f t, .slice A1 (f t).length c1)) (by simp [shFlat, shCells, Value.oneCell']) (by omega) (by omega) (by simp; have := HK4.out.size; omega) ?_; intro v' w4 hown hk4 hat; have HOWN := Lib.hid hown; have HK5 := Lib.hid hk4; clear hown hk4 hat))
      · have hpos : 0 < (f t).length := by assumption
        have hne : f t ≠ [] := fun h => by rw [h] at hpos; simp at hpos
        have hki : (M.map Prod.fst)[i]? = some t := by rw [List.getElem?_map, HP.out]; rfl
        have how3 := HOW w3 HK4.out
        have hu5 : ∀ g, u5.ownBlock = some g → z + 1 ≤ g := own_ge HO.out
        have hK24 : Kept u5.ownBlock.toList w2 w4 := ((Kept.refl [] w2).trans (HK4.out.alloc _) (fun x hx => .inl hx)).mono (by simp) |>.trans HK5.out (fun x hx => .inl hx)
        have hIn : IterIs Value.string w4 z b M (done ++ [i]) := HI3.out.kept hK24 (fun hm => by have := hu5 b (by simpa using hm); omega) (fun hm => by have := hu5 z (by simpa using hm); omega)
        have hLn : (L ++ [(mkSh id f t, Value.slice A1 (f t).length c1)]).map Prod.fst = (fullTops f (walked (M.map Prod.fst) (done ++ [i]))).map (mkSh id f) := by
          rw [walked_snoc hki, fullTops_snoc, List.map_append, List.map_append, HL.out, if_neg hne]
          rfl
        have hOn : w4.ownsRow (z + 1) 53 3 v' (L ++ [(mkSh id f t, Value.slice A1 (f t).length c1)]).length (shFlat (L ++ [(mkSh id f t, Value.slice A1 (f t).length c1)])) := by
          have := HOWN.out
          rw [show shFlat (L ++ [(mkSh id f t, Value.slice A1 (f t).length c1)]) = shFlat L ++ shFlat [(mkSh id f t, Value.slice A1 (f t).length c1)] by simp [shFlat], List.length_append]
          exact this
        have how2 := HOW w2 (Kept.refl _ _)
        have hPn : ∀ p ∈ L ++ [(mkSh id f t, Value.slice A1 (f t).length c1)], w4.ownsRow (z + 1) 21 1 p.2 p.1.parts.length (ints p.1.parts) := by
          intro p hp
          rcases List.mem_append.1 hp with hp | hp
          · have h1 := HPS.out p hp
            have h2 := HK3.out.own h1 (fun g hg hm => by have h3 := own_ge h1 g hg; have h4 := List.mem_singleton.1 hm; omega)
            exact hK24.own h2 (own_types_ne h2 how2 (by decide))
          · have : p = (mkSh id f t, Value.slice A1 (f t).length c1) := by simpa using hp
            subst this
            have h3 := HO3.out
            have h4 := HK5.out.own (own_kept0 h3 ((Kept.refl [] _).alloc _)) (own_types_ne h3 how3 (by decide))
            refine own_mono h4 ?_
            have := HI3.out.lt
            omega
        have hKn : Kept [] w w4 := HK23.out.trans hK24 (fun x hx => .inr (by have := hu5 x (by simpa using hx); omega))
        have HIN := Lib.hid hIn
        have HLN := Lib.hid hLn
        have HON := Lib.hid hOn
        have HPN := Lib.hid hPn
        have HKN2 := Lib.hid hKn
        clear hIn hLn hOn hPn hKn hK24 how2 how3 HOW
        go_roundg (M.length - (done ++ [i]).length)
        case measure =>
          rw [List.length_append]
          simp only [List.length_cons, List.length_nil]
          omega
        case rel => exact ⟨done ++ [i], _, rfl, HIN.out, HLN.out, HON.out, HPN.out, HKN2.out⟩
      · have hpos : ¬ 0 < (f t).length := by assumption
        have hne : f t = [] := List.eq_nil_of_length_eq_zero (by omega)
        have hki : (M.map Prod.fst)[i]? = some t := by rw [List.getElem?_map, HP.out]; rfl
        have hLn : L.map Prod.fst = (fullTops f (walked (M.map Prod.fst) (done ++ [i]))).map (mkSh id f) := by
          rw [walked_snoc hki, fullTops_snoc, HL.out, if_pos hne, List.append_nil]
        have hPn : ∀ p ∈ L, w2.ownsRow (z + 1) 21 1 p.2 p.1.parts.length (ints p.1.parts) := by
          intro p hp
          have h1 := HPS.out p hp
          exact HK3.out.own h1 (fun g hg hm => by have h3 := own_ge h1 g hg; have h4 := List.mem_singleton.1 hm; omega)
        have HOW2 := Lib.hid (HOW w2 (Kept.refl _ _))
        have HLN := Lib.hid hLn
        have HPN := Lib.hid hPn
        clear hLn hPn HOW
        go_roundg (M.length - (done ++ [i]).length)
        case measure =>
          rw [List.length_append]
          simp only [List.length_cons, List.length_nil]
          omega
        case rel => exact ⟨done ++ [i], L, rfl, HI3.out, HLN.out, HOW2.out, HPN.out, HK23.out⟩
    · have hde : done.length = M.length := by omega
      have hperm : (walked (M.map Prod.fst) done).Perm (M.map Prod.fst) := walked_perm HI2.out.2.1 (fun i hi => by have := HI2.out.2.2.1 i hi; rw [List.length_map]; omega) (by rw [List.length_map]; omega)
      have hone : ∀ p ∈ L, p.2.oneCell' = true := fun p hp => own_slice_one (HPS.out p hp)
      have HSF := Lib.hid (sortShares_any (z + 1) u5 L wr HO.out hone hLl)
      have HPERM := Lib.hid hperm
      clear hperm hone
      go_wp2_with (first | (refine wl_next rfl _ rfl z b M done rfl HI2.out (fun _ => ?_) (fun i p w2 hp hi hI2 hK2 hs2 => absurd hI2.left (by rw [List.length_append]; simp only [List.length_cons, List.length_nil]; omega))) | (with_reducible refine HSF.out.mono ?_; rintro e w5 ⟨rfl, l', hp, hs, ho, hk⟩; have HPP := Lib.hid hp; have HSS := Lib.hid hs; have HOO := Lib.hid ho; have HKK := Lib.hid hk; clear hp hs ho hk))
      go_ret
      have hlen := HPP.out.length_eq
      refine ⟨u5, l', rfl, ?_, ?_, ?_, ?_⟩
      · have h1 : (l'.map Prod.fst).Perm ((fullTops f (walked (M.map Prod.fst) done)).map (mkSh id f)) := by
          rw [← HL.out]
          exact HPP.out.map _
        have h2 : (fullTops f (walked (M.map Prod.fst) done)).Perm (fullTops f (M.map Prod.fst)) := HPERM.out.filter _
        rw [sorted_unique h1 HSS.out, srt_of_perm h2]
      · rw [hlen]
        exact own_mono HOO.out (by omega)
      · intro p hp
        have h1 := HPS.out p (HPP.out.mem_iff.1 hp)
        exact own_mono (HKK.out.own h1 (own_types_ne h1 HO.out (by decide))) (by omega)
      · exact HKR.out.trans HKK.out (fun x hx => .inr (by have := own_ge HO.out x (by simpa using hx); omega))
end Go.Proofs.YtghgffhcdnmpnaaGreat
