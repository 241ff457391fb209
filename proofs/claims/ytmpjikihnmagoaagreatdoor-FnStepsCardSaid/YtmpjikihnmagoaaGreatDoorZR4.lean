/-
  Two structs loaded into two blocks of the call's own, in whatever order: the invariant. Conditions: each lemma's own.
-/
import Derived.Test.YtmpjikihnmagoaaGreatDoorZR3
import Derived.Test.YtmpjikihnmagoaaGreatDoorZT15
namespace Go.Proofs.YtmpjikihnmagoaaGreatDoor
open Go.RowKit
theorem getD_set {L : Array Bool} {j : Nat} (hj : j < L.size) (k : Nat) : (L.setIfInBounds j true).getD k false = if k = j then true else L.getD k false:=by
 by_cases h : k = j
 ·subst h
  rw [if_pos rfl]
  simp [hj]
 ·rw [if_neg h]
  have : (L.setIfInBounds j true)[k]? = L[k]?:=Array.getElem?_setIfInBounds_ne (fun e => h e.symm)
  simp only [Array.getD_eq_getD_getElem?, this]
/-- A block of a type. -/
def BlkIs (t : TypeId) (w : World) (g : Nat) (cs : List Value) : Prop:=w.heap[g]? = some (.cells cs.toArray t (0, 0))
/-- What holds while the two are loaded. val: the values of the operations that only read (slots s0 ..); s6, s7: the blocks' slots. -/
structure SInv (t : TypeId) (z : Nat) (w0 : World) (a0 : Act) (val : Nat → Value) (X Y Z : List Value) (L : Array Bool) (a : Act) (w : World) : Prop where
 same : sameBut [20, 21, 22, 23, 24, 25, 26, 27, 6, 7] a0 a
 kept : Kept [] w0 w
 size : z ≤ w.heap.size
 o10 : L.getD 10 false = true → L.getD 8 false = true
 o11 : L.getD 11 false = true → L.getD 9 false = true
 vals : ∀ j, j < 8 → L.getD j false = true → a.tmps[20 + j]? = some (val j)
 blk : ∃ g g', (L.getD 8 false = true → a.tmps[6]? = some (.pointer (some ⟨g, 0, none⟩)) ∧ z ≤ g ∧ BlkIs t w g (if L.getD 10 false then X else Z)) ∧ (L.getD 9 false = true → a.tmps[7]? = some (.pointer (some ⟨g', 0, none⟩)) ∧ z ≤ g' ∧ BlkIs t w g' (if L.getD 11 false then Y else Z)) ∧ (L.getD 8 false = true → L.getD 9 false = true → g ≠ g')
variable {t : TypeId} {z : Nat} {w0 : World} {a0 : Act} {val : Nat → Value} {X Y Z : List Value} {L : Array Bool} {a : Act} {w : World}
theorem put_ne {a : Act} {d k : Nat} {v : Value} (h : d ≠ k) : (a.put (some d) v).tmps[k]? = a.tmps[k]?:=by
 simp only [Act.put]
 exact Array.getElem?_setIfInBounds_ne h
theorem put_eq {a : Act} {d : Nat} {v : Value} (h : d < a.tmps.size) : (a.put (some d) v).tmps[d]? = some v:=by
 simp [Act.put, h]
theorem same_put {ds : List Tmp} {a0 a : Act} {d : Nat} {v : Value} (h : sameBut ds a0 a) (hd : d ∈ ds) : sameBut ds a0 (a.put (some d) v) :=
 ⟨h.1, by simpa [Act.put] using h.2.1, fun t ht => by rw [put_ne (fun e => ht (by rw [← e]; exact hd))]; exact h.2.2 t ht⟩
theorem SInv.pureStep (h : SInv t z w0 a0 val X Y Z L a w) (hL : L.size = 12) (hs : a0.tmps.size = 123) (j : Nat) (hj : j < 8) : SInv t z w0 a0 val X Y Z (L.setIfInBounds j true) (a.put (some (20 + j)) (val j)) w:=by
 have hg:=fun k => getD_set (L:=L) (j:=j) (by omega) k
 have e8:=hg 8
 rw [if_neg (show ¬ ((8 : Nat) = j) by omega)] at e8
 have e9:=hg 9
 rw [if_neg (show ¬ ((9 : Nat) = j) by omega)] at e9
 have e10:=hg 10
 rw [if_neg (show ¬ ((10 : Nat) = j) by omega)] at e10
 have e11:=hg 11
 rw [if_neg (show ¬ ((11 : Nat) = j) by omega)] at e11
 have hsz : a.tmps.size = 123:=by rw [h.same.2.1, hs]
 refine ⟨same_put h.same (by simp; omega), h.kept, h.size, ?_, ?_, ?_, ?_⟩
 ·rw [e10, e8]; exact h.o10
 ·rw [e11, e9]; exact h.o11
 ·intro k hk hlk
  by_cases e : k = j
  ·subst e; exact put_eq (by omega)
  ·rw [put_ne (by omega)]
   rw [hg, if_neg e] at hlk
   exact h.vals k hk hlk
 ·obtain ⟨g, g', h1, h2, h3⟩:=h.blk
  refine ⟨g, g', ?_, ?_, ?_⟩
  ·rw [e8, e10, put_ne (by omega)]; exact h1
  ·rw [e9, e11, put_ne (by omega)]; exact h2
  ·rw [e8, e9]; exact h3
theorem blk_lt {g : Nat} {cs : List Value} (h : BlkIs t w g cs) : g < w.heap.size:=(Array.getElem?_eq_some_iff.1 h).1
theorem blk_alloc {g : Nat} {cs : List Value} (h : BlkIs t w g cs) (o : Obj) : BlkIs t (w.alloc o) g cs:=((Kept.refl [] w).alloc o).heap h (by simp)
theorem SInv.alloc8 (h : SInv t z w0 a0 val X Y Z L a w) (hL : L.size = 12) (hs : a0.tmps.size = 123) (h8 : L.getD 8 false = false) : SInv t z w0 a0 val X Y Z (L.setIfInBounds 8 true) (a.put (some 6) (.pointer (some ⟨w.heap.size, 0, none⟩))) (w.alloc (.cells Z.toArray t)):=by
 have hg:=fun k => getD_set (L:=L) (j:=8) (by omega) k
 have e8:=hg 8
 rw [if_pos (show (8 : Nat) = 8 from rfl)] at e8
 have e9:=hg 9
 rw [if_neg (show ¬ ((9 : Nat) = 8) by omega)] at e9
 have e10:=hg 10
 rw [if_neg (show ¬ ((10 : Nat) = 8) by omega)] at e10
 have e11:=hg 11
 rw [if_neg (show ¬ ((11 : Nat) = 8) by omega)] at e11
 have hsz : a.tmps.size = 123:=by rw [h.same.2.1, hs]
 have h10 : L.getD 10 false = false:=by
  cases e : L.getD 10 false with
  | false => rfl
  | true => rw [h.o10 e] at h8; cases h8
 refine ⟨same_put h.same (by simp), h.kept.alloc _, by rw [alloc_size]; have:=h.size; omega, ?_, ?_, ?_, ?_⟩
 ·rw [e10, e8]; exact fun _ => rfl
 ·rw [e11, e9]; exact h.o11
 ·intro k hk hlk
  rw [put_ne (by omega)]
  rw [hg, if_neg (by omega)] at hlk
  exact h.vals k hk hlk
 ·obtain ⟨g, g', h1, h2, h3⟩:=h.blk
  refine ⟨w.heap.size, g', ?_, ?_, ?_⟩
  ·rw [e8, e10, h10]
   exact fun _ => ⟨put_eq (by omega), h.size, heap_alloc_new w _⟩
  ·rw [e9, e11, put_ne (by omega)]
   exact fun h9 => ⟨(h2 h9).1, (h2 h9).2.1, blk_alloc (h2 h9).2.2 _⟩
  ·rw [e8, e9]
   exact fun _ h9 => by have:=blk_lt (h2 h9).2.2; omega
theorem SInv.alloc9 (h : SInv t z w0 a0 val X Y Z L a w) (hL : L.size = 12) (hs : a0.tmps.size = 123) (h9 : L.getD 9 false = false) : SInv t z w0 a0 val X Y Z (L.setIfInBounds 9 true) (a.put (some 7) (.pointer (some ⟨w.heap.size, 0, none⟩))) (w.alloc (.cells Z.toArray t)):=by
 have hg:=fun k => getD_set (L:=L) (j:=9) (by omega) k
 have e8:=hg 8
 rw [if_neg (show ¬ ((8 : Nat) = 9) by omega)] at e8
 have e9:=hg 9
 rw [if_pos (show (9 : Nat) = 9 from rfl)] at e9
 have e10:=hg 10
 rw [if_neg (show ¬ ((10 : Nat) = 9) by omega)] at e10
 have e11:=hg 11
 rw [if_neg (show ¬ ((11 : Nat) = 9) by omega)] at e11
 have hsz : a.tmps.size = 123:=by rw [h.same.2.1, hs]
 have h11 : L.getD 11 false = false:=by
  cases e : L.getD 11 false with
  | false => rfl
  | true => rw [h.o11 e] at h9; cases h9
 refine ⟨same_put h.same (by simp), h.kept.alloc _, by rw [alloc_size]; have:=h.size; omega, ?_, ?_, ?_, ?_⟩
 ·rw [e10, e8]; exact h.o10
 ·rw [e11, e9]; exact fun _ => rfl
 ·intro k hk hlk
  rw [put_ne (by omega)]
  rw [hg, if_neg (by omega)] at hlk
  exact h.vals k hk hlk
 ·obtain ⟨g, g', h1, h2, h3⟩:=h.blk
  refine ⟨g, w.heap.size, ?_, ?_, ?_⟩
  ·rw [e8, e10, put_ne (by omega)]
   exact fun h8 => ⟨(h1 h8).1, (h1 h8).2.1, blk_alloc (h1 h8).2.2 _⟩
  ·rw [e9, e11, h11]
   exact fun _ => ⟨put_eq (by omega), h.size, heap_alloc_new w _⟩
  ·rw [e8, e9]
   exact fun h8 _ => by have:=blk_lt (h1 h8).2.2; omega
theorem blk_row {g k : Nat} {cs cs' : List Value} (h : BlkIs t w k cs) (hk : k ≠ g) : BlkIs t (w.setRow g cs'.toArray) k cs:=by
 unfold BlkIs at h ⊢
 rw [setRow_other w g k _ hk]
 exact h
theorem SInv.store10 (h : SInv t z w0 a0 val X Y Z L a w) (hL : L.size = 12) (h8 : L.getD 8 false = true) (h10 : L.getD 10 false = false) (hz : w0.heap.size ≤ z) : ∃ g, a.tmps[6]? = some (.pointer (some ⟨g, 0, none⟩)) ∧ BlkIs t w g Z ∧ SInv t z w0 a0 val X Y Z (L.setIfInBounds 10 true) (a.put none undef) (w.setRow g X.toArray):=by
 have hg:=fun k => getD_set (L:=L) (j:=10) (by omega) k
 have e8:=hg 8
 rw [if_neg (show ¬ ((8 : Nat) = 10) by omega)] at e8
 have e9:=hg 9
 rw [if_neg (show ¬ ((9 : Nat) = 10) by omega)] at e9
 have e10:=hg 10
 rw [if_pos (show (10 : Nat) = 10 from rfl)] at e10
 have e11:=hg 11
 rw [if_neg (show ¬ ((11 : Nat) = 10) by omega)] at e11
 obtain ⟨g, g', h1, h2, h3⟩:=h.blk
 obtain ⟨e1, e2, e3⟩:=h1 h8
 rw [h10] at e3
 refine ⟨g, e1, e3, ?_⟩
 refine ⟨h.same, h.kept.setRow (.inr (by omega)) _, ?_, ?_, ?_, ?_, g, g', ?_, ?_, ?_⟩
 ·have:=((Kept.refl [g] w).setRow (g:=g) (.inl (by simp)) X.toArray).size
  have:=h.size
  omega
 ·rw [e10, e8]; exact fun _ => h8
 ·rw [e11, e9]; exact h.o11
 ·intro k hk hlk
  rw [hg, if_neg (by omega)] at hlk
  exact h.vals k hk hlk
 ·rw [e8, e10]
  exact fun _ => ⟨e1, e2, setRow_heap w g _ _ t _ e3⟩
 ·rw [e9, e11]
  exact fun h9 => ⟨(h2 h9).1, (h2 h9).2.1, blk_row (h2 h9).2.2 (fun e => h3 h8 h9 e.symm)⟩
 ·rw [e8, e9]; exact h3
theorem SInv.store11 (h : SInv t z w0 a0 val X Y Z L a w) (hL : L.size = 12) (h9 : L.getD 9 false = true) (h11 : L.getD 11 false = false) (hz : w0.heap.size ≤ z) : ∃ g, a.tmps[7]? = some (.pointer (some ⟨g, 0, none⟩)) ∧ BlkIs t w g Z ∧ SInv t z w0 a0 val X Y Z (L.setIfInBounds 11 true) (a.put none undef) (w.setRow g Y.toArray):=by
 have hg:=fun k => getD_set (L:=L) (j:=11) (by omega) k
 have e8:=hg 8
 rw [if_neg (show ¬ ((8 : Nat) = 11) by omega)] at e8
 have e9:=hg 9
 rw [if_neg (show ¬ ((9 : Nat) = 11) by omega)] at e9
 have e10:=hg 10
 rw [if_neg (show ¬ ((10 : Nat) = 11) by omega)] at e10
 have e11:=hg 11
 rw [if_pos (show (11 : Nat) = 11 from rfl)] at e11
 obtain ⟨g, g', h1, h2, h3⟩:=h.blk
 obtain ⟨e1, e2, e3⟩:=h2 h9
 rw [h11] at e3
 refine ⟨g', e1, e3, ?_⟩
 refine ⟨h.same, h.kept.setRow (.inr (by omega)) _, ?_, ?_, ?_, ?_, g, g', ?_, ?_, ?_⟩
 ·have:=((Kept.refl [g'] w).setRow (g:=g') (.inl (by simp)) Y.toArray).size
  have:=h.size
  omega
 ·rw [e10, e8]; exact h.o10
 ·rw [e11, e9]; exact fun _ => h9
 ·intro k hk hlk
  rw [hg, if_neg (by omega)] at hlk
  exact h.vals k hk hlk
 ·rw [e8, e10]
  exact fun h8 => ⟨(h1 h8).1, (h1 h8).2.1, blk_row (h1 h8).2.2 (fun e => h3 h8 h9 e)⟩
 ·rw [e9, e11]
  exact fun _ => ⟨e1, e2, setRow_heap w g' _ _ t _ e3⟩
 ·rw [e8, e9]; exact h3
end Go.Proofs.YtmpjikihnmagoaaGreatDoor
