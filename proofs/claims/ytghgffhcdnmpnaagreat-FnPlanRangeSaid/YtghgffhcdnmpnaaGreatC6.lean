/-
  Sorting of strings that a call owns: the order; sort.Strings, slices.Sort, and (sort.Sort of a StringSlice, with its doubles dropped) the strategy's own closure. Conditions: as the contracts of the shelf.
-/
import Derived.Test.YtghgffhcdnmpnaaGreatC3
import Derived.Lib.OwnBridge
namespace Go.Proofs.YtghgffhcdnmpnaaGreat
open Go.RowKit Go.Sort

def sle (a b : ByteArray) : Bool := decide (a.data.toList ≤ b.data.toList)
/-- Strings in order. -/
def srt (l : List ByteArray) : List ByteArray := l.mergeSort sle
theorem sle_trans (a b c : ByteArray) (h : sle a b = true) (k : sle b c = true) : sle a c = true := by
  simp only [sle, decide_eq_true_eq] at *
  exact List.le_trans h k
theorem sle_total (a b : ByteArray) : (sle a b || sle b a) = true := by
  simp only [sle, Bool.or_eq_true, decide_eq_true_eq]
  exact List.le_total _ _
theorem bytes_ext {a b : ByteArray} (h : a.data.toList = b.data.toList) : a = b := by
  cases a with
  | mk x =>
    cases b with
    | mk y =>
      congr 1
      exact Array.toList_inj.1 h
theorem sle_antisymm (a b : ByteArray) (h : sle a b = true) (k : sle b a = true) : a = b := by
  simp only [sle, decide_eq_true_eq] at *
  exact bytes_ext (List.le_antisymm h k)
theorem srt_perm (l : List ByteArray) : (srt l).Perm l := List.mergeSort_perm l sle
theorem srt_sorted (l : List ByteArray) : (srt l).Pairwise (fun a b => sle a b = true) := List.pairwise_mergeSort sle_trans sle_total l
theorem srt_of_perm {l l' : List ByteArray} (h : l.Perm l') : srt l = srt l' :=
  List.Perm.eq_of_pairwise (fun a b _ _ => sle_antisymm a b) (srt_sorted l) (srt_sorted l') (((srt_perm l).trans h).trans (srt_perm l').symm)
theorem srt_nodup {l : List ByteArray} (h : l.Nodup) : (srt l).Nodup := (srt_perm l).nodup_iff.2 h
theorem srt_len (l : List ByteArray) : (srt l).length = l.length := (srt_perm l).length_eq

def bl (a : ByteArray) : List UInt8 := a.data.toList
theorem srt_map (l : List ByteArray) : (l.map bl).mergeSort (fun x y => decide (x ≤ y)) = (srt l).map bl := (List.map_mergeSort (f := bl) (r := sle) (s := fun x y => decide (x ≤ y)) (fun _a _ _b _ => rfl)).symm
theorem strs_enc (l : List ByteArray) : (l.map bl).map encStr = strs l := Lib.map_encStr l

theorem kept_grow {S : List Nat} {a w : World} (h : Kept S a w) (os : Array Obj) : Kept S a (grow w os) :=
  h.trans (T := []) ⟨rfl, rfl, rfl, by simp [grow], fun k hk _ => by simp [grow, Array.getElem?_append_left hk]⟩ (fun x hx => by cases hx)
theorem kept_putRow {α : Type} [Inhabited α] (enc : α → Value) (w : World) (g off q : Nat) (d : Array α) : Kept [g] w (putRow enc (Sort.ahead w q) g off d) :=
  ⟨rfl, rfl, rfl, by simp [putRow, mapBlock, Sort.ahead], fun k _ hn => by
    have hne : ¬ g = k := fun e => hn (by simp [e])
    simp [putRow, mapBlock, Sort.ahead, Array.getElem?_modify, hne]⟩

/-- What a sorting contract leaves, in the words of owned rows. -/
theorem own_sorted {w : World} {g n cap q : Nat} {l l' : List ByteArray} (os : Array Obj) (h : w.ownsRow 0 9 1 (.slice (some ⟨g, 0, none⟩) n cap) n (strs l)) (hl : l'.length = l.length) :
    (grow (putRow encStr (Sort.ahead w q) g 0 (l'.map bl).toArray) os).ownsRow 0 9 1 (.slice (some ⟨g, 0, none⟩) n cap) n (strs l') := by
  have hn : l.length = n := by have := h.1; simpa [strs] using this
  rw [← strs_enc] at h
  have := Lib.ownsRow_putRow (q := q) (k := n) (ys := l'.map bl) h (by simp; omega) (Nat.le_refl _)
  rw [List.take_of_length_le (by simp; omega), strs_enc] at this
  exact own_kept0 this (kept_grow (Kept.refl _ _) os)

theorem own_holds {w : World} {g n cap : Nat} {l : List ByteArray} (h : w.ownsRow 0 9 1 (.slice (some ⟨g, 0, none⟩) n cap) n (strs l)) :
    Holds encStr w g 0 (l.map bl).toArray ∧ g < w.heap.size ∧ l.length = n ∧ n ≤ maxLen := by
  rw [← strs_enc] at h
  obtain ⟨g', cap', he, h1, h2, h3, h4, h5, h6⟩ := Lib.holds_of_ownsRow h (by simp)
  injection he with e1 _ e3
  injection e1 with e1
  injection e1 with e1
  subst e1
  exact ⟨h6, h2, by simpa using h5, by omega⟩

/-- sort.Strings. -/
theorem sortStrings_own (g n cap : Nat) (l : List ByteArray) (w : World) (h : w.ownsRow 0 9 1 (.slice (some ⟨g, 0, none⟩) n cap) n (strs l)) (hn : n ≤ 1000000000) :
    Calls Tryz.prog 73 #[.slice (some ⟨g, 0, none⟩) n cap] w fun e w' => e = .returned (.tuple #[]) ∧ w'.ownsRow 0 9 1 (.slice (some ⟨g, 0, none⟩) n cap) n (strs (srt l)) ∧ Kept [g] w w' := by
  obtain ⟨hH, hg, hl, _⟩ := own_holds h
  have hc := Tryz.sort_Strings g 0 cap (l.map bl) w hH hg (by simp; omega)
  rw [show (l.map bl).length = n by simpa using hl] at hc
  refine hc.mono ?_
  rintro e w' ⟨rfl, q, os, rfl⟩
  rw [srt_map]
  exact ⟨rfl, own_sorted os h (srt_len l), kept_grow (kept_putRow _ _ _ _ _ _) os⟩
/-- slices.Sort. -/
theorem slicesSort_own (g n cap : Nat) (l : List ByteArray) (w : World) (h : w.ownsRow 0 9 1 (.slice (some ⟨g, 0, none⟩) n cap) n (strs l)) (hn : n ≤ 1000000000) :
    Calls Tryz.prog 44 #[.slice (some ⟨g, 0, none⟩) n cap] w fun e w' => e = .returned (.tuple #[]) ∧ w'.ownsRow 0 9 1 (.slice (some ⟨g, 0, none⟩) n cap) n (strs (srt l)) ∧ Kept [g] w w' := by
  obtain ⟨hH, hg, hl, _⟩ := own_holds h
  have hc := Tryz.slices_Sort_string g 0 cap (l.map bl) w hH hg (by simp; omega)
  rw [show (l.map bl).length = n by simpa using hl] at hc
  refine hc.mono ?_
  rintro e w' ⟨rfl, q, os, rfl⟩
  rw [srt_map]
  exact ⟨rfl, own_sorted os h (srt_len l), kept_grow (kept_putRow _ _ _ _ _ _) os⟩

/-- sort.Sort of a StringSlice of two or more. -/
theorem sortSort_own (g n cap : Nat) (l : List ByteArray) (w : World) (h : w.ownsRow 0 9 1 (.slice (some ⟨g, 0, none⟩) n cap) n (strs l)) (h2 : 2 ≤ n) (hn : n ≤ 1000000000) :
    Calls Tryz.prog 150 #[.iface 214 (.slice (some ⟨g, 0, none⟩) n cap)] w fun e w' => e = .returned (.tuple #[]) ∧ ∃ l', l'.Perm l ∧ w'.ownsRow 0 9 1 (.slice (some ⟨g, 0, none⟩) n cap) n (strs l') ∧ Kept [g] w w' := by
  obtain ⟨hH, hg, hl, _⟩ := own_holds h
  have hsz : (l.map bl).toArray.size = n := by simpa using hl
  have fN : Finds Tryz.prog 214 "Len" 149 := fun _ _ => by kernel_rfl
  have fL : Finds Tryz.prog 214 "Less" 260 := fun _ _ => by kernel_rfl
  have fS : Finds Tryz.prog 214 "Swap" 151 := fun _ _ => by kernel_rfl
  obtain ⟨d, hd⟩ : ∃ d, (l.map bl).toArray = d := ⟨_, rfl⟩
  rw [hd] at hsz hH
  subst hsz
  have hLs := Tryz.StringSlice_LessM g 0 cap d w hH hg (by omega)
  have hLn : LenM Tryz.prog 149 (.slice (some ⟨g, 0, none⟩) d.size cap) d.size w := Tryz.StringSlice_Len _ _ _ _
  have hSw := Tryz.StringSlice_SwapM g 0 cap d.size (by omega)
  have hc := Tryz.sort_Sort_sorted 214 (.slice (some ⟨g, 0, none⟩) d.size cap) 149 260 151 (fN.reaches Tryz.func149 (by kernel_rfl) _) (fL.reaches Tryz.func260 (by kernel_rfl) _) (fS.reaches Tryz.func151 (by kernel_rfl) _) encS ltStr swo_ltStr g 0 d
    h2 (by omega) w hLn hLs hSw hH hg
  refine hc.mono ?_
  rintro e w' ⟨rfl, d', q, os, hp, _, rfl⟩
  have hp' : d'.toList.Perm (l.map bl) := by
    have h1 := hp.2.2
    have hs' : d'.size = d.size := hp.1
    rw [Array.extract_eq_self_of_le (by omega), Array.extract_eq_self_of_le (by omega), ← hd] at h1
    exact h1
  obtain ⟨l', h3, h4⟩ : ∃ l' : List ByteArray, l'.map bl = d'.toList ∧ l'.Perm l := by
    have hinv : ∀ x : List UInt8, bl ⟨x.toArray⟩ = x := fun x => rfl
    refine ⟨d'.toList.map (fun x => ⟨x.toArray⟩), ?_, ?_⟩
    · rw [List.map_map]
      exact List.map_id'' (fun x => rfl) _
    · have := hp'.map (fun x => (⟨x.toArray⟩ : ByteArray))
      rw [List.map_map, List.map_id'' (fun x => ?_)] at this
      · exact this
      · rfl
  refine ⟨rfl, l', h4, ?_, kept_grow (kept_putRow _ _ _ _ _ _) os⟩
  have := own_sorted (q := q) os h h4.length_eq
  rw [h3] at this
  simpa using this
end Go.Proofs.YtghgffhcdnmpnaaGreat
