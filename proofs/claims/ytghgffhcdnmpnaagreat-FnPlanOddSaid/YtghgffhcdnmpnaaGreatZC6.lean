/-
  Sorting of strings that a call owns: the order; sort.Strings, slices.Sort, and (sort.Sort of a StringSlice, with its doubles dropped) the strategy's own closure. Conditions: as the contracts of the shelf.
-/
import Derived.Test.YtghgffhcdnmpnaaGreatZC1
import Derived.Lib.OwnBridge
import Derived.Test.YtghgffhcdnmpnaaGreatZC4
import Derived.Laws.Externs
namespace Go.Proofs.YtghgffhcdnmpnaaGreat
open Go.RowKit Go.Sort

def sle (a b : ByteArray) : Bool := decide (a.data.toList ≤ b.data.toList)
/-- Strings in order. -/
def srt (l : List ByteArray) : List ByteArray := l.mergeSort sle
theorem sle_trans (a b c : ByteArray) (h : sle a b = true) (k : sle b c = true) : sle a c = true := by
  simp only [sle, decide_eq_true_eq] at *
  exact List.le_trans h k
theorem sle_total (a b : ByteArray) : (sle a b || sle b a) = true := by
  simp only [sle, Bool.or_eq_true, decide_eq_true_eq]
  exact List.le_total _ _
theorem bytes_ext {a b : ByteArray} (h : a.data.toList = b.data.toList) : a = b := by
  cases a with
  | mk x =>
    cases b with
    | mk y =>
      congr 1
      exact Array.toList_inj.1 h
theorem sle_antisymm (a b : ByteArray) (h : sle a b = true) (k : sle b a = true) : a = b := by
  simp only [sle, decide_eq_true_eq] at *
  exact bytes_ext (List.le_antisymm h k)
theorem srt_perm (l : List ByteArray) : (srt l).Perm l := List.mergeSort_perm l sle
theorem srt_sorted (l : List ByteArray) : (srt l).Pairwise (fun a b => sle a b = true) := List.pairwise_mergeSort sle_trans sle_total l
theorem srt_of_perm {l l' : List ByteArray} (h : l.Perm l') : srt l = srt l' :=
  List.Perm.eq_of_pairwise (fun a b _ _ => sle_antisymm a b) (srt_sorted l) (srt_sorted l') (((srt_perm l).trans h).trans (srt_perm l').symm)
theorem srt_nodup {l : List ByteArray} (h : l.Nodup) : (srt l).Nodup := (srt_perm l).nodup_iff.2 h
theorem srt_len (l : List ByteArray) : (srt l).length = l.length := (srt_perm l).length_eq

def bl (a : ByteArray) : List UInt8 := a.data.toList
theorem srt_map (l : List ByteArray) : (l.map bl).mergeSort (fun x y => decide (x ≤ y)) = (srt l).map bl := (List.map_mergeSort (f := bl) (r := sle) (s := fun x y => decide (x ≤ y)) (fun _a _ _b _ => rfl)).symm
theorem strs_enc (l : List ByteArray) : (l.map bl).map encStr = strs l := Lib.map_encStr l

theorem kept_grow {S : List Nat} {a w : World} (h : Kept S a w) (os : Array Obj) : Kept S a (grow w os) :=
  h.trans (T := []) ⟨rfl, rfl, rfl, by simp [grow], fun k hk _ => by simp [grow, Array.getElem?_append_left hk]⟩ (fun x hx => by cases hx)
theorem kept_putRow {α : Type} [Inhabited α] (enc : α → Value) (w : World) (g off q : Nat) (d : Array α) : Kept [g] w (putRow enc (Sort.ahead w q) g off d) :=
  ⟨rfl, rfl, rfl, by simp [putRow, mapBlock, Sort.ahead], fun k _ hn => by
    have hne : ¬ g = k := fun e => hn (by simp [e])
    simp [putRow, mapBlock, Sort.ahead, Array.getElem?_modify, hne]⟩

/-- What a sorting contract leaves, in the words of owned rows. -/
theorem own_sorted {w : World} {g n cap q : Nat} {l l' : List ByteArray} (os : Array Obj) (h : w.ownsRow 0 9 1 (.slice (some ⟨g, 0, none⟩) n cap) n (strs l)) (hl : l'.length = l.length) :
    (grow (putRow encStr (Sort.ahead w q) g 0 (l'.map bl).toArray) os).ownsRow 0 9 1 (.slice (some ⟨g, 0, none⟩) n cap) n (strs l') := by
  have hn : l.length = n := by have := h.1; simpa [strs] using this
  rw [← strs_enc] at h
  have := Lib.ownsRow_putRow (q := q) (k := n) (ys := l'.map bl) h (by simp; omega) (Nat.le_refl _)
  rw [List.take_of_length_le (by simp; omega), strs_enc] at this
  exact own_kept0 this (kept_grow (Kept.refl _ _) os)

theorem own_holds {w : World} {g n cap : Nat} {l : List ByteArray} (h : w.ownsRow 0 9 1 (.slice (some ⟨g, 0, none⟩) n cap) n (strs l)) :
    Holds encStr w g 0 (l.map bl).toArray ∧ g < w.heap.size ∧ l.length = n ∧ n ≤ maxLen := by
  rw [← strs_enc] at h
  obtain ⟨g', cap', he, h1, h2, h3, h4, h5, h6⟩ := Lib.holds_of_ownsRow h (by simp)
  injection he with e1 _ e3
  injection e1 with e1
  injection e1 with e1
  subst e1
  exact ⟨h6, h2, by simpa using h5, by omega⟩

/-- sort.Strings. -/
theorem sortStrings_own (g n cap : Nat) (l : List ByteArray) (w : World) (h : w.ownsRow 0 9 1 (.slice (some ⟨g, 0, none⟩) n cap) n (strs l)) (hn : n ≤ 1000000000) :
    Calls Tryz.prog 73 #[.slice (some ⟨g, 0, none⟩) n cap] w fun e w' => e = .returned (.tuple #[]) ∧ w'.ownsRow 0 9 1 (.slice (some ⟨g, 0, none⟩) n cap) n (strs (srt l)) ∧ Kept [g] w w' := by
  obtain ⟨hH, hg, hl, _⟩ := own_holds h
  have hc := Tryz.sort_Strings g 0 cap (l.map bl) w hH hg (by simp; omega)
  rw [show (l.map bl).length = n by simpa using hl] at hc
  refine hc.mono ?_
  rintro e w' ⟨rfl, q, os, rfl⟩
  rw [srt_map]
  exact ⟨rfl, own_sorted os h (srt_len l), kept_grow (kept_putRow _ _ _ _ _ _) os⟩
/-- slices.Sort. -/
theorem slicesSort_own (g n cap : Nat) (l : List ByteArray) (w : World) (h : w.ownsRow 0 9 1 (.slice (some ⟨g, 0, none⟩) n cap) n (strs l)) (hn : n ≤ 1000000000) :
    Calls Tryz.prog 44 #[.slice (some ⟨g, 0, none⟩) n cap] w fun e w' => e = .returned (.tuple #[]) ∧ w'.ownsRow 0 9 1 (.slice (some ⟨g, 0, none⟩) n cap) n (strs (srt l)) ∧ Kept [g] w w' := by
  obtain ⟨hH, hg, hl, _⟩ := own_holds h
  have hc := Tryz.slices_Sort_string g 0 cap (l.map bl) w hH hg (by simp; omega)
  rw [show (l.map bl).length = n by simpa using hl] at hc
  refine hc.mono ?_
  rintro e w' ⟨rfl, q, os, rfl⟩
  rw [srt_map]
  exact ⟨rfl, own_sorted os h (srt_len l), kept_grow (kept_putRow _ _ _ _ _ _) os⟩

/-- sort.Sort of a StringSlice of two or more. -/
theorem sortSort_own (g n cap : Nat) (l : List ByteArray) (w : World) (h : w.ownsRow 0 9 1 (.slice (some ⟨g, 0, none⟩) n cap) n (strs l)) (h2 : 2 ≤ n) (hn : n ≤ 1000000000) :
    Calls Tryz.prog 150 #[.iface 214 (.slice (some ⟨g, 0, none⟩) n cap)] w fun e w' => e = .returned (.tuple #[]) ∧ ∃ l', l'.Perm l ∧ w'.ownsRow 0 9 1 (.slice (some ⟨g, 0, none⟩) n cap) n (strs l') ∧ Kept [g] w w' := by
  obtain ⟨hH, hg, hl, _⟩ := own_holds h
  have hsz : (l.map bl).toArray.size = n := by simpa using hl
  have fN : Finds Tryz.prog 214 "Len" 149 := fun _ _ => by kernel_rfl
  have fL : Finds Tryz.prog 214 "Less" 260 := fun _ _ => by kernel_rfl
  have fS : Finds Tryz.prog 214 "Swap" 151 := fun _ _ => by kernel_rfl
  obtain ⟨d, hd⟩ : ∃ d, (l.map bl).toArray = d := ⟨_, rfl⟩
  rw [hd] at hsz hH
  subst hsz
  have hLs := Tryz.StringSlice_LessM g 0 cap d w hH hg (by omega)
  have hLn : LenM Tryz.prog 149 (.slice (some ⟨g, 0, none⟩) d.size cap) d.size w := Tryz.StringSlice_Len _ _ _ _
  have hSw := Tryz.StringSlice_SwapM g 0 cap d.size (by omega)
  have hc := Tryz.sort_Sort_sorted 214 (.slice (some ⟨g, 0, none⟩) d.size cap) 149 260 151 (fN.reaches Tryz.func149 (by kernel_rfl) _) (fL.reaches Tryz.func260 (by kernel_rfl) _) (fS.reaches Tryz.func151 (by kernel_rfl) _) encS ltStr swo_ltStr g 0 d
    h2 (by omega) w hLn hLs hSw hH hg
  refine hc.mono ?_
  rintro e w' ⟨rfl, d', q, os, hp, _, rfl⟩
  have hp' : d'.toList.Perm (l.map bl) := by
    have h1 := hp.2.2
    have hs' : d'.size = d.size := hp.1
    rw [Array.extract_eq_self_of_le (by omega), Array.extract_eq_self_of_le (by omega), ← hd] at h1
    exact h1
  obtain ⟨l', h3, h4⟩ : ∃ l' : List ByteArray, l'.map bl = d'.toList ∧ l'.Perm l := by
    have hinv : ∀ x : List UInt8, bl ⟨x.toArray⟩ = x := fun x => rfl
    refine ⟨d'.toList.map (fun x => ⟨x.toArray⟩), ?_, ?_⟩
    · rw [List.map_map]
      exact List.map_id'' (fun x => rfl) _
    · have := hp'.map (fun x => (⟨x.toArray⟩ : ByteArray))
      rw [List.map_map, List.map_id'' (fun x => ?_)] at this
      · exact this
      · rfl
  refine ⟨rfl, l', h4, ?_, kept_grow (kept_putRow _ _ _ _ _ _) os⟩
  have := own_sorted (q := q) os h h4.length_eq
  rw [h3] at this
  simpa using this
end Go.Proofs.YtghgffhcdnmpnaaGreat
/-
  The strategy's own closure that sorts and drops doubles. Conditions: the strings are different ones, one at least, not too many.
-/
namespace Go.Proofs.YtghgffhcdnmpnaaGreat
open Go.RowKit Go.Sort
def uqF (g n cap j : Nat) (x y : ByteArray) (ix : Nat) (v : Value) (_ : World) : Prop :=
  match ix with
  | 0 => v = .slice (some ⟨g, 0, none⟩) n cap
  | 1 => v = .int .i64 ((j : Int) + 1)
  | 2 => v = .pointer (some ⟨g, j + 1, none⟩)
  | 3 => v = .string x
  | 4 => v = .slice (some ⟨g, 0, none⟩) n cap
  | 5 => v = .int .i64 j
  | 6 => v = .pointer (some ⟨g, j, none⟩)
  | 7 => v = .string y
  | _ => True
theorem uqF_stable {g n cap j : Nat} {x y : ByteArray} : ∀ ix v w w', uqF g n cap j x y ix v w → Kept [] w w' → uqF g n cap j x y ix v w' := by
  intro ix v w w' h k
  unfold uqF at h ⊢
  split at h <;> (first | (exact h))

theorem len_any (v : Option Addr) (n c : Nat) (w : World) : Calls Tryz.prog 149 #[.slice v n c] w fun e w' => e = .returned (.int .i64 n) ∧ w = w' := by
  go_enter Tryz.func149, Tryz.ntmps149
  go_wp2
  go_ret
  exact ⟨rfl, rfl⟩
theorem own_cell {w : World} {base : Nat} {e : TypeId} {g n cap : Nat} {xs : List Value} (h : w.ownsRow base e 1 (.slice (some ⟨g, 0, none⟩) n cap) n xs) {i : Nat} {v : Value} (hi : xs[i]? = some v) : w.cell? ⟨g, i, none⟩ = some v ∧ w.frozen? ⟨g, i, none⟩ = false := by
  rcases h.2 with ⟨e0, _⟩ | ⟨g', cap', cur, e0, hb, hg, hn, hm, hs, ht⟩
  · cases e0
  · injection e0 with e1 _ e3
    injection e1 with e1
    injection e1 with e1
    subst e1; subst e3
    rw [← ht, List.getElem?_take] at hi
    split at hi
    · exact ⟨by simpa [World.cell?, hg] using hi, by simp [World.frozen?, hg]⟩
    · cases hi
/-- A cell that is given what it has. -/
theorem own_same {w : World} {base : Nat} {e : TypeId} {g n cap : Nat} {xs : List Value} (h : w.ownsRow base e 1 (.slice (some ⟨g, 0, none⟩) n cap) n xs) {i : Nat} {v : Value} (hi : xs[i]? = some v) : (w.setCell ⟨g, i, none⟩ v).ownsRow base e 1 (.slice (some ⟨g, 0, none⟩) n cap) n xs := by
  rcases h.2 with ⟨e0, _⟩ | ⟨g', cap', cur, e0, hb, hg, hn, hm, hs, ht⟩
  · cases e0
  · injection e0 with e1 _ e3
    injection e1 with e1
    injection e1 with e1
    subst e1; subst e3
    rw [← ht, List.getElem?_take] at hi
    split at hi
    · rename_i hin
      refine ⟨h.1, .inr ⟨g, cap, cur.setIfInBounds i v, rfl, hb, ?_, hn, hm, by simpa using hs, ?_⟩⟩
      · rw [heap_setCell_same _ _ _ _ _ _ hg]
      · rw [← ht]
        have : cur.setIfInBounds i v = cur := by
          apply Array.ext
          · simp
          · intro j h1 h2
            rw [Array.getElem_setIfInBounds (by simpa using h2)]
            split
            · rename_i hij
              subst hij
              rw [Array.getElem?_toList, Array.getElem?_eq_getElem h2] at hi
              exact (Option.some.inj hi).symm
            · rfl
        rw [this]
    · cases hi
theorem swap_same (g n cap i : Nat) (l : List ByteArray) (w : World) (h : w.ownsRow 0 9 1 (.slice (some ⟨g, 0, none⟩) n cap) n (strs l)) (hi : i < n) (hn : n ≤ 1000000000) :
    Calls Tryz.prog 151 #[.slice (some ⟨g, 0, none⟩) n cap, .int .i64 i, .int .i64 i] w fun e w' => e = .returned (.tuple #[]) ∧ w'.ownsRow 0 9 1 (.slice (some ⟨g, 0, none⟩) n cap) n (strs l) ∧ Kept [g] w w' := by
  have hl : l.length = n := (own_holds h).2.2.1
  obtain ⟨x, hx⟩ : ∃ x, l[i]? = some x := ⟨_, List.getElem?_eq_getElem (by omega)⟩
  have hs : (strs l)[i]? = some (Value.string x) := by simp [strs, hx]
  have hc := own_cell h hs
  have he : encS (bl x) = Value.string x := by
    show Value.string ⟨x.data.toList.toArray⟩ = _
    rw [Array.toArray_toList]
  have := Tryz.StringSlice_Swap g 0 cap n w (bl x) (bl x) i i hi hi (by omega) (by rw [he, Nat.zero_add]; exact hc.1) (by rw [he, Nat.zero_add]; exact hc.1) (by rw [Nat.zero_add]; exact hc.2) (by rw [Nat.zero_add]; exact hc.2)
  refine this.mono ?_
  rintro e w' ⟨rfl, q, rfl⟩
  rw [he, Nat.zero_add]
  refine ⟨rfl, own_same (own_same h hs) hs, ?_⟩
  exact (((Kept.refl [g] w).setCell (.inl (by simp)) _).setCell (.inl (by simp)) _).drewN q
set_option maxRecDepth 100000 in
set_option maxHeartbeats 1600000 in
/-- The strategy's closure that sorts and drops doubles, where there are none. -/
theorem uniq_own (g n cap : Nat) (l : List ByteArray) (w : World) (h : w.ownsRow 0 9 1 (.slice (some ⟨g, 0, none⟩) n cap) n (strs l)) (hnd : l.Nodup) (h1 : 1 ≤ n) (hn : n ≤ 1000000000) :
    Calls Tryz.prog 148 #[.slice (some ⟨g, 0, none⟩) n cap] w fun e w' => e = .returned (.slice (some ⟨g, 0, none⟩) n cap) ∧ ∃ l', l'.Perm l ∧ w'.ownsRow 0 9 1 (.slice (some ⟨g, 0, none⟩) n cap) n (strs l') ∧ Kept [g] w w' := by
  have hcap : n ≤ cap ∧ cap ≤ maxLen := by
    rcases h.2 with ⟨e0, _⟩ | ⟨g', cap', cur, e0, hb, hg, hn, hm, hs, ht⟩
    · cases e0
    · injection e0 with e1 _ e3
      subst e3
      exact ⟨hn, hm⟩
  have hcap2 : cap ≤ 9223372036854775807 := by have := hcap.2; simp only [maxLen] at this; omega
  by_cases h2 : n < 2
  · obtain rfl : n = 1 := by omega
    have HO := Lib.hid h
    clear h
    go_enter Tryz.func148, Tryz.ntmps148
    go_wp2_with (with_reducible refine (len_any _ _ _ _).mono ?_; rintro e w1 ⟨rfl, rfl⟩)
    go_ret
    exact ⟨rfl, l, List.Perm.refl _, HO.out, Kept.refl _ _⟩
  · have hS := sortSort_own g n cap l w h (by omega) hn
    have HS := Lib.hid hS
    have hln : l.length = n := (own_holds h).2.2.1
    clear h hS
    have h2' : ¬ (n : Int) < 2 := by omega
    go_enter Tryz.func148, Tryz.ntmps148
    go_wp2_with (first | (with_reducible refine (len_any _ _ _ _).mono ?_; rintro e w1 ⟨rfl, rfl⟩) | (with_reducible refine HS.out.mono ?_; rintro e w1 ⟨rfl, l1, hp, ho, hk⟩; have HP := Lib.hid hp; have HO := Lib.hid ho; have HK := Lib.hid hk; clear hp ho hk))
    have hl1 : l1.length = n := HP.out.length_eq.trans hln
    have hnd1 : l1.Nodup := HP.out.nodup_iff.2 hnd
    have HND := Lib.hid hnd1
    clear hnd1 hnd
    go_loopg [3, 4] (n - 1) (fun k x y wr => ∃ j : Nat, k = n - (j + 1) ∧ j + 1 ≤ n ∧ x = .int .i64 ((j : Int) + 1) ∧ y = .int .i64 j ∧ wr.ownsRow 0 9 1 (.slice (some ⟨g, 0, none⟩) n cap) n (strs l1) ∧ Kept [g] w wr)
    case atStart => exact ⟨0, by omega, by omega, rfl, rfl, HO.out, HK.out⟩
    case round =>
      obtain ⟨j, hk, hin, rfl, rfl, ho, hkr⟩ := hrel
      have HO1 := Lib.hid ho
      have HK1 := Lib.hid hkr
      clear ho hkr
      by_cases hlt : j + 1 < n
      · have hlt' : (j : Int) + 1 < (n : Int) := by omega
        obtain ⟨x, hx⟩ : ∃ x, l1[j + 1]? = some x := ⟨_, List.getElem?_eq_getElem (by omega)⟩
        obtain ⟨y, hy⟩ : ∃ y, l1[j]? = some y := ⟨_, List.getElem?_eq_getElem (by omega)⟩
        have hxi := (own_cell HO1.out (i := j + 1) (v := .string x) (by simp [strs, hx])).1
        have hyj := (own_cell HO1.out (i := j) (v := .string y) (by simp [strs, hy])).1
        have hxy : x ≠ y := by
          intro e
          subst e
          have := (List.getElem?_inj (by omega) HND.out).1 (hx.trans hy.symm)
          omega
        have hlj : (j : Int) < (n : Int) := by omega
        have hxy' : (x.toList == y.toList) = false := by
          simp only [beq_eq_false_iff_ne, ne_eq]
          exact fun e => hxy (bytes_ext (by rw [ByteArray.toList_eq, ByteArray.toList_eq] at e; exact e))
        clear hx hy
        go_wp2_with (first | (with_reducible refine (len_any _ _ _ _).mono ?_; rintro e w1 ⟨rfl, rfl⟩))
        refine wp_region_facts' 8 (Kept []) (uqF g n cap j x y) mixed (by kernel_rfl) ((Kept.refl _ _).drew) (fun _ _ _ h k => h.trans0 k) uqF_stable ?_ ?_
        · refine ⟨?_, ?_, ?_, ?_, ?_, ?_, ?_, ?_, trivial⟩
          all_goals go_light
          all_goals intro a W hR hs hd
          all_goals have p0 : a.tmps[0]? = some (.slice (some ⟨g, 0, none⟩) n cap) := hs.2.2 0 (by decide)
          all_goals have p3 : a.tmps[3]? = some (.int .i64 ((j : Int) + 1)) := hs.2.2 3 (by decide)
          all_goals have p4 : a.tmps[4]? = some (.int .i64 j) := hs.2.2 4 (by decide)
          all_goals have hRr : Kept [] W W := Kept.refl [] W
          all_goals have hci : W.cell? ⟨g, j + 1, none⟩ = some (.string x) := hR.cell hxi (by simp)
          all_goals have hcj : W.cell? ⟨g, j, none⟩ = some (.string y) := hR.cell hyj (by simp)
          · refine ow_value (w' := W) (v := .slice (some ⟨g, 0, none⟩) n cap) ?_ (.mk hRr rfl rfl)
            simp [go_sem, p0]
          · refine ow_value (w' := W) (v := .int .i64 ((j : Int) + 1)) ?_ (.mk hRr rfl rfl)
            simp [go_sem, p3]
          · have q0 : _ = _ := hd.1 rfl
            have q1 : _ = _ := hd.2.1 rfl
            refine ow_value (w' := W) (v := .pointer (some ⟨g, j + 1, none⟩)) ?_ (.mk hRr rfl rfl)
            simp [go_sem, q0, q1]
            intro h
            omega
          · have q2 : _ = _ := hd.1 rfl
            refine ow_value (w' := W) (v := .string x) ?_ (.mk hRr rfl rfl)
            simp [go_sem, q2, hci]
          · refine ow_value (w' := W) (v := .slice (some ⟨g, 0, none⟩) n cap) ?_ (.mk hRr rfl rfl)
            simp [go_sem, p0]
          · refine ow_value (w' := W) (v := .int .i64 j) ?_ (.mk hRr rfl rfl)
            simp [go_sem, p4]
          · have q4 : _ = _ := hd.1 rfl
            have q5 : _ = _ := hd.2.1 rfl
            refine ow_value (w' := W) (v := .pointer (some ⟨g, j, none⟩)) ?_ (.mk hRr rfl rfl)
            simp [go_sem, q4, q5, hlj]
          · have q6 : _ = _ := hd.1 rfl
            refine ow_value (w' := W) (v := .string y) ?_ (.mk hRr rfl rfl)
            simp [go_sem, q6, hcj]
        · intro f W hR hf
          obtain ⟨f0, f1, f2, f3, f4, f5, f6, f7, -⟩ := hf
          change f 18 = _ at f0
          change f 19 = _ at f1
          change f 20 = _ at f2
          change f 21 = _ at f3
          change f 22 = _ at f4
          change f 23 = _ at f5
          change f 24 = _ at f6
          change f 25 = _ at f7
          simp only [headDsts, List.take_succ_cons, List.take_zero, List.filterMap_cons, List.filterMap_nil, setAll, f0, f1, f2, f3, f4, f5, f6, f7, List.setIfInBounds_toArray, List.set_cons_succ, List.set_cons_zero, List.drop_succ_cons, List.drop_zero]
          clear f0 f1 f2 f3 f4 f5 f6 f7 f
          have HR := Lib.hid hR
          have hsw : Calls Tryz.prog 151 #[.slice (some ⟨g, 0, none⟩) n cap, .int .i64 ((j : Int) + 1), .int .i64 ((j : Int) + 1)] W _ := swap_same g n cap (j + 1) l1 W (own_kept0 HO1.out hR) (by omega) (by omega)
          have HSW := Lib.hid hsw
          clear hsw hR hxi hyj
          go_wp2_with (first | (with_reducible refine HSW.out.mono ?_; rintro e w2 ⟨rfl, ho2, hk2⟩; have HO2 := Lib.hid ho2; have HK2 := Lib.hid hk2; clear ho2 hk2))
          go_roundg (n - (j + 2))
          case measure => omega
          case rel =>
            refine ⟨j + 1, rfl, by omega, rfl, rfl, HO2.out, ?_⟩
            exact (HK1.out.trans0 HR.out).trans HK2.out (fun x hx => .inl hx)
      · obtain rfl : n = j + 1 := by omega
        have hlt' : ¬ (j : Int) + 1 < ((j : Int) + 1) := by omega
        go_wp2_with (first | (with_reducible refine (len_any _ _ _ _).mono ?_; rintro e w1 ⟨rfl, rfl⟩))
        go_ret
        exact ⟨rfl, l1, HP.out, HO1.out, HK1.out⟩

end Go.Proofs.YtghgffhcdnmpnaaGreat
/-
  The core of the strategy by ranges: what it adds to a plan. Conditions: seven members at most; their row and the partitions lie apart from the plan.
-/
namespace Go.Proofs.YtghgffhcdnmpnaaGreat
open Go.RowKit Go.Sort
theorem wl_value {P : Program} {ops : Array Oper} {Q : Exit → Act → World → Prop} {o : Oper} {rest : List Oper} {a : Act} {w w' : World} {v : Value} (hg : o.guard = none) (hrun : (execOp a.eval o).run P w = .ok (.value v) w') (h : wpList P ops Q rest (a.put o.dst v) w') : wpList P ops Q (o :: rest) a w :=
  wpList_plain hg fun _ hK => ow_value hrun (hK _ _ h)
def fl (k : Nat) : Value := .float .f64 (FloatKind.f64.nearest k)
theorem pick_min : ∀ r : Nat, r < 8 → ∀ i : Nat, i < 8 → (if (FloatKind.f64.decode (FloatKind.f64.nearest r)) == .infinity true || (FloatKind.f64.decode (FloatKind.f64.nearest i)) == .infinity true then FloatKind.f64.encode (.infinity true)
      else if (FloatKind.f64.decode (FloatKind.f64.nearest r)).isNaN || (FloatKind.f64.decode (FloatKind.f64.nearest i)).isNaN then 0x7FF8000000000001
      else if (FloatKind.f64.decode (FloatKind.f64.nearest r)).isZero && (FloatKind.f64.decode (FloatKind.f64.nearest i)).isZero then (if (FloatKind.f64.decode (FloatKind.f64.nearest r)).neg == true then (FloatKind.f64.nearest r) else (FloatKind.f64.nearest i))
      else if (FloatKind.f64.decode (FloatKind.f64.nearest r)).order (FloatKind.f64.decode (FloatKind.f64.nearest i)) == some .lt then (FloatKind.f64.nearest r) else (FloatKind.f64.nearest i)) = FloatKind.f64.nearest ((min r i : Nat) : Int) := by
  decide +kernel
theorem run_min (r i : Nat) (hr : r < 8) (hi : i < 8) (w : World) : (callFunc 89 #[fl r, fl i]).run Tryz.prog w = .ok (.value (fl (min r i))) w := by
  rw [run_callFunc_extern (e := Extern.MathDim.pick "math.archMin" true .lt) Tryz.func89 (by kernel_rfl) (by kernel_rfl) (by kernel_rfl) (by kernel_rfl)]
  have h := pick_min r hr i hi
  have h2 : Extern.MathDim.pick "math.archMin" true .lt #[fl r, fl i] = pure (.float .f64 (FloatKind.f64.nearest ((min r i : Nat) : Int))) := by
    rw [← h]
    rfl
  rw [h2]
  rfl
set_option maxRecDepth 100000 in
theorem min_any (r i : Nat) (hr : r < 8) (hi : i < 8) (w : World) : Calls Tryz.prog 74 #[fl r, fl i] w fun e w' => e = .returned (fl (min r i)) ∧ w = w' := by
  have hm := run_min r i hr hi w
  obtain ⟨x, hx⟩ : ∃ x, fl r = x := ⟨_, rfl⟩
  obtain ⟨y, hy⟩ : ∃ y, fl i = y := ⟨_, rfl⟩
  obtain ⟨z, hz⟩ : ∃ z, fl (min r i) = z := ⟨_, rfl⟩
  rw [hx, hy, hz] at hm
  rw [hx, hy, hz]
  go_enter Tryz.func74, Tryz.ntmps74
  go_wp2_with (refine wl_value rfl (w' := w) (v := z) (by simp [go_sem, hm]) ?_)
  go_ret
  exact ⟨rfl, rfl⟩
theorem float_int : ∀ k : Nat, k < 16 → floatToIntVal .f64 (floatOfInt .f64 (k : Int)) .i64 = some (k : Int) := by decide +kernel
/-- What the i-th of n members gets of some partitions, by ranges. -/
def rlo (m n i : Nat) : Nat := i * (m / n) + min (m % n) i
def rhi (m n i : Nat) : Nat := rlo m n i + m / n + (if i < m % n then 1 else 0)
def rpart (ps : List Int) (n i : Nat) : List Int := (ps.take (rhi ps.length n i)).drop (rlo ps.length n i)
def rfold (f : ByteArray → ByteArray → List Int) (ids : List ByteArray) (t : ByteArray) (ps : List Int) (n : Nat) : Nat → ByteArray → ByteArray → List Int
  | 0 => f
  | j + 1 => let g := rfold f ids t ps n j
    match ids[j]? with
    | some k => upd2 g k t (g k t ++ rpart ps n j)
    | none => g
theorem rpart_len (ps : List Int) (n i : Nat) : (rpart ps n i).length ≤ ps.length := by
  simp only [rpart, List.length_drop, List.length_take]
  omega
theorem rfold_len (f : ByteArray → ByteArray → List Int) (ids : List ByteArray) (t : ByteArray) (ps : List Int) (n : Nat) (k s : ByteArray) : ∀ j, (rfold f ids t ps n j k s).length ≤ (f k s).length + j * ps.length
  | 0 => by simp [rfold]
  | j + 1 => by
    have h := rfold_len f ids t ps n k s j
    have h2 := rpart_len ps n j
    rw [Nat.add_mul]
    cases hj : ids[j]? with
    | some k' =>
      simp only [rfold, hj]
      by_cases hk : k = k' ∧ s = t
      · rw [hk.1, hk.2] at h ⊢
        simp only [upd2, and_self, if_true, List.length_append]
        omega
      · simp only [upd2, hk, if_false]
        omega
    | none =>
      simp only [rfold, hj]
      omega
theorem rhi_le (m n i : Nat) (hi : i < n) : rhi m n i ≤ m := by
  have hm := Nat.div_add_mod m n
  have hr := Nat.mod_lt m (show 0 < n by omega)
  have : (i + 1) * (m / n) ≤ n * (m / n) := Nat.mul_le_mul_right _ (by omega)
  rw [Nat.add_mul] at this
  unfold rhi rlo
  split <;> omega
theorem rlo_le (m n i : Nat) : rlo m n i ≤ rhi m n i := Nat.le_trans (Nat.le_add_right _ _) (Nat.le_add_right _ _)
theorem wl_slice {P : Program} {ops : Array Oper} {Q : Exit → Act → World → Prop} {o : Oper} {rest : List Oper} {a : Act} {w : World} {v : Value} (hg : o.guard = none) (t : TypeId) (x lo hi : Operand) (hop : o.op = .slice t x (some lo) (some hi) none)
    (hrun : (Instr.sliceAt t (a.eval x) (some (a.eval lo)) (some (a.eval hi)) none).run P w = .ok v w) (h : wpList P ops Q rest (a.put o.dst v) w) : wpList P ops Q (o :: rest) a w :=
  wl_value hg (by simp [execOp, hop, hrun, Result.andThen]) h
set_option maxRecDepth 100000 in
set_option maxHeartbeats 1600000 in
/-- The core of the strategy by ranges. -/
theorem rangeCore_any (S : List Nat) (b : Nat) (f : ByteArray → ByteArray → List Int) (g n cap : Nat) (ids : List ByteArray) (topic : ByteArray) (v : Value) (X : Nat → Prop) (ps : List Int) (w : World)
    (hP : PlanIs w S b f) (hu : w.ownsRow 0 9 1 (.slice (some ⟨g, 0, none⟩) n cap) n (strs ids)) (hg : g ∉ S) (hv : SlAt w X 1 v (ints ps)) (hX : ∀ x, X x → x ∉ S ∧ x ≠ g ∧ x < w.heap.size) (hn1 : 1 ≤ n) (hn6 : n ≤ 7) (hps : ps.length ≤ 1000000) (hf : ∀ k t, (f k t).length ≤ 1000000) :
    Calls Tryz.prog 72 #[.map (some b), .slice (some ⟨g, 0, none⟩) n cap, .string topic, v] w fun e w' => e = .returned (.tuple #[]) ∧ ∃ S', PlanIs w' S' b (rfold f (srt ids) topic ps n n) ∧ Kept (g :: S) w w' ∧ ∀ x ∈ S', x ∈ S ∨ w.heap.size ≤ x := by
  obtain ⟨A, m, c, hvv, hvs⟩ : ∃ A m c, v = .slice A m c ∧ SlAt w X 1 v (ints ps) := by
    obtain ⟨A, m, c, h, h2⟩ := hv
    exact ⟨A, m, c, h, A, m, c, h, h2⟩
  subst hvv
  have hpm : ps.length = m := by
    obtain ⟨A', m', c', h, h2, _⟩ := hvs
    injection h with e1 e2 e3
    have := h2.1
    simp [ints] at this
    omega
  have hglt : g < w.heap.size := own_lt hu g rfl
  have hS := sortStrings_own g n cap ids w hu (by omega)
  have HS := Lib.hid hS
  have hl1 : (srt ids).length = n := by rw [srt_len]; exact (own_holds hu).2.2.1
  obtain ⟨l1, hl⟩ : ∃ l1, srt ids = l1 := ⟨_, rfl⟩
  rw [hl] at HS hl1 ⊢
  have HP := Lib.hid hP
  have HV := Lib.hid hvs
  have HX := Lib.hid hX
  have HF := Lib.hid hf
  clear hP hu hvs hX hf hS hv hl
  obtain ⟨q, hq⟩ : ∃ q, ps.length / n = q := ⟨_, rfl⟩
  obtain ⟨r, hr⟩ : ∃ r, ps.length % n = r := ⟨_, rfl⟩
  have hqm : q ≤ 1000000 := by rw [← hq]; exact Nat.le_trans (Nat.div_le_self _ _) hps
  have hrn : r < n := by rw [← hr]; exact Nat.mod_lt _ (by omega)
  have hquo : Int.tdiv (m : Int) (n : Int) = (q : Int) := by rw [← hq, hpm]; rfl
  have hrem : Int.tmod (m : Int) (n : Int) = (r : Int) := by rw [← hr, hpm]; rfl
  have hn0 : ¬ ((n : Int) = 0) := by omega
  have HPM := Lib.hid hpm
  clear hpm
  go_enter Tryz.func72, Tryz.ntmps72
  go_wp2_with (first | (with_reducible refine HS.out.mono ?_; rintro e w1 ⟨rfl, ho, hk⟩; have HO := Lib.hid ho; have HK := Lib.hid hk; clear ho hk))
  go_loopg [29] n (fun k x wr => ∃ j : Nat, k = n - j ∧ j ≤ n ∧ x = .int .i64 j ∧ wr.ownsRow 0 9 1 (.slice (some ⟨g, 0, none⟩) n cap) n (strs l1) ∧ ∃ S', PlanIs wr S' b (rfold f l1 topic ps n j) ∧ Kept (g :: S) w wr ∧ ∀ x ∈ S', x ∈ S ∨ w.heap.size ≤ x)
  case atStart =>
    refine ⟨0, rfl, Nat.zero_le _, rfl, HO.out, S, HP.out.kept HK.out (fun x hx hm => hg ((List.mem_singleton.1 hm) ▸ hx)), HK.out.mono (fun x hx => by simp at hx; simp [hx]), fun x hx => .inl hx⟩
  case round =>
    obtain ⟨j, hk, hj, rfl, ho, S1, hP1, hK1, hS1⟩ := hrel
    have HO1 := Lib.hid ho
    have HP1 := Lib.hid hP1
    have HK1 := Lib.hid hK1
    have HS1 := Lib.hid hS1
    clear ho hP1 hK1 hS1
    by_cases hlt : j < n
    · have hlt' : (j : Int) < (n : Int) := by omega
      obtain ⟨x, hx⟩ : ∃ x, l1[j]? = some x := ⟨_, List.getElem?_eq_getElem (by omega)⟩
      have hxc := (own_cell HO1.out (i := j) (v := .string x) (by simp [strs, hx])).1
      have HX1 := Lib.hid hx
      clear hx
      obtain ⟨k, hkm⟩ : ∃ k, min r j = k := ⟨_, rfl⟩
      have hm := fun W => min_any r j (by omega) (by omega) W
      rw [hkm] at hm
      have HM : Hid (∀ W, Calls Tryz.prog 74 #[Value.float FloatKind.f64 (floatOfInt FloatKind.f64 (r : Int)), Value.float FloatKind.f64 (floatOfInt FloatKind.f64 (j : Int))] W fun e w' => e = .returned (.float .f64 (floatOfInt .f64 (k : Int))) ∧ W = w') := hm
      obtain ⟨p, hp⟩ : ∃ p, j * q = p := ⟨_, rfl⟩
      have hjq : (j : Int) * (q : Int) = (p : Int) := by rw [← hp]; rfl
      have hpm : p ≤ 7000000 := by rw [← hp]; exact Nat.le_trans (Nat.mul_le_mul (show j ≤ 7 by omega) hqm) (by omega)
      have hkr : k ≤ 7 := by omega
      have hcb : ∀ W, (convert 126 3 (Value.float FloatKind.f64 (floatOfInt FloatKind.f64 (k : Int)))).run Tryz.prog W = .ok (.int .i64 k) W := fun W => run_convert_float_int W 126 3 .f64 .i64 _ _ (by kernel_rfl) Tryz.underlying3 (float_int k (by omega))
      clear hm
      have hsub : ∀ e, (e = if j < r then 1 else 0) → p + k + q + e = rhi ps.length n j ∧ p + k = rlo ps.length n j := by
        intro e he
        unfold rhi rlo
        rw [hq, hr, ← he]
        omega
      have HSUB := Lib.hid hsub
      clear hsub
      have hV1 : SlAt wr X 1 (.slice A m c) (ints ps) := HV.out.kept HK1.out (fun x hx hm => by
        have h := HX.out x hx
        rcases List.mem_cons.1 hm with h2 | h2
        · exact h.2.1 h2
        · exact h.1 h2)
      have hpart : ∀ e, (e = if j < r then 1 else 0) → ∃ v', (Instr.sliceAt 49 (.slice A m c) (some (.int .i64 ((p + k : Nat) : Int))) (some (.int .i64 ((p + k + q + e : Nat) : Int))) none).run Tryz.prog wr = .ok v' wr ∧ SlAt wr X 1 v' (ints (rpart ps n j)) := by
        intro e he
        have h1 := HSUB.out e he
        have h2 := rhi_le ps.length n j hlt
        have h3 := rlo_le ps.length n j
        obtain ⟨v', h4, h5⟩ := run_slice_sub (P := Tryz.prog) (t := 49) (e := 21) Tryz.underlying49 (by kernel_rfl) hV1 (p + k) (p + k + q + e) (by omega) (by have := HPM.out; omega)
        refine ⟨v', h4, ?_⟩
        have h6 : ints (rpart ps n j) = ((ints ps).take (p + k + q + e)).drop (p + k) := by
          rw [h1.1, h1.2]
          unfold rpart ints
          rw [List.map_drop, List.map_take]
        rw [h6]
        exact h5
      have hadd : ∀ v', SlAt wr X 1 v' (ints (rpart ps n j)) → Calls Tryz.prog 75 #[.map (some b), .string x, .string topic, v'] wr fun e w' => e = .returned (.tuple #[]) ∧ wr = wr ∧ ∃ S', PlanIs w' S' b (rfold f l1 topic ps n (j + 1)) ∧ Kept (g :: S) w w' ∧ w'.ownsRow 0 9 1 (.slice (some ⟨g, 0, none⟩) n cap) n (strs l1) ∧ ∀ x ∈ S', x ∈ S ∨ w.heap.size ≤ x := by
        intro v' hv'
        have h1 := rfold_len f l1 topic ps n x topic j
        have h2 := HF.out x topic
        have h3 := rpart_len ps n j
        have h4 : j * ps.length ≤ 7 * 1000000 := Nat.mul_le_mul (by omega) hps
        have hgS : g ∉ S1 := fun hm => by
          rcases HS1.out g hm with h | h
          · exact hg h
          · omega
        refine (add_any S1 b (rfold f l1 topic ps n j) x topic v' X (rpart ps n j) wr HP1.out hv' (fun y hy hm => ?_) (by omega)).mono ?_
        · have h := HX.out y hy
          rcases HS1.out y hm with h5 | h5
          · exact h.1 h5
          · omega
        · rintro e w' ⟨rfl, S2, hP2, hK2, hS2⟩
          refine ⟨rfl, rfl, S2, ?_, ?_, ?_, ?_⟩
          · simp only [rfold, HX1.out]
            exact hP2
          · exact HK1.out.trans hK2 (fun y hy => (HS1.out y hy).imp (fun h => .tail _ h) id)
          · exact hK2.own HO1.out (fun g' hg' hm => by
              have : g = g' := by simpa [Value.ownBlock] using hg'
              exact hgS (this ▸ hm))
          · intro y hy
            rcases hS2 y hy with h | h
            · exact HS1.out y h
            · have := HK1.out.size
              exact .inr (by omega)
      by_cases hjr : j < r
      · have hjr' : (j : Int) < (r : Int) := by omega
        obtain ⟨v', hv1, hv2⟩ := hpart 1 (by rw [if_pos hjr])
        have hv3 : (Instr.sliceAt 49 (.slice A m c) (some (.int .i64 ((p : Int) + k))) (some (.int .i64 ((p : Int) + k + q + 1))) none).run Tryz.prog wr = .ok v' wr := hv1
        have HV3 := Lib.hid hv3
        clear hv1 hv3
        have HADD := Lib.hid (hadd v' hv2)
        clear hpart hadd hv2 hV1
        go_wp2_with (first | (with_reducible refine (HM.out _).mono ?_; rintro e w2 ⟨rfl, rfl⟩) | (with_reducible refine HADD.out.mono ?_; rintro e w2 ⟨rfl, _, S2, hP2, hK2, ho2, hS2⟩; have HP2 := Lib.hid hP2; have HK2 := Lib.hid hK2; have HO2 := Lib.hid ho2; have HS2 := Lib.hid hS2; clear hP2 hK2 ho2 hS2) | (refine wl_slice rfl 49 (.tmp 55) (.tmp 56) (.tmp 57) rfl HV3.out ?_))
        go_roundg (n - (j + 1))
        case measure => omega
        case rel => exact ⟨j + 1, rfl, by omega, rfl, HO2.out, S2, HP2.out, HK2.out, HS2.out⟩
      · have hjr' : ¬ (j : Int) < (r : Int) := by omega
        obtain ⟨v', hv1, hv2⟩ := hpart 0 (by rw [if_neg hjr])
        have hv3 : (Instr.sliceAt 49 (.slice A m c) (some (.int .i64 ((p : Int) + k))) (some (.int .i64 ((p : Int) + k + q))) none).run Tryz.prog wr = .ok v' wr := hv1
        have HV3 := Lib.hid hv3
        clear hv1 hv3
        have HADD := Lib.hid (hadd v' hv2)
        clear hpart hadd hv2 hV1
        go_wp2_with (first | (with_reducible refine (HM.out _).mono ?_; rintro e w2 ⟨rfl, rfl⟩) | (with_reducible refine HADD.out.mono ?_; rintro e w2 ⟨rfl, _, S2, hP2, hK2, ho2, hS2⟩; have HP2 := Lib.hid hP2; have HK2 := Lib.hid hK2; have HO2 := Lib.hid ho2; have HS2 := Lib.hid hS2; clear hP2 hK2 ho2 hS2) | (refine wl_slice rfl 49 (.tmp 55) (.tmp 56) (.tmp 57) rfl HV3.out ?_))
        go_roundg (n - (j + 1))
        case measure => omega
        case rel => exact ⟨j + 1, rfl, by omega, rfl, HO2.out, S2, HP2.out, HK2.out, HS2.out⟩
    · obtain rfl : j = n := by omega
      have hlt' : ¬ (j : Int) < (j : Int) := by omega
      go_wp2
      refine bodyPost_end (results_none rfl _ _ _) rfl ?_
      exact ⟨rfl, S1, HP1.out, HK1.out, HS1.out⟩

end Go.Proofs.YtghgffhcdnmpnaaGreat
