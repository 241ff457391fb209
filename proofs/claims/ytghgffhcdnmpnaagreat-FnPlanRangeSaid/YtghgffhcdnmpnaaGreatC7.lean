/-
  The strategy's own closure that sorts and drops doubles. Conditions: the strings are different ones, one at least, not too many.
-/
import Derived.Test.YtghgffhcdnmpnaaGreatC6
namespace Go.Proofs.YtghgffhcdnmpnaaGreat
open Go.RowKit Go.Sort
def uqF (g n cap j : Nat) (x y : ByteArray) (ix : Nat) (v : Value) (_ : World) : Prop :=
  match ix with
  | 0 => v = .slice (some ⟨g, 0, none⟩) n cap
  | 1 => v = .int .i64 ((j : Int) + 1)
  | 2 => v = .pointer (some ⟨g, j + 1, none⟩)
  | 3 => v = .string x
  | 4 => v = .slice (some ⟨g, 0, none⟩) n cap
  | 5 => v = .int .i64 j
  | 6 => v = .pointer (some ⟨g, j, none⟩)
  | 7 => v = .string y
  | _ => True
theorem uqF_stable {g n cap j : Nat} {x y : ByteArray} : ∀ ix v w w', uqF g n cap j x y ix v w → Kept [] w w' → uqF g n cap j x y ix v w' := by
  intro ix v w w' h k
  unfold uqF at h ⊢
  split at h <;> (first | (exact h))

theorem len_any (v : Option Addr) (n c : Nat) (w : World) : Calls Tryz.prog 149 #[.slice v n c] w fun e w' => e = .returned (.int .i64 n) ∧ w = w' := by
  go_enter Tryz.func149, Tryz.ntmps149
  go_wp2
  go_ret
  exact ⟨rfl, rfl⟩
theorem own_cell {w : World} {base : Nat} {e : TypeId} {g n cap : Nat} {xs : List Value} (h : w.ownsRow base e 1 (.slice (some ⟨g, 0, none⟩) n cap) n xs) {i : Nat} {v : Value} (hi : xs[i]? = some v) : w.cell? ⟨g, i, none⟩ = some v ∧ w.frozen? ⟨g, i, none⟩ = false := by
  rcases h.2 with ⟨e0, _⟩ | ⟨g', cap', cur, e0, hb, hg, hn, hm, hs, ht⟩
  · cases e0
  · injection e0 with e1 _ e3
    injection e1 with e1
    injection e1 with e1
    subst e1; subst e3
    rw [← ht, List.getElem?_take] at hi
    split at hi
    · exact ⟨by simpa [World.cell?, hg] using hi, by simp [World.frozen?, hg]⟩
    · cases hi
/-- A cell that is given what it has. -/
theorem own_same {w : World} {base : Nat} {e : TypeId} {g n cap : Nat} {xs : List Value} (h : w.ownsRow base e 1 (.slice (some ⟨g, 0, none⟩) n cap) n xs) {i : Nat} {v : Value} (hi : xs[i]? = some v) : (w.setCell ⟨g, i, none⟩ v).ownsRow base e 1 (.slice (some ⟨g, 0, none⟩) n cap) n xs := by
  rcases h.2 with ⟨e0, _⟩ | ⟨g', cap', cur, e0, hb, hg, hn, hm, hs, ht⟩
  · cases e0
  · injection e0 with e1 _ e3
    injection e1 with e1
    injection e1 with e1
    subst e1; subst e3
    rw [← ht, List.getElem?_take] at hi
    split at hi
    · rename_i hin
      refine ⟨h.1, .inr ⟨g, cap, cur.setIfInBounds i v, rfl, hb, ?_, hn, hm, by simpa using hs, ?_⟩⟩
      · rw [heap_setCell_same _ _ _ _ _ _ hg]
      · rw [← ht]
        have : cur.setIfInBounds i v = cur := by
          apply Array.ext
          · simp
          · intro j h1 h2
            rw [Array.getElem_setIfInBounds (by simpa using h2)]
            split
            · rename_i hij
              subst hij
              rw [Array.getElem?_toList, Array.getElem?_eq_getElem h2] at hi
              exact (Option.some.inj hi).symm
            · rfl
        rw [this]
    · cases hi
theorem swap_same (g n cap i : Nat) (l : List ByteArray) (w : World) (h : w.ownsRow 0 9 1 (.slice (some ⟨g, 0, none⟩) n cap) n (strs l)) (hi : i < n) (hn : n ≤ 1000000000) :
    Calls Tryz.prog 151 #[.slice (some ⟨g, 0, none⟩) n cap, .int .i64 i, .int .i64 i] w fun e w' => e = .returned (.tuple #[]) ∧ w'.ownsRow 0 9 1 (.slice (some ⟨g, 0, none⟩) n cap) n (strs l) ∧ Kept [g] w w' := by
  have hl : l.length = n := (own_holds h).2.2.1
  obtain ⟨x, hx⟩ : ∃ x, l[i]? = some x := ⟨_, List.getElem?_eq_getElem (by omega)⟩
  have hs : (strs l)[i]? = some (Value.string x) := by simp [strs, hx]
  have hc := own_cell h hs
  have he : encS (bl x) = Value.string x := by
    show Value.string ⟨x.data.toList.toArray⟩ = _
    rw [Array.toArray_toList]
  have := Tryz.StringSlice_Swap g 0 cap n w (bl x) (bl x) i i hi hi (by omega) (by rw [he, Nat.zero_add]; exact hc.1) (by rw [he, Nat.zero_add]; exact hc.1) (by rw [Nat.zero_add]; exact hc.2) (by rw [Nat.zero_add]; exact hc.2)
  refine this.mono ?_
  rintro e w' ⟨rfl, q, rfl⟩
  rw [he, Nat.zero_add]
  refine ⟨rfl, own_same (own_same h hs) hs, ?_⟩
  exact (((Kept.refl [g] w).setCell (.inl (by simp)) _).setCell (.inl (by simp)) _).drewN q
set_option maxRecDepth 100000 in
set_option maxHeartbeats 1600000 in
/-- The strategy's closure that sorts and drops doubles, where there are none. -/
theorem uniq_own (g n cap : Nat) (l : List ByteArray) (w : World) (h : w.ownsRow 0 9 1 (.slice (some ⟨g, 0, none⟩) n cap) n (strs l)) (hnd : l.Nodup) (h1 : 1 ≤ n) (hn : n ≤ 1000000000) :
    Calls Tryz.prog 148 #[.slice (some ⟨g, 0, none⟩) n cap] w fun e w' => e = .returned (.slice (some ⟨g, 0, none⟩) n cap) ∧ ∃ l', l'.Perm l ∧ w'.ownsRow 0 9 1 (.slice (some ⟨g, 0, none⟩) n cap) n (strs l') ∧ Kept [g] w w' := by
  have hcap : n ≤ cap ∧ cap ≤ maxLen := by
    rcases h.2 with ⟨e0, _⟩ | ⟨g', cap', cur, e0, hb, hg, hn, hm, hs, ht⟩
    · cases e0
    · injection e0 with e1 _ e3
      subst e3
      exact ⟨hn, hm⟩
  have hcap2 : cap ≤ 9223372036854775807 := by have := hcap.2; simp only [maxLen] at this; omega
  by_cases h2 : n < 2
  · obtain rfl : n = 1 := by omega
    have HO := Lib.hid h
    clear h
    go_enter Tryz.func148, Tryz.ntmps148
    go_wp2_with (with_reducible refine (len_any _ _ _ _).mono ?_; rintro e w1 ⟨rfl, rfl⟩)
    go_ret
    exact ⟨rfl, l, List.Perm.refl _, HO.out, Kept.refl _ _⟩
  · have hS := sortSort_own g n cap l w h (by omega) hn
    have HS := Lib.hid hS
    have hln : l.length = n := (own_holds h).2.2.1
    clear h hS
    have h2' : ¬ (n : Int) < 2 := by omega
    go_enter Tryz.func148, Tryz.ntmps148
    go_wp2_with (first | (with_reducible refine (len_any _ _ _ _).mono ?_; rintro e w1 ⟨rfl, rfl⟩) | (with_reducible refine HS.out.mono ?_; rintro e w1 ⟨rfl, l1, hp, ho, hk⟩; have HP := Lib.hid hp; have HO := Lib.hid ho; have HK := Lib.hid hk; clear hp ho hk))
    have hl1 : l1.length = n := HP.out.length_eq.trans hln
    have hnd1 : l1.Nodup := HP.out.nodup_iff.2 hnd
    have HND := Lib.hid hnd1
    clear hnd1 hnd
    go_loopg [3, 4] (n - 1) (fun k x y wr => ∃ j : Nat, k = n - (j + 1) ∧ j + 1 ≤ n ∧ x = .int .i64 ((j : Int) + 1) ∧ y = .int .i64 j ∧ wr.ownsRow 0 9 1 (.slice (some ⟨g, 0, none⟩) n cap) n (strs l1) ∧ Kept [g] w wr)
    case atStart => exact ⟨0, by omega, by omega, rfl, rfl, HO.out, HK.out⟩
    case round =>
      obtain ⟨j, hk, hin, rfl, rfl, ho, hkr⟩ := hrel
      have HO1 := Lib.hid ho
      have HK1 := Lib.hid hkr
      clear ho hkr
      by_cases hlt : j + 1 < n
      · have hlt' : (j : Int) + 1 < (n : Int) := by omega
        obtain ⟨x, hx⟩ : ∃ x, l1[j + 1]? = some x := ⟨_, List.getElem?_eq_getElem (by omega)⟩
        obtain ⟨y, hy⟩ : ∃ y, l1[j]? = some y := ⟨_, List.getElem?_eq_getElem (by omega)⟩
        have hxi := (own_cell HO1.out (i := j + 1) (v := .string x) (by simp [strs, hx])).1
        have hyj := (own_cell HO1.out (i := j) (v := .string y) (by simp [strs, hy])).1
        have hxy : x ≠ y := by
          intro e
          subst e
          have := (List.getElem?_inj (by omega) HND.out).1 (hx.trans hy.symm)
          omega
        have hlj : (j : Int) < (n : Int) := by omega
        have hxy' : (x.toList == y.toList) = false := by
          simp only [beq_eq_false_iff_ne, ne_eq]
          exact fun e => hxy (bytes_ext (by rw [ByteArray.toList_eq, ByteArray.toList_eq] at e; exact e))
        clear hx hy
        go_wp2_with (first | (with_reducible refine (len_any _ _ _ _).mono ?_; rintro e w1 ⟨rfl, rfl⟩))
        refine wp_region_facts' 8 (Kept []) (uqF g n cap j x y) mixed (by kernel_rfl) ((Kept.refl _ _).drew) (fun _ _ _ h k => h.trans0 k) uqF_stable ?_ ?_
        · refine ⟨?_, ?_, ?_, ?_, ?_, ?_, ?_, ?_, trivial⟩
          all_goals go_light
          all_goals intro a W hR hs hd
          all_goals have p0 : a.tmps[0]? = some (.slice (some ⟨g, 0, none⟩) n cap) := hs.2.2 0 (by decide)
          all_goals have p3 : a.tmps[3]? = some (.int .i64 ((j : Int) + 1)) := hs.2.2 3 (by decide)
          all_goals have p4 : a.tmps[4]? = some (.int .i64 j) := hs.2.2 4 (by decide)
          all_goals have hRr : Kept [] W W := Kept.refl [] W
          all_goals have hci : W.cell? ⟨g, j + 1, none⟩ = some (.string x) := hR.cell hxi (by simp)
          all_goals have hcj : W.cell? ⟨g, j, none⟩ = some (.string y) := hR.cell hyj (by simp)
          · refine ow_value (w' := W) (v := .slice (some ⟨g, 0, none⟩) n cap) ?_ (.mk hRr rfl rfl)
            simp [go_sem, p0]
          · refine ow_value (w' := W) (v := .int .i64 ((j : Int) + 1)) ?_ (.mk hRr rfl rfl)
            simp [go_sem, p3]
          · have q0 : _ = _ := hd.1 rfl
            have q1 : _ = _ := hd.2.1 rfl
            refine ow_value (w' := W) (v := .pointer (some ⟨g, j + 1, none⟩)) ?_ (.mk hRr rfl rfl)
            simp [go_sem, q0, q1]
            intro h
            omega
          · have q2 : _ = _ := hd.1 rfl
            refine ow_value (w' := W) (v := .string x) ?_ (.mk hRr rfl rfl)
            simp [go_sem, q2, hci]
          · refine ow_value (w' := W) (v := .slice (some ⟨g, 0, none⟩) n cap) ?_ (.mk hRr rfl rfl)
            simp [go_sem, p0]
          · refine ow_value (w' := W) (v := .int .i64 j) ?_ (.mk hRr rfl rfl)
            simp [go_sem, p4]
          · have q4 : _ = _ := hd.1 rfl
            have q5 : _ = _ := hd.2.1 rfl
            refine ow_value (w' := W) (v := .pointer (some ⟨g, j, none⟩)) ?_ (.mk hRr rfl rfl)
            simp [go_sem, q4, q5, hlj]
          · have q6 : _ = _ := hd.1 rfl
            refine ow_value (w' := W) (v := .string y) ?_ (.mk hRr rfl rfl)
            simp [go_sem, q6, hcj]
        · intro f W hR hf
          obtain ⟨f0, f1, f2, f3, f4, f5, f6, f7, -⟩ := hf
          change f 18 = _ at f0
          change f 19 = _ at f1
          change f 20 = _ at f2
          change f 21 = _ at f3
          change f 22 = _ at f4
          change f 23 = _ at f5
          change f 24 = _ at f6
          change f 25 = _ at f7
          simp only [headDsts, List.take_succ_cons, List.take_zero, List.filterMap_cons, List.filterMap_nil, setAll, f0, f1, f2, f3, f4, f5, f6, f7, List.setIfInBounds_toArray, List.set_cons_succ, List.set_cons_zero, List.drop_succ_cons, List.drop_zero]
          clear f0 f1 f2 f3 f4 f5 f6 f7 f
          have HR := Lib.hid hR
          have hsw : Calls Tryz.prog 151 #[.slice (some ⟨g, 0, none⟩) n cap, .int .i64 ((j : Int) + 1), .int .i64 ((j : Int) + 1)] W _ := swap_same g n cap (j + 1) l1 W (own_kept0 HO1.out hR) (by omega) (by omega)
          have HSW := Lib.hid hsw
          clear hsw hR hxi hyj
          go_wp2_with (first | (with_reducible refine HSW.out.mono ?_; rintro e w2 ⟨rfl, ho2, hk2⟩; have HO2 := Lib.hid ho2; have HK2 := Lib.hid hk2; clear ho2 hk2))
          go_roundg (n - (j + 2))
          case measure => omega
          case rel =>
            refine ⟨j + 1, rfl, by omega, rfl, rfl, HO2.out, ?_⟩
            exact (HK1.out.trans0 HR.out).trans HK2.out (fun x hx => .inl hx)
      · obtain rfl : n = j + 1 := by omega
        have hlt' : ¬ (j : Int) + 1 < ((j : Int) + 1) := by omega
        go_wp2_with (first | (with_reducible refine (len_any _ _ _ _).mono ?_; rintro e w1 ⟨rfl, rfl⟩))
        go_ret
        exact ⟨rfl, l1, HP.out, HO1.out, HK1.out⟩

end Go.Proofs.YtghgffhcdnmpnaaGreat
