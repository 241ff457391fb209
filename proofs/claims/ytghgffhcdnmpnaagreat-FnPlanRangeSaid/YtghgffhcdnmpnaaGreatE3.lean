/-
  The bounds on sizes of shares and members (zzFits5, zzFits3, zzFits2), whatever they say. Conditions: none.
-/
import Derived.Test.YtghgffhcdnmpnaaGreatE0
import Derived.Test.YtghgffhcdnmpnaaGreatE2
import Derived.Test.YtghgffhcdnmpnaaGreatC17
namespace Go.Proofs.YtghgffhcdnmpnaaGreat
open Go.RowKit Go.Sort
theorem sh_cells {w : World} {b off : Nat} {l : List (Sh × Value)} (hc : ∀ i v, (l.flatMap shCells)[i]? = some v → w.cell? ⟨b, off + i, none⟩ = some v) {i : Nat} {p : Sh × Value} (hp : l[i]? = some p) : ∀ j v, [Value.string p.1.mem, .string p.1.top, p.2][j]? = some v → w.cell? ⟨b, off + i * 3 + j, none⟩ = some v := by
  intro j v hv
  have hj : j < 3 := by have := (List.getElem?_eq_some_iff.1 hv).1; exact this
  have hf := flat_get shCells 3 (fun _ => rfl) (by decide) l i j hj
  rw [hp] at hf
  rw [Nat.add_assoc]
  exact hc _ _ (hf.trans hv)
set_option maxRecDepth 100000 in
set_option maxHeartbeats 800000 in
theorem fits5_any (A : Option Addr) (c : Nat) (l : List (Sh × Value)) (w : World) (h : ShsArg w (.slice A l.length c) l) : Calls Tryz.prog 16 #[.slice A l.length c] w (SomeB w) := by
  obtain ⟨A', n', c', he, hs, _, _⟩ := h.at'
  cases he
  have HS := Lib.hid hs
  have HG := Lib.hid h.good
  have h63 := hs.2.1
  have H36 := Lib.hid fits6_any
  clear hs h
  go_enter Tryz.func16, Tryz.ntmps16
  go_wp2
  · go_ret
    exact ⟨_, rfl, Kept.refl _ _⟩
  · go_loopw [10] (fun i wr => ∃ k : Nat, k ≤ l.length ∧ i = .int .i64 k ∧ Kept [] w wr) (fun i _ => l.length - (intOf i).toNat)
    case atStart => exact ⟨0, Nat.zero_le _, rfl, Kept.refl _ _⟩
    case round =>
      obtain ⟨k, hk, rfl, hkr⟩ := hrel
      have HKR := Lib.hid hkr
      clear hkr
      by_cases hlt : k < l.length
      · obtain ⟨b, off, rfl, hcc⟩ := HS.out.2.2 (by omega)
        obtain ⟨p, hp⟩ : ∃ p, l[k]? = some p := ⟨_, List.getElem?_eq_getElem hlt⟩
        have HC := Lib.hid (sh_cells (fun i v hv => HKR.out.cell (hcc i v hv) (by simp)) hp)
        obtain ⟨A2, n2, c2, hp2, _⟩ := (HG.out p (List.mem_of_getElem? hp)).parts
        rw [hp2] at HC
        clear hcc hp hp2
        go_wp2_with (first | (refine wl_load_struct rfl 53 _ rfl Tryz.underlying53 rfl rfl b (off + k * 3) rfl _ rfl HC.out ?_) | ((with_reducible refine (H36.out _ _ _ _ _ _).mono ?_); rintro e w1 ⟨bb, rfl, hk1⟩; have HK1 := Lib.hid ((HKR.out.alloc _).trans0 hk1); clear hk1))
        all_goals first
          | (go_ret; exact ⟨_, rfl, HK1.out⟩)
          | (go_roundw
             case rel => exact ⟨k + 1, by omega, by go_num, HK1.out⟩
             case measure => (simp [intOf]) <;> omega)
      · go_wp2
        go_ret
        exact ⟨_, rfl, HKR.out⟩
theorem ShsArg.kept0 {w w' : World} {v : Value} {l : List (Sh × Value)} (h : ShsArg w v l) (k : Kept [] w w') : ShsArg w' v l :=
  ⟨(h.at'.kept0 k).mono (fun _x hx => Nat.lt_of_lt_of_le hx k.size), fun p hp => ⟨(h.good p hp).mem, (h.good p hp).top, ((h.good p hp).parts.kept0 k).mono (fun _x hx => Nat.lt_of_lt_of_le hx k.size), (h.good p hp).nums⟩⟩
theorem MvGood.kept0 {w w' : World} {m : MV} (h : MvGood w m) (k : Kept [] w w') : MvGood w' m :=
  ⟨h.id, h.rack, (h.tops.kept0 k).mono (fun x hx => Nat.lt_of_lt_of_le hx k.size), h.words, h.data, by obtain ⟨A, c, l, h1, h2⟩ := h.own; exact ⟨A, c, l, h1, h2.kept0 k⟩⟩
theorem MemsArg.kept0 {w w' : World} {v : Value} {l : List MV} (h : MemsArg w v l) (k : Kept [] w w') : MemsArg w' v l :=
  ⟨(h.at'.kept0 k).mono (fun _x hx => Nat.lt_of_lt_of_le hx k.size), fun m hm => (h.good m hm).kept0 k⟩
set_option maxRecDepth 100000 in
set_option maxHeartbeats 800000 in
theorem fits3_any (id rack : ByteArray) (ver gen : Int) (A2 A3 A4 : Option Addr) (c2 n3 c3 c4 : Nat) (tops : List ByteArray) (ol : List (Sh × Value)) (hr : Bool) (w : World) (h2 : SlIs w 1 A2 tops.length (strs tops)) (h4 : ShsArg w (.slice A4 ol.length c4) ol) :
    Calls Tryz.prog 35 #[.agg #[.string id, .int .i16 ver, .slice A2 tops.length c2, .slice A3 n3 c3, .slice A4 ol.length c4, .int .i32 gen, .string rack, .bool hr]] w (SomeB w) := by
  have H4 := Lib.hid (fun W (hW : Kept [] w W) => fits4_any A2 c2 tops W (h2.kept0 hW))
  have H5 := Lib.hid (fun W (hW : Kept [] w W) => fits5_any A4 c4 ol W (h4.kept0 hW))
  clear h2 h4
  go_enter Tryz.func35, Tryz.ntmps35
  have HKA : Hid (∀ o, Kept [] w (w.alloc o)) := fun o => (Kept.refl _ _).alloc _
  go_wp2_with (first | ((with_reducible refine (H4.out _ (HKA.out _)).mono ?_); rintro e w1 ⟨b1, rfl, hk1⟩; have hb1 := hk1.heap (heap_alloc_new _ _) (by simp); have HB1 := Lib.hid hb1; have e3 : w1.cell? ⟨w.heap.size, 3, none⟩ = some (.slice A3 n3 c3) := (by simp [World.cell?, hb1]); have e4 : w1.cell? ⟨w.heap.size, 4, none⟩ = some (.slice A4 ol.length c4) := (by simp [World.cell?, hb1]); have HK1 := Lib.hid ((HKA.out _).trans0 hk1); clear hk1 hb1) | ((with_reducible refine (H5.out _ HK1.out).mono ?_); rintro e w2 ⟨b2, rfl, hk2⟩; have hb2 := hk2.heap HB1.out (by simp); have e6 : w2.cell? ⟨w.heap.size, 6, none⟩ = some (.string rack) := (by simp [World.cell?, hb2]); have HK2 := Lib.hid (HK1.out.trans0 hk2); clear hk2 hb2))
  all_goals go_ret
  all_goals first
    | exact ⟨_, rfl, HK2.out⟩
    | exact ⟨_, rfl, HK1.out⟩
    | exact ⟨_, rfl, HKA.out _⟩
set_option maxRecDepth 100000 in
set_option maxHeartbeats 800000 in
theorem fits2_any (A : Option Addr) (c : Nat) (l : List MV) (w : World) (h : MemsArg w (.slice A l.length c) l) : Calls Tryz.prog 15 #[.slice A l.length c] w (SomeB w) := by
  obtain ⟨A', n', c', he, hs, _, _⟩ := h.at'
  cases he
  have HS := Lib.hid hs
  have HG := Lib.hid h.good
  have h63 := hs.2.1
  have H35 := Lib.hid fits3_any
  clear hs h
  go_enter Tryz.func15, Tryz.ntmps15
  go_wp2
  · go_ret
    exact ⟨_, rfl, Kept.refl _ _⟩
  · go_loopw [10] (fun i wr => ∃ k : Nat, k ≤ l.length ∧ i = .int .i64 k ∧ Kept [] w wr) (fun i _ => l.length - (intOf i).toNat)
    case atStart => exact ⟨0, Nat.zero_le _, rfl, Kept.refl _ _⟩
    case round =>
      obtain ⟨k, hk, rfl, hkr⟩ := hrel
      have HKR := Lib.hid hkr
      clear hkr
      by_cases hlt : k < l.length
      · obtain ⟨b, off, rfl, hcc⟩ := HS.out.2.2 (by omega)
        obtain ⟨m, hm⟩ : ∃ m, l[k]? = some m := ⟨_, List.getElem?_eq_getElem hlt⟩
        have HC := Lib.hid (mv_cell (fun i v hv => HKR.out.cell (hcc i v hv) (by simp)) hm)
        have hg := HG.out m (List.mem_of_getElem? hm)
        obtain ⟨A2, n2, c2, hp2, ht2, _, _⟩ := hg.tops
        obtain ⟨A3, c3, hdv⟩ := hg.data
        obtain ⟨A4, c4, ol, hov, ho⟩ := hg.own
        obtain ⟨id, ver, tops, ttv, dv, ov, dn, on, gen, rack, hr⟩ := m
        simp only at hp2 hdv hov ht2 ho
        subst hp2 hdv hov
        obtain rfl : n2 = tops.length := by have := ht2.1; simpa [strs] using this.symm
        obtain rfl : on = ol.length := by
          obtain ⟨A5, n5, c5, e5, h5, _⟩ := ho.at'
          cases e5
          have := h5.1
          rw [flat_len shCells 3 (fun _ => rfl)] at this
          omega
        have HC2 : Hid (∀ j' v, [Value.string id, .int .i16 ver, .slice A2 tops.length c2, .slice A3 dn c3, .slice A4 ol.length c4, .int .i32 gen, .string rack, .bool hr][j']? = some v → wr.cell? ⟨b, off + k * 8 + j', none⟩ = some v) := HC.out
        have HT := Lib.hid ht2
        have HO := Lib.hid ho
        clear hcc hm hg HC ht2 ho
        go_wp2_with (first | (refine wl_load_struct rfl 46 _ rfl Tryz.underlying46 rfl rfl b (off + k * 8) rfl _ rfl HC2.out ?_) | ((with_reducible refine (H35.out _ _ _ _ _ _ _ _ _ _ _ _ _ _ _ (HT.out.kept0 (HKR.out.alloc _)) (HO.out.kept0 (HKR.out.alloc _))).mono ?_); rintro e w1 ⟨bb, rfl, hk1⟩; have HK1 := Lib.hid ((HKR.out.alloc _).trans0 hk1); clear hk1))
        all_goals first
          | (go_ret; exact ⟨_, rfl, HK1.out⟩)
          | (go_roundw
             case rel => exact ⟨k + 1, by omega, by go_num, HK1.out⟩
             case measure => (simp [intOf]) <;> omega)
      · go_wp2
        go_ret
        exact ⟨_, rfl, HKR.out⟩
end Go.Proofs.YtghgffhcdnmpnaaGreat
