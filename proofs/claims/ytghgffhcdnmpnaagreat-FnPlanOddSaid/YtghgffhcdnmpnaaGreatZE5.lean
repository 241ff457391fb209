/-
  groupFits: what is known of a group that it lets through. Conditions: none.
-/
import Derived.Test.YtghgffhcdnmpnaaGreatZE0
import Derived.Test.YtghgffhcdnmpnaaGreatZC15
namespace Go.Proofs.YtghgffhcdnmpnaaGreat
open Go.RowKit Go.Sort
structure TopOk (t : Sh) : Prop where
  word : wordB t.top = true
  one : 1 ≤ t.parts.length
  ten : t.parts.length ≤ 10
  nums : ∀ (k : Nat) (p : Int), t.parts[k]? = some p → p = (k : Int)
structure MemOk (m : MV) : Prop where
  word : wordB m.id = true
  six : m.tops.length ≤ 6
  data : m.dn = 0
  own : m.on = 0
  words : ∀ (k : Nat) (s : ByteArray), m.tops[k]? = some s → wordB s = true
  once : ∀ (k j : Nat) (a b : ByteArray), k < j → m.tops[k]? = some a → m.tops[j]? = some b → a ≠ b
structure Fits (ms : List MV) (ts : List Sh) : Prop where
  m1 : 1 ≤ ms.length
  m6 : ms.length ≤ 6
  t1 : 1 ≤ ts.length
  t6 : ts.length ≤ 6
  wanted : wantedB ms ts = true
  tops : ∀ (i : Nat) (t : Sh), ts[i]? = some t → TopOk t
  sorted : ∀ (i : Nat) (a b : Sh), ts[i]? = some a → ts[i + 1]? = some b → slt a.top b.top = true
  mems : ∀ (i : Nat) (m : MV), ms[i]? = some m → MemOk m
  ids : ∀ (i j : Nat) (a b : MV), i < j → ms[i]? = some a → ms[j]? = some b → a.id ≠ b.id
theorem cell_alloc_new (w : World) (cs : Array Value) (T : TypeId) (fr : Nat × Nat) (i : Nat) : (w.alloc (.cells cs T fr)).cell? ⟨w.heap.size, i, none⟩ = cs[i]? := by
  simp only [World.cell?, heap_alloc_new]
  simp
theorem bytesLess_slt (s t : ByteArray) : Op.bytesLess s.toList t.toList = slt s t := by
  rw [bytesLess_eq, ByteArray.toList_eq, ByteArray.toList_eq]
  rfl
def FitsR (ms : List MV) (ts : List Sh) (w : World) (e : Ending) (w' : World) : Prop := ∃ b : Bool, e = .returned (.bool b) ∧ (b = true → Fits ms ts) ∧ Kept [] w w'
theorem FitsR.no {ms : List MV} {ts : List Sh} {w w' : World} (h : Kept [] w w') : FitsR ms ts w (.returned (.bool false)) w' := ⟨false, rfl, by simp, h⟩
set_option maxRecDepth 100000 in
set_option maxHeartbeats 6400000 in
theorem groupFits_any (A B : Option Addr) (c d : Nat) (ms : List MV) (l : List (Sh × Value)) (w : World) (hm : MemsArg w (.slice A ms.length c) ms) (ht : ShsArg w (.slice B l.length d) l) :
    Calls Tryz.prog 17 #[.slice A ms.length c, .slice B l.length d] w (FitsR ms (l.map Prod.fst) w) := by
  obtain ⟨A', n', c', he, hms, _, _⟩ := hm.at'
  cases he
  obtain ⟨B', n', d', he, hts, _, _⟩ := ht.at'
  cases he
  have HMS := Lib.hid hms
  have HTS := Lib.hid hts
  have HM := Lib.hid hm
  have HT := Lib.hid ht
  have h63 := hms.2.1
  have h64 := hts.2.1
  have HWA := Lib.hid (fun W (hW : Kept [] w W) => wanted_any _ _ _ _ _ _ W (hm.mems.kept0 hW) (ht.shs.kept0 hW))
  have HWD := Lib.hid word_any
  clear hms hts hm ht
  go_enter Tryz.func17, Tryz.ntmps17
  go_wp2_with (first | ((with_reducible refine (HWA.out _ (Kept.refl _ _)).mono ?_); rintro e w1 ⟨rfl, hk1⟩; have HK1 := Lib.hid hk1; clear hk1))
  · go_ret
    exact FitsR.no HK1.out
  rotate_left
  · go_ret
    exact FitsR.no (Kept.refl _ _)
  · go_ret
    exact FitsR.no (Kept.refl _ _)
  · go_ret
    exact FitsR.no (Kept.refl _ _)
  · go_ret
    exact FitsR.no (Kept.refl _ _)
  have HWB : Hid (wantedB ms (l.map Prod.fst) = true) := by
    have h := (‹_ ∧ (!wantedB ms (l.map Prod.fst)) = false›).2
    have h2 : wantedB ms (l.map Prod.fst) = true := by simpa using h
    exact h2
  have hm1 : 1 ≤ ms.length := by omega
  have hm6 : ms.length ≤ 6 := by omega
  have ht1 : 1 ≤ l.length := by omega
  have ht6 : l.length ≤ 6 := by omega
  have hA : decide ((ms.length : Int) < 1) = false := by rw [decide_eq_false_iff_not]; omega
  have hB : decide (6 < (ms.length : Int)) = false := by rw [decide_eq_false_iff_not]; omega
  have hC : decide ((l.length : Int) < 1) = false := by rw [decide_eq_false_iff_not]; omega
  have hD : decide (6 < (l.length : Int)) = false := by rw [decide_eq_false_iff_not]; omega
  simp only [hA, hB, hC, hD, HWB.out, Bool.or_false, Bool.not_true]
  clear hA hB hC hD
  go_loopw [5] (fun i wr => ∃ k : Nat, k ≤ l.length ∧ i = .int .i64 k ∧ ((∀ j p, j < k → l[j]? = some p → TopOk p.1) ∧ (∀ j a b, j + 1 < k → l[j]? = some a → l[j + 1]? = some b → slt a.1.top b.1.top = true)) ∧ Kept [] w wr) (fun i _ => l.length - (intOf i).toNat)
  case atStart => exact ⟨0, Nat.zero_le _, rfl, ⟨by omega, by omega⟩, HK1.out⟩
  case round =>
    obtain ⟨k, hk, rfl, htp, hkr⟩ := hrel
    have HKR := Lib.hid hkr
    have HTP := Lib.hid htp
    clear hkr htp
    by_cases hlt : k < l.length
    · obtain ⟨b, off, rfl, hcc⟩ := HTS.out.2.2 (by omega)
      obtain ⟨p, hp⟩ : ∃ p, l[k]? = some p := ⟨_, List.getElem?_eq_getElem hlt⟩
      have HC := Lib.hid (sh_cells (fun i v hv => HKR.out.cell (hcc i v hv) (by simp)) hp)
      have HCC := Lib.hid hcc
      have hg := HT.out.good p (List.mem_of_getElem? hp)
      obtain ⟨A2, n2, c2, hp2, hpi, _, _⟩ := hg.parts
      rw [hp2] at HC
      have HP := Lib.hid hp
      have HPI := Lib.hid hpi
      have hts := hg.top
      obtain rfl : n2 = p.1.parts.length := by have := hpi.1; simpa [ints] using this.symm
      clear hcc hp hp2 hg hpi
      go_wp2_with (first | (refine wl_load_struct rfl 53 _ rfl Tryz.underlying53 rfl rfl b (off + k * 3) rfl _ rfl HC.out ?_))
      obtain ⟨z, hz⟩ : ∃ z, wr.heap.size = z := ⟨_, rfl⟩
      obtain ⟨W1, hW1⟩ : ∃ W1, wr.alloc (Obj.cells #[Value.string p.1.mem, .string p.1.top, .slice A2 p.1.parts.length c2] 53) = W1 := ⟨_, rfl⟩
      have hzw : w.heap.size ≤ z := by have := HKR.out.size; omega
      have hz1 : z < W1.heap.size := by rw [← hW1, ← hz]; simp
      have e1 : W1.cell? ⟨z, 1, none⟩ = some (.string p.1.top) := by rw [← hW1, ← hz, cell_alloc_new]; rfl
      have e2 : W1.cell? ⟨z, 2, none⟩ = some (.slice A2 p.1.parts.length c2) := by rw [← hW1, ← hz, cell_alloc_new]; rfl
      have HK2 : Hid (Kept [] w W1) := by rw [← hW1]; exact HKR.out.alloc _
      rw [hz, hW1]
      obtain ⟨t, ht⟩ : ∃ t, p.1.top = t := ⟨_, rfl⟩
      obtain ⟨ps, hps⟩ : ∃ ps, p.1.parts = ps := ⟨_, rfl⟩
      obtain ⟨np, hnp⟩ : ∃ np, p.1.parts.length = np := ⟨_, rfl⟩
      rw [hnp] at e2 HPI
      rw [hps] at HPI hnp
      have HNP := Lib.hid hnp
      rw [ht] at e1 hts
      have HT1 := Lib.hid ht
      have HT2 := Lib.hid hps
      have HWP := Lib.hid (fun W => (HWD.out t W hts))
      clear hz hW1 HC ht hps hnp
      by_cases hw : wordB t = true
      rotate_left
      · have hw' : wordB t = false := by simpa using hw
        rw [hw'] at HWP
        clear hw hw'
        go_big_quiet (exact (HWP.out _).mono fun _ _ h => ⟨h.1, _, h.2.symm⟩)
        go_wp2
        go_ret
        exact FitsR.no (HK2.out.drewN _)
      rw [hw] at HWP
      have hstep : (∃ j a, k = j + 1 ∧ l[j]? = some a ∧ slt a.1.top t = false) ∨ k = 0 ∨ (∃ j a, k = j + 1 ∧ l[j]? = some a ∧ slt a.1.top t = true) := by
        rcases Nat.eq_zero_or_pos k with h | h
        · exact .inr (.inl h)
        · obtain ⟨j, rfl⟩ : ∃ j, k = j + 1 := ⟨k - 1, by omega⟩
          have hj : j < l.length := by omega
          cases hb : slt l[j].1.top t with
          | false => exact .inl ⟨j, l[j], rfl, List.getElem?_eq_getElem hj, hb⟩
          | true => exact .inr (.inr ⟨j, l[j], rfl, List.getElem?_eq_getElem hj, hb⟩)
      rcases hstep with ⟨jj, a, hkj, hja, hsl⟩ | hstep
      · have hbl : Op.bytesLess a.1.top.toList t.toList = false := (bytesLess_slt _ _).trans hsl
        have e3 : W1.cell? ⟨b, off + jj * 3 + 1, none⟩ = some (.string a.1.top) := HK2.out.cell (sh_cells HCC.out hja 1 _ rfl) (by simp)
        have hwr : IntKind.i64.wrap ((k : Int) - 1) = jj := by rw [IntWalk.i64_in _ (by omega)]; omega
        have hjl : jj < l.length := by omega
        have hk0 : 0 < k := by omega
        clear hja hsl hkj
        go_big_quiet (exact (HWP.out _).mono fun _ _ h => ⟨h.1, _, h.2.symm⟩)
        go_wp2
        go_ret
        exact FitsR.no (HK2.out.drewN _)
      have HST : Hid (∀ j a, j + 1 = k → l[j]? = some a → slt a.1.top t = true) := by
        intro j a hj ha
        rcases hstep with h | ⟨j', a', h1, h2, h3⟩
        · omega
        · obtain rfl : j = j' := by omega
          rw [h2] at ha
          cases ha
          exact h3
      have HPR : Hid (k = 0 ∨ ∃ jj a, k = jj + 1 ∧ l[jj]? = some a ∧ slt a.1.top t = true) := hstep
      clear hstep
      by_cases hn1 : np = 0
      · subst hn1
        rcases HPR.out with hk0 | ⟨jj, a, hkj, hja, hsl⟩
        · have hk1 : ¬ 0 < k := by omega
          clear hk0
          go_big_quiet (exact (HWP.out _).mono fun _ _ h => ⟨h.1, _, h.2.symm⟩)
          go_wp2
          go_ret
          exact FitsR.no (HK2.out.drewN _)
        have hbl : Op.bytesLess a.1.top.toList t.toList = true := (bytesLess_slt _ _).trans hsl
        have e3 : W1.cell? ⟨b, off + jj * 3 + 1, none⟩ = some (.string a.1.top) := HK2.out.cell (sh_cells HCC.out hja 1 _ rfl) (by simp)
        have hwr : IntKind.i64.wrap ((k : Int) - 1) = jj := by rw [IntWalk.i64_in _ (by omega)]; omega
        have hjl : jj < l.length := by omega
        have hk0 : 0 < k := by omega
        clear hja hsl hkj
        go_big_quiet (exact (HWP.out _).mono fun _ _ h => ⟨h.1, _, h.2.symm⟩)
        go_wp2
        go_ret
        exact FitsR.no (HK2.out.drewN _)
      have hnp1 : 1 ≤ np := by omega
      have hd1 : ¬ (np : Int) < 1 := by omega
      clear hn1
      rcases HPR.out with hk0 | ⟨jj, a, hkj, hja, hsl⟩
      · have hk1 : ¬ 0 < k := by omega
        clear hk0
        go_big_quiet (exact (HWP.out _).mono fun _ _ h => ⟨h.1, _, h.2.symm⟩)
        go_wp2
        · go_ret
          exact FitsR.no (HK2.out.drewN _)
        have hnp10 : np ≤ 10 := by omega
        obtain ⟨W2, hW2⟩ : ∃ W2, W1.drewN nq = W2 := ⟨_, rfl⟩
        have e4 : W2.cell? ⟨z, 2, none⟩ = some (.slice A2 np c2) := by rw [← hW2]; exact ((Kept.refl [] W1).drewN nq).cell e2 (by simp)
        have HK3 : Hid (Kept [] w W2) := by rw [← hW2]; exact HK2.out.drewN nq
        rw [hW2]
        clear hW2 e1 e2
        go_loopw [7] (fun i w3 => ∃ j : Nat, j ≤ np ∧ i = .int .i64 j ∧ (∀ (m : Nat) (q : Int), m < j → ps[m]? = some q → q = m) ∧ Kept [] W2 w3) (fun i _ => np - (intOf i).toNat)
        case atStart => exact ⟨0, Nat.zero_le _, rfl, by omega, Kept.refl _ _⟩
        case round =>
          obtain ⟨j, hj, rfl, hps, hk3⟩ := hrel
          have HK4 := Lib.hid hk3
          have HPS := Lib.hid hps
          have e5 : wr.cell? ⟨z, 2, none⟩ = some (.slice A2 np c2) := hk3.cell e4 (by simp)
          clear hk3 hps
          by_cases hlj : j < np
          · obtain ⟨b2, off2, rfl, hc2⟩ := HPI.out.2.2 (by omega)
            obtain ⟨q, hq⟩ : ∃ q, ps[j]? = some q := by
              have := HPI.out.1
              simp [ints] at this
              exact ⟨_, List.getElem?_eq_getElem (by omega)⟩
            have e6 : wr.cell? ⟨b2, off2 + j, none⟩ = some (.int .i32 q) := (HK3.out.trans0 HK4.out).cell (hc2 j _ (by simp [ints, hq])) (by simp)
            have HQ := Lib.hid hq
            clear hc2 hq
            have hwr : IntKind.i32.wrap (j : Int) = j := IntWalk.i32_in _ (by omega)
            go_wp2
            · go_ret
              exact FitsR.no (HK3.out.trans0 HK4.out)
            · have hqj : q = j := by simpa using ‹(q != (j : Int)) = false›
              go_roundw
              case rel =>
                refine ⟨j + 1, by omega, by go_num, fun m q' hm hq' => ?_, HK4.out⟩
                rcases Nat.lt_or_ge m j with h | h
                · exact HPS.out m q' h hq'
                · obtain rfl : m = j := by omega
                  rw [HQ.out] at hq'
                  cases hq'
                  exact hqj
              case measure => (simp [intOf]) <;> omega
          · go_wp2
            go_roundw
            case rel =>
              refine ⟨k + 1, by omega, by go_num, ⟨fun j' p' hj' hp' => ?_, fun j' a b hj' ha hb => ?_⟩, HK3.out.trans0 HK4.out⟩
              · rcases Nat.lt_or_ge j' k with h | h
                · exact HTP.out.1 j' p' h hp'
                · obtain rfl : j' = k := by omega
                  rw [HP.out] at hp'
                  cases hp'
                  refine ⟨HT1.out ▸ hw, by rw [HT2.out, HNP.out]; exact hnp1, by rw [HT2.out, HNP.out]; exact hnp10, fun m q hq => ?_⟩
                  rw [HT2.out] at hq
                  exact HPS.out m q (by have := (List.getElem?_eq_some_iff.1 hq).1; have := HNP.out; omega) hq
              · rcases Nat.lt_or_ge (j' + 1) k with h | h
                · exact HTP.out.2 j' a b h ha hb
                · obtain rfl : j' + 1 = k := by omega
                  rw [HP.out] at hb
                  cases hb
                  rw [HT1.out]
                  exact HST.out j' a rfl ha
            case measure => (simp [intOf]) <;> omega
      · have hbl : Op.bytesLess a.1.top.toList t.toList = true := (bytesLess_slt _ _).trans hsl
        have e3 : W1.cell? ⟨b, off + jj * 3 + 1, none⟩ = some (.string a.1.top) := HK2.out.cell (sh_cells HCC.out hja 1 _ rfl) (by simp)
        have hwr : IntKind.i64.wrap ((k : Int) - 1) = jj := by rw [IntWalk.i64_in _ (by omega)]; omega
        have hjl : jj < l.length := by omega
        have hk0 : 0 < k := by omega
        clear hja hsl hkj
        go_big_quiet (exact (HWP.out _).mono fun _ _ h => ⟨h.1, _, h.2.symm⟩)
        go_wp2
        · go_ret
          exact FitsR.no (HK2.out.drewN _)
        have hnp10 : np ≤ 10 := by omega
        obtain ⟨W2, hW2⟩ : ∃ W2, W1.drewN nq = W2 := ⟨_, rfl⟩
        have e4 : W2.cell? ⟨z, 2, none⟩ = some (.slice A2 np c2) := by rw [← hW2]; exact ((Kept.refl [] W1).drewN nq).cell e2 (by simp)
        have HK3 : Hid (Kept [] w W2) := by rw [← hW2]; exact HK2.out.drewN nq
        rw [hW2]
        clear hW2 e1 e2
        go_loopw [7] (fun i w3 => ∃ j : Nat, j ≤ np ∧ i = .int .i64 j ∧ (∀ (m : Nat) (q : Int), m < j → ps[m]? = some q → q = m) ∧ Kept [] W2 w3) (fun i _ => np - (intOf i).toNat)
        case atStart => exact ⟨0, Nat.zero_le _, rfl, by omega, Kept.refl _ _⟩
        case round =>
          obtain ⟨j, hj, rfl, hps, hk3⟩ := hrel
          have HK4 := Lib.hid hk3
          have HPS := Lib.hid hps
          have e5 : wr.cell? ⟨z, 2, none⟩ = some (.slice A2 np c2) := hk3.cell e4 (by simp)
          clear hk3 hps
          by_cases hlj : j < np
          · obtain ⟨b2, off2, rfl, hc2⟩ := HPI.out.2.2 (by omega)
            obtain ⟨q, hq⟩ : ∃ q, ps[j]? = some q := by
              have := HPI.out.1
              simp [ints] at this
              exact ⟨_, List.getElem?_eq_getElem (by omega)⟩
            have e6 : wr.cell? ⟨b2, off2 + j, none⟩ = some (.int .i32 q) := (HK3.out.trans0 HK4.out).cell (hc2 j _ (by simp [ints, hq])) (by simp)
            have HQ := Lib.hid hq
            clear hc2 hq
            have hwr : IntKind.i32.wrap (j : Int) = j := IntWalk.i32_in _ (by omega)
            go_wp2
            · go_ret
              exact FitsR.no (HK3.out.trans0 HK4.out)
            · have hqj : q = j := by simpa using ‹(q != (j : Int)) = false›
              go_roundw
              case rel =>
                refine ⟨j + 1, by omega, by go_num, fun m q' hm hq' => ?_, HK4.out⟩
                rcases Nat.lt_or_ge m j with h | h
                · exact HPS.out m q' h hq'
                · obtain rfl : m = j := by omega
                  rw [HQ.out] at hq'
                  cases hq'
                  exact hqj
              case measure => (simp [intOf]) <;> omega
          · go_wp2
            go_roundw
            case rel =>
              refine ⟨k + 1, by omega, by go_num, ⟨fun j' p' hj' hp' => ?_, fun j' a b hj' ha hb => ?_⟩, HK3.out.trans0 HK4.out⟩
              · rcases Nat.lt_or_ge j' k with h | h
                · exact HTP.out.1 j' p' h hp'
                · obtain rfl : j' = k := by omega
                  rw [HP.out] at hp'
                  cases hp'
                  refine ⟨HT1.out ▸ hw, by rw [HT2.out, HNP.out]; exact hnp1, by rw [HT2.out, HNP.out]; exact hnp10, fun m q hq => ?_⟩
                  rw [HT2.out] at hq
                  exact HPS.out m q (by have := (List.getElem?_eq_some_iff.1 hq).1; have := HNP.out; omega) hq
              · rcases Nat.lt_or_ge (j' + 1) k with h | h
                · exact HTP.out.2 j' a b h ha hb
                · obtain rfl : j' + 1 = k := by omega
                  rw [HP.out] at hb
                  cases hb
                  rw [HT1.out]
                  exact HST.out j' a rfl ha
            case measure => (simp [intOf]) <;> omega
    · have HTA : Hid ((∀ (j : Nat) (p : Sh × Value), l[j]? = some p → TopOk p.1) ∧ (∀ (j : Nat) (a b : Sh × Value), l[j]? = some a → l[j + 1]? = some b → slt a.1.top b.1.top = true)) :=
        ⟨fun j p hp => HTP.out.1 j p (by have := (List.getElem?_eq_some_iff.1 hp).1; omega) hp, fun j a b ha hb => HTP.out.2 j a b (by have := (List.getElem?_eq_some_iff.1 hb).1; omega) ha hb⟩
      clear HTP
      go_wp2
      obtain ⟨w1, hw1⟩ : ∃ w1, wr = w1 := ⟨_, rfl⟩
      rw [hw1] at HKR ⊢
      clear hw1
      go_loopw [8] (fun i wr => ∃ k : Nat, k ≤ ms.length ∧ i = .int .i64 k ∧ ((∀ j m, j < k → ms[j]? = some m → MemOk m) ∧ (∀ i j a b, i < j → j < k → ms[i]? = some a → ms[j]? = some b → a.id ≠ b.id)) ∧ Kept [] w wr) (fun i _ => ms.length - (intOf i).toNat)
      case atStart => exact ⟨0, Nat.zero_le _, rfl, ⟨by omega, by omega⟩, HKR.out⟩
      case round =>
        obtain ⟨k, hk, rfl, hmm, hkr⟩ := hrel
        have HMM := Lib.hid hmm
        have HKM := Lib.hid hkr
        clear hmm hkr
        by_cases hlt : k < ms.length
        · obtain ⟨b, off, rfl, hcc⟩ := HMS.out.2.2 (by omega)
          obtain ⟨m, hm⟩ : ∃ m, ms[k]? = some m := ⟨_, List.getElem?_eq_getElem hlt⟩
          have HCC := Lib.hid hcc
          have HC := Lib.hid (mv_cell (fun i v hv => HKM.out.cell (hcc i v hv) (by simp)) hm)
          have hg := HM.out.good m (List.mem_of_getElem? hm)
          obtain ⟨A2, n2, c2, hp2, ht2, _, _⟩ := hg.tops
          obtain ⟨A3, c3, hdv⟩ := hg.data
          obtain ⟨A4, c4, ol, hov, ho⟩ := hg.own
          have hsz := hg.id
          have HWS := Lib.hid hg.words
          have HMK := Lib.hid hm
          obtain ⟨id, ver, tops, ttv, dv, ov, dn, on, gen, rack, hr⟩ := m
          simp only at hp2 hdv hov ht2 ho hsz
          subst hp2 hdv hov
          obtain ⟨np, hnp⟩ : ∃ np, tops.length = np := ⟨_, rfl⟩
          obtain rfl : n2 = np := by have := ht2.1; rw [← hnp]; simpa [strs] using this.symm
          have HNP := Lib.hid hnp
          have HTO := Lib.hid ht2
          have HC2 : Hid (∀ j' v, [Value.string id, .int .i16 ver, .slice A2 n2 c2, .slice A3 dn c3, .slice A4 on c4, .int .i32 gen, .string rack, .bool hr][j']? = some v → wr.cell? ⟨b, off + k * 8 + j', none⟩ = some v) := HC.out
          have hn63 := ht2.2.1
          clear hcc hm hg HC ht2 ho hnp
          go_wp2_with (first | (refine wl_load_struct rfl 46 _ rfl Tryz.underlying46 rfl rfl b (off + k * 8) rfl _ rfl HC2.out ?_))
          obtain ⟨z, hz⟩ : ∃ z, wr.heap.size = z := ⟨_, rfl⟩
          obtain ⟨W1, hW1⟩ : ∃ W1, wr.alloc (Obj.cells #[Value.string id, .int .i16 ver, .slice A2 n2 c2, .slice A3 dn c3, .slice A4 on c4, .int .i32 gen, .string rack, .bool hr] 46) = W1 := ⟨_, rfl⟩
          have e0 : W1.cell? ⟨z, 0, none⟩ = some (.string id) := by rw [← hW1, ← hz, cell_alloc_new]; rfl
          have e2 : W1.cell? ⟨z, 2, none⟩ = some (.slice A2 n2 c2) := by rw [← hW1, ← hz, cell_alloc_new]; rfl
          have e3 : W1.cell? ⟨z, 3, none⟩ = some (.slice A3 dn c3) := by rw [← hW1, ← hz, cell_alloc_new]; rfl
          have e4 : W1.cell? ⟨z, 4, none⟩ = some (.slice A4 on c4) := by rw [← hW1, ← hz, cell_alloc_new]; rfl
          have HK2 : Hid (Kept [] w W1) := by rw [← hW1]; exact HKM.out.alloc _
          rw [hz, hW1]
          have HWP := Lib.hid (fun W => (HWD.out id W hsz))
          clear hz hW1
          by_cases hw : wordB id = true
          rotate_left
          · have hw' : wordB id = false := by simpa using hw
            rw [hw'] at HWP
            clear hw hw'
            go_wp2_with ((with_reducible refine (HWP.out _).mono ?_); rintro e w1 ⟨rfl, rfl⟩)
            go_ret
            exact FitsR.no HK2.out
          rw [hw] at HWP
          go_wp2_with ((with_reducible refine (HWP.out _).mono ?_); rintro e w1 ⟨rfl, rfl⟩)
          · go_ret
            exact FitsR.no HK2.out
          rotate_left
          · go_ret
            exact FitsR.no HK2.out
          · go_ret
            exact FitsR.no HK2.out
          have hn6 : n2 ≤ 6 := by omega
          have hA : decide (6 < (n2 : Int)) = false := by rw [decide_eq_false_iff_not]; omega
          have hB : decide (0 < on) = false := by rw [decide_eq_false_iff_not]; omega
          have hon : Hid (on = 0) := by
            have h : on = 0 := by omega
            exact h
          rename dn = 0 => h0
          have hdn : Hid (dn = 0) := h0
          clear h0
          simp only [hA, hB, Bool.or_false]
          clear hA hB
          go_loopw [10] (fun i w3 => ∃ j : Nat, j ≤ k ∧ i = .int .i64 j ∧ (∀ (q : Nat) (a : MV), q < j → ms[q]? = some a → a.id ≠ id) ∧ Kept [] W1 w3) (fun i _ => k - (intOf i).toNat)
          case atStart => exact ⟨0, Nat.zero_le _, rfl, by omega, Kept.refl _ _⟩
          case round =>
            obtain ⟨j, hj, rfl, hid, hk3⟩ := hrel
            have HID := Lib.hid hid
            have HK3 := Lib.hid hk3
            have f0 : wr.cell? ⟨z, 0, none⟩ = some (.string id) := hk3.cell e0 (by simp)
            have f2 : wr.cell? ⟨z, 2, none⟩ = some (.slice A2 n2 c2) := hk3.cell e2 (by simp)
            clear hid hk3
            by_cases hjk : j < k
            · obtain ⟨a, ha⟩ : ∃ a, ms[j]? = some a := ⟨_, List.getElem?_eq_getElem (by omega)⟩
              have f1 : wr.cell? ⟨b, off + j * 8, none⟩ = some (.string a.id) := mv_cell (fun i v hv => (HK2.out.trans0 HK3.out).cell (HCC.out i v hv) (by simp)) ha 0 _ rfl
              have HA := Lib.hid ha
              have hjl : j < ms.length := by omega
              clear ha
              go_wp2
              go_big_quiet (fail)
              go_wp2
              · go_ret
                exact FitsR.no ((HK2.out.trans0 HK3.out).drewN _)
              · have hne : a.id ≠ id := by
                  intro h
                  have h2 := ‹(a.id.toList == id.toList) = false›
                  rw [h] at h2
                  simp at h2
                go_roundw
                case rel =>
                  refine ⟨j + 1, by omega, by go_num, fun q x hq hx => ?_, HK3.out.drewN _⟩
                  rcases Nat.lt_or_ge q j with h | h
                  · exact HID.out q x h hx
                  · obtain rfl : q = j := by omega
                    rw [HA.out] at hx
                    cases hx
                    exact hne
                case measure => (simp [intOf]) <;> omega
            · go_wp2
              obtain ⟨W3, hW3⟩ : ∃ W3, wr = W3 := ⟨_, rfl⟩
              rw [hW3] at f2 HK3 ⊢
              clear f0 hW3
              go_loopw [11] (fun i w4 => ∃ j : Nat, j ≤ n2 ∧ i = .int .i64 j ∧ ((∀ (q : Nat) (s : ByteArray), q < j → tops[q]? = some s → wordB s = true) ∧ (∀ (q r : Nat) (a b : ByteArray), q < r → r < j → tops[q]? = some a → tops[r]? = some b → a ≠ b)) ∧ Kept [] W3 w4) (fun i _ => n2 - (intOf i).toNat)
              case atStart => exact ⟨0, Nat.zero_le _, rfl, ⟨by omega, by omega⟩, Kept.refl _ _⟩
              case round =>
                obtain ⟨i, hi, rfl, hto, hk4⟩ := hrel
                have HTP := Lib.hid hto
                have HK4 := Lib.hid hk4
                have g2 : wr.cell? ⟨z, 2, none⟩ = some (.slice A2 n2 c2) := hk4.cell f2 (by simp)
                clear hto hk4
                by_cases hin : i < n2
                · obtain ⟨b2, off2, rfl, hc2⟩ := HTO.out.2.2 (by omega)
                  obtain ⟨s, hs⟩ : ∃ s, tops[i]? = some s := ⟨_, List.getElem?_eq_getElem (by have := HNP.out; omega)⟩
                  have g6 : wr.cell? ⟨b2, off2 + i, none⟩ = some (.string s) := (HK2.out.trans0 (HK3.out.trans0 HK4.out)).cell (hc2 i _ (strs_get hs)) (by simp)
                  have HS := Lib.hid hs
                  have HCT := Lib.hid hc2
                  have HWP2 := Lib.hid (fun W => (HWD.out s W (HWS.out s (List.mem_of_getElem? hs))))
                  clear hs hc2
                  by_cases hws : wordB s = true
                  rotate_left
                  · have hw' : wordB s = false := by simpa using hws
                    rw [hw'] at HWP2
                    clear hws hw'
                    go_wp2_with ((with_reducible refine (HWP2.out _).mono ?_); rintro e w1 ⟨rfl, rfl⟩)
                    go_ret
                    exact FitsR.no (HK2.out.trans0 (HK3.out.trans0 HK4.out))
                  rw [hws] at HWP2
                  go_wp2_with ((with_reducible refine (HWP2.out _).mono ?_); rintro e w1 ⟨rfl, rfl⟩)
                  obtain ⟨W4, hW4⟩ : ∃ W4, wr = W4 := ⟨_, rfl⟩
                  rw [hW4] at g2 HK4 ⊢
                  clear g6 hW4
                  go_loopw [12] (fun i' w5 => ∃ n : Nat, n ≤ i ∧ i' = .int .i64 n ∧ (∀ (q : Nat) (a : ByteArray), q < n → tops[q]? = some a → a ≠ s) ∧ Kept [] W4 w5) (fun i' _ => i - (intOf i').toNat)
                  case atStart => exact ⟨0, Nat.zero_le _, rfl, by omega, Kept.refl _ _⟩
                  case round =>
                    obtain ⟨n, hn, rfl, hns, hk5⟩ := hrel
                    have HNS := Lib.hid hns
                    have HK5 := Lib.hid hk5
                    have q2 : wr.cell? ⟨z, 2, none⟩ = some (.slice (some ⟨b2, off2, none⟩) n2 c2) := hk5.cell g2 (by simp)
                    clear hns hk5
                    by_cases hni : n < i
                    · obtain ⟨u, hu⟩ : ∃ u, tops[n]? = some u := ⟨_, List.getElem?_eq_getElem (by have := HNP.out; omega)⟩
                      have q6 : wr.cell? ⟨b2, off2 + n, none⟩ = some (.string u) := (HK2.out.trans0 (HK3.out.trans0 (HK4.out.trans0 HK5.out))).cell (HCT.out n _ (strs_get hu)) (by simp)
                      have q7 : wr.cell? ⟨b2, off2 + i, none⟩ = some (.string s) := (HK2.out.trans0 (HK3.out.trans0 (HK4.out.trans0 HK5.out))).cell (HCT.out i _ (strs_get HS.out)) (by simp)
                      have HU := Lib.hid hu
                      have hnn : n < n2 := by omega
                      clear hu
                      go_wp2
                      go_big_quiet (fail)
                      go_wp2
                      · go_ret
                        exact FitsR.no ((HK2.out.trans0 (HK3.out.trans0 (HK4.out.trans0 HK5.out))).drewN _)
                      · have hne : u ≠ s := by
                          intro h
                          have h2 := ‹(u.toList == s.toList) = false›
                          rw [h] at h2
                          simp at h2
                        go_roundw
                        case rel =>
                          refine ⟨n + 1, by omega, by go_num, fun q x hq hx => ?_, HK5.out.drewN _⟩
                          rcases Nat.lt_or_ge q n with h | h
                          · exact HNS.out q x h hx
                          · obtain rfl : q = n := by omega
                            rw [HU.out] at hx
                            cases hx
                            exact hne
                        case measure => (simp [intOf]) <;> omega
                    · go_wp2
                      go_roundw
                      case rel =>
                        refine ⟨i + 1, by omega, by go_num, ⟨fun q x hq hx => ?_, fun q r x y hqr hr hx hy => ?_⟩, HK4.out.trans0 HK5.out⟩
                        · rcases Nat.lt_or_ge q i with h | h
                          · exact HTP.out.1 q x h hx
                          · obtain rfl : q = i := by omega
                            rw [HS.out] at hx
                            cases hx
                            exact hws
                        · rcases Nat.lt_or_ge r i with h | h
                          · exact HTP.out.2 q r x y hqr h hx hy
                          · obtain rfl : r = i := by omega
                            rw [HS.out] at hy
                            cases hy
                            exact HNS.out q x (by omega) hx
                      case measure => (simp [intOf]) <;> omega
                · go_wp2
                  go_roundw
                  case rel =>
                    refine ⟨k + 1, by omega, by go_num, ⟨fun q x hq hx => ?_, fun q r x y hqr hr hx hy => ?_⟩, HK2.out.trans0 (HK3.out.trans0 HK4.out)⟩
                    · rcases Nat.lt_or_ge q k with h | h
                      · exact HMM.out.1 q x h hx
                      · obtain rfl : q = k := by omega
                        rw [HMK.out] at hx
                        cases hx
                        have hnp := HNP.out
                        exact ⟨hw, by simpa [hnp] using hn6, hdn.out, hon.out, fun q s hs => HTP.out.1 q s (by have := (List.getElem?_eq_some_iff.1 hs).1; simp at this; omega) hs, fun q r a b hqr ha hb => HTP.out.2 q r a b hqr (by have := (List.getElem?_eq_some_iff.1 hb).1; simp at this; omega) ha hb⟩
                    · rcases Nat.lt_or_ge r k with h | h
                      · exact HMM.out.2 q r x y hqr h hx hy
                      · obtain rfl : r = k := by omega
                        rw [HMK.out] at hy
                        cases hy
                        exact HID.out q x (by omega) hx
                  case measure => (simp [intOf]) <;> omega
        · go_wp2
          go_ret
          refine ⟨true, rfl, fun _ => ⟨hm1, hm6, by simpa using ht1, by simpa using ht6, HWB.out, fun i t ht => ?_, fun i a b ha hb => ?_, fun i m hm => HMM.out.1 i m (by have := (List.getElem?_eq_some_iff.1 hm).1; omega) hm, fun i j a b hij ha hb => HMM.out.2 i j a b hij (by have := (List.getElem?_eq_some_iff.1 hb).1; omega) ha hb⟩, HKM.out⟩
          · rw [List.getElem?_map, Option.map_eq_some_iff] at ht
            obtain ⟨p, hp, rfl⟩ := ht
            exact HTA.out.1 i p hp
          · rw [List.getElem?_map, Option.map_eq_some_iff] at ha hb
            obtain ⟨p, hp, rfl⟩ := ha
            obtain ⟨q, hq, rfl⟩ := hb
            exact HTA.out.2 i p q hp hq
end Go.Proofs.YtghgffhcdnmpnaaGreat
