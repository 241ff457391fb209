/-
  The bounds on sizes of shares (zzFits6, zzFits5): what is known of shares that they let through. Conditions: none.
-/
import Derived.Test.YtghgffhcdnmpnaaGreatZE0
import Derived.Test.YtghgffhcdnmpnaaGreatZE5
import Derived.Test.YtghgffhcdnmpnaaGreatZF1
namespace Go.Proofs.YtghgffhcdnmpnaaGreat
open Go.RowKit Go.Sort
/-- A bound that is kept, if it says so. -/
def SomeL (P : Prop) (w : World) (e : Ending) (w' : World) : Prop := ∃ b : Bool, e = .returned (.bool b) ∧ (b = true → P) ∧ Kept [] w w'
theorem fits6_len (a b : ByteArray) (A : Option Addr) (n c : Nat) (w : World) : Calls Tryz.prog 36 #[.agg #[.string a, .string b, .slice A n c]] w (SomeL (n ≤ 2147483647) w) := by
  by_cases hn : n ≤ 2147483647
  · refine (fits6_any a b A n c w).mono ?_
    rintro e w' ⟨b, rfl, hk⟩
    exact ⟨b, rfl, fun _ => hn, hk⟩
  · have hn2 : (2147483647 : Int) < (n : Int) := by omega
    clear hn
    go_enter Tryz.func36, Tryz.ntmps36
    go_wp2
    all_goals go_ret
    all_goals exact ⟨false, rfl, by simp, (Kept.refl _ _).alloc _⟩
set_option maxRecDepth 100000 in
set_option maxHeartbeats 800000 in
theorem fits5_len (A : Option Addr) (c : Nat) (l : List (Sh × Value)) (w : World) (h : ShsArg w (.slice A l.length c) l) : Calls Tryz.prog 16 #[.slice A l.length c] w (SomeL (l.length ≤ 2147483647 ∧ ∀ p ∈ l, p.1.parts.length ≤ 2147483647) w) := by
  obtain ⟨A', n', c', he, hs, _, _⟩ := h.at'
  cases he
  have HS := Lib.hid hs
  have HG := Lib.hid h.good
  have h63 := hs.2.1
  have H36 := Lib.hid fits6_len
  clear hs h
  by_cases hl : l.length ≤ 2147483647
  rotate_left
  · have hl2 : (2147483647 : Int) < (l.length : Int) := by omega
    clear hl
    go_enter Tryz.func16, Tryz.ntmps16
    go_wp2
    go_ret
    exact ⟨false, rfl, by simp, Kept.refl _ _⟩
  go_enter Tryz.func16, Tryz.ntmps16
  go_wp2
  go_loopw [10] (fun i wr => ∃ k : Nat, k ≤ l.length ∧ i = .int .i64 k ∧ (∀ j p, j < k → l[j]? = some p → p.1.parts.length ≤ 2147483647) ∧ Kept [] w wr) (fun i _ => l.length - (intOf i).toNat)
  case atStart => exact ⟨0, Nat.zero_le _, rfl, by omega, Kept.refl _ _⟩
  case round =>
    obtain ⟨k, hk, rfl, hpl, hkr⟩ := hrel
    have HKR := Lib.hid hkr
    have HPL := Lib.hid hpl
    clear hkr hpl
    by_cases hlt : k < l.length
    · obtain ⟨b, off, rfl, hcc⟩ := HS.out.2.2 (by omega)
      obtain ⟨p, hp⟩ : ∃ p, l[k]? = some p := ⟨_, List.getElem?_eq_getElem hlt⟩
      have HC := Lib.hid (sh_cells (fun i v hv => HKR.out.cell (hcc i v hv) (by simp)) hp)
      obtain ⟨A2, n2, c2, hp2, hpi, _⟩ := (HG.out p (List.mem_of_getElem? hp)).parts
      have hn2 : p.1.parts.length = n2 := by have := hpi.1; simpa [ints] using this
      rw [hp2] at HC
      have HP := Lib.hid hp
      have HN2 := Lib.hid hn2
      clear hcc hp hp2 hpi hn2
      go_wp2_with (refine wl_load_struct rfl 53 _ rfl Tryz.underlying53 rfl rfl b (off + k * 3) rfl _ rfl HC.out ?_)
      refine (H36.out _ _ _ _ _ _).mono ?_
      rintro e w1 ⟨bb, rfl, hb, hk1⟩
      have HB := Lib.hid hb
      have HK1 := Lib.hid ((HKR.out.alloc _).trans0 hk1)
      clear hk1 hb
      cases bb with
      | false =>
        go_wp2
        go_ret
        exact ⟨false, rfl, by simp, HK1.out⟩
      | true =>
        have HB2 := Lib.hid (HB.out rfl)
        clear HB
        go_wp2
        go_roundw
        case rel =>
          refine ⟨k + 1, by omega, by go_num, fun j q hj hq => ?_, HK1.out⟩
          rcases Nat.lt_or_ge j k with h | h
          · exact HPL.out j q h hq
          · obtain rfl : j = k := by omega
            rw [HP.out] at hq
            cases hq
            rw [HN2.out]
            exact HB2.out
        case measure => (simp [intOf]) <;> omega
    · go_wp2
      go_ret
      refine ⟨true, rfl, fun _ => ⟨hl, fun p hp => ?_⟩, HKR.out⟩
      obtain ⟨i, hi⟩ := List.getElem?_of_mem hp
      exact HPL.out i p (by have := (List.getElem?_eq_some_iff.1 hi).1; omega) hi
end Go.Proofs.YtghgffhcdnmpnaaGreat
/-
  oddFits: what is known of a group that it lets through. Conditions: lists of at most 2^31 - 1.
-/
namespace Go.Proofs.YtghgffhcdnmpnaaGreat
open Go.RowKit Go.Sort
/-- The numbers from 0 on. -/
def iota (n : Nat) : List Int := (List.range n).map fun k : Nat => (k : Int)
theorem iota_succ (n : Nat) : iota (n + 1) = iota n ++ [(n : Int)] := by simp [iota, List.range_succ]
theorem iota_len (n : Nat) : (iota n).length = n := by simp [iota]
/-- A topic with its partitions numbered from 0 on. -/
def plainSh (s : Sh) : Sh := ⟨s.mem, s.top, iota s.parts.length⟩
structure OddOk (ms : List MV) (ts : List Sh) : Prop where
  plain : Fits ms (ts.map plainSh)
  nums : ∀ s ∈ ts, s.parts.Nodup ∧ ∀ p ∈ s.parts, 0 ≤ p
def OddR (ms : List MV) (ts : List Sh) (w : World) (e : Ending) (w' : World) : Prop := ∃ b : Bool, e = .returned (.bool b) ∧ (b = true → OddOk ms ts) ∧ Kept [] w w'
theorem OddR.no {ms : List MV} {ts : List Sh} {w w' : World} (h : Kept [] w w') : OddR ms ts w (.returned (.bool false)) w' := ⟨false, rfl, by simp, h⟩
theorem nodup_snoc {l : List Int} {k : Nat} {u : Int} (hu : l[k]? = some u) (hn : (l.take k).Nodup) (h : ∀ y ∈ l.take k, y ≠ u) : (l.take (k + 1)).Nodup := by
  rw [take_one hu, List.nodup_append]
  refine ⟨hn, by simp, fun a ha b hb e => ?_⟩
  rw [List.mem_singleton.1 hb] at e
  exact h a ha e
theorem take_mem {l : List Int} {k : Nat} {y : Int} (h : y ∈ l.take k) : ∃ q : Nat, q < k ∧ l[q]? = some y := by
  obtain ⟨q, hq⟩ := List.getElem?_of_mem h
  rw [List.getElem?_take] at hq
  split at hq
  · exact ⟨q, by assumption, hq⟩
  · cases hq
theorem grown_ge {x g z n : Nat} (hx : x ∈ [g]) (h1 : z ≤ g) (h2 : n = z) : n ≤ x := by
  rw [List.mem_singleton.1 hx, h2]
  exact h1
set_option maxRecDepth 100000 in
set_option maxHeartbeats 6400000 in
theorem oddFits_any (A B : Option Addr) (c d : Nat) (ms : List MV) (l : List (Sh × Value)) (w : World) (hm : MemsArg w (.slice A ms.length c) ms) (ht : ShsArg w (.slice B l.length d) l) (hl : l.length ≤ 2147483647) (hpl : ∀ p ∈ l, p.1.parts.length ≤ 2147483647) :
    Calls Tryz.prog 22 #[.slice A ms.length c, .slice B l.length d] w (OddR ms (l.map Prod.fst) w) := by
  obtain ⟨B', n', d', he, hts, _, _⟩ := ht.at'
  cases he
  have HTS := Lib.hid hts
  have HM := Lib.hid hm
  have HT := Lib.hid ht
  have HPL := Lib.hid hpl
  have h64 := hts.2.1
  have hone : ∀ u ∈ l.flatMap shCells, u.oneCell' = true := by
    intro u hu
    obtain ⟨p, hp, hu⟩ := List.mem_flatMap.1 hu
    obtain ⟨A2, n2, c2, h2, _⟩ := (ht.good p hp).parts
    simp only [shCells, List.mem_cons, List.not_mem_nil, or_false, h2] at hu
    rcases hu with rfl | rfl | rfl <;> rfl
  have HONE := Lib.hid hone
  obtain ⟨n, hn⟩ : ∃ n, l.length = n := ⟨_, rfl⟩
  have HN := Lib.hid hn
  obtain ⟨z, hz⟩ : ∃ z, w.heap.size = z := ⟨_, rfl⟩
  have HZ := Lib.hid hz
  rw [hn] at HTS h64 hl HT ⊢
  have HOL : Hid ((w.alloc (.cells #[] 53)).ownsRow z 53 3 (.slice (some ⟨w.heap.size, 0, none⟩) 0 0) 0 []) := by rw [← hz]; exact World.ownsRow_lit _ #[] 0 (Nat.le_refl _) (by decide) rfl
  clear hts hm ht hpl hone hn hz
  go_enter Tryz.func22, Tryz.ntmps22
  go_wp2_with (at_builtin; refine wl_append rfl _ _ 30 rfl z 53 Tryz.underlying30 info53 rfl (by decide) (.slice (some ⟨w.heap.size, 0, none⟩) 0 0) 0 [] rfl HOL.out B n d (l.flatMap shCells) rfl (HTS.out.kept0 ((Kept.refl _ _).alloc _)) HONE.out (by omega) (by omega) (by have := HZ.out; simp; omega) ?_; intro v' w1 hown hk hat; have HO := Lib.hid hown; have HK : Hid (Kept [] w w1) := (((Kept.refl [] w).alloc _).trans hk (fun x hx => .inr (by have hx : x ∈ [w.heap.size] := hx; have := List.mem_singleton.1 hx; omega))); clear hown hk hat)
  obtain ⟨Av, cv, rfl⟩ := own_form HO.out
  have hown : w1.ownsRow z 53 3 (.slice Av n cv) n (shFlat l) := by
    have h0 := HO.out
    simp only [Nat.zero_add, List.nil_append] at h0
    exact h0
  have HOWN := Lib.hid hown
  simp only [Nat.zero_add]
  clear hown HO
  go_loopw [6] (fun iv wr => ∃ (i : Nat) (N : List (Sh × Value)), i ≤ n ∧ iv = .int .i64 i ∧ N.map Prod.fst = (l.take i).map (fun p => plainSh p.1) ∧ wr.ownsRow z 53 3 (.slice Av n cv) n (shFlat (N ++ l.drop i)) ∧ (∀ p ∈ N, wr.ownsRow z 21 1 p.2 p.1.parts.length (ints p.1.parts)) ∧ (∀ p ∈ l.take i, p.1.parts.Nodup ∧ ∀ q ∈ p.1.parts, 0 ≤ q) ∧ Kept [] w wr) (fun iv _ => n - (intOf iv).toNat)
  case atStart => exact ⟨0, [], Nat.zero_le _, rfl, rfl, HOWN.out, by simp, by simp, HK.out⟩
  case round =>
    obtain ⟨i, N, hi, rfl, hN, hrow, hparts, hnum, hkr⟩ := hrel
    have HNN := Lib.hid hN
    have HROW := Lib.hid hrow
    have HPARTS := Lib.hid hparts
    have HNUM := Lib.hid hnum
    have HKR := Lib.hid hkr
    have hNl : N.length = i := by
      have := congrArg List.length hN
      rw [List.length_map, List.length_map, List.length_take] at this
      have := HN.out
      omega
    have HNL := Lib.hid hNl
    clear hN hrow hparts hnum hkr hNl HOWN
    by_cases hlt : i < n
    · obtain ⟨p, hp⟩ : ∃ p, l[i]? = some p := ⟨_, List.getElem?_eq_getElem (by have := HN.out; omega)⟩
      obtain ⟨b, off, rfl, hcc⟩ := HTS.out.2.2 (by omega)
      have HC := Lib.hid (fun W (hW : Kept [] w W) => sh_cells (fun i v hv => hW.cell (hcc i v hv) (by simp)) hp)
      have hg := HT.out.good p (List.mem_of_getElem? hp)
      obtain ⟨A2, np, c2, hp2, hpi, _, _⟩ := hg.parts
      have hnp : p.1.parts.length = np := by have := hpi.1; simpa [ints] using this
      have hnpl := HPL.out p (List.mem_of_getElem? hp)
      rw [hp2] at HC
      rw [hnp] at hnpl
      have HP := Lib.hid hp
      have HPI := Lib.hid hpi
      have hp63 := hpi.2.1
      obtain ⟨ps, hps⟩ : ∃ ps, p.1.parts = ps := ⟨_, rfl⟩
      rw [hps] at HPI hnp
      have HPS := Lib.hid hps
      have HNP := Lib.hid hnp
      have hpd : (l.drop i) = p :: l.drop (i + 1) := by
        obtain ⟨h1, h2⟩ := List.getElem?_eq_some_iff.1 hp
        rw [List.drop_eq_getElem_cons h1, h2]
      have HPD := Lib.hid hpd
      obtain ⟨g, hAv⟩ := own_row HROW.out (by omega)
      subst hAv
      clear hcc hp hg hp2 hpi hps hnp hpd
      obtain ⟨z1, hz1⟩ : ∃ z1, wr.heap.size = z1 := ⟨_, rfl⟩
      have HZ1 := Lib.hid hz1
      have hzz : z ≤ z1 := by have h1 := HKR.out.size; have h2 := HZ.out; omega
      have hgz1 : g < z1 := by rw [← hz1]; exact own_lt HROW.out g rfl
      have HOL1 : Hid ((wr.alloc (.cells #[] 21)).ownsRow z1 21 1 (.slice (some ⟨wr.heap.size, 0, none⟩) 0 0) 0 []) := by rw [← hz1]; exact World.ownsRow_lit _ #[] 0 (Nat.le_refl _) (by decide) rfl
      clear hz1
      go_wp2
      obtain ⟨W0, hW0⟩ : ∃ W0, wr = W0 := ⟨_, rfl⟩
      rw [hW0] at HROW HPARTS HKR HZ1 HOL1 ⊢
      clear hW0
      go_loopw [7, 8] (fun lv kv w2 => ∃ k : Nat, k ≤ np ∧ kv = .int .i64 k ∧ w2.ownsRow z1 21 1 lv k (ints (iota k)) ∧ ((ps.take k).Nodup ∧ ∀ q ∈ ps.take k, 0 ≤ q) ∧ Kept [] W0 w2) (fun _ kv _ => np - (intOf kv).toNat)
      case atStart => exact ⟨0, Nat.zero_le _, rfl, HOL1.out, by simp, (Kept.refl _ _).alloc _⟩
      case round =>
        obtain ⟨k, hk, rfl, hlo, hnk, hk2⟩ := hrel
        have HLO := Lib.hid hlo
        have HNK := Lib.hid hnk
        have HK2 := Lib.hid hk2
        have e2 : wr.cell? ⟨b, off + i * 3 + 2, none⟩ = some (.slice A2 np c2) := HC.out wr (HKR.out.trans0 hk2) 2 _ rfl
        obtain ⟨Al, cl, hlv⟩ := own_form hlo
        subst hlv
        clear hlo hnk hk2
        by_cases hkn : k < np
        · obtain ⟨u, hu⟩ : ∃ u, ps[k]? = some u := ⟨_, List.getElem?_eq_getElem (by have := HNP.out; omega)⟩
          obtain ⟨b3, o3, rfl, hc3⟩ := HPI.out.2.2 (by omega)
          have e3 : wr.cell? ⟨b3, o3 + k, none⟩ = some (.int .i32 u) := (HKR.out.trans0 HK2.out).cell (hc3 k _ (ints_at hu)) (by simp)
          have HCC3 := Lib.hid (fun q y (hy : ps[q]? = some y) => (HKR.out.trans0 HK2.out).cell (hc3 q _ (ints_at hy)) (by simp))
          have HU := Lib.hid hu
          clear hu hc3
          go_wp2
          go_loop [10] (fun nv => ∃ q : Nat, q ≤ k ∧ nv = .int .i64 q ∧ ∀ j y, j < q → ps[j]? = some y → y ≠ u) (fun nv => k - (intOf nv).toNat)
          case atStart => exact ⟨0, Nat.zero_le _, rfl, by omega⟩
          case round =>
            obtain ⟨q, hq, rfl, hne⟩ := hrel
            have HNE := Lib.hid hne
            clear hne
            by_cases hqk : q < k
            · obtain ⟨y, hy⟩ : ∃ y, ps[q]? = some y := ⟨_, List.getElem?_eq_getElem (by have := HNP.out; omega)⟩
              have e4 := HCC3.out q y hy
              have HY := Lib.hid hy
              clear hy
              have hqn : q < np := by omega
              by_cases hyu : y = u
              · have hbu : (y == u) = true := by simpa using hyu
                clear hyu
                go_wp2
                go_ret
                exact OddR.no (HKR.out.trans0 HK2.out)
              · have hbu : (y == u) = false := by simpa using hyu
                have HYU := Lib.hid hyu
                clear hyu
                go_wp2
                go_round
                case rel =>
                  refine ⟨q + 1, by omega, by go_num, fun j x hj hx => ?_⟩
                  rcases Nat.lt_or_ge j q with h | h
                  · exact HNE.out j x h hx
                  · obtain rfl : j = q := by omega
                    rw [HY.out] at hx
                    cases hx
                    exact HYU.out
                case measure => (simp [intOf]) <;> omega
            · obtain rfl : q = k := by omega
              by_cases hu0 : u < 0
              · go_wp2
                go_ret
                exact OddR.no (HKR.out.trans0 HK2.out)
              · have hw32 : IntKind.i32.wrap (q : Int) = (q : Int) := by rw [IntKind.wrap_i32]; omega
                have hu1 : 0 ≤ u := by omega
                have HU0 := Lib.hid hu1
                clear hu1
                go_wp2_with (at_builtin; refine wl_append rfl _ _ 49 rfl z1 21 Tryz.underlying49 info21 rfl (by decide) _ q (ints (iota q)) rfl (own_kept0 HLO.out ((Kept.refl _ _).alloc _)) (some ⟨wr.heap.size, 0, none⟩) 1 1 [.int .i32 q] rfl (one_sl2 _ _ _ rfl) (by simp [Value.oneCell']) (by omega) (by omega) (by have h1 := HK2.out.size; have h2 := HZ1.out; simp; omega) ?_; intro v5 w5 hown hk5 _; have HO5 := Lib.hid hown; have HK5 : Hid (Kept [] W0 w5) := ((HK2.out.alloc _).trans hk5 (fun x hx => .inr (by have h1 := own_ge HLO.out x (Option.mem_toList.1 hx); have h2 := HZ1.out; omega))); clear hown hk5)
                go_roundw
                case rel =>
                  refine ⟨q + 1, by omega, by go_num, ?_, ⟨nodup_snoc HU.out HNK.out.1 (fun y hy => ?_), fun y hy => ?_⟩, HK5.out⟩
                  · have h1 := HO5.out
                    rw [show ints (iota q) ++ [Value.int .i32 (q : Int)] = ints (iota (q + 1)) by rw [iota_succ]; simp [ints]] at h1
                    exact h1
                  · obtain ⟨j, hj, hy⟩ := take_mem hy
                    exact HNE.out j y hj hy
                  · rw [take_one HU.out] at hy
                    rcases List.mem_append.1 hy with hy | hy
                    · exact HNK.out.2 y hy
                    · rw [List.mem_singleton.1 hy]; exact HU0.out
                case measure => (simp [intOf]) <;> omega
        · have hke : k = np := by omega
          subst hke
          have hNd : (N ++ l.drop i)[i]? = some p := by
            rw [HPD.out, List.getElem?_append_right (by rw [HNL.out]; exact Nat.le_refl _), HNL.out]
            simp
          have hrow2 := own_kept0 HROW.out HK2.out
          have f2 : wr.cell? ⟨g, i * 3 + 2, none⟩ = some p.2 := own_cells3 hrow2 hNd 2 _ rfl
          have f3 : wr.frozen? ⟨g, i * 3 + 2, none⟩ = false := World.ownsRow.frozenAt hrow2 _
          have HROW2 := Lib.hid hrow2
          have HND := Lib.hid hNd
          clear hrow2 hNd
          go_wp2
          have hst := World.ownsRow.stored HROW2.out (i * 3 + 2) (.slice Al k cl)
          rw [flat_set2 HND.out (plainSh p.1) (.slice Al k cl) rfl rfl] at hst
          have hset : (N ++ l.drop i).set i (plainSh p.1, Value.slice Al k cl) = (N ++ [(plainSh p.1, Value.slice Al k cl)]) ++ l.drop (i + 1) := by
            rw [HPD.out, List.set_append_right _ _ (by rw [HNL.out]; exact Nat.le_refl _), HNL.out]
            simp
          rw [hset] at hst
          have hother : ∀ {q : Sh × Value}, wr.ownsRow z 21 1 q.2 q.1.parts.length (ints q.1.parts) → (wr.setCell ⟨g, i * 3 + 2, none⟩ (.slice Al k cl)).ownsRow z 21 1 q.2 q.1.parts.length (ints q.1.parts) := fun h =>
            ownsRow_setCell_other h (fun e => own_types_ne h HROW2.out (by decide) g e (by simp [Value.ownBlock])) _
          have hgz0 : z ≤ g := own_ge HROW.out g rfl
          have hwz : w.heap.size = z := HZ.out
          have hkw : Kept [] w (wr.setCell ⟨g, i * 3 + 2, none⟩ (.slice Al k cl)) := (HKR.out.trans0 HK2.out).trans (Kept.of_grown hst.2) (fun x hx => .inr (grown_ge hx hgz0 hwz))
          have HST := Lib.hid hst.1
          have HKW := Lib.hid hkw
          have HOTH := Lib.hid (fun q h => @hother q h)
          clear hst hother hkw
          go_roundw
          case rel =>
            refine ⟨i + 1, N ++ [(plainSh p.1, Value.slice Al k cl)], by omega, by go_num, ?_, HST.out, fun q hq => ?_, fun q hq => ?_, HKW.out⟩
            · rw [take_one HP.out, List.map_append, List.map_append, HNN.out]
              rfl
            · rcases List.mem_append.1 hq with hq | hq
              · exact HOTH.out q (own_kept0 (HPARTS.out q hq) HK2.out)
              · rw [List.mem_singleton.1 hq]
                refine HOTH.out _ ?_
                have h1 : (plainSh p.1).parts = iota k := by show iota p.1.parts.length = iota k; rw [HPS.out, HNP.out]
                rw [h1, iota_len]
                exact own_mono HLO.out hzz
            · rw [take_one HP.out] at hq
              rcases List.mem_append.1 hq with hq | hq
              · exact HNUM.out q hq
              · rw [List.mem_singleton.1 hq, HPS.out]
                have h1 := HNK.out
                rw [List.take_of_length_le (by have := HNP.out; omega)] at h1
                exact h1
          case measure => (simp [intOf]) <;> omega
    · have hie : i = n := by omega
      have hdr : l.drop i = [] := List.drop_of_length_le (by have := HN.out; omega)
      have htk : l.take i = l := List.take_of_length_le (by have := HN.out; omega)
      have hrow := HROW.out
      have hnn := HNN.out
      rw [hdr, List.append_nil] at hrow
      rw [htk] at hnn
      have hNln : N.length = n := by rw [HNL.out, hie]
      have HGF : Hid (Calls Tryz.prog 17 #[.slice A ms.length c, .slice Av n cv] wr (FitsR ms (N.map Prod.fst) wr)) := by
        have h1 := groupFits_any A Av c cv ms N wr (HM.out.kept0 HKR.out) ⟨by
          rw [hNln]
          exact (SlAt.own hrow).mono (fun x hx => hx.2.2), fun p hp => by
          have h2 : p.1 ∈ N.map Prod.fst := List.mem_map.2 ⟨p, hp, rfl⟩
          rw [hnn] at h2
          obtain ⟨q, hq, hqe⟩ := List.mem_map.1 h2
          have hg := HT.out.good q hq
          refine ⟨by rw [← hqe]; exact hg.mem, by rw [← hqe]; exact hg.top, (SlAt.own (HPARTS.out p hp)).mono (fun x hx => hx.2.2), fun x hx => ?_⟩
          rw [← hqe] at hx
          obtain ⟨t, ht, rfl⟩ := List.mem_map.1 hx
          have h3 := List.mem_range.1 ht
          have h4 := HPL.out q hq
          exact ⟨by omega, by omega⟩⟩
        rw [hNln] at h1
        exact h1
      have HNUM2 := Lib.hid (fun p hp => HNUM.out p (htk.symm ▸ hp))
      have HNN2 := Lib.hid hnn
      clear hrow hnn hdr htk hNln
      go_wp2_with (fail)
      refine HGF.out.mono ?_
      rintro e w9 ⟨b9, rfl, hb9, hk9⟩
      have HB9 := Lib.hid hb9
      have HK9 := Lib.hid (HKR.out.trans0 hk9)
      clear hb9 hk9
      go_wp2
      go_ret
      refine ⟨b9, rfl, fun hb => ⟨?_, fun s hs => ?_⟩, HK9.out⟩
      · have h1 := HB9.out hb
        rw [HNN2.out] at h1
        rw [List.map_map]
        exact h1
      · obtain ⟨q, hq, rfl⟩ := List.mem_map.1 hs
        exact HNUM2.out q hq
end Go.Proofs.YtghgffhcdnmpnaaGreat
