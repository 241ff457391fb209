/-
  The walk of FnPlanEven. Conditions: arguments that read as members and shares; a strategy of a byte.
-/
import Derived.Test.YtghgffhcdnmpnaaGreatZS4
namespace Go.Proofs.YtghgffhcdnmpnaaGreat
open Go.RowKit Go.Sort
theorem min_in {l : List Int} {a b : Int} (ha : a ∈ l) (hb : b ∈ l) : min a b ∈ l := by
  rw [Int.min_def]
  split <;> assumption
theorem max_in {l : List Int} {a b : Int} (ha : a ∈ l) (hb : b ∈ l) : max a b ∈ l := by
  rw [Int.max_def]
  split <;> assumption
set_option maxRecDepth 100000 in
set_option maxHeartbeats 6400000 in
theorem fnPlanEven_walk (k : Int) (hk0 : 0 ≤ k) (hk1 : k ≤ 255) (A B : Option Addr) (c d : Nat) (ms : List MV) (l : List (Sh × Value)) (w : World) (hm : MemsArg w (.slice A ms.length c) ms) (ht : ShsArg w (.slice B l.length d) l) :
    Calls Tryz.prog 5 #[.int .u8 k, .slice A ms.length c, .slice B l.length d] w fun e w' => e = .returned (.bool true) ∧ Kept [] w w' := by
  have HM := Lib.hid hm
  have HT := Lib.hid ht
  have HG := Lib.hid groupAlive_any
  have hl63 := (sl_len (by decide) hm.at').2
  clear hm ht
  obtain ⟨kk, hkk, hke⟩ := kind4' hk0
  have HKE := Lib.hid hke
  have HKK := Lib.hid hkk
  clear hke hkk
  go_enter Tryz.func5, Tryz.ntmps5
  go_wp2_with (fail)
  refine (fits2_any A c ms _ HM.out).mono ?_
  rintro e w1 ⟨b1, rfl, hk1⟩
  have HK1 := Lib.hid hk1
  clear hk1
  cases b1 with
  | false =>
    go_wp2
    go_ret
    exact ⟨rfl, HK1.out⟩
  | true =>
    go_wp2_with (fail)
    refine (fits5_any B d l _ (HT.out.kept0 HK1.out)).mono ?_
    rintro e w2 ⟨b2, rfl, hk2⟩
    have HK2 := Lib.hid (HK1.out.trans0 hk2)
    clear hk2
    cases b2 with
    | false =>
      go_wp2
      go_ret
      exact ⟨rfl, HK2.out⟩
    | true =>
      go_wp2_with (fail)
      refine (groupFits_any A B c d ms l _ (HM.out.kept0 HK2.out) (HT.out.kept0 HK2.out)).mono ?_
      rintro e w3 ⟨b3, rfl, hf, hk3⟩
      have HF := Lib.hid hf
      have HK3 := Lib.hid (HK2.out.trans0 hk3)
      clear hf hk3
      cases b3 with
      | false =>
        go_wp2_with ((with_reducible refine (HG.out _).mono ?_); rintro e w4 ⟨rfl, hk4⟩; have HK4 := Lib.hid (HK3.out.trans0 hk4); clear hk4)
        go_ret
        exact ⟨rfl, HK4.out⟩
      | true =>
        have HFI := Lib.hid (HF.out rfl)
        have HAL := Lib.hid (alike_any _ _ _ _ _ _ w3 (HM.out.kept0 HK3.out).mems (HT.out.kept0 HK3.out).shs)
        go_wp2_with (fail)
        refine HAL.out.mono ?_
        rintro e w4 ⟨rfl, hk4⟩
        have HK4 := Lib.hid (HK3.out.trans0 hk4)
        clear hk4 HAL
        obtain ⟨ba, hba⟩ : ∃ ba, alikeB ms (l.map Prod.fst) = ba := ⟨_, rfl⟩
        rw [hba]
        have HBA := Lib.hid hba
        clear hba
        cases ba with
        | false =>
          go_wp2_with ((with_reducible refine (HG.out _).mono ?_); rintro e w5 ⟨rfl, hk5⟩; have HK5 := Lib.hid (HK4.out.trans0 hk5); clear hk5)
          go_ret
          exact ⟨rfl, HK5.out⟩
        | true =>
        have has := askable_any kk HKK.out _ _ _ _ _ _ w4 (HM.out.kept0 HK4.out).mems (HT.out.kept0 HK4.out).shs
        rw [← HKE.out] at has
        have HAS := Lib.hid has
        clear has
        go_wp2_with (fail)
        refine HAS.out.mono ?_
        rintro e w5 ⟨b4, rfl, hb4, hk5⟩
        have HB4 := Lib.hid hb4
        have HK5 := Lib.hid (HK4.out.trans0 hk5)
        clear hb4 hk5 HAS
        cases b4 with
        | false =>
          go_wp2_with ((with_reducible refine (HG.out _).mono ?_); rintro e w6 ⟨rfl, hk6⟩; have HK6 := Lib.hid (HK5.out.trans0 hk6); clear hk6)
          go_ret
          exact ⟨rfl, HK6.out⟩
        | true =>
          have hpl := plan_out HKK.out HFI.out.ok (fun _ => fits_pre HFI.out) (HB4.out rfl) (HM.out.kept0 HK5.out).mems (HT.out.kept0 HK5.out).shs
          rw [← HKE.out] at hpl
          have HPL := Lib.hid hpl
          clear hpl
          go_wp2_with (fail)
          refine HPL.out.mono ?_
          rintro e w6 ⟨v, P, seq, rfl, hsh, hwh, hperm, hspread, hk6⟩
          have HK6 := Lib.hid (HK5.out.trans0 hk6)
          have hcnt := counted_any _ _ _ _ _ _ ms (l.map Prod.fst) P w6 (HM.out.kept0 HK6.out).mems (HT.out.kept0 HK6.out).shs hsh hwh HFI.out.ok.pairs HFI.out.ok.ids (by have := HFI.out.m6; omega) (by have := HFI.out.t6; omega) (fun s hs => by have := (HFI.out.ok.parts s hs).2.1; omega)
          have HCNT := Lib.hid hcnt
          have hspr := hspread (alike_all HBA.out)
          obtain ⟨D, hD⟩ : ∃ D, (if kk = 0 then (l.map Prod.fst).length else 1) = D := ⟨_, rfl⟩
          rw [hD] at hspr
          have hcs : ∀ y ∈ counts ms (memsOf P), 0 ≤ y ∧ y ≤ 1000000 := by
            intro y hy
            obtain ⟨m, _, rfl⟩ := List.mem_map.1 hy
            have h1 := List.count_le_length (a := m.id) (l := memsOf P)
            have h2 := hwh.pairs.length_eq
            rw [List.length_map, ← memsOf_len, pairs_len] at h2
            have h3 := sum_few (fun s : Sh => s.parts.length) (l := l.map Prod.fst) (n := 10) (fun s hs => (HFI.out.ok.parts s hs).2.1)
            have h4 := HFI.out.t6
            omega
          have hcd : ∀ y ∈ counts ms (memsOf P), ∀ z ∈ counts ms (memsOf P), y - z ≤ (D : Int) := by
            intro y hy z hz
            obtain ⟨m, hm, rfl⟩ := List.mem_map.1 hy
            obtain ⟨m', hm', rfl⟩ := List.mem_map.1 hz
            have h1 := hspr m hm m' hm'
            have h2 := (hperm.map Prod.fst).count_eq m.id
            have h3 := (hperm.map Prod.fst).count_eq m'.id
            unfold memsOf
            omega
          have HD := Lib.hid hD
          have HCS := Lib.hid hcs
          have HCD := Lib.hid hcd
          clear hsh hwh hk6 hcnt HPL hperm hspread hspr hD hcs hcd
          go_wp2_with (fail)
          refine HCNT.out.mono ?_
          rintro e w7 ⟨g, cc, rfl, hown, hk7⟩
          have HK7 := Lib.hid (HK6.out.trans0 hk7)
          obtain ⟨cl, hcl⟩ : ∃ cl, counts ms (memsOf P) = cl := ⟨_, rfl⟩
          have hcll : cl.length = ms.length := by rw [← hcl, counts_len]
          rw [hcl] at HCS HCD hown
          have HOWN := Lib.hid hown
          have HCLL := Lib.hid hcll
          have hm1 := HFI.out.m1
          have hm6 := HFI.out.m6
          obtain ⟨y0, hy0⟩ : ∃ y0, cl[0]? = some y0 := ⟨_, List.getElem?_eq_getElem (by omega)⟩
          have g0 : w7.cell? ⟨g, 0, none⟩ = some (.int .i64 y0) := (own_cell hown (nums_at hy0)).1
          have hy0m := List.mem_of_getElem? hy0
          have HY0 := Lib.hid hy0m
          clear hk7 HCNT hcl hcll hown hy0 hy0m
          go_wp2
          go_big_quiet (fail)
          go_wp2
          go_loopw [13, 14, 15] (fun lv mv iv wr => ∃ (q : Nat) (y z : Int), q ≤ ms.length ∧ iv = .int .i64 q ∧ lv = .int .i64 y ∧ mv = .int .i64 z ∧ y ∈ cl ∧ z ∈ cl ∧ Kept [] w7 wr) (fun _ _ iv _ => ms.length - (intOf iv).toNat)
          case atStart => exact ⟨0, y0, y0, Nat.zero_le _, rfl, rfl, rfl, HY0.out, HY0.out, (Kept.refl _ _).drewN _⟩
          case round =>
            obtain ⟨q, y, z, hq, rfl, rfl, rfl, hy, hz, hkr⟩ := hrel
            have HKR := Lib.hid hkr
            have HY := Lib.hid hy
            have HZ := Lib.hid hz
            have hyb := HCS.out y hy
            have hzb := HCS.out z hz
            have hzy := HCD.out z hz y hy
            clear hkr hy hz
            by_cases hql : q < ms.length
            · obtain ⟨x, hx⟩ : ∃ x, cl[q]? = some x := ⟨_, List.getElem?_eq_getElem (by have := HCLL.out; omega)⟩
              have g1 : wr.cell? ⟨g, q, none⟩ = some (.int .i64 x) := (own_cell (own_kept0 HOWN.out HKR.out) (nums_at hx)).1
              have hxm := List.mem_of_getElem? hx
              have hxb := HCS.out x hxm
              have HX := Lib.hid hxm
              clear hx hxm hzy
              go_wp2
              go_big_quiet (fail)
              go_wp2
              go_roundw
              case rel => exact ⟨q + 1, min y x, max z x, by omega, by go_num, by go_num, by go_num, min_in HY.out HX.out, max_in HZ.out HX.out, HKR.out.drewN _⟩
              case measure => (simp [intOf]) <;> omega
            · clear HCS
              by_cases hk : kk = 0
              · have hk40 : k % 4 = 0 := by rw [HKE.out, hk]; rfl
                have hD2 := HD.out
                rw [if_pos hk, List.length_map] at hD2
                have HD2 := Lib.hid hD2
                subst hD2
                go_wp2_with ((with_reducible refine (HG.out _).mono ?_); rintro e w8 ⟨rfl, hk8⟩; have HK8 := Lib.hid ((HK7.out.trans0 HKR.out).trans0 hk8); clear hk8)
                go_ret
                exact ⟨rfl, HK8.out⟩
              · have hk40 : ¬ k % 4 = 0 := by rw [HKE.out]; omega
                have hD2 := HD.out
                rw [if_neg hk] at hD2
                subst hD2
                have hzy1 : z - y ≤ 1 := by omega
                clear hzy
                go_wp2_with ((with_reducible refine (HG.out _).mono ?_); rintro e w8 ⟨rfl, hk8⟩; have HK8 := Lib.hid ((HK7.out.trans0 HKR.out).trans0 hk8); clear hk8)
                go_ret
                exact ⟨rfl, HK8.out⟩
end Go.Proofs.YtghgffhcdnmpnaaGreat
