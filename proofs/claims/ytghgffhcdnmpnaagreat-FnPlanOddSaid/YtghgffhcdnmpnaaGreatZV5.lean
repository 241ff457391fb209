/-
  The walk of FnPlanOdd. Conditions: arguments that read as members and shares; a strategy of a byte; the table of powers lies in memory.
-/
import Derived.Test.YtghgffhcdnmpnaaGreatZS4
import Derived.Test.YtghgffhcdnmpnaaGreatZV3
namespace Go.Proofs.YtghgffhcdnmpnaaGreat
open Go.RowKit Go.Sort
set_option maxRecDepth 100000 in
set_option maxHeartbeats 3200000 in
theorem fnPlanOdd_walk (k : Int) (hk0 : 0 ≤ k) (hk1 : k ≤ 255) (A B : Option Addr) (c d : Nat) (ms : List MV) (l : List (Sh × Value)) (w : World) (hm : MemsArg w (.slice A ms.length c) ms) (ht : ShsArg w (.slice B l.length d) l) (hT : Tab20 w) :
    Calls Tryz.prog 6 #[.int .u8 k, .slice A ms.length c, .slice B l.length d] w fun e w' => e = .returned (.bool true) ∧ Kept [] w w' := by
  have HM := Lib.hid hm
  have HT := Lib.hid ht
  have HG := Lib.hid groupAlive_any
  have HTAB := Lib.hid hT
  clear hm ht hT
  obtain ⟨kk, hkk, hke⟩ := kind4' hk0
  have HKE := Lib.hid hke
  have HKK := Lib.hid hkk
  clear hke hkk
  go_enter Tryz.func6, Tryz.ntmps6
  go_wp2_with (fail)
  refine (fits2_any A c ms _ HM.out).mono ?_
  rintro e w1 ⟨b1, rfl, hk1⟩
  have HK1 := Lib.hid hk1
  clear hk1
  cases b1 with
  | false =>
    go_wp2
    go_ret
    exact ⟨rfl, HK1.out⟩
  | true =>
    go_wp2_with (fail)
    refine (fits5_len B d l _ (HT.out.kept0 HK1.out)).mono ?_
    rintro e w2 ⟨b2, rfl, hb2, hk2⟩
    have HB2 := Lib.hid hb2
    clear hb2
    have HK2 := Lib.hid (HK1.out.trans0 hk2)
    clear hk2
    cases b2 with
    | false =>
      go_wp2
      go_ret
      exact ⟨rfl, HK2.out⟩
    | true =>
      go_wp2_with (fail)
      refine (oddFits_any A B c d ms l _ (HM.out.kept0 HK2.out) (HT.out.kept0 HK2.out) (HB2.out (by trivial)).1 (HB2.out (by trivial)).2).mono ?_
      rintro e w3 ⟨b3, rfl, hf, hk3⟩
      have HF := Lib.hid hf
      have HK3 := Lib.hid (HK2.out.trans0 hk3)
      clear hf hk3
      cases b3 with
      | false =>
        go_wp2_with ((with_reducible refine (HG.out _).mono ?_); rintro e w4 ⟨rfl, hk4⟩; have HK4 := Lib.hid (HK3.out.trans0 hk4); clear hk4)
        go_ret
        exact ⟨rfl, HK4.out⟩
      | true =>
        have HFI := Lib.hid (HF.out rfl)
        have hmm := (HM.out.kept0 HK3.out).mems
        have htt := (HT.out.kept0 HK3.out).shs
        have has := askable_any kk HKK.out _ _ _ _ _ _ w3 hmm htt
        rw [← HKE.out] at has
        have HAS := Lib.hid has
        have HMM := Lib.hid hmm
        have HTT := Lib.hid htt
        clear has hmm htt
        go_wp2_with (fail)
        refine HAS.out.mono ?_
        rintro e w4 ⟨b4, rfl, hb4, hk4⟩
        have HB4 := Lib.hid hb4
        have HK34 := Lib.hid hk4
        have HK4 := Lib.hid (HK3.out.trans0 hk4)
        clear hb4 hk4 HAS
        cases b4 with
        | false =>
          go_wp2_with ((with_reducible refine (HG.out _).mono ?_); rintro e w5 ⟨rfl, hk5⟩; have HK5 := Lib.hid (HK4.out.trans0 hk5); clear hk5)
          go_ret
          exact ⟨rfl, HK5.out⟩
        | true =>
          have hmm := (HM.out.kept0 HK4.out).mems
          have htt := (HT.out.kept0 HK4.out).shs
          have hpl := plan_outO HKK.out HFI.out.ok (HFI.out.pre (fun s hs p hp => by obtain ⟨q, hq, rfl⟩ := List.mem_map.1 hs; exact ((HT.out.good q hq).nums p hp).2)) (HB4.out rfl) (HTAB.out.kept0 HK4.out) hmm htt
          rw [← HKE.out] at hpl
          have HPL := Lib.hid hpl
          clear hpl hmm htt
          go_wp2_with (fail)
          refine HPL.out.mono ?_
          rintro e w5 ⟨v, P, seq, rfl, hsh, hwh, _, _, hk5⟩
          have HK5 := Lib.hid (HK4.out.trans0 hk5)
          have hcnt := counted_any _ _ _ _ _ _ ms (l.map Prod.fst) P w5 (HM.out.kept0 HK5.out).mems (HT.out.kept0 HK5.out).shs hsh hwh HFI.out.ok.pairs HFI.out.ok.ids (by have := HFI.out.ok.m6; omega) (by have := HFI.out.ok.t6; omega) (fun s hs => by have := (HFI.out.ok.parts s hs).2.1; omega)
          have HCNT := Lib.hid hcnt
          clear hsh hwh hk5 hcnt HPL
          go_wp2_with (fail)
          refine HCNT.out.mono ?_
          rintro e w6 ⟨g, cc, rfl, _, hk6⟩
          have HK6 := Lib.hid (HK5.out.trans0 hk6)
          clear hk6 HCNT
          go_wp2_with ((with_reducible refine (HG.out _).mono ?_); rintro e w7 ⟨rfl, hk7⟩; have HK7 := Lib.hid (HK6.out.trans0 hk7); clear hk7)
          go_ret
          exact ⟨rfl, HK7.out⟩
end Go.Proofs.YtghgffhcdnmpnaaGreat
