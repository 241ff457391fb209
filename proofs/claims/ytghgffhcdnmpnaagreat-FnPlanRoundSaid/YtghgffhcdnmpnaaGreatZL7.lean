/-
  The walk of FnPlanRound. Conditions: arguments that read as members and shares.
-/
import Derived.Test.YtghgffhcdnmpnaaGreatZF5a
import Derived.Test.YtghgffhcdnmpnaaGreatZC20
namespace Go.Proofs.YtghgffhcdnmpnaaGreat
open Go.RowKit Go.Sort
set_option maxRecDepth 100000 in
set_option maxHeartbeats 3200000 in
theorem fnPlanRound_walk (A B : Option Addr) (c d : Nat) (ms : List MV) (l : List (Sh × Value)) (w : World) (hm : MemsArg w (.slice A ms.length c) ms) (ht : ShsArg w (.slice B l.length d) l) :
    Calls Tryz.prog 9 #[.slice A ms.length c, .slice B l.length d] w fun e w' => e = .returned (.bool true) ∧ Kept [] w w' := by
  have HM := Lib.hid hm
  have HT := Lib.hid ht
  have HG := Lib.hid groupAlive_any
  clear hm ht
  go_enter Tryz.func9, Tryz.ntmps9
  go_wp2_with (fail)
  refine (fits2_any A c ms _ HM.out).mono ?_
  rintro e w1 ⟨b1, rfl, hk1⟩
  have HK1 := Lib.hid hk1
  clear hk1
  cases b1 with
  | false =>
    go_wp2
    go_ret
    exact ⟨rfl, HK1.out⟩
  | true =>
    go_wp2_with (fail)
    refine (fits5_any B d l _ (HT.out.kept0 HK1.out)).mono ?_
    rintro e w2 ⟨b2, rfl, hk2⟩
    have HK2 := Lib.hid (HK1.out.trans0 hk2)
    clear hk2
    cases b2 with
    | false =>
      go_wp2
      go_ret
      exact ⟨rfl, HK2.out⟩
    | true =>
      go_wp2_with (fail)
      refine (groupFits_any A B c d ms l _ (HM.out.kept0 HK2.out) (HT.out.kept0 HK2.out)).mono ?_
      rintro e w3 ⟨b3, rfl, hf, hk3⟩
      have HF := Lib.hid hf
      have HK3 := Lib.hid (HK2.out.trans0 hk3)
      clear hf hk3
      cases b3 with
      | false =>
        go_wp2_with ((with_reducible refine (HG.out _).mono ?_); rintro e w4 ⟨rfl, hk4⟩; have HK4 := Lib.hid (HK3.out.trans0 hk4); clear hk4)
        go_ret
        exact ⟨rfl, HK4.out⟩
      | true =>
        have HFI := Lib.hid (HF.out rfl)
        have hmm := (HM.out.kept0 HK3.out).mems
        have htt := (HT.out.kept0 HK3.out).shs
        have HGP := Lib.hid (groupPlanK planK1 _ _ _ _ _ w3 (HFI.out.grp hmm htt) (fits_pre HFI.out))
        have HRP : Hid (∀ W, Kept [] w3 W → Calls Tryz.prog 25 #[.slice A ms.length c, .slice B l.length d] W (RoPlanR ms (l.map Prod.fst) W)) := fun W hW =>
          roundPlan_spec _ _ _ _ _ _ W (hmm.kept0 hW) (htt.kept0 hW) HFI.out.m1 (by have := HFI.out.m6; omega) (by have := HFI.out.t6; omega) (fun s hs => by
            obtain ⟨i, hi⟩ := List.getElem?_of_mem hs
            have := (HFI.out.tops i s hi).ten
            omega) HFI.out.want
        clear hmm htt
        go_wp2_with (fail)
        refine HGP.out.mono ?_
        rintro e w4 ⟨v4, L4, F4, rfl, hgood, _, hL4, hown4, hparts4, hk4⟩
        have HSH := Lib.hid (own_shs hown4 hparts4)
        rw [hL4] at HSH
        have HGOOD := Lib.hid hgood
        have HK4 := Lib.hid hk4
        clear hL4 hown4 hparts4 hk4 hgood
        go_wp2_with (first
          | ((with_reducible refine (HG.out _).mono ?_); rintro e w5 ⟨rfl, hk5⟩; have HK5 := Lib.hid (HK4.out.trans0 hk5); have HSH5 := Lib.hid (HSH.out.kept0 hk5); clear hk5)
          | ((with_reducible refine (HRP.out _ HK5.out).mono ?_); rintro e w6 ⟨v6, os6, rfl, hperm6, hsort6, hp6, hk6⟩; have HP6 := Lib.hid hp6; have HK6 := Lib.hid (HK5.out.trans0 hk6); have hsh6 := HSH5.out.kept0 hk6; rw [round_same HFI.out HGOOD.out hperm6 hsort6] at hsh6; have HSH6 := Lib.hid hsh6; clear hp6 hk6 hsh6 hperm6 hsort6)
          | ((with_reducible refine (samePlan_any _ _ _ _ _ _ HSH6.out HP6.out.shs).mono ?_); rintro e w7 ⟨rfl, hk7⟩; have HK7 := Lib.hid (HK6.out.trans0 hk7); clear hk7))
        go_ret
        exact ⟨rfl, HK3.out.trans0 HK7.out⟩
end Go.Proofs.YtghgffhcdnmpnaaGreat
