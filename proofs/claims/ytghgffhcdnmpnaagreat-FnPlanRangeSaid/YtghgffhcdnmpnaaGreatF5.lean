/-
  The walk of FnPlanRange. Conditions: arguments that read as members and shares.
-/
import Derived.Test.YtghgffhcdnmpnaaGreatF4
import Derived.Test.YtghgffhcdnmpnaaGreatF1
import Derived.Test.YtghgffhcdnmpnaaGreatC22
import Derived.Test.YtghgffhcdnmpnaaGreatE5
namespace Go.Proofs.YtghgffhcdnmpnaaGreat
open Go.ChangeShapes Go.WideShapes Go.ChangeAt Go.RowKit Go.Sort
/-- A row of shares of one's own is read as its shares. -/
theorem own_shs {w : World} {B : Nat} {v : Value} {L : List (Sh × Value)} (h1 : w.ownsRow B 53 3 v L.length (shFlat L)) (h2 : ∀ p ∈ L, w.ownsRow B 21 1 p.2 p.1.parts.length (ints p.1.parts)) : ShsAt w (fun _ => True) v (L.map Prod.fst) :=
  ⟨L, rfl, (SlAt.own h1).mono (fun _ _ => trivial), fun p hp => (SlAt.own (h2 p hp)).mono (fun _ _ => trivial)⟩
theorem PlanS.shs {w : World} {B : Nat} {v : Value} {s : List (ByteArray × ByteArray × Int)} (h : PlanS w B v s) : ShsAt w (fun _ => True) v (sharesP s) := by
  obtain ⟨L, h1, h2, h3⟩ := h.ex
  rw [← h3]
  exact own_shs h1 h2
theorem nodup_of_get {α β : Type} (f : α → β) {l : List α} (h : ∀ (i j : Nat) (a b : α), i < j → l[i]? = some a → l[j]? = some b → f a ≠ f b) : (l.map f).Nodup := by
  refine List.pairwise_iff_getElem.2 (fun i j hi hj hij => ?_)
  rw [List.getElem_map, List.getElem_map]
  simp only [List.length_map] at hi hj
  exact h i j _ _ hij (List.getElem?_eq_getElem hi) (List.getElem?_eq_getElem hj)
theorem tops_sorted {ts : List Sh} (h : ∀ (i : Nat) (a b : Sh), ts[i]? = some a → ts[i + 1]? = some b → slt a.top b.top = true) : ts.Pairwise (fun a b => slt a.top b.top = true) := by
  induction ts with
  | nil => exact .nil
  | cons a r ih =>
    have ih' := ih (fun i x y hx hy => h (i + 1) x y (by simpa using hx) (by simpa using hy))
    refine List.pairwise_cons.2 ⟨fun y hy => ?_, ih'⟩
    cases r with
    | nil => cases hy
    | cons b r =>
      have hab := h 0 a b rfl rfl
      rcases List.mem_cons.1 hy with rfl | hy
      · exact hab
      · exact slt_trans hab ((List.pairwise_cons.1 ih').1 y hy)
theorem Fits.tnodup {ms : List MV} {ts : List Sh} (h : Fits ms ts) : (ts.map Sh.top).Nodup := by
  rw [List.Nodup, List.pairwise_map]
  refine (tops_sorted h.sorted).imp ?_
  intro a b hab he
  rw [he, slt_irrefl] at hab
  cases hab
theorem Fits.inodup {ms : List MV} {ts : List Sh} (h : Fits ms ts) : (ms.map MV.id).Nodup := nodup_of_get MV.id h.ids
theorem Fits.grp {ms : List MV} {ts : List Sh} {w : World} {mv tv : Value} (h : Fits ms ts) (hm : MemsAt w (fun x => x < w.heap.size) mv ms) (ht : ShsAt w (fun x => x < w.heap.size) tv ts) : Grp w (fun x => x < w.heap.size) mv tv ms ts where
  mems := hm
  tops := ht
  lt := fun _ hx => hx
  ids := h.inodup
  six := by have := h.m6; omega
  one := h.m1
  once := fun m hm => by
    obtain ⟨i, hi⟩ := List.getElem?_of_mem hm
    have h1 := h.mems i m hi
    refine ⟨?_, h1.data, h1.own, by have := h1.six; omega⟩
    have := nodup_of_get (id : ByteArray → ByteArray) (l := m.tops) h1.once
    simpa using this
  names := h.tnodup
  twelve := by have := h.t6; omega
  few := fun s hs => by
    obtain ⟨i, hi⟩ := List.getElem?_of_mem hs
    have := (h.tops i s hi).ten
    omega
theorem range_same {ms : List MV} {ts : List Sh} (h : Fits ms ts) : canon (rangePlan (memList ms) (topList ts)) (ms.map MV.id) (ts.map Sh.top) = sharesP (rangeSeq (memList ms) (topList ts)) := by
  have hi : (memList ms).map Prod.fst = ms.map MV.id := by simp [memList, Function.comp_def]
  have ht : (topList ts).map Prod.fst = ts.map Sh.top := by simp [topList, Function.comp_def]
  have hr : gives (rangeSeq (memList ms) (topList ts)) = rangePlan (memList ms) (topList ts) := gives_rangeP _ (by rw [hi]; exact h.inodup) _ (by rw [ht]; exact h.tnodup)
  refine Reads.unique (canon_reads h.inodup h.tnodup (fun m t hne => ⟨?_, ?_⟩)) (by rw [← hr]; exact sharesP_reads _)
  · unfold rangePlan rangeOf at hne
    split at hne
    · rename_i hm
      rw [← hi]
      exact (wantIds_sub _ _).subset ((srt_perm _).mem_iff.1 hm)
    · exact absurd rfl hne
  · rw [← ht]
    exact rangePlan_top hne
set_option maxRecDepth 100000 in
set_option maxHeartbeats 3200000 in
theorem fnPlanRange_walk (A B : Option Addr) (c d : Nat) (ms : List MV) (l : List (Sh × Value)) (w : World) (hm : MemsArg w (.slice A ms.length c) ms) (ht : ShsArg w (.slice B l.length d) l) :
    Calls Tryz.prog 8 #[.slice A ms.length c, .slice B l.length d] w fun e w' => e = .returned (.bool true) ∧ Kept [] w w' := by
  have HM := Lib.hid hm
  have HT := Lib.hid ht
  have HG := Lib.hid groupAlive_any
  clear hm ht
  go_enter Tryz.func8, Tryz.ntmps8
  go_wp2_with (fail)
  refine (fits2_any A c ms _ HM.out).mono ?_
  rintro e w1 ⟨b1, rfl, hk1⟩
  have HK1 := Lib.hid hk1
  clear hk1
  cases b1 with
  | false =>
    go_wp2
    go_ret
    exact ⟨rfl, HK1.out⟩
  | true =>
    go_wp2_with (fail)
    refine (fits5_any B d l _ (HT.out.kept0 HK1.out)).mono ?_
    rintro e w2 ⟨b2, rfl, hk2⟩
    have HK2 := Lib.hid (HK1.out.trans0 hk2)
    clear hk2
    cases b2 with
    | false =>
      go_wp2
      go_ret
      exact ⟨rfl, HK2.out⟩
    | true =>
      go_wp2_with (fail)
      refine (groupFits_any A B c d ms l _ (HM.out.kept0 HK2.out) (HT.out.kept0 HK2.out)).mono ?_
      rintro e w3 ⟨b3, rfl, hf, hk3⟩
      have HF := Lib.hid hf
      have HK3 := Lib.hid (HK2.out.trans0 hk3)
      clear hf hk3
      cases b3 with
      | false =>
        go_wp2_with ((with_reducible refine (HG.out _).mono ?_); rintro e w4 ⟨rfl, hk4⟩; have HK4 := Lib.hid (HK3.out.trans0 hk4); clear hk4)
        go_ret
        exact ⟨rfl, HK4.out⟩
      | true =>
        have HFI := Lib.hid (HF.out rfl)
        have hmm := (HM.out.kept0 HK3.out).mems
        have htt := (HT.out.kept0 HK3.out).shs
        have HGP := Lib.hid (groupPlan_range _ _ _ _ _ w3 (HFI.out.grp hmm htt))
        have HRP : Hid (∀ W, Kept [] w3 W → Calls Tryz.prog 24 #[.slice A ms.length c, .slice B l.length d] W (RPlanR ms (l.map Prod.fst) W)) := fun W hW =>
          rangePlan_spec _ _ _ _ _ _ W (hmm.kept0 hW) (htt.kept0 hW) (by have := HFI.out.m6; omega) (by have := HFI.out.t6; omega) (fun s hs => by
            obtain ⟨i, hi⟩ := List.getElem?_of_mem hs
            have := (HFI.out.tops i s hi).ten
            omega)
        clear hmm htt
        go_wp2_with (fail)
        refine HGP.out.mono ?_
        rintro e w4 ⟨v4, L4, rfl, hL4, hown4, hparts4, hk4⟩
        have HSH := Lib.hid (own_shs hown4 hparts4)
        rw [hL4, range_same HFI.out] at HSH
        have HK4 := Lib.hid hk4
        clear hL4 hown4 hparts4 hk4
        go_wp2_with (first
          | ((with_reducible refine (HG.out _).mono ?_); rintro e w5 ⟨rfl, hk5⟩; have HK5 := Lib.hid (HK4.out.trans0 hk5); have HSH5 := Lib.hid (HSH.out.kept0 hk5); clear hk5)
          | ((with_reducible refine (HRP.out _ HK5.out).mono ?_); rintro e w6 ⟨v6, rfl, hp6, hk6⟩; have HP6 := Lib.hid hp6; have HK6 := Lib.hid (HK5.out.trans0 hk6); have HSH6 := Lib.hid (HSH5.out.kept0 hk6); clear hp6 hk6)
          | ((with_reducible refine (samePlan_any _ _ _ _ _ _ HSH6.out HP6.out.shs).mono ?_); rintro e w7 ⟨rfl, hk7⟩; have HK7 := Lib.hid (HK6.out.trans0 hk7); clear hk7))
        go_ret
        exact ⟨rfl, HK3.out.trans0 HK7.out⟩
end Go.Proofs.YtghgffhcdnmpnaaGreat
