/-
  The walk of FnPlanShuffled. Conditions: arguments that read as members and shares; a turn of a byte.
-/
import Derived.Test.YtghgffhcdnmpnaaGreatZM1
import Derived.Test.YtghgffhcdnmpnaaGreatZF3
import Derived.Test.YtghgffhcdnmpnaaGreatZC20
namespace Go.Proofs.YtghgffhcdnmpnaaGreat
open Go.RowKit Go.Sort
/-- What a strategy (ranges, round robin) gives. -/
def PlanOf (rb : Bool) (ms : List MV) (ts P : List Sh) : Prop :=
  match rb with
  | false => P = sharesP (rangeSeq (memList ms) (topList ts))
  | true => ∃ Lm : List (ByteArray × List ByteArray), Lm.Perm (memList ms) ∧ Lm.Pairwise (fun p q => slt p.1 q.1 = true) ∧ P = sharesP (roundSeq Lm (pairsOf (topList ts)) 0)
def kindOf (rb : Bool) : Int := if rb then 1 else 0
theorem planOf_det {rb : Bool} {ms ms' : List MV} {ts P P' : List Sh} (h : Fits ms ts) (hp : ms'.Perm ms) (h1 : PlanOf rb ms ts P) (h2 : PlanOf rb ms' ts P') : P = P' ∧ ∀ x ∈ P, ∀ p ∈ x.parts, Has P x.mem x.top p := by
  have hm : (memList ms').Perm (memList ms) := hp.map _
  cases rb with
  | false =>
    have e1 : P = _ := h1
    have e2 : P' = _ := h2
    rw [e1, e2, rangeSeq_perm hm]
    exact ⟨rfl, fun x hx p hp => shares_has (range_nodup h) hx hp⟩
  | true =>
    obtain ⟨L1, a1, a2, rfl⟩ := h1
    obtain ⟨L2, b1, b2, rfl⟩ := h2
    have e : L1 = L2 := sorted_two ((a1.trans hm.symm).trans b1.symm) a2 b2
    subst e
    exact ⟨rfl, fun x hx p hp => shares_has (round_nodup h L1) hx hp⟩
def PlanR (rb : Bool) (ms : List MV) (ts : List Sh) (w : World) (e : Ending) (w' : World) : Prop :=
  ∃ (v : Value) (P : List Sh), e = .returned (.tuple #[v, .bool true]) ∧ ShsAt w' (fun _ => True) v P ∧ PlanOf rb ms ts P ∧ Kept [] w w'
theorem plan_any (rb : Bool) (ms : List MV) (ts : List Sh) (mv tv : Value) (w : World) (h : Fits ms ts) (hm : MemsAt w (fun x => x < w.heap.size) mv ms) (ht : ShsAt w (fun x => x < w.heap.size) tv ts) :
    Calls Tryz.prog 20 #[.int .i64 (kindOf rb), mv, tv] w (PlanR rb ms ts w) := by
  cases rb with
  | false =>
    refine (groupPlan_range _ _ _ _ _ w (h.grp hm ht)).mono ?_
    rintro e w' ⟨v, L, rfl, h1, h2, h3, h4⟩
    exact ⟨v, _, rfl, own_shs h2 h3, by rw [h1]; exact range_same h, h4⟩
  | true =>
    refine (groupPlanK planK1 _ _ _ _ _ w (h.grp hm ht) (fits_pre h)).mono ?_
    rintro e w' ⟨v, L, F, rfl, hg, _, h1, h2, h3, h4⟩
    obtain ⟨Lm, a1, a2, a3⟩ := round_same2 h hg
    exact ⟨v, _, rfl, own_shs h2 h3, ⟨Lm, a1, a2, by rw [h1]; exact a3⟩, h4⟩
/-- The places of a list, from behind, turned. -/
def turned (n tn d : Nat) : List Nat := (List.range d).map fun k => (n - 1 - k + tn) % n
theorem turned_succ (n tn d : Nat) : turned n tn (d + 1) = turned n tn d ++ [(n - 1 - d + tn) % n] := by simp [turned, List.range_succ]
theorem turned_nodup {n : Nat} (hn : 0 < n) (tn : Nat) : (turned n tn n).Nodup := by
  unfold turned
  rw [List.Nodup, List.pairwise_map]
  refine List.pairwise_iff_getElem.2 (fun i j hi hj hij he => ?_)
  simp only [List.getElem_range, List.length_range] at hi hj he
  have h1 := Nat.sub_mod_eq_zero_of_mod_eq he
  have h2 : n - 1 - i + tn - (n - 1 - j + tn) = j - i := by omega
  rw [h2, Nat.mod_eq_of_lt (by omega)] at h1
  omega
theorem turned_lt {n : Nat} (hn : 0 < n) (tn d : Nat) : ∀ i ∈ turned n tn d, i < n := by
  intro i hi
  obtain ⟨k, _, rfl⟩ := List.mem_map.1 hi
  exact Nat.mod_lt _ hn
set_option maxRecDepth 100000 in
set_option maxHeartbeats 3200000 in
theorem fnPlanShuffled_false (tn : Nat) (htn : tn ≤ 255) (A B : Option Addr) (c d : Nat) (ms : List MV) (l : List (Sh × Value)) (w : World) (hm : MemsArg w (.slice A ms.length c) ms) (ht : ShsArg w (.slice B l.length d) l) :
    Calls Tryz.prog 10 #[.bool false, .slice A ms.length c, .slice B l.length d, .int .u8 tn] w fun e w' => e = .returned (.bool true) ∧ Kept [] w w' := by
  have HM := Lib.hid hm
  have HT := Lib.hid ht
  have HG := Lib.hid groupAlive_any
  clear hm ht
  go_enter Tryz.func10, Tryz.ntmps10
  go_wp2_with (fail)
  refine (fits2_any A c ms _ HM.out).mono ?_
  rintro e w1 ⟨b1, rfl, hk1⟩
  have HK1 := Lib.hid hk1
  clear hk1
  cases b1 with
  | false =>
    go_wp2
    go_ret
    exact ⟨rfl, HK1.out⟩
  | true =>
    go_wp2_with (fail)
    refine (fits5_any B d l _ (HT.out.kept0 HK1.out)).mono ?_
    rintro e w2 ⟨b2, rfl, hk2⟩
    have HK2 := Lib.hid (HK1.out.trans0 hk2)
    clear hk2
    cases b2 with
    | false =>
      go_wp2
      go_ret
      exact ⟨rfl, HK2.out⟩
    | true =>
      go_wp2_with (fail)
      refine (groupFits_any A B c d ms l _ (HM.out.kept0 HK2.out) (HT.out.kept0 HK2.out)).mono ?_
      rintro e w3 ⟨b3, rfl, hf, hk3⟩
      have HF := Lib.hid hf
      have HK3 := Lib.hid (HK2.out.trans0 hk3)
      clear hf hk3
      cases b3 with
      | false =>
        go_wp2_with ((with_reducible refine (HG.out _).mono ?_); rintro e w4 ⟨rfl, hk4⟩; have HK4 := Lib.hid (HK3.out.trans0 hk4); clear hk4)
        go_ret
        exact ⟨rfl, HK4.out⟩
      | true =>
        have HFI := Lib.hid (HF.out rfl)
        have hmm := (HM.out.kept0 HK3.out).mems
        have HMM := Lib.hid hmm
        have HTT := Lib.hid (HT.out.kept0 HK3.out).shs
        obtain ⟨A', n', c', he, hms, _, _⟩ := hmm.1
        cases he
        have HMS := Lib.hid hms
        have HONE := Lib.hid (mems_one hmm)
        obtain ⟨n, hn⟩ : ∃ n, ms.length = n := ⟨_, rfl⟩
        have hn6 : n ≤ 6 ∧ 1 ≤ n := by rw [← hn]; exact ⟨HFI.out.m6, HFI.out.m1⟩
        have HN := Lib.hid hn
        rw [hn] at HMS HMM ⊢
        obtain ⟨z, hz⟩ : ∃ z, w3.heap.size = z := ⟨_, rfl⟩
        have HZ := Lib.hid hz
        have hwt : IntKind.i64.wrap (tn : Int) = (tn : Int) := by rw [IntWalk.i64_left, IntWalk.wrap64_in _ (by omega)]
        clear hms hmm hn hz
        go_wp2
        go_loopw [10, 11] (fun ov q wr => ∃ (z' : Int) (dd ee : Nat), q = .int .i64 z' ∧ z' + 1 = (ee : Int) ∧ dd + ee = n ∧ wr.ownsRow z 46 8 ov dd ((walked ms (turned n tn dd)).flatMap mvCells) ∧ Kept [] w3 wr) (fun _ q _ => (intOf q + 1).toNat)
        case atStart => exact ⟨_, 0, n, rfl, by omega, by omega, World.ownsRow_nil _ _ _ _, Kept.refl _ _⟩
        case round =>
          obtain ⟨z', dd, ee, rfl, hze, hde, hrow, hkr⟩ := hrel
          have HROW := Lib.hid hrow
          have HKR := Lib.hid hkr
          clear hrow hkr
          rcases Nat.eq_zero_or_pos ee with he0 | he0
          · obtain rfl : z' = -1 := by omega
            obtain rfl : dd = n := by omega
            obtain ⟨ms', hms'⟩ : ∃ ms', walked ms (turned dd tn dd) = ms' := ⟨_, rfl⟩
            have hpw : ms'.Perm ms := by
              rw [← hms']
              exact walked_perm (turned_nodup (by omega) tn) (fun i hi => by rw [HN.out]; exact turned_lt (by omega) tn dd i hi) (by simp [turned, HN.out])
            rw [hms'] at HROW
            have hml' : ms'.length = dd := by rw [hpw.length_eq, HN.out]
            have HML' := Lib.hid hml'
            have HPW := Lib.hid hpw
            obtain ⟨A2, c2, rfl⟩ := own_form HROW.out
            have HPA : Hid (Calls Tryz.prog 20 #[.int .i64 (kindOf false), .slice A dd c, .slice B l.length d] wr (PlanR false ms (l.map Prod.fst) wr)) := by
              have h1 := HKR.out.size
              refine plan_any false ms (l.map Prod.fst) _ _ wr HFI.out ⟨(HMM.out.kept0 HKR.out).1.mono (fun x hx => Nat.lt_of_lt_of_le hx h1), fun m hm => ⟨((HMM.out.kept0 HKR.out).2 m hm).1.mono (fun x hx => Nat.lt_of_lt_of_le hx h1), ((HMM.out.kept0 HKR.out).2 m hm).2⟩⟩ ((HTT.out.kept0 HKR.out).mono (fun x hx => Nat.lt_of_lt_of_le hx h1))
            clear hms' hpw hml'
            go_wp2_with (fail)
            refine HPA.out.mono ?_
            rintro e w4 ⟨va, P, rfl, hsa, hpa, hk4⟩
            have HSA := Lib.hid hsa
            have HPLA := Lib.hid hpa
            have HK4 := Lib.hid (HKR.out.trans0 hk4)
            have HROW4 := Lib.hid (own_kept0 HROW.out hk4)
            clear hsa hpa hk4
            have HPB : Hid (Calls Tryz.prog 20 #[.int .i64 (kindOf false), .slice A2 dd c2, .slice B l.length d] w4 (PlanR false ms' (l.map Prod.fst) w4)) := by
              have h1 := HK4.out.size
              have h0 := SlAt.own HROW4.out
              refine plan_any false ms' (l.map Prod.fst) _ _ w4 (HFI.out.perm HPW.out) ⟨h0.mono (fun x hx => hx.2.2), fun m hm => ?_⟩ ((HTT.out.kept0 HK4.out).mono (fun x hx => Nat.lt_of_lt_of_le hx h1))
              have h2 := (HMM.out.kept0 HK4.out).2 m (HPW.out.mem_iff.1 hm)
              exact ⟨h2.1.mono (fun x hx => Nat.lt_of_lt_of_le hx h1), h2.2⟩
            go_wp2_with (fail)
            refine HPB.out.mono ?_
            rintro e w5 ⟨vb, P', rfl, hsb, hpb, hk5⟩
            obtain ⟨hPP, hhas⟩ := planOf_det HFI.out HPW.out HPLA.out hpb
            subst hPP
            have HSA5 := Lib.hid (HSA.out.kept0 hk5)
            have HSB5 := Lib.hid hsb
            have HHAS := Lib.hid hhas
            have HK5 := Lib.hid (HK4.out.trans0 hk5)
            clear hsb hpb hk5 hhas
            go_wp2
            go_loopw [16] (fun q wr => ∃ k : Nat, k ≤ dd ∧ q = .int .i64 k ∧ Kept [] w5 wr) (fun q _ => dd - (intOf q).toNat)
            case atStart => exact ⟨0, Nat.zero_le _, rfl, Kept.refl _ _⟩
            case round =>
              obtain ⟨k, hk, rfl, hkr⟩ := hrel
              have HKR6 := Lib.hid hkr
              clear hkr
              by_cases hlk : k < dd
              · obtain ⟨x, hx⟩ : ∃ x, ms[k]? = some x := ⟨_, List.getElem?_eq_getElem (by have := HN.out; omega)⟩
                obtain ⟨b0, o0, rfl, hcc⟩ := HMS.out.2.2 (by omega)
                have hcx : wr.cell? ⟨b0, o0 + k * 8, none⟩ = some (.string x.id) := (HK5.out.trans0 HKR6.out).cell (mv_cell hcc hx 0 _ rfl) (by simp)
                have HCX6 := Lib.hid hcx
                obtain ⟨id, hid⟩ : ∃ id, x.id = id := ⟨_, rfl⟩
                rw [hid] at hcx HCX6
                have hkeep : ∀ y ∈ P, y.mem = id → ∀ p ∈ y.parts, Has P id y.top p := fun y hy hm p hp => hm ▸ HHAS.out y hy p hp
                have HKA : Hid (∀ W, Kept [] w5 W → Calls Tryz.prog 26 #[.string id, va, vb] W fun e w' => e = .returned (.bool true) ∧ Kept [] W w') := fun W hW => kept_any _ _ va vb P P id W (HSA5.out.kept0 hW) (HSB5.out.kept0 hW) hkeep
                have HKB : Hid (∀ W, Kept [] w5 W → Calls Tryz.prog 26 #[.string id, vb, va] W fun e w' => e = .returned (.bool true) ∧ Kept [] W w') := fun W hW => kept_any _ _ vb va P P id W (HSB5.out.kept0 hW) (HSA5.out.kept0 hW) hkeep
                clear hcc hx hid hkeep
                go_wp2_with (first
                  | ((with_reducible refine (HKA.out _ HKR6.out).mono ?_); rintro e w7 ⟨rfl, hk7⟩; have HK7 := Lib.hid (HKR6.out.trans0 hk7); have hcx7 := hk7.cell HCX6.out (by simp); clear hk7)
                  | ((with_reducible refine (HKB.out _ HK7.out).mono ?_); rintro e w8 ⟨rfl, hk8⟩; have HK8 := Lib.hid (HK7.out.trans0 hk8); clear hk8))
                go_roundw
                case rel => exact ⟨k + 1, by omega, by go_num, HK8.out⟩
                case measure => (simp [intOf]) <;> omega
              · go_wp2_with ((with_reducible refine (HG.out _).mono ?_); rintro e w7 ⟨rfl, hk7⟩; have HK7 := Lib.hid (HKR6.out.trans0 hk7); clear hk7)
                go_ret
                exact ⟨rfl, HK3.out.trans0 (HK5.out.trans0 HK7.out)⟩
          · obtain ⟨i, rfl⟩ : ∃ i : Nat, z' = (i : Int) := ⟨ee - 1, by omega⟩
            have hin : i < n := by omega
            obtain ⟨r, hr⟩ : ∃ r, (i + tn) % n = r := ⟨_, rfl⟩
            have hrl : r < n := by rw [← hr]; exact Nat.mod_lt _ (by omega)
            have hrem : Int.tmod ((i : Int) + (tn : Int)) (n : Int) = (r : Int) := by rw [← hr]; rfl
            have hn0 : ¬ ((n : Int) = 0) := by omega
            obtain ⟨x, hx⟩ : ∃ x, ms[r]? = some x := ⟨_, List.getElem?_eq_getElem (by have := HN.out; omega)⟩
            obtain ⟨b0, o0, rfl, hcc⟩ := HMS.out.2.2 (by omega)
            have HCX : Hid (∀ a v, (mvCells x)[a]? = some v → wr.cell? ⟨b0, o0 + r * 8 + a, none⟩ = some v) := fun a v hv => HKR.out.cell (mv_cell hcc hx a v hv) (by simp)
            have HX := Lib.hid hx
            have HR := Lib.hid hr
            have hml := mv_len x
            have hzw : z ≤ wr.heap.size := by have h1 := HKR.out.size; have h2 := HZ.out; omega
            clear hcc hx hr
            go_wp2_with (first
              | (refine wl_load_struct rfl 46 _ rfl Tryz.underlying46 rfl rfl b0 (o0 + r * 8) rfl (mvCells x) rfl HCX.out ?_)
              | (at_builtin; refine wl_append rfl _ _ 29 rfl z 46 Tryz.underlying29 info46 rfl (by decide) _ dd _ rfl (own_kept0 HROW.out ((Kept.refl _ _).alloc _)) _ 1 1 (mvCells x) rfl (own_slis (own_new wr 46 8 1 (mvCells x).toArray 0 (Nat.zero_le _) (by omega) rfl rfl)) (HONE.out x (List.mem_of_getElem? HX.out)) (by omega) (by omega) (by simp; omega) ?_; intro v7 w7 hown hk7 hat; obtain ⟨A7, c7, rfl⟩ := own_form hown; have HO7 := Lib.hid hown; have HK7 := Lib.hid hk7; clear hown hk7 hat))
            have hidx : (n - 1 - dd + tn) % n = r := by
              have h1 : n - 1 - dd = i := by omega
              rw [h1]
              exact HR.out
            refine ⟨⟨(i : Int) - 1, dd + 1, ee - 1, rfl, by omega, by omega, ?_, ?_⟩, by (simp [intOf])⟩
            · rw [turned_succ, hidx, walked_snoc HX.out, List.flatMap_append]
              simpa using HO7.out
            · refine (HKR.out.alloc _).trans HK7.out (fun x hx => .inr ?_)
              have h1 := own_ge HROW.out x (Option.mem_toList.1 hx)
              rw [HZ.out]
              exact h1
set_option maxRecDepth 100000 in
set_option maxHeartbeats 3200000 in
theorem fnPlanShuffled_true (tn : Nat) (htn : tn ≤ 255) (A B : Option Addr) (c d : Nat) (ms : List MV) (l : List (Sh × Value)) (w : World) (hm : MemsArg w (.slice A ms.length c) ms) (ht : ShsArg w (.slice B l.length d) l) :
    Calls Tryz.prog 10 #[.bool true, .slice A ms.length c, .slice B l.length d, .int .u8 tn] w fun e w' => e = .returned (.bool true) ∧ Kept [] w w' := by
  have HM := Lib.hid hm
  have HT := Lib.hid ht
  have HG := Lib.hid groupAlive_any
  clear hm ht
  go_enter Tryz.func10, Tryz.ntmps10
  go_wp2_with (fail)
  refine (fits2_any A c ms _ HM.out).mono ?_
  rintro e w1 ⟨b1, rfl, hk1⟩
  have HK1 := Lib.hid hk1
  clear hk1
  cases b1 with
  | false =>
    go_wp2
    go_ret
    exact ⟨rfl, HK1.out⟩
  | true =>
    go_wp2_with (fail)
    refine (fits5_any B d l _ (HT.out.kept0 HK1.out)).mono ?_
    rintro e w2 ⟨b2, rfl, hk2⟩
    have HK2 := Lib.hid (HK1.out.trans0 hk2)
    clear hk2
    cases b2 with
    | false =>
      go_wp2
      go_ret
      exact ⟨rfl, HK2.out⟩
    | true =>
      go_wp2_with (fail)
      refine (groupFits_any A B c d ms l _ (HM.out.kept0 HK2.out) (HT.out.kept0 HK2.out)).mono ?_
      rintro e w3 ⟨b3, rfl, hf, hk3⟩
      have HF := Lib.hid hf
      have HK3 := Lib.hid (HK2.out.trans0 hk3)
      clear hf hk3
      cases b3 with
      | false =>
        go_wp2_with ((with_reducible refine (HG.out _).mono ?_); rintro e w4 ⟨rfl, hk4⟩; have HK4 := Lib.hid (HK3.out.trans0 hk4); clear hk4)
        go_ret
        exact ⟨rfl, HK4.out⟩
      | true =>
        have HFI := Lib.hid (HF.out rfl)
        have hmm := (HM.out.kept0 HK3.out).mems
        have HMM := Lib.hid hmm
        have HTT := Lib.hid (HT.out.kept0 HK3.out).shs
        obtain ⟨A', n', c', he, hms, _, _⟩ := hmm.1
        cases he
        have HMS := Lib.hid hms
        have HONE := Lib.hid (mems_one hmm)
        obtain ⟨n, hn⟩ : ∃ n, ms.length = n := ⟨_, rfl⟩
        have hn6 : n ≤ 6 ∧ 1 ≤ n := by rw [← hn]; exact ⟨HFI.out.m6, HFI.out.m1⟩
        have HN := Lib.hid hn
        rw [hn] at HMS HMM ⊢
        obtain ⟨z, hz⟩ : ∃ z, w3.heap.size = z := ⟨_, rfl⟩
        have HZ := Lib.hid hz
        have hwt : IntKind.i64.wrap (tn : Int) = (tn : Int) := by rw [IntWalk.i64_left, IntWalk.wrap64_in _ (by omega)]
        clear hms hmm hn hz
        go_wp2
        go_loopw [10, 11] (fun ov q wr => ∃ (z' : Int) (dd ee : Nat), q = .int .i64 z' ∧ z' + 1 = (ee : Int) ∧ dd + ee = n ∧ wr.ownsRow z 46 8 ov dd ((walked ms (turned n tn dd)).flatMap mvCells) ∧ Kept [] w3 wr) (fun _ q _ => (intOf q + 1).toNat)
        case atStart => exact ⟨_, 0, n, rfl, by omega, by omega, World.ownsRow_nil _ _ _ _, Kept.refl _ _⟩
        case round =>
          obtain ⟨z', dd, ee, rfl, hze, hde, hrow, hkr⟩ := hrel
          have HROW := Lib.hid hrow
          have HKR := Lib.hid hkr
          clear hrow hkr
          rcases Nat.eq_zero_or_pos ee with he0 | he0
          · obtain rfl : z' = -1 := by omega
            obtain rfl : dd = n := by omega
            obtain ⟨ms', hms'⟩ : ∃ ms', walked ms (turned dd tn dd) = ms' := ⟨_, rfl⟩
            have hpw : ms'.Perm ms := by
              rw [← hms']
              exact walked_perm (turned_nodup (by omega) tn) (fun i hi => by rw [HN.out]; exact turned_lt (by omega) tn dd i hi) (by simp [turned, HN.out])
            rw [hms'] at HROW
            have hml' : ms'.length = dd := by rw [hpw.length_eq, HN.out]
            have HML' := Lib.hid hml'
            have HPW := Lib.hid hpw
            obtain ⟨A2, c2, rfl⟩ := own_form HROW.out
            have HPA : Hid (Calls Tryz.prog 20 #[.int .i64 (kindOf true), .slice A dd c, .slice B l.length d] wr (PlanR true ms (l.map Prod.fst) wr)) := by
              have h1 := HKR.out.size
              refine plan_any true ms (l.map Prod.fst) _ _ wr HFI.out ⟨(HMM.out.kept0 HKR.out).1.mono (fun x hx => Nat.lt_of_lt_of_le hx h1), fun m hm => ⟨((HMM.out.kept0 HKR.out).2 m hm).1.mono (fun x hx => Nat.lt_of_lt_of_le hx h1), ((HMM.out.kept0 HKR.out).2 m hm).2⟩⟩ ((HTT.out.kept0 HKR.out).mono (fun x hx => Nat.lt_of_lt_of_le hx h1))
            clear hms' hpw hml'
            go_wp2_with (fail)
            refine HPA.out.mono ?_
            rintro e w4 ⟨va, P, rfl, hsa, hpa, hk4⟩
            have HSA := Lib.hid hsa
            have HPLA := Lib.hid hpa
            have HK4 := Lib.hid (HKR.out.trans0 hk4)
            have HROW4 := Lib.hid (own_kept0 HROW.out hk4)
            clear hsa hpa hk4
            have HPB : Hid (Calls Tryz.prog 20 #[.int .i64 (kindOf true), .slice A2 dd c2, .slice B l.length d] w4 (PlanR true ms' (l.map Prod.fst) w4)) := by
              have h1 := HK4.out.size
              have h0 := SlAt.own HROW4.out
              refine plan_any true ms' (l.map Prod.fst) _ _ w4 (HFI.out.perm HPW.out) ⟨h0.mono (fun x hx => hx.2.2), fun m hm => ?_⟩ ((HTT.out.kept0 HK4.out).mono (fun x hx => Nat.lt_of_lt_of_le hx h1))
              have h2 := (HMM.out.kept0 HK4.out).2 m (HPW.out.mem_iff.1 hm)
              exact ⟨h2.1.mono (fun x hx => Nat.lt_of_lt_of_le hx h1), h2.2⟩
            go_wp2_with (fail)
            refine HPB.out.mono ?_
            rintro e w5 ⟨vb, P', rfl, hsb, hpb, hk5⟩
            obtain ⟨hPP, hhas⟩ := planOf_det HFI.out HPW.out HPLA.out hpb
            subst hPP
            have HSA5 := Lib.hid (HSA.out.kept0 hk5)
            have HSB5 := Lib.hid hsb
            have HHAS := Lib.hid hhas
            have HK5 := Lib.hid (HK4.out.trans0 hk5)
            clear hsb hpb hk5 hhas
            go_wp2
            go_loopw [16] (fun q wr => ∃ k : Nat, k ≤ dd ∧ q = .int .i64 k ∧ Kept [] w5 wr) (fun q _ => dd - (intOf q).toNat)
            case atStart => exact ⟨0, Nat.zero_le _, rfl, Kept.refl _ _⟩
            case round =>
              obtain ⟨k, hk, rfl, hkr⟩ := hrel
              have HKR6 := Lib.hid hkr
              clear hkr
              by_cases hlk : k < dd
              · obtain ⟨x, hx⟩ : ∃ x, ms[k]? = some x := ⟨_, List.getElem?_eq_getElem (by have := HN.out; omega)⟩
                obtain ⟨b0, o0, rfl, hcc⟩ := HMS.out.2.2 (by omega)
                have hcx : wr.cell? ⟨b0, o0 + k * 8, none⟩ = some (.string x.id) := (HK5.out.trans0 HKR6.out).cell (mv_cell hcc hx 0 _ rfl) (by simp)
                have HCX6 := Lib.hid hcx
                obtain ⟨id, hid⟩ : ∃ id, x.id = id := ⟨_, rfl⟩
                rw [hid] at hcx HCX6
                have hkeep : ∀ y ∈ P, y.mem = id → ∀ p ∈ y.parts, Has P id y.top p := fun y hy hm p hp => hm ▸ HHAS.out y hy p hp
                have HKA : Hid (∀ W, Kept [] w5 W → Calls Tryz.prog 26 #[.string id, va, vb] W fun e w' => e = .returned (.bool true) ∧ Kept [] W w') := fun W hW => kept_any _ _ va vb P P id W (HSA5.out.kept0 hW) (HSB5.out.kept0 hW) hkeep
                have HKB : Hid (∀ W, Kept [] w5 W → Calls Tryz.prog 26 #[.string id, vb, va] W fun e w' => e = .returned (.bool true) ∧ Kept [] W w') := fun W hW => kept_any _ _ vb va P P id W (HSB5.out.kept0 hW) (HSA5.out.kept0 hW) hkeep
                clear hcc hx hid hkeep
                go_wp2_with (first
                  | ((with_reducible refine (HKA.out _ HKR6.out).mono ?_); rintro e w7 ⟨rfl, hk7⟩; have HK7 := Lib.hid (HKR6.out.trans0 hk7); have hcx7 := hk7.cell HCX6.out (by simp); clear hk7)
                  | ((with_reducible refine (HKB.out _ HK7.out).mono ?_); rintro e w8 ⟨rfl, hk8⟩; have HK8 := Lib.hid (HK7.out.trans0 hk8); clear hk8))
                go_roundw
                case rel => exact ⟨k + 1, by omega, by go_num, HK8.out⟩
                case measure => (simp [intOf]) <;> omega
              · go_wp2_with ((with_reducible refine (HG.out _).mono ?_); rintro e w7 ⟨rfl, hk7⟩; have HK7 := Lib.hid (HKR6.out.trans0 hk7); clear hk7)
                go_ret
                exact ⟨rfl, HK3.out.trans0 (HK5.out.trans0 HK7.out)⟩
          · obtain ⟨i, rfl⟩ : ∃ i : Nat, z' = (i : Int) := ⟨ee - 1, by omega⟩
            have hin : i < n := by omega
            obtain ⟨r, hr⟩ : ∃ r, (i + tn) % n = r := ⟨_, rfl⟩
            have hrl : r < n := by rw [← hr]; exact Nat.mod_lt _ (by omega)
            have hrem : Int.tmod ((i : Int) + (tn : Int)) (n : Int) = (r : Int) := by rw [← hr]; rfl
            have hn0 : ¬ ((n : Int) = 0) := by omega
            obtain ⟨x, hx⟩ : ∃ x, ms[r]? = some x := ⟨_, List.getElem?_eq_getElem (by have := HN.out; omega)⟩
            obtain ⟨b0, o0, rfl, hcc⟩ := HMS.out.2.2 (by omega)
            have HCX : Hid (∀ a v, (mvCells x)[a]? = some v → wr.cell? ⟨b0, o0 + r * 8 + a, none⟩ = some v) := fun a v hv => HKR.out.cell (mv_cell hcc hx a v hv) (by simp)
            have HX := Lib.hid hx
            have HR := Lib.hid hr
            have hml := mv_len x
            have hzw : z ≤ wr.heap.size := by have h1 := HKR.out.size; have h2 := HZ.out; omega
            clear hcc hx hr
            go_wp2_with (first
              | (refine wl_load_struct rfl 46 _ rfl Tryz.underlying46 rfl rfl b0 (o0 + r * 8) rfl (mvCells x) rfl HCX.out ?_)
              | (at_builtin; refine wl_append rfl _ _ 29 rfl z 46 Tryz.underlying29 info46 rfl (by decide) _ dd _ rfl (own_kept0 HROW.out ((Kept.refl _ _).alloc _)) _ 1 1 (mvCells x) rfl (own_slis (own_new wr 46 8 1 (mvCells x).toArray 0 (Nat.zero_le _) (by omega) rfl rfl)) (HONE.out x (List.mem_of_getElem? HX.out)) (by omega) (by omega) (by simp; omega) ?_; intro v7 w7 hown hk7 hat; obtain ⟨A7, c7, rfl⟩ := own_form hown; have HO7 := Lib.hid hown; have HK7 := Lib.hid hk7; clear hown hk7 hat))
            have hidx : (n - 1 - dd + tn) % n = r := by
              have h1 : n - 1 - dd = i := by omega
              rw [h1]
              exact HR.out
            refine ⟨⟨(i : Int) - 1, dd + 1, ee - 1, rfl, by omega, by omega, ?_, ?_⟩, by (simp [intOf])⟩
            · rw [turned_succ, hidx, walked_snoc HX.out, List.flatMap_append]
              simpa using HO7.out
            · refine (HKR.out.alloc _).trans HK7.out (fun x hx => .inr ?_)
              have h1 := own_ge HROW.out x (Option.mem_toList.1 hx)
              rw [HZ.out]
              exact h1
end Go.Proofs.YtghgffhcdnmpnaaGreat
