/-
  Alike, Askable: whether all members have subscribed to all topics; whether a strategy can be asked. Conditions: none.
-/
import Derived.Test.YtghgffhcdnmpnaaGreatZE0
namespace Go.Proofs.YtghgffhcdnmpnaaGreat
open Go.RowKit Go.Sort
def alikeB (ms : List MV) (ts : List Sh) : Bool := ts.all fun t => ms.all (wantB t.top)
set_option maxRecDepth 100000 in
set_option maxHeartbeats 1600000 in
theorem alike_any (X Y : Nat → Prop) (mv tv : Value) (ms : List MV) (ts : List Sh) (w : World) (hm : MemsAt w X mv ms) (ht : ShsAt w Y tv ts) :
    Calls Tryz.prog 18 #[mv, tv] w fun e w' => e = .returned (.bool (alikeB ms ts)) ∧ Kept [] w w' := by
  obtain ⟨A, n, c, rfl, hms, _, _⟩ := hm.1
  obtain rfl : n = ms.length := by have := hms.1; rw [flat_len mvCells 8 (fun _ => rfl)] at this; omega
  obtain ⟨l, rfl, ⟨At, nt, ct, rfl, hts, _, _⟩, _⟩ := ht
  obtain rfl : nt = l.length := by have := hts.1; rw [flat_len shCells 3 (fun _ => rfl)] at this; omega
  have HM := Lib.hid hm
  have HMS := Lib.hid hms
  have HTS := Lib.hid hts
  have h63 := hms.2.1
  have h64 := hts.2.1
  have HW := Lib.hid wants_any
  clear hm hms hts
  go_enter Tryz.func18, Tryz.ntmps18
  go_wp2
  go_loopw [5] (fun i wr => ∃ k : Nat, k ≤ l.length ∧ i = .int .i64 k ∧ ((l.take k).all fun p => ms.all (wantB p.1.top)) = true ∧ Kept [] w wr) (fun i _ => l.length - (intOf i).toNat)
  case atStart => exact ⟨0, Nat.zero_le _, rfl, rfl, Kept.refl _ _⟩
  case round =>
    obtain ⟨k, hk, rfl, hall, hkr⟩ := hrel
    have HALL := Lib.hid hall
    have HKR := Lib.hid hkr
    clear hall hkr
    by_cases hlt : k < l.length
    · obtain ⟨b, off, rfl, hcc⟩ := HTS.out.2.2 (by omega)
      obtain ⟨p, hp⟩ : ∃ p, l[k]? = some p := ⟨_, List.getElem?_eq_getElem hlt⟩
      have htop : wr.cell? ⟨b, off + k * 3 + 1, none⟩ = some (.string p.1.top) := HKR.out.cell (sh_cells hcc hp 1 _ rfl) (by simp)
      have HP := Lib.hid hp
      obtain ⟨t, ht⟩ : ∃ t, p.1.top = t := ⟨_, rfl⟩
      rw [ht] at htop
      have HT := Lib.hid ht
      clear hcc hp ht
      go_wp2
      obtain ⟨w0, hw0⟩ : ∃ w0 : World, w0 = wr := ⟨_, rfl⟩
      rw [← hw0] at HKR htop ⊢
      clear hw0
      go_loopw [6] (fun i w1 => ∃ j : Nat, j ≤ ms.length ∧ i = .int .i64 j ∧ (ms.take j).all (wantB t) = true ∧ Kept [] w0 w1) (fun i _ => ms.length - (intOf i).toNat)
      case atStart => exact ⟨0, Nat.zero_le _, rfl, rfl, Kept.refl _ _⟩
      case round =>
        obtain ⟨j, hj, rfl, hal2, hk1⟩ := hrel
        have htop1 : wr.cell? ⟨b, off + k * 3 + 1, none⟩ = some (.string t) := hk1.cell htop (by simp)
        have HK1 := Lib.hid hk1
        have HAL2 := Lib.hid hal2
        clear hk1 hal2
        by_cases hlj : j < ms.length
        · obtain ⟨m, hmj⟩ : ∃ m, ms[j]? = some m := ⟨_, List.getElem?_eq_getElem hlj⟩
          obtain ⟨bm, om, rfl, hcm⟩ := HMS.out.2.2 (by omega)
          have HC := Lib.hid (mv_cell (fun i v hv => (HKR.out.trans0 HK1.out).cell (hcm i v hv) (by simp)) hmj)
          have HMJ := Lib.hid hmj
          obtain ⟨htv, ⟨A3, c3, hdv⟩, ⟨A4, c4, hov⟩⟩ := HM.out.2 m (List.mem_of_getElem? hmj)
          obtain ⟨A2, n2, c2, htv2, ht2, _, _⟩ := htv
          obtain ⟨id, ver, tops, ttv, dv, ov, dn, on, gen, rack, hr⟩ := m
          simp only at hdv hov htv2 ht2
          subst hdv hov htv2
          obtain rfl : n2 = tops.length := by have := ht2.1; simpa [strs] using this.symm
          have HC2 : Hid (∀ j' v, [Value.string id, .int .i16 ver, .slice A2 tops.length c2, .slice A3 dn c3, .slice A4 on c4, .int .i32 gen, .string rack, .bool hr][j']? = some v → wr.cell? ⟨bm, om + j * 8 + j', none⟩ = some v) := HC.out
          have hld := fun n : KW wr => run_load_struct (P := Tryz.prog) (w := n.w) Tryz.underlying46 rfl rfl bm (om + j * 8) _ rfl (fun i v hv => n.k.cell (HC2.out i v hv) (by simp))
          have HTW0 := Lib.hid (fun W (hW : Kept [] wr W) => HW.out id rack t ver gen A2 c2 tops (.slice A3 dn c3) (.slice A4 on c4) hr W (ht2.kept0 (((HKR.out.trans0 HK1.out)).trans0 hW)))
          by_cases hwt : t ∈ tops
          · have HTW : Hid (∀ W, Kept [] wr W → Calls Tryz.prog 39 #[.agg #[.string id, .int .i16 ver, .slice A2 tops.length c2, .slice A3 dn c3, .slice A4 on c4, .int .i32 gen, .string rack, .bool hr], .string t] W fun e w' => e = .returned (.bool true) ∧ Kept [] W w') := fun W hW => (HTW0.out W hW).mono fun e w' ⟨h1, h2⟩ => ⟨by rw [h1, decide_eq_true hwt], h2⟩
            have HWT := Lib.hid hwt
            clear hcm HC hmj ht2 HTW0 hwt
            go_wp2
            have hq1 := fun n : KW wr => n.k.cell htop1 (by simp)
            refine wp_region_quiet_k (by kernel_rfl) (by kernel_rfl) ?_
            repeat (first
              | go_big_quiet_skip
              | (go_big_quiet_want; go_big_quiet_op; first | go_big_quiet_on | go_big_quiet_call (exact Calls.quiet_k (HTW.out _ (KW.k _))))
              | (go_big_quiet_want
                 refine quiet_load_struct _ _ rfl _ rfl ?_ ?_ ?_
                 rotate_left
                 · (intro _ hw'
                    obtain ⟨nk, hw''⟩ := hw'
                    subst hw''
                    exact hld nk)
                 (simp only [Act.put, List.setIfInBounds_toArray, List.set_cons_succ, List.set_cons_zero])
                 go_big_quiet_on))
            refine wpQuiet_nil ?_
            intro wq hw'
            obtain ⟨⟨_, hkq⟩, hw''⟩ := hw'
            subst hw''
            go_wp2
            go_roundw
            case rel => exact ⟨j + 1, by omega, by go_num, by rw [all_take' _ HMJ.out, HAL2.out]; simpa [wantB] using HWT.out, HK1.out.trans0 hkq⟩
            case measure => (simp [intOf]) <;> omega
          · have HTW : Hid (∀ W, Kept [] wr W → Calls Tryz.prog 39 #[.agg #[.string id, .int .i16 ver, .slice A2 tops.length c2, .slice A3 dn c3, .slice A4 on c4, .int .i32 gen, .string rack, .bool hr], .string t] W fun e w' => e = .returned (.bool false) ∧ Kept [] W w') := fun W hW => (HTW0.out W hW).mono fun e w' ⟨h1, h2⟩ => ⟨by rw [h1, decide_eq_false hwt], h2⟩
            have HWT := Lib.hid hwt
            clear hcm HC hmj ht2 HTW0 hwt
            go_wp2
            have hq1 := fun n : KW wr => n.k.cell htop1 (by simp)
            refine wp_region_quiet_k (by kernel_rfl) (by kernel_rfl) ?_
            repeat (first
              | go_big_quiet_skip
              | (go_big_quiet_want; go_big_quiet_op; first | go_big_quiet_on | go_big_quiet_call (exact Calls.quiet_k (HTW.out _ (KW.k _))))
              | (go_big_quiet_want
                 refine quiet_load_struct _ _ rfl _ rfl ?_ ?_ ?_
                 rotate_left
                 · (intro _ hw'
                    obtain ⟨nk, hw''⟩ := hw'
                    subst hw''
                    exact hld nk)
                 (simp only [Act.put, List.setIfInBounds_toArray, List.set_cons_succ, List.set_cons_zero])
                 go_big_quiet_on))
            refine wpQuiet_nil ?_
            intro wq hw'
            obtain ⟨⟨_, hkq⟩, hw''⟩ := hw'
            subst hw''
            go_wp2
            go_ret
            refine ⟨ret_bool ?_, (HKR.out.trans0 HK1.out).trans0 hkq⟩
            rw [alikeB, List.all_map]
            refine (List.all_eq_false.2 ⟨p, List.mem_of_getElem? HP.out, ?_⟩).symm
            simp only [Function.comp_def, Bool.not_eq_true]
            refine List.all_eq_false.2 ⟨_, List.mem_of_getElem? HMJ.out, ?_⟩
            rw [HT.out]
            simpa [wantB] using HWT.out
        · have e : ms.take j = ms := List.take_of_length_le (by omega)
          rw [e] at HAL2
          clear e
          go_wp2
          go_roundw
          case rel => exact ⟨k + 1, by omega, by go_num, by rw [all_take' _ HP.out, HALL.out, HT.out, HAL2.out]; rfl, HKR.out.trans0 HK1.out⟩
          case measure => (simp [intOf]) <;> omega
    · go_wp2
      go_ret
      have h := HALL.out
      rw [List.take_of_length_le (by omega)] at h
      exact ⟨ret_bool (by rw [alikeB, List.all_map]; exact h.symm), HKR.out⟩
theorem askable_plain (s : Nat) (h : s < 2) (mv tv : Value) (w : World) : Calls Tryz.prog 19 #[.int .i64 s, mv, tv] w fun e w' => e = .returned (.bool true) ∧ Kept [] w w' := by
  rcases (by omega : s = 0 ∨ s = 1) with rfl | rfl
  · go_enter Tryz.func19, Tryz.ntmps19
    go_wp2
    go_ret
    exact ⟨rfl, Kept.refl _ _⟩
  · go_enter Tryz.func19, Tryz.ntmps19
    go_wp2
    go_ret
    exact ⟨rfl, Kept.refl _ _⟩
set_option maxRecDepth 100000 in
set_option maxHeartbeats 1600000 in
theorem askable_sticky (s : Nat) (h : s = 2 ∨ s = 3) (X Y : Nat → Prop) (mv tv : Value) (ms : List MV) (ts : List Sh) (w : World) (hm : MemsAt w X mv ms) (ht : ShsAt w Y tv ts) :
    Calls Tryz.prog 19 #[.int .i64 s, mv, tv] w fun e w' => e = .returned (.bool (ms.all (fun m => decide (m.tops.length = ts.length)) && alikeB ms ts)) ∧ Kept [] w w' := by
  have HAL : Hid (∀ W, Kept [] w W → Calls Tryz.prog 18 #[mv, tv] W fun e w' => e = .returned (.bool (alikeB ms ts)) ∧ Kept [] W w') := fun W hW => alike_any X Y mv tv ms ts W (hm.kept0 hW) (ht.kept0 hW)
  obtain ⟨A, n, c, rfl, hms, _, _⟩ := hm.1
  obtain rfl : n = ms.length := by have := hms.1; rw [flat_len mvCells 8 (fun _ => rfl)] at this; omega
  obtain ⟨l, rfl, ⟨At, nt, ct, rfl, hts, _, _⟩, _⟩ := ht
  obtain rfl : nt = l.length := by have := hts.1; rw [flat_len shCells 3 (fun _ => rfl)] at this; omega
  have HM := Lib.hid hm
  have HMS := Lib.hid hms
  have h63 := hms.2.1
  have h64 := hts.2.1
  clear hm hms hts
  have hor : ((((s : Nat) : Int) != 2) && (((s : Nat) : Int) != 3)) = false := by
    rcases h with rfl | rfl <;> rfl
  go_enter Tryz.func19, Tryz.ntmps19
  rcases h with rfl | rfl
  all_goals clear hor
  all_goals go_wp2
  all_goals go_loopw [7] (fun i wr => ∃ k : Nat, k ≤ ms.length ∧ i = .int .i64 k ∧ ((ms.take k).all fun m => decide (m.tops.length = l.length)) = true ∧ Kept [] w wr) (fun i _ => ms.length - (intOf i).toNat)
  case atStart => exact ⟨0, Nat.zero_le _, rfl, rfl, Kept.refl _ _⟩
  case atStart => exact ⟨0, Nat.zero_le _, rfl, rfl, Kept.refl _ _⟩
  all_goals
    obtain ⟨k, hk, rfl, hall, hkr⟩ := hrel
    have HALL := Lib.hid hall
    have HKR := Lib.hid hkr
    clear hall hkr
    by_cases hlt : k < ms.length
    · obtain ⟨m, hmj⟩ : ∃ m, ms[k]? = some m := ⟨_, List.getElem?_eq_getElem hlt⟩
      obtain ⟨bm, om, rfl, hcm⟩ := HMS.out.2.2 (by omega)
      have hc := mv_cell (fun i v hv => HKR.out.cell (hcm i v hv) (by simp)) hmj
      obtain ⟨⟨A2, n2, c2, htv2, ht2, _, _⟩, _, _⟩ := HM.out.2 m (List.mem_of_getElem? hmj)
      have hc2 : wr.cell? ⟨bm, om + k * 8 + 2, none⟩ = some (.slice A2 n2 c2) := by rw [← htv2]; exact hc 2 _ rfl
      have hn2 : m.tops.length = n2 := by have := ht2.1; simpa [strs] using this
      have HMJ := Lib.hid hmj
      have HN2 := Lib.hid hn2
      clear hc hcm ht2 htv2 hmj hn2
      by_cases he : n2 = l.length
      · have HE := Lib.hid he
        have hei : ((n2 : Int) != (l.length : Int)) = false := by simp [he]
        subst he
        clear hei
        go_wp2
        go_roundw
        case rel => exact ⟨k + 1, by omega, by go_num, by rw [all_take' _ HMJ.out, HALL.out, HN2.out]; simp, HKR.out⟩
        case measure => (simp [intOf]) <;> omega
      · have hei : ((n2 : Int) != (l.length : Int)) = true := by simp; omega
        have hei2 : ¬ (n2 : Int) = (l.length : Int) := by omega
        go_wp2
        go_ret
        refine ⟨ret_bool ?_, HKR.out⟩
        rw [show (ms.all fun m => decide (m.tops.length = (l.map Prod.fst).length)) = false from List.all_eq_false.2 ⟨m, List.mem_of_getElem? HMJ.out, by rw [HN2.out]; simpa using he⟩]
        rfl
    · have h1 := HALL.out
      rw [List.take_of_length_le (by omega)] at h1
      have HA1 := Lib.hid h1
      clear h1
      go_wp2_with ((with_reducible refine (HAL.out _ HKR.out).mono ?_); rintro e w1 ⟨rfl, hk1⟩; have HK1 := Lib.hid (HKR.out.trans0 hk1); clear hk1)
      go_ret
      refine ⟨ret_bool ?_, HK1.out⟩
      rw [show (ms.all fun m => decide (m.tops.length = (l.map Prod.fst).length)) = true by rw [List.length_map]; exact HA1.out]
      rfl
end Go.Proofs.YtghgffhcdnmpnaaGreat
