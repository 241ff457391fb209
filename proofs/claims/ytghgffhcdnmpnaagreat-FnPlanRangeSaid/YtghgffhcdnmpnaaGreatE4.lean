/-
  Wanted: whether each topic has a member that has subscribed to it. Conditions: none.
-/
import Derived.Test.YtghgffhcdnmpnaaGreatQL
namespace Go.Proofs.YtghgffhcdnmpnaaGreat
open Go.RowKit Go.Sort
def wantB (t : ByteArray) (m : MV) : Bool := decide (t ∈ m.tops)
def wantedB (ms : List MV) (ts : List Sh) : Bool := ts.all fun t => ms.any (wantB t.top)
theorem any_take {α : Type} (p : α → Bool) {l : List α} {k : Nat} {y : α} (h : l[k]? = some y) : (l.take (k + 1)).any p = ((l.take k).any p || p y) := by
  rw [take_one h, List.any_append]; simp
theorem all_take' {α : Type} (p : α → Bool) {l : List α} {k : Nat} {y : α} (h : l[k]? = some y) : (l.take (k + 1)).all p = ((l.take k).all p && p y) := by
  rw [take_one h, List.all_append]; simp
theorem sl_len {w : World} {X : Nat → Prop} {s n c : Nat} {A : Option Addr} {xs : List Value} (_hs : 0 < s) (h : SlAt w X s (.slice A n c) xs) : xs.length = n * s ∧ n ≤ 9223372036854775807 := by
  obtain ⟨A', n', c', e, h1, _⟩ := h
  cases e
  exact ⟨h1.1, h1.2.1⟩
set_option maxRecDepth 100000 in
set_option maxHeartbeats 1600000 in
theorem wanted_any (X Y : Nat → Prop) (mv tv : Value) (ms : List MV) (ts : List Sh) (w : World) (hm : MemsAt w X mv ms) (ht : ShsAt w Y tv ts) :
    Calls Tryz.prog 37 #[mv, tv] w fun e w' => e = .returned (.bool (wantedB ms ts)) ∧ Kept [] w w' := by
  obtain ⟨A, n, c, rfl, hms, _, _⟩ := hm.1
  obtain rfl : n = ms.length := by have := hms.1; rw [flat_len mvCells 8 (fun _ => rfl)] at this; omega
  obtain ⟨l, rfl, ⟨At, nt, ct, rfl, hts, _, _⟩, _⟩ := ht
  obtain rfl : nt = l.length := by have := hts.1; rw [flat_len shCells 3 (fun _ => rfl)] at this; omega
  have HM := Lib.hid hm
  have HMS := Lib.hid hms
  have HTS := Lib.hid hts
  have h63 := hms.2.1
  have h64 := hts.2.1
  have HW := Lib.hid wants_any
  clear hm hms hts
  go_enter Tryz.func37, Tryz.ntmps37
  go_wp2
  go_loopw [5] (fun i wr => ∃ k : Nat, k ≤ l.length ∧ i = .int .i64 k ∧ ((l.take k).all fun p => ms.any (wantB p.1.top)) = true ∧ Kept [] w wr) (fun i _ => l.length - (intOf i).toNat)
  case atStart => exact ⟨0, Nat.zero_le _, rfl, rfl, Kept.refl _ _⟩
  case round =>
    obtain ⟨k, hk, rfl, hall, hkr⟩ := hrel
    have HALL := Lib.hid hall
    have HKR := Lib.hid hkr
    clear hall hkr
    by_cases hlt : k < l.length
    · obtain ⟨b, off, rfl, hcc⟩ := HTS.out.2.2 (by omega)
      obtain ⟨p, hp⟩ : ∃ p, l[k]? = some p := ⟨_, List.getElem?_eq_getElem hlt⟩
      have htop : wr.cell? ⟨b, off + k * 3 + 1, none⟩ = some (.string p.1.top) := HKR.out.cell (sh_cells hcc hp 1 _ rfl) (by simp)
      have HP := Lib.hid hp
      obtain ⟨t, ht⟩ : ∃ t, p.1.top = t := ⟨_, rfl⟩
      rw [ht] at htop
      have HT := Lib.hid ht
      clear hcc hp ht
      go_wp2
      obtain ⟨w0, hw0⟩ : ∃ w0 : World, w0 = wr := ⟨_, rfl⟩
      rw [← hw0] at HKR htop ⊢
      clear hw0
      go_loopw [6, 7] (fun s i w1 => ∃ j : Nat, j ≤ ms.length ∧ i = .int .i64 j ∧ s = .bool ((ms.take j).any (wantB t)) ∧ Kept [] w0 w1) (fun _ i _ => ms.length - (intOf i).toNat)
      case atStart => exact ⟨0, Nat.zero_le _, rfl, rfl, Kept.refl _ _⟩
      case round =>
        obtain ⟨j, hj, rfl, rfl, hk1⟩ := hrel
        have htop1 : wr.cell? ⟨b, off + k * 3 + 1, none⟩ = some (.string t) := hk1.cell htop (by simp)
        have HK1 := Lib.hid hk1
        clear hk1
        by_cases hlj : j < ms.length
        · obtain ⟨m, hmj⟩ : ∃ m, ms[j]? = some m := ⟨_, List.getElem?_eq_getElem hlj⟩
          have HANY := Lib.hid (any_take (wantB t) hmj)
          by_cases hs : (ms.take j).any (wantB t) = true
          · rw [hs] at HANY ⊢
            go_wp2
            go_quiet (fail)
            go_wp2
            go_roundw
            case rel => exact ⟨j + 1, by omega, by go_num, by rw [HANY.out]; rfl, HK1.out.drewN _⟩
            case measure => (simp [intOf]) <;> omega
          · have hs : (ms.take j).any (wantB t) = false := by simpa using hs
            rw [hs] at HANY ⊢
            obtain ⟨bm, om, rfl, hcm⟩ := HMS.out.2.2 (by omega)
            have HC := Lib.hid (mv_cell (fun i v hv => (HKR.out.trans0 HK1.out).cell (hcm i v hv) (by simp)) hmj)
            obtain ⟨htv, ⟨A3, c3, hdv⟩, ⟨A4, c4, hov⟩⟩ := HM.out.2 m (List.mem_of_getElem? hmj)
            obtain ⟨A2, n2, c2, htv2, ht2, _, _⟩ := htv
            obtain ⟨id, ver, tops, ttv, dv, ov, dn, on, gen, rack, hr⟩ := m
            simp only at hdv hov htv2 ht2
            subst hdv hov htv2
            obtain rfl : n2 = tops.length := by have := ht2.1; simpa [strs] using this.symm
            have HC2 : Hid (∀ j' v, [Value.string id, .int .i16 ver, .slice A2 tops.length c2, .slice A3 dn c3, .slice A4 on c4, .int .i32 gen, .string rack, .bool hr][j']? = some v → wr.cell? ⟨bm, om + j * 8 + j', none⟩ = some v) := HC.out
            have hld := fun n : KW wr => run_load_struct (P := Tryz.prog) (w := n.w) Tryz.underlying46 rfl rfl bm (om + j * 8) _ rfl (fun i v hv => n.k.cell (HC2.out i v hv) (by simp))
            have HTW := Lib.hid (fun W (hW : Kept [] wr W) => HW.out id rack t ver gen A2 c2 tops (.slice A3 dn c3) (.slice A4 on c4) hr W (ht2.kept0 (((HKR.out.trans0 HK1.out)).trans0 hW)))
            clear hcm HC hmj ht2
            go_wp2
            have hq1 := fun n : KW wr => n.k.cell htop1 (by simp)
            refine wp_region_quiet_k (by kernel_rfl) (by kernel_rfl) ?_
            repeat (first
              | go_big_quiet_skip
              | (go_big_quiet_want; go_big_quiet_op; first | go_big_quiet_on | go_big_quiet_call (exact Calls.quiet_k (HTW.out _ (KW.k _))))
              | (go_big_quiet_want
                 refine quiet_load_struct _ _ rfl _ rfl ?_ ?_ ?_
                 rotate_left
                 · (intro _ hw'
                    obtain ⟨nk, hw''⟩ := hw'
                    subst hw''
                    exact hld nk)
                 (simp only [Act.put, List.setIfInBounds_toArray, List.set_cons_succ, List.set_cons_zero])
                 go_big_quiet_on))
            refine wpQuiet_nil ?_
            intro _ hw'
            obtain ⟨⟨wq, hkq⟩, hw''⟩ := hw'
            subst hw''
            go_wp2
            go_roundw
            case rel => exact ⟨j + 1, by omega, by go_num, by rw [HANY.out]; rfl, HK1.out.trans0 hkq⟩
            case measure => (simp [intOf]) <;> omega
        · have e : ms.take j = ms := List.take_of_length_le (by omega)
          by_cases hs : ms.any (wantB t) = true
          · have HANY := Lib.hid hs
            rw [e, hs]
            clear hs e
            go_wp2
            go_roundw
            case rel => exact ⟨k + 1, by omega, by go_num, by rw [all_take' _ HP.out, HALL.out, HT.out, HANY.out]; rfl, HKR.out.trans0 HK1.out⟩
            case measure => (simp [intOf]) <;> omega
          · have hs : ms.any (wantB t) = false := by simpa using hs
            have HANY := Lib.hid hs
            rw [e, hs]
            clear hs e
            go_wp2
            go_ret
            refine ⟨ret_bool ?_, HKR.out.trans0 HK1.out⟩
            rw [wantedB, List.all_map]
            refine (List.all_eq_false.2 ⟨p, List.mem_of_getElem? HP.out, ?_⟩).symm
            simp [HT.out, HANY.out]
    · go_wp2
      go_ret
      have h := HALL.out
      rw [List.take_of_length_le (by omega)] at h
      exact ⟨ret_bool (by rw [wantedB, List.all_map]; exact h.symm), HKR.out⟩
end Go.Proofs.YtghgffhcdnmpnaaGreat
