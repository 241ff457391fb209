/-
  sameParts, SamePlan: whether two plans are one. Conditions: none.
-/
import Derived.Test.YtghgffhcdnmpnaaGreatE5
namespace Go.Proofs.YtghgffhcdnmpnaaGreat
open Go.RowKit Go.Sort
theorem ints_at {l : List Int} {k : Nat} {y : Int} (h : l[k]? = some y) : (ints l)[k]? = some (.int .i32 y) := by simp [ints, h]
theorem same_take {α : Type} {a b : List α} {k : Nat} {x y : α} (hx : a[k]? = some x) (hy : b[k]? = some y) (h : a.take k = b.take k) (e : x = y) : a.take (k + 1) = b.take (k + 1) := by
  rw [take_one hx, take_one hy, h, e]
set_option maxHeartbeats 800000 in
theorem sameParts_any (a b : List Int) (A B : Option Addr) (c d : Nat) (w : World) (ha : SlIs w 1 A a.length (ints a)) (hb : SlIs w 1 B b.length (ints b)) :
    Calls Tryz.prog 46 #[.slice A a.length c, .slice B b.length d] w fun e w' => e = .returned (.bool (decide (a = b))) ∧ Kept [] w w' := by
  have h63 := ha.2.1
  have h64 := hb.2.1
  have HA := Lib.hid ha
  have HB := Lib.hid hb
  clear ha hb
  by_cases hl : a.length = b.length
  · have HL := Lib.hid hl
    obtain ⟨n, hn⟩ : ∃ n, a.length = n := ⟨_, rfl⟩
    rw [← hl] at HB h64 ⊢
    rw [hn] at HA HB h63 h64 ⊢
    have HN := Lib.hid hn
    clear hl hn
    go_enter Tryz.func46, Tryz.ntmps46
    go_wp2
    go_loopw [5] (fun i wr => ∃ k : Nat, k ≤ n ∧ i = .int .i64 k ∧ a.take k = b.take k ∧ Kept [] w wr) (fun i _ => n - (intOf i).toNat)
    case atStart => exact ⟨0, Nat.zero_le _, rfl, by simp, Kept.refl _ _⟩
    case round =>
      obtain ⟨k, hk, rfl, hab, hkr⟩ := hrel
      have HAB := Lib.hid hab
      have HKR := Lib.hid hkr
      clear hab hkr
      by_cases hlt : k < n
      · obtain ⟨x, hx⟩ : ∃ x, a[k]? = some x := ⟨_, List.getElem?_eq_getElem (by have := HN.out; omega)⟩
        obtain ⟨y, hy⟩ : ∃ y, b[k]? = some y := ⟨_, List.getElem?_eq_getElem (by have := HN.out; have := HL.out; omega)⟩
        obtain ⟨b1, o1, rfl, hc1⟩ := HA.out.2.2 (by omega)
        obtain ⟨b2, o2, rfl, hc2⟩ := HB.out.2.2 (by omega)
        have e1 : wr.cell? ⟨b1, o1 + k, none⟩ = some (.int .i32 x) := HKR.out.cell (hc1 k _ (ints_at hx)) (by simp)
        have e2 : wr.cell? ⟨b2, o2 + k, none⟩ = some (.int .i32 y) := HKR.out.cell (hc2 k _ (ints_at hy)) (by simp)
        have HX := Lib.hid hx
        have HY := Lib.hid hy
        clear hc1 hc2 hx hy
        go_wp2
        go_big_quiet (fail)
        go_wp2
        · go_ret
          refine ⟨ret_bool ?_, HKR.out.drewN _⟩
          have hne : x ≠ y := by simpa using ‹(x != y) = true›
          rw [eq_comm, decide_eq_false_iff_not]
          rintro rfl
          exact hne (Option.some.inj (HX.out.symm.trans HY.out))
        · have hxy : x = y := by simpa using ‹(x != y) = false›
          go_roundw
          case rel => exact ⟨k + 1, by omega, by go_num, same_take HX.out HY.out HAB.out hxy, HKR.out.drewN _⟩
          case measure => (simp [intOf]) <;> omega
      · go_wp2
        go_ret
        refine ⟨ret_bool ?_, HKR.out⟩
        have h := HAB.out
        rw [List.take_of_length_le (by have := HN.out; omega), List.take_of_length_le (by have := HN.out; have := HL.out; omega)] at h
        rw [decide_eq_true h]
  · have hd : decide (a = b) = false := by
      rw [decide_eq_false_iff_not]
      rintro rfl
      exact hl rfl
    have hl2 : ¬ (a.length : Int) = b.length := by omega
    go_enter Tryz.func46, Tryz.ntmps46
    go_wp2
    go_ret
    exact ⟨ret_bool hd.symm, Kept.refl _ _⟩
theorem beq_self {s : ByteArray} : (s.toList == s.toList) = true := by simp
set_option maxRecDepth 100000 in
set_option maxHeartbeats 1600000 in
/-- Two plans of the same shares. -/
theorem samePlan_any (X Y : Nat → Prop) (av bv : Value) (ts : List Sh) (w : World) (ha : ShsAt w X av ts) (hb : ShsAt w Y bv ts) :
    Calls Tryz.prog 23 #[av, bv] w fun e w' => e = .returned (.bool true) ∧ Kept [] w w' := by
  obtain ⟨la, hla, ⟨A, n, c, rfl, hsa, _, _⟩, hpa⟩ := ha
  obtain ⟨lb, hlb, ⟨B, m, d, rfl, hsb, _, _⟩, hpb⟩ := hb
  have hna : la.length = n := by have := hsa.1; rw [flat_len shCells 3 (fun _ => rfl)] at this; omega
  have hnb : lb.length = m := by have := hsb.1; rw [flat_len shCells 3 (fun _ => rfl)] at this; omega
  have hlab : la.length = lb.length := by have := congrArg List.length (hla.trans hlb.symm); simpa using this
  obtain rfl : n = m := by omega
  have HA := Lib.hid hsa
  have HB := Lib.hid hsb
  have HPA := Lib.hid hpa
  have HPB := Lib.hid hpb
  have HNA := Lib.hid hna
  have HNB := Lib.hid hnb
  have HAB := Lib.hid (hla.trans hlb.symm)
  have h63 := hsa.2.1
  have HS := Lib.hid sameParts_any
  clear hsa hsb hpa hpb hna hnb hlab hla hlb
  go_enter Tryz.func23, Tryz.ntmps23
  go_wp2
  go_loopw [5] (fun i wr => ∃ k : Nat, k ≤ n ∧ i = .int .i64 k ∧ Kept [] w wr) (fun i _ => n - (intOf i).toNat)
  case atStart => exact ⟨0, Nat.zero_le _, rfl, Kept.refl _ _⟩
  case round =>
    obtain ⟨k, hk, rfl, hkr⟩ := hrel
    have HKR := Lib.hid hkr
    clear hkr
    by_cases hlt : k < n
    · obtain ⟨p, hp⟩ : ∃ x, la[k]? = some x := ⟨_, List.getElem?_eq_getElem (by have := HNA.out; omega)⟩
      obtain ⟨q, hq⟩ : ∃ y, lb[k]? = some y := ⟨_, List.getElem?_eq_getElem (by have := HNB.out; omega)⟩
      have hpq : p.1 = q.1 := by
        have h := congrArg (fun l : List Sh => l[k]?) HAB.out
        simpa [hp, hq] using h
      obtain ⟨b1, o1, rfl, hc1⟩ := HA.out.2.2 (by omega)
      obtain ⟨b2, o2, rfl, hc2⟩ := HB.out.2.2 (by omega)
      obtain ⟨A3, n3, c3, h3, hs3, _, _⟩ := HPA.out p (List.mem_of_getElem? hp)
      obtain ⟨A4, n4, c4, h4, hs4, _, _⟩ := HPB.out q (List.mem_of_getElem? hq)
      have ep := sh_cells hc1 hp
      have eq' := sh_cells hc2 hq
      obtain ⟨⟨pm, pt, pp⟩, pv⟩ := p
      obtain ⟨⟨qm, qt, qp⟩, qv⟩ := q
      simp only at hpq h3 h4 hs3 hs4 ep eq'
      cases hpq
      subst h3 h4
      obtain rfl : n3 = pp.length := by have := hs3.1; simpa [ints] using this.symm
      obtain rfl : n4 = pp.length := by have := hs4.1; simpa [ints] using this.symm
      have hq1 : ∀ n : KW wr, n.w.cell? ⟨b1, o1 + k * 3, none⟩ = some (.string pm) := fun n => (HKR.out.trans0 n.k).cell (ep 0 _ rfl) (by simp)
      have hq2 := fun n : KW wr => (HKR.out.trans0 n.k).cell (ep 1 _ rfl) (by simp)
      have hq3 := fun n : KW wr => (HKR.out.trans0 n.k).cell (ep 2 _ rfl) (by simp)
      have hq4 : ∀ n : KW wr, n.w.cell? ⟨b2, o2 + k * 3, none⟩ = some (.string pm) := fun n => (HKR.out.trans0 n.k).cell (eq' 0 _ rfl) (by simp)
      have hq5 := fun n : KW wr => (HKR.out.trans0 n.k).cell (eq' 1 _ rfl) (by simp)
      have hq6 := fun n : KW wr => (HKR.out.trans0 n.k).cell (eq' 2 _ rfl) (by simp)
      have HSP : Hid (∀ nk : KW wr, Calls Tryz.prog 46 #[.slice A3 pp.length c3, .slice A4 pp.length c4] nk.w fun e w' => e = .returned (.bool true) ∧ Kept [] nk.w w') := fun nk =>
        (HS.out pp pp A3 A4 c3 c4 nk.w (hs3.kept0 (HKR.out.trans0 nk.k)) (hs4.kept0 (HKR.out.trans0 nk.k))).mono fun e w' h => ⟨by rw [h.1]; simp, h.2⟩
      clear hc1 hc2 hp hq ep eq' hs3 hs4
      go_wp2
      refine wp_region_quiet_k (by kernel_rfl) (by kernel_rfl) ?_
      repeat (first
        | go_big_quiet_skip
        | (go_big_quiet_want; go_big_quiet_op; first | go_big_quiet_on | go_big_quiet_call (exact Calls.quiet_k (HSP.out _))))
      refine wpQuiet_nil ?_
      intro _ hw'
      obtain ⟨⟨wq, hkq⟩, hw''⟩ := hw'
      subst hw''
      go_wp2
      go_roundw
      case rel => exact ⟨k + 1, by omega, by go_num, HKR.out.trans0 hkq⟩
      case measure => (simp [intOf]) <;> omega
    · go_wp2
      go_ret
      exact ⟨rfl, HKR.out⟩
end Go.Proofs.YtghgffhcdnmpnaaGreat
