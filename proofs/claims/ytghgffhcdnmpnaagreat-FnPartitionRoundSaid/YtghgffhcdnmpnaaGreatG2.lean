/-
  PartitionRound of the thin package; FnPartitionRound: round robin goes through the partitions, one at a time, and begins again behind the last one. No condition on the law: for every input.
-/
import Derived.Test.YtghgffhcdnmpnaaGreatG1
import Derived.Test.YtghgffhcdnmpnaaGreatD1
import Derived.Deep.QuietTactic
import Derived.BigQuiet
namespace Go.Proofs.YtghgffhcdnmpnaaGreat
open Go.ChangeShapes Go.WideShapes Go.ChangeAt Go.RowKit Go.Sort
set_option maxRecDepth 100000 in
set_option maxHeartbeats 3200000 in
theorem partitionRound_any (A : Option Addr) (c : Nat) (l : List Int) (w : World) (hs : SlIs w 1 A l.length (ints l)) (hlen : l.length ≤ 100) (hpos : ∀ x ∈ l, 1 ≤ x) :
    Calls Tryz.prog 27 #[.slice A l.length c] w fun e w' => ∃ v, e = .returned v ∧ w'.ownsRow w.heap.size 21 1 v l.length (ints (rr l).2) ∧ Kept [] w w' := by
  have HS := Lib.hid hs
  have hmf : ∀ (fn : Fn) (first cap : Array Value) (w : World), (Instr.makeFunc fn first cap).run Tryz.prog w = .ok (.func fn first cap) w := fun _ _ _ _ => rfl
  clear hs
  go_enter Tryz.func27, Tryz.ntmps27
  go_wp2_with fail
  obtain ⟨W5, hW5⟩ : ∃ W5, W5 = allocs w [Obj.cells #[Value.slice A l.length c] 49, Obj.cells #[Value.slice none 0 0] 49] := ⟨_, rfl⟩
  have hK5 : Kept [] w W5 := hW5 ▸ allocs_kept _ _
  have hs5 : W5.heap.size = w.heap.size + 2 := by rw [hW5, allocs_heap]; simp
  have b0 : W5.heap[w.heap.size]? = some (Obj.cells #[Value.slice A l.length c] 49 (0, 0)) := by rw [hW5]; exact allocs_at w _ 0 _ rfl
  have b1 : W5.heap[w.heap.size + 1]? = some (Obj.cells #[Value.slice none 0 0] 49 (0, 0)) := by rw [hW5]; exact allocs_at w _ 1 _ rfl
  simp only [allocs, List.foldl_cons, List.foldl_nil] at hW5
  rw [← hW5]
  obtain ⟨z, hz⟩ : ∃ z, w.heap.size = z := ⟨_, rfl⟩
  rw [hz] at hs5 b0 b1 ⊢
  clear hW5
  obtain ⟨W6, hW6⟩ : ∃ W6, W6 = W5.alloc (.cells #[.bool false] 4) := ⟨_, rfl⟩
  have hK6 : Kept [] W5 W6 := by rw [hW6]; exact (Kept.refl _ _).alloc _
  have hcl := rrClosure z (z + 1) A c l W6 (by have := hK6.heap b0 (by simp); simp [World.cell?, this]) (hK6.heap b1 (by simp)) ((HS.out.kept0 hK5).kept0 hK6) hlen hpos
  have h6 : W6.heap[z + 2]? = some (.cells #[.bool false] 4 (0, 0)) := by rw [hW6, ← hs5, heap_alloc_new]
  have hcf : ∀ (args : Array Value) (w : World), (callFunc 50 args).run Tryz.prog w = .ok (.enter 50 args) w := enters_of Tryz.func50 (by kernel_rfl) rfl
  rw [hW6] at hcl
  have hsafe := safe_any 50 _ W5 _ (fun W => hcf _ W) hcl (fun W' hR => by
    obtain ⟨_, _, _, hk⟩ := hR
    rw [hs5]
    refine hk.heap ?_ (by simp)
    rw [← hs5, heap_alloc_new])
  refine hsafe.mono ?_
  rintro e w7 ⟨rfl, W', ⟨v, hb1, hov, hk⟩, hk7⟩
  rw [hs5] at hk7
  rw [← hW6] at hk hov
  have hs6 : W6.heap.size = z + 3 := by rw [hW6]; simp [hs5]
  rw [hs6] at hov
  have hb1' := hk7.heap hb1 (by simp)
  have hov7 := hk7.own hov (fun g hg hm => by have h1 := own_ge hov g hg; have h2 := List.mem_singleton.1 hm; omega)
  have hkw7 : Kept [] w w7 := (((hK5.trans0 hK6).trans hk (fun x hx => .inr (by have h2 := List.mem_singleton.1 hx; omega)))).trans hk7 (fun x hx => .inr (by have h2 := List.mem_singleton.1 hx; omega))
  have HKW := Lib.hid hkw7
  have HB1 := Lib.hid hb1'
  have HOV := Lib.hid hov7
  have c1 : w7.cell? ⟨z + 1, 0, none⟩ = some v := by simp [World.cell?, hb1']
  have g1 : w7.frozen? ⟨z + 1, 0, none⟩ = false := by simp [World.frozen?, hb1']
  obtain ⟨A7, c7, rfl⟩ := own_form hov7
  clear hk hk7 hb1 hkw7 hcl hsafe b0 b1 hb1' h6 hcf hW6 hK5 hK6 hov hov7
  go_wp2
  have e1 := heap_setCell_same w7 (z + 1) 0 _ 49 (.slice A7 l.length c7) HB1.out
  have hK : Kept [z + 1] w7 (w7.setCell ⟨z + 1, 0, none⟩ (.slice A7 l.length c7)) := (Kept.refl _ _).setCell (.inl (by simp)) _
  have ho := hK.own HOV.out (fun g hg hm => by have h1 := own_ge HOV.out g hg; have h2 := List.mem_singleton.1 hm; omega)
  obtain ⟨w8, hw8⟩ : ∃ w8, w7.setCell ⟨z + 1, 0, none⟩ (.slice A7 l.length c7) = w8 := ⟨_, rfl⟩
  rw [hw8] at e1 hK ho ⊢
  have r1 : w8.cell? ⟨z + 1, 0, none⟩ = some (.slice A7 l.length c7) := by simp [World.cell?, e1]
  clear hw8 e1 c1 g1 hmf
  refine bodyPost_ret (v := .slice A7 l.length c7) (by simp [results, Tryz.results27, go_sem, r1]) rfl ⟨_, rfl, own_mono ho (by omega), ?_⟩
  exact HKW.out.trans hK (fun x hx => .inr (by have h2 := List.mem_singleton.1 hx; omega))
set_option maxRecDepth 100000 in
set_option maxHeartbeats 3200000 in
theorem fnPartitionRound_walk (A : Option Addr) (c : Nat) (l : List Int) (w : World) (hs : SlIs w 1 A l.length (ints l)) :
    Calls Tryz.prog 11 #[.slice A l.length c] w fun e w' => e = .returned (.bool true) ∧ Kept [] w w' := by
  have HG := Lib.hid groupAlive_any
  have HS := Lib.hid hs
  have h63 := hs.2.1
  clear hs
  by_cases h1 : l.length ≤ 2147483647
  · go_enter Tryz.func11, Tryz.ntmps11
    go_wp2
    obtain ⟨z, hz⟩ : ∃ z, w.heap.size = z := ⟨_, rfl⟩
    have hown0 : (w.alloc (.cells #[] 21)).ownsRow z 21 1 (.slice (some ⟨z, 0, none⟩) 0 0) 0 (ints (rr (l.take 0)).2) := by
      rw [← hz]
      exact ⟨rfl, .inr ⟨w.heap.size, 0, #[], rfl, Nat.le_refl _, heap_alloc_new _ _, Nat.le_refl _, by simp [maxLen], rfl, rfl⟩⟩
    have HO0 := Lib.hid hown0
    clear hown0
    rw [hz]
    go_loopw [3, 4, 5] (fun v a i wr => ∃ k : Nat, k ≤ l.length ∧ (0 < k → l.length ≤ 100) ∧ (∀ x ∈ l.take k, 1 ≤ x) ∧ i = .int .i64 k ∧ a = .int .i32 (rr (l.take k)).1 ∧ wr.ownsRow z 21 1 v k (ints (rr (l.take k)).2) ∧ Kept [] w wr) (fun _ _ i _ => l.length - (intOf i).toNat)
    case atStart => exact ⟨0, Nat.zero_le _, by omega, by simp, rfl, rfl, HO0.out, (Kept.refl _ _).alloc _⟩
    case round =>
      obtain ⟨k, hk, h100, hpos, rfl, rfl, hov, hkr⟩ := hrel
      have hin := rr_in (l.take k) (0, []) (by simp)
      have hlen2 : (l.take k).length = k := by rw [List.length_take]; omega
      change 0 ≤ (rr (l.take k)).1 ∧ (rr (l.take k)).1 ≤ 0 + _ ∧ (rr (l.take k)).2.length = 0 + _ at hin
      rw [hlen2] at hin
      obtain ⟨a, ha⟩ : ∃ a, (rr (l.take k)).1 = a := ⟨_, rfl⟩
      rw [ha] at hin ⊢
      obtain ⟨hin0, hin1, _⟩ := hin
      have HOV := Lib.hid hov
      have HKR := Lib.hid hkr
      have HA := Lib.hid ha
      have HPOS := Lib.hid hpos
      have hzr : z ≤ wr.heap.size := hz ▸ hkr.size
      clear hov hkr ha hpos
      by_cases hlt : k < l.length
      · by_cases hl1 : l.length ≤ 100
        · obtain ⟨b, off, rfl, hcc⟩ := HS.out.2.2 (by omega)
          obtain ⟨y, hy⟩ : ∃ y, l[k]? = some y := ⟨_, List.getElem?_eq_getElem hlt⟩
          have hcell : wr.cell? ⟨b, off + k, none⟩ = some (.int .i32 y) := HKR.out.cell (hcc k _ (ints_get hy)) (by simp)
          have hstep := rr_snoc hy
          have htk : l.take (k + 1) = l.take k ++ [y] := take_one hy
          have HTK := Lib.hid htk
          have HST : Hid ((rr (l.take (k + 1))).1 = (if y ≤ a then 1 else a + 1) ∧ (rr (l.take (k + 1))).2 = (rr (l.take k)).2 ++ [if y ≤ a then 0 else a]) := by
            rw [hstep, rrF, HA.out]
            by_cases h : y ≤ a
            · rw [if_pos h, if_pos h, if_pos h]; exact ⟨rfl, rfl⟩
            · rw [if_neg h, if_neg h, if_neg h]; exact ⟨rfl, rfl⟩
          clear hcc hy hstep htk
          have HOWA : Hid (∀ r : Int, (wr.alloc (.cells #[.int .i32 r] 21)).ownsRow z 21 1 u3 k (ints (rr (l.take k)).2)) := fun r => own_kept0 HOV.out ((Kept.refl _ _).alloc _)
          by_cases hy1 : 1 ≤ y
          · by_cases hya : y ≤ a
            · rw [if_pos hya, if_pos hya] at HST
              go_wp2_with (at_builtin; refine wl_append rfl _ _ 49 rfl z 21 Tryz.underlying49 info21 rfl (by decide) u3 k (ints (rr (l.take k)).2) rfl (HOWA.out _) (some ⟨wr.heap.size, 0, none⟩) 1 1 [.int .i32 0] rfl (one_sl2 _ _ _ rfl) (by simp [Value.oneCell']) (by omega) (by omega) (by simp; omega) ?_; intro v2 w2 hown2 hk2 _; obtain ⟨A2, c2, rfl⟩ := own_form hown2; have HO2 := Lib.hid hown2; have HK2 := Lib.hid (((Kept.refl [] wr).alloc _).mono (T := u3.ownBlock.toList) (by simp) |>.trans hk2 (fun x hx => .inl hx)); clear hown2 hk2)
              go_roundw
              case rel =>
                refine ⟨k + 1, by omega, fun _ => hl1, ?_, by go_num, by rw [HST.out.1], ?_, HKR.out.trans HK2.out (fun x hx => .inr (by have h1 := own_ge HOV.out x (by simpa using hx); omega))⟩
                · intro x hx
                  rw [HTK.out] at hx
                  rcases List.mem_append.1 hx with hx | hx
                  · exact HPOS.out x hx
                  · rw [List.mem_singleton.1 hx]; exact hy1
                · rw [HST.out.2, show ints ((rr (l.take k)).2 ++ [0]) = ints (rr (l.take k)).2 ++ [Value.int .i32 0] by simp [ints]]
                  exact HO2.out
              case measure => simp [intOf]; omega
            · rw [if_neg hya, if_neg hya] at HST
              go_wp2_with (at_builtin; refine wl_append rfl _ _ 49 rfl z 21 Tryz.underlying49 info21 rfl (by decide) u3 k (ints (rr (l.take k)).2) rfl (HOWA.out _) (some ⟨wr.heap.size, 0, none⟩) 1 1 [.int .i32 a] rfl (one_sl2 _ _ _ rfl) (by simp [Value.oneCell']) (by omega) (by omega) (by simp; omega) ?_; intro v2 w2 hown2 hk2 _; obtain ⟨A2, c2, rfl⟩ := own_form hown2; have HO2 := Lib.hid hown2; have HK2 := Lib.hid (((Kept.refl [] wr).alloc _).mono (T := u3.ownBlock.toList) (by simp) |>.trans hk2 (fun x hx => .inl hx)); clear hown2 hk2)
              go_roundw
              case rel =>
                refine ⟨k + 1, by omega, fun _ => hl1, ?_, by go_num, by rw [HST.out.1], ?_, HKR.out.trans HK2.out (fun x hx => .inr (by have h1 := own_ge HOV.out x (by simpa using hx); omega))⟩
                · intro x hx
                  rw [HTK.out] at hx
                  rcases List.mem_append.1 hx with hx | hx
                  · exact HPOS.out x hx
                  · rw [List.mem_singleton.1 hx]; exact hy1
                · rw [HST.out.2, show ints ((rr (l.take k)).2 ++ [a]) = ints (rr (l.take k)).2 ++ [Value.int .i32 a] by simp [ints]]
                  exact HO2.out
              case measure => simp [intOf]; omega
          · go_wp2_with (with_reducible refine (HG.out _).mono ?_; rintro e w2 ⟨rfl, hk2⟩; have HK2 := Lib.hid (HKR.out.trans0 hk2); clear hk2)
            go_ret
            exact ⟨rfl, HK2.out⟩
        · go_wp2_with (with_reducible refine (HG.out _).mono ?_; rintro e w2 ⟨rfl, hk2⟩; have HK2 := Lib.hid (HKR.out.trans0 hk2); clear hk2)
          go_ret
          exact ⟨rfl, HK2.out⟩
      · obtain rfl : k = l.length := by omega
        have hpos := HPOS.out
        rw [List.take_length] at hpos
        have hl100 : l.length ≤ 100 := by
          rcases Nat.eq_zero_or_pos l.length with h | h
          · omega
          · exact h100 h
        obtain ⟨A1, c1, hv1, hsl1, _⟩ := own_sl HOV.out
        rw [List.take_length] at hsl1
        obtain rfl := hv1
        have HSL1 := Lib.hid hsl1
        have HP := Lib.hid (partitionRound_any A c l wr (HS.out.kept0 HKR.out) hl100 hpos)
        obtain ⟨L, hL⟩ : ∃ L, (rr l).2 = L := ⟨_, rfl⟩
        have hLn : L.length = l.length := by
          have := (rr_in l (0, []) (by simp)).2.2
          rw [← hL]
          simpa [rr] using this
        rw [hL] at HSL1 HP
        clear hsl1 hpos hL
        go_wp2_with (with_reducible refine HP.out.mono ?_; rintro e w2 ⟨v2, rfl, ho2, hk2⟩; obtain ⟨A2, c2, hv2, hsl2, _⟩ := own_sl ho2; obtain rfl := hv2; have HSL2 := Lib.hid hsl2; have HK2 := Lib.hid hk2; clear ho2 hk2 hsl2)
        go_loopw [7] (fun i w3 => ∃ j : Nat, j ≤ l.length ∧ i = .int .i64 j ∧ Kept [] w2 w3) (fun i _ => l.length - (intOf i).toNat)
        case atStart => exact ⟨0, Nat.zero_le _, rfl, Kept.refl _ _⟩
        case round =>
          obtain ⟨j, hj, rfl, hkj⟩ := hrel
          have HKJ := Lib.hid hkj
          clear hkj
          by_cases hlt2 : j < l.length
          · obtain ⟨b1, o1, rfl, hc1⟩ := HSL1.out.2.2 (by omega)
            obtain ⟨b2, o2, rfl, hc2⟩ := HSL2.out.2.2 (by omega)
            obtain ⟨y, hy⟩ : ∃ y, L[j]? = some y := ⟨_, List.getElem?_eq_getElem (by omega)⟩
            have d1 := (HK2.out.trans0 HKJ.out).cell (hc1 j _ (ints_get hy)) (by simp)
            have d2 := HKJ.out.cell (hc2 j _ (ints_get hy)) (by simp)
            clear hc1 hc2 hy
            go_wp2
            go_quiet (fail)
            go_wp2
            go_roundw
            case rel => exact ⟨j + 1, by omega, by go_num, HKJ.out.drewN nq⟩
            case measure => simp [intOf]; omega
          · go_wp2_with (with_reducible refine (HG.out _).mono ?_; rintro e w5 ⟨rfl, hk5⟩; have HK5 := Lib.hid (((HKR.out.trans0 HK2.out).trans0 HKJ.out).trans0 hk5); clear hk5)
            go_ret
            exact ⟨rfl, HK5.out⟩
  · go_enter Tryz.func11, Tryz.ntmps11
    go_wp2
    go_ret
    exact ⟨rfl, Kept.refl _ _⟩
set_option maxRecDepth 100000 in
/-- Numbers that come in. -/
theorem arg_ints {H : Type} {enc : TypeId × Value → H} {W : World} {base b0 : Nat} {v : Value} {d : DataW H} {ps : List MemPlace} (hv : Value.okWide Tryz.prog W .any base 49 v) (h : DataW.Trod enc Tryz.prog W b0 (fun _ => true) true 49 v d ps) :
    ∃ (A : Option Addr) (l : List Int) (c : Nat), v = .slice A l.length c ∧ SlIs W 1 A l.length (ints l) := by
  obtain ⟨a0, len, cap, rfl⟩ := okWide_slice Tryz.underlying49 hv
  obtain ⟨fuel, hf⟩ := h
  rcases open_ints Tryz.underlying49 Tryz.underlying21 (by kernel_rfl) hf with ⟨hcs, _⟩ | ⟨a, len', cap', zs, hcs, _, hl, hm, hz, _, hcell, _⟩
  · simp [Value.cells] at hcs
    obtain ⟨rfl, rfl, rfl⟩ := hcs
    exact ⟨none, [], 0, rfl, SlIs.nil _ _ _⟩
  · simp [Value.cells] at hcs
    obtain ⟨rfl, rfl, rfl⟩ := hcs
    simp only [if_true] at hz
    have hln : (zs.take len).length = len := by rw [List.length_take]; omega
    refine ⟨some a, zs.take len, cap, by rw [hln], ?_⟩
    rw [hln]
    refine ⟨by rw [ints, List.length_map, hln, Nat.mul_one], by unfold maxLen at hm; omega, fun hpos => ?_⟩
    have h0 := hcell 0 (by omega)
    obtain ⟨b, off, spot⟩ := a
    have hspot : spot = none := by simpa [Addr.add] using World.cell?_spot h0
    subst hspot
    refine ⟨b, off, rfl, fun i u hu => ?_⟩
    obtain ⟨y, hy, rfl⟩ : ∃ y, (zs.take len)[i]? = some y ∧ u = .int .i32 y := by
      simp only [ints, List.getElem?_map] at hu
      cases h : (zs.take len)[i]? with
      | none => rw [h] at hu; cases hu
      | some y => rw [h] at hu; exact ⟨y, rfl, (Option.some.inj hu).symm⟩
    have hil : i < len := by have := (List.getElem?_eq_some_iff.1 hy).1; omega
    have := hcell i (by omega)
    rw [add_plain] at this
    rw [this]
    rw [List.getElem?_take, if_pos hil] at hy
    simp [List.getD, hy]
end Go.Proofs.YtghgffhcdnmpnaaGreat
