/-
  A pair is taken out of a row (214). Conditions: it is in the row.
-/
import Derived.Test.YtghgffhcdnmpnaaGreatZO0
import Derived.Test.YtghgffhcdnmpnaaGreatZF3
namespace Go.Proofs.YtghgffhcdnmpnaaGreat
open Go.RowKit Go.Sort
theorem flat_drop (l : List TP) : ∀ j, (l.flatMap tpCells).drop (j * 2) = (l.drop j).flatMap tpCells := by
  induction l with
  | nil => intro j; simp
  | cons x l ih =>
    intro j
    cases j with
    | zero => simp
    | succ j =>
      rw [List.flatMap_cons, List.drop_succ_cons, ← ih j, List.drop_append, tp_len, List.drop_of_length_le (by rw [tp_len]; omega)]
      simp only [List.nil_append]
      congr 1
      omega
theorem flat_take (l : List TP) : ∀ j, (l.flatMap tpCells).take (j * 2) = (l.take j).flatMap tpCells := by
  induction l with
  | nil => intro j; simp
  | cons x l ih =>
    intro j
    cases j with
    | zero => simp
    | succ j =>
      rw [List.flatMap_cons, List.take_succ_cons, List.flatMap_cons, ← ih j, List.take_append, tp_len, List.take_of_length_le (by rw [tp_len]; omega)]
      congr 2
      omega
set_option maxRecDepth 100000 in
/-- An append that has room. -/
theorem run_append_in {w : World} {base : Nat} {ty : TypeId} {g n c : Nat} {xs : List Value} (hown : w.ownsRow base 268 2 (.slice (some ⟨g, 0, none⟩) n c) n xs) {A2 : Option Addr} {m c2 : Nat} {ys : List Value} (hA : SlIs w 2 A2 m ys) (h1 : ∀ u ∈ ys, u.oneCell' = true) (hroom : n + m ≤ c) (hs : n + m ≤ 1000000) (hbase : base ≤ w.heap.size) :
    ∃ w', (Builtin.append_ #[269, 269] ty #[.slice (some ⟨g, 0, none⟩) n c, .slice A2 m c2]).run Tryz.prog w = .ok (.slice (some ⟨g, 0, none⟩) (n + m) c) w' ∧ w'.ownsRow base 268 2 (.slice (some ⟨g, 0, none⟩) (n + m) c) (n + m) (xs ++ ys) ∧ Kept [g] w w' := by
  obtain ⟨v', w', hr, h2, h3, _⟩ := run_append_sl (P := Tryz.prog) base 269 ty 268 Tryz.underlying269 info268 rfl (by decide) _ n xs hown A2 m c2 ys hA h1 (by omega) (by omega) hbase
  have hv : v' = .slice (some ⟨g, 0, none⟩) (n + m) c := by
    obtain ⟨i, hi, hz0, hz1, hz2⟩ := info_parts info268
    rcases Nat.eq_zero_or_pos m with h0 | h0
    · subst h0
      have hy : ys = [] := List.eq_nil_of_length_eq_zero (by have := hA.1; omega)
      cases A2 with
      | none =>
        have hc : n ≤ c := by omega
        simp [Builtin.append_, run_underlying Tryz.underlying269, sizeOf, typeInfo, hi, Builtin.lenOf, Builtin.firstCells, hc, storeCells] at hr
        exact hr.1.symm
      | some a =>
        have hc : n ≤ c := by omega
        simp [Builtin.append_, run_underlying Tryz.underlying269, sizeOf, typeInfo, hi, Builtin.lenOf, Builtin.firstCells, hc, loadCells, loadCellsFrom, storeCells] at hr
        exact hr.1.symm
    · obtain ⟨b, off, rfl, hcc⟩ := hA.2.2 h0
      obtain ⟨g', cap, cur, e0, _, hg, hnc, _, hcs, _⟩ : ∃ (g' cap : Nat) (cur : Array Value), Value.slice (some ⟨g, 0, none⟩) n c = .slice (some ⟨g', 0, none⟩) n cap ∧ base ≤ g' ∧ w.heap[g']? = some (.cells cur 268 (0, 0)) ∧ n ≤ cap ∧ cap ≤ maxLen ∧ cur.size = cap * 2 ∧ cur.toList.take (n * 2) = xs := by
        rcases hown.2 with ⟨e0, _⟩ | h
        · cases e0
        · exact h
      injection e0 with e1 _ e3
      injection e1 with e1
      injection e1 with e1
      subst e1
      subst e3
      have hx := run_append_room_cells (P := Tryz.prog) w 269 ty 268 i Tryz.underlying269 hi g 0 n c ⟨b, off, none⟩ m c2 ys (by rw [hA.1, hz1]) (fun j u hj => by
          have hadd : (⟨b, off, none⟩ : Addr).add j = ⟨b, off + j, none⟩ := by unfold Addr.add; split <;> simp_all
          rw [hadd]
          exact hcc j u hj) h1 hroom (fun j hj => by
          have h5 := hA.1
          rw [hz1, cell_of_row _ _ _ _ _ _ hg]
          simp
          omega) (fun j hj => by simp [World.frozen?, hg])
      rw [hr] at hx
      injection hx
  subst hv
  exact ⟨w', hr, h2, h3.mono (by simp [Value.ownBlock])⟩
def rm214F (g n c j : Nat) (l : List TP) (ix : Nat) (v : Value) (W : World) : Prop :=
  match ix with
  | 0 => v = .slice (some ⟨g, 0, none⟩) n c
  | 1 => v = .int .i64 j
  | 2 => v = .slice (some ⟨g, 0, none⟩) j c
  | 3 => v = .slice (some ⟨g, 0, none⟩) n c
  | 4 => v = .int .i64 j
  | 5 => v = .int .i64 ((j + 1 : Nat) : Int)
  | 6 => SlAt W (fun _ => True) 2 v ((l.drop (j + 1)).flatMap tpCells)
  | _ => True
theorem rm214F_stable {g n c j l} : ∀ ix v w w', rm214F g n c j l ix v w → Kept [] w w' → rm214F g n c j l ix v w' := by
  intro ix v w w' h k
  unfold rm214F at h ⊢
  split at h <;> (first | (exact h) | (exact SlAt.kept0 h k))
set_option maxRecDepth 100000 in
set_option maxHeartbeats 3200000 in
theorem remove_any (base : Nat) (v : Value) (l : List TP) (x : TP) (w : World) (h : w.ownsRow base 268 2 v l.length (l.flatMap tpCells)) (hx : x ∈ l) (hn : l.length ≤ 1000000) (hbase : base ≤ w.heap.size) :
    Calls Tryz.prog 214 #[v, tpEnc x] w fun e w' => ∃ v' l', e = .returned v' ∧ (x :: l').Perm l ∧ w'.ownsRow base 268 2 v' l'.length (l'.flatMap tpCells) ∧ v'.ownBlock = v.ownBlock ∧ Kept v.ownBlock.toList w w' := by
  have hpos : 0 < l.length := List.length_pos_of_mem hx
  obtain ⟨A, c, rfl⟩ := own_form h
  obtain ⟨g, rfl⟩ := own_row h hpos
  obtain ⟨n, hnl⟩ : ∃ n, l.length = n := ⟨_, rfl⟩
  have hnc : n ≤ c := by rw [← hnl]; exact own_cap h
  rw [hnl] at h hn hpos ⊢
  have HNL := Lib.hid hnl
  have HX := Lib.hid hx
  have HROW := Lib.hid h
  have hgl : g < w.heap.size := own_lt h g rfl
  obtain ⟨bx, hbx⟩ : ∃ bx, w.heap.size = bx := ⟨_, rfl⟩
  have HBB := Lib.hid hbx
  clear h hx hnl hbx
  go_enter Tryz.func214, Tryz.ntmps214
  go_wp2
  rw [HBB.out]
  obtain ⟨w0, hw0⟩ : ∃ w0, w.alloc (Obj.cells #[.string x.1, .int .i32 x.2] 268) = w0 := ⟨_, rfl⟩
  rw [hw0]
  have HK0 : Hid (Kept [] w w0) := by rw [← hw0]; exact (Kept.refl _ _).alloc _
  have HB0 : Hid (∀ W, Kept [] w0 W → ∀ a v, [Value.string x.1, .int .i32 x.2][a]? = some v → W.cell? ⟨bx, 0 + a, none⟩ = some v) := fun W hW a v hv => by
    refine hW.cell ?_ (by simp)
    rw [Nat.zero_add, ← hw0, ← HBB.out, cell_alloc_at]
    simpa using hv
  clear hw0
  go_loopg [9] n (fun k v wr => ∃ j, k = n - j ∧ j ≤ n ∧ v = .int .i64 j ∧ (∀ i, i < j → l[i]? ≠ some x) ∧ Kept [] w0 wr)
  case atStart => exact ⟨0, rfl, Nat.zero_le _, rfl, fun i hi => absurd hi (by omega), Kept.refl _ _⟩
  case round =>
    obtain ⟨j, hk, hj, rfl, hno, hkr⟩ := hrel
    have HNO := Lib.hid hno
    have HKR := Lib.hid hkr
    clear hno hkr
    by_cases hlt : j < n
    · have hlt' : (j : Int) < (n : Int) := by omega
      obtain ⟨y, hy⟩ : ∃ y, l[j]? = some y := ⟨_, List.getElem?_eq_getElem (by have := HNL.out; omega)⟩
      have HY := Lib.hid hy
      have HBX := Lib.hid (HB0.out _ (HKR.out.alloc (.cells #[.string y.1, .int .i32 y.2] 268)))
      have HCY : Hid (∀ a v, [Value.string y.1, .int .i32 y.2][a]? = some v → wr.cell? ⟨g, j * 2 + a, none⟩ = some v) := fun a v hv => own_cellsG tp_len (by decide) (own_kept0 HROW.out (HK0.out.trans0 HKR.out)) HY.out a v hv
      have HREL : Hid (x ≠ y → ∀ i, i < j + 1 → l[i]? ≠ some x) := fun hxy i hi => by
        rcases Nat.lt_or_ge i j with h | h
        · exact HNO.out i h
        · obtain rfl : i = j := by omega
          rw [HY.out]
          exact fun e => hxy (Option.some.inj e).symm
      clear hy
      by_cases hd1 : y.1.toList = x.1.toList
      · by_cases hd2 : y.2 = x.2
        · have hxy : x = y := Prod.ext (by rw [ByteArray.toList_eq, ByteArray.toList_eq] at hd1; exact (ByteArray.ext (Array.toList_inj.1 hd1)).symm) hd2.symm
          clear hd1 hd2 HREL
          have HXY := Lib.hid hxy
          rw [← hxy] at HY HBX HCY
          clear hxy HXY
          go_wp2_with (first
            | (refine wl_load_struct rfl 268 _ rfl Tryz.underlying268 rfl rfl g (j * 2) rfl [.string x.1, .int .i32 x.2] rfl HCY.out ?_)
            | (refine wl_load_struct rfl 268 _ rfl Tryz.underlying268 rfl rfl wr.heap.size 0 rfl [.string x.1, .int .i32 x.2] rfl (fun a v hv => by rw [Nat.zero_add, cell_alloc_at]; simpa using hv) ?_)
            | (refine wl_load_struct rfl 268 _ rfl Tryz.underlying268 rfl rfl bx 0 rfl [.string x.1, .int .i32 x.2] rfl HBX.out ?_))
          have HK2 : Hid (Kept [] w (wr.alloc (.cells #[.string x.1, .int .i32 x.2] 268))) := (HK0.out.trans0 HKR.out).alloc _
          obtain ⟨w2, hw2⟩ : ∃ w2, wr.alloc (Obj.cells #[.string x.1, .int .i32 x.2] 268) = w2 := ⟨_, rfl⟩
          rw [hw2] at HK2 ⊢
          have HSA : Hid (SlAt w2 (fun _ => True) 2 (.slice (some ⟨g, 0, none⟩) n c) (l.flatMap tpCells)) := (SlAt.own (own_kept0 HROW.out HK2.out)).mono (fun _ _ => trivial)
          have hwj : IntKind.i64.wrap ((j : Int) + 1) = ((j + 1 : Nat) : Int) := by rw [IntWalk.i64_left, IntWalk.wrap64_in _ (by omega)]; omega
          clear hw2
          refine wp_region_facts' 7 (Kept []) (rm214F g n c j l) mixed (by kernel_rfl) ((Kept.refl _ _).drew) (fun _ _ _ h k => h.trans0 k) rm214F_stable ?_ ?_
          · refine ⟨?_, ?_, ?_, ?_, ?_, ?_, ?_, trivial⟩
            all_goals go_light
            all_goals intro a W hR hs hd
            all_goals have p0 : a.tmps[0]? = some (.slice (some ⟨g, 0, none⟩) n c) := hs.2.2 0 (by decide)
            all_goals have p5 : a.tmps[5]? = some (.int .i64 j) := hs.2.2 5 (by decide)
            all_goals have hRr : Kept [] W W := Kept.refl [] W
            · refine ow_value (w' := W) (v := .slice (some ⟨g, 0, none⟩) n c) ?_ (.mk hRr rfl rfl)
              simp [go_sem, p0]
            · refine ow_value (w' := W) (v := .int .i64 j) ?_ (.mk hRr rfl rfl)
              simp [go_sem, p5]
            · have q0 : _ = _ := hd.1 rfl
              have q1 : _ = _ := hd.2.1 rfl
              have hr := run_slice_head (P := Tryz.prog) (w := W) (t := 269) Tryz.underlying269 (by kernel_rfl : (Tryz.prog.info? 268).map (·.size) = some 2) ⟨g, 0, none⟩ n c j (by omega)
              refine ow_value (w' := W) (v := .slice (some ⟨g, 0, none⟩) j c) ?_ (.mk hRr rfl rfl)
              have e0 : a.eval (.tmp 17) = .slice (some ⟨g, 0, none⟩) n c := by simp [go_sem, q0]
              have e1 : a.eval (.tmp 18) = .int .i64 j := by simp [go_sem, q1]
              simp only [execOp, e0, e1, Option.map_some, Option.map_none, Sem.run_bind, hr, Result.andThen_ok, Sem.run_pure]
            · refine ow_value (w' := W) (v := .slice (some ⟨g, 0, none⟩) n c) ?_ (.mk hRr rfl rfl)
              simp [go_sem, p0]
            · refine ow_value (w' := W) (v := .int .i64 j) ?_ (.mk hRr rfl rfl)
              simp [go_sem, p5]
            · have q4 : _ = _ := hd.1 rfl
              refine ow_value (w' := W) (v := .int .i64 ((j + 1 : Nat) : Int)) ?_ (.mk hRr rfl rfl)
              simp [go_sem, q4, hwj]
            · have q3 : _ = _ := hd.1 rfl
              have q5 : _ = _ := hd.2.1 rfl
              obtain ⟨v', hr, hat⟩ := run_slice_from (P := Tryz.prog) (w := W) (t := 269) Tryz.underlying269 (by kernel_rfl : (Tryz.prog.info? 268).map (·.size) = some 2) (HSA.out.kept0 hR) (j + 1) (by omega)
              rw [flat_drop] at hat
              refine ow_value (w' := W) (v := v') ?_ (.mk hRr hat rfl)
              have e0 : a.eval (.tmp 20) = .slice (some ⟨g, 0, none⟩) n c := by simp [go_sem, q3]
              have e1 : a.eval (.tmp 22) = .int .i64 ((j + 1 : Nat) : Int) := by simp [go_sem, q5]
              simp only [execOp, e0, e1, Option.map_some, Option.map_none, Sem.run_bind, hr, Result.andThen_ok, Sem.run_pure]
          · intro f W hR hf
            obtain ⟨f0, f1, f2, f3, f4, f5, f6, -⟩ := hf
            change f 17 = _ at f0
            change f 18 = _ at f1
            change f 19 = _ at f2
            change f 20 = _ at f3
            change f 21 = _ at f4
            change f 22 = _ at f5
            change SlAt W (fun _ => True) 2 (f 23) ((l.drop (j + 1)).flatMap tpCells) at f6
            obtain ⟨x6, g6⟩ : ∃ x, f 23 = x := ⟨_, rfl⟩
            rw [g6] at f6
            simp only [headDsts, List.take_succ_cons, List.take_zero, List.filterMap_cons, List.filterMap_nil, setAll, f0, f1, f2, f3, f4, f5, g6, List.setIfInBounds_toArray, List.set_cons_succ, List.set_cons_zero, List.drop_succ_cons, List.drop_zero]
            clear f0 f1 f2 f3 f4 f5 g6 f
            obtain ⟨A2, m2, c2, rfl, hs2, _⟩ := f6
            have HS2 := Lib.hid hs2
            have hm2 : m2 = n - (j + 1) := by have h1 := sl_tp hs2; have h2 := HNL.out; rw [h1, List.length_drop, h2]
            have HH := Lib.hid (own_head (own_kept0 HROW.out (HK2.out.trans0 hR)) j (by omega))
            have HR := Lib.hid (HK2.out.trans0 hR)
            have hWb : base ≤ W.heap.size := by have := HR.out.size; omega
            clear hs2 hR
            obtain ⟨w4, hr4, hown, hk4⟩ := run_append_in (ty := 269) HH.out HS2.out (by intro u hu; obtain ⟨p, _, hp⟩ := List.mem_flatMap.1 hu; exact tp_one p u hp) (show j + m2 ≤ c by omega) (c2 := c2) (by omega) hWb
            have HO4 := Lib.hid hown
            have HK4 := Lib.hid hk4
            have HR4 := Lib.hid hr4
            have HM2 := Lib.hid hm2
            clear hown hk4 hr4 hm2
            go_wp2_with (at_builtin; refine wl_append_run rfl _ _ 269 rfl rfl rfl HR4.out ?_)
            go_ret
            have hl := HNL.out
            have hm2 := HM2.out
            have hlen : (l.take j ++ l.drop (j + 1)).length = j + m2 := by rw [List.length_append, List.length_take, List.length_drop]; omega
            refine ⟨_, rfl, l.take j ++ l.drop (j + 1), ?_, ?_, rfl, (HR.out.mono (by simp)).trans HK4.out (fun x hx => .inl hx)⟩
            · have h1 : l = l.take j ++ x :: l.drop (j + 1) := by
                obtain ⟨h1, h2⟩ := List.getElem?_eq_some_iff.1 HY.out
                rw [← h2, ← List.drop_eq_getElem_cons h1, List.take_append_drop]
              conv => rhs; rw [h1]
              exact List.perm_middle.symm
            · rw [hlen, List.flatMap_append]
              have h1 := HO4.out
              rw [flat_take] at h1
              exact h1
        · have hxy : x ≠ y := fun e => hd2 (by rw [e])
          have HXY := Lib.hid hxy
          clear hxy
          go_wp2_with (first
            | (refine wl_load_struct rfl 268 _ rfl Tryz.underlying268 rfl rfl g (j * 2) rfl [.string y.1, .int .i32 y.2] rfl HCY.out ?_)
            | (refine wl_load_struct rfl 268 _ rfl Tryz.underlying268 rfl rfl wr.heap.size 0 rfl [.string y.1, .int .i32 y.2] rfl (fun a v hv => by rw [Nat.zero_add, cell_alloc_at]; simpa using hv) ?_)
            | (refine wl_load_struct rfl 268 _ rfl Tryz.underlying268 rfl rfl bx 0 rfl [.string x.1, .int .i32 x.2] rfl HBX.out ?_))
          go_roundg (n - (j + 1))
          case measure => omega
          case rel => exact ⟨j + 1, rfl, by omega, rfl, HREL.out HXY.out, HKR.out.alloc _⟩
      · have hxy : x ≠ y := fun e => hd1 (by rw [e])
        have HXY := Lib.hid hxy
        clear hxy
        go_wp2_with (first
          | (refine wl_load_struct rfl 268 _ rfl Tryz.underlying268 rfl rfl g (j * 2) rfl [.string y.1, .int .i32 y.2] rfl HCY.out ?_)
          | (refine wl_load_struct rfl 268 _ rfl Tryz.underlying268 rfl rfl wr.heap.size 0 rfl [.string y.1, .int .i32 y.2] rfl (fun a v hv => by rw [Nat.zero_add, cell_alloc_at]; simpa using hv) ?_)
          | (refine wl_load_struct rfl 268 _ rfl Tryz.underlying268 rfl rfl bx 0 rfl [.string x.1, .int .i32 x.2] rfl HBX.out ?_))
        go_roundg (n - (j + 1))
        case measure => omega
        case rel => exact ⟨j + 1, rfl, by omega, rfl, HREL.out HXY.out, HKR.out.alloc _⟩
    · obtain rfl : j = n := by omega
      obtain ⟨i, hi⟩ := List.getElem?_of_mem HX.out
      exact absurd hi (HNO.out i (by have := (List.getElem?_eq_some_iff.1 hi).1; have := HNL.out; omega))
end Go.Proofs.YtghgffhcdnmpnaaGreat
/-
  Plain laws of what is given one by one to the one who has least. No program in sight. Conditions: none beyond each lemma's own.
-/
namespace Go.Proofs.YtghgffhcdnmpnaaGreat
open Go.RowKit Go.Sort
/-- Lists that differ by one at most. -/
def Even (L : List (ByteArray × List TP)) : Prop := ∀ e ∈ L, ∀ f ∈ L, e.2.length ≤ f.2.length + 1
/-- All that has been given. -/
def given (L : List (ByteArray × List TP)) : List TP := L.flatMap Prod.snd
theorem first_least {sz : ByteArray → Nat} {ids : List ByteArray} {k : ByteArray} (hs : ids.Pairwise (fun p q => mlt sz q p = false)) (h0 : ids[0]? = some k) : ∀ x ∈ ids, sz k ≤ sz x := by
  match ids, h0 with
  | y :: r, h0 =>
    have hy : y = k := by simpa using h0
    subst hy
    obtain ⟨h1, _⟩ := List.pairwise_cons.1 hs
    intro x hx
    rcases List.mem_cons.1 hx with rfl | hx
    · exact Nat.le_refl _
    · have := h1 x hx
      unfold mlt at this
      by_cases he : sz x = sz y
      · omega
      · rw [if_neg he] at this
        simp only [decide_eq_false_iff_not] at this
        omega
theorem mem_keys {L : List (ByteArray × List TP)} {k : ByteArray} (h : k ∈ L.map Prod.fst) : ∃ q, (k, q) ∈ L := by
  obtain ⟨⟨k', q⟩, he, rfl⟩ := List.mem_map.1 h
  exact ⟨q, he⟩
theorem giveL_even {L : List (ByteArray × List TP)} {k : ByteArray} {q : List TP} {x : TP} (hn : (L.map Prod.fst).Nodup) (he : Even L) (hk : (k, q) ∈ L) (hleast : ∀ f ∈ L, q.length ≤ f.2.length) : Even (giveL L k x) := by
  intro e hem f hfm
  obtain ⟨e0, he0, rfl⟩ := List.mem_map.1 hem
  obtain ⟨f0, hf0, rfl⟩ := List.mem_map.1 hfm
  have h1 := he e0 he0 f0 hf0
  have h2 := hleast f0 hf0
  by_cases hek : e0.1 = k
  · have : e0 = (k, q) := nodup_key hn he0 hk hek
    subst this
    rw [if_pos rfl]
    by_cases hfk : f0.1 = k
    · rw [if_pos hfk]
      simp only [List.length_append, List.length_singleton] at *
      omega
    · rw [if_neg hfk]
      simp only [List.length_append, List.length_singleton] at *
      omega
  · rw [if_neg hek]
    by_cases hfk : f0.1 = k
    · rw [if_pos hfk]
      simp only [List.length_append, List.length_singleton]
      omega
    · rw [if_neg hfk]
      omega
theorem giveL_other {x : TP} {k : ByteArray} : ∀ {L : List (ByteArray × List TP)}, k ∉ L.map Prod.fst → giveL L k x = L
  | [], _ => rfl
  | e :: L, h => by
    have h1 : e.1 ≠ k := fun hh => h (by rw [← hh]; exact List.mem_map.2 ⟨e, .head _, rfl⟩)
    have h2 : k ∉ L.map Prod.fst := fun hh => h (List.mem_cons_of_mem _ hh)
    have ih : giveL L k x = L := giveL_other h2
    unfold giveL at ih ⊢
    rw [List.map_cons, if_neg h1, ih]
theorem giveL_given {x : TP} {k : ByteArray} : ∀ {L : List (ByteArray × List TP)}, (L.map Prod.fst).Nodup → k ∈ L.map Prod.fst → (given (giveL L k x)).Perm (given L ++ [x])
  | [], _, h => by simp at h
  | e :: L, hn, h => by
    have hn' := List.nodup_cons.1 (show (e.1 :: L.map Prod.fst).Nodup from hn)
    by_cases hek : e.1 = k
    · have h2 : giveL L k x = L := giveL_other (by rw [← hek]; exact hn'.1)
      have h3 : giveL (e :: L) k x = (e.1, e.2 ++ [x]) :: L := by
        unfold giveL at h2 ⊢
        rw [List.map_cons, if_pos hek, h2]
      rw [h3]
      simp only [given, List.flatMap_cons, List.append_assoc]
      exact (List.perm_append_comm (l₁ := [x]) (l₂ := List.flatMap Prod.snd L)).append_left _
    · have hk : k ∈ L.map Prod.fst := (List.mem_cons.1 (show k ∈ e.1 :: L.map Prod.fst from h)).resolve_left (fun hh => hek hh.symm)
      have ih := giveL_given (x := x) hn'.2 hk
      have h3 : giveL (e :: L) k x = e :: giveL L k x := by
        unfold giveL
        rw [List.map_cons, if_neg hek]
      rw [h3]
      simp only [given, List.flatMap_cons, List.append_assoc] at ih ⊢
      exact ih.append_left _
theorem szOf_key {L : List (ByteArray × List TP)} (hn : (L.map Prod.fst).Nodup) {e : ByteArray × List TP} (he : e ∈ L) : szOf L e.1 = e.2.length := szOf_mem hn he
/-- One more is given. -/
theorem give_step {L : List (ByteArray × List TP)} {ids : List ByteArray} {k : ByteArray} {x : TP} {U : List TP} (hn : (L.map Prod.fst).Nodup) (he : Even L) (hp : ids.Perm (L.map Prod.fst)) (hs : ids.Pairwise (fun p q => mlt (szOf L) q p = false)) (h0 : ids[0]? = some k) (hU : (given L).Perm U) :
    Even (giveL L k x) ∧ (given (giveL L k x)).Perm (U ++ [x]) ∧ ∃ q, (k, q) ∈ L := by
  have hk : k ∈ L.map Prod.fst := hp.mem_iff.1 (List.mem_of_getElem? h0)
  obtain ⟨q, hq⟩ := mem_keys hk
  have hl := first_least hs h0
  refine ⟨giveL_even hn he hq fun f hf => ?_, (giveL_given hn hk).trans (hU.append_right _), q, hq⟩
  have h1 := hl f.1 (hp.mem_iff.2 (List.mem_map.2 ⟨f, hf, rfl⟩))
  rwa [szOf_mem hn hq, szOf_key hn hf] at h1
theorem given_le {L : List (ByteArray × List TP)} {e : ByteArray × List TP} (he : e ∈ L) : e.2.length ≤ (given L).length := by
  unfold given
  induction L with
  | nil => cases he
  | cons f L ih =>
    rw [List.flatMap_cons, List.length_append]
    rcases List.mem_cons.1 he with rfl | h
    · omega
    · have := ih h
      omega
end Go.Proofs.YtghgffhcdnmpnaaGreat
/-
  The sticky strategies' balance (198) of a group that begins. Conditions: nobody has a pair yet; all could have all; at least one name and one pair.
-/
namespace Go.Proofs.YtghgffhcdnmpnaaGreat
open Go.RowKit Go.Sort
theorem wl_lookup_w {κ : Type} [DecidableEq κ] {enc : κ → Value} {w : World} {P : Program} {kt : TypeId} {ops : Array Oper} {rest : List Oper} {o : Oper} {a : Act} {Q : Exit → Act → World → Prop} (hw : Region.wanted o (yielded ops a.tmps) = true) (mo x : Operand) (t : TypeId) (hop : o.op = Op.lookup t mo x false) (et : TypeId) (ht : P.underlying t = some (.map kt et)) (K : KeyOps P kt enc) (z : Value) (hz : (zeroValue et).run P w = .ok z w)
    (b : Nat) (m : List (κ × Value)) (hm : a.eval mo = .map (some b)) (hM : MapIs enc w b m) (k : κ) (hx : a.eval x = enc k)
    (hK : wpList P ops Q rest (a.put o.dst ((mget m k).getD z)) w) : wpList P ops Q (o :: rest) a w := by
  refine BigFrame.wpList_want hw fun K' hK' => ?_
  unfold Oper.wp
  simp [execOp, hop, hm, hx, hM.run_lookup K ht hz k, Result.andThen]
  exact hK' _ _ hK
theorem cell_map_ne {κ : Type} {enc : κ → Value} {w : World} {b o M : Nat} {v : Value} {m : List (κ × Value)} (hc : w.cell? ⟨b, o, none⟩ = some v) (hm : MapIs enc w M m) : b ≠ M := by
  rintro rfl
  obtain ⟨es, cl, hb, _⟩ := hm
  simp [World.cell?, hb] at hc
theorem nodup_idx {α : Type} {l : List α} (hn : l.Nodup) {i j : Nat} {x : α} (hi : l[i]? = some x) (hj : l[j]? = some x) : i = j := by
  obtain ⟨h1, h2⟩ := List.getElem?_eq_some_iff.1 hi
  obtain ⟨h3, h4⟩ := List.getElem?_eq_some_iff.1 hj
  have hp := List.pairwise_iff_getElem.1 hn
  rcases Nat.lt_trichotomy i j with h | h | h
  · exact absurd (h2.trans h4.symm) (hp i j h1 h3 h)
  · exact h
  · exact absurd (h4.trans h2.symm) (hp j i h3 h1 h)
theorem AsgIs.keptI {κ : Type} {enc : κ → Value} {w w' : World} {base b r M : Nat} {m : List (κ × Value)} {done : List Nat} {L : List (ByteArray × List TP)} (h : AsgIs w base b L) (hI : IterIs enc w r M m done) (k : Kept [r] w w') (hb : b ≠ r) : AsgIs w' base b L := by
  obtain ⟨m', h1, h2, h3, h4⟩ := h
  exact ⟨m', h1.kept k (by simpa using hb), h2, fun e he => k.own (h3 e he) (own_iter_ne (h3 e he) hI), h4⟩
/-- What balance is told. -/
structure BalPre (w : World) (Mb Qb Pb Cb g3 c3 n4 n5 : Nat) (A4 A5 : Option Addr) (X : Nat → Prop) (L0 cl : List (ByteArray × List TP)) (pm : List (TP × Value)) (sp U : List TP) (ids : List ByteArray) : Prop where
  cur : AsgIs w w.heap.size Mb L0
  nil : ∀ e ∈ L0, e.2 = []
  pot : CpAt w X Qb cl
  bX : ∀ b, X b → b < w.heap.size ∧ b ≠ Mb ∧ b ≠ Cb ∧ b ≠ g3
  who : MapIs tpEnc w Pb pm
  ne : Pb ≠ Mb ∧ Pb ≠ Cb ∧ Mb ≠ Cb
  all : ∀ e ∈ pm, ∃ A c, e.2 = .slice A L0.length c
  keys : (pm.map Prod.fst).Perm U
  has : MapIs tpEnc w Cb []
  row : w.ownsRow 0 268 2 (.slice (some ⟨g3, 0, none⟩) sp.length c3) sp.length (sp.flatMap tpCells)
  perm : sp.Perm U
  un : SlIs w 2 A4 n4 (U.flatMap tpCells)
  row5 : SlIs w 1 A5 n5 (strs ids)
  idsP : ids.Perm (L0.map Prod.fst)
  idsS : ids.Pairwise (fun p q => mlt (szOf L0) q p = false)
  clU : ∀ e ∈ cl, e.2.Perm U
  clK : (cl.map Prod.fst).Perm (L0.map Prod.fst)
  one : 1 ≤ L0.length
  hundred : L0.length ≤ 100
  uone : 1 ≤ U.length
  umil : U.length ≤ 1000000
  und : U.Nodup
theorem own_form_blk {w : World} {base g : Nat} {e : TypeId} {s n : Nat} {v : Value} {xs : List Value} (h : w.ownsRow base e s v n xs) (hb : v.ownBlock = some g) : ∃ c, v = .slice (some ⟨g, 0, none⟩) n c := by
  rcases h.2 with ⟨rfl, _⟩ | ⟨g', cap, cur, rfl, _⟩
  · cases hb
  · have : g' = g := by simpa [Value.ownBlock] using hb
    exact ⟨cap, by rw [this]⟩
set_option maxRecDepth 100000 in
set_option maxHeartbeats 12800000 in
theorem balance_any (s v2 : Value) (Mb Qb Pb Cb g3 c3 n4 c4 n5 c5 : Nat) (A4 A5 : Option Addr) (X : Nat → Prop) (L0 cl : List (ByteArray × List TP)) (pm : List (TP × Value)) (sp U : List TP) (ids : List ByteArray) (w : World)
    (hpre : BalPre w Mb Qb Pb Cb g3 c3 n4 n5 A4 A5 X L0 cl pm sp U ids) :
    Calls Tryz.prog 198 #[s, .map (some Mb), v2, .slice (some ⟨g3, 0, none⟩) sp.length c3, .slice A4 n4 c4, .slice A5 n5 c5, .map (some Qb), .map (some Pb), .map (some Cb)] w fun e w' =>
      e = .returned (.tuple #[]) ∧ ∃ L, AsgIs w' w.heap.size Mb L ∧ (L.map Prod.fst).Perm (L0.map Prod.fst) ∧ (given L).Perm U ∧ Even L ∧ Kept [Mb, Cb, g3] w w' := by
  have HPRE := Lib.hid hpre
  have hids := hpre.row5
  have hn5 : n5 = L0.length := by
    have h1 := hids.1
    have h2 := hpre.idsP.length_eq
    simp [strs] at h1
    simp at h2
    omega
  have hN1 := hpre.one
  have hN100 := hpre.hundred
  have hn563 := hids.2.1
  obtain ⟨b5, o5, rfl, hc5⟩ := hids.2.2 (by omega)
  obtain ⟨k0, hk0⟩ : ∃ k0, ids[0]? = some k0 := ⟨_, List.getElem?_eq_getElem (by have := hpre.idsP.length_eq; simp at this; omega)⟩
  have hc50 : w.cell? ⟨b5, o5, none⟩ = some (.string k0) := by
    have := hc5 0 (.string k0) (by simp [strs, hk0])
    simpa using this
  obtain ⟨q0, hq0⟩ := mem_keys (hpre.idsP.mem_iff.1 (List.mem_of_getElem? hk0))
  obtain ⟨m0, v0, hm0, _, hg0, hrow0⟩ := hpre.cur.get hq0
  have hq0e : q0 = [] := hpre.nil _ hq0
  subst hq0e
  obtain ⟨A0, c0, rfl⟩ := own_form hrow0
  simp only [List.length_nil] at hg0
  have HM0 := Lib.hid hm0
  have HG0 := Lib.hid hg0
  have hn4 : n4 = U.length := sl_tp hpre.un
  have HN4 := Lib.hid hn4
  have hU1 := hpre.uone
  have hUm := hpre.umil
  have hn463 := hpre.un.2.1
  obtain ⟨z, hz⟩ : ∃ z, w.heap.size = z := ⟨_, rfl⟩
  have HZ := Lib.hid hz
  have hMz : Mb < z := by rw [← hz]; exact hpre.cur.lt
  have hCz : Cb < z := by rw [← hz]; exact hpre.has.lt
  have hPz : Pb < z := by rw [← hz]; exact hpre.who.lt
  have hpos : (0 : Int) < (n5 : Int) := by omega
  have hn50 : ((n5 : Int) == 0) = false := by simp only [beq_eq_false_iff_ne]; omega
  obtain ⟨N, hN⟩ : ∃ N, L0.length = N := ⟨_, rfl⟩
  rw [hN] at hN1 hN100 hn5
  have HN := Lib.hid hN
  have hN0 : ((N : Int) == 0) = false := by simp only [beq_eq_false_iff_ne]; omega
  have HN5 := Lib.hid hn5
  clear hpre hids hk0 hq0 hm0 hg0 hrow0 hz hc5 hN hn5
  go_enter Tryz.func198, Tryz.ntmps198
  go_wp2_with (first
    | (refine wl_lookup_w rfl _ _ 262 rfl 269 Tryz.underlying262 str9 _ (Tryz.zeroValue269 _) Mb m0 rfl HM0.out k0 rfl ?_; rw [HG0.out]))
  have HW0 := Lib.hid (HPRE.out)
  go_loopg [5, 41] U.length (fun k v5 vj wr => ∃ (j : Nat) (L : List (ByteArray × List TP)) (ids : List ByteArray) (cc : List (TP × Value)) (A : Option Addr) (n c : Nat), k = U.length - j ∧ j ≤ U.length ∧ vj = .int .i64 j ∧ v5 = .slice A n c ∧ SlIs wr 1 A n (strs ids) ∧ ids.Perm (L.map Prod.fst) ∧
    ids.Pairwise (fun p q => mlt (szOf L) q p = false) ∧ AsgIs wr z Mb L ∧ L.map Prod.fst = L0.map Prod.fst ∧ (given L).Perm (U.take j) ∧ Even L ∧ MapIs tpEnc wr Cb cc ∧ Kept [Mb, Cb] w wr)
  case atStart =>
    have h := HW0.out
    have hgv : given L0 = [] := List.flatMap_eq_nil_iff.2 h.nil
    exact ⟨0, L0, ids, [], _, n5, c5, rfl, Nat.zero_le _, rfl, rfl, h.row5, h.idsP, h.idsS, HZ.out ▸ h.cur, rfl, by rw [hgv]; exact List.Perm.refl _, fun e he f _ => by rw [h.nil e he]; exact Nat.zero_le _, h.has, Kept.refl _ _⟩
  case round =>
    obtain ⟨j, L, ids', cc, A, n, c, hk, hj, rfl, rfl, hrow, hip, his, hA, hkeys, hgv, hev, hC, hkr⟩ := hrel
    have HROW := Lib.hid hrow
    have HIP := Lib.hid hip
    have HIS := Lib.hid his
    have HA := Lib.hid hA
    have HKEYS := Lib.hid hkeys
    have HGV := Lib.hid hgv
    have HEV := Lib.hid hev
    have HCC := Lib.hid hC
    have HKR := Lib.hid hkr
    clear hrow hip his hA hkeys hgv hev hC hkr
    by_cases hlt : j < U.length
    · have hlt' : (j : Int) < (n4 : Int) := by omega
      obtain ⟨x, hx⟩ : ∃ x, U[j]? = some x := ⟨_, List.getElem?_eq_getElem hlt⟩
      have HX := Lib.hid hx
      obtain ⟨b4, o4, rfl, hc4⟩ := HW0.out.un.2.2 (by omega)
      have HCX : Hid (∀ a v, [Value.string x.1, .int .i32 x.2][a]? = some v → wr.cell? ⟨b4, o4 + j * 2 + a, none⟩ = some v) := fun a v hv => by
        have h1 := hc4 (j * 2 + a) v (tp_get hx a v hv)
        have h2 := HKR.out.cell h1 (by
          have h3 := cell_map_ne h1 HM0.out
          have h4 := cell_map_ne h1 HW0.out.has
          simp only [List.mem_cons, List.not_mem_nil, or_false]
          rintro (h | h)
          · exact h3 h
          · exact h4 h)
        rwa [← Nat.add_assoc] at h2
      obtain ⟨Ax, cx, hpx⟩ : ∃ A c, mget pm x = some (.slice A N c) := by
        have hm : x ∈ pm.map Prod.fst := HW0.out.keys.mem_iff.2 (List.mem_of_getElem? hx)
        obtain ⟨⟨x', v⟩, he, rfl⟩ := List.mem_map.1 hm
        obtain ⟨A, c, hv⟩ := HW0.out.all _ he
        simp only at hv
        rw [HN.out] at hv
        exact ⟨A, c, by rw [← hv]; exact mget_of_mem HW0.out.who.nodup he⟩
      have HPX := Lib.hid hpx
      have hadd : (⟨b4, o4, none⟩ : Addr).add (j * 2) = ⟨b4, o4 + j * 2, none⟩ := by unfold Addr.add; split <;> simp_all
      obtain ⟨k, hk⟩ : ∃ k, ids'[0]? = some k := ⟨_, List.getElem?_eq_getElem (by have h1 := HIP.out.length_eq; rw [HKEYS.out, List.length_map, HN.out] at h1; omega)⟩
      obtain ⟨hev', hgv', q, hq⟩ := give_step (x := x) HA.out.nodup HEV.out HIP.out HIS.out hk HGV.out
      have hjm : j ≤ 1000000 := by omega
      have hgl : (given L).length = j := by rw [HGV.out.length_eq, List.length_take]; omega
      have hkc : k ∈ cl.map Prod.fst := HW0.out.clK.mem_iff.2 (by rw [← HKEYS.out]; exact HIP.out.mem_iff.1 (List.mem_of_getElem? hk))
      obtain ⟨lst, hlst⟩ := mem_keys hkc
      have HASG : Hid (∀ W, Kept [] wr W → Calls Tryz.prog 212 #[tpEnc x, .slice A n c, .map (some Mb), .map (some Qb), .map (some Cb)] W fun e w' => ∃ v ids'', e = .returned v ∧ ids''.Perm (L.map Prod.fst) ∧ ids''.Pairwise (fun p q => mlt (szOf (giveL L k x)) q p = false) ∧
          w'.ownsRow z 9 1 v ids''.length (strs ids'') ∧ AsgIs w' z Mb (giveL L k x) ∧ MapIs tpEnc w' Cb (mset cc x (.string k)) ∧ Kept [Mb, Cb] w w') := fun W hW => by
        have h := assign_any w W Mb Qb Cb n c A X L cl cc x k q lst ids' (HKR.out.trans0 hW) (HZ.out.symm ▸ HA.out.kept0 hW) (by rw [HZ.out]; exact hMz) (by rw [HZ.out]; exact hCz) HW0.out.ne.2.2
          ((HW0.out.pot.kept HKR.out (fun y hy => by
            have h3 := HW0.out.bX y hy
            simp only [List.mem_cons, List.not_mem_nil, or_false]
            rintro (h | h)
            · exact h3.2.1 h
            · exact h3.2.2.1 h)).kept hW (by simp))
          (HCC.out.kept hW (by simp)) (HROW.out.kept0 hW) hk hq hlst ((HW0.out.clU _ hlst).mem_iff.2 (List.mem_of_getElem? hx)) (fun e he => by have := given_le he; omega) (by have h1 := congrArg List.length HKEYS.out; rw [List.length_map, List.length_map, HN.out] at h1; omega)
        rw [HZ.out] at h
        exact h
      have HEV' := Lib.hid hev'
      have HGV' := Lib.hid hgv'
      have HWHO := Lib.hid (HW0.out.who.kept HKR.out (by have h := HW0.out.ne; simp only [List.mem_cons, List.not_mem_nil, or_false]; rintro (h1 | h1); (exact h.1 h1); (exact h.2.1 h1)))
      clear hx hc4 hpx hk hev' hgv' hq hgl hkc hlst
      go_wp2_with (first
        | (refine wl_load_struct rfl 268 _ rfl Tryz.underlying268 rfl rfl b4 (o4 + j * 2) rfl [.string x.1, .int .i32 x.2] rfl HCX.out ?_)
        | (refine wl_load_struct rfl 268 _ rfl Tryz.underlying268 rfl rfl wr.heap.size 0 rfl [.string x.1, .int .i32 x.2] rfl (fun a v hv => by rw [Nat.zero_add, cell_alloc_at]; simpa using hv) ?_)
        | (refine wl_lookup rfl _ _ 266 rfl 44 Tryz.underlying266 tp_keys _ (Tryz.zeroValue44 _) Pb pm rfl (HWHO.out.alloc _) x rfl ?_; rw [HPX.out])
        | ((with_reducible refine (HASG.out _ ((Kept.refl _ _).alloc _)).mono ?_)
           rintro e w1 ⟨v, ids2, rfl, hp, hs, hrow, hA, hC, hk⟩
           obtain ⟨A6, c6, rfl⟩ := own_form hrow
           have HP1 := Lib.hid hp
           have HS1 := Lib.hid hs
           have HR1 := Lib.hid (own_slis hrow)
           have HA1 := Lib.hid hA
           have HC1 := Lib.hid hC
           have HK1 := Lib.hid hk
           clear hp hs hrow hA hC hk))
      go_roundg (U.length - (j + 1))
      case measure => omega
      case rel =>
        refine ⟨j + 1, giveL L k x, ids2, _, A6, _, c6, rfl, by omega, rfl, rfl, HR1.out, by rw [giveL_keys]; exact HP1.out, HS1.out, HA1.out, by rw [giveL_keys]; exact HKEYS.out, ?_, HEV'.out, HC1.out, HK1.out⟩
        rw [take_one HX.out]
        exact HGV'.out
    · obtain rfl : j = U.length := by omega
      have hlt' : ¬ ((U.length : Int) < (n4 : Int)) := by omega
      obtain ⟨wA, hwA⟩ : ∃ wA : World, wA = wr := ⟨_, rfl⟩
      rw [← hwA] at HROW HA HCC HKR ⊢
      clear hwA
      have hgU : (given L).Perm U := by have h := HGV.out; rwa [List.take_length] at h
      have HGU := Lib.hid hgU
      have hWHO := HW0.out.who.kept HKR.out (by have h := HW0.out.ne; simp only [List.mem_cons, List.not_mem_nil, or_false]; rintro (h1 | h1); (exact h.1 h1); (exact h.2.1 h1))
      have HWHO := Lib.hid hWHO
      have hgMb : g3 ≠ Mb := own_map_ne HW0.out.row HM0.out g3 rfl
      have hgPb : g3 ≠ Pb := own_map_ne HW0.out.row HW0.out.who g3 rfl
      have hgCb : g3 ≠ Cb := own_map_ne HW0.out.row HW0.out.has g3 rfl
      have hgz : g3 < z := by rw [← HZ.out]; exact own_lt HW0.out.row g3 rfl
      have hROW3 : wA.ownsRow 0 268 2 (.slice (some ⟨g3, 0, none⟩) sp.length c3) sp.length (sp.flatMap tpCells) := HKR.out.own HW0.out.row (fun g hg => by
        cases hg
        simp only [List.mem_cons, List.not_mem_nil, or_false]
        rintro (h | h)
        · exact hgMb h
        · exact hgCb h)
      have HROW3 := Lib.hid hROW3
      obtain ⟨y, hy⟩ : ∃ y, wA.heap.size = y := ⟨_, rfl⟩
      have HY := Lib.hid hy
      have hzy : z ≤ y := by rw [← hy, ← HZ.out]; exact HKR.out.size
      clear hgU hWHO hROW3 hy
      go_wp2_with ((refine wl_range rfl _ 266 rfl 268 44 Tryz.underlying266 Pb pm rfl HWHO.out ?_; intro w1 hI hk1 hs1; have HI := Lib.hid hI; have HK1 := Lib.hid hk1; have HS1 := Lib.hid hs1; clear hI hk1 hs1))
      rw [HY.out] at HI HS1 ⊢
      go_loopg [3, 21] pm.length (fun k v3 _ wr => ∃ (done : List Nat) (sp' : List TP) (c3' : Nat), k = pm.length - done.length ∧ IterIs tpEnc wr y Pb pm done ∧ v3 = .slice (some ⟨g3, 0, none⟩) sp'.length c3' ∧ wr.ownsRow 0 268 2 v3 sp'.length (sp'.flatMap tpCells) ∧ sp'.length ≤ 1000000 ∧ (N < 2 → (walked (pm.map Prod.fst) done ++ sp').Perm U) ∧ Kept [g3] wA wr)
      case atStart => exact ⟨[], sp, c3, rfl, HI.out, rfl, own_kept0 HROW3.out HK1.out, by rw [HW0.out.perm.length_eq]; exact hUm, fun _ => HW0.out.perm, HK1.out.mono (by simp)⟩
      case round =>
        obtain ⟨done, sp', c3', hk, hI, rfl, hrow3, hsl, hperm, hkr⟩ := hrel
        have HI1 := Lib.hid hI
        have HR3 := Lib.hid hrow3
        have HPM := Lib.hid hperm
        have HKR3 := Lib.hid hkr
        have hdl := hI.left
        have hyr : y < wr.heap.size := hI.lt
        clear hI hrow3 hperm hkr
        by_cases hd : done.length < pm.length
        · have HCT : Hid (∀ x i v w2 W, pm[i]? = some (x, v) → IterIs tpEnc w2 y Pb pm (done ++ [i]) → Kept [] w2 W → Calls Tryz.prog 213 #[tpEnc x, .map (some Pb)] W fun e w' => e = .returned (.bool (decide (2 ≤ N))) ∧ Kept [] W w') := fun x i v w2 W hx hI2 hW => by
            have he := List.mem_of_getElem? hx
            obtain ⟨A, c, hv⟩ := HW0.out.all _ he
            simp only at hv
            rw [HN.out] at hv
            refine canTopic_any Pb N c A pm x W (hI2.map.kept hW (by simp)) ?_
            rw [← hv]
            exact mget_of_mem HW0.out.who.nodup he
          by_cases hN2 : 2 ≤ N
          · rw [show decide (2 ≤ N) = true by simpa using hN2] at HCT
            go_wp2_with (first
              | (refine wl_next rfl _ rfl y Pb pm done rfl HI1.out (fun e => absurd e (by omega)) ?_
                 intro i p w2 hp hi hI2 hK2 hs2
                 obtain ⟨x, u⟩ := p
                 have HI2 := Lib.hid hI2
                 have HK2 := Lib.hid hK2
                 have HP := Lib.hid hp
                 have HR2 := Lib.hid (hK2.own HR3.out (own_iter_ne HR3.out HI1.out))
                 have HK3 : Hid (Kept [] w2 (w2.alloc (.cells #[.string x.1, .int .i32 x.2] 268))) := (Kept.refl [] w2).alloc _
                 clear hI2 hK2 hp hi hs2)
              | (refine wl_entry rfl _ rfl y Pb pm done i _ rfl HI2.out HP.out ?_)
              | ((with_reducible refine (HCT.out x i u _ _ HP.out HI2.out HK3.out).mono ?_)
                 rintro e w3 ⟨rfl, hk⟩
                 have HK4 := Lib.hid hk
                 clear hk))
            go_roundg (pm.length - (done ++ [i]).length)
            case measure =>
              rw [List.length_append]
              simp only [List.length_cons, List.length_nil]
              omega
            case rel =>
              exact ⟨done ++ [i], sp', c3', rfl, (HI2.out.kept ((Kept.refl [] w2).alloc _) (by simp) (by simp)).kept HK4.out (by simp) (by simp), rfl, own_kept0 (own_kept0 HR2.out ((Kept.refl [] w2).alloc _)) HK4.out, hsl, fun h => absurd h (by omega), ((HKR3.out.trans HK2.out (fun x hx => .inr (by have h1 := List.mem_singleton.1 hx; have h2 := HY.out; omega))).alloc _).trans0 HK4.out⟩
          · rw [show decide (2 ≤ N) = false by simpa using hN2] at HCT
            go_wp2_with (first
              | (refine wl_next rfl _ rfl y Pb pm done rfl HI1.out (fun e => absurd e (by omega)) ?_
                 intro i p w2 hp hi hI2 hK2 hs2
                 obtain ⟨x, u⟩ := p
                 have HI2 := Lib.hid hI2
                 have HK2 := Lib.hid hK2
                 have HP := Lib.hid hp
                 have HS2 := Lib.hid hs2
                 have HR2 := Lib.hid (hK2.own HR3.out (own_iter_ne HR3.out HI1.out))
                 have hxs : x ∈ sp' := by
                   have hkx : (pm.map Prod.fst)[i]? = some x := by rw [List.getElem?_map, hp]; rfl
                   have h1 : x ∈ walked (pm.map Prod.fst) done ++ sp' := (HPM.out (by omega)).mem_iff.2 (HW0.out.keys.mem_iff.1 (List.mem_of_getElem? hkx))
                   rcases List.mem_append.1 h1 with h | h
                   · obtain ⟨i', hi', hx'⟩ := List.mem_filterMap.1 h
                     have hnd := HI1.out.map.nodup
                     have : i = i' := nodup_idx hnd hkx hx'
                     exact absurd (this ▸ hi') hi
                   · exact h
                 have HK3 : Hid (Kept [] w2 (w2.alloc (.cells #[.string x.1, .int .i32 x.2] 268))) := (Kept.refl [] w2).alloc _
                 have HREM : Hid (∀ W, Kept [] w2 W → Calls Tryz.prog 214 #[.slice (some ⟨g3, 0, none⟩) sp'.length c3', tpEnc x] W fun e w' => ∃ v' l', e = .returned v' ∧ (x :: l').Perm sp' ∧ w'.ownsRow 0 268 2 v' l'.length (l'.flatMap tpCells) ∧ v'.ownBlock = (Value.slice (some ⟨g3, 0, none⟩) sp'.length c3').ownBlock ∧ Kept (Value.slice (some ⟨g3, 0, none⟩) sp'.length c3').ownBlock.toList W w') := fun W hW => remove_any 0 _ sp' x W (own_kept0 HR2.out hW) hxs hsl (Nat.zero_le _)
                 clear hI2 hK2 hp hi hs2 hxs)
              | (refine wl_entry rfl _ rfl y Pb pm done i _ rfl HI2.out HP.out ?_)
              | ((with_reducible refine (HCT.out x i u _ _ HP.out HI2.out HK3.out).mono ?_)
                 rintro e w3 ⟨rfl, hk⟩
                 have HK4 := Lib.hid hk
                 clear hk)
              | (refine wl_load_struct rfl 268 _ rfl Tryz.underlying268 rfl rfl w2.heap.size 0 rfl [.string x.1, .int .i32 x.2] rfl (fun a v hv => HK4.out.cell (by rw [Nat.zero_add, cell_alloc_at]; simpa using hv) (by simp)) ?_)
              | ((with_reducible refine (HREM.out _ (HK3.out.trans0 HK4.out)).mono ?_)
                 rintro e w5 ⟨v', l', rfl, hp5, hrow5, hb5, hk5⟩
                 obtain ⟨c5', rfl⟩ := own_form_blk hrow5 (hb5.trans rfl)
                 have HP5 := Lib.hid hp5
                 have HR5 := Lib.hid hrow5
                 have HK5 : Hid (Kept [g3] w3 w5) := hk5
                 clear hp5 hrow5 hb5 hk5))
            go_roundg (pm.length - (done ++ [i]).length)
            case measure =>
              rw [List.length_append]
              simp only [List.length_cons, List.length_nil]
              omega
            case rel =>
              have hgy : g3 ≠ y := by omega
              refine ⟨done ++ [i], l', c5', rfl, ((HI2.out.kept HK3.out (by simp) (by simp)).kept HK4.out (by simp) (by simp)).kept HK5.out (by simpa using Ne.symm hgPb) (by simpa using Ne.symm hgy), rfl, HR5.out, by have := HP5.out.length_eq; simp at this; omega, fun h => ?_, (((HKR3.out.trans HK2.out (fun x hx => .inr (by have h1 := List.mem_singleton.1 hx; have h2 := HY.out; omega))).trans0 HK3.out).trans0 HK4.out).trans HK5.out (fun x hx => .inl hx)⟩
              have hkx : (pm.map Prod.fst)[i]? = some x := by rw [List.getElem?_map, HP.out]; rfl
              rw [walked_snoc hkx, List.append_assoc]
              exact (HP5.out.append_left _).trans (HPM.out h)
        · have hde : done.length = pm.length := by omega
          have hidn := HI1.out.2.1
          have hidl := HI1.out.2.2.1
          have HSP : Hid (N < 2 → sp' = []) := fun h => by
            have h1 : (walked (pm.map Prod.fst) done).Perm (pm.map Prod.fst) := walked_perm hidn (fun i hi => by simpa using hidl i hi) (by simpa using hde)
            have h2 := (HPM.out h).length_eq
            rw [List.length_append, h1.length_eq, HW0.out.keys.length_eq] at h2
            exact List.eq_nil_of_length_eq_zero (by omega)
          obtain ⟨wB, hwB⟩ : ∃ wB : World, wB = wr := ⟨_, rfl⟩
          rw [← hwB] at HI1 HR3 HKR3 ⊢
          obtain ⟨zF, hzF⟩ : ∃ zF, wB.heap.size = zF := ⟨_, rfl⟩
          have HZF := Lib.hid hzF
          rw [← hwB, hzF] at hyr
          have hmm := @run_makeMap Tryz.prog
          have hKB : Kept [Mb, Cb, g3] w wB := (HKR.out.mono (by intro x hx; simp at hx ⊢; rcases hx with h | h <;> simp [h])).trans HKR3.out (fun x hx => .inl (by simp at hx; simp [hx]))
          have HKB := Lib.hid hKB
          have HAB : Hid (AsgIs wB z Mb L) := HA.out.kept HKR3.out (by simpa using Ne.symm hgMb) (by simpa using hgz)
          have HQB : Hid (CpAt wB X Qb cl) := HW0.out.pot.kept hKB (fun b hb => by have h := HW0.out.bX b hb; simp only [List.mem_cons, List.not_mem_nil, or_false]; rintro (h1 | h1 | h1); (exact h.2.1 h1); (exact h.2.2.1 h1); (exact h.2.2.2 h1))
          obtain ⟨hXQ, mq, hmq, hclq, hvq⟩ := HQB.out
          obtain ⟨mq1, hmq1⟩ : ∃ mq1, mq.map (fun e => (e.1, e.2.1)) = mq1 := ⟨_, rfl⟩
          rw [hmq1] at hmq
          have HMQ := Lib.hid hmq
          have hqlt : Qb < zF := by rw [← hzF]; exact hmq.lt
          have hclen : mq1.length = N := by
            have h1 := HW0.out.clK.length_eq
            rw [← hclq] at h1
            rw [← hmq1]
            simp at h1 ⊢
            rw [h1, HN.out]
          clear hidn hidl hwB hzF hKB
          go_wp2_with (first
            | (refine wl_next rfl _ rfl y Pb pm done rfl HI1.out (fun _ => ?_) (fun i p w2 hp hi hI2 hK2 hs2 => absurd hI2.left (by rw [List.length_append]; simp only [List.length_cons, List.length_nil]; omega)))
            | (refine wl_range rfl _ 262 rfl 9 269 Tryz.underlying262 Qb mq1 rfl (HMQ.out.alloc _) ?_; intro w1 hI hk1 hs1; have HI2 := Lib.hid hI; have HK2 := Lib.hid hk1; have HS2 := Lib.hid hs1; clear hI hk1 hs1))
          simp only [Act.put, List.setIfInBounds_toArray, List.set_cons_succ, List.set_cons_zero]
          have hsF : (wB.alloc (Obj.map #[] 0)).heap.size = zF + 1 := by rw [← HZF.out]; simp
          rw [hsF, HZF.out]
          rw [hsF] at HI2 HS2
          have hF0 : MapIs Value.string w1 zF [] := by
            have h := MapIs.new Value.string wB
            rw [HZF.out] at h
            exact h.kept HK2.out (by simp)
          have HF0 := Lib.hid hF0
          have HKW1 : Hid (Kept [] wB w1) := ((Kept.refl [] wB).alloc _).trans0 HK2.out
          have HCLQ := Lib.hid hclq
          have HMQ1 := Lib.hid hmq1
          have hLN : L.length = N := by
            have h1 := congrArg List.length HKEYS.out
            rw [List.length_map, List.length_map, HN.out] at h1
            exact h1
          have HPB := Lib.hid HI1.out.map
          have hMzF : Mb < zF := by omega
          clear hF0 hclq hmq1 hsF hvq HK2
          go_loopg [5, 23] mq1.length (fun k _ _ wr => ∃ (done : List Nat), k = mq1.length - done.length ∧ IterIs Value.string wr (zF + 1) Qb mq1 done ∧ ((AsgIs wr z Mb L ∧ MapIs Value.string wr zF [] ∧ (N < 2 → done = [])) ∨ (N < 2 ∧ done.length = 1 ∧ MapIs Value.string wr Mb [] ∧ ∃ kk q v, L = [(kk, q)] ∧ MapIs Value.string wr zF [(kk, v)] ∧ wr.ownsRow z 268 2 v q.length (q.flatMap tpCells))) ∧ Kept [Mb] wB wr)
          case atStart => exact ⟨[], rfl, HI2.out, .inl ⟨HAB.out.kept0 HKW1.out, HF0.out, fun _ => rfl⟩, HKW1.out.mono (by simp)⟩
          case round =>
            obtain ⟨dn, hk, hI, hor, hkr⟩ := hrel
            have HI3 := Lib.hid hI
            have HOR := Lib.hid hor
            have HKR4 := Lib.hid hkr
            have hdl := hI.left
            have hzr : zF + 1 < wr.heap.size := hI.lt
            clear hI hor hkr
            by_cases hdn : dn.length < mq1.length
            · obtain ⟨hA3, hF3, hfst⟩ : AsgIs wr z Mb L ∧ MapIs Value.string wr zF [] ∧ (N < 2 → dn = []) := by
                rcases HOR.out with h | ⟨h1, h2, _⟩
                · exact h
                · omega
              have HA3 := Lib.hid hA3
              have HF3 := Lib.hid hF3
              have HFST := Lib.hid hfst
              have HQ3 : Hid (CpAt wr X Qb cl) := HQB.out.kept HKR4.out (fun b hb hm => (HW0.out.bX b hb).2.1 (List.mem_singleton.1 hm))
              have HP3 : Hid (MapIs tpEnc wr Pb pm) := HPB.out.kept HKR4.out (fun hm => HW0.out.ne.1 (List.mem_singleton.1 hm))
              have HCAN : Hid (∀ i kk v W, mq1[i]? = some (kk, v) → Kept [zF + 1] wr W → AsgIs W z Mb L → ∃ q, (kk, q) ∈ L ∧ Calls Tryz.prog 215 #[.string kk, .map (some Mb), .map (some Qb), .map (some Pb)] W fun e w' => e = .returned (.bool (decide (2 ≤ N))) ∧ Kept [] W w') := fun i kk v W hi hW hAW => by
                have hkc : kk ∈ cl.map Prod.fst := by
                  have h1 : kk ∈ mq1.map Prod.fst := List.mem_map.2 ⟨_, List.mem_of_getElem? hi, rfl⟩
                  rw [← HMQ1.out, List.map_map] at h1
                  rw [← HCLQ.out, List.map_map]
                  exact h1
                obtain ⟨lst, hlst⟩ := mem_keys hkc
                obtain ⟨q, hq⟩ := mem_keys (L := L) (k := kk) (by rw [HKEYS.out]; exact HW0.out.clK.mem_iff.1 hkc)
                have hll := (HW0.out.clU _ hlst).length_eq
                simp only at hll
                have hqg := given_le hq
                rw [HGU.out.length_eq] at hqg
                simp only at hqg
                refine ⟨q, hq, ?_⟩
                have h := canConsumer_any Mb Qb Pb z N kk q lst X L cl pm W hAW (HQ3.out.kept hW (fun b hb hm => by have h1 := (HW0.out.bX b hb).1; have h2 := HZ.out; have h3 := List.mem_singleton.1 hm; omega)) (HP3.out.kept hW (by simp; omega)) hq hlst (fun x hx => by
                  have hm : x ∈ pm.map Prod.fst := HW0.out.keys.mem_iff.2 (HGU.out.mem_iff.1 (List.mem_flatMap.2 ⟨_, hq, hx⟩))
                  obtain ⟨⟨x', u⟩, he, rfl⟩ := List.mem_map.1 hm
                  obtain ⟨A, c, hv⟩ := HW0.out.all _ he
                  simp only at hv
                  rw [HN.out] at hv
                  exact ⟨A, c, by rw [← hv]; exact mget_of_mem HW0.out.who.nodup he⟩) (by omega)
                rw [show decide (q.length < lst.length ∨ (2 ≤ N ∧ 0 < q.length)) = decide (2 ≤ N) from decide_eq_decide.2 ⟨fun h => by
                  rcases h with h | h
                  · rcases Nat.lt_or_ge N 2 with h2 | h2
                    · exfalso
                      have hone : L.length = 1 := by omega
                      obtain ⟨e, he⟩ := List.length_eq_one_iff.1 hone
                      rw [he] at hq
                      have := List.mem_singleton.1 hq
                      have hg := HGU.out.length_eq
                      rw [he, ← this] at hg
                      simp [given] at hg
                      omega
                    · exact h2
                  · exact h.1, fun h => by
                  rcases Nat.lt_or_ge q.length lst.length with h2 | h2
                  · exact .inl h2
                  · exact .inr ⟨h, by omega⟩⟩] at h
                exact h
              by_cases hN2 : 2 ≤ N
              · rw [show decide (2 ≤ N) = true by simpa using hN2] at HCAN
                go_wp2_with (first
                  | (refine wl_next rfl _ rfl (zF + 1) Qb mq1 dn rfl HI3.out (fun e => absurd e (by omega)) ?_
                     intro i p w2 hp hi hI2 hK2 hs2
                     obtain ⟨kk, u⟩ := p
                     have HI4 := Lib.hid hI2
                     have HK4 := Lib.hid hK2
                     have HP4 := Lib.hid hp
                     have HA4 := Lib.hid (HA3.out.keptI HI3.out hK2 (by omega))
                     obtain ⟨q, hq, hcan⟩ := HCAN.out i kk u w2 hp hK2 HA4.out
                     have HCALL := Lib.hid hcan
                     clear hI2 hK2 hp hi hs2 hcan)
                  | (refine wl_entry rfl _ rfl (zF + 1) Qb mq1 dn i _ rfl HI4.out HP4.out ?_)
                  | ((with_reducible refine HCALL.out.mono ?_)
                     rintro e w3 ⟨rfl, hk⟩
                     have HK5 := Lib.hid hk
                     clear hk))
                go_roundg (mq1.length - (dn ++ [i]).length)
                case measure =>
                  rw [List.length_append]
                  simp only [List.length_cons, List.length_nil]
                  omega
                case rel =>
                  exact ⟨dn ++ [i], rfl, HI4.out.kept HK5.out (by simp) (by simp), .inl ⟨HA4.out.kept0 HK5.out, (HF3.out.kept HK4.out (by simp)).kept HK5.out (by simp), fun h => absurd h (by omega)⟩, (HKR4.out.trans HK4.out (fun x hx => .inr (by have h1 := List.mem_singleton.1 hx; have h2 := HZF.out; omega))).trans0 HK5.out⟩
              · have hdn0 : dn = [] := HFST.out (by omega)
                subst hdn0
                rw [show decide (2 ≤ N) = false by simpa using hN2] at HCAN
                go_wp2_with (first
                  | (refine wl_next rfl _ rfl (zF + 1) Qb mq1 [] rfl HI3.out (fun e => absurd e (by simp only [List.length_nil] at hdn ⊢; omega)) ?_
                     intro i p w2 hp hi hI2 hK2 hs2
                     obtain ⟨kk, u⟩ := p
                     have HI4 := Lib.hid hI2
                     have HK4 := Lib.hid hK2
                     have HP4 := Lib.hid hp
                     have HA4 := Lib.hid (HA3.out.keptI HI3.out hK2 (by omega))
                     have HF4 := Lib.hid (HF3.out.kept hK2 (by simp))
                     obtain ⟨q, hq, hcan⟩ := HCAN.out i kk u w2 hp hK2 HA4.out
                     have HQL := Lib.hid hq
                     have HCALL := Lib.hid hcan
                     clear hI2 hK2 hp hi hs2 hcan hq)
                  | (refine wl_entry rfl _ rfl (zF + 1) Qb mq1 [] i _ rfl HI4.out HP4.out ?_)
                  | ((with_reducible refine HCALL.out.mono ?_)
                     rintro e w3 ⟨rfl, hk⟩
                     have HK5 := Lib.hid hk
                     obtain ⟨mm, vv, hmm5, hkk5, hg5, hrow5⟩ := (HA4.out.kept0 hk).get HQL.out
                     have HM5 := Lib.hid hmm5
                     have HKK5 := Lib.hid hkk5
                     have HG5 := Lib.hid hg5
                     have HROW5 := Lib.hid hrow5
                     have HF5 := Lib.hid (HF4.out.kept hk (by simp))
                     clear hk hmm5 hkk5 hg5 hrow5)
                  | (refine wl_lookup rfl _ _ 262 rfl 269 Tryz.underlying262 str9 _ (Tryz.zeroValue269 _) Mb mm rfl HM5.out kk rfl ?_; rw [HG5.out])
                  | (refine wl_update rfl _ _ _ 262 rfl 269 Tryz.underlying262 str9 zF [] rfl HF5.out kk rfl vv rfl ?_
                     intro w6 hM6 hk6 hs6
                     have HF6 := Lib.hid hM6
                     have HK6 := Lib.hid hk6
                     have HM6 := Lib.hid (HM5.out.kept hk6 (by simp; omega))
                     have HROW6 := Lib.hid (hk6.own HROW5.out (fun g hg => by simpa using own_map_ne HROW5.out HF5.out g hg))
                     obtain ⟨w7, hr7, hM7, hk7, hs7⟩ := HM6.out.run_delete str9 Tryz.underlying262 kk 0
                     have HM7 : Hid (MapIs Value.string w7 Mb []) := by
                       have h : mm.filter (fun p => decide (p.1 ≠ kk)) = [] := by
                         rw [List.filter_eq_nil_iff]
                         intro p hp
                         have h1 : L.length = 1 := by omega
                         obtain ⟨e, he⟩ := List.length_eq_one_iff.1 h1
                         have h2 := HQL.out
                         rw [he] at h2
                         have h3 := List.mem_singleton.1 h2
                         have h4 : p.1 ∈ mm.map Prod.fst := List.mem_map.2 ⟨p, hp, rfl⟩
                         rw [HKK5.out, he, ← h3] at h4
                         simpa using h4
                       rw [h] at hM7
                       exact hM7
                     have HK7 := Lib.hid hk7
                     have HF7 := Lib.hid (HF6.out.kept hk7 (by simp; omega))
                     have HROW7 := Lib.hid (hk7.own HROW6.out (fun g hg => by simpa using own_map_ne HROW6.out HM6.out g hg))
                     have HSRT := Lib.hid (sortIds_any Mb [] (fun _ => 0) w7 HM7.out (fun k hk => by cases hk) (by simp))
                     clear hM6 hk6 hM7 hk7 hs7 hs6)
                  | ((with_reducible refine HSRT.out.mono ?_)
                     rintro e w8 ⟨v8, l8, rfl, _, _, _, hk8⟩
                     have HK8 := Lib.hid hk8
                     clear hk8))
                go_roundg (mq1.length - 1)
                case measure =>
                  simp only [List.length_nil] at hdn hk
                  omega
                case rel =>
                  refine ⟨[] ++ [i], rfl, (((HI4.out.kept HK5.out (by simp) (by simp)).kept HK6.out (by simp; omega) (by simp)).kept HK7.out (by simpa using (HW0.out.bX Qb hXQ).2.1) (by simp; omega)).kept HK8.out (by simp) (by simp), .inr ⟨by omega, rfl, HM7.out.kept HK8.out (by simp), kk, q, vv, ?_, HF7.out.kept HK8.out (by simp), own_kept0 HROW7.out HK8.out⟩, ?_⟩
                  · have h1 : L.length = 1 := by omega
                    obtain ⟨e, he⟩ := List.length_eq_one_iff.1 h1
                    have h2 := HQL.out
                    rw [he] at h2 ⊢
                    rw [List.mem_singleton.1 h2]
                  · exact ((((HKR4.out.trans HK4.out (fun x hx => .inr (by have h1 := List.mem_singleton.1 hx; have h2 := HZF.out; omega))).trans0 HK5.out).trans HK6.out (fun x hx => .inr (by have h1 := List.mem_singleton.1 hx; have h2 := HZF.out; omega))).trans HK7.out (fun x hx => .inl hx)).trans0 HK8.out
            · have hdne : dn.length = mq1.length := by omega
              have hLm : ∀ e ∈ L, e.2.length ≤ 1000000 := fun e he => by
                have h1 := given_le he
                rw [HGU.out.length_eq] at h1
                omega
              have HEND : Hid (∃ Lc, AsgIs wr z Mb Lc ∧ Even Lc ∧ Lc.length ≤ 100 ∧ (∀ e ∈ Lc, e.2.length ≤ 1000000) ∧ (0 < sp'.length → 1 ≤ Lc.length) ∧
                  ∀ W, Kept [] wr W → Calls Tryz.prog 221 #[.map (some Mb), .map (some zF)] W fun e w' => e = .returned (.tuple #[]) ∧ AsgIs w' z Mb L ∧ Kept [Mb] W w') := by
                rcases HOR.out with ⟨hA, hF, hdd⟩ | ⟨hN, _, hM, kk, q, vv, hL, hF, hrow⟩
                · refine ⟨L, hA, HEV.out, by omega, hLm, fun _ => by omega, fun W hW => ?_⟩
                  obtain ⟨m', h1, h2, h3, h4⟩ := hA.kept0 hW
                  refine (copy_any Mb zF _ [] W h1 (hF.kept hW (by simp)) (by omega)).mono ?_
                  rintro e w' ⟨rfl, f', hf', hm', hk'⟩
                  have : f' = [] := List.perm_nil.1 hf'
                  subst this
                  exact ⟨rfl, ⟨m', hm', h2, fun e he => hk'.own (h3 e he) (fun g hg => by simpa using own_map_ne (h3 e he) h1 g hg), h4⟩, hk'⟩
                · refine ⟨[], ⟨[], hM, rfl, by simp, .nil⟩, fun e he => (by cases he), by simp, fun e he => (by cases he), fun h => ?_, fun W hW => ?_⟩
                  · rw [HSP.out hN] at h
                    simp at h
                  · refine (copy_any Mb zF [] _ W (hM.kept hW (by simp)) (hF.kept hW (by simp)) (by omega)).mono ?_
                    rintro e w' ⟨rfl, f', hf', hm', hk'⟩
                    have : f' = [(kk, vv)] := List.perm_singleton.1 hf'
                    subst this
                    have hrW := own_kept0 hrow hW
                    refine ⟨rfl, ⟨[(kk, vv, q)], hm', hL.symm, fun e he => ?_, List.pairwise_singleton _ _⟩, hk'⟩
                    rw [List.mem_singleton.1 he]
                    exact hk'.own hrW (fun g hg => by simpa using own_map_ne hrW (hM.kept hW (by simp)) g hg)
              obtain ⟨Lc, hAc, hevc, hlc, hlm, hspc, hcopy⟩ := HEND.out
              have HCOPY := Lib.hid hcopy
              have HDC : Hid (∀ W, Kept [] wr W → Calls Tryz.prog 216 #[.map (some Mb)] W fun e w' => ∃ b, e = .returned (.map (some b)) ∧ Kept [] W w') := fun W hW => deepCopy_any z Mb Lc W (hAc.kept0 hW) hlm
              have HCL : Hid (∀ W, Kept [] wr W → Calls Tryz.prog 217 #[.map (some Cb)] W fun e w' => ∃ b, e = .returned (.map (some b)) ∧ Kept [] W w') := fun W hW => clone_any Cb cc W (((HCC.out.kept HKR3.out (by simpa using Ne.symm hgCb)).kept HKR4.out (by simpa using Ne.symm HW0.out.ne.2.2)).kept hW (by simp))
              have HPF : Hid (∀ v4 W, Kept [] wr W → Calls Tryz.prog 218 #[s, .slice (some ⟨g3, 0, none⟩) sp'.length c3', .map (some Mb), v2, v4, .map (some Qb), .map (some Pb), .map (some Cb)] W fun e w' => e = .returned (.bool false) ∧ Kept [] W w') := fun v4 W hW =>
                perform_any s v2 v4 _ _ z Mb Qb sp'.length c3' _ sp' Lc W (own_slis (own_kept0 (HKR4.out.own HR3.out (fun g hg => by cases hg; simpa using hgMb)) hW)) (hAc.kept0 hW) hlm hlc hspc hevc
              clear hLm hAc hevc hlm hspc hcopy hlc HEND
              go_wp2_with (first
                | (refine wl_next rfl _ rfl (zF + 1) Qb mq1 dn rfl HI3.out (fun _ => ?_) (fun i p w2 hp hi hI2 hK2 hs2 => absurd hI2.left (by rw [List.length_append]; simp only [List.length_cons, List.length_nil]; omega)))
                | ((with_reducible refine (HDC.out _ (Kept.refl _ _)).mono ?_); rintro e w5 ⟨b5', rfl, hk⟩; have HK5 := Lib.hid hk; clear hk)
                | ((with_reducible refine (HCL.out _ HK5.out).mono ?_); rintro e w6 ⟨b6, rfl, hk⟩; have HK6 := Lib.hid (HK5.out.trans0 hk); clear hk)
                | ((with_reducible refine (HPF.out _ _ HK6.out).mono ?_); rintro e w7 ⟨rfl, hk⟩; have HK7 := Lib.hid (HK6.out.trans0 hk); clear hk)
                | ((with_reducible refine (HCOPY.out _ HK7.out).mono ?_); rintro e w8 ⟨rfl, hA8, hk⟩; have HA8 := Lib.hid hA8; have HK8 := Lib.hid hk; clear hk hA8))
              refine bodyPost_end (results_none rfl _ _ _) rfl ⟨rfl, L, HZ.out.symm ▸ HA8.out, by rw [HKEYS.out], HGU.out, HEV.out, ?_⟩
              exact ((HKB.out.trans HKR4.out (fun x hx => .inl (by simp at hx; simp [hx]))).trans0 HK7.out).trans HK8.out (fun x hx => .inl (by simp at hx; simp [hx]))
end Go.Proofs.YtghgffhcdnmpnaaGreat
