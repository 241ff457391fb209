/-
  ordered: members in the order of their ids. Conditions: at most a thousand members.
-/
import Derived.Test.YtghgffhcdnmpnaaGreatZF1
namespace Go.Proofs.YtghgffhcdnmpnaaGreat
open Go.RowKit Go.Sort
theorem info46 : (Tryz.prog.info? 46).map (fun i => (i.zero, i.size, i.bytes)) = some (some (.agg #[.string ⟨#[]⟩, .int .i16 0, .slice none 0 0, .slice none 0 0, .slice none 0 0, .int .i32 0, .string ⟨#[]⟩, .bool false]), 8, 128) := by kernel_rfl
theorem run_slice_head {P : Program} {w : World} {t e : TypeId} {sz : Nat} (ht : P.underlying t = some (.slice e)) (hi : (P.info? e).map (·.size) = some sz) (a : Addr) (n c j : Nat) (hj : j ≤ c) :
    (Instr.sliceAt t (.slice (some a) n c) none (some (.int .i64 j)) none).run P w = .ok (.slice (some a) j c) w := by
  have hel : P.elem t = e := by simp [Program.elem, ht]
  have ht' : P.underlying t = some (.slice (P.elem t)) := by rw [hel, ht]
  cases hq : P.info? e with
  | none => simp [hq] at hi
  | some i =>
    have his : i.size = sz := by simpa [hq] using hi
    rw [run_sliceAt_slice (P := P) (w := w) t _ _ _ _ ht', run_slice_h (P := P) (w := w) t _ _ _ ht' _ _ (by omega) (by omega), hel]
    simp [sizeOf, typeInfo, hq, his, Result.andThen, sliced, Addr.add]
/-- The head of a row of one's own. -/
theorem own_head {w : World} {base : Nat} {e : TypeId} {s n c g : Nat} {xs : List Value} (h : w.ownsRow base e s (.slice (some ⟨g, 0, none⟩) n c) n xs) (j : Nat) (hj : j ≤ n) : w.ownsRow base e s (.slice (some ⟨g, 0, none⟩) j c) j (xs.take (j * s)) := by
  have hjs : j * s ≤ n * s := Nat.mul_le_mul_right s hj
  refine ⟨by rw [List.length_take, h.1]; omega, .inr ?_⟩
  rcases h.2 with ⟨h1, h2⟩ | ⟨g', cap, cur, h1, h2, h3, h4, h5, h6, h7⟩
  · cases h1
  · injection h1 with h1 h1' h1''
    injection h1 with h1
    injection h1 with h1
    subst h1 h1''
    refine ⟨g, c, cur, rfl, h2, h3, by omega, h5, h6, ?_⟩
    rw [← h7, List.take_take, Nat.min_eq_left hjs]
/-- An append onto a full row of one's own, of nothing too. -/
theorem run_append_row_grows0 {P : Program} {w : World} {base : Nat} {ty : TypeId} (t e : TypeId) {z : Value} {size bytes : Nat} (ht : P.underlying t = some (.slice e)) (hinfo : (P.info? e).map (fun i => (i.zero, i.size, i.bytes)) = some (some z, size, bytes)) (hzs : z.cells.size = size) (hsz : 0 < size)
    {b : Addr} {n cap : Nat} {olds : List Value} (hA : w.ownsRow base e size (.slice (some b) n cap) n olds) (hcap : cap ≤ n) (hbase : base ≤ w.heap.size) {A2 : Option Addr} {m c : Nat} {news : List Value} (hB : SlIs w size A2 m news) (hs : n + m ≤ 1000000) (hby : bytes ≤ 1000) :
    ∃ v' w', (Builtin.append_ #[t, t] ty #[.slice (some b) n cap, .slice A2 m c]).run P w = .ok v' w' ∧ w'.ownsRow base e size v' (n + m) (olds ++ news) ∧ Kept [] w w' := by
  rcases Nat.eq_zero_or_pos m with h0 | h0
  · subst h0
    obtain ⟨i, hi, hz0, hz1, hz2⟩ := info_parts hinfo
    have hnc : n ≤ cap := own_cap hA
    have hy : news = [] := List.eq_nil_of_length_eq_zero (by simpa using hB.1)
    subst hy
    refine ⟨_, w, ?_, by simpa using hA, Kept.refl _ _⟩
    rcases A2 with _ | ad
    · simp [Builtin.append_, run_underlying ht, sizeOf, typeInfo, hi, Builtin.lenOf, Builtin.firstCells, loadCells, hnc, storeCells]
    · have hf := run_firstCells_some (P := P) w i.size 0 ad 0 c [] (by simp) (by simp)
      simp [Builtin.append_, run_underlying ht, sizeOf, typeInfo, hi, Builtin.lenOf, hf, hnc, storeCells]
  · obtain ⟨v', w', h1, h2, h3⟩ := run_append_row_grows (P := P) (ty := ty) t e ht hinfo hzs hsz (own_slis hA) hcap hB h0 hs hby
    exact ⟨v', w', h1, own_mono h2 hbase, Kept.of_grown h3⟩
theorem mv_len (m : MV) : (mvCells m).length = 8 := rfl
theorem flat8_cut (L : List MV) (j : Nat) : (L.flatMap mvCells).take (j * 8) = (L.take j).flatMap mvCells ∧ (L.flatMap mvCells).drop (j * 8) = (L.drop j).flatMap mvCells := by
  have h : L.flatMap mvCells = (L.take j).flatMap mvCells ++ (L.drop j).flatMap mvCells := by
    rw [← List.flatMap_append, List.take_append_drop]
  rcases Nat.lt_or_ge L.length j |>.symm with hj | hj
  · have hl : ((L.take j).flatMap mvCells).length = j * 8 := by rw [flat_len mvCells 8 mv_len, List.length_take, Nat.min_eq_left hj]
    rw [h, ← hl]
    exact ⟨List.take_left, List.drop_left⟩
  · have hl : (L.flatMap mvCells).length ≤ j * 8 := by rw [flat_len mvCells 8 mv_len]; omega
    rw [List.take_of_length_le hl, List.drop_eq_nil_of_le hl, List.take_of_length_le (by omega), List.drop_eq_nil_of_le (by omega)]
    exact ⟨rfl, rfl⟩
/-- One more put into a row in order. -/
theorem ins_sorted {os : List MV} {x : MV} {j : Nat} (hs : os.Pairwise (fun a b => sle a.id b.id = true)) (h1 : ∀ q ∈ os.drop j, slt x.id q.id = true) (h2 : j = 0 ∨ ∃ q, os[j - 1]? = some q ∧ slt x.id q.id = false) (hj : j ≤ os.length) :
    (os.take j ++ x :: os.drop j).Pairwise (fun a b => sle a.id b.id = true) := by
  have hd := hs
  rw [← List.take_append_drop j os, List.pairwise_append] at hd
  rw [List.pairwise_append]
  have hx : ∀ a ∈ os.take j, sle a.id x.id = true := by
    rcases h2 with rfl | ⟨q, hq, hlt⟩
    · simp
    · intro a ha
      rcases Nat.eq_zero_or_pos j with rfl | hj0
      · simp at ha
      have hqx : sle q.id x.id = true := by
        simp only [slt, decide_eq_false_iff_not, sle, decide_eq_true_eq] at *
        exact List.not_lt.1 hlt
      obtain ⟨i, hi⟩ := List.getElem?_of_mem ha
      have hij : i < j := by have := (List.getElem?_eq_some_iff.1 hi).1; rw [List.length_take] at this; omega
      rw [List.getElem?_take, if_pos hij] at hi
      rcases Nat.lt_or_ge i (j - 1) with h | h
      · obtain ⟨hi1, hi2⟩ := List.getElem?_eq_some_iff.1 hi
        obtain ⟨hq1, hq2⟩ := List.getElem?_eq_some_iff.1 hq
        have := List.pairwise_iff_getElem.1 hs i (j - 1) hi1 hq1 h
        rw [hi2, hq2] at this
        simp only [sle, decide_eq_true_eq] at *
        exact List.le_trans this hqx
      · obtain rfl : i = j - 1 := by omega
        rw [hi] at hq
        rw [Option.some.inj hq]
        exact hqx
  refine ⟨hd.1, List.pairwise_cons.2 ⟨fun q hq => sle_of_slt (h1 q hq), hd.2.1⟩, fun a ha b hb => ?_⟩
  rcases List.mem_cons.1 hb with rfl | hb
  · exact hx a ha
  · exact hd.2.2 a ha b hb
theorem own_cells8 {w : World} {base g n c : Nat} {os : List MV} (h : w.ownsRow base 46 8 (.slice (some ⟨g, 0, none⟩) n c) n (os.flatMap mvCells)) {j : Nat} {x : MV} (hj : os[j]? = some x) : ∀ i v, (mvCells x)[i]? = some v → w.cell? ⟨g, j * 8 + i, none⟩ = some v := by
  intro i v hv
  have hi : i < 8 := by have := (List.getElem?_eq_some_iff.1 hv).1; rwa [mv_len] at this
  have hf := flat_get mvCells 8 mv_len (by decide) os j i hi
  rw [hj] at hf
  have hf' : (os.flatMap mvCells)[j * 8 + i]? = some v := hf.trans hv
  have := h.cells (g := g) rfl (j * 8 + i) v hf'
  have hadd : (⟨g, 0, none⟩ : Addr).add (j * 8 + i) = ⟨g, j * 8 + i, none⟩ := by unfold Addr.add; split <;> simp_all
  rwa [hadd] at this
/-- What ordered gives. -/
def OrdR (ms : List MV) (w : World) (e : Ending) (w' : World) : Prop :=
  ∃ (v : Value) (os : List MV), e = .returned v ∧ w'.ownsRow w.heap.size 46 8 v os.length (os.flatMap mvCells) ∧ os.Perm ms ∧ os.Pairwise (fun a b => sle a.id b.id = true) ∧ Kept [] w w'
theorem mems_one {w : World} {X : Nat → Prop} {mv : Value} {ms : List MV} (h : MemsAt w X mv ms) : ∀ m ∈ ms, ∀ u ∈ mvCells m, u.oneCell' = true := by
  intro m hm u hu
  obtain ⟨⟨A1, n1, c1, h1, _⟩, ⟨A2, c2, h2⟩, ⟨A3, c3, h3⟩⟩ := h.2 m hm
  simp only [mvCells, h1, h2, h3, List.mem_cons, List.not_mem_nil, or_false] at hu
  rcases hu with rfl | rfl | rfl | rfl | rfl | rfl | rfl | rfl <;> rfl
def or8F (g k c j B n cm bm om : Nat) (A : Option Addr) (x : MV) (xs : List Value) (ix : Nat) (v : Value) (W : World) : Prop :=
  match ix with
  | 0 => v = .slice (some ⟨g, 0, none⟩) k c
  | 1 => v = .int .i64 j
  | 2 => v = .slice (some ⟨g, 0, none⟩) j c
  | 3 => v = .slice A n cm
  | 4 => v = .int .i64 k
  | 5 => v = .pointer (some ⟨bm, om + k * 8, none⟩)
  | 6 => v = .agg (mvCells x).toArray
  | 7 => ∃ r, v = .slice (some ⟨r, 0, none⟩) 1 1 ∧ W.ownsRow B 46 8 (.slice (some ⟨r, 0, none⟩) 1 1) 1 (mvCells x)
  | 8 => v = .slice (some ⟨g, 0, none⟩) k c
  | 9 => v = .int .i64 j
  | 10 => SlAt W (fun y => y = g) 8 v (xs.drop (j * 8))
  | 11 => W.ownsRow B 46 8 v (1 + (k - j)) (mvCells x ++ xs.drop (j * 8))
  | _ => True
theorem or8F_stable {g k c j B n cm bm om A x xs} : ∀ ix v w w', or8F g k c j B n cm bm om A x xs ix v w → Kept [] w w' → or8F g k c j B n cm bm om A x xs ix v w' := by
  intro ix v w w' h k2
  unfold or8F at h ⊢
  split at h <;> (first | (exact h) | (obtain ⟨r, h1, h2⟩ := h; exact ⟨r, h1, own_kept0 h2 k2⟩) | (exact SlAt.kept0 h k2) | (exact own_kept0 h k2))
set_option maxRecDepth 100000 in
set_option maxHeartbeats 3200000 in
theorem ordered_any (X : Nat → Prop) (mv : Value) (ms : List MV) (w : World) (hm : MemsAt w X mv ms) (hfew : ms.length ≤ 1000) :
    Calls Tryz.prog 47 #[mv] w (OrdR ms w) := by
  have HONE := Lib.hid (mems_one hm)
  obtain ⟨A, n, cm, rfl, hms, _, _⟩ := hm.1
  obtain ⟨nn, hnn⟩ : ∃ nn, ms.length = nn := ⟨_, rfl⟩
  obtain rfl : n = nn := by have := hms.1; rw [flat_len mvCells 8 (fun _ => rfl)] at this; omega
  have HMS := Lib.hid hms
  have h63 := hms.2.1
  have HNN := Lib.hid hnn
  obtain ⟨B, hB⟩ : ∃ B, w.heap.size = B := ⟨_, rfl⟩
  have HBB := Lib.hid hB
  rw [hnn] at hfew
  clear hm hms hnn hB
  go_enter Tryz.func47, Tryz.ntmps47
  go_wp2
  go_loopw [3, 4] (fun o i wr => ∃ (k : Nat) (os : List MV), k ≤ n ∧ i = .int .i64 k ∧ wr.ownsRow B 46 8 o k (List.flatMap mvCells os) ∧ os.length = k ∧ os.Perm (ms.take k) ∧ os.Pairwise (fun a b => sle a.id b.id = true) ∧ (∃ c g, o = .slice (some ⟨g, 0, none⟩) k c) ∧ Kept [] w wr) (fun _ i _ => n - (intOf i).toNat)
  case atStart => exact ⟨0, [], Nat.zero_le _, rfl, own_new w 46 8 0 #[] B (by rw [HBB.out]; exact Nat.le_refl _) (by omega) rfl rfl, rfl, .nil, .nil, ⟨_, _, rfl⟩, (Kept.refl _ _).alloc _⟩
  case round =>
    obtain ⟨k, os, hk, rfl, hrow, hol, hperm, hsort, ⟨c, g, rfl⟩, hkr⟩ := hrel
    have HROW := Lib.hid hrow
    have HOL := Lib.hid hol
    have HPERM := Lib.hid hperm
    have HSORT := Lib.hid hsort
    have HKR := Lib.hid hkr
    clear hrow hol hperm hsort hkr
    by_cases hlt : k < n
    · obtain ⟨b0, om, rfl, hcc⟩ := HMS.out.2.2 (by omega)
      obtain ⟨bm, hbm⟩ : ∃ bm, b0 = bm := ⟨_, rfl⟩
      subst hbm
      obtain ⟨x, hx⟩ : ∃ x, ms[k]? = some x := ⟨_, List.getElem?_eq_getElem (by have := HNN.out; omega)⟩
      have HX := Lib.hid hx
      have HCX0 : Hid (∀ i v, (mvCells x)[i]? = some v → w.cell? ⟨b0, om + k * 8 + i, none⟩ = some v) := mv_cell hcc hx
      have HCM := Lib.hid hcc
      clear hcc hx
      go_wp2
      obtain ⟨w0, hw0⟩ : ∃ w0 : World, w0 = wr := ⟨_, rfl⟩
      rw [← hw0] at HKR HROW ⊢
      clear hw0
      go_loopw [5] (fun q w1 => ∃ j : Nat, j ≤ k ∧ q = .int .i64 j ∧ (∀ y ∈ os.drop j, slt x.id y.id = true) ∧ Kept [] w0 w1) (fun q _ => (intOf q).toNat)
      case atStart => exact ⟨k, Nat.le_refl _, rfl, by rw [List.drop_eq_nil_of_le (by have := HOL.out; omega)]; simp, Kept.refl _ _⟩
      case round =>
        obtain ⟨j, hj, rfl, hall, hk1⟩ := hrel
        have HALL := Lib.hid hall
        have HK1 := Lib.hid hk1
        clear hall hk1
        have hxid : wr.cell? ⟨b0, om + k * 8, none⟩ = some (.string x.id) := (HKR.out.trans0 HK1.out).cell (HCX0.out 0 _ rfl) (by simp)
        have hcase : j = 0 ∨ (0 < j ∧ ∃ q, os[j - 1]? = some q ∧ slt x.id q.id = true) ∨ (0 < j ∧ ∃ q, os[j - 1]? = some q ∧ q.id = x.id) ∨ (0 < j ∧ ∃ q, os[j - 1]? = some q ∧ slt q.id x.id = true) := by
          rcases Nat.eq_zero_or_pos j with hj0 | hj0
          · exact .inl hj0
          · obtain ⟨q, hq⟩ : ∃ q, os[j - 1]? = some q := ⟨_, List.getElem?_eq_getElem (by have := HOL.out; omega)⟩
            cases hsl : slt x.id q.id with
            | true => exact .inr (.inl ⟨hj0, _, hq, hsl⟩)
            | false =>
              by_cases he : q.id = x.id
              · exact .inr (.inr (.inl ⟨hj0, _, hq, he⟩))
              · exact .inr (.inr (.inr ⟨hj0, _, hq, slt_total hsl (fun e => he e.symm)⟩))
        rcases hcase with hj0 | ⟨hj0, q, hq, hsl⟩ | ⟨hj0, q, hq, he⟩ | ⟨hj0, q, hq, hsl⟩
        case inr.inl =>
          have hqid : wr.cell? ⟨g, (j - 1) * 8, none⟩ = some (.string q.id) := HK1.out.cell (own_cells8 HROW.out hq 0 _ rfl) (by simp)
          have hjw : IntKind.i64.wrap ((j : Int) - 1) = ((j - 1 : Nat) : Int) := by rw [IntWalk.i64_in _ (by omega)]; omega
          have hbe : (q.id.toList == x.id.toList) = false := beq_ne (fun e => by rw [e, slt_irrefl] at hsl; cases hsl)
          have hbl : Op.bytesLess q.id.toList x.id.toList = false := (bytesLess_slt _ _).trans (slt_asymm hsl)
          have HQ := Lib.hid hq
          have HSL := Lib.hid hsl
          clear hq hsl
          go_wp2
          go_big_quiet (fail)
          go_wp2
          go_roundw
          case rel =>
            refine ⟨j - 1, by omega, rfl, ?_, HK1.out.drewN _⟩
            intro y hy
            obtain ⟨hj1, e⟩ := List.getElem?_eq_some_iff.1 HQ.out
            rw [List.drop_eq_getElem_cons hj1, e, show j - 1 + 1 = j by omega] at hy
            rcases List.mem_cons.1 hy with rfl | hy
            · exact HSL.out
            · exact HALL.out y hy
          case measure => (simp [intOf]) <;> omega
        case' inl =>
          have HEX : Hid (j = 0 ∨ ∃ q, os[j - 1]? = some q ∧ slt x.id q.id = false) := .inl hj0
          have hjf : ¬ 0 < j := by omega
          clear hj0
          go_wp2
          go_big_quiet (fail)
          go_wp2
          clear hjf
        case' inr.inr.inl =>
          have HEX : Hid (j = 0 ∨ ∃ q, os[j - 1]? = some q ∧ slt x.id q.id = false) := .inr ⟨q, hq, by rw [he]; exact slt_irrefl _⟩
          have hqid : wr.cell? ⟨g, (j - 1) * 8, none⟩ = some (.string q.id) := HK1.out.cell (own_cells8 HROW.out hq 0 _ rfl) (by simp)
          have hjw : IntKind.i64.wrap ((j : Int) - 1) = ((j - 1 : Nat) : Int) := by rw [IntWalk.i64_in _ (by omega)]; omega
          have hbe : (q.id.toList == x.id.toList) = true := by rw [he]; exact beq_self
          clear hq he
          go_wp2
          go_big_quiet (fail)
          go_wp2
          clear hjw hbe hqid hj0
        case' inr.inr.inr =>
          have HEX : Hid (j = 0 ∨ ∃ q, os[j - 1]? = some q ∧ slt x.id q.id = false) := .inr ⟨q, hq, slt_asymm hsl⟩
          have hqid : wr.cell? ⟨g, (j - 1) * 8, none⟩ = some (.string q.id) := HK1.out.cell (own_cells8 HROW.out hq 0 _ rfl) (by simp)
          have hjw : IntKind.i64.wrap ((j : Int) - 1) = ((j - 1 : Nat) : Int) := by rw [IntWalk.i64_in _ (by omega)]; omega
          have hbe : (q.id.toList == x.id.toList) = false := beq_ne (fun e => by rw [e, slt_irrefl] at hsl; cases hsl)
          have hbl : Op.bytesLess q.id.toList x.id.toList = true := (bytesLess_slt _ _).trans hsl
          clear hq hsl
          go_wp2
          go_big_quiet (fail)
          go_wp2
          clear hjw hbl hbe hqid hj0
        all_goals
          clear hxid
          obtain ⟨xs, hxs⟩ : ∃ xs, os.flatMap mvCells = xs := ⟨_, rfl⟩
          rw [hxs] at HROW
          have HXS := Lib.hid hxs
          have HJK : Hid (j ≤ k) := by exact hj
          have HKN : Hid (k ≤ 1000) := by have h : k ≤ 1000 := by omega
                                          exact h
          have HJC : Hid (j ≤ c) := Nat.le_trans hj (own_cap HROW.out)
          have HB : Hid (B ≤ wr.heap.size) := by
            have h1 := HKR.out.size
            have h2 := HK1.out.size
            have h3 := HBB.out
            have h4 : B ≤ wr.heap.size := by omega
            exact h4
          have HCX : Hid (∀ i v, (mvCells x)[i]? = some v → wr.cell? ⟨b0, om + k * 8 + i, none⟩ = some v) := fun i v hv => (HKR.out.trans0 HK1.out).cell (HCX0.out i v hv) (by simp)
          have HSL : Hid (∀ W, Kept [] wr W → SlAt W (fun y => y = g) 8 (.slice (some ⟨g, 0, none⟩) k c) xs) := fun W hW => ⟨_, k, c, rfl, own_slis (own_kept0 HROW.out (HK1.out.trans0 hW)), fun a ha _ => by cases ha; rfl, own_cap HROW.out⟩
          have HDL : Hid ((xs.drop (j * 8)).length = (k - j) * 8) := by
            have h1 := HROW.out.1
            have h2 : (xs.drop (j * 8)).length = xs.length - j * 8 := List.length_drop
            have h3 : (xs.drop (j * 8)).length = (k - j) * 8 := by omega
            exact h3
          clear hxs
          refine wp_region_facts' 12 (Kept []) (or8F g k c j B n cm b0 om (some ⟨b0, om, none⟩) x xs) mixed (by kernel_rfl) ((Kept.refl _ _).drew) (fun _ _ _ h k => h.trans0 k) or8F_stable ?_ ?_
          · refine ⟨?_, ?_, ?_, ?_, ?_, ?_, ?_, ?_, ?_, ?_, ?_, ?_, trivial⟩
            all_goals go_light
            all_goals intro a W hR hs hd
            all_goals have p3 : a.tmps[3]? = some (.slice (some ⟨g, 0, none⟩) k c) := hs.2.2 3 (by decide)
            all_goals have p5 : a.tmps[5]? = some (.int .i64 j) := hs.2.2 5 (by decide)
            all_goals have p0 : a.tmps[0]? = some (.slice (some ⟨b0, om, none⟩) n cm) := hs.2.2 0 (by decide)
            all_goals have p4 : a.tmps[4]? = some (.int .i64 k) := hs.2.2 4 (by decide)
            all_goals have hRr : Kept [] W W := Kept.refl [] W
            all_goals replace hR := ((Kept.refl [] wr).drewN _).trans0 hR
            · refine ow_value (w' := W) (v := .slice (some ⟨g, 0, none⟩) k c) ?_ (.mk hRr rfl rfl)
              simp [go_sem, p3]
            · refine ow_value (w' := W) (v := .int .i64 j) ?_ (.mk hRr rfl rfl)
              simp [go_sem, p5]
            · have q0 : _ = _ := hd.1 rfl
              have q1 : _ = _ := hd.2.1 rfl
              refine ow_value (w' := W) (v := .slice (some ⟨g, 0, none⟩) j c) ?_ (.mk hRr rfl rfl)
              have hrun := run_slice_head (P := Tryz.prog) (w := W) (t := 29) (e := 46) (sz := 8) Tryz.underlying29 rfl ⟨g, 0, none⟩ k c j HJC.out
              simp [go_sem, q0, q1, hrun]
            · refine ow_value (w' := W) (v := .slice (some ⟨b0, om, none⟩) n cm) ?_ (.mk hRr rfl rfl)
              simp [go_sem, p0]
            · refine ow_value (w' := W) (v := .int .i64 k) ?_ (.mk hRr rfl rfl)
              simp [go_sem, p4]
            · have q3 : _ = _ := hd.1 rfl
              have q4 : _ = _ := hd.2.1 rfl
              refine ow_value (w' := W) (v := .pointer (some ⟨b0, om + k * 8, none⟩)) ?_ (.mk hRr rfl rfl)
              simp [go_sem, q3, q4, show ¬ n ≤ k by omega]
            · have q5 : _ = _ := hd.1 rfl
              refine ow_load_struct 46 _ rfl Tryz.underlying46 rfl rfl b0 (om + k * 8) (by simp [go_sem, q5]) (mvCells x) rfl (fun i v hv => hR.cell (HCX.out i v hv) (by simp)) ?_
              exact .mk hRr rfl rfl
            · have q6 : _ = _ := hd.1 rfl
              refine ow_value (w' := W.alloc (.cells (mvCells x).toArray 46)) (v := .slice (some ⟨W.heap.size, 0, none⟩) 1 1) ?_ (.mk (hRr.alloc _) ?_ rfl)
              · simp [go_sem, q6, mvCells]
              · exact ⟨_, rfl, own_new W 46 8 1 (mvCells x).toArray B (Nat.le_trans HB.out hR.size) (by omega) rfl rfl⟩
            · refine ow_value (w' := W) (v := .slice (some ⟨g, 0, none⟩) k c) ?_ (.mk hRr rfl rfl)
              simp [go_sem, p3]
            · refine ow_value (w' := W) (v := .int .i64 j) ?_ (.mk hRr rfl rfl)
              simp [go_sem, p5]
            · have q8 : _ = _ := hd.1 rfl
              have q9 : _ = _ := hd.2.1 rfl
              obtain ⟨v', hrun, hat⟩ := run_slice_from (P := Tryz.prog) (t := 29) (e := 46) (sz := 8) Tryz.underlying29 rfl (HSL.out W hR) j HJK.out
              refine ow_value (w' := W) (v := v') ?_ (.mk hRr hat rfl)
              simp [go_sem, q8, q9, hrun]
            · have q7 := hd.1 rfl
              have q10 := hd.2.1 rfl
              obtain ⟨r, q7, h7⟩ := q7
              change _ = _ at q7
              obtain ⟨A', n', c', q10, h10, _, _⟩ := q10
              obtain rfl : n' = k - j := by have h1 := h10.1; have h2 := HDL.out; omega
              change _ = _ at q10
              obtain ⟨v', w', hrun, h1, h2⟩ := run_append_row_grows0 (P := Tryz.prog) (ty := 29) (size := 8) (bytes := 128) 29 46 Tryz.underlying29 info46 rfl (by decide) h7 (Nat.le_refl _) (Nat.le_trans HB.out hR.size) h10 (by have := HJK.out; have := HKN.out; omega) (by decide)
              exact ow_append_at _ _ 29 rfl (v := .slice (some ⟨r, 0, none⟩) 1 1) (u := .slice A' (k - j) c') (by simp [go_sem, q7]) (by simp [go_sem, q10]) hrun (.mk h2 h1 rfl)
          · intro f W hR hf
            obtain ⟨f0, f1, f2, f3, f4, f5, f6, f7, f8, f9, f10, f11, -⟩ := hf
            change f 33 = _ at f0
            change f 34 = _ at f1
            change f 35 = _ at f2
            change f 36 = _ at f3
            change f 37 = _ at f4
            change f 38 = _ at f5
            change f 39 = _ at f6
            change ∃ r, (f 40) = .slice (some ⟨r, 0, none⟩) 1 1 ∧ W.ownsRow B 46 8 (.slice (some ⟨r, 0, none⟩) 1 1) 1 (mvCells x) at f7
            obtain ⟨x7, g7⟩ : ∃ x, f 40 = x := ⟨_, rfl⟩
            rw [g7] at f7
            change f 41 = _ at f8
            change f 42 = _ at f9
            change SlAt W (fun y => y = g) 8 (f 43) (xs.drop (j * 8)) at f10
            obtain ⟨x10, g10⟩ : ∃ x, f 43 = x := ⟨_, rfl⟩
            rw [g10] at f10
            change W.ownsRow B 46 8 (f 44) (1 + (k - j)) (mvCells x ++ xs.drop (j * 8)) at f11
            obtain ⟨x11, g11⟩ : ∃ x, f 44 = x := ⟨_, rfl⟩
            rw [g11] at f11
            simp only [headDsts, List.take_succ_cons, List.take_zero, List.filterMap_cons, List.filterMap_nil, setAll, f0, f1, f2, f3, f4, f5, f6, g7, f8, f9, g10, g11, List.setIfInBounds_toArray, List.set_cons_succ, List.set_cons_zero, List.drop_succ_cons, List.drop_zero]
            clear f0 f1 f2 f3 f4 f5 f6 g7 f8 f9 g10 g11 f
            obtain ⟨A9, c9, rfl⟩ := own_form f11
            have H11 := Lib.hid f11
            have HRW := Lib.hid hR
            clear f7 f10 f11 hR
            have HHEAD := Lib.hid (own_head (own_kept0 HROW.out (HK1.out.trans0 (((Kept.refl [] wr).drewN _).trans0 HRW.out))) j HJK.out)
            go_wp2_with (at_builtin; refine wl_append rfl _ _ 29 rfl B 46 Tryz.underlying29 info46 rfl (by decide) _ j (xs.take (j * 8)) rfl HHEAD.out A9 (1 + (k - j)) c9 (mvCells x ++ xs.drop (j * 8)) rfl (own_slis H11.out) ?_ (by omega) (by omega) (Nat.le_trans HB.out HRW.out.size) ?_; rotate_left; intro v7 w7 hown hk7 hat; obtain ⟨A7, c7, rfl⟩ := own_form hown; have HO7 := Lib.hid hown; have HK7 := Lib.hid hk7; clear hown hk7 hat)
            · have hjk := HJK.out
              obtain ⟨k1, hk1⟩ : ∃ k1, j + (1 + (k - j)) = k1 := ⟨_, rfl⟩
              obtain rfl : k1 = k + 1 := by omega
              rw [hk1] at HO7 ⊢
              obtain ⟨g7, rfl⟩ := own_row HO7.out (by omega)
              have hx := HX.out
              have hcut := flat8_cut os j
              rw [HXS.out] at hcut
              have hflat : (os.take j ++ x :: os.drop j).flatMap mvCells = xs.take (j * 8) ++ (mvCells x ++ xs.drop (j * 8)) := by
                rw [hcut.1, hcut.2, List.flatMap_append, List.flatMap_cons]
              refine ⟨⟨k + 1, os.take j ++ x :: os.drop j, by omega, by go_num, ?_, ?_, ?_, ?_, ⟨_, _, rfl⟩, ?_⟩, by simp [intOf]; omega⟩
              · rw [hflat]
                exact HO7.out
              · have := HOL.out
                simp only [List.length_append, List.length_take, List.length_cons, List.length_drop]
                omega
              · rw [take_one hx]
                refine List.perm_middle.trans ?_
                rw [List.take_append_drop]
                exact ((HPERM.out.cons x).trans (List.perm_append_singleton x _).symm)
              · exact ins_sorted HSORT.out HALL.out HEX.out (by have := HOL.out; omega)
              · have h1 := HKR.out.trans0 (HK1.out.trans0 (((Kept.refl [] wr).drewN _).trans0 HRW.out))
                refine h1.trans HK7.out (fun y hy => .inr ?_)
                have hy2 : y ∈ (Value.slice (some ⟨g, 0, none⟩) j c).ownBlock.toList := hy
                have hy3 := own_ge HHEAD.out y (Option.mem_toList.1 hy2)
                rw [HBB.out]
                exact hy3
            · intro u hu
              have hmem : ∀ y ∈ os, y ∈ ms := fun y hy => List.mem_of_mem_take (HPERM.out.mem_iff.1 hy)
              rcases List.mem_append.1 hu with h | h
              · exact HONE.out x (List.mem_of_getElem? HX.out) u h
              · rw [← HXS.out, (flat8_cut os j).2] at h
                obtain ⟨y, hy, hyu⟩ := List.mem_flatMap.1 h
                exact HONE.out y (hmem y (List.mem_of_mem_drop hy)) u hyu
    · go_wp2
      go_ret
      obtain rfl : k = n := by omega
      have hp := HPERM.out
      rw [List.take_of_length_le (by have := HNN.out; omega)] at hp
      refine ⟨_, os, rfl, ?_, hp, HSORT.out, HKR.out⟩
      rw [HBB.out, HOL.out]
      exact HROW.out
end Go.Proofs.YtghgffhcdnmpnaaGreat
/-
  Members in order and what they want; the gifts by ranges, step by step. In plain Lean. Conditions: those of each lemma.
-/
namespace Go.Proofs.YtghgffhcdnmpnaaGreat
open Go.RowKit Go.Sort
theorem srt_eq {a b : List ByteArray} (h : a.Perm b) (hs : a.Pairwise (fun x y => sle x y = true)) : a = srt b :=
  List.Perm.eq_of_pairwise (le := fun x y => sle x y = true) (fun x y _ _ => sle_antisymm x y) hs (srt_sorted b) (h.trans (srt_perm b).symm)
theorem ord_ids {os ms : List MV} (h : os.Perm ms) (hs : os.Pairwise (fun a b => sle a.id b.id = true)) (t : ByteArray) : (os.filter (wantB t)).map MV.id = srt (wantIds (memList ms) t) := by
  have h1 : wantIds (memList ms) t = (ms.filter (wantB t)).map MV.id := by
    unfold wantIds memList
    rw [List.filter_map, List.map_map]
    rfl
  rw [h1]
  refine srt_eq ((h.filter _).map _) ?_
  rw [List.pairwise_map]
  exact hs.sublist List.filter_sublist
theorem filter_take {α : Type} (p : α → Bool) {l : List α} {k : Nat} {y : α} (h : l[k]? = some y) : (l.take (k + 1)).filter p = (l.take k).filter p ++ if p y = true then [y] else [] := by
  rw [take_one h, List.filter_append]
  by_cases hp : p y = true <;> simp [hp]
theorem rangeSeq_snoc (l : List (ByteArray × List ByteArray)) (tm : List (ByteArray × List Int)) (x : ByteArray × List Int) : rangeSeq l (tm ++ [x]) = rangeSeq l tm ++ topicSeq (srt (wantIds l x.1)) x.1 x.2 := by
  simp [rangeSeq]
/-- The gifts of a topic to the first k of its members. -/
def topicUp (ids : List ByteArray) (t : ByteArray) (ps : List Int) (k : Nat) : List (ByteArray × ByteArray × Int) :=
  (List.range k).flatMap fun k => (rpart ps ids.length k).map fun p => (ids.getD k default, t, p)
theorem topicUp_succ {ids : List ByteArray} {t : ByteArray} {ps : List Int} {k : Nat} {y : ByteArray} (h : ids[k]? = some y) : topicUp ids t ps (k + 1) = topicUp ids t ps k ++ (rpart ps ids.length k).map fun p => (y, t, p) := by
  simp [topicUp, List.range_succ, List.getD_eq_getElem?_getD, h]
theorem topicUp_all (ids : List ByteArray) (t : ByteArray) (ps : List Int) : topicUp ids t ps ids.length = topicSeq ids t ps := rfl
theorem topicUp_len (ids : List ByteArray) (t : ByteArray) (ps : List Int) : ∀ k, (topicUp ids t ps k).length ≤ k * ps.length
  | 0 => by simp [topicUp]
  | k + 1 => by
    have h1 := topicUp_len ids t ps k
    have h2 := rpart_len ps ids.length k
    have h3 : topicUp ids t ps (k + 1) = topicUp ids t ps k ++ (rpart ps ids.length k).map fun p => (ids.getD k default, t, p) := by simp [topicUp, List.range_succ]
    rw [h3, List.length_append, List.length_map, Nat.add_mul]
    omega
theorem rangeSeq_len (l : List (ByteArray × List ByteArray)) (hl : l.length ≤ 7) : ∀ tm : List (ByteArray × List Int), (∀ x ∈ tm, x.2.length ≤ 1000) → (rangeSeq l tm).length ≤ tm.length * 7000
  | [], _ => by simp [rangeSeq]
  | x :: tm, h => by
    have h1 := rangeSeq_len l hl tm (fun y hy => h y (.tail _ hy))
    have h2 := h x (.head _)
    have h3 : rangeSeq l (x :: tm) = topicSeq (srt (wantIds l x.1)) x.1 x.2 ++ rangeSeq l tm := by simp [rangeSeq]
    have h4 := topicUp_len (srt (wantIds l x.1)) x.1 x.2 (srt (wantIds l x.1)).length
    rw [topicUp_all] at h4
    have h5 : (srt (wantIds l x.1)).length ≤ 7 := by
      rw [srt_len, wantIds, List.length_map]
      exact Nat.le_trans (List.length_filter_le _ _) hl
    have h6 : (srt (wantIds l x.1)).length * x.2.length ≤ 7 * 1000 := Nat.mul_le_mul h5 h2
    rw [h3, List.length_append, List.length_cons]
    omega
theorem rpart_get {ps : List Int} {n i c : Nat} {y : Int} (hy : ps[rlo ps.length n i + c]? = some y) (hc : rlo ps.length n i + c < rhi ps.length n i) : (rpart ps n i)[c]? = some y := by
  rw [rpart, List.getElem?_drop, List.getElem?_take, if_pos hc, hy]
theorem rpart_size (ps : List Int) (n i : Nat) (hi : i < n) : (rpart ps n i).length = ps.length / n + (if i < ps.length % n then 1 else 0) := by
  have := rhi_le ps.length n i hi
  rw [rpart, List.length_drop, List.length_take, Nat.min_eq_left this]
  unfold rhi
  rw [Nat.add_assoc, Nat.add_sub_cancel_left]
theorem rlo_succ (m n i : Nat) : rlo m n (i + 1) = rlo m n i + (m / n + (if i < m % n then 1 else 0)) := by
  unfold rlo
  rw [Nat.add_mul]
  split <;> omega
end Go.Proofs.YtghgffhcdnmpnaaGreat
