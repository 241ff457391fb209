/-
  Counted: how many partitions each member has by a plan. Conditions: the plan gives each partition once, to a member that wants its topic; seven members, twelve topics, a million partitions each at most.
-/
import Derived.Test.YtghgffhcdnmpnaaGreatZK7
import Derived.Test.YtghgffhcdnmpnaaGreatZE5
import Derived.Deep.CutRange
namespace Go.Proofs.YtghgffhcdnmpnaaGreat
open Go.RowKit Go.Sort
/-- Numbers as they lie in memory. -/
def nums (l : List Int) : List Value := l.map (Value.int .i64)
theorem nums_flat (l : List Int) : nums l = l.flatMap fun x => [Value.int .i64 x] := by
  unfold nums
  rw [List.map_eq_flatMap]
theorem nums_at {l : List Int} {k : Nat} {y : Int} (h : l[k]? = some y) : (nums l)[k]? = some (.int .i64 y) := by simp [nums, h]
theorem own_storeI {w : World} {base g n cap j : Nat} {l : List Int} (y : Int) (h : w.ownsRow base 3 1 (.slice (some ⟨g, 0, none⟩) n cap) n (nums l)) (hj : j < n) :
    ∃ w', (storeVar 3 ⟨g, j, none⟩ (.int .i64 y)).run Tryz.prog w = .ok () w' ∧ w'.ownsRow base 3 1 (.slice (some ⟨g, 0, none⟩) n cap) n (nums (l.set j y)) ∧ Kept [g] w w' := by
  rw [nums_flat] at h
  obtain ⟨w', h1, h2, h3⟩ := own_storeG (P := Tryz.prog) (f := fun x => [Value.int .i64 x]) (s := 1) (e := 3) (fun _ => rfl) (by decide) (by kernel_rfl) y (by intro v hv; simp at hv; subst hv; rfl) h hj
  rw [← nums_flat] at h2
  rw [Nat.mul_one] at h1
  refine ⟨w', ?_, h2, h3⟩
  rw [← h1]
  simp [storeVar, Value.cells]
set_option maxRecDepth 100000 in
theorem wl_make37 {ops : Array Oper} {Q : Exit → Act → World → Prop} {o : Oper} {rest : List Oper} {a : Act} {w : World} (hg : o.guard = none) (x y : Operand) (hop : o.op = Op.makeSlice 37 x y) (n : Nat) (hn : n ≤ 100) (hx : a.eval x = .int .i64 n) (hy : a.eval y = .int .i64 n)
    (h : wpList Tryz.prog ops Q rest (a.put o.dst (.slice (some ⟨w.heap.size, 0, none⟩) n n)) (w.alloc (.cells (madeCells (Value.int .i64 0).cells n) 3))) : wpList Tryz.prog ops Q (o :: rest) a w := by
  have k1 : (Tryz.prog.info? 3).map (fun i => (i.size, i.bytes)) = some (1, 8) := by kernel_rfl
  have k2 : (Tryz.prog.info? 3).bind (fun i => i.zero) = some (.int .i64 0) := by kernel_rfl
  obtain ⟨i, h1⟩ : ∃ i, Tryz.prog.info? 3 = some i := by
    cases hq : Tryz.prog.info? 3 with
    | none => rw [hq] at k1; cases k1
    | some i => exact ⟨i, rfl⟩
  rw [h1] at k1 k2
  have h2 : i.zero = some (.int .i64 0) := k2
  have h34 : (i.size, i.bytes) = (1, 8) := Option.some.inj k1
  have h3 : i.size = 1 := congrArg Prod.fst h34
  have h4 : i.bytes = 8 := congrArg Prod.snd h34
  have hr := run_makeSlice (P := Tryz.prog) w 37 3 i _ Tryz.underlying37 h1 h2 .i64 .i64 n n (by omega) (by omega) (by rw [h3]; simp; omega) (by rw [h4]; omega) (by omega)
  simp only [Int.toNat_natCast] at hr
  refine wpList_plain hg fun K hK => ?_
  unfold Oper.wp execOp
  simp only [hop, hx, hy, Sem.run_bind, hr, Result.andThen_ok, Sem.run_pure]
  rw [h3, Nat.mul_one]
  exact hK _ _ h
theorem made_zero (n : Nat) : (madeCells #[Value.int .i64 0] n).toList = List.replicate n (Value.int .i64 0) := by
  unfold madeCells
  simp [Nat.mod_one]
  rw [List.map_const']
  simp
theorem own_made37 (w : World) (n : Nat) (hn : n ≤ 100) : (w.alloc (.cells (madeCells #[Value.int .i64 0] n) 3)).ownsRow w.heap.size 3 1 (.slice (some ⟨w.heap.size, 0, none⟩) n n) n (nums (List.replicate n 0)) := by
  have h := own_new w 3 1 n (madeCells #[Value.int .i64 0] n) w.heap.size (Nat.le_refl _) hn (by rw [Nat.mul_one, ← Array.length_toList, made_zero, List.length_replicate]) rfl
  rw [made_zero] at h
  have e : nums (List.replicate n 0) = List.replicate n (Value.int .i64 0) := by simp [nums]
  rw [e]
  exact h
theorem pairs_len : ∀ ts : List Sh, (pairsOf (topList ts)).length = (ts.map fun s => s.parts.length).sum
  | [] => rfl
  | s :: ts => by
    have ih := pairs_len ts
    have h : pairsOf (topList (s :: ts)) = (s.parts.map fun p => (s.top, p)) ++ pairsOf (topList ts) := by simp [pairsOf, topList]
    rw [h, List.length_append, ih, List.length_map, List.map_cons, List.sum_cons]
theorem sum_take {α : Type} (f : α → Nat) {l : List α} {k : Nat} {x : α} (h : l[k]? = some x) : ((l.take (k + 1)).map f).sum = ((l.take k).map f).sum + f x := by
  rw [take_one h, List.map_append, List.sum_append]
  simp
theorem sum_few {α : Type} (f : α → Nat) {l : List α} {n : Nat} (h : ∀ x ∈ l, f x ≤ n) : (l.map f).sum ≤ l.length * n := by
  induction l with
  | nil => simp
  | cons x l ih =>
    have h1 := ih (fun y hy => h y (.tail _ hy))
    have h2 := h x (.head _)
    rw [List.map_cons, List.sum_cons, List.length_cons, Nat.add_mul]
    omega
theorem memsOf_take {P : List Sh} {k : Nat} {x : Sh} (h : P[k]? = some x) : memsOf (P.take (k + 1)) = memsOf (P.take k) ++ List.replicate x.parts.length x.mem := by
  rw [take_one h, memsOf_snoc]
theorem memsOf_le (P : List Sh) (k : Nat) : (memsOf (P.take k)).length ≤ (memsOf P).length := by
  have h : flatP P = flatP (P.take k) ++ flatP (P.drop k) := by
    conv => lhs; rw [← List.take_append_drop k P]
    unfold flatP
    rw [List.flatMap_append]
  rw [memsOf_len, memsOf_len, h, List.length_append]
  omega
/-- Whether a partition is among a topic's. -/
def inTop (xt : ByteArray) (p : Int) (s : Sh × Value) : Bool := decide (s.1.top = xt) && s.1.parts.any fun q => decide (q = p)
set_option maxRecDepth 100000 in
set_option maxHeartbeats 12800000 in
theorem counted_any (X Y Z : Nat → Prop) (mv tv pv : Value) (ms : List MV) (ts P : List Sh) (w : World) (hm : MemsAt w X mv ms) (ht : ShsAt w Y tv ts) (hp : ShsAt w Z pv P) (h : Whole ms ts P) (hn : (pairsOf (topList ts)).Nodup) (hi : (ms.map MV.id).Nodup) (h7 : ms.length ≤ 7) (h12 : ts.length ≤ 12) (hfew : ∀ s ∈ ts, s.parts.length ≤ 1000000) :
    Calls Tryz.prog 21 #[mv, tv, pv] w fun e w' => ∃ g c, e = .returned (.tuple #[.slice (some ⟨g, 0, none⟩) ms.length c, .int .i64 0, .bool true]) ∧ w'.ownsRow w.heap.size 3 1 (.slice (some ⟨g, 0, none⟩) ms.length c) ms.length (nums (counts ms (memsOf P))) ∧ Kept [] w w' := by
  obtain ⟨A, n, c, rfl, hms, _, _⟩ := hm.1
  obtain rfl : n = ms.length := by have := hms.1; rw [flat_len mvCells 8 (fun _ => rfl)] at this; omega
  obtain ⟨lt, rfl, ⟨At, nt, ct, rfl, hts, _, _⟩, htp⟩ := ht
  obtain rfl : nt = lt.length := by have := hts.1; rw [flat_len shCells 3 (fun _ => rfl)] at this; omega
  obtain ⟨la, rfl, ⟨Ap, np, cp, rfl, hps, _, _⟩, hpp⟩ := hp
  obtain rfl : np = la.length := by have := hps.1; rw [flat_len shCells 3 (fun _ => rfl)] at this; omega
  have HM := Lib.hid hm
  have HMS := Lib.hid hms
  have HTS := Lib.hid hts
  have HTP := Lib.hid htp
  have HPS := Lib.hid hps
  have HPP := Lib.hid hpp
  have HWH := Lib.hid h
  have HI := Lib.hid hi
  have hnd : ((flatP (la.map Prod.fst)).map Prod.snd).Nodup := h.pairs.nodup_iff.2 hn
  have HND := Lib.hid hnd
  have h63 := hms.2.1
  have h64 := hts.2.1
  have h65 := hps.2.1
  have HW := Lib.hid wants_any
  have hfew2 : ∀ s ∈ lt, s.1.parts.length ≤ 1000000 := fun s hs => hfew _ (List.mem_map.2 ⟨s, hs, rfl⟩)
  have HFEW := Lib.hid hfew2
  obtain ⟨tot, htot⟩ : ∃ tot, (lt.map fun s => s.1.parts.length).sum = tot := ⟨_, rfl⟩
  have hl12 : lt.length ≤ 12 := by simpa using h12
  have htl : tot ≤ 12000000 := by
    have := sum_few (fun s : Sh × Value => s.1.parts.length) hfew2
    have := Nat.mul_le_mul_right 1000000 hl12
    omega
  have htm : (memsOf (la.map Prod.fst)).length = tot := by
    have h1 := h.pairs.length_eq
    rw [List.length_map, pairs_len, List.map_map] at h1
    rw [memsOf_len, h1, ← htot]
    rfl
  have HTOT := Lib.hid htot
  have HTM := Lib.hid htm
  obtain ⟨B, hB⟩ : ∃ B, w.heap.size = B := ⟨_, rfl⟩
  have HB := Lib.hid hB
  have HO0 := Lib.hid (own_made37 w ms.length (by omega))
  clear hm hms hts htp hps hpp h hn hi hnd hfew hfew2 htot htm h12 hB
  go_enter Tryz.func21, Tryz.ntmps21
  go_wp2_with (refine wl_make37 rfl _ _ rfl ms.length (by omega) rfl rfl ?_)
  obtain ⟨w0, hw0⟩ : ∃ w0, w.alloc (.cells (madeCells #[Value.int .i64 0] ms.length) 3) = w0 := ⟨_, rfl⟩
  have HK0 : Hid (Kept [] w w0) := by rw [← hw0]; exact (Kept.refl _ _).alloc _
  rw [hw0] at HO0 ⊢
  rw [HB.out] at HO0 ⊢
  clear hw0
  go_loop [7, 9] (fun mi i => ∃ k : Nat, k ≤ lt.length ∧ i = .int .i64 k ∧ mi = .int .i64 (((lt.take k).map fun s => s.1.parts.length).sum : Nat)) (fun _ i => lt.length - (intOf i).toNat)
  case atStart => exact ⟨0, Nat.zero_le _, rfl, rfl⟩
  case round =>
    obtain ⟨k, hk, rfl, rfl⟩ := hrel
    by_cases hlt : k < lt.length
    · obtain ⟨p, hp⟩ : ∃ p, lt[k]? = some p := ⟨_, List.getElem?_eq_getElem hlt⟩
      obtain ⟨b, off, rfl, hcc⟩ := HTS.out.2.2 (by omega)
      obtain ⟨A3, n3, c3, h3, hs3, _, _⟩ := HTP.out p (List.mem_of_getElem? hp)
      have hn3 : n3 = p.1.parts.length := by have := hs3.1; simpa [ints] using this.symm
      have hc3 : w0.cell? ⟨b, off + k * 3 + 2, none⟩ = some (.slice A3 n3 c3) := by rw [← h3]; exact HK0.out.cell (sh_cells hcc hp 2 _ rfl) (by simp)
      have hsum := sum_take (fun s : Sh × Value => s.1.parts.length) hp
      have hf := HFEW.out p (List.mem_of_getElem? hp)
      obtain ⟨tk, htk⟩ : ∃ tk, ((lt.take k).map fun s => s.1.parts.length).sum = tk := ⟨_, rfl⟩
      have htk2 : tk ≤ 12000000 := by
        rw [← htk]
        have h1 := sum_few (fun s : Sh × Value => s.1.parts.length) (l := lt.take k) (n := 1000000) (fun x hx => HFEW.out x (List.mem_of_mem_take hx))
        have h2 : (lt.take k).length ≤ 12 := by rw [List.length_take]; omega
        have := Nat.mul_le_mul_right 1000000 h2
        omega
      rw [← hn3] at hsum hf
      have HSUM := Lib.hid hsum
      rw [htk] at HSUM ⊢
      clear hp hcc h3 hs3 hn3 hsum htk
      go_wp2
      go_round
      case rel => exact ⟨k + 1, by omega, by go_num, by rw [HSUM.out]; go_num⟩
      case measure => (simp [intOf]) <;> omega
    · have e : lt.take k = lt := List.take_of_length_le (by omega)
      rw [e, HTOT.out]
      clear e
      go_wp2
      go_loopw [6, 7, 10] (fun cv mi i wr => ∃ k : Nat, k ≤ la.length ∧ i = .int .i64 k ∧ cv = .slice (some ⟨B, 0, none⟩) ms.length ms.length ∧ mi = .int .i64 ((tot : Int) - ((memsOf ((la.map Prod.fst).take k)).length : Nat)) ∧ wr.ownsRow B 3 1 (.slice (some ⟨B, 0, none⟩) ms.length ms.length) ms.length (nums (counts ms (memsOf ((la.map Prod.fst).take k)))) ∧ Kept [] w wr) (fun _ _ i _ => la.length - (intOf i).toNat)
      case atStart =>
        refine ⟨0, Nat.zero_le _, rfl, rfl, by simp [memsOf, flatP], ?_, HK0.out⟩
        have h0 := HO0.out
        rw [← counts_nil] at h0
        exact h0
      case round =>
        obtain ⟨i, hi, rfl, rfl, rfl, hrow, hkr⟩ := hrel
        have HROW := Lib.hid hrow
        have HKR := Lib.hid hkr
        clear hrow hkr
        by_cases hil : i < la.length
        · obtain ⟨x, hx⟩ : ∃ x, la[i]? = some x := ⟨_, List.getElem?_eq_getElem hil⟩
          obtain ⟨b, off, rfl, hcc⟩ := HPS.out.2.2 (by omega)
          obtain ⟨A3, n3, c3, h3, hs3, _, _⟩ := HPP.out x (List.mem_of_getElem? hx)
          have hn3 : n3 = x.1.parts.length := by have := hs3.1; simpa [ints] using this.symm
          have hxP : (la.map Prod.fst)[i]? = some x.1 := by simp [hx]
          obtain ⟨m, hmm, hmid, hmt⟩ := HWH.out.mem x.1 (List.mem_of_getElem? hxP)
          obtain ⟨a, ha⟩ := List.getElem?_of_mem hmm
          have hmt2 := memsOf_take hxP
          have hml := memsOf_le (la.map Prod.fst) (i + 1)
          rw [HTM.out, hmt2, List.length_append, List.length_replicate, ← hn3] at hml
          have HMT2 := Lib.hid hmt2
          have HC := Lib.hid (sh_cells (fun i v hv => HKR.out.cell (hcc i v hv) (by simp)) hx)
          rw [h3] at HC
          have HX := Lib.hid hx
          have HXP := Lib.hid hxP
          have HCC := Lib.hid hcc
          have hal : a < ms.length := (List.getElem?_eq_some_iff.1 ha).1
          have HA := Lib.hid ha
          have HS3 := Lib.hid hs3
          obtain ⟨xm, hxm⟩ : ∃ xm, x.1.mem = xm := ⟨_, rfl⟩
          obtain ⟨xt, hxt⟩ : ∃ xt, x.1.top = xt := ⟨_, rfl⟩
          obtain ⟨xp, hxp⟩ : ∃ xp, x.1.parts = xp := ⟨_, rfl⟩
          rw [hxm] at hmid HC
          rw [hxt] at hmt HC
          rw [hxp] at HS3 hn3
          rw [hxm, hxp] at HMT2
          have HXM := Lib.hid hxm
          have HXT := Lib.hid hxt
          have HXPP := Lib.hid hxp
          have HMID := Lib.hid hmid
          have HMT := Lib.hid hmt
          have HN3 := Lib.hid hn3
          have hn63 := hs3.2.1
          obtain ⟨g0, hg0⟩ : ∃ g0, memsOf ((la.map Prod.fst).take i) = g0 := ⟨_, rfl⟩
          rw [hg0] at HROW HMT2 hml ⊢
          have HG0 := Lib.hid hg0
          clear hx hcc hs3 h3 hxP hmm hmid hmt ha hmt2 hxm hxt hxp hn3 hg0
          go_wp2_with (refine wl_load_struct rfl 53 _ rfl Tryz.underlying53 rfl rfl b (off + i * 3) rfl _ rfl HC.out ?_)
          obtain ⟨z, hz⟩ : ∃ z, wr.heap.size = z := ⟨_, rfl⟩
          obtain ⟨W1, hW1⟩ : ∃ W1, wr.alloc (Obj.cells #[Value.string xm, .string xt, .slice A3 n3 c3] 53) = W1 := ⟨_, rfl⟩
          have hzB : B < z := by rw [← hz]; exact own_lt HROW.out B rfl
          have HHZ : Hid (W1.heap[z]? = some (.cells #[.string xm, .string xt, .slice A3 n3 c3] 53 (0, 0))) := by rw [← hW1, ← hz]; exact heap_alloc_new _ _
          have HKW1 : Hid (Kept [] w W1) := by rw [← hW1]; exact HKR.out.alloc _
          have HROW1 := Lib.hid (own_kept0 HROW.out (show Kept [] wr W1 by rw [← hW1]; exact (Kept.refl _ _).alloc _))
          rw [hz, hW1]
          clear hW1 HC HROW HKR hz
          go_loopw [12, 13] (fun at' j w1 => ∃ q : Nat, q ≤ ms.length ∧ j = .int .i64 q ∧ at' = .int .i64 (if a < q then (a : Int) else -1) ∧ Kept [] W1 w1) (fun _ j _ => ms.length - (intOf j).toNat)
          case atStart => exact ⟨0, Nat.zero_le _, rfl, rfl, Kept.refl _ _⟩
          case round =>
            obtain ⟨q, hq, rfl, rfl, hk1⟩ := hrel
            have HK1 := Lib.hid hk1
            clear hk1
            by_cases hql : q < ms.length
            · obtain ⟨y, hy⟩ : ∃ y, ms[q]? = some y := ⟨_, List.getElem?_eq_getElem hql⟩
              obtain ⟨bm, om, rfl, hcm⟩ := HMS.out.2.2 (by omega)
              have f1 : wr.cell? ⟨bm, om + q * 8, none⟩ = some (.string y.id) := mv_cell (fun i v hv => (HKW1.out.trans0 HK1.out).cell (hcm i v hv) (by simp)) hy 0 _ rfl
              have hzz := HK1.out.heap HHZ.out (by simp)
              have f0 : wr.cell? ⟨z, 0, none⟩ = some (.string xm) := by simp [World.cell?, hzz]
              have HY := Lib.hid hy
              clear hcm hy hzz
              by_cases hqa : q = a
              · have hyx : y.id = xm := by have h1 := HY.out; rw [hqa, HA.out] at h1; cases h1; exact HMID.out
                have hbe : (y.id.toList == xm.toList) = true := by rw [hyx]; exact beq_self
                have hqa2 : Hid (q = a) := hqa
                clear hqa hyx
                obtain ⟨av, hav⟩ : ∃ av : Int, (if a < q then (a : Int) else -1) = av := ⟨_, rfl⟩
                rw [hav]
                clear hav
                go_wp2
                go_big_quiet (fail)
                go_wp2
                go_roundw
                case rel => exact ⟨q + 1, by omega, by go_num, by rw [if_pos (by have := hqa2.out; omega), hqa2.out], HK1.out.drewN _⟩
                case measure => (simp [intOf]) <;> omega
              · have hne : y.id ≠ xm := by
                  intro e
                  refine hqa ?_
                  have h1 : (ms.map MV.id)[q]? = some xm := by simp [HY.out, e]
                  have h2 : (ms.map MV.id)[a]? = some xm := by simp [HA.out, HMID.out]
                  exact nodup_idx HI.out h1 h2
                have hbe : (y.id.toList == xm.toList) = false := beq_ne hne
                have hqa2 : Hid (¬ q = a) := hqa
                clear hqa hne
                obtain ⟨av, hav⟩ : ∃ av : Int, (if a < q then (a : Int) else -1) = av := ⟨_, rfl⟩
                rw [hav]
                have HAV := Lib.hid hav
                clear hav
                go_wp2
                go_big_quiet (fail)
                go_wp2
                go_roundw
                case rel =>
                  refine ⟨q + 1, by omega, by go_num, ?_, HK1.out.drewN _⟩
                  rw [← HAV.out]
                  by_cases h1 : a < q
                  · rw [if_pos h1, if_pos (by omega)]
                  · rw [if_neg h1, if_neg (by have := hqa2.out; omega)]
                case measure => (simp [intOf]) <;> omega
            · have hqe : q = ms.length := by omega
              rw [if_pos (by omega)]
              obtain ⟨bm, om, rfl, hcm⟩ := HMS.out.2.2 (by omega)
              have HCm := Lib.hid (mv_cell (fun i v hv => (HKW1.out.trans0 HK1.out).cell (hcm i v hv) (by simp)) HA.out)
              obtain ⟨htv, ⟨Ad, cd, hdv⟩, ⟨Ao, co, hov⟩⟩ := HM.out.2 m (List.mem_of_getElem? HA.out)
              obtain ⟨A2, n2, c2, htv2, ht2, _, _⟩ := htv
              obtain ⟨id, ver, tops, ttv, dv, ov, dn, on, gen, rack, hr⟩ := m
              simp only at hdv hov htv2 ht2
              subst hdv hov htv2
              obtain rfl : n2 = tops.length := by have := ht2.1; simpa [strs] using this.symm
              have HC2 : Hid (∀ j' v, [Value.string id, .int .i16 ver, .slice A2 tops.length c2, .slice Ad dn cd, .slice Ao on co, .int .i32 gen, .string rack, .bool hr][j']? = some v → wr.cell? ⟨bm, om + a * 8 + j', none⟩ = some v) := HCm.out
              have hld := fun n : KW wr => run_load_struct (P := Tryz.prog) (w := n.w) Tryz.underlying46 rfl rfl bm (om + a * 8) _ rfl (fun i v hv => n.k.cell (HC2.out i v hv) (by simp))
              have HTW : Hid (∀ W, Kept [] wr W → Calls Tryz.prog 39 #[.agg #[.string id, .int .i16 ver, .slice A2 tops.length c2, .slice Ad dn cd, .slice Ao on co, .int .i32 gen, .string rack, .bool hr], .string xt] W fun e w' => e = .returned (.bool true) ∧ Kept [] W w') := fun W hW =>
                (HW.out id rack xt ver gen A2 c2 tops (.slice Ad dn cd) (.slice Ao on co) hr W (ht2.kept0 (((HKW1.out.trans0 HK1.out)).trans0 hW))).mono fun e w' ⟨h1, h2⟩ => ⟨by rw [h1, decide_eq_true HMT.out], h2⟩
              have hzz := HK1.out.heap HHZ.out (by simp)
              have f1 : wr.cell? ⟨z, 1, none⟩ = some (.string xt) := by simp [World.cell?, hzz]
              have hn0 : ¬ ((a : Int) < 0) := by omega
              have hd0 : decide ((a : Int) < 0) = false := by rw [decide_eq_false_iff_not]; omega
              clear hcm HCm ht2 hzz
              go_wp2
              have hq1 := fun n : KW wr => n.k.cell f1 (by simp)
              refine wp_region_quiet_k (by kernel_rfl) (by kernel_rfl) ?_
              repeat (first
                | go_big_quiet_skip
                | (go_big_quiet_want; go_big_quiet_op; first | go_big_quiet_on | go_big_quiet_call (exact Calls.quiet_k (HTW.out _ (KW.k _))))
                | (go_big_quiet_want
                   refine quiet_load_struct _ _ rfl _ rfl ?_ ?_ ?_
                   rotate_left
                   · (intro _ hw'
                      obtain ⟨nk, hw''⟩ := hw'
                      subst hw''
                      exact hld nk)
                   (simp only [Act.put, List.setIfInBounds_toArray, List.set_cons_succ, List.set_cons_zero])
                   go_big_quiet_on))
              refine wpQuiet_nil ?_
              intro wq hw'
              obtain ⟨⟨_, hkq⟩, hw''⟩ := hw'
              subst hw''
              have HKQ := Lib.hid (HK1.out.trans0 hkq)
              clear hkq hq1 hld HTW HC2 f1 hn0 hd0
              go_wp2
              have HHZ2 := Lib.hid (HKQ.out.heap HHZ.out (by simp))
              have HROW2 := Lib.hid (own_kept0 HROW1.out HKQ.out)
              have HKWQ := Lib.hid (HKW1.out.trans0 HKQ.out)
              clear HROW1 HHZ HKQ HK1 HKW1 hqe
              go_loopw [6, 7, 14] (fun cv mi j w3 => ∃ r : Nat, r ≤ n3 ∧ j = .int .i64 r ∧ cv = .slice (some ⟨B, 0, none⟩) ms.length ms.length ∧ mi = .int .i64 ((tot : Int) - ((g0.length : Int) + (r : Int))) ∧ w3.ownsRow B 3 1 (.slice (some ⟨B, 0, none⟩) ms.length ms.length) ms.length (nums (counts ms (g0 ++ List.replicate r xm))) ∧ w3.heap[z]? = some (.cells #[.string xm, .string xt, .slice A3 n3 c3] 53 (0, 0)) ∧ Kept [] w w3) (fun _ _ j _ => n3 - (intOf j).toNat)
              case atStart => exact ⟨0, Nat.zero_le _, rfl, rfl, by simp, by simpa using HROW2.out, HHZ2.out, HKWQ.out⟩
              case round =>
                obtain ⟨r, hrn, rfl, rfl, rfl, hrow, hhz, hkr⟩ := hrel
                have HROW := Lib.hid hrow
                have HHZ := Lib.hid hhz
                have HKR := Lib.hid hkr
                have f2 : wr.cell? ⟨z, 2, none⟩ = some (.slice A3 n3 c3) := by simp [World.cell?, hhz]
                clear hrow hhz hkr HROW2 HHZ2 HKWQ
                by_cases hrl : r < n3
                · obtain ⟨u, hu⟩ : ∃ u, xp[r]? = some u := ⟨_, List.getElem?_eq_getElem (by have := HN3.out; omega)⟩
                  obtain ⟨b3, o3, rfl, hc3⟩ := HS3.out.2.2 (by omega)
                  have HU := Lib.hid hu
                  have HCU := Lib.hid (hc3 r _ (ints_at hu))
                  clear hu hc3
                  go_wp2
                  obtain ⟨W3, hW3⟩ : ∃ W3, wr = W3 := ⟨_, rfl⟩
                  rw [hW3] at HROW HHZ HKR ⊢
                  clear f2 hW3
                  go_loopw [15, 16] (fun is nn w4 => ∃ q : Nat, q ≤ lt.length ∧ nn = .int .i64 q ∧ is = .bool ((lt.take q).any (inTop xt u)) ∧ Kept [] W3 w4) (fun _ nn _ => lt.length - (intOf nn).toNat)
                  case atStart => exact ⟨0, Nat.zero_le _, rfl, rfl, Kept.refl _ _⟩
                  case round =>
                    obtain ⟨q, hq, rfl, rfl, hk4⟩ := hrel
                    have HK4 := Lib.hid hk4
                    clear hk4
                    by_cases hql : q < lt.length
                    · obtain ⟨s, hs⟩ : ∃ s, lt[q]? = some s := ⟨_, List.getElem?_eq_getElem hql⟩
                      have HANY := Lib.hid (any_take (inTop xt u) hs)
                      obtain ⟨bq, ob, rfl, hcq⟩ := HTS.out.2.2 (by omega)
                      obtain ⟨A5, n5, c5, h5, hs5, _, _⟩ := HTP.out s (List.mem_of_getElem? hs)
                      have ep := sh_cells hcq hs
                      obtain ⟨⟨sm, st, sp⟩, sv⟩ := s
                      simp only at h5 hs5 ep
                      subst h5
                      have hn5 : n5 = sp.length := by have := hs5.1; simpa [ints] using this.symm
                      have HEP : Hid (∀ W, Kept [] w W → W.cell? ⟨bq, ob + q * 3 + 1, none⟩ = some (.string st) ∧ W.cell? ⟨bq, ob + q * 3 + 2, none⟩ = some (.slice A5 n5 c5)) := fun W hW => ⟨hW.cell (ep 1 _ rfl) (by simp), hW.cell (ep 2 _ rfl) (by simp)⟩
                      have h563 := hs5.2.1
                      have HS5 := Lib.hid hs5
                      have HN5 := Lib.hid hn5
                      obtain ⟨bb, hbb⟩ : ∃ bb, (lt.take q).any (inTop xt u) = bb := ⟨_, rfl⟩
                      rw [hbb] at HANY ⊢
                      clear hcq hs ep hs5 hn5 hbb
                      go_wp2
                      obtain ⟨W4, hW4⟩ : ∃ W4, wr = W4 := ⟨_, rfl⟩
                      rw [hW4] at HK4 ⊢
                      clear hW4
                      go_loopw [15, 17] (fun is mm w5 => ∃ v : Nat, v ≤ n5 ∧ mm = .int .i64 v ∧ is = .bool (bb || (decide (st = xt) && (sp.take v).any fun y => decide (y = u))) ∧ Kept [] W4 w5) (fun _ mm _ => n5 - (intOf mm).toNat)
                      case atStart => exact ⟨0, Nat.zero_le _, rfl, by simp, Kept.refl _ _⟩
                      case round =>
                        obtain ⟨v, hv, rfl, rfl, hk5⟩ := hrel
                        obtain ⟨e1, e2⟩ := HEP.out wr ((HKR.out.trans0 HK4.out).trans0 hk5)
                        have HK5 := Lib.hid hk5
                        by_cases hvl : v < n5
                        · obtain ⟨y, hy⟩ : ∃ y, sp[v]? = some y := ⟨_, List.getElem?_eq_getElem (by have := HN5.out; omega)⟩
                          obtain ⟨b5, o5, rfl, hc5⟩ := HS5.out.2.2 (by omega)
                          have e5 : wr.cell? ⟨b5, o5 + v, none⟩ = some (.int .i32 y) := ((HKR.out.trans0 HK4.out).trans0 hk5).cell (hc5 v _ (ints_at hy)) (by simp)
                          have hzz := (HK4.out.trans0 hk5).heap HHZ.out (by simp)
                          have f1 : wr.cell? ⟨z, 1, none⟩ = some (.string xt) := by simp [World.cell?, hzz]
                          have f2 : wr.cell? ⟨z, 2, none⟩ = some (.slice (some ⟨b3, o3, none⟩) n3 c3) := by simp [World.cell?, hzz]
                          have f3 : wr.cell? ⟨b3, o3 + r, none⟩ = some (.int .i32 u) := ((HKR.out.trans0 HK4.out).trans0 hk5).cell HCU.out (by simp)
                          have HANV := Lib.hid (any_take (fun y => decide (y = u)) hy)
                          clear hc5 hy hzz hk5
                          cases hcur : (bb || (decide (st = xt) && (sp.take v).any fun y => decide (y = u))) with
                          | true =>
                            have HCUR := Lib.hid hcur
                            clear hcur
                            go_wp2
                            go_big_quiet (fail)
                            go_wp2
                            go_roundw
                            case rel =>
                              refine ⟨v + 1, by omega, by go_num, ?_, HK5.out.drewN _⟩
                              rw [HANV.out]
                              have h0 := HCUR.out
                              cases bb
                              · simp only [Bool.false_or, Bool.and_eq_true] at h0
                                rw [h0.1, h0.2]
                                rfl
                              · rfl
                            case measure => (simp [intOf]) <;> omega
                          | false =>
                            have HCUR := Lib.hid hcur
                            clear hcur
                            by_cases hte : st = xt
                            · have hbt : (st.toList == xt.toList) = true := by rw [hte]; exact beq_self
                              have HTE := Lib.hid hte
                              clear hte
                              by_cases hyu : y = u
                              · have hbu : (y == u) = true := by simpa using hyu
                                have HYU := Lib.hid hyu
                                clear hyu
                                go_wp2
                                go_big_quiet (fail)
                                go_wp2
                                go_roundw
                                case rel =>
                                  refine ⟨v + 1, by omega, by go_num, ?_, HK5.out.drewN _⟩
                                  rw [HANV.out]
                                  simp [HTE.out, HYU.out]
                                case measure => (simp [intOf]) <;> omega
                              · have hbu : (y == u) = false := by simpa using hyu
                                have HYU := Lib.hid hyu
                                clear hyu
                                go_wp2
                                go_big_quiet (fail)
                                go_wp2
                                go_roundw
                                case rel =>
                                  refine ⟨v + 1, by omega, by go_num, ?_, HK5.out.drewN _⟩
                                  rw [HANV.out, decide_eq_false HYU.out, Bool.or_false, HCUR.out]
                                case measure => (simp [intOf]) <;> omega
                            · have hbt : (st.toList == xt.toList) = false := beq_ne hte
                              have HTE := Lib.hid hte
                              clear hte
                              go_wp2
                              go_big_quiet (fail)
                              go_wp2
                              go_roundw
                              case rel =>
                                refine ⟨v + 1, by omega, by go_num, ?_, HK5.out.drewN _⟩
                                have h0 := HCUR.out
                                rw [decide_eq_false HTE.out] at h0 ⊢
                                simp only [Bool.false_and, Bool.or_false] at h0 ⊢
                                rw [h0]
                              case measure => (simp [intOf]) <;> omega
                        · have hve : v = n5 := by omega
                          have hsp : sp.take v = sp := List.take_of_length_le (by have := HN5.out; omega)
                          rw [hsp]
                          clear hk5 hsp
                          obtain ⟨b9, hb9⟩ : ∃ b9, (bb || (decide (st = xt) && sp.any fun y => decide (y = u))) = b9 := ⟨_, rfl⟩
                          have HB9 := Lib.hid hb9
                          rw [hb9]
                          clear hb9
                          go_wp2
                          go_roundw
                          case rel => exact ⟨q + 1, by omega, by go_num, by rw [HANY.out, ← HB9.out]; rfl, HK4.out.trans0 HK5.out⟩
                          case measure => (simp [intOf]) <;> omega
                    · have hte : lt.take q = lt := List.take_of_length_le (by omega)
                      have htr : lt.any (inTop xt u) = true := by
                        obtain ⟨s, hs, h1, h2⟩ := HWH.out.tops x.1 (List.mem_of_getElem? HXP.out) u (by rw [HXPP.out]; exact List.mem_of_getElem? HU.out)
                        obtain ⟨s', hs', rfl⟩ := List.mem_map.1 hs
                        refine List.any_eq_true.2 ⟨s', hs', ?_⟩
                        unfold inTop
                        rw [h1, HXT.out]
                        simp only [decide_true, Bool.true_and]
                        exact List.any_eq_true.2 ⟨u, h2, by simp⟩
                      rw [hte, htr]
                      clear hte htr
                      go_wp2
                      obtain ⟨W4, hW4⟩ : ∃ W4, wr = W4 := ⟨_, rfl⟩
                      rw [hW4] at HK4 ⊢
                      clear hW4
                      have HKW4 := Lib.hid (HKR.out.trans0 HK4.out)
                      have HHZ4 := Lib.hid (HK4.out.heap HHZ.out (by simp))
                      have HROW4 := Lib.hid (own_kept0 HROW.out HK4.out)
                      clear HKR HHZ HROW HK4
                      obtain ⟨mi, hmi⟩ : ∃ mi : Int, (tot : Int) - ((g0.length : Int) + (r : Int)) = mi := ⟨_, rfl⟩
                      have HMI := Lib.hid hmi
                      have hmib : 1 ≤ mi ∧ mi ≤ 12000000 := by omega
                      rw [hmi]
                      clear hmi
                      go_loopw [6, 7, 18] (fun cv mv nn w5 => ∃ q : Nat, q ≤ i + 1 ∧ nn = .int .i64 q ∧ cv = .slice (some ⟨B, 0, none⟩) ms.length ms.length ∧ mv = .int .i64 mi ∧ Kept [] W4 w5) (fun _ _ nn _ => i + 1 - (intOf nn).toNat)
                      case atStart => exact ⟨0, Nat.zero_le _, rfl, rfl, rfl, Kept.refl _ _⟩
                      case round =>
                        obtain ⟨q', hq', rfl, rfl, rfl, hk5⟩ := hrel
                        have HK5 := Lib.hid hk5
                        clear hk5
                        by_cases hqi : q' < i + 1
                        · obtain ⟨y, hy⟩ : ∃ y, la[q']? = some y := ⟨_, List.getElem?_eq_getElem (by omega)⟩
                          obtain ⟨bq, ob, hAp, hcq⟩ := HPS.out.2.2 (by omega)
                          cases hAp
                          obtain ⟨A5, n5, c5, h5, hs5, _, _⟩ := HPP.out y (List.mem_of_getElem? hy)
                          have ep := sh_cells hcq hy
                          have hyP : (la.map Prod.fst)[q']? = some y.1 := by simp [hy]
                          obtain ⟨⟨sm, st, sp⟩, sv⟩ := y
                          simp only at h5 hs5 ep
                          subst h5
                          have hn5 : n5 = sp.length := by have := hs5.1; simpa [ints] using this.symm
                          have HEP : Hid (∀ W, Kept [] w W → W.cell? ⟨b, off + q' * 3 + 1, none⟩ = some (.string st) ∧ W.cell? ⟨b, off + q' * 3 + 2, none⟩ = some (.slice A5 n5 c5)) := fun W hW => ⟨hW.cell (ep 1 _ rfl) (by simp), hW.cell (ep 2 _ rfl) (by simp)⟩
                          have h563 := hs5.2.1
                          have HS5 := Lib.hid hs5
                          have HN5 := Lib.hid hn5
                          have HYP := Lib.hid hyP
                          obtain ⟨lim, hlim, hll⟩ : ∃ lim, (lim = if q' < i then n5 else r) ∧ lim ≤ n5 := by
                            refine ⟨_, rfl, ?_⟩
                            split
                            · exact Nat.le_refl _
                            · have e : q' = i := by omega
                              have h1 := HYP.out
                              rw [e, HXP.out] at h1
                              have h2 : sp = xp := by rw [← HXPP.out, Option.some.inj h1]
                              rw [hn5, h2, ← HN3.out]
                              omega
                          have HLIM := Lib.hid hlim
                          clear hcq hy ep hs5 hn5 hlim hyP
                          go_wp2
                          obtain ⟨W5, hW5⟩ : ∃ W5, wr = W5 := ⟨_, rfl⟩
                          rw [hW5] at HK5 ⊢
                          clear hW5
                          go_loopw [6, 7, 19] (fun cv mv mm w6 => ∃ v : Nat, v ≤ lim ∧ mm = .int .i64 v ∧ cv = .slice (some ⟨B, 0, none⟩) ms.length ms.length ∧ mv = .int .i64 mi ∧ Kept [] W5 w6) (fun _ _ mm _ => lim - (intOf mm).toNat)
                          case atStart => exact ⟨0, Nat.zero_le _, rfl, rfl, rfl, Kept.refl _ _⟩
                          case round =>
                            obtain ⟨v, hv, rfl, rfl, rfl, hk6⟩ := hrel
                            obtain ⟨e1, e2⟩ := HEP.out wr ((HKW4.out.trans0 HK5.out).trans0 hk6)
                            by_cases hvl : v < lim
                            · obtain ⟨p', hp'⟩ : ∃ p', sp[v]? = some p' := ⟨_, List.getElem?_eq_getElem (by have := HN5.out; omega)⟩
                              obtain ⟨b5, o5, rfl, hc5⟩ := HS5.out.2.2 (by omega)
                              have e5 : wr.cell? ⟨b5, o5 + v, none⟩ = some (.int .i32 p') := ((HKW4.out.trans0 HK5.out).trans0 hk6).cell (hc5 v _ (ints_at hp')) (by simp)
                              have hzz := (HK5.out.trans0 hk6).heap HHZ4.out (by simp)
                              have f1 : wr.cell? ⟨z, 1, none⟩ = some (.string xt) := by simp [World.cell?, hzz]
                              have f2 : wr.cell? ⟨z, 2, none⟩ = some (.slice (some ⟨b3, o3, none⟩) n3 c3) := by simp [World.cell?, hzz]
                              have f3 : wr.cell? ⟨b3, o3 + r, none⟩ = some (.int .i32 u) := ((HKW4.out.trans0 HK5.out).trans0 hk6).cell HCU.out (by simp)
                              have HK6 := Lib.hid hk6
                              have hvn : v < n5 := by omega
                              have hno : ¬ (st = xt ∧ p' = u) := by
                                have h1 := flat_once HND.out HYP.out HXP.out hp' (k := r) (p := u) (by rw [HXPP.out]; exact HU.out) (by
                                  have h2 := HLIM.out
                                  by_cases hqq : q' < i
                                  · exact .inl hqq
                                  · rw [if_neg hqq] at h2
                                    exact .inr ⟨by omega, by omega⟩)
                                rw [HXT.out] at h1
                                exact h1
                              have HNO := Lib.hid hno
                              have hcond : q' < i ∨ (¬ q' < i ∧ v < r) := by
                                have h2 := HLIM.out
                                by_cases hqq : q' < i
                                · exact .inl hqq
                                · rw [if_neg hqq] at h2
                                  exact .inr ⟨hqq, by omega⟩
                              clear hc5 hp' hzz hk6 hno
                              by_cases hte : st = xt
                              · have hbt : (st.toList == xt.toList) = true := by rw [hte]; exact beq_self
                                have hbu : (p' == u) = false := by simpa using fun e => HNO.out ⟨hte, e⟩
                                clear hte
                                rcases hcond with hcond | ⟨hcond, hvr⟩
                                all_goals go_wp2
                                all_goals go_big_quiet (fail)
                                all_goals go_wp2
                                all_goals go_roundw
                                case rel => exact ⟨v + 1, by omega, by go_num, rfl, rfl, HK6.out.drewN _⟩
                                case measure => (simp [intOf]) <;> omega
                                case rel => exact ⟨v + 1, by omega, by go_num, rfl, rfl, HK6.out.drewN _⟩
                                case measure => (simp [intOf]) <;> omega
                              · have hbt : (st.toList == xt.toList) = false := beq_ne hte
                                clear hte
                                rcases hcond with hcond | ⟨hcond, hvr⟩
                                all_goals go_wp2
                                all_goals go_big_quiet (fail)
                                all_goals go_wp2
                                all_goals go_roundw
                                case rel => exact ⟨v + 1, by omega, by go_num, rfl, rfl, HK6.out.drewN _⟩
                                case measure => (simp [intOf]) <;> omega
                                case rel => exact ⟨v + 1, by omega, by go_num, rfl, rfl, HK6.out.drewN _⟩
                                case measure => (simp [intOf]) <;> omega
                            · have hve : v = lim := by omega
                              have HK6 := Lib.hid hk6
                              clear hk6
                              by_cases hqq : q' < i
                              · have hln : lim = n5 := by have h2 := HLIM.out; rw [if_pos hqq] at h2; exact h2
                                have hvn : ¬ v < n5 := by omega
                                go_wp2
                                go_roundw
                                case rel => exact ⟨q' + 1, by omega, by go_num, rfl, rfl, HK5.out.trans0 HK6.out⟩
                                case measure => (simp [intOf]) <;> omega
                              · have hlr : lim = r := by have h2 := HLIM.out; rw [if_neg hqq] at h2; exact h2
                                have hvr : ¬ v < r := by omega
                                by_cases hvn : v < n5
                                · go_wp2
                                  go_roundw
                                  case rel => exact ⟨q' + 1, by omega, by go_num, rfl, rfl, HK5.out.trans0 HK6.out⟩
                                  case measure => (simp [intOf]) <;> omega
                                · go_wp2
                                  go_roundw
                                  case rel => exact ⟨q' + 1, by omega, by go_num, rfl, rfl, HK5.out.trans0 HK6.out⟩
                                  case measure => (simp [intOf]) <;> omega
                        · obtain rfl : q' = i + 1 := by omega
                          obtain ⟨cn, hcn⟩ : ∃ cn, (g0 ++ List.replicate r xm).count id = cn := ⟨_, rfl⟩
                          have hcl : cn ≤ 12000000 := by
                            have h1 := List.count_le_length (a := id) (l := g0 ++ List.replicate r xm)
                            rw [hcn, List.length_append, List.length_replicate] at h1
                            omega
                          have HROW5 := Lib.hid (own_kept0 HROW4.out HK5.out)
                          have hcg := counts_get HA.out (g0 ++ List.replicate r xm)
                          have hst0 := counts_step HI.out HA.out (g0 ++ List.replicate r xm)
                          simp only at hcg hst0
                          rw [hcn] at hcg hst0
                          have g1 : wr.cell? ⟨B, a, none⟩ = some (.int .i64 (cn : Int)) := (own_cell HROW5.out (nums_at hcg)).1
                          obtain ⟨w9, hst, hown9, hk9⟩ := own_storeI ((cn : Int) + 1) HROW5.out hal
                          rw [hst0] at hown9
                          have HST := Lib.hid hst
                          have HOWN9 := Lib.hid hown9
                          have HK9 := Lib.hid hk9
                          clear hcg hst0 hcn hst hown9 hk9
                          go_wp2_with (refine wl_storeV rfl 3 _ _ rfl B a rfl rfl HST.out ?_)
                          have hrep : g0 ++ List.replicate r xm ++ [xm] = g0 ++ List.replicate (r + 1) xm := by rw [List.append_assoc, ← List.replicate_succ']
                          have hhz9 : w9.heap[z]? = some (.cells #[.string xm, .string xt, .slice (some ⟨b3, o3, none⟩) n3 c3] 53 (0, 0)) := HK9.out.heap (HK5.out.heap HHZ4.out (by simp)) (fun hm => by have := List.mem_singleton.1 hm; omega)
                          have hkw9 : Kept [] w w9 := (HKW4.out.trans0 HK5.out).trans HK9.out (fun x hx => .inr (by rw [List.mem_singleton.1 hx, HB.out]; exact Nat.le_refl _))
                          have hown : w9.ownsRow B 3 1 (.slice (some ⟨B, 0, none⟩) ms.length ms.length) ms.length (nums (counts ms (g0 ++ List.replicate (r + 1) xm))) := by
                            have h0 := HOWN9.out
                            have hid : id = xm := HMID.out
                            rw [hid, hrep] at h0
                            exact h0
                          have HH9 := Lib.hid hhz9
                          have HKW9 := Lib.hid hkw9
                          have HOW := Lib.hid hown
                          clear hhz9 hkw9 hown hrep
                          go_roundw
                          case rel => exact ⟨r + 1, by omega, by go_num, rfl, by rw [← HMI.out]; go_num, HOW.out, HH9.out, HKW9.out⟩
                          case measure => (simp [intOf]) <;> omega
                · have hre : r = n3 := by omega
                  subst hre
                  go_wp2
                  go_roundw
                  case rel =>
                    refine ⟨i + 1, by omega, by go_num, rfl, ?_, ?_, HKR.out⟩
                    · rw [HMT2.out, List.length_append, List.length_replicate, ← HN3.out]
                      go_num
                    · rw [HMT2.out, ← HN3.out]
                      exact HROW.out
                  case measure => (simp [intOf]) <;> omega
        · have he : (la.map Prod.fst).take i = la.map Prod.fst := List.take_of_length_le (by simp; omega)
          rw [he] at HROW ⊢
          rw [HTM.out]
          clear he
          go_wp2
          refine bodyPost_ret (v := .tuple #[.slice (some ⟨B, 0, none⟩) ms.length ms.length, .int .i64 0, .bool true]) (by simp [results, Tryz.results21, go_sem]) rfl ?_
          exact ⟨B, _, rfl, HB.out.symm ▸ HROW.out, HKR.out⟩
end Go.Proofs.YtghgffhcdnmpnaaGreat
