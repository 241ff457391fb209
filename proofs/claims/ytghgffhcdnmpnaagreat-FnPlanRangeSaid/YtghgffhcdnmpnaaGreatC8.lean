/-
  The core of the strategy by ranges: what it adds to a plan. Conditions: seven members at most; their row and the partitions lie apart from the plan.
-/
import Derived.Test.YtghgffhcdnmpnaaGreatC5
import Derived.Test.YtghgffhcdnmpnaaGreatC7
import Derived.Laws.Externs
namespace Go.Proofs.YtghgffhcdnmpnaaGreat
open Go.RowKit Go.Sort
theorem wl_value {P : Program} {ops : Array Oper} {Q : Exit → Act → World → Prop} {o : Oper} {rest : List Oper} {a : Act} {w w' : World} {v : Value} (hg : o.guard = none) (hrun : (execOp a.eval o).run P w = .ok (.value v) w') (h : wpList P ops Q rest (a.put o.dst v) w') : wpList P ops Q (o :: rest) a w :=
  wpList_plain hg fun _ hK => ow_value hrun (hK _ _ h)
def fl (k : Nat) : Value := .float .f64 (FloatKind.f64.nearest k)
theorem pick_min : ∀ r : Nat, r < 8 → ∀ i : Nat, i < 8 → (if (FloatKind.f64.decode (FloatKind.f64.nearest r)) == .infinity true || (FloatKind.f64.decode (FloatKind.f64.nearest i)) == .infinity true then FloatKind.f64.encode (.infinity true)
      else if (FloatKind.f64.decode (FloatKind.f64.nearest r)).isNaN || (FloatKind.f64.decode (FloatKind.f64.nearest i)).isNaN then 0x7FF8000000000001
      else if (FloatKind.f64.decode (FloatKind.f64.nearest r)).isZero && (FloatKind.f64.decode (FloatKind.f64.nearest i)).isZero then (if (FloatKind.f64.decode (FloatKind.f64.nearest r)).neg == true then (FloatKind.f64.nearest r) else (FloatKind.f64.nearest i))
      else if (FloatKind.f64.decode (FloatKind.f64.nearest r)).order (FloatKind.f64.decode (FloatKind.f64.nearest i)) == some .lt then (FloatKind.f64.nearest r) else (FloatKind.f64.nearest i)) = FloatKind.f64.nearest ((min r i : Nat) : Int) := by
  decide +kernel
theorem run_min (r i : Nat) (hr : r < 8) (hi : i < 8) (w : World) : (callFunc 89 #[fl r, fl i]).run Tryz.prog w = .ok (.value (fl (min r i))) w := by
  rw [run_callFunc_extern (e := Extern.MathDim.pick "math.archMin" true .lt) Tryz.func89 (by kernel_rfl) (by kernel_rfl) (by kernel_rfl) (by kernel_rfl)]
  have h := pick_min r hr i hi
  have h2 : Extern.MathDim.pick "math.archMin" true .lt #[fl r, fl i] = pure (.float .f64 (FloatKind.f64.nearest ((min r i : Nat) : Int))) := by
    rw [← h]
    rfl
  rw [h2]
  rfl
set_option maxRecDepth 100000 in
theorem min_any (r i : Nat) (hr : r < 8) (hi : i < 8) (w : World) : Calls Tryz.prog 74 #[fl r, fl i] w fun e w' => e = .returned (fl (min r i)) ∧ w = w' := by
  have hm := run_min r i hr hi w
  obtain ⟨x, hx⟩ : ∃ x, fl r = x := ⟨_, rfl⟩
  obtain ⟨y, hy⟩ : ∃ y, fl i = y := ⟨_, rfl⟩
  obtain ⟨z, hz⟩ : ∃ z, fl (min r i) = z := ⟨_, rfl⟩
  rw [hx, hy, hz] at hm
  rw [hx, hy, hz]
  go_enter Tryz.func74, Tryz.ntmps74
  go_wp2_with (refine wl_value rfl (w' := w) (v := z) (by simp [go_sem, hm]) ?_)
  go_ret
  exact ⟨rfl, rfl⟩
theorem conv_back : ∀ k : Nat, k < 16 → (FloatKind.f64.decode (FloatKind.f64.nearest k)).toInt .zero = some (k : Int) := by decide +kernel

theorem float_int : ∀ k : Nat, k < 16 → floatToIntVal .f64 (floatOfInt .f64 (k : Int)) .i64 = some (k : Int) := by decide +kernel
/-- What the i-th of n members gets of some partitions, by ranges. -/
def rlo (m n i : Nat) : Nat := i * (m / n) + min (m % n) i
def rhi (m n i : Nat) : Nat := rlo m n i + m / n + (if i < m % n then 1 else 0)
def rpart (ps : List Int) (n i : Nat) : List Int := (ps.take (rhi ps.length n i)).drop (rlo ps.length n i)
def rfold (f : ByteArray → ByteArray → List Int) (ids : List ByteArray) (t : ByteArray) (ps : List Int) (n : Nat) : Nat → ByteArray → ByteArray → List Int
  | 0 => f
  | j + 1 => let g := rfold f ids t ps n j
    match ids[j]? with
    | some k => upd2 g k t (g k t ++ rpart ps n j)
    | none => g
theorem rpart_len (ps : List Int) (n i : Nat) : (rpart ps n i).length ≤ ps.length := by
  simp only [rpart, List.length_drop, List.length_take]
  omega
theorem rfold_len (f : ByteArray → ByteArray → List Int) (ids : List ByteArray) (t : ByteArray) (ps : List Int) (n : Nat) (k s : ByteArray) : ∀ j, (rfold f ids t ps n j k s).length ≤ (f k s).length + j * ps.length
  | 0 => by simp [rfold]
  | j + 1 => by
    have h := rfold_len f ids t ps n k s j
    have h2 := rpart_len ps n j
    rw [Nat.add_mul]
    cases hj : ids[j]? with
    | some k' =>
      simp only [rfold, hj]
      by_cases hk : k = k' ∧ s = t
      · rw [hk.1, hk.2] at h ⊢
        simp only [upd2, and_self, if_true, List.length_append]
        omega
      · simp only [upd2, hk, if_false]
        omega
    | none =>
      simp only [rfold, hj]
      omega
theorem rhi_le (m n i : Nat) (hi : i < n) : rhi m n i ≤ m := by
  have hm := Nat.div_add_mod m n
  have hr := Nat.mod_lt m (show 0 < n by omega)
  have : (i + 1) * (m / n) ≤ n * (m / n) := Nat.mul_le_mul_right _ (by omega)
  rw [Nat.add_mul] at this
  unfold rhi rlo
  split <;> omega
theorem rlo_le (m n i : Nat) : rlo m n i ≤ rhi m n i := Nat.le_trans (Nat.le_add_right _ _) (Nat.le_add_right _ _)
theorem wl_slice {P : Program} {ops : Array Oper} {Q : Exit → Act → World → Prop} {o : Oper} {rest : List Oper} {a : Act} {w : World} {v : Value} (hg : o.guard = none) (t : TypeId) (x lo hi : Operand) (hop : o.op = .slice t x (some lo) (some hi) none)
    (hrun : (Instr.sliceAt t (a.eval x) (some (a.eval lo)) (some (a.eval hi)) none).run P w = .ok v w) (h : wpList P ops Q rest (a.put o.dst v) w) : wpList P ops Q (o :: rest) a w :=
  wl_value hg (by simp [execOp, hop, hrun, Result.andThen]) h
set_option maxRecDepth 100000 in
set_option maxHeartbeats 1600000 in
/-- The core of the strategy by ranges. -/
theorem rangeCore_any (S : List Nat) (b : Nat) (f : ByteArray → ByteArray → List Int) (g n cap : Nat) (ids : List ByteArray) (topic : ByteArray) (v : Value) (X : Nat → Prop) (ps : List Int) (w : World)
    (hP : PlanIs w S b f) (hu : w.ownsRow 0 9 1 (.slice (some ⟨g, 0, none⟩) n cap) n (strs ids)) (hg : g ∉ S) (hv : SlAt w X 1 v (ints ps)) (hX : ∀ x, X x → x ∉ S ∧ x ≠ g ∧ x < w.heap.size) (hn1 : 1 ≤ n) (hn6 : n ≤ 7) (hps : ps.length ≤ 1000000) (hf : ∀ k t, (f k t).length ≤ 1000000) :
    Calls Tryz.prog 72 #[.map (some b), .slice (some ⟨g, 0, none⟩) n cap, .string topic, v] w fun e w' => e = .returned (.tuple #[]) ∧ ∃ S', PlanIs w' S' b (rfold f (srt ids) topic ps n n) ∧ Kept (g :: S) w w' ∧ ∀ x ∈ S', x ∈ S ∨ w.heap.size ≤ x := by
  obtain ⟨A, m, c, hvv, hvs⟩ : ∃ A m c, v = .slice A m c ∧ SlAt w X 1 v (ints ps) := by
    obtain ⟨A, m, c, h, h2⟩ := hv
    exact ⟨A, m, c, h, A, m, c, h, h2⟩
  subst hvv
  have hpm : ps.length = m := by
    obtain ⟨A', m', c', h, h2, _⟩ := hvs
    injection h with e1 e2 e3
    have := h2.1
    simp [ints] at this
    omega
  have hglt : g < w.heap.size := own_lt hu g rfl
  have hS := sortStrings_own g n cap ids w hu (by omega)
  have HS := Lib.hid hS
  have hl1 : (srt ids).length = n := by rw [srt_len]; exact (own_holds hu).2.2.1
  obtain ⟨l1, hl⟩ : ∃ l1, srt ids = l1 := ⟨_, rfl⟩
  rw [hl] at HS hl1 ⊢
  have HP := Lib.hid hP
  have HV := Lib.hid hvs
  have HX := Lib.hid hX
  have HF := Lib.hid hf
  clear hP hu hvs hX hf hS hv hl
  obtain ⟨q, hq⟩ : ∃ q, ps.length / n = q := ⟨_, rfl⟩
  obtain ⟨r, hr⟩ : ∃ r, ps.length % n = r := ⟨_, rfl⟩
  have hqm : q ≤ 1000000 := by rw [← hq]; exact Nat.le_trans (Nat.div_le_self _ _) hps
  have hrn : r < n := by rw [← hr]; exact Nat.mod_lt _ (by omega)
  have hquo : Int.tdiv (m : Int) (n : Int) = (q : Int) := by rw [← hq, hpm]; rfl
  have hrem : Int.tmod (m : Int) (n : Int) = (r : Int) := by rw [← hr, hpm]; rfl
  have hn0 : ¬ ((n : Int) = 0) := by omega
  have HPM := Lib.hid hpm
  clear hpm
  go_enter Tryz.func72, Tryz.ntmps72
  go_wp2_with (first | (with_reducible refine HS.out.mono ?_; rintro e w1 ⟨rfl, ho, hk⟩; have HO := Lib.hid ho; have HK := Lib.hid hk; clear ho hk))
  go_loopg [29] n (fun k x wr => ∃ j : Nat, k = n - j ∧ j ≤ n ∧ x = .int .i64 j ∧ wr.ownsRow 0 9 1 (.slice (some ⟨g, 0, none⟩) n cap) n (strs l1) ∧ ∃ S', PlanIs wr S' b (rfold f l1 topic ps n j) ∧ Kept (g :: S) w wr ∧ ∀ x ∈ S', x ∈ S ∨ w.heap.size ≤ x)
  case atStart =>
    refine ⟨0, rfl, Nat.zero_le _, rfl, HO.out, S, HP.out.kept HK.out (fun x hx hm => hg ((List.mem_singleton.1 hm) ▸ hx)), HK.out.mono (fun x hx => by simp at hx; simp [hx]), fun x hx => .inl hx⟩
  case round =>
    obtain ⟨j, hk, hj, rfl, ho, S1, hP1, hK1, hS1⟩ := hrel
    have HO1 := Lib.hid ho
    have HP1 := Lib.hid hP1
    have HK1 := Lib.hid hK1
    have HS1 := Lib.hid hS1
    clear ho hP1 hK1 hS1
    by_cases hlt : j < n
    · have hlt' : (j : Int) < (n : Int) := by omega
      obtain ⟨x, hx⟩ : ∃ x, l1[j]? = some x := ⟨_, List.getElem?_eq_getElem (by omega)⟩
      have hxc := (own_cell HO1.out (i := j) (v := .string x) (by simp [strs, hx])).1
      have HX1 := Lib.hid hx
      clear hx
      obtain ⟨k, hkm⟩ : ∃ k, min r j = k := ⟨_, rfl⟩
      have hm := fun W => min_any r j (by omega) (by omega) W
      rw [hkm] at hm
      have HM : Hid (∀ W, Calls Tryz.prog 74 #[Value.float FloatKind.f64 (floatOfInt FloatKind.f64 (r : Int)), Value.float FloatKind.f64 (floatOfInt FloatKind.f64 (j : Int))] W fun e w' => e = .returned (.float .f64 (floatOfInt .f64 (k : Int))) ∧ W = w') := hm
      obtain ⟨p, hp⟩ : ∃ p, j * q = p := ⟨_, rfl⟩
      have hjq : (j : Int) * (q : Int) = (p : Int) := by rw [← hp]; rfl
      have hpm : p ≤ 7000000 := by rw [← hp]; exact Nat.le_trans (Nat.mul_le_mul (show j ≤ 7 by omega) hqm) (by omega)
      have hkr : k ≤ 7 := by omega
      have hcb : ∀ W, (convert 126 3 (Value.float FloatKind.f64 (floatOfInt FloatKind.f64 (k : Int)))).run Tryz.prog W = .ok (.int .i64 k) W := fun W => run_convert_float_int W 126 3 .f64 .i64 _ _ (by kernel_rfl) Tryz.underlying3 (float_int k (by omega))
      clear hm
      have hsub : ∀ e, (e = if j < r then 1 else 0) → p + k + q + e = rhi ps.length n j ∧ p + k = rlo ps.length n j := by
        intro e he
        unfold rhi rlo
        rw [hq, hr, ← he]
        omega
      have HSUB := Lib.hid hsub
      clear hsub
      have hV1 : SlAt wr X 1 (.slice A m c) (ints ps) := HV.out.kept HK1.out (fun x hx hm => by
        have h := HX.out x hx
        rcases List.mem_cons.1 hm with h2 | h2
        · exact h.2.1 h2
        · exact h.1 h2)
      have hpart : ∀ e, (e = if j < r then 1 else 0) → ∃ v', (Instr.sliceAt 49 (.slice A m c) (some (.int .i64 ((p + k : Nat) : Int))) (some (.int .i64 ((p + k + q + e : Nat) : Int))) none).run Tryz.prog wr = .ok v' wr ∧ SlAt wr X 1 v' (ints (rpart ps n j)) := by
        intro e he
        have h1 := HSUB.out e he
        have h2 := rhi_le ps.length n j hlt
        have h3 := rlo_le ps.length n j
        obtain ⟨v', h4, h5⟩ := run_slice_sub (P := Tryz.prog) (t := 49) (e := 21) Tryz.underlying49 (by kernel_rfl) hV1 (p + k) (p + k + q + e) (by omega) (by have := HPM.out; omega)
        refine ⟨v', h4, ?_⟩
        have h6 : ints (rpart ps n j) = ((ints ps).take (p + k + q + e)).drop (p + k) := by
          rw [h1.1, h1.2]
          unfold rpart ints
          rw [List.map_drop, List.map_take]
        rw [h6]
        exact h5
      have hadd : ∀ v', SlAt wr X 1 v' (ints (rpart ps n j)) → Calls Tryz.prog 75 #[.map (some b), .string x, .string topic, v'] wr fun e w' => e = .returned (.tuple #[]) ∧ wr = wr ∧ ∃ S', PlanIs w' S' b (rfold f l1 topic ps n (j + 1)) ∧ Kept (g :: S) w w' ∧ w'.ownsRow 0 9 1 (.slice (some ⟨g, 0, none⟩) n cap) n (strs l1) ∧ ∀ x ∈ S', x ∈ S ∨ w.heap.size ≤ x := by
        intro v' hv'
        have h1 := rfold_len f l1 topic ps n x topic j
        have h2 := HF.out x topic
        have h3 := rpart_len ps n j
        have h4 : j * ps.length ≤ 7 * 1000000 := Nat.mul_le_mul (by omega) hps
        have hgS : g ∉ S1 := fun hm => by
          rcases HS1.out g hm with h | h
          · exact hg h
          · omega
        refine (add_any S1 b (rfold f l1 topic ps n j) x topic v' X (rpart ps n j) wr HP1.out hv' (fun y hy hm => ?_) (by omega)).mono ?_
        · have h := HX.out y hy
          rcases HS1.out y hm with h5 | h5
          · exact h.1 h5
          · omega
        · rintro e w' ⟨rfl, S2, hP2, hK2, hS2⟩
          refine ⟨rfl, rfl, S2, ?_, ?_, ?_, ?_⟩
          · simp only [rfold, HX1.out]
            exact hP2
          · exact HK1.out.trans hK2 (fun y hy => (HS1.out y hy).imp (fun h => .tail _ h) id)
          · exact hK2.own HO1.out (fun g' hg' hm => by
              have : g = g' := by simpa [Value.ownBlock] using hg'
              exact hgS (this ▸ hm))
          · intro y hy
            rcases hS2 y hy with h | h
            · exact HS1.out y h
            · have := HK1.out.size
              exact .inr (by omega)
      by_cases hjr : j < r
      · have hjr' : (j : Int) < (r : Int) := by omega
        obtain ⟨v', hv1, hv2⟩ := hpart 1 (by rw [if_pos hjr])
        have hv3 : (Instr.sliceAt 49 (.slice A m c) (some (.int .i64 ((p : Int) + k))) (some (.int .i64 ((p : Int) + k + q + 1))) none).run Tryz.prog wr = .ok v' wr := hv1
        have HV3 := Lib.hid hv3
        clear hv1 hv3
        have HADD := Lib.hid (hadd v' hv2)
        clear hpart hadd hv2 hV1
        go_wp2_with (first | (with_reducible refine (HM.out _).mono ?_; rintro e w2 ⟨rfl, rfl⟩) | (with_reducible refine HADD.out.mono ?_; rintro e w2 ⟨rfl, _, S2, hP2, hK2, ho2, hS2⟩; have HP2 := Lib.hid hP2; have HK2 := Lib.hid hK2; have HO2 := Lib.hid ho2; have HS2 := Lib.hid hS2; clear hP2 hK2 ho2 hS2) | (refine wl_slice rfl 49 (.tmp 55) (.tmp 56) (.tmp 57) rfl HV3.out ?_))
        go_roundg (n - (j + 1))
        case measure => omega
        case rel => exact ⟨j + 1, rfl, by omega, rfl, HO2.out, S2, HP2.out, HK2.out, HS2.out⟩
      · have hjr' : ¬ (j : Int) < (r : Int) := by omega
        obtain ⟨v', hv1, hv2⟩ := hpart 0 (by rw [if_neg hjr])
        have hv3 : (Instr.sliceAt 49 (.slice A m c) (some (.int .i64 ((p : Int) + k))) (some (.int .i64 ((p : Int) + k + q))) none).run Tryz.prog wr = .ok v' wr := hv1
        have HV3 := Lib.hid hv3
        clear hv1 hv3
        have HADD := Lib.hid (hadd v' hv2)
        clear hpart hadd hv2 hV1
        go_wp2_with (first | (with_reducible refine (HM.out _).mono ?_; rintro e w2 ⟨rfl, rfl⟩) | (with_reducible refine HADD.out.mono ?_; rintro e w2 ⟨rfl, _, S2, hP2, hK2, ho2, hS2⟩; have HP2 := Lib.hid hP2; have HK2 := Lib.hid hK2; have HO2 := Lib.hid ho2; have HS2 := Lib.hid hS2; clear hP2 hK2 ho2 hS2) | (refine wl_slice rfl 49 (.tmp 55) (.tmp 56) (.tmp 57) rfl HV3.out ?_))
        go_roundg (n - (j + 1))
        case measure => omega
        case rel => exact ⟨j + 1, rfl, by omega, rfl, HO2.out, S2, HP2.out, HK2.out, HS2.out⟩
    · obtain rfl : j = n := by omega
      have hlt' : ¬ (j : Int) < (j : Int) := by omega
      go_wp2
      refine bodyPost_end (results_none rfl _ _ _) rfl ?_
      exact ⟨rfl, S1, HP1.out, HK1.out, HS1.out⟩

end Go.Proofs.YtghgffhcdnmpnaaGreat
