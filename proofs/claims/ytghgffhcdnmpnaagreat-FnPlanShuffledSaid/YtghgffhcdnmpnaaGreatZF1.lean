/-
  sameParts, SamePlan: whether two plans are one. Conditions: none.
-/
import Derived.Test.YtghgffhcdnmpnaaGreatZE5
import Derived.ArgAppend
import Derived.BigGuard
import Derived.Deep.CutRange
namespace Go.Proofs.YtghgffhcdnmpnaaGreat
open Go.RowKit Go.Sort
theorem ints_at {l : List Int} {k : Nat} {y : Int} (h : l[k]? = some y) : (ints l)[k]? = some (.int .i32 y) := by simp [ints, h]
theorem same_take {α : Type} {a b : List α} {k : Nat} {x y : α} (hx : a[k]? = some x) (hy : b[k]? = some y) (h : a.take k = b.take k) (e : x = y) : a.take (k + 1) = b.take (k + 1) := by
  rw [take_one hx, take_one hy, h, e]
set_option maxHeartbeats 800000 in
theorem sameParts_any (a b : List Int) (A B : Option Addr) (c d : Nat) (w : World) (ha : SlIs w 1 A a.length (ints a)) (hb : SlIs w 1 B b.length (ints b)) :
    Calls Tryz.prog 46 #[.slice A a.length c, .slice B b.length d] w fun e w' => e = .returned (.bool (decide (a = b))) ∧ Kept [] w w' := by
  have h63 := ha.2.1
  have h64 := hb.2.1
  have HA := Lib.hid ha
  have HB := Lib.hid hb
  clear ha hb
  by_cases hl : a.length = b.length
  · have HL := Lib.hid hl
    obtain ⟨n, hn⟩ : ∃ n, a.length = n := ⟨_, rfl⟩
    rw [← hl] at HB h64 ⊢
    rw [hn] at HA HB h63 h64 ⊢
    have HN := Lib.hid hn
    clear hl hn
    go_enter Tryz.func46, Tryz.ntmps46
    go_wp2
    go_loopw [5] (fun i wr => ∃ k : Nat, k ≤ n ∧ i = .int .i64 k ∧ a.take k = b.take k ∧ Kept [] w wr) (fun i _ => n - (intOf i).toNat)
    case atStart => exact ⟨0, Nat.zero_le _, rfl, by simp, Kept.refl _ _⟩
    case round =>
      obtain ⟨k, hk, rfl, hab, hkr⟩ := hrel
      have HAB := Lib.hid hab
      have HKR := Lib.hid hkr
      clear hab hkr
      by_cases hlt : k < n
      · obtain ⟨x, hx⟩ : ∃ x, a[k]? = some x := ⟨_, List.getElem?_eq_getElem (by have := HN.out; omega)⟩
        obtain ⟨y, hy⟩ : ∃ y, b[k]? = some y := ⟨_, List.getElem?_eq_getElem (by have := HN.out; have := HL.out; omega)⟩
        obtain ⟨b1, o1, rfl, hc1⟩ := HA.out.2.2 (by omega)
        obtain ⟨b2, o2, rfl, hc2⟩ := HB.out.2.2 (by omega)
        have e1 : wr.cell? ⟨b1, o1 + k, none⟩ = some (.int .i32 x) := HKR.out.cell (hc1 k _ (ints_at hx)) (by simp)
        have e2 : wr.cell? ⟨b2, o2 + k, none⟩ = some (.int .i32 y) := HKR.out.cell (hc2 k _ (ints_at hy)) (by simp)
        have HX := Lib.hid hx
        have HY := Lib.hid hy
        clear hc1 hc2 hx hy
        go_wp2
        go_big_quiet (fail)
        go_wp2
        · go_ret
          refine ⟨ret_bool ?_, HKR.out.drewN _⟩
          have hne : x ≠ y := by simpa using ‹(x != y) = true›
          rw [eq_comm, decide_eq_false_iff_not]
          rintro rfl
          exact hne (Option.some.inj (HX.out.symm.trans HY.out))
        · have hxy : x = y := by simpa using ‹(x != y) = false›
          go_roundw
          case rel => exact ⟨k + 1, by omega, by go_num, same_take HX.out HY.out HAB.out hxy, HKR.out.drewN _⟩
          case measure => (simp [intOf]) <;> omega
      · go_wp2
        go_ret
        refine ⟨ret_bool ?_, HKR.out⟩
        have h := HAB.out
        rw [List.take_of_length_le (by have := HN.out; omega), List.take_of_length_le (by have := HN.out; have := HL.out; omega)] at h
        rw [decide_eq_true h]
  · have hd : decide (a = b) = false := by
      rw [decide_eq_false_iff_not]
      rintro rfl
      exact hl rfl
    have hl2 : ¬ (a.length : Int) = b.length := by omega
    go_enter Tryz.func46, Tryz.ntmps46
    go_wp2
    go_ret
    exact ⟨ret_bool hd.symm, Kept.refl _ _⟩
theorem beq_self {s : ByteArray} : (s.toList == s.toList) = true := by simp
set_option maxRecDepth 100000 in
set_option maxHeartbeats 1600000 in
/-- Two plans of the same shares. -/
theorem samePlan_any (X Y : Nat → Prop) (av bv : Value) (ts : List Sh) (w : World) (ha : ShsAt w X av ts) (hb : ShsAt w Y bv ts) :
    Calls Tryz.prog 23 #[av, bv] w fun e w' => e = .returned (.bool true) ∧ Kept [] w w' := by
  obtain ⟨la, hla, ⟨A, n, c, rfl, hsa, _, _⟩, hpa⟩ := ha
  obtain ⟨lb, hlb, ⟨B, m, d, rfl, hsb, _, _⟩, hpb⟩ := hb
  have hna : la.length = n := by have := hsa.1; rw [flat_len shCells 3 (fun _ => rfl)] at this; omega
  have hnb : lb.length = m := by have := hsb.1; rw [flat_len shCells 3 (fun _ => rfl)] at this; omega
  have hlab : la.length = lb.length := by have := congrArg List.length (hla.trans hlb.symm); simpa using this
  obtain rfl : n = m := by omega
  have HA := Lib.hid hsa
  have HB := Lib.hid hsb
  have HPA := Lib.hid hpa
  have HPB := Lib.hid hpb
  have HNA := Lib.hid hna
  have HNB := Lib.hid hnb
  have HAB := Lib.hid (hla.trans hlb.symm)
  have h63 := hsa.2.1
  have HS := Lib.hid sameParts_any
  clear hsa hsb hpa hpb hna hnb hlab hla hlb
  go_enter Tryz.func23, Tryz.ntmps23
  go_wp2
  go_loopw [5] (fun i wr => ∃ k : Nat, k ≤ n ∧ i = .int .i64 k ∧ Kept [] w wr) (fun i _ => n - (intOf i).toNat)
  case atStart => exact ⟨0, Nat.zero_le _, rfl, Kept.refl _ _⟩
  case round =>
    obtain ⟨k, hk, rfl, hkr⟩ := hrel
    have HKR := Lib.hid hkr
    clear hkr
    by_cases hlt : k < n
    · obtain ⟨p, hp⟩ : ∃ x, la[k]? = some x := ⟨_, List.getElem?_eq_getElem (by have := HNA.out; omega)⟩
      obtain ⟨q, hq⟩ : ∃ y, lb[k]? = some y := ⟨_, List.getElem?_eq_getElem (by have := HNB.out; omega)⟩
      have hpq : p.1 = q.1 := by
        have h := congrArg (fun l : List Sh => l[k]?) HAB.out
        simpa [hp, hq] using h
      obtain ⟨b1, o1, rfl, hc1⟩ := HA.out.2.2 (by omega)
      obtain ⟨b2, o2, rfl, hc2⟩ := HB.out.2.2 (by omega)
      obtain ⟨A3, n3, c3, h3, hs3, _, _⟩ := HPA.out p (List.mem_of_getElem? hp)
      obtain ⟨A4, n4, c4, h4, hs4, _, _⟩ := HPB.out q (List.mem_of_getElem? hq)
      have ep := sh_cells hc1 hp
      have eq' := sh_cells hc2 hq
      obtain ⟨⟨pm, pt, pp⟩, pv⟩ := p
      obtain ⟨⟨qm, qt, qp⟩, qv⟩ := q
      simp only at hpq h3 h4 hs3 hs4 ep eq'
      cases hpq
      subst h3 h4
      obtain rfl : n3 = pp.length := by have := hs3.1; simpa [ints] using this.symm
      obtain rfl : n4 = pp.length := by have := hs4.1; simpa [ints] using this.symm
      have hq1 : ∀ n : KW wr, n.w.cell? ⟨b1, o1 + k * 3, none⟩ = some (.string pm) := fun n => (HKR.out.trans0 n.k).cell (ep 0 _ rfl) (by simp)
      have hq2 := fun n : KW wr => (HKR.out.trans0 n.k).cell (ep 1 _ rfl) (by simp)
      have hq3 := fun n : KW wr => (HKR.out.trans0 n.k).cell (ep 2 _ rfl) (by simp)
      have hq4 : ∀ n : KW wr, n.w.cell? ⟨b2, o2 + k * 3, none⟩ = some (.string pm) := fun n => (HKR.out.trans0 n.k).cell (eq' 0 _ rfl) (by simp)
      have hq5 := fun n : KW wr => (HKR.out.trans0 n.k).cell (eq' 1 _ rfl) (by simp)
      have hq6 := fun n : KW wr => (HKR.out.trans0 n.k).cell (eq' 2 _ rfl) (by simp)
      have HSP : Hid (∀ nk : KW wr, Calls Tryz.prog 46 #[.slice A3 pp.length c3, .slice A4 pp.length c4] nk.w fun e w' => e = .returned (.bool true) ∧ Kept [] nk.w w') := fun nk =>
        (HS.out pp pp A3 A4 c3 c4 nk.w (hs3.kept0 (HKR.out.trans0 nk.k)) (hs4.kept0 (HKR.out.trans0 nk.k))).mono fun e w' h => ⟨by rw [h.1]; simp, h.2⟩
      clear hc1 hc2 hp hq ep eq' hs3 hs4
      go_wp2
      refine wp_region_quiet_k (by kernel_rfl) (by kernel_rfl) ?_
      repeat (first
        | go_big_quiet_skip
        | (go_big_quiet_want; go_big_quiet_op; first | go_big_quiet_on | go_big_quiet_call (exact Calls.quiet_k (HSP.out _))))
      refine wpQuiet_nil ?_
      intro _ hw'
      obtain ⟨⟨wq, hkq⟩, hw''⟩ := hw'
      subst hw''
      go_wp2
      go_roundw
      case rel => exact ⟨k + 1, by omega, by go_num, HKR.out.trans0 hkq⟩
      case measure => (simp [intOf]) <;> omega
    · go_wp2
      go_ret
      exact ⟨rfl, HKR.out⟩
end Go.Proofs.YtghgffhcdnmpnaaGreat
/-
  Facts for share: slices cut short, an append onto a slice without room, the new share's region. Conditions: those of each lemma.
-/
namespace Go.Proofs.YtghgffhcdnmpnaaGreat
open Go.RowKit Go.Sort
theorem run_slice_cut {P : Program} {w : World} {t e : TypeId} {sz : Nat} (ht : P.underlying t = some (.slice e)) (hi : (P.info? e).map (·.size) = some sz) (a : Addr) (n c j : Nat) (hj : j ≤ c) :
    (Instr.sliceAt t (.slice (some a) n c) none (some (.int .i64 j)) (some (.int .i64 j))).run P w = .ok (.slice (some a) j j) w := by
  have hel : P.elem t = e := by simp [Program.elem, ht]
  have ht' : P.underlying t = some (.slice (P.elem t)) := by rw [hel, ht]
  cases hq : P.info? e with
  | none => simp [hq] at hi
  | some i =>
    have his : i.size = sz := by simpa [hq] using hi
    rw [run_sliceAt_slice (P := P) (w := w) t _ _ _ _ ht', run_slice_hm (P := P) (w := w) t _ _ _ ht' _ _ _ _ (by omega) (by omega) (by omega), hel]
    by_cases h0 : j = 0
    · subst h0
      simp [sizeOf, typeInfo, hq, his, Result.andThen, sliced]
    · simp [sizeOf, typeInfo, hq, his, Result.andThen, sliced, h0, Addr.add]
theorem run_slice_from {P : Program} {w : World} {X : Nat → Prop} {t e : TypeId} {A : Option Addr} {m c : Nat} {xs : List Value} {sz : Nat} (ht : P.underlying t = some (.slice e)) (hi : (P.info? e).map (·.size) = some sz) (h : SlAt w X sz (.slice A m c) xs) (lo : Nat) (h1 : lo ≤ m) :
    ∃ v', (Instr.sliceAt t (.slice A m c) (some (.int .i64 lo)) none none).run P w = .ok v' w ∧ SlAt w X sz v' (xs.drop (lo * sz)) := by
  obtain ⟨v', hr, hat⟩ := run_slice_subN ht hi h lo m h1 (Nat.le_refl _)
  have hcm : m ≤ c := by
    obtain ⟨A', n', c', he, _, _, hc⟩ := h
    cases he
    exact hc
  have hlen : xs.length = m * sz := by
    obtain ⟨A', n', c', he, hs, _, _⟩ := h
    cases he
    exact hs.1
  have hel : P.elem t = e := by simp [Program.elem, ht]
  have ht' : P.underlying t = some (.slice (P.elem t)) := by rw [hel, ht]
  refine ⟨v', ?_, by rw [List.take_of_length_le (by omega)] at hat; exact hat⟩
  rw [← hr, run_sliceAt_slice (P := P) (w := w) t _ _ _ _ ht', run_sliceAt_slice (P := P) (w := w) t _ _ _ _ ht', run_slice_l (P := P) (w := w) t _ _ _ ht' _ _ (by omega) (by omega), run_slice_lh (P := P) (w := w) t _ _ _ ht' _ _ _ _ (by omega) (by omega) (by omega)]
  simp
theorem run_append_row_grows {P : Program} {w : World} {ty : TypeId} (t e : TypeId) {z : Value} {size bytes : Nat} (ht : P.underlying t = some (.slice e)) (hinfo : (P.info? e).map (fun i => (i.zero, i.size, i.bytes)) = some (some z, size, bytes)) (hzs : z.cells.size = size) (hsz : 0 < size)
    {b : Addr} {n cap : Nat} {olds : List Value} (hA : SlIs w size (some b) n olds) (hcap : cap ≤ n) {A2 : Option Addr} {m c : Nat} {news : List Value} (hB : SlIs w size A2 m news) (h1 : 1 ≤ m) (hs : n + m ≤ 1000000) (hby : bytes ≤ 1000) :
    ∃ v' w', (Builtin.append_ #[t, t] ty #[.slice (some b) n cap, .slice A2 m c]).run P w = .ok v' w' ∧ w'.ownsRow w.heap.size e size v' (n + m) (olds ++ news) ∧ w.grownBy w' none := by
  obtain ⟨i, hi, h2⟩ := Option.map_eq_some_iff.1 hinfo
  simp only [Prod.mk.injEq] at h2
  obtain ⟨hz, hsize, hbytes⟩ := h2
  obtain ⟨b2, o2, rfl, hc2⟩ := hB.2.2 (by omega)
  have hadd : ∀ (b o j : Nat), (⟨b, o, none⟩ : Addr).add j = ⟨b, o + j, none⟩ := fun b o j => by unfold Addr.add; split <;> simp_all
  refine run_append_arg_grows (P := P) w t ty e i z size bytes ht hi hz hsize hbytes hzs hsz b n cap olds hA.1 (fun j u hj => ?_) ⟨b2, o2, none⟩ m c news hB.1 (fun j u hj => by rw [hadd]; exact hc2 j u hj) (by omega) (by simp only [maxLen]; omega) ?_
  · rcases Nat.eq_zero_or_pos n with h0 | h0
    · have h3 := hA.1
      have h4 := (List.getElem?_eq_some_iff.1 hj).1
      rw [h0] at h3
      omega
    · obtain ⟨b1, o1, he, hc1⟩ := hA.2.2 h0
      cases he
      rw [hadd]
      exact hc1 j u hj
  · exact Nat.le_trans (Nat.mul_le_mul hs hby) (by decide)
theorem ow_append_at {P : Program} {o : Oper} {a : Act} {w w' : World} {v u v' : Value} {Q : Exit → Act → World → Prop} {K : Act → World → Prop} (s x : Operand) (t : TypeId) (ho : o.op = .call { callee := .builtin .append, args := #[s, x], argTypes := #[t, t] })
    (hs : a.eval s = v) (hx : a.eval x = u) (hr : (Builtin.append_ #[t, t] o.type #[v, u]).run P w = .ok v' w') (h : K (a.put o.dst v') w') : o.wp P a w K Q := by
  unfold Oper.wp execOp
  simp only [ho, resolve, invoke, builtin, Sem.run_bind, Sem.run_pure, Result.andThen_ok, List.map_toArray, List.map_cons, List.map_nil, hs, hx, hr]
  exact h
/-- A row just laid. -/
theorem own_new (w : World) (e : TypeId) (s n : Nat) (cs : Array Value) (base : Nat) (hb : base ≤ w.heap.size) (hn : n ≤ 100) (hs : cs.size = n * s) {k : Nat} (hk : w.heap.size = k) : (w.alloc (.cells cs e)).ownsRow base e s (.slice (some ⟨k, 0, none⟩) n n) n cs.toList := by
  subst hk
  exact World.ownsRow_lit w cs n hb (by simp [maxLen]; omega) hs
theorem own_row {w : World} {base : Nat} {e : TypeId} {s n c : Nat} {A : Option Addr} {xs : List Value} (h : w.ownsRow base e s (.slice A n c) n xs) (hn : 0 < n) : ∃ g, A = some ⟨g, 0, none⟩ := by
  rcases h.2 with ⟨h1, h2⟩ | ⟨g, cap, cur, h1, _⟩
  · omega
  · injection h1 with h1
    exact ⟨g, h1⟩
theorem slt_asymm {a b : ByteArray} (h : slt a b = true) : slt b a = false := by
  cases h2 : slt b a with
  | false => rfl
  | true =>
    have := slt_trans h h2
    rw [slt_irrefl] at this
    cases this
theorem own_slis {w : World} {base : Nat} {e : TypeId} {s n c : Nat} {A : Option Addr} {xs : List Value} (h : w.ownsRow base e s (.slice A n c) n xs) : SlIs w s A n xs := by
  obtain ⟨A', c', he, hs, _⟩ := own_sl h
  cases he
  exact hs
def sh9F (g n c j B : Nat) (m t : ByteArray) (x : Int) (xs1 xs2 : List Value) (ix : Nat) (v : Value) (W : World) : Prop :=
  match ix with
  | 0 => v = .slice (some ⟨g, 0, none⟩) n c
  | 1 => v = .int .i64 j
  | 2 => v = .int .i64 j
  | 3 => v = .slice (some ⟨g, 0, none⟩) j j
  | 4 => v = .string m
  | 5 => v = .string t
  | 6 => v = .int .i32 x
  | 7 => ∃ k, v = .slice (some ⟨k, 0, none⟩) 1 1 ∧ W.ownsRow B 21 1 (.slice (some ⟨k, 0, none⟩) 1 1) 1 [.int .i32 x]
  | 8 => ∃ k, v = .agg #[.string m, .string t, .slice (some ⟨k, 0, none⟩) 1 1] ∧ W.ownsRow B 21 1 (.slice (some ⟨k, 0, none⟩) 1 1) 1 [.int .i32 x]
  | 9 => ∃ k r, v = .slice (some ⟨r, 0, none⟩) 1 1 ∧ W.ownsRow B 53 3 (.slice (some ⟨r, 0, none⟩) 1 1) 1 [.string m, .string t, .slice (some ⟨k, 0, none⟩) 1 1] ∧ W.ownsRow B 21 1 (.slice (some ⟨k, 0, none⟩) 1 1) 1 [.int .i32 x]
  | 10 => v = .slice (some ⟨g, 0, none⟩) n c
  | 11 => v = .int .i64 j
  | 12 => SlAt W (fun y => y = g) 3 v xs2
  | 13 => ∃ k, W.ownsRow B 53 3 v (1 + (n - j)) ([.string m, .string t, .slice (some ⟨k, 0, none⟩) 1 1] ++ xs2) ∧ W.ownsRow B 21 1 (.slice (some ⟨k, 0, none⟩) 1 1) 1 [.int .i32 x]
  | 14 => ∃ k, W.ownsRow B 53 3 v (j + (1 + (n - j))) (xs1 ++ ([.string m, .string t, .slice (some ⟨k, 0, none⟩) 1 1] ++ xs2)) ∧ W.ownsRow B 21 1 (.slice (some ⟨k, 0, none⟩) 1 1) 1 [.int .i32 x]
  | _ => True
theorem sh9F_stable {g n c j B m t x xs1 xs2} : ∀ ix v w w', sh9F g n c j B m t x xs1 xs2 ix v w → Kept [] w w' → sh9F g n c j B m t x xs1 xs2 ix v w' := by
  intro ix v w w' h k2
  unfold sh9F at h ⊢
  split at h <;> (first | (exact h) | (obtain ⟨k, h1, h2⟩ := h; exact ⟨k, h1, own_kept0 h2 k2⟩) | (obtain ⟨k, r, h1, h2, h3⟩ := h; exact ⟨k, r, h1, own_kept0 h2 k2, own_kept0 h3 k2⟩) | (obtain ⟨k, h1, h2⟩ := h; exact ⟨k, own_kept0 h1 k2, own_kept0 h2 k2⟩) | (exact SlAt.kept0 h k2))
end Go.Proofs.YtghgffhcdnmpnaaGreat
/-
  share: a partition put into a plan in order. Conditions: a plan in memory that the caller owns.
-/
namespace Go.Proofs.YtghgffhcdnmpnaaGreat
open Go.RowKit Go.Sort
/-- A plan in memory of one's own. -/
structure PlanV (w : World) (base : Nat) (v : Value) (L : List (Sh × Value)) : Prop where
  row : w.ownsRow base 53 3 v L.length (shFlat L)
  parts : ∀ p ∈ L, w.ownsRow base 21 1 p.2 p.1.parts.length (ints p.1.parts)
  few : L.length ≤ 100000
  short : ∀ p ∈ L, p.1.parts.length ≤ 100000
theorem PlanV.kept0 {w w' : World} {base : Nat} {v : Value} {L : List (Sh × Value)} (h : PlanV w base v L) (k : Kept [] w w') : PlanV w' base v L :=
  ⟨own_kept0 h.row k, fun p hp => own_kept0 (h.parts p hp) k, h.few, h.short⟩
theorem flat_cut (L : List (Sh × Value)) (j : Nat) : (shFlat L).take (j * 3) = shFlat (L.take j) ∧ (shFlat L).drop (j * 3) = shFlat (L.drop j) := by
  have h : shFlat L = shFlat (L.take j) ++ shFlat (L.drop j) := by
    rw [shFlat, shFlat, shFlat, ← List.flatMap_append, List.take_append_drop]
  rcases Nat.lt_or_ge L.length j |>.symm with hj | hj
  · have hl : (shFlat (L.take j)).length = j * 3 := by rw [shFlat_len, List.length_take, Nat.min_eq_left hj]
    rw [h, ← hl]
    exact ⟨List.take_left, List.drop_left⟩
  · have hl : (shFlat L).length ≤ j * 3 := by rw [shFlat_len]; omega
    rw [List.take_of_length_le hl, List.drop_eq_nil_of_le hl, List.take_of_length_le (by omega), List.drop_eq_nil_of_le (by omega)]
    exact ⟨rfl, rfl⟩
theorem shareP_new {L : List Sh} {m t : ByteArray} {x : Int} {j : Nat} {p : Sh} (hp : L[j]? = some p) (h1 : ¬ (p.mem = m ∧ p.top = t)) (h2 : slt m p.mem = true ∨ (p.mem = m ∧ slt t p.top = true)) (h : shareP L m t x = L.take j ++ shareP (L.drop j) m t x) :
    L.take j ++ ⟨m, t, [x]⟩ :: L.drop j = shareP L m t x := by
  obtain ⟨hj, e⟩ := List.getElem?_eq_some_iff.1 hp
  rw [h, List.drop_eq_getElem_cons hj, e, shareP, if_neg h1, if_pos h2]
theorem flat_set2 {L : List (Sh × Value)} {j : Nat} {p : Sh × Value} (hp : L[j]? = some p) (q : Sh) (v : Value) (h1 : q.mem = p.1.mem) (h2 : q.top = p.1.top) : (shFlat L).set (j * 3 + 2) v = shFlat (L.set j (q, v)) := by
  obtain ⟨hj, e⟩ := List.getElem?_eq_some_iff.1 hp
  have hl : j * 3 + 2 < (shFlat L).length := by rw [shFlat_len]; omega
  apply List.ext_getElem?
  intro i
  obtain ⟨a, b, hb, rfl⟩ : ∃ a b, b < 3 ∧ i = a * 3 + b := ⟨i / 3, i % 3, Nat.mod_lt _ (by decide), by omega⟩
  rw [show shFlat (L.set j (q, v)) = (L.set j (q, v)).flatMap shCells from rfl, flat_get shCells 3 sh_len (by decide) _ a b hb, List.getElem?_set]
  have hf : (shFlat L)[a * 3 + b]? = (L[a]?).bind fun x => (shCells x)[b]? := flat_get shCells 3 sh_len (by decide) L a b hb
  by_cases haj : a = j
  · subst haj
    rw [List.getElem?_set_self hj]
    rw [hp] at hf
    by_cases hb2 : b = 2
    · subst hb2
      rw [if_pos rfl, if_pos hl]
      rfl
    · rw [if_neg (by omega), hf]
      have : b = 0 ∨ b = 1 := by omega
      rcases this with rfl | rfl <;> simp [shCells, h1, h2]
  · rw [if_neg (by omega), List.getElem?_set_ne (fun h => haj h.symm), hf]
theorem shareP_hit {L : List Sh} {m t : ByteArray} {x : Int} {j : Nat} {ps : List Int} (hp : L[j]? = some ⟨m, t, ps⟩) (h : shareP L m t x = L.take j ++ shareP (L.drop j) m t x) :
    L.set j ⟨m, t, ps ++ [x]⟩ = shareP L m t x := by
  obtain ⟨hj, e⟩ := List.getElem?_eq_some_iff.1 hp
  rw [h, List.drop_eq_getElem_cons hj, e, shareP, if_pos ⟨rfl, rfl⟩, List.set_eq_take_append_cons_drop, if_pos hj]
def ShareR (w : World) (base : Nat) (v : Value) (L : List (Sh × Value)) (m t : ByteArray) (x : Int) (e : Ending) (w' : World) : Prop :=
  ∃ v' L', e = .returned v' ∧ w'.ownsRow base 53 3 v' L'.length (shFlat L') ∧ (∀ p ∈ L', w'.ownsRow base 21 1 p.2 p.1.parts.length (ints p.1.parts)) ∧ L'.map Prod.fst = shareP (L.map Prod.fst) m t x ∧ (∀ g, v'.ownBlock = some g → v.ownBlock = some g ∨ w.heap.size ≤ g) ∧ Kept v.ownBlock.toList w w'
theorem shareP_skip {L : List Sh} {m t : ByteArray} {x : Int} {j : Nat} {p : Sh} (hp : L[j]? = some p) (h1 : ¬ (p.mem = m ∧ p.top = t)) (h2 : ¬ (slt m p.mem = true ∨ (p.mem = m ∧ slt t p.top = true))) (h : shareP L m t x = L.take j ++ shareP (L.drop j) m t x) :
    shareP L m t x = L.take (j + 1) ++ shareP (L.drop (j + 1)) m t x := by
  rw [h, take_one hp, List.append_assoc]
  congr 1
  have hd : L.drop j = p :: L.drop (j + 1) := by
    obtain ⟨hj, e⟩ := List.getElem?_eq_some_iff.1 hp
    rw [List.drop_eq_getElem_cons hj, e]
  rw [hd, shareP, if_neg h1, if_neg h2]
  rfl
set_option maxRecDepth 100000 in
set_option maxHeartbeats 40000000 in
theorem share_any (base : Nat) (v : Value) (L : List (Sh × Value)) (m t : ByteArray) (x : Int) (w : World) (hb : base ≤ w.heap.size) (h : PlanV w base v L) :
    Calls Tryz.prog 48 #[v, .string m, .string t, .int .i32 x] w (ShareR w base v L m t x) := by
  obtain ⟨A, c, rfl⟩ := own_form h.row
  obtain ⟨n, hn⟩ : ∃ n, L.length = n := ⟨_, rfl⟩
  have hrow := h.row
  have hcap := own_cap h.row
  rw [hn] at hrow hcap ⊢
  have hfew := h.few
  have HP := Lib.hid h
  have HR := Lib.hid hrow
  have HN := Lib.hid hn
  clear h hrow
  rw [hn] at hfew
  clear hn
  go_enter Tryz.func48, Tryz.ntmps48
  go_wp2
  go_loopw [9] (fun i wr => ∃ j : Nat, j ≤ n ∧ i = .int .i64 j ∧ shareP (L.map Prod.fst) m t x = (L.map Prod.fst).take j ++ shareP ((L.map Prod.fst).drop j) m t x ∧ Kept [] w wr) (fun i _ => n - (intOf i).toNat)
  case atStart => exact ⟨0, Nat.zero_le _, rfl, by simp, Kept.refl _ _⟩
  case round =>
    obtain ⟨j, hj, rfl, hsh, hkr⟩ := hrel
    have HSH := Lib.hid hsh
    have HKR := Lib.hid hkr
    clear hsh hkr
    by_cases hlt : j < n
    · obtain ⟨g, rfl⟩ := own_row HR.out (by omega)
      obtain ⟨⟨⟨pm, pt, ps⟩, pv⟩, hp⟩ : ∃ p, L[j]? = some p := ⟨_, List.getElem?_eq_getElem (by have := HN.out; omega)⟩
      have HC := Lib.hid (own_cells3 (own_kept0 HR.out HKR.out) hp)
      have HPJ := Lib.hid hp
      obtain ⟨A2, c2, hpv⟩ := own_form (HP.out.parts _ (List.mem_of_getElem? hp))
      simp only at hpv
      subst hpv
      have HPO := Lib.hid (HP.out.parts _ (List.mem_of_getElem? hp))
      obtain ⟨np, hnp⟩ : ∃ np, ps.length = np := ⟨_, rfl⟩
      simp only at HPO
      rw [hnp] at HPO HC HPJ
      have HNP := Lib.hid hnp
      clear hp hnp
      have HC2 : Hid (∀ i v, [Value.string pm, .string pt, .slice A2 np c2][i]? = some v → wr.cell? ⟨g, j * 3 + i, none⟩ = some v) := fun i v hv => HC.out i v hv
      have hsz := HKR.out.size
      have hnp9 : np ≤ 100000 := by
        have h1 := HP.out.short _ (List.mem_of_getElem? HPJ.out)
        have h2 := HNP.out
        simp only at h1
        omega
      by_cases hm : pm = m
      · subst hm
        by_cases ht : pt = t
        · subst ht
          have HO0 := Lib.hid (fun o => own_new (wr.alloc o) 21 1 0 #[] w.heap.size (by simp; omega) (by omega) rfl (by simp : (wr.alloc o).heap.size = wr.heap.size + 1))
          have HS0 := Lib.hid (fun o o' => own_slis (own_kept0 HPO.out ((HKR.out.alloc o).alloc o')))
          go_wp2_with (first
            | (refine wl_load_struct rfl 53 _ rfl Tryz.underlying53 rfl rfl g (j * 3) rfl _ rfl HC2.out ?_)
            | (at_builtin; refine wl_append rfl _ _ 49 rfl w.heap.size 21 Tryz.underlying49 info21 rfl (by decide) _ 0 [] rfl (HO0.out _) A2 np c2 (ints ps) rfl (HS0.out _ _) (ints_one _) (by omega) (by omega) (by simp; omega) ?_; intro v1 w1 hown hk1 _; simp only [Nat.zero_add, List.nil_append] at hown; obtain ⟨A3, c3, rfl⟩ := own_form hown; have HO1 := Lib.hid hown; have HK1 : Hid (Kept [] w w1) := (((HKR.out.alloc _).alloc _).trans hk1 (fun x hx => .inr (by have hx : x ∈ [wr.heap.size + 1] := hx; have := List.mem_singleton.1 hx; omega))); clear hown hk1)
            | (at_builtin; refine wl_append rfl _ _ 49 rfl w.heap.size 21 Tryz.underlying49 info21 rfl (by decide) _ np (ints ps) rfl (own_kept0 HO1.out ((Kept.refl _ _).alloc _)) (some ⟨w1.heap.size, 0, none⟩) 1 1 [.int .i32 x] rfl (one_sl2 _ _ _ rfl) (by simp [Value.oneCell']) (by omega) (by omega) (by have := HK1.out.size; simp; omega) ?_; intro v2 w2 hown hk2 _; obtain ⟨A4, c4, rfl⟩ := own_form hown; have HO2 := Lib.hid hown; have HK2 : Hid (Kept [] w w2) := ((HK1.out.alloc _).trans hk2 (fun x hx => .inr (own_ge HO1.out x (Option.mem_toList.1 hx)))); have hc2 : w2.cell? ⟨g, j * 3 + 2, none⟩ = some (.slice A2 np c2) := HK2.out.cell ((own_cells3 HR.out HPJ.out) 2 _ rfl) (by simp); have hf2 : w2.frozen? ⟨g, j * 3 + 2, none⟩ = false := World.ownsRow.frozenAt (own_kept0 HR.out HK2.out) _; clear hown hk2))
          go_ret
          have hg : g < w.heap.size := own_lt HR.out g rfl
          have hst := World.ownsRow.stored (own_kept0 HR.out HK2.out) (j * 3 + 2) (.slice A4 (np + 1) c4)
          rw [flat_set2 HPJ.out ⟨pm, pt, ps ++ [x]⟩ (.slice A4 (np + 1) c4) rfl rfl] at hst
          have hother : ∀ {q : Sh × Value} {b : Nat}, w2.ownsRow b 21 1 q.2 q.1.parts.length (ints q.1.parts) → (w2.setCell ⟨g, j * 3 + 2, none⟩ (.slice A4 (np + 1) c4)).ownsRow b 21 1 q.2 q.1.parts.length (ints q.1.parts) := fun h =>
            ownsRow_setCell_other h (fun e => own_types_ne h (own_kept0 HR.out HK2.out) (by decide) g e (by simp [Value.ownBlock])) _
          refine ⟨_, L.set j (⟨pm, pt, ps ++ [x]⟩, .slice A4 (np + 1) c4), rfl, ?_, ?_, ?_, fun g' hg' => .inl hg', ?_⟩
          · rw [List.length_set, HN.out]
            exact hst.1
          · intro q hq
            rcases List.mem_or_eq_of_mem_set hq with h | rfl
            · exact hother (own_kept0 (HP.out.parts q h) HK2.out)
            · refine hother (q := (⟨pm, pt, ps ++ [x]⟩, .slice A4 (np + 1) c4)) ?_
              have h := own_mono HO2.out hb
              have h1 := HNP.out
              simp only [List.length_append, List.length_singleton, h1]
              have h2 : ints (ps ++ [x]) = ints ps ++ [.int .i32 x] := by simp [ints]
              rw [h2]
              exact h
          · rw [List.map_set]
            exact shareP_hit (by rw [List.getElem?_map, HPJ.out]; rfl) HSH.out
          · exact HK2.out.mono (by simp) |>.trans (Kept.of_grown hst.2) (fun x hx => .inl hx)
        · have hbe : (pt.toList == t.toList) = false := beq_ne ht
          have hb0 : Op.bytesLess pm.toList pm.toList = false := (bytesLess_slt _ _).trans (slt_irrefl _)
          have HNE : Hid (pt ≠ t) := ht
          cases hsl : slt t pt with
          | true =>
            have HGT : Hid (slt t pt = true) := hsl
            have hbl : Op.bytesLess pt.toList t.toList = false := (bytesLess_slt _ _).trans (slt_asymm hsl)
            clear hsl ht
            go_wp2_with (refine wl_load_struct rfl 53 _ rfl Tryz.underlying53 rfl rfl g (j * 3) rfl _ rfl HC2.out ?_)
            obtain ⟨w0, hw0⟩ : ∃ w0, wr.alloc (Obj.cells #[Value.string pm, .string pt, .slice A2 np c2] 53) = w0 := ⟨_, rfl⟩
            have HK0 : Hid (Kept [] w w0) := by rw [← hw0]; exact HKR.out.alloc _
            rw [hw0]
            clear hw0
            obtain ⟨B, hBB⟩ : ∃ B, w.heap.size = B := ⟨_, rfl⟩
            have HB : Hid (B ≤ w0.heap.size) := by rw [← hBB]; exact HK0.out.size
            obtain ⟨xs1, hx1⟩ : ∃ xs, (shFlat L).take (j * 3) = xs := ⟨_, rfl⟩
            obtain ⟨xs2, hx2⟩ : ∃ xs, (shFlat L).drop (j * 3) = xs := ⟨_, rfl⟩
            have HSL : Hid (∀ W, Kept [] w0 W → SlAt W (fun y => y = g) 3 (.slice (some ⟨g, 0, none⟩) n c) (shFlat L)) := fun W hW => ⟨_, n, c, rfl, own_slis (own_kept0 HR.out (HK0.out.trans0 hW)), fun a ha _ => by cases ha; rfl, hcap⟩
            have HSJ : Hid (∀ W, Kept [] w0 W → SlIs W 3 (some ⟨g, 0, none⟩) j xs1) := fun W hW => by
              obtain ⟨h1, h2, h3⟩ := own_slis (own_kept0 HR.out (HK0.out.trans0 hW))
              refine ⟨by rw [← hx1, List.length_take, h1]; omega, by omega, fun _ => ?_⟩
              obtain ⟨b, o, he, hc⟩ := h3 (by omega)
              refine ⟨b, o, he, fun i v hv => hc i v ?_⟩
              rw [← hx1, List.getElem?_take] at hv
              split at hv
              · exact hv
              · cases hv
            have HDL : Hid (xs2.length = (n - j) * 3) := by
              have h1 := HR.out.1
              have h2 : xs2.length = (shFlat L).length - j * 3 := by rw [← hx2, List.length_drop]
              have h3 : xs2.length = (n - j) * 3 := by omega
              exact h3
            have HD1 : Hid (1 ≤ n - j) := by
              have h : 1 ≤ n - j := by omega
              exact h
            have HX1 := Lib.hid hx1
            have HX2 := Lib.hid hx2
            clear hx1 hx2
            refine wp_region_facts' 15 (Kept []) (sh9F g n c j B pm t x xs1 xs2) mixed (by kernel_rfl) ((Kept.refl _ _).drew) (fun _ _ _ h k => h.trans0 k) sh9F_stable ?_ ?_
            · refine ⟨?_, ?_, ?_, ?_, ?_, ?_, ?_, ?_, ?_, ?_, ?_, ?_, ?_, ?_, ?_, trivial⟩
              all_goals go_light
              all_goals intro a W hR hs hd
              all_goals have p0 : a.tmps[0]? = some (.slice (some ⟨g, 0, none⟩) n c) := hs.2.2 0 (by decide)
              all_goals have p9 : a.tmps[9]? = some (.int .i64 j) := hs.2.2 9 (by decide)
              all_goals have p1 : a.tmps[1]? = some (.string pm) := hs.2.2 1 (by decide)
              all_goals have p2 : a.tmps[2]? = some (.string t) := hs.2.2 2 (by decide)
              all_goals have p3 : a.tmps[3]? = some (.int .i32 x) := hs.2.2 3 (by decide)
              all_goals have hRr : Kept [] W W := Kept.refl [] W
              · refine ow_value (w' := W) (v := .slice (some ⟨g, 0, none⟩) n c) ?_ (.mk hRr rfl rfl)
                simp [go_sem, p0]
              · refine ow_value (w' := W) (v := .int .i64 j) ?_ (.mk hRr rfl rfl)
                simp [go_sem, p9]
              · refine ow_value (w' := W) (v := .int .i64 j) ?_ (.mk hRr rfl rfl)
                simp [go_sem, p9]
              · have q0 : _ = _ := hd.1 rfl
                have q1 : _ = _ := hd.2.1 rfl
                have q2 : _ = _ := hd.2.2.1 rfl
                refine ow_value (w' := W) (v := .slice (some ⟨g, 0, none⟩) j j) ?_ (.mk hRr rfl rfl)
                have hrun := run_slice_cut (P := Tryz.prog) (w := W) (t := 30) (e := 53) (sz := 3) Tryz.underlying30 rfl ⟨g, 0, none⟩ n c j (by omega)
                simp [go_sem, q0, q1, q2, hrun]
              · refine ow_value (w' := W) (v := .string pm) ?_ (.mk hRr rfl rfl)
                simp [go_sem, p1]
              · refine ow_value (w' := W) (v := .string t) ?_ (.mk hRr rfl rfl)
                simp [go_sem, p2]
              · refine ow_value (w' := W) (v := .int .i32 x) ?_ (.mk hRr rfl rfl)
                simp [go_sem, p3]
              · have q6 : _ = _ := hd.1 rfl
                refine ow_value (w' := W.alloc (.cells #[.int .i32 x] 21)) (v := .slice (some ⟨W.heap.size, 0, none⟩) 1 1) ?_ (.mk (hRr.alloc _) ?_ rfl)
                · simp [go_sem, q6]
                · exact ⟨_, rfl, own_new W 21 1 1 #[.int .i32 x] B (Nat.le_trans HB.out hR.size) (by omega) rfl rfl⟩
              · have q4 : _ = _ := hd.1 rfl
                have q5 : _ = _ := hd.2.1 rfl
                have q7 := hd.2.2.1 rfl
                obtain ⟨k, q7, h7⟩ := q7
                change _ = _ at q7
                refine ow_value (w' := W) (v := .agg #[.string pm, .string t, .slice (some ⟨k, 0, none⟩) 1 1]) ?_ (.mk hRr ?_ rfl)
                · simp [go_sem, q4, q5, q7]
                · exact ⟨k, rfl, h7⟩
              · have q8 := hd.1 rfl
                obtain ⟨k, q8, h8⟩ := q8
                change _ = _ at q8
                refine ow_value (w' := W.alloc (.cells #[.string pm, .string t, .slice (some ⟨k, 0, none⟩) 1 1] 53)) (v := .slice (some ⟨W.heap.size, 0, none⟩) 1 1) ?_ (.mk (hRr.alloc _) ?_ rfl)
                · simp [go_sem, q8]
                · exact ⟨k, _, rfl, own_new W 53 3 1 #[.string pm, .string t, .slice (some ⟨k, 0, none⟩) 1 1] B (Nat.le_trans HB.out hR.size) (by omega) rfl rfl, own_kept0 h8 ((Kept.refl _ _).alloc _)⟩
              · refine ow_value (w' := W) (v := .slice (some ⟨g, 0, none⟩) n c) ?_ (.mk hRr rfl rfl)
                simp [go_sem, p0]
              · refine ow_value (w' := W) (v := .int .i64 j) ?_ (.mk hRr rfl rfl)
                simp [go_sem, p9]
              · have q10 : _ = _ := hd.1 rfl
                have q11 : _ = _ := hd.2.1 rfl
                obtain ⟨v', hrun, hat⟩ := run_slice_from (P := Tryz.prog) (t := 30) (e := 53) (sz := 3) Tryz.underlying30 rfl (HSL.out W hR) j (by omega)
                rw [HX2.out] at hat
                refine ow_value (w' := W) (v := v') ?_ (.mk hRr hat rfl)
                simp [go_sem, q10, q11, hrun]
              · have q9 := hd.1 rfl
                have q12 := hd.2.1 rfl
                obtain ⟨k, r, q9, h9, h9'⟩ := q9
                change _ = _ at q9
                obtain ⟨A', n', c', q12, h12, _, _⟩ := q12
                obtain rfl : n' = n - j := by have h1 := h12.1; have h2 := HDL.out; omega
                change _ = _ at q12
                obtain ⟨v', w', hrun, h1, h2⟩ := run_append_row_grows (P := Tryz.prog) (ty := 30) (size := 3) (bytes := 56) 30 53 Tryz.underlying30 info53 rfl (by decide) (cap := 1) (c := c') (own_slis h9) (Nat.le_refl 1) h12 HD1.out (by omega) (by decide)
                exact ow_append_at _ _ 30 rfl (v := .slice (some ⟨r, 0, none⟩) 1 1) (u := .slice A' (n - j) c') (by simp [go_sem, q9]) (by simp [go_sem, q12]) hrun (.mk (Kept.of_grown h2) ⟨k, own_mono h1 (Nat.le_trans HB.out hR.size), own_kept0 h9' (Kept.of_grown h2)⟩ rfl)
              · have q3 : _ = _ := hd.1 rfl
                have q13 := hd.2.1 rfl
                obtain ⟨k, h13, h13'⟩ := q13
                obtain ⟨A', c', hv13⟩ := own_form h13
                have q13 : _ = _ := hv13
                obtain ⟨v', w', hrun, h1, h2⟩ := run_append_row_grows (P := Tryz.prog) (ty := 30) (size := 3) (bytes := 56) 30 53 Tryz.underlying30 info53 rfl (by decide) (cap := j) (c := c') (HSJ.out W hR) (Nat.le_refl _) (own_slis (hv13 ▸ h13)) (by omega) (by omega) (by decide)
                exact ow_append_at _ _ 30 rfl (v := .slice (some ⟨g, 0, none⟩) j j) (u := .slice A' (1 + (n - j)) c') (by simp [go_sem, q3]) (by simp [go_sem, q13]) hrun (.mk (Kept.of_grown h2) ⟨k, own_mono h1 (Nat.le_trans HB.out hR.size), own_kept0 h13' (Kept.of_grown h2)⟩ rfl)
            · intro f W hR hf
              obtain ⟨f0, f1, f2, f3, f4, f5, f6, f7, f8, f9, f10, f11, f12, f13, f14, -⟩ := hf
              change f 59 = _ at f0
              change f 60 = _ at f1
              change f 61 = _ at f2
              change f 62 = _ at f3
              change f 63 = _ at f4
              change f 64 = _ at f5
              change f 65 = _ at f6
              change ∃ k, (f 66) = .slice (some ⟨k, 0, none⟩) 1 1 ∧ W.ownsRow B 21 1 (.slice (some ⟨k, 0, none⟩) 1 1) 1 [.int .i32 x] at f7
              obtain ⟨x7, g7⟩ : ∃ x, f 66 = x := ⟨_, rfl⟩
              rw [g7] at f7
              change ∃ k, (f 67) = .agg #[.string pm, .string t, .slice (some ⟨k, 0, none⟩) 1 1] ∧ W.ownsRow B 21 1 (.slice (some ⟨k, 0, none⟩) 1 1) 1 [.int .i32 x] at f8
              obtain ⟨x8, g8⟩ : ∃ x, f 67 = x := ⟨_, rfl⟩
              rw [g8] at f8
              change ∃ k r, (f 68) = .slice (some ⟨r, 0, none⟩) 1 1 ∧ W.ownsRow B 53 3 (.slice (some ⟨r, 0, none⟩) 1 1) 1 [.string pm, .string t, .slice (some ⟨k, 0, none⟩) 1 1] ∧ W.ownsRow B 21 1 (.slice (some ⟨k, 0, none⟩) 1 1) 1 [.int .i32 x] at f9
              obtain ⟨x9, g9⟩ : ∃ x, f 68 = x := ⟨_, rfl⟩
              rw [g9] at f9
              change f 69 = _ at f10
              change f 70 = _ at f11
              change SlAt W (fun y => y = g) 3 (f 71) xs2 at f12
              obtain ⟨x12, g12⟩ : ∃ x, f 71 = x := ⟨_, rfl⟩
              rw [g12] at f12
              change ∃ k, W.ownsRow B 53 3 (f 72) (1 + (n - j)) ([.string pm, .string t, .slice (some ⟨k, 0, none⟩) 1 1] ++ xs2) ∧ W.ownsRow B 21 1 (.slice (some ⟨k, 0, none⟩) 1 1) 1 [.int .i32 x] at f13
              obtain ⟨x13, g13⟩ : ∃ x, f 72 = x := ⟨_, rfl⟩
              rw [g13] at f13
              change ∃ k, W.ownsRow B 53 3 (f 73) (j + (1 + (n - j))) (xs1 ++ ([.string pm, .string t, .slice (some ⟨k, 0, none⟩) 1 1] ++ xs2)) ∧ W.ownsRow B 21 1 (.slice (some ⟨k, 0, none⟩) 1 1) 1 [.int .i32 x] at f14
              obtain ⟨x14, g14⟩ : ∃ x, f 73 = x := ⟨_, rfl⟩
              rw [g14] at f14
              simp only [headDsts, List.take_succ_cons, List.take_zero, List.filterMap_cons, List.filterMap_nil, setAll, f0, f1, f2, f3, f4, f5, f6, g7, g8, g9, f10, f11, g12, g13, g14, List.setIfInBounds_toArray, List.set_cons_succ, List.set_cons_zero, List.drop_succ_cons, List.drop_zero]
              clear f0 f1 f2 f3 f4 f5 f6 g7 g8 g9 f10 f11 g12 g13 g14 f
              obtain ⟨k, h14, h14'⟩ := f14
              obtain ⟨A9, c9, rfl⟩ := own_form h14
              have H14 := Lib.hid h14
              have H15 := Lib.hid h14'
              have HRW := Lib.hid hR
              clear h14 h14' hR f12 f13 f7 f8 f9
              go_wp2
              go_ret
              have hcut := flat_cut L j
              refine ⟨_, L.take j ++ (⟨pm, t, [x]⟩, .slice (some ⟨k, 0, none⟩) 1 1) :: L.drop j, rfl, ?_, ?_, ?_, ?_, ?_⟩
              · have h1 : (L.take j ++ (⟨pm, t, [x]⟩, Value.slice (some ⟨k, 0, none⟩) 1 1) :: L.drop j).length = j + (1 + (n - j)) := by
                  have := HN.out
                  simp only [List.length_append, List.length_take, List.length_cons, List.length_drop]
                  omega
                have h2 : shFlat (L.take j ++ (⟨pm, t, [x]⟩, Value.slice (some ⟨k, 0, none⟩) 1 1) :: L.drop j) = xs1 ++ ([Value.string pm, .string t, .slice (some ⟨k, 0, none⟩) 1 1] ++ xs2) := by
                  rw [← HX1.out, ← HX2.out, hcut.1, hcut.2]
                  simp [shFlat, shCells]
                rw [h1, h2]
                exact own_mono H14.out (by rw [← hBB]; exact hb)
              · intro q hq
                have hold : ∀ q ∈ L, W.ownsRow base 21 1 q.2 q.1.parts.length (ints q.1.parts) := fun q hq => own_kept0 (HP.out.parts q hq) (HK0.out.trans0 HRW.out)
                rcases List.mem_append.1 hq with h | h
                · exact hold q (List.mem_of_mem_take h)
                · rcases List.mem_cons.1 h with rfl | h
                  · exact own_mono H15.out (by rw [← hBB]; exact hb)
                  · exact hold q (List.mem_of_mem_drop h)
              · rw [List.map_append, List.map_cons, List.map_take, List.map_drop]
                exact shareP_new (by rw [List.getElem?_map, HPJ.out]; rfl) (fun h => HNE.out h.2) (.inr ⟨rfl, HGT.out⟩) HSH.out
              · intro g' hg'
                exact .inr (by rw [hBB]; exact own_ge H14.out g' hg')
              · exact (HK0.out.trans0 HRW.out).mono (by simp)
          | false =>
            have HLT : Hid (slt t pt = false) := hsl
            have hbl : Op.bytesLess pt.toList t.toList = true := (bytesLess_slt _ _).trans (slt_total hsl (fun e => ht e.symm))
            clear hsl ht
            go_wp2_with (refine wl_load_struct rfl 53 _ rfl Tryz.underlying53 rfl rfl g (j * 3) rfl _ rfl HC2.out ?_)
            go_roundw
            case rel => exact ⟨j + 1, by omega, by go_num, shareP_skip (p := ⟨pm, pt, ps⟩) (by rw [List.getElem?_map, HPJ.out]; rfl) (fun h => HNE.out h.2) (fun h => by rcases h with h | h; (rw [slt_irrefl] at h; cases h); (rw [HLT.out] at h; cases h.2)) HSH.out, HKR.out.alloc _⟩
            case measure => (simp [intOf]) <;> omega
      · have hbe : (pm.toList == m.toList) = false := beq_ne hm
        have HNE : Hid (¬ (pm = m ∧ pt = t)) := fun h => hm h.1
        cases hsl : slt m pm with
        | true =>
          have HGT : Hid (slt m pm = true ∨ (pm = m ∧ slt t pt = true)) := .inl hsl
          have hbl : Op.bytesLess pm.toList m.toList = false := (bytesLess_slt _ _).trans (slt_asymm hsl)
          clear hsl hm
          go_upto_region 8 with (refine wl_load_struct rfl 53 _ rfl Tryz.underlying53 rfl rfl g (j * 3) rfl _ rfl HC2.out ?_)
          go_cut [58] from 43 to 58 (fun c8 wx => c8 = .bool true ∧ wx = wr.alloc (Obj.cells #[Value.string pm, .string pt, .slice A2 np c2] 53))
          case first =>
            go_wp2
            go_meet
            exact ⟨rfl, rfl⟩
          obtain ⟨rfl, rfl⟩ := hcut
          clear hbe hbl
          go_wp2
          obtain ⟨w0, hw0⟩ : ∃ w0, wr.alloc (Obj.cells #[Value.string pm, .string pt, .slice A2 np c2] 53) = w0 := ⟨_, rfl⟩
          have HK0 : Hid (Kept [] w w0) := by rw [← hw0]; exact HKR.out.alloc _
          rw [hw0]
          clear hw0
          obtain ⟨B, hBB⟩ : ∃ B, w.heap.size = B := ⟨_, rfl⟩
          have HB : Hid (B ≤ w0.heap.size) := by rw [← hBB]; exact HK0.out.size
          obtain ⟨xs1, hx1⟩ : ∃ xs, (shFlat L).take (j * 3) = xs := ⟨_, rfl⟩
          obtain ⟨xs2, hx2⟩ : ∃ xs, (shFlat L).drop (j * 3) = xs := ⟨_, rfl⟩
          have HSL : Hid (∀ W, Kept [] w0 W → SlAt W (fun y => y = g) 3 (.slice (some ⟨g, 0, none⟩) n c) (shFlat L)) := fun W hW => ⟨_, n, c, rfl, own_slis (own_kept0 HR.out (HK0.out.trans0 hW)), fun a ha _ => by cases ha; rfl, hcap⟩
          have HSJ : Hid (∀ W, Kept [] w0 W → SlIs W 3 (some ⟨g, 0, none⟩) j xs1) := fun W hW => by
            obtain ⟨h1, h2, h3⟩ := own_slis (own_kept0 HR.out (HK0.out.trans0 hW))
            refine ⟨by rw [← hx1, List.length_take, h1]; omega, by omega, fun _ => ?_⟩
            obtain ⟨b, o, he, hc⟩ := h3 (by omega)
            refine ⟨b, o, he, fun i v hv => hc i v ?_⟩
            rw [← hx1, List.getElem?_take] at hv
            split at hv
            · exact hv
            · cases hv
          have HDL : Hid (xs2.length = (n - j) * 3) := by
            have h1 := HR.out.1
            have h2 : xs2.length = (shFlat L).length - j * 3 := by rw [← hx2, List.length_drop]
            have h3 : xs2.length = (n - j) * 3 := by omega
            exact h3
          have HD1 : Hid (1 ≤ n - j) := by
            have h : 1 ≤ n - j := by omega
            exact h
          have HX1 := Lib.hid hx1
          have HX2 := Lib.hid hx2
          clear hx1 hx2
          refine wp_region_facts' 15 (Kept []) (sh9F g n c j B m t x xs1 xs2) mixed (by kernel_rfl) ((Kept.refl _ _).drew) (fun _ _ _ h k => h.trans0 k) sh9F_stable ?_ ?_
          · refine ⟨?_, ?_, ?_, ?_, ?_, ?_, ?_, ?_, ?_, ?_, ?_, ?_, ?_, ?_, ?_, trivial⟩
            all_goals go_light
            all_goals intro a W hR hs hd
            all_goals have p0 : a.tmps[0]? = some (.slice (some ⟨g, 0, none⟩) n c) := hs.2.2 0 (by decide)
            all_goals have p9 : a.tmps[9]? = some (.int .i64 j) := hs.2.2 9 (by decide)
            all_goals have p1 : a.tmps[1]? = some (.string m) := hs.2.2 1 (by decide)
            all_goals have p2 : a.tmps[2]? = some (.string t) := hs.2.2 2 (by decide)
            all_goals have p3 : a.tmps[3]? = some (.int .i32 x) := hs.2.2 3 (by decide)
            all_goals have hRr : Kept [] W W := Kept.refl [] W
            · refine ow_value (w' := W) (v := .slice (some ⟨g, 0, none⟩) n c) ?_ (.mk hRr rfl rfl)
              simp [go_sem, p0]
            · refine ow_value (w' := W) (v := .int .i64 j) ?_ (.mk hRr rfl rfl)
              simp [go_sem, p9]
            · refine ow_value (w' := W) (v := .int .i64 j) ?_ (.mk hRr rfl rfl)
              simp [go_sem, p9]
            · have q0 : _ = _ := hd.1 rfl
              have q1 : _ = _ := hd.2.1 rfl
              have q2 : _ = _ := hd.2.2.1 rfl
              refine ow_value (w' := W) (v := .slice (some ⟨g, 0, none⟩) j j) ?_ (.mk hRr rfl rfl)
              have hrun := run_slice_cut (P := Tryz.prog) (w := W) (t := 30) (e := 53) (sz := 3) Tryz.underlying30 rfl ⟨g, 0, none⟩ n c j (by omega)
              simp [go_sem, q0, q1, q2, hrun]
            · refine ow_value (w' := W) (v := .string m) ?_ (.mk hRr rfl rfl)
              simp [go_sem, p1]
            · refine ow_value (w' := W) (v := .string t) ?_ (.mk hRr rfl rfl)
              simp [go_sem, p2]
            · refine ow_value (w' := W) (v := .int .i32 x) ?_ (.mk hRr rfl rfl)
              simp [go_sem, p3]
            · have q6 : _ = _ := hd.1 rfl
              refine ow_value (w' := W.alloc (.cells #[.int .i32 x] 21)) (v := .slice (some ⟨W.heap.size, 0, none⟩) 1 1) ?_ (.mk (hRr.alloc _) ?_ rfl)
              · simp [go_sem, q6]
              · exact ⟨_, rfl, own_new W 21 1 1 #[.int .i32 x] B (Nat.le_trans HB.out hR.size) (by omega) rfl rfl⟩
            · have q4 : _ = _ := hd.1 rfl
              have q5 : _ = _ := hd.2.1 rfl
              have q7 := hd.2.2.1 rfl
              obtain ⟨k, q7, h7⟩ := q7
              change _ = _ at q7
              refine ow_value (w' := W) (v := .agg #[.string m, .string t, .slice (some ⟨k, 0, none⟩) 1 1]) ?_ (.mk hRr ?_ rfl)
              · simp [go_sem, q4, q5, q7]
              · exact ⟨k, rfl, h7⟩
            · have q8 := hd.1 rfl
              obtain ⟨k, q8, h8⟩ := q8
              change _ = _ at q8
              refine ow_value (w' := W.alloc (.cells #[.string m, .string t, .slice (some ⟨k, 0, none⟩) 1 1] 53)) (v := .slice (some ⟨W.heap.size, 0, none⟩) 1 1) ?_ (.mk (hRr.alloc _) ?_ rfl)
              · simp [go_sem, q8]
              · exact ⟨k, _, rfl, own_new W 53 3 1 #[.string m, .string t, .slice (some ⟨k, 0, none⟩) 1 1] B (Nat.le_trans HB.out hR.size) (by omega) rfl rfl, own_kept0 h8 ((Kept.refl _ _).alloc _)⟩
            · refine ow_value (w' := W) (v := .slice (some ⟨g, 0, none⟩) n c) ?_ (.mk hRr rfl rfl)
              simp [go_sem, p0]
            · refine ow_value (w' := W) (v := .int .i64 j) ?_ (.mk hRr rfl rfl)
              simp [go_sem, p9]
            · have q10 : _ = _ := hd.1 rfl
              have q11 : _ = _ := hd.2.1 rfl
              obtain ⟨v', hrun, hat⟩ := run_slice_from (P := Tryz.prog) (t := 30) (e := 53) (sz := 3) Tryz.underlying30 rfl (HSL.out W hR) j (by omega)
              rw [HX2.out] at hat
              refine ow_value (w' := W) (v := v') ?_ (.mk hRr hat rfl)
              simp [go_sem, q10, q11, hrun]
            · have q9 := hd.1 rfl
              have q12 := hd.2.1 rfl
              obtain ⟨k, r, q9, h9, h9'⟩ := q9
              change _ = _ at q9
              obtain ⟨A', n', c', q12, h12, _, _⟩ := q12
              obtain rfl : n' = n - j := by have h1 := h12.1; have h2 := HDL.out; omega
              change _ = _ at q12
              obtain ⟨v', w', hrun, h1, h2⟩ := run_append_row_grows (P := Tryz.prog) (ty := 30) (size := 3) (bytes := 56) 30 53 Tryz.underlying30 info53 rfl (by decide) (cap := 1) (c := c') (own_slis h9) (Nat.le_refl 1) h12 HD1.out (by omega) (by decide)
              exact ow_append_at _ _ 30 rfl (v := .slice (some ⟨r, 0, none⟩) 1 1) (u := .slice A' (n - j) c') (by simp [go_sem, q9]) (by simp [go_sem, q12]) hrun (.mk (Kept.of_grown h2) ⟨k, own_mono h1 (Nat.le_trans HB.out hR.size), own_kept0 h9' (Kept.of_grown h2)⟩ rfl)
            · have q3 : _ = _ := hd.1 rfl
              have q13 := hd.2.1 rfl
              obtain ⟨k, h13, h13'⟩ := q13
              obtain ⟨A', c', hv13⟩ := own_form h13
              have q13 : _ = _ := hv13
              obtain ⟨v', w', hrun, h1, h2⟩ := run_append_row_grows (P := Tryz.prog) (ty := 30) (size := 3) (bytes := 56) 30 53 Tryz.underlying30 info53 rfl (by decide) (cap := j) (c := c') (HSJ.out W hR) (Nat.le_refl _) (own_slis (hv13 ▸ h13)) (by omega) (by omega) (by decide)
              exact ow_append_at _ _ 30 rfl (v := .slice (some ⟨g, 0, none⟩) j j) (u := .slice A' (1 + (n - j)) c') (by simp [go_sem, q3]) (by simp [go_sem, q13]) hrun (.mk (Kept.of_grown h2) ⟨k, own_mono h1 (Nat.le_trans HB.out hR.size), own_kept0 h13' (Kept.of_grown h2)⟩ rfl)
          · intro f W hR hf
            obtain ⟨f0, f1, f2, f3, f4, f5, f6, f7, f8, f9, f10, f11, f12, f13, f14, -⟩ := hf
            change f 59 = _ at f0
            change f 60 = _ at f1
            change f 61 = _ at f2
            change f 62 = _ at f3
            change f 63 = _ at f4
            change f 64 = _ at f5
            change f 65 = _ at f6
            change ∃ k, (f 66) = .slice (some ⟨k, 0, none⟩) 1 1 ∧ W.ownsRow B 21 1 (.slice (some ⟨k, 0, none⟩) 1 1) 1 [.int .i32 x] at f7
            obtain ⟨x7, g7⟩ : ∃ x, f 66 = x := ⟨_, rfl⟩
            rw [g7] at f7
            change ∃ k, (f 67) = .agg #[.string m, .string t, .slice (some ⟨k, 0, none⟩) 1 1] ∧ W.ownsRow B 21 1 (.slice (some ⟨k, 0, none⟩) 1 1) 1 [.int .i32 x] at f8
            obtain ⟨x8, g8⟩ : ∃ x, f 67 = x := ⟨_, rfl⟩
            rw [g8] at f8
            change ∃ k r, (f 68) = .slice (some ⟨r, 0, none⟩) 1 1 ∧ W.ownsRow B 53 3 (.slice (some ⟨r, 0, none⟩) 1 1) 1 [.string m, .string t, .slice (some ⟨k, 0, none⟩) 1 1] ∧ W.ownsRow B 21 1 (.slice (some ⟨k, 0, none⟩) 1 1) 1 [.int .i32 x] at f9
            obtain ⟨x9, g9⟩ : ∃ x, f 68 = x := ⟨_, rfl⟩
            rw [g9] at f9
            change f 69 = _ at f10
            change f 70 = _ at f11
            change SlAt W (fun y => y = g) 3 (f 71) xs2 at f12
            obtain ⟨x12, g12⟩ : ∃ x, f 71 = x := ⟨_, rfl⟩
            rw [g12] at f12
            change ∃ k, W.ownsRow B 53 3 (f 72) (1 + (n - j)) ([.string m, .string t, .slice (some ⟨k, 0, none⟩) 1 1] ++ xs2) ∧ W.ownsRow B 21 1 (.slice (some ⟨k, 0, none⟩) 1 1) 1 [.int .i32 x] at f13
            obtain ⟨x13, g13⟩ : ∃ x, f 72 = x := ⟨_, rfl⟩
            rw [g13] at f13
            change ∃ k, W.ownsRow B 53 3 (f 73) (j + (1 + (n - j))) (xs1 ++ ([.string m, .string t, .slice (some ⟨k, 0, none⟩) 1 1] ++ xs2)) ∧ W.ownsRow B 21 1 (.slice (some ⟨k, 0, none⟩) 1 1) 1 [.int .i32 x] at f14
            obtain ⟨x14, g14⟩ : ∃ x, f 73 = x := ⟨_, rfl⟩
            rw [g14] at f14
            simp only [headDsts, List.take_succ_cons, List.take_zero, List.filterMap_cons, List.filterMap_nil, setAll, f0, f1, f2, f3, f4, f5, f6, g7, g8, g9, f10, f11, g12, g13, g14, List.setIfInBounds_toArray, List.set_cons_succ, List.set_cons_zero, List.drop_succ_cons, List.drop_zero]
            clear f0 f1 f2 f3 f4 f5 f6 g7 g8 g9 f10 f11 g12 g13 g14 f
            obtain ⟨k, h14, h14'⟩ := f14
            obtain ⟨A9, c9, rfl⟩ := own_form h14
            have H14 := Lib.hid h14
            have H15 := Lib.hid h14'
            have HRW := Lib.hid hR
            clear h14 h14' hR f12 f13 f7 f8 f9
            go_wp2
            go_ret
            have hcut := flat_cut L j
            refine ⟨_, L.take j ++ (⟨m, t, [x]⟩, .slice (some ⟨k, 0, none⟩) 1 1) :: L.drop j, rfl, ?_, ?_, ?_, ?_, ?_⟩
            · have h1 : (L.take j ++ (⟨m, t, [x]⟩, Value.slice (some ⟨k, 0, none⟩) 1 1) :: L.drop j).length = j + (1 + (n - j)) := by
                have := HN.out
                simp only [List.length_append, List.length_take, List.length_cons, List.length_drop]
                omega
              have h2 : shFlat (L.take j ++ (⟨m, t, [x]⟩, Value.slice (some ⟨k, 0, none⟩) 1 1) :: L.drop j) = xs1 ++ ([Value.string m, .string t, .slice (some ⟨k, 0, none⟩) 1 1] ++ xs2) := by
                rw [← HX1.out, ← HX2.out, hcut.1, hcut.2]
                simp [shFlat, shCells]
              rw [h1, h2]
              exact own_mono H14.out (by rw [← hBB]; exact hb)
            · intro q hq
              have hold : ∀ q ∈ L, W.ownsRow base 21 1 q.2 q.1.parts.length (ints q.1.parts) := fun q hq => own_kept0 (HP.out.parts q hq) (HK0.out.trans0 HRW.out)
              rcases List.mem_append.1 hq with h | h
              · exact hold q (List.mem_of_mem_take h)
              · rcases List.mem_cons.1 h with rfl | h
                · exact own_mono H15.out (by rw [← hBB]; exact hb)
                · exact hold q (List.mem_of_mem_drop h)
            · rw [List.map_append, List.map_cons, List.map_take, List.map_drop]
              exact shareP_new (by rw [List.getElem?_map, HPJ.out]; rfl) HNE.out HGT.out HSH.out
            · intro g' hg'
              exact .inr (by rw [hBB]; exact own_ge H14.out g' hg')
            · exact (HK0.out.trans0 HRW.out).mono (by simp)
        | false =>
          have HLT : Hid (¬ (slt m pm = true ∨ (pm = m ∧ slt t pt = true))) := by
            rintro (h | h)
            · rw [hsl] at h; cases h
            · exact hm h.1
          have hbl : Op.bytesLess pm.toList m.toList = true := (bytesLess_slt _ _).trans (slt_total hsl (fun e => hm e.symm))
          clear hsl hm
          go_wp2_with (refine wl_load_struct rfl 53 _ rfl Tryz.underlying53 rfl rfl g (j * 3) rfl _ rfl HC2.out ?_)
          go_roundw
          case rel => exact ⟨j + 1, by omega, by go_num, shareP_skip (p := ⟨pm, pt, ps⟩) (by rw [List.getElem?_map, HPJ.out]; rfl) HNE.out HLT.out HSH.out, HKR.out.alloc _⟩
          case measure => (simp [intOf]) <;> omega
    · have HK2 : Hid (∀ o o', Kept [] w ((wr.alloc o).alloc o')) := fun o o' => (HKR.out.alloc o).alloc o'
      have HOW := Lib.hid (fun o o' => own_kept0 HR.out (HK2.out o o'))
      have HNR := Lib.hid (fun o => own_new (wr.alloc o) 53 3 1 #[.string m, .string t, .slice (some ⟨wr.heap.size, 0, none⟩) 1 1] w.heap.size (by have := HKR.out.size; simp; omega) (by omega) rfl (by simp : (wr.alloc o).heap.size = wr.heap.size + 1))
      have hsz := HKR.out.size
      go_wp2_with (at_builtin; refine wl_append rfl _ _ 30 rfl base 53 Tryz.underlying30 info53 rfl (by decide) _ n (shFlat L) rfl (HOW.out _ _) (some ⟨wr.heap.size + 1, 0, none⟩) 1 1 [.string m, .string t, .slice (some ⟨wr.heap.size, 0, none⟩) 1 1] rfl (own_slis (HNR.out _)) (by simp [Value.oneCell']) (by omega) (by omega) (by simp; omega) ?_; intro v7 w7 hown hk7 hat; obtain ⟨A7, c7, rfl⟩ := own_form hown; have HO7 := Lib.hid hown; have HK7 := Lib.hid hk7; have HAT := Lib.hid hat; clear hown hk7 hat)
      go_ret
      have hj2 : j = n := by omega
      subst hj2
      have hal : ∀ {q : Value} {k : Nat} {xs : List Value} {b : Nat}, w.ownsRow b 21 1 q k xs → w7.ownsRow b 21 1 q k xs := fun h => by
        have h2 := own_kept0 h (HK2.out (.cells #[.int .i32 x] 21) (.cells #[.string m, .string t, .slice (some ⟨wr.heap.size, 0, none⟩) 1 1] 53))
        exact HK7.out.own h2 (own_types_ne h2 (HOW.out _ _) (by decide))
      refine ⟨_, L ++ [(⟨m, t, [x]⟩, .slice (some ⟨wr.heap.size, 0, none⟩) 1 1)], rfl, ?_, ?_, ?_, ?_, ?_⟩
      · have h2 : shFlat (L ++ [(⟨m, t, [x]⟩, .slice (some ⟨wr.heap.size, 0, none⟩) 1 1)]) = shFlat L ++ [Value.string m, .string t, .slice (some ⟨wr.heap.size, 0, none⟩) 1 1] := by simp [shFlat, shCells]
        rw [List.length_append, HN.out, h2]
        exact HO7.out
      · intro q hq
        rcases List.mem_append.1 hq with h | h
        · exact hal (HP.out.parts q h)
        · rw [List.mem_singleton.1 h]
          have h0 := own_new wr 21 1 1 #[.int .i32 x] base (by omega) (by omega) rfl rfl
          have h1 := own_kept0 h0 ((Kept.refl [] _).alloc (.cells #[.string m, .string t, .slice (some ⟨wr.heap.size, 0, none⟩) 1 1] 53))
          exact HK7.out.own h1 (own_types_ne h1 (HOW.out _ _) (by decide))
      · have h := HSH.out
        have hl : (L.map Prod.fst).length = j := by rw [List.length_map, HN.out]
        rw [List.take_of_length_le (by omega), List.drop_eq_nil_of_le (by omega)] at h
        rw [h, List.map_append]
        rfl
      · intro g' hg'
        rcases HAT.out with h | h
        · have h2 : (Value.slice A7 (j + 1) c7).ownBlock = some g' := hg'
          exact .inl (h.symm.trans h2)
        · have h2 : (Value.slice A7 (j + 1) c7).ownBlock = some g' := hg'
          have h3 := Option.some.inj (h.symm.trans h2)
          have h4 : wr.heap.size + 1 + 1 = g' := by simpa using h3
          exact .inr (by omega)
      · exact ((HK2.out _ _).mono (by simp)).trans HK7.out (fun x hx => .inl hx)
end Go.Proofs.YtghgffhcdnmpnaaGreat
/-
  A plan in memory after a row of gifts; share on such a plan. Conditions: those of each lemma.
-/
namespace Go.Proofs.YtghgffhcdnmpnaaGreat
open Go.RowKit Go.Sort
theorem shareP_len (m t : ByteArray) (x : Int) : ∀ l : List Sh, (shareP l m t x).length ≤ l.length + 1
  | [] => by simp [shareP]
  | p :: r => by
    have := shareP_len m t x r
    unfold shareP
    split
    · simp
    · split <;> simp <;> omega
theorem shareP_short (m t : ByteArray) (x : Int) (n : Nat) : ∀ l : List Sh, (∀ p ∈ l, p.parts.length ≤ n) → ∀ p ∈ shareP l m t x, p.parts.length ≤ n + 1
  | [], _, p, hp => by
    simp [shareP] at hp
    subst hp
    simp
  | q :: r, h, p, hp => by
    have hq := h q (.head _)
    have hr := fun p hp => h p (.tail _ hp)
    unfold shareP at hp
    split at hp
    · rcases List.mem_cons.1 hp with rfl | hp
      · simp; omega
      · have := hr p hp; omega
    · split at hp
      · rcases List.mem_cons.1 hp with rfl | hp
        · simp
        · have := h p hp; omega
      · rcases List.mem_cons.1 hp with rfl | hp
        · omega
        · exact shareP_short m t x n r hr p hp
theorem sharesP_few (s : List (ByteArray × ByteArray × Int)) : (sharesP s).length ≤ s.length ∧ ∀ p ∈ sharesP s, p.parts.length ≤ s.length := by
  rw [← List.reverse_reverse s]
  induction s.reverse with
  | nil => simp [sharesP]
  | cons x r ih =>
    rw [List.reverse_cons, sharesP_snoc, List.length_append, List.length_singleton]
    have := shareP_len x.1 x.2.1 x.2.2 (sharesP r.reverse)
    exact ⟨by omega, shareP_short _ _ _ _ _ ih.2⟩
/-- A plan of one's own that reads as a row of gifts makes it. -/
structure PlanS (w : World) (B : Nat) (v : Value) (s : List (ByteArray × ByteArray × Int)) : Prop where
  ex : ∃ L : List (Sh × Value), w.ownsRow B 53 3 v L.length (shFlat L) ∧ (∀ p ∈ L, w.ownsRow B 21 1 p.2 p.1.parts.length (ints p.1.parts)) ∧ L.map Prod.fst = sharesP s
theorem PlanS.kept {S : List Nat} {w w' : World} {B : Nat} {v : Value} {s : List (ByteArray × ByteArray × Int)} (h : PlanS w B v s) (k : Kept S w w') (hS : ∀ x ∈ S, x < B) : PlanS w' B v s := by
  obtain ⟨L, h1, h2, h3⟩ := h.ex
  exact ⟨L, k.own h1 (fun b hb hm => by have := own_ge h1 b hb; have := hS b hm; omega), fun p hp => k.own (h2 p hp) (fun b hb hm => by have := own_ge (h2 p hp) b hb; have := hS b hm; omega), h3⟩
theorem PlanS.kept0 {w w' : World} {B : Nat} {v : Value} {s : List (ByteArray × ByteArray × Int)} (h : PlanS w B v s) (k : Kept [] w w') : PlanS w' B v s := h.kept k (by simp)
theorem PlanS.lt {w : World} {B : Nat} {v : Value} {s : List (ByteArray × ByteArray × Int)} (h : PlanS w B v s) : ∀ g, v.ownBlock = some g → B ≤ g ∧ g < w.heap.size := by
  obtain ⟨L, h1, _, _⟩ := h.ex
  exact fun g hg => ⟨own_ge h1 g hg, own_lt h1 g hg⟩
theorem PlanS.row_ne {w : World} {B b : Nat} {e : TypeId} {s' n : Nat} {v rv : Value} {xs : List Value} {s : List (ByteArray × ByteArray × Int)} (h : PlanS w B v s) (hr : w.ownsRow b e s' rv n xs) (hne : e ≠ 53) : ∀ g, rv.ownBlock = some g → g ∉ v.ownBlock.toList := by
  obtain ⟨L, h1, _, _⟩ := h.ex
  exact own_types_ne hr h1 hne
def ShareS (w : World) (B : Nat) (v : Value) (s : List (ByteArray × ByteArray × Int)) (m t : ByteArray) (x : Int) (e : Ending) (w' : World) : Prop :=
  ∃ v', e = .returned v' ∧ PlanS w' B v' (s ++ [(m, t, x)]) ∧ (∀ g, v'.ownBlock = some g → v.ownBlock = some g ∨ w.heap.size ≤ g) ∧ Kept v.ownBlock.toList w w'
theorem share_s {w : World} {B : Nat} {v : Value} {s : List (ByteArray × ByteArray × Int)} (m t : ByteArray) (x : Int) (hB : B ≤ w.heap.size) (h : PlanS w B v s) (hs : s.length ≤ 100000) :
    Calls Tryz.prog 48 #[v, .string m, .string t, .int .i32 x] w (ShareS w B v s m t x) := by
  obtain ⟨L, h1, h2, h3⟩ := h.ex
  have hf := sharesP_few s
  have hll : L.length = (sharesP s).length := by rw [← h3, List.length_map]
  refine (share_any B v L m t x w hB ⟨h1, h2, by omega, fun p hp => ?_⟩).mono ?_
  · have := hf.2 p.1 (by rw [← h3]; exact List.mem_map.2 ⟨p, hp, rfl⟩)
    omega
  · rintro e w' ⟨v', L', he, h4, h5, h6, h7, h8⟩
    exact ⟨v', he, ⟨L', h4, h5, by rw [h6, h3, sharesP_snoc]⟩, h7, h8⟩
end Go.Proofs.YtghgffhcdnmpnaaGreat
