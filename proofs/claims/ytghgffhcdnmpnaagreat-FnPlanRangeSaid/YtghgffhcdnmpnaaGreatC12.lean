/-
  The insertion sort of shares by their topics. Condition: a million at most.
-/
import Derived.Test.YtghgffhcdnmpnaaGreatC11
namespace Go.Proofs.YtghgffhcdnmpnaaGreat
open Go.RowKit Go.Sort

theorem wanted_of {o : Oper} {ops : Array Oper} {tmps : Array Value} {j : Nat} {d : Tmp} {b want : Bool} {oj : Oper} (hg : o.guard = some (j, want)) (hj : ops[j]? = some oj) (hd : oj.dst = some d) (h : tmps[d]?.getD undef = .bool b) : Region.wanted o (yielded ops tmps) = (some b == some want) := by
  simp only [Region.wanted, hg]
  rw [yielded_of hj hd h]
def tlt (p q : Sh × Value) : Prop := bl p.1.top < bl q.1.top
def tle (p q : Sh × Value) : Prop := sle p.1.top q.1.top = true
theorem tle_of_not {p q : Sh × Value} (h : ¬ tlt q p) : tle p q := by
  simp only [tle, sle, decide_eq_true_eq]
  exact List.not_lt.1 h
theorem tle_of_lt {p q : Sh × Value} (h : tlt p q) : tle p q := by
  simp only [tle, sle, decide_eq_true_eq]
  exact List.le_of_lt h
theorem tle_trans {p q r : Sh × Value} (h : tle p q) (k : tle q r) : tle p r := sle_trans _ _ _ h k
theorem ins_done {A B : List (Sh × Value)} {x : Sh × Value} (h : (A ++ B).Pairwise tle) (hB : ∀ b ∈ B, tlt x b) (hA : A = [] ∨ ∃ A' y, A = A' ++ [y] ∧ ¬ tlt x y) : (A ++ x :: B).Pairwise tle := by
  rw [List.pairwise_append] at h ⊢
  obtain ⟨h1, h2, h3⟩ := h
  have hAx : ∀ a ∈ A, tle a x := by
    rcases hA with rfl | ⟨A', y, rfl, hxy⟩
    · simp
    · intro a ha
      rcases List.mem_append.1 ha with ha | ha
      · rw [List.pairwise_append] at h1
        exact tle_trans (h1.2.2 a ha y (by simp)) (tle_of_not hxy)
      · have : a = y := by simpa using ha
        subst this
        exact tle_of_not hxy
  refine ⟨h1, List.pairwise_cons.2 ⟨fun b hb => tle_of_lt (hB b hb), h2⟩, fun a ha b hb => ?_⟩
  rcases List.mem_cons.1 hb with rfl | hb
  · exact hAx a ha
  · exact h3 a ha b hb
set_option maxRecDepth 100000 in
set_option maxHeartbeats 800000 in
theorem cmp_any (x y : Sh × Value) (w : World) :
    Calls Tryz.prog 68 #[.agg #[.string x.1.mem, .string x.1.top, x.2], .agg #[.string y.1.mem, .string y.1.top, y.2]] w fun e w' => ∃ r : Int, e = .returned (.int .i64 r) ∧ (r < 0 ↔ bl x.1.top < bl y.1.top) ∧ Kept [] w w' := by
  have hbl : Op.bytesLess x.1.top.toList y.1.top.toList = decide (bl x.1.top < bl y.1.top) := by
    rw [bytesLess_eq, ByteArray.toList_eq, ByteArray.toList_eq]
    rfl
  have HBL := Lib.hid hbl
  clear hbl
  go_enter Tryz.func68, Tryz.ntmps68
  go_wp2
  · rename_i h
    rw [HBL.out] at h
    refine bodyPost_ret (results_tmp rfl _ _ _) rfl ⟨-1, rfl, by simpa using h, ((Kept.refl _ _).alloc _).alloc _⟩
  · rename_i h _
    rw [HBL.out] at h
    refine bodyPost_ret (results_tmp rfl _ _ _) rfl ⟨1, rfl, by simpa using h, ((Kept.refl _ _).alloc _).alloc _⟩
  · rename_i h _
    rw [HBL.out] at h
    refine bodyPost_ret (results_tmp rfl _ _ _) rfl ⟨0, rfl, by simpa using h, ((Kept.refl _ _).alloc _).alloc _⟩
def isF (g n cap j : Nat) (x y : Sh × Value) (ix : Nat) (v : Value) (_ : World) : Prop :=
  match ix with
  | 0 => v = .int .i64 ((j : Int) + 1)
  | 1 => v = .int .i64 0
  | 2 => v = .bool true
  | 3 => v = .bool true
  | 4 => v = .func (.func 68) #[] #[]
  | 5 => v = .slice (some ⟨g, 0, none⟩) n cap
  | 6 => v = .int .i64 ((j : Int) + 1)
  | 7 => v = .pointer (some ⟨g, (j + 1) * 3, none⟩)
  | 8 => v = .agg #[.string x.1.mem, .string x.1.top, x.2]
  | 9 => v = .slice (some ⟨g, 0, none⟩) n cap
  | 10 => v = .int .i64 ((j : Int) + 1)
  | 11 => v = .int .i64 j
  | 12 => v = .pointer (some ⟨g, j * 3, none⟩)
  | 13 => v = .agg #[.string y.1.mem, .string y.1.top, y.2]
  | 14 => ∃ r : Int, v = .int .i64 r ∧ (r < 0 ↔ bl x.1.top < bl y.1.top)
  | 15 => v = .bool (decide (bl x.1.top < bl y.1.top))
  | _ => True
theorem isF_stable {g n cap j x y} : ∀ ix v w w', isF g n cap j x y ix v w → Kept [] w w' → isF g n cap j x y ix v w' := by
  intro ix v w w' h k
  unfold isF at h ⊢
  split at h <;> (first | (exact h))
def isZ  (ix : Nat) (v : Value) (_ : World) : Prop :=
  match ix with
  | 0 => v = .int .i64 0
  | 1 => v = .int .i64 0
  | 2 => v = .bool false
  | 3 => v = .bool false
  | _ => True
theorem isZ_stable  : ∀ ix v w w', isZ ix v w → Kept [] w w' → isZ ix v w' := by
  intro ix v w w' h k
  unfold isZ at h ⊢
  split at h <;> (first | (exact h))
def isS (g n cap j : Nat) (x y : Sh × Value) (l2 : List (Sh × Value)) (ix : Nat) (v : Value) (W : World) : Prop :=
  match ix with
  | 0 => v = .slice (some ⟨g, 0, none⟩) n cap
  | 1 => v = .int .i64 ((j : Int) + 1)
  | 2 => v = .slice (some ⟨g, 0, none⟩) n cap
  | 3 => v = .int .i64 ((j : Int) + 1)
  | 4 => v = .int .i64 j
  | 5 => v = .slice (some ⟨g, 0, none⟩) n cap
  | 6 => v = .int .i64 ((j : Int) + 1)
  | 7 => v = .int .i64 j
  | 8 => v = .pointer (some ⟨g, j * 3, none⟩)
  | 9 => v = .agg #[.string y.1.mem, .string y.1.top, y.2]
  | 10 => v = .slice (some ⟨g, 0, none⟩) n cap
  | 11 => v = .int .i64 ((j : Int) + 1)
  | 12 => v = .pointer (some ⟨g, (j + 1) * 3, none⟩)
  | 13 => v = .agg #[.string x.1.mem, .string x.1.top, x.2]
  | 14 => v = .pointer (some ⟨g, (j + 1) * 3, none⟩)
  | 15 => W.ownsRow 0 53 3 (.slice (some ⟨g, 0, none⟩) n cap) n (shFlat (l2.set (j + 1) y))
  | 16 => v = .pointer (some ⟨g, j * 3, none⟩)
  | _ => True

def isE (g : Nat) (i : Nat) (a b : World) : Prop := Kept (match i with | 15 => [g] | _ => []) a b
theorem isE_R {g i : Nat} {a b c : World} (h : Kept [g] a b) (k : isE g i b c) : Kept [g] a c := by
  unfold isE at k
  split at k
  · exact h.trans k (fun x hx => .inl hx)
  · exact h.trans0 k
theorem isS_stable {g n cap j x y l2} : ∀ i jx v w w', i ≠ jx → isS g n cap j x y l2 jx v w → isE g i w w' → isS g n cap j x y l2 jx v w' := by
  intro i jx v w w' hij h hk
  unfold isS at h ⊢
  split at h <;> (first | (exact h) | skip)
  unfold isE at hk
  split at hk
  · exact absurd rfl hij
  · exact own_kept0 h hk
def isPre (g n cap : Nat) (l2 : List (Sh × Value)) (i : Nat) (w : World) : Prop := (i = 9 ∨ i = 13 ∨ i = 15) → w.ownsRow 0 53 3 (.slice (some ⟨g, 0, none⟩) n cap) n (shFlat l2)
theorem ow_store3 {P : Program} {o : Oper} {a : Act} {w w' : World} {Q : Exit → Act → World → Prop} {K : Act → World → Prop} (ty : TypeId) (x y : Operand) (ho : o.op = .store ty x y) {cs : Array Value} (g off : Nat) (hx : a.eval x = .pointer (some ⟨g, off, none⟩)) (hy : a.eval y = .agg cs)
    (hrun : (storeVar ty ⟨g, off, none⟩ (.agg cs)).run P w = .ok () w') (h : K (a.put o.dst undef) w') : o.wp P a w K Q := by
  unfold Oper.wp execOp
  simp only [ho, hx, hy, Instr.storeAt, Instr.sureAddr, Sem.run_bind, Sem.run_pure, Result.andThen_ok, hrun]
  exact h
theorem wl_store3 {P : Program} {ops : Array Oper} {rest : List Oper} {o : Oper} {a : Act} {w w' : World} {Q : Exit → Act → World → Prop} (hgd : o.guard = none) (ty : TypeId) (x y : Operand) (ho : o.op = .store ty x y) {cs : Array Value} (g off : Nat) (hx : a.eval x = .pointer (some ⟨g, off, none⟩)) (hy : a.eval y = .agg cs)
    (hrun : (storeVar ty ⟨g, off, none⟩ (.agg cs)).run P w = .ok () w') (h : wpList P ops Q rest (a.put o.dst undef) w') : wpList P ops Q (o :: rest) a w :=
  wpList_plain hgd fun _ hK => ow_store3 ty x y ho g off hx hy hrun (hK _ _ h)

set_option maxRecDepth 100000 in
set_option maxHeartbeats 3200000 in
/-- The insertion sort of shares by their topics. -/
theorem insShare_own (g n cap : Nat) (l : List (Sh × Value)) (w : World) (h : w.ownsRow 0 53 3 (.slice (some ⟨g, 0, none⟩) n cap) n (shFlat l)) (h1 : ∀ p ∈ l, p.2.oneCell' = true) (hn : n ≤ 1000000) :
    Calls Tryz.prog 97 #[.slice (some ⟨g, 0, none⟩) n cap, .int .i64 0, .int .i64 n, .func (.func 68) #[] #[]] w fun e w' => e = .returned (.tuple #[]) ∧ ∃ l', l'.Perm l ∧ l'.Pairwise tle ∧ w'.ownsRow 0 53 3 (.slice (some ⟨g, 0, none⟩) n cap) n (shFlat l') ∧ Kept [g] w w' := by
  have hln : l.length = n := by have := h.1; rw [shFlat_len] at this; omega
  have HO := Lib.hid h
  have H1 := Lib.hid h1
  clear h h1
  go_enter Tryz.func97, Tryz.ntmps97
  go_wp2
  go_loopg [8] n (fun k x wr => ∃ i l1, k = n - i ∧ x = .int .i64 ((i : Int) + 1) ∧ l1.Perm l ∧ (l1.take (i + 1)).Pairwise tle ∧ wr.ownsRow 0 53 3 (.slice (some ⟨g, 0, none⟩) n cap) n (shFlat l1) ∧ Kept [g] w wr)
  case atStart =>
    refine ⟨0, l, rfl, rfl, List.Perm.refl _, ?_, HO.out, Kept.refl _ _⟩
    cases l with
    | nil => simp
    | cons x r => simp
  case round =>
    obtain ⟨i, l1, hk, rfl, hp1, hs1, ho1, hk1⟩ := hrel
    have hl1 : l1.length = n := hp1.length_eq.trans hln
    have HP1 := Lib.hid hp1
    have HS1 := Lib.hid hs1
    have HO1 := Lib.hid ho1
    have HK1 := Lib.hid hk1
    clear hp1 hs1 ho1 hk1
    by_cases hlt : i + 1 < n
    · have hlt' : (i : Int) + 1 < (n : Int) := by omega
      go_wp2
      go_loopg [9] (i + 1) (fun k v wr => ∃ (A : List (Sh × Value)) (x : Sh × Value) (B C : List (Sh × Value)), k = A.length ∧ v = .int .i64 A.length ∧ A.length + B.length = i + 1 ∧ (A ++ x :: (B ++ C)).Perm l ∧ (A ++ B).Pairwise tle ∧ (∀ b ∈ B, tlt x b) ∧ wr.ownsRow 0 53 3 (.slice (some ⟨g, 0, none⟩) n cap) n (shFlat (A ++ x :: (B ++ C))) ∧ Kept [g] w wr)
      case atStart =>
        obtain ⟨x, hx⟩ : ∃ x, l1[i + 1]? = some x := ⟨_, List.getElem?_eq_getElem (by omega)⟩
        have hsplit : l1.take (i + 1) ++ x :: ([] ++ l1.drop (i + 2)) = l1 := by
          rw [List.nil_append, show x :: l1.drop (i + 2) = l1.drop (i + 1) from ?_, List.take_append_drop]
          rw [List.drop_eq_getElem_cons (l := l1) (i := i + 1) (by omega)]
          rw [List.getElem?_eq_getElem (by omega)] at hx
          rw [Option.some.inj hx]
        have hlen : (l1.take (i + 1)).length = i + 1 := by rw [List.length_take]; omega
        refine ⟨l1.take (i + 1), x, [], l1.drop (i + 2), hlen.symm, by rw [hlen]; rfl, by simp [hlen], by rw [hsplit]; exact HP1.out, by rw [List.append_nil]; exact HS1.out, by simp, by rw [hsplit]; exact HO1.out, HK1.out⟩
      case round =>
        obtain ⟨A, x, B, C, hk2, rfl, hAB, hp2, hs2, hB2, ho2, hk3⟩ := hrel
        have HP2 := Lib.hid hp2
        have HS2 := Lib.hid hs2
        have HB2 := Lib.hid hB2
        have HO2 := Lib.hid ho2
        have HK3 := Lib.hid hk3
        clear hp2 hs2 hB2 ho2 hk3
        have hpl : (A ++ x :: (B ++ C)).length = n := HP2.out.length_eq.trans hln
        have hAl : A.length ≤ i + 1 := by omega
        have next : (A ++ x :: B).Pairwise tle → ((A ++ x :: (B ++ C)).take (i + 1 + 1)).Pairwise tle := by
          intro h
          have h2 : (A ++ x :: (B ++ C)).take (i + 1 + 1) = A ++ x :: B := by
            rw [show A ++ x :: (B ++ C) = (A ++ x :: B) ++ C by simp, List.take_append_of_le_length (by simp; omega), List.take_of_length_le (by simp; omega)]
          rw [h2]
          exact h
        have NEXT := Lib.hid next
        clear next
        rcases List.eq_nil_or_concat A with rfl | ⟨A', y, rfl⟩
        · have hz : Value.int IntKind.i64 ((([] : List (Sh × Value)).length : Nat) : Int) = Value.int .i64 0 := rfl
          rw [hz]
          have hfin : ((x :: (B ++ C)).take (i + 1 + 1)).Pairwise tle := NEXT.out (ins_done HS2.out HB2.out (.inl rfl))
          have HFIN := Lib.hid hfin
          clear hfin
          go_wp2
          refine wp_region_gd' 16 (Kept []) (fun _ => Kept []) (fun _ _ => True) isZ mixed (by kernel_rfl) ((Kept.refl _ _).drew) (fun _ _ _ _ h k => h.trans0 k) (fun _ _ => trivial) (fun _ j v w w' _ h k => isZ_stable j v w w' h k) (fun _ _ _ _ _ _ _ _ => trivial) ?_ ?_
          · refine ⟨?_, ?_, ?_, ?_, ?_, ?_, ?_, ?_, ?_, ?_, ?_, ?_, ?_, ?_, ?_, ?_, trivial⟩
            all_goals go_light
            all_goals intro a W hR hpre hs hd
            all_goals have p9 : a.tmps[9]? = some (.int .i64 0) := hs.2.2 9 (by decide)
            all_goals have p1 : a.tmps[1]? = some (.int .i64 0) := hs.2.2 1 (by decide)
            all_goals have hRr : Kept [] W W := Kept.refl [] W
            · refine ⟨fun _ => ?_, fun hw => Bool.noConfusion (show true = false from hw)⟩
              refine ow_value (w' := W) (v := .int .i64 0) ?_ (.mk hRr rfl rfl)
              simp [go_sem, p9]
            · refine ⟨fun _ => ?_, fun hw => Bool.noConfusion (show true = false from hw)⟩
              refine ow_value (w' := W) (v := .int .i64 0) ?_ (.mk hRr rfl rfl)
              simp [go_sem, p1]
            · have q0 : _ = _ := hd.1 rfl
              have q1 : _ = _ := hd.2.1 rfl
              refine ⟨fun _ => ?_, fun hw => Bool.noConfusion (show true = false from hw)⟩
              refine ow_value (w' := W) (v := .bool false) ?_ (.mk hRr rfl rfl)
              simp [go_sem, q0, q1]
            · have q2 : _ = _ := hd.1 rfl
              refine ⟨fun _ => ?_, fun hw => Bool.noConfusion (show true = false from hw)⟩
              refine ow_value (w' := W) (v := .bool false) ?_ (.mk hRr rfl rfl)
              simp [go_sem, q2]
            · have q3 : _ = _ := hd.1 rfl
              exact ⟨fun hw => absurd (hw.symm.trans (wanted_of rfl rfl rfl q3)) (by decide), fun _ => ⟨Kept.refl _ _, trivial⟩⟩
            · have q3 : _ = _ := hd.1 rfl
              exact ⟨fun hw => absurd (hw.symm.trans (wanted_of rfl rfl rfl q3)) (by decide), fun _ => ⟨Kept.refl _ _, trivial⟩⟩
            · have q3 : _ = _ := hd.1 rfl
              exact ⟨fun hw => absurd (hw.symm.trans (wanted_of rfl rfl rfl q3)) (by decide), fun _ => ⟨Kept.refl _ _, trivial⟩⟩
            · have q3 : _ = _ := hd.2.2.1 rfl
              exact ⟨fun hw => absurd (hw.symm.trans (wanted_of rfl rfl rfl q3)) (by decide), fun _ => ⟨Kept.refl _ _, trivial⟩⟩
            · have q3 : _ = _ := hd.2.1 rfl
              exact ⟨fun hw => absurd (hw.symm.trans (wanted_of rfl rfl rfl q3)) (by decide), fun _ => ⟨Kept.refl _ _, trivial⟩⟩
            · have q3 : _ = _ := hd.1 rfl
              exact ⟨fun hw => absurd (hw.symm.trans (wanted_of rfl rfl rfl q3)) (by decide), fun _ => ⟨Kept.refl _ _, trivial⟩⟩
            · have q3 : _ = _ := hd.1 rfl
              exact ⟨fun hw => absurd (hw.symm.trans (wanted_of rfl rfl rfl q3)) (by decide), fun _ => ⟨Kept.refl _ _, trivial⟩⟩
            · have q3 : _ = _ := hd.2.1 rfl
              exact ⟨fun hw => absurd (hw.symm.trans (wanted_of rfl rfl rfl q3)) (by decide), fun _ => ⟨Kept.refl _ _, trivial⟩⟩
            · have q3 : _ = _ := hd.2.2.1 rfl
              exact ⟨fun hw => absurd (hw.symm.trans (wanted_of rfl rfl rfl q3)) (by decide), fun _ => ⟨Kept.refl _ _, trivial⟩⟩
            · have q3 : _ = _ := hd.2.1 rfl
              exact ⟨fun hw => absurd (hw.symm.trans (wanted_of rfl rfl rfl q3)) (by decide), fun _ => ⟨Kept.refl _ _, trivial⟩⟩
            · have q3 : _ = _ := hd.2.2.2.2.1 rfl
              exact ⟨fun hw => absurd (hw.symm.trans (wanted_of rfl rfl rfl q3)) (by decide), fun _ => ⟨Kept.refl _ _, trivial⟩⟩
            · have q3 : _ = _ := hd.2.1 rfl
              exact ⟨fun hw => absurd (hw.symm.trans (wanted_of rfl rfl rfl q3)) (by decide), fun _ => ⟨Kept.refl _ _, trivial⟩⟩
          · intro f W hR hf
            obtain ⟨f0, f1, f2, f3, f4, f5, f6, f7, f8, f9, f10, f11, f12, f13, f14, f15, -⟩ := hf
            change f 18 = _ at f0
            change f 19 = _ at f1
            change f 20 = _ at f2
            change f 21 = _ at f3
            clear f4
            obtain ⟨x4, f4⟩ : ∃ x, f 22 = x := ⟨_, rfl⟩
            clear f5
            obtain ⟨x5, f5⟩ : ∃ x, f 23 = x := ⟨_, rfl⟩
            clear f6
            obtain ⟨x6, f6⟩ : ∃ x, f 24 = x := ⟨_, rfl⟩
            clear f7
            obtain ⟨x7, f7⟩ : ∃ x, f 25 = x := ⟨_, rfl⟩
            clear f8
            obtain ⟨x8, f8⟩ : ∃ x, f 26 = x := ⟨_, rfl⟩
            clear f9
            obtain ⟨x9, f9⟩ : ∃ x, f 27 = x := ⟨_, rfl⟩
            clear f10
            obtain ⟨x10, f10⟩ : ∃ x, f 28 = x := ⟨_, rfl⟩
            clear f11
            obtain ⟨x11, f11⟩ : ∃ x, f 29 = x := ⟨_, rfl⟩
            clear f12
            obtain ⟨x12, f12⟩ : ∃ x, f 30 = x := ⟨_, rfl⟩
            clear f13
            obtain ⟨x13, f13⟩ : ∃ x, f 31 = x := ⟨_, rfl⟩
            clear f14
            obtain ⟨x14, f14⟩ : ∃ x, f 32 = x := ⟨_, rfl⟩
            clear f15
            obtain ⟨x15, f15⟩ : ∃ x, f 33 = x := ⟨_, rfl⟩
            simp only [headDsts, List.take_succ_cons, List.take_zero, List.filterMap_cons, List.filterMap_nil, setAll, f0, f1, f2, f3, f4, f5, f6, f7, f8, f9, f10, f11, f12, f13, f14, f15, List.setIfInBounds_toArray, List.set_cons_succ, List.set_cons_zero, List.drop_succ_cons, List.drop_zero]
            clear f0 f1 f2 f3 f4 f5 f6 f7 f8 f9 f10 f11 f12 f13 f14 f15 f
            have HR := Lib.hid hR
            clear hR
            go_wp2
            go_roundg (n - (i + 1))
            case measure => omega
            case rel => exact ⟨i + 1, _, rfl, rfl, HP2.out, HFIN.out, own_kept0 HO2.out HR.out, HK3.out.trans0 HR.out⟩
        · have hz : Value.int IntKind.i64 (((A'.concat y).length : Nat) : Int) = Value.int .i64 ((A'.length : Int) + 1) := by simp
          rw [hz]
          obtain ⟨j, hj⟩ : ∃ j, A'.length = j := ⟨_, rfl⟩
          rw [List.concat_eq_append] at HP2 HS2 HO2 NEXT hpl hAl
          rw [hj]
          have hjn : j + 1 < n := by
            rw [← hpl, ← hj]
            simp
          obtain ⟨l2, hl2⟩ : ∃ l2, A' ++ [y] ++ x :: (B ++ C) = l2 := ⟨_, rfl⟩
          rw [hl2] at HP2 HO2 NEXT
          have hyj : l2[j]? = some y := by rw [← hl2, ← hj]; simp
          have hxj : l2[j + 1]? = some x := by rw [← hl2, ← hj]; simp
          have hy1 : y.2.oneCell' = true := H1.out y (HP2.out.mem_iff.1 (List.mem_of_getElem? hyj))
          have hswap : (l2.set (j + 1) y).set j x = A' ++ x :: ((y :: B) ++ C) := by
            rw [← hl2, ← hj]
            simp
          have hx1 : x.2.oneCell' = true := H1.out x (HP2.out.mem_iff.1 (List.mem_of_getElem? hxj))
          have hjlt : (j : Int) + 1 < (n : Int) := by omega
          have hjl0 : (j : Int) < (n : Int) := by omega
          have HO := HO2
          by_cases hxy : tlt x y
          · have hdec : decide (bl x.1.top < bl y.1.top) = true := decide_eq_true hxy
            have hperm : (A' ++ x :: ((y :: B) ++ C)).Perm l := by
              refine List.Perm.trans ?_ HP2.out
              rw [← hl2, List.append_assoc]
              refine List.Perm.append_left _ ?_
              exact (List.Perm.swap y x (B ++ C)).trans (by simp) |>.trans (List.Perm.refl _)
            have hsort : (A' ++ (y :: B)).Pairwise tle := by
              have := HS2.out
              simpa using this
            have hBB : ∀ b ∈ y :: B, tlt x b := by
              intro b hb
              rcases List.mem_cons.1 hb with rfl | hb
              · exact hxy
              · exact HB2.out b hb
            have HPERM := Lib.hid hperm
            have HSORT := Lib.hid hsort
            have HBB := Lib.hid hBB
            have HSWAP := Lib.hid hswap
            clear hperm hsort hBB hswap hl2
            go_wp2
            refine wp_region_gd' 16 (Kept []) (fun _ => Kept []) (fun _ _ => True) (isF g n cap j x y) mixed (by kernel_rfl) ((Kept.refl _ _).drew) (fun _ _ _ _ h k => h.trans0 k) (fun _ _ => trivial) (fun _ jx v w w' _ h k => isF_stable jx v w w' h k) (fun _ _ _ _ _ _ _ _ => trivial) ?_ ?_
            · refine ⟨?_, ?_, ?_, ?_, ?_, ?_, ?_, ?_, ?_, ?_, ?_, ?_, ?_, ?_, ?_, ?_, trivial⟩
              all_goals go_light
              all_goals intro a W hR hpre hs hd
              all_goals have p9 : a.tmps[9]? = some (.int .i64 ((j : Int) + 1)) := hs.2.2 9 (by decide)
              all_goals have p1 : a.tmps[1]? = some (.int .i64 0) := hs.2.2 1 (by decide)
              all_goals have p3 : a.tmps[3]? = some (.func (.func 68) #[] #[]) := hs.2.2 3 (by decide)
              all_goals have p0 : a.tmps[0]? = some (.slice (some ⟨g, 0, none⟩) n cap) := hs.2.2 0 (by decide)
              all_goals have hRr : Kept [] W W := Kept.refl [] W
              all_goals have hwj : IntKind.i64.wrap (j : Int) = (j : Int) := by rw [IntWalk.i64_left, IntWalk.wrap64_in _ (by omega)]
              · refine ⟨fun _ => ?_, fun hw => Bool.noConfusion (show true = false from hw)⟩
                refine ow_value (w' := W) (v := .int .i64 ((j : Int) + 1)) ?_ (.mk hRr rfl rfl)
                simp [go_sem, p9]
              · refine ⟨fun _ => ?_, fun hw => Bool.noConfusion (show true = false from hw)⟩
                refine ow_value (w' := W) (v := .int .i64 0) ?_ (.mk hRr rfl rfl)
                simp [go_sem, p1]
              · have q0 : _ = _ := hd.1 rfl
                have q1 : _ = _ := hd.2.1 rfl
                refine ⟨fun _ => ?_, fun hw => Bool.noConfusion (show true = false from hw)⟩
                refine ow_value (w' := W) (v := .bool true) ?_ (.mk hRr rfl rfl)
                simp [go_sem, q0, q1]
              · have q2 : _ = _ := hd.1 rfl
                refine ⟨fun _ => ?_, fun hw => Bool.noConfusion (show true = false from hw)⟩
                refine ow_value (w' := W) (v := .bool true) ?_ (.mk hRr rfl rfl)
                simp [go_sem, q2]
              · have q3 : _ = _ := hd.1 rfl
                refine ⟨fun _ => ?_, fun hw => absurd (hw.symm.trans (wanted_of rfl rfl rfl q3)) (by decide)⟩
                refine ow_value (w' := W) (v := .func (.func 68) #[] #[]) ?_ (.mk hRr rfl rfl)
                simp [go_sem, p3]
              · have q3 : _ = _ := hd.1 rfl
                refine ⟨fun _ => ?_, fun hw => absurd (hw.symm.trans (wanted_of rfl rfl rfl q3)) (by decide)⟩
                refine ow_value (w' := W) (v := .slice (some ⟨g, 0, none⟩) n cap) ?_ (.mk hRr rfl rfl)
                simp [go_sem, p0]
              · have q3 : _ = _ := hd.1 rfl
                refine ⟨fun _ => ?_, fun hw => absurd (hw.symm.trans (wanted_of rfl rfl rfl q3)) (by decide)⟩
                refine ow_value (w' := W) (v := .int .i64 ((j : Int) + 1)) ?_ (.mk hRr rfl rfl)
                simp [go_sem, p9]
              · have q5 : _ = _ := hd.1 rfl
                have q6 : _ = _ := hd.2.1 rfl
                have q3 : _ = _ := hd.2.2.1 rfl
                refine ⟨fun _ => ?_, fun hw => absurd (hw.symm.trans (wanted_of rfl rfl rfl q3)) (by decide)⟩
                refine ow_value (w' := W) (v := .pointer (some ⟨g, (j + 1) * 3, none⟩)) ?_ (.mk hRr rfl rfl)
                simp [go_sem, q5, q6]
                intro h
                omega
              · have q7 : _ = _ := hd.1 rfl
                have q3 : _ = _ := hd.2.1 rfl
                refine ⟨fun _ => ?_, fun hw => absurd (hw.symm.trans (wanted_of rfl rfl rfl q3)) (by decide)⟩
                refine ow_load_struct 53 _ rfl Tryz.underlying53 rfl rfl g ((j + 1) * 3) (by simp [go_sem, q7]) [.string x.1.mem, .string x.1.top, x.2] rfl (own_cells3 (own_kept0 HO.out hR) hxj) ?_
                exact .mk hRr rfl rfl
              · have q3 : _ = _ := hd.1 rfl
                refine ⟨fun _ => ?_, fun hw => absurd (hw.symm.trans (wanted_of rfl rfl rfl q3)) (by decide)⟩
                refine ow_value (w' := W) (v := .slice (some ⟨g, 0, none⟩) n cap) ?_ (.mk hRr rfl rfl)
                simp [go_sem, p0]
              · have q3 : _ = _ := hd.1 rfl
                refine ⟨fun _ => ?_, fun hw => absurd (hw.symm.trans (wanted_of rfl rfl rfl q3)) (by decide)⟩
                refine ow_value (w' := W) (v := .int .i64 ((j : Int) + 1)) ?_ (.mk hRr rfl rfl)
                simp [go_sem, p9]
              · have q10 : _ = _ := hd.1 rfl
                have q3 : _ = _ := hd.2.1 rfl
                refine ⟨fun _ => ?_, fun hw => absurd (hw.symm.trans (wanted_of rfl rfl rfl q3)) (by decide)⟩
                refine ow_value (w' := W) (v := .int .i64 j) ?_ (.mk hRr rfl rfl)
                simp [go_sem, q10, hwj]
              · have q9 : _ = _ := hd.1 rfl
                have q11 : _ = _ := hd.2.1 rfl
                have q3 : _ = _ := hd.2.2.1 rfl
                refine ⟨fun _ => ?_, fun hw => absurd (hw.symm.trans (wanted_of rfl rfl rfl q3)) (by decide)⟩
                refine ow_value (w' := W) (v := .pointer (some ⟨g, j * 3, none⟩)) ?_ (.mk hRr rfl rfl)
                simp [go_sem, q9, q11]
                intro h
                omega
              · have q12 : _ = _ := hd.1 rfl
                have q3 : _ = _ := hd.2.1 rfl
                refine ⟨fun _ => ?_, fun hw => absurd (hw.symm.trans (wanted_of rfl rfl rfl q3)) (by decide)⟩
                refine ow_load_struct 53 _ rfl Tryz.underlying53 rfl rfl g (j * 3) (by simp [go_sem, q12]) [.string y.1.mem, .string y.1.top, y.2] rfl (own_cells3 (own_kept0 HO.out hR) hyj) ?_
                exact .mk hRr rfl rfl
              · have q4 : _ = _ := hd.1 rfl
                have q8 : _ = _ := hd.2.1 rfl
                have q13 : _ = _ := hd.2.2.1 rfl
                have q3 : _ = _ := hd.2.2.2.2.1 rfl
                refine ⟨fun _ => ?_, fun hw => absurd (hw.symm.trans (wanted_of rfl rfl rfl q3)) (by decide)⟩
                refine ow_call (w' := W) (f := 68) (args := #[.agg #[.string x.1.mem, .string x.1.top, x.2], .agg #[.string y.1.mem, .string y.1.top, y.2]]) (by simp [go_sem, q4, q8, q13]) (cmp_any x y W) ?_
                rintro e w'' ⟨r, rfl, h1, h2⟩
                exact ⟨_, rfl, .mk h2 ⟨r, rfl, h1⟩ rfl⟩
              · have q14 := hd.1 rfl
                have q3 : _ = _ := hd.2.1 rfl
                refine ⟨fun _ => ?_, fun hw => absurd (hw.symm.trans (wanted_of rfl rfl rfl q3)) (by decide)⟩
                obtain ⟨r, q14, hr⟩ := q14
                change _ = _ at q14
                refine ow_value (w' := W) (v := .bool (decide (bl x.1.top < bl y.1.top))) ?_ (.mk hRr rfl rfl)
                have hdr : decide (r < 0) = decide (bl x.1.top < bl y.1.top) := by simp only [hr]
                simp [go_sem, q14, hdr]
            · intro f W hR hf
              obtain ⟨f0, f1, f2, f3, f4, f5, f6, f7, f8, f9, f10, f11, f12, f13, f14, f15, -⟩ := hf
              change f 18 = _ at f0
              change f 19 = _ at f1
              change f 20 = _ at f2
              change f 21 = _ at f3
              change f 22 = _ at f4
              change f 23 = _ at f5
              change f 24 = _ at f6
              change f 25 = _ at f7
              change f 26 = _ at f8
              change f 27 = _ at f9
              change f 28 = _ at f10
              change f 29 = _ at f11
              change f 30 = _ at f12
              change f 31 = _ at f13
              change ∃ r : Int, (f 32) = .int .i64 r ∧ (r < 0 ↔ bl x.1.top < bl y.1.top) at f14
              obtain ⟨x14, g14⟩ : ∃ x, f 32 = x := ⟨_, rfl⟩
              rw [g14] at f14
              change f 33 = _ at f15
              simp only [headDsts, List.take_succ_cons, List.take_zero, List.filterMap_cons, List.filterMap_nil, setAll, f0, f1, f2, f3, f4, f5, f6, f7, f8, f9, f10, f11, f12, f13, g14, f15, List.setIfInBounds_toArray, List.set_cons_succ, List.set_cons_zero, List.drop_succ_cons, List.drop_zero]
              clear f0 f1 f2 f3 f4 f5 f6 f7 f8 f9 f10 f11 f12 f13 g14 f15 f
              rw [hdec]
              obtain ⟨r14, rfl, hr14⟩ := f14
              have HR := Lib.hid hR
              have HO3 := Lib.hid (own_kept0 HO2.out hR)
              clear hR hr14 HO
              go_wp2
              have hpreW : ∀ W', Kept [] W W' → W'.ownsRow 0 53 3 (.slice (some ⟨g, 0, none⟩) n cap) n (shFlat l2) := fun W' hk => own_kept0 HO3.out hk
              refine wp_region_gd' 17 (Kept [g]) (isE g) (isPre g n cap l2) (isS g n cap j x y l2) mixed (by kernel_rfl) ((Kept.refl _ _).drew) (fun i _ _ _ h k => isE_R h k) (fun i _ _ => hpreW _ ((Kept.refl _ _).drew)) isS_stable (fun i jx w w' hij hwt h hk hj => ?_) ?_ ?_
              · unfold isE at hk
                split at hk
                · rcases hj with rfl | rfl | rfl
                  · exact Bool.noConfusion (show true = false from hwt)
                  · exact Bool.noConfusion (show true = false from hwt)
                  · exact absurd rfl hij
                · exact own_kept0 (h hj) hk
              · refine ⟨?_, ?_, ?_, ?_, ?_, ?_, ?_, ?_, ?_, ?_, ?_, ?_, ?_, ?_, ?_, ?_, ?_, trivial⟩
                all_goals go_light
                all_goals intro a W hR hpre hs hd
                all_goals have p9 : a.tmps[9]? = some (.int .i64 ((j : Int) + 1)) := hs.2.2 9 (by decide)
                all_goals have p0 : a.tmps[0]? = some (.slice (some ⟨g, 0, none⟩) n cap) := hs.2.2 0 (by decide)
                all_goals have hRr : Kept [] W W := Kept.refl [] W
                all_goals have hwj : IntKind.i64.wrap (j : Int) = (j : Int) := by rw [IntWalk.i64_left, IntWalk.wrap64_in _ (by omega)]
                · refine ⟨fun _ => ?_, fun hw => Bool.noConfusion (show true = false from hw)⟩
                  refine ow_value (w' := W) (v := .slice (some ⟨g, 0, none⟩) n cap) ?_ (.mk hRr rfl rfl)
                  simp [go_sem, p0]
                · refine ⟨fun _ => ?_, fun hw => Bool.noConfusion (show true = false from hw)⟩
                  refine ow_value (w' := W) (v := .int .i64 ((j : Int) + 1)) ?_ (.mk hRr rfl rfl)
                  simp [go_sem, p9]
                · refine ⟨fun _ => ?_, fun hw => Bool.noConfusion (show true = false from hw)⟩
                  refine ow_value (w' := W) (v := .slice (some ⟨g, 0, none⟩) n cap) ?_ (.mk hRr rfl rfl)
                  simp [go_sem, p0]
                · refine ⟨fun _ => ?_, fun hw => Bool.noConfusion (show true = false from hw)⟩
                  refine ow_value (w' := W) (v := .int .i64 ((j : Int) + 1)) ?_ (.mk hRr rfl rfl)
                  simp [go_sem, p9]
                · have q3 : _ = _ := hd.1 rfl
                  refine ⟨fun _ => ?_, fun hw => Bool.noConfusion (show true = false from hw)⟩
                  refine ow_value (w' := W) (v := .int .i64 j) ?_ (.mk hRr rfl rfl)
                  simp [go_sem, q3, hwj]
                · refine ⟨fun _ => ?_, fun hw => Bool.noConfusion (show true = false from hw)⟩
                  refine ow_value (w' := W) (v := .slice (some ⟨g, 0, none⟩) n cap) ?_ (.mk hRr rfl rfl)
                  simp [go_sem, p0]
                · refine ⟨fun _ => ?_, fun hw => Bool.noConfusion (show true = false from hw)⟩
                  refine ow_value (w' := W) (v := .int .i64 ((j : Int) + 1)) ?_ (.mk hRr rfl rfl)
                  simp [go_sem, p9]
                · have q6 : _ = _ := hd.1 rfl
                  refine ⟨fun _ => ?_, fun hw => Bool.noConfusion (show true = false from hw)⟩
                  refine ow_value (w' := W) (v := .int .i64 j) ?_ (.mk hRr rfl rfl)
                  simp [go_sem, q6, hwj]
                · have q5 : _ = _ := hd.1 rfl
                  have q7 : _ = _ := hd.2.1 rfl
                  refine ⟨fun _ => ?_, fun hw => Bool.noConfusion (show true = false from hw)⟩
                  refine ow_value (w' := W) (v := .pointer (some ⟨g, j * 3, none⟩)) ?_ (.mk hRr rfl rfl)
                  simp [go_sem, q5, q7]
                  intro h
                  omega
                · have q8 : _ = _ := hd.1 rfl
                  refine ⟨fun _ => ?_, fun hw => Bool.noConfusion (show true = false from hw)⟩
                  refine ow_load_struct 53 _ rfl Tryz.underlying53 rfl rfl g (j * 3) (by simp [go_sem, q8]) [.string y.1.mem, .string y.1.top, y.2] rfl (own_cells3 (hpre (by simp)) hyj) ?_
                  exact .mk hRr rfl rfl
                · refine ⟨fun _ => ?_, fun hw => Bool.noConfusion (show true = false from hw)⟩
                  refine ow_value (w' := W) (v := .slice (some ⟨g, 0, none⟩) n cap) ?_ (.mk hRr rfl rfl)
                  simp [go_sem, p0]
                · refine ⟨fun _ => ?_, fun hw => Bool.noConfusion (show true = false from hw)⟩
                  refine ow_value (w' := W) (v := .int .i64 ((j : Int) + 1)) ?_ (.mk hRr rfl rfl)
                  simp [go_sem, p9]
                · have q10 : _ = _ := hd.1 rfl
                  have q11 : _ = _ := hd.2.1 rfl
                  refine ⟨fun _ => ?_, fun hw => Bool.noConfusion (show true = false from hw)⟩
                  refine ow_value (w' := W) (v := .pointer (some ⟨g, (j + 1) * 3, none⟩)) ?_ (.mk hRr rfl rfl)
                  simp [go_sem, q10, q11]
                  intro h
                  omega
                · have q12 : _ = _ := hd.1 rfl
                  refine ⟨fun _ => ?_, fun hw => Bool.noConfusion (show true = false from hw)⟩
                  refine ow_load_struct 53 _ rfl Tryz.underlying53 rfl rfl g ((j + 1) * 3) (by simp [go_sem, q12]) [.string x.1.mem, .string x.1.top, x.2] rfl (own_cells3 (hpre (by simp)) hxj) ?_
                  exact .mk hRr rfl rfl
                · have q0 : _ = _ := hd.1 rfl
                  have q1 : _ = _ := hd.2.1 rfl
                  refine ⟨fun _ => ?_, fun hw => Bool.noConfusion (show true = false from hw)⟩
                  refine ow_value (w' := W) (v := .pointer (some ⟨g, (j + 1) * 3, none⟩)) ?_ (.mk hRr rfl rfl)
                  simp [go_sem, q0, q1]
                  intro h
                  omega
                · have q14 : _ = _ := hd.1 rfl
                  have q9 : _ = _ := hd.2.1 rfl
                  refine ⟨fun _ => ?_, fun hw => Bool.noConfusion (show true = false from hw)⟩
                  obtain ⟨w', h1, h2, h3⟩ := own_store3 (P := Tryz.prog) (by kernel_rfl) y hy1 (hpre (by simp)) (show j + 1 < n by omega)
                  refine ow_store3 53 _ _ rfl g ((j + 1) * 3) (by simp [go_sem, q14]) (by simp [go_sem, q9, shCells]) h1 ?_
                  exact ⟨undef, rfl, h3, h2, fun _ => h2⟩
                · have q2 : _ = _ := hd.1 rfl
                  have q4 : _ = _ := hd.2.1 rfl
                  refine ⟨fun _ => ?_, fun hw => Bool.noConfusion (show true = false from hw)⟩
                  refine ow_value (w' := W) (v := .pointer (some ⟨g, j * 3, none⟩)) ?_ (.mk hRr rfl rfl)
                  simp [go_sem, q2, q4]
                  intro h
                  omega
              · intro f W hR hf
                obtain ⟨f0, f1, f2, f3, f4, f5, f6, f7, f8, f9, f10, f11, f12, f13, f14, f15, f16, -⟩ := hf
                change f 37 = _ at f0
                change f 38 = _ at f1
                change f 39 = _ at f2
                change f 40 = _ at f3
                change f 41 = _ at f4
                change f 42 = _ at f5
                change f 43 = _ at f6
                change f 44 = _ at f7
                change f 45 = _ at f8
                change f 46 = _ at f9
                change f 47 = _ at f10
                change f 48 = _ at f11
                change f 49 = _ at f12
                change f 50 = _ at f13
                change f 51 = _ at f14
                change W.ownsRow 0 53 3 (.slice (some ⟨g, 0, none⟩) n cap) n (shFlat (l2.set (j + 1) y)) at f15
                change f 52 = _ at f16
                simp only [headDsts, List.take_succ_cons, List.take_zero, List.filterMap_cons, List.filterMap_nil, setAll, f0, f1, f2, f3, f4, f5, f6, f7, f8, f9, f10, f11, f12, f13, f14, f16, List.setIfInBounds_toArray, List.set_cons_succ, List.set_cons_zero, List.drop_succ_cons, List.drop_zero]
                clear f0 f1 f2 f3 f4 f5 f6 f7 f8 f9 f10 f11 f12 f13 f14 f16 f
                obtain ⟨w3, hw1, hw2, hw3⟩ := own_store3 (P := Tryz.prog) (by kernel_rfl) x hx1 f15 (show j < n by omega)
                rw [HSWAP.out] at hw2
                refine wl_store3 rfl 53 (.tmp 52) (.tmp 50) rfl g (j * 3) rfl rfl hw1 ?_
                have hKn : Kept [g] w w3 := (((HK3.out.trans0 HR.out).trans0 (Kept.refl [] _)).trans hR (fun x hx => .inl hx)).trans hw3 (fun x hx => .inl hx)
                have HW2 := Lib.hid hw2
                have HKN := Lib.hid hKn
                clear hw1 hw2 hw3 hKn f15 hR hpreW HO3
                go_wp2
                go_roundg j
                case measure =>
                  rw [hk2]
                  simp [hj]
                case rel => exact ⟨A', x, y :: B, C, hj.symm, by rw [hj], by simp at hAB ⊢; omega, HPERM.out, HSORT.out, HBB.out, HW2.out, HKN.out⟩
          · have hdec : decide (bl x.1.top < bl y.1.top) = false := decide_eq_false hxy
            have hfin : (l2.take (i + 1 + 1)).Pairwise tle := NEXT.out (ins_done HS2.out HB2.out (.inr ⟨A', y, rfl, hxy⟩))
            have HFIN := Lib.hid hfin
            clear hfin hswap hl2
            go_wp2
            refine wp_region_gd' 16 (Kept []) (fun _ => Kept []) (fun _ _ => True) (isF g n cap j x y) mixed (by kernel_rfl) ((Kept.refl _ _).drew) (fun _ _ _ _ h k => h.trans0 k) (fun _ _ => trivial) (fun _ jx v w w' _ h k => isF_stable jx v w w' h k) (fun _ _ _ _ _ _ _ _ => trivial) ?_ ?_
            · refine ⟨?_, ?_, ?_, ?_, ?_, ?_, ?_, ?_, ?_, ?_, ?_, ?_, ?_, ?_, ?_, ?_, trivial⟩
              all_goals go_light
              all_goals intro a W hR hpre hs hd
              all_goals have p9 : a.tmps[9]? = some (.int .i64 ((j : Int) + 1)) := hs.2.2 9 (by decide)
              all_goals have p1 : a.tmps[1]? = some (.int .i64 0) := hs.2.2 1 (by decide)
              all_goals have p3 : a.tmps[3]? = some (.func (.func 68) #[] #[]) := hs.2.2 3 (by decide)
              all_goals have p0 : a.tmps[0]? = some (.slice (some ⟨g, 0, none⟩) n cap) := hs.2.2 0 (by decide)
              all_goals have hRr : Kept [] W W := Kept.refl [] W
              all_goals have hwj : IntKind.i64.wrap (j : Int) = (j : Int) := by rw [IntWalk.i64_left, IntWalk.wrap64_in _ (by omega)]
              · refine ⟨fun _ => ?_, fun hw => Bool.noConfusion (show true = false from hw)⟩
                refine ow_value (w' := W) (v := .int .i64 ((j : Int) + 1)) ?_ (.mk hRr rfl rfl)
                simp [go_sem, p9]
              · refine ⟨fun _ => ?_, fun hw => Bool.noConfusion (show true = false from hw)⟩
                refine ow_value (w' := W) (v := .int .i64 0) ?_ (.mk hRr rfl rfl)
                simp [go_sem, p1]
              · have q0 : _ = _ := hd.1 rfl
                have q1 : _ = _ := hd.2.1 rfl
                refine ⟨fun _ => ?_, fun hw => Bool.noConfusion (show true = false from hw)⟩
                refine ow_value (w' := W) (v := .bool true) ?_ (.mk hRr rfl rfl)
                simp [go_sem, q0, q1]
              · have q2 : _ = _ := hd.1 rfl
                refine ⟨fun _ => ?_, fun hw => Bool.noConfusion (show true = false from hw)⟩
                refine ow_value (w' := W) (v := .bool true) ?_ (.mk hRr rfl rfl)
                simp [go_sem, q2]
              · have q3 : _ = _ := hd.1 rfl
                refine ⟨fun _ => ?_, fun hw => absurd (hw.symm.trans (wanted_of rfl rfl rfl q3)) (by decide)⟩
                refine ow_value (w' := W) (v := .func (.func 68) #[] #[]) ?_ (.mk hRr rfl rfl)
                simp [go_sem, p3]
              · have q3 : _ = _ := hd.1 rfl
                refine ⟨fun _ => ?_, fun hw => absurd (hw.symm.trans (wanted_of rfl rfl rfl q3)) (by decide)⟩
                refine ow_value (w' := W) (v := .slice (some ⟨g, 0, none⟩) n cap) ?_ (.mk hRr rfl rfl)
                simp [go_sem, p0]
              · have q3 : _ = _ := hd.1 rfl
                refine ⟨fun _ => ?_, fun hw => absurd (hw.symm.trans (wanted_of rfl rfl rfl q3)) (by decide)⟩
                refine ow_value (w' := W) (v := .int .i64 ((j : Int) + 1)) ?_ (.mk hRr rfl rfl)
                simp [go_sem, p9]
              · have q5 : _ = _ := hd.1 rfl
                have q6 : _ = _ := hd.2.1 rfl
                have q3 : _ = _ := hd.2.2.1 rfl
                refine ⟨fun _ => ?_, fun hw => absurd (hw.symm.trans (wanted_of rfl rfl rfl q3)) (by decide)⟩
                refine ow_value (w' := W) (v := .pointer (some ⟨g, (j + 1) * 3, none⟩)) ?_ (.mk hRr rfl rfl)
                simp [go_sem, q5, q6]
                intro h
                omega
              · have q7 : _ = _ := hd.1 rfl
                have q3 : _ = _ := hd.2.1 rfl
                refine ⟨fun _ => ?_, fun hw => absurd (hw.symm.trans (wanted_of rfl rfl rfl q3)) (by decide)⟩
                refine ow_load_struct 53 _ rfl Tryz.underlying53 rfl rfl g ((j + 1) * 3) (by simp [go_sem, q7]) [.string x.1.mem, .string x.1.top, x.2] rfl (own_cells3 (own_kept0 HO.out hR) hxj) ?_
                exact .mk hRr rfl rfl
              · have q3 : _ = _ := hd.1 rfl
                refine ⟨fun _ => ?_, fun hw => absurd (hw.symm.trans (wanted_of rfl rfl rfl q3)) (by decide)⟩
                refine ow_value (w' := W) (v := .slice (some ⟨g, 0, none⟩) n cap) ?_ (.mk hRr rfl rfl)
                simp [go_sem, p0]
              · have q3 : _ = _ := hd.1 rfl
                refine ⟨fun _ => ?_, fun hw => absurd (hw.symm.trans (wanted_of rfl rfl rfl q3)) (by decide)⟩
                refine ow_value (w' := W) (v := .int .i64 ((j : Int) + 1)) ?_ (.mk hRr rfl rfl)
                simp [go_sem, p9]
              · have q10 : _ = _ := hd.1 rfl
                have q3 : _ = _ := hd.2.1 rfl
                refine ⟨fun _ => ?_, fun hw => absurd (hw.symm.trans (wanted_of rfl rfl rfl q3)) (by decide)⟩
                refine ow_value (w' := W) (v := .int .i64 j) ?_ (.mk hRr rfl rfl)
                simp [go_sem, q10, hwj]
              · have q9 : _ = _ := hd.1 rfl
                have q11 : _ = _ := hd.2.1 rfl
                have q3 : _ = _ := hd.2.2.1 rfl
                refine ⟨fun _ => ?_, fun hw => absurd (hw.symm.trans (wanted_of rfl rfl rfl q3)) (by decide)⟩
                refine ow_value (w' := W) (v := .pointer (some ⟨g, j * 3, none⟩)) ?_ (.mk hRr rfl rfl)
                simp [go_sem, q9, q11]
                intro h
                omega
              · have q12 : _ = _ := hd.1 rfl
                have q3 : _ = _ := hd.2.1 rfl
                refine ⟨fun _ => ?_, fun hw => absurd (hw.symm.trans (wanted_of rfl rfl rfl q3)) (by decide)⟩
                refine ow_load_struct 53 _ rfl Tryz.underlying53 rfl rfl g (j * 3) (by simp [go_sem, q12]) [.string y.1.mem, .string y.1.top, y.2] rfl (own_cells3 (own_kept0 HO.out hR) hyj) ?_
                exact .mk hRr rfl rfl
              · have q4 : _ = _ := hd.1 rfl
                have q8 : _ = _ := hd.2.1 rfl
                have q13 : _ = _ := hd.2.2.1 rfl
                have q3 : _ = _ := hd.2.2.2.2.1 rfl
                refine ⟨fun _ => ?_, fun hw => absurd (hw.symm.trans (wanted_of rfl rfl rfl q3)) (by decide)⟩
                refine ow_call (w' := W) (f := 68) (args := #[.agg #[.string x.1.mem, .string x.1.top, x.2], .agg #[.string y.1.mem, .string y.1.top, y.2]]) (by simp [go_sem, q4, q8, q13]) (cmp_any x y W) ?_
                rintro e w'' ⟨r, rfl, h1, h2⟩
                exact ⟨_, rfl, .mk h2 ⟨r, rfl, h1⟩ rfl⟩
              · have q14 := hd.1 rfl
                have q3 : _ = _ := hd.2.1 rfl
                refine ⟨fun _ => ?_, fun hw => absurd (hw.symm.trans (wanted_of rfl rfl rfl q3)) (by decide)⟩
                obtain ⟨r, q14, hr⟩ := q14
                change _ = _ at q14
                refine ow_value (w' := W) (v := .bool (decide (bl x.1.top < bl y.1.top))) ?_ (.mk hRr rfl rfl)
                have hdr : decide (r < 0) = decide (bl x.1.top < bl y.1.top) := by simp only [hr]
                simp [go_sem, q14, hdr]
            · intro f W hR hf
              obtain ⟨f0, f1, f2, f3, f4, f5, f6, f7, f8, f9, f10, f11, f12, f13, f14, f15, -⟩ := hf
              change f 18 = _ at f0
              change f 19 = _ at f1
              change f 20 = _ at f2
              change f 21 = _ at f3
              change f 22 = _ at f4
              change f 23 = _ at f5
              change f 24 = _ at f6
              change f 25 = _ at f7
              change f 26 = _ at f8
              change f 27 = _ at f9
              change f 28 = _ at f10
              change f 29 = _ at f11
              change f 30 = _ at f12
              change f 31 = _ at f13
              change ∃ r : Int, (f 32) = .int .i64 r ∧ (r < 0 ↔ bl x.1.top < bl y.1.top) at f14
              obtain ⟨x14, g14⟩ : ∃ x, f 32 = x := ⟨_, rfl⟩
              rw [g14] at f14
              change f 33 = _ at f15
              simp only [headDsts, List.take_succ_cons, List.take_zero, List.filterMap_cons, List.filterMap_nil, setAll, f0, f1, f2, f3, f4, f5, f6, f7, f8, f9, f10, f11, f12, f13, g14, f15, List.setIfInBounds_toArray, List.set_cons_succ, List.set_cons_zero, List.drop_succ_cons, List.drop_zero]
              clear f0 f1 f2 f3 f4 f5 f6 f7 f8 f9 f10 f11 f12 f13 g14 f15 f
              rw [hdec]
              have HR := Lib.hid hR
              clear hR f14
              go_wp2
              go_roundg (n - (i + 1))
              case measure => omega
              case rel => exact ⟨i + 1, _, rfl, rfl, HP2.out, HFIN.out, own_kept0 HO2.out HR.out, HK3.out.trans0 HR.out⟩
    · have hin : n ≤ i + 1 := by omega
      have hlt' : ¬ (i : Int) + 1 < (n : Int) := by omega
      go_wp2
      refine bodyPost_end (results_none rfl _ _ _) rfl ?_
      refine ⟨rfl, l1, HP1.out, ?_, HO1.out, HK1.out⟩
      have := HS1.out
      rwa [List.take_of_length_le (by omega)] at this

end Go.Proofs.YtghgffhcdnmpnaaGreat
