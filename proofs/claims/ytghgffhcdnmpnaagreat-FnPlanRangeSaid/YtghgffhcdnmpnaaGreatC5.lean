/-
  (BalanceStrategyPlan).Add upon a plan in memory. Conditions: the numbers lie apart from the plan; no list is longer than a thousand million.
-/
import Derived.Test.YtghgffhcdnmpnaaGreatC4
namespace Go.Proofs.YtghgffhcdnmpnaaGreat
open Go.RowKit
def adF (b : Nat) (k t : ByteArray) (ib : Nat) (u0 ys : Value) (m : Nat) (zs : List Int) (z : Nat) (ix : Nat) (v : Value) (W : World) : Prop :=
  match ix with
  | 0 => v = .map (some b)
  | 1 => v = .string k
  | 2 => v = .map (some ib)
  | 3 => v = .string t
  | 4 => v = .map (some b)
  | 5 => v = .string k
  | 6 => v = .map (some ib)
  | 7 => v = .string t
  | 8 => v = u0
  | 9 => v = ys
  | 10 => W.ownsRow 0 21 1 v m (ints zs) ∧ (v.ownBlock = u0.ownBlock ∨ ∃ g, v.ownBlock = some g ∧ z ≤ g)
  | _ => True
def adE (u0 : Value) (i : Nat) (a b : World) : Prop := Kept (match i with | 10 => u0.ownBlock.toList | _ => []) a b
theorem adE_R {u0 : Value} {i : Nat} {a b c : World} (h : Kept u0.ownBlock.toList a b) (k : adE u0 i b c) : Kept u0.ownBlock.toList a c := by
  unfold adE at k
  split at k
  · exact h.trans k (fun x hx => .inl hx)
  · exact h.trans0 k
theorem adF_stable {b k t ib u0 ys m zs z} : ∀ i j v w w', i ≠ j → adF b k t ib u0 ys m zs z j v w → adE u0 i w w' → adF b k t ib u0 ys m zs z j v w' := by
  intro i j v w w' hij h hk
  unfold adF at h ⊢
  split at h <;> (first | (exact h) | skip)
  unfold adE at hk
  split at hk
  · exact absurd rfl hij
  · exact ⟨own_kept0 h.1 hk, h.2⟩
def adPre (u0 : Value) (n : Nat) (xs : List Int) (i : Nat) (w : World) : Prop := i = 10 → w.ownsRow 0 21 1 u0 n (ints xs)
theorem adPre_stable {u0 : Value} {n : Nat} {xs : List Int} : ∀ i j w w', i ≠ j → adPre u0 n xs j w → adE u0 i w w' → adPre u0 n xs j w' := by
  intro i j w w' hij h hk hj
  subst hj
  unfold adE at hk
  split at hk
  · exact absurd rfl hij
  · exact own_kept0 (h rfl) hk

set_option maxRecDepth 100000 in
set_option maxHeartbeats 1600000 in
/-- (BalanceStrategyPlan).Add. -/
theorem add_any (S : List Nat) (b : Nat) (f : ByteArray → ByteArray → List Int) (k t : ByteArray) (v : Value) (X : Nat → Prop) (xs : List Int) (w : World) (hP : PlanIs w S b f) (hv : SlAt w X 1 v (ints xs)) (hX : ∀ x, X x → x ∉ S) (hsz : (f k t).length + xs.length ≤ 1000000000) :
    Calls Tryz.prog 75 #[.map (some b), .string k, .string t, v] w fun e w' => e = .returned (.tuple #[]) ∧ ∃ S', PlanIs w' S' b (upd2 f k t (f k t ++ xs)) ∧ Kept S w w' ∧ ∀ x ∈ S', x ∈ S ∨ w.heap.size ≤ x := by
  obtain ⟨A, n, c, rfl, hys, hys2, _⟩ := hv
  have hxn : xs.length = n := by have := hys.1; simpa [ints] using this
  by_cases hn0 : n = 0
  · subst hn0
    obtain rfl : xs = [] := List.eq_nil_of_length_eq_zero hxn
    have hP' := Lib.hid hP
    clear hP hys hys2 hX hsz
    go_enter Tryz.func75, Tryz.ntmps75
    go_wp2
    refine bodyPost_ret (results_none rfl _ _ _) rfl ?_
    refine ⟨rfl, S, ?_, Kept.refl _ _, fun x hx => .inl hx⟩
    have : upd2 f k t (f k t ++ []) = f := by
      funext x y
      by_cases hxy : x = k ∧ y = t
      · simp [upd2, hxy.1, hxy.2]
      · simp [upd2, hxy]
    rw [this]
    exact hP'.out
  · obtain ⟨ks, I, M, hP⟩ := hP
    have hne : ¬ ((n : Int) = 0) := by omega
    have hAS0 : ∀ a, A = some a → a.block ∉ S := fun a ha => hX _ (hys2 a ha (by omega))
    have HOut := Lib.hid hP.outer
    have HP := Lib.hid hP
    have HY := Lib.hid hys
    have HA := Lib.hid hAS0
    have hmm : ∀ (w : World), (Instr.makeMap 89 (some (.int .i64 1))).run Tryz.prog w = .ok (.map (some w.heap.size)) (w.alloc (.map #[] 0)) := fun w => by
      simp [Instr.makeMap, asInt, asIntOf]
    by_cases hk : k ∈ ks
    · have hmg : mget (ks.map fun k => (k, Value.map (some (I k)))) k = some (.map (some (I k))) := mget_outer I hk
      have HMG := Lib.hid hmg
      clear hP hys hys2 hX hmg hAS0
      go_enter Tryz.func75, Tryz.ntmps75
      go_wp2_with (refine wl_lookup_ok rfl _ _ 83 rfl 89 Tryz.underlying83 str9 (.map none) (Tryz.zeroValue89 _) b _ rfl HOut.out k rfl ?_; rw [HMG.out])
      have HS1 : Hid (∀ x ∈ S, x ∈ S ∨ w.heap.size ≤ x) := fun x hx => .inl hx
      have HK1 : Hid (Kept S w w) := Kept.refl _ _
      have hP1 := HP.out
      have hk1 := hk
      clear HP HOut HMG
      obtain ⟨u0, hu0⟩ : ∃ u0, (mget (M k) t).getD (.slice none 0 0) = u0 := ⟨_, rfl⟩
      have hrow := hP1.row hk1 t
      rw [hu0] at hrow
      have hOut := hP1.outer
      have hInn := hP1.inner k hk1
      have hys : SlIs w 1 A n (ints xs) := HY.out.kept HK1.out (fun a ha => HA.out a ha)
      have hbS : b ∉ u0.ownBlock.toList := fun hm => own_map_ne hrow.1 hOut b (by simpa using hm) rfl
      have hiS : I k ∉ u0.ownBlock.toList := fun hm => own_map_ne hrow.1 hInn (I k) (by simpa using hm) rfl
      have hAS : ∀ a, A = some a → a.block ∉ u0.ownBlock.toList := fun a ha hm => by
        rcases HS1.out _ (hrow.2 _ (by simpa using hm)) with h | h
        · exact HA.out a ha h
        · obtain ⟨bb, off, hb, hc⟩ := HY.out.2.2 (by omega)
          have hlen : 0 < (ints xs).length := by have := HY.out.1; omega
          have hlt : bb < w.heap.size := World.block_lt_of_cell? w _ (hc 0 _ (List.getElem?_eq_getElem hlen))
          rw [hb] at ha
          have := Option.some.inj ha
          subst this
          simp only at h
          omega
      have hgk : (mget (ks.map fun k => (k, Value.map (some (I k)))) k).getD (.map none) = .map (some (I k)) := by rw [mget_outer I hk1]; rfl
      refine wp_region_effs' 11 (Kept u0.ownBlock.toList) (adE u0) (adPre u0 (f k t).length (f k t)) (adF b k t (I k) u0 (.slice A n c) (f k t ++ xs).length (f k t ++ xs) w.heap.size) mixed (by kernel_rfl) ((Kept.refl _ _).drew) (fun i _ _ _ h k => adE_R h k) (fun i _ _ => hrow.1) adF_stable adPre_stable ?_ ?_
      · refine ⟨?_, ?_, ?_, ?_, ?_, ?_, ?_, ?_, ?_, ?_, ?_, trivial⟩
        all_goals go_light
        all_goals intro a W hR hpre hs hd
        all_goals have p0 : a.tmps[0]? = some (.map (some b)) := hs.2.2 0 (by decide)
        all_goals have p1 : a.tmps[1]? = some (.string k) := hs.2.2 1 (by decide)
        all_goals have p2 : a.tmps[2]? = some (.string t) := hs.2.2 2 (by decide)
        all_goals have p3 : a.tmps[3]? = some (.slice A n c) := hs.2.2 3 (by decide)
        all_goals have hRr : Kept [] W W := Kept.refl [] W
        · refine ow_value (w' := W) (v := .map (some b)) ?_ (.mk hRr rfl rfl)
          simp [go_sem, p0]
        · refine ow_value (w' := W) (v := .string k) ?_ (.mk hRr rfl rfl)
          simp [go_sem, p1]
        · have q0 : _ = _ := hd.1 rfl
          have q1 : _ = _ := hd.2.1 rfl
          refine ow_value (w' := W) (v := .map (some (I k))) ?_ (.mk hRr rfl rfl)
          have hl := (MapIs.run_lookup (P := Tryz.prog) str9 Tryz.underlying83 (hOut.kept hR hbS) (z := .map none) (Tryz.zeroValue89 W) k)
          rw [hgk] at hl
          simp [go_sem, q0, q1, hl]
        · refine ow_value (w' := W) (v := .string t) ?_ (.mk hRr rfl rfl)
          simp [go_sem, p2]
        · refine ow_value (w' := W) (v := .map (some b)) ?_ (.mk hRr rfl rfl)
          simp [go_sem, p0]
        · refine ow_value (w' := W) (v := .string k) ?_ (.mk hRr rfl rfl)
          simp [go_sem, p1]
        · have q4 : _ = _ := hd.1 rfl
          have q5 : _ = _ := hd.2.1 rfl
          refine ow_value (w' := W) (v := .map (some (I k))) ?_ (.mk hRr rfl rfl)
          have hl := (MapIs.run_lookup (P := Tryz.prog) str9 Tryz.underlying83 (hOut.kept hR hbS) (z := .map none) (Tryz.zeroValue89 W) k)
          rw [hgk] at hl
          simp [go_sem, q4, q5, hl]
        · refine ow_value (w' := W) (v := .string t) ?_ (.mk hRr rfl rfl)
          simp [go_sem, p2]
        · have q6 : _ = _ := hd.1 rfl
          have q7 : _ = _ := hd.2.1 rfl
          refine ow_value (w' := W) (v := u0) ?_ (.mk hRr rfl rfl)
          have hl := (MapIs.run_lookup (P := Tryz.prog) str9 Tryz.underlying89 (hInn.kept hR hiS) (z := .slice none 0 0) (Tryz.zeroValue49 W) t)
          rw [hu0] at hl
          simp [go_sem, q6, q7, hl]
        · refine ow_value (w' := W) (v := .slice A n c) ?_ (.mk hRr rfl rfl)
          simp [go_sem, p3]
        · have q8 : _ = _ := hd.1 rfl
          have q9 : _ = _ := hd.2.1 rfl
          have hown := hpre rfl
          refine ow_append _ _ 49 rfl 0 21 Tryz.underlying49 info21 rfl (by decide) u0 _ _ (by simp [go_sem, q8]) hown A n c _ (by simp [go_sem, q9]) (hys.kept hR hAS) (ints_one _) (by omega) (by omega) (Nat.zero_le _) ?_
          intro v' w' h1 h2 h3
          refine ⟨v', rfl, h2, ⟨?_, ?_⟩, fun h => by cases h⟩
          · rw [show ints (f k t ++ xs) = ints (f k t) ++ ints xs from List.map_append]
            rw [show (f k t ++ xs).length = (f k t).length + n by rw [List.length_append, hxn]]
            exact h1
          · rcases h3 with h3 | h3
            · exact .inl h3
            · exact .inr ⟨_, h3, hR.size⟩
      · intro fv W hR hf
        obtain ⟨f0, f1, f2, f3, f4, f5, f6, f7, f8, f9, f10, -⟩ := hf
        change fv 24 = _ at f0
        change fv 25 = _ at f1
        change fv 26 = _ at f2
        change fv 27 = _ at f3
        change fv 28 = _ at f4
        change fv 29 = _ at f5
        change fv 30 = _ at f6
        change fv 31 = _ at f7
        change fv 32 = _ at f8
        change fv 33 = _ at f9
        change W.ownsRow 0 21 1 (fv 34) (f k t ++ xs).length (ints (f k t ++ xs)) ∧ ((fv 34).ownBlock = u0.ownBlock ∨ ∃ g, (fv 34).ownBlock = some g ∧ w.heap.size ≤ g) at f10
        obtain ⟨x10, g10⟩ : ∃ x, fv 34 = x := ⟨_, rfl⟩
        rw [g10] at f10
        simp only [headDsts, List.take_succ_cons, List.take_zero, List.filterMap_cons, List.filterMap_nil, setAll, f0, f1, f2, f3, f4, f5, f6, f7, f8, f9, g10, List.setIfInBounds_toArray, List.set_cons_succ, List.set_cons_zero, List.drop_succ_cons, List.drop_zero]
        clear f0 f1 f2 f3 f4 f5 f6 f7 f8 f9 g10 fv
        have hszW := hR.size
        have hsz1 := HK1.out.size
        refine wl_update rfl _ _ _ 89 rfl 49 Tryz.underlying89 str9 (I k) (M k) rfl (hInn.kept hR hiS) t rfl x10 rfl ?_
        intro w3 hM3 hK3 hs3
        have hP3 := Lib.hid (hP1.add hk1 t x10 (f k t ++ xs) f10.1 (hu0.symm ▸ hR) (hu0.symm ▸ f10.2) hM3 hK3)
        have hK4 : Hid (Kept S w w3) := by
          refine (HK1.out.trans (hR.mono (T := S) (fun x hx => hrow.2 x (by simpa using hx))) (fun x hx => HS1.out x hx)).trans hK3 (fun x hx => ?_)
          have hx' : x = I k := by simpa using hx
          exact hx' ▸ HS1.out _ (hP1.innerS k hk1).1
        have hS4 : Hid (∀ x ∈ x10.ownBlock.toList ++ S, x ∈ S ∨ w.heap.size ≤ x) := by
          intro x hx
          rcases List.mem_append.1 hx with hx | hx
          · rcases f10.2 with h | ⟨g, h, hg⟩
            · exact HS1.out x (hrow.2 x (by rw [← h]; simpa using hx))
            · rw [h] at hx
              have : x = g := by simpa using hx
              exact .inr (by omega)
          · exact HS1.out x hx
        clear f10 hrow hOut hInn hys hbS hiS hAS hgk hR hM3 hK3 hs3 hszW hsz1 hP1 HS1 HK1 HY HA
        go_wp2
        refine bodyPost_end (results_none rfl _ _ _) rfl ?_
        refine ⟨rfl, _, ⟨_, _, _, hP3.out⟩, hK4.out, hS4.out⟩

    · have hmg : mget (ks.map fun k => (k, Value.map (some (I k)))) k = none := mget_outer_none I hk
      have HMG := Lib.hid hmg
      clear hP hys hys2 hX hmg hAS0
      go_enter Tryz.func75, Tryz.ntmps75
      go_wp2_with (first | (refine wl_lookup_ok rfl _ _ 83 rfl 89 Tryz.underlying83 str9 (.map none) (Tryz.zeroValue89 _) b _ rfl HOut.out k rfl ?_; rw [HMG.out]) | (refine wl_update rfl _ _ _ 83 rfl 89 Tryz.underlying83 str9 b _ rfl (HOut.out.alloc _) k rfl _ rfl ?_; intro w2 hM2 hK2 hs2; have HM2 := Lib.hid hM2; have HK2 := Lib.hid hK2; clear hM2 hK2))
      dsimp only [Act.put]
      have hP1 : PlanWith w2 (w.heap.size :: S) b f (ks ++ [k]) (upd I k w.heap.size) (upd M k []) := by
        have h1 := HM2.out
        rw [mset_new _ HMG.out] at h1
        have hb := HOut.out.lt
        exact HP.out.member k hk h1 ((MapIs.new _ _).kept HK2.out (by simp; omega)) (((Kept.refl _ _).alloc _).trans HK2.out (fun x hx => .inl hx)) (Nat.le_refl _)
      have HS1 : Hid (∀ x ∈ w.heap.size :: S, x ∈ S ∨ w.heap.size ≤ x) := by
        intro x hx
        rcases List.mem_cons.1 hx with rfl | hx
        · exact .inr (Nat.le_refl _)
        · exact .inl hx
      have HK1 : Hid (Kept S w w2) := ((Kept.refl _ _).alloc _).trans HK2.out (fun x hx => by
        have hx' : x = b := by simpa using hx
        exact .inl (hx' ▸ HP.out.bS))
      have hk1 : k ∈ ks ++ [k] := by simp
      clear HM2 HMG HP HOut HK2 hs2
      obtain ⟨I1, hI1⟩ : ∃ I1, upd I k w.heap.size = I1 := ⟨_, rfl⟩
      obtain ⟨M1, hM1⟩ : ∃ M1, upd M k [] = M1 := ⟨_, rfl⟩
      obtain ⟨ks1, hks1⟩ : ∃ ks1, ks ++ [k] = ks1 := ⟨_, rfl⟩
      obtain ⟨S1, hS1⟩ : ∃ S1, w.heap.size :: S = S1 := ⟨_, rfl⟩
      rw [hI1, hM1, hks1, hS1] at hP1
      rw [hS1] at HS1
      rw [hks1] at hk1
      clear hI1 hM1 hks1 hS1
      obtain ⟨u0, hu0⟩ : ∃ u0, (mget (M1 k) t).getD (.slice none 0 0) = u0 := ⟨_, rfl⟩
      have hrow := hP1.row hk1 t
      rw [hu0] at hrow
      have hOut := hP1.outer
      have hInn := hP1.inner k hk1
      have hys : SlIs w2 1 A n (ints xs) := HY.out.kept HK1.out (fun a ha => HA.out a ha)
      have hbS : b ∉ u0.ownBlock.toList := fun hm => own_map_ne hrow.1 hOut b (by simpa using hm) rfl
      have hiS : I1 k ∉ u0.ownBlock.toList := fun hm => own_map_ne hrow.1 hInn (I1 k) (by simpa using hm) rfl
      have hAS : ∀ a, A = some a → a.block ∉ u0.ownBlock.toList := fun a ha hm => by
        rcases HS1.out _ (hrow.2 _ (by simpa using hm)) with h | h
        · exact HA.out a ha h
        · obtain ⟨bb, off, hb, hc⟩ := HY.out.2.2 (by omega)
          have hlen : 0 < (ints xs).length := by have := HY.out.1; omega
          have hlt : bb < w.heap.size := World.block_lt_of_cell? w _ (hc 0 _ (List.getElem?_eq_getElem hlen))
          rw [hb] at ha
          have := Option.some.inj ha
          subst this
          simp only at h
          omega
      have hgk : (mget (ks1.map fun k => (k, Value.map (some (I1 k)))) k).getD (.map none) = .map (some (I1 k)) := by rw [mget_outer I1 hk1]; rfl
      refine wp_region_effs' 11 (Kept u0.ownBlock.toList) (adE u0) (adPre u0 (f k t).length (f k t)) (adF b k t (I1 k) u0 (.slice A n c) (f k t ++ xs).length (f k t ++ xs) w2.heap.size) mixed (by kernel_rfl) ((Kept.refl _ _).drew) (fun i _ _ _ h k => adE_R h k) (fun i _ _ => hrow.1) adF_stable adPre_stable ?_ ?_
      · refine ⟨?_, ?_, ?_, ?_, ?_, ?_, ?_, ?_, ?_, ?_, ?_, trivial⟩
        all_goals go_light
        all_goals intro a W hR hpre hs hd
        all_goals have p0 : a.tmps[0]? = some (.map (some b)) := hs.2.2 0 (by decide)
        all_goals have p1 : a.tmps[1]? = some (.string k) := hs.2.2 1 (by decide)
        all_goals have p2 : a.tmps[2]? = some (.string t) := hs.2.2 2 (by decide)
        all_goals have p3 : a.tmps[3]? = some (.slice A n c) := hs.2.2 3 (by decide)
        all_goals have hRr : Kept [] W W := Kept.refl [] W
        · refine ow_value (w' := W) (v := .map (some b)) ?_ (.mk hRr rfl rfl)
          simp [go_sem, p0]
        · refine ow_value (w' := W) (v := .string k) ?_ (.mk hRr rfl rfl)
          simp [go_sem, p1]
        · have q0 : _ = _ := hd.1 rfl
          have q1 : _ = _ := hd.2.1 rfl
          refine ow_value (w' := W) (v := .map (some (I1 k))) ?_ (.mk hRr rfl rfl)
          have hl := (MapIs.run_lookup (P := Tryz.prog) str9 Tryz.underlying83 (hOut.kept hR hbS) (z := .map none) (Tryz.zeroValue89 W) k)
          rw [hgk] at hl
          simp [go_sem, q0, q1, hl]
        · refine ow_value (w' := W) (v := .string t) ?_ (.mk hRr rfl rfl)
          simp [go_sem, p2]
        · refine ow_value (w' := W) (v := .map (some b)) ?_ (.mk hRr rfl rfl)
          simp [go_sem, p0]
        · refine ow_value (w' := W) (v := .string k) ?_ (.mk hRr rfl rfl)
          simp [go_sem, p1]
        · have q4 : _ = _ := hd.1 rfl
          have q5 : _ = _ := hd.2.1 rfl
          refine ow_value (w' := W) (v := .map (some (I1 k))) ?_ (.mk hRr rfl rfl)
          have hl := (MapIs.run_lookup (P := Tryz.prog) str9 Tryz.underlying83 (hOut.kept hR hbS) (z := .map none) (Tryz.zeroValue89 W) k)
          rw [hgk] at hl
          simp [go_sem, q4, q5, hl]
        · refine ow_value (w' := W) (v := .string t) ?_ (.mk hRr rfl rfl)
          simp [go_sem, p2]
        · have q6 : _ = _ := hd.1 rfl
          have q7 : _ = _ := hd.2.1 rfl
          refine ow_value (w' := W) (v := u0) ?_ (.mk hRr rfl rfl)
          have hl := (MapIs.run_lookup (P := Tryz.prog) str9 Tryz.underlying89 (hInn.kept hR hiS) (z := .slice none 0 0) (Tryz.zeroValue49 W) t)
          rw [hu0] at hl
          simp [go_sem, q6, q7, hl]
        · refine ow_value (w' := W) (v := .slice A n c) ?_ (.mk hRr rfl rfl)
          simp [go_sem, p3]
        · have q8 : _ = _ := hd.1 rfl
          have q9 : _ = _ := hd.2.1 rfl
          have hown := hpre rfl
          refine ow_append _ _ 49 rfl 0 21 Tryz.underlying49 info21 rfl (by decide) u0 _ _ (by simp [go_sem, q8]) hown A n c _ (by simp [go_sem, q9]) (hys.kept hR hAS) (ints_one _) (by omega) (by omega) (Nat.zero_le _) ?_
          intro v' w' h1 h2 h3
          refine ⟨v', rfl, h2, ⟨?_, ?_⟩, fun h => by cases h⟩
          · rw [show ints (f k t ++ xs) = ints (f k t) ++ ints xs from List.map_append]
            rw [show (f k t ++ xs).length = (f k t).length + n by rw [List.length_append, hxn]]
            exact h1
          · rcases h3 with h3 | h3
            · exact .inl h3
            · exact .inr ⟨_, h3, hR.size⟩
      · intro fv W hR hf
        obtain ⟨f0, f1, f2, f3, f4, f5, f6, f7, f8, f9, f10, -⟩ := hf
        change fv 24 = _ at f0
        change fv 25 = _ at f1
        change fv 26 = _ at f2
        change fv 27 = _ at f3
        change fv 28 = _ at f4
        change fv 29 = _ at f5
        change fv 30 = _ at f6
        change fv 31 = _ at f7
        change fv 32 = _ at f8
        change fv 33 = _ at f9
        change W.ownsRow 0 21 1 (fv 34) (f k t ++ xs).length (ints (f k t ++ xs)) ∧ ((fv 34).ownBlock = u0.ownBlock ∨ ∃ g, (fv 34).ownBlock = some g ∧ w2.heap.size ≤ g) at f10
        obtain ⟨x10, g10⟩ : ∃ x, fv 34 = x := ⟨_, rfl⟩
        rw [g10] at f10
        simp only [headDsts, List.take_succ_cons, List.take_zero, List.filterMap_cons, List.filterMap_nil, setAll, f0, f1, f2, f3, f4, f5, f6, f7, f8, f9, g10, List.setIfInBounds_toArray, List.set_cons_succ, List.set_cons_zero, List.drop_succ_cons, List.drop_zero]
        clear f0 f1 f2 f3 f4 f5 f6 f7 f8 f9 g10 fv
        have hszW := hR.size
        have hsz1 := HK1.out.size
        refine wl_update rfl _ _ _ 89 rfl 49 Tryz.underlying89 str9 (I1 k) (M1 k) rfl (hInn.kept hR hiS) t rfl x10 rfl ?_
        intro w3 hM3 hK3 hs3
        have hP3 := Lib.hid (hP1.add hk1 t x10 (f k t ++ xs) f10.1 (hu0.symm ▸ hR) (hu0.symm ▸ f10.2) hM3 hK3)
        have hK4 : Hid (Kept S w w3) := by
          refine (HK1.out.trans (hR.mono (T := S1) (fun x hx => hrow.2 x (by simpa using hx))) (fun x hx => HS1.out x hx)).trans hK3 (fun x hx => ?_)
          have hx' : x = I1 k := by simpa using hx
          exact hx' ▸ HS1.out _ (hP1.innerS k hk1).1
        have hS4 : Hid (∀ x ∈ x10.ownBlock.toList ++ S1, x ∈ S ∨ w.heap.size ≤ x) := by
          intro x hx
          rcases List.mem_append.1 hx with hx | hx
          · rcases f10.2 with h | ⟨g, h, hg⟩
            · exact HS1.out x (hrow.2 x (by rw [← h]; simpa using hx))
            · rw [h] at hx
              have : x = g := by simpa using hx
              exact .inr (by omega)
          · exact HS1.out x hx
        clear f10 hrow hOut hInn hys hbS hiS hAS hgk hR hM3 hK3 hs3 hszW hsz1 hP1 HS1 HK1 HY HA
        go_wp2
        refine bodyPost_end (results_none rfl _ _ _) rfl ?_
        refine ⟨rfl, _, ⟨_, _, _, hP3.out⟩, hK4.out, hS4.out⟩


end Go.Proofs.YtghgffhcdnmpnaaGreat
