/-
  shares: a member's map read out in the order of its topics. Conditions: twelve topics at most, no list longer than a million.
-/
import Derived.Test.YtghgffhcdnmpnaaGreatC13
namespace Go.Proofs.YtghgffhcdnmpnaaGreat
open Go.RowKit Go.Sort
theorem info53 : (Tryz.prog.info? 53).map (fun i => (i.zero, i.size, i.bytes)) = some (some (.agg #[.string ⟨#[]⟩, .string ⟨#[]⟩, .slice none 0 0]), 3, 56) := by kernel_rfl
set_option maxRecDepth 100000 in
set_option maxHeartbeats 3200000 in
theorem sortNil (w : World) : Calls Tryz.prog 67 #[.slice none 0 0, .func (.func 68) #[] #[]] w fun e w' => e = .returned (.tuple #[]) ∧ w = w' := by
  have h97 : ∀ w, Calls Tryz.prog 97 #[.slice none 0 0, .int .i64 0, .int .i64 0, .func (.func 68) #[] #[]] w fun e w' => e = .returned (.tuple #[]) ∧ w = w' := by
    intro w
    go_enter Tryz.func97, Tryz.ntmps97
    go_wp2
    refine wp_loop_once ?_
    go_wp2
    exact bodyPost_end (results_none rfl _ _ _) rfl ⟨rfl, rfl⟩
  have h88 : ∀ lim w, Calls Tryz.prog 88 #[.slice none 0 0, .int .i64 0, .int .i64 0, .int .i64 lim, .func (.func 68) #[] #[]] w fun e w' => e = .returned (.tuple #[]) ∧ w = w' := by
    intro lim w
    have H := Lib.hid (h97 w)
    go_enter Tryz.func88, Tryz.ntmps88
    go_wp2
    refine wp_loop_once ?_
    go_wp2_with (with_reducible refine H.out.mono ?_; rintro e w1 ⟨rfl, rfl⟩)
    exact bodyPost_ret (results_none rfl _ _ _) rfl ⟨rfl, rfl⟩
  have hb := Tryz.bits_Len 0 w (by omega) (by omega)
  have HB := Lib.hid hb
  have HC := Lib.hid (fun lim => h88 lim w)
  clear hb h97 h88
  go_enter Tryz.func67, Tryz.ntmps67
  go_wp2_with (first | (with_reducible refine HB.out.mono ?_; rintro e w1 ⟨rfl, rfl⟩) | (with_reducible refine (HC.out _).mono ?_; rintro e w1 ⟨rfl, rfl⟩))
  exact bodyPost_end (results_none rfl _ _ _) rfl ⟨rfl, rfl⟩
set_option maxRecDepth 100000 in
set_option maxHeartbeats 3200000 in
theorem shares_nil (id : ByteArray) (w : World) : Calls Tryz.prog 45 #[.string id, .map none] w fun e w' => e = .returned (.slice none 0 0) ∧ Kept [] w w' := by
  have HS := Lib.hid sortNil
  have hr := run_range_nilMap w 89 9 49 Tryz.underlying89
  have hnx := run_next_nilMap (P := Tryz.prog) w 0 0 0 #[]
  go_enter Tryz.func45, Tryz.ntmps45
  go_wp2
  refine wp_loop_once ?_
  go_wp2_with (with_reducible refine (HS.out _).mono ?_; rintro e w1 ⟨rfl, rfl⟩)
  go_ret
  exact ⟨rfl, (Kept.refl _ _).alloc _⟩

/-! ### What shares gives -/
def mkSh (id : ByteArray) (f : ByteArray → List Int) (t : ByteArray) : Sh := ⟨id, t, f t⟩
def fullTops (f : ByteArray → List Int) (ts : List ByteArray) : List ByteArray := ts.filter fun t => decide (f t ≠ [])
theorem fullTops_snoc (f : ByteArray → List Int) (ts : List ByteArray) (t : ByteArray) : fullTops f (ts ++ [t]) = fullTops f ts ++ (if f t = [] then [] else [t]) := by
  by_cases h : f t = [] <;> simp [fullTops, h]
theorem sorted_unique {id : ByteArray} {f : ByteArray → List Int} {ts : List ByteArray} {l : List (Sh × Value)} (h : (l.map Prod.fst).Perm (ts.map (mkSh id f))) (hs : l.Pairwise tle) : l.map Prod.fst = (srt ts).map (mkSh id f) := by
  refine List.Perm.eq_of_pairwise (le := fun a b : Sh => sle a.top b.top = true) ?_ ?_ ?_ (h.trans ((srt_perm ts).symm.map _))
  · intro a b ha hb h1 h2
    obtain ⟨x, _, rfl⟩ := List.mem_map.1 (h.mem_iff.1 ha)
    obtain ⟨y, _, rfl⟩ := List.mem_map.1 hb
    have : x = y := sle_antisymm _ _ h1 h2
    rw [this]
  · rw [List.pairwise_map]
    exact hs
  · rw [List.pairwise_map]
    exact srt_sorted ts
theorem own_ge {w : World} {base : Nat} {e : TypeId} {s n : Nat} {v : Value} {xs : List Value} (h : w.ownsRow base e s v n xs) : ∀ g, v.ownBlock = some g → base ≤ g := by
  intro g hg
  rcases h.2 with ⟨rfl, _⟩ | ⟨g', cap, cur, rfl, hb, _⟩
  · cases hg
  · have : g' = g := by simpa [Value.ownBlock] using hg
    omega
theorem three_sl (w : World) (p : Sh × Value) : SlIs (w.alloc (.cells #[.string p.1.mem, .string p.1.top, p.2] 53)) 3 (some ⟨w.heap.size, 0, none⟩) 1 (shFlat [p]) := by
  refine ⟨rfl, by omega, fun _ => ⟨_, _, rfl, fun i u hu => ?_⟩⟩
  rw [cell_of_row _ _ _ _ _ _ (heap_alloc_new _ _)]
  rw [Nat.zero_add]
  simpa [shFlat, shCells] using hu
theorem own_rebase {w : World} {base base' : Nat} {e : TypeId} {s n : Nat} {v : Value} {xs : List Value} (h : w.ownsRow base e s v n xs) (hb : ∀ g, v.ownBlock = some g → base' ≤ g) : w.ownsRow base' e s v n xs := by
  refine ⟨h.1, ?_⟩
  rcases h.2 with h2 | ⟨g, cap, cur, hv, hg, r⟩
  · exact .inl h2
  · subst hv
    exact .inr ⟨g, cap, cur, rfl, hb g rfl, r⟩
theorem own_types_ne {w : World} {base base' : Nat} {e e' : TypeId} {s s' n n' : Nat} {v v' : Value} {xs xs' : List Value} (h : w.ownsRow base e s v n xs) (h' : w.ownsRow base' e' s' v' n' xs') (hne : e ≠ e') : ∀ g, v.ownBlock = some g → g ∉ v'.ownBlock.toList := by
  intro g hg hm
  have hg' : v'.ownBlock = some g := by simpa using hm
  rcases h'.2 with ⟨rfl, _⟩ | ⟨g', cap, cur, rfl, _, hh, _⟩
  · cases hg'
  · have : g' = g := by simpa [Value.ownBlock] using hg'
    subst this
    exact own_block_ne h hh hne g' hg rfl
theorem walked_sub {α : Type} {l : List α} {done : List Nat} {x : α} (h : x ∈ walked l done) : x ∈ l := by
  obtain ⟨i, _, hi⟩ := List.mem_filterMap.1 h
  exact List.mem_of_getElem? hi
theorem walked_nodup {α : Type} {l : List α} (hl : l.Nodup) : ∀ {done : List Nat}, done.Nodup → (walked l done).Nodup
  | [], _ => List.nodup_nil
  | i :: r, h => by
    have h' := List.nodup_cons.1 h
    have ih := walked_nodup hl h'.2
    unfold walked at ih ⊢
    cases hi : l[i]? with
    | none => rw [List.filterMap_cons_none hi]; exact ih
    | some x =>
      rw [List.filterMap_cons_some hi]
      refine List.nodup_cons.2 ⟨fun hm => ?_, ih⟩
      obtain ⟨j, hj, hjx⟩ := List.mem_filterMap.1 hm
      have := (List.getElem?_inj (List.getElem?_eq_some_iff.1 hi).1 hl).1 (hi.trans hjx.symm)
      exact h'.1 (this ▸ hj)
/-- slices.SortFunc of shares, nil let in. -/
theorem sortShares_any (base : Nat) (v : Value) (L : List (Sh × Value)) (w : World) (h : w.ownsRow base 53 3 v L.length (shFlat L)) (h1 : ∀ p ∈ L, p.2.oneCell' = true) (hn : L.length ≤ 12) :
    Calls Tryz.prog 67 #[v, .func (.func 68) #[] #[]] w fun e w' => e = .returned (.tuple #[]) ∧ ∃ l', l'.Perm L ∧ l'.Pairwise tle ∧ w'.ownsRow base 53 3 v L.length (shFlat l') ∧ Kept v.ownBlock.toList w w' := by
  rcases h.2 with ⟨rfl, h0⟩ | ⟨g, cap, cur, rfl, hb, _⟩
  · obtain rfl := List.eq_nil_of_length_eq_zero h0
    refine (sortNil w).mono ?_
    rintro e w' ⟨rfl, rfl⟩
    exact ⟨rfl, [], List.Perm.refl _, List.Pairwise.nil, World.ownsRow_nil _ _ _ _, Kept.refl _ _⟩
  · refine (sortShares_own g L.length cap L w (own_mono h (Nat.zero_le _)) h1 hn).mono ?_
    rintro e w' ⟨rfl, l', h2, h3, h4, h5⟩
    exact ⟨rfl, l', h2, h3, own_rebase h4 (own_ge h), h5⟩
set_option maxRecDepth 100000 in
set_option maxHeartbeats 3200000 in
/-- shares of a member's map. -/
theorem shares_map (id : ByteArray) (b : Nat) (f : ByteArray → List Int) (M : List (ByteArray × Value)) (w : World) (hM : MapIs Value.string w b M) (hrows : ∀ t u, (t, u) ∈ M → w.ownsRow 0 21 1 u (f t).length (ints (f t))) (hl : (fullTops f (M.map Prod.fst)).length ≤ 12) (hf : ∀ t, (f t).length ≤ 1000000) :
    Calls Tryz.prog 45 #[.string id, .map (some b)] w fun e w' => ∃ v L, e = .returned v ∧ L.map Prod.fst = (srt (fullTops f (M.map Prod.fst))).map (mkSh id f) ∧ w'.ownsRow w.heap.size 53 3 v L.length (shFlat L) ∧ (∀ p ∈ L, w'.ownsRow w.heap.size 21 1 p.2 p.1.parts.length (ints p.1.parts)) ∧ Kept [] w w' := by
  have HM := Lib.hid hM
  have HR := Lib.hid hrows
  have HF := Lib.hid hf
  have hkn := hM.nodup
  have HKN := Lib.hid hkn
  have hblt := hM.lt
  clear hM hrows hf hkn
  go_enter Tryz.func45, Tryz.ntmps45
  go_wp2_with (refine wl_range rfl _ 89 rfl 9 49 Tryz.underlying89 b M rfl HM.out ?_; intro w1 hI hk1 hs1; have HI := Lib.hid hI; have HK1 := Lib.hid hk1; clear hI hk1)
  simp only [Act.put, List.setIfInBounds_toArray, List.set_cons_succ, List.set_cons_zero]
  obtain ⟨z, hz⟩ : ∃ z, w.heap.size = z := ⟨_, rfl⟩
  rw [hz] at HI ⊢
  go_loopg [5] M.length (fun k v wr => ∃ done L, k = M.length - done.length ∧ IterIs Value.string wr z b M done ∧ L.map Prod.fst = (fullTops f (walked (M.map Prod.fst) done)).map (mkSh id f) ∧ wr.ownsRow (z + 1) 53 3 v L.length (shFlat L) ∧ (∀ p ∈ L, wr.ownsRow (z + 1) 21 1 p.2 p.1.parts.length (ints p.1.parts)) ∧ Kept [] w wr)
  case atStart =>
    exact ⟨[], [], rfl, HI.out, rfl, World.ownsRow_nil _ _ _ _, by simp, HK1.out⟩
  case round =>
    obtain ⟨done, L, hk, hI2, hL, ho, hps, hKr⟩ := hrel
    have HI2 := Lib.hid hI2
    have HL := Lib.hid hL
    have HO := Lib.hid ho
    have HPS := Lib.hid hps
    have HKR := Lib.hid hKr
    clear hI2 hL ho hps hKr
    have hdl := HI2.out.left
    have hzr : z ≤ wr.heap.size := by have := HI2.out.lt; omega
    have hLl : L.length ≤ 12 := by
      have h1 := congrArg List.length HL.out
      rw [List.length_map, List.length_map] at h1
      have h2 : (fullTops f (walked (M.map Prod.fst) done)).length ≤ (fullTops f (M.map Prod.fst)).length := by
        refine List.Nodup.length_le_of_subset ((walked_nodup HKN.out HI2.out.2.1).sublist List.filter_sublist) (fun t ht => ?_)
        have h3 := List.mem_filter.1 ht
        exact List.mem_filter.2 ⟨walked_sub h3.1, h3.2⟩
      omega
    by_cases hd : done.length < M.length
    · go_wp2_with (first | (refine wl_next rfl _ rfl z b M done rfl HI2.out (fun e => absurd e (by omega)) ?_; intro i p w2 hp hi hI3 hK3 hs3; obtain ⟨t, u⟩ := p; have HI3 := Lib.hid hI3; have HK3 := Lib.hid hK3; have HP := Lib.hid hp; have HNI := Lib.hid hi; have hK23 := (HKR.out.trans HK3.out (fun x hx => .inr (by have := List.mem_singleton.1 hx; omega))); have hu2 := own_kept0 (HR.out t u (List.mem_of_getElem? hp)) hK23; obtain ⟨A, c, rfl⟩ := own_form hu2; obtain ⟨A', c', he, hsl, _⟩ := own_sl hu2; cases he; have HCL := Lib.hid (clone60 A (f t).length c (ints (f t)) w2 hsl (ints_one _) (by have := HF.out t; omega)); have HK23 := Lib.hid hK23; have HOW : ∀ W, Kept [] w2 W → W.ownsRow (z + 1) 53 3 u5 L.length (shFlat L) := fun W hk => own_kept0 (HK3.out.own HO.out (fun g hg hm => by have h1 := own_ge HO.out g hg; have h2 := List.mem_singleton.1 hm; omega)) hk; clear hI3 hK3 hp hi hu2 hsl hK23) | (refine wl_entry rfl _ rfl z b M done i _ rfl HI3.out HP.out ?_) | (with_reducible refine HCL.out.mono ?_; rintro e w3 ⟨v1, rfl, ho3, hk3⟩; obtain ⟨A1, c1, rfl⟩ := own_form ho3; have HO3 := Lib.hid ho3; have HK4 := Lib.hid hk3; clear ho3 hk3) | (at_builtin; refine wl_append rfl _ _ 30 rfl (z + 1) 53 Tryz.underlying30 info53 rfl (by decide) u5 L.length (shFlat L) rfl (HOW _ ((HK4.out.alloc _))) (some ⟨w3.heap.size, 0, none⟩) 1 1 (shFlat [(mkSh id f t, .slice A1 (f t).length c1)]) rfl (three_sl w3 (mkSh id f t, .slice A1 (f t).length c1)) (by simp [shFlat, shCells, Value.oneCell']) (by omega) (by omega) (by simp; have := HK4.out.size; omega) ?_; intro v' w4 hown hk4 hat; have HOWN := Lib.hid hown; have HK5 := Lib.hid hk4; clear hown hk4 hat))
      · have hpos : 0 < (f t).length := by assumption
        have hne : f t ≠ [] := fun h => by rw [h] at hpos; simp at hpos
        have hki : (M.map Prod.fst)[i]? = some t := by rw [List.getElem?_map, HP.out]; rfl
        have how3 := HOW w3 HK4.out
        have hu5 : ∀ g, u5.ownBlock = some g → z + 1 ≤ g := own_ge HO.out
        have hK24 : Kept u5.ownBlock.toList w2 w4 := ((Kept.refl [] w2).trans (HK4.out.alloc _) (fun x hx => .inl hx)).mono (by simp) |>.trans HK5.out (fun x hx => .inl hx)
        have hIn : IterIs Value.string w4 z b M (done ++ [i]) := HI3.out.kept hK24 (fun hm => by have := hu5 b (by simpa using hm); omega) (fun hm => by have := hu5 z (by simpa using hm); omega)
        have hLn : (L ++ [(mkSh id f t, Value.slice A1 (f t).length c1)]).map Prod.fst = (fullTops f (walked (M.map Prod.fst) (done ++ [i]))).map (mkSh id f) := by
          rw [walked_snoc hki, fullTops_snoc, List.map_append, List.map_append, HL.out, if_neg hne]
          rfl
        have hOn : w4.ownsRow (z + 1) 53 3 v' (L ++ [(mkSh id f t, Value.slice A1 (f t).length c1)]).length (shFlat (L ++ [(mkSh id f t, Value.slice A1 (f t).length c1)])) := by
          have := HOWN.out
          rw [show shFlat (L ++ [(mkSh id f t, Value.slice A1 (f t).length c1)]) = shFlat L ++ shFlat [(mkSh id f t, Value.slice A1 (f t).length c1)] by simp [shFlat], List.length_append]
          exact this
        have how2 := HOW w2 (Kept.refl _ _)
        have hPn : ∀ p ∈ L ++ [(mkSh id f t, Value.slice A1 (f t).length c1)], w4.ownsRow (z + 1) 21 1 p.2 p.1.parts.length (ints p.1.parts) := by
          intro p hp
          rcases List.mem_append.1 hp with hp | hp
          · have h1 := HPS.out p hp
            have h2 := HK3.out.own h1 (fun g hg hm => by have h3 := own_ge h1 g hg; have h4 := List.mem_singleton.1 hm; omega)
            exact hK24.own h2 (own_types_ne h2 how2 (by decide))
          · have : p = (mkSh id f t, Value.slice A1 (f t).length c1) := by simpa using hp
            subst this
            have h3 := HO3.out
            have h4 := HK5.out.own (own_kept0 h3 ((Kept.refl [] _).alloc _)) (own_types_ne h3 how3 (by decide))
            refine own_mono h4 ?_
            have := HI3.out.lt
            omega
        have hKn : Kept [] w w4 := HK23.out.trans hK24 (fun x hx => .inr (by have := hu5 x (by simpa using hx); omega))
        have HIN := Lib.hid hIn
        have HLN := Lib.hid hLn
        have HON := Lib.hid hOn
        have HPN := Lib.hid hPn
        have HKN2 := Lib.hid hKn
        clear hIn hLn hOn hPn hKn hK24 how2 how3 HOW
        go_roundg (M.length - (done ++ [i]).length)
        case measure =>
          rw [List.length_append]
          simp only [List.length_cons, List.length_nil]
          omega
        case rel => exact ⟨done ++ [i], _, rfl, HIN.out, HLN.out, HON.out, HPN.out, HKN2.out⟩
      · have hpos : ¬ 0 < (f t).length := by assumption
        have hne : f t = [] := List.eq_nil_of_length_eq_zero (by omega)
        have hki : (M.map Prod.fst)[i]? = some t := by rw [List.getElem?_map, HP.out]; rfl
        have hLn : L.map Prod.fst = (fullTops f (walked (M.map Prod.fst) (done ++ [i]))).map (mkSh id f) := by
          rw [walked_snoc hki, fullTops_snoc, HL.out, if_pos hne, List.append_nil]
        have hPn : ∀ p ∈ L, w2.ownsRow (z + 1) 21 1 p.2 p.1.parts.length (ints p.1.parts) := by
          intro p hp
          have h1 := HPS.out p hp
          exact HK3.out.own h1 (fun g hg hm => by have h3 := own_ge h1 g hg; have h4 := List.mem_singleton.1 hm; omega)
        have HOW2 := Lib.hid (HOW w2 (Kept.refl _ _))
        have HLN := Lib.hid hLn
        have HPN := Lib.hid hPn
        clear hLn hPn HOW
        go_roundg (M.length - (done ++ [i]).length)
        case measure =>
          rw [List.length_append]
          simp only [List.length_cons, List.length_nil]
          omega
        case rel => exact ⟨done ++ [i], L, rfl, HI3.out, HLN.out, HOW2.out, HPN.out, HK23.out⟩
    · have hde : done.length = M.length := by omega
      have hperm : (walked (M.map Prod.fst) done).Perm (M.map Prod.fst) := walked_perm HI2.out.2.1 (fun i hi => by have := HI2.out.2.2.1 i hi; rw [List.length_map]; omega) (by rw [List.length_map]; omega)
      have hone : ∀ p ∈ L, p.2.oneCell' = true := fun p hp => own_slice_one (HPS.out p hp)
      have HSF := Lib.hid (sortShares_any (z + 1) u5 L wr HO.out hone hLl)
      have HPERM := Lib.hid hperm
      clear hperm hone
      go_wp2_with (first | (refine wl_next rfl _ rfl z b M done rfl HI2.out (fun _ => ?_) (fun i p w2 hp hi hI2 hK2 hs2 => absurd hI2.left (by rw [List.length_append]; simp only [List.length_cons, List.length_nil]; omega))) | (with_reducible refine HSF.out.mono ?_; rintro e w5 ⟨rfl, l', hp, hs, ho, hk⟩; have HPP := Lib.hid hp; have HSS := Lib.hid hs; have HOO := Lib.hid ho; have HKK := Lib.hid hk; clear hp hs ho hk))
      go_ret
      have hlen := HPP.out.length_eq
      refine ⟨u5, l', rfl, ?_, ?_, ?_, ?_⟩
      · have h1 : (l'.map Prod.fst).Perm ((fullTops f (walked (M.map Prod.fst) done)).map (mkSh id f)) := by
          rw [← HL.out]
          exact HPP.out.map _
        have h2 : (fullTops f (walked (M.map Prod.fst) done)).Perm (fullTops f (M.map Prod.fst)) := HPERM.out.filter _
        rw [sorted_unique h1 HSS.out, srt_of_perm h2]
      · rw [hlen]
        exact own_mono HOO.out (by omega)
      · intro p hp
        have h1 := HPS.out p (HPP.out.mem_iff.1 hp)
        exact own_mono (HKK.out.own h1 (own_types_ne h1 HO.out (by decide))) (by omega)
      · exact HKR.out.trans HKK.out (fun x hx => .inr (by have := own_ge HO.out x (by simpa using hx); omega))
end Go.Proofs.YtghgffhcdnmpnaaGreat
