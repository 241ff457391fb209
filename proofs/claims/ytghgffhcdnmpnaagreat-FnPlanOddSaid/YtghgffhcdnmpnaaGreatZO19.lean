/-
  (*stickyBalanceStrategy).Plan (193), of a group that begins. Conditions: what a plan is told; all members have just the topics; each topic has one to ten thousand different partitions.
-/
import Derived.Test.YtghgffhcdnmpnaaGreatZO14
import Derived.Test.YtghgffhcdnmpnaaGreatZO10
import Derived.Test.YtghgffhcdnmpnaaGreatZO7
import Derived.Test.YtghgffhcdnmpnaaGreatZC4
namespace Go.Proofs.YtghgffhcdnmpnaaGreat
open Go.RowKit Go.Sort Go.MapKept
/-- Pairs whose keys are those, each with nothing yet. -/
def ZeroP (ks : List TP) (LP : List (TP × Nat × List Value)) : Prop := LP.map Prod.fst = ks ∧ ∀ x ∈ LP, x.2 = (0, [])
theorem flat_take_len {tm : List (ByteArray × List Int)} {tops : List ByteArray} (hn : (tm.map Prod.fst).Nodup) (h : tops.Perm (tm.map Prod.fst)) {i : Nat} {t : ByteArray} (ht : tops[i]? = some t) (j : Nat) :
    ((tops.take i).flatMap (pairsT tm) ++ ((tget tm t).take j).map fun p => (t, p)).length ≤ (pairsOf tm).length := by
  rw [← (pairsT_perm hn h).length_eq]
  obtain ⟨h1, h2⟩ := List.getElem?_eq_some_iff.1 ht
  have e1 : tops = tops.take i ++ t :: tops.drop (i + 1) := by rw [← h2, ← List.drop_eq_getElem_cons h1, List.take_append_drop]
  have e2 : (tops.flatMap (pairsT tm)).length = ((tops.take i).flatMap (pairsT tm)).length + ((pairsT tm t).length + ((tops.drop (i + 1)).flatMap (pairsT tm)).length) := by
    conv => lhs; rw [e1]
    rw [List.flatMap_append, List.flatMap_cons, List.length_append, List.length_append]
  rw [e2, List.length_append, List.length_map, List.length_take]
  simp only [pairsT, List.length_map]
  omega
theorem map_choose {α β : Type} {P : α → β → Prop} : ∀ l : List α, (∀ x ∈ l, ∃ y, P x y) → ∃ l' : List (α × β), l'.map Prod.fst = l ∧ ∀ e ∈ l', P e.1 e.2
  | [], _ => ⟨[], rfl, by simp⟩
  | x :: l, h => by
    obtain ⟨y, hy⟩ := h x (.head _)
    obtain ⟨l', h1, h2⟩ := map_choose l (fun z hz => h z (.tail _ hz))
    refine ⟨(x, y) :: l', by rw [List.map_cons, h1], fun e he => ?_⟩
    rcases List.mem_cons.1 he with rfl | he
    · exact hy
    · exact h2 e he
theorem all_idx {n : Nat} {done : List Nat} (hn : done.Nodup) (hlt : ∀ i ∈ done, i < n) (hl : done.length = n) : ∀ i, i < n → i ∈ done := by
  intro i hi
  rcases Classical.em (i ∈ done) with h | h
  · exact h
  · have h2 : (i :: done).length ≤ (List.range n).length := List.Nodup.length_le_of_subset (List.nodup_cons.2 ⟨h, hn⟩) (fun j hj => by
      rcases List.mem_cons.1 hj with rfl | hj
      · simpa using hi
      · simpa using hlt j hj)
    simp at h2
    omega
/-- Rows of their own, looked at from without. -/
theorem cpat_of_rows {w : World} {base b c : Nat} {U : List TP} {LQ : List (ByteArray × Nat × List Value)} {LC : List (ByteArray × Value)} (h : RowsIs Value.string 268 2 w base b LQ) (hv : ∀ x ∈ LQ, ∃ q : List TP, x.2 = (q.length, q.flatMap tpCells) ∧ q.Perm U) (hc : MapIs Value.string w c LC) (hbc : b ≠ c) :
    ∃ cl, CpAt w (fun x => x < w.heap.size ∧ x ≠ c) b cl ∧ cl.map Prod.fst = LQ.map Prod.fst ∧ ∀ e ∈ cl, e.2.Perm U := by
  have hb := h.lt
  obtain ⟨m, h1, h2, h3, _⟩ := h
  obtain ⟨l', h5, h6⟩ := map_choose (P := fun (x : ByteArray × Value × Nat × List Value) (q : List TP) => x.2.2 = (q.length, q.flatMap tpCells) ∧ q.Perm U) m (fun x hx => hv (x.1, x.2.2) (by rw [← h2]; exact List.mem_map.2 ⟨x, hx, rfl⟩))
  refine ⟨l'.map fun e => (e.1.1, e.2), ⟨⟨hb, hbc⟩, l'.map fun e => (e.1.1, e.1.2.1, e.2), ?_, ?_, ?_⟩, ?_, ?_⟩
  · rw [List.map_map]
    rw [← h5, List.map_map] at h1
    exact h1
  · rw [List.map_map]
    rfl
  · intro e he
    obtain ⟨y, hy, rfl⟩ := List.mem_map.1 he
    have hym : y.1 ∈ m := by rw [← h5]; exact List.mem_map.2 ⟨y, hy, rfl⟩
    have hr := h3 _ hym
    obtain ⟨A, n, hA, hs, hl⟩ := own_sl hr
    have hq := (h6 y hy).1
    rw [hq] at hs hA hr
    simp only at hs hA hr ⊢
    refine ⟨A, _, n, hA, hs, fun a ha hn => ?_, ?_⟩
    · have hg : y.1.2.1.ownBlock = some a.block := by
        obtain ⟨g, hg⟩ := own_row (by rw [hA] at hr; exact hr) hn
        rw [hA, hg]
        rw [hg] at ha
        cases ha
        rfl
      exact ⟨⟨(hl a ha).2, own_map_ne hr hc _ hg⟩, own_map_ne hr h1 _ hg⟩
    · rw [hA] at hr
      rcases hr.2 with ⟨h, h'⟩ | ⟨g', cap, cur, hv', _, _, hnc, _⟩
      · injection h with _ e2 e3
        omega
      · injection hv' with _ _ e3
        omega
  · rw [List.map_map, ← h2, ← h5, List.map_map, List.map_map]
    rfl
  · intro e he
    obtain ⟨y, hy, rfl⟩ := List.mem_map.1 he
    exact (h6 y hy).2
/-- Nobody has anything yet. -/
theorem asg_nil {w : World} {b : Nat} {mc : List (ByteArray × Value)} (base : Nat) (h : MapIs Value.string w b mc) (hv : ∀ e ∈ mc, e.2 = .slice none 0 0) : AsgIs w base b (mc.map fun e => (e.1, [])) := by
  refine ⟨mc.map fun e => (e.1, .slice none 0 0, []), ?_, ?_, ?_, ?_⟩
  · rw [List.map_map]
    have : (mc.map ((fun e : ByteArray × Value × List TP => (e.1, e.2.1)) ∘ fun e => (e.1, Value.slice none 0 0, []))) = mc := by
      conv => rhs; rw [← List.map_id mc]
      refine List.map_congr_left fun e he => ?_
      have := hv e he
      obtain ⟨e1, e2⟩ := e
      simp only at this
      subst this
      rfl
    rw [this]
    exact h
  · rw [List.map_map]
    rfl
  · intro e he
    obtain ⟨x, _, rfl⟩ := List.mem_map.1 he
    exact ⟨rfl, .inl ⟨rfl, rfl⟩⟩
  · refine List.pairwise_map.2 (List.pairwise_of_forall_mem_list fun x _ y _ g hg => ?_)
    cases hg
theorem PlanWith.cut {w : World} {S : List Nat} {b : Nat} {f : ByteArray → ByteArray → List Int} {ks : List ByteArray} {I : ByteArray → Nat} {M : ByteArray → List (ByteArray × Value)} (h : PlanWith w S b f ks I M) : PlanWith w (S.filter fun x => decide (x < w.heap.size)) b f ks I M := by
  refine ⟨?_, h.outer, h.inner, ?_, h.apart, h.rows, ?_, h.rapart, h.nil⟩
  · exact List.mem_filter.2 ⟨h.bS, by simpa using h.outer.lt⟩
  · exact fun k hk => ⟨List.mem_filter.2 ⟨(h.innerS k hk).1, by simpa using (h.inner k hk).lt⟩, (h.innerS k hk).2⟩
  · exact fun k hk t u hu g hg => List.mem_filter.2 ⟨h.rowsS k hk t u hu g hg, by simpa using own_lt (h.rows k hk t u hu) g hg⟩
theorem seqOf_snoc (L : List (ByteArray × List TP)) (k : ByteArray) (q : List TP) : seqOf (L ++ [(k, q)]) = seqOf L ++ q.map fun x => (k, x.1, x.2) := by simp [seqOf]
theorem seqOf_len {n : Nat} : ∀ {L : List (ByteArray × List TP)}, (∀ e ∈ L, e.2.length ≤ n) → (seqOf L).length ≤ L.length * n
  | [], _ => by simp [seqOf]
  | e :: L, h => by
    have h1 := seqOf_len (L := L) (fun f hf => h f (.tail _ hf))
    have h2 := h e (.head _)
    have h3 : seqOf (e :: L) = (e.2.map fun x => (e.1, x.1, x.2)) ++ seqOf L := by simp [seqOf]
    rw [h3, List.length_append, List.length_map, List.length_cons, Nat.add_mul]
    omega
/-- A member that has nothing comes into the plan. -/
theorem zero_step {wN wr w2 w4 : World} {N Cb iz : Nat} {mA : List (ByteArray × Value)} {dz S : List Nat} {L : List (ByteArray × List TP)} {ks : List ByteArray} {I : ByteArray → Nat} {M : ByteArray → List (ByteArray × Value)} {idz : ByteArray} (hN : wN.heap.size = N) (hCN : Cb < N) (hw : N + 1 < w2.heap.size)
    (hI : IterIs Value.string w2 (N + 1) Cb mA (dz ++ [iz])) (hq : L[iz]? = some (idz, [])) (hLN : (L.map Prod.fst).Nodup) (hP : PlanWith w2 S N (gives (seqOf (walked L dz))) ks I M) (hks : ∀ x, x ∈ ks ↔ x ∈ walked (L.map Prod.fst) dz) (hS : ∀ x ∈ S, N ≤ x ∧ x ≠ N + 1)
    (hkr : Kept [] wN wr) (hk2 : Kept [N + 1] wr w2) (hM4 : MapIs Value.string w4 N (mset (ks.map fun k => (k, Value.map (some (I k)))) idz (.map (some w2.heap.size)))) (hk4 : Kept [N] (w2.alloc (.map #[] 0)) w4) :
    ∃ S' ks' I' M', IterIs Value.string w4 (N + 1) Cb mA (dz ++ [iz]) ∧ PlanWith w4 S' N (gives (seqOf (walked L (dz ++ [iz])))) ks' I' M' ∧ (∀ x, x ∈ ks' ↔ x ∈ walked (L.map Prod.fst) (dz ++ [iz])) ∧ (∀ x ∈ S', N ≤ x ∧ x ≠ N + 1) ∧ Kept [] wN w4 := by
  have hidn : idz ∉ ks := fun h => not_walked hLN (by rw [List.getElem?_map, hq]; rfl) hI.2.1 ((hks idz).1 h)
  rw [mset_new _ (mget_outer_none I hidn)] at hM4
  have hmem := hP.member idz (nb := w2.heap.size) hidn hM4 ((MapIs.new Value.string w2).kept hk4 (by simp; omega)) (((Kept.refl [N] w2).alloc _).trans hk4 (fun x hx => .inl hx)) (Nat.le_refl _)
  have hp : PlanWith w4 (w2.heap.size :: S) N (gives (seqOf (walked L (dz ++ [iz])))) (ks ++ [idz]) (upd I idz w2.heap.size) (upd M idz []) := by
    rw [walked_snoc hq, seqOf_snoc, List.map_nil, List.append_nil]
    exact hmem
  refine ⟨_, _, _, _, (hI.kept ((Kept.refl [] w2).alloc _) (by simp) (by simp)).kept hk4 (by simp; omega) (by simp), hp, ?_, ?_, ((hkr.trans hk2 (fun x hx => .inr (by have h1 := List.mem_singleton.1 hx; omega))).alloc _).trans hk4 (fun x hx => .inr (by have h1 := List.mem_singleton.1 hx; omega))⟩
  · intro x
    rw [walked_snoc (show (L.map Prod.fst)[iz]? = some idz by rw [List.getElem?_map, hq]; rfl), List.mem_append, List.mem_append, hks x]
  · intro x hx
    rcases List.mem_cons.1 hx with rfl | hx
    · omega
    · exact hS x hx
set_option maxRecDepth 100000 in
set_option maxHeartbeats 12800000 in
theorem planSticky_any (coop : Bool) (bs mb tb : Nat) (cs : Array Value) (T : TypeId) (l : List (ByteArray × List ByteArray)) (tm : List (ByteArray × List Int)) (w : World)
    (hbs : w.heap[bs]? = some (.cells cs T (0, 0))) (hT : T = 140 ∨ T = 145) (hcs : ∀ o, o < 2 → ∃ m, cs[o]? = some (.map m)) (hcp : cs[2]? = some (.bool coop)) (X : Nat → Prop)
    (hM : MmAt w X mb l) (hTM : TmAt w X tb tm) (hX : ∀ x, X x → x < w.heap.size) (ht : Told l tm) (hpre : PreS l tm) :
    Calls Tryz.prog 193 #[.pointer (some ⟨bs, 0, none⟩), .map (some mb), .map (some tb)] w fun e w' => ∃ pb S F, e = .returned (.tuple #[.map (some pb), .nilIface]) ∧ PlanIs w' S pb F ∧ (∀ x ∈ S, w.heap.size ≤ x) ∧ GoodSt l tm F ∧ KC bs w w' := by
  have hsz : 2 < cs.size := (Array.getElem?_eq_some_iff.1 hcp).1
  have hmm := @run_makeMap Tryz.prog
  have HBS := Lib.hid hbs
  have HTOLD := Lib.hid ht
  have HPRE := Lib.hid hpre
  have HMM := Lib.hid hM
  have HTT := Lib.hid hTM
  have HX := Lib.hid hX
  have hbsl : bs < w.heap.size := (Array.getElem?_eq_some_iff.1 hbs).1
  have hST : Hid (∀ W : World, Kept [] w W → ∀ x y, ∃ w', (storeVar 138 ⟨bs, 0, none⟩ (.agg #[.map (some x), .map (some y)])).run Tryz.prog W = .ok () w' ∧ KC bs W w') := fun W hW x y => store138 x y (hW.heap hbs (by simp)) (by omega) hcs hT
  have hcell2 : w.cell? ⟨bs, 2, none⟩ = some (.bool coop) := by rw [cell_of_row _ _ _ _ _ _ hbs]; exact hcp
  have HC2 := Lib.hid hcell2
  obtain ⟨z0, hz0⟩ : ∃ z0, w.heap.size = z0 := ⟨_, rfl⟩
  have HZ0 := Lib.hid hz0
  clear hbs hM hTM hX ht hpre hcell2 hcp hcs hz0
  go_enter Tryz.func193, Tryz.ntmps193
  obtain ⟨wS, hrS, hkS⟩ := hST.out ((w.alloc (.map #[] 0)).alloc (.map #[] 0)) (((Kept.refl _ _).alloc _).alloc _) (w.heap.size + 1) w.heap.size
  have HRS := Lib.hid hrS
  have HKS := Lib.hid hkS
  have hk00 : Kept [] w ((w.alloc (.map #[] 0)).alloc (.map #[] 0)) := ((Kept.refl _ _).alloc _).alloc _
  have hkw : KC bs w wS := by
    refine ⟨(hk00.mono (T := [bs]) (by simp)).trans hkS.k (fun x hx => .inl hx), fun off v hv hm => hkS.cell off v (hk00.cell hv (by simp)) hm, fun off m hm => hkS.maps off m (hk00.cell hm (by simp)), ?_⟩
    obtain ⟨cs0, T0, cs1, h1, h2, h3⟩ := hkS.was
    refine ⟨cs, T, cs1, HBS.out, ?_, hT⟩
    have h4 := hk00.heap HBS.out (by simp)
    rw [h4] at h1
    injection h1 with h1
    injection h1 with h1 h5 h6
    rw [h5]
    exact h2
  have HKW := Lib.hid hkw
  have hc2S : wS.cell? ⟨bs, 2, none⟩ = some (.bool coop) := HKW.out.cell 2 _ HC2.out (by intro m h; cases h)
  obtain ⟨m, hm1, hml, hmv⟩ := hkw.mm HMM.out
  obtain ⟨mt, ht1, htl, htv⟩ := hkw.tm HTT.out
  have HPP : Hid (∀ W, Kept [] wS W → Calls Tryz.prog 194 #[.map (some mb), .bool coop] W fun e w' => ∃ cb vb, e = .returned (.tuple #[.map (some cb), .map (some vb), .nilIface]) ∧ MapIs Value.string w' cb [] ∧ W.heap.size ≤ cb ∧ cb < vb ∧ vb < w'.heap.size ∧ Kept [] W w') := by
    intro W hW
    have hM : MmAt W (fun _ => True) mb l := ⟨trivial, m, hm1.kept hW (by simp), hml, fun e he => (hmv e he).kept hW (fun _ _ => by simp)⟩
    cases coop
    · exact prepop0 _ mb l W hM
    · exact prepop1 _ mb l W hM
  obtain ⟨t1, ht1e⟩ : ∃ t1, mt.map (fun e => (e.1, e.2.1)) = t1 := ⟨_, rfl⟩
  obtain ⟨m1, hm1e⟩ : ∃ m1, m.map (fun e => (e.1, e.2.1)) = m1 := ⟨_, rfl⟩
  rw [ht1e] at ht1
  rw [hm1e] at hm1
  have HT1 := Lib.hid ht1e
  have HM1 := Lib.hid hm1e
  have HM := Lib.hid hm1
  have HML := Lib.hid hml
  have HMV := Lib.hid hmv
  have HT := Lib.hid ht1
  have HTL := Lib.hid htl
  have HTV := Lib.hid htv
  obtain ⟨z, hz⟩ : ∃ z, wS.heap.size = z := ⟨_, rfl⟩
  have HZ := Lib.hid hz
  have hmbz : mb < z := by rw [← hz]; exact hm1.lt
  have htbz : tb < z := by rw [← hz]; exact ht1.lt
  clear hrS hkS hk00 hkw hm1 hml hmv ht1 htl htv hz ht1e hm1e
  go_wp2_with (first
    | (refine wl_storeV rfl 138 _ _ rfl bs 0 rfl rfl HRS.out ?_)
    | ((with_reducible refine (HPP.out _ (Kept.refl _ _)).mono ?_)
       rintro e wA ⟨Cb, vb, rfl, hC, hCz, hCv, hv, hk⟩
       have HCA := Lib.hid hC
       have HKA := Lib.hid hk
       rw [HZ.out] at hCz
       clear hC hk)
    | (refine wl_len_map rfl _ 262 9 269 rfl Tryz.underlying262 Cb [] rfl HCA.out ?_)
    | (refine wl_range rfl _ 89 rfl 9 49 Tryz.underlying89 tb _ rfl ((HT.out.kept HKA.out (by simp)).alloc _) ?_; intro wB hI hk1 hs1; have HI := Lib.hid hI; have HKB := Lib.hid hk1; have HSB := Lib.hid hs1; clear hI hk1 hs1))
  obtain ⟨Pb, hPb⟩ : ∃ Pb, wA.heap.size = Pb := ⟨_, rfl⟩
  have HPB := Lib.hid hPb
  have hzP : z ≤ Cb ∧ Cb < vb ∧ vb < Pb := by rw [← hPb]; exact ⟨hCz, hCv, hv⟩
  have hsB : (wA.alloc (Obj.map #[] 0)).heap.size = Pb + 1 := by rw [← hPb]; simp
  rw [hsB] at HI ⊢
  rw [hPb]
  have hP0 : MapIs tpEnc wB Pb [] := by
    have h := MapIs.new tpEnc wA
    rw [hPb] at h
    exact h.kept HKB.out (by simp)
  have HP0 := Lib.hid (RowsIs.new (e := 9) (s := 1) (base := z) hP0)
  have HCB := Lib.hid ((HCA.out.alloc (Obj.map #[] 0)).kept HKB.out (by simp))
  have HKAB : Hid (Kept [] wA wB) := ((Kept.refl [] wA).alloc _).trans0 HKB.out
  have HTMN : Hid (tm.map Prod.fst).Nodup := HTOLD.out.names
  have htn : t1.length = tm.length := by rw [← HT1.out, ← HTL.out]; simp
  have HTN := Lib.hid htn
  clear hPb hsB hP0 HKB hCz hCv hv HRS HSB htn
  simp only [Act.put, List.setIfInBounds_toArray, List.set_cons_succ, List.set_cons_zero]
  go_loopg [13, 14] t1.length (fun k _ _ wr => ∃ (done : List Nat) (LP : List (TP × Nat × List Value)), k = t1.length - done.length ∧ IterIs Value.string wr (Pb + 1) tb t1 done ∧ RowsIs tpEnc 9 1 wr z Pb LP ∧ ZeroP (pairsOf (walked tm done)) LP ∧ MapIs Value.string wr Cb [] ∧ Kept [] wA wr)
  case atStart => exact ⟨[], [], rfl, HI.out, HP0.out, ⟨rfl, by simp⟩, HCB.out, HKAB.out⟩
  case round =>
    obtain ⟨done, LP, hk, hI, hpr, hzp, hcb, hkr⟩ := hrel
    have HI1 := Lib.hid hI
    have HPR := Lib.hid hpr
    have HZP := Lib.hid hzp
    have HCB1 := Lib.hid hcb
    have HKR := Lib.hid hkr
    have hdl := hI.left
    have hPr : Pb + 1 < wr.heap.size := hI.lt
    clear hI hpr hzp hcb hkr
    by_cases hd : done.length < t1.length
    · go_wp2_with (first
        | (refine wl_next rfl _ rfl (Pb + 1) tb t1 done rfl HI1.out (fun e => absurd e (by omega)) ?_
           intro i p w2 hp hi hI2 hK2 hs2
           have HI2 := Lib.hid hI2
           have HK2 := Lib.hid hK2
           have HP := Lib.hid hp
           have HPR2 := Lib.hid (HPR.out.kept hK2 (by simp) (fun v n xs ho => own_iter_ne ho HI1.out))
           have HCB2 := Lib.hid (HCB1.out.kept hK2 (by simp; omega))
           clear hI2 hK2 hp hi hs2
           obtain ⟨t, ps, A, n, c, rfl, hn, hsl, hpt⟩ := topic_at (fun e he => (HTV.out e he)) (HT1.out.symm ▸ HP.out)
           rw [HTL.out] at hpt
           have HSL := Lib.hid hsl
           have HPT := Lib.hid hpt
           have HN := Lib.hid hn
           have hn63 := hsl.2.1
           clear hsl hpt hn)
        | (refine wl_entry rfl _ rfl (Pb + 1) tb t1 done i _ rfl HI2.out HP.out ?_))
      have HFRESH : Hid (∀ j x, ps[j]? = some x → (t, x) ∉ pairsOf (walked tm done) ++ (ps.take j).map fun p => (t, p)) := fun j x hx => by
        have hwk : walked tm (done ++ [i]) = walked tm done ++ [(t, ps)] := walked_snoc HPT.out
        refine pairs_fresh ?_ (fun y hy => ?_) hx
        · rw [← hwk, map_walked]
          exact walked_nodup HTMN.out HI2.out.2.1
        · rw [← hwk] at hy
          exact (HPRE.out.tops y (walked_sub hy)).2.2
      have HKA2 : Hid (Kept [] wA w2) := HKR.out.trans HK2.out (fun x hx => .inr (by have h1 := List.mem_singleton.1 hx; have h2 := HPB.out; omega))
      go_loopg [80] n (fun k v wr => ∃ (j : Nat) (LP : List (TP × Nat × List Value)), k = n - j ∧ j ≤ n ∧ v = .int .i64 j ∧ IterIs Value.string wr (Pb + 1) tb t1 (done ++ [i]) ∧ RowsIs tpEnc 9 1 wr z Pb LP ∧ ZeroP (pairsOf (walked tm done) ++ (ps.take j).map fun p => (t, p)) LP ∧ MapIs Value.string wr Cb [] ∧ Kept [] wA wr)
      case atStart => exact ⟨0, LP, rfl, Nat.zero_le _, rfl, HI2.out, HPR2.out, by simpa using HZP.out, HCB2.out, HKA2.out⟩
      case round =>
        obtain ⟨j, LP', hk2, hj, rfl, hI, hpr, hzp, hcb, hkr⟩ := hrel
        have HI3 := Lib.hid hI
        have HPR3 := Lib.hid hpr
        have HZP3 := Lib.hid hzp
        have HCB3 := Lib.hid hcb
        have HKR3 := Lib.hid hkr
        have hPr3 : Pb + 1 < wr.heap.size := hI.lt
        clear hI hpr hzp hcb hkr
        by_cases hlt : j < n
        · have hlt' : (j : Int) < (n : Int) := by omega
          obtain ⟨x, hx⟩ : ∃ x, ps[j]? = some x := ⟨_, List.getElem?_eq_getElem (by have := HN.out; omega)⟩
          obtain ⟨bp, op, rfl, hcc⟩ := HSL.out.2.2 (by omega)
          have hcu : wr.cell? ⟨bp, op + j, none⟩ = some (.int .i32 x) := (HKA.out.trans0 HKR3.out).cell (hcc j _ (ints_at' hx)) (by simp)
          have HXX := Lib.hid hx
          obtain ⟨m0, hm0, hmk, _, _⟩ : ∃ m0, MapIs tpEnc wr Pb m0 ∧ m0.map Prod.fst = LP'.map Prod.fst ∧ True ∧ True := by
            obtain ⟨m', q1, q2, _⟩ := HPR3.out
            exact ⟨_, q1, by rw [← q2]; simp [List.map_map, Function.comp_def], trivial, trivial⟩
          have HM0 := Lib.hid hm0
          have hnew := own_new wr 9 1 0 #[] z (by omega) (by omega) rfl rfl
          have HNEW := Lib.hid hnew
          clear hx hcc hm0 hnew
          go_wp2_with (refine wl_update rfl _ _ _ 266 rfl 44 Tryz.underlying266 tp_keys Pb m0 rfl (HM0.out.alloc _) (t, x) rfl (.slice (some ⟨wr.heap.size, 0, none⟩) 0 0) rfl ?_; intro w5 hM5 hk5 hs5; have HM5 := Lib.hid hM5; have HK5 := Lib.hid hk5; clear hM5 hk5)
          go_roundg (n - (j + 1))
          case measure => omega
          case rel =>
            have hka : Kept [] wr (wr.alloc (.cells #[] 9)) := (Kept.refl _ _).alloc _
            have hfr := HFRESH.out j x HXX.out
            refine ⟨j + 1, LP' ++ [((t, x), 0, [])], rfl, by omega, rfl, (HI3.out.kept hka (by simp) (by simp)).kept HK5.out (by simp; omega) (by simp), HPR3.out.push tpEnc_inj (by rw [HZP3.out.1]; exact hfr) HM0.out HNEW.out hka (fun g hg => by cases hg; exact Nat.le_refl _) HM5.out HK5.out, ⟨?_, ?_⟩, (HCB3.out.kept hka (by simp)).kept HK5.out (by simp; omega), (HKR3.out.trans0 hka).trans HK5.out (fun y hy => .inr (by have h1 := List.mem_singleton.1 hy; have h2 := HPB.out; omega))⟩
            · rw [List.map_append, HZP3.out.1, take_one HXX.out, List.map_append, List.append_assoc]
              rfl
            · intro y hy
              rcases List.mem_append.1 hy with h | h
              · exact HZP3.out.2 y h
              · rw [List.mem_singleton.1 h]
        · obtain rfl : j = n := by omega
          have hlt' : ¬ (j : Int) < (j : Int) := by omega
          go_wp2
          go_roundg (t1.length - (done ++ [i]).length)
          case measure =>
            rw [List.length_append]
            simp only [List.length_cons, List.length_nil]
            omega
          case rel =>
            refine ⟨done ++ [i], LP', rfl, HI3.out, HPR3.out, ?_, HCB3.out, HKR3.out⟩
            have h1 := HZP3.out
            rw [List.take_of_length_le (by have := HN.out; omega)] at h1
            rw [walked_snoc HPT.out, pairsOf_snoc]
            exact h1
    · have hde : done.length = t1.length := by omega
      have hidn := HI1.out.2.1
      have hidl := HI1.out.2.2.1
      have hperm : (walked tm done).Perm tm := walked_perm hidn (fun i hi => by have := hidl i hi; have := HTN.out; omega) (by have := HTN.out; omega)
      have HUP : Hid ((pairsOf (walked tm done)).Perm (pairsOf tm)) := hperm.flatMap_right _
      obtain ⟨U, hU⟩ : ∃ U, pairsOf (walked tm done) = U := ⟨_, rfl⟩
      have hUN : U.Nodup := by
        rw [← hU]
        exact HUP.out.symm.nodup (pairsOf_nodup HTMN.out (fun x hx => (HPRE.out.tops x hx).2.2))
      rw [hU] at HZP HUP
      have HUN := Lib.hid hUN
      obtain ⟨wC, hwC⟩ : ∃ wC : World, wC = wr := ⟨_, rfl⟩
      rw [← hwC] at HI1 HPR HCB1 HKR hPr ⊢
      have hmh262 : ∀ (n : Int) (w : World), (Instr.makeMap 262 (some (.int .i64 n))).run Tryz.prog w = .ok (.map (some w.heap.size)) (w.alloc (.map #[] 0)) := fun n w => by
        simp [Instr.makeMap, asInt, asIntOf]
      have HMC : Hid (MapIs Value.string wC mb m1) := (HM.out.kept HKA.out (by simp)).kept HKR.out (by simp)
      clear hidn hidl hperm hU hUN hwC
      go_wp2_with (first
        | (refine wl_next rfl _ rfl (Pb + 1) tb t1 done rfl HI1.out (fun _ => ?_) (fun i p w2 hp hi hI2 hK2 hs2 => absurd hI2.left (by rw [List.length_append]; simp only [List.length_cons, List.length_nil]; omega)))
        | (refine wl_len_map rfl _ 75 9 79 rfl Tryz.underlying75 mb m1 rfl HMC.out ?_)
        | (refine wl_range rfl _ 75 rfl 9 79 Tryz.underlying75 mb m1 rfl (HMC.out.alloc _) ?_; intro wD hI hk1 hs1; have HI4 := Lib.hid hI; have HKD := Lib.hid hk1; clear hI hk1 hs1))
      obtain ⟨Qb, hQb⟩ : ∃ Qb, wC.heap.size = Qb := ⟨_, rfl⟩
      have HQB := Lib.hid hQb
      have hPQ : Pb + 1 < Qb := by rw [← hQb]; exact hPr
      have hsD : (wC.alloc (Obj.map #[] 0)).heap.size = Qb + 1 := by rw [← hQb]; simp
      rw [hsD] at HI4 ⊢
      rw [hQb]
      have hQ0 : MapIs Value.string wD Qb [] := by
        have h := MapIs.new Value.string wC
        rw [hQb] at h
        exact h.kept HKD.out (by simp)
      have HKCD : Hid (Kept [] wC wD) := ((Kept.refl [] wC).alloc _).trans0 HKD.out
      have HST0 : Hid (St7 wS wD z mb Pb Qb Cb (Qb + 1) m1 [] LP [] []) := ⟨HI4.out, HPR.out.kept0 HKCD.out, RowsIs.new hQ0, HCB1.out.kept HKCD.out (by simp), ((HKA.out.trans0 HKR.out)).trans0 HKCD.out, ⟨HZ.out, hmbz, by omega, by omega, by omega, by omega⟩, ⟨by omega, by omega, by omega, by omega, by omega, by omega⟩⟩
      have HCNT : Hid (CntP U 0 [] LP) := ⟨HZP.out.1, fun x hx => by rw [HZP.out.2 x hx]; simp⟩
      have HIDS : Hid (m1.map Prod.fst).Nodup := HM.out.nodup
      have HKDD : Hid (Kept [] wA wD) := HKR.out.trans0 HKCD.out
      clear hQb hsD hQ0 HKD
      simp only [Act.put, List.setIfInBounds_toArray, List.set_cons_succ, List.set_cons_zero]
      go_loopg [18] m1.length (fun k _ wr => ∃ (dn : List Nat) (LP : List (TP × Nat × List Value)) (LQ : List (ByteArray × Nat × List Value)) (LC : List (ByteArray × Value)), k = m1.length - dn.length ∧ St7 wS wr z mb Pb Qb Cb (Qb + 1) m1 dn LP LQ LC ∧ CntP U dn.length [] LP ∧
        LQ.map Prod.fst = walked (m1.map Prod.fst) dn ∧ (∀ x ∈ LQ, ∃ q : List TP, x.2 = (q.length, q.flatMap tpCells) ∧ q.Perm U) ∧ LC.map Prod.fst = walked (m1.map Prod.fst) dn ∧ (∀ x ∈ LC, ∃ A, x.2 = .slice A 0 0))
      case atStart => exact ⟨[], LP, [], [], rfl, HST0.out, HCNT.out, rfl, by simp, rfl, by simp⟩
      case round =>
        obtain ⟨dn, LP1, LQ1, LC1, hk7, hst, hcnt, hlq, hlqv, hlc, hlcv⟩ := hrel
        have HST1 := Lib.hid hst
        have HCNT1 := Lib.hid hcnt
        have HLQ := Lib.hid hlq
        have HLQV := Lib.hid hlqv
        have HLC := Lib.hid hlc
        have HLCV := Lib.hid hlcv
        have hdl7 := hst.it.left
        clear hst hcnt hlq hlqv hlc hlcv
        by_cases hd7 : dn.length < m1.length
        · obtain ⟨m0q, hm0q, hm0k⟩ : ∃ m0, MapIs Value.string wr Qb m0 ∧ m0.map Prod.fst = LQ1.map Prod.fst := by
            obtain ⟨m', q1, q2, _⟩ := HST1.out.qr
            exact ⟨_, q1, by rw [← q2]; simp [List.map_map, Function.comp_def]⟩
          have HM0Q := Lib.hid hm0q
          clear hm0q
          go_wp2_with (first
            | (refine wl_next rfl _ rfl (Qb + 1) mb m1 dn rfl HST1.out.it (fun e => absurd e (by omega)) ?_
               intro i7 p w2 hp hi hI2 hK2 hs2
               have HI5 := Lib.hid hI2
               have HK5 := Lib.hid hK2
               have HP5 := Lib.hid hp
               have HST2 := Lib.hid (HST1.out.next hK2 hI2)
               have HM0Q2 := Lib.hid (HM0Q.out.kept hK2 (by simp))
               clear hI2 hK2 hp hi hs2
               obtain ⟨id, tops, ver, A7, nt, ct, gen, rp, rfl, hsl, hpt⟩ := member_at HMV.out (HM1.out.symm ▸ HP5.out)
               have HSL7 := Lib.hid hsl
               have HPT7 := Lib.hid hpt
               clear hsl hpt)
            | (refine wl_entry rfl _ rfl (Qb + 1) mb m1 dn i7 _ rfl HI5.out HP5.out ?_)
            | (refine wl_store_struct rfl 79 _ _ rfl rfl _ rfl rfl 79 _ (heap_alloc_new _ _) rfl (meta_ones ver A7 nt ct gen rp) ?_; rw [World.setRow_alloc_new])
            | (refine wl_make268 rfl _ _ rfl 0 (by omega) rfl rfl ?_
               intro w3 hrow3 hk3 hs3
               have HROW3 := Lib.hid hrow3
               have HK3 := Lib.hid hk3
               have HM0Q3 := Lib.hid ((HM0Q2.out.alloc (Obj.cells #[Value.int IntKind.i16 ver, Value.slice A7 nt ct, Value.slice none 0 0, Value.slice none 0 0, Value.int IntKind.i32 gen, Value.pointer rp] 79)).kept hk3 (by simp))
               clear hrow3 hk3 hs3)
            | (refine wl_update rfl _ _ _ 262 rfl 269 Tryz.underlying262 str9 Qb m0q rfl HM0Q3.out id rfl _ rfl ?_
               intro w4 hM4 hk4 hs4
               have hQ2 : Qb < w2.heap.size := HM0Q2.out.lt
               have hmeta : w4.cell? ⟨w2.heap.size, 1, none⟩ = some (.slice A7 nt ct) := hk4.cell (HK3.out.cell (by rw [cell_alloc_at]; rfl) (by simp)) (by simp; omega)
               have hidn : id ∉ LQ1.map Prod.fst := by
                 rw [HLQ.out]
                 exact not_walked HIDS.out (by rw [List.getElem?_map, HP5.out]; rfl) HI5.out.2.1
               have HST4 := Lib.hid ((HST2.out.kept0 ((Kept.refl [] w2).alloc (Obj.cells #[Value.int IntKind.i16 ver, Value.slice A7 nt ct, Value.slice none 0 0, Value.slice none 0 0, Value.int IntKind.i32 gen, Value.pointer rp] 79))).qpush hidn (HM0Q2.out.alloc _) (own_mono HROW3.out (by have h1 := HST2.out.k.size; have h2 := HZ.out; simp; omega)) HK3.out (fun g hg => by cases hg; exact Nat.le_refl _) hM4 hk4)
               have HIDN := Lib.hid hidn
               clear hM4 hk4 hs4 hidn))
          have hntl : nt = tops.length := by
            obtain ⟨A', n', c', e, h1, _⟩ := HSL7.out
            injection e with e1 e2 e3
            subst e2
            have := h1.1
            simpa [strs] using this.symm
          subst hntl
          have HTP : Hid (tops.Perm (tm.map Prod.fst)) := HPRE.out.all (id, tops) (by rw [← HML.out]; exact List.mem_of_getElem? HPT7.out)
          have htl6 : tops.length ≤ 1000000 := by have h1 := HTP.out.length_eq; have h2 := HTOLD.out.twelve; rw [List.length_map] at h1; omega
          have huq0 : U.length ≤ 120000 := by
            rw [HUP.out.length_eq]
            have h1 := pairsOf_len (L := tm) (fun x hx => (HPRE.out.tops x hx).2.1)
            have h2 := HTOLD.out.twelve
            omega
          have HUQ := Lib.hid huq0
          clear huq0
          have hd7s : dn.length ≤ 7 := by
            have h1 : m1.length = l.length := by rw [← HM1.out, ← HML.out]; simp
            have h2 := HTOLD.out.seven
            omega
          go_loopg [106] tops.length (fun k v wr => ∃ (i2 : Nat) (LP : List (TP × Nat × List Value)), k = tops.length - i2 ∧ i2 ≤ tops.length ∧ v = .int .i64 i2 ∧ St7 wS wr z mb Pb Qb Cb (Qb + 1) m1 (dn ++ [i7]) LP (LQ1 ++ [(id, ((tops.take i2).flatMap (pairsT tm)).length, ((tops.take i2).flatMap (pairsT tm)).flatMap tpCells)]) LC1 ∧ CntP U dn.length ((tops.take i2).flatMap (pairsT tm)) LP)
          case atStart => exact ⟨0, LP1, rfl, Nat.zero_le _, rfl, HST4.out, HCNT1.out⟩
          case round =>
            obtain ⟨i2, LP2, hk8, hi2, rfl, hst, hcnt⟩ := hrel
            have HST5 := Lib.hid hst
            have HCNT5 := Lib.hid hcnt
            clear hst hcnt
            by_cases hl8 : i2 < tops.length
            · have hl8' : (i2 : Int) < (tops.length : Int) := by omega
              obtain ⟨t, ht8⟩ : ∃ t, tops[i2]? = some t := ⟨_, List.getElem?_eq_getElem hl8⟩
              have HT8 := Lib.hid ht8
              have htm : t ∈ tm.map Prod.fst := HTP.out.mem_iff.1 (List.mem_of_getElem? ht8)
              obtain ⟨b8, o8, rfl, hc8⟩ : ∃ b8 o8, A7 = some ⟨b8, o8, none⟩ ∧ wr.cell? ⟨b8, o8 + i2, none⟩ = some (.string t) := by
                obtain ⟨A', n', c', e, h1, h2, _⟩ := HSL7.out
                injection e with e1 e2 e3
                subst e1; subst e2; subst e3
                obtain ⟨b0, off0, hA, hcc⟩ := h1.2.2 (by omega)
                exact ⟨b0, off0, hA, HST5.out.k.cell (hcc i2 _ (by simp [strs, ht8])) (by simp)⟩
              obtain ⟨A9, c9, hg9, hs9⟩ := topic_get (fun e he => HTV.out e he) (by rw [HT1.out]; exact HT.out.nodup) (t := t) (by rw [HTL.out]; exact htm)
              rw [HT1.out, HTL.out] at hg9
              rw [HTL.out] at hs9
              obtain ⟨ps, hps⟩ : ∃ ps, tget tm t = ps := ⟨_, rfl⟩
              rw [hps] at hg9 hs9
              have HPS := Lib.hid hps
              have HG9 := Lib.hid hg9
              have HS9 := Lib.hid hs9
              have hps63 := hs9.2.1
              have HTB : Hid (MapIs Value.string wr tb t1) := HT.out.kept HST5.out.k (by simp)
              have htmm := htm
              clear ht8 htm hg9 hs9 hps
              go_wp2_with (first
                | (refine wl_lookup_ok rfl _ _ 89 rfl 49 Tryz.underlying89 str9 _ (Tryz.zeroValue49 _) tb t1 rfl HTB.out t rfl ?_; rw [HG9.out])
                | (refine wl_lookup rfl _ _ 89 rfl 49 Tryz.underlying89 str9 _ (Tryz.zeroValue49 _) tb t1 rfl HTB.out t rfl ?_; rw [HG9.out]))

              have htt : (t, ps) ∈ tm := by
                obtain ⟨⟨t', ps'⟩, hq, rfl⟩ := List.mem_map.1 htmm
                rw [← HPS.out, tget_memS HTMN.out hq]
                exact hq
              have HTTM := Lib.hid htt
              clear htmm htt
              go_loopg [121] ps.length (fun k v wr => ∃ (j : Nat) (LP : List (TP × Nat × List Value)) (Q : List TP), k = ps.length - j ∧ j ≤ ps.length ∧ v = .int .i64 j ∧ Q = (tops.take i2).flatMap (pairsT tm) ++ (ps.take j).map (fun p => (t, p)) ∧ St7 wS wr z mb Pb Qb Cb (Qb + 1) m1 (dn ++ [i7]) LP (LQ1 ++ [(id, Q.length, Q.flatMap tpCells)]) LC1 ∧ CntP U dn.length Q LP)
              case atStart => exact ⟨0, LP2, _, rfl, Nat.zero_le _, rfl, rfl, by simpa using HST5.out, by simpa using HCNT5.out⟩
              case round =>
                obtain ⟨j, LP3, Q, hk9, hj9, rfl, hQ9, hst, hcnt⟩ := hrel
                have HST9 := Lib.hid hst
                have HCNT9 := Lib.hid hcnt
                have HQ9 := Lib.hid hQ9
                clear hst hcnt hQ9
                by_cases hl9 : j < ps.length
                · have hl9' : (j : Int) < (ps.length : Int) := by omega
                  obtain ⟨x, hx9⟩ : ∃ x, ps[j]? = some x := ⟨_, List.getElem?_eq_getElem hl9⟩
                  have HX9 := Lib.hid hx9
                  obtain ⟨bp, op, rfl, hcc⟩ := HS9.out.2.2 (by omega)
                  have hcu : wr.cell? ⟨bp, op + j, none⟩ = some (.int .i32 x) := HST9.out.k.cell (hcc j _ (ints_at' hx9)) (by simp)
                  have hfr : (t, x) ∉ Q := by
                    rw [HQ9.out, ← HPS.out]
                    exact flat_take_fresh HTMN.out (fun x hx => (HPRE.out.tops x hx).2.2) HTP.out HT8.out (by rw [HPS.out]; exact hx9)
                  have hql : Q.length ≤ 120000 := by
                    rw [HQ9.out, ← HPS.out]
                    refine Nat.le_trans (flat_take_len HTMN.out HTP.out HT8.out j) ?_
                    rw [← HUP.out.length_eq]
                    exact HUQ.out
                  obtain ⟨mq, vq, hmq, _, hgq, hrowq⟩ := HST9.out.qr.get (k := id) (n := Q.length) (xs := Q.flatMap tpCells) (by simp)
                  have hxU : (t, x) ∈ LP3.map Prod.fst := by
                    rw [HCNT9.out.1]
                    exact HUP.out.mem_iff.2 (List.mem_flatMap.2 ⟨_, HTTM.out, List.mem_map.2 ⟨x, List.mem_of_getElem? hx9, rfl⟩⟩)
                  obtain ⟨⟨n0, xs0⟩, hm0p⟩ := mem_keys3 hxU
                  obtain ⟨hn0, hcnt'⟩ := HCNT9.out.step hfr hm0p (xs0 ++ [.string id])
                  have HCNT10 := Lib.hid hcnt'
                  have HMQ := Lib.hid hmq
                  have HGQ := Lib.hid hgq
                  have HROWQ := Lib.hid hrowq
                  have HM0P := Lib.hid hm0p
                  have hzr : z ≤ wr.heap.size := by have h1 := HST9.out.k.size; have h2 := HZ.out; omega
                  have hQr : Qb < wr.heap.size := hmq.lt
                  clear hx9 hcc hmq hgq hrowq hcnt' hm0p hxU hfr
                  go_wp2_with (first
                    | (refine wl_lookup rfl _ _ 262 rfl 269 Tryz.underlying262 str9 _ (Tryz.zeroValue269 _) Qb mq rfl (HMQ.out.alloc _) id rfl ?_; rw [HGQ.out])
                    | (refine wl_load_struct rfl 268 _ rfl Tryz.underlying268 rfl rfl wr.heap.size 0 rfl [.string t, .int .i32 x] rfl (fun a v hv => by rw [Nat.zero_add, cell_alloc_at]; simpa using hv) ?_)
                    | (at_builtin; refine wl_append rfl _ _ 269 rfl z 268 Tryz.underlying269 info268 rfl (by decide) vq Q.length (Q.flatMap tpCells) rfl (own_kept0 HROWQ.out (((Kept.refl _ _).alloc _).alloc _)) _ 1 1 [.string t, .int .i32 x] rfl (own_slis (own_new _ 268 2 1 #[.string t, .int .i32 x] 0 (Nat.zero_le _) (by omega) rfl (World.size_alloc _ _))) (by simp [Value.oneCell']) (by omega) (by omega) (by simp; omega) ?_
                       intro v4 w4 hown hk4 hat
                       have HO4 := Lib.hid hown
                       have HAT4 := Lib.hid hat
                       have HKW4 : Hid (Kept vq.ownBlock.toList ((wr.alloc (.cells #[.string t, .int .i32 x] 268)).alloc (.cells #[.string t, .int .i32 x] 268)) w4) := hk4
                       have HNQ : Hid (∀ g ∈ vq.ownBlock.toList, g < wr.heap.size ∧ g ≠ Qb) := fun g hg => ⟨own_lt HROWQ.out g (by simpa using hg), own_map_ne HROWQ.out HMQ.out g (by simpa using hg)⟩
                       clear hown hk4 hat)
                    | (refine wl_update rfl _ _ _ 262 rfl 269 Tryz.underlying262 str9 Qb mq rfl (((HMQ.out.alloc _).alloc _).kept HKW4.out (fun hm => (HNQ.out _ hm).2 rfl)) id rfl v4 rfl ?_
                       intro w5 hM5 hk5 hs5
                       have HKW5 := Lib.hid hk5
                       have hk2a : Kept [] wr ((wr.alloc (.cells #[.string t, .int .i32 x] 268)).alloc (.cells #[.string t, .int .i32 x] 268)) := ((Kept.refl _ _).alloc _).alloc _
                       have hst6 := (HST9.out.kept0 hk2a).qset (v := v4) (n := Q.length + 1) (xs := (Q ++ [(t, x)]).flatMap tpCells) (by simp) ((HMQ.out.alloc _).alloc _) HGQ.out (own_kept0 HROWQ.out hk2a) (by have h1 := HO4.out; rw [List.flatMap_append]; exact h1) HKW4.out (by rcases HAT4.out with h | h; exact .inl h; exact .inr ⟨_, h, by simp⟩) hM5 hk5
                       rw [lq_step HIDN.out] at hst6
                       have HST6 := Lib.hid hst6
                       have hbx : ∀ (a : Nat) v, ([Value.string t, .int .i32 x] : List Value)[a]? = some v → w5.cell? ⟨wr.heap.size, 0 + a, none⟩ = some v := fun a v hv => by
                         refine hk5.cell (HKW4.out.cell (((Kept.refl [] (wr.alloc (.cells #[.string t, .int .i32 x] 268))).alloc _).cell ?_ (by simp)) (fun hm => by have := (HNQ.out _ hm).1; simp at this)) (by simp; omega)
                         rw [Nat.zero_add, cell_alloc_at]
                         simpa using hv
                       have HBX := Lib.hid hbx
                       obtain ⟨mp, vp, hmp, _, hgp, hrowp⟩ := hst6.pr.get HM0P.out
                       have HMP := Lib.hid hmp
                       have HGP := Lib.hid hgp
                       have HROWP := Lib.hid hrowp
                       have hzw5 : z ≤ w5.heap.size := by have h1 := hst6.k.size; have h2 := HZ.out; omega
                       clear hM5 hk5 hs5 hk2a hst6 hbx hmp hgp hrowp)
                    | (refine wl_load_struct rfl 268 _ rfl Tryz.underlying268 rfl rfl wr.heap.size 0 rfl [.string t, .int .i32 x] rfl HBX.out ?_)
                    | (refine wl_mentry rfl _ _ 266 rfl 44 Tryz.underlying266 tp_keys _ (Tryz.zeroValue44 _) Pb mp rfl (HMP.out.alloc _) (t, x) rfl ?_
                       rw [HGP.out]
                       intro w7 s7 hM7 hk7 hs7
                       rw [show (some vp).getD (Value.slice none 0 0) = vp from rfl, mset_self HMP.out.nodup HGP.out] at hM7
                       have HM7 := Lib.hid hM7
                       have HKW7 := Lib.hid hk7
                       have HROW7 : Hid (w7.ownsRow z 9 1 vp n0 xs0) := hk7.own (own_kept0 HROWP.out ((Kept.refl _ _).alloc _)) (fun g hg => by simpa using own_map_ne HROWP.out HMP.out g hg)
                       have HNP : Hid (∀ g ∈ vp.ownBlock.toList, g ≠ Pb) := fun g hg => own_map_ne HROWP.out HMP.out g (by simpa using hg)
                       have HSL7a : Hid (SlIs w7 1 (some ⟨w5.heap.size, 0, none⟩) 1 [.string id]) := (one_sl _ _ _).kept hk7 (by intro a ha; cases ha; simp; have := HMP.out.lt; omega)
                       have hzw7 : z ≤ w7.heap.size := by rw [hs7]; simp; omega
                       clear hM7 hk7 hs7)
                    | (at_builtin; refine wl_append rfl _ _ 44 rfl z 9 Tryz.underlying44 info9 rfl (by decide) vp n0 xs0 rfl HROW7.out _ 1 1 [.string id] rfl HSL7a.out (by simp [Value.oneCell']) (by omega) (by omega) (by omega) ?_
                       intro v8 w8 hown hk8 hat
                       have HO8 := Lib.hid hown
                       have HAT8 := Lib.hid hat
                       have HKW8 := Lib.hid hk8
                       clear hown hk8 hat)
                    | (refine wl_estore rfl _ _ _ 266 rfl Pb mp (t, x) s7 rfl (HM7.out.kept HKW8.out (fun hm => HNP.out _ hm rfl)) rfl v8 rfl ?_
                       intro w9 hM9 hk9 hs9
                       have hst9 := (HST6.out.kept0 ((Kept.refl [] w5).alloc (.cells #[.string id] 9))).pset HM0P.out (HMP.out.alloc _) HGP.out HKW7.out HM7.out.map HROW7.out HO8.out HKW8.out (by rcases HAT8.out with h | h; exact .inl h; exact .inr ⟨_, h, by simp⟩) hM9 hk9
                       have HST10 := Lib.hid hst9
                       clear hM9 hk9 hs9 hst9))
                  go_roundg (ps.length - (j + 1))
                  case measure => omega
                  case rel =>
                    refine ⟨j + 1, _, Q ++ [(t, x)], rfl, by omega, rfl, ?_, by rw [List.length_append]; exact HST10.out, HCNT10.out⟩
                    rw [HQ9.out, take_one HX9.out, List.map_append, List.append_assoc]
                    rfl
                · obtain rfl : j = ps.length := by omega
                  have hl9' : ¬ (ps.length : Int) < (ps.length : Int) := by omega
                  go_wp2
                  go_roundg (tops.length - (i2 + 1))
                  case measure => omega
                  case rel =>
                    have hQe : Q = (tops.take (i2 + 1)).flatMap (pairsT tm) := by
                      rw [HQ9.out, List.take_length, take_one HT8.out, List.flatMap_append, List.flatMap_cons, List.flatMap_nil, List.append_nil]
                      unfold pairsT
                      rw [HPS.out]
                    rw [hQe] at HST9 HCNT9
                    exact ⟨i2 + 1, LP3, rfl, by omega, rfl, HST9.out, HCNT9.out⟩
            · obtain rfl : i2 = tops.length := by omega
              have hl8' : ¬ (tops.length : Int) < (tops.length : Int) := by omega
              have hidc : id ∉ LC1.map Prod.fst := by
                rw [HLC.out]
                exact not_walked HIDS.out (by rw [List.getElem?_map, HP5.out]; rfl) HI5.out.2.1
              have HGC := Lib.hid (mget_none_iff.2 hidc)
              clear hidc
              go_wp2_with (first
                | (refine wl_lookup_ok rfl _ _ 262 rfl 269 Tryz.underlying262 str9 _ (Tryz.zeroValue269 _) Cb LC1 rfl HST5.out.cr id rfl ?_; rw [HGC.out])
                | (refine wl_make268 rfl _ _ rfl 0 (by omega) rfl rfl ?_
                   intro w3c hrow3 hk3 hs3
                   have HST6 := Lib.hid (HST5.out.kept0 hk3)
                   clear hrow3 hk3 hs3)
                | (refine wl_update rfl _ _ _ 262 rfl 269 Tryz.underlying262 str9 Cb LC1 rfl HST6.out.cr id rfl _ rfl ?_
                   intro w4c hM4 hk4 hs4
                   have HST7 := Lib.hid (HST6.out.cset hM4 hk4)
                   clear hM4 hk4 hs4))
              go_roundg (m1.length - (dn ++ [i7]).length)
              case measure =>
                rw [List.length_append]
                simp only [List.length_cons, List.length_nil]
                omega
              case rel =>
                have hqp : ((tops.take tops.length).flatMap (pairsT tm)).Perm U := by
                  rw [List.take_length]
                  exact (pairsT_perm HTMN.out HTP.out).trans HUP.out.symm
                have hst := HST7.out
                rw [mset_new _ HGC.out] at hst
                refine ⟨dn ++ [i7], LP2, _, _, rfl, hst, by rw [List.length_append]; exact HCNT5.out.done hqp, ?_, ?_, ?_, ?_⟩
                · rw [List.map_append, HLQ.out, walked_snoc (by rw [List.getElem?_map, HP5.out]; rfl)]
                  rfl
                · intro x hx
                  rcases List.mem_append.1 hx with h | h
                  · exact HLQV.out x h
                  · rw [List.mem_singleton.1 h]
                    exact ⟨_, rfl, hqp⟩
                · rw [List.map_append, HLC.out, walked_snoc (by rw [List.getElem?_map, HP5.out]; rfl)]
                  rfl
                · intro x hx
                  rcases List.mem_append.1 hx with h | h
                  · exact HLCV.out x h
                  · rw [List.mem_singleton.1 h]
                    exact ⟨_, rfl⟩
        · have hde7 : dn.length = m1.length := by omega
          have huq0 : U.length ≤ 120000 := by
            rw [HUP.out.length_eq]
            have h1 := pairsOf_len (L := tm) (fun x hx => (HPRE.out.tops x hx).2.1)
            have h2 := HTOLD.out.twelve
            omega
          have HUQT := Lib.hid huq0
          clear huq0
          have hmh272 : ∀ (n : Int) (w : World), (Instr.makeMap 272 (some (.int .i64 n))).run Tryz.prog w = .ok (.map (some w.heap.size)) (w.alloc (.map #[] 0)) := fun n w => by
            simp [Instr.makeMap, asInt, asIntOf]
          have hmh273 : ∀ (n : Int) (w : World), (Instr.makeMap 273 (some (.int .i64 n))).run Tryz.prog w = .ok (.map (some w.heap.size)) (w.alloc (.map #[] 0)) := fun n w => by
            simp [Instr.makeMap, asInt, asIntOf]
          have hmh83 : ∀ (n : Int) (w : World), (Instr.makeMap 83 (some (.int .i64 n))).run Tryz.prog w = .ok (.map (some w.heap.size)) (w.alloc (.map #[] 0)) := fun n w => by
            simp [Instr.makeMap, asInt, asIntOf]
          obtain ⟨mp4, hmp, hmpL, hmprow, _⟩ := HST1.out.pr
          obtain ⟨pm, hpm⟩ : ∃ pm, mp4.map (fun x => (x.1, x.2.1)) = pm := ⟨_, rfl⟩
          have hpk : pm.map Prod.fst = U := by
            rw [← HCNT1.out.1, ← hmpL, ← hpm]
            simp [List.map_map, Function.comp_def]
          have hpall : ∀ e ∈ pm, ∃ A c, e.2 = .slice A m1.length c := by
            intro e he
            rw [← hpm] at he
            obtain ⟨x, hx, rfl⟩ := List.mem_map.1 he
            obtain ⟨A, c, h⟩ := own_form (hmprow x hx)
            have hn : x.2.2.1 = m1.length := by
              have h1 := HCNT1.out.2 (x.1, x.2.2.1, x.2.2.2) (by rw [← hmpL]; exact List.mem_map.2 ⟨x, hx, rfl⟩)
              simpa [hde7] using h1
            exact ⟨A, c, by rw [← hn]; exact h⟩
          rw [hpm] at hmp
          obtain ⟨cl, hcp, hclk, hclu⟩ := cpat_of_rows HST1.out.qr HLQV.out HST1.out.cr HST1.out.ne.2.2.1
          have hwp : (walked (m1.map Prod.fst) dn).Perm (m1.map Prod.fst) := by
            rw [← map_walked]
            exact (walked_perm HST1.out.it.2.1 HST1.out.it.2.2.1 hde7).map _
          have hlcp : (LC1.map Prod.fst).Perm (m1.map Prod.fst) := by
            rw [HLC.out]
            exact hwp
          have hclp : (cl.map Prod.fst).Perm (m1.map Prod.fst) := by
            rw [hclk, HLQ.out]
            exact hwp
          obtain ⟨wE, hwE⟩ : ∃ wE : World, wE = wr := ⟨_, rfl⟩
          rw [← hwE] at HST1 hmp hcp ⊢
          have HPM := Lib.hid hmp
          have HPK := Lib.hid hpk
          have HPALL := Lib.hid hpall
          have HCP := Lib.hid hcp
          have HCLU := Lib.hid hclu
          have HCLP := Lib.hid hclp
          have HLCP := Lib.hid hlcp
          have HCR := Lib.hid HST1.out.cr
          obtain ⟨E, hE⟩ : ∃ E, wE.heap.size = E := ⟨_, rfl⟩
          have HE := Lib.hid hE
          have hPE : Pb < E := by rw [← hE]; exact hmp.lt
          have hCE : Cb < E := by rw [← hE]; exact HCR.out.lt
          have hPC : Pb ≠ Cb := HST1.out.ne.2.1
          have HKE : Hid (Kept [] wS wE) := HST1.out.k
          clear hwE hmp hmpL hmprow hpm hpk hpall hcp hclk hclu hwp hlcp hclp hE
          go_wp2_with (first
            | (refine wl_next rfl _ rfl (Qb + 1) mb m1 dn rfl HST1.out.it (fun _ => ?_) (fun i p w2 hp hi hI2 hK2 hs2 => absurd hI2.left (by rw [List.length_append]; simp only [List.length_cons, List.length_nil]; omega)))
            | (refine wl_len_map rfl _ 262 9 269 rfl Tryz.underlying262 Cb LC1 rfl HCR.out ?_)
            | (refine wl_len_map rfl _ 266 268 44 rfl Tryz.underlying266 Pb pm rfl (HPM.out.alloc _) ?_)
            | (refine wl_range rfl _ 266 rfl 268 44 Tryz.underlying266 Pb pm rfl ((HPM.out.alloc _).alloc _) ?_; intro wF hI hk1 hs1; have HI6 := Lib.hid hI; have HK6 := Lib.hid hk1; clear hI hk1 hs1))
          have hsF : ((wE.alloc (Obj.map #[] 0)).alloc (Obj.map #[] 0)).heap.size = E + 2 := by rw [← HE.out]; simp
          have hEm : MapIs tpEnc wF E [] := by
            have h := (MapIs.new tpEnc wE).alloc (Obj.map #[] 0)
            rw [HE.out] at h
            exact h.kept HK6.out (by simp)
          have hUm : MapIs tpEnc wF (E + 1) [] := by
            have h := MapIs.new tpEnc (wE.alloc (Obj.map #[] 0))
            rw [show (wE.alloc (Obj.map #[] 0)).heap.size = E + 1 by rw [← HE.out]; simp] at h
            exact h.kept HK6.out (by simp)
          rw [hsF] at HI6 ⊢
          rw [HE.out]
          have HEM := Lib.hid hEm
          have HUM := Lib.hid hUm
          have HKEF : Hid (Kept [] wE wF) := (((Kept.refl [] wE).alloc _).alloc _).trans0 HK6.out
          clear hsF hEm hUm HK6
          simp only [Act.put, List.setIfInBounds_toArray, List.set_cons_succ, List.set_cons_zero]
          go_loopg [31] pm.length (fun k _ wr => ∃ (done : List Nat) (mu : List (TP × Value)), k = pm.length - done.length ∧ IterIs tpEnc wr (E + 2) Pb pm done ∧ MapIs tpEnc wr (E + 1) mu ∧ mu.map Prod.fst = walked (pm.map Prod.fst) done ∧ MapIs tpEnc wr E [] ∧ Kept [] wE wr)
          case atStart => exact ⟨[], [], rfl, HI6.out, HUM.out, rfl, HEM.out, HKEF.out⟩
          case round =>
            obtain ⟨d6, mu, hk, hI, hmu, hmk, hem, hkr⟩ := hrel
            have HI7 := Lib.hid hI
            have HMU := Lib.hid hmu
            have HMK := Lib.hid hmk
            have HEM7 := Lib.hid hem
            have HKR7 := Lib.hid hkr
            have hdl6 := hI.left
            have hE2 : E + 2 < wr.heap.size := hI.lt
            clear hI hmu hmk hem hkr
            by_cases hd6 : d6.length < pm.length
            · go_wp2_with (first
                | (refine wl_next rfl _ rfl (E + 2) Pb pm d6 rfl HI7.out (fun e => absurd e (by omega)) ?_
                   intro i6 p w2 hp hi hI2 hK2 hs2
                   obtain ⟨x6, u6⟩ := p
                   have HI8 := Lib.hid hI2
                   have HK8 := Lib.hid hK2
                   have HP8 := Lib.hid hp
                   have HMU8 := Lib.hid (HMU.out.kept hK2 (by simp))
                   clear hI2 hK2 hp hi hs2)
                | (refine wl_entry rfl _ rfl (E + 2) Pb pm d6 i6 _ rfl HI8.out HP8.out ?_)
                | (refine wl_update rfl _ _ _ 273 rfl 4 Tryz.underlying273 tp_keys (E + 1) mu rfl (HMU8.out.alloc _) x6 rfl (.bool true) rfl ?_
                   intro w4 hM4 hk4 hs4
                   have HM4 := Lib.hid hM4
                   have HK4 := Lib.hid hk4
                   clear hM4 hk4))
              simp only [Act.put]
              go_roundg (pm.length - (d6 ++ [i6]).length)
              case measure =>
                rw [List.length_append]
                simp only [List.length_cons, List.length_nil]
                omega
              case rel =>
                have hxn : x6 ∉ mu.map Prod.fst := by
                  rw [HMK.out]
                  exact not_walked (by rw [HPK.out]; exact HUN.out) (by rw [List.getElem?_map, HP8.out]; rfl) HI8.out.2.1
                have hmm4 := HM4.out
                rw [mset_new _ (mget_none_iff.2 hxn)] at hmm4
                have hE8 := HE.out
                have hw2 := HK8.out.size
                refine ⟨d6 ++ [i6], _, rfl, (HI8.out.kept ((Kept.refl [] w2).alloc _) (by simp) (by simp)).kept HK4.out (by simp; omega) (by simp), hmm4, ?_, ((HEM7.out.kept HK8.out (by simp)).alloc _).kept HK4.out (by simp), ((HKR7.out.trans HK8.out (fun x hx => .inr (by have h1 := List.mem_singleton.1 hx; omega))).alloc _).trans HK4.out (fun x hx => .inr (by have h1 := List.mem_singleton.1 hx; omega))⟩
                rw [List.map_append, HMK.out, walked_snoc (by rw [List.getElem?_map, HP8.out]; rfl)]
                rfl
            · have hde6 : d6.length = pm.length := by omega
              have hmup : (mu.map Prod.fst).Perm U := by
                rw [HMK.out, ← HPK.out, ← map_walked]
                exact (walked_perm HI7.out.2.1 HI7.out.2.2.1 hde6).map _
              have HMUP := Lib.hid hmup
              obtain ⟨wG, hwG⟩ : ∃ wG : World, wG = wr := ⟨_, rfl⟩
              rw [← hwG] at HI7 HMU HEM7 HKR7 hE2 ⊢
              clear hwG hmup
              have HCR9 : Hid (MapIs Value.string wG Cb LC1) := HCR.out.kept HKR7.out (by simp)
              go_wp2_with (first
                | (refine wl_next rfl _ rfl (E + 2) Pb pm d6 rfl HI7.out (fun _ => ?_) (fun i p w2 hp hi hI2 hK2 hs2 => absurd hI2.left (by rw [List.length_append]; simp only [List.length_cons, List.length_nil]; omega)))
                | (refine wl_range rfl _ 262 rfl 9 269 Tryz.underlying262 Cb LC1 rfl HCR9.out ?_; intro wH hI hk1 hs1; have HI9 := Lib.hid hI; have HK9 := Lib.hid hk1; clear hI hk1 hs1))
              obtain ⟨G, hG⟩ : ∃ G, wG.heap.size = G := ⟨_, rfl⟩
              have HG := Lib.hid hG
              have hEG : E + 2 < G := by rw [← hG]; exact hE2
              rw [hG] at HI9 ⊢
              clear hG
              simp only [Act.put, List.setIfInBounds_toArray, List.set_cons_succ, List.set_cons_zero]
              go_loopg [32, 33, 34, 35] LC1.length (fun k v32 _ _ _ wr => ∃ (d9 : List Nat) (mc : List (ByteArray × Value)), k = LC1.length - d9.length ∧ v32 = .slice none 0 0 ∧ IterIs Value.string wr G Cb mc d9 ∧ mc.map Prod.fst = LC1.map Prod.fst ∧ (∀ e ∈ mc, ∃ A, e.2 = .slice A 0 0) ∧ (∀ i ∈ d9, ∀ e, mc[i]? = some e → e.2 = .slice none 0 0) ∧ Kept [Cb] wG wr)
              case atStart => exact ⟨[], LC1, rfl, rfl, HI9.out, rfl, HLCV.out, by simp, HK9.out.mono (by simp)⟩
              case round =>
                obtain ⟨d9, mc, hk, rfl, hI, hmck, hmcv, hmcn, hkr⟩ := hrel
                have HI10 := Lib.hid hI
                have HMCK := Lib.hid hmck
                have HMCV := Lib.hid hmcv
                have HMCN := Lib.hid hmcn
                have HKR10 := Lib.hid hkr
                have hdl9 := hI.left
                have hmcl : mc.length = LC1.length := by have h := congrArg List.length hmck; simpa using h
                have hG2 : G < wr.heap.size := hI.lt
                clear hI hmck hmcv hmcn hkr
                by_cases hd9 : d9.length < mc.length
                · go_wp2_with (first
                    | (refine wl_next rfl _ rfl G Cb mc d9 rfl HI10.out (fun e => absurd e (by omega)) ?_
                       intro i9 p w2 hp hi hI2 hK2 hs2
                       obtain ⟨id9, u9⟩ := p
                       obtain ⟨A9, hA9⟩ := HMCV.out _ (List.mem_of_getElem? hp)
                       simp only at hA9
                       subst hA9
                       have HI11 := Lib.hid hI2
                       have HK11 := Lib.hid hK2
                       have HP11 := Lib.hid hp
                       clear hI2 hK2 hp hi hs2)
                    | (refine wl_entry rfl _ rfl G Cb mc d9 i9 _ rfl HI11.out HP11.out ?_))
                  refine wp_loop_once ?_
                  go_wp2_with (first
                    | (refine wl_update_iter rfl _ _ _ 262 rfl 269 Tryz.underlying262 str9 G Cb mc (d9 ++ [i9]) rfl HI11.out id9 (List.mem_map.2 ⟨_, List.mem_of_getElem? HP11.out, rfl⟩) rfl (.slice none 0 0) rfl ?_
                       intro w4 hI4 hk4 hs4
                       rw [mset_map _ _ HI11.out.map.nodup (List.mem_map.2 ⟨_, List.mem_of_getElem? HP11.out, rfl⟩)] at hI4
                       have HI12 := Lib.hid hI4
                       have HK12 := Lib.hid hk4
                       clear hI4 hk4 hs4))
                  go_roundg (LC1.length - (d9 ++ [i9]).length)
                  case measure =>
                    rw [List.length_append]
                    simp only [List.length_cons, List.length_nil]
                    omega
                  case rel =>
                    have hnd := HI11.out.map.nodup
                    refine ⟨d9 ++ [i9], _, rfl, rfl, HI12.out, ?_, ?_, ?_, (HKR10.out.trans HK11.out (fun x hx => .inr (by have h1 := List.mem_singleton.1 hx; have h2 := HG.out; omega))).trans HK12.out (fun x hx => .inl hx)⟩
                    · rw [List.map_map, ← HMCK.out]
                      refine List.map_congr_left fun e he => ?_
                      simp only [Function.comp_def]
                      split
                      · rename_i h
                        exact h.symm
                      · rfl
                    · intro e he
                      obtain ⟨y, hy, rfl⟩ := List.mem_map.1 he
                      by_cases hyk : y.1 = id9
                      · rw [if_pos hyk]
                        exact ⟨none, rfl⟩
                      · rw [if_neg hyk]
                        exact HMCV.out y hy
                    · intro i hi e he
                      rw [List.getElem?_map] at he
                      obtain ⟨y, hy, rfl⟩ := Option.map_eq_some_iff.1 he
                      by_cases hyk : y.1 = id9
                      · rw [if_pos hyk]
                      · rw [if_neg hyk]
                        rcases List.mem_append.1 hi with h | h
                        · exact HMCN.out i h y hy
                        · rw [List.mem_singleton.1 h, HP11.out] at hy
                          exact absurd (congrArg Prod.fst (Option.some.inj hy)).symm hyk
                · have hde9 : d9.length = mc.length := by omega
                  have hall9 : ∀ e ∈ mc, e.2 = .slice none 0 0 := by
                    intro e he
                    obtain ⟨i, hi⟩ := List.mem_iff_getElem?.1 he
                    exact HMCN.out i (all_idx HI10.out.2.1 HI10.out.2.2.1 hde9 i (List.getElem?_eq_some_iff.1 hi).1) e hi
                  obtain ⟨L0, hL0⟩ : ∃ L0 : List (ByteArray × List TP), mc.map (fun e => (e.1, [])) = L0 := ⟨_, rfl⟩
                  have hasg : ∀ base, AsgIs wr base Cb L0 := fun base => by rw [← hL0]; exact asg_nil base HI10.out.map hall9
                  have hl0n : ∀ e ∈ L0, e.2 = [] := by
                    intro e he
                    rw [← hL0] at he
                    obtain ⟨y, _, rfl⟩ := List.mem_map.1 he
                    rfl
                  have hl0k : (L0.map Prod.fst).Perm (m1.map Prod.fst) := by
                    refine List.Perm.trans (List.Perm.of_eq ?_) HLCP.out
                    rw [← hL0, ← HMCK.out, List.map_map]
                    rfl
                  obtain ⟨wI, hwI⟩ : ∃ wI : World, wI = wr := ⟨_, rfl⟩
                  rw [← hwI] at HI10 HKR10 hG2 hasg ⊢
                  have HASG := Lib.hid hasg
                  have HL0N := Lib.hid hl0n
                  have HL0K := Lib.hid hl0k
                  have HKI : Hid (Kept [Cb] wE wI) := (HKR7.out.mono (by simp)).trans HKR10.out (fun x hx => .inl hx)
                  clear hwI hall9 hL0 hasg hl0n hl0k
                  have HMU12 : Hid (MapIs tpEnc wI (E + 1) mu) := HMU.out.kept HKR10.out (by simp; omega)
                  go_wp2_with (first
                    | (refine wl_next rfl _ rfl G Cb mc d9 rfl HI10.out (fun _ => ?_) (fun i p w2 hp hi hI2 hK2 hs2 => absurd hI2.left (by rw [List.length_append]; simp only [List.length_cons, List.length_nil]; omega)))
                    | (refine wl_range rfl _ 273 rfl 268 4 Tryz.underlying273 (E + 1) mu rfl HMU12.out ?_; intro wJ hI hk1 hs1; have HI13 := Lib.hid hI; have HK13 := Lib.hid hk1; clear hI hk1 hs1))
                  obtain ⟨H, hH⟩ : ∃ H, wI.heap.size = H := ⟨_, rfl⟩
                  have HH := Lib.hid hH
                  have hGH : G < H := by rw [← hH]; exact hG2
                  rw [hH] at HI13 ⊢
                  clear hH
                  simp only [Act.put, List.setIfInBounds_toArray, List.set_cons_succ, List.set_cons_zero]
                  have hmul : mu.length ≤ 120000 := by
                    have h1 := HMUP.out.length_eq
                    have h2 := HUQT.out
                    rw [List.length_map] at h1
                    omega
                  go_loopg [32, 40] mu.length (fun k v32 _ wr => ∃ (d11 : List Nat) (us : List TP), k = mu.length - d11.length ∧ IterIs tpEnc wr H (E + 1) mu d11 ∧ us = walked (mu.map Prod.fst) d11 ∧ wr.ownsRow H 268 2 v32 us.length (us.flatMap tpCells) ∧ Kept [] wI wr)
                  case atStart => exact ⟨[], [], rfl, HI13.out, rfl, ⟨rfl, .inl ⟨rfl, rfl⟩⟩, HK13.out⟩
                  case round =>
                    obtain ⟨d11, us, hk, hI, hus, hown, hkr⟩ := hrel
                    obtain ⟨A32, c32, rfl⟩ := own_form hown
                    have HI14 := Lib.hid hI
                    have HUS := Lib.hid hus
                    have HOW := Lib.hid hown
                    have HKR14 := Lib.hid hkr
                    have hdl11 := hI.left
                    have husl : us.length ≤ mu.length := by
                      rw [hus]
                      exact Nat.le_trans (List.length_filterMap_le _ _) hdl11
                    have hHw : H < wr.heap.size := hI.lt
                    clear hI hus hown hkr
                    by_cases hd11 : d11.length < mu.length
                    · go_wp2_with (first
                        | (refine wl_next rfl _ rfl H (E + 1) mu d11 rfl HI14.out (fun e => absurd e (by omega)) ?_
                           intro i11 p w2 hp hi hI2 hK2 hs2
                           obtain ⟨x11, u11⟩ := p
                           have HI15 := Lib.hid hI2
                           have HK15 := Lib.hid hK2
                           have HP15 := Lib.hid hp
                           have HOW2 := Lib.hid (hK2.own HOW.out (own_iter_ne HOW.out HI14.out))
                           have hHw2 : H < w2.heap.size := by omega
                           clear hI2 hK2 hp hi hs2)
                        | (refine wl_entry rfl _ rfl H (E + 1) mu d11 i11 _ rfl HI15.out HP15.out ?_)
                        | (at_builtin; refine wl_append rfl _ _ 269 rfl H 268 Tryz.underlying269 info268 rfl (by decide) (.slice A32 us.length c32) us.length (us.flatMap tpCells) rfl (own_kept0 HOW2.out (((Kept.refl _ _).alloc _).alloc _)) _ 1 1 [.string x11.1, .int .i32 x11.2] rfl (own_slis (own_new _ 268 2 1 #[.string x11.1, .int .i32 x11.2] 0 (Nat.zero_le _) (by omega) rfl (World.size_alloc _ _))) (by simp [Value.oneCell']) (by omega) (by omega) (by simp; omega) ?_
                           intro v16 w16 hown hk16 hat
                           have HO16 := Lib.hid hown
                           have HKW16 : Hid (Kept (Value.slice A32 us.length c32).ownBlock.toList ((w2.alloc (.cells #[.string x11.1, .int .i32 x11.2] 268)).alloc (.cells #[.string x11.1, .int .i32 x11.2] 268)) w16) := hk16
                           clear hown hk16 hat))
                      go_roundg (mu.length - (d11 ++ [i11]).length)
                      case measure =>
                        rw [List.length_append]
                        simp only [List.length_cons, List.length_nil]
                        omega
                      case rel =>
                        refine ⟨d11 ++ [i11], us ++ [x11], rfl, ((HI15.out.kept ((Kept.refl [] w2).alloc _) (by simp) (by simp)).kept ((Kept.refl [] _).alloc _) (by simp) (by simp)).kept HKW16.out (fun hm => own_map_ne HOW2.out HI15.out.map _ (by simpa using hm) rfl) (fun hm => own_iter_ne HOW2.out HI15.out H (by simpa using hm) (by simp)), ?_, ?_, ((HKR14.out.trans HK15.out (fun x hx => .inr (by have h1 := List.mem_singleton.1 hx; have h2 := HH.out; omega))).trans0 (((Kept.refl [] w2).alloc _).alloc _)).trans HKW16.out (fun x hx => .inr (by have h1 := own_ge HOW2.out x (by simpa using hx); have h2 := HH.out; omega))⟩
                        · rw [HUS.out, walked_snoc (by rw [List.getElem?_map, HP15.out]; rfl)]
                        · rw [List.length_append, List.flatMap_append]
                          exact HO16.out
                    · have hde11 : d11.length = mu.length := by omega
                      have husp : us.Perm U := by
                        rw [HUS.out, ← map_walked]
                        exact ((walked_perm HI14.out.2.1 HI14.out.2.2.1 hde11).map _).trans HMUP.out
                      have HUSP := Lib.hid husp
                      obtain ⟨wK, hwK⟩ : ∃ wK : World, wK = wr := ⟨_, rfl⟩
                      rw [← hwK] at HI14 HOW HKR14 hHw ⊢
                      have HKK : Hid (Kept [Cb] wE wK) := HKI.out.trans0 HKR14.out
                      have hl7 : m1.length = l.length := by rw [← HM1.out, ← HML.out]; simp
                      have hU1 : 1 ≤ U.length := by
                        rw [HUP.out.length_eq]
                        obtain ⟨y, hy⟩ : ∃ y, y ∈ tm := List.exists_mem_of_length_pos HPRE.out.one
                        have h1 := (HPRE.out.tops y hy).1
                        obtain ⟨p, hp⟩ : ∃ p, p ∈ y.2 := List.exists_mem_of_length_pos h1
                        exact List.length_pos_of_mem (List.mem_flatMap.2 ⟨y, hy, List.mem_map.2 ⟨p, hp, rfl⟩⟩)
                      have HL7 := Lib.hid hl7
                      have HU1 := Lib.hid hU1
                      have hpml : pm.length ≤ 1000000 := by
                        have h1 := congrArg List.length HPK.out
                        have h2 := HUQT.out
                        rw [List.length_map] at h1
                        omega
                      have H196 : Hid (∀ W, Kept [] wK W → Calls Tryz.prog 196 #[.map (some Cb), .map (some vb), .bool true, .map (some Pb), .map (some Qb)] W fun e w' => ∃ (v : Value) (l' : List TP), e = .returned v ∧ l'.Perm (pm.map Prod.fst) ∧ w'.ownsRow W.heap.size 268 2 v l'.length (l'.flatMap tpCells) ∧ Kept [] W w') := fun W hW =>
                        sortPartitions_any _ _ _ Pb m1.length pm W ((HPM.out.kept HKK.out (by simpa using hPC)).kept hW (by simp)) HPALL.out (by have h1 := HL7.out; have h2 := HTOLD.out.seven; omega) hpml
                      obtain ⟨ms, hms, hmsk, hmss, hmsl⟩ := (HASG.out wI.heap.size).sized (fun e he => by rw [HL0N.out e he]; simp)
                      have hL0l : L0.length = m1.length := by
                        have h := HL0K.out.length_eq
                        simpa using h
                      have HL0L := Lib.hid hL0l
                      have HMSK := Lib.hid hmsk
                      have H197 : Hid (∀ W, Kept [] wK W → Calls Tryz.prog 197 #[.map (some Cb)] W fun e w' => ∃ v l', e = .returned v ∧ l'.Perm (ms.map Prod.fst) ∧ l'.Pairwise (fun p q => mlt (szOf L0) q p = false) ∧ w'.ownsRow W.heap.size 9 1 v l'.length (strs l') ∧ Kept [] W w') := fun W hW =>
                        sortIds_any Cb ms (szOf L0) W ((hms.kept HKR14.out (by simp)).kept hW (by simp)) hmss (by have h1 := HL7.out; have h2 := HTOLD.out.seven; have h3 := HL0L.out; omega)
                      clear hwK husp hl7 hU1 hpml hmsk hmss hmsl hL0l
                      go_wp2_with (first
                        | (refine wl_next rfl _ rfl H (E + 1) mu d11 rfl HI14.out (fun _ => ?_) (fun i p w2 hp hi hI2 hK2 hs2 => absurd hI2.left (by rw [List.length_append]; simp only [List.length_cons, List.length_nil]; omega)))
                        | ((with_reducible refine (H196.out _ (Kept.refl _ _)).mono ?_)
                           rintro e wL ⟨v17, sp, rfl, hsp, hown, hk⟩
                           have hspl : 0 < sp.length := by
                             have h1 := hsp.length_eq
                             have h2 := HU1.out
                             rw [HPK.out] at h1
                             omega
                           obtain ⟨A17, c17, rfl⟩ := own_form hown
                           obtain ⟨g3, rfl⟩ := own_row hown hspl
                           have HSP := Lib.hid hsp
                           have HOW17 := Lib.hid hown
                           have HK17 := Lib.hid hk
                           clear hsp hown hk hspl)
                        | ((with_reducible refine (H197.out _ HK17.out).mono ?_)
                           rintro e wM ⟨v18, ids, rfl, hids, hidsS, hown, hk⟩
                           obtain ⟨A18, c18, rfl⟩ := own_form hown
                           have hKM : Kept [Cb] wE wM := (HKK.out.trans0 HK17.out).trans0 hk
                           have hKIM : Kept [] wI wM := (HKR14.out.trans0 HK17.out).trans0 hk
                           have hg3 : E ≤ g3 := by
                             have h1 := own_ge HOW17.out g3 rfl
                             have h2 := HKK.out.size
                             have h3 := HE.out
                             omega
                           have hbal : BalPre wM Cb Qb Pb E g3 c17 us.length ids.length A32 A18 (fun x => x < wE.heap.size ∧ x ≠ Cb) L0 cl pm sp us ids := {
                             cur := (HASG.out _).kept0 hKIM
                             nil := HL0N.out
                             pot := HCP.out.kept hKM (fun x hx hm => hx.2 (by simpa using hm))
                             bX := fun b hb => ⟨Nat.lt_of_lt_of_le hb.1 hKM.size, hb.2, by have := HE.out; omega, by have := HE.out; omega⟩
                             who := HPM.out.kept hKM (by simpa using hPC)
                             ne := ⟨hPC, by omega, by omega⟩
                             all := fun e he => by rw [HL0L.out]; exact HPALL.out e he
                             keys := by rw [HPK.out]; exact HUSP.out.symm
                             has := ((HEM7.out.kept HKR10.out (by simp; omega)).kept hKIM (by simp))
                             row := own_mono (own_kept0 HOW17.out hk) (Nat.zero_le _)
                             perm := by have h1 := HSP.out; rw [HPK.out] at h1; exact h1.trans HUSP.out.symm
                             un := (own_slis HOW.out).kept0 (HK17.out.trans0 hk)
                             row5 := own_slis hown
                             idsP := by rw [← HMSK.out]; exact hids
                             idsS := hidsS
                             clU := fun e he => (HCLU.out e he).trans HUSP.out.symm
                             clK := HCLP.out.trans HL0K.out.symm
                             one := by have h1 := HL0L.out; have h2 := HL7.out; have h3 := HTOLD.out.one; omega
                             hundred := by have h1 := HL0L.out; have h2 := HL7.out; have h3 := HTOLD.out.seven; omega
                             uone := by have h1 := HUSP.out.length_eq; have h2 := HU1.out; omega
                             umil := by have h1 := HUSP.out.length_eq; have h2 := HUQT.out; omega
                             und := HUSP.out.symm.nodup HUN.out }
                           have HBAL := Lib.hid (balance_any (.pointer (some ⟨bs, 0, none⟩)) (.map (some vb)) Cb Qb Pb E g3 c17 us.length c32 ids.length c18 A32 A18 _ L0 cl pm sp us ids wM hbal)
                           have HKM := Lib.hid hKM
                           have HKIM := Lib.hid hKIM
                           clear hids hidsS hown hk hKM hKIM hbal)
                        | ((with_reducible refine HBAL.out.mono ?_)
                           rintro e wN ⟨rfl, L, hL, hLk, hLg, hLe, hk⟩
                           have HKN := Lib.hid hk
                           have HLK := Lib.hid hLk
                           have HLG := Lib.hid hLg
                           have HLE := Lib.hid hLe
                           have HLN : Hid (L.map Prod.fst).Nodup := hL.nodup
                           obtain ⟨ma, hma, hmaL, hmar, _⟩ := hL
                           obtain ⟨mA, hmA⟩ : ∃ mA, ma.map (fun e => (e.1, e.2.1)) = mA := ⟨_, rfl⟩
                           rw [hmA] at hma
                           have HMA := Lib.hid hma
                           have HMAL := Lib.hid hmaL
                           have HMAE := Lib.hid hmA
                           have HMAR := Lib.hid hmar
                           clear hma hmaL hmA hmar hLk hLg hLe hk)
                        | (refine wl_len_map rfl _ 262 9 269 rfl Tryz.underlying262 Cb mA rfl HMA.out ?_)
                        | (refine wl_range rfl _ 262 rfl 9 269 Tryz.underlying262 Cb mA rfl (HMA.out.alloc _) ?_; intro wO hI hk1 hs1; have HI20 := Lib.hid hI; have HK20 := Lib.hid hk1; clear hI hk1 hs1))
                      obtain ⟨N, hN⟩ : ∃ N, wN.heap.size = N := ⟨_, rfl⟩
                      have HN := Lib.hid hN
                      have hsO : (wN.alloc (Obj.map #[] 0)).heap.size = N + 1 := by rw [← hN]; simp
                      have hCN : Cb < N := by rw [← hN]; exact HMA.out.lt
                      have hP0 : MapIs Value.string wO N [] := by
                        have h := MapIs.new Value.string wN
                        rw [hN] at h
                        exact h.kept HK20.out (by simp)
                      rw [hsO] at HI20 ⊢
                      rw [hN]
                      have HPL0 := Lib.hid (show PlanWith wO [N] N (fun _ _ => []) [] (fun _ => 0) (fun _ => []) from ⟨by simp, hP0, by simp, by simp, by simp, by simp, by simp, by simp, fun _ _ _ => rfl⟩)
                      have HKNO : Hid (Kept [] wN wO) := ((Kept.refl [] wN).alloc _).trans0 HK20.out
                      have hmAl : mA.length = L.length := by rw [← HMAE.out, ← HMAL.out]; simp
                      have HMALN := Lib.hid hmAl
                      clear hmAl hN hsO hP0 HK20
                      simp only [Act.put, List.setIfInBounds_toArray, List.set_cons_succ, List.set_cons_zero]
                      go_loopg [44, 45] mA.length (fun k _ _ wr => ∃ (dz S : List Nat) (ks : List ByteArray) (I : ByteArray → Nat) (M : ByteArray → List (ByteArray × Value)), k = mA.length - dz.length ∧ IterIs Value.string wr (N + 1) Cb mA dz ∧ PlanWith wr S N (gives (seqOf (walked L dz))) ks I M ∧ (∀ x, x ∈ ks ↔ x ∈ walked (L.map Prod.fst) dz) ∧ (∀ x ∈ S, N ≤ x ∧ x ≠ N + 1) ∧ Kept [] wN wr)
                      case atStart => exact ⟨[], [N], [], _, _, rfl, HI20.out, HPL0.out, fun x => by simp [walked], fun x hx => by rw [List.mem_singleton.1 hx]; omega, HKNO.out⟩
                      case round =>
                        obtain ⟨dz, S, ks, I, M, hk, hI, hP, hks, hS, hkr⟩ := hrel
                        have HI21 := Lib.hid hI
                        have HP21 := Lib.hid hP
                        have HKS21 := Lib.hid hks
                        have HS21 := Lib.hid hS
                        have HKR21 := Lib.hid hkr
                        have hdlz := hI.left
                        have hN1 : N + 1 < wr.heap.size := hI.lt
                        clear hI hP hks hS hkr
                        by_cases hdz : dz.length < mA.length
                        · go_wp2_with (first
                            | (refine wl_next rfl _ rfl (N + 1) Cb mA dz rfl HI21.out (fun e => absurd e (by omega)) ?_
                               intro iz p w2 hp hi hI2 hK2 hs2
                               obtain ⟨q, hq1, hq2, hq3⟩ : ∃ q, L[iz]? = some (p.1, q) ∧ wN.ownsRow wM.heap.size 268 2 p.2 q.length (q.flatMap tpCells) ∧ True := by
                                 rw [← HMAE.out, List.getElem?_map] at hp
                                 obtain ⟨e, he, rfl⟩ := Option.map_eq_some_iff.1 hp
                                 exact ⟨e.2.2, by rw [← HMAL.out, List.getElem?_map, he]; rfl, HMAR.out e (List.mem_of_getElem? he), trivial⟩
                               obtain ⟨idz, uz⟩ := p
                               simp only at hq1 hq2
                               obtain ⟨Az, cz, rfl⟩ := own_form hq2
                               have hql : q.length ≤ 120000 := by
                                 have h1 := given_le (List.mem_of_getElem? hq1)
                                 have h2 := HLG.out.length_eq
                                 have h3 := HUSP.out.length_eq
                                 have h4 := HUQT.out
                                 simp only at h1
                                 omega
                               have HQ1 := Lib.hid hq1
                               have HQ2 := Lib.hid hq2
                               have HI22 := Lib.hid hI2
                               have HK22 := Lib.hid hK2
                               have HP22 := Lib.hid hp
                               have HPW22 := Lib.hid (HP21.out.kept hK2 (fun x hx hm => (HS21.out x hx).2 (by simpa using hm)))
                               clear hI2 hK2 hp hi hs2 hq1 hq2 hq3)
                            | (refine wl_entry rfl _ rfl (N + 1) Cb mA dz iz _ rfl HI22.out HP22.out ?_)
                            | (refine wl_update rfl _ _ _ 83 rfl 89 Tryz.underlying83 str9 N _ rfl (HPW22.out.outer.alloc _) idz rfl (.map (some w2.heap.size)) rfl ?_
                               intro w4 hM4 hk4 hs4
                               have HM4 := Lib.hid hM4
                               have HK4 := Lib.hid hk4
                               clear hM4 hk4 hs4))
                          · rename_i hq0
                            simp only [Act.put]
                            have hq : q = [] := by simpa using hq0
                            go_roundg (mA.length - (dz ++ [iz]).length)
                            case measure =>
                              rw [List.length_append]
                              simp only [List.length_cons, List.length_nil]
                              omega
                            case rel =>
                              obtain ⟨S', ks', I', M', r1, r2, r3, r4, r5⟩ := zero_step HN.out hCN (Nat.lt_of_lt_of_le hN1 HK22.out.size) HI22.out (by rw [HQ1.out, hq]) HLN.out HPW22.out HKS21.out HS21.out HKR21.out HK22.out HM4.out HK4.out
                              exact ⟨dz ++ [iz], S', ks', I', M', rfl, r1, r2, r3, r4, r5⟩
                          · rename_i hq0
                            have hqp : 0 < q.length := by
                              rcases q with _ | ⟨y, q⟩
                              · simp at hq0
                              · simp
                            have hseql : (seqOf (walked L dz)).length ≤ 1000000 := by
                              have h1 : (seqOf (walked L dz)).length ≤ (walked L dz).length * 120000 := seqOf_len (fun e he => by
                                have h1 := given_le (walked_sub he)
                                have h2 := HLG.out.length_eq
                                have h3 := HUSP.out.length_eq
                                have h4 := HUQT.out
                                omega)
                              have h2 : (walked L dz).length ≤ dz.length := List.length_filterMap_le _ _
                              have h3 := HMALN.out
                              have h4 := HLK.out.length_eq
                              have h5 := HL0L.out
                              have h6 := HL7.out
                              have h7 := HTOLD.out.seven
                              rw [List.length_map, List.length_map] at h4
                              omega
                            have HSEQL := Lib.hid hseql
                            clear hseql
                            obtain ⟨bz, oz, rfl, hcz⟩ := (own_slis HQ2.out).2.2 hqp
                            have HCZ := Lib.hid hcz
                            clear hcz hq0
                            go_loopg [263] q.length (fun k v wr => ∃ (j : Nat) (S : List Nat) (ks : List ByteArray) (I : ByteArray → Nat) (M : ByteArray → List (ByteArray × Value)), k = q.length - j ∧ j ≤ q.length ∧ v = .int .i64 j ∧ IterIs Value.string wr (N + 1) Cb mA (dz ++ [iz]) ∧ PlanWith wr S N (gives (seqOf (walked L dz) ++ (q.take j).map fun x => (idz, x.1, x.2))) ks I M ∧ (∀ x ∈ walked (L.map Prod.fst) dz, x ∈ ks) ∧ (∀ x ∈ ks, x ∈ walked (L.map Prod.fst) dz ∨ x = idz) ∧ (0 < j → idz ∈ ks) ∧ (∀ x ∈ S, N ≤ x ∧ x ≠ N + 1) ∧ Kept [] wN wr)
                            case atStart => exact ⟨0, S, ks, I, M, rfl, Nat.zero_le _, rfl, HI22.out, by simpa using HPW22.out, fun x hx => (HKS21.out x).2 hx, fun x hx => .inl ((HKS21.out x).1 hx), fun h => absurd h (by omega), HS21.out, HKR21.out.trans HK22.out (fun x hx => .inr (by have h1 := List.mem_singleton.1 hx; have h2 := HN.out; omega))⟩
                            case round =>
                              obtain ⟨j, S3, ks3, I3, M3, hk, hj, rfl, hI, hP, hks1, hks2, hks3, hS, hkr⟩ := hrel
                              have HI30 := Lib.hid hI
                              have HP30 := Lib.hid hP
                              have HK31 := Lib.hid hks1
                              have HK32 := Lib.hid hks2
                              have HK33 := Lib.hid hks3
                              have HS30 := Lib.hid hS
                              have HKR30 := Lib.hid hkr
                              have hN3 : N + 1 < wr.heap.size := hI.lt
                              clear hI hP hks1 hks2 hks3 hS hkr
                              by_cases hlj : j < q.length
                              · have hlj' : (j : Int) < (q.length : Int) := by omega
                                obtain ⟨x, hx⟩ : ∃ x, q[j]? = some x := ⟨_, List.getElem?_eq_getElem hlj⟩
                                have HX30 := Lib.hid hx
                                have HCX : Hid (∀ a v, [Value.string x.1, .int .i32 x.2][a]? = some v → wr.cell? ⟨bz, oz + j * 2 + a, none⟩ = some v) := fun a v hv => by
                                  have h1 := HKR30.out.cell (HCZ.out (j * 2 + a) v (tp_get hx a v hv)) (by simp)
                                  rwa [← Nat.add_assoc] at h1
                                clear hx
                                obtain ⟨F, hF⟩ : ∃ F, gives (seqOf (walked L dz) ++ (q.take j).map fun x => (idz, x.1, x.2)) = F := ⟨_, rfl⟩
                                have hFl : (F idz x.1).length ≤ 2000000 := by
                                  rw [← hF]
                                  unfold gives
                                  rw [List.length_map]
                                  refine Nat.le_trans (List.length_filter_le _ _) ?_
                                  rw [List.length_append, List.length_map, List.length_take]
                                  have h1 := HSEQL.out
                                  omega
                                rw [hF] at HP30
                                have HADD : Hid (Calls Tryz.prog 75 #[.map (some N), .string idz, .string x.1, .slice (some ⟨wr.heap.size + 1, 0, none⟩) 1 1] ((wr.alloc (.cells #[.string x.1, .int .i32 x.2] 268)).alloc (.cells #[.int .i32 x.2] 21)) fun e w' => e = .returned (.tuple #[]) ∧ ∃ S' ks' I' M', PlanWith w' S' N (upd2 F idz x.1 (F idz x.1 ++ [x.2])) ks' I' M' ∧ (∀ y ∈ ks3, y ∈ ks') ∧ (∀ y ∈ ks', y ∈ ks3 ∨ y = idz) ∧ idz ∈ ks' ∧ Kept (S3.filter fun y => decide (y < wr.heap.size)) ((wr.alloc (.cells #[.string x.1, .int .i32 x.2] 268)).alloc (.cells #[.int .i32 x.2] 21)) w' ∧ ∀ y ∈ S', y ∈ (S3.filter fun y => decide (y < wr.heap.size)) ∨ ((wr.alloc (.cells #[.string x.1, .int .i32 x.2] 268)).alloc (.cells #[.int .i32 x.2] 21)).heap.size ≤ y) := by
                                  refine add_keys (S3.filter fun y => decide (y < wr.heap.size)) N F ks3 I3 M3 idz x.1 _ (fun y => y = wr.heap.size + 1) [x.2] _ (HP30.out.cut.kept (((Kept.refl [] wr).alloc _).alloc _) (fun _ _ => by simp)) ⟨_, 1, 1, rfl, own_slis (own_new (wr.alloc _) 21 1 1 #[.int .i32 x.2] 0 (Nat.zero_le _) (by omega) rfl (World.size_alloc _ _)), fun a ha _ => by cases ha; rfl, Nat.le_refl _⟩ (fun y hy hm => by have h1 := (List.mem_filter.1 hm).2; simp at h1; omega) ?_ (by simp)
                                  simp only [List.length_singleton]
                                  omega
                                have HF := Lib.hid hF
                                clear hF hFl
                                go_wp2_with (first
                                  | (refine wl_load_struct rfl 268 _ rfl Tryz.underlying268 rfl rfl bz (oz + j * 2) rfl [.string x.1, .int .i32 x.2] rfl HCX.out ?_)
                                  | ((with_reducible refine HADD.out.mono ?_)
                                     rintro e w11 ⟨rfl, S', ks', I', M', hP11, h1, h2, h3, hk11, hS11⟩
                                     have HP11 := Lib.hid hP11
                                     have HH1 := Lib.hid h1
                                     have HH2 := Lib.hid h2
                                     have HH3 := Lib.hid h3
                                     have HK11z := Lib.hid hk11
                                     have HS11 := Lib.hid hS11
                                     clear hP11 h1 h2 h3 hk11 hS11))
                                go_roundg (q.length - (j + 1))
                                case measure => omega
                                case rel =>
                                  have hSf : ∀ y ∈ (S3.filter fun y => decide (y < wr.heap.size)), N ≤ y ∧ y ≠ N + 1 := fun y hy => HS30.out y (List.mem_filter.1 hy).1
                                  have hNn := HN.out
                                  refine ⟨j + 1, S', ks', I', M', rfl, by omega, rfl, (HI30.out.kept (((Kept.refl [] wr).alloc _).alloc _) (by simp) (by simp)).kept HK11z.out (fun hm => by have := (hSf _ hm).1; omega) (fun hm => (hSf _ hm).2 rfl), ?_, fun y hy => HH1.out y (HK31.out y hy), fun y hy => (HH2.out y hy).elim (HK32.out y) .inr, fun _ => HH3.out, ?_, (HKR30.out.trans0 (((Kept.refl [] wr).alloc _).alloc _)).trans HK11z.out (fun y hy => .inr (by have := (hSf y hy).1; omega))⟩
                                  · rw [take_one HX30.out, List.map_append, ← List.append_assoc, List.map_cons, List.map_nil, gives_snoc, HF.out]
                                    exact HP11.out
                                  · intro y hy
                                    rcases HS11.out y hy with h | h
                                    · exact hSf y h
                                    · simp at h
                                      omega
                              · obtain rfl : j = q.length := by omega
                                have hlj' : ¬ (q.length : Int) < (q.length : Int) := by omega
                                go_wp2
                                go_roundg (mA.length - (dz ++ [iz]).length)
                                case measure =>
                                  rw [List.length_append]
                                  simp only [List.length_cons, List.length_nil]
                                  omega
                                case rel =>
                                  refine ⟨dz ++ [iz], S3, ks3, I3, M3, rfl, HI30.out, ?_, ?_, HS30.out, HKR30.out⟩
                                  · rw [walked_snoc HQ1.out, seqOf_snoc]
                                    have h := HP30.out
                                    rw [List.take_length] at h
                                    exact h
                                  · intro x
                                    rw [walked_snoc (show (L.map Prod.fst)[iz]? = some idz by rw [List.getElem?_map, HQ1.out]; rfl), List.mem_append, List.mem_singleton]
                                    constructor
                                    · exact HK32.out x
                                    · rintro (h | rfl)
                                      · exact HK31.out x h
                                      · exact HK33.out hqp
                        · have hdez : dz.length = mA.length := by omega
                          have hlwp : (walked L dz).Perm L := walked_perm HI21.out.2.1 (fun i hi => by have := HI21.out.2.2.1 i hi; have := HMALN.out; omega) (by have := HMALN.out; omega)
                          have hkst : Kept [] wS wr := by
                            refine ((((HKE.out.trans HKI.out (fun x hx => .inr ?_)).trans0 HKIM.out).trans HKN.out (fun x hx => .inr ?_))).trans0 HKR21.out
                            · have h1 := List.mem_singleton.1 hx
                              have h2 := HST1.out.ge.2.2.2.2.1
                              have h3 := HZ.out
                              omega
                            · have h2 := HST1.out.ge.2.2.2.2.1
                              have h3 := HZ.out
                              have h4 := HKE.out.size
                              have h5 := HE.out
                              simp only [List.mem_cons, List.not_mem_nil, or_false] at hx
                              omega
                          have hgood : GoodSt l tm (gives (seqOf (walked L dz))) := by
                            refine ⟨walked L dz, ?_, ?_, ?_, rfl⟩
                            · refine ((hlwp.map _).trans HLK.out).trans (HL0K.out.trans (List.Perm.of_eq ?_))
                              rw [← HM1.out, ← HML.out, List.map_map, List.map_map]
                              rfl
                            · refine (hlwp.flatMap_right _).trans ((HLG.out.trans HUSP.out).trans HUP.out)
                            · exact fun e he f hf => HLE.out e (hlwp.mem_iff.1 he) f (hlwp.mem_iff.1 hf)
                          have hin : ∀ p ∈ l, p.1 ∈ ks := by
                            intro p hp
                            rw [HKS21.out, ← map_walked]
                            refine (hlwp.map _).mem_iff.2 (HLK.out.mem_iff.2 (HL0K.out.mem_iff.2 ?_))
                            rw [← HM1.out, List.map_map]
                            rw [← HML.out] at hp
                            obtain ⟨e, he, rfl⟩ := List.mem_map.1 hp
                            exact List.mem_map.2 ⟨e, he, rfl⟩
                          have HKST := Lib.hid hkst
                          have HGOOD := Lib.hid hgood
                          have HIN := Lib.hid hin
                          have hc2z : wr.cell? ⟨bs, 2, none⟩ = some (.bool coop) := hkst.cell hc2S (by simp)
                          clear hkst hgood hin hlwp
                          have HADJ : Hid (∀ W, Kept [] wr W → Calls Tryz.prog 199 #[.map (some N), .map (some mb)] W fun e w' => e = .returned (.tuple #[]) ∧ Kept [] W w') := fun W hW =>
                            adjust_any (fun _ => True) N mb l S _ ks I M W ⟨trivial, m, by rw [HM1.out]; exact (HM.out.kept HKST.out (by simp)).kept hW (by simp), HML.out, fun e he => ((HMV.out e he).kept HKST.out (fun _ _ => by simp)).kept hW (fun _ _ => by simp)⟩ (HP21.out.kept hW (fun _ _ => by simp)) HIN.out
                          have hSz : ∀ x ∈ S, w.heap.size ≤ x := by
                            intro x hx
                            have h1 := (HS21.out x hx).1
                            have h2 := HKW.out.k.size
                            have h3 := HKE.out.size
                            have h5 := HE.out
                            have h6 := HKI.out.size
                            have h7 := HKIM.out.size
                            have h8 := HKN.out.size
                            have h9 := HN.out
                            omega
                          have HSZ := Lib.hid hSz
                          clear hSz
                          cases coop
                          · go_wp2_with (first
                              | (refine wl_next rfl _ rfl (N + 1) Cb mA dz rfl HI21.out (fun _ => ?_) (fun i p w2 hp hi hI2 hK2 hs2 => absurd hI2.left (by rw [List.length_append]; simp only [List.length_cons, List.length_nil]; omega))))
                            refine bodyPost_ret (results_tmp2 rfl _ _ _) rfl ?_
                            exact ⟨N, S, _, rfl, ⟨ks, I, M, HP21.out⟩, HSZ.out, HGOOD.out, HKW.out.trans0 HKST.out⟩
                          · go_wp2_with (first
                              | (refine wl_next rfl _ rfl (N + 1) Cb mA dz rfl HI21.out (fun _ => ?_) (fun i p w2 hp hi hI2 hK2 hs2 => absurd hI2.left (by rw [List.length_append]; simp only [List.length_cons, List.length_nil]; omega)))
                              | ((with_reducible refine (HADJ.out _ (Kept.refl _ _)).mono ?_); rintro e wZ ⟨rfl, hk⟩; have HKZ := Lib.hid hk; clear hk))
                            refine bodyPost_ret (results_tmp2 rfl _ _ _) rfl ?_
                            exact ⟨N, S, _, rfl, ⟨ks, I, M, HP21.out.kept HKZ.out (fun _ _ => by simp)⟩, HSZ.out, HGOOD.out, HKW.out.trans0 (HKST.out.trans0 HKZ.out)⟩
end Go.Proofs.YtghgffhcdnmpnaaGreat
