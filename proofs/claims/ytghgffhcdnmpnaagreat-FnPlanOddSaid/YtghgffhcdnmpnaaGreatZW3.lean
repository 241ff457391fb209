/-
  The sort by round robin where the table of powers is unknown: some order. Conditions: a row of pairs; numbers from 0 on, below 2^31.
-/
import Derived.Test.YtghgffhcdnmpnaaGreatZW1
import Derived.Test.YtghgffhcdnmpnaaGreatZL1
import Derived.Test.YtghgffhcdnmpnaaGreatZK1
import Derived.Test.YtghgffhcdnmpnaaGreatZL3
namespace Go.Proofs.YtghgffhcdnmpnaaGreat
open Go.RowKit Go.Sort
def cvW (b o k : Nat) (t : ByteArray) (ix : Nat) (v : Value) (_ : World) : Prop :=
  match ix with
  | 0 => v = .pointer (some ⟨b, o, none⟩)
  | 1 => v = .pointer (some ⟨b, o, none⟩)
  | 2 => v = .pointer (some ⟨b, o, none⟩)
  | 3 => v = .string t
  | 4 => v = .string (t ++ (⟨#[45]⟩ : ByteArray))
  | 5 => v = .pointer (some ⟨b, o, none⟩)
  | 6 => v = .pointer (some ⟨b, o, none⟩)
  | 7 => v = .pointer (some ⟨b, o + 1, none⟩)
  | 8 => v = .int .i32 k
  | 9 => v = .int .i64 k
  | 10 => ∃ s : ByteArray, v = .string s ∧ s.size ≤ 20
  | _ => True
theorem cvW_stable {b o k t} : ∀ ix v w w', cvW b o k t ix v w → Kept [] w w' → cvW b o k t ix v w' := by
  intro ix v w w' h k
  unfold cvW at h ⊢
  split at h <;> (first | (exact h))
set_option maxRecDepth 100000 in
set_option maxHeartbeats 800000 in
theorem cmpValue_weak (b o k : Nat) (t : ByteArray) (hk : k ≤ 2147483647) (ht : t.size ≤ 1000000) (w : World) (hT : Tab20 w) (h0 : w.cell? ⟨b, o, none⟩ = some (.string t)) (h1 : w.cell? ⟨b, o + 1, none⟩ = some (.int .i32 k)) :
    Calls Tryz.prog 174 #[.pointer (some ⟨b, o, none⟩)] w fun e w' => ∃ s : ByteArray, e = .returned (.string s) ∧ Kept [] w w' := by
  have HI := Lib.hid (fun W (hW : Kept [] w W) => itoa_weak k hk W (hT.kept0 hW))
  go_enter Tryz.func174, Tryz.ntmps174
  go_wp2
  have H0 := Lib.hid h0
  have H1 := Lib.hid h1
  clear h0 h1
  refine wp_region_facts' 11 (Kept []) (cvW b o k t) mixed (by kernel_rfl) ((Kept.refl _ _).drew) (fun _ _ _ h k => h.trans0 k) cvW_stable ?_ ?_
  · refine ⟨?_, ?_, ?_, ?_, ?_, ?_, ?_, ?_, ?_, ?_, ?_, trivial⟩
    all_goals go_light
    all_goals intro a W hR hs hd
    all_goals have p0 : a.tmps[0]? = some (.pointer (some ⟨b, o, none⟩)) := hs.2.2 0 (by decide)
    all_goals have hRr : Kept [] W W := Kept.refl [] W
    all_goals have hc0 : W.cell? ⟨b, o, none⟩ = some (.string t) := hR.cell H0.out (by simp)
    all_goals have hc1 : W.cell? ⟨b, o + 1, none⟩ = some (.int .i32 k) := hR.cell H1.out (by simp)
    all_goals have hw : IntKind.i64.wrap (k : Int) = (k : Int) := by rw [IntWalk.i64_left, IntWalk.wrap64_in _ (by omega)]
    · refine ow_value (w' := W) (v := .pointer (some ⟨b, o, none⟩)) ?_ (.mk hRr rfl rfl)
      simp [go_sem, p0]
    · have q0 : _ = _ := hd.1 rfl
      refine ow_value (w' := W) (v := .pointer (some ⟨b, o, none⟩)) ?_ (.mk hRr rfl rfl)
      simp [go_sem, q0]
    · have q1 : _ = _ := hd.1 rfl
      refine ow_value (w' := W) (v := .pointer (some ⟨b, o, none⟩)) ?_ (.mk hRr rfl rfl)
      simp [go_sem, q1]
    · have q2 : _ = _ := hd.1 rfl
      refine ow_value (w' := W) (v := .string t) ?_ (.mk hRr rfl rfl)
      simp [go_sem, q2, hc0]
    · have q3 : _ = _ := hd.1 rfl
      refine ow_value (w' := W) (v := .string (t ++ (⟨#[45]⟩ : ByteArray))) ?_ (.mk hRr rfl rfl)
      simp [go_sem, q3, show t.size ≤ 9223372036854775806 by omega]
    · refine ow_value (w' := W) (v := .pointer (some ⟨b, o, none⟩)) ?_ (.mk hRr rfl rfl)
      simp [go_sem, p0]
    · have q5 : _ = _ := hd.1 rfl
      refine ow_value (w' := W) (v := .pointer (some ⟨b, o, none⟩)) ?_ (.mk hRr rfl rfl)
      simp [go_sem, q5]
    · have q6 : _ = _ := hd.1 rfl
      refine ow_value (w' := W) (v := .pointer (some ⟨b, o + 1, none⟩)) ?_ (.mk hRr rfl rfl)
      simp [go_sem, q6]
    · have q7 : _ = _ := hd.1 rfl
      refine ow_value (w' := W) (v := .int .i32 k) ?_ (.mk hRr rfl rfl)
      simp [go_sem, q7, hc1]
    · have q8 : _ = _ := hd.1 rfl
      refine ow_value (w' := W) (v := .int .i64 k) ?_ (.mk hRr rfl rfl)
      simp [go_sem, q8, hw]
    · have q9 : _ = _ := hd.1 rfl
      refine ow_call (w' := W) (f := 178) (args := #[.int .i64 k]) (by simp [go_sem, q9]) (HI.out W hR) ?_
      rintro e w' ⟨s, rfl, hs1, hk1⟩
      exact ⟨_, rfl, .mk hk1 ⟨s, rfl, hs1⟩ rfl⟩
  · intro f W hR hf
    obtain ⟨f0, f1, f2, f3, f4, f5, f6, f7, f8, f9, f10, -⟩ := hf
    change f 3 = _ at f0
    change f 4 = _ at f1
    change f 5 = _ at f2
    change f 6 = _ at f3
    change f 7 = _ at f4
    change f 8 = _ at f5
    change f 9 = _ at f6
    change f 10 = _ at f7
    change f 11 = _ at f8
    change f 12 = _ at f9
    change ∃ s : ByteArray, f 13 = .string s ∧ s.size ≤ 20 at f10
    obtain ⟨s, f10, hs20⟩ := f10
    simp only [headDsts, List.take_succ_cons, List.take_zero, List.filterMap_cons, List.filterMap_nil, setAll, f0, f1, f2, f3, f4, f5, f6, f7, f8, f9, f10, List.setIfInBounds_toArray, List.set_cons_succ, List.set_cons_zero, List.drop_succ_cons, List.drop_zero]
    clear f0 f1 f2 f3 f4 f5 f6 f7 f8 f9 f10 f
    have HR := Lib.hid hR
    clear hR
    go_wp2
    go_ret
    exact ⟨_, rfl, HR.out⟩
def TpOkW (p : ByteArray × Int) : Prop := ∃ k : Nat, k ≤ 2147483647 ∧ p.2 = k ∧ p.1.size ≤ 1000000
set_option maxRecDepth 100000 in
set_option maxHeartbeats 1600000 in
theorem less173_weak (g n c b i j : Nat) (l : List (ByteArray × Int)) (x y : ByteArray × Int) (w : World) (hb : w.cell? ⟨b, 0, none⟩ = some (.slice (some ⟨g, 0, none⟩) n c)) (h : w.ownsRow 0 237 2 (.slice (some ⟨g, 0, none⟩) n c) n (l.flatMap tpCells)) (hx : l[i]? = some x) (hy : l[j]? = some y) (hok : ∀ p ∈ l, TpOkW p) (hT : Tab20 w) :
    Calls Tryz.prog 173 #[.int .i64 i, .int .i64 j, .pointer (some ⟨b, 0, none⟩)] w fun e w' => ∃ b : Bool, e = .returned (.bool b) ∧ Kept [] w w' := by
  have hln : l.length = n := by have := h.1; rw [flat_len tpCells 2 tp_len] at this; omega
  have hi : i < n := by rw [← hln]; exact (List.getElem?_eq_some_iff.1 hx).1
  have hj : j < n := by rw [← hln]; exact (List.getElem?_eq_some_iff.1 hy).1
  have hn : n ≤ 9223372036854775807 := by
    rcases h.2 with ⟨e0, _⟩ | ⟨g', cap, cur, e0, _, _, h1, h2, _⟩
    · cases e0
    · simp only [maxLen] at h2; omega
  obtain ⟨kx, hkx, ex, hsx⟩ := hok x (List.mem_of_getElem? hx)
  obtain ⟨ky, hky, ey, hsy⟩ := hok y (List.mem_of_getElem? hy)
  obtain ⟨tx, px⟩ := x
  obtain ⟨ty, py⟩ := y
  simp only at ex ey hsx hsy
  subst ex ey
  have HCX : Hid (∀ q v, [Value.string tx, .int .i32 kx][q]? = some v → w.cell? ⟨g, i * 2 + q, none⟩ = some v) := own_cellsG tp_len (by decide) h hx
  have HCY : Hid (∀ q v, [Value.string ty, .int .i32 ky][q]? = some v → w.cell? ⟨g, j * 2 + q, none⟩ = some v) := own_cellsG tp_len (by decide) h hy
  obtain ⟨z, hz⟩ : ∃ z, w.heap.size = z := ⟨_, rfl⟩
  have HZ := Lib.hid hz
  have HT := Lib.hid hT
  clear h hx hy hok hln hz hT
  have HX : Hid (∀ W : World, Kept [] ((w.alloc (.cells #[.string tx, .int .i32 kx] 237)).alloc (.cells #[.string ty, .int .i32 ky] 237)) W → Calls Tryz.prog 174 #[.pointer (some ⟨z, 0, none⟩)] W fun e w' => ∃ s : ByteArray, e = .returned (.string s) ∧ Kept [] W w') := by
    intro W hW
    have hk := ((Kept.refl [] (w.alloc (.cells #[.string tx, .int .i32 kx] 237))).alloc (.cells #[.string ty, .int .i32 ky] 237)).trans0 hW
    exact cmpValue_weak z 0 kx tx hkx hsx W (HT.out.kept0 ((((Kept.refl [] w).alloc _).alloc _).trans0 hW)) (hk.cell (by rw [← HZ.out, cell_alloc_at]; rfl) (by simp)) (hk.cell (by rw [← HZ.out, cell_alloc_at]; rfl) (by simp))
  have HY : Hid (∀ W : World, Kept [] ((w.alloc (.cells #[.string tx, .int .i32 kx] 237)).alloc (.cells #[.string ty, .int .i32 ky] 237)) W → Calls Tryz.prog 174 #[.pointer (some ⟨z + 1, 0, none⟩)] W fun e w' => ∃ s : ByteArray, e = .returned (.string s) ∧ Kept [] W w') := by
    intro W hW
    have hz1 : (w.alloc (.cells #[.string tx, .int .i32 kx] 237)).heap.size = z + 1 := by rw [← HZ.out]; simp
    exact cmpValue_weak (z + 1) 0 ky ty hky hsy W (HT.out.kept0 ((((Kept.refl [] w).alloc _).alloc _).trans0 hW)) (hW.cell (by rw [← hz1, cell_alloc_at]; rfl) (by simp)) (hW.cell (by rw [← hz1, cell_alloc_at]; rfl) (by simp))
  have hb2 := ((Kept.refl [] w).alloc (.cells #[.string tx, .int .i32 kx] 237)).cell hb (by simp)
  go_enter Tryz.func173, Tryz.ntmps173
  go_wp2_with (first
    | (refine wl_load_struct rfl 237 _ rfl Tryz.underlying237 rfl rfl g (i * 2) rfl [.string tx, .int .i32 kx] rfl HCX.out ?_)
    | (refine wl_load_struct rfl 237 _ rfl Tryz.underlying237 rfl rfl g (j * 2) rfl [.string ty, .int .i32 ky] rfl (fun q v hv => ((Kept.refl [] w).alloc _).cell (HCY.out q v hv) (by simp)) ?_)
    | (rw [HZ.out]; (with_reducible refine (HX.out _ (Kept.refl [] _)).mono ?_); rintro e w3 ⟨s3, rfl, hk3⟩; have HK3 := Lib.hid hk3; clear hk3)
    | ((with_reducible refine (HY.out _ HK3.out).mono ?_); rintro e w4 ⟨s4, rfl, hk4⟩; have HK4 := Lib.hid hk4; clear hk4))
  go_wp2
  go_ret
  exact ⟨_, rfl, ((((Kept.refl [] w).alloc _).alloc _).trans0 HK3.out).trans0 HK4.out⟩
set_option maxRecDepth 100000 in
theorem sortTpW (g n c b : Nat) (l : List (ByteArray × Int)) (w : World) (hb : w.cell? ⟨b, 0, none⟩ = some (.slice (some ⟨g, 0, none⟩) n c)) (hbg : b ≠ g) (h : w.ownsRow 0 237 2 (.slice (some ⟨g, 0, none⟩) n c) n (l.flatMap tpCells)) (hok : ∀ p ∈ l, TpOkW p) (hn : n ≤ 1000000) (hT : Tab20 w) (hg2 : g ≠ 2) :
    Calls Tryz.prog 171 #[.int .i64 n, .func (.func 172) #[] #[.pointer (some ⟨b, 0, none⟩)], .func (.func 173) #[] #[.pointer (some ⟨b, 0, none⟩)]] w fun e w' => e = .returned (.tuple #[]) ∧ ∃ l' : List (ByteArray × Int), l'.Perm l ∧ w'.ownsRow 0 237 2 (.slice (some ⟨g, 0, none⟩) n c) n (l'.flatMap tpCells) ∧ Kept [g] w w' := by
  have hln : l.length = n := by have := h.1; rw [flat_len tpCells 2 tp_len] at this; omega
  refine (zzSort_perm 172 173 #[.pointer (some ⟨b, 0, none⟩)] #[.pointer (some ⟨b, 0, none⟩)] (SRow tpCells 237 g n c TpOkW w) (fun _ _ => rfl) (fun _ _ => rfl) ?_ ?_ l n hln w ⟨hok, h, Kept.refl _ _⟩ hn).mono ?_
  · rintro l1 W i j x y ⟨h1, h2, h3⟩ hx hy
    refine (less173_weak g n c b i j l1 x y W (h3.cell hb (by simpa using hbg)) h2 hx hy h1 (hT.kept h3 (by simpa using fun h => hg2 h.symm))).mono ?_
    rintro e w' ⟨bb, he, hk⟩
    exact ⟨bb, he, h1, own_kept0 h2 hk, h3.trans0 hk⟩
  · rintro l1 W i j x y ⟨h1, h2, h3⟩ hx hy _
    refine (swap172_any g n c b i j l1 x y W (h3.cell hb (by simpa using hbg)) hbg h2 hx hy hn).mono ?_
    rintro e w' ⟨he, hr, hk⟩
    exact ⟨he, fun p hp => h1 p (mem_swap hx hy p hp), hr, h3.trans hk (fun x hx => .inl hx)⟩
  · rintro e w' ⟨he, l', hp, h1, h2, h3⟩
    exact ⟨he, l', hp, h2, h3⟩
end Go.Proofs.YtghgffhcdnmpnaaGreat
/-
  Round robin's Plan (169) where the table of powers is unknown. Conditions: what a plan is told; numbers from 0 on, below 2^31.
-/
namespace Go.Proofs.YtghgffhcdnmpnaaGreat
open Go.RowKit Go.Sort
/-- What round robin gives, in whatever order it takes the partitions. -/
def GoodRW (l : List (ByteArray × List ByteArray)) (tm : List (ByteArray × List Int)) (F : ByteArray → ByteArray → List Int) : Prop :=
  ∃ (Lm : List (ByteArray × List ByteArray)) (l1 : List (ByteArray × Int)), Lm.Perm l ∧ l1.Perm (pairsOf tm) ∧ F = gives (roundSeq Lm l1 0)
structure PreRW (l : List (ByteArray × List ByteArray)) (tm : List (ByteArray × List Int)) : Prop where
  one : 1 ≤ tm.length
  tops : ∀ x ∈ tm, x.1.size ≤ 1000000 ∧ 1 ≤ x.2.length ∧ x.2.length ≤ 10000 ∧ ∀ p ∈ x.2, ∃ k : Nat, k ≤ 2147483647 ∧ p = k
set_option maxRecDepth 100000 in
set_option maxHeartbeats 6400000 in
theorem planRound_weak (bs mb tb : Nat) (X : Nat → Prop) (l : List (ByteArray × List ByteArray)) (tm : List (ByteArray × List Int)) (w : World)
    (hM : MmAt w X mb l) (hT : TmAt w X tb tm) (hX : ∀ x, X x → x < w.heap.size) (ht : Told l tm) (hpre : PreRW l tm) (hTab : Tab20 w) :
    Calls Tryz.prog 169 #[.pointer (some ⟨bs, 0, none⟩), .map (some mb), .map (some tb)] w fun e w' => ∃ pb S F, e = .returned (.tuple #[.map (some pb), .nilIface]) ∧ PlanIs w' S pb F ∧ (∀ x ∈ S, w.heap.size ≤ x) ∧ GoodRW l tm F ∧ Kept [] w w' := by
  obtain ⟨hXb, m, hM1, rfl, hmv⟩ := hM
  obtain ⟨hXt, mt, hT1, rfl, htv⟩ := hT
  have hmblt : mb < w.heap.size := hM1.lt
  have htblt : tb < w.heap.size := hT1.lt
  have HM := Lib.hid hM1
  have HMV := Lib.hid hmv
  have HTM := Lib.hid hT1
  have HTV := Lib.hid htv
  have HX := Lib.hid hX
  have HTOLD := Lib.hid ht
  have HPRE := Lib.hid hpre
  have HTAB := Lib.hid hTab
  have h2w : 2 < w.heap.size := by obtain ⟨_, h⟩ := hTab 0 (by decide); exact World.block_lt_of_cell? w _ h
  clear hTab
  have hmm := @run_makeMap Tryz.prog
  have hmm2 : ∀ (n : Int) (w : World), (Instr.makeMap 83 (some (.int .i64 n))).run Tryz.prog w = .ok (.map (some w.heap.size)) (w.alloc (.map #[] 0)) := fun n w => by
    simp [Instr.makeMap, asInt, asIntOf]
  have hmf : ∀ (fn : Fn) (first cap : Array Value) (w : World), (Instr.makeFunc fn first cap).run Tryz.prog w = .ok (.func fn first cap) w := fun _ _ _ _ => rfl
  have hm0 : (((m.map fun e => (e.1, e.2.1)).length : Int) == 0) = false := by
    have := ht.one
    rw [List.length_map] at this ⊢
    simp only [beq_eq_false_iff_ne]
    omega
  have ht0 : (((mt.map fun e => (e.1, e.2.1)).length : Int) == 0) = false := by
    have := hpre.one
    rw [List.length_map] at this ⊢
    simp only [beq_eq_false_iff_ne]
    omega
  clear hM1 hmv hT1 htv hX ht hpre
  obtain ⟨m1, hm1⟩ : ∃ m1, m.map (fun e => (e.1, e.2.1)) = m1 := ⟨_, rfl⟩
  obtain ⟨t1, ht1⟩ : ∃ t1, mt.map (fun e => (e.1, e.2.1)) = t1 := ⟨_, rfl⟩
  rw [hm1] at HM hm0
  rw [ht1] at HTM ht0
  have HM1 := Lib.hid hm1
  have HT1 := Lib.hid ht1
  obtain ⟨tl, htl⟩ : ∃ tl, mt.map (fun e => (e.1, e.2.2)) = tl := ⟨_, rfl⟩
  have htll : tl.length = t1.length := by rw [← htl, ← ht1]; simp
  have HTL := Lib.hid htl
  obtain ⟨z, hz⟩ : ∃ z, w.heap.size = z := ⟨_, rfl⟩
  have HZ := Lib.hid hz
  rw [hz] at hmblt htblt
  clear hm1 ht1 htl hz
  go_enter Tryz.func169, Tryz.ntmps169
  go_wp2_with (first
    | (refine wl_len_map rfl _ 75 9 79 rfl Tryz.underlying75 mb m1 rfl HM.out ?_)
    | (refine wl_len_map_w rfl _ 89 9 49 rfl Tryz.underlying89 tb t1 rfl HTM.out ?_)
    | (refine wl_range rfl _ 89 rfl 9 49 Tryz.underlying89 tb t1 rfl (HTM.out.alloc _) ?_; intro w1 hI hk1 hs1; have HI := Lib.hid hI; have HK1 := Lib.hid hk1; have HS1 := Lib.hid hs1; clear hI hk1 hs1))
  simp only [Act.put, List.setIfInBounds_toArray, List.set_cons_succ, List.set_cons_zero]
  have hsA : (w.alloc (Obj.cells #[Value.slice none 0 0] 235)).heap.size = z + 1 := by rw [← HZ.out]; simp
  have hI' : IterIs Value.string w1 (z + 1) tb t1 [] := hsA ▸ HI.out
  have HI0 := Lib.hid hI'
  have hs1 : w1.heap.size = z + 2 := by rw [HS1.out, hsA]
  have HSZ1 := Lib.hid hs1
  have hzc : w1.heap[z]? = some (.cells #[Value.slice none 0 0] 235 (0, 0)) := HK1.out.heap (by rw [← HZ.out, heap_alloc_new]) (by simp)
  have HZC := Lib.hid hzc
  have HKW1 : Hid (Kept [] w w1) := ((Kept.refl [] w).alloc _).trans0 HK1.out
  rw [HZ.out, hsA]
  clear HI HK1 HS1 hsA hI' hs1 hzc
  go_loopg [9] t1.length (fun k _ wr => ∃ (done : List Nat) (v : Value), k = t1.length - done.length ∧ IterIs Value.string wr (z + 1) tb t1 done ∧ wr.heap[z]? = some (.cells #[v] 235 (0, 0)) ∧ wr.ownsRow (z + 2) 237 2 v (pairsOf (walked tl done)).length ((pairsOf (walked tl done)).flatMap tpCells) ∧ Kept [] w wr)
  case atStart => exact ⟨[], _, rfl, HI0.out, HZC.out, World.ownsRow_nil _ _ _ _, HKW1.out⟩
  case round =>
    obtain ⟨done, v, hk, hI, hzc, hrow, hkr⟩ := hrel
    have HI1 := Lib.hid hI
    have HZC1 := Lib.hid hzc
    have HROW := Lib.hid hrow
    have HKR := Lib.hid hkr
    have hdl := hI.left
    clear hI hzc hrow hkr
    by_cases hd : done.length < t1.length
    · go_wp2_with (first
        | (refine wl_next rfl _ rfl (z + 1) tb t1 done rfl HI1.out (fun e => absurd e (by omega)) ?_; intro i p w2 hp hi hI2 hK2 hs2; have HI2 := Lib.hid hI2; have HK2 := Lib.hid hK2; have HP := Lib.hid hp; clear hI2 hK2 hp hi; obtain ⟨t, ps, A, n, c, rfl, hn, hsl, hpt⟩ := topic_at (fun e he => (HTV.out e he)) (HT1.out.symm ▸ HP.out); rw [HTL.out] at hpt; have HSL := Lib.hid hsl; have HPT := Lib.hid hpt; have HN := Lib.hid hn; clear hsl hpt hn)
        | (refine wl_entry rfl _ rfl (z + 1) tb t1 done i _ rfl HI2.out HP.out ?_))
      have hpt := HPRE.out.tops (t, ps) (by rw [HTL.out]; exact List.mem_of_getElem? HPT.out)
      have hn4 : n ≤ 10000 := by rw [HN.out]; exact hpt.2.2.1
      obtain ⟨P0, hP0⟩ : ∃ P, pairsOf (walked tl done) = P := ⟨_, rfl⟩
      have hP0l : P0.length ≤ 120000 := by
        rw [← hP0]
        have h1 := pairsOf_len (L := walked tl done) (fun x hx => by
          obtain ⟨i, _, hi⟩ := List.mem_filterMap.1 hx
          exact (HPRE.out.tops x (by rw [HTL.out]; exact List.mem_of_getElem? hi)).2.2.1)
        have h2 : (walked tl done).length ≤ done.length := List.length_filterMap_le _ _
        have h3 := HTOLD.out.twelve
        rw [HTL.out] at h3
        omega
      rw [hP0] at HROW
      have HP0 := Lib.hid hP0
      have hrow2 : w2.ownsRow (z + 2) 237 2 v P0.length (P0.flatMap tpCells) := HK2.out.own HROW.out (fun b hb hm => by have h1 := own_ge HROW.out b hb; have h2 := List.mem_singleton.1 hm; omega)
      have HROW2 := Lib.hid hrow2
      have hzc2 : w2.heap[z]? = some (.cells #[v] 235 (0, 0)) := HK2.out.heap HZC1.out (by simp)
      have HZC2 := Lib.hid hzc2
      have HSZ2 : Hid (z + 2 ≤ wr.heap.size) := by have h := HI1.out.lt; exact h
      have HKW2 : Hid (Kept [] w w2) := HKR.out.trans HK2.out (fun x hx => .inr (by have h1 := List.mem_singleton.1 hx; have h2 := HZ.out; omega))
      clear hP0 hrow2 hzc2 hpt
      go_loopg [43] n (fun k x wv => ∃ (j : Nat) (v2 : Value), k = n - j ∧ j ≤ n ∧ x = .int .i64 j ∧ IterIs Value.string wv (z + 1) tb t1 (done ++ [i]) ∧ wv.heap[z]? = some (.cells #[v2] 235 (0, 0)) ∧ wv.ownsRow (z + 2) 237 2 v2 (P0.length + j) ((P0 ++ (ps.take j).map fun p => (t, p)).flatMap tpCells) ∧ Kept [] w wv)
      case atStart => exact ⟨0, v, rfl, Nat.zero_le _, rfl, HI2.out, HZC2.out, by simpa using HROW2.out, HKW2.out⟩
      case round =>
        obtain ⟨j, v2, hk2, hj, rfl, hI3, hzc3, hrow3, hkr3⟩ := hrel
        have HI3 := Lib.hid hI3
        have HZC3 := Lib.hid hzc3
        have HROW3 := Lib.hid hrow3
        have HKR3 := Lib.hid hkr3
        clear hI3 hzc3 hrow3 hkr3
        by_cases hlt : j < n
        · have hlt' : (j : Int) < (n : Int) := by omega
          obtain ⟨u, hu⟩ : ∃ u, ps[j]? = some u := ⟨_, List.getElem?_eq_getElem (by have := HN.out; omega)⟩
          obtain ⟨bp, op, rfl, hcc⟩ := HSL.out.2.2 (by omega)
          have hcu : wr.cell? ⟨bp, op + j, none⟩ = some (.int .i32 u) := HKR3.out.cell (hcc j _ (ints_at' hu)) (by simp)
          have hcz : wr.cell? ⟨z, 0, none⟩ = some v2 := by simp [World.cell?, HZC3.out]
          have HU := Lib.hid hu
          have hsz3 : z + 2 ≤ wr.heap.size := by have h := HI3.out.lt; exact h
          clear hu hcc
          go_wp2_with (at_builtin; refine wl_append rfl _ _ 235 rfl (z + 2) 237 Tryz.underlying235 info237 rfl (by decide) v2 (P0.length + j) _ rfl (own_kept0 HROW3.out ((Kept.refl _ _).alloc _)) _ 1 1 [.string t, .int .i32 u] rfl (own_slis (own_new wr 237 2 1 #[.string t, .int .i32 u] 0 (Nat.zero_le _) (by omega) rfl rfl)) (by simp [Value.oneCell']) (by omega) (by omega) (by simp; omega) ?_; intro v4 w4 hown hk4 _; obtain ⟨A4, c4, rfl⟩ := own_form hown; have HO4 := Lib.hid hown; have HK4 : Hid (Kept v2.ownBlock.toList (wr.alloc (.cells #[.string t, .int .i32 u] 237)) w4) := hk4; have HZ4 : Hid (w4.heap[z]? = some (.cells #[v2] 235 (0, 0))) := HK4.out.heap (by rw [Below.heap_alloc _ _ _ (by omega)]; exact HZC3.out) (fun hm => by have := own_ge HROW3.out z (Option.mem_toList.1 hm); omega); have hcz4 : w4.cell? ⟨z, 0, none⟩ = some v2 := by { simp [World.cell?, HZ4.out] }; have hfz4 : w4.frozen? ⟨z, 0, none⟩ = false := by { simp [World.frozen?, HZ4.out] }; clear hown hk4)
          have hz5 := heap_setCell_same w4 z 0 _ 235 (Value.slice A4 (P0.length + j + 1) c4) HZ4.out
          have hK5 : Kept (z :: v2.ownBlock.toList) wr (w4.setCell ⟨z, 0, none⟩ (Value.slice A4 (P0.length + j + 1) c4)) := ((((Kept.refl [] wr).alloc _).mono (by simp)).trans HK4.out (fun x hx => .inl (by simp [hx]))).setCell (.inl (by simp)) _
          have HK5 := Lib.hid hK5
          have HZ5 := Lib.hid hz5
          have HO5 := Lib.hid (ownsRow_setCell_below HO4.out (a := ⟨z, 0, none⟩) (by simp) (Value.slice A4 (P0.length + j + 1) c4))
          have hv2 : ∀ x ∈ z :: v2.ownBlock.toList, x = z ∨ z + 2 ≤ x := fun x hx => by
            rcases List.mem_cons.1 hx with h | h
            · exact .inl h
            · exact .inr (own_ge HROW3.out x (Option.mem_toList.1 h))
          have HV2 := Lib.hid hv2
          clear hz5 hK5 hcz4 hfz4 hcz hcu hv2
          go_roundg (n - (j + 1))
          case measure => omega
          case rel =>
            refine ⟨j + 1, _, rfl, by omega, rfl, HI3.out.kept HK5.out (fun hm => by rcases HV2.out _ hm with h | h <;> omega) (fun hm => by rcases HV2.out _ hm with h | h <;> omega), by simpa using HZ5.out, ?_, HKR3.out.trans HK5.out (fun x hx => .inr (by have h1 := HZ.out; rcases HV2.out _ hx with h | h <;> omega))⟩
            have h1 := HO5.out
            rw [take_one HU.out, List.map_append, ← List.append_assoc, List.flatMap_append]
            simpa [tpCells, Nat.add_assoc] using h1
        · obtain rfl : j = n := by omega
          have hlt' : ¬ (j : Int) < (j : Int) := by omega
          go_wp2
          go_roundg (t1.length - (done ++ [i]).length)
          case measure =>
            rw [List.length_append]
            simp only [List.length_cons, List.length_nil]
            omega
          case rel =>
            have h1 := HROW3.out
            rw [List.take_of_length_le (by have := HN.out; omega)] at h1
            refine ⟨done ++ [i], v2, rfl, HI3.out, HZC3.out, ?_, HKR3.out⟩
            rw [walked_snoc HPT.out, pairsOf_snoc, HP0.out, List.length_append, List.length_map, ← HN.out]
            exact h1
    · have hde : done.length = t1.length := by omega
      have hidn := HI1.out.2.1
      have hidl := HI1.out.2.2.1
      have hperm : (walked tl done).Perm tl := walked_perm hidn (fun i hi => by have := hidl i hi; omega) (by omega)
      have HPERM : Hid ((pairsOf (walked tl done)).Perm (pairsOf tl)) := hperm.flatMap_right _
      obtain ⟨P0, hP0⟩ : ∃ P, pairsOf (walked tl done) = P := ⟨_, rfl⟩
      have hPl : P0.length ≤ 120000 ∧ 1 ≤ P0.length := by
        rw [← hP0, HPERM.out.length_eq]
        have h1 := pairsOf_len (L := tl) (fun x hx => (HPRE.out.tops x (by rw [HTL.out]; exact hx)).2.2.1)
        have h3 := HTOLD.out.twelve
        have h4 := HPRE.out.one
        rw [HTL.out] at h3 h4
        refine ⟨by omega, ?_⟩
        obtain ⟨x, hx⟩ : ∃ x, x ∈ tl := by
          cases tl with
          | nil => simp at h4
          | cons x r => exact ⟨x, .head _⟩
        have h5 := (HPRE.out.tops x (by rw [HTL.out]; exact hx)).2.1
        obtain ⟨p, hp⟩ : ∃ p, p ∈ x.2 := by
          cases hx2 : x.2 with
          | nil => rw [hx2] at h5; simp at h5
          | cons p r => exact ⟨p, .head _⟩
        have h6 : (x.1, p) ∈ pairsOf tl := List.mem_flatMap.2 ⟨x, hx, List.mem_map.2 ⟨p, hp, rfl⟩⟩
        exact List.length_pos_of_mem h6
      have HPOK : Hid (∀ p ∈ P0, TpOkW p) := by
        intro p hp
        rw [← hP0] at hp
        obtain ⟨x, hx, hp2⟩ := List.mem_flatMap.1 (HPERM.out.mem_iff.1 hp)
        obtain ⟨q, hq, rfl⟩ := List.mem_map.1 hp2
        have h1 := HPRE.out.tops x (by rw [HTL.out]; exact hx)
        obtain ⟨k, hk, hqk⟩ := h1.2.2.2 q hq
        exact ⟨k, hk, hqk, h1.1⟩
      rw [hP0] at HROW HPERM
      obtain ⟨n, hn⟩ : ∃ n, P0.length = n := ⟨_, rfl⟩
      rw [hn] at HROW hPl
      have HN := Lib.hid hn
      obtain ⟨A, c, rfl⟩ := own_form HROW.out
      obtain ⟨g, rfl⟩ := own_row HROW.out hPl.2
      have hgz : z + 2 ≤ g := own_ge HROW.out g rfl
      have hgl : g < wr.heap.size := own_lt HROW.out g rfl
      have hcz : wr.cell? ⟨z, 0, none⟩ = some (.slice (some ⟨g, 0, none⟩) n c) := by simp [World.cell?, HZC1.out]
      have HSORT := Lib.hid (sortTpW g n c z P0 wr hcz (by omega) (own_mono HROW.out (Nat.zero_le _)) HPOK.out (by omega) (HTAB.out.kept0 HKR.out) (by omega))
      have hHM := HM.out.kept HKR.out (by simp)
      have HM3 := Lib.hid hHM
      clear hidn hidl hperm hP0 hn hHM
      go_wp2_with (first
        | (refine wl_next rfl _ rfl (z + 1) tb t1 done rfl HI1.out (fun _ => ?_) (fun i p w2 hp hi hI2 hK2 hs2 => absurd hI2.left (by rw [List.length_append]; simp only [List.length_cons, List.length_nil]; omega)))
        | ((with_reducible refine HSORT.out.mono ?_); rintro e w2 ⟨rfl, l1, hl1, hrow2, hk2⟩; have HL1 := Lib.hid hl1; have HROW2 := Lib.hid hrow2; have HK2 := Lib.hid hk2; clear hl1 hrow2 hk2)
        | (refine wl_range rfl _ 75 rfl 9 79 Tryz.underlying75 mb m1 rfl ((HM3.out.kept HK2.out (fun hm => by have := List.mem_singleton.1 hm; omega)).alloc _) ?_; intro w3 hI hk3 hs3; have HI3 := Lib.hid hI; have HK3 := Lib.hid hk3; have HS3 := Lib.hid hs3; clear hI hk3 hs3))
      simp only [Act.put, List.setIfInBounds_toArray, List.set_cons_succ, List.set_cons_zero]
      obtain ⟨y, hy⟩ : ∃ y, w2.heap.size = y := ⟨_, rfl⟩
      have HY := Lib.hid hy
      have hsA : (w2.alloc (Obj.cells #[Value.slice none 0 0] 239)).heap.size = y + 1 := by rw [← HY.out]; simp
      have hI' : IterIs Value.string w3 (y + 1) mb m1 [] := hsA ▸ HI3.out
      have HI0 := Lib.hid hI'
      have hyc : w3.heap[y]? = some (.cells #[Value.slice none 0 0] 239 (0, 0)) := HK3.out.heap (by rw [← HY.out, heap_alloc_new]) (by simp)
      have HYC := Lib.hid hyc
      have HKY : Hid (Kept [] w2 w3) := ((Kept.refl [] w2).alloc _).trans0 HK3.out
      have hgy : g < y := by have := HK2.out.size; omega
      have hzy : z < y := by have := HK2.out.size; omega
      obtain ⟨ml, hml⟩ : ∃ ml, m.map (fun e => (e.1, e.2.2)) = ml := ⟨_, rfl⟩
      have hmll : ml.length = m1.length := by rw [← hml, ← HM1.out]; simp
      have HML := Lib.hid hml
      rw [HY.out, hsA]
      clear HI3 HK3 HS3 hsA hI' hy hyc hml
      go_loopg [14] m1.length (fun k _ wr => ∃ (dn : List Nat) (v : Value) (T : List (ByteArray × Nat × List ByteArray)), k = m1.length - dn.length ∧ IterIs Value.string wr (y + 1) mb m1 dn ∧ wr.heap[y]? = some (.cells #[v] 239 (0, 0)) ∧ Mts wr (y + 2) v T ∧ T.map (fun e => (e.1, e.2.2)) = walked ml dn ∧ Kept [] w2 wr)
      case atStart => exact ⟨[], _, [], rfl, HI0.out, HYC.out, ⟨World.ownsRow_nil _ _ _ _, by simp⟩, rfl, HKY.out⟩
      case round =>
        obtain ⟨dn, v, T, hk, hI, hyc, hmts, hT, hkr⟩ := hrel
        have HI1 := Lib.hid hI
        have HYC1 := Lib.hid hyc
        have HMTS := Lib.hid hmts
        have HT := Lib.hid hT
        have HKR1 := Lib.hid hkr
        have hdl := hI.left
        clear hI hyc hmts hT hkr
        by_cases hd : dn.length < m1.length
        · go_wp2_with (first
            | (refine wl_next rfl _ rfl (y + 1) mb m1 dn rfl HI1.out (fun e => absurd e (by omega)) ?_; intro i p w4 hp hi hI2 hK2 hs2; have HI2 := Lib.hid hI2; have HK4 := Lib.hid hK2; have HP := Lib.hid hp; clear hI2 hK2 hi; obtain ⟨id, tops, ver, A, nt, ct, gen, rp, rfl, hsl, hpt⟩ := member_at HMV.out (HM1.out.symm ▸ hp); rw [HML.out] at hpt; have HSL := Lib.hid hsl; have HPT := Lib.hid hpt; clear hsl hpt hp)
            | (refine wl_entry rfl _ rfl (y + 1) mb m1 dn i _ rfl HI2.out HP.out ?_)
            | (refine wl_store_struct rfl 79 _ _ rfl rfl _ rfl rfl 79 _ (heap_alloc_new _ _) rfl (meta_ones ver A nt ct gen rp) ?_))
          obtain ⟨q, hq⟩ : ∃ q, wr.heap.size = q := ⟨_, rfl⟩
          have HQ := Lib.hid hq
          have hs4 : w4.heap.size = q := by rw [← hq]; exact hs2
          have hyq : y + 2 ≤ q := by have h := HI1.out.lt; omega
          have HTLT : Hid (∀ e ∈ T, e.2.1 < q) := fun e he => by have h := ((HMTS.out.sets e he).2).lt; have h2 := HQ.out; omega
          have hntl : nt = tops.length := by
            obtain ⟨A', n', c', e, h1, _⟩ := HSL.out
            injection e with e1 e2 e3
            subst e2
            have := h1.1
            simpa [strs] using this.symm
          subst hntl
          have hsA : (w4.alloc (Obj.cells #[Value.int IntKind.i16 ver, Value.slice A tops.length ct, Value.slice none 0 0, Value.slice none 0 0, Value.int IntKind.i32 gen, Value.pointer rp] 79)).heap.size = q + 1 := by rw [← hs4]; simp
          have hsB : ((w4.alloc (Obj.cells #[Value.int IntKind.i16 ver, Value.slice A tops.length ct, Value.slice none 0 0, Value.slice none 0 0, Value.int IntKind.i32 gen, Value.pointer rp] 79)).alloc (Obj.map #[] 0)).heap.size = q + 2 := by rw [← hs4]; simp
          rw [hq]
          obtain ⟨W5, hW5⟩ : ∃ W5, (((w4.alloc (Obj.cells #[Value.int IntKind.i16 ver, Value.slice A tops.length ct, Value.slice none 0 0, Value.slice none 0 0, Value.int IntKind.i32 gen, Value.pointer rp] 79)).alloc (Obj.map #[] 0)).alloc (Obj.cells #[Value.map (some (q + 1)), Value.string id] 242)) = W5 := ⟨_, rfl⟩
          rw [hW5]
          have hK45 : Kept [] w4 W5 := by rw [← hW5]; exact (((Kept.refl [] w4).alloc _).alloc _).alloc _
          have hT0 : TopsIn W5 (q + 1) (tops.take 0) := by
            rw [← hW5]
            have h := (MapIs.new Value.string (w4.alloc (Obj.cells #[Value.int IntKind.i16 ver, Value.slice A tops.length ct, Value.slice none 0 0, Value.slice none 0 0, Value.int IntKind.i32 gen, Value.pointer rp] 79)))
            rw [hsA] at h
            exact h.alloc _
          have hcq : ∀ a v, #[Value.map (some (q + 1)), Value.string id][a]? = some v → W5.cell? ⟨q + 2, a, none⟩ = some v := by
            intro a v hv
            rw [← hW5, ← hsB, cell_alloc_at]
            exact hv
          have hK1 : Kept [] w2 w4 := HKR1.out.trans HK4.out (fun x hx => .inr (by have h1 := List.mem_singleton.1 hx; have h2 := HY.out; omega))
          have HI5 : Hid (IterIs Value.string W5 (y + 1) mb m1 (dn ++ [i])) := HI2.out.kept hK45 (by simp) (by simp)
          have HYC5 : Hid (W5.heap[y]? = some (.cells #[v] 239 (0, 0))) := hK45.heap (HK4.out.heap HYC1.out (by simp)) (by simp)
          have HMTS5 : Hid (Mts W5 (y + 2) v T) := (HMTS.out.kept HK4.out (fun b hb hm => by have h1 := List.mem_singleton.1 hm; have h2 := own_ge HMTS.out.row b hb; omega) (fun e he hm => by have h1 := List.mem_singleton.1 hm; have h2 := (HMTS.out.sets e he).1; omega)).kept0 hK45
          have HT0 := Lib.hid hT0
          have HCQ := Lib.hid hcq
          have HKW5 : Hid (Kept [] w2 W5) := hK1.trans0 hK45
          have HND : Hid tops.Nodup := (HTOLD.out.once (id, tops) (by rw [HML.out]; exact List.mem_of_getElem? HPT.out)).1
          have htl6 : tops.length ≤ 1000000 := (HTOLD.out.once (id, tops) (by rw [HML.out]; exact List.mem_of_getElem? HPT.out)).2
          clear hW5 hK45 hT0 hcq hK1 hsA hsB hs4 hs2 hq
          go_loopg [72] tops.length (fun k x wv => ∃ j : Nat, k = tops.length - j ∧ j ≤ tops.length ∧ x = .int .i64 j ∧ IterIs Value.string wv (y + 1) mb m1 (dn ++ [i]) ∧ wv.heap[y]? = some (.cells #[v] 239 (0, 0)) ∧ Mts wv (y + 2) v T ∧ TopsIn wv (q + 1) (tops.take j) ∧ wv.cell? ⟨q + 2, 0, none⟩ = some (.map (some (q + 1))) ∧ wv.cell? ⟨q + 2, 1, none⟩ = some (.string id) ∧ Kept [] w2 wv)
          case atStart => exact ⟨0, rfl, Nat.zero_le _, rfl, HI5.out, HYC5.out, HMTS5.out, HT0.out, HCQ.out 0 _ rfl, HCQ.out 1 _ rfl, HKW5.out⟩
          case round =>
            obtain ⟨j, hk6, hj, rfl, hI6, hyc6, hmts6, ht6, hc60, hc61, hkr6⟩ := hrel
            have HI6 := Lib.hid hI6
            have HYC6 := Lib.hid hyc6
            have HMTS6 := Lib.hid hmts6
            have HT6 := Lib.hid ht6
            have HC60 := Lib.hid hc60
            have HC61 := Lib.hid hc61
            have HKR6 := Lib.hid hkr6
            clear hI6 hyc6 hmts6 ht6 hc61 hkr6
            by_cases hlt : j < tops.length
            · have hlt' : (j : Int) < (tops.length : Int) := by omega
              obtain ⟨t, ht⟩ : ∃ t, tops[j]? = some t := ⟨_, List.getElem?_eq_getElem hlt⟩
              obtain ⟨b0, off0, rfl, hct⟩ : ∃ b0 off0, A = some ⟨b0, off0, none⟩ ∧ wr.cell? ⟨b0, off0 + j, none⟩ = some (.string t) := by
                obtain ⟨A', n', c', e, h1, h2, _⟩ := HSL.out
                injection e with e1 e2 e3
                subst e1; subst e2; subst e3
                obtain ⟨b0, off0, hA, hcc⟩ := h1.2.2 (by omega)
                exact ⟨b0, off0, hA, ((HKR.out.trans HK2.out (fun x hx => .inr (by have h1 := List.mem_singleton.1 hx; have h2 := HZ.out; omega))).trans0 HKR6.out).cell (hcc j _ (by simp [strs, ht])) (by simp)⟩
              have hnt : t ∉ tops.take j := by
                have := keys_take (fun y : ByteArray => y) (l := tops) (by simpa using HND.out) j t ht
                simpa using this
              have hmg : mget ((tops.take j).map fun t => (t, Value.agg #[])) t = none := mget_none_iff.2 (fun hm => hnt (by rw [List.map_map] at hm; simpa [Function.comp_def] using hm))
              have HTJ := Lib.hid ht
              have HMG := Lib.hid hmg
              clear ht hnt hmg
              go_wp2_with (refine wl_update rfl _ _ _ 240 rfl 123 Tryz.underlying240 str9 (q + 1) _ rfl HT6.out t rfl (.agg #[]) rfl ?_; intro w6 hM6 hk6 hs6; have HM6 := Lib.hid hM6; have HK6 := Lib.hid hk6; clear hM6 hk6 hs6)
              go_roundg (tops.length - (j + 1))
              case measure => omega
              case rel =>
                have hm6 := HM6.out
                rw [mset_new _ HMG.out] at hm6
                refine ⟨j + 1, rfl, by omega, rfl, HI6.out.kept HK6.out (fun hm => by have := List.mem_singleton.1 hm; omega) (fun hm => by have := List.mem_singleton.1 hm; omega), HK6.out.heap HYC6.out (fun hm => by have := List.mem_singleton.1 hm; omega), ?_, ?_, HK6.out.cell HC60.out (fun hm => by have h := List.mem_singleton.1 hm; simp at h), HK6.out.cell HC61.out (fun hm => by have h := List.mem_singleton.1 hm; simp at h), HKR6.out.trans HK6.out (fun x hx => .inr (by have h1 := List.mem_singleton.1 hx; have h2 := HY.out; omega))⟩
                · exact HMTS6.out.kept HK6.out (fun b hb hm => own_map_ne HMTS6.out.row HT6.out b hb (List.mem_singleton.1 hm)) (fun e he hm => by have h1 := List.mem_singleton.1 hm; have h2 := HTLT.out e he; omega)
                · unfold TopsIn
                  rw [take_one HTJ.out, List.map_append]
                  exact hm6
            · obtain rfl : j = tops.length := by omega
              have hlt' : ¬ (tops.length : Int) < (tops.length : Int) := by omega
              have hT6 := HT6.out
              rw [List.take_length] at hT6
              have HT7 := Lib.hid hT6
              have hcy : wr.cell? ⟨y, 0, none⟩ = some v := by simp [World.cell?, HYC6.out]
              have HCC : Hid (∀ a u, [Value.map (some (q + 1)), Value.string id][a]? = some u → wr.cell? ⟨q + 2, 0 + a, none⟩ = some u) := fun a u hu => by
                match a, hu with
                | 0, hu => cases hu; exact HC60.out
                | 1, hu => cases hu; exact HC61.out
              have hTl : T.length ≤ 7 := by
                have h1 : T.length = (walked ml dn).length := by rw [← HT.out, List.length_map]
                have h2 : (walked ml dn).length ≤ dn.length := List.length_filterMap_le _ _
                have h3 := HTOLD.out.seven
                rw [HML.out] at h3
                omega
              have hyw : y + 2 ≤ wr.heap.size := by have h := HI6.out.lt; omega
              have hqw : q + 2 < wr.heap.size := World.block_lt_of_cell? wr _ HC60.out
              clear hT6 HT6 hc60
              go_wp2_with (first
                | (refine wl_load_struct rfl 242 _ rfl Tryz.underlying242 rfl rfl (q + 2) 0 rfl [.map (some (q + 1)), .string id] rfl HCC.out ?_)
                | (at_builtin; refine wl_append rfl _ _ 239 rfl (y + 2) 242 Tryz.underlying239 info242 rfl (by decide) v T.length _ rfl (own_kept0 HMTS6.out.row ((Kept.refl _ _).alloc _)) _ 1 1 [.map (some (q + 1)), .string id] rfl (own_slis (own_new wr 242 2 1 #[.map (some (q + 1)), .string id] 0 (Nat.zero_le _) (by omega) rfl rfl)) (by simp [Value.oneCell']) (by omega) (by omega) (by simp; omega) ?_; intro v7 w7 hown hk7 _; obtain ⟨A7, c7, rfl⟩ := own_form hown; have HO7 := Lib.hid hown; have HK7 : Hid (Kept v.ownBlock.toList (wr.alloc (.cells #[.map (some (q + 1)), .string id] 242)) w7) := hk7; have HY7 : Hid (w7.heap[y]? = some (.cells #[v] 239 (0, 0))) := HK7.out.heap (by rw [Below.heap_alloc _ _ _ (by omega)]; exact HYC6.out) (fun hm => by have := own_ge HMTS6.out.row y (Option.mem_toList.1 hm); omega); have hcy7 : w7.cell? ⟨y, 0, none⟩ = some v := by { simp [World.cell?, HY7.out] }; have hfy7 : w7.frozen? ⟨y, 0, none⟩ = false := by { simp [World.frozen?, HY7.out] }; clear hown hk7))
              have hy8 := heap_setCell_same w7 y 0 _ 239 (Value.slice A7 (T.length + 1) c7) HY7.out
              have HY8 := Lib.hid hy8
              have HK8 : Hid (Kept (y :: v.ownBlock.toList) wr (w7.setCell ⟨y, 0, none⟩ (Value.slice A7 (T.length + 1) c7))) := ((((Kept.refl [] wr).alloc _).mono (by simp)).trans HK7.out (fun x hx => .inl (by simp [hx]))).setCell (.inl (by simp)) _
              have HO8 := Lib.hid (ownsRow_setCell_below HO7.out (a := ⟨y, 0, none⟩) (by simp) (Value.slice A7 (T.length + 1) c7))
              have HVB : Hid (∀ x ∈ y :: v.ownBlock.toList, x = y ∨ y + 2 ≤ x) := fun x hx => by
                rcases List.mem_cons.1 hx with h | h
                · exact .inl h
                · exact .inr (own_ge HMTS6.out.row x (Option.mem_toList.1 h))
              have HNM : Hid (∀ I tops, y + 2 ≤ I → TopsIn wr I tops → I ∉ y :: v.ownBlock.toList) := fun I tops hI hTI hm => by
                rcases List.mem_cons.1 hm with h | h
                · omega
                · exact own_map_ne HMTS6.out.row hTI I (Option.mem_toList.1 h) rfl
              clear hy8 hcy7 hfy7 hcy
              go_roundg (m1.length - (dn ++ [i]).length)
              case measure =>
                rw [List.length_append]
                simp only [List.length_cons, List.length_nil]
                omega
              case rel =>
                refine ⟨dn ++ [i], _, T ++ [(id, q + 1, tops)], rfl, HI6.out.kept HK8.out (fun hm => by rcases HVB.out _ hm with h | h <;> omega) (fun hm => by rcases HVB.out _ hm with h | h <;> omega), by simpa using HY8.out, ⟨?_, ?_⟩, ?_, HKR6.out.trans HK8.out (fun x hx => .inr (by have h1 := HY.out; rcases HVB.out _ hx with h | h <;> omega))⟩
                · have h1 := HO8.out
                  simpa [mtCells] using h1
                · intro e he
                  rcases List.mem_append.1 he with h | h
                  · exact ⟨(HMTS6.out.sets e h).1, (HMTS6.out.sets e h).2.kept HK8.out (HNM.out _ _ (HMTS6.out.sets e h).1 (HMTS6.out.sets e h).2)⟩
                  · rw [List.mem_singleton.1 h]
                    exact ⟨by show y + 2 ≤ q + 1; omega, MapIs.kept HT7.out HK8.out (HNM.out (q + 1) tops (by omega) HT7.out)⟩
                · rw [List.map_append, HT.out, walked_snoc HPT.out]
                  rfl
        · have hde2 : dn.length = m1.length := by omega
          have hidn := HI1.out.2.1
          have hidl := HI1.out.2.2.1
          have hpermm : (walked ml dn).Perm ml := walked_perm hidn (fun i hi => by have := hidl i hi; omega) (by omega)
          have HPERMM : Hid ((T.map fun e => (e.1, e.2.2)).Perm ml) := by rw [HT.out]; exact hpermm
          obtain ⟨n2, hn2⟩ : ∃ n2, T.length = n2 := ⟨_, rfl⟩
          have hn2l : n2 = ml.length := by rw [← hn2, ← HPERMM.out.length_eq, List.length_map]
          have hn27 : n2 ≤ 7 ∧ 1 ≤ n2 := by
            have h3 := HTOLD.out.seven
            have h4 := HTOLD.out.one
            rw [HML.out] at h3 h4
            omega
          have HN2L := Lib.hid hn2l
          clear hn2l
          obtain ⟨hrowm, hsets⟩ := HMTS.out
          rw [hn2] at hrowm
          have HSETS := Lib.hid hsets
          have HROWM := Lib.hid hrowm
          have HN2 := Lib.hid hn2
          obtain ⟨A2, c2, rfl⟩ := own_form HROWM.out
          obtain ⟨g2, rfl⟩ := own_row HROWM.out hn27.2
          have hg2y : y + 2 ≤ g2 := own_ge HROWM.out g2 rfl
          have hg2l : g2 < wr.heap.size := own_lt HROWM.out g2 rfl
          have hcy : wr.cell? ⟨y, 0, none⟩ = some (.slice (some ⟨g2, 0, none⟩) n2 c2) := by simp [World.cell?, HYC1.out]
          have HSORT2 := Lib.hid (sortMt g2 n2 c2 y _ wr hcy (by omega) (own_mono HROWM.out (Nat.zero_le _)) (by omega))
          have hcz2 : w2.cell? ⟨z, 0, none⟩ = some (.slice (some ⟨g, 0, none⟩) n c) := HK2.out.cell hcz (by simp; omega)
          have HCZ2 := Lib.hid hcz2
          clear hidn hidl hpermm hrowm hsets hn2 hcz hcz2
          go_wp2_with (first
            | (refine wl_next rfl _ rfl (y + 1) mb m1 dn rfl HI1.out (fun _ => ?_) (fun i p w2 hp hi hI2 hK2 hs2 => absurd hI2.left (by rw [List.length_append]; simp only [List.length_cons, List.length_nil]; omega)))
            | ((with_reducible refine HSORT2.out.mono ?_); rintro e w5 ⟨rfl, l2, hl1, hl2, hrow5, hk5⟩; have HM1S := Lib.hid hl1; have HM2S := Lib.hid hl2; have HROW5 := Lib.hid hrow5; have HK5 := Lib.hid hk5; have hcy5 : w5.cell? ⟨y, 0, none⟩ = some (.slice (some ⟨g2, 0, none⟩) n2 c2) := hk5.cell hcy (by simp; omega); have hcz5 : w5.cell? ⟨z, 0, none⟩ = some (.slice (some ⟨g, 0, none⟩) n c) := (HKR1.out.trans hk5 (fun x hx => .inr (by have h1 := List.mem_singleton.1 hx; have h2 := HY.out; omega))).cell HCZ2.out (by simp); have hw5 := hk5.size; have hcy6 := ((Kept.refl [] w5).alloc (Obj.map #[] 0)).cell hcy5 (by simp); have hcz6 := ((Kept.refl [] w5).alloc (Obj.map #[] 0)).cell hcz5 (by simp); clear hl1 hl2 hrow5 hk5))
          obtain ⟨T2, hT2p, hT2m⟩ := perm_back (fun e : ByteArray × Nat × List ByteArray => (e.1, e.2.1)) HM1S.out T rfl
          obtain ⟨Lm, hLm⟩ : ∃ Lm, T2.map (fun e => (e.1, e.2.2)) = Lm := ⟨_, rfl⟩
          have hLml : Lm.length = n2 := by rw [← hLm, List.length_map, hT2p.length_eq, HN2.out]
          have HLM := Lib.hid hLm
          have HLML := Lib.hid hLml
          have hl1n : l1.length = n := by rw [HL1.out.length_eq, HN.out]
          have HL1N := Lib.hid hl1n
          obtain ⟨pb, hpb⟩ : ∃ pb, w5.heap.size = pb := ⟨_, rfl⟩
          have HPB := Lib.hid hpb
          have hK25 : Kept [] w2 w5 := HKR1.out.trans HK5.out (fun x hx => .inr (by have h1 := List.mem_singleton.1 hx; have h2 := HY.out; omega))
          have HK25 := Lib.hid hK25
          have HF1 : Hid (∀ W, Kept [] w5 W → ∀ k x, l1[k]? = some x → ∀ a v, (tpCells x)[a]? = some v → W.cell? ⟨g, k * 2 + a, none⟩ = some v) := fun W hW k x hx a v hv => own_cellsG tp_len (by decide) (own_kept0 HROW2.out (HK25.out.trans0 hW)) hx a v hv
          have HF2 : Hid (∀ W, Kept [] w5 W → ∀ j e, T2[j]? = some e → (∀ a v, [Value.map (some e.2.1), .string e.1][a]? = some v → W.cell? ⟨g2, j * 2 + a, none⟩ = some v) ∧ TopsIn W e.2.1 e.2.2) := fun W hW j e he => by
            have hj : l2[j]? = some (e.1, e.2.1) := by rw [← hT2m, List.getElem?_map, he]; rfl
            have hmem : e ∈ T := hT2p.mem_iff.1 (List.mem_of_getElem? he)
            exact ⟨fun a v hv => own_cellsG mt_len (by decide) (own_kept0 HROW5.out hW) hj a v hv, ((HSETS.out e hmem).2.kept HK5.out (fun hm => own_map_ne HROWM.out (HSETS.out e hmem).2 g2 rfl (List.mem_singleton.1 hm).symm)).kept hW (by simp)⟩
          have HF3 : Hid (∀ W, Kept [] w5 W → W.cell? ⟨y, 0, none⟩ = some (.slice (some ⟨g2, 0, none⟩) n2 c2)) := fun W hW => hW.cell hcy5 (by simp)
          have HP0 : Hid (PlanIs (w5.alloc (Obj.map #[] 0)) [pb] pb (gives [])) := by
            have h := PlanIs.new (MapIs.new Value.string w5)
            rw [HPB.out] at h
            exact h
          have HKW : Hid (Kept [] w w5) := (HKR.out.trans HK2.out (fun x hx => .inr (by have h1 := List.mem_singleton.1 hx; have h2 := HZ.out; omega))).trans0 HK25.out
          rw [hpb]
          have HT2P := Lib.hid hT2p
          have HT2M := Lib.hid hT2m
          clear hLm hLml hl1n hpb hK25 hT2p hT2m hcy5 hcz5 hcy6 hcz6 hcy
          go_loopg [20, 97] n (fun gk iv kv wr => ∃ (k i : Nat) (S : List Nat) (s : List (ByteArray × ByteArray × Int)), gk = n - k ∧ k ≤ n ∧ kv = .int .i64 k ∧ iv = .int .i64 i ∧ i ≤ k * 8 ∧ PlanIs wr S pb (gives s) ∧ (∀ x ∈ S, pb ≤ x ∧ x < wr.heap.size) ∧ s ++ roundSeq Lm (l1.drop k) i = roundSeq Lm l1 0 ∧ s.length ≤ k ∧ Kept [] w5 wr)
          case atStart => exact ⟨0, 0, [pb], [], rfl, Nat.zero_le _, rfl, rfl, Nat.zero_le _, HP0.out, fun x hx => by rw [List.mem_singleton.1 hx]; have h := HPB.out; simp; omega, rfl, Nat.le_refl _, (Kept.refl [] w5).alloc _⟩
          case round =>
            obtain ⟨k, i, S, s, hgk, hk, rfl, rfl, hi8, hP, hS, hseq, hsl, hkr⟩ := hrel
            have HP1 := Lib.hid hP
            have HS1 := Lib.hid hS
            have HSEQ := Lib.hid hseq
            have HSLN := Lib.hid hsl
            have HKR8 := Lib.hid hkr
            clear hP hS hseq hsl hkr
            by_cases hlk : k < n
            · have hlk' : (k : Int) < (n : Int) := by omega
              obtain ⟨⟨t, p⟩, hx⟩ : ∃ x, l1[k]? = some x := ⟨_, List.getElem?_eq_getElem (by have := HL1N.out; omega)⟩
              have HX1 := Lib.hid hx
              have HCX : Hid (∀ a v, [Value.string t, .int .i32 p][a]? = some v → wr.cell? ⟨g, k * 2 + a, none⟩ = some v) := HF1.out wr HKR8.out k _ hx
              obtain ⟨r, hr⟩ : ∃ r, i % n2 = r := ⟨_, rfl⟩
              have hrl : r < n2 := by rw [← hr]; exact Nat.mod_lt _ (by omega)
              have hrem : Int.tmod (i : Int) (n2 : Int) = (r : Int) := by rw [← hr]; rfl
              have hn0 : ¬ ((n2 : Int) = 0) := by omega
              obtain ⟨⟨id, I, tops⟩, he⟩ : ∃ e, T2[r]? = some e := ⟨_, List.getElem?_eq_getElem (by have h1 := HLML.out; rw [← HLM.out, List.length_map] at h1; omega)⟩
              have HE := Lib.hid he
              have HR := Lib.hid hr
              clear hx he hr
              go_wp2_with (refine wl_load_struct rfl 237 _ rfl Tryz.underlying237 rfl rfl g (k * 2) rfl [.string t, .int .i32 p] rfl HCX.out ?_)
              obtain ⟨w7, hw7⟩ : ∃ w7, wr.alloc (Obj.cells #[Value.string t, .int .i32 p] 237) = w7 := ⟨_, rfl⟩
              have HW7 := Lib.hid hw7
              have HK7 : Hid (Kept [] w5 w7) := by rw [← hw7]; exact HKR8.out.alloc _
              obtain ⟨a0, ha0⟩ : ∃ a0, wr.heap.size = a0 := ⟨_, rfl⟩
              have HA0 := Lib.hid ha0
              have ha0p : pb ≤ a0 := by have h1 := HKR8.out.size; have h2 := HPB.out; omega
              have hs7 : w7.heap.size = a0 + 1 := by rw [← hw7, ← ha0]; simp
              have HCA : Hid (∀ a v, #[Value.string t, .int .i32 p][a]? = some v → w7.cell? ⟨a0, a, none⟩ = some v) := fun a v hv => by rw [← hw7, ← ha0, cell_alloc_at]; exact hv
              have HCY : Hid (w7.cell? ⟨y, 0, none⟩ = some (.slice (some ⟨g2, 0, none⟩) n2 c2)) := HF3.out w7 HK7.out
              have HCE : Hid (∀ a v, [Value.map (some I), .string id][a]? = some v → w7.cell? ⟨g2, r * 2 + a, none⟩ = some v) := (HF2.out w7 HK7.out r _ HE.out).1
              have HB : Hid (a0 + 1 ≤ w7.heap.size) := by rw [hs7]; exact Nat.le_refl _
              rw [hw7, ha0]
              clear hw7 ha0 hs7
              refine wp_region_facts' 7 (Kept []) (rr31F g2 n2 c2 i r (a0 + 1) I id) mixed (by kernel_rfl) ((Kept.refl _ _).drew) (fun _ _ _ h k => h.trans0 k) rr31F_stable ?_ ?_
              · refine ⟨?_, ?_, ?_, ?_, ?_, ?_, ?_, trivial⟩
                all_goals go_light
                all_goals intro a W hR hs hd
                all_goals have p13 : a.tmps[13]? = some (.pointer (some ⟨y, 0, none⟩)) := hs.2.2 13 (by decide)
                all_goals have p20 : a.tmps[20]? = some (.int .i64 i) := hs.2.2 20 (by decide)
                all_goals have p21 : a.tmps[21]? = some (.int .i64 n2) := hs.2.2 21 (by decide)
                all_goals have hRr : Kept [] W W := Kept.refl [] W
                all_goals have hcy : W.cell? ⟨y, 0, none⟩ = some (.slice (some ⟨g2, 0, none⟩) n2 c2) := hR.cell HCY.out (by simp)
                · refine ow_value (w' := W) (v := .slice (some ⟨g2, 0, none⟩) n2 c2) ?_ (.mk hRr rfl rfl)
                  simp [go_sem, p13, hcy]
                · refine ow_value (w' := W) (v := .int .i64 i) ?_ (.mk hRr rfl rfl)
                  simp [go_sem, p20]
                · refine ow_value (w' := W) (v := .int .i64 n2) ?_ (.mk hRr rfl rfl)
                  simp [go_sem, p21]
                · have q1 : _ = _ := hd.1 rfl
                  have q2 : _ = _ := hd.2.1 rfl
                  refine ow_value (w' := W) (v := .int .i64 r) ?_ (.mk hRr rfl rfl)
                  simp [go_sem, q1, q2, hrem, show ¬ n2 = 0 by omega]
                · have q0 : _ = _ := hd.1 rfl
                  have q3 : _ = _ := hd.2.1 rfl
                  refine ow_value (w' := W) (v := .pointer (some ⟨g2, r * 2, none⟩)) ?_ (.mk hRr rfl rfl)
                  simp [go_sem, q0, q3, show ¬ n2 ≤ r by omega]
                · have q4 : _ = _ := hd.1 rfl
                  refine ow_load_struct 242 _ rfl Tryz.underlying242 rfl rfl g2 (r * 2) (by simp [go_sem, q4]) [Value.map (some I), .string id] rfl (fun a u hu => hR.cell (HCE.out a u hu) (by simp)) ?_
                  exact .mk hRr rfl rfl
                · refine ow_value (w' := W.alloc (.cells #[.map none, .string ⟨#[]⟩] 242)) (v := .pointer (some ⟨W.heap.size, 0, none⟩)) ?_ (.mk (hRr.alloc _) ⟨_, rfl, heap_alloc_new _ _, Nat.le_trans HB.out hR.size⟩ rfl)
                  simp [go_sem]
              · intro f W hR hf
                obtain ⟨f0, f1, f2, f3, f4, f5, f6, -⟩ := hf
                change f 101 = _ at f0
                change f 102 = _ at f1
                change f 103 = _ at f2
                change f 104 = _ at f3
                change f 105 = _ at f4
                change f 106 = _ at f5
                change ∃ b, (f 24) = .pointer (some ⟨b, 0, none⟩) ∧ W.heap[b]? = some (.cells #[.map none, .string ⟨#[]⟩] 242 (0, 0)) ∧ a0 + 1 ≤ b at f6
                obtain ⟨x6, g6⟩ : ∃ x, f 24 = x := ⟨_, rfl⟩
                rw [g6] at f6
                simp only [headDsts, List.take_succ_cons, List.take_zero, List.filterMap_cons, List.filterMap_nil, setAll, f0, f1, f2, f3, f4, f5, g6, List.setIfInBounds_toArray, List.set_cons_succ, List.set_cons_zero, List.drop_succ_cons, List.drop_zero]
                clear f0 f1 f2 f3 f4 f5 g6 f
                obtain ⟨b, rfl, hbh, hb0⟩ := f6
                have hW5 : Kept [] w5 W := HK7.out.trans0 hR
                have HBH := Lib.hid hbh
                refine wl_store_struct rfl 242 _ _ rfl (cs := #[.map (some I), .string id]) rfl b rfl rfl 242 _ HBH.out rfl (by simp [Value.oneCell']) ?_
                go_wp2
                obtain ⟨w8, hw8⟩ : ∃ w8, W.setRow b #[Value.map (some I), .string id] = w8 := ⟨_, rfl⟩
                have hb8 : w8.heap[b]? = some (.cells #[.map (some I), .string id] 242 (0, 0)) := by rw [← hw8]; exact setRow_heap W b _ _ 242 _ hbh
                have hK8 : Kept [] w5 w8 := by rw [← hw8]; exact hW5.setRow (.inr (by have h := HPB.out; omega)) _
                have hKr8 : Kept [b] wr w8 := by
                  rw [← hw8]
                  refine Kept.setRow (((Kept.refl [] wr).trans0 (?_ : Kept [] wr W)).mono (by simp)) (.inl (by simp)) _
                  have h : Kept [] wr w7 := by rw [← HW7.out]; exact (Kept.refl [] wr).alloc _
                  exact h.trans0 hR
                have hP8 : PlanIs w8 S pb (gives s) := HP1.out.kept hKr8 (fun x hx hm => by have h1 := HS1.out x hx; have h2 := List.mem_singleton.1 hm; have h3 := HA0.out; omega)
                have hs8 : a0 < w8.heap.size := by have h1 := hKr8.size; have h2 := (Array.getElem?_eq_some_iff.1 hb8).1; omega
                have HCA8 : Hid (w8.cell? ⟨a0, 0, none⟩ = some (.string t) ∧ w8.cell? ⟨a0, 1, none⟩ = some (.int .i32 p)) := by
                  have h : Kept [b] w7 w8 := by rw [← hw8]; exact Kept.setRow (hR.mono (by simp)) (.inl (by simp)) _
                  exact ⟨h.cell (HCA.out 0 _ rfl) (by simp; omega), h.cell (HCA.out 1 _ rfl) (by simp; omega)⟩
                have HB8 := Lib.hid hb8
                have HK8 := Lib.hid hK8
                have HP8 := Lib.hid hP8
                have HKR8b := Lib.hid hKr8
                rw [hw8]
                clear hw8 hb8 hK8 hKr8 hP8 hR hW5 hbh HBH
                go_loopg [20, 108] n2 (fun gk iv dv wv => ∃ (d j : Nat) (id' : ByteArray) (I' : Nat) (tops' : List ByteArray), gk = n2 - d ∧ d ≤ n2 ∧ dv = .int .i64 d ∧ j = i + d ∧ iv = .int .i64 j ∧ T2[j % n2]? = some (id', I', tops') ∧ wv.heap[b]? = some (.cells #[.map (some I'), .string id'] 242 (0, 0)) ∧ (∀ q, i ≤ q → q < j → wantsAt Lm t q = false) ∧ Kept [b] w8 wv)
                case atStart => exact ⟨0, i, id, I, tops, rfl, Nat.zero_le _, rfl, rfl, rfl, by rw [HR.out]; exact HE.out, HB8.out, fun q h1 h2 => by omega, Kept.refl _ _⟩
                case round =>
                  obtain ⟨d, j, id', I', tops', hgk2, hd2, rfl, hjd, rfl, he', hbv, hmiss, hkv⟩ := hrel
                  have HE' := Lib.hid he'
                  have HBV := Lib.hid hbv
                  have HMISS := Lib.hid hmiss
                  have HKV := Lib.hid hkv
                  have HJD := Lib.hid hjd
                  have hj9 : j ≤ 2000000 := by omega
                  clear he' hbv hmiss hkv hjd
                  have hKall : Kept [] w5 wr := HK8.out.trans HKV.out (fun x hx => .inr (by have h1 := List.mem_singleton.1 hx; have h2 := HPB.out; omega))
                  have HKALL := Lib.hid hKall
                  have hcb0 : wr.cell? ⟨b, 0, none⟩ = some (.map (some I')) := by simp [World.cell?, HBV.out]
                  have hca0 : wr.cell? ⟨a0, 0, none⟩ = some (.string t) := HKV.out.cell HCA8.out.1 (by simp; omega)
                  have HLJ : Hid (Lm[j % Lm.length]? = some (id', tops')) := by
                    have h1 : Lm[j % Lm.length]? = some (id', tops') := by rw [HLML.out, ← HLM.out, List.getElem?_map, HE'.out]; rfl
                    exact h1
                  have HW : Hid (wantsAt Lm t j = decide (t ∈ tops')) := by
                    have h1 : wantsAt Lm t j = decide (t ∈ tops') := by
                      unfold wantsAt
                      rw [HLJ.out]
                    exact h1
                  have HHT : Hid (∀ W, Kept [] wr W → Calls Tryz.prog 177 #[.pointer (some ⟨b, 0, none⟩), .string t] W fun e w' => e = .returned (.bool (decide (t ∈ tops'))) ∧ Kept [] W w') := fun W hW => hasTopic_any b I' tops' t W (hW.cell hcb0 (by simp)) (((HF2.out wr HKALL.out _ _ HE'.out).2).kept hW (by simp))
                  clear hKall
                  by_cases hdn : d < n2
                  · have hdn' : (d : Int) < (n2 : Int) := by omega
                    by_cases htt : t ∈ tops'
                    · have hdec : decide (t ∈ tops') = true := by simpa using htt
                      rw [hdec] at HHT HW
                      clear hdec htt
                      have hcb1 : wr.cell? ⟨b, 1, none⟩ = some (.string id') := by simp [World.cell?, HBV.out]
                      have hca1 : wr.cell? ⟨a0, 1, none⟩ = some (.int .i32 p) := HKV.out.cell HCA8.out.2 (by simp; omega)
                      have HPW : Hid (PlanIs wr S pb (gives s)) := HP8.out.kept HKV.out (fun x hx hm => by have h1 := HS1.out x hx; have h2 := List.mem_singleton.1 hm; have h3 := HA0.out; omega)
                      have hawr : a0 < wr.heap.size := World.block_lt_of_cell? wr _ hca0
                      have HADD : Hid (∀ W, Kept [] wr W → Calls Tryz.prog 75 #[.map (some pb), .string id', .string t, .slice (some ⟨W.heap.size, 0, none⟩) 1 1] (W.alloc (.cells #[.int .i32 p] 21)) fun e w' => e = .returned (.tuple #[]) ∧ ∃ S', PlanIs w' S' pb (upd2 (gives s) id' t (gives s id' t ++ [p])) ∧ Kept S (W.alloc (.cells #[.int .i32 p] 21)) w' ∧ ∀ x ∈ S', x ∈ S ∨ (W.alloc (.cells #[.int .i32 p] 21)).heap.size ≤ x) := fun W hW => by
                        refine add_any S pb (gives s) id' t _ (fun x => x = W.heap.size) [p] _ (HPW.out.kept (hW.alloc _) (fun _ _ => by simp)) ⟨_, 1, 1, rfl, own_slis (own_new W 21 1 1 #[.int .i32 p] 0 (Nat.zero_le _) (by omega) rfl rfl), fun a ha _ => by cases ha; rfl, Nat.le_refl _⟩ (fun x hx hm => by have h1 := HS1.out x hm; have h2 := hW.size; have h3 := HA0.out; omega) ?_
                        have h1 : (gives s id' t).length ≤ s.length := by unfold gives; rw [List.length_map]; exact List.length_filter_le _ _
                        have h2 := HSLN.out
                        simp only [List.length_singleton]
                        omega
                      go_wp2_with (first
                        | ((with_reducible refine (HHT.out _ (Kept.refl _ _)).mono ?_); rintro e w9 ⟨rfl, hk9⟩; have HK9 := Lib.hid hk9; have hca9 := hk9.cell hca0 (by simp); clear hk9)
                        | ((with_reducible refine (HHT.out _ HK9.out).mono ?_); rintro e w10 ⟨rfl, hk10⟩; have HK10 := Lib.hid (HK9.out.trans0 hk10); have hca10 := hk10.cell hca9 (by simp); have hca101 := (HK9.out.trans0 hk10).cell hca1 (by simp); have hcb101 := (HK9.out.trans0 hk10).cell hcb1 (by simp); clear hk10)
                        | ((with_reducible refine (HADD.out _ HK10.out).mono ?_); rintro e w11 ⟨rfl, S', hP11, hk11, hS11⟩; have HP11 := Lib.hid hP11; have HK11 := Lib.hid hk11; have HS11 := Lib.hid hS11; clear hP11 hk11 hS11))
                      have hjd := HJD.out
                      have hKf : Kept [] w5 w11 := ((HKALL.out.trans0 HK10.out).alloc _).trans HK11.out (fun x hx => .inr (by have h1 := HS1.out x hx; have h2 := HPB.out; omega))
                      have hdrop : l1.drop k = (t, p) :: l1.drop (k + 1) := by
                        obtain ⟨h1, h2⟩ := List.getElem?_eq_some_iff.1 HX1.out
                        rw [List.drop_eq_getElem_cons h1, h2]
                      go_roundg (n - (k + 1))
                      case measure => omega
                      case rel =>
                        refine ⟨k + 1, j + 1, _, s ++ [(id', t, p)], rfl, by omega, rfl, rfl, by omega, (by rw [gives_snoc]; exact HP11.out.cut), fun x hx => ?_, ?_, by have h := HSLN.out; simp; omega, hKf⟩
                        · have h1 := List.mem_filter.1 hx
                          refine ⟨?_, by simpa using h1.2⟩
                          rcases HS11.out x h1.1 with h | h
                          · exact (HS1.out x h).1
                          · have h2 := HK10.out.size
                            simp at h
                            omega
                        · rw [← HSEQ.out, hdrop, roundSeq]
                          have hn : rnext Lm (t, p).1 Lm.length i = j := rnext_hit Lm t Lm.length i j (by omega) (by rw [HLML.out]; omega) HMISS.out HW.out
                          rw [hn, if_pos HW.out, List.getD_eq_getElem?_getD, HLJ.out]
                          simp
                    · have hdec : decide (t ∈ tops') = false := by simpa using htt
                      rw [hdec] at HHT HW
                      clear hdec htt
                      obtain ⟨i2, hi2⟩ : ∃ i2, j + 1 = i2 := ⟨_, rfl⟩
                      have hj1 : (j : Int) + 1 = (i2 : Int) := by rw [← hi2]; rfl
                      have HI2 := Lib.hid hi2
                      obtain ⟨r2, hr2⟩ : ∃ r2, i2 % n2 = r2 := ⟨_, rfl⟩
                      have hrl2 : r2 < n2 := by rw [← hr2]; exact Nat.mod_lt _ (by omega)
                      have hrem2 : Int.tmod (i2 : Int) (n2 : Int) = (r2 : Int) := by rw [← hr2]; rfl
                      obtain ⟨⟨id2, I2, tops2⟩, he2⟩ : ∃ e, T2[r2]? = some e := ⟨_, List.getElem?_eq_getElem (by have h1 := HLML.out; rw [← HLM.out, List.length_map] at h1; omega)⟩
                      have HE2 := Lib.hid he2
                      have HR2 := Lib.hid hr2
                      clear hi2 he2 hr2
                      go_wp2_with ((with_reducible refine (HHT.out _ (Kept.refl _ _)).mono ?_); rintro e w9 ⟨rfl, hk9⟩; have HK9 := Lib.hid hk9; clear hk9)
                      have HK59 : Hid (Kept [] w5 w9) := HKALL.out.trans0 HK9.out
                      have HCY2 : Hid (w9.cell? ⟨y, 0, none⟩ = some (.slice (some ⟨g2, 0, none⟩) n2 c2)) := HF3.out w9 HK59.out
                      have HCE2 : Hid (∀ a v, [Value.map (some I2), .string id2][a]? = some v → w9.cell? ⟨g2, r2 * 2 + a, none⟩ = some v) := (HF2.out w9 HK59.out r2 _ HE2.out).1
                      have HB : Hid (0 ≤ w9.heap.size) := by exact Nat.zero_le _
                      refine wp_region_facts' 6 (Kept []) (rr31F g2 n2 c2 i2 r2 0 I2 id2) mixed (by kernel_rfl) ((Kept.refl _ _).drew) (fun _ _ _ h k => h.trans0 k) rr31F_stable ?_ ?_
                      · refine ⟨?_, ?_, ?_, ?_, ?_, ?_, trivial⟩
                        all_goals go_light
                        all_goals intro a W hR hs hd
                        all_goals have p13 : a.tmps[13]? = some (.pointer (some ⟨y, 0, none⟩)) := hs.2.2 13 (by decide)
                        all_goals have p20 : a.tmps[20]? = some (.int .i64 i2) := hs.2.2 20 (by decide)
                        all_goals have p21 : a.tmps[21]? = some (.int .i64 n2) := hs.2.2 21 (by decide)
                        all_goals have hRr : Kept [] W W := Kept.refl [] W
                        all_goals have hcy : W.cell? ⟨y, 0, none⟩ = some (.slice (some ⟨g2, 0, none⟩) n2 c2) := hR.cell HCY2.out (by simp)
                        · refine ow_value (w' := W) (v := .slice (some ⟨g2, 0, none⟩) n2 c2) ?_ (.mk hRr rfl rfl)
                          simp [go_sem, p13, hcy]
                        · refine ow_value (w' := W) (v := .int .i64 i2) ?_ (.mk hRr rfl rfl)
                          simp [go_sem, p20]
                        · refine ow_value (w' := W) (v := .int .i64 n2) ?_ (.mk hRr rfl rfl)
                          simp [go_sem, p21]
                        · have q1 : _ = _ := hd.1 rfl
                          have q2 : _ = _ := hd.2.1 rfl
                          refine ow_value (w' := W) (v := .int .i64 r2) ?_ (.mk hRr rfl rfl)
                          simp [go_sem, q1, q2, hrem2, show ¬ n2 = 0 by omega]
                        · have q0 : _ = _ := hd.1 rfl
                          have q3 : _ = _ := hd.2.1 rfl
                          refine ow_value (w' := W) (v := .pointer (some ⟨g2, r2 * 2, none⟩)) ?_ (.mk hRr rfl rfl)
                          simp [go_sem, q0, q3, show ¬ n2 ≤ r2 by omega]
                        · have q4 : _ = _ := hd.1 rfl
                          refine ow_load_struct 242 _ rfl Tryz.underlying242 rfl rfl g2 (r2 * 2) (by simp [go_sem, q4]) [Value.map (some I2), .string id2] rfl (fun a u hu => hR.cell (HCE2.out a u hu) (by simp)) ?_
                          exact .mk hRr rfl rfl
                      · intro f W hR hf
                        obtain ⟨f0, f1, f2, f3, f4, f5, -⟩ := hf
                        change f 115 = _ at f0
                        change f 116 = _ at f1
                        change f 117 = _ at f2
                        change f 118 = _ at f3
                        change f 119 = _ at f4
                        change f 120 = _ at f5
                        simp only [headDsts, List.take_succ_cons, List.take_zero, List.filterMap_cons, List.filterMap_nil, setAll, f0, f1, f2, f3, f4, f5, List.setIfInBounds_toArray, List.set_cons_succ, List.set_cons_zero, List.drop_succ_cons, List.drop_zero]
                        clear f0 f1 f2 f3 f4 f5 f
                        have hbW : W.heap[b]? = some (.cells #[.map (some I'), .string id'] 242 (0, 0)) := (HK9.out.trans0 hR).heap HBV.out (by simp)
                        have HBW := Lib.hid hbW
                        refine wl_store_struct rfl 242 _ _ rfl (cs := #[.map (some I2), .string id2]) rfl b rfl rfl 242 _ HBW.out rfl (by simp [Value.oneCell']) ?_
                        have hnew : (W.setRow b #[Value.map (some I2), .string id2]).heap[b]? = some (.cells #[.map (some I2), .string id2] 242 (0, 0)) := setRow_heap W b _ _ 242 _ hbW
                        have hKn : Kept [b] w8 (W.setRow b #[Value.map (some I2), .string id2]) := Kept.setRow ((HKV.out.trans0 HK9.out).trans0 hR) (.inl (by simp)) _
                        have HNEW := Lib.hid hnew
                        have HKN := Lib.hid hKn
                        clear hbW HBW hnew hKn hR
                        go_wp2
                        go_roundg (n2 - (d + 1))
                        case measure => omega
                        case rel =>
                          refine ⟨d + 1, i2, id2, I2, tops2, rfl, by omega, rfl, by have h1 := HI2.out; have h2 := HJD.out; omega, rfl, by rw [HR2.out]; exact HE2.out, HNEW.out, fun q h1 h2 => ?_, HKN.out⟩
                          have h3 := HI2.out
                          rcases Nat.lt_or_ge q j with h | h
                          · exact HMISS.out q h1 h
                          · obtain rfl : q = j := by omega
                            exact HW.out
                  · obtain rfl : d = n2 := by omega
                    have hdn' : ¬ (d : Int) < (d : Int) := by omega
                    have hwf : wantsAt Lm t j = false := by
                      have h1 := HMISS.out i (Nat.le_refl _) (by have := HJD.out; omega)
                      have h2 : wantsAt Lm t j = wantsAt Lm t i := by
                        unfold wantsAt
                        rw [HJD.out, HLML.out, Nat.add_mod_right]
                      rw [h2, h1]
                    have hdec := HW.out
                    rw [hwf] at hdec
                    rw [← hdec] at HHT
                    have HWF := Lib.hid hwf
                    clear hdec hwf HW
                    go_wp2_with ((with_reducible refine (HHT.out _ (Kept.refl _ _)).mono ?_); rintro e w9 ⟨rfl, hk9⟩; have HK9 := Lib.hid hk9; clear hk9)
                    have hjd := HJD.out
                    have hdrop : l1.drop k = (t, p) :: l1.drop (k + 1) := by
                      obtain ⟨h1, h2⟩ := List.getElem?_eq_some_iff.1 HX1.out
                      rw [List.drop_eq_getElem_cons h1, h2]
                    go_roundg (n - (k + 1))
                    case measure => omega
                    case rel =>
                      refine ⟨k + 1, j, S, s, rfl, by omega, rfl, rfl, by omega, (HP8.out.kept HKV.out (fun x hx hm => by have h1 := HS1.out x hx; have h2 := List.mem_singleton.1 hm; have h3 := HA0.out; omega)).kept HK9.out (by simp), fun x hx => ?_, ?_, by have h := HSLN.out; omega, HKALL.out.trans0 HK9.out⟩
                      · have h1 := HS1.out x hx
                        have h2 := HKR8b.out.size
                        have h3 := HKV.out.size
                        have h4 := HK9.out.size
                        omega
                      · rw [← HSEQ.out, hdrop, roundSeq]
                        have hn : rnext Lm (t, p).1 Lm.length i = j := by
                          rw [hjd, ← HLML.out]
                          exact rnext_miss Lm t Lm.length i (fun q h1 h2 => HMISS.out q h1 (by rw [HLML.out] at h2; omega))
                        rw [hn, if_neg (by rw [HWF.out]; simp)]
            · obtain rfl : k = n := by omega
              have hlk' : ¬ (k : Int) < (k : Int) := by omega
              go_wp2
              go_ret2
              have hs := HSEQ.out
              rw [List.drop_eq_nil_of_le (by have := HL1N.out; omega), roundSeq, List.append_nil] at hs
              have hmperm : Lm.Perm ml := by rw [← HLM.out]; exact (HT2P.out.map _).trans HPERMM.out
              have hms : Lm.Pairwise (fun p q => slt q.1 p.1 = false) := by
                have h := HM2S.out
                rw [← HT2M.out, List.pairwise_map] at h
                rw [← HLM.out, List.pairwise_map]
                exact h
              exact ⟨pb, rfl, S, gives s, HP1.out, fun x hx => by have h1 := (HS1.out x hx).1; have h2 := HPB.out; have h3 := HKW.out.size; omega, ⟨Lm, l1, by rw [HML.out]; exact hmperm, by rw [HTL.out]; exact HL1.out.trans HPERM.out, by rw [hs]⟩, HKW.out.trans0 HKR8.out⟩
end Go.Proofs.YtghgffhcdnmpnaaGreat
