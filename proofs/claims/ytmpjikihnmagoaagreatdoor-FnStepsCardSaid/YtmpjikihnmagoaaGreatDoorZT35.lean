/-
  What StepsSize and StepsWrite run: the closures 50 and 52. Conditions: right data, twenty at most.
-/
import Derived.Test.YtmpjikihnmagoaaGreatDoorZT33
import Derived.Test.YtmpjikihnmagoaaGreatDoorZB0
set_option maxRecDepth 100000
set_option maxHeartbeats 3200000
namespace Go.Proofs.YtmpjikihnmagoaaGreatDoor
open Go.RowKit
theorem size_any (fl : Bool) (w : World) (A : Option Addr) (c : Nat) (l : List St) (hl : l.length ≤ 20) (hr : ∀ x ∈ l, RightB x) (hA : StsAt (· < w.heap.size) w A l) : Calls Tryz.prog 51 #[.slice A l.length c, .bool fl] w (fun e w' => e = .returned (.tuple #[.int .i64 (stepsB fl l).length, .nilIface]) ∧ Kept [] w w'):=by
 cases fl with
 | true => exact size_true w A c l hl hr hA
 | false => exact size_false w A c l hl hr hA
theorem write_any (fl : Bool) (w : World) (A : Option Addr) (c : Nat) (l : List St) (hl : l.length ≤ 20) (hr : ∀ x ∈ l, RightB x) (hA : StsAt (· < w.heap.size) w A l) : Calls Tryz.prog 53 #[.slice A l.length c, .bool fl] w (fun e w' => ∃ z, e = .returned (.tuple #[.slice (some ⟨z, 0, none⟩) (stepsB fl l).length (stepsB fl l).length, .nilIface]) ∧ w.heap.size ≤ z ∧ Raw z (stepsB fl l).length (stepsB fl l) w' ∧ Kept [] w w'):=by
 cases fl with
 | true => exact write_true w A c l hl hr hA
 | false => exact write_false w A c l hl hr hA
theorem sts_stable {A : Option Addr} {l : List St} {w w' : World} (h : StsAt (· < w.heap.size) w A l) (k : Kept [] w w') : StsAt (· < w'.heap.size) w' A l:=(h.kept k (fun _ _ => by simp)).mono (lt_kept k)
/-- One cell of the call's own is written in a region that draws. -/
def pcE (bo i : Nat) (a b : World) : Prop:=Kept (match i with | 3 => [bo] | _ => []) a b
theorem pcE_R {bo i : Nat} {a b c : World} (h : Kept [bo] a b) (k : pcE bo i b c) : Kept [bo] a c:=by
 unfold pcE at k
 split at k
 ·exact h.trans k (fun x hx => .inl hx)
 ·exact h.trans0 k
def pcF (bo : Nat) (r : Value) (t : TypeId) (ix : Nat) (v : Value) (W : World) : Prop :=
 match ix with
 | 0 => v = r
 | 1 => v = .nilIface
 | 2 => v = .bool true
 | 3 => W.heap[bo]? = some (.cells #[r] t (0, 0))
 | _ => True
theorem pcF_stable {bo r t} : ∀ i j v w w', i ≠ j → pcF bo r t j v w → pcE bo i w w' → pcF bo r t j v w':=by
 intro i j v w w' hij h hk
 unfold pcF at h ⊢
 split at h <;> (first | (exact h) | skip)
 unfold pcE at hk
 split at hk
 ·exact absurd rfl hij
 ·exact hk.heap h (by simp)
def pcPre (bo : Nat) (r0 : Value) (t : TypeId) (i : Nat) (w : World) : Prop:=i = 3 → w.heap[bo]? = some (.cells #[r0] t (0, 0))
theorem pcPre_stable {bo : Nat} {r0 : Value} {t : TypeId} : ∀ i j w w', i ≠ j → pcPre bo r0 t j w → pcE bo i w w' → pcPre bo r0 t j w':=by
 intro i j w w' hij h hk hj
 subst hj
 unfold pcE at hk
 split at hk
 ·exact absurd rfl hij
 ·exact hk.heap (h rfl) (by simp)
def ssF (A : Option Addr) (n c : Nat) (l : List St) (fl : Bool) (N _w0 : Nat) (_fb : List UInt8) (ix : Nat) (v : Value) (W : World) : Prop :=
 match ix with
 | 0 => v = .slice A n c
 | 1 => ∃ A1 c1, v = .slice A1 n c1 ∧ StsAt (· < W.heap.size) W A1 l
 | 2 => v = .bool fl
 | 3 => v = .tuple #[.int .i64 N, .nilIface]
 | 4 => v = .tuple #[.int .i64 N, .nilIface]
 | 5 => v = .int .i64 N
 | 6 => v = .nilIface
 | 7 => v = .int .i64 N
 | _ => True
theorem ssF_stable {A n c l fl N w0 fb} : ∀ ix v w w', ssF A n c l fl N w0 fb ix v w → Kept [] w w' → ssF A n c l fl N w0 fb ix v w':=by
 intro ix v w w' h k
 unfold ssF at h ⊢
 split at h <;> (first | (exact h) | (obtain ⟨A1, c1, h1, h2⟩:=h; exact ⟨A1, c1, h1, sts_stable h2 k⟩))
/-- What the closure leaves. -/
def SizeC (fl : Bool) (l : List St) (bo bok : Nat) (w w' : World) : Prop:=(w'.heap[bo]? = some (.cells #[.int .i64 (stepsB fl l).length] 3 (0, 0))) ∧ w'.heap[bok]? = some (.cells #[.bool true] 4 (0, 0)) ∧ Kept [bo, bok] w w'
theorem closure50 (fl : Bool) (A : Option Addr) (c : Nat) (l : List St) (bl bf bo bok : Nat) (w : World) (hl : l.length ≤ 20) (hr : ∀ x ∈ l, RightB x) (hA : StsAt (· < w.heap.size) w A l) (hcl : w.cell? ⟨bl, 0, none⟩ = some (.slice A l.length c)) (hcf : w.cell? ⟨bf, 0, none⟩ = some (.bool fl)) (ho : w.heap[bo]? = some (.cells #[.int .i64 0] 3 (0, 0))) (hok : w.heap[bok]? = some (.cells #[.bool false] 4 (0, 0))) (hne : bo ≠ bok) : Calls Tryz.prog 50 #[.pointer (some ⟨bl, 0, none⟩), .pointer (some ⟨bf, 0, none⟩), .pointer (some ⟨bo, 0, none⟩), .pointer (some ⟨bok, 0, none⟩)] w fun e w' => e = .returned (.tuple #[]) ∧ SizeC fl l bo bok w w':=by
 unfold SizeC
 have hsteps : ∀ W, Kept [] w W → Calls Tryz.prog 49 #[.slice A l.length c] W (StepsR l l.length W):=fun W hk => steps_any W A c l (by omega) (sts_stable hA hk)
 have hmain : ∀ W A1 c1, StsAt (· < W.heap.size) W A1 l → Calls Tryz.prog 51 #[.slice A1 l.length c1, .bool fl] W (fun e w' => e = .returned (.tuple #[.int .i64 (stepsB fl l).length, .nilIface]) ∧ Kept [] W w'):=fun W A1 c1 hs1 => size_any fl W A1 c1 l hl hr hs1
 obtain ⟨n, hn⟩ : ∃ n, l.length = n:=⟨_, rfl⟩
 obtain ⟨fb, hf⟩ : ∃ fb, stepsB fl l = fb:=⟨_, rfl⟩
 obtain ⟨N, hN⟩ : ∃ N, fb.length = N:=⟨_, rfl⟩
 rw [hf, hN, hn] at hmain
 rw [hn] at hsteps hcl
 rw [hf, hN]
 have HSTEPS:=lh hsteps
 have HMAIN:=lh hmain
 have HCL:=lh hcl
 have HCF:=lh hcf
 have HO:=lh ho
 have HOK:=lh hok
 obtain ⟨w0, hw0⟩ : ∃ w0, w.heap.size = w0:=⟨_, rfl⟩
 have HW0:=lh hw0
 have hbo0 : bo < w0:=by rw [← hw0]; exact (Array.getElem?_eq_some_iff.1 ho).1
 have hbk0 : bok < w0:=by rw [← hw0]; exact (Array.getElem?_eq_some_iff.1 hok).1
 skip
 clear hsteps hmain hcl hcf ho hok hA hl hr hf hN hn hw0
 go_enter Tryz.func50, Tryz.ntmps50
 go_wp2
 refine wp_region_facts' 8 (Kept []) (ssF A n c l fl N w0 fb) mixed (by kernel_rfl) (Kept.refl _ _).drew (fun _ _ _ h k => h.trans k (fun x hx => .inl hx)) ssF_stable ?_ ?_
 ·refine ⟨?_, ?_, ?_, ?_, ?_, ?_, ?_, ?_, trivial⟩
  all_goals go_light
  all_goals intro a W hR hs hd
  all_goals have p0 : a.tmps[0]? = some (.pointer (some ⟨bl, 0, none⟩)):=hs.2.2 0 (by decide)
  all_goals have p1 : a.tmps[1]? = some (.pointer (some ⟨bf, 0, none⟩)):=hs.2.2 1 (by decide)
  all_goals have hRr : Kept [] W W:=Kept.refl _ _
  all_goals have hcl : W.cell? ⟨bl, 0, none⟩ = _:=hR.cell HCL.out (by simp)
  all_goals have hcf : W.cell? ⟨bf, 0, none⟩ = _:=hR.cell HCF.out (by simp)
  ·refine ov W (.slice A n c) ?_ (.mk hRr rfl rfl)
   simp [go_sem, p0, hcl]
  ·have q0 : _ = _:=hd.1 rfl
   refine ow_call (w':=W) (f:=49) (args:=#[.slice A n c]) (by simp [go_sem, q0]) (HSTEPS.out W hR) ?_
   rintro e w' ⟨A1, c1, rfl, hs1, hk1⟩
   exact ⟨_, rfl, .mk hk1 ⟨A1, c1, rfl, hs1⟩ rfl⟩
  ·refine ov W (.bool fl) ?_ (.mk hRr rfl rfl)
   simp [go_sem, p1, hcf]
  ·have q1:=hd.1 rfl
   have q2 : _ = _:=hd.2.1 rfl
   obtain ⟨A1, c1, q1, hs1⟩:=q1
   change _ = _ at q1
   refine ow_call (w':=W) (f:=51) (args:=#[.slice A1 n c1, .bool fl]) (by simp [go_sem, q1, q2]) (HMAIN.out W A1 c1 hs1) ?_
   rintro e w' ⟨rfl, hk1⟩
   exact ⟨_, rfl, .mk hk1 rfl rfl⟩
  ·have q3 : _ = _:=hd.1 rfl
   refine ov W (.tuple #[.int .i64 N, .nilIface]) ?_ (.mk hRr rfl rfl)
   simp [go_sem, q3]
  ·have q4 : _ = _:=hd.1 rfl
   refine ov W (.int .i64 N) ?_ (.mk hRr rfl rfl)
   simp [go_sem, q4]
  ·have q4 : _ = _:=hd.1 rfl
   refine ov W .nilIface ?_ (.mk hRr rfl rfl)
   simp [go_sem, q4]
  ·have q5 : _ = _:=hd.1 rfl
   refine ov W (.int .i64 N) ?_ (.mk hRr rfl rfl)
   simp [go_sem, q5]
 ·intro f W hR hf
  obtain ⟨f0, f1, f2, f3, f4, f5, f6, f7, -⟩:=hf
  change f 7 = _ at f0
  change ∃ A1 c1, (f 8) = .slice A1 n c1 ∧ StsAt (· < W.heap.size) W A1 l at f1
  obtain ⟨x1, g1⟩ : ∃ x, f 8 = x:=⟨_, rfl⟩
  rw [g1] at f1
  change f 9 = _ at f2
  change f 10 = _ at f3
  change f 6 = _ at f4
  change f 11 = _ at f5
  change f 12 = _ at f6
  change f 4 = _ at f7
  simp only [headDsts, List.take_succ_cons, List.take_zero, List.filterMap_cons, List.filterMap_nil, setAll, f0, g1, f2, f3, f4, f5, f6, f7, List.setIfInBounds_toArray, List.set_cons_succ, List.set_cons_zero, List.drop_succ_cons, List.drop_zero]
  clear f0 g1 f2 f3 f4 f5 f6 f7 f
  have hbo1 : W.heap[bo]? = some (.cells #[.int .i64 0] 3 (0, 0)):=hR.heap HO.out (by simp)
  have hbk1 : W.heap[bok]? = some (.cells #[.bool false] 4 (0, 0)):=hR.heap HOK.out (by simp)
  have HBO:=lh hbo1
  have HBK:=lh hbk1
  have HKW:=lh hR
  clear hbo1 hbk1 hR
  go_wp2
  refine wp_region_effs' 4 (Kept [bo]) (pcE bo) (pcPre bo (.int .i64 0) 3) (pcF bo (.int .i64 N) 3) mixed (by kernel_rfl) ((Kept.refl _ _).drew) (fun i _ _ _ h k => pcE_R h k) (fun _ _ _ => HBO.out) pcF_stable pcPre_stable ?_ ?_
  ·refine ⟨?_, ?_, ?_, ?_, trivial⟩
   all_goals go_light
   all_goals intro a W hR hpre hs hd
   all_goals have p4 : a.tmps[4]? = some (.int .i64 N):=hs.2.2 4 (by decide)
   all_goals have p5 : a.tmps[5]? = some (.nilIface):=hs.2.2 5 (by decide)
   all_goals have p2 : a.tmps[2]? = some (.pointer (some ⟨bo, 0, none⟩)):=hs.2.2 2 (by decide)
   all_goals have hRr : Kept [] W W:=Kept.refl [] W
   ·refine ov W (.int .i64 N) ?_ (.mk hRr rfl rfl)
    simp [go_sem, p4]
   ·refine ov W .nilIface ?_ (.mk hRr rfl rfl)
    simp [go_sem, p5]
   ·have q1 : _ = _:=hd.1 rfl
    refine ov W (.bool true) ?_ (.mk hRr rfl rfl)
    simp [go_sem, q1]
   ·have q0 : _ = _:=hd.1 rfl
    have hb:=hpre rfl
    have hc : W.cell? ⟨bo, 0, none⟩ = some (.int .i64 0):=by simp [World.cell?, hb]
    have hf : W.frozen? ⟨bo, 0, none⟩ = false:=by simp [World.frozen?, hb]
    refine ow_skip (w':=W.setCell ⟨bo, 0, none⟩ (.int .i64 N)) (by simp [go_sem, p2, q0, hc, hf]) ?_
    have h5:=heap_setCell_same W bo 0 _ 3 (.int .i64 N) hb
    exact ⟨undef, rfl, (Kept.refl _ _).setCell (.inl (by simp)) _, h5, fun _ => h5⟩
  ·intro f' W_2 hR hf
   obtain ⟨f0, f1, f2, f3, -⟩:=hf
   change f' 13 = _ at f0
   change f' 14 = _ at f1
   change f' 15 = _ at f2
   change W_2.heap[bo]? = some (.cells #[.int .i64 N] 3 (0, 0)) at f3
   simp only [headDsts, List.take_succ_cons, List.take_zero, List.filterMap_cons, List.filterMap_nil, setAll, f0, f1, f2, List.setIfInBounds_toArray, List.set_cons_succ, List.set_cons_zero, List.drop_succ_cons, List.drop_zero]
   clear f0 f1 f2 f'
   have hbk2:=hR.heap HBK.out (fun hm => hne (List.mem_singleton.1 hm).symm)
   have hcb : W_2.cell? ⟨bok, 0, none⟩ = some (.bool false):=by simp [World.cell?, hbk2]
   have hfb : W_2.frozen? ⟨bok, 0, none⟩ = false:=by simp [World.frozen?, hbk2]
   have h6:=heap_setCell_same W_2 bok 0 _ 4 (.bool true) hbk2
   have h7 : (W_2.setCell ⟨bok, 0, none⟩ (.bool true)).heap[bo]? = some (.cells #[.int .i64 N] 3 (0, 0)):=by
    rw [heap_setCell_other _ _ _ _ (by simpa using hne)]
    exact f3
   have hKf : Kept [bo, bok] w (W_2.setCell ⟨bok, 0, none⟩ (.bool true)):=((HKW.out.mono (by simp)).trans hR (fun x hx => .inl (by rw [List.mem_singleton.1 hx]; simp))).setCell (.inl (by simp)) _
   have H6:=lh h6
   have H7:=lh h7
   have HKF:=lh hKf
   clear h6 h7 hKf hbk2 f3 hR
   go_wp2
   refine bodyPost_end (results_none rfl _ _ _) rfl ?_
   exact ⟨rfl, H7.out, H6.out, HKF.out⟩
def swF (A : Option Addr) (n c : Nat) (l : List St) (fl : Bool) (N w0 : Nat) (fb : List UInt8) (ix : Nat) (v : Value) (W : World) : Prop :=
 match ix with
 | 0 => v = .slice A n c
 | 1 => ∃ A1 c1, v = .slice A1 n c1 ∧ StsAt (· < W.heap.size) W A1 l
 | 2 => v = .bool fl
 | 3 => ∃ z, v = .tuple #[.slice (some ⟨z, 0, none⟩) N N, .nilIface] ∧ w0 ≤ z ∧ Raw z N fb W
 | 4 => ∃ z, v = .tuple #[.slice (some ⟨z, 0, none⟩) N N, .nilIface] ∧ w0 ≤ z ∧ Raw z N fb W
 | 5 => ∃ z, v = .slice (some ⟨z, 0, none⟩) N N ∧ w0 ≤ z ∧ Raw z N fb W
 | 6 => v = .nilIface
 | 7 => ∃ z, v = .slice (some ⟨z, 0, none⟩) N N ∧ w0 ≤ z ∧ Raw z N fb W
 | _ => True
theorem swF_stable {A n c l fl N w0 fb} : ∀ ix v w w', swF A n c l fl N w0 fb ix v w → Kept [] w w' → swF A n c l fl N w0 fb ix v w':=by
 intro ix v w w' h k
 unfold swF at h ⊢
 split at h <;> (first | (exact h) | (obtain ⟨A1, c1, h1, h2⟩:=h; exact ⟨A1, c1, h1, sts_stable h2 k⟩) | (obtain ⟨z, h1, h2, h3⟩:=h; exact ⟨z, h1, h2, h3.keep k (by simp)⟩))
/-- What the closure leaves. -/
def WriteC (fl : Bool) (l : List St) (bo bok : Nat) (w w' : World) : Prop:=(∃ z, w'.heap[bo]? = some (.cells #[.slice (some ⟨z, 0, none⟩) (stepsB fl l).length (stepsB fl l).length] 34 (0, 0)) ∧ w.heap.size ≤ z ∧ Raw z (stepsB fl l).length (stepsB fl l) w') ∧ w'.heap[bok]? = some (.cells #[.bool true] 4 (0, 0)) ∧ Kept [bo, bok] w w'
theorem closure52 (fl : Bool) (A : Option Addr) (c : Nat) (l : List St) (bl bf bo bok : Nat) (w : World) (hl : l.length ≤ 20) (hr : ∀ x ∈ l, RightB x) (hA : StsAt (· < w.heap.size) w A l) (hcl : w.cell? ⟨bl, 0, none⟩ = some (.slice A l.length c)) (hcf : w.cell? ⟨bf, 0, none⟩ = some (.bool fl)) (ho : w.heap[bo]? = some (.cells #[.slice none 0 0] 34 (0, 0))) (hok : w.heap[bok]? = some (.cells #[.bool false] 4 (0, 0))) (hne : bo ≠ bok) : Calls Tryz.prog 52 #[.pointer (some ⟨bl, 0, none⟩), .pointer (some ⟨bf, 0, none⟩), .pointer (some ⟨bo, 0, none⟩), .pointer (some ⟨bok, 0, none⟩)] w fun e w' => e = .returned (.tuple #[]) ∧ WriteC fl l bo bok w w':=by
 unfold WriteC
 have hsteps : ∀ W, Kept [] w W → Calls Tryz.prog 49 #[.slice A l.length c] W (StepsR l l.length W):=fun W hk => steps_any W A c l (by omega) (sts_stable hA hk)
 have hmain : ∀ W A1 c1, StsAt (· < W.heap.size) W A1 l → Calls Tryz.prog 53 #[.slice A1 l.length c1, .bool fl] W (fun e w' => ∃ z, e = .returned (.tuple #[.slice (some ⟨z, 0, none⟩) (stepsB fl l).length (stepsB fl l).length, .nilIface]) ∧ W.heap.size ≤ z ∧ Raw z (stepsB fl l).length (stepsB fl l) w' ∧ Kept [] W w'):=fun W A1 c1 hs1 => write_any fl W A1 c1 l hl hr hs1
 obtain ⟨n, hn⟩ : ∃ n, l.length = n:=⟨_, rfl⟩
 obtain ⟨fb, hf⟩ : ∃ fb, stepsB fl l = fb:=⟨_, rfl⟩
 obtain ⟨N, hN⟩ : ∃ N, fb.length = N:=⟨_, rfl⟩
 rw [hf, hN, hn] at hmain
 rw [hn] at hsteps hcl
 rw [hf, hN]
 have HSTEPS:=lh hsteps
 have HMAIN:=lh hmain
 have HCL:=lh hcl
 have HCF:=lh hcf
 have HO:=lh ho
 have HOK:=lh hok
 obtain ⟨w0, hw0⟩ : ∃ w0, w.heap.size = w0:=⟨_, rfl⟩
 have HW0:=lh hw0
 have hbo0 : bo < w0:=by rw [← hw0]; exact (Array.getElem?_eq_some_iff.1 ho).1
 have hbk0 : bok < w0:=by rw [← hw0]; exact (Array.getElem?_eq_some_iff.1 hok).1
 rw [hw0]
 clear hsteps hmain hcl hcf ho hok hA hl hr hf hN hn hw0
 go_enter Tryz.func52, Tryz.ntmps52
 go_wp2
 refine wp_region_facts' 8 (Kept []) (swF A n c l fl N w0 fb) mixed (by kernel_rfl) (Kept.refl _ _).drew (fun _ _ _ h k => h.trans k (fun x hx => .inl hx)) swF_stable ?_ ?_
 ·refine ⟨?_, ?_, ?_, ?_, ?_, ?_, ?_, ?_, trivial⟩
  all_goals go_light
  all_goals intro a W hR hs hd
  all_goals have p0 : a.tmps[0]? = some (.pointer (some ⟨bl, 0, none⟩)):=hs.2.2 0 (by decide)
  all_goals have p1 : a.tmps[1]? = some (.pointer (some ⟨bf, 0, none⟩)):=hs.2.2 1 (by decide)
  all_goals have hRr : Kept [] W W:=Kept.refl _ _
  all_goals have hcl : W.cell? ⟨bl, 0, none⟩ = _:=hR.cell HCL.out (by simp)
  all_goals have hcf : W.cell? ⟨bf, 0, none⟩ = _:=hR.cell HCF.out (by simp)
  ·refine ov W (.slice A n c) ?_ (.mk hRr rfl rfl)
   simp [go_sem, p0, hcl]
  ·have q0 : _ = _:=hd.1 rfl
   refine ow_call (w':=W) (f:=49) (args:=#[.slice A n c]) (by simp [go_sem, q0]) (HSTEPS.out W hR) ?_
   rintro e w' ⟨A1, c1, rfl, hs1, hk1⟩
   exact ⟨_, rfl, .mk hk1 ⟨A1, c1, rfl, hs1⟩ rfl⟩
  ·refine ov W (.bool fl) ?_ (.mk hRr rfl rfl)
   simp [go_sem, p1, hcf]
  ·have q1:=hd.1 rfl
   have q2 : _ = _:=hd.2.1 rfl
   obtain ⟨A1, c1, q1, hs1⟩:=q1
   change _ = _ at q1
   refine ow_call (w':=W) (f:=53) (args:=#[.slice A1 n c1, .bool fl]) (by simp [go_sem, q1, q2]) (HMAIN.out W A1 c1 hs1) ?_
   rintro e w' ⟨z, rfl, hz, hraw, hk1⟩
   exact ⟨_, rfl, .mk hk1 ⟨z, rfl, by have:=hR.size; have:=HW0.out; omega, hraw⟩ rfl⟩
  ·have q3:=hd.1 rfl
   obtain ⟨z, q3, hz, hraw⟩:=q3
   change _ = _ at q3
   refine ov W (.tuple #[.slice (some ⟨z, 0, none⟩) N N, .nilIface]) ?_ (.mk hRr ⟨z, rfl, hz, hraw⟩ rfl)
   simp [go_sem, q3]
  ·have q4:=hd.1 rfl
   obtain ⟨z, q4, hz, hraw⟩:=q4
   change _ = _ at q4
   refine ov W (.slice (some ⟨z, 0, none⟩) N N) ?_ (.mk hRr ⟨z, rfl, hz, hraw⟩ rfl)
   simp [go_sem, q4]
  ·have q4:=hd.1 rfl
   obtain ⟨z, q4, hz, hraw⟩:=q4
   change _ = _ at q4
   refine ov W .nilIface ?_ (.mk hRr rfl rfl)
   simp [go_sem, q4]
  ·have q5:=hd.1 rfl
   obtain ⟨z, q5, hz, hraw⟩:=q5
   change _ = _ at q5
   refine ov W (.slice (some ⟨z, 0, none⟩) N N) ?_ (.mk hRr ⟨z, rfl, hz, hraw⟩ rfl)
   simp [go_sem, q5]
 ·intro f W hR hf
  obtain ⟨f0, f1, f2, f3, f4, f5, f6, f7, -⟩:=hf
  change f 7 = _ at f0
  change ∃ A1 c1, (f 8) = .slice A1 n c1 ∧ StsAt (· < W.heap.size) W A1 l at f1
  obtain ⟨x1, g1⟩ : ∃ x, f 8 = x:=⟨_, rfl⟩
  rw [g1] at f1
  change f 9 = _ at f2
  change ∃ z, (f 10) = .tuple #[.slice (some ⟨z, 0, none⟩) N N, .nilIface] ∧ w0 ≤ z ∧ Raw z N fb W at f3
  obtain ⟨x3, g3⟩ : ∃ x, f 10 = x:=⟨_, rfl⟩
  rw [g3] at f3
  change ∃ z, (f 6) = .tuple #[.slice (some ⟨z, 0, none⟩) N N, .nilIface] ∧ w0 ≤ z ∧ Raw z N fb W at f4
  obtain ⟨x4, g4⟩ : ∃ x, f 6 = x:=⟨_, rfl⟩
  rw [g4] at f4
  change ∃ z, (f 11) = .slice (some ⟨z, 0, none⟩) N N ∧ w0 ≤ z ∧ Raw z N fb W at f5
  obtain ⟨x5, g5⟩ : ∃ x, f 11 = x:=⟨_, rfl⟩
  rw [g5] at f5
  change f 12 = _ at f6
  change ∃ z, (f 4) = .slice (some ⟨z, 0, none⟩) N N ∧ w0 ≤ z ∧ Raw z N fb W at f7
  obtain ⟨x7, g7⟩ : ∃ x, f 4 = x:=⟨_, rfl⟩
  rw [g7] at f7
  simp only [headDsts, List.take_succ_cons, List.take_zero, List.filterMap_cons, List.filterMap_nil, setAll, f0, g1, f2, g3, g4, g5, f6, g7, List.setIfInBounds_toArray, List.set_cons_succ, List.set_cons_zero, List.drop_succ_cons, List.drop_zero]
  clear f0 g1 f2 g3 g4 g5 f6 g7 f
  obtain ⟨z, rfl, hz, hraw⟩:=f7
  have HRAW:=lh hraw
  have HZ:=lh hz
  clear hraw
  have hbo1 : W.heap[bo]? = some (.cells #[.slice none 0 0] 34 (0, 0)):=hR.heap HO.out (by simp)
  have hbk1 : W.heap[bok]? = some (.cells #[.bool false] 4 (0, 0)):=hR.heap HOK.out (by simp)
  have HBO:=lh hbo1
  have HBK:=lh hbk1
  have HKW:=lh hR
  clear hbo1 hbk1 hR
  go_wp2
  refine wp_region_effs' 4 (Kept [bo]) (pcE bo) (pcPre bo (.slice none 0 0) 34) (pcF bo (.slice (some ⟨z, 0, none⟩) N N) 34) mixed (by kernel_rfl) ((Kept.refl _ _).drew) (fun i _ _ _ h k => pcE_R h k) (fun _ _ _ => HBO.out) pcF_stable pcPre_stable ?_ ?_
  ·refine ⟨?_, ?_, ?_, ?_, trivial⟩
   all_goals go_light
   all_goals intro a W hR hpre hs hd
   all_goals have p4 : a.tmps[4]? = some (.slice (some ⟨z, 0, none⟩) N N):=hs.2.2 4 (by decide)
   all_goals have p5 : a.tmps[5]? = some (.nilIface):=hs.2.2 5 (by decide)
   all_goals have p2 : a.tmps[2]? = some (.pointer (some ⟨bo, 0, none⟩)):=hs.2.2 2 (by decide)
   all_goals have hRr : Kept [] W W:=Kept.refl [] W
   ·refine ov W (.slice (some ⟨z, 0, none⟩) N N) ?_ (.mk hRr rfl rfl)
    simp [go_sem, p4]
   ·refine ov W .nilIface ?_ (.mk hRr rfl rfl)
    simp [go_sem, p5]
   ·have q1 : _ = _:=hd.1 rfl
    refine ov W (.bool true) ?_ (.mk hRr rfl rfl)
    simp [go_sem, q1]
   ·have q0 : _ = _:=hd.1 rfl
    have hb:=hpre rfl
    have hc : W.cell? ⟨bo, 0, none⟩ = some (.slice none 0 0):=by simp [World.cell?, hb]
    have hf : W.frozen? ⟨bo, 0, none⟩ = false:=by simp [World.frozen?, hb]
    refine ow_skip (w':=W.setCell ⟨bo, 0, none⟩ (.slice (some ⟨z, 0, none⟩) N N)) (by simp [go_sem, p2, q0, hc, hf]) ?_
    have h5:=heap_setCell_same W bo 0 _ 34 (.slice (some ⟨z, 0, none⟩) N N) hb
    exact ⟨undef, rfl, (Kept.refl _ _).setCell (.inl (by simp)) _, h5, fun _ => h5⟩
  ·intro f' W_2 hR hf
   obtain ⟨f0, f1, f2, f3, -⟩:=hf
   change f' 13 = _ at f0
   change f' 14 = _ at f1
   change f' 15 = _ at f2
   change W_2.heap[bo]? = some (.cells #[.slice (some ⟨z, 0, none⟩) N N] 34 (0, 0)) at f3
   simp only [headDsts, List.take_succ_cons, List.take_zero, List.filterMap_cons, List.filterMap_nil, setAll, f0, f1, f2, List.setIfInBounds_toArray, List.set_cons_succ, List.set_cons_zero, List.drop_succ_cons, List.drop_zero]
   clear f0 f1 f2 f'
   have hbk2:=hR.heap HBK.out (fun hm => hne (List.mem_singleton.1 hm).symm)
   have hcb : W_2.cell? ⟨bok, 0, none⟩ = some (.bool false):=by simp [World.cell?, hbk2]
   have hfb : W_2.frozen? ⟨bok, 0, none⟩ = false:=by simp [World.frozen?, hbk2]
   have h6:=heap_setCell_same W_2 bok 0 _ 4 (.bool true) hbk2
   have h7 : (W_2.setCell ⟨bok, 0, none⟩ (.bool true)).heap[bo]? = some (.cells #[.slice (some ⟨z, 0, none⟩) N N] 34 (0, 0)):=by
    rw [heap_setCell_other _ _ _ _ (by simpa using hne)]
    exact f3
   have hKf : Kept [bo, bok] w (W_2.setCell ⟨bok, 0, none⟩ (.bool true)):=((HKW.out.mono (by simp)).trans hR (fun x hx => .inl (by rw [List.mem_singleton.1 hx]; simp))).setCell (.inl (by simp)) _
   have H6:=lh h6
   have H7:=lh h7
   have HKF:=lh hKf
   have hraw3:=(HRAW.out.keep hR (by have:=HZ.out; simp; omega)).keep ((Kept.refl [bok] W_2).setCell (p:=⟨bok, 0, none⟩) (.inl (by simp)) (.bool true)) (by have:=HZ.out; simp; omega)
   have HRAW3:=lh hraw3
   clear hraw3
   clear h6 h7 hKf hbk2 f3 hR
   go_wp2
   refine bodyPost_end (results_none rfl _ _ _) rfl ?_
   exact ⟨rfl, ⟨z, H7.out, HZ.out, HRAW3.out⟩, H6.out, HKF.out⟩
end Go.Proofs.YtmpjikihnmagoaaGreatDoor
/-
 StepsSize (22) and StepsWrite (23): what they answer. Conditions: right data, twenty at most.
-/
namespace Go.Proofs.YtmpjikihnmagoaaGreatDoor
open Go.RowKit
def allocs : World → List Obj → World
 | w, [] => w
 | w, o :: os => allocs (w.alloc o) os
theorem allocs_heap : ∀ (os : List Obj) (w : World), (allocs w os).heap = w.heap ++ os.toArray
 | [], w => by simp [allocs]
 | o :: os, w => by
  rw [show allocs w (o :: os) = allocs (w.alloc o) os from rfl, allocs_heap os]
  show w.heap.push o ++ os.toArray = _
  simp
theorem allocs_kept (os : List Obj) : ∀ (w : World), Kept [] w (allocs w os):=by
 induction os with
 | nil => exact fun w => Kept.refl _ _
 | cons o os ih => exact fun w => ((Kept.refl [] w).alloc o).trans0 (ih (w.alloc o))
theorem allocs_at (w : World) (os : List Obj) (i : Nat) (o : Obj) (h : os[i]? = some o) : (allocs w os).heap[w.heap.size + i]? = some o:=by
 rw [allocs_heap, Array.getElem?_append_right (by omega)]
 simpa using h
theorem four_blocks (w : World) (a b c d : Obj) : ∃ W, W = ((((w.alloc a).alloc b).alloc c).alloc d) ∧ W.heap.size = w.heap.size + 4 ∧ Kept [] w W ∧ W.heap[w.heap.size]? = some a ∧ W.heap[w.heap.size + 1]? = some b ∧ W.heap[w.heap.size + 2]? = some c ∧ W.heap[w.heap.size + 3]? = some d :=
 ⟨allocs w [a, b, c, d], rfl, by rw [allocs_heap]; simp, allocs_kept _ _, allocs_at w _ 0 a rfl, allocs_at w _ 1 b rfl, allocs_at w _ 2 c rfl, allocs_at w _ 3 d rfl⟩
theorem five_blocks (w : World) (a b c d e : Obj) : ∃ W, W = (((((w.alloc a).alloc b).alloc c).alloc d).alloc e) ∧ W.heap.size = w.heap.size + 5 ∧ Kept [] w W ∧ W.heap[w.heap.size]? = some a ∧ W.heap[w.heap.size + 1]? = some b ∧ W.heap[w.heap.size + 2]? = some c ∧ W.heap[w.heap.size + 3]? = some d ∧ W.heap[w.heap.size + 4]? = some e :=
 ⟨allocs w [a, b, c, d, e], rfl, by rw [allocs_heap]; simp, allocs_kept _ _, allocs_at w _ 0 a rfl, allocs_at w _ 1 b rfl, allocs_at w _ 2 c rfl, allocs_at w _ 3 d rfl, allocs_at w _ 4 e rfl⟩
theorem raw_slis {z N : Nat} {k : List UInt8} {w : World} (h : Raw z N k w) (hk : k.length = N) (hN : N ≤ 1000000) : SlIs w 1 (some ⟨z, 0, none⟩) N (Lib.byteCells k):=by
 refine ⟨by rw [Lib.byteCells_length]; omega, by omega, fun _ => ⟨z, 0, rfl, fun i v hv => ?_⟩⟩
 obtain ⟨b, hb, rfl⟩ : ∃ b, k[i]? = some b ∧ v = .int .u8 (b.toNat : Int):=by
  simp only [Lib.byteCells, List.getElem?_map] at hv
  obtain ⟨b, hb, rfl⟩:=Option.map_eq_some_iff.1 hv
  exact ⟨b, hb, rfl⟩
 rw [Nat.zero_add]
 exact h.get hb
/-- What StepsWrite leaves. -/
def WroteR (f : List UInt8) (N : Nat) (w : World) (e : Ending) (w' : World) : Prop:=∃ a c, e = .returned (.tuple #[.slice (some a) N c, .bool true]) ∧ SlIs w' 1 (some a) N (Lib.byteCells f) ∧ w.heap.size ≤ a.block ∧ a.block < w'.heap.size ∧ N ≤ c ∧ Kept [] w w'
theorem stepsSize_any (fl : Bool) (A : Option Addr) (c : Nat) (l : List St) (w : World) (hl : l.length ≤ 20) (hr : ∀ x ∈ l, RightB x) (hA : StsAt (· < w.heap.size) w A l) : Calls Tryz.prog 22 #[.slice A l.length c, .bool fl] w (fun e w' => e = .returned (.tuple #[.int .i64 (stepsB fl l).length, .bool true]) ∧ Kept [] w w'):=by
 have HA:=lh hA
 have HR:=lh hr
 have hmf : ∀ (fn : Fn) (first cap : Array Value) (w : World), (Instr.makeFunc fn first cap).run Tryz.prog w = .ok (.func fn first cap) w:=fun _ _ _ _ => rfl
 have HCAP:=lh (stepsB_le fl l hr)
 have hcl0:=fun (W : World) (bl bf bo bok : Nat) (hk : Kept [] w W) => closure50 fl A c l bl bf bo bok W hl hr (sts_stable hA hk)
 obtain ⟨n, hn⟩ : ∃ n, l.length = n:=⟨_, rfl⟩
 rw [hn] at hl hcl0 ⊢
 have HN:=lh hn
 obtain ⟨fb, hfb⟩ : ∃ fb, stepsB fl l = fb:=⟨_, rfl⟩
 obtain ⟨N, hNN⟩ : ∃ N, fb.length = N:=⟨_, rfl⟩
 rw [hfb, hNN] at HCAP ⊢
 have HFL:=lh hfb
 have HFB:=lh hNN
 clear hfb hNN
 have HCL0:=lh hcl0
 clear hA hr hcl0 hn
 go_enter Tryz.func22, Tryz.ntmps22
 go_wp2_with fail
 obtain ⟨W5, hW5, hs5, hK5, b0, b1, b2, b3⟩:=four_blocks w (Obj.cells #[Value.slice A n c] 40) (Obj.cells #[Value.bool fl] 4) (Obj.cells #[Value.int IntKind.i64 0] 3) (Obj.cells #[Value.bool false] 4)
 rw [← hW5]
 obtain ⟨z, hz⟩ : ∃ z, w.heap.size = z:=⟨_, rfl⟩
 rw [hz] at hs5 b0 b1 b2 b3 ⊢
 have HZ:=lh hz
 clear hW5
 simp only [Nat.add_assoc, Nat.reduceAdd]
 obtain ⟨W6, hW6⟩ : ∃ W6, W6 = W5.alloc (.cells #[.bool false] 4):=⟨_, rfl⟩
 have hK6 : Kept [] W5 W6:=by rw [hW6]; exact (Kept.refl _ _).alloc _
 have hcell : ∀ {k : Nat} {v : Value} {t : TypeId}, W5.heap[k]? = some (.cells #[v] t (0, 0)) → W6.cell? ⟨k, 0, none⟩ = some v:=fun h => by have:=hK6.heap h (by simp); simp [World.cell?, this]
 have hcl:=HCL0.out W6 z (z + 1) (z + 2) (z + 3) (hK5.trans0 hK6) (hcell b0) (hcell b1) (hK6.heap b2 (by simp)) (hK6.heap b3 (by simp)) (by omega)
 have h6 : W6.heap[z + 4]? = some (.cells #[.bool false] 4 (0, 0)):=by rw [hW6, ← hs5, heap_alloc_new]
 have hcf : ∀ (args : Array Value) (w : World), (callFunc 50 args).run Tryz.prog w = .ok (.enter 50 args) w:=enters_of Tryz.func50 (by kernel_rfl) rfl
 rw [hW6] at hcl
 have hsafe:=safe_any 50 _ W5 _ (fun W => hcf _ W) hcl (fun W' hR => by
  have hk:=hR.2.2
  rw [hs5]
  refine hk.heap ?_ (by simp)
  rw [← hs5, heap_alloc_new])
 refine hsafe.mono ?_
 rintro e w7 ⟨rfl, W', ⟨hb2, hb3, hk⟩, hk7⟩
 rw [hs5] at hk7
 have hb2':=hk7.heap hb2 (by simp)
 have hb3':=hk7.heap hb3 (by simp)
 rw [← hW6] at hk
 have hkw7 : Kept [] w w7:=(((hK5.trans0 hK6).trans hk (fun x hx => .inr (by simp at hx; omega)))).trans hk7 (fun x hx => .inr (by simp at hx; omega))
 rw [HFL.out, HFB.out] at hb2'
 have HKW:=lh hkw7
 have HB2:=lh hb2'
 have HB3:=lh hb3'
 have c2 : w7.cell? ⟨z + 2, 0, none⟩ = some (.int .i64 N):=by simp [World.cell?, hb2']
 have c3 : w7.cell? ⟨z + 3, 0, none⟩ = some (.bool true):=by simp [World.cell?, hb3']
 have g2 : w7.frozen? ⟨z + 2, 0, none⟩ = false:=by simp [World.frozen?, hb2']
 have g3 : w7.frozen? ⟨z + 3, 0, none⟩ = false:=by simp [World.frozen?, hb3']
 have HSZ7 : Hid (z + 4 ≤ w7.heap.size):=lh (by have:=(Array.getElem?_eq_some_iff.1 hb3').1; omega)
 clear hk hk7 hb2 hb3 hkw7 hcl hsafe b0 b1 b2 b3 hb2' hb3' h6 hcf hW6 hK5 hK6 hcell HCL0 HA HR
 go_wp2
 have e4:=heap_setCell_same w7 (z + 2) 0 _ 3 (.int .i64 N) HB2.out
 have e5 : (w7.setCell ⟨z + 2, 0, none⟩ (.int .i64 N)).heap[z + 3]? = some (.cells #[.bool true] 4 (0, 0)):=by
  rw [heap_setCell_other _ _ _ _ (by simp)]
  exact HB3.out
 have e5':=heap_setCell_same _ (z + 3) 0 _ 4 (.bool true) e5
 have e4' : ((w7.setCell ⟨z + 2, 0, none⟩ (.int .i64 N)).setCell ⟨z + 3, 0, none⟩ (.bool true)).heap[z + 2]? = some (.cells #[.int .i64 N] 3 (0, 0)):=by
  rw [heap_setCell_other _ _ _ _ (by simp)]
  exact e4
 have hK : Kept [z + 2, z + 3] w7 ((w7.setCell ⟨z + 2, 0, none⟩ (.int .i64 N)).setCell ⟨z + 3, 0, none⟩ (.bool true)):=((Kept.refl _ _).setCell (.inl (by simp)) _).setCell (.inl (by simp)) _
 obtain ⟨w9, hw9⟩ : ∃ w9, (w7.setCell ⟨z + 2, 0, none⟩ (.int .i64 N)).setCell ⟨z + 3, 0, none⟩ (.bool true) = w9:=⟨_, rfl⟩
 rw [hw9] at e4' e5' hK ⊢
 have r4 : w9.cell? ⟨z + 2, 0, none⟩ = some (.int .i64 N):=by simp [World.cell?, e4']
 have r5 : w9.cell? ⟨z + 3, 0, none⟩ = some (.bool true):=by simp [World.cell?, e5']
 clear hw9 e4 e5 e4' e5' hmf
 have hz9:=HZ.out
 have hkf : Kept [] w w9:=HKW.out.trans hK (fun x hx => .inr (by simp at hx; omega))
 refine bodyPost_ret (v:=.tuple #[.int .i64 N, .bool true]) (by simp [results, Tryz.results22, go_sem, r4, r5]) rfl ?_
 exact ⟨rfl, hkf⟩
theorem stepsWrite_any (fl : Bool) (A : Option Addr) (c : Nat) (l : List St) (w : World) (hl : l.length ≤ 20) (hr : ∀ x ∈ l, RightB x) (hA : StsAt (· < w.heap.size) w A l) : Calls Tryz.prog 23 #[.slice A l.length c, .bool fl] w (WroteR (stepsB fl l) (stepsB fl l).length w):=by
 have HA:=lh hA
 have HR:=lh hr
 have hmf : ∀ (fn : Fn) (first cap : Array Value) (w : World), (Instr.makeFunc fn first cap).run Tryz.prog w = .ok (.func fn first cap) w:=fun _ _ _ _ => rfl
 have HCAP:=lh (stepsB_le fl l hr)
 have hcl0:=fun (W : World) (bl bf bo bok : Nat) (hk : Kept [] w W) => closure52 fl A c l bl bf bo bok W hl hr (sts_stable hA hk)
 obtain ⟨n, hn⟩ : ∃ n, l.length = n:=⟨_, rfl⟩
 rw [hn] at hl hcl0 ⊢
 have HN:=lh hn
 obtain ⟨fb, hfb⟩ : ∃ fb, stepsB fl l = fb:=⟨_, rfl⟩
 obtain ⟨N, hNN⟩ : ∃ N, fb.length = N:=⟨_, rfl⟩
 rw [hfb, hNN] at HCAP ⊢
 have HFL:=lh hfb
 have HFB:=lh hNN
 clear hfb hNN
 have HCL0:=lh hcl0
 clear hA hr hcl0 hn
 go_enter Tryz.func23, Tryz.ntmps23
 go_wp2_with fail
 obtain ⟨W5, hW5, hs5, hK5, b0, b1, b2, b3⟩:=four_blocks w (Obj.cells #[Value.slice A n c] 40) (Obj.cells #[Value.bool fl] 4) (Obj.cells #[Value.slice none 0 0] 34) (Obj.cells #[Value.bool false] 4)
 rw [← hW5]
 obtain ⟨z, hz⟩ : ∃ z, w.heap.size = z:=⟨_, rfl⟩
 rw [hz] at hs5 b0 b1 b2 b3 ⊢
 have HZ:=lh hz
 clear hW5
 simp only [Nat.add_assoc, Nat.reduceAdd]
 obtain ⟨W6, hW6⟩ : ∃ W6, W6 = W5.alloc (.cells #[.bool false] 4):=⟨_, rfl⟩
 have hK6 : Kept [] W5 W6:=by rw [hW6]; exact (Kept.refl _ _).alloc _
 have hcell : ∀ {k : Nat} {v : Value} {t : TypeId}, W5.heap[k]? = some (.cells #[v] t (0, 0)) → W6.cell? ⟨k, 0, none⟩ = some v:=fun h => by have:=hK6.heap h (by simp); simp [World.cell?, this]
 have hcl:=HCL0.out W6 z (z + 1) (z + 2) (z + 3) (hK5.trans0 hK6) (hcell b0) (hcell b1) (hK6.heap b2 (by simp)) (hK6.heap b3 (by simp)) (by omega)
 have h6 : W6.heap[z + 4]? = some (.cells #[.bool false] 4 (0, 0)):=by rw [hW6, ← hs5, heap_alloc_new]
 have hcf : ∀ (args : Array Value) (w : World), (callFunc 52 args).run Tryz.prog w = .ok (.enter 52 args) w:=enters_of Tryz.func52 (by kernel_rfl) rfl
 rw [hW6] at hcl
 have hsafe:=safe_any 52 _ W5 _ (fun W => hcf _ W) hcl (fun W' hR => by
  have hk:=hR.2.2
  rw [hs5]
  refine hk.heap ?_ (by simp)
  rw [← hs5, heap_alloc_new])
 refine hsafe.mono ?_
 rintro e w7 ⟨rfl, W', ⟨hb2, hb3, hk⟩, hk7⟩
 rw [hs5] at hk7
 obtain ⟨zz, hb2, hzz, hraw⟩:=hb2
 have hszW6 : (W5.alloc (.cells #[.bool false] 4)).heap.size = z + 5:=by rw [alloc_size, hs5]
 rw [hszW6] at hzz
 have hraw7:=hraw.keep hk7 (by simp; omega)
 have HRAW:=lh hraw7
 clear hraw hraw7
 have hb2':=hk7.heap hb2 (by simp)
 have hb3':=hk7.heap hb3 (by simp)
 rw [← hW6] at hk
 have hkw7 : Kept [] w w7:=(((hK5.trans0 hK6).trans hk (fun x hx => .inr (by simp at hx; omega)))).trans hk7 (fun x hx => .inr (by simp at hx; omega))
 rw [HFL.out, HFB.out] at hb2' HRAW
 have HKW:=lh hkw7
 have HB2:=lh hb2'
 have HB3:=lh hb3'
 have c2 : w7.cell? ⟨z + 2, 0, none⟩ = some (.slice (some ⟨zz, 0, none⟩) N N):=by simp [World.cell?, hb2']
 have c3 : w7.cell? ⟨z + 3, 0, none⟩ = some (.bool true):=by simp [World.cell?, hb3']
 have g2 : w7.frozen? ⟨z + 2, 0, none⟩ = false:=by simp [World.frozen?, hb2']
 have g3 : w7.frozen? ⟨z + 3, 0, none⟩ = false:=by simp [World.frozen?, hb3']
 have HSZ7 : Hid (z + 4 ≤ w7.heap.size):=lh (by have:=(Array.getElem?_eq_some_iff.1 hb3').1; omega)
 clear hk hk7 hb2 hb3 hkw7 hcl hsafe b0 b1 b2 b3 hb2' hb3' h6 hcf hW6 hK5 hK6 hcell HCL0 HA HR hszW6 hzz
 have hN20 : N ≤ 1000000:=by have h8:=HCAP.out; have h9:=HN.out; omega
 have HCOPY:=lh (copied_any w7 (some ⟨zz, 0, none⟩) N N fb HFB.out hN20 (raw_slis HRAW.out HFB.out hN20))
 go_wp2_with ((with_reducible refine HCOPY.out.mono ?_); rintro e w8 ⟨a, ca, rfl, hsl, hge, hlt, hca, hk8⟩; have HSL:=lh hsl; have HGE:=lh hge; have HLT:=lh hlt; have HCA:=lh hca; have hbb2:=hk8.heap HB2.out (by simp); have hbb3:=hk8.heap HB3.out (by simp); have HBB2:=lh hbb2; have HBB3:=lh hbb3; have HK8:=lh hk8; have cc2 : w8.cell? ⟨z + 2, 0, none⟩ = some (.slice (some ⟨zz, 0, none⟩) N N):=(by simp [World.cell?, hbb2]); have cc3 : w8.cell? ⟨z + 3, 0, none⟩ = some (.bool true):=(by simp [World.cell?, hbb3]); have gg2 : w8.frozen? ⟨z + 2, 0, none⟩ = false:=(by simp [World.frozen?, hbb2]); have gg3 : w8.frozen? ⟨z + 3, 0, none⟩ = false:=(by simp [World.frozen?, hbb3]); clear hsl hge hlt hca hk8 hbb2 hbb3)
 clear c2 c3 g2 g3
 have e4:=heap_setCell_same w8 (z + 2) 0 _ 34 (.slice (some a) N ca) HBB2.out
 have e5 : (w8.setCell ⟨z + 2, 0, none⟩ (.slice (some a) N ca)).heap[z + 3]? = some (.cells #[.bool true] 4 (0, 0)):=by
  rw [heap_setCell_other _ _ _ _ (by simp)]
  exact HBB3.out
 have e5':=heap_setCell_same _ (z + 3) 0 _ 4 (.bool true) e5
 have e4' : ((w8.setCell ⟨z + 2, 0, none⟩ (.slice (some a) N ca)).setCell ⟨z + 3, 0, none⟩ (.bool true)).heap[z + 2]? = some (.cells #[.slice (some a) N ca] 34 (0, 0)):=by
  rw [heap_setCell_other _ _ _ _ (by simp)]
  exact e4
 have hK : Kept [z + 2, z + 3] w8 ((w8.setCell ⟨z + 2, 0, none⟩ (.slice (some a) N ca)).setCell ⟨z + 3, 0, none⟩ (.bool true)):=((Kept.refl _ _).setCell (.inl (by simp)) _).setCell (.inl (by simp)) _
 obtain ⟨w9, hw9⟩ : ∃ w9, (w8.setCell ⟨z + 2, 0, none⟩ (.slice (some a) N ca)).setCell ⟨z + 3, 0, none⟩ (.bool true) = w9:=⟨_, rfl⟩
 rw [hw9] at e4' e5' hK ⊢
 have r4 : w9.cell? ⟨z + 2, 0, none⟩ = some (.slice (some a) N ca):=by simp [World.cell?, e4']
 have r5 : w9.cell? ⟨z + 3, 0, none⟩ = some (.bool true):=by simp [World.cell?, e5']
 clear hw9 e4 e5 e4' e5' hmf
 have hz9:=HZ.out
 have hkf : Kept [] w w9:=(HKW.out.trans0 HK8.out).trans hK (fun x hx => .inr (by simp at hx; omega))
 refine bodyPost_ret (v:=.tuple #[.slice (some a) N ca, .bool true]) (by simp [results, Tryz.results23, go_sem, r4, r5]) rfl ?_
 have h8:=HGE.out
 have h7:=HSZ7.out
 have h6:=HLT.out
 have hs9:=hK.size
 refine ⟨a, ca, rfl, HSL.out.kept hK (fun a' e => by cases e; simp; omega), by omega, by omega, HCA.out, hkf⟩
end Go.Proofs.YtmpjikihnmagoaaGreatDoor
