/-
  What ZZSize (51) counts. Conditions: right data, twenty at most.
-/
import Derived.Test.YtmpjikihnmagoaaGreatDoorZT21
import Derived.Deep.WholeRow
set_option maxRecDepth 100000
set_option maxHeartbeats 3200000
namespace Go.Proofs.YtmpjikihnmagoaaGreatDoor
open Go.RowKit
theorem size_false (w : World) (A : Option Addr) (c : Nat) (l : List St) (hl : l.length ≤ 20) (hr : ∀ x ∈ l, RightB x) (hA : StsAt (· < w.heap.size) w A l) : Calls Tryz.prog 51 #[.slice A l.length c, .bool false] w (fun e w' => e = .returned (.tuple #[.int .i64 (stepsB false l).length, .nilIface]) ∧ Kept [] w w'):=by
 obtain ⟨n, hn⟩ : ∃ n, l.length = n:=⟨_, rfl⟩
 have hcap:=stepsB_le false l hr
 have hcap2 : (stepsB false l).length ≤ 20000:=by omega
 rw [hn] at hl ⊢
 have HN:=lh hn
 have HA:=lh hA
 have HR:=lh hr
 clear hn hA hr hcap
 have HCAP:=lh hcap2
 clear hcap2
 go_enter Tryz.func51, Tryz.ntmps51
 go_wp2
 obtain ⟨W, hW⟩ : ∃ W, (w.alloc (Obj.cells #[Value.slice none 0 0, Value.int IntKind.i64 0] 163)) = W:=⟨_, rfl⟩
 have hszW : W.heap.size = w.heap.size + 1:=by rw [← hW, alloc_size]
 have HK : Hid (Kept [] w W):=lh (by rw [← hW]; exact (Kept.refl [] w).alloc _)
 have HAT : Hid (PAt w.heap.size (.slice none 0 0) [] W):=lh (by
  rw [← hW]
  exact heap_alloc_new w (Obj.cells #[Value.slice none 0 0, Value.int IntKind.i64 0] 163))
 rw [hW]
 have HSW : Hid (∀ s ∈ [w.heap.size], s < W.heap.size):=lh (by intro s hs; have:=List.mem_singleton.1 hs; omega)
 have HSN : Hid (∀ s ∈ [w.heap.size], ¬ s < w.heap.size):=lh (by intro s hs; have:=List.mem_singleton.1 hs; omega)
 clear hW
 go_loopw [22] (fun iv wr => ∃ j : Nat, j ≤ n ∧ iv = .int .i64 j ∧ PAt w.heap.size (.slice none 0 0) (stepsB false (l.take j)) wr ∧ Kept [] w wr ∧ W.heap.size ≤ wr.heap.size) (fun iv _ => n - (intOf iv).toNat)
 case atStart => exact ⟨0, Nat.zero_le _, rfl, by simpa [stepsB] using HAT.out, HK.out, Nat.le_refl _⟩
 case round =>
  obtain ⟨j, hj, rfl, hat, hkr, hsz⟩:=hrel
  have HATR:=lh hat
  have HKR:=lh hkr
  clear hat hkr
  by_cases hlt : j < n
  ·obtain ⟨x, hx⟩ : ∃ x, l[j]? = some x:=⟨_, List.getElem?_eq_getElem (by rw [HN.out]; exact hlt)⟩
   have hkl : StsAt (· < w.heap.size) wr A l:=HA.out.kept HKR.out (fun _ _ => by simp)
   obtain ⟨b, off, A1, A2, A3, c1, c2, c3, hAe, hcc, hstv⟩:=hkl.at hx
   subst hAe
   have HCC:=lh hcc
   have HS7 : Hid (∀ s ∈ [w.heap.size], s < (wr.alloc (.cells (stCells x A1 A2 A3 c1 c2 c3).toArray 102)).heap.size):=lh (by
    intro s hs
    rw [alloc_size]
    have hsW:=HSW.out s hs
    omega)
   have HSV : Hid (StV (· ∉ [w.heap.size]) (wr.alloc (.cells (stCells x A1 A2 A3 c1 c2 c3).toArray 102)) x A1 A2 A3):=lh ((hstv.kept ((Kept.refl [] _).alloc _) (fun _ _ => by simp)).mono (fun b hb hm => HSN.out b hm hb))
   have HRX:=lh (HR.out x (List.mem_of_getElem? hx))
   have HTK:=lh (stepsB_take false hx)
   have HTL:=lh (stepsB_take_le false hx)
   clear hcc hstv hkl hx
   go_wp2_with (first
    | (refine wl_load_struct rfl 102 _ rfl Tryz.underlying102 rfl rfl b (off + j * 7) rfl (stCells x A1 A2 A3 c1 c2 c3) rfl HCC.out ?_)
    | (refine wl_store_struct rfl 102 _ _ rfl (cs:=(stCells x A1 A2 A3 c1 c2 c3).toArray) rfl _ rfl rfl 102 _ (heap_alloc_new _ _) rfl (st_ones x A1 A2 A3 c1 c2 c3) ?_; rw [World.setRow_alloc_new])
    | (refine wl_load_struct rfl 102 _ rfl Tryz.underlying102 rfl rfl wr.heap.size 0 rfl (stCells x A1 A2 A3 c1 c2 c3) rfl (new_cells wr (stCells x A1 A2 A3 c1 c2 c3) 102) ?_)
    | ((with_reducible refine (put_any (enc_prep w.heap.size (.slice none 0 0)) x HRX.out A1 A2 A3 c1 c2 c3 _ HSV.out (stepsB false (l.take j)) HS7.out ((enc_prep w.heap.size (.slice none 0 0)).keep _ _ _ HATR.out ((Kept.refl [] _).alloc _)) (by have h8:=HTL.out; have h9:=HCAP.out; omega)).mono ?_); rintro e w2 ⟨rfl, ha2, hk2⟩; have HA2:=lh ha2; have HK2:=lh ((HKR.out.alloc _).trans hk2 (fun s hs => .inr (by have h9:=HSN.out s hs; omega))); have hsz2:=hk2.size; rw [alloc_size] at hsz2; clear ha2 hk2))
   go_roundw
   case rel =>
    refine ⟨j + 1, by omega, by go_num, ?_, HK2.out, by omega⟩
    rw [HTK.out]
    exact HA2.out
   case measure => (simp [intOf]) <;> omega
  ·have e : l.take j = l:=List.take_of_length_le (by rw [HN.out]; omega)
   rw [e] at HATR
   clear e
   have hc1:=PrepAt.cell (show PrepAt w.heap.size (.slice none 0 0) (stepsB false l).length wr from HATR.out)
   go_wp2
   exact bodyPost_ret (results_tmp2 rfl _ _ _) rfl ⟨rfl, HKR.out⟩
theorem size_true (w : World) (A : Option Addr) (c : Nat) (l : List St) (hl : l.length ≤ 20) (hr : ∀ x ∈ l, RightB x) (hA : StsAt (· < w.heap.size) w A l) : Calls Tryz.prog 51 #[.slice A l.length c, .bool true] w (fun e w' => e = .returned (.tuple #[.int .i64 (stepsB true l).length, .nilIface]) ∧ Kept [] w w'):=by
 obtain ⟨n, hn⟩ : ∃ n, l.length = n:=⟨_, rfl⟩
 have hcap:=stepsB_le true l hr
 have hcap2 : (stepsB true l).length ≤ 20000:=by omega
 rw [hn] at hl ⊢
 have HN:=lh hn
 have HA:=lh hA
 have HR:=lh hr
 clear hn hA hr hcap
 have HCAP:=lh hcap2
 clear hcap2
 go_enter Tryz.func51, Tryz.ntmps51
 go_wp2
 obtain ⟨W, hW⟩ : ∃ W, (w.alloc (Obj.cells #[Value.slice none 0 0, Value.int IntKind.i64 0] 163)).alloc (Obj.cells #[Value.pointer (some ⟨w.heap.size, 0, none⟩)] 168) = W:=⟨_, rfl⟩
 have hszW : W.heap.size = w.heap.size + 2:=by rw [← hW, alloc_size, alloc_size]
 have HK : Hid (Kept [] w W):=lh (by rw [← hW]; exact ((Kept.refl [] w).alloc _).alloc _)
 have HAT : Hid (FPAt (w.heap.size + 1) w.heap.size (.slice none 0 0) [] W):=lh (by
  rw [← hW]
  refine ⟨⟨?_, by omega⟩, ?_⟩
  ·have h1:=heap_alloc_new (w.alloc (Obj.cells #[Value.slice none 0 0, Value.int IntKind.i64 0] 163)) (Obj.cells #[Value.pointer (some ⟨w.heap.size, 0, none⟩)] 168)
   rw [alloc_size] at h1
   exact h1
  ·exact ((Kept.refl [] _).alloc _).heap (heap_alloc_new w (Obj.cells #[Value.slice none 0 0, Value.int IntKind.i64 0] 163)) (by simp))
 rw [hW]
 have HSW : Hid (∀ s ∈ [w.heap.size], s < W.heap.size):=lh (by intro s hs; have:=List.mem_singleton.1 hs; omega)
 have HSN : Hid (∀ s ∈ [w.heap.size], ¬ s < w.heap.size):=lh (by intro s hs; have:=List.mem_singleton.1 hs; omega)
 clear hW
 go_loopw [22] (fun iv wr => ∃ j : Nat, j ≤ n ∧ iv = .int .i64 j ∧ FPAt (w.heap.size + 1) w.heap.size (.slice none 0 0) (stepsB true (l.take j)) wr ∧ Kept [] w wr ∧ W.heap.size ≤ wr.heap.size) (fun iv _ => n - (intOf iv).toNat)
 case atStart => exact ⟨0, Nat.zero_le _, rfl, by simpa [stepsB] using HAT.out, HK.out, Nat.le_refl _⟩
 case round =>
  obtain ⟨j, hj, rfl, hat, hkr, hsz⟩:=hrel
  have HATR:=lh hat
  have HKR:=lh hkr
  clear hat hkr
  by_cases hlt : j < n
  ·obtain ⟨x, hx⟩ : ∃ x, l[j]? = some x:=⟨_, List.getElem?_eq_getElem (by rw [HN.out]; exact hlt)⟩
   have hkl : StsAt (· < w.heap.size) wr A l:=HA.out.kept HKR.out (fun _ _ => by simp)
   obtain ⟨b, off, A1, A2, A3, c1, c2, c3, hAe, hcc, hstv⟩:=hkl.at hx
   subst hAe
   have HCC:=lh hcc
   have HS7 : Hid (∀ s ∈ [w.heap.size], s < (wr.alloc (.cells (stCells x A1 A2 A3 c1 c2 c3).toArray 102)).heap.size):=lh (by
    intro s hs
    rw [alloc_size]
    have hsW:=HSW.out s hs
    omega)
   have HSV : Hid (StV (· ∉ [w.heap.size]) (wr.alloc (.cells (stCells x A1 A2 A3 c1 c2 c3).toArray 102)) x A1 A2 A3):=lh ((hstv.kept ((Kept.refl [] _).alloc _) (fun _ _ => by simp)).mono (fun b hb hm => HSN.out b hm hb))
   have HRX:=lh (HR.out x (List.mem_of_getElem? hx))
   have HTK:=lh (stepsB_take true hx)
   have HTL:=lh (stepsB_take_le true hx)
   clear hcc hstv hkl hx
   go_wp2_with (first
    | (refine wl_load_struct rfl 102 _ rfl Tryz.underlying102 rfl rfl b (off + j * 7) rfl (stCells x A1 A2 A3 c1 c2 c3) rfl HCC.out ?_)
    | (refine wl_store_struct rfl 102 _ _ rfl (cs:=(stCells x A1 A2 A3 c1 c2 c3).toArray) rfl _ rfl rfl 102 _ (heap_alloc_new _ _) rfl (st_ones x A1 A2 A3 c1 c2 c3) ?_; rw [World.setRow_alloc_new])
    | (refine wl_load_struct rfl 102 _ rfl Tryz.underlying102 rfl rfl wr.heap.size 0 rfl (stCells x A1 A2 A3 c1 c2 c3) rfl (new_cells wr (stCells x A1 A2 A3 c1 c2 c3) 102) ?_)
    | ((with_reducible refine (put_any (enc_pf (w.heap.size + 1) w.heap.size (.slice none 0 0)) x HRX.out A1 A2 A3 c1 c2 c3 _ HSV.out (stepsB true (l.take j)) HS7.out ((enc_pf (w.heap.size + 1) w.heap.size (.slice none 0 0)).keep _ _ _ HATR.out ((Kept.refl [] _).alloc _)) (by have h8:=HTL.out; have h9:=HCAP.out; omega)).mono ?_); rintro e w2 ⟨rfl, ha2, hk2⟩; have HA2:=lh ha2; have HK2:=lh ((HKR.out.alloc _).trans hk2 (fun s hs => .inr (by have h9:=HSN.out s hs; omega))); have hsz2:=hk2.size; rw [alloc_size] at hsz2; clear ha2 hk2))
   go_roundw
   case rel =>
    refine ⟨j + 1, by omega, by go_num, ?_, HK2.out, by omega⟩
    rw [HTK.out]
    exact HA2.out
   case measure => (simp [intOf]) <;> omega
  ·have e : l.take j = l:=List.take_of_length_le (by rw [HN.out]; omega)
   rw [e] at HATR
   clear e
   have hc1:=PrepAt.cell (show PrepAt w.heap.size (.slice none 0 0) (stepsB true l).length wr from HATR.out.2)
   go_wp2
   exact bodyPost_ret (results_tmp2 rfl _ _ _) rfl ⟨rfl, HKR.out⟩
end Go.Proofs.YtmpjikihnmagoaaGreatDoor
/-
 What ZZWrite (53) writes. Conditions: right data, twenty at most.
-/
namespace Go.Proofs.YtmpjikihnmagoaaGreatDoor
open Go.RowKit
theorem write_false (w : World) (A : Option Addr) (c : Nat) (l : List St) (hl : l.length ≤ 20) (hr : ∀ x ∈ l, RightB x) (hA : StsAt (· < w.heap.size) w A l) : Calls Tryz.prog 53 #[.slice A l.length c, .bool false] w (fun e w' => ∃ z, e = .returned (.tuple #[.slice (some ⟨z, 0, none⟩) (stepsB false l).length (stepsB false l).length, .nilIface]) ∧ w.heap.size ≤ z ∧ Raw z (stepsB false l).length (stepsB false l) w' ∧ Kept [] w w'):=by
 have HSIZE:=lh (size_false w A c l hl hr hA)
 obtain ⟨n, hn⟩ : ∃ n, l.length = n:=⟨_, rfl⟩
 have hcap:=stepsB_le false l hr
 have hcap2 : (stepsB false l).length ≤ 20000:=by omega
 rw [hn] at hl ⊢
 have HN:=lh hn
 have HA:=lh hA
 have HR:=lh hr
 clear hn hA hr hcap
 obtain ⟨N, hNN⟩ : ∃ N, (stepsB false l).length = N:=⟨_, rfl⟩
 rw [hNN] at hcap2
 rw [HN.out, hNN] at HSIZE
 rw [hNN]
 have HCAP : Hid ((stepsB false l).length ≤ N):=lh (by omega)
 have HCAP1 : Hid ((stepsB false l).length = N):=lh hNN
 have HN100 : Hid (N ≤ 100000):=lh (by omega)
 have hN0 : ¬ (N : Int) < 0:=by omega
 have hN1 : ¬ (104857600 : Int) < (N : Int):=by omega
 have hN2 : ¬ 104857600 < N:=by omega
 obtain ⟨cs, hcs, hmk⟩:=mk_row34 N (by omega)
 have HCS:=lh hcs
 clear hcs hNN
 go_enter Tryz.func53, Tryz.ntmps53
 go_wp2_with ((with_reducible refine HSIZE.out.mono ?_); rintro e w1 ⟨rfl, hk1⟩; have HK1:=lh hk1; clear hk1)
 obtain ⟨W, hW⟩ : ∃ W, ((w1.alloc (Obj.cells cs 5 (0, 0))).alloc (Obj.cells #[Value.slice (some ⟨w1.heap.size, 0, none⟩) N N, Value.int IntKind.i64 0, Value.slice none 0 0] 174)) = W:=⟨_, rfl⟩
 have hszW : W.heap.size = w1.heap.size + 2:=by rw [← hW, alloc_size, alloc_size]
 have HK : Hid (Kept [] w W):=lh (by rw [← hW]; exact (HK1.out.alloc _).alloc _)
 have HAT : Hid (RealAt (w1.heap.size + 1) w1.heap.size N (.slice none 0 0) [] W):=lh (by
  rw [← hW]
  have hr0:=((Kept.refl [] _).alloc (Obj.cells #[Value.slice (some ⟨w1.heap.size, 0, none⟩) N N, Value.int IntKind.i64 0, Value.slice none 0 0] 174)).heap (heap_alloc_new w1 (Obj.cells cs 5 (0, 0))) (by simp)
  have hp0:=heap_alloc_new (w1.alloc (Obj.cells cs 5 (0, 0))) (Obj.cells #[Value.slice (some ⟨w1.heap.size, 0, none⟩) N N, Value.int IntKind.i64 0, Value.slice none 0 0] 174)
  rw [alloc_size] at hp0
  exact ⟨hp0, ⟨cs, hr0, HCS.out, by simp, fun j b hj => by simp at hj⟩, by omega⟩)
 rw [hW]
 have hw1:=HK1.out.size
 have HZ1 : Hid (w.heap.size ≤ w1.heap.size):=lh hw1
 have HSW : Hid (∀ s ∈ [(w1.heap.size + 1), w1.heap.size], s < W.heap.size):=lh (by intro s hs; simp at hs; omega)
 have HSN : Hid (∀ s ∈ [(w1.heap.size + 1), w1.heap.size], ¬ s < w.heap.size):=lh (by intro s hs; simp at hs; omega)
 clear hW hmk hcap2 hw1 hN0 hN1 hN2 HCS HSIZE
 go_loopw [43] (fun iv wr => ∃ j : Nat, j ≤ n ∧ iv = .int .i64 j ∧ RealAt (w1.heap.size + 1) w1.heap.size N (.slice none 0 0) (stepsB false (l.take j)) wr ∧ Kept [] w wr ∧ W.heap.size ≤ wr.heap.size) (fun iv _ => n - (intOf iv).toNat)
 case atStart => exact ⟨0, Nat.zero_le _, rfl, by simpa [stepsB] using HAT.out, HK.out, Nat.le_refl _⟩
 case round =>
  obtain ⟨j, hj, rfl, hat, hkr, hsz⟩:=hrel
  have HATR:=lh hat
  have HKR:=lh hkr
  clear hat hkr
  by_cases hlt : j < n
  ·obtain ⟨x, hx⟩ : ∃ x, l[j]? = some x:=⟨_, List.getElem?_eq_getElem (by rw [HN.out]; exact hlt)⟩
   have hkl : StsAt (· < w.heap.size) wr A l:=HA.out.kept HKR.out (fun _ _ => by simp)
   obtain ⟨b, off, A1, A2, A3, c1, c2, c3, hAe, hcc, hstv⟩:=hkl.at hx
   subst hAe
   have HCC:=lh hcc
   have HS7 : Hid (∀ s ∈ [(w1.heap.size + 1), w1.heap.size], s < (wr.alloc (.cells (stCells x A1 A2 A3 c1 c2 c3).toArray 102)).heap.size):=lh (by
    intro s hs
    rw [alloc_size]
    have hsW:=HSW.out s hs
    omega)
   have HSV : Hid (StV (· ∉ [(w1.heap.size + 1), w1.heap.size]) (wr.alloc (.cells (stCells x A1 A2 A3 c1 c2 c3).toArray 102)) x A1 A2 A3):=lh ((hstv.kept ((Kept.refl [] _).alloc _) (fun _ _ => by simp)).mono (fun b hb hm => HSN.out b hm hb))
   have HRX:=lh (HR.out x (List.mem_of_getElem? hx))
   have HTK:=lh (stepsB_take false hx)
   have HTL:=lh (stepsB_take_le false hx)
   clear hcc hstv hkl hx
   go_wp2_with (first
    | (refine wl_load_struct rfl 102 _ rfl Tryz.underlying102 rfl rfl b (off + j * 7) rfl (stCells x A1 A2 A3 c1 c2 c3) rfl HCC.out ?_)
    | (refine wl_store_struct rfl 102 _ _ rfl (cs:=(stCells x A1 A2 A3 c1 c2 c3).toArray) rfl _ rfl rfl 102 _ (heap_alloc_new _ _) rfl (st_ones x A1 A2 A3 c1 c2 c3) ?_; rw [World.setRow_alloc_new])
    | (refine wl_load_struct rfl 102 _ rfl Tryz.underlying102 rfl rfl wr.heap.size 0 rfl (stCells x A1 A2 A3 c1 c2 c3) rfl (new_cells wr (stCells x A1 A2 A3 c1 c2 c3) 102) ?_)
    | ((with_reducible refine (put_any (enc_real (w1.heap.size + 1) w1.heap.size N (.slice none 0 0) HN100.out) x HRX.out A1 A2 A3 c1 c2 c3 _ HSV.out (stepsB false (l.take j)) HS7.out ((enc_real (w1.heap.size + 1) w1.heap.size N (.slice none 0 0) HN100.out).keep _ _ _ HATR.out ((Kept.refl [] _).alloc _)) (by have h8:=HTL.out; have h9:=HCAP.out; omega)).mono ?_); rintro e w2 ⟨rfl, ha2, hk2⟩; have HA2:=lh ha2; have HK2:=lh ((HKR.out.alloc _).trans hk2 (fun s hs => .inr (by have h9:=HSN.out s hs; omega))); have hsz2:=hk2.size; rw [alloc_size] at hsz2; clear ha2 hk2))
   go_roundw
   case rel =>
    refine ⟨j + 1, by omega, by go_num, ?_, HK2.out, by omega⟩
    rw [HTK.out]
    exact HA2.out
   case measure => (simp [intOf]) <;> omega
  ·have e : l.take j = l:=List.take_of_length_le (by rw [HN.out]; omega)
   rw [e] at HATR
   clear e
   have hra : RealAt (w1.heap.size + 1) w1.heap.size N (.slice none 0 0) (stepsB false l) wr:=HATR.out
   have hc0:=hra.cell0
   have HRAW:=lh hra.2.1
   clear hra
   go_wp2
   exact bodyPost_ret (results_tmp2 rfl _ _ _) rfl ⟨w1.heap.size, rfl, HZ1.out, HRAW.out, HKR.out⟩
theorem write_true (w : World) (A : Option Addr) (c : Nat) (l : List St) (hl : l.length ≤ 20) (hr : ∀ x ∈ l, RightB x) (hA : StsAt (· < w.heap.size) w A l) : Calls Tryz.prog 53 #[.slice A l.length c, .bool true] w (fun e w' => ∃ z, e = .returned (.tuple #[.slice (some ⟨z, 0, none⟩) (stepsB true l).length (stepsB true l).length, .nilIface]) ∧ w.heap.size ≤ z ∧ Raw z (stepsB true l).length (stepsB true l) w' ∧ Kept [] w w'):=by
 have HSIZE:=lh (size_true w A c l hl hr hA)
 obtain ⟨n, hn⟩ : ∃ n, l.length = n:=⟨_, rfl⟩
 have hcap:=stepsB_le true l hr
 have hcap2 : (stepsB true l).length ≤ 20000:=by omega
 rw [hn] at hl ⊢
 have HN:=lh hn
 have HA:=lh hA
 have HR:=lh hr
 clear hn hA hr hcap
 obtain ⟨N, hNN⟩ : ∃ N, (stepsB true l).length = N:=⟨_, rfl⟩
 rw [hNN] at hcap2
 rw [HN.out, hNN] at HSIZE
 rw [hNN]
 have HCAP : Hid ((stepsB true l).length ≤ N):=lh (by omega)
 have HCAP1 : Hid ((stepsB true l).length = N):=lh hNN
 have HN100 : Hid (N ≤ 100000):=lh (by omega)
 have hN0 : ¬ (N : Int) < 0:=by omega
 have hN1 : ¬ (104857600 : Int) < (N : Int):=by omega
 have hN2 : ¬ 104857600 < N:=by omega
 obtain ⟨cs, hcs, hmk⟩:=mk_row34 N (by omega)
 have HCS:=lh hcs
 clear hcs hNN
 go_enter Tryz.func53, Tryz.ntmps53
 go_wp2_with ((with_reducible refine HSIZE.out.mono ?_); rintro e w1 ⟨rfl, hk1⟩; have HK1:=lh hk1; clear hk1)
 obtain ⟨W, hW⟩ : ∃ W, ((w1.alloc (Obj.cells cs 5 (0, 0))).alloc (Obj.cells #[Value.slice (some ⟨w1.heap.size, 0, none⟩) N N, Value.int IntKind.i64 0, Value.slice none 0 0] 174)).alloc (Obj.cells #[Value.pointer (some ⟨w1.heap.size + 1, 0, none⟩)] 177) = W:=⟨_, rfl⟩
 have hszW : W.heap.size = w1.heap.size + 3:=by rw [← hW, alloc_size, alloc_size, alloc_size]
 have HK : Hid (Kept [] w W):=lh (by rw [← hW]; exact ((HK1.out.alloc _).alloc _).alloc _)
 have HAT : Hid (FRAt (w1.heap.size + 1 + 1) (w1.heap.size + 1) w1.heap.size N (.slice none 0 0) [] W):=lh (by
  rw [← hW]
  have hr0:=((((Kept.refl [] _).alloc (Obj.cells #[Value.slice (some ⟨w1.heap.size, 0, none⟩) N N, Value.int IntKind.i64 0, Value.slice none 0 0] 174))).alloc (Obj.cells #[Value.pointer (some ⟨w1.heap.size + 1, 0, none⟩)] 177)).heap (heap_alloc_new w1 (Obj.cells cs 5 (0, 0))) (by simp)
  have hp0:=heap_alloc_new (w1.alloc (Obj.cells cs 5 (0, 0))) (Obj.cells #[Value.slice (some ⟨w1.heap.size, 0, none⟩) N N, Value.int IntKind.i64 0, Value.slice none 0 0] 174)
  rw [alloc_size] at hp0
  have hq0:=heap_alloc_new ((w1.alloc (Obj.cells cs 5 (0, 0))).alloc (Obj.cells #[Value.slice (some ⟨w1.heap.size, 0, none⟩) N N, Value.int IntKind.i64 0, Value.slice none 0 0] 174)) (Obj.cells #[Value.pointer (some ⟨w1.heap.size + 1, 0, none⟩)] 177)
  rw [alloc_size, alloc_size] at hq0
  exact ⟨⟨hq0, by omega⟩, ⟨((Kept.refl [] _).alloc (Obj.cells #[Value.pointer (some ⟨w1.heap.size + 1, 0, none⟩)] 177)).heap hp0 (by simp), ⟨cs, hr0, HCS.out, by simp, fun j b hj => by simp at hj⟩, by omega⟩⟩)
 rw [hW]
 have hw1:=HK1.out.size
 have HZ1 : Hid (w.heap.size ≤ w1.heap.size):=lh hw1
 have HSW : Hid (∀ s ∈ [(w1.heap.size + 1), w1.heap.size], s < W.heap.size):=lh (by intro s hs; simp at hs; omega)
 have HSN : Hid (∀ s ∈ [(w1.heap.size + 1), w1.heap.size], ¬ s < w.heap.size):=lh (by intro s hs; simp at hs; omega)
 clear hW hmk hcap2 hw1 hN0 hN1 hN2 HCS HSIZE
 go_loopw [43] (fun iv wr => ∃ j : Nat, j ≤ n ∧ iv = .int .i64 j ∧ FRAt (w1.heap.size + 1 + 1) (w1.heap.size + 1) w1.heap.size N (.slice none 0 0) (stepsB true (l.take j)) wr ∧ Kept [] w wr ∧ W.heap.size ≤ wr.heap.size) (fun iv _ => n - (intOf iv).toNat)
 case atStart => exact ⟨0, Nat.zero_le _, rfl, by simpa [stepsB] using HAT.out, HK.out, Nat.le_refl _⟩
 case round =>
  obtain ⟨j, hj, rfl, hat, hkr, hsz⟩:=hrel
  have HATR:=lh hat
  have HKR:=lh hkr
  clear hat hkr
  by_cases hlt : j < n
  ·obtain ⟨x, hx⟩ : ∃ x, l[j]? = some x:=⟨_, List.getElem?_eq_getElem (by rw [HN.out]; exact hlt)⟩
   have hkl : StsAt (· < w.heap.size) wr A l:=HA.out.kept HKR.out (fun _ _ => by simp)
   obtain ⟨b, off, A1, A2, A3, c1, c2, c3, hAe, hcc, hstv⟩:=hkl.at hx
   subst hAe
   have HCC:=lh hcc
   have HS7 : Hid (∀ s ∈ [(w1.heap.size + 1), w1.heap.size], s < (wr.alloc (.cells (stCells x A1 A2 A3 c1 c2 c3).toArray 102)).heap.size):=lh (by
    intro s hs
    rw [alloc_size]
    have hsW:=HSW.out s hs
    omega)
   have HSV : Hid (StV (· ∉ [(w1.heap.size + 1), w1.heap.size]) (wr.alloc (.cells (stCells x A1 A2 A3 c1 c2 c3).toArray 102)) x A1 A2 A3):=lh ((hstv.kept ((Kept.refl [] _).alloc _) (fun _ _ => by simp)).mono (fun b hb hm => HSN.out b hm hb))
   have HRX:=lh (HR.out x (List.mem_of_getElem? hx))
   have HTK:=lh (stepsB_take true hx)
   have HTL:=lh (stepsB_take_le true hx)
   clear hcc hstv hkl hx
   go_wp2_with (first
    | (refine wl_load_struct rfl 102 _ rfl Tryz.underlying102 rfl rfl b (off + j * 7) rfl (stCells x A1 A2 A3 c1 c2 c3) rfl HCC.out ?_)
    | (refine wl_store_struct rfl 102 _ _ rfl (cs:=(stCells x A1 A2 A3 c1 c2 c3).toArray) rfl _ rfl rfl 102 _ (heap_alloc_new _ _) rfl (st_ones x A1 A2 A3 c1 c2 c3) ?_; rw [World.setRow_alloc_new])
    | (refine wl_load_struct rfl 102 _ rfl Tryz.underlying102 rfl rfl wr.heap.size 0 rfl (stCells x A1 A2 A3 c1 c2 c3) rfl (new_cells wr (stCells x A1 A2 A3 c1 c2 c3) 102) ?_)
    | ((with_reducible refine (put_any (enc_rf (w1.heap.size + 1 + 1) (w1.heap.size + 1) w1.heap.size N (.slice none 0 0) (by omega) HN100.out) x HRX.out A1 A2 A3 c1 c2 c3 _ HSV.out (stepsB true (l.take j)) HS7.out ((enc_rf (w1.heap.size + 1 + 1) (w1.heap.size + 1) w1.heap.size N (.slice none 0 0) (by omega) HN100.out).keep _ _ _ HATR.out ((Kept.refl [] _).alloc _)) (by have h8:=HTL.out; have h9:=HCAP.out; omega)).mono ?_); rintro e w2 ⟨rfl, ha2, hk2⟩; have HA2:=lh ha2; have HK2:=lh ((HKR.out.alloc _).trans hk2 (fun s hs => .inr (by have h9:=HSN.out s hs; omega))); have hsz2:=hk2.size; rw [alloc_size] at hsz2; clear ha2 hk2))
   go_roundw
   case rel =>
    refine ⟨j + 1, by omega, by go_num, ?_, HK2.out, by omega⟩
    rw [HTK.out]
    exact HA2.out
   case measure => (simp [intOf]) <;> omega
  ·have e : l.take j = l:=List.take_of_length_le (by rw [HN.out]; omega)
   rw [e] at HATR
   clear e
   have hra : RealAt (w1.heap.size + 1) w1.heap.size N (.slice none 0 0) (stepsB true l) wr:=HATR.out.2
   have hc0:=hra.cell0
   have HRAW:=lh hra.2.1
   clear hra
   go_wp2
   exact bodyPost_ret (results_tmp2 rfl _ _ _) rfl ⟨w1.heap.size, rfl, HZ1.out, HRAW.out, HKR.out⟩
end Go.Proofs.YtmpjikihnmagoaaGreatDoor
