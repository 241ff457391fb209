/-
  The reading decoder: lists of numbers. Conditions: the bytes at hand begin with the form.
-/
import Derived.Test.YtmpjikihnmagoaaGreatDoorZT9
set_option maxRecDepth 100000
set_option maxHeartbeats 3200000
namespace Go.Proofs.YtmpjikihnmagoaaGreatDoor
open Go.RowKit
theorem big_flat_len (m : Nat) : ∀ l : List Int, (l.flatMap (big m)).length = m * l.length
 | [] => rfl
 | x :: l => by rw [List.flatMap_cons, List.length_append, big_len, big_flat_len m l, List.length_cons, Nat.mul_succ, Nat.add_comm]
def Num32 (x : Int) : Prop:=fitsB 32 x
def Num64 (x : Int) : Prop:=-9223372036854775808 ≤ x ∧ x ≤ 9223372036854775807
def dec_i64arrF (p g o N c z n j nv : Nat) (pre : List UInt8) (x : Int) (ix : Nat) (v : Value) (_ : World) : Prop :=
 match ix with
 | 0 => v = .slice (some ⟨z, 0, none⟩) n n
 | 1 => v = .int .i64 (j : Nat)
 | 2 => v = .agg #[]
 | 3 => v = .pointer (some ⟨p, 0, none⟩)
 | 4 => v = .pointer (some ⟨p, 0, none⟩)
 | 5 => v = .pointer (some ⟨p, 0, none⟩)
 | 6 => v = .slice (some ⟨g, o, none⟩) N c
 | 7 => v = .pointer (some ⟨p, 0, none⟩)
 | 8 => v = .pointer (some ⟨p, 0, none⟩)
 | 9 => v = .pointer (some ⟨p, 1, none⟩)
 | 10 => v = .int .i64 pre.length
 | 11 => v = .slice (some ⟨g, o + pre.length, none⟩) (N - pre.length) (c - pre.length)
 | 12 => v = .int .u64 (nv : Nat)
 | 13 => v = .int .i64 x
 | _ => True
theorem dec_i64arrF_stable {p g o N c z n j nv pre x} : ∀ ix v w w', dec_i64arrF p g o N c z n j nv pre x ix v w → Kept [] w w' → dec_i64arrF p g o N c z n j nv pre x ix v w':=by
 intro ix v w w' h k
 unfold dec_i64arrF at h ⊢
 split at h <;> (first | (exact h))
theorem dec_i64arr (p c : Nat) (A : Option Addr) (st : Value) (pre0 rest : List UInt8) (w : World) (l : List Int) (hl : l.length ≤ 10) (hl0 : 0 < l.length) (hs : ∀ x ∈ l, Num64 x) (h : DecAt p A c st pre0 (big 4 (l.length : Int) ++ (l.flatMap (big 8) ++ rest)) w) : Calls Tryz.prog 160 #[.pointer (some ⟨p, 0, none⟩)] w (DecL p A c st (l.map (Value.int .i64)) (pre0 ++ (big 4 (l.length : Int) ++ l.flatMap (big 8))) rest w):=by
 have hfl:=big_flat_len 8 l
 have hrl : (l.flatMap (big 8) ++ rest).length = 8 * l.length + rest.length:=by rw [List.length_append, hfl]
 have hMb:=h.2.2.2.1
 rw [List.length_append, hrl, big_len] at hMb
 obtain ⟨aa, hA⟩ : ∃ aa, A = some aa:=by
  obtain ⟨g, o, hA, -⟩:=h.byte (by rw [List.length_append, big_len]; omega)
  exact ⟨_, hA⟩
 have HI:=lh (dec_arrlen p c A st pre0 _ w (l.length : Int) (by omega) (by omega) (by omega) h)
 have HS:=lh hs
 have HREM:=lh (fun (W : World) (hW : DecAt p A c st (pre0 ++ big 4 (l.length : Int)) (l.flatMap (big 8) ++ rest) W) => dec_remaining p c A st _ _ W hW)
 obtain ⟨pre1, hp1⟩ : ∃ pre1, pre0 ++ big 4 (l.length : Int) = pre1:=⟨_, rfl⟩
 have hp1l : 0 < pre1.length:=by rw [← hp1, List.length_append, big_len]; omega
 rw [← List.append_assoc]
 rw [hp1] at HI HREM ⊢
 have HP1:=lh hp1
 have HSL : Hid ((l.map (Value.int .i64)).length = l.length):=by simp [Hid]
 obtain ⟨n, hn⟩ : ∃ n, l.length = n:=⟨_, rfl⟩
 obtain ⟨M, hM⟩ : ∃ M, (l.flatMap (big 8) ++ rest).length = M:=⟨_, rfl⟩
 rw [hn] at HI HSL hl hrl hMb hl0
 rw [hM] at HREM hrl
 have HN:=lh hn
 have hn0 : ¬ (n : Int) ≤ 0:=by omega
 have hn1 : ¬ (n : Int) < -1:=by omega
 have hn2 : ¬ (n : Int) = -1:=by omega
 have hqt : ¬ (wrap64 ((M : Int) / 8) < (n : Int)):=by
  rw [IntWalk.wrap64_in _ (by omega)]
  omega
 obtain ⟨cs, hcs, hmk⟩:=mk_row44 n (by omega)
 have HCS:=lh hcs
 clear h hs hp1 hn hcs hM hfl hrl hMb
 go_enter Tryz.func160, Tryz.ntmps160
 go_wp2_with (first
  | ((with_reducible refine HI.out.mono ?_); rintro e w1 ⟨rfl, hd, hk⟩; have HD1:=lh hd; have HK1:=lh hk; clear hd hk)
  | ((with_reducible refine (HREM.out _ HD1.out).mono ?_); rintro e wb ⟨rfl, hk⟩; have HD1b:=lh (HD1.out.keep0 hk); have HK1b:=lh (HK1.out.trans (hk.mono (by simp)) (fun x hx => .inl hx)); clear hk))
 have HZ0 : Hid (RowV wb.heap.size 2 n [] (wb.alloc (.cells cs 2 (0, 0)))):=⟨cs, heap_alloc_new _ _, HCS.out, by simp, fun j b hj => by simp at hj⟩
 have HD2 : Hid (DecAt p A c st pre1 (l.flatMap (big 8) ++ rest) (wb.alloc (.cells cs 2 (0, 0)))):=HD1b.out.keep0 ((Kept.refl [] _).alloc _)
 have HK2 : Hid (Kept [p] w (wb.alloc (.cells cs 2 (0, 0)))):=HK1b.out.alloc _
 have HSZ : Hid (w.heap.size ≤ wb.heap.size):=HK1b.out.size
 have hzp : wb.heap.size ≠ p:=by
  have:=(Array.getElem?_eq_some_iff.1 HD1b.out.1).1
  omega
 have HPZ:=lh hzp
 have HAZ : Hid (aa.block ≠ wb.heap.size):=by
  have h1:=slis_lt HD1b.out.2.1 (by omega) hA
  intro e
  omega
 generalize wb.alloc (.cells cs 2 (0, 0)) = w2 at HZ0 HD2 HK2 ⊢
 obtain ⟨z, hz⟩ : ∃ z, wb.heap.size = z:=⟨_, rfl⟩
 rw [hz] at HZ0 HSZ HPZ HAZ ⊢
 cases hA
 clear hz hzp hmk hqt
 go_loopw [36] (fun iv wr => ∃ j : Nat, j ≤ n ∧ iv = .int .i64 j ∧ DecAt p (some aa) c st (pre1 ++ (l.take j).flatMap (big 8)) ((l.drop j).flatMap (big 8) ++ rest) wr ∧ RowV z 2 n ((l.take j).map (Value.int .i64)) wr ∧ Kept [p] w wr) (fun iv _ => n - (intOf iv).toNat)
 case atStart => exact ⟨0, Nat.zero_le _, rfl, by simpa using HD2.out, by simpa using HZ0.out, HK2.out⟩
 case round =>
  obtain ⟨j, hj, rfl, hdr, hzr, hkr⟩:=hrel
  have HDR:=lh hdr
  have HZR:=lh hzr
  have HKR:=lh hkr
  clear hdr hzr hkr
  by_cases hlt : j < n
  ·obtain ⟨x, hy⟩ : ∃ y, l[j]? = some y:=⟨_, List.getElem?_eq_getElem (by have:=HN.out; omega)⟩
   have hys:=HS.out x (List.mem_of_getElem? hy)
   have hd0:=HDR.out
   rw [flat_drop (big 8) hy, List.append_assoc] at hd0
   obtain ⟨pre, hpre⟩ : ∃ pre, pre1 ++ (l.take j).flatMap (big 8) = pre:=⟨_, rfl⟩
   obtain ⟨rst, hrst⟩ : ∃ rst, (l.drop (j + 1)).flatMap (big 8) ++ rest = rst:=⟨_, rfl⟩
   rw [hpre, hrst] at hd0
   have HFT : Hid (pre1 ++ (l.take (j + 1)).flatMap (big 8) = pre ++ big 8 x):=by unfold Hid; rw [flat_take (big 8) hy, ← List.append_assoc, hpre]
   have HSTE : Hid ((l.take (j + 1)).map (Value.int .i64) = (l.take j).map (Value.int .i64) ++ [.int .i64 x]):=by unfold Hid; rw [take_one hy]; simp
   have HSLJ : Hid (((l.take j).map (Value.int .i64)).length = j):=by unfold Hid; simp; have:=HN.out; omega
   have HRST:=lh hrst
   obtain ⟨g, o, hgo, hgp, -⟩:=hd0.byte (by rw [List.length_append, big_len]; omega)
   cases hgo
   obtain ⟨N, hNN⟩ : ∃ N, pre.length + (big 8 x ++ rst).length = N:=⟨_, rfl⟩
   have hNp : pre.length + 8 ≤ N:=by rw [← hNN, List.length_append, big_len]; omega
   have hNb:=hd0.2.2.2.1
   have hNc:=hd0.2.2.1
   rw [hNN] at hNb hNc
   have HC0 : Hid (wr.cell? ⟨p, 0, none⟩ = some (.slice (some ⟨g, o, none⟩) N c)):=by unfold Hid; rw [hd0.cell0, hNN]
   have HNN:=lh hNN
   have HD0:=lh hd0
   have HCONV:=lh (sig64 (x:=x) hys.1 hys.2)
   obtain ⟨nv, hnv⟩ : ∃ nv : Nat, (Go.Proofs.YtmpjikihnmagoaaGreatDoor.u64 x) = nv:=⟨_, rfl⟩
   rw [hnv] at HCONV
   have hconv:=HCONV.out
   have HNV:=lh hnv
   have HLEN : Hid ((big 8 x).length = 8):=big_len _ _
   clear hd0 hpre hrst hNN hy HDR hnv
   go_wp2
   refine wp_region_facts' 14 (Kept []) (dec_i64arrF p g o N c z n j nv pre x) mixed (by kernel_rfl) (Kept.refl _ _).drew (fun _ _ _ h k => h.trans k (fun x hx => .inl hx)) dec_i64arrF_stable ?_ ?_
   ·refine ⟨?_, ?_, ?_, ?_, ?_, ?_, ?_, ?_, ?_, ?_, ?_, ?_, ?_, ?_, trivial⟩
    all_goals go_light
    all_goals intro a W hR hs hd
    all_goals have p0 : a.tmps[0]? = some (.pointer (some ⟨p, 0, none⟩)):=hs.2.2 0 (by decide)
    all_goals have p6 : a.tmps[6]? = some (.slice (some ⟨z, 0, none⟩) n n):=hs.2.2 6 (by decide)
    all_goals have p7 : a.tmps[7]? = some (.int .i64 (j : Nat)):=hs.2.2 7 (by decide)
    all_goals have hRr:=Kept.refl [] W
    all_goals have hc0 : W.cell? ⟨p, 0, none⟩ = _:=hR.cell HC0.out (by simp)
    all_goals have hc1 : W.cell? ⟨p, 1, none⟩ = _:=hR.cell HD0.out.cell1 (by simp)
    all_goals have hsl:=dec_from W g o pre.length N c (by omega) hNc
    all_goals have hget:=dec_get8 (HD0.out.keep0 hR) HNN.out
    all_goals rw [HNV.out] at hget
    ·refine ov W (.slice (some ⟨z, 0, none⟩) n n) ?_ (.mk hRr rfl rfl)
     simp [go_sem, p6]
    ·refine ov W (.int .i64 (j : Nat)) ?_ (.mk hRr rfl rfl)
     simp [go_sem, p7]
    ·refine ov W (.agg #[]) ?_ (.mk hRr rfl rfl)
     simp [go_sem]
    ·refine ov W (.pointer (some ⟨p, 0, none⟩)) ?_ (.mk hRr rfl rfl)
     simp [go_sem, p0]
    ·have q3 : _ = _:=hd.1 rfl
     refine ov W (.pointer (some ⟨p, 0, none⟩)) ?_ (.mk hRr rfl rfl)
     simp [go_sem, q3]
    ·have q4 : _ = _:=hd.1 rfl
     refine ov W (.pointer (some ⟨p, 0, none⟩)) ?_ (.mk hRr rfl rfl)
     simp [go_sem, q4]
    ·have q5 : _ = _:=hd.1 rfl
     refine ov W (.slice (some ⟨g, o, none⟩) N c) ?_ (.mk hRr rfl rfl)
     simp [go_sem, q5, hc0]
    ·refine ov W (.pointer (some ⟨p, 0, none⟩)) ?_ (.mk hRr rfl rfl)
     simp [go_sem, p0]
    ·have q7 : _ = _:=hd.1 rfl
     refine ov W (.pointer (some ⟨p, 0, none⟩)) ?_ (.mk hRr rfl rfl)
     simp [go_sem, q7]
    ·have q8 : _ = _:=hd.1 rfl
     refine ov W (.pointer (some ⟨p, 1, none⟩)) ?_ (.mk hRr rfl rfl)
     simp [go_sem, q8]
    ·have q9 : _ = _:=hd.1 rfl
     refine ov W (.int .i64 pre.length) ?_ (.mk hRr rfl rfl)
     simp [go_sem, q9, hc1]
    ·have q6 : _ = _:=hd.1 rfl
     have q10 : _ = _:=hd.2.1 rfl
     refine ov W (.slice (some ⟨g, o + pre.length, none⟩) (N - pre.length) (c - pre.length)) ?_ (.mk hRr rfl rfl)
     simp [go_sem, q6, q10, hsl]
    ·have q2 : _ = _:=hd.1 rfl
     have q11 : _ = _:=hd.2.1 rfl
     refine ow_call (w':=W) (f:=174) (args:=#[.agg #[], .slice (some ⟨g, o + pre.length, none⟩) (N - pre.length) (c - pre.length)]) (by simp [go_sem, q2, q11]) hget ?_
     rintro e w' ⟨rfl, hk⟩
     exact ⟨_, rfl, .mk hk rfl rfl⟩
    ·have q12 : _ = _:=hd.1 rfl
     refine ov W (.int .i64 x) ?_ (.mk hRr rfl rfl)
     simp [go_sem, q12, hconv]
   ·intro f W hR hf
    obtain ⟨f0, f1, f2, f3, f4, f5, f6, f7, f8, f9, f10, f11, f12, f13, -⟩:=hf
    change f 39 = _ at f0
    change f 40 = _ at f1
    change f 41 = _ at f2
    change f 42 = _ at f3
    change f 43 = _ at f4
    change f 44 = _ at f5
    change f 45 = _ at f6
    change f 46 = _ at f7
    change f 47 = _ at f8
    change f 48 = _ at f9
    change f 49 = _ at f10
    change f 50 = _ at f11
    change f 51 = _ at f12
    change f 52 = _ at f13
    simp only [headDsts, List.take_succ_cons, List.take_zero, List.filterMap_cons, List.filterMap_nil, setAll, f0, f1, f2, f3, f4, f5, f6, f7, f8, f9, f10, f11, f12, f13, List.setIfInBounds_toArray, List.set_cons_succ, List.set_cons_zero, List.drop_succ_cons, List.drop_zero]
    clear f0 f1 f2 f3 f4 f5 f6 f7 f8 f9 f10 f11 f12 f13 f
    obtain ⟨zc, hzc⟩:=(HZR.out.keep hR (by simp)).isCell (j:=j) (by omega)
    have hzf:=(HZR.out.keep hR (by simp)).frozen (o:=j)
    have hput:=(HZR.out.keep hR (by simp)).put (by rw [HSLJ.out]; omega) (.int .i64 x)
    rw [HSLJ.out, ← HSTE.out] at hput
    have hk3 : Kept [z] W (W.setCell ⟨z, j, none⟩ (.int .i64 x)):=kept_set z j _ _
    have hd3 : DecAt p (some ⟨g, o, none⟩) c st pre (big 8 x ++ rst) (W.setCell ⟨z, j, none⟩ (.int .i64 x)):=(HD0.out.keep0 hR).keep hk3 (by simpa using Ne.symm HPZ.out) (fun a ha => by cases ha; simpa using HAZ.out)
    have hc1:=hd3.cell1
    have hf1:=hd3.frozen (o:=1)
    have HD3:=lh hd3
    have HZ3:=lh hput
    have HK3 : Hid (Kept [p] w (W.setCell ⟨z, j, none⟩ (.int .i64 x))):=(HKR.out.trans (hR.mono (by simp)) (fun x hx => .inl hx)).trans hk3 (fun x hx => .inr (by rw [List.mem_singleton.1 hx]; exact HSZ.out))
    clear hput hk3 hd3 hR
    go_wp2
    go_roundw
    case rel =>
     refine ⟨j + 1, by omega, by go_num, ?_, ?_, ?_⟩
     ·rw [HFT.out, HRST.out]
      exact HD3.out.move (by rw [HLEN.out]; go_num)
     ·exact HZ3.out.keep (kept_set p 1 _ _) (by simpa using HPZ.out)
     ·exact HK3.out.trans (kept_set p 1 _ _) (fun x hx => .inl hx)
    case measure => (simp [intOf]) <;> omega
  ·have e1 : l.take j = l:=List.take_of_length_le (by have:=HN.out; omega)
   have e2 : l.drop j = []:=List.drop_eq_nil_of_le (by have:=HN.out; omega)
   have hd:=HDR.out
   have hzz:=HZR.out
   rw [e1, e2] at hd
   rw [e1] at hzz
   rw [List.flatMap_nil, List.nil_append] at hd
   have HD4:=lh hd
   have HZ4:=lh hzz
   clear e1 e2 hd hzz HDR HZR
   go_wp2
   refine bodyPost_ret (results_tmp2 rfl _ _ _) rfl ⟨z, by rw [HSL.out]; rfl, ?_, HSZ.out, HD4.out, HKR.out⟩
   rw [HSL.out]
   exact HZ4.out.slis HSL.out (by omega)
def dec_ni32arrF (p g o N c z n j nv : Nat) (pre : List UInt8) (x : Int) (ix : Nat) (v : Value) (_ : World) : Prop :=
 match ix with
 | 0 => v = .slice (some ⟨z, 0, none⟩) n n
 | 1 => v = .int .i64 (j : Nat)
 | 2 => v = .agg #[]
 | 3 => v = .pointer (some ⟨p, 0, none⟩)
 | 4 => v = .pointer (some ⟨p, 0, none⟩)
 | 5 => v = .pointer (some ⟨p, 0, none⟩)
 | 6 => v = .slice (some ⟨g, o, none⟩) N c
 | 7 => v = .pointer (some ⟨p, 0, none⟩)
 | 8 => v = .pointer (some ⟨p, 0, none⟩)
 | 9 => v = .pointer (some ⟨p, 1, none⟩)
 | 10 => v = .int .i64 pre.length
 | 11 => v = .slice (some ⟨g, o + pre.length, none⟩) (N - pre.length) (c - pre.length)
 | 12 => v = .int .u32 (nv : Nat)
 | 13 => v = .int .i32 x
 | _ => True
theorem dec_ni32arrF_stable {p g o N c z n j nv pre x} : ∀ ix v w w', dec_ni32arrF p g o N c z n j nv pre x ix v w → Kept [] w w' → dec_ni32arrF p g o N c z n j nv pre x ix v w':=by
 intro ix v w w' h k
 unfold dec_ni32arrF at h ⊢
 split at h <;> (first | (exact h))
theorem dec_ni32arr (p c : Nat) (A : Option Addr) (st : Value) (pre0 rest : List UInt8) (w : World) (l : List Int) (hl : l.length ≤ 10) (hs : ∀ x ∈ l, Num32 x) (h : DecAt p A c st pre0 (big 4 (l.length : Int) ++ (l.flatMap (big 4) ++ rest)) w) : Calls Tryz.prog 176 #[.pointer (some ⟨p, 0, none⟩)] w (DecL p A c st (l.map (Value.int .i32)) (pre0 ++ (big 4 (l.length : Int) ++ l.flatMap (big 4))) rest w):=by
 have hfl:=big_flat_len 4 l
 have hrl : (l.flatMap (big 4) ++ rest).length = 4 * l.length + rest.length:=by rw [List.length_append, hfl]
 have hMb:=h.2.2.2.1
 rw [List.length_append, hrl, big_len] at hMb
 obtain ⟨aa, hA⟩ : ∃ aa, A = some aa:=by
  obtain ⟨g, o, hA, -⟩:=h.byte (by rw [List.length_append, big_len]; omega)
  exact ⟨_, hA⟩
 have HI:=lh (dec_arrlen p c A st pre0 _ w (l.length : Int) (by omega) (by omega) (by omega) h)
 have HS:=lh hs
 have HREM:=lh (fun (W : World) (hW : DecAt p A c st (pre0 ++ big 4 (l.length : Int)) (l.flatMap (big 4) ++ rest) W) => dec_remaining p c A st _ _ W hW)
 obtain ⟨pre1, hp1⟩ : ∃ pre1, pre0 ++ big 4 (l.length : Int) = pre1:=⟨_, rfl⟩
 have hp1l : 0 < pre1.length:=by rw [← hp1, List.length_append, big_len]; omega
 rw [← List.append_assoc]
 rw [hp1] at HI HREM ⊢
 have HP1:=lh hp1
 have HSL : Hid ((l.map (Value.int .i32)).length = l.length):=by simp [Hid]
 obtain ⟨n, hn⟩ : ∃ n, l.length = n:=⟨_, rfl⟩
 obtain ⟨M, hM⟩ : ∃ M, (l.flatMap (big 4) ++ rest).length = M:=⟨_, rfl⟩
 rw [hn] at HI HSL hl hrl hMb
 rw [hM] at HREM hrl
 have HN:=lh hn
 skip
 have hn1 : ¬ (n : Int) < -1:=by omega
 have hn2 : ¬ (n : Int) = -1:=by omega
 have hqt : ¬ (wrap64 ((M : Int) / 4) < (n : Int)):=by
  rw [IntWalk.wrap64_in _ (by omega)]
  omega
 obtain ⟨cs, hcs, hmk⟩:=mk_row220 n (by omega)
 have HCS:=lh hcs
 clear h hs hp1 hn hcs hM hfl hrl hMb
 go_enter Tryz.func176, Tryz.ntmps176
 go_wp2_with (first
  | ((with_reducible refine HI.out.mono ?_); rintro e w1 ⟨rfl, hd, hk⟩; have HD1:=lh hd; have HK1:=lh hk; clear hd hk)
  | ((with_reducible refine (HREM.out _ HD1.out).mono ?_); rintro e wb ⟨rfl, hk⟩; have HD1b:=lh (HD1.out.keep0 hk); have HK1b:=lh (HK1.out.trans (hk.mono (by simp)) (fun x hx => .inl hx)); clear hk))
 have HZ0 : Hid (RowV wb.heap.size 21 n [] (wb.alloc (.cells cs 21 (0, 0)))):=⟨cs, heap_alloc_new _ _, HCS.out, by simp, fun j b hj => by simp at hj⟩
 have HD2 : Hid (DecAt p A c st pre1 (l.flatMap (big 4) ++ rest) (wb.alloc (.cells cs 21 (0, 0)))):=HD1b.out.keep0 ((Kept.refl [] _).alloc _)
 have HK2 : Hid (Kept [p] w (wb.alloc (.cells cs 21 (0, 0)))):=HK1b.out.alloc _
 have HSZ : Hid (w.heap.size ≤ wb.heap.size):=HK1b.out.size
 have hzp : wb.heap.size ≠ p:=by
  have:=(Array.getElem?_eq_some_iff.1 HD1b.out.1).1
  omega
 have HPZ:=lh hzp
 have HAZ : Hid (aa.block ≠ wb.heap.size):=by
  have h1:=slis_lt HD1b.out.2.1 (by omega) hA
  intro e
  omega
 generalize wb.alloc (.cells cs 21 (0, 0)) = w2 at HZ0 HD2 HK2 ⊢
 obtain ⟨z, hz⟩ : ∃ z, wb.heap.size = z:=⟨_, rfl⟩
 rw [hz] at HZ0 HSZ HPZ HAZ ⊢
 cases hA
 clear hz hzp hmk hqt
 go_loopw [40] (fun iv wr => ∃ j : Nat, j ≤ n ∧ iv = .int .i64 j ∧ DecAt p (some aa) c st (pre1 ++ (l.take j).flatMap (big 4)) ((l.drop j).flatMap (big 4) ++ rest) wr ∧ RowV z 21 n ((l.take j).map (Value.int .i32)) wr ∧ Kept [p] w wr) (fun iv _ => n - (intOf iv).toNat)
 case atStart => exact ⟨0, Nat.zero_le _, rfl, by simpa using HD2.out, by simpa using HZ0.out, HK2.out⟩
 case round =>
  obtain ⟨j, hj, rfl, hdr, hzr, hkr⟩:=hrel
  have HDR:=lh hdr
  have HZR:=lh hzr
  have HKR:=lh hkr
  clear hdr hzr hkr
  by_cases hlt : j < n
  ·obtain ⟨x, hy⟩ : ∃ y, l[j]? = some y:=⟨_, List.getElem?_eq_getElem (by have:=HN.out; omega)⟩
   have hys:=HS.out x (List.mem_of_getElem? hy)
   have hd0:=HDR.out
   rw [flat_drop (big 4) hy, List.append_assoc] at hd0
   obtain ⟨pre, hpre⟩ : ∃ pre, pre1 ++ (l.take j).flatMap (big 4) = pre:=⟨_, rfl⟩
   obtain ⟨rst, hrst⟩ : ∃ rst, (l.drop (j + 1)).flatMap (big 4) ++ rest = rst:=⟨_, rfl⟩
   rw [hpre, hrst] at hd0
   have HFT : Hid (pre1 ++ (l.take (j + 1)).flatMap (big 4) = pre ++ big 4 x):=by unfold Hid; rw [flat_take (big 4) hy, ← List.append_assoc, hpre]
   have HSTE : Hid ((l.take (j + 1)).map (Value.int .i32) = (l.take j).map (Value.int .i32) ++ [.int .i32 x]):=by unfold Hid; rw [take_one hy]; simp
   have HSLJ : Hid (((l.take j).map (Value.int .i32)).length = j):=by unfold Hid; simp; have:=HN.out; omega
   have HRST:=lh hrst
   obtain ⟨g, o, hgo, hgp, -⟩:=hd0.byte (by rw [List.length_append, big_len]; omega)
   cases hgo
   obtain ⟨N, hNN⟩ : ∃ N, pre.length + (big 4 x ++ rst).length = N:=⟨_, rfl⟩
   have hNp : pre.length + 4 ≤ N:=by rw [← hNN, List.length_append, big_len]; omega
   have hNb:=hd0.2.2.2.1
   have hNc:=hd0.2.2.1
   rw [hNN] at hNb hNc
   have HC0 : Hid (wr.cell? ⟨p, 0, none⟩ = some (.slice (some ⟨g, o, none⟩) N c)):=by unfold Hid; rw [hd0.cell0, hNN]
   have HNN:=lh hNN
   have HD0:=lh hd0
   have HCONV:=lh (sig32 (x:=x) hys)
   obtain ⟨nv, hnv⟩ : ∃ nv : Nat, (Go.Proofs.YtmpjikihnmagoaaGreatDoor.u64 x % 4294967296) = nv:=⟨_, rfl⟩
   rw [hnv] at HCONV
   have hconv:=HCONV.out
   have HNV:=lh hnv
   have HLEN : Hid ((big 4 x).length = 4):=big_len _ _
   clear hd0 hpre hrst hNN hy HDR hnv
   go_wp2
   refine wp_region_facts' 14 (Kept []) (dec_ni32arrF p g o N c z n j nv pre x) mixed (by kernel_rfl) (Kept.refl _ _).drew (fun _ _ _ h k => h.trans k (fun x hx => .inl hx)) dec_ni32arrF_stable ?_ ?_
   ·refine ⟨?_, ?_, ?_, ?_, ?_, ?_, ?_, ?_, ?_, ?_, ?_, ?_, ?_, ?_, trivial⟩
    all_goals go_light
    all_goals intro a W hR hs hd
    all_goals have p0 : a.tmps[0]? = some (.pointer (some ⟨p, 0, none⟩)):=hs.2.2 0 (by decide)
    all_goals have p6 : a.tmps[6]? = some (.slice (some ⟨z, 0, none⟩) n n):=hs.2.2 6 (by decide)
    all_goals have p7 : a.tmps[7]? = some (.int .i64 (j : Nat)):=hs.2.2 7 (by decide)
    all_goals have hRr:=Kept.refl [] W
    all_goals have hc0 : W.cell? ⟨p, 0, none⟩ = _:=hR.cell HC0.out (by simp)
    all_goals have hc1 : W.cell? ⟨p, 1, none⟩ = _:=hR.cell HD0.out.cell1 (by simp)
    all_goals have hsl:=dec_from W g o pre.length N c (by omega) hNc
    all_goals have hget:=dec_get4 (HD0.out.keep0 hR) HNN.out
    all_goals rw [HNV.out] at hget
    ·refine ov W (.slice (some ⟨z, 0, none⟩) n n) ?_ (.mk hRr rfl rfl)
     simp [go_sem, p6]
    ·refine ov W (.int .i64 (j : Nat)) ?_ (.mk hRr rfl rfl)
     simp [go_sem, p7]
    ·refine ov W (.agg #[]) ?_ (.mk hRr rfl rfl)
     simp [go_sem]
    ·refine ov W (.pointer (some ⟨p, 0, none⟩)) ?_ (.mk hRr rfl rfl)
     simp [go_sem, p0]
    ·have q3 : _ = _:=hd.1 rfl
     refine ov W (.pointer (some ⟨p, 0, none⟩)) ?_ (.mk hRr rfl rfl)
     simp [go_sem, q3]
    ·have q4 : _ = _:=hd.1 rfl
     refine ov W (.pointer (some ⟨p, 0, none⟩)) ?_ (.mk hRr rfl rfl)
     simp [go_sem, q4]
    ·have q5 : _ = _:=hd.1 rfl
     refine ov W (.slice (some ⟨g, o, none⟩) N c) ?_ (.mk hRr rfl rfl)
     simp [go_sem, q5, hc0]
    ·refine ov W (.pointer (some ⟨p, 0, none⟩)) ?_ (.mk hRr rfl rfl)
     simp [go_sem, p0]
    ·have q7 : _ = _:=hd.1 rfl
     refine ov W (.pointer (some ⟨p, 0, none⟩)) ?_ (.mk hRr rfl rfl)
     simp [go_sem, q7]
    ·have q8 : _ = _:=hd.1 rfl
     refine ov W (.pointer (some ⟨p, 1, none⟩)) ?_ (.mk hRr rfl rfl)
     simp [go_sem, q8]
    ·have q9 : _ = _:=hd.1 rfl
     refine ov W (.int .i64 pre.length) ?_ (.mk hRr rfl rfl)
     simp [go_sem, q9, hc1]
    ·have q6 : _ = _:=hd.1 rfl
     have q10 : _ = _:=hd.2.1 rfl
     refine ov W (.slice (some ⟨g, o + pre.length, none⟩) (N - pre.length) (c - pre.length)) ?_ (.mk hRr rfl rfl)
     simp [go_sem, q6, q10, hsl]
    ·have q2 : _ = _:=hd.1 rfl
     have q11 : _ = _:=hd.2.1 rfl
     refine ow_call (w':=W) (f:=173) (args:=#[.agg #[], .slice (some ⟨g, o + pre.length, none⟩) (N - pre.length) (c - pre.length)]) (by simp [go_sem, q2, q11]) hget ?_
     rintro e w' ⟨rfl, hk⟩
     exact ⟨_, rfl, .mk hk rfl rfl⟩
    ·have q12 : _ = _:=hd.1 rfl
     refine ov W (.int .i32 x) ?_ (.mk hRr rfl rfl)
     simp [go_sem, q12, hconv]
   ·intro f W hR hf
    obtain ⟨f0, f1, f2, f3, f4, f5, f6, f7, f8, f9, f10, f11, f12, f13, -⟩:=hf
    change f 43 = _ at f0
    change f 44 = _ at f1
    change f 45 = _ at f2
    change f 46 = _ at f3
    change f 47 = _ at f4
    change f 48 = _ at f5
    change f 49 = _ at f6
    change f 50 = _ at f7
    change f 51 = _ at f8
    change f 52 = _ at f9
    change f 53 = _ at f10
    change f 54 = _ at f11
    change f 55 = _ at f12
    change f 56 = _ at f13
    simp only [headDsts, List.take_succ_cons, List.take_zero, List.filterMap_cons, List.filterMap_nil, setAll, f0, f1, f2, f3, f4, f5, f6, f7, f8, f9, f10, f11, f12, f13, List.setIfInBounds_toArray, List.set_cons_succ, List.set_cons_zero, List.drop_succ_cons, List.drop_zero]
    clear f0 f1 f2 f3 f4 f5 f6 f7 f8 f9 f10 f11 f12 f13 f
    obtain ⟨zc, hzc⟩:=(HZR.out.keep hR (by simp)).isCell (j:=j) (by omega)
    have hzf:=(HZR.out.keep hR (by simp)).frozen (o:=j)
    have hput:=(HZR.out.keep hR (by simp)).put (by rw [HSLJ.out]; omega) (.int .i32 x)
    rw [HSLJ.out, ← HSTE.out] at hput
    have hk3 : Kept [z] W (W.setCell ⟨z, j, none⟩ (.int .i32 x)):=kept_set z j _ _
    have hd3 : DecAt p (some ⟨g, o, none⟩) c st pre (big 4 x ++ rst) (W.setCell ⟨z, j, none⟩ (.int .i32 x)):=(HD0.out.keep0 hR).keep hk3 (by simpa using Ne.symm HPZ.out) (fun a ha => by cases ha; simpa using HAZ.out)
    have hc1:=hd3.cell1
    have hf1:=hd3.frozen (o:=1)
    have HD3:=lh hd3
    have HZ3:=lh hput
    have HK3 : Hid (Kept [p] w (W.setCell ⟨z, j, none⟩ (.int .i32 x))):=(HKR.out.trans (hR.mono (by simp)) (fun x hx => .inl hx)).trans hk3 (fun x hx => .inr (by rw [List.mem_singleton.1 hx]; exact HSZ.out))
    clear hput hk3 hd3 hR
    go_wp2
    go_roundw
    case rel =>
     refine ⟨j + 1, by omega, by go_num, ?_, ?_, ?_⟩
     ·rw [HFT.out, HRST.out]
      exact HD3.out.move (by rw [HLEN.out]; go_num)
     ·exact HZ3.out.keep (kept_set p 1 _ _) (by simpa using HPZ.out)
     ·exact HK3.out.trans (kept_set p 1 _ _) (fun x hx => .inl hx)
    case measure => (simp [intOf]) <;> omega
  ·have e1 : l.take j = l:=List.take_of_length_le (by have:=HN.out; omega)
   have e2 : l.drop j = []:=List.drop_eq_nil_of_le (by have:=HN.out; omega)
   have hd:=HDR.out
   have hzz:=HZR.out
   rw [e1, e2] at hd
   rw [e1] at hzz
   rw [List.flatMap_nil, List.nil_append] at hd
   have HD4:=lh hd
   have HZ4:=lh hzz
   clear e1 e2 hd hzz HDR HZR
   go_wp2
   refine bodyPost_ret (results_tmp2 rfl _ _ _) rfl ⟨z, by rw [HSL.out]; rfl, ?_, HSZ.out, HD4.out, HKR.out⟩
   rw [HSL.out]
   exact HZ4.out.slis HSL.out (by omega)
theorem dec_i32arr (p c : Nat) (A : Option Addr) (st : Value) (pre0 rest : List UInt8) (w : World) (l : List Int) (hl : l.length ≤ 10) (hs : ∀ x ∈ l, Num32 x) (h : DecAt p A c st pre0 (big 4 (l.length : Int) ++ (l.flatMap (big 4) ++ rest)) w) : Calls Tryz.prog 158 #[.pointer (some ⟨p, 0, none⟩)] w (DecL p A c st (l.map (Value.int .i32)) (pre0 ++ (big 4 (l.length : Int) ++ l.flatMap (big 4))) rest w):=by
 have HI:=lh (dec_ni32arr p c A st pre0 rest w l hl hs h)
 have heq:=fun (W : World) (a : Option Addr) (l c : Nat) => eq_nil W 220 21 Tryz.underlying220 a l c
 clear h
 go_enter Tryz.func158, Tryz.ntmps158
 go_wp2_with ((with_reducible refine HI.out.mono ?_); rintro e w1 ⟨z, rfl, hsl, hsz, hd, hk⟩; have HS:=lh hsl; have HZ:=lh hsz; have HD:=lh hd; have HK:=lh hk; clear hsl hsz hd hk)
 exact bodyPost_ret (results_tmp2 rfl _ _ _) rfl ⟨z, by rw [List.length_map]; rfl, HS.out, HZ.out, HD.out, HK.out⟩
theorem dec_i64nil (p c : Nat) (A : Option Addr) (st : Value) (pre rest : List UInt8) (w : World) (h : DecAt p A c st pre (big 4 0 ++ rest) w) : Calls Tryz.prog 160 #[.pointer (some ⟨p, 0, none⟩)] w (DecR p A c st (.slice none 0 0) (pre ++ big 4 0) rest w):=by
 have HI:=lh (dec_arrlen p c A st pre rest w 0 (by omega) (by omega) (by omega) h)
 clear h
 go_enter Tryz.func160, Tryz.ntmps160
 go_wp2_with (((with_reducible refine HI.out.mono ?_); rintro e w1 ⟨rfl, hd, hk⟩; have HD1:=lh hd; have HK1:=lh hk; clear hd hk))
 exact bodyPost_ret (results_tmp2 rfl _ _ _) rfl ⟨rfl, HD1.out, HK1.out⟩
theorem dec_strnil (p c : Nat) (A : Option Addr) (st : Value) (pre rest : List UInt8) (w : World) (h : DecAt p A c st pre (big 4 0 ++ rest) w) : Calls Tryz.prog 165 #[.pointer (some ⟨p, 0, none⟩)] w (DecR p A c st (.slice none 0 0) (pre ++ big 4 0) rest w):=by
 have HI:=lh (dec_arrlen p c A st pre rest w 0 (by omega) (by omega) (by omega) h)
 clear h
 go_enter Tryz.func165, Tryz.ntmps165
 go_wp2_with (((with_reducible refine HI.out.mono ?_); rintro e w1 ⟨rfl, hd, hk⟩; have HD1:=lh hd; have HK1:=lh hk; clear hd hk))
 exact bodyPost_ret (results_tmp2 rfl _ _ _) rfl ⟨rfl, HD1.out, HK1.out⟩
end Go.Proofs.YtmpjikihnmagoaaGreatDoor
