/-
  The flexible reading decoder: lists. Conditions: the bytes at hand begin with the form.
-/
import Derived.Test.YtmpjikihnmagoaaGreatDoorZT12
set_option maxRecDepth 100000
set_option maxHeartbeats 3200000
namespace Go.Proofs.YtmpjikihnmagoaaGreatDoor
open Go.RowKit
theorem textB_true' {s : ByteArray} (h : s.size ≤ 32767) : textB true s = Lib.uvarint (s.size + 1) ++ s.data.toList:=by rw [textB_true, u64_succ (by omega)]
theorem df_strarr (q : Nat) (p c : Nat) (A : Option Addr) (st : Value) (pre rest : List UInt8) (w : World) (hq : FlexAt 156 q p w) (l : List ByteArray) (hl : l.length ≤ 10) (hl0 : 0 < l.length) (hs : ∀ s ∈ l, s.size ≤ 32767) (hr : l.length ≤ (l.flatMap (textB true) ++ rest).length) (h : DecAt p A c st pre (Lib.uvarint (l.length + 1) ++ (l.flatMap (textB true) ++ rest)) w) : Calls Tryz.prog 190 #[.pointer (some ⟨q, 0, none⟩)] w (DecL p A c st (strs l) (pre ++ (Lib.uvarint (l.length + 1) ++ l.flatMap (textB true))) rest w):=by
 have HI:=lh (df_arrlen q p c A st pre _ w hq l.length hr h)
 have HS:=lh hs
 obtain ⟨pre1, hp1⟩ : ∃ pre1, pre ++ Lib.uvarint (l.length + 1) = pre1:=⟨_, rfl⟩
 rw [← List.append_assoc]
 rw [hp1] at HI ⊢
 have HP1:=lh hp1
 have HSL : Hid ((strs l).length = l.length):=by simp [Hid, strs]
 have HQ:=lh hq
 clear hq
 obtain ⟨n, hn⟩ : ∃ n, l.length = n:=⟨_, rfl⟩
 rw [hn] at HI HSL hl hl0
 have HN:=lh hn
 have hn0 : ¬ (n : Int) ≤ 0:=by omega
 have hn1 : ¬ n = 0:=by omega
 obtain ⟨cs, hcs, hmk⟩:=mk_row43 n (by omega)
 have HCS:=lh hcs
 clear h hs hr hp1 hn hcs
 go_enter Tryz.func190, Tryz.ntmps190
 go_wp2_with (((with_reducible refine HI.out.mono ?_); rintro e w1 ⟨rfl, hd, hk⟩; have HD1:=lh hd; have HK1:=lh hk; clear hd hk))
 have HZ0 : Hid (RowV w1.heap.size 9 n [] (w1.alloc (.cells cs 9 (0, 0)))):=⟨cs, heap_alloc_new _ _, HCS.out, by simp, fun j b hj => by simp at hj⟩
 have HD2 : Hid (DecAt p A c st pre1 (l.flatMap (textB true) ++ rest) (w1.alloc (.cells cs 9 (0, 0)))):=HD1.out.keep0 ((Kept.refl [] _).alloc _)
 have HK2 : Hid (Kept [p] w (w1.alloc (.cells cs 9 (0, 0)))):=HK1.out.alloc _
 have HSZ : Hid (w.heap.size ≤ w1.heap.size):=HK1.out.size
 have hzp : w1.heap.size ≠ p:=by
  have:=(Array.getElem?_eq_some_iff.1 HD1.out.1).1
  omega
 have HPZ:=lh hzp
 have HAZ : Hid (∀ a, A = some a → a.block ≠ w1.heap.size):=fun a ha => by
  have h1:=slis_lt HD1.out.2.1 (by
   obtain ⟨y, hy⟩ : ∃ y, l[0]? = some y:=⟨_, List.getElem?_eq_getElem (by have:=HN.out; omega)⟩
   have h2:=flat_drop (textB true) hy
   rw [List.drop_zero] at h2
   rw [h2, List.length_append, List.length_append]
   have h3 : 0 < ((textB true) y).length:=by
    rw [textB_true, List.length_append]; have:=Lib.uvarint_pos (u64 ((y.size : Int) + 1))
    omega
   omega) ha
  omega
 generalize w1.alloc (.cells cs 9 (0, 0)) = w2 at HZ0 HD2 HK2 ⊢
 obtain ⟨z, hz⟩ : ∃ z, w1.heap.size = z:=⟨_, rfl⟩
 rw [hz] at HZ0 HSZ HPZ HAZ ⊢
 clear hz hzp hmk
 go_loopw [24] (fun iv wr => ∃ j : Nat, j ≤ n ∧ iv = .int .i64 j ∧ DecAt p A c st (pre1 ++ (l.take j).flatMap (textB true)) ((l.drop j).flatMap (textB true) ++ rest) wr ∧ RowV z 9 n (strs (l.take j)) wr ∧ Kept [p] w wr) (fun iv _ => n - (intOf iv).toNat)
 case atStart => exact ⟨0, Nat.zero_le _, rfl, by simpa using HD2.out, by simpa [strs] using HZ0.out, HK2.out⟩
 case round =>
  obtain ⟨j, hj, rfl, hdr, hzr, hkr⟩:=hrel
  have HDR:=lh hdr
  have HZR:=lh hzr
  have HKR:=lh hkr
  clear hdr hzr hkr
  by_cases hlt : j < n
  ·obtain ⟨y, hy⟩ : ∃ y, l[j]? = some y:=⟨_, List.getElem?_eq_getElem (by have:=HN.out; omega)⟩
   have hys:=HS.out y (List.mem_of_getElem? hy)
   have HDR2 : Hid (DecAt p A c st (pre1 ++ (l.take j).flatMap (textB true)) ((textB true) y ++ ((l.drop (j + 1)).flatMap (textB true) ++ rest)) wr):=by
    have h1:=HDR.out
    rw [flat_drop (textB true) hy, List.append_assoc] at h1
    exact h1
   have hft : pre1 ++ (l.take (j + 1)).flatMap (textB true) = pre1 ++ (l.take j).flatMap (textB true) ++ (textB true) y:=by rw [flat_take (textB true) hy, List.append_assoc]
   have HFT:=lh hft
   have hst : strs (l.take (j + 1)) = strs (l.take j) ++ [.string y]:=by rw [take_one hy]; simp [strs]
   have HSTE:=lh hst
   have hsl : (strs (l.take j)).length = j:=by simp [strs]; have:=HN.out; omega
   have HSLJ:=lh hsl
   have HST : Hid (Calls Tryz.prog 189 #[.pointer (some ⟨q, 0, none⟩)] wr (DecR p A c st (.string y) (pre1 ++ (l.take j).flatMap (textB true) ++ (textB true) y) ((l.drop (j + 1)).flatMap (textB true) ++ rest) wr)):=by have h1:=HDR2.out; rw [textB_true' hys] at h1 ⊢; exact df_string q p c A st _ _ wr (HQ.out.keepp HKR.out) y hys h1
   clear hft hy hst hsl HDR HDR2
   go_wp2_with ((with_reducible refine HST.out.mono ?_); rintro e w3 ⟨rfl, hd, hk⟩; have HD3:=lh hd; have HZ3:=lh (HZR.out.keep hk (by simpa using HPZ.out)); have hzc:=(HZ3.out).isCell (j:=j) (by omega); obtain ⟨zc, hzc⟩:=hzc; have hzf:=(HZ3.out).frozen (o:=j); have HK3:=lh (HKR.out.trans hk (fun x hx => .inl hx)); clear hd hk)
   go_roundw
   case rel =>
    have hput:=HZ3.out.put (by rw [HSLJ.out]; omega) (.string y)
    rw [HSLJ.out, ← HSTE.out] at hput
    refine ⟨j + 1, by omega, by go_num, ?_, hput, ?_⟩
    ·rw [HFT.out]
     exact HD3.out.keep (kept_set z j _ _) (by simpa using Ne.symm HPZ.out) (fun a ha => by simpa using HAZ.out a ha)
    ·exact HK3.out.trans (kept_set z j _ _) (fun x hx => .inr (by rw [List.mem_singleton.1 hx]; exact HSZ.out))
   case measure => (simp [intOf]) <;> omega
  ·have e1 : l.take j = l:=List.take_of_length_le (by have:=HN.out; omega)
   have e2 : l.drop j = []:=List.drop_eq_nil_of_le (by have:=HN.out; omega)
   have hd:=HDR.out
   have hzz:=HZR.out
   rw [e1, e2] at hd
   rw [e1] at hzz
   rw [List.flatMap_nil, List.nil_append] at hd
   have HD4:=lh hd
   have HZ4:=lh hzz
   clear e1 e2 hd hzz HDR HZR
   go_wp2
   refine bodyPost_ret (results_tmp2 rfl _ _ _) rfl ⟨z, by rw [HSL.out]; rfl, ?_, HSZ.out, HD4.out, HKR.out⟩
   rw [HSL.out]
   exact HZ4.out.slis HSL.out (by omega)
def df_ni32arrF (q p g o N c z n j nv : Nat) (pre : List UInt8) (x : Int) (ix : Nat) (v : Value) (_ : World) : Prop :=
 match ix with
 | 0 => v = .slice (some ⟨z, 0, none⟩) n n
 | 1 => v = .int .i64 (j : Nat)
 | 2 => v = .agg #[]
 | 3 => v = .pointer (some ⟨q, 0, none⟩)
 | 4 => v = .pointer (some ⟨q, 0, none⟩)
 | 5 => v = .pointer (some ⟨q, 0, none⟩)
 | 6 => v = .pointer (some ⟨p, 0, none⟩)
 | 7 => v = .pointer (some ⟨p, 0, none⟩)
 | 8 => v = .pointer (some ⟨p, 0, none⟩)
 | 9 => v = .slice (some ⟨g, o, none⟩) N c
 | 10 => v = .pointer (some ⟨q, 0, none⟩)
 | 11 => v = .pointer (some ⟨q, 0, none⟩)
 | 12 => v = .pointer (some ⟨q, 0, none⟩)
 | 13 => v = .pointer (some ⟨p, 0, none⟩)
 | 14 => v = .pointer (some ⟨p, 0, none⟩)
 | 15 => v = .pointer (some ⟨p, 1, none⟩)
 | 16 => v = .int .i64 pre.length
 | 17 => v = .slice (some ⟨g, o + pre.length, none⟩) (N - pre.length) (c - pre.length)
 | 18 => v = .int .u32 (nv : Nat)
 | 19 => v = .int .i32 x
 | _ => True
theorem df_ni32arrF_stable {q p g o N c z n j nv pre x} : ∀ ix v w w', df_ni32arrF q p g o N c z n j nv pre x ix v w → Kept [] w w' → df_ni32arrF q p g o N c z n j nv pre x ix v w':=by
 intro ix v w w' h k
 unfold df_ni32arrF at h ⊢
 split at h <;> (first | (exact h))
theorem df_ni32arr (q p c : Nat) (A : Option Addr) (st : Value) (pre0 rest : List UInt8) (w : World) (hq : FlexAt 156 q p w) (l : List Int) (hl : l.length ≤ 10) (hs : ∀ x ∈ l, Num32 x) (h : DecAt p A c st pre0 (Lib.uvarint (l.length + 1) ++ (l.flatMap (big 4) ++ rest)) w) : Calls Tryz.prog 187 #[.pointer (some ⟨q, 0, none⟩)] w (DecL p A c st (l.map (Value.int .i32)) (pre0 ++ (Lib.uvarint (l.length + 1) ++ l.flatMap (big 4))) rest w):=by
 have hfl:=big_flat_len 4 l
 have hrl : (l.flatMap (big 4) ++ rest).length = 4 * l.length + rest.length:=by rw [List.length_append, hfl]
 have hMb:=h.2.2.2.1
 rw [List.length_append, hrl] at hMb
 obtain ⟨aa, hA⟩ : ∃ aa, A = some aa:=by
  obtain ⟨g, o, hA, -⟩:=h.byte (by rw [List.length_append]; have:=Lib.uvarint_pos (l.length + 1); omega)
  exact ⟨_, hA⟩
 have HI:=lh (dec_uvarint p c A st pre0 _ w (l.length + 1) (by omega) h)
 have HS:=lh hs
 have HREM:=lh (fun (W : World) (hW : DecAt p A c st (pre0 ++ Lib.uvarint (l.length + 1)) (l.flatMap (big 4) ++ rest) W) => dec_remaining p c A st _ _ W hW)
 obtain ⟨pre1, hp1⟩ : ∃ pre1, pre0 ++ Lib.uvarint (l.length + 1) = pre1:=⟨_, rfl⟩
 have hp1l : 0 < pre1.length:=by rw [← hp1, List.length_append]; have:=Lib.uvarint_pos (l.length + 1); omega
 rw [← List.append_assoc]
 rw [hp1] at HI HREM ⊢
 have HP1:=lh hp1
 have HSL : Hid ((l.map (Value.int .i32)).length = l.length):=by simp [Hid]
 obtain ⟨n, hn⟩ : ∃ n, l.length = n:=⟨_, rfl⟩
 obtain ⟨M, hM⟩ : ∃ M, (l.flatMap (big 4) ++ rest).length = M:=⟨_, rfl⟩
 rw [hn] at HI HSL hl hrl hMb
 rw [hM] at HREM hrl
 have HN:=lh hn
 skip
 have hn1 : ¬ (n : Int) < -1:=by omega
 have hn2 : ¬ (n : Int) = -1:=by omega
 obtain ⟨Q, hQ⟩ : ∃ Q : Nat, M / 4 = Q:=⟨_, rfl⟩
 have hqt : ¬ ((Q : Int) < (n : Int)):=by omega
 have hqt2 : ¬ (Q < n):=by omega
 have hQu : IntKind.u64.wrap (Q : Int) = (Q : Int):=wrapu_small (by omega) (by omega)
 obtain ⟨U, hU⟩ : ∃ U, n + 1 = U:=⟨_, rfl⟩
 have hU0 : ¬ (U : Int) = 0:=by omega
 have hU00 : ¬ U = 0:=by omega
 have hUs : IntKind.u64.wrap ((U : Int) - 1) = (n : Int):=by rw [wrapu_small (by omega) (by omega)]; omega
 have hni : IntKind.i64.wrap (n : Int) = (n : Int):=IntWalk.i64_in _ (by omega)
 have hqw : wrap64 ((M : Int) / 4) = (Q : Int):=by
  rw [IntWalk.wrap64_in _ (by omega)]
  omega
 rw [hU] at HI
 have hc:=hq.cell
 have HQ:=lh hq
 obtain ⟨cs, hcs, hmk⟩:=mk_row220 n (by omega)
 have HCS:=lh hcs
 clear h hs hp1 hn hcs hM hfl hrl hMb hQ hU hq
 go_enter Tryz.func187, Tryz.ntmps187
 go_wp2_with (first
  | ((with_reducible refine HI.out.mono ?_); rintro e w1 ⟨rfl, hd, hk⟩; have hc1:=(HQ.out.keepp hk).cell; have HD1:=lh hd; have HK1:=lh hk; clear hd hk)
  | ((with_reducible refine (HREM.out _ HD1.out).mono ?_); rintro e wb ⟨rfl, hk⟩; have HD1b:=lh (HD1.out.keep0 hk); have HK1b:=lh (HK1.out.trans (hk.mono (by simp)) (fun x hx => .inl hx)); have hc1b:=(HQ.out.keepp HK1b.out).cell; clear hk))
 have HZ0 : Hid (RowV wb.heap.size 21 n [] (wb.alloc (.cells cs 21 (0, 0)))):=⟨cs, heap_alloc_new _ _, HCS.out, by simp, fun j b hj => by simp at hj⟩
 have HD2 : Hid (DecAt p A c st pre1 (l.flatMap (big 4) ++ rest) (wb.alloc (.cells cs 21 (0, 0)))):=HD1b.out.keep0 ((Kept.refl [] _).alloc _)
 have HK2 : Hid (Kept [p] w (wb.alloc (.cells cs 21 (0, 0)))):=HK1b.out.alloc _
 have HSZ : Hid (w.heap.size ≤ wb.heap.size):=HK1b.out.size
 have hzp : wb.heap.size ≠ p:=by
  have:=(Array.getElem?_eq_some_iff.1 HD1b.out.1).1
  omega
 have HPZ:=lh hzp
 have HAZ : Hid (aa.block ≠ wb.heap.size):=by
  have h1:=slis_lt HD1b.out.2.1 (by omega) hA
  intro e
  omega
 generalize wb.alloc (.cells cs 21 (0, 0)) = w2 at HZ0 HD2 HK2 ⊢
 obtain ⟨z, hz⟩ : ∃ z, wb.heap.size = z:=⟨_, rfl⟩
 rw [hz] at HZ0 HSZ HPZ HAZ ⊢
 cases hA
 clear hz hzp hmk hqt hqt2 hqw hQu hU0 hU00 hUs hni
 go_loopw [53] (fun iv wr => ∃ j : Nat, j ≤ n ∧ iv = .int .i64 j ∧ DecAt p (some aa) c st (pre1 ++ (l.take j).flatMap (big 4)) ((l.drop j).flatMap (big 4) ++ rest) wr ∧ RowV z 21 n ((l.take j).map (Value.int .i32)) wr ∧ Kept [p] w wr) (fun iv _ => n - (intOf iv).toNat)
 case atStart => exact ⟨0, Nat.zero_le _, rfl, by simpa using HD2.out, by simpa using HZ0.out, HK2.out⟩
 case round =>
  obtain ⟨j, hj, rfl, hdr, hzr, hkr⟩:=hrel
  have HDR:=lh hdr
  have HZR:=lh hzr
  have HKR:=lh hkr
  clear hdr hzr hkr
  by_cases hlt : j < n
  ·obtain ⟨x, hy⟩ : ∃ y, l[j]? = some y:=⟨_, List.getElem?_eq_getElem (by have:=HN.out; omega)⟩
   have hys:=HS.out x (List.mem_of_getElem? hy)
   have hd0:=HDR.out
   rw [flat_drop (big 4) hy, List.append_assoc] at hd0
   obtain ⟨pre, hpre⟩ : ∃ pre, pre1 ++ (l.take j).flatMap (big 4) = pre:=⟨_, rfl⟩
   obtain ⟨rst, hrst⟩ : ∃ rst, (l.drop (j + 1)).flatMap (big 4) ++ rest = rst:=⟨_, rfl⟩
   rw [hpre, hrst] at hd0
   have HFT : Hid (pre1 ++ (l.take (j + 1)).flatMap (big 4) = pre ++ big 4 x):=by unfold Hid; rw [flat_take (big 4) hy, ← List.append_assoc, hpre]
   have HSTE : Hid ((l.take (j + 1)).map (Value.int .i32) = (l.take j).map (Value.int .i32) ++ [.int .i32 x]):=by unfold Hid; rw [take_one hy]; simp
   have HSLJ : Hid (((l.take j).map (Value.int .i32)).length = j):=by unfold Hid; simp; have:=HN.out; omega
   have HRST:=lh hrst
   obtain ⟨g, o, hgo, hgp, -⟩:=hd0.byte (by rw [List.length_append, big_len]; omega)
   cases hgo
   obtain ⟨N, hNN⟩ : ∃ N, pre.length + (big 4 x ++ rst).length = N:=⟨_, rfl⟩
   have hNp : pre.length + 4 ≤ N:=by rw [← hNN, List.length_append, big_len]; omega
   have hNb:=hd0.2.2.2.1
   have hNc:=hd0.2.2.1
   rw [hNN] at hNb hNc
   have HC0 : Hid (wr.cell? ⟨p, 0, none⟩ = some (.slice (some ⟨g, o, none⟩) N c)):=by unfold Hid; rw [hd0.cell0, hNN]
   have HNN:=lh hNN
   have HD0:=lh hd0
   have HCONV:=lh (sig32 (x:=x) hys)
   obtain ⟨nv, hnv⟩ : ∃ nv : Nat, (Go.Proofs.YtmpjikihnmagoaaGreatDoor.u64 x % 4294967296) = nv:=⟨_, rfl⟩
   rw [hnv] at HCONV
   have hconv:=HCONV.out
   have HNV:=lh hnv
   have HLEN : Hid ((big 4 x).length = 4):=big_len _ _
   have hcqr:=(HQ.out.keepp HKR.out).cell
   have HQR:=lh (HQ.out.keepp HKR.out)
   clear hd0 hpre hrst hNN hy HDR hnv
   go_wp2
   refine wp_region_facts' 20 (Kept []) (df_ni32arrF q p g o N c z n j nv pre x) mixed (by kernel_rfl) (Kept.refl _ _).drew (fun _ _ _ h k => h.trans k (fun x hx => .inl hx)) df_ni32arrF_stable ?_ ?_
   ·refine ⟨?_, ?_, ?_, ?_, ?_, ?_, ?_, ?_, ?_, ?_, ?_, ?_, ?_, ?_, ?_, ?_, ?_, ?_, ?_, ?_, trivial⟩
    all_goals go_light
    all_goals intro a W hR hs hd
    all_goals have p0 : a.tmps[0]? = some (.pointer (some ⟨q, 0, none⟩)):=hs.2.2 0 (by decide)
    all_goals have p7 : a.tmps[7]? = some (.slice (some ⟨z, 0, none⟩) n n):=hs.2.2 7 (by decide)
    all_goals have p8 : a.tmps[8]? = some (.int .i64 (j : Nat)):=hs.2.2 8 (by decide)
    all_goals have hRr:=Kept.refl [] W
    all_goals have hcq : W.cell? ⟨q, 0, none⟩ = _:=hR.cell HQR.out.cell (by simp)
    all_goals have hc0 : W.cell? ⟨p, 0, none⟩ = _:=hR.cell HC0.out (by simp)
    all_goals have hc1 : W.cell? ⟨p, 1, none⟩ = _:=hR.cell HD0.out.cell1 (by simp)
    all_goals have hsl:=dec_from W g o pre.length N c (by omega) hNc
    all_goals have hget:=dec_get4 (HD0.out.keep0 hR) HNN.out
    all_goals rw [HNV.out] at hget
    ·refine ov W (.slice (some ⟨z, 0, none⟩) n n) ?_ (.mk hRr rfl rfl)
     simp [go_sem, p7]
    ·refine ov W (.int .i64 (j : Nat)) ?_ (.mk hRr rfl rfl)
     simp [go_sem, p8]
    ·refine ov W (.agg #[]) ?_ (.mk hRr rfl rfl)
     simp [go_sem]
    ·refine ov W (.pointer (some ⟨q, 0, none⟩)) ?_ (.mk hRr rfl rfl)
     simp [go_sem, p0]
    ·have q3 : _ = _:=hd.1 rfl
     refine ov W (.pointer (some ⟨q, 0, none⟩)) ?_ (.mk hRr rfl rfl)
     simp [go_sem, q3]
    ·have q4 : _ = _:=hd.1 rfl
     refine ov W (.pointer (some ⟨q, 0, none⟩)) ?_ (.mk hRr rfl rfl)
     simp [go_sem, q4]
    ·have q5 : _ = _:=hd.1 rfl
     refine ov W (.pointer (some ⟨p, 0, none⟩)) ?_ (.mk hRr rfl rfl)
     simp [go_sem, q5, hcq]
    ·have q6 : _ = _:=hd.1 rfl
     refine ov W (.pointer (some ⟨p, 0, none⟩)) ?_ (.mk hRr rfl rfl)
     simp [go_sem, q6]
    ·have q7 : _ = _:=hd.1 rfl
     refine ov W (.pointer (some ⟨p, 0, none⟩)) ?_ (.mk hRr rfl rfl)
     simp [go_sem, q7]
    ·have q8 : _ = _:=hd.1 rfl
     refine ov W (.slice (some ⟨g, o, none⟩) N c) ?_ (.mk hRr rfl rfl)
     simp [go_sem, q8, hc0]
    ·refine ov W (.pointer (some ⟨q, 0, none⟩)) ?_ (.mk hRr rfl rfl)
     simp [go_sem, p0]
    ·have q10 : _ = _:=hd.1 rfl
     refine ov W (.pointer (some ⟨q, 0, none⟩)) ?_ (.mk hRr rfl rfl)
     simp [go_sem, q10]
    ·have q11 : _ = _:=hd.1 rfl
     refine ov W (.pointer (some ⟨q, 0, none⟩)) ?_ (.mk hRr rfl rfl)
     simp [go_sem, q11]
    ·have q12 : _ = _:=hd.1 rfl
     refine ov W (.pointer (some ⟨p, 0, none⟩)) ?_ (.mk hRr rfl rfl)
     simp [go_sem, q12, hcq]
    ·have q13 : _ = _:=hd.1 rfl
     refine ov W (.pointer (some ⟨p, 0, none⟩)) ?_ (.mk hRr rfl rfl)
     simp [go_sem, q13]
    ·have q14 : _ = _:=hd.1 rfl
     refine ov W (.pointer (some ⟨p, 1, none⟩)) ?_ (.mk hRr rfl rfl)
     simp [go_sem, q14]
    ·have q15 : _ = _:=hd.1 rfl
     refine ov W (.int .i64 pre.length) ?_ (.mk hRr rfl rfl)
     simp [go_sem, q15, hc1]
    ·have q9 : _ = _:=hd.1 rfl
     have q16 : _ = _:=hd.2.1 rfl
     refine ov W (.slice (some ⟨g, o + pre.length, none⟩) (N - pre.length) (c - pre.length)) ?_ (.mk hRr rfl rfl)
     simp [go_sem, q9, q16, hsl]
    ·have q2 : _ = _:=hd.1 rfl
     have q17 : _ = _:=hd.2.1 rfl
     refine ow_call (w':=W) (f:=173) (args:=#[.agg #[], .slice (some ⟨g, o + pre.length, none⟩) (N - pre.length) (c - pre.length)]) (by simp [go_sem, q2, q17]) hget ?_
     rintro e w' ⟨rfl, hk⟩
     exact ⟨_, rfl, .mk hk rfl rfl⟩
    ·have q18 : _ = _:=hd.1 rfl
     refine ov W (.int .i32 x) ?_ (.mk hRr rfl rfl)
     simp [go_sem, q18, hconv]
   ·intro f W hR hf
    obtain ⟨f0, f1, f2, f3, f4, f5, f6, f7, f8, f9, f10, f11, f12, f13, f14, f15, f16, f17, f18, f19, -⟩:=hf
    change f 56 = _ at f0
    change f 57 = _ at f1
    change f 58 = _ at f2
    change f 59 = _ at f3
    change f 60 = _ at f4
    change f 61 = _ at f5
    change f 62 = _ at f6
    change f 63 = _ at f7
    change f 64 = _ at f8
    change f 65 = _ at f9
    change f 66 = _ at f10
    change f 67 = _ at f11
    change f 68 = _ at f12
    change f 69 = _ at f13
    change f 70 = _ at f14
    change f 71 = _ at f15
    change f 72 = _ at f16
    change f 73 = _ at f17
    change f 74 = _ at f18
    change f 75 = _ at f19
    simp only [headDsts, List.take_succ_cons, List.take_zero, List.filterMap_cons, List.filterMap_nil, setAll, f0, f1, f2, f3, f4, f5, f6, f7, f8, f9, f10, f11, f12, f13, f14, f15, f16, f17, f18, f19, List.setIfInBounds_toArray, List.set_cons_succ, List.set_cons_zero, List.drop_succ_cons, List.drop_zero]
    clear f0 f1 f2 f3 f4 f5 f6 f7 f8 f9 f10 f11 f12 f13 f14 f15 f16 f17 f18 f19 f
    obtain ⟨zc, hzc⟩:=(HZR.out.keep hR (by simp)).isCell (j:=j) (by omega)
    have hzf:=(HZR.out.keep hR (by simp)).frozen (o:=j)
    have hput:=(HZR.out.keep hR (by simp)).put (by rw [HSLJ.out]; omega) (.int .i32 x)
    rw [HSLJ.out, ← HSTE.out] at hput
    have hk3 : Kept [z] W (W.setCell ⟨z, j, none⟩ (.int .i32 x)):=kept_set z j _ _
    have hd3 : DecAt p (some ⟨g, o, none⟩) c st pre (big 4 x ++ rst) (W.setCell ⟨z, j, none⟩ (.int .i32 x)):=(HD0.out.keep0 hR).keep hk3 (by simpa using Ne.symm HPZ.out) (fun a ha => by cases ha; simpa using HAZ.out)
    have HK3 : Hid (Kept [p] w (W.setCell ⟨z, j, none⟩ (.int .i32 x))):=(HKR.out.trans (hR.mono (by simp)) (fun x hx => .inl hx)).trans hk3 (fun x hx => .inr (by rw [List.mem_singleton.1 hx]; exact HSZ.out))
    have hc1:=hd3.cell1
    have hcq3:=(HQ.out.keepp HK3.out).cell
    have hf1:=hd3.frozen (o:=1)
    have HD3:=lh hd3
    have HZ3:=lh hput
    clear hput hk3 hd3 hR
    go_wp2
    go_roundw
    case rel =>
     refine ⟨j + 1, by omega, by go_num, ?_, ?_, ?_⟩
     ·rw [HFT.out, HRST.out]
      exact HD3.out.move (by rw [HLEN.out]; go_num)
     ·exact HZ3.out.keep (kept_set p 1 _ _) (by simpa using HPZ.out)
     ·exact HK3.out.trans (kept_set p 1 _ _) (fun x hx => .inl hx)
    case measure => (simp [intOf]) <;> omega
  ·have e1 : l.take j = l:=List.take_of_length_le (by have:=HN.out; omega)
   have e2 : l.drop j = []:=List.drop_eq_nil_of_le (by have:=HN.out; omega)
   have hd:=HDR.out
   have hzz:=HZR.out
   rw [e1, e2] at hd
   rw [e1] at hzz
   rw [List.flatMap_nil, List.nil_append] at hd
   have HD4:=lh hd
   have HZ4:=lh hzz
   clear e1 e2 hd hzz HDR HZR
   go_wp2
   refine bodyPost_ret (results_tmp2 rfl _ _ _) rfl ⟨z, by rw [HSL.out]; rfl, ?_, HSZ.out, HD4.out, HKR.out⟩
   rw [HSL.out]
   exact HZ4.out.slis HSL.out (by omega)
theorem df_i32arr (q p c : Nat) (A : Option Addr) (st : Value) (pre0 rest : List UInt8) (w : World) (hq : FlexAt 156 q p w) (l : List Int) (hl : l.length ≤ 10) (hs : ∀ x ∈ l, Num32 x) (h : DecAt p A c st pre0 (Lib.uvarint (l.length + 1) ++ (l.flatMap (big 4) ++ rest)) w) : Calls Tryz.prog 184 #[.pointer (some ⟨q, 0, none⟩)] w (DecL p A c st (l.map (Value.int .i32)) (pre0 ++ (Lib.uvarint (l.length + 1) ++ l.flatMap (big 4))) rest w):=by
 have HI:=lh (df_ni32arr q p c A st pre0 rest w hq l hl hs h)
 have heq:=fun (W : World) (a : Option Addr) (l c : Nat) => eq_nil W 220 21 Tryz.underlying220 a l c
 clear h hq
 go_enter Tryz.func184, Tryz.ntmps184
 go_wp2_with ((with_reducible refine HI.out.mono ?_); rintro e w1 ⟨z, rfl, hsl, hsz, hd, hk⟩; have HS:=lh hsl; have HZ:=lh hsz; have HD:=lh hd; have HK:=lh hk; clear hsl hsz hd hk)
 exact bodyPost_ret (results_tmp2 rfl _ _ _) rfl ⟨z, by rw [List.length_map]; rfl, HS.out, HZ.out, HD.out, HK.out⟩
def df_ni64arrF (q p g o N c z n j nv : Nat) (pre : List UInt8) (x : Int) (ix : Nat) (v : Value) (_ : World) : Prop :=
 match ix with
 | 0 => v = .slice (some ⟨z, 0, none⟩) n n
 | 1 => v = .int .i64 (j : Nat)
 | 2 => v = .agg #[]
 | 3 => v = .pointer (some ⟨q, 0, none⟩)
 | 4 => v = .pointer (some ⟨q, 0, none⟩)
 | 5 => v = .pointer (some ⟨q, 0, none⟩)
 | 6 => v = .pointer (some ⟨p, 0, none⟩)
 | 7 => v = .pointer (some ⟨p, 0, none⟩)
 | 8 => v = .pointer (some ⟨p, 0, none⟩)
 | 9 => v = .slice (some ⟨g, o, none⟩) N c
 | 10 => v = .pointer (some ⟨q, 0, none⟩)
 | 11 => v = .pointer (some ⟨q, 0, none⟩)
 | 12 => v = .pointer (some ⟨q, 0, none⟩)
 | 13 => v = .pointer (some ⟨p, 0, none⟩)
 | 14 => v = .pointer (some ⟨p, 0, none⟩)
 | 15 => v = .pointer (some ⟨p, 1, none⟩)
 | 16 => v = .int .i64 pre.length
 | 17 => v = .slice (some ⟨g, o + pre.length, none⟩) (N - pre.length) (c - pre.length)
 | 18 => v = .int .u64 (nv : Nat)
 | 19 => v = .int .i64 x
 | _ => True
theorem df_ni64arrF_stable {q p g o N c z n j nv pre x} : ∀ ix v w w', df_ni64arrF q p g o N c z n j nv pre x ix v w → Kept [] w w' → df_ni64arrF q p g o N c z n j nv pre x ix v w':=by
 intro ix v w w' h k
 unfold df_ni64arrF at h ⊢
 split at h <;> (first | (exact h))
theorem df_ni64arr (q p c : Nat) (A : Option Addr) (st : Value) (pre0 rest : List UInt8) (w : World) (hq : FlexAt 156 q p w) (l : List Int) (hl : l.length ≤ 10) (hs : ∀ x ∈ l, Num64 x) (h : DecAt p A c st pre0 (Lib.uvarint (l.length + 1) ++ (l.flatMap (big 8) ++ rest)) w) : Calls Tryz.prog 195 #[.pointer (some ⟨q, 0, none⟩)] w (DecL p A c st (l.map (Value.int .i64)) (pre0 ++ (Lib.uvarint (l.length + 1) ++ l.flatMap (big 8))) rest w):=by
 have hfl:=big_flat_len 8 l
 have hrl : (l.flatMap (big 8) ++ rest).length = 8 * l.length + rest.length:=by rw [List.length_append, hfl]
 have hMb:=h.2.2.2.1
 rw [List.length_append, hrl] at hMb
 obtain ⟨aa, hA⟩ : ∃ aa, A = some aa:=by
  obtain ⟨g, o, hA, -⟩:=h.byte (by rw [List.length_append]; have:=Lib.uvarint_pos (l.length + 1); omega)
  exact ⟨_, hA⟩
 have HI:=lh (dec_uvarint p c A st pre0 _ w (l.length + 1) (by omega) h)
 have HS:=lh hs
 have HREM:=lh (fun (W : World) (hW : DecAt p A c st (pre0 ++ Lib.uvarint (l.length + 1)) (l.flatMap (big 8) ++ rest) W) => dec_remaining p c A st _ _ W hW)
 obtain ⟨pre1, hp1⟩ : ∃ pre1, pre0 ++ Lib.uvarint (l.length + 1) = pre1:=⟨_, rfl⟩
 have hp1l : 0 < pre1.length:=by rw [← hp1, List.length_append]; have:=Lib.uvarint_pos (l.length + 1); omega
 rw [← List.append_assoc]
 rw [hp1] at HI HREM ⊢
 have HP1:=lh hp1
 have HSL : Hid ((l.map (Value.int .i64)).length = l.length):=by simp [Hid]
 obtain ⟨n, hn⟩ : ∃ n, l.length = n:=⟨_, rfl⟩
 obtain ⟨M, hM⟩ : ∃ M, (l.flatMap (big 8) ++ rest).length = M:=⟨_, rfl⟩
 rw [hn] at HI HSL hl hrl hMb
 rw [hM] at HREM hrl
 have HN:=lh hn
 skip
 have hn1 : ¬ (n : Int) < -1:=by omega
 have hn2 : ¬ (n : Int) = -1:=by omega
 obtain ⟨Q, hQ⟩ : ∃ Q : Nat, M / 8 = Q:=⟨_, rfl⟩
 have hqt : ¬ ((Q : Int) < (n : Int)):=by omega
 have hqt2 : ¬ (Q < n):=by omega
 have hQu : IntKind.u64.wrap (Q : Int) = (Q : Int):=wrapu_small (by omega) (by omega)
 obtain ⟨U, hU⟩ : ∃ U, n + 1 = U:=⟨_, rfl⟩
 have hU0 : ¬ (U : Int) = 0:=by omega
 have hU00 : ¬ U = 0:=by omega
 have hUs : IntKind.u64.wrap ((U : Int) - 1) = (n : Int):=by rw [wrapu_small (by omega) (by omega)]; omega
 have hni : IntKind.i64.wrap (n : Int) = (n : Int):=IntWalk.i64_in _ (by omega)
 have hqw : wrap64 ((M : Int) / 8) = (Q : Int):=by
  rw [IntWalk.wrap64_in _ (by omega)]
  omega
 rw [hU] at HI
 have hc:=hq.cell
 have HQ:=lh hq
 obtain ⟨cs, hcs, hmk⟩:=mk_row44 n (by omega)
 have HCS:=lh hcs
 clear h hs hp1 hn hcs hM hfl hrl hMb hQ hU hq
 go_enter Tryz.func195, Tryz.ntmps195
 go_wp2_with (first
  | ((with_reducible refine HI.out.mono ?_); rintro e w1 ⟨rfl, hd, hk⟩; have hc1:=(HQ.out.keepp hk).cell; have HD1:=lh hd; have HK1:=lh hk; clear hd hk)
  | ((with_reducible refine (HREM.out _ HD1.out).mono ?_); rintro e wb ⟨rfl, hk⟩; have HD1b:=lh (HD1.out.keep0 hk); have HK1b:=lh (HK1.out.trans (hk.mono (by simp)) (fun x hx => .inl hx)); have hc1b:=(HQ.out.keepp HK1b.out).cell; clear hk))
 have HZ0 : Hid (RowV wb.heap.size 2 n [] (wb.alloc (.cells cs 2 (0, 0)))):=⟨cs, heap_alloc_new _ _, HCS.out, by simp, fun j b hj => by simp at hj⟩
 have HD2 : Hid (DecAt p A c st pre1 (l.flatMap (big 8) ++ rest) (wb.alloc (.cells cs 2 (0, 0)))):=HD1b.out.keep0 ((Kept.refl [] _).alloc _)
 have HK2 : Hid (Kept [p] w (wb.alloc (.cells cs 2 (0, 0)))):=HK1b.out.alloc _
 have HSZ : Hid (w.heap.size ≤ wb.heap.size):=HK1b.out.size
 have hzp : wb.heap.size ≠ p:=by
  have:=(Array.getElem?_eq_some_iff.1 HD1b.out.1).1
  omega
 have HPZ:=lh hzp
 have HAZ : Hid (aa.block ≠ wb.heap.size):=by
  have h1:=slis_lt HD1b.out.2.1 (by omega) hA
  intro e
  omega
 generalize wb.alloc (.cells cs 2 (0, 0)) = w2 at HZ0 HD2 HK2 ⊢
 obtain ⟨z, hz⟩ : ∃ z, wb.heap.size = z:=⟨_, rfl⟩
 rw [hz] at HZ0 HSZ HPZ HAZ ⊢
 cases hA
 clear hz hzp hmk hqt hqt2 hqw hQu hU0 hU00 hUs hni
 go_loopw [53] (fun iv wr => ∃ j : Nat, j ≤ n ∧ iv = .int .i64 j ∧ DecAt p (some aa) c st (pre1 ++ (l.take j).flatMap (big 8)) ((l.drop j).flatMap (big 8) ++ rest) wr ∧ RowV z 2 n ((l.take j).map (Value.int .i64)) wr ∧ Kept [p] w wr) (fun iv _ => n - (intOf iv).toNat)
 case atStart => exact ⟨0, Nat.zero_le _, rfl, by simpa using HD2.out, by simpa using HZ0.out, HK2.out⟩
 case round =>
  obtain ⟨j, hj, rfl, hdr, hzr, hkr⟩:=hrel
  have HDR:=lh hdr
  have HZR:=lh hzr
  have HKR:=lh hkr
  clear hdr hzr hkr
  by_cases hlt : j < n
  ·obtain ⟨x, hy⟩ : ∃ y, l[j]? = some y:=⟨_, List.getElem?_eq_getElem (by have:=HN.out; omega)⟩
   have hys:=HS.out x (List.mem_of_getElem? hy)
   have hd0:=HDR.out
   rw [flat_drop (big 8) hy, List.append_assoc] at hd0
   obtain ⟨pre, hpre⟩ : ∃ pre, pre1 ++ (l.take j).flatMap (big 8) = pre:=⟨_, rfl⟩
   obtain ⟨rst, hrst⟩ : ∃ rst, (l.drop (j + 1)).flatMap (big 8) ++ rest = rst:=⟨_, rfl⟩
   rw [hpre, hrst] at hd0
   have HFT : Hid (pre1 ++ (l.take (j + 1)).flatMap (big 8) = pre ++ big 8 x):=by unfold Hid; rw [flat_take (big 8) hy, ← List.append_assoc, hpre]
   have HSTE : Hid ((l.take (j + 1)).map (Value.int .i64) = (l.take j).map (Value.int .i64) ++ [.int .i64 x]):=by unfold Hid; rw [take_one hy]; simp
   have HSLJ : Hid (((l.take j).map (Value.int .i64)).length = j):=by unfold Hid; simp; have:=HN.out; omega
   have HRST:=lh hrst
   obtain ⟨g, o, hgo, hgp, -⟩:=hd0.byte (by rw [List.length_append, big_len]; omega)
   cases hgo
   obtain ⟨N, hNN⟩ : ∃ N, pre.length + (big 8 x ++ rst).length = N:=⟨_, rfl⟩
   have hNp : pre.length + 8 ≤ N:=by rw [← hNN, List.length_append, big_len]; omega
   have hNb:=hd0.2.2.2.1
   have hNc:=hd0.2.2.1
   rw [hNN] at hNb hNc
   have HC0 : Hid (wr.cell? ⟨p, 0, none⟩ = some (.slice (some ⟨g, o, none⟩) N c)):=by unfold Hid; rw [hd0.cell0, hNN]
   have HNN:=lh hNN
   have HD0:=lh hd0
   have HCONV:=lh (sig64 (x:=x) hys.1 hys.2)
   obtain ⟨nv, hnv⟩ : ∃ nv : Nat, (Go.Proofs.YtmpjikihnmagoaaGreatDoor.u64 x) = nv:=⟨_, rfl⟩
   rw [hnv] at HCONV
   have hconv:=HCONV.out
   have HNV:=lh hnv
   have HLEN : Hid ((big 8 x).length = 8):=big_len _ _
   have hcqr:=(HQ.out.keepp HKR.out).cell
   have HQR:=lh (HQ.out.keepp HKR.out)
   clear hd0 hpre hrst hNN hy HDR hnv
   go_wp2
   refine wp_region_facts' 20 (Kept []) (df_ni64arrF q p g o N c z n j nv pre x) mixed (by kernel_rfl) (Kept.refl _ _).drew (fun _ _ _ h k => h.trans k (fun x hx => .inl hx)) df_ni64arrF_stable ?_ ?_
   ·refine ⟨?_, ?_, ?_, ?_, ?_, ?_, ?_, ?_, ?_, ?_, ?_, ?_, ?_, ?_, ?_, ?_, ?_, ?_, ?_, ?_, trivial⟩
    all_goals go_light
    all_goals intro a W hR hs hd
    all_goals have p0 : a.tmps[0]? = some (.pointer (some ⟨q, 0, none⟩)):=hs.2.2 0 (by decide)
    all_goals have p7 : a.tmps[7]? = some (.slice (some ⟨z, 0, none⟩) n n):=hs.2.2 7 (by decide)
    all_goals have p8 : a.tmps[8]? = some (.int .i64 (j : Nat)):=hs.2.2 8 (by decide)
    all_goals have hRr:=Kept.refl [] W
    all_goals have hcq : W.cell? ⟨q, 0, none⟩ = _:=hR.cell HQR.out.cell (by simp)
    all_goals have hc0 : W.cell? ⟨p, 0, none⟩ = _:=hR.cell HC0.out (by simp)
    all_goals have hc1 : W.cell? ⟨p, 1, none⟩ = _:=hR.cell HD0.out.cell1 (by simp)
    all_goals have hsl:=dec_from W g o pre.length N c (by omega) hNc
    all_goals have hget:=dec_get8 (HD0.out.keep0 hR) HNN.out
    all_goals rw [HNV.out] at hget
    ·refine ov W (.slice (some ⟨z, 0, none⟩) n n) ?_ (.mk hRr rfl rfl)
     simp [go_sem, p7]
    ·refine ov W (.int .i64 (j : Nat)) ?_ (.mk hRr rfl rfl)
     simp [go_sem, p8]
    ·refine ov W (.agg #[]) ?_ (.mk hRr rfl rfl)
     simp [go_sem]
    ·refine ov W (.pointer (some ⟨q, 0, none⟩)) ?_ (.mk hRr rfl rfl)
     simp [go_sem, p0]
    ·have q3 : _ = _:=hd.1 rfl
     refine ov W (.pointer (some ⟨q, 0, none⟩)) ?_ (.mk hRr rfl rfl)
     simp [go_sem, q3]
    ·have q4 : _ = _:=hd.1 rfl
     refine ov W (.pointer (some ⟨q, 0, none⟩)) ?_ (.mk hRr rfl rfl)
     simp [go_sem, q4]
    ·have q5 : _ = _:=hd.1 rfl
     refine ov W (.pointer (some ⟨p, 0, none⟩)) ?_ (.mk hRr rfl rfl)
     simp [go_sem, q5, hcq]
    ·have q6 : _ = _:=hd.1 rfl
     refine ov W (.pointer (some ⟨p, 0, none⟩)) ?_ (.mk hRr rfl rfl)
     simp [go_sem, q6]
    ·have q7 : _ = _:=hd.1 rfl
     refine ov W (.pointer (some ⟨p, 0, none⟩)) ?_ (.mk hRr rfl rfl)
     simp [go_sem, q7]
    ·have q8 : _ = _:=hd.1 rfl
     refine ov W (.slice (some ⟨g, o, none⟩) N c) ?_ (.mk hRr rfl rfl)
     simp [go_sem, q8, hc0]
    ·refine ov W (.pointer (some ⟨q, 0, none⟩)) ?_ (.mk hRr rfl rfl)
     simp [go_sem, p0]
    ·have q10 : _ = _:=hd.1 rfl
     refine ov W (.pointer (some ⟨q, 0, none⟩)) ?_ (.mk hRr rfl rfl)
     simp [go_sem, q10]
    ·have q11 : _ = _:=hd.1 rfl
     refine ov W (.pointer (some ⟨q, 0, none⟩)) ?_ (.mk hRr rfl rfl)
     simp [go_sem, q11]
    ·have q12 : _ = _:=hd.1 rfl
     refine ov W (.pointer (some ⟨p, 0, none⟩)) ?_ (.mk hRr rfl rfl)
     simp [go_sem, q12, hcq]
    ·have q13 : _ = _:=hd.1 rfl
     refine ov W (.pointer (some ⟨p, 0, none⟩)) ?_ (.mk hRr rfl rfl)
     simp [go_sem, q13]
    ·have q14 : _ = _:=hd.1 rfl
     refine ov W (.pointer (some ⟨p, 1, none⟩)) ?_ (.mk hRr rfl rfl)
     simp [go_sem, q14]
    ·have q15 : _ = _:=hd.1 rfl
     refine ov W (.int .i64 pre.length) ?_ (.mk hRr rfl rfl)
     simp [go_sem, q15, hc1]
    ·have q9 : _ = _:=hd.1 rfl
     have q16 : _ = _:=hd.2.1 rfl
     refine ov W (.slice (some ⟨g, o + pre.length, none⟩) (N - pre.length) (c - pre.length)) ?_ (.mk hRr rfl rfl)
     simp [go_sem, q9, q16, hsl]
    ·have q2 : _ = _:=hd.1 rfl
     have q17 : _ = _:=hd.2.1 rfl
     refine ow_call (w':=W) (f:=174) (args:=#[.agg #[], .slice (some ⟨g, o + pre.length, none⟩) (N - pre.length) (c - pre.length)]) (by simp [go_sem, q2, q17]) hget ?_
     rintro e w' ⟨rfl, hk⟩
     exact ⟨_, rfl, .mk hk rfl rfl⟩
    ·have q18 : _ = _:=hd.1 rfl
     refine ov W (.int .i64 x) ?_ (.mk hRr rfl rfl)
     simp [go_sem, q18, hconv]
   ·intro f W hR hf
    obtain ⟨f0, f1, f2, f3, f4, f5, f6, f7, f8, f9, f10, f11, f12, f13, f14, f15, f16, f17, f18, f19, -⟩:=hf
    change f 56 = _ at f0
    change f 57 = _ at f1
    change f 58 = _ at f2
    change f 59 = _ at f3
    change f 60 = _ at f4
    change f 61 = _ at f5
    change f 62 = _ at f6
    change f 63 = _ at f7
    change f 64 = _ at f8
    change f 65 = _ at f9
    change f 66 = _ at f10
    change f 67 = _ at f11
    change f 68 = _ at f12
    change f 69 = _ at f13
    change f 70 = _ at f14
    change f 71 = _ at f15
    change f 72 = _ at f16
    change f 73 = _ at f17
    change f 74 = _ at f18
    change f 75 = _ at f19
    simp only [headDsts, List.take_succ_cons, List.take_zero, List.filterMap_cons, List.filterMap_nil, setAll, f0, f1, f2, f3, f4, f5, f6, f7, f8, f9, f10, f11, f12, f13, f14, f15, f16, f17, f18, f19, List.setIfInBounds_toArray, List.set_cons_succ, List.set_cons_zero, List.drop_succ_cons, List.drop_zero]
    clear f0 f1 f2 f3 f4 f5 f6 f7 f8 f9 f10 f11 f12 f13 f14 f15 f16 f17 f18 f19 f
    obtain ⟨zc, hzc⟩:=(HZR.out.keep hR (by simp)).isCell (j:=j) (by omega)
    have hzf:=(HZR.out.keep hR (by simp)).frozen (o:=j)
    have hput:=(HZR.out.keep hR (by simp)).put (by rw [HSLJ.out]; omega) (.int .i64 x)
    rw [HSLJ.out, ← HSTE.out] at hput
    have hk3 : Kept [z] W (W.setCell ⟨z, j, none⟩ (.int .i64 x)):=kept_set z j _ _
    have hd3 : DecAt p (some ⟨g, o, none⟩) c st pre (big 8 x ++ rst) (W.setCell ⟨z, j, none⟩ (.int .i64 x)):=(HD0.out.keep0 hR).keep hk3 (by simpa using Ne.symm HPZ.out) (fun a ha => by cases ha; simpa using HAZ.out)
    have HK3 : Hid (Kept [p] w (W.setCell ⟨z, j, none⟩ (.int .i64 x))):=(HKR.out.trans (hR.mono (by simp)) (fun x hx => .inl hx)).trans hk3 (fun x hx => .inr (by rw [List.mem_singleton.1 hx]; exact HSZ.out))
    have hc1:=hd3.cell1
    have hcq3:=(HQ.out.keepp HK3.out).cell
    have hf1:=hd3.frozen (o:=1)
    have HD3:=lh hd3
    have HZ3:=lh hput
    clear hput hk3 hd3 hR
    go_wp2
    go_roundw
    case rel =>
     refine ⟨j + 1, by omega, by go_num, ?_, ?_, ?_⟩
     ·rw [HFT.out, HRST.out]
      exact HD3.out.move (by rw [HLEN.out]; go_num)
     ·exact HZ3.out.keep (kept_set p 1 _ _) (by simpa using HPZ.out)
     ·exact HK3.out.trans (kept_set p 1 _ _) (fun x hx => .inl hx)
    case measure => (simp [intOf]) <;> omega
  ·have e1 : l.take j = l:=List.take_of_length_le (by have:=HN.out; omega)
   have e2 : l.drop j = []:=List.drop_eq_nil_of_le (by have:=HN.out; omega)
   have hd:=HDR.out
   have hzz:=HZR.out
   rw [e1, e2] at hd
   rw [e1] at hzz
   rw [List.flatMap_nil, List.nil_append] at hd
   have HD4:=lh hd
   have HZ4:=lh hzz
   clear e1 e2 hd hzz HDR HZR
   go_wp2
   refine bodyPost_ret (results_tmp2 rfl _ _ _) rfl ⟨z, by rw [HSL.out]; rfl, ?_, HSZ.out, HD4.out, HKR.out⟩
   rw [HSL.out]
   exact HZ4.out.slis HSL.out (by omega)
theorem df_i64arr (q p c : Nat) (A : Option Addr) (st : Value) (pre0 rest : List UInt8) (w : World) (hq : FlexAt 156 q p w) (l : List Int) (hl : l.length ≤ 10) (hs : ∀ x ∈ l, Num64 x) (h : DecAt p A c st pre0 (Lib.uvarint (l.length + 1) ++ (l.flatMap (big 8) ++ rest)) w) : Calls Tryz.prog 185 #[.pointer (some ⟨q, 0, none⟩)] w (DecL p A c st (l.map (Value.int .i64)) (pre0 ++ (Lib.uvarint (l.length + 1) ++ l.flatMap (big 8))) rest w):=by
 have HI:=lh (df_ni64arr q p c A st pre0 rest w hq l hl hs h)
 have heq:=fun (W : World) (a : Option Addr) (l c : Nat) => eq_nil W 44 2 Tryz.underlying44 a l c
 clear h hq
 go_enter Tryz.func185, Tryz.ntmps185
 go_wp2_with ((with_reducible refine HI.out.mono ?_); rintro e w1 ⟨z, rfl, hsl, hsz, hd, hk⟩; have HS:=lh hsl; have HZ:=lh hsz; have HD:=lh hd; have HK:=lh hk; clear hsl hsz hd hk)
 exact bodyPost_ret (results_tmp2 rfl _ _ _) rfl ⟨z, by rw [List.length_map]; rfl, HS.out, HZ.out, HD.out, HK.out⟩
theorem df_strnil (q p c : Nat) (A : Option Addr) (st : Value) (pre rest : List UInt8) (w : World) (hq : FlexAt 156 q p w) (h : DecAt p A c st pre (Lib.uvarint (0 + 1) ++ rest) w) : Calls Tryz.prog 190 #[.pointer (some ⟨q, 0, none⟩)] w (DecR p A c st (.slice none 0 0) (pre ++ Lib.uvarint (0 + 1)) rest w):=by
 have HI : Hid (Calls Tryz.prog 180 #[.pointer (some ⟨q, 0, none⟩)] w (DecR p A c st (.int .i64 0) (pre ++ Lib.uvarint (0 + 1)) rest w)):=df_arrlen q p c A st pre rest w hq 0 (by omega) h
 clear h hq
 go_enter Tryz.func190, Tryz.ntmps190
 go_wp2_with (((with_reducible refine HI.out.mono ?_); rintro e w1 ⟨rfl, hd, hk⟩; have HD1:=lh hd; have HK1:=lh hk; clear hd hk))
 exact bodyPost_ret (results_tmp2 rfl _ _ _) rfl ⟨rfl, HD1.out, HK1.out⟩
end Go.Proofs.YtmpjikihnmagoaaGreatDoor
