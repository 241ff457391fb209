/-
  The reading decoder: booleans, texts, bytes. Conditions: the bytes at hand begin with the form.
-/
import Derived.Test.YtmpjikihnmagoaaGreatDoorZT7
set_option maxRecDepth 100000
set_option maxHeartbeats 3200000
namespace Go.Proofs.YtmpjikihnmagoaaGreatDoor
open Go.RowKit
theorem fits16_nat {n : Nat} (h : n ≤ 32767) : fitsB 16 (n : Int):=⟨by simp <;> omega, by simp <;> omega⟩
theorem fits32_nat {n : Nat} (h : n ≤ 2147483647) : fitsB 32 (n : Int):=⟨by simp <;> omega, by simp <;> omega⟩
theorem fits16_m1 : fitsB 16 (-1):=⟨by simp, by simp⟩
theorem fits32_m1 : fitsB 32 (-1):=⟨by simp, by simp⟩
theorem fits8_0 : fitsB 8 0:=⟨by simp, by simp⟩
theorem fits8_1 : fitsB 8 1:=⟨by simp, by simp⟩
theorem cell_lt {w : World} {a : Addr} {v : Value} (h : w.cell? a = some v) : a.block < w.heap.size:=by
 rcases Nat.lt_or_ge a.block w.heap.size with h1 | h1
 ·exact h1
 ·simp [World.cell?, Array.getElem?_eq_none h1] at h
theorem slis_lt {w : World} {A : Option Addr} {n : Nat} {l : List UInt8} {a : Addr} (h : SlIs w 1 A n (Lib.byteCells l)) (hn : 0 < n) (ha : A = some a) : a.block < w.heap.size:=by
 obtain ⟨b, off, hA, hc⟩:=h.2.2 hn
 have hl:=h.1
 rw [Lib.byteCells_length] at hl
 have h1:=hc 0 _ (List.getElem?_eq_getElem (by rw [Lib.byteCells_length]; omega))
 rw [ha] at hA
 cases hA
 exact cell_lt h1
theorem str_back (s : ByteArray) : (⟨s.data.toList.toArray⟩ : ByteArray) = s:=by
 cases s
 simp
theorem dec_bool_false (p c : Nat) (A : Option Addr) (st : Value) (pre rest : List UInt8) (w : World) (h : DecAt p A c st pre (big 1 0 ++ rest) w) : Calls Tryz.prog 153 #[.pointer (some ⟨p, 0, none⟩)] w (DecR p A c st (.bool false) (pre ++ big 1 0) rest w):=by
 have HI:=lh (dec_int8 p c A st pre rest w 0 fits8_0 h)
 clear h
 go_enter Tryz.func153, Tryz.ntmps153
 go_wp2_with (((with_reducible refine HI.out.mono ?_); rintro e w1 ⟨rfl, hd, hk⟩; have HD1:=lh hd; have HK1:=lh hk; clear hd hk))
 exact bodyPost_ret (results_tmp2 rfl _ _ _) rfl ⟨rfl, HD1.out, HK1.out⟩
theorem dec_bool_true (p c : Nat) (A : Option Addr) (st : Value) (pre rest : List UInt8) (w : World) (h : DecAt p A c st pre (big 1 1 ++ rest) w) : Calls Tryz.prog 153 #[.pointer (some ⟨p, 0, none⟩)] w (DecR p A c st (.bool true) (pre ++ big 1 1) rest w):=by
 have HI:=lh (dec_int8 p c A st pre rest w 1 fits8_1 h)
 clear h
 go_enter Tryz.func153, Tryz.ntmps153
 go_wp2_with (((with_reducible refine HI.out.mono ?_); rintro e w1 ⟨rfl, hd, hk⟩; have HD1:=lh hd; have HK1:=lh hk; clear hd hk))
 exact bodyPost_ret (results_tmp2 rfl _ _ _) rfl ⟨rfl, HD1.out, HK1.out⟩
theorem dec_strlen (p c : Nat) (A : Option Addr) (st : Value) (pre rest : List UInt8) (w : World) (x : Int) (hx : fitsB 16 x) (h0 : -1 ≤ x) (h1 : x ≤ rest.length) (h : DecAt p A c st pre (big 2 x ++ rest) w) : Calls Tryz.prog 177 #[.pointer (some ⟨p, 0, none⟩)] w (DecR p A c st (.int .i64 x) (pre ++ big 2 x) rest w):=by
 have HI:=lh (dec_int16 p c A st pre rest w x hx h)
 have HREM:=lh (fun (W : World) (hW : DecAt p A c st (pre ++ big 2 x) rest W) => dec_remaining p c A st _ _ W hW)
 have hw : IntKind.i64.wrap x = x:=IntWalk.i64_in _ (by have:=hx.1; have:=hx.2; simp at *; omega)
 have hx1 : ¬ x < -1:=by omega
 have hx2 : ¬ (rest.length : Int) < x:=by omega
 clear h
 go_enter Tryz.func177, Tryz.ntmps177
 go_wp2_with (first
  | ((with_reducible refine HI.out.mono ?_); rintro e w1 ⟨rfl, hd, hk⟩; have HD1:=lh hd; have HK1:=lh hk; clear hd hk)
  | ((with_reducible refine (HREM.out _ HD1.out).mono ?_); rintro e w2 ⟨rfl, hk⟩; have HK2:=lh hk; clear hk))
 exact bodyPost_ret (results_tmp2 rfl _ _ _) rfl ⟨rfl, HD1.out.keep0 HK2.out, HK1.out.trans (HK2.out.mono (by simp)) (fun x hx => .inl hx)⟩
def dec_strF (p N c : Nat) (aa b : Addr) (pre f : List UInt8) (s : ByteArray) (ix : Nat) (v : Value) (_ : World) : Prop :=
 match ix with
 | 0 => v = .pointer (some ⟨p, 0, none⟩)
 | 1 => v = .pointer (some ⟨p, 0, none⟩)
 | 2 => v = .pointer (some ⟨p, 0, none⟩)
 | 3 => v = .slice (some aa) N c
 | 4 => v = .pointer (some ⟨p, 0, none⟩)
 | 5 => v = .pointer (some ⟨p, 0, none⟩)
 | 6 => v = .pointer (some ⟨p, 1, none⟩)
 | 7 => v = .int .i64 pre.length
 | 8 => v = .pointer (some ⟨p, 0, none⟩)
 | 9 => v = .pointer (some ⟨p, 0, none⟩)
 | 10 => v = .pointer (some ⟨p, 1, none⟩)
 | 11 => v = .int .i64 pre.length
 | 12 => v = .int .i64 f.length
 | 13 => v = .int .i64 ((pre.length + f.length : Nat) : Int)
 | 14 => v = .slice (some b) f.length (c - pre.length)
 | 15 => v = .string s
 | _ => True
theorem dec_strF_stable {p N c aa b pre f s} : ∀ ix v w w', dec_strF p N c aa b pre f s ix v w → Kept [] w w' → dec_strF p N c aa b pre f s ix v w':=by
 intro ix v w w' h k
 unfold dec_strF at h ⊢
 split at h <;> (first | (exact h))
theorem dec_string (p c : Nat) (A : Option Addr) (st : Value) (pre0 rest : List UInt8) (w0 : World) (s : ByteArray) (hs : s.size ≤ 32767) (h : DecAt p A c st pre0 (big 2 (s.size : Int) ++ s.data.toList ++ rest) w0) : Calls Tryz.prog 164 #[.pointer (some ⟨p, 0, none⟩)] w0 (DecR p A c st (.string s) (pre0 ++ (big 2 (s.size : Int) ++ s.data.toList)) rest w0):=by
 obtain ⟨f, hf⟩ : ∃ f, s.data.toList = f:=⟨_, rfl⟩
 have hfs : s.size = f.length:=by rw [← hf]; rfl
 have hstr : (⟨f.toArray⟩ : ByteArray) = s:=by subst hf; exact str_back s
 rw [hf, hfs, List.append_assoc] at h
 rw [hf, hfs]
 rw [hfs] at hs
 obtain ⟨aa, rfl⟩ : ∃ aa, A = some aa:=by
  obtain ⟨g, o, hA, -⟩:=h.byte (by simp only [List.length_append, big_len]; first | done | omega)
  exact ⟨_, hA⟩
 have HI:=lh (dec_strlen p c _ st pre0 (f ++ rest) w0 (f.length : Int) (fits16_nat hs) (by omega) (by rw [List.length_append]; omega) h)
 have hm1 : ¬ (f.length : Int) = -1:=by omega
 have HSTR:=lh hstr
 clear h hstr hf hfs
 go_enter Tryz.func164, Tryz.ntmps164
 go_wp2_with (((with_reducible refine HI.out.mono ?_); rintro e w ⟨rfl, hd, hk⟩; have HD0:=lh hd; have HK00:=lh hk; clear hd hk))
 rw [← List.append_assoc]
 obtain ⟨pre, hpre⟩ : ∃ pre, pre0 ++ big 2 (f.length : Int) = pre:=⟨_, rfl⟩
 rw [hpre] at HD0
 have HPRE:=lh hpre
 have hN:=HD0.out.2.2.2.1
 have hfr : (f ++ rest).length = f.length + rest.length:=List.length_append
 obtain ⟨N, hNN⟩ : ∃ N, pre.length + (f ++ rest).length = N:=⟨_, rfl⟩
 obtain ⟨b, hbb, -, hsub, hcb⟩:=dec_sub HD0.out N hNN
 have HC0 : Hid (w.cell? ⟨p, 0, none⟩ = some (.slice (some aa) N c)):=by unfold Hid; rw [HD0.out.cell0, hNN]
 have HCB:=lh hcb
 have HPW : Hid (p < w.heap.size):=(Array.getElem?_eq_some_iff.1 HD0.out.1).1
 have HAW : Hid (aa.block < w.heap.size):=by
  obtain ⟨g, q, hga, hc⟩:=HD0.out.2.1.2.2 (by rw [← hpre, List.length_append, big_len]; omega)
  cases hga
  exact slis_lt HD0.out.2.1 (by rw [← hpre, List.length_append, big_len]; omega) rfl
 rw [hNN] at hN
 have hNf : pre.length + f.length ≤ 1000000:=by omega
 have hadd : IntKind.i64.wrap ((pre.length : Int) + (f.length : Int)) = (pre.length : Int) + (f.length : Int):=IntWalk.i64_in _ (by omega)
 clear hfr hNN hcb hbb hpre
 refine wp_region_facts' 16 (Kept []) (dec_strF p N c aa b pre f s) mixed (by kernel_rfl) (Kept.refl _ _).drew (fun _ _ _ h k => h.trans k (fun x hx => .inl hx)) dec_strF_stable ?_ ?_
 ·refine ⟨?_, ?_, ?_, ?_, ?_, ?_, ?_, ?_, ?_, ?_, ?_, ?_, ?_, ?_, ?_, ?_, trivial⟩
  all_goals go_light
  all_goals intro a W hR hs hd
  all_goals have p0 : a.tmps[0]? = some (.pointer (some ⟨p, 0, none⟩)):=hs.2.2 0 (by decide)
  all_goals have p4 : a.tmps[4]? = some (.int .i64 f.length):=hs.2.2 4 (by decide)
  all_goals have hRr:=Kept.refl [] W
  all_goals have hc0 : W.cell? ⟨p, 0, none⟩ = _:=hR.cell HC0.out (by simp)
  all_goals have hc1 : W.cell? ⟨p, 1, none⟩ = _:=hR.cell HD0.out.cell1 (by simp)
  all_goals have hconv:=run_convert_bytes_back (P:=Tryz.prog) W 34 9 5 b (c - pre.length) f Tryz.underlying34 Tryz.underlying5 Tryz.underlying9 (fun j hj => hR.cell (HCB.out j _ (List.getElem?_eq_getElem hj)) (by simp))
  all_goals rw [HSTR.out] at hconv
  all_goals have hsz : w.heap.size ≤ W.heap.size:=hR.size
  ·refine ov W (.pointer (some ⟨p, 0, none⟩)) ?_ (.mk hRr rfl rfl)
   simp [go_sem, p0]
  ·have q0 : _ = _:=hd.1 rfl
   refine ov W (.pointer (some ⟨p, 0, none⟩)) ?_ (.mk hRr rfl rfl)
   simp [go_sem, q0]
  ·have q1 : _ = _:=hd.1 rfl
   refine ov W (.pointer (some ⟨p, 0, none⟩)) ?_ (.mk hRr rfl rfl)
   simp [go_sem, q1]
  ·have q2 : _ = _:=hd.1 rfl
   refine ov W (.slice (some aa) N c) ?_ (.mk hRr rfl rfl)
   simp [go_sem, q2, hc0]
  ·refine ov W (.pointer (some ⟨p, 0, none⟩)) ?_ (.mk hRr rfl rfl)
   simp [go_sem, p0]
  ·have q4 : _ = _:=hd.1 rfl
   refine ov W (.pointer (some ⟨p, 0, none⟩)) ?_ (.mk hRr rfl rfl)
   simp [go_sem, q4]
  ·have q5 : _ = _:=hd.1 rfl
   refine ov W (.pointer (some ⟨p, 1, none⟩)) ?_ (.mk hRr rfl rfl)
   simp [go_sem, q5]
  ·have q6 : _ = _:=hd.1 rfl
   refine ov W (.int .i64 pre.length) ?_ (.mk hRr rfl rfl)
   simp [go_sem, q6, hc1]
  ·refine ov W (.pointer (some ⟨p, 0, none⟩)) ?_ (.mk hRr rfl rfl)
   simp [go_sem, p0]
  ·have q8 : _ = _:=hd.1 rfl
   refine ov W (.pointer (some ⟨p, 0, none⟩)) ?_ (.mk hRr rfl rfl)
   simp [go_sem, q8]
  ·have q9 : _ = _:=hd.1 rfl
   refine ov W (.pointer (some ⟨p, 1, none⟩)) ?_ (.mk hRr rfl rfl)
   simp [go_sem, q9]
  ·have q10 : _ = _:=hd.1 rfl
   refine ov W (.int .i64 pre.length) ?_ (.mk hRr rfl rfl)
   simp [go_sem, q10, hc1]
  ·refine ov W (.int .i64 f.length) ?_ (.mk hRr rfl rfl)
   simp [go_sem, p4]
  ·have q11 : _ = _:=hd.1 rfl
   have q12 : _ = _:=hd.2.1 rfl
   refine ov W (.int .i64 ((pre.length + f.length : Nat) : Int)) ?_ (.mk hRr rfl rfl)
   simp [go_sem, q11, q12, hadd]
  ·have q3 : _ = _:=hd.1 rfl
   have q7 : _ = _:=hd.2.1 rfl
   have q13 : _ = _:=hd.2.2.1 rfl
   refine ov W (.slice (some b) f.length (c - pre.length)) ?_ (.mk hRr rfl rfl)
   simp [go_sem, q3, q7, q13, hsub]
  ·have q14 : _ = _:=hd.1 rfl
   refine ov W (.string s) ?_ (.mk hRr rfl rfl)
   simp [go_sem, q14, hconv]
 ·intro f W hR hf
  obtain ⟨f0, f1, f2, f3, f4, f5, f6, f7, f8, f9, f10, f11, f12, f13, f14, f15, -⟩:=hf
  change f 19 = _ at f0
  change f 20 = _ at f1
  change f 21 = _ at f2
  change f 22 = _ at f3
  change f 23 = _ at f4
  change f 24 = _ at f5
  change f 25 = _ at f6
  change f 26 = _ at f7
  change f 27 = _ at f8
  change f 28 = _ at f9
  change f 29 = _ at f10
  change f 30 = _ at f11
  change f 31 = _ at f12
  change f 32 = _ at f13
  change f 33 = _ at f14
  change f 34 = _ at f15
  simp only [headDsts, List.take_succ_cons, List.take_zero, List.filterMap_cons, List.filterMap_nil, setAll, f0, f1, f2, f3, f4, f5, f6, f7, f8, f9, f10, f11, f12, f13, f14, f15, List.setIfInBounds_toArray, List.set_cons_succ, List.set_cons_zero, List.drop_succ_cons, List.drop_zero]
  clear f0 f1 f2 f3 f4 f5 f6 f7 f8 f9 f10 f11 f12 f13 f14 f15 f
  have hc1 : W.cell? ⟨p, 1, none⟩ = _:=hR.cell HD0.out.cell1 (by simp)
  have hf1 : W.frozen? ⟨p, 1, none⟩ = false:=(HD0.out.keep0 hR).frozen
  have HD:=lh (HD0.out.keep0 hR)
  have HKK:=lh (HK00.out.trans (hR.mono (by simp)) (fun x hx => .inl hx))
  clear hR
  go_wp2
  rw [← List.append_assoc, HPRE.out]
  refine bodyPost_ret (results_tmp2 rfl _ _ _) rfl ⟨rfl, HD.out.move (by go_num), ?_⟩
  exact HKK.out.trans (kept_set _ _ _ _) (fun x hx => .inl hx)
theorem dec_bytes (p c : Nat) (A : Option Addr) (st : Value) (pre f rest : List UInt8) (w : World) (hf : f.length ≤ 1000000) (h : DecAt p A c st pre (big 4 (f.length : Int) ++ f ++ rest) w) : Calls Tryz.prog 154 #[.pointer (some ⟨p, 0, none⟩)] w (DecB p A c st f (pre ++ (big 4 (f.length : Int) ++ f)) rest w):=by
 rw [List.append_assoc] at h
 obtain ⟨aa, rfl⟩ : ∃ aa, A = some aa:=by
  obtain ⟨g, o, hA, -⟩:=h.byte (by rw [List.length_append]; rw [big_len]; omega)
  exact ⟨_, hA⟩
 have HI:=lh (dec_int32 p c _ st pre (f ++ rest) w (f.length : Int) (fits32_nat (by omega)) h)
 have HR:=lh (fun (W : World) (hW : DecAt p (some aa) c st (pre ++ big 4 (f.length : Int)) (f ++ rest) W) => dec_raw p c aa st _ f rest W hW)
 have HREM:=lh (fun (W : World) (hW : DecAt p (some aa) c st (pre ++ big 4 (f.length : Int)) (f ++ rest) W) => dec_remaining p c (some aa) st _ _ W hW)
 have hw : IntKind.i64.wrap (f.length : Int) = (f.length : Int):=IntWalk.i64_in _ (by omega)
 have hm1 : ¬ (f.length : Int) = -1:=by omega
 obtain ⟨M, hM⟩ : ∃ M, (f ++ rest).length = M:=⟨_, rfl⟩
 have hMf : ¬ ((M : Int) < (f.length : Int)):=by rw [List.length_append] at hM; omega
 rw [hM] at HREM
 clear h hM
 rw [← List.append_assoc]
 go_enter Tryz.func154, Tryz.ntmps154
 go_wp2_with (first
  | ((with_reducible refine HI.out.mono ?_); rintro e w1 ⟨rfl, hd, hk⟩; have HD1:=lh hd; have HK1:=lh hk; clear hd hk)
  | ((with_reducible refine (HREM.out _ HD1.out).mono ?_); rintro e w2 ⟨rfl, hk⟩; have HD2:=lh (HD1.out.keep0 hk); have HK2:=lh (HK1.out.trans (hk.mono (by simp)) (fun x hx => .inl hx)); clear hk)
  | ((with_reducible refine (HR.out _ HD1.out).mono ?_); rintro e w3 ⟨b, cp, rfl, hsl, hbp, hd, hk⟩; have HS:=lh hsl; have HBP:=lh hbp; have HD3:=lh hd; have HK3:=lh (HK1.out.trans hk (fun x hx => .inl hx)); clear hsl hbp hd hk))
 exact bodyPost_ret (results_tmp2 rfl _ _ _) rfl ⟨b, cp, rfl, HS.out, HBP.out, HD3.out, HK3.out⟩
theorem dec_varbytes (p c : Nat) (A : Option Addr) (st : Value) (pre f rest : List UInt8) (w : World) (hf : f.length ≤ 1000000) (h : DecAt p A c st pre (Lib.uvarint (Lib.zigzag (f.length : Int)) ++ f ++ rest) w) : Calls Tryz.prog 168 #[.pointer (some ⟨p, 0, none⟩)] w (DecB p A c st f (pre ++ (Lib.uvarint (Lib.zigzag (f.length : Int)) ++ f)) rest w):=by
 rw [List.append_assoc] at h
 obtain ⟨aa, rfl⟩ : ∃ aa, A = some aa:=by
  obtain ⟨g, o, hA, -⟩:=h.byte (by rw [List.length_append]; have:=Lib.uvarint_pos (Lib.zigzag (f.length : Int)); omega)
  exact ⟨_, hA⟩
 have HI:=lh (dec_varint p c _ st pre (f ++ rest) w (f.length : Int) (by omega) (by omega) h)
 have HR:=lh (fun (W : World) (hW : DecAt p (some aa) c st (pre ++ Lib.uvarint (Lib.zigzag (f.length : Int))) (f ++ rest) W) => dec_raw p c aa st _ f rest W hW)
 have HREM:=lh (fun (W : World) (hW : DecAt p (some aa) c st (pre ++ Lib.uvarint (Lib.zigzag (f.length : Int))) (f ++ rest) W) => dec_remaining p c (some aa) st _ _ W hW)
 have hw : IntKind.i64.wrap (f.length : Int) = (f.length : Int):=IntWalk.i64_in _ (by omega)
 have hm1 : ¬ (f.length : Int) = -1:=by omega
 obtain ⟨M, hM⟩ : ∃ M, (f ++ rest).length = M:=⟨_, rfl⟩
 have hMf : ¬ ((M : Int) < (f.length : Int)):=by rw [List.length_append] at hM; omega
 rw [hM] at HREM
 clear h hM
 rw [← List.append_assoc]
 go_enter Tryz.func168, Tryz.ntmps168
 go_wp2_with (first
  | ((with_reducible refine HI.out.mono ?_); rintro e w1 ⟨rfl, hd, hk⟩; have HD1:=lh hd; have HK1:=lh hk; clear hd hk)
  | ((with_reducible refine (HREM.out _ HD1.out).mono ?_); rintro e w2 ⟨rfl, hk⟩; have HD2:=lh (HD1.out.keep0 hk); have HK2:=lh (HK1.out.trans (hk.mono (by simp)) (fun x hx => .inl hx)); clear hk)
  | ((with_reducible refine (HR.out _ HD2.out).mono ?_); rintro e w3 ⟨b, cp, rfl, hsl, hbp, hd, hk⟩; have HS:=lh hsl; have HBP:=lh hbp; have HD3:=lh hd; have HK3:=lh (HK2.out.trans hk (fun x hx => .inl hx)); clear hsl hbp hd hk))
 exact bodyPost_ret (results_tmp2 rfl _ _ _) rfl ⟨b, cp, rfl, HS.out, HBP.out, HD3.out, HK3.out⟩
theorem dec_nil (p c : Nat) (A : Option Addr) (st : Value) (pre rest : List UInt8) (w : World) (h : DecAt p A c st pre (big 4 (-1) ++ rest) w) : Calls Tryz.prog 154 #[.pointer (some ⟨p, 0, none⟩)] w (DecR p A c st (.slice none 0 0) (pre ++ big 4 (-1)) rest w):=by
 have HI:=lh (dec_int32 p c A st pre rest w (-1) fits32_m1 h)
 clear h
 go_enter Tryz.func154, Tryz.ntmps154
 go_wp2_with (((with_reducible refine HI.out.mono ?_); rintro e w1 ⟨rfl, hd, hk⟩; have HD1:=lh hd; have HK1:=lh hk; clear hd hk))
 exact bodyPost_ret (results_tmp2 rfl _ _ _) rfl ⟨rfl, HD1.out, HK1.out⟩
theorem dec_varnil (p c : Nat) (A : Option Addr) (st : Value) (pre rest : List UInt8) (w : World) (h : DecAt p A c st pre (Lib.uvarint (Lib.zigzag (-1)) ++ rest) w) : Calls Tryz.prog 168 #[.pointer (some ⟨p, 0, none⟩)] w (DecR p A c st (.slice none 0 0) (pre ++ Lib.uvarint (Lib.zigzag (-1))) rest w):=by
 have HI:=lh (dec_varint p c A st pre rest w (-1) (by omega) (by omega) h)
 clear h
 go_enter Tryz.func168, Tryz.ntmps168
 go_wp2_with (((with_reducible refine HI.out.mono ?_); rintro e w1 ⟨rfl, hd, hk⟩; have HD1:=lh hd; have HK1:=lh hk; clear hd hk))
 exact bodyPost_ret (results_tmp2 rfl _ _ _) rfl ⟨rfl, HD1.out, HK1.out⟩
theorem dec_nullstr (p c : Nat) (A : Option Addr) (st : Value) (pre rest : List UInt8) (w : World) (h : DecAt p A c st pre (big 2 (-1) ++ rest) w) : Calls Tryz.prog 162 #[.pointer (some ⟨p, 0, none⟩)] w (DecR p A c st (.pointer none) (pre ++ big 2 (-1)) rest w):=by
 have HI:=lh (dec_strlen p c A st pre rest w (-1) fits16_m1 (by omega) (by omega) h)
 clear h
 go_enter Tryz.func162, Tryz.ntmps162
 go_wp2_with (((with_reducible refine HI.out.mono ?_); rintro e w1 ⟨rfl, hd, hk⟩; have HD1:=lh hd; have HK1:=lh hk; clear hd hk))
 exact bodyPost_ret (results_tmp2 rfl _ _ _) rfl ⟨rfl, HD1.out, HK1.out⟩
def dec_nstrF (p N c Bs : Nat) (aa b : Addr) (pre f : List UInt8) (s : ByteArray) (ix : Nat) (v : Value) (W : World) : Prop :=
 match ix with
 | 0 => v = .pointer (some ⟨p, 0, none⟩)
 | 1 => v = .pointer (some ⟨p, 0, none⟩)
 | 2 => v = .pointer (some ⟨p, 0, none⟩)
 | 3 => v = .slice (some aa) N c
 | 4 => v = .pointer (some ⟨p, 0, none⟩)
 | 5 => v = .pointer (some ⟨p, 0, none⟩)
 | 6 => v = .pointer (some ⟨p, 1, none⟩)
 | 7 => v = .int .i64 pre.length
 | 8 => v = .pointer (some ⟨p, 0, none⟩)
 | 9 => v = .pointer (some ⟨p, 0, none⟩)
 | 10 => v = .pointer (some ⟨p, 1, none⟩)
 | 11 => v = .int .i64 pre.length
 | 12 => v = .int .i64 f.length
 | 13 => v = .int .i64 ((pre.length + f.length : Nat) : Int)
 | 14 => v = .slice (some b) f.length (c - pre.length)
 | 15 => v = .string s
 | 16 => ∃ z, v = .pointer (some ⟨z, 0, none⟩) ∧ W.heap[z]? = some (.cells #[.string ⟨#[]⟩] 9 (0, 0)) ∧ Bs ≤ z
 | _ => True
theorem dec_nstrF_stable {p N c Bs aa b pre f s} : ∀ ix v w w', dec_nstrF p N c Bs aa b pre f s ix v w → Kept [] w w' → dec_nstrF p N c Bs aa b pre f s ix v w':=by
 intro ix v w w' h k
 unfold dec_nstrF at h ⊢
 split at h <;> (first | (exact h) | (obtain ⟨z, h1, h2, h3⟩:=h; exact ⟨z, h1, k.heap h2 (by simp), h3⟩))
/-- A text that may be null has been read. -/
def DecS (p : Nat) (A : Option Addr) (c : Nat) (st : Value) (s : ByteArray) (pre rest : List UInt8) (w : World) (e : Ending) (w' : World) : Prop:=∃ a, e = .returned (.tuple #[.pointer (some a), .nilIface]) ∧ w'.cell? a = some (.string s) ∧ DecAt p A c st pre rest w' ∧ Kept [p] w w'
theorem dec_somestr (p c : Nat) (A : Option Addr) (st : Value) (pre0 rest : List UInt8) (w0 : World) (s : ByteArray) (hs : s.size ≤ 32767) (h : DecAt p A c st pre0 (big 2 (s.size : Int) ++ s.data.toList ++ rest) w0) : Calls Tryz.prog 162 #[.pointer (some ⟨p, 0, none⟩)] w0 (DecS p A c st s (pre0 ++ (big 2 (s.size : Int) ++ s.data.toList)) rest w0):=by
 obtain ⟨f, hf⟩ : ∃ f, s.data.toList = f:=⟨_, rfl⟩
 have hfs : s.size = f.length:=by rw [← hf]; rfl
 have hstr : (⟨f.toArray⟩ : ByteArray) = s:=by subst hf; exact str_back s
 rw [hf, hfs, List.append_assoc] at h
 rw [hf, hfs]
 rw [hfs] at hs
 obtain ⟨aa, rfl⟩ : ∃ aa, A = some aa:=by
  obtain ⟨g, o, hA, -⟩:=h.byte (by simp only [List.length_append, big_len]; first | done | omega)
  exact ⟨_, hA⟩
 have HI:=lh (dec_strlen p c _ st pre0 (f ++ rest) w0 (f.length : Int) (fits16_nat hs) (by omega) (by rw [List.length_append]; omega) h)
 have hm1 : ¬ (f.length : Int) = -1:=by omega
 have HSTR:=lh hstr
 clear h hstr hf hfs
 go_enter Tryz.func162, Tryz.ntmps162
 go_wp2_with (((with_reducible refine HI.out.mono ?_); rintro e w ⟨rfl, hd, hk⟩; have HD0:=lh hd; have HK00:=lh hk; clear hd hk))
 rw [← List.append_assoc]
 obtain ⟨pre, hpre⟩ : ∃ pre, pre0 ++ big 2 (f.length : Int) = pre:=⟨_, rfl⟩
 rw [hpre] at HD0
 have HPRE:=lh hpre
 have hN:=HD0.out.2.2.2.1
 have hfr : (f ++ rest).length = f.length + rest.length:=List.length_append
 obtain ⟨N, hNN⟩ : ∃ N, pre.length + (f ++ rest).length = N:=⟨_, rfl⟩
 obtain ⟨b, hbb, -, hsub, hcb⟩:=dec_sub HD0.out N hNN
 have HC0 : Hid (w.cell? ⟨p, 0, none⟩ = some (.slice (some aa) N c)):=by unfold Hid; rw [HD0.out.cell0, hNN]
 have HCB:=lh hcb
 have HPW : Hid (p < w.heap.size):=(Array.getElem?_eq_some_iff.1 HD0.out.1).1
 have HAW : Hid (aa.block < w.heap.size):=by
  obtain ⟨g, q, hga, hc⟩:=HD0.out.2.1.2.2 (by rw [← hpre, List.length_append, big_len]; omega)
  cases hga
  exact slis_lt HD0.out.2.1 (by rw [← hpre, List.length_append, big_len]; omega) rfl
 rw [hNN] at hN
 have hNf : pre.length + f.length ≤ 1000000:=by omega
 have hadd : IntKind.i64.wrap ((pre.length : Int) + (f.length : Int)) = (pre.length : Int) + (f.length : Int):=IntWalk.i64_in _ (by omega)
 clear hfr hNN hcb hbb hpre
 refine wp_region_facts' 17 (Kept []) (dec_nstrF p N c w.heap.size aa b pre f s) mixed (by kernel_rfl) (Kept.refl _ _).drew (fun _ _ _ h k => h.trans k (fun x hx => .inl hx)) dec_nstrF_stable ?_ ?_
 ·refine ⟨?_, ?_, ?_, ?_, ?_, ?_, ?_, ?_, ?_, ?_, ?_, ?_, ?_, ?_, ?_, ?_, ?_, trivial⟩
  all_goals go_light
  all_goals intro a W hR hs hd
  all_goals have p0 : a.tmps[0]? = some (.pointer (some ⟨p, 0, none⟩)):=hs.2.2 0 (by decide)
  all_goals have p4 : a.tmps[4]? = some (.int .i64 f.length):=hs.2.2 4 (by decide)
  all_goals have hRr:=Kept.refl [] W
  all_goals have hc0 : W.cell? ⟨p, 0, none⟩ = _:=hR.cell HC0.out (by simp)
  all_goals have hc1 : W.cell? ⟨p, 1, none⟩ = _:=hR.cell HD0.out.cell1 (by simp)
  all_goals have hconv:=run_convert_bytes_back (P:=Tryz.prog) W 34 9 5 b (c - pre.length) f Tryz.underlying34 Tryz.underlying5 Tryz.underlying9 (fun j hj => hR.cell (HCB.out j _ (List.getElem?_eq_getElem hj)) (by simp))
  all_goals rw [HSTR.out] at hconv
  all_goals have hsz : w.heap.size ≤ W.heap.size:=hR.size
  ·refine ov W (.pointer (some ⟨p, 0, none⟩)) ?_ (.mk hRr rfl rfl)
   simp [go_sem, p0]
  ·have q0 : _ = _:=hd.1 rfl
   refine ov W (.pointer (some ⟨p, 0, none⟩)) ?_ (.mk hRr rfl rfl)
   simp [go_sem, q0]
  ·have q1 : _ = _:=hd.1 rfl
   refine ov W (.pointer (some ⟨p, 0, none⟩)) ?_ (.mk hRr rfl rfl)
   simp [go_sem, q1]
  ·have q2 : _ = _:=hd.1 rfl
   refine ov W (.slice (some aa) N c) ?_ (.mk hRr rfl rfl)
   simp [go_sem, q2, hc0]
  ·refine ov W (.pointer (some ⟨p, 0, none⟩)) ?_ (.mk hRr rfl rfl)
   simp [go_sem, p0]
  ·have q4 : _ = _:=hd.1 rfl
   refine ov W (.pointer (some ⟨p, 0, none⟩)) ?_ (.mk hRr rfl rfl)
   simp [go_sem, q4]
  ·have q5 : _ = _:=hd.1 rfl
   refine ov W (.pointer (some ⟨p, 1, none⟩)) ?_ (.mk hRr rfl rfl)
   simp [go_sem, q5]
  ·have q6 : _ = _:=hd.1 rfl
   refine ov W (.int .i64 pre.length) ?_ (.mk hRr rfl rfl)
   simp [go_sem, q6, hc1]
  ·refine ov W (.pointer (some ⟨p, 0, none⟩)) ?_ (.mk hRr rfl rfl)
   simp [go_sem, p0]
  ·have q8 : _ = _:=hd.1 rfl
   refine ov W (.pointer (some ⟨p, 0, none⟩)) ?_ (.mk hRr rfl rfl)
   simp [go_sem, q8]
  ·have q9 : _ = _:=hd.1 rfl
   refine ov W (.pointer (some ⟨p, 1, none⟩)) ?_ (.mk hRr rfl rfl)
   simp [go_sem, q9]
  ·have q10 : _ = _:=hd.1 rfl
   refine ov W (.int .i64 pre.length) ?_ (.mk hRr rfl rfl)
   simp [go_sem, q10, hc1]
  ·refine ov W (.int .i64 f.length) ?_ (.mk hRr rfl rfl)
   simp [go_sem, p4]
  ·have q11 : _ = _:=hd.1 rfl
   have q12 : _ = _:=hd.2.1 rfl
   refine ov W (.int .i64 ((pre.length + f.length : Nat) : Int)) ?_ (.mk hRr rfl rfl)
   simp [go_sem, q11, q12, hadd]
  ·have q3 : _ = _:=hd.1 rfl
   have q7 : _ = _:=hd.2.1 rfl
   have q13 : _ = _:=hd.2.2.1 rfl
   refine ov W (.slice (some b) f.length (c - pre.length)) ?_ (.mk hRr rfl rfl)
   simp [go_sem, q3, q7, q13, hsub]
  ·have q14 : _ = _:=hd.1 rfl
   refine ov W (.string s) ?_ (.mk hRr rfl rfl)
   simp [go_sem, q14, hconv]
  ·refine ow_value (w':=W.alloc (.cells #[.string ⟨#[]⟩] 9)) (v:=.pointer (some ⟨W.heap.size, 0, none⟩)) ?_ (.mk (hRr.alloc _) ⟨_, rfl, heap_alloc_new _ _, hsz⟩ rfl)
   simp [go_sem]
 ·intro f W hR hf
  obtain ⟨f0, f1, f2, f3, f4, f5, f6, f7, f8, f9, f10, f11, f12, f13, f14, f15, f16, -⟩:=hf
  change f 19 = _ at f0
  change f 20 = _ at f1
  change f 21 = _ at f2
  change f 22 = _ at f3
  change f 23 = _ at f4
  change f 24 = _ at f5
  change f 25 = _ at f6
  change f 26 = _ at f7
  change f 27 = _ at f8
  change f 28 = _ at f9
  change f 29 = _ at f10
  change f 30 = _ at f11
  change f 31 = _ at f12
  change f 32 = _ at f13
  change f 33 = _ at f14
  change f 34 = _ at f15
  change ∃ z, (f 6) = .pointer (some ⟨z, 0, none⟩) ∧ W.heap[z]? = some (.cells #[.string ⟨#[]⟩] 9 (0, 0)) ∧ w.heap.size ≤ z at f16
  obtain ⟨x16, g16⟩ : ∃ x, f 6 = x:=⟨_, rfl⟩
  rw [g16] at f16
  simp only [headDsts, List.take_succ_cons, List.take_zero, List.filterMap_cons, List.filterMap_nil, setAll, f0, f1, f2, f3, f4, f5, f6, f7, f8, f9, f10, f11, f12, f13, f14, f15, g16, List.setIfInBounds_toArray, List.set_cons_succ, List.set_cons_zero, List.drop_succ_cons, List.drop_zero]
  clear f0 f1 f2 f3 f4 f5 f6 f7 f8 f9 f10 f11 f12 f13 f14 f15 g16 f
  obtain ⟨z, rfl, hz, hzs⟩:=f16
  have hpw:=HPW.out
  have haw:=HAW.out
  have hzp : z ≠ p:=by omega
  have hcz : W.cell? ⟨z, 0, none⟩ = some (.string ⟨#[]⟩):=by simp [World.cell?, hz]
  have hfz : W.frozen? ⟨z, 0, none⟩ = false:=by simp [World.frozen?, hz]
  have hkz : Kept [z] W (W.setCell ⟨z, 0, none⟩ (.string s)):=kept_set _ _ _ _
  have hc1 : (W.setCell ⟨z, 0, none⟩ (.string s)).cell? ⟨p, 1, none⟩ = _:=hkz.cell ((HD0.out.keep0 hR).cell1) (by simpa using Ne.symm hzp)
  have hd1 : DecAt p (some aa) c st pre (f ++ rest) (W.setCell ⟨z, 0, none⟩ (.string s)):=(HD0.out.keep0 hR).keep hkz (by simpa using Ne.symm hzp) (by intro a' ha'; cases ha'; simp; omega)
  have hf1:=hd1.frozen (o:=1)
  have hsz : (W.setCell ⟨z, 0, none⟩ (.string s)).cell? ⟨z, 0, none⟩ = some (.string s):=World.cell?_setCell_same _ _ _ hcz
  have HD:=lh hd1
  have HZ:=lh hsz
  have HKK : Hid (Kept [p] w0 (W.setCell ⟨z, 0, none⟩ (.string s))):=(HK00.out.trans (hR.mono (by simp)) (fun x hx => .inl hx)).trans hkz (fun x hx => .inr (by simp at hx; subst hx; exact Nat.le_trans HK00.out.size hzs))
  clear hd1 hkz hR hsz
  go_wp2
  rw [← List.append_assoc, HPRE.out]
  refine bodyPost_ret (results_tmp2 rfl _ _ _) rfl ⟨⟨z, 0, none⟩, rfl, ?_, HD.out.move (by go_num), ?_⟩
  ·exact (kept_set p 1 _ _).cell HZ.out (by simpa using hzp)
  ·exact HKK.out.trans (kept_set _ _ _ _) (fun x hx => .inl hx)
end Go.Proofs.YtmpjikihnmagoaaGreatDoor
/-
 The reading decoder: lists. Conditions: the bytes at hand begin with the form.
-/
namespace Go.Proofs.YtmpjikihnmagoaaGreatDoor
open Go.RowKit
/-- A row of N cells, of which the first ones are told. -/
def RowV (z t N : Nat) (k : List Value) (w : World) : Prop:=∃ A : Array Value, w.heap[z]? = some (.cells A t (0, 0)) ∧ A.size = N ∧ k.length ≤ N ∧ ∀ (j : Nat) (b : Value), k[j]? = some b → A[j]? = some b
theorem RowV.isCell {z t N j : Nat} {k : List Value} {w : World} (h : RowV z t N k w) (hj : j < N) : ∃ x, w.cell? ⟨z, j, none⟩ = some x:=by
 obtain ⟨A, h1, h2, -⟩:=h
 refine ⟨A[j], ?_⟩
 simp [World.cell?, h1, Array.getElem?_eq_getElem (show j < A.size by omega)]
theorem RowV.frozen {z t N o : Nat} {k : List Value} {w : World} (h : RowV z t N k w) : w.frozen? ⟨z, o, none⟩ = false:=by
 obtain ⟨A, h1, -⟩:=h
 simp [World.frozen?, h1]
theorem RowV.keep {z t N : Nat} {k : List Value} {S : List Nat} {w w' : World} (h : RowV z t N k w) (hk : Kept S w w') (hS : z ∉ S) : RowV z t N k w':=by
 obtain ⟨A, h1, h2⟩:=h
 exact ⟨A, hk.heap h1 hS, h2⟩
theorem RowV.put {z t N : Nat} {k : List Value} {w : World} (h : RowV z t N k w) (hl : k.length < N) (b : Value) : RowV z t N (k ++ [b]) (w.setCell ⟨z, k.length, none⟩ b):=by
 obtain ⟨A, h1, h2, h3, h4⟩:=h
 refine ⟨A.setIfInBounds k.length b, heap_setCell_same _ _ _ _ _ _ h1, by simp [h2], by simp; omega, fun j x hj => ?_⟩
 rw [Array.getElem?_setIfInBounds]
 by_cases e : k.length = j
 ·subst e
  rw [if_pos rfl, if_pos (by omega)]
  simp at hj
  rw [hj]
 ·rw [if_neg e]
  have hj2 : j < k.length:=by
   have:=(List.getElem?_eq_some_iff.1 hj).1
   simp at this
   omega
  rw [List.getElem?_append_left hj2] at hj
  exact h4 j x hj
theorem RowV.slis {z t N : Nat} {k : List Value} {w : World} (h : RowV z t N k w) (hN : k.length = N) (hb : N ≤ 1000000) : SlIs w 1 (some ⟨z, 0, none⟩) N k:=by
 obtain ⟨A, h1, h2, h3, h4⟩:=h
 refine ⟨by omega, by omega, fun _ => ⟨z, 0, rfl, fun i v hv => ?_⟩⟩
 simp [World.cell?, h1, h4 i v hv]
theorem textB_false (s : ByteArray) : textB false s = big 2 (s.size : Int) ++ s.data.toList:=rfl
theorem textB_true (s : ByteArray) : textB true s = Lib.uvarint (u64 ((s.size : Int) + 1)) ++ s.data.toList:=rfl
theorem flat_drop {α : Type} (f : α → List UInt8) {l : List α} {j : Nat} {y : α} (h : l[j]? = some y) : (l.drop j).flatMap f = f y ++ (l.drop (j + 1)).flatMap f:=by
 obtain ⟨h1, h2⟩:=List.getElem?_eq_some_iff.1 h
 rw [List.drop_eq_getElem_cons h1, h2]
 simp
/-- A list has been read, and no error. -/
def DecL (p : Nat) (A : Option Addr) (c : Nat) (st : Value) (l : List Value) (pre rest : List UInt8) (w : World) (e : Ending) (w' : World) : Prop:=∃ z, e = .returned (.tuple #[.slice (some ⟨z, 0, none⟩) l.length l.length, .nilIface]) ∧ SlIs w' 1 (some ⟨z, 0, none⟩) l.length l ∧ w.heap.size ≤ z ∧ DecAt p A c st pre rest w' ∧ Kept [p] w w'
theorem dec_get4 {p g o c N : Nat} {st : Value} {pre rest : List UInt8} {W : World} {x : Int} (h : DecAt p (some ⟨g, o, none⟩) c st pre (big 4 x ++ rest) W) (hN : pre.length + (big 4 x ++ rest).length = N) : Calls Tryz.prog 173 #[.agg #[], .slice (some ⟨g, o + pre.length, none⟩) (N - pre.length) (c - pre.length)] W fun e w' => e = .returned (.int .u32 ((u64 x % 4294967296) : Nat)) ∧ Kept [] W w':=by
 have hrl : (big 4 x ++ rest).length = 4 + rest.length:=by rw [List.length_append, big_len]
 obtain ⟨g', o', hA, hgp, hbyte⟩:=h.byte (by omega)
 cases hA
 have hbl : big 4 x = [(big 4 x)[0]!, (big 4 x)[1]!, (big 4 x)[2]!, (big 4 x)[3]!]:=list_get! (big_len 4 x)
 have hcb : ∀ j, j < 4 → W.cell? ⟨g, o + pre.length + j, none⟩ = some (.int .u8 (((big 4 x)[j]!).toNat : Int)):=fun j hj => by
  refine hbyte j _ ?_
  have hlt : j < (big 4 x).length:=by rw [big_len]; exact hj
  rw [List.getElem?_append_left hlt, List.getElem?_eq_getElem hlt, getElem!_pos (big 4 x) j hlt]
 have hget:=Tryz.binary_BE_Uint32 g (o + pre.length) (N - pre.length) (c - pre.length) (big 4 x)[0]! (big 4 x)[1]! (big 4 x)[2]! (big 4 x)[3]! W (by omega) (hcb 0 (by omega)) (hcb 1 (by omega)) (hcb 2 (by omega)) (hcb 3 (by omega))
 rw [← hbl, beNat_mod4] at hget
 refine hget.mono ?_
 rintro e w' ⟨rfl, hb⟩
 exact ⟨rfl, Kept.of_below hb⟩
theorem dec_get8 {p g o c N : Nat} {st : Value} {pre rest : List UInt8} {W : World} {x : Int} (h : DecAt p (some ⟨g, o, none⟩) c st pre (big 8 x ++ rest) W) (hN : pre.length + (big 8 x ++ rest).length = N) : Calls Tryz.prog 174 #[.agg #[], .slice (some ⟨g, o + pre.length, none⟩) (N - pre.length) (c - pre.length)] W fun e w' => e = .returned (.int .u64 ((u64 x) : Nat)) ∧ Kept [] W w':=by
 have hrl : (big 8 x ++ rest).length = 8 + rest.length:=by rw [List.length_append, big_len]
 obtain ⟨g', o', hA, hgp, hbyte⟩:=h.byte (by omega)
 cases hA
 have hbl : big 8 x = [(big 8 x)[0]!, (big 8 x)[1]!, (big 8 x)[2]!, (big 8 x)[3]!, (big 8 x)[4]!, (big 8 x)[5]!, (big 8 x)[6]!, (big 8 x)[7]!]:=list_get! (big_len 8 x)
 have hcb : ∀ j, j < 8 → W.cell? ⟨g, o + pre.length + j, none⟩ = some (.int .u8 (((big 8 x)[j]!).toNat : Int)):=fun j hj => by
  refine hbyte j _ ?_
  have hlt : j < (big 8 x).length:=by rw [big_len]; exact hj
  rw [List.getElem?_append_left hlt, List.getElem?_eq_getElem hlt, getElem!_pos (big 8 x) j hlt]
 have hget:=Tryz.binary_BE_Uint64 g (o + pre.length) (N - pre.length) (c - pre.length) (big 8 x)[0]! (big 8 x)[1]! (big 8 x)[2]! (big 8 x)[3]! (big 8 x)[4]! (big 8 x)[5]! (big 8 x)[6]! (big 8 x)[7]! W (by omega) (hcb 0 (by omega)) (hcb 1 (by omega)) (hcb 2 (by omega)) (hcb 3 (by omega)) (hcb 4 (by omega)) (hcb 5 (by omega)) (hcb 6 (by omega)) (hcb 7 (by omega))
 rw [← hbl, beNat_big (u64_lt x)] at hget
 refine hget.mono ?_
 rintro e w' ⟨rfl, hb⟩
 exact ⟨rfl, Kept.of_below hb⟩
theorem mk_row43 (n : Nat) (hn : n ≤ 1000000) : ∃ cs : Array Value, cs.size = n ∧ ∀ W : World, (Instr.makeSlice 43 (.int .i64 n) (.int .i64 n)).run Tryz.prog W = .ok (.slice (some ⟨W.heap.size, 0, none⟩) n n) (W.alloc (.cells cs 9 (0, 0))):=by
 have k1 : (Tryz.prog.info? 9).map (fun i => (i.size, i.bytes)) = some (1, 16):=by kernel_rfl
 have k2 : (Tryz.prog.info? 9).bind (fun i => i.zero) = some (.string ByteArray.empty):=by kernel_rfl
 obtain ⟨i, h1⟩ : ∃ i, Tryz.prog.info? 9 = some i:=by
  cases hq : Tryz.prog.info? 9 with
  | none => rw [hq] at k1; cases k1
  | some i => exact ⟨i, rfl⟩
 rw [h1] at k1 k2
 have h2 : i.zero = some (.string ByteArray.empty):=k2
 have h34 : (i.size, i.bytes) = (1, 16):=Option.some.inj k1
 have h3 : i.size = 1:=congrArg Prod.fst h34
 have h4 : i.bytes = 16:=congrArg Prod.snd h34
 refine ⟨madeCells (Value.cells (.string ByteArray.empty)) n, by rw [size_madeCells], fun W => ?_⟩
 have hr:=run_makeSlice (P:=Tryz.prog) W 43 9 i _ Tryz.underlying43 h1 h2 .i64 .i64 n n (by omega) (by omega) (by rw [h3]; simp; omega) (by rw [h4]; omega) (by omega)
 rw [h3] at hr
 simp only [Int.toNat_natCast, Nat.mul_one] at hr
 exact hr
theorem mk_row220 (n : Nat) (hn : n ≤ 1000000) : ∃ cs : Array Value, cs.size = n ∧ ∀ W : World, (Instr.makeSlice 220 (.int .i64 n) (.int .i64 n)).run Tryz.prog W = .ok (.slice (some ⟨W.heap.size, 0, none⟩) n n) (W.alloc (.cells cs 21 (0, 0))):=by
 have k1 : (Tryz.prog.info? 21).map (fun i => (i.size, i.bytes)) = some (1, 4):=by kernel_rfl
 have k2 : (Tryz.prog.info? 21).bind (fun i => i.zero) = some (.int .i32 0):=by kernel_rfl
 obtain ⟨i, h1⟩ : ∃ i, Tryz.prog.info? 21 = some i:=by
  cases hq : Tryz.prog.info? 21 with
  | none => rw [hq] at k1; cases k1
  | some i => exact ⟨i, rfl⟩
 rw [h1] at k1 k2
 have h2 : i.zero = some (.int .i32 0):=k2
 have h34 : (i.size, i.bytes) = (1, 4):=Option.some.inj k1
 have h3 : i.size = 1:=congrArg Prod.fst h34
 have h4 : i.bytes = 4:=congrArg Prod.snd h34
 refine ⟨madeCells (Value.cells (.int .i32 0)) n, by rw [size_madeCells], fun W => ?_⟩
 have hr:=run_makeSlice (P:=Tryz.prog) W 220 21 i _ Tryz.underlying220 h1 h2 .i64 .i64 n n (by omega) (by omega) (by rw [h3]; simp; omega) (by rw [h4]; omega) (by omega)
 rw [h3] at hr
 simp only [Int.toNat_natCast, Nat.mul_one] at hr
 exact hr
theorem mk_row44 (n : Nat) (hn : n ≤ 1000000) : ∃ cs : Array Value, cs.size = n ∧ ∀ W : World, (Instr.makeSlice 44 (.int .i64 n) (.int .i64 n)).run Tryz.prog W = .ok (.slice (some ⟨W.heap.size, 0, none⟩) n n) (W.alloc (.cells cs 2 (0, 0))):=by
 have k1 : (Tryz.prog.info? 2).map (fun i => (i.size, i.bytes)) = some (1, 8):=by kernel_rfl
 have k2 : (Tryz.prog.info? 2).bind (fun i => i.zero) = some (.int .i64 0):=by kernel_rfl
 obtain ⟨i, h1⟩ : ∃ i, Tryz.prog.info? 2 = some i:=by
  cases hq : Tryz.prog.info? 2 with
  | none => rw [hq] at k1; cases k1
  | some i => exact ⟨i, rfl⟩
 rw [h1] at k1 k2
 have h2 : i.zero = some (.int .i64 0):=k2
 have h34 : (i.size, i.bytes) = (1, 8):=Option.some.inj k1
 have h3 : i.size = 1:=congrArg Prod.fst h34
 have h4 : i.bytes = 8:=congrArg Prod.snd h34
 refine ⟨madeCells (Value.cells (.int .i64 0)) n, by rw [size_madeCells], fun W => ?_⟩
 have hr:=run_makeSlice (P:=Tryz.prog) W 44 2 i _ Tryz.underlying44 h1 h2 .i64 .i64 n n (by omega) (by omega) (by rw [h3]; simp; omega) (by rw [h4]; omega) (by omega)
 rw [h3] at hr
 simp only [Int.toNat_natCast, Nat.mul_one] at hr
 exact hr
theorem dec_strarr (p c : Nat) (A : Option Addr) (st : Value) (pre rest : List UInt8) (w : World) (l : List ByteArray) (hl : l.length ≤ 10) (hl0 : 0 < l.length) (hs : ∀ s ∈ l, s.size ≤ 32767) (hr : l.length ≤ (l.flatMap (textB false) ++ rest).length) (h : DecAt p A c st pre (big 4 (l.length : Int) ++ (l.flatMap (textB false) ++ rest)) w) : Calls Tryz.prog 165 #[.pointer (some ⟨p, 0, none⟩)] w (DecL p A c st (strs l) (pre ++ (big 4 (l.length : Int) ++ l.flatMap (textB false))) rest w):=by
 have HI:=lh (dec_arrlen p c A st pre _ w (l.length : Int) (by omega) (by omega) (by omega) h)
 have HS:=lh hs
 obtain ⟨pre1, hp1⟩ : ∃ pre1, pre ++ big 4 (l.length : Int) = pre1:=⟨_, rfl⟩
 rw [← List.append_assoc]
 rw [hp1] at HI ⊢
 have HP1:=lh hp1
 have HSL : Hid ((strs l).length = l.length):=by simp [Hid, strs]
 obtain ⟨n, hn⟩ : ∃ n, l.length = n:=⟨_, rfl⟩
 rw [hn] at HI HSL hl hl0
 have HN:=lh hn
 have hn0 : ¬ (n : Int) ≤ 0:=by omega
 have hn1 : ¬ n = 0:=by omega
 obtain ⟨cs, hcs, hmk⟩:=mk_row43 n (by omega)
 have HCS:=lh hcs
 clear h hs hr hp1 hn hcs
 go_enter Tryz.func165, Tryz.ntmps165
 go_wp2_with (((with_reducible refine HI.out.mono ?_); rintro e w1 ⟨rfl, hd, hk⟩; have HD1:=lh hd; have HK1:=lh hk; clear hd hk))
 have HZ0 : Hid (RowV w1.heap.size 9 n [] (w1.alloc (.cells cs 9 (0, 0)))):=⟨cs, heap_alloc_new _ _, HCS.out, by simp, fun j b hj => by simp at hj⟩
 have HD2 : Hid (DecAt p A c st pre1 (l.flatMap (textB false) ++ rest) (w1.alloc (.cells cs 9 (0, 0)))):=HD1.out.keep0 ((Kept.refl [] _).alloc _)
 have HK2 : Hid (Kept [p] w (w1.alloc (.cells cs 9 (0, 0)))):=HK1.out.alloc _
 have HSZ : Hid (w.heap.size ≤ w1.heap.size):=HK1.out.size
 have hzp : w1.heap.size ≠ p:=by
  have:=(Array.getElem?_eq_some_iff.1 HD1.out.1).1
  omega
 have HPZ:=lh hzp
 have HAZ : Hid (∀ a, A = some a → a.block ≠ w1.heap.size):=fun a ha => by
  have h1:=slis_lt HD1.out.2.1 (by
   obtain ⟨y, hy⟩ : ∃ y, l[0]? = some y:=⟨_, List.getElem?_eq_getElem (by have:=HN.out; omega)⟩
   have h2:=flat_drop (textB false) hy
   rw [List.drop_zero] at h2
   rw [h2, List.length_append, List.length_append]
   have h3 : 0 < ((textB false) y).length:=by
    rw [textB_false, List.length_append, big_len]
    omega
   omega) ha
  omega
 generalize w1.alloc (.cells cs 9 (0, 0)) = w2 at HZ0 HD2 HK2 ⊢
 obtain ⟨z, hz⟩ : ∃ z, w1.heap.size = z:=⟨_, rfl⟩
 rw [hz] at HZ0 HSZ HPZ HAZ ⊢
 clear hz hzp hmk
 go_loopw [24] (fun iv wr => ∃ j : Nat, j ≤ n ∧ iv = .int .i64 j ∧ DecAt p A c st (pre1 ++ (l.take j).flatMap (textB false)) ((l.drop j).flatMap (textB false) ++ rest) wr ∧ RowV z 9 n (strs (l.take j)) wr ∧ Kept [p] w wr) (fun iv _ => n - (intOf iv).toNat)
 case atStart => exact ⟨0, Nat.zero_le _, rfl, by simpa using HD2.out, by simpa [strs] using HZ0.out, HK2.out⟩
 case round =>
  obtain ⟨j, hj, rfl, hdr, hzr, hkr⟩:=hrel
  have HDR:=lh hdr
  have HZR:=lh hzr
  have HKR:=lh hkr
  clear hdr hzr hkr
  by_cases hlt : j < n
  ·obtain ⟨y, hy⟩ : ∃ y, l[j]? = some y:=⟨_, List.getElem?_eq_getElem (by have:=HN.out; omega)⟩
   have hys:=HS.out y (List.mem_of_getElem? hy)
   have HDR2 : Hid (DecAt p A c st (pre1 ++ (l.take j).flatMap (textB false)) ((textB false) y ++ ((l.drop (j + 1)).flatMap (textB false) ++ rest)) wr):=by
    have h1:=HDR.out
    rw [flat_drop (textB false) hy, List.append_assoc] at h1
    exact h1
   have hft : pre1 ++ (l.take (j + 1)).flatMap (textB false) = pre1 ++ (l.take j).flatMap (textB false) ++ (textB false) y:=by rw [flat_take (textB false) hy, List.append_assoc]
   have HFT:=lh hft
   have hst : strs (l.take (j + 1)) = strs (l.take j) ++ [.string y]:=by rw [take_one hy]; simp [strs]
   have HSTE:=lh hst
   have hsl : (strs (l.take j)).length = j:=by simp [strs]; have:=HN.out; omega
   have HSLJ:=lh hsl
   have HST : Hid (Calls Tryz.prog 164 #[.pointer (some ⟨p, 0, none⟩)] wr (DecR p A c st (.string y) (pre1 ++ (l.take j).flatMap (textB false) ++ (textB false) y) ((l.drop (j + 1)).flatMap (textB false) ++ rest) wr)):=dec_string p c A st _ _ wr y hys (by have h1:=HDR2.out; rw [textB_false] at h1; exact h1)
   clear hft hy hst hsl HDR HDR2
   go_wp2_with ((with_reducible refine HST.out.mono ?_); rintro e w3 ⟨rfl, hd, hk⟩; have HD3:=lh hd; have HZ3:=lh (HZR.out.keep hk (by simpa using HPZ.out)); have hzc:=(HZ3.out).isCell (j:=j) (by omega); obtain ⟨zc, hzc⟩:=hzc; have hzf:=(HZ3.out).frozen (o:=j); have HK3:=lh (HKR.out.trans hk (fun x hx => .inl hx)); clear hd hk)
   go_roundw
   case rel =>
    have hput:=HZ3.out.put (by rw [HSLJ.out]; omega) (.string y)
    rw [HSLJ.out, ← HSTE.out] at hput
    refine ⟨j + 1, by omega, by go_num, ?_, hput, ?_⟩
    ·rw [HFT.out]
     exact HD3.out.keep (kept_set z j _ _) (by simpa using Ne.symm HPZ.out) (fun a ha => by simpa using HAZ.out a ha)
    ·exact HK3.out.trans (kept_set z j _ _) (fun x hx => .inr (by rw [List.mem_singleton.1 hx]; exact HSZ.out))
   case measure => (simp [intOf]) <;> omega
  ·have e1 : l.take j = l:=List.take_of_length_le (by have:=HN.out; omega)
   have e2 : l.drop j = []:=List.drop_eq_nil_of_le (by have:=HN.out; omega)
   have hd:=HDR.out
   have hzz:=HZR.out
   rw [e1, e2] at hd
   rw [e1] at hzz
   rw [List.flatMap_nil, List.nil_append] at hd
   have HD4:=lh hd
   have HZ4:=lh hzz
   clear e1 e2 hd hzz HDR HZR
   go_wp2
   refine bodyPost_ret (results_tmp2 rfl _ _ _) rfl ⟨z, by rw [HSL.out]; rfl, ?_, HSZ.out, HD4.out, HKR.out⟩
   rw [HSL.out]
   exact HZ4.out.slis HSL.out (by omega)
end Go.Proofs.YtmpjikihnmagoaaGreatDoor
