/-
  The flexible reading decoder: lengths, bytes, texts. Conditions: the bytes at hand begin with the form.
-/
import Derived.Test.YtmpjikihnmagoaaGreatDoorZT11
set_option maxRecDepth 100000
set_option maxHeartbeats 3200000
namespace Go.Proofs.YtmpjikihnmagoaaGreatDoor
open Go.RowKit
theorem u64_succ {m : Nat} (h : m ≤ 1000000) : u64 ((m : Int) + 1) = m + 1:=by unfold u64; omega
theorem wrapu_small {x : Int} (h0 : 0 ≤ x) (h1 : x ≤ 9000000000000000000) : IntKind.u64.wrap x = x:=by rw [IntKind.wrap_u64]; omega
theorem FlexAt.keepp {T : TypeId} {q p : Nat} {w w' : World} (h : FlexAt T q p w) (k : Kept [p] w w') : FlexAt T q p w':=h.keep k
theorem df_arrlen (q p c : Nat) (A : Option Addr) (st : Value) (pre rest : List UInt8) (w : World) (hq : FlexAt 156 q p w) (m : Nat) (hm : m ≤ rest.length) (h : DecAt p A c st pre (Lib.uvarint (m + 1) ++ rest) w) : Calls Tryz.prog 180 #[.pointer (some ⟨q, 0, none⟩)] w (DecR p A c st (.int .i64 m) (pre ++ Lib.uvarint (m + 1)) rest w):=by
 have hb:=h.2.2.2.1
 rw [List.length_append] at hb
 have HI:=lh (dec_uvarint p c A st pre rest w (m + 1) (by omega) h)
 have HREM:=lh (fun (W : World) (hW : DecAt p A c st (pre ++ Lib.uvarint (m + 1)) rest W) => dec_remaining p c A st _ _ W hW)
 obtain ⟨pre1, hp1⟩ : ∃ pre1, pre ++ Lib.uvarint (m + 1) = pre1:=⟨_, rfl⟩
 rw [hp1] at HI HREM ⊢
 obtain ⟨U, hU⟩ : ∃ U, m + 1 = U:=⟨_, rfl⟩
 obtain ⟨M, hM⟩ : ∃ M, (rest).length = M:=⟨_, rfl⟩
 have hU0 : ¬ (U : Int) = 0:=by omega
 have hU00 : ¬ U = 0:=by omega
 have hU1 : 0 < (U : Int):=by omega
 have hU11 : 0 < U:=by omega
 have hUs : IntKind.u64.wrap ((U : Int) - 1) = (m : Int):=by rw [wrapu_small (by omega) (by omega)]; omega
 have hUi : IntKind.i64.wrap (U : Int) = (U : Int):=IntWalk.i64_in _ (by omega)
 have hUt : IntKind.i64.wrap ((U : Int) - 1) = (m : Int):=by rw [IntWalk.i64_in _ (by omega)]; omega
 have hMu : IntKind.u64.wrap (M : Int) = (M : Int):=wrapu_small (by omega) (by omega)
 have hMm : ¬ ((M : Int) < (m : Int)):=by omega
 have hmi : IntKind.i64.wrap (m : Int) = (m : Int):=IntWalk.i64_in _ (by omega)
 have hmm : ¬ ((m : Int) < -1):=by omega
 rw [hU] at HI
 rw [hM] at HREM
 have HU:=lh hU
 have HM:=lh hM
 clear hU hM
 have hc:=hq.cell
 have HQ:=lh hq
 clear h hq hb hp1
 go_enter Tryz.func180, Tryz.ntmps180
 go_wp2_with (first
  | ((with_reducible refine HI.out.mono ?_); rintro e w1 ⟨rfl, hd, hk⟩; have hc1:=(HQ.out.keepp hk).cell; have HD1:=lh hd; have HK1:=lh hk; clear hd hk)
  | ((with_reducible refine (HREM.out _ HD1.out).mono ?_); rintro e w2 ⟨rfl, hk⟩; have HD2:=lh (HD1.out.keep0 hk); have HK2:=lh (HK1.out.trans (hk.mono (by simp)) (fun x hx => .inl hx)); clear hk))
 exact bodyPost_ret (results_tmp2 rfl _ _ _) rfl ⟨rfl, HD2.out, HK2.out⟩
theorem df_strlen (q p c : Nat) (A : Option Addr) (st : Value) (pre rest : List UInt8) (w : World) (hq : FlexAt 156 q p w) (m : Nat) (hm : m ≤ rest.length) (h : DecAt p A c st pre (Lib.uvarint (m + 1) ++ rest) w) : Calls Tryz.prog 196 #[.pointer (some ⟨q, 0, none⟩)] w (DecR p A c st (.int .i64 m) (pre ++ Lib.uvarint (m + 1)) rest w):=by
 have hb:=h.2.2.2.1
 rw [List.length_append] at hb
 have HI:=lh (dec_uvarint p c A st pre rest w (m + 1) (by omega) h)
 have HREM:=lh (fun (W : World) (hW : DecAt p A c st (pre ++ Lib.uvarint (m + 1)) rest W) => dec_remaining p c A st _ _ W hW)
 obtain ⟨pre1, hp1⟩ : ∃ pre1, pre ++ Lib.uvarint (m + 1) = pre1:=⟨_, rfl⟩
 rw [hp1] at HI HREM ⊢
 obtain ⟨U, hU⟩ : ∃ U, m + 1 = U:=⟨_, rfl⟩
 obtain ⟨M, hM⟩ : ∃ M, (rest).length = M:=⟨_, rfl⟩
 have hU0 : ¬ (U : Int) = 0:=by omega
 have hU00 : ¬ U = 0:=by omega
 have hU1 : 0 < (U : Int):=by omega
 have hU11 : 0 < U:=by omega
 have hUs : IntKind.u64.wrap ((U : Int) - 1) = (m : Int):=by rw [wrapu_small (by omega) (by omega)]; omega
 have hUi : IntKind.i64.wrap (U : Int) = (U : Int):=IntWalk.i64_in _ (by omega)
 have hUt : IntKind.i64.wrap ((U : Int) - 1) = (m : Int):=by rw [IntWalk.i64_in _ (by omega)]; omega
 have hMu : IntKind.u64.wrap (M : Int) = (M : Int):=wrapu_small (by omega) (by omega)
 have hMm : ¬ ((M : Int) < (m : Int)):=by omega
 have hmi : IntKind.i64.wrap (m : Int) = (m : Int):=IntWalk.i64_in _ (by omega)
 have hmm : ¬ ((m : Int) < -1):=by omega
 rw [hU] at HI
 rw [hM] at HREM
 have HU:=lh hU
 have HM:=lh hM
 clear hU hM
 have hc:=hq.cell
 have HQ:=lh hq
 clear h hq hb hp1
 go_enter Tryz.func196, Tryz.ntmps196
 go_wp2_with (first
  | ((with_reducible refine HI.out.mono ?_); rintro e w1 ⟨rfl, hd, hk⟩; have hc1:=(HQ.out.keepp hk).cell; have HD1:=lh hd; have HK1:=lh hk; clear hd hk)
  | ((with_reducible refine (HREM.out _ HD1.out).mono ?_); rintro e w2 ⟨rfl, hk⟩; have HD2:=lh (HD1.out.keep0 hk); have HK2:=lh (HK1.out.trans (hk.mono (by simp)) (fun x hx => .inl hx)); clear hk))
 exact bodyPost_ret (results_tmp2 rfl _ _ _) rfl ⟨rfl, HD2.out, HK2.out⟩
theorem df_strlen_null (q p c : Nat) (A : Option Addr) (st : Value) (pre rest : List UInt8) (w : World) (hq : FlexAt 156 q p w) (h : DecAt p A c st pre (Lib.uvarint 0 ++ rest) w) : Calls Tryz.prog 196 #[.pointer (some ⟨q, 0, none⟩)] w (DecR p A c st (.int .i64 (-1)) (pre ++ Lib.uvarint 0) rest w):=by
 have HI : Hid (Calls Tryz.prog 166 #[.pointer (some ⟨p, 0, none⟩)] w (DecR p A c st (.int .u64 0) (pre ++ Lib.uvarint 0) rest w)):=dec_uvarint p c A st pre rest w 0 (by omega) h
 have hc:=hq.cell
 clear h hq
 go_enter Tryz.func196, Tryz.ntmps196
 go_wp2_with (((with_reducible refine HI.out.mono ?_); rintro e w1 ⟨rfl, hd, hk⟩; have HD1:=lh hd; have HK1:=lh hk; clear hd hk))
 exact bodyPost_ret (results_tmp2 rfl _ _ _) rfl ⟨rfl, HD1.out, HK1.out⟩
theorem df_nil (q p c : Nat) (A : Option Addr) (st : Value) (pre rest : List UInt8) (w : World) (hq : FlexAt 156 q p w) (h : DecAt p A c st pre (Lib.uvarint 0 ++ rest) w) : Calls Tryz.prog 181 #[.pointer (some ⟨q, 0, none⟩)] w (DecR p A c st (.slice none 0 0) (pre ++ Lib.uvarint 0) rest w):=by
 have HI : Hid (Calls Tryz.prog 166 #[.pointer (some ⟨p, 0, none⟩)] w (DecR p A c st (.int .u64 0) (pre ++ Lib.uvarint 0) rest w)):=dec_uvarint p c A st pre rest w 0 (by omega) h
 have hc:=hq.cell
 clear h hq
 go_enter Tryz.func181, Tryz.ntmps181
 go_wp2_with (((with_reducible refine HI.out.mono ?_); rintro e w1 ⟨rfl, hd, hk⟩; have HD1:=lh hd; have HK1:=lh hk; clear hd hk))
 exact bodyPost_ret (results_tmp2 rfl _ _ _) rfl ⟨rfl, HD1.out, HK1.out⟩
theorem df_nullstr (q p c : Nat) (A : Option Addr) (st : Value) (pre rest : List UInt8) (w : World) (hq : FlexAt 156 q p w) (h : DecAt p A c st pre (Lib.uvarint 0 ++ rest) w) : Calls Tryz.prog 188 #[.pointer (some ⟨q, 0, none⟩)] w (DecR p A c st (.pointer none) (pre ++ Lib.uvarint 0) rest w):=by
 have HI:=lh (df_strlen_null q p c A st pre rest w hq h)
 clear h hq
 go_enter Tryz.func188, Tryz.ntmps188
 go_wp2_with (((with_reducible refine HI.out.mono ?_); rintro e w1 ⟨rfl, hd, hk⟩; have HD1:=lh hd; have HK1:=lh hk; clear hd hk))
 exact bodyPost_ret (results_tmp2 rfl _ _ _) rfl ⟨rfl, HD1.out, HK1.out⟩
theorem df_bytes (q p c : Nat) (A : Option Addr) (st : Value) (pre f rest : List UInt8) (w : World) (hq : FlexAt 156 q p w) (h : DecAt p A c st pre (Lib.uvarint (f.length + 1) ++ f ++ rest) w) : Calls Tryz.prog 181 #[.pointer (some ⟨q, 0, none⟩)] w (DecB p A c st f (pre ++ (Lib.uvarint (f.length + 1) ++ f)) rest w):=by
 rw [List.append_assoc] at h
 have hb:=h.2.2.2.1
 have hfr : (f ++ rest).length = f.length + rest.length:=List.length_append
 rw [List.length_append, hfr] at hb
 obtain ⟨aa, rfl⟩ : ∃ aa, A = some aa:=by
  obtain ⟨g, o, hA, -⟩:=h.byte (by rw [List.length_append]; have:=Lib.uvarint_pos (f.length + 1); omega)
  exact ⟨_, hA⟩
 have HI:=lh (dec_uvarint p c _ st pre (f ++ rest) w (f.length + 1) (by omega) h)
 have HREM:=lh (fun (W : World) (hW : DecAt p (some aa) c st (pre ++ Lib.uvarint (f.length + 1)) (f ++ rest) W) => dec_remaining p c (some aa) st _ _ W hW)
 have HR:=lh (fun (W : World) (hW : DecAt p (some aa) c st (pre ++ Lib.uvarint (f.length + 1)) (f ++ rest) W) => dec_raw p c aa st _ f rest W hW)
 obtain ⟨pre1, hp1⟩ : ∃ pre1, pre ++ Lib.uvarint (f.length + 1) = pre1:=⟨_, rfl⟩
 rw [← List.append_assoc]
 rw [hp1] at HI HREM HR ⊢
 obtain ⟨U, hU⟩ : ∃ U, f.length + 1 = U:=⟨_, rfl⟩
 obtain ⟨M, hM⟩ : ∃ M, (f ++ rest).length = M:=⟨_, rfl⟩
 have hU0 : ¬ (U : Int) = 0:=by omega
 have hU00 : ¬ U = 0:=by omega
 have hU1 : 0 < (U : Int):=by omega
 have hU11 : 0 < U:=by omega
 have hUs : IntKind.u64.wrap ((U : Int) - 1) = (f.length : Int):=by rw [wrapu_small (by omega) (by omega)]; omega
 have hUi : IntKind.i64.wrap (U : Int) = (U : Int):=IntWalk.i64_in _ (by omega)
 have hUt : IntKind.i64.wrap ((U : Int) - 1) = (f.length : Int):=by rw [IntWalk.i64_in _ (by omega)]; omega
 have hMu : IntKind.u64.wrap (M : Int) = (M : Int):=wrapu_small (by omega) (by omega)
 have hMm : ¬ ((M : Int) < (f.length : Int)):=by omega
 have hmi : IntKind.i64.wrap (f.length : Int) = (f.length : Int):=IntWalk.i64_in _ (by omega)
 have hmm : ¬ ((f.length : Int) < -1):=by omega
 rw [hU] at HI
 rw [hM] at HREM
 have HU:=lh hU
 have HM:=lh hM
 clear hU hM
 have hc:=hq.cell
 have HQ:=lh hq
 clear h hq hb hp1 hfr
 go_enter Tryz.func181, Tryz.ntmps181
 go_wp2_with (first
  | ((with_reducible refine HI.out.mono ?_); rintro e w1 ⟨rfl, hd, hk⟩; have hc1:=(HQ.out.keepp hk).cell; have HD1:=lh hd; have HK1:=lh hk; clear hd hk)
  | ((with_reducible refine (HREM.out _ HD1.out).mono ?_); rintro e w2 ⟨rfl, hk⟩; have HD2:=lh (HD1.out.keep0 hk); have HK2:=lh (HK1.out.trans (hk.mono (by simp)) (fun x hx => .inl hx)); have hc2:=(HQ.out.keepp HK2.out).cell; clear hk)
  | ((with_reducible refine (HR.out _ HD2.out).mono ?_); rintro e w3 ⟨b, cp, rfl, hsl, hbp, hd, hk⟩; have HS:=lh hsl; have HBP:=lh hbp; have HD3:=lh hd; have HK3:=lh (HK2.out.trans hk (fun x hx => .inl hx)); clear hsl hbp hd hk))
 exact bodyPost_ret (results_tmp2 rfl _ _ _) rfl ⟨b, cp, rfl, HS.out, HBP.out, HD3.out, HK3.out⟩
def df_strF (q p N c : Nat) (aa b : Addr) (pre f : List UInt8) (s : ByteArray) (ix : Nat) (v : Value) (_ : World) : Prop :=
 match ix with
 | 0 => v = .pointer (some ⟨q, 0, none⟩)
 | 1 => v = .pointer (some ⟨q, 0, none⟩)
 | 2 => v = .pointer (some ⟨q, 0, none⟩)
 | 3 => v = .pointer (some ⟨p, 0, none⟩)
 | 4 => v = .pointer (some ⟨p, 0, none⟩)
 | 5 => v = .pointer (some ⟨p, 0, none⟩)
 | 6 => v = .slice (some aa) N c
 | 7 => v = .pointer (some ⟨q, 0, none⟩)
 | 8 => v = .pointer (some ⟨q, 0, none⟩)
 | 9 => v = .pointer (some ⟨q, 0, none⟩)
 | 10 => v = .pointer (some ⟨p, 0, none⟩)
 | 11 => v = .pointer (some ⟨p, 0, none⟩)
 | 12 => v = .pointer (some ⟨p, 1, none⟩)
 | 13 => v = .int .i64 pre.length
 | 14 => v = .pointer (some ⟨q, 0, none⟩)
 | 15 => v = .pointer (some ⟨q, 0, none⟩)
 | 16 => v = .pointer (some ⟨q, 0, none⟩)
 | 17 => v = .pointer (some ⟨p, 0, none⟩)
 | 18 => v = .pointer (some ⟨p, 0, none⟩)
 | 19 => v = .pointer (some ⟨p, 1, none⟩)
 | 20 => v = .int .i64 pre.length
 | 21 => v = .int .i64 f.length
 | 22 => v = .int .i64 ((pre.length + f.length : Nat) : Int)
 | 23 => v = .slice (some b) f.length (c - pre.length)
 | 24 => v = .string s
 | _ => True
theorem df_strF_stable {q p N c aa b pre f s} : ∀ ix v w w', df_strF q p N c aa b pre f s ix v w → Kept [] w w' → df_strF q p N c aa b pre f s ix v w':=by
 intro ix v w w' h k
 unfold df_strF at h ⊢
 split at h <;> (first | (exact h))
theorem df_string (q p c : Nat) (A : Option Addr) (st : Value) (pre0 rest : List UInt8) (w0 : World) (hq : FlexAt 156 q p w0) (s : ByteArray) (hs : s.size ≤ 32767) (h : DecAt p A c st pre0 (Lib.uvarint (s.size + 1) ++ s.data.toList ++ rest) w0) : Calls Tryz.prog 189 #[.pointer (some ⟨q, 0, none⟩)] w0 (DecR p A c st (.string s) (pre0 ++ (Lib.uvarint (s.size + 1) ++ s.data.toList)) rest w0):=by
 obtain ⟨f, hf⟩ : ∃ f, s.data.toList = f:=⟨_, rfl⟩
 have hfs : s.size = f.length:=by rw [← hf]; rfl
 have hstr : (⟨f.toArray⟩ : ByteArray) = s:=by subst hf; exact str_back s
 rw [hf, hfs, List.append_assoc] at h
 rw [hf, hfs]
 rw [hfs] at hs
 have hup:=Lib.uvarint_pos (f.length + 1)
 obtain ⟨aa, rfl⟩ : ∃ aa, A = some aa:=by
  obtain ⟨g, o, hA, -⟩:=h.byte (by rw [List.length_append]; omega)
  exact ⟨_, hA⟩
 have HI:=lh (df_strlen q p c _ st pre0 (f ++ rest) w0 hq f.length (by rw [List.length_append]; omega) h)
 have hm1 : ¬ (f.length : Int) = -1:=by omega
 have hm2 : ¬ (f.length : Int) < 0:=by omega
 have HSTR:=lh hstr
 have HQ:=lh hq
 clear h hstr hf hfs hq
 go_enter Tryz.func189, Tryz.ntmps189
 go_wp2_with (((with_reducible refine HI.out.mono ?_); rintro e w ⟨rfl, hd, hk⟩; have HD0:=lh hd; have HK00:=lh hk; clear hd hk))
 rw [← List.append_assoc]
 obtain ⟨pre, hpre⟩ : ∃ pre, pre0 ++ Lib.uvarint (f.length + 1) = pre:=⟨_, rfl⟩
 rw [hpre] at HD0
 have HPRE:=lh hpre
 have HQ2:=lh (HQ.out.keepp HK00.out)
 have hN:=HD0.out.2.2.2.1
 have hfr : (f ++ rest).length = f.length + rest.length:=List.length_append
 obtain ⟨N, hNN⟩ : ∃ N, pre.length + (f ++ rest).length = N:=⟨_, rfl⟩
 obtain ⟨b, hbb, -, hsub, hcb⟩:=dec_sub HD0.out N hNN
 have HC0 : Hid (w.cell? ⟨p, 0, none⟩ = some (.slice (some aa) N c)):=by unfold Hid; rw [HD0.out.cell0, hNN]
 have HCB:=lh hcb
 have HPW : Hid (p < w.heap.size):=(Array.getElem?_eq_some_iff.1 HD0.out.1).1
 have HAW : Hid (aa.block < w.heap.size):=slis_lt HD0.out.2.1 (by rw [← hpre, List.length_append]; omega) rfl
 rw [hNN] at hN
 have hNf : pre.length + f.length ≤ 1000000:=by omega
 have hadd : IntKind.i64.wrap ((pre.length : Int) + (f.length : Int)) = (pre.length : Int) + (f.length : Int):=IntWalk.i64_in _ (by omega)
 clear hfr hNN hcb hbb hpre
 refine wp_region_facts' 25 (Kept []) (df_strF q p N c aa b pre f s) mixed (by kernel_rfl) (Kept.refl _ _).drew (fun _ _ _ h k => h.trans k (fun x hx => .inl hx)) df_strF_stable ?_ ?_
 ·refine ⟨?_, ?_, ?_, ?_, ?_, ?_, ?_, ?_, ?_, ?_, ?_, ?_, ?_, ?_, ?_, ?_, ?_, ?_, ?_, ?_, ?_, ?_, ?_, ?_, ?_, trivial⟩
  all_goals go_light
  all_goals intro a W hR hs hd
  all_goals have p0 : a.tmps[0]? = some (.pointer (some ⟨q, 0, none⟩)):=hs.2.2 0 (by decide)
  all_goals have p4 : a.tmps[4]? = some (.int .i64 f.length):=hs.2.2 4 (by decide)
  all_goals have hRr:=Kept.refl [] W
  all_goals have hcq : W.cell? ⟨q, 0, none⟩ = _:=hR.cell HQ2.out.cell (by simp)
  all_goals have hc0 : W.cell? ⟨p, 0, none⟩ = _:=hR.cell HC0.out (by simp)
  all_goals have hc1 : W.cell? ⟨p, 1, none⟩ = _:=hR.cell HD0.out.cell1 (by simp)
  all_goals have hconv:=run_convert_bytes_back (P:=Tryz.prog) W 34 9 5 b (c - pre.length) f Tryz.underlying34 Tryz.underlying5 Tryz.underlying9 (fun j hj => hR.cell (HCB.out j _ (List.getElem?_eq_getElem hj)) (by simp))
  all_goals rw [HSTR.out] at hconv
  all_goals have hsz : w.heap.size ≤ W.heap.size:=hR.size
  ·refine ov W (.pointer (some ⟨q, 0, none⟩)) ?_ (.mk hRr rfl rfl)
   simp [go_sem, p0]
  ·have q0 : _ = _:=hd.1 rfl
   refine ov W (.pointer (some ⟨q, 0, none⟩)) ?_ (.mk hRr rfl rfl)
   simp [go_sem, q0]
  ·have q1 : _ = _:=hd.1 rfl
   refine ov W (.pointer (some ⟨q, 0, none⟩)) ?_ (.mk hRr rfl rfl)
   simp [go_sem, q1]
  ·have q2 : _ = _:=hd.1 rfl
   refine ov W (.pointer (some ⟨p, 0, none⟩)) ?_ (.mk hRr rfl rfl)
   simp [go_sem, q2, hcq]
  ·have q3 : _ = _:=hd.1 rfl
   refine ov W (.pointer (some ⟨p, 0, none⟩)) ?_ (.mk hRr rfl rfl)
   simp [go_sem, q3]
  ·have q4 : _ = _:=hd.1 rfl
   refine ov W (.pointer (some ⟨p, 0, none⟩)) ?_ (.mk hRr rfl rfl)
   simp [go_sem, q4]
  ·have q5 : _ = _:=hd.1 rfl
   refine ov W (.slice (some aa) N c) ?_ (.mk hRr rfl rfl)
   simp [go_sem, q5, hc0]
  ·refine ov W (.pointer (some ⟨q, 0, none⟩)) ?_ (.mk hRr rfl rfl)
   simp [go_sem, p0]
  ·have q7 : _ = _:=hd.1 rfl
   refine ov W (.pointer (some ⟨q, 0, none⟩)) ?_ (.mk hRr rfl rfl)
   simp [go_sem, q7]
  ·have q8 : _ = _:=hd.1 rfl
   refine ov W (.pointer (some ⟨q, 0, none⟩)) ?_ (.mk hRr rfl rfl)
   simp [go_sem, q8]
  ·have q9 : _ = _:=hd.1 rfl
   refine ov W (.pointer (some ⟨p, 0, none⟩)) ?_ (.mk hRr rfl rfl)
   simp [go_sem, q9, hcq]
  ·have q10 : _ = _:=hd.1 rfl
   refine ov W (.pointer (some ⟨p, 0, none⟩)) ?_ (.mk hRr rfl rfl)
   simp [go_sem, q10]
  ·have q11 : _ = _:=hd.1 rfl
   refine ov W (.pointer (some ⟨p, 1, none⟩)) ?_ (.mk hRr rfl rfl)
   simp [go_sem, q11]
  ·have q12 : _ = _:=hd.1 rfl
   refine ov W (.int .i64 pre.length) ?_ (.mk hRr rfl rfl)
   simp [go_sem, q12, hc1]
  ·refine ov W (.pointer (some ⟨q, 0, none⟩)) ?_ (.mk hRr rfl rfl)
   simp [go_sem, p0]
  ·have q14 : _ = _:=hd.1 rfl
   refine ov W (.pointer (some ⟨q, 0, none⟩)) ?_ (.mk hRr rfl rfl)
   simp [go_sem, q14]
  ·have q15 : _ = _:=hd.1 rfl
   refine ov W (.pointer (some ⟨q, 0, none⟩)) ?_ (.mk hRr rfl rfl)
   simp [go_sem, q15]
  ·have q16 : _ = _:=hd.1 rfl
   refine ov W (.pointer (some ⟨p, 0, none⟩)) ?_ (.mk hRr rfl rfl)
   simp [go_sem, q16, hcq]
  ·have q17 : _ = _:=hd.1 rfl
   refine ov W (.pointer (some ⟨p, 0, none⟩)) ?_ (.mk hRr rfl rfl)
   simp [go_sem, q17]
  ·have q18 : _ = _:=hd.1 rfl
   refine ov W (.pointer (some ⟨p, 1, none⟩)) ?_ (.mk hRr rfl rfl)
   simp [go_sem, q18]
  ·have q19 : _ = _:=hd.1 rfl
   refine ov W (.int .i64 pre.length) ?_ (.mk hRr rfl rfl)
   simp [go_sem, q19, hc1]
  ·refine ov W (.int .i64 f.length) ?_ (.mk hRr rfl rfl)
   simp [go_sem, p4]
  ·have q20 : _ = _:=hd.1 rfl
   have q21 : _ = _:=hd.2.1 rfl
   refine ov W (.int .i64 ((pre.length + f.length : Nat) : Int)) ?_ (.mk hRr rfl rfl)
   simp [go_sem, q20, q21, hadd]
  ·have q6 : _ = _:=hd.1 rfl
   have q13 : _ = _:=hd.2.1 rfl
   have q22 : _ = _:=hd.2.2.1 rfl
   refine ov W (.slice (some b) f.length (c - pre.length)) ?_ (.mk hRr rfl rfl)
   simp [go_sem, q6, q13, q22, hsub]
  ·have q23 : _ = _:=hd.1 rfl
   refine ov W (.string s) ?_ (.mk hRr rfl rfl)
   simp [go_sem, q23, hconv]
 ·intro f W hR hf
  obtain ⟨f0, f1, f2, f3, f4, f5, f6, f7, f8, f9, f10, f11, f12, f13, f14, f15, f16, f17, f18, f19, f20, f21, f22, f23, f24, -⟩:=hf
  change f 23 = _ at f0
  change f 24 = _ at f1
  change f 25 = _ at f2
  change f 26 = _ at f3
  change f 27 = _ at f4
  change f 28 = _ at f5
  change f 29 = _ at f6
  change f 30 = _ at f7
  change f 31 = _ at f8
  change f 32 = _ at f9
  change f 33 = _ at f10
  change f 34 = _ at f11
  change f 35 = _ at f12
  change f 36 = _ at f13
  change f 37 = _ at f14
  change f 38 = _ at f15
  change f 39 = _ at f16
  change f 40 = _ at f17
  change f 41 = _ at f18
  change f 42 = _ at f19
  change f 43 = _ at f20
  change f 44 = _ at f21
  change f 45 = _ at f22
  change f 46 = _ at f23
  change f 47 = _ at f24
  simp only [headDsts, List.take_succ_cons, List.take_zero, List.filterMap_cons, List.filterMap_nil, setAll, f0, f1, f2, f3, f4, f5, f6, f7, f8, f9, f10, f11, f12, f13, f14, f15, f16, f17, f18, f19, f20, f21, f22, f23, f24, List.setIfInBounds_toArray, List.set_cons_succ, List.set_cons_zero, List.drop_succ_cons, List.drop_zero]
  clear f0 f1 f2 f3 f4 f5 f6 f7 f8 f9 f10 f11 f12 f13 f14 f15 f16 f17 f18 f19 f20 f21 f22 f23 f24 f
  have hcq : W.cell? ⟨q, 0, none⟩ = _:=hR.cell HQ2.out.cell (by simp)
  have hc1 : W.cell? ⟨p, 1, none⟩ = _:=hR.cell HD0.out.cell1 (by simp)
  have hf1 : W.frozen? ⟨p, 1, none⟩ = false:=(HD0.out.keep0 hR).frozen
  have HD:=lh (HD0.out.keep0 hR)
  have HKK:=lh (HK00.out.trans (hR.mono (by simp)) (fun x hx => .inl hx))
  clear hR
  go_wp2
  rw [← List.append_assoc, HPRE.out]
  refine bodyPost_ret (results_tmp2 rfl _ _ _) rfl ⟨rfl, HD.out.move (by go_num), ?_⟩
  exact HKK.out.trans (kept_set _ _ _ _) (fun x hx => .inl hx)
def df_nstrF (q p N c Bs : Nat) (aa b : Addr) (pre f : List UInt8) (s : ByteArray) (ix : Nat) (v : Value) (W : World) : Prop :=
 match ix with
 | 0 => v = .pointer (some ⟨q, 0, none⟩)
 | 1 => v = .pointer (some ⟨q, 0, none⟩)
 | 2 => v = .pointer (some ⟨q, 0, none⟩)
 | 3 => v = .pointer (some ⟨p, 0, none⟩)
 | 4 => v = .pointer (some ⟨p, 0, none⟩)
 | 5 => v = .pointer (some ⟨p, 0, none⟩)
 | 6 => v = .slice (some aa) N c
 | 7 => v = .pointer (some ⟨q, 0, none⟩)
 | 8 => v = .pointer (some ⟨q, 0, none⟩)
 | 9 => v = .pointer (some ⟨q, 0, none⟩)
 | 10 => v = .pointer (some ⟨p, 0, none⟩)
 | 11 => v = .pointer (some ⟨p, 0, none⟩)
 | 12 => v = .pointer (some ⟨p, 1, none⟩)
 | 13 => v = .int .i64 pre.length
 | 14 => v = .pointer (some ⟨q, 0, none⟩)
 | 15 => v = .pointer (some ⟨q, 0, none⟩)
 | 16 => v = .pointer (some ⟨q, 0, none⟩)
 | 17 => v = .pointer (some ⟨p, 0, none⟩)
 | 18 => v = .pointer (some ⟨p, 0, none⟩)
 | 19 => v = .pointer (some ⟨p, 1, none⟩)
 | 20 => v = .int .i64 pre.length
 | 21 => v = .int .i64 f.length
 | 22 => v = .int .i64 ((pre.length + f.length : Nat) : Int)
 | 23 => v = .slice (some b) f.length (c - pre.length)
 | 24 => v = .string s
 | 25 => ∃ z, v = .pointer (some ⟨z, 0, none⟩) ∧ W.heap[z]? = some (.cells #[.string ⟨#[]⟩] 9 (0, 0)) ∧ Bs ≤ z
 | _ => True
theorem df_nstrF_stable {q p N c Bs aa b pre f s} : ∀ ix v w w', df_nstrF q p N c Bs aa b pre f s ix v w → Kept [] w w' → df_nstrF q p N c Bs aa b pre f s ix v w':=by
 intro ix v w w' h k
 unfold df_nstrF at h ⊢
 split at h <;> (first | (exact h) | (obtain ⟨z, h1, h2, h3⟩:=h; exact ⟨z, h1, k.heap h2 (by simp), h3⟩))
theorem df_somestr (q p c : Nat) (A : Option Addr) (st : Value) (pre0 rest : List UInt8) (w0 : World) (hq : FlexAt 156 q p w0) (s : ByteArray) (hs : s.size ≤ 32767) (h : DecAt p A c st pre0 (Lib.uvarint (s.size + 1) ++ s.data.toList ++ rest) w0) : Calls Tryz.prog 188 #[.pointer (some ⟨q, 0, none⟩)] w0 (DecS p A c st s (pre0 ++ (Lib.uvarint (s.size + 1) ++ s.data.toList)) rest w0):=by
 obtain ⟨f, hf⟩ : ∃ f, s.data.toList = f:=⟨_, rfl⟩
 have hfs : s.size = f.length:=by rw [← hf]; rfl
 have hstr : (⟨f.toArray⟩ : ByteArray) = s:=by subst hf; exact str_back s
 rw [hf, hfs, List.append_assoc] at h
 rw [hf, hfs]
 rw [hfs] at hs
 have hup:=Lib.uvarint_pos (f.length + 1)
 obtain ⟨aa, rfl⟩ : ∃ aa, A = some aa:=by
  obtain ⟨g, o, hA, -⟩:=h.byte (by rw [List.length_append]; omega)
  exact ⟨_, hA⟩
 have HI:=lh (df_strlen q p c _ st pre0 (f ++ rest) w0 hq f.length (by rw [List.length_append]; omega) h)
 have hm1 : ¬ (f.length : Int) = -1:=by omega
 have hm2 : ¬ (f.length : Int) < 0:=by omega
 have HSTR:=lh hstr
 have HQ:=lh hq
 clear h hstr hf hfs hq
 go_enter Tryz.func188, Tryz.ntmps188
 go_wp2_with (((with_reducible refine HI.out.mono ?_); rintro e w ⟨rfl, hd, hk⟩; have HD0:=lh hd; have HK00:=lh hk; clear hd hk))
 rw [← List.append_assoc]
 obtain ⟨pre, hpre⟩ : ∃ pre, pre0 ++ Lib.uvarint (f.length + 1) = pre:=⟨_, rfl⟩
 rw [hpre] at HD0
 have HPRE:=lh hpre
 have HQ2:=lh (HQ.out.keepp HK00.out)
 have hN:=HD0.out.2.2.2.1
 have hfr : (f ++ rest).length = f.length + rest.length:=List.length_append
 obtain ⟨N, hNN⟩ : ∃ N, pre.length + (f ++ rest).length = N:=⟨_, rfl⟩
 obtain ⟨b, hbb, -, hsub, hcb⟩:=dec_sub HD0.out N hNN
 have HC0 : Hid (w.cell? ⟨p, 0, none⟩ = some (.slice (some aa) N c)):=by unfold Hid; rw [HD0.out.cell0, hNN]
 have HCB:=lh hcb
 have HPW : Hid (p < w.heap.size):=(Array.getElem?_eq_some_iff.1 HD0.out.1).1
 have HAW : Hid (aa.block < w.heap.size):=slis_lt HD0.out.2.1 (by rw [← hpre, List.length_append]; omega) rfl
 rw [hNN] at hN
 have hNf : pre.length + f.length ≤ 1000000:=by omega
 have hadd : IntKind.i64.wrap ((pre.length : Int) + (f.length : Int)) = (pre.length : Int) + (f.length : Int):=IntWalk.i64_in _ (by omega)
 clear hfr hNN hcb hbb hpre
 refine wp_region_facts' 26 (Kept []) (df_nstrF q p N c w.heap.size aa b pre f s) mixed (by kernel_rfl) (Kept.refl _ _).drew (fun _ _ _ h k => h.trans k (fun x hx => .inl hx)) df_nstrF_stable ?_ ?_
 ·refine ⟨?_, ?_, ?_, ?_, ?_, ?_, ?_, ?_, ?_, ?_, ?_, ?_, ?_, ?_, ?_, ?_, ?_, ?_, ?_, ?_, ?_, ?_, ?_, ?_, ?_, ?_, trivial⟩
  all_goals go_light
  all_goals intro a W hR hs hd
  all_goals have p0 : a.tmps[0]? = some (.pointer (some ⟨q, 0, none⟩)):=hs.2.2 0 (by decide)
  all_goals have p4 : a.tmps[4]? = some (.int .i64 f.length):=hs.2.2 4 (by decide)
  all_goals have hRr:=Kept.refl [] W
  all_goals have hcq : W.cell? ⟨q, 0, none⟩ = _:=hR.cell HQ2.out.cell (by simp)
  all_goals have hc0 : W.cell? ⟨p, 0, none⟩ = _:=hR.cell HC0.out (by simp)
  all_goals have hc1 : W.cell? ⟨p, 1, none⟩ = _:=hR.cell HD0.out.cell1 (by simp)
  all_goals have hconv:=run_convert_bytes_back (P:=Tryz.prog) W 34 9 5 b (c - pre.length) f Tryz.underlying34 Tryz.underlying5 Tryz.underlying9 (fun j hj => hR.cell (HCB.out j _ (List.getElem?_eq_getElem hj)) (by simp))
  all_goals rw [HSTR.out] at hconv
  all_goals have hsz : w.heap.size ≤ W.heap.size:=hR.size
  ·refine ov W (.pointer (some ⟨q, 0, none⟩)) ?_ (.mk hRr rfl rfl)
   simp [go_sem, p0]
  ·have q0 : _ = _:=hd.1 rfl
   refine ov W (.pointer (some ⟨q, 0, none⟩)) ?_ (.mk hRr rfl rfl)
   simp [go_sem, q0]
  ·have q1 : _ = _:=hd.1 rfl
   refine ov W (.pointer (some ⟨q, 0, none⟩)) ?_ (.mk hRr rfl rfl)
   simp [go_sem, q1]
  ·have q2 : _ = _:=hd.1 rfl
   refine ov W (.pointer (some ⟨p, 0, none⟩)) ?_ (.mk hRr rfl rfl)
   simp [go_sem, q2, hcq]
  ·have q3 : _ = _:=hd.1 rfl
   refine ov W (.pointer (some ⟨p, 0, none⟩)) ?_ (.mk hRr rfl rfl)
   simp [go_sem, q3]
  ·have q4 : _ = _:=hd.1 rfl
   refine ov W (.pointer (some ⟨p, 0, none⟩)) ?_ (.mk hRr rfl rfl)
   simp [go_sem, q4]
  ·have q5 : _ = _:=hd.1 rfl
   refine ov W (.slice (some aa) N c) ?_ (.mk hRr rfl rfl)
   simp [go_sem, q5, hc0]
  ·refine ov W (.pointer (some ⟨q, 0, none⟩)) ?_ (.mk hRr rfl rfl)
   simp [go_sem, p0]
  ·have q7 : _ = _:=hd.1 rfl
   refine ov W (.pointer (some ⟨q, 0, none⟩)) ?_ (.mk hRr rfl rfl)
   simp [go_sem, q7]
  ·have q8 : _ = _:=hd.1 rfl
   refine ov W (.pointer (some ⟨q, 0, none⟩)) ?_ (.mk hRr rfl rfl)
   simp [go_sem, q8]
  ·have q9 : _ = _:=hd.1 rfl
   refine ov W (.pointer (some ⟨p, 0, none⟩)) ?_ (.mk hRr rfl rfl)
   simp [go_sem, q9, hcq]
  ·have q10 : _ = _:=hd.1 rfl
   refine ov W (.pointer (some ⟨p, 0, none⟩)) ?_ (.mk hRr rfl rfl)
   simp [go_sem, q10]
  ·have q11 : _ = _:=hd.1 rfl
   refine ov W (.pointer (some ⟨p, 1, none⟩)) ?_ (.mk hRr rfl rfl)
   simp [go_sem, q11]
  ·have q12 : _ = _:=hd.1 rfl
   refine ov W (.int .i64 pre.length) ?_ (.mk hRr rfl rfl)
   simp [go_sem, q12, hc1]
  ·refine ov W (.pointer (some ⟨q, 0, none⟩)) ?_ (.mk hRr rfl rfl)
   simp [go_sem, p0]
  ·have q14 : _ = _:=hd.1 rfl
   refine ov W (.pointer (some ⟨q, 0, none⟩)) ?_ (.mk hRr rfl rfl)
   simp [go_sem, q14]
  ·have q15 : _ = _:=hd.1 rfl
   refine ov W (.pointer (some ⟨q, 0, none⟩)) ?_ (.mk hRr rfl rfl)
   simp [go_sem, q15]
  ·have q16 : _ = _:=hd.1 rfl
   refine ov W (.pointer (some ⟨p, 0, none⟩)) ?_ (.mk hRr rfl rfl)
   simp [go_sem, q16, hcq]
  ·have q17 : _ = _:=hd.1 rfl
   refine ov W (.pointer (some ⟨p, 0, none⟩)) ?_ (.mk hRr rfl rfl)
   simp [go_sem, q17]
  ·have q18 : _ = _:=hd.1 rfl
   refine ov W (.pointer (some ⟨p, 1, none⟩)) ?_ (.mk hRr rfl rfl)
   simp [go_sem, q18]
  ·have q19 : _ = _:=hd.1 rfl
   refine ov W (.int .i64 pre.length) ?_ (.mk hRr rfl rfl)
   simp [go_sem, q19, hc1]
  ·refine ov W (.int .i64 f.length) ?_ (.mk hRr rfl rfl)
   simp [go_sem, p4]
  ·have q20 : _ = _:=hd.1 rfl
   have q21 : _ = _:=hd.2.1 rfl
   refine ov W (.int .i64 ((pre.length + f.length : Nat) : Int)) ?_ (.mk hRr rfl rfl)
   simp [go_sem, q20, q21, hadd]
  ·have q6 : _ = _:=hd.1 rfl
   have q13 : _ = _:=hd.2.1 rfl
   have q22 : _ = _:=hd.2.2.1 rfl
   refine ov W (.slice (some b) f.length (c - pre.length)) ?_ (.mk hRr rfl rfl)
   simp [go_sem, q6, q13, q22, hsub]
  ·have q23 : _ = _:=hd.1 rfl
   refine ov W (.string s) ?_ (.mk hRr rfl rfl)
   simp [go_sem, q23, hconv]
  ·refine ow_value (w':=W.alloc (.cells #[.string ⟨#[]⟩] 9)) (v:=.pointer (some ⟨W.heap.size, 0, none⟩)) ?_ (.mk (hRr.alloc _) ⟨_, rfl, heap_alloc_new _ _, hsz⟩ rfl)
   simp [go_sem]
 ·intro f W hR hf
  obtain ⟨f0, f1, f2, f3, f4, f5, f6, f7, f8, f9, f10, f11, f12, f13, f14, f15, f16, f17, f18, f19, f20, f21, f22, f23, f24, f25, -⟩:=hf
  change f 18 = _ at f0
  change f 19 = _ at f1
  change f 20 = _ at f2
  change f 21 = _ at f3
  change f 22 = _ at f4
  change f 23 = _ at f5
  change f 24 = _ at f6
  change f 25 = _ at f7
  change f 26 = _ at f8
  change f 27 = _ at f9
  change f 28 = _ at f10
  change f 29 = _ at f11
  change f 30 = _ at f12
  change f 31 = _ at f13
  change f 32 = _ at f14
  change f 33 = _ at f15
  change f 34 = _ at f16
  change f 35 = _ at f17
  change f 36 = _ at f18
  change f 37 = _ at f19
  change f 38 = _ at f20
  change f 39 = _ at f21
  change f 40 = _ at f22
  change f 41 = _ at f23
  change f 42 = _ at f24
  change ∃ z, (f 6) = .pointer (some ⟨z, 0, none⟩) ∧ W.heap[z]? = some (.cells #[.string ⟨#[]⟩] 9 (0, 0)) ∧ w.heap.size ≤ z at f25
  obtain ⟨x25, g25⟩ : ∃ x, f 6 = x:=⟨_, rfl⟩
  rw [g25] at f25
  simp only [headDsts, List.take_succ_cons, List.take_zero, List.filterMap_cons, List.filterMap_nil, setAll, f0, f1, f2, f3, f4, f5, f6, f7, f8, f9, f10, f11, f12, f13, f14, f15, f16, f17, f18, f19, f20, f21, f22, f23, f24, g25, List.setIfInBounds_toArray, List.set_cons_succ, List.set_cons_zero, List.drop_succ_cons, List.drop_zero]
  clear f0 f1 f2 f3 f4 f5 f6 f7 f8 f9 f10 f11 f12 f13 f14 f15 f16 f17 f18 f19 f20 f21 f22 f23 f24 g25 f
  obtain ⟨z, rfl, hz, hzs⟩:=f25
  have hpw:=HPW.out
  have haw:=HAW.out
  have hqw : q < w.heap.size:=(Array.getElem?_eq_some_iff.1 HQ2.out.1).1
  have hzp : z ≠ p:=by omega
  have hcz : W.cell? ⟨z, 0, none⟩ = some (.string ⟨#[]⟩):=by simp [World.cell?, hz]
  have hfz : W.frozen? ⟨z, 0, none⟩ = false:=by simp [World.frozen?, hz]
  have hkz : Kept [z] W (W.setCell ⟨z, 0, none⟩ (.string s)):=kept_set _ _ _ _
  have hcq : (W.setCell ⟨z, 0, none⟩ (.string s)).cell? ⟨q, 0, none⟩ = _:=hkz.cell (hR.cell HQ2.out.cell (by simp)) (by simp; omega)
  have hc1 : (W.setCell ⟨z, 0, none⟩ (.string s)).cell? ⟨p, 1, none⟩ = _:=hkz.cell ((HD0.out.keep0 hR).cell1) (by simpa using Ne.symm hzp)
  have hd1 : DecAt p (some aa) c st pre (f ++ rest) (W.setCell ⟨z, 0, none⟩ (.string s)):=(HD0.out.keep0 hR).keep hkz (by simpa using Ne.symm hzp) (by intro a' ha'; cases ha'; simp; omega)
  have hf1:=hd1.frozen (o:=1)
  have hsz : (W.setCell ⟨z, 0, none⟩ (.string s)).cell? ⟨z, 0, none⟩ = some (.string s):=World.cell?_setCell_same _ _ _ hcz
  have HD:=lh hd1
  have HZ:=lh hsz
  have HKK : Hid (Kept [p] w0 (W.setCell ⟨z, 0, none⟩ (.string s))):=(HK00.out.trans (hR.mono (by simp)) (fun x hx => .inl hx)).trans hkz (fun x hx => .inr (by simp at hx; subst hx; exact Nat.le_trans HK00.out.size hzs))
  clear hd1 hkz hR hsz
  go_wp2
  rw [← List.append_assoc, HPRE.out]
  refine bodyPost_ret (results_tmp2 rfl _ _ _) rfl ⟨⟨z, 0, none⟩, rfl, ?_, HD.out.move (by go_num), ?_⟩
  ·exact (kept_set p 1 _ _).cell HZ.out (by simpa using hzp)
  ·exact HKK.out.trans (kept_set _ _ _ _) (fun x hx => .inl hx)
end Go.Proofs.YtmpjikihnmagoaaGreatDoor
