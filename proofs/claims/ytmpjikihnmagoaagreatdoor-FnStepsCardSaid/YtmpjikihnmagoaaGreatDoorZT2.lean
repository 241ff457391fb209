/-
  The preparing encoders: lists; the flexible one's methods. Conditions: lengths below a hundred million.
-/
import Derived.Test.YtmpjikihnmagoaaGreatDoorZT0
import Derived.Laws.IdiomStrings
import Derived.Laws.IdiomCopy
set_option maxRecDepth 100000
set_option maxHeartbeats 1600000
namespace Go.Proofs.YtmpjikihnmagoaaGreatDoor
open Go.RowKit
def strs (l : List ByteArray) : List Value:=l.map Value.string
theorem strs_at {l : List ByteArray} {k : Nat} {y : ByteArray} (h : l[k]? = some y) : (strs l)[k]? = some (.string y):=by simp [strs, h]
theorem take_one {α : Type} {l : List α} {k : Nat} {y : α} (h : l[k]? = some y) : l.take (k + 1) = l.take k ++ [y]:=by
 obtain ⟨h1, h2⟩:=List.getElem?_eq_some_iff.1 h
 rw [List.take_succ_eq_append_getElem h1, h2]
/-- How much the texts take, c bytes for each length. -/
def sumT (f : ByteArray → Nat) (l : List ByteArray) : Nat:=(l.map f).sum
theorem sumT_take {f : ByteArray → Nat} {l : List ByteArray} {k : Nat} {y : ByteArray} (h : l[k]? = some y) : sumT f (l.take (k + 1)) = sumT f (l.take k) + f y:=by
 unfold sumT
 rw [take_one h, List.map_append, List.sum_append]
 simp
theorem sumT_le {f : ByteArray → Nat} {l : List ByteArray} {c : Nat} (h : ∀ s ∈ l, f s ≤ c) (k : Nat) : sumT f (l.take k) ≤ l.length * c:=by
 induction l generalizing k with
 | nil => simp [sumT]
 | cons x l ih =>
  have h2:=h x (.head _)
  cases k with
  | zero => simp [sumT]
  | succ k =>
   have h1:=ih (fun y hy => h y (.tail _ hy)) k
   unfold sumT at h1 ⊢
   rw [List.take_succ_cons, List.map_cons, List.sum_cons, List.length_cons, Nat.add_mul]
   omega
/-- The flexible one: it lies over the other. -/
def FlexAt (T : TypeId) (q p : Nat) (w : World) : Prop:=w.heap[q]? = some (.cells #[.pointer (some ⟨p, 0, none⟩)] T (0, 0)) ∧ q ≠ p
theorem FlexAt.cell {T : TypeId} {q p : Nat} {w : World} (h : FlexAt T q p w) : w.cell? ⟨q, 0, none⟩ = some (.pointer (some ⟨p, 0, none⟩)):=by
 have:=h.1
 simp [World.cell?, this]
theorem FlexAt.keep {T : TypeId} {q p : Nat} {w w' : World} (h : FlexAt T q p w) (k : Kept [p] w w') : FlexAt T q p w':=⟨k.heap h.1 (by simpa using h.2), h.2⟩
theorem FlexAt.keep0 {T : TypeId} {q p : Nat} {w w' : World} (h : FlexAt T q p w) (k : Kept [] w w') : FlexAt T q p w':=⟨k.heap h.1 (by simp), h.2⟩
theorem prep_i32arr (p n : Nat) (st : Value) (w : World) (h : PrepAt p st n w) (hn : n ≤ 100000000) (A : Option Addr) (m c : Nat) (hm : m ≤ 1000000) : Calls Tryz.prog 208 #[.pointer (some ⟨p, 0, none⟩), .slice A m c] w (PrepN p st (n + (4 + 4 * m)) w):=by
 have HL:=lh (prep_arrlen p n st w h (by omega) (m : Int) (by omega))
 clear h
 go_enter Tryz.func208, Tryz.ntmps208
 go_wp2_with (fail)
 refine HL.out.mono ?_
 rintro e w1 ⟨rfl, hp1, hk1⟩
 have h1:=hp1.cell
 have h2:=hp1.frozen (o:=1)
 have HP1:=lh hp1
 have HK1:=lh hk1
 clear hp1 hk1
 go_wp2
 go_ret
 exact ⟨rfl, HP1.out.set (by go_num), HK1.out.trans (kept_set _ _ _ _) (fun x hx => .inl hx)⟩
theorem prep_i64arr (p n : Nat) (st : Value) (w : World) (h : PrepAt p st n w) (hn : n ≤ 100000000) (A : Option Addr) (m c : Nat) (hm : m ≤ 1000000) : Calls Tryz.prog 210 #[.pointer (some ⟨p, 0, none⟩), .slice A m c] w (PrepN p st (n + (4 + 8 * m)) w):=by
 have HL:=lh (prep_arrlen p n st w h (by omega) (m : Int) (by omega))
 clear h
 go_enter Tryz.func210, Tryz.ntmps210
 go_wp2_with (fail)
 refine HL.out.mono ?_
 rintro e w1 ⟨rfl, hp1, hk1⟩
 have h1:=hp1.cell
 have h2:=hp1.frozen (o:=1)
 have HP1:=lh hp1
 have HK1:=lh hk1
 clear hp1 hk1
 go_wp2
 go_ret
 exact ⟨rfl, HP1.out.set (by go_num), HK1.out.trans (kept_set _ _ _ _) (fun x hx => .inl hx)⟩
theorem prep_strarr (p n : Nat) (st : Value) (w : World) (h : PrepAt p st n w) (hn : n ≤ 10000000) (A : Option Addr) (c : Nat) (l : List ByteArray) (hl : l.length ≤ 10) (hs : ∀ s ∈ l, s.size ≤ 32767) (hA : SlIs w 1 A l.length (strs l)) (hAp : ∀ a, A = some a → 0 < l.length → a.block ≠ p) : Calls Tryz.prog 215 #[.pointer (some ⟨p, 0, none⟩), .slice A l.length c] w (PrepN p st (n + (4 + sumT (fun s => 2 + s.size) l)) w):=by
 have HL:=lh (prep_arrlen p n st w h (by omega) (l.length : Int) (by omega))
 have HS:=lh hs
 have HA:=lh hA
 have HAP:=lh hAp
 have hb : ∀ s ∈ l, (fun s => 2 + s.size) s ≤ 32769:=fun s hs' => by have:=hs s hs'; (try simp only); omega
 have HB:=lh hb
 have hnn:=hA.2.1
 clear h hs hA hAp hb
 go_enter Tryz.func215, Tryz.ntmps215
 go_wp2_with (fail)
 refine HL.out.mono ?_
 rintro e w1 ⟨rfl, hp1, hk1⟩
 have HP1:=lh hp1
 have HK1:=lh hk1
 clear hp1 hk1
 go_wp2
 go_loopw [18] (fun iv wr => ∃ k : Nat, k ≤ l.length ∧ iv = .int .i64 k ∧ PrepAt p st (n + 4 + sumT (fun s => 2 + s.size) (l.take k)) wr ∧ Kept [p] w wr) (fun iv _ => l.length - (intOf iv).toNat)
 case atStart => exact ⟨0, Nat.zero_le _, rfl, by simpa [sumT] using HP1.out, HK1.out⟩
 case round =>
  obtain ⟨k, hk, rfl, hpr, hkr⟩:=hrel
  have hle:=sumT_le HB.out k
  have HPR:=lh hpr
  have HKR:=lh hkr
  clear hpr hkr
  by_cases hlt : k < l.length
  ·obtain ⟨b, off, hAe, hcc⟩:=HA.out.2.2 (by omega)
   obtain ⟨y, hy⟩ : ∃ y, l[k]? = some y:=⟨_, List.getElem?_eq_getElem hlt⟩
   have hbp : b ≠ p:=HAP.out _ hAe (by omega)
   subst hAe
   have hcell : wr.cell? ⟨b, off + k, none⟩ = some (.string y):=HKR.out.cell (hcc k _ (strs_at hy)) (by simpa using hbp)
   have hys:=HS.out y (List.mem_of_getElem? hy)
   have HY:=lh (sumT_take (f:=(fun s => 2 + s.size)) hy)
   obtain ⟨N, hN⟩ : ∃ N, n + 4 + sumT (fun s => 2 + s.size) (l.take k) = N:=⟨_, rfl⟩
   have hNb : N ≤ 50000000:=by omega
   rw [hN] at HPR
   have HST:=lh (prep_string p N st wr HPR.out (by omega) y hys)
   have HNN:=lh hN
   clear hcc hy hN hle
   go_wp2_with (fail)
   refine HST.out.mono ?_
   rintro e w2 ⟨rfl, hp2, hk2⟩
   have HP2:=lh hp2
   have HK2:=lh (HKR.out.trans hk2 (fun x hx => .inl hx))
   clear hp2 hk2
   go_wp2
   go_roundw
   case rel =>
    refine ⟨k + 1, by omega, by go_num, ?_, HK2.out⟩
    rw [HY.out, ← Nat.add_assoc, HNN.out]
    exact HP2.out
   case measure => (simp [intOf]) <;> omega
  ·have e : l.take k = l:=List.take_of_length_le (by omega)
   rw [e] at HPR
   clear e hle
   go_wp2
   go_ret
   exact ⟨rfl, by rw [← Nat.add_assoc]; exact HPR.out, HKR.out⟩
theorem conv_u64 {x : Int} (_h0 : -1 ≤ x) (_h1 : x ≤ 1000000000) : IntKind.u64.wrap (x + 1) = ((u64 (x + 1) : Nat) : Int):=by
 rw [IntKind.wrap_u64]
 unfold u64
 omega
theorem pf_arrlen (q p n : Nat) (st : Value) (w : World) (hq : FlexAt 168 q p w) (h : PrepAt p st n w) (hn : n ≤ 100000000) (x : Int) (h0 : -1 ≤ x) (h1 : x ≤ 1000000000) : Calls Tryz.prog 222 #[.pointer (some ⟨q, 0, none⟩), .int .i64 x] w (PrepN p st (n + (Lib.uvarint (u64 (x + 1))).length) w):=by
 have hc:=hq.cell
 have HV:=lh (prep_uvarint p n st w h (by omega) (u64 (x + 1)) (u64_lt _))
 have hw:=conv_u64 h0 h1
 clear h hq
 go_enter Tryz.func222, Tryz.ntmps222
 go_wp2_with ((with_reducible refine HV.out.mono ?_); rintro e w1 ⟨rfl, hp, hk⟩; have HP:=lh hp; have HK:=lh hk; clear hp hk)
 go_ret
 exact ⟨rfl, HP.out, HK.out⟩
theorem pf_bytes (q p n : Nat) (st : Value) (w : World) (hq : FlexAt 168 q p w) (h : PrepAt p st n w) (hn : n ≤ 100000000) (a : Addr) (m c : Nat) (hm : m ≤ 100000000) : Calls Tryz.prog 223 #[.pointer (some ⟨q, 0, none⟩), .slice (some a) m c] w (PrepN p st (n + ((Lib.uvarint (u64 ((m : Int) + 1))).length + m)) w):=by
 have hl:=Lib.uvarint_length64 (u64_lt ((m : Int) + 1))
 have HV:=lh (prep_uvarint p n st w h (by omega) (u64 ((m : Int) + 1)) (u64_lt _))
 have hw:=conv_u64 (x:=(m : Int)) (by omega) (by omega)
 obtain ⟨k, hk⟩ : ∃ k, (Lib.uvarint (u64 ((m : Int) + 1))).length = k:=⟨_, rfl⟩
 rw [hk] at hl HV ⊢
 have HR : Hid (∀ W, PrepAt p st (n + k) W → Calls Tryz.prog 213 #[.pointer (some ⟨p, 0, none⟩), .slice (some a) m c] W (PrepN p st (n + k + m) W)):=fun W hW => prep_raw p (n + k) st W hW (by omega) (some a) m c (by omega)
 have hc:=hq.cell
 have HQ:=lh hq
 have heq:=fun (W : World) (a : Option Addr) (l c : Nat) => eq_nil W 34 5 Tryz.underlying34 a l c
 clear h hk hq
 go_enter Tryz.func223, Tryz.ntmps223
 go_wp2_with (first
  | ((with_reducible refine HV.out.mono ?_); rintro e w1 ⟨rfl, hp1, hk1⟩; have hc1:=(HQ.out.keep hk1).cell; have HP1:=lh hp1; have HK1:=lh hk1; clear hp1 hk1)
  | ((with_reducible refine (HR.out _ HP1.out).mono ?_); rintro e w2 ⟨rfl, hp, hk⟩; have HP:=lh hp; have HK:=lh hk; clear hp hk))
 go_ret
 exact ⟨rfl, by rw [← Nat.add_assoc]; exact HP.out, HK1.out.trans HK.out (fun x hx => .inl hx)⟩
theorem pf_nil (q p n : Nat) (st : Value) (w : World) (hq : FlexAt 168 q p w) (h : PrepAt p st n w) (hn : n ≤ 100000000) (c : Nat) : Calls Tryz.prog 223 #[.pointer (some ⟨q, 0, none⟩), .slice none 0 c] w (PrepN p st (n + (Lib.uvarint 0).length) w):=by
 have HV : Hid (Calls Tryz.prog 216 #[.pointer (some ⟨p, 0, none⟩), .int .u64 0] w (PrepU p st (n + (Lib.uvarint 0).length) w)):=prep_uvarint p n st w h (by omega) 0 (by omega)
 have hc:=hq.cell
 have heq:=fun (W : World) (a : Option Addr) (l c : Nat) => eq_nil W 34 5 Tryz.underlying34 a l c
 clear h hq
 go_enter Tryz.func223, Tryz.ntmps223
 go_wp2_with ((with_reducible refine HV.out.mono ?_); rintro e w1 ⟨rfl, hp, hk⟩; have HP:=lh hp; have HK:=lh hk; clear hp hk)
 go_ret
 exact ⟨rfl, HP.out, HK.out⟩
theorem pf_string (q p n : Nat) (st : Value) (w : World) (hq : FlexAt 168 q p w) (h : PrepAt p st n w) (hn : n ≤ 50000000) (s : ByteArray) (hs : s.size ≤ 32767) : Calls Tryz.prog 231 #[.pointer (some ⟨q, 0, none⟩), .string s] w (PrepN p st (n + ((Lib.uvarint (u64 ((s.size : Int) + 1))).length + s.size)) w):=by
 have hl:=Lib.uvarint_length64 (u64_lt ((s.size : Int) + 1))
 have HV:=lh (pf_arrlen q p n st w hq h (by omega) (s.size : Int) (by omega) (by omega))
 obtain ⟨k, hk⟩ : ∃ k, (Lib.uvarint (u64 ((s.size : Int) + 1))).length = k:=⟨_, rfl⟩
 rw [hk] at hl HV ⊢
 have HR : Hid (∀ W, PrepAt p st (n + k) W → ∀ A c, Calls Tryz.prog 213 #[.pointer (some ⟨p, 0, none⟩), .slice A s.size c] W (PrepN p st (n + k + s.size) W)):=fun W hW A c => prep_raw p (n + k) st W hW (by omega) A s.size c (by omega)
 have HQ:=lh hq
 have hcv:=fun (W : World) => run_bytes_of_string (P:=Tryz.prog) W 9 34 5 s Tryz.underlying9 Tryz.underlying34 Tryz.underlying5
 clear h hk hq
 go_enter Tryz.func231, Tryz.ntmps231
 go_wp2_with (first
  | ((with_reducible refine HV.out.mono ?_); rintro e w1 ⟨rfl, hp1, hk1⟩; have hc1:=(HQ.out.keep hk1).cell; have HP1:=lh hp1; have HK1:=lh hk1; clear hp1 hk1)
  | ((with_reducible refine (HR.out _ (HP1.out.keep (((Kept.refl [] _).alloc _).drew) (by simp)) _ _).mono ?_); rintro e w2 ⟨rfl, hp, hk⟩; have HP:=lh hp; have HK:=lh hk; clear hp hk))
 go_ret
 exact ⟨rfl, by rw [← Nat.add_assoc]; exact HP.out, ((HK1.out.alloc _).drew).trans HK.out (fun x hx => .inl hx)⟩
theorem pf_strarr (q p n : Nat) (st : Value) (w : World) (hq : FlexAt 168 q p w) (h : PrepAt p st n w) (hn : n ≤ 10000000) (A : Option Addr) (c : Nat) (l : List ByteArray) (hl : l.length ≤ 10) (hs : ∀ s ∈ l, s.size ≤ 32767) (hA : SlIs w 1 A l.length (strs l)) (hAp : ∀ a, A = some a → 0 < l.length → a.block ≠ p) : Calls Tryz.prog 232 #[.pointer (some ⟨q, 0, none⟩), .slice A l.length c] w (PrepN p st (n + ((Lib.uvarint (u64 ((l.length : Int) + 1))).length + sumT (fun s => (Lib.uvarint (u64 ((s.size : Int) + 1))).length + s.size) l)) w):=by
 have HL:=lh (pf_arrlen q p n st w hq h (by omega) (l.length : Int) (by omega) (by omega))
 have hlen:=Lib.uvarint_length64 (u64_lt ((l.length : Int) + 1))
 obtain ⟨L, hL⟩ : ∃ L, (Lib.uvarint (u64 ((l.length : Int) + 1))).length = L:=⟨_, rfl⟩
 rw [hL] at HL hlen ⊢
 have HLL:=lh hL
 have HQ:=lh hq
 clear hL hq
 have HS:=lh hs
 have HA:=lh hA
 have HAP:=lh hAp
 have hb : ∀ s ∈ l, (fun s => (Lib.uvarint (u64 ((s.size : Int) + 1))).length + s.size) s ≤ 32777:=fun s hs' => by have:=hs s hs'; (have:=Lib.uvarint_length64 (x:=u64 ((s.size : Int) + 1)) (u64_lt _)); (try simp only); omega
 have HB:=lh hb
 have hnn:=hA.2.1
 clear h hs hA hAp hb
 go_enter Tryz.func232, Tryz.ntmps232
 go_wp2_with (fail)
 refine HL.out.mono ?_
 rintro e w1 ⟨rfl, hp1, hk1⟩
 have HP1:=lh hp1
 have HK1:=lh hk1
 clear hp1 hk1
 go_wp2
 go_loopw [18] (fun iv wr => ∃ k : Nat, k ≤ l.length ∧ iv = .int .i64 k ∧ PrepAt p st (n + L + sumT (fun s => (Lib.uvarint (u64 ((s.size : Int) + 1))).length + s.size) (l.take k)) wr ∧ Kept [p] w wr) (fun iv _ => l.length - (intOf iv).toNat)
 case atStart => exact ⟨0, Nat.zero_le _, rfl, by simpa [sumT] using HP1.out, HK1.out⟩
 case round =>
  obtain ⟨k, hk, rfl, hpr, hkr⟩:=hrel
  have hle:=sumT_le HB.out k
  have HPR:=lh hpr
  have HKR:=lh hkr
  clear hpr hkr
  by_cases hlt : k < l.length
  ·obtain ⟨b, off, hAe, hcc⟩:=HA.out.2.2 (by omega)
   obtain ⟨y, hy⟩ : ∃ y, l[k]? = some y:=⟨_, List.getElem?_eq_getElem hlt⟩
   have hbp : b ≠ p:=HAP.out _ hAe (by omega)
   subst hAe
   have hcell : wr.cell? ⟨b, off + k, none⟩ = some (.string y):=HKR.out.cell (hcc k _ (strs_at hy)) (by simpa using hbp)
   have hys:=HS.out y (List.mem_of_getElem? hy)
   have HY:=lh (sumT_take (f:=(fun s => (Lib.uvarint (u64 ((s.size : Int) + 1))).length + s.size)) hy)
   obtain ⟨N, hN⟩ : ∃ N, n + L + sumT (fun s => (Lib.uvarint (u64 ((s.size : Int) + 1))).length + s.size) (l.take k) = N:=⟨_, rfl⟩
   have hNb : N ≤ 50000000:=by omega
   rw [hN] at HPR
   have HST:=lh (pf_string q p N st wr (HQ.out.keep HKR.out) HPR.out (by omega) y hys)
   have HNN:=lh hN
   clear hcc hy hN hle
   go_wp2_with (fail)
   refine HST.out.mono ?_
   rintro e w2 ⟨rfl, hp2, hk2⟩
   have HP2:=lh hp2
   have HK2:=lh (HKR.out.trans hk2 (fun x hx => .inl hx))
   clear hp2 hk2
   go_wp2
   go_roundw
   case rel =>
    refine ⟨k + 1, by omega, by go_num, ?_, HK2.out⟩
    rw [HY.out, ← Nat.add_assoc, HNN.out]
    exact HP2.out
   case measure => (simp [intOf]) <;> omega
  ·have e : l.take k = l:=List.take_of_length_le (by omega)
   rw [e] at HPR
   clear e hle
   go_wp2
   go_ret
   exact ⟨rfl, by rw [← Nat.add_assoc]; exact HPR.out, HKR.out⟩
theorem pf_i64arr (q p n : Nat) (st : Value) (w : World) (hq : FlexAt 168 q p w) (h : PrepAt p st n w) (hn : n ≤ 100000000) (A : Option Addr) (m c : Nat) (hm : m ≤ 1000000) : Calls Tryz.prog 227 #[.pointer (some ⟨q, 0, none⟩), .slice A m c] w (PrepN p st (n + ((Lib.uvarint (u64 ((m : Int) + 1))).length + 8 * m)) w):=by
 have hl:=Lib.uvarint_length64 (u64_lt ((m : Int) + 1))
 have HV : Hid (Calls Tryz.prog 216 #[.pointer (some ⟨p, 0, none⟩), .int .u64 ((m : Int) + 1)] w (PrepU p st (n + (Lib.uvarint (u64 ((m : Int) + 1))).length) w)):=by
  have h1:=prep_uvarint p n st w h (by omega) (u64 ((m : Int) + 1)) (u64_lt _)
  rwa [u64_nonneg (by omega) (by omega)] at h1
 obtain ⟨k, hk⟩ : ∃ k, (Lib.uvarint (u64 ((m : Int) + 1))).length = k:=⟨_, rfl⟩
 rw [hk] at hl HV ⊢
 have hc:=hq.cell
 have HQ:=lh hq
 clear h hk hq
 go_enter Tryz.func227, Tryz.ntmps227
 go_wp2_with ((with_reducible refine HV.out.mono ?_); rintro e w1 ⟨rfl, hp1, hk1⟩; have hc1:=(HQ.out.keep hk1).cell; have h1:=hp1.cell; have h2:=hp1.frozen (o:=1); have HP1:=lh hp1; have HK1:=lh hk1; clear hp1 hk1)
 go_ret
 exact ⟨rfl, HP1.out.set (by go_num), HK1.out.trans (kept_set _ _ _ _) (fun x hx => .inl hx)⟩
theorem pf_i32arr (q p n : Nat) (st : Value) (w : World) (hq : FlexAt 168 q p w) (h : PrepAt p st n w) (hn : n ≤ 100000000) (A : Option Addr) (m c : Nat) (hm : m ≤ 1000000) (hA : A ≠ none) : Calls Tryz.prog 226 #[.pointer (some ⟨q, 0, none⟩), .slice A m c] w (PrepN p st (n + ((Lib.uvarint (u64 ((m : Int) + 1))).length + 4 * m)) w):=by
 have hl:=Lib.uvarint_length64 (u64_lt ((m : Int) + 1))
 have HV : Hid (Calls Tryz.prog 216 #[.pointer (some ⟨p, 0, none⟩), .int .u64 ((m : Int) + 1)] w (PrepU p st (n + (Lib.uvarint (u64 ((m : Int) + 1))).length) w)):=by
  have h1:=prep_uvarint p n st w h (by omega) (u64 ((m : Int) + 1)) (u64_lt _)
  rwa [u64_nonneg (by omega) (by omega)] at h1
 obtain ⟨k, hk⟩ : ∃ k, (Lib.uvarint (u64 ((m : Int) + 1))).length = k:=⟨_, rfl⟩
 rw [hk] at hl HV ⊢
 have hc:=hq.cell
 have HQ:=lh hq
 obtain ⟨a, rfl⟩ : ∃ a, A = some a:=by cases A with | none => exact absurd rfl hA | some a => exact ⟨a, rfl⟩
 clear hA
 have heq:=fun (W : World) (a : Option Addr) (l c : Nat) => eq_nil W 220 21 Tryz.underlying220 a l c
 clear h hk hq
 go_enter Tryz.func226, Tryz.ntmps226
 go_wp2_with ((with_reducible refine HV.out.mono ?_); rintro e w1 ⟨rfl, hp1, hk1⟩; have hc1:=(HQ.out.keep hk1).cell; have h1:=hp1.cell; have h2:=hp1.frozen (o:=1); have HP1:=lh hp1; have HK1:=lh hk1; clear hp1 hk1)
 go_ret
 exact ⟨rfl, HP1.out.set (by go_num), HK1.out.trans (kept_set _ _ _ _) (fun x hx => .inl hx)⟩
theorem pf_nullstr (q p n : Nat) (st : Value) (w : World) (hq : FlexAt 168 q p w) (h : PrepAt p st n w) (hn : n ≤ 100000000) : Calls Tryz.prog 230 #[.pointer (some ⟨q, 0, none⟩), .pointer none] w (PrepN p st (n + (Lib.uvarint 0).length) w):=by
 have HV : Hid (Calls Tryz.prog 216 #[.pointer (some ⟨p, 0, none⟩), .int .u64 0] w (PrepU p st (n + (Lib.uvarint 0).length) w)):=prep_uvarint p n st w h (by omega) 0 (by omega)
 have hc:=hq.cell
 clear h hq
 go_enter Tryz.func230, Tryz.ntmps230
 go_wp2_with ((with_reducible refine HV.out.mono ?_); rintro e w1 ⟨rfl, hp, hk⟩; have HP:=lh hp; have HK:=lh hk; clear hp hk)
 go_ret
 exact ⟨rfl, HP.out, HK.out⟩
theorem pf_somestr (q p n : Nat) (st : Value) (w : World) (hq : FlexAt 168 q p w) (h : PrepAt p st n w) (hn : n ≤ 50000000) (a : Addr) (s : ByteArray) (hs : s.size ≤ 32767) (ha : w.cell? a = some (.string s)) : Calls Tryz.prog 230 #[.pointer (some ⟨q, 0, none⟩), .pointer (some a)] w (PrepN p st (n + ((Lib.uvarint (u64 ((s.size : Int) + 1))).length + s.size)) w):=by
 have HS:=lh (pf_string q p n st w hq h hn s hs)
 clear h hq
 go_enter Tryz.func230, Tryz.ntmps230
 go_wp2_with ((with_reducible refine HS.out.mono ?_); rintro e w1 ⟨rfl, hp, hk⟩; have HP:=lh hp; have HK:=lh hk; clear hp hk)
 go_ret
 exact ⟨rfl, HP.out, HK.out⟩
end Go.Proofs.YtmpjikihnmagoaaGreatDoor
/-
 The writing encoder in memory: its row of bytes, of which the first ones are told. Conditions: none beyond each lemma's own.
-/
namespace Go.Proofs.YtmpjikihnmagoaaGreatDoor
open Go.RowKit
/-- A row of N bytes, of which the first ones are told. -/
def Raw (r N : Nat) (k : List UInt8) (w : World) : Prop:=∃ A : Array Value, w.heap[r]? = some (.cells A 5 (0, 0)) ∧ A.size = N ∧ k.length ≤ N ∧ ∀ (j : Nat) (b : UInt8), k[j]? = some b → A[j]? = some (.int .u8 (b.toNat : Int))
theorem Raw.le {r N : Nat} {k : List UInt8} {w : World} (h : Raw r N k w) : k.length ≤ N:=by
 obtain ⟨A, _, _, h3, _⟩:=h
 exact h3
theorem Raw.isCell {r N j : Nat} {k : List UInt8} {w : World} (h : Raw r N k w) (hj : j < N) : ∃ x, w.cell? ⟨r, j, none⟩ = some x:=by
 obtain ⟨A, h1, h2, -⟩:=h
 refine ⟨A[j], ?_⟩
 simp [World.cell?, h1, Array.getElem?_eq_getElem (show j < A.size by omega)]
theorem Raw.frozen {r N o : Nat} {k : List UInt8} {w : World} (h : Raw r N k w) : w.frozen? ⟨r, o, none⟩ = false:=by
 obtain ⟨A, h1, -⟩:=h
 simp [World.frozen?, h1]
theorem Raw.get {r N j : Nat} {b : UInt8} {k : List UInt8} {w : World} (h : Raw r N k w) (hj : k[j]? = some b) : w.cell? ⟨r, j, none⟩ = some (.int .u8 (b.toNat : Int)):=by
 obtain ⟨A, h1, -, -, h4⟩:=h
 simp [World.cell?, h1, h4 j b hj]
theorem Raw.keep {r N : Nat} {k : List UInt8} {S : List Nat} {w w' : World} (h : Raw r N k w) (hk : Kept S w w') (hS : r ∉ S) : Raw r N k w':=by
 obtain ⟨A, h1, h2⟩:=h
 exact ⟨A, hk.heap h1 hS, h2⟩
theorem Raw.pre {r N : Nat} {k l : List UInt8} {w : World} (h : Raw r N (k ++ l) w) : Raw r N k w:=by
 obtain ⟨A, h1, h2, h3, h4⟩:=h
 refine ⟨A, h1, h2, by rw [List.length_append] at h3; omega, fun j b hj => h4 j b ?_⟩
 rw [List.getElem?_append_left (List.getElem?_eq_some_iff.1 hj).1]
 exact hj
theorem Raw.put {r N : Nat} {k : List UInt8} {w : World} (h : Raw r N k w) (hl : k.length < N) (b : UInt8) : Raw r N (k ++ [b]) (w.setCell ⟨r, k.length, none⟩ (.int .u8 (b.toNat : Int))):=by
 obtain ⟨A, h1, h2, h3, h4⟩:=h
 refine ⟨A.setIfInBounds k.length (.int .u8 (b.toNat : Int)), heap_setCell_same _ _ _ _ _ _ h1, by simp [h2], by simp; omega, fun j x hj => ?_⟩
 rw [Array.getElem?_setIfInBounds]
 by_cases e : k.length = j
 ·subst e
  rw [if_pos rfl, if_pos (by omega)]
  simp at hj
  rw [hj]
 ·rw [if_neg e]
  have hj2 : j < k.length:=by
   have:=(List.getElem?_eq_some_iff.1 hj).1
   simp at this
   omega
  rw [List.getElem?_append_left hj2] at hj
  exact h4 j x hj
theorem Raw.puts {r N : Nat} : ∀ (l k : List UInt8) (w : World), Raw r N k w → k.length + l.length ≤ N → Raw r N (k ++ l) (w.setCells r k.length (Lib.byteCells l))
 | [], k, w, h, _ => by simpa [Lib.byteCells, World.setCells] using h
 | b :: l, k, w, h, hl => by
  simp only [List.length_cons] at hl
  have h1:=Raw.puts l (k ++ [b]) _ (h.put (by omega) b) (by simp; omega)
  rw [List.append_assoc, List.singleton_append, List.length_append, List.length_singleton] at h1
  exact h1
/-- The writing encoder as it lies in memory: its row, what has been written, its stack. -/
def RealAt (p r N : Nat) (st : Value) (k : List UInt8) (w : World) : Prop:=w.heap[p]? = some (.cells #[.slice (some ⟨r, 0, none⟩) N N, .int .i64 k.length, st] 174 (0, 0)) ∧ Raw r N k w ∧ p ≠ r
theorem RealAt.cell0 {p r N : Nat} {st : Value} {k : List UInt8} {w : World} (h : RealAt p r N st k w) : w.cell? ⟨p, 0, none⟩ = some (.slice (some ⟨r, 0, none⟩) N N):=by
 have:=h.1
 simp [World.cell?, this]
theorem RealAt.cell1 {p r N : Nat} {st : Value} {k : List UInt8} {w : World} (h : RealAt p r N st k w) : w.cell? ⟨p, 1, none⟩ = some (.int .i64 k.length):=by
 have:=h.1
 simp [World.cell?, this]
theorem RealAt.frozen {p r N o : Nat} {st : Value} {k : List UInt8} {w : World} (h : RealAt p r N st k w) : w.frozen? ⟨p, o, none⟩ = false:=by
 have:=h.1
 simp [World.frozen?, this]
theorem RealAt.keep {p r N : Nat} {st : Value} {k : List UInt8} {S : List Nat} {w w' : World} (h : RealAt p r N st k w) (hk : Kept S w w') (hp : p ∉ S) (hr : r ∉ S) : RealAt p r N st k w':=⟨hk.heap h.1 hp, h.2.1.keep hk hr, h.2.2⟩
/-- The place is moved on, behind bytes that stand in the row. -/
theorem RealAt.move {p r N : Nat} {st : Value} {k k' : List UInt8} {w w' : World} {v : Value} (h : RealAt p r N st k w) (hk : Kept [r] w w') (hr : Raw r N k' w') (hv : v = .int .i64 k'.length) : RealAt p r N st k' (w'.setCell ⟨p, 1, none⟩ v):=by
 subst hv
 have h1:=hk.heap h.1 (by simpa using h.2.2)
 refine ⟨?_, hr.keep (kept_set p 1 _ _) (by simpa using Ne.symm h.2.2), h.2.2⟩
 rw [heap_setCell_same _ _ _ _ _ _ h1]
 rfl
/-- These bytes have been written; nothing is handed back. -/
def RealU (p r N : Nat) (st : Value) (k : List UInt8) (w : World) (e : Ending) (w' : World) : Prop:=e = .returned (.tuple #[]) ∧ RealAt p r N st k w' ∧ Kept [p, r] w w'
/-- These bytes have been written; no error is handed back. -/
def RealN (p r N : Nat) (st : Value) (k : List UInt8) (w : World) (e : Ending) (w' : World) : Prop:=e = .returned .nilIface ∧ RealAt p r N st k w' ∧ Kept [p, r] w w'
/-- What a region that writes l behind k leaves as it was. -/
def RW (r N : Nat) (k l : List UInt8) (a b : World) : Prop:=Kept [r] a b ∧ (Raw r N k a → Raw r N k b) ∧ (Raw r N (k ++ l) a → Raw r N (k ++ l) b)
theorem RW.refl (r N : Nat) (k l : List UInt8) (a : World) : RW r N k l a a:=⟨Kept.refl _ _, id, id⟩
theorem RW.drew (r N : Nat) (k l : List UInt8) (a : World) : RW r N k l a a.drew:=⟨(Kept.refl _ _).drew, fun ⟨A, h⟩ => ⟨A, h⟩, fun ⟨A, h⟩ => ⟨A, h⟩⟩
theorem RW.trans {r N : Nat} {k l : List UInt8} {a b c : World} (h : RW r N k l a b) (g : RW r N k l b c) : RW r N k l a c:=⟨h.1.trans g.1 (fun _x hx => .inl hx), fun x => g.2.1 (h.2.1 x), fun x => g.2.2 (h.2.2 x)⟩
/-- The bytes are written. -/
theorem RW.puts {r N : Nat} {k l : List UInt8} {a b : World} (hk : Kept [] a b) (hl : k.length + l.length ≤ N) : RW r N k l a (b.setCells r k.length (Lib.byteCells l)) :=
 ⟨(hk.mono (by simp)).trans (kept_setCells _ _ _ _) (fun x hx => .inl hx), fun h => (Raw.puts l k b (h.keep hk (by simp)) hl).pre, fun h => Raw.puts l k b (h.pre.keep hk (by simp)) hl⟩
theorem elem34 : Tryz.prog.underlying 34 = some (.slice (Tryz.prog.elem 34)):=by rw [Tryz.underlying34]; kernel_rfl
/-- The row from a place on. -/
theorem raw_from (W : World) (r n N : Nat) (h : n ≤ N) : (Instr.sliceAt 34 (.slice (some ⟨r, 0, none⟩) N N) (some (.int .i64 (n : Int))) none none).run Tryz.prog W = .ok (.slice (some ⟨r, if N = n then 0 else n, none⟩) (N - n) (N - n)) W:=by
 rw [run_sliceAt_slice (P:=Tryz.prog) (w:=W) 34 _ _ _ _ elem34, run_slice_l (P:=Tryz.prog) (w:=W) 34 _ _ _ elem34 _ _ (by omega) (by omega)]
 have hs : (sizeOf (Tryz.prog.elem 34)).run Tryz.prog W = .ok 1 W:=by kernel_rfl
 rw [hs]
 simp only [Result.andThen, sliced, Int.toNat_natCast]
 split
 ·rfl
 ·simp [Addr.add]
  intro h
  exact h.symm
/-- A text's bytes are copied. -/
theorem run_copy_text (w : World) (b o dLen dCap : Nat) (s : ByteArray) (hn : s.size ≤ dLen) (hc : ∀ j, j < s.size → (w.cell? ⟨b, o + j, none⟩).isSome = true) (hf : ∀ j, j < s.size → w.frozen? ⟨b, o + j, none⟩ = false) :
  (Builtin.copy_ #[34, 9] 3 #[.slice (some ⟨b, o, none⟩) dLen dCap, .string s]).run Tryz.prog w = .ok (goInt s.size) (w.setCells b o (Lib.byteCells s.data.toList)):=by
 have hlen : (Lib.byteCells s.data.toList).length = s.size:=by rw [Lib.byteCells_length]; rfl
 have hst:=run_storeCells_cells (P:=Tryz.prog) b o (Lib.byteCells s.data.toList) 0 w (by simpa [hlen] using hc) (by simpa [hlen] using hf) (fun v hv => by simp only [Lib.byteCells, List.mem_map] at hv; obtain ⟨b, _, rfl⟩:=hv; rfl)
 have hq : (Tryz.prog.info? 5).map (·.size) = some 1:=by kernel_rfl
 have hm : Nat.min s.size dLen = s.size:=Nat.min_eq_left hn
 have hr : List.take s.size (List.map (fun b => Value.int IntKind.u8 ↑b.toNat) s.data.toList) = Lib.byteCells s.data.toList:=List.take_of_length_le (by rw [List.length_map]; exact Nat.le_refl _)
 cases hi : Tryz.prog.info? 5 with
 | none => simp [hi] at hq
 | some i =>
  have h1 : i.size = 1:=by simpa [hi] using hq
  simp [Builtin.copy_, run_underlying Tryz.underlying34, Builtin.lenOf, Builtin.firstCells, sizeOf, typeInfo, hi, hm, hr, hst]
theorem raw_from_lt (W : World) (r n N : Nat) (h : n < N) : (Instr.sliceAt 34 (.slice (some ⟨r, 0, none⟩) N N) (some (.int .i64 (n : Int))) none none).run Tryz.prog W = .ok (.slice (some ⟨r, n, none⟩) (N - n) (N - n)) W:=by
 rw [raw_from W r n N (by omega), if_neg (by omega)]
end Go.Proofs.YtmpjikihnmagoaaGreatDoor
