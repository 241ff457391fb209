/-
  The writing encoder: lengths, bytes, texts that may be null, lists; the flexible one's methods. Conditions: room in the row.
-/
import Derived.Test.YtmpjikihnmagoaaGreatDoorZT4
set_option maxRecDepth 100000
set_option maxHeartbeats 3200000
namespace Go.Proofs.YtmpjikihnmagoaaGreatDoor
open Go.RowKit
/-- A slice stays where what it points to stays, if it is not empty. -/
theorem slis_keep {S : List Nat} {w w' : World} {s n : Nat} {A : Option Addr} {xs : List Value} (h : SlIs w s A n xs) (k : Kept S w w') (hX : ∀ a, A = some a → 0 < n → a.block ∉ S) : SlIs w' s A n xs:=by
 refine ⟨h.1, h.2.1, fun hn => ?_⟩
 obtain ⟨b, off, hA, hc⟩:=h.2.2 hn
 exact ⟨b, off, hA, fun i v hv => k.cell (hc i v hv) (hX ⟨b, off, none⟩ hA hn)⟩
theorem uvarint_zero : Lib.uvarint 0 = big 1 0:=by
 rw [big_one]
 unfold Lib.uvarint
 rfl
theorem wrap_i32 {x : Int} (h0 : -2147483648 ≤ x) (h1 : x ≤ 2147483647) : IntKind.i32.wrap x = x:=by
 unfold IntKind.wrap
 simp [IntKind.bits, IntKind.signed]
 omega
theorem flat_take {α : Type} (f : α → List UInt8) {l : List α} {j : Nat} {y : α} (h : l[j]? = some y) : (l.take (j + 1)).flatMap f = (l.take j).flatMap f ++ f y:=by
 rw [take_one h, List.flatMap_append]
 simp
theorem flat_le {α : Type} (f : α → List UInt8) (l : List α) (j : Nat) : ((l.take j).flatMap f).length ≤ (l.flatMap f).length:=by
 have h : l.flatMap f = (l.take j).flatMap f ++ (l.drop j).flatMap f:=by rw [← List.flatMap_append, List.take_append_drop]
 rw [h, List.length_append]
 omega
/-- The bytes of a text, laid anew. -/
theorem bytesRow_at (s : ByteArray) (hs : s.size ≤ 32767) (c : Nat) (w : World) (fr : Nat × Nat) : SlIs ((w.alloc (.cells (bytesRow s c) 5 fr)).drew) 1 (some ⟨w.heap.size, 0, none⟩) s.data.toList.length (Lib.byteCells s.data.toList):=by
 refine ⟨by rw [Lib.byteCells_length, Nat.mul_one], ?_, fun _ => ⟨_, _, rfl, fun i v hv => ?_⟩⟩
 ·have : s.data.toList.length = s.size:=rfl
  omega
 ·have h1 : ((w.alloc (.cells (bytesRow s c) 5 fr)).drew).heap[w.heap.size]? = some _:=heap_alloc_new _ _
  simp only [World.cell?, h1, Nat.zero_add]
  have hi : i < s.data.size:=by
   have:=(List.getElem?_eq_some_iff.1 hv).1
   rw [Lib.byteCells_length] at this
   simpa using this
  unfold bytesRow
  rw [Array.getElem?_append_left (by simpa using hi)]
  rw [← hv]
  simp [Lib.byteCells]
theorem FlexAt.keep2 {T : TypeId} {q p r : Nat} {w w' : World} (h : FlexAt T q p w) (hr : q ≠ r) (k : Kept [p, r] w w') : FlexAt T q p w':=⟨k.heap h.1 (by simpa using ⟨h.2, hr⟩), h.2⟩
theorem RealU.trans {p r N : Nat} {st : Value} {k : List UInt8} {w w1 w2 : World} {e : Ending} (h1 : Kept [p, r] w w1) (h : RealU p r N st k w1 e w2) : RealU p r N st k w e w2:=⟨h.1, h.2.1, h1.trans h.2.2 (fun _x hx => .inl hx)⟩
theorem RealN.trans {p r N : Nat} {st : Value} {k : List UInt8} {w w1 w2 : World} {e : Ending} (h1 : Kept [p, r] w w1) (h : RealN p r N st k w1 e w2) : RealN p r N st k w e w2:=⟨h.1, h.2.1, h1.trans h.2.2 (fun _x hx => .inl hx)⟩
theorem real_bool_true (p r N : Nat) (st : Value) (k : List UInt8) (w : World) (h : RealAt p r N st k w) (hx : k.length + 1 ≤ N) (hN : N ≤ 1000000000) : Calls Tryz.prog 240 #[.pointer (some ⟨p, 0, none⟩), .bool true] w (RealU p r N st (k ++ big 1 1) w):=by
 have HI:=lh (real_int8 p r N st k w h 1 hx hN)
 clear h
 go_enter Tryz.func240, Tryz.ntmps240
 go_wp2_with (((with_reducible refine HI.out.mono ?_); rintro e w1 ⟨rfl, hp, hk⟩; have HP1:=lh hp; have HK1:=lh hk; clear hp hk))
 refine bodyPost_ret (results_none rfl _ _ _) rfl ⟨rfl, HP1.out, HK1.out⟩
theorem real_bool_false (p r N : Nat) (st : Value) (k : List UInt8) (w : World) (h : RealAt p r N st k w) (hx : k.length + 1 ≤ N) (hN : N ≤ 1000000000) : Calls Tryz.prog 240 #[.pointer (some ⟨p, 0, none⟩), .bool false] w (RealU p r N st (k ++ big 1 0) w):=by
 have HI:=lh (real_int8 p r N st k w h 0 hx hN)
 clear h
 go_enter Tryz.func240, Tryz.ntmps240
 go_wp2_with (((with_reducible refine HI.out.mono ?_); rintro e w1 ⟨rfl, hp, hk⟩; have HP1:=lh hp; have HK1:=lh hk; clear hp hk))
 refine bodyPost_end (results_none rfl _ _ _) rfl ⟨rfl, HP1.out, HK1.out⟩
theorem real_arrlen (p r N : Nat) (st : Value) (k : List UInt8) (w : World) (h : RealAt p r N st k w) (x : Int) (h0 : -1 ≤ x) (h1 : x ≤ 1000000000) (hx : k.length + 4 ≤ N) (hN : N ≤ 1000000000) : Calls Tryz.prog 239 #[.pointer (some ⟨p, 0, none⟩), .int .i64 x] w (RealN p r N st (k ++ big 4 x) w):=by
 have HI:=lh (real_int32 p r N st k w h x hx hN)
 have hw : IntKind.i32.wrap x = x:=wrap_i32 (by omega) (by omega)
 clear h
 go_enter Tryz.func239, Tryz.ntmps239
 go_wp2_with (((with_reducible refine HI.out.mono ?_); rintro e w1 ⟨rfl, hp, hk⟩; have HP1:=lh hp; have HK1:=lh hk; clear hp hk))
 go_ret
 exact ⟨rfl, HP1.out, HK1.out⟩
theorem real_bytes (p r N : Nat) (st : Value) (k : List UInt8) (w : World) (h : RealAt p r N st k w) (l : List UInt8) (a : Addr) (c : Nat) (hA : SlIs w 1 (some a) l.length (Lib.byteCells l)) (hap : 0 < l.length → a.block ≠ p ∧ a.block ≠ r) (hl : l.length ≤ 100000000) (hx : k.length + (4 + l.length) ≤ N) (hN : N ≤ 1000000000) : Calls Tryz.prog 241 #[.pointer (some ⟨p, 0, none⟩), .slice (some a) l.length c] w (RealN p r N st (k ++ (big 4 (l.length : Int) ++ l)) w):=by
 have hpr:=h.2.2
 have HI:=lh (real_int32 p r N st k w h (l.length : Int) (by omega) hN)
 have hw : IntKind.i32.wrap (l.length : Int) = (l.length : Int):=wrap_i32 (by omega) (by omega)
 have hbl:=big_len 4 (l.length : Int)
 have HR : Hid (∀ W, RealAt p r N st (k ++ big 4 (l.length : Int)) W → Kept [p, r] w W → Calls Tryz.prog 254 #[.pointer (some ⟨p, 0, none⟩), .slice (some a) l.length c] W (RealN p r N st (k ++ big 4 (l.length : Int) ++ l) W)):=fun W hW hk => real_raw p r N st _ W hW l (some a) c (slis_keep hA hk (by intro b hb h0; cases hb; simpa using hap h0)) (by rw [List.length_append]; omega) hN
 clear hA
 clear hbl
 have heq:=fun (W : World) (a : Option Addr) (l c : Nat) => eq_nil W 34 5 Tryz.underlying34 a l c
 clear h
 go_enter Tryz.func241, Tryz.ntmps241
 go_wp2_with (first
  | ((with_reducible refine HI.out.mono ?_); rintro e w1 ⟨rfl, hp, hk⟩; have HP1:=lh hp; have HK1:=lh hk; clear hp hk)
  | ((with_reducible refine (HR.out _ HP1.out HK1.out).mono ?_); rintro e w2 ⟨rfl, hp, hk⟩; have HP2:=lh hp; have HK2:=lh hk; clear hp hk))
 go_ret
 refine ⟨rfl, ?_, HK1.out.trans HK2.out (fun x hx => .inl hx)⟩
 rw [← List.append_assoc]
 exact HP2.out
theorem real_nil (p r N : Nat) (st : Value) (k : List UInt8) (w : World) (h : RealAt p r N st k w) (c : Nat) (hx : k.length + 4 ≤ N) (hN : N ≤ 1000000000) : Calls Tryz.prog 241 #[.pointer (some ⟨p, 0, none⟩), .slice none 0 c] w (RealN p r N st (k ++ big 4 (-1)) w):=by
 have HI:=lh (real_int32 p r N st k w h (-1) hx hN)
 clear h
 have heq:=fun (W : World) (a : Option Addr) (l c : Nat) => eq_nil W 34 5 Tryz.underlying34 a l c
 go_enter Tryz.func241, Tryz.ntmps241
 go_wp2_with (((with_reducible refine HI.out.mono ?_); rintro e w1 ⟨rfl, hp, hk⟩; have HP1:=lh hp; have HK1:=lh hk; clear hp hk))
 go_ret
 exact ⟨rfl, HP1.out, HK1.out⟩
theorem real_varbytes (p r N : Nat) (st : Value) (k : List UInt8) (w : World) (h : RealAt p r N st k w) (l : List UInt8) (a : Addr) (c : Nat) (hA : SlIs w 1 (some a) l.length (Lib.byteCells l)) (hap : 0 < l.length → a.block ≠ p ∧ a.block ≠ r) (hl : l.length ≤ 100000000) (hN : N ≤ 1000000000) (hx : k.length + ((Lib.uvarint (Lib.zigzag (l.length : Int))).length + l.length) ≤ N) : Calls Tryz.prog 260 #[.pointer (some ⟨p, 0, none⟩), .slice (some a) l.length c] w (RealN p r N st (k ++ (Lib.uvarint (Lib.zigzag (l.length : Int)) ++ l)) w):=by
 have hpr:=h.2.2
 have HI:=lh (real_varint p r N st k w h (l.length : Int) (by omega) (by omega) hN (by omega))
 have HR : Hid (∀ W, RealAt p r N st (k ++ Lib.uvarint (Lib.zigzag (l.length : Int))) W → Kept [p, r] w W → Calls Tryz.prog 254 #[.pointer (some ⟨p, 0, none⟩), .slice (some a) l.length c] W (RealN p r N st (k ++ Lib.uvarint (Lib.zigzag (l.length : Int)) ++ l) W)):=fun W hW hk => real_raw p r N st _ W hW l (some a) c (slis_keep hA hk (by intro b hb h0; cases hb; simpa using hap h0)) (by rw [List.length_append]; omega) hN
 clear hA
 have heq:=fun (W : World) (a : Option Addr) (l c : Nat) => eq_nil W 34 5 Tryz.underlying34 a l c
 clear h
 go_enter Tryz.func260, Tryz.ntmps260
 go_wp2_with (first
  | ((with_reducible refine HI.out.mono ?_); rintro e w1 ⟨rfl, hp, hk⟩; have HP1:=lh hp; have HK1:=lh hk; clear hp hk)
  | ((with_reducible refine (HR.out _ HP1.out HK1.out).mono ?_); rintro e w2 ⟨rfl, hp, hk⟩; have HP2:=lh hp; have HK2:=lh hk; clear hp hk))
 go_ret
 refine ⟨rfl, ?_, HK1.out.trans HK2.out (fun x hx => .inl hx)⟩
 rw [← List.append_assoc]
 exact HP2.out
theorem real_varnil (p r N : Nat) (st : Value) (k : List UInt8) (w : World) (h : RealAt p r N st k w) (c : Nat) (hN : N ≤ 1000000000) (hx : k.length + (Lib.uvarint (Lib.zigzag (-1))).length ≤ N) : Calls Tryz.prog 260 #[.pointer (some ⟨p, 0, none⟩), .slice none 0 c] w (RealN p r N st (k ++ Lib.uvarint (Lib.zigzag (-1))) w):=by
 have HI:=lh (real_varint p r N st k w h (-1) (by omega) (by omega) hN hx)
 clear h
 have heq:=fun (W : World) (a : Option Addr) (l c : Nat) => eq_nil W 34 5 Tryz.underlying34 a l c
 go_enter Tryz.func260, Tryz.ntmps260
 go_wp2_with (((with_reducible refine HI.out.mono ?_); rintro e w1 ⟨rfl, hp, hk⟩; have HP1:=lh hp; have HK1:=lh hk; clear hp hk))
 go_ret
 exact ⟨rfl, HP1.out, HK1.out⟩
theorem real_nullstr (p r N : Nat) (st : Value) (k : List UInt8) (w : World) (h : RealAt p r N st k w) (hx : k.length + 2 ≤ N) (hN : N ≤ 1000000000) : Calls Tryz.prog 253 #[.pointer (some ⟨p, 0, none⟩), .pointer none] w (RealN p r N st (k ++ big 2 (-1)) w):=by
 have HI:=lh (real_int16 p r N st k w h (-1) hx hN)
 clear h
 go_enter Tryz.func253, Tryz.ntmps253
 go_wp2_with (((with_reducible refine HI.out.mono ?_); rintro e w1 ⟨rfl, hp, hk⟩; have HP1:=lh hp; have HK1:=lh hk; clear hp hk))
 go_ret
 exact ⟨rfl, HP1.out, HK1.out⟩
theorem real_somestr (p r N : Nat) (st : Value) (k : List UInt8) (w : World) (h : RealAt p r N st k w) (a : Addr) (s : ByteArray) (hs : s.size ≤ 32767) (ha : w.cell? a = some (.string s)) (hx : k.length + (2 + s.size) ≤ N) (hN : N ≤ 1000000000) : Calls Tryz.prog 253 #[.pointer (some ⟨p, 0, none⟩), .pointer (some a)] w (RealN p r N st (k ++ (big 2 (s.size : Int) ++ s.data.toList)) w):=by
 have HI:=lh (real_string p r N st k w h s hs hx hN)
 clear h
 go_enter Tryz.func253, Tryz.ntmps253
 go_wp2_with (((with_reducible refine HI.out.mono ?_); rintro e w1 ⟨rfl, hp, hk⟩; have HP1:=lh hp; have HK1:=lh hk; clear hp hk))
 go_ret
 exact ⟨rfl, HP1.out, HK1.out⟩
theorem real_i32arr (p r N : Nat) (st : Value) (k : List UInt8) (w : World) (h : RealAt p r N st k w) (A : Option Addr) (c : Nat) (l : List Int) (hA : SlIs w 1 A l.length (l.map (Value.int .i32))) (hAp : ∀ a, A = some a → 0 < l.length → a.block ≠ p ∧ a.block ≠ r) (hl : l.length ≤ 1000000) (hN : N ≤ 1000000000) (hx : k.length + (big 4 (l.length : Int) ++ l.flatMap (big 4)).length ≤ N) : Calls Tryz.prog 247 #[.pointer (some ⟨p, 0, none⟩), .slice A l.length c] w (RealN p r N st (k ++ (big 4 (l.length : Int) ++ l.flatMap (big 4))) w):=by
 rw [List.length_append] at hx
 have HI:=lh (real_arrlen p r N st k w h (l.length : Int) (by omega) (by omega) (by have:=big_len 4 (l.length : Int); omega) hN)
 have HF:=lh (flat_le (big 4) l)
 have HX:=lh hx
 have HA:=lh hA
 have HAP:=lh hAp
 have hnn:=hA.2.1
 obtain ⟨k1, hk1⟩ : ∃ k1, k ++ big 4 (l.length : Int) = k1:=⟨_, rfl⟩
 have HK1L : Hid (k1.length = k.length + (big 4 (l.length : Int)).length):=by unfold Hid; rw [← hk1, List.length_append]
 rw [← List.append_assoc]
 rw [hk1] at HI ⊢
 have HK1E:=lh hk1
 clear h hA hAp hx hk1
 go_enter Tryz.func247, Tryz.ntmps247
 go_wp2_with (((with_reducible refine HI.out.mono ?_); rintro e w1 ⟨rfl, hp, hk⟩; have HP1:=lh hp; have HK1:=lh hk; clear hp hk))
 go_loopw [17] (fun iv wr => ∃ j : Nat, j ≤ l.length ∧ iv = .int .i64 j ∧ RealAt p r N st (k1 ++ (l.take j).flatMap (big 4)) wr ∧ Kept [p, r] w wr) (fun iv _ => l.length - (intOf iv).toNat)
 case atStart => exact ⟨0, Nat.zero_le _, rfl, by simpa using HP1.out, HK1.out⟩
 case round =>
  obtain ⟨j, hj, rfl, hpr, hkr⟩:=hrel
  have HPR:=lh hpr
  have HKR:=lh hkr
  clear hpr hkr
  by_cases hlt : j < l.length
  ·obtain ⟨b, off, hAe, hcc⟩:=HA.out.2.2 (by omega)
   obtain ⟨y, hy⟩ : ∃ y, l[j]? = some y:=⟨_, List.getElem?_eq_getElem hlt⟩
   have hbp:=HAP.out _ hAe (by omega)
   cases hAe
   have hcell : wr.cell? ⟨b, off + j, none⟩ = some (.int .i32 y):=HKR.out.cell (hcc j _ (by simp [hy])) (by simpa using hbp)
   have hft:=flat_take (big 4) hy
   have hle : (k1 ++ (l.take j).flatMap (big 4)).length + ((big 4) y).length ≤ N:=by
    have h1:=HF.out (j + 1)
    rw [hft, List.length_append] at h1
    rw [List.length_append]
    have:=HX.out
    have:=HK1L.out
    omega
   obtain ⟨K, hK⟩ : ∃ K, k1 ++ (l.take j).flatMap (big 4) = K:=⟨_, rfl⟩
   have HFT : Hid (k1 ++ (l.take (j + 1)).flatMap (big 4) = K ++ (big 4) y):=by unfold Hid; rw [hft, ← List.append_assoc, hK]
   rw [hK] at HPR hle
   have HST:=lh (real_int32 p r N st K wr HPR.out y (by have:=big_len 4 y; omega) hN)
   clear hK hft hcc hy hle
   skip
   go_wp2_with ((with_reducible refine HST.out.mono ?_); rintro e w2 ⟨rfl, hp2, hk2⟩; have HP2:=lh hp2; have HK2:=lh (HKR.out.trans hk2 (fun x hx => .inl hx)); clear hp2 hk2)
   go_roundw
   case rel =>
    refine ⟨j + 1, by omega, by go_num, ?_, HK2.out⟩
    rw [HFT.out]
    exact HP2.out
   case measure => (simp [intOf]) <;> omega
  ·have e : l.take j = l:=List.take_of_length_le (by omega)
   rw [e] at HPR
   clear e
   go_wp2
   go_ret
   exact ⟨rfl, HPR.out, HKR.out⟩
theorem real_i64arr (p r N : Nat) (st : Value) (k : List UInt8) (w : World) (h : RealAt p r N st k w) (A : Option Addr) (c : Nat) (l : List Int) (hA : SlIs w 1 A l.length (l.map (Value.int .i64))) (hAp : ∀ a, A = some a → 0 < l.length → a.block ≠ p ∧ a.block ≠ r) (hl : l.length ≤ 1000000) (hN : N ≤ 1000000000) (hx : k.length + (big 4 (l.length : Int) ++ l.flatMap (big 8)).length ≤ N) : Calls Tryz.prog 249 #[.pointer (some ⟨p, 0, none⟩), .slice A l.length c] w (RealN p r N st (k ++ (big 4 (l.length : Int) ++ l.flatMap (big 8))) w):=by
 rw [List.length_append] at hx
 have HI:=lh (real_arrlen p r N st k w h (l.length : Int) (by omega) (by omega) (by have:=big_len 4 (l.length : Int); omega) hN)
 have HF:=lh (flat_le (big 8) l)
 have HX:=lh hx
 have HA:=lh hA
 have HAP:=lh hAp
 have hnn:=hA.2.1
 obtain ⟨k1, hk1⟩ : ∃ k1, k ++ big 4 (l.length : Int) = k1:=⟨_, rfl⟩
 have HK1L : Hid (k1.length = k.length + (big 4 (l.length : Int)).length):=by unfold Hid; rw [← hk1, List.length_append]
 rw [← List.append_assoc]
 rw [hk1] at HI ⊢
 have HK1E:=lh hk1
 clear h hA hAp hx hk1
 go_enter Tryz.func249, Tryz.ntmps249
 go_wp2_with (((with_reducible refine HI.out.mono ?_); rintro e w1 ⟨rfl, hp, hk⟩; have HP1:=lh hp; have HK1:=lh hk; clear hp hk))
 go_loopw [17] (fun iv wr => ∃ j : Nat, j ≤ l.length ∧ iv = .int .i64 j ∧ RealAt p r N st (k1 ++ (l.take j).flatMap (big 8)) wr ∧ Kept [p, r] w wr) (fun iv _ => l.length - (intOf iv).toNat)
 case atStart => exact ⟨0, Nat.zero_le _, rfl, by simpa using HP1.out, HK1.out⟩
 case round =>
  obtain ⟨j, hj, rfl, hpr, hkr⟩:=hrel
  have HPR:=lh hpr
  have HKR:=lh hkr
  clear hpr hkr
  by_cases hlt : j < l.length
  ·obtain ⟨b, off, hAe, hcc⟩:=HA.out.2.2 (by omega)
   obtain ⟨y, hy⟩ : ∃ y, l[j]? = some y:=⟨_, List.getElem?_eq_getElem hlt⟩
   have hbp:=HAP.out _ hAe (by omega)
   cases hAe
   have hcell : wr.cell? ⟨b, off + j, none⟩ = some (.int .i64 y):=HKR.out.cell (hcc j _ (by simp [hy])) (by simpa using hbp)
   have hft:=flat_take (big 8) hy
   have hle : (k1 ++ (l.take j).flatMap (big 8)).length + ((big 8) y).length ≤ N:=by
    have h1:=HF.out (j + 1)
    rw [hft, List.length_append] at h1
    rw [List.length_append]
    have:=HX.out
    have:=HK1L.out
    omega
   obtain ⟨K, hK⟩ : ∃ K, k1 ++ (l.take j).flatMap (big 8) = K:=⟨_, rfl⟩
   have HFT : Hid (k1 ++ (l.take (j + 1)).flatMap (big 8) = K ++ (big 8) y):=by unfold Hid; rw [hft, ← List.append_assoc, hK]
   rw [hK] at HPR hle
   have HST:=lh (real_int64 p r N st K wr HPR.out y (by have:=big_len 8 y; omega) hN)
   clear hK hft hcc hy hle
   skip
   go_wp2_with ((with_reducible refine HST.out.mono ?_); rintro e w2 ⟨rfl, hp2, hk2⟩; have HP2:=lh hp2; have HK2:=lh (HKR.out.trans hk2 (fun x hx => .inl hx)); clear hp2 hk2)
   go_roundw
   case rel =>
    refine ⟨j + 1, by omega, by go_num, ?_, HK2.out⟩
    rw [HFT.out]
    exact HP2.out
   case measure => (simp [intOf]) <;> omega
  ·have e : l.take j = l:=List.take_of_length_le (by omega)
   rw [e] at HPR
   clear e
   go_wp2
   go_ret
   exact ⟨rfl, HPR.out, HKR.out⟩
theorem real_strarr (p r N : Nat) (st : Value) (k : List UInt8) (w : World) (h : RealAt p r N st k w) (A : Option Addr) (c : Nat) (l : List ByteArray) (hs : ∀ s ∈ l, s.size ≤ 32767) (hA : SlIs w 1 A l.length (strs l)) (hAp : ∀ a, A = some a → 0 < l.length → a.block ≠ p ∧ a.block ≠ r) (hl : l.length ≤ 1000000) (hN : N ≤ 1000000000) (hx : k.length + (big 4 (l.length : Int) ++ l.flatMap (textB false)).length ≤ N) : Calls Tryz.prog 256 #[.pointer (some ⟨p, 0, none⟩), .slice A l.length c] w (RealN p r N st (k ++ (big 4 (l.length : Int) ++ l.flatMap (textB false))) w):=by
 rw [List.length_append] at hx
 have HI:=lh (real_arrlen p r N st k w h (l.length : Int) (by omega) (by omega) (by have:=big_len 4 (l.length : Int); omega) hN)
 have HF:=lh (flat_le (textB false) l)
 have HX:=lh hx
 have HA:=lh hA
 have HAP:=lh hAp
 have hnn:=hA.2.1
 obtain ⟨k1, hk1⟩ : ∃ k1, k ++ big 4 (l.length : Int) = k1:=⟨_, rfl⟩
 have HK1L : Hid (k1.length = k.length + (big 4 (l.length : Int)).length):=by unfold Hid; rw [← hk1, List.length_append]
 rw [← List.append_assoc]
 rw [hk1] at HI ⊢
 have HK1E:=lh hk1
 clear h hA hAp hx hk1
 go_enter Tryz.func256, Tryz.ntmps256
 go_wp2_with (((with_reducible refine HI.out.mono ?_); rintro e w1 ⟨rfl, hp, hk⟩; have HP1:=lh hp; have HK1:=lh hk; clear hp hk))
 go_loopw [18] (fun iv wr => ∃ j : Nat, j ≤ l.length ∧ iv = .int .i64 j ∧ RealAt p r N st (k1 ++ (l.take j).flatMap (textB false)) wr ∧ Kept [p, r] w wr) (fun iv _ => l.length - (intOf iv).toNat)
 case atStart => exact ⟨0, Nat.zero_le _, rfl, by simpa using HP1.out, HK1.out⟩
 case round =>
  obtain ⟨j, hj, rfl, hpr, hkr⟩:=hrel
  have HPR:=lh hpr
  have HKR:=lh hkr
  clear hpr hkr
  by_cases hlt : j < l.length
  ·obtain ⟨b, off, hAe, hcc⟩:=HA.out.2.2 (by omega)
   obtain ⟨y, hy⟩ : ∃ y, l[j]? = some y:=⟨_, List.getElem?_eq_getElem hlt⟩
   have hbp:=HAP.out _ hAe (by omega)
   cases hAe
   have hcell : wr.cell? ⟨b, off + j, none⟩ = some (.string y):=HKR.out.cell (hcc j _ (by simp [strs, hy])) (by simpa using hbp)
   have hft:=flat_take (textB false) hy
   have hle : (k1 ++ (l.take j).flatMap (textB false)).length + ((textB false) y).length ≤ N:=by
    have h1:=HF.out (j + 1)
    rw [hft, List.length_append] at h1
    rw [List.length_append]
    have:=HX.out
    have:=HK1L.out
    omega
   obtain ⟨K, hK⟩ : ∃ K, k1 ++ (l.take j).flatMap (textB false) = K:=⟨_, rfl⟩
   have HFT : Hid (k1 ++ (l.take (j + 1)).flatMap (textB false) = K ++ (textB false) y):=by unfold Hid; rw [hft, ← List.append_assoc, hK]
   rw [hK] at HPR hle
   have hys:=hs y (List.mem_of_getElem? hy)
   have HST : Hid (Calls Tryz.prog 255 #[.pointer (some ⟨p, 0, none⟩), .string y] wr (RealN p r N st (K ++ textB false y) wr)):=real_string p r N st K wr HPR.out y hys (by simp only [textB, lenB] at hle; simp only [List.length_append, Bool.false_eq_true, if_false, big_len] at hle; exact hle) hN
   clear hK hft hcc hy hle
   skip
   go_wp2_with ((with_reducible refine HST.out.mono ?_); rintro e w2 ⟨rfl, hp2, hk2⟩; have HP2:=lh hp2; have HK2:=lh (HKR.out.trans hk2 (fun x hx => .inl hx)); clear hp2 hk2)
   go_roundw
   case rel =>
    refine ⟨j + 1, by omega, by go_num, ?_, HK2.out⟩
    rw [HFT.out]
    exact HP2.out
   case measure => (simp [intOf]) <;> omega
  ·have e : l.take j = l:=List.take_of_length_le (by omega)
   rw [e] at HPR
   clear e
   go_wp2
   go_ret
   exact ⟨rfl, HPR.out, HKR.out⟩
theorem rf_arrlen (q p r N : Nat) (st : Value) (k : List UInt8) (w : World) (hq : FlexAt 177 q p w) (_hqr : q ≠ r) (h : RealAt p r N st k w) (x : Int) (h0 : -1 ≤ x) (h1 : x ≤ 1000000000) (hN : N ≤ 1000000000) (hx : k.length + (Lib.uvarint (u64 (x + 1))).length ≤ N) : Calls Tryz.prog 264 #[.pointer (some ⟨q, 0, none⟩), .int .i64 x] w (RealN p r N st (k ++ Lib.uvarint (u64 (x + 1))) w):=by
 have hc:=hq.cell
 have HI:=lh (real_uvarint p r N st k w h (u64 (x + 1)) (u64_lt _) hN hx)
 have hw:=conv_u64 h0 h1
 clear h hq
 go_enter Tryz.func264, Tryz.ntmps264
 go_wp2_with (((with_reducible refine HI.out.mono ?_); rintro e w1 ⟨rfl, hp, hk⟩; have HP1:=lh hp; have HK1:=lh hk; clear hp hk))
 go_ret
 exact ⟨rfl, HP1.out, HK1.out⟩
theorem rf_bytes (q p r N : Nat) (st : Value) (k : List UInt8) (w : World) (hq : FlexAt 177 q p w) (hqr : q ≠ r) (h : RealAt p r N st k w) (l : List UInt8) (a : Addr) (c : Nat) (hA : SlIs w 1 (some a) l.length (Lib.byteCells l)) (hap : 0 < l.length → a.block ≠ p ∧ a.block ≠ r) (hl : l.length ≤ 100000000) (hN : N ≤ 1000000000) (hx : k.length + ((Lib.uvarint (u64 ((l.length : Int) + 1))).length + l.length) ≤ N) : Calls Tryz.prog 265 #[.pointer (some ⟨q, 0, none⟩), .slice (some a) l.length c] w (RealN p r N st (k ++ (Lib.uvarint (u64 ((l.length : Int) + 1)) ++ l)) w):=by
 have hpr:=h.2.2
 have HI:=lh (real_uvarint p r N st k w h (u64 ((l.length : Int) + 1)) (u64_lt _) hN (by omega))
 have hw:=conv_u64 (x:=(l.length : Int)) (by omega) (by omega)
 have hc:=hq.cell
 have HQ:=lh hq
 have HR : Hid (∀ W, RealAt p r N st (k ++ Lib.uvarint (u64 ((l.length : Int) + 1))) W → Kept [p, r] w W → Calls Tryz.prog 254 #[.pointer (some ⟨p, 0, none⟩), .slice (some a) l.length c] W (RealN p r N st (k ++ Lib.uvarint (u64 ((l.length : Int) + 1)) ++ l) W)):=fun W hW hk => real_raw p r N st _ W hW l (some a) c (slis_keep hA hk (by intro b hb h0; cases hb; simpa using hap h0)) (by rw [List.length_append]; omega) hN
 clear hA
 have heq:=fun (W : World) (a : Option Addr) (l c : Nat) => eq_nil W 34 5 Tryz.underlying34 a l c
 clear hq
 clear h
 go_enter Tryz.func265, Tryz.ntmps265
 go_wp2_with (first
  | ((with_reducible refine HI.out.mono ?_); rintro e w1 ⟨rfl, hp, hk⟩; have hc1:=(HQ.out.keep2 hqr hk).cell; have HP1:=lh hp; have HK1:=lh hk; clear hp hk)
  | ((with_reducible refine (HR.out _ HP1.out HK1.out).mono ?_); rintro e w2 ⟨rfl, hp, hk⟩; have HP2:=lh hp; have HK2:=lh hk; clear hp hk))
 go_ret
 refine ⟨rfl, ?_, HK1.out.trans HK2.out (fun x hx => .inl hx)⟩
 rw [← List.append_assoc]
 exact HP2.out
theorem rf_nil (q p r N : Nat) (st : Value) (k : List UInt8) (w : World) (hq : FlexAt 177 q p w) (_hqr : q ≠ r) (h : RealAt p r N st k w) (c : Nat) (hN : N ≤ 1000000000) (hx : k.length + (Lib.uvarint 0).length ≤ N) : Calls Tryz.prog 265 #[.pointer (some ⟨q, 0, none⟩), .slice none 0 c] w (RealN p r N st (k ++ Lib.uvarint 0) w):=by
 have HI : Hid (Calls Tryz.prog 257 #[.pointer (some ⟨p, 0, none⟩), .int .u64 0] w (RealU p r N st (k ++ Lib.uvarint 0) w)):=real_uvarint p r N st k w h 0 (by omega) hN hx
 have hc:=hq.cell
 clear h hq
 have heq:=fun (W : World) (a : Option Addr) (l c : Nat) => eq_nil W 34 5 Tryz.underlying34 a l c
 go_enter Tryz.func265, Tryz.ntmps265
 go_wp2_with (((with_reducible refine HI.out.mono ?_); rintro e w1 ⟨rfl, hp, hk⟩; have HP1:=lh hp; have HK1:=lh hk; clear hp hk))
 go_ret
 exact ⟨rfl, HP1.out, HK1.out⟩
theorem rf_nullstr (q p r N : Nat) (st : Value) (k : List UInt8) (w : World) (hq : FlexAt 177 q p w) (_hqr : q ≠ r) (h : RealAt p r N st k w) (hN : N ≤ 1000000000) (hx : k.length + (Lib.uvarint 0).length ≤ N) : Calls Tryz.prog 270 #[.pointer (some ⟨q, 0, none⟩), .pointer none] w (RealN p r N st (k ++ Lib.uvarint 0) w):=by
 rw [uvarint_zero] at hx ⊢
 have HI:=lh (real_int8 p r N st k w h 0 (by rw [big_len] at hx; exact hx) hN)
 have hc:=hq.cell
 clear h hq
 go_enter Tryz.func270, Tryz.ntmps270
 go_wp2_with (((with_reducible refine HI.out.mono ?_); rintro e w1 ⟨rfl, hp, hk⟩; have HP1:=lh hp; have HK1:=lh hk; clear hp hk))
 go_ret
 exact ⟨rfl, HP1.out, HK1.out⟩
theorem rf_string (q p r N : Nat) (st : Value) (k : List UInt8) (w : World) (hq : FlexAt 177 q p w) (hqr : q ≠ r) (h : RealAt p r N st k w) (s : ByteArray) (hs : s.size ≤ 32767) (hN : N ≤ 1000000000) (hx : k.length + ((Lib.uvarint (u64 ((s.size : Int) + 1))).length + s.size) ≤ N) : Calls Tryz.prog 271 #[.pointer (some ⟨q, 0, none⟩), .string s] w (RealN p r N st (k ++ (Lib.uvarint (u64 ((s.size : Int) + 1)) ++ s.data.toList)) w):=by
 have HI:=lh (rf_arrlen q p r N st k w hq hqr h (s.size : Int) (by omega) (by omega) hN (by omega))
 have hpr:=h.2.2
 have HQ:=lh hq
 have HDS : Hid (s.data.toList.length = s.size):=rfl
 have hcv:=fun (W : World) => run_bytes_of_string (P:=Tryz.prog) W 9 34 5 s Tryz.underlying9 Tryz.underlying34 Tryz.underlying5
 have HR : Hid (∀ W, RealAt p r N st (k ++ Lib.uvarint (u64 ((s.size : Int) + 1))) W → ∀ cp fr, Calls Tryz.prog 254 #[.pointer (some ⟨p, 0, none⟩), .slice (some ⟨W.heap.size, 0, none⟩) s.size cp] ((W.alloc (.cells (bytesRow s cp) 5 fr)).drew) (RealN p r N st (k ++ Lib.uvarint (u64 ((s.size : Int) + 1)) ++ s.data.toList) ((W.alloc (.cells (bytesRow s cp) 5 fr)).drew))):=fun W hW cp fr =>
  real_raw p r N st _ _ (hW.keep (((Kept.refl [] W).alloc _).drew) (by simp) (by simp)) s.data.toList (some ⟨W.heap.size, 0, none⟩) cp (bytesRow_at s hs cp W fr) (by rw [List.length_append, HDS.out]; omega) hN
 clear h hq hx
 go_enter Tryz.func271, Tryz.ntmps271
 go_wp2_with (first
  | ((with_reducible refine HI.out.mono ?_); rintro e w1 ⟨rfl, hp, hk⟩; have hc1:=(HQ.out.keep2 hqr hk).cell; have HP1:=lh hp; have HK1:=lh hk; clear hp hk)
  | ((with_reducible refine (HR.out _ HP1.out _ _).mono ?_); rintro e w2 ⟨rfl, hp, hk⟩; have HP2:=lh hp; have HK2:=lh hk; clear hp hk))
 go_ret
 refine ⟨rfl, ?_, (HK1.out.trans ((((Kept.refl [] _).alloc _).drew).mono (by simp)) (fun x hx => .inl hx)).trans HK2.out (fun x hx => .inl hx)⟩
 rw [← List.append_assoc]
 exact HP2.out
theorem rf_somestr (q p r N : Nat) (st : Value) (k : List UInt8) (w : World) (hq : FlexAt 177 q p w) (hqr : q ≠ r) (h : RealAt p r N st k w) (a : Addr) (s : ByteArray) (hs : s.size ≤ 32767) (ha : w.cell? a = some (.string s)) (hN : N ≤ 1000000000) (hx : k.length + ((Lib.uvarint (u64 ((s.size : Int) + 1))).length + s.size) ≤ N) : Calls Tryz.prog 270 #[.pointer (some ⟨q, 0, none⟩), .pointer (some a)] w (RealN p r N st (k ++ (Lib.uvarint (u64 ((s.size : Int) + 1)) ++ s.data.toList)) w):=by
 have HI:=lh (rf_string q p r N st k w hq hqr h s hs hN hx)
 clear h hq
 go_enter Tryz.func270, Tryz.ntmps270
 go_wp2_with (((with_reducible refine HI.out.mono ?_); rintro e w1 ⟨rfl, hp, hk⟩; have HP1:=lh hp; have HK1:=lh hk; clear hp hk))
 go_ret
 exact ⟨rfl, HP1.out, HK1.out⟩
theorem rf_i32arr (q p r N : Nat) (st : Value) (k : List UInt8) (w : World) (hq : FlexAt 177 q p w) (hqr : q ≠ r) (h : RealAt p r N st k w) (A : Option Addr) (c : Nat) (l : List Int) (hA : SlIs w 1 A l.length (l.map (Value.int .i32))) (hAp : ∀ a, A = some a → 0 < l.length → a.block ≠ p ∧ a.block ≠ r) (hl : l.length ≤ 1000000) (hN : N ≤ 1000000000) (hx : k.length + (Lib.uvarint (u64 ((l.length : Int) + 1)) ++ l.flatMap (big 4)).length ≤ N) (hAn : A ≠ none) : Calls Tryz.prog 267 #[.pointer (some ⟨q, 0, none⟩), .slice A l.length c] w (RealN p r N st (k ++ (Lib.uvarint (u64 ((l.length : Int) + 1)) ++ l.flatMap (big 4))) w):=by
 rw [List.length_append] at hx
 have HI : Hid (Calls Tryz.prog 257 #[.pointer (some ⟨p, 0, none⟩), .int .u64 ((l.length : Int) + 1)] w (RealU p r N st (k ++ Lib.uvarint (u64 ((l.length : Int) + 1))) w)):=by
  have h1:=real_uvarint p r N st k w h (u64 ((l.length : Int) + 1)) (u64_lt _) hN (by omega)
  rwa [u64_nonneg (by omega) (by omega)] at h1
 have hc:=hq.cell
 have HQ:=lh hq
 clear hq
 obtain ⟨a, rfl⟩ : ∃ a, A = some a:=by cases A with | none => exact absurd rfl hAn | some a => exact ⟨a, rfl⟩
 clear hAn
 have heq:=fun (W : World) (a : Option Addr) (l c : Nat) => eq_nil W 220 21 Tryz.underlying220 a l c
 have HF:=lh (flat_le (big 4) l)
 have HX:=lh hx
 have HA:=lh hA
 have HAP:=lh hAp
 have hnn:=hA.2.1
 obtain ⟨k1, hk1⟩ : ∃ k1, k ++ Lib.uvarint (u64 ((l.length : Int) + 1)) = k1:=⟨_, rfl⟩
 have HK1L : Hid (k1.length = k.length + (Lib.uvarint (u64 ((l.length : Int) + 1))).length):=by unfold Hid; rw [← hk1, List.length_append]
 rw [← List.append_assoc]
 rw [hk1] at HI ⊢
 have HK1E:=lh hk1
 clear h hA hAp hx hk1
 go_enter Tryz.func267, Tryz.ntmps267
 go_wp2_with (((with_reducible refine HI.out.mono ?_); rintro e w1 ⟨rfl, hp, hk⟩; have hc1:=(HQ.out.keep2 hqr hk).cell; have HP1:=lh hp; have HK1:=lh hk; clear hp hk))
 go_loopw [21] (fun iv wr => ∃ j : Nat, j ≤ l.length ∧ iv = .int .i64 j ∧ RealAt p r N st (k1 ++ (l.take j).flatMap (big 4)) wr ∧ Kept [p, r] w wr) (fun iv _ => l.length - (intOf iv).toNat)
 case atStart => exact ⟨0, Nat.zero_le _, rfl, by simpa using HP1.out, HK1.out⟩
 case round =>
  obtain ⟨j, hj, rfl, hpr, hkr⟩:=hrel
  have HPR:=lh hpr
  have HKR:=lh hkr
  clear hpr hkr
  by_cases hlt : j < l.length
  ·obtain ⟨b, off, hAe, hcc⟩:=HA.out.2.2 (by omega)
   obtain ⟨y, hy⟩ : ∃ y, l[j]? = some y:=⟨_, List.getElem?_eq_getElem hlt⟩
   have hbp:=HAP.out _ hAe (by omega)
   cases hAe
   have hcell : wr.cell? ⟨b, off + j, none⟩ = some (.int .i32 y):=HKR.out.cell (hcc j _ (by simp [hy])) (by simpa using hbp)
   have hft:=flat_take (big 4) hy
   have hle : (k1 ++ (l.take j).flatMap (big 4)).length + ((big 4) y).length ≤ N:=by
    have h1:=HF.out (j + 1)
    rw [hft, List.length_append] at h1
    rw [List.length_append]
    have:=HX.out
    have:=HK1L.out
    omega
   obtain ⟨K, hK⟩ : ∃ K, k1 ++ (l.take j).flatMap (big 4) = K:=⟨_, rfl⟩
   have HFT : Hid (k1 ++ (l.take (j + 1)).flatMap (big 4) = K ++ (big 4) y):=by unfold Hid; rw [hft, ← List.append_assoc, hK]
   rw [hK] at HPR hle
   have HST:=lh (real_int32 p r N st K wr HPR.out y (by have:=big_len 4 y; omega) hN)
   clear hK hft hcc hy hle
   have hcq:=(HQ.out.keep2 hqr HKR.out).cell
   go_wp2_with ((with_reducible refine HST.out.mono ?_); rintro e w2 ⟨rfl, hp2, hk2⟩; have HP2:=lh hp2; have HK2:=lh (HKR.out.trans hk2 (fun x hx => .inl hx)); clear hp2 hk2)
   go_roundw
   case rel =>
    refine ⟨j + 1, by omega, by go_num, ?_, HK2.out⟩
    rw [HFT.out]
    exact HP2.out
   case measure => (simp [intOf]) <;> omega
  ·have e : l.take j = l:=List.take_of_length_le (by omega)
   rw [e] at HPR
   clear e
   go_wp2
   go_ret
   exact ⟨rfl, HPR.out, HKR.out⟩
theorem rf_i64arr (q p r N : Nat) (st : Value) (k : List UInt8) (w : World) (hq : FlexAt 177 q p w) (hqr : q ≠ r) (h : RealAt p r N st k w) (A : Option Addr) (c : Nat) (l : List Int) (hA : SlIs w 1 A l.length (l.map (Value.int .i64))) (hAp : ∀ a, A = some a → 0 < l.length → a.block ≠ p ∧ a.block ≠ r) (hl : l.length ≤ 1000000) (hN : N ≤ 1000000000) (hx : k.length + (Lib.uvarint (u64 ((l.length : Int) + 1)) ++ l.flatMap (big 8)).length ≤ N) : Calls Tryz.prog 268 #[.pointer (some ⟨q, 0, none⟩), .slice A l.length c] w (RealN p r N st (k ++ (Lib.uvarint (u64 ((l.length : Int) + 1)) ++ l.flatMap (big 8))) w):=by
 rw [List.length_append] at hx
 have HI : Hid (Calls Tryz.prog 257 #[.pointer (some ⟨p, 0, none⟩), .int .u64 ((l.length : Int) + 1)] w (RealU p r N st (k ++ Lib.uvarint (u64 ((l.length : Int) + 1))) w)):=by
  have h1:=real_uvarint p r N st k w h (u64 ((l.length : Int) + 1)) (u64_lt _) hN (by omega)
  rwa [u64_nonneg (by omega) (by omega)] at h1
 have hc:=hq.cell
 have HQ:=lh hq
 clear hq
 have HF:=lh (flat_le (big 8) l)
 have HX:=lh hx
 have HA:=lh hA
 have HAP:=lh hAp
 have hnn:=hA.2.1
 obtain ⟨k1, hk1⟩ : ∃ k1, k ++ Lib.uvarint (u64 ((l.length : Int) + 1)) = k1:=⟨_, rfl⟩
 have HK1L : Hid (k1.length = k.length + (Lib.uvarint (u64 ((l.length : Int) + 1))).length):=by unfold Hid; rw [← hk1, List.length_append]
 rw [← List.append_assoc]
 rw [hk1] at HI ⊢
 have HK1E:=lh hk1
 clear h hA hAp hx hk1
 go_enter Tryz.func268, Tryz.ntmps268
 go_wp2_with (((with_reducible refine HI.out.mono ?_); rintro e w1 ⟨rfl, hp, hk⟩; have hc1:=(HQ.out.keep2 hqr hk).cell; have HP1:=lh hp; have HK1:=lh hk; clear hp hk))
 go_loopw [18] (fun iv wr => ∃ j : Nat, j ≤ l.length ∧ iv = .int .i64 j ∧ RealAt p r N st (k1 ++ (l.take j).flatMap (big 8)) wr ∧ Kept [p, r] w wr) (fun iv _ => l.length - (intOf iv).toNat)
 case atStart => exact ⟨0, Nat.zero_le _, rfl, by simpa using HP1.out, HK1.out⟩
 case round =>
  obtain ⟨j, hj, rfl, hpr, hkr⟩:=hrel
  have HPR:=lh hpr
  have HKR:=lh hkr
  clear hpr hkr
  by_cases hlt : j < l.length
  ·obtain ⟨b, off, hAe, hcc⟩:=HA.out.2.2 (by omega)
   obtain ⟨y, hy⟩ : ∃ y, l[j]? = some y:=⟨_, List.getElem?_eq_getElem hlt⟩
   have hbp:=HAP.out _ hAe (by omega)
   cases hAe
   have hcell : wr.cell? ⟨b, off + j, none⟩ = some (.int .i64 y):=HKR.out.cell (hcc j _ (by simp [hy])) (by simpa using hbp)
   have hft:=flat_take (big 8) hy
   have hle : (k1 ++ (l.take j).flatMap (big 8)).length + ((big 8) y).length ≤ N:=by
    have h1:=HF.out (j + 1)
    rw [hft, List.length_append] at h1
    rw [List.length_append]
    have:=HX.out
    have:=HK1L.out
    omega
   obtain ⟨K, hK⟩ : ∃ K, k1 ++ (l.take j).flatMap (big 8) = K:=⟨_, rfl⟩
   have HFT : Hid (k1 ++ (l.take (j + 1)).flatMap (big 8) = K ++ (big 8) y):=by unfold Hid; rw [hft, ← List.append_assoc, hK]
   rw [hK] at HPR hle
   have HST:=lh (real_int64 p r N st K wr HPR.out y (by have:=big_len 8 y; omega) hN)
   clear hK hft hcc hy hle
   have hcq:=(HQ.out.keep2 hqr HKR.out).cell
   go_wp2_with ((with_reducible refine HST.out.mono ?_); rintro e w2 ⟨rfl, hp2, hk2⟩; have HP2:=lh hp2; have HK2:=lh (HKR.out.trans hk2 (fun x hx => .inl hx)); clear hp2 hk2)
   go_roundw
   case rel =>
    refine ⟨j + 1, by omega, by go_num, ?_, HK2.out⟩
    rw [HFT.out]
    exact HP2.out
   case measure => (simp [intOf]) <;> omega
  ·have e : l.take j = l:=List.take_of_length_le (by omega)
   rw [e] at HPR
   clear e
   go_wp2
   go_ret
   exact ⟨rfl, HPR.out, HKR.out⟩
theorem rf_strarr (q p r N : Nat) (st : Value) (k : List UInt8) (w : World) (hq : FlexAt 177 q p w) (hqr : q ≠ r) (h : RealAt p r N st k w) (A : Option Addr) (c : Nat) (l : List ByteArray) (hs : ∀ s ∈ l, s.size ≤ 32767) (hA : SlIs w 1 A l.length (strs l)) (hAp : ∀ a, A = some a → 0 < l.length → a.block ≠ p ∧ a.block ≠ r) (hl : l.length ≤ 1000000) (hN : N ≤ 1000000000) (hx : k.length + (Lib.uvarint (u64 ((l.length : Int) + 1)) ++ l.flatMap (textB true)).length ≤ N) : Calls Tryz.prog 272 #[.pointer (some ⟨q, 0, none⟩), .slice A l.length c] w (RealN p r N st (k ++ (Lib.uvarint (u64 ((l.length : Int) + 1)) ++ l.flatMap (textB true))) w):=by
 rw [List.length_append] at hx
 have HI:=lh (rf_arrlen q p r N st k w hq hqr h (l.length : Int) (by omega) (by omega) hN (by omega))
 have hc:=hq.cell
 have HQ:=lh hq
 clear hq
 have HF:=lh (flat_le (textB true) l)
 have HX:=lh hx
 have HA:=lh hA
 have HAP:=lh hAp
 have hnn:=hA.2.1
 obtain ⟨k1, hk1⟩ : ∃ k1, k ++ Lib.uvarint (u64 ((l.length : Int) + 1)) = k1:=⟨_, rfl⟩
 have HK1L : Hid (k1.length = k.length + (Lib.uvarint (u64 ((l.length : Int) + 1))).length):=by unfold Hid; rw [← hk1, List.length_append]
 rw [← List.append_assoc]
 rw [hk1] at HI ⊢
 have HK1E:=lh hk1
 clear h hA hAp hx hk1
 go_enter Tryz.func272, Tryz.ntmps272
 go_wp2_with (((with_reducible refine HI.out.mono ?_); rintro e w1 ⟨rfl, hp, hk⟩; have hc1:=(HQ.out.keep2 hqr hk).cell; have HP1:=lh hp; have HK1:=lh hk; clear hp hk))
 go_loopw [18] (fun iv wr => ∃ j : Nat, j ≤ l.length ∧ iv = .int .i64 j ∧ RealAt p r N st (k1 ++ (l.take j).flatMap (textB true)) wr ∧ Kept [p, r] w wr) (fun iv _ => l.length - (intOf iv).toNat)
 case atStart => exact ⟨0, Nat.zero_le _, rfl, by simpa using HP1.out, HK1.out⟩
 case round =>
  obtain ⟨j, hj, rfl, hpr, hkr⟩:=hrel
  have HPR:=lh hpr
  have HKR:=lh hkr
  clear hpr hkr
  by_cases hlt : j < l.length
  ·obtain ⟨b, off, hAe, hcc⟩:=HA.out.2.2 (by omega)
   obtain ⟨y, hy⟩ : ∃ y, l[j]? = some y:=⟨_, List.getElem?_eq_getElem hlt⟩
   have hbp:=HAP.out _ hAe (by omega)
   cases hAe
   have hcell : wr.cell? ⟨b, off + j, none⟩ = some (.string y):=HKR.out.cell (hcc j _ (by simp [strs, hy])) (by simpa using hbp)
   have hft:=flat_take (textB true) hy
   have hle : (k1 ++ (l.take j).flatMap (textB true)).length + ((textB true) y).length ≤ N:=by
    have h1:=HF.out (j + 1)
    rw [hft, List.length_append] at h1
    rw [List.length_append]
    have:=HX.out
    have:=HK1L.out
    omega
   obtain ⟨K, hK⟩ : ∃ K, k1 ++ (l.take j).flatMap (textB true) = K:=⟨_, rfl⟩
   have HFT : Hid (k1 ++ (l.take (j + 1)).flatMap (textB true) = K ++ (textB true) y):=by unfold Hid; rw [hft, ← List.append_assoc, hK]
   rw [hK] at HPR hle
   have hys:=hs y (List.mem_of_getElem? hy)
   have HST : Hid (Calls Tryz.prog 271 #[.pointer (some ⟨q, 0, none⟩), .string y] wr (RealN p r N st (K ++ textB true y) wr)):=rf_string q p r N st K wr (HQ.out.keep2 hqr HKR.out) hqr HPR.out y hys hN (by simp only [textB, lenB] at hle; simp only [List.length_append, if_true] at hle; exact hle)
   clear hK hft hcc hy hle
   have hcq:=(HQ.out.keep2 hqr HKR.out).cell
   go_wp2_with ((with_reducible refine HST.out.mono ?_); rintro e w2 ⟨rfl, hp2, hk2⟩; have HP2:=lh hp2; have HK2:=lh (HKR.out.trans hk2 (fun x hx => .inl hx)); clear hp2 hk2)
   go_roundw
   case rel =>
    refine ⟨j + 1, by omega, by go_num, ?_, HK2.out⟩
    rw [HFT.out]
    exact HP2.out
   case measure => (simp [intOf]) <;> omega
  ·have e : l.take j = l:=List.take_of_length_le (by omega)
   rw [e] at HPR
   clear e
   go_wp2
   go_ret
   exact ⟨rfl, HPR.out, HKR.out⟩
end Go.Proofs.YtmpjikihnmagoaaGreatDoor
