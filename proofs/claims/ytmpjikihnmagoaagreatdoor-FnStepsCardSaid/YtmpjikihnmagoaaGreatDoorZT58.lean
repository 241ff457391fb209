/-
  The sum of bytes by a polynomial (297 to 299); the field that bears it (130, 293 to 296). Conditions: few bytes.
-/
import Derived.Test.YtmpjikihnmagoaaGreatDoorZT57
import Derived.Test.YtmpjikihnmagoaaGreatDoorZT15
set_option maxRecDepth 100000
set_option maxHeartbeats 3200000
namespace Go.Proofs.YtmpjikihnmagoaaGreatDoor
open Go.RowKit
/-! ### The sum -/
theorem foldl_snoc {α β : Type} (f : β → α → β) (b : β) {l : List α} {k : Nat} {y : α} (h : l[k]? = some y) : (l.take (k + 1)).foldl f b = f ((l.take k).foldl f b) y:=by
 obtain ⟨hk, rfl⟩:=List.getElem?_eq_some_iff.1 h
 rw [List.take_succ_eq_append_getElem hk, List.foldl_append]
 rfl
theorem xor_in (a b : Int) (h1 : 0 ≤ a) (h2 : a ≤ 4294967295) (h3 : 0 ≤ b) (h4 : b ≤ 4294967295) : 0 ≤ bits .xor .u32 a b ∧ bits .xor .u32 a b ≤ 4294967295:=by
 rw [u32_xor a b h1 (by omega) h3 (by omega)]
 have : a.toNat ^^^ b.toNat < 2 ^ 32:=Nat.xor_lt_two_pow (by omega) (by omega)
 omega
def crcBit (p c : Int) : Int:=if (bits .and .u32 c 1 == 1) = true then bits .xor .u32 (c / 2) p else c / 2
def crcN (p : Int) : Nat → Int → Int
 | 0, c => c
 | n + 1, c => crcBit p (crcN p n c)
def crcStep (p c : Int) (b : UInt8) : Int:=crcN p 8 (bits .xor .u32 c (b.toNat : Int))
def crcL (p : Int) (l : List UInt8) : Int:=l.foldl (crcStep p) 4294967295
def inv32 (x : Int) : Int:=bits .xor .u32 4294967295 x
/-- The sum of bytes. -/
def sumB (p : Int) (l : List UInt8) : Int:=inv32 (crcL p l)
theorem u8_in (b : UInt8) : (0 : Int) ≤ (b.toNat : Int) ∧ (b.toNat : Int) ≤ 255:=by have:=b.toNat_lt; omega
theorem crcBit_in (p c : Int) (p0 : 0 ≤ p) (p1 : p ≤ 4294967295) (h0 : 0 ≤ c) (h1 : c ≤ 4294967295) : 0 ≤ crcBit p c ∧ crcBit p c ≤ 4294967295:=by
 unfold crcBit
 split
 ·exact xor_in _ _ (by omega) (by omega) p0 p1
 ·omega
theorem crcN_in (p c : Int) (p0 : 0 ≤ p) (p1 : p ≤ 4294967295) (h0 : 0 ≤ c) (h1 : c ≤ 4294967295) : ∀ n, 0 ≤ crcN p n c ∧ crcN p n c ≤ 4294967295
 | 0 => ⟨h0, h1⟩
 | n + 1 => crcBit_in p _ p0 p1 (crcN_in p c p0 p1 h0 h1 n).1 (crcN_in p c p0 p1 h0 h1 n).2
theorem crc_in (p : Int) (p0 : 0 ≤ p) (p1 : p ≤ 4294967295) : ∀ (l : List UInt8) (h : Int), 0 ≤ h → h ≤ 4294967295 → 0 ≤ l.foldl (crcStep p) h ∧ l.foldl (crcStep p) h ≤ 4294967295
 | [], h, h0, h1 => ⟨h0, h1⟩
 | c :: l, h, h0, h1 => by
  have hc:=u8_in c
  have hx:=xor_in h c.toNat h0 h1 hc.1 (by omega)
  have:=crcN_in p (bits .xor .u32 h c.toNat) p0 p1 hx.1 hx.2 8
  exact crc_in p p0 p1 l (crcStep p h c) this.1 this.2
theorem crcBit_1 {p c : Int} (h : (bits .and .u32 c 1 == 1) = true) : crcBit p c = bits .xor .u32 (c / 2) p:=by unfold crcBit; rw [if_pos h]
theorem crcBit_0 {p c : Int} (h : (bits .and .u32 c 1 == 1) = false) : crcBit p c = c / 2:=by unfold crcBit; rw [h]; rfl
theorem sumB_in (p : Int) (p0 : 0 ≤ p) (p1 : p ≤ 4294967295) (l : List UInt8) : 0 ≤ sumB p l ∧ sumB p l ≤ 4294967295:=by
 have h:=crc_in p p0 p1 l 4294967295 (by omega) (by omega)
 exact xor_in _ _ (by omega) (by omega) h.1 h.2
theorem ret_int32 {k : IntKind} {a b : Int} (h : a = b) : Ending.returned (.int k a) = .returned (.int k b):=by rw [h]
theorem bytes_get {l : List UInt8} {k : Nat} {y : UInt8} (h : l[k]? = some y) : (Lib.byteCells l)[k]? = some (.int .u8 (y.toNat : Int)):=by simp [Lib.byteCells, h]
theorem update_any (pt : Nat) (p : Int) (A : Option Addr) (c : Nat) (key : List UInt8) (w : World) (p0 : 0 ≤ p) (p1 : p ≤ 4294967295) (hpt : w.cell? ⟨pt, 0, none⟩ = some (.int .u32 p)) (h : SlIs w 1 A key.length (Lib.byteCells key)) (hl : key.length ≤ 1000000) :
  Calls Tryz.prog 299 #[.int .u32 0, .pointer (some ⟨pt, 0, none⟩), .slice A key.length c] w fun e w' => e = .returned (.int .u32 (sumB p key)) ∧ w = w':=by
 have HSLI:=lh h
 clear h
 go_enter Tryz.func299, Tryz.ntmps299
 go_wp2
 go_loop [0, 13] (fun s i => ∃ k : Nat, k ≤ key.length ∧ i = .int .i64 k ∧ s = .int .u32 (crcL p (key.take k))) (fun _ i => key.length - (intOf i).toNat)
 case atStart => exact ⟨0, Nat.zero_le _, rfl, rfl⟩
 case round =>
  obtain ⟨k, hk, rfl, rfl⟩:=hrel
  obtain ⟨hx0, hx1⟩ : 0 ≤ crcL p (key.take k) ∧ crcL p (key.take k) ≤ 4294967295:=crc_in p p0 p1 _ _ (by omega) (by omega)
  by_cases hlt : k < key.length
  ·obtain ⟨b, off, rfl, hcc⟩:=HSLI.out.2.2 (by omega)
   obtain ⟨y, hy⟩ : ∃ y, key[k]? = some y:=⟨_, List.getElem?_eq_getElem hlt⟩
   have hcell : w.cell? ⟨b, off + k, none⟩ = some (.int .u8 (y.toNat : Int)):=hcc k _ (bytes_get hy)
   have HY:=lh (foldl_snoc (crcStep p) 4294967295 hy)
   obtain ⟨yn, hyn⟩ : ∃ yn : Int, (y.toNat : Int) = yn:=⟨_, rfl⟩
   have HYN:=lh hyn
   have hy01:=u8_in y
   rw [hyn] at hcell hy01
   obtain ⟨hy0, hy1⟩:=hy01
   have hxx:=xor_in (crcL p (key.take k)) yn hx0 hx1 hy0 (by omega)
   have hN:=fun n => crcN_in p _ p0 p1 hxx.1 hxx.2 n
   clear hcc hy hyn
   go_wp2
   go_loop [0, 21] (fun s i => ∃ n : Nat, n ≤ 8 ∧ i = .int .i64 n ∧ s = .int .u32 (crcN p n (bits .xor .u32 (crcL p (key.take k)) yn))) (fun _ i => 8 - (intOf i).toNat)
   case atStart => exact ⟨0, by omega, rfl, rfl⟩
   case round =>
    obtain ⟨n, hn, rfl, rfl⟩:=hrel
    obtain ⟨hn0, hn1⟩:=hN n
    clear hN
    by_cases hn8 : n < 8
    ·go_wp2
     ·have hb1 : (bits .and .u32 (crcN p n (bits .xor .u32 (crcL p (key.take k)) yn)) 1 == 1) = true:=by assumption
      go_round
      case rel => exact ⟨n + 1, by omega, by go_num, by rw [crcN, crcBit_1 hb1]⟩
      case measure => simp [intOf]; omega
     ·have hb1 : (bits .and .u32 (crcN p n (bits .xor .u32 (crcL p (key.take k)) yn)) 1 == 1) = false:=by assumption
      go_round
      case rel => exact ⟨n + 1, by omega, by go_num, by rw [crcN, crcBit_0 hb1]⟩
      case measure => simp [intOf]; omega
    ·obtain rfl : n = 8:=by omega
     go_wp2
     go_round
     case rel => exact ⟨k + 1, by omega, by go_num, by rw [show crcL p (key.take (k + 1)) = _ from HY.out, crcStep, HYN.out]; rfl⟩
     case measure => simp [intOf]; omega
  ·go_wp2
   go_ret
   exact ⟨ret_int32 (by rw [List.take_of_length_le (by omega)]; rfl), rfl⟩
theorem checksum_any (pt : Nat) (p : Int) (A : Option Addr) (c : Nat) (key : List UInt8) (w : World) (p0 : 0 ≤ p) (p1 : p ≤ 4294967295) (hpt : w.cell? ⟨pt, 0, none⟩ = some (.int .u32 p)) (h : SlIs w 1 A key.length (Lib.byteCells key)) (hl : key.length ≤ 1000000) :
  Calls Tryz.prog 298 #[.slice A key.length c, .pointer (some ⟨pt, 0, none⟩)] w fun e w' => e = .returned (.int .u32 (sumB p key)) ∧ w = w':=by
 have HU:=lh (update_any pt p A c key w p0 p1 hpt h hl)
 clear h hpt
 go_enter Tryz.func298, Tryz.ntmps298
 go_wp2_with ((with_reducible refine HU.out.mono ?_); rintro e w1 ⟨rfl, rfl⟩)
 go_ret
 exact ⟨rfl, rfl⟩
theorem maketable_any (p : Int) (w : World) : Calls Tryz.prog 297 #[.int .u32 p] w (fun e w' => ∃ t, e = .returned (.pointer (some ⟨t, 0, none⟩)) ∧ w'.cell? ⟨t, 0, none⟩ = some (.int .u32 p) ∧ Kept [] w w'):=by
 go_enter Tryz.func297, Tryz.ntmps297
 go_wp2
 go_ret
 exact ⟨_, rfl, by simp, (Kept.refl [] w).alloc _⟩
/-- A sum's field. -/
def SumAt (g s : Nat) (pol : Int) (w : World) : Prop:=w.heap[g]? = some (.cells #[.int .i64 s, .int .i8 pol] 307 (0, 0))
theorem SumAt.cell0 {g s : Nat} {pol : Int} {w : World} (h : SumAt g s pol w) : w.cell? ⟨g, 0, none⟩ = some (.int .i64 s):=by
 unfold SumAt at h
 simp [World.cell?, h]
theorem SumAt.cell1 {g s : Nat} {pol : Int} {w : World} (h : SumAt g s pol w) : w.cell? ⟨g, 1, none⟩ = some (.int .i8 pol):=by
 unfold SumAt at h
 simp [World.cell?, h]
theorem SumAt.frozen {g s o : Nat} {pol : Int} {w : World} (h : SumAt g s pol w) : w.frozen? ⟨g, o, none⟩ = false:=by
 unfold SumAt at h
 simp [World.frozen?, h]
theorem SumAt.keep {g s : Nat} {pol : Int} {S : List Nat} {w w' : World} (h : SumAt g s pol w) (k : Kept S w w') (hg : g ∉ S) : SumAt g s pol w':=k.heap h hg
theorem newCrc (pol : Int) (w : World) : Calls Tryz.prog 130 #[.int .i8 pol] w (fun e w' => ∃ g, e = .returned (.pointer (some ⟨g, 0, none⟩)) ∧ SumAt g 0 pol w' ∧ w.heap.size ≤ g ∧ g < w'.heap.size ∧ Kept [] w w'):=by
 go_enter Tryz.func130, Tryz.ntmps130
 go_wp2
 go_ret
 exact ⟨_, rfl, heap_alloc_new w _, Nat.le_refl _, by rw [alloc_size]; omega, (Kept.refl [] w).alloc _⟩
theorem crc_save (g s x : Nat) (pol : Int) (w : World) (h : SumAt g s pol w) : Calls Tryz.prog 295 #[.pointer (some ⟨g, 0, none⟩), .int .i64 x] w (fun e w' => e = .returned (.tuple #[]) ∧ SumAt g x pol w' ∧ Kept [g] w w'):=by
 have HF:=lh h
 have h6:=h.cell0
 have h6f:=h.frozen (o:=0)
 clear h
 go_enter Tryz.func295, Tryz.ntmps295
 go_wp2
 refine bodyPost_end (results_none rfl _ _ _) rfl ⟨rfl, ?_, kept_set g 0 _ _⟩
 unfold SumAt
 rw [heap_setCell_same _ _ _ _ _ _ HF.out]
 rfl
theorem crc_reserve (g : Nat) (w : World) : Calls Tryz.prog 293 #[.pointer (some ⟨g, 0, none⟩)] w (fun e w' => e = .returned (.int .i64 4) ∧ Kept [] w w'):=by
 go_enter Tryz.func293, Tryz.ntmps293
 go_wp2
 go_ret
 exact ⟨rfl, Kept.refl _ _⟩
theorem crc_ieee (g s b off N cc cur : Nat) (l : List UInt8) (w : World) (h : SumAt g s 0 w) (hs : s + 4 ≤ cur) (hc : cur ≤ cc) (hc2 : s + 4 < cc) (hl : l.length = cur - (s + 4)) (hsm : cur ≤ 1000000) (hsl : SlIs w 1 (some ⟨b, off + (s + 4), none⟩) l.length (Lib.byteCells l)) : Calls Tryz.prog 296 #[.pointer (some ⟨g, 0, none⟩), .int .i64 cur, .slice (some ⟨b, off, none⟩) N cc] w (fun e w' => e = .returned (.tuple #[.int .u32 (sumB 3988292384 l), .nilIface]) ∧ Kept [] w w'):=by
 have hc0:=h.cell0
 have hc1:=h.cell1
 have HSL:=lh hsl
 have HL:=lh hl
 have hw4 : IntKind.i64.wrap ((s : Int) + 4) = ((s + 4 : Nat) : Int):=by rw [IntWalk.i64_in _ (by omega)]; omega
 have HSM : Hid (l.length ≤ 1000000):=lh (by omega)
 have HSM0:=hsm
 have HHS:=lh h
 clear h hsl hl
 have HC2 : Hid (s + 4 < cc):=lh hc2
 have HC1:=lh hc1
 clear hw4 hc0 HSM0
 go_enter Tryz.func296, Tryz.ntmps296
 go_wp2_with (first
  | ((with_reducible refine (maketable_any 3988292384 w).mono ?_); rintro e w1 ⟨t, rfl, ht, hk1⟩; have hc0:=(HHS.out.keep hk1 (by simp)).cell0; have HT:=lh ht; have HK1:=lh hk1; clear ht hk1)
  | (rw [← HL.out]; (with_reducible refine (checksum_any t 3988292384 _ _ l w1 (by omega) (by omega) HT.out (HSL.out.kept0 HK1.out) HSM.out).mono ?_); rintro e w2 ⟨rfl, rfl⟩))
 exact bodyPost_ret (results_tmp2 rfl _ _ _) rfl ⟨rfl, HK1.out⟩
def crrF (g r N : Nat) (x : Int) (ix : Nat) (v : Value) (_ : World) : Prop :=
 match ix with
 | 0 => v = .agg #[]
 | 1 => v = .slice (some ⟨r, 0, none⟩) N N
 | 2 => v = .pointer (some ⟨g, 0, none⟩)
 | 3 => v = .pointer (some ⟨g, 0, none⟩)
 | 4 => v = .pointer (some ⟨g, 0, none⟩)
 | 5 => v = .int .i64 0
 | 6 => v = .slice (some ⟨r, 0, none⟩) N N
 | 7 => v = .int .u32 x
 | _ => True
theorem crrF_stable {g r N x} : ∀ ix v w w', crrF g r N x ix v w → Kept [] w w' → crrF g r N x ix v w':=by
 intro ix v w w' h k
 unfold crrF at h ⊢
 split at h <;> (first | (exact h))
theorem Raw.setAt {r N j : Nat} {c : UInt8} {k : List UInt8} {w : World} (h : Raw r N k w) (hj : j < k.length) : Raw r N (k.set j c) (w.setCell ⟨r, j, none⟩ (.int .u8 (c.toNat : Int))):=by
 obtain ⟨A, h1, h2, h3, h4⟩:=h
 refine ⟨A.setIfInBounds j (.int .u8 (c.toNat : Int)), heap_setCell_same _ _ _ _ _ _ h1, by simp [h2], by simp; omega, fun i x hi => ?_⟩
 rw [Array.getElem?_setIfInBounds]
 rw [List.getElem?_set] at hi
 by_cases e : j = i
 ·subst e
  rw [if_pos rfl, if_pos hj] at hi
  cases hi
  rw [if_pos rfl, if_pos (by omega)]
 ·rw [if_neg e] at hi ⊢
  exact h4 i x hi
theorem big4 (x : Int) : ∃ a b c d, big 4 x = [a, b, c, d]:=by
 have h:=big_len 4 x
 match big 4 x, h with
 | [a, b, c, d], _ => exact ⟨a, b, c, d, rfl⟩
/-- Four bytes are written over the first ones. -/
theorem put4_over {r N : Nat} {z0 z1 z2 z3 : UInt8} {l : List UInt8} {W : World} (h : Raw r N (z0 :: z1 :: z2 :: z3 :: l) W) (x : Int) (hx0 : 0 ≤ x) (hx1 : x ≤ 4294967295) : Calls Tryz.prog 263 #[.agg #[], .slice (some ⟨r, 0, none⟩) N N, .int .u32 x] W fun e w' => e = .returned (.tuple #[]) ∧ Raw r N (big 4 x ++ l) w' ∧ Kept [r] W w':=by
 have hN:=h.le
 simp only [List.length_cons] at hN
 obtain ⟨xs, hxs⟩ : ∃ xs : Nat → Value, ∀ i, i < 4 → W.cell? ⟨r, 0 + i, none⟩ = some (xs i):=⟨fun i => (W.cell? ⟨r, 0 + i, none⟩).getD .nilIface, fun i hi => by
  obtain ⟨x, hx⟩:=h.isCell (j:=0 + i) (by omega)
  show _ = some (Option.getD _ _)
  rw [hx]
  rfl⟩
 have hfr : ∀ i, W.frozen? ⟨r, 0 + i, none⟩ = false:=fun i => h.frozen
 have hu : u64 x = x.toNat:=by unfold u64; omega
 have hxe : x = ((u64 x : Nat) : Int):=by rw [hu]; omega
 have h1:=(Tryz.binary_BE_PutUint32 r 0 N N (u64 x) (by rw [hu]; omega) (xs 0) (xs 1) (xs 2) (xs 3) W (by omega) (hxs 0 (by omega)) (hxs 1 (by omega)) (hxs 2 (by omega)) (hxs 3 (by omega)) (hfr 0) (hfr 1) (hfr 2) (hfr 3))
 rw [← hxe] at h1
 refine h1.mono ?_
 rintro e w' ⟨rfl, rfl⟩
 have hbb : Lib.beBytes 4 (u64 x) = big 4 x:=by
  have h2:=beBytes_mod 4 (u64 x)
  rw [Nat.mod_eq_of_lt (by rw [hu]; omega)] at h2
  exact h2
 rw [hbb]
 refine ⟨rfl, ?_, (((Kept.refl [] W).alloc _).mono (by simp)).trans (kept_setCells _ _ _ _) (fun x hx => .inl hx)⟩
 obtain ⟨a, b, c, d, he⟩:=big4 x
 rw [he]
 have h3:=(((((h.keep ((Kept.refl [] W).alloc (.cells #[] 315)) (by simp)).setAt (j:=0) (c:=a) (by simp)).setAt (j:=1) (c:=b) (by simp)).setAt (j:=2) (c:=c) (by simp)).setAt (j:=3) (c:=d) (by simp))
 simpa [Lib.byteCells, World.setCells] using h3
theorem crc_run (g r N : Nat) (z0 z1 z2 z3 : UInt8) (l : List UInt8) (w : World) (hN : N = 4 + l.length) (hl0 : 0 < l.length) (hlm : l.length ≤ 100000) (h : SumAt g 0 0 w) (hr : Raw r N (z0 :: z1 :: z2 :: z3 :: l) w) : Calls Tryz.prog 294 #[.pointer (some ⟨g, 0, none⟩), .int .i64 N, .slice (some ⟨r, 0, none⟩) N N] w (fun e w' => e = .returned .nilIface ∧ Raw r N (big 4 (sumB 3988292384 l) ++ l) w' ∧ Kept [r] w w'):=by
 have HF:=lh h
 have hsl : SlIs w 1 (some ⟨r, 0 + (0 + 4), none⟩) l.length (Lib.byteCells l):=by
  refine ⟨by rw [Lib.byteCells_length, Nat.mul_one], by omega, fun _ => ⟨r, 0 + (0 + 4), rfl, fun i v hv => ?_⟩⟩
  simp only [Lib.byteCells, List.getElem?_map, Option.map_eq_some_iff] at hv
  obtain ⟨x, hx, rfl⟩:=hv
  have h2:=hr.get (j:=4 + i) (b:=x) (by rw [show 4 + i = i + 1 + 1 + 1 + 1 by omega]; simpa using hx)
  simpa using h2
 have HC:=lh (crc_ieee g 0 r 0 N N N l w h (by omega) (by omega) (by omega) (by omega) (by omega) hsl)
 have HRW:=lh hr
 have HCUT : Hid (∀ W : World, (Instr.sliceAt 34 (.slice (some ⟨r, 0, none⟩) N N) (some (.int .i64 0)) none none).run Tryz.prog W = .ok (.slice (some ⟨r, 0, none⟩) N N) W):=lh fun W => by
  have h2:=raw_from_lt W r 0 N (by omega)
  simpa using h2
 have hx:=sumB_in 3988292384 (by omega) (by omega) l
 obtain ⟨x, hxx⟩ : ∃ x, sumB 3988292384 l = x:=⟨_, rfl⟩
 rw [hxx] at HC hx ⊢
 have HX:=lh hx
 clear h hr hsl hx hxx hN hl0 hlm
 go_enter Tryz.func294, Tryz.ntmps294
 go_wp2_with ((with_reducible refine HC.out.mono ?_); rintro e w1 ⟨rfl, hk1⟩; have HK1:=lh hk1; have HF1:=lh (HF.out.keep hk1 (by simp)); clear hk1)
 clear HF
 have HF:=HF1
 refine wp_region_facts' 8 (Kept []) (crrF g r N x) mixed (by kernel_rfl) (Kept.refl _ _).drew (fun _ _ _ h k => h.trans k (fun x hx => .inl hx)) crrF_stable ?_ ?_
 ·refine ⟨?_, ?_, ?_, ?_, ?_, ?_, ?_, ?_, trivial⟩
  all_goals go_light
  all_goals intro a W hR hs hd
  all_goals have p0 : a.tmps[0]? = some (.pointer (some ⟨g, 0, none⟩)):=hs.2.2 0 (by decide)
  all_goals have p2 : a.tmps[2]? = some (.slice (some ⟨r, 0, none⟩) N N):=hs.2.2 2 (by decide)
  all_goals have p7 : a.tmps[7]? = some (.int .u32 x):=hs.2.2 7 (by decide)
  all_goals have hRr : Kept [] W W:=Kept.refl _ _
  all_goals have m_g_0 : W.cell? ⟨g, 0, none⟩ = some (.int .i64 0):=hR.cell (HF.out.cell0) (by simp)
  all_goals have hcut:=HCUT.out W
  ·refine ov W (.agg #[]) ?_ (.mk hRr rfl rfl)
   simp [go_sem]
  ·refine ov W (.slice (some ⟨r, 0, none⟩) N N) ?_ (.mk hRr rfl rfl)
   simp [go_sem, p2]
  ·refine ov W (.pointer (some ⟨g, 0, none⟩)) ?_ (.mk hRr rfl rfl)
   simp [go_sem, p0]
  ·have q2 : _ = _:=hd.1 rfl
   refine ov W (.pointer (some ⟨g, 0, none⟩)) ?_ (.mk hRr rfl rfl)
   simp [go_sem, q2]
  ·have q3 : _ = _:=hd.1 rfl
   refine ov W (.pointer (some ⟨g, 0, none⟩)) ?_ (.mk hRr rfl rfl)
   simp [go_sem, q3]
  ·have q4 : _ = _:=hd.1 rfl
   refine ov W (.int .i64 0) ?_ (.mk hRr rfl rfl)
   simp [go_sem, q4, m_g_0]
  ·have q1 : _ = _:=hd.1 rfl
   have q5 : _ = _:=hd.2.1 rfl
   refine ov W (.slice (some ⟨r, 0, none⟩) N N) ?_ (.mk hRr rfl rfl)
   simp [go_sem, q1, q5, hcut]
  ·refine ov W (.int .u32 x) ?_ (.mk hRr rfl rfl)
   simp [go_sem, p7]
 ·intro f W2 hR hf
  obtain ⟨f0, f1, f2, f3, f4, f5, f6, f7, -⟩:=hf
  change f 19 = _ at f0
  change f 20 = _ at f1
  change f 21 = _ at f2
  change f 22 = _ at f3
  change f 23 = _ at f4
  change f 24 = _ at f5
  change f 25 = _ at f6
  change f 26 = _ at f7
  simp only [headDsts, List.take_succ_cons, List.take_zero, List.filterMap_cons, List.filterMap_nil, setAll, f0, f1, f2, f3, f4, f5, f6, f7, List.setIfInBounds_toArray, List.set_cons_succ, List.set_cons_zero, List.drop_succ_cons, List.drop_zero]
  clear f0 f1 f2 f3 f4 f5 f6 f7 f
  have HK2:=lh (HK1.out.trans0 hR)
  clear hR
  go_wp2_with ((with_reducible refine (put4_over (HRW.out.keep HK2.out (by simp)) x HX.out.1 HX.out.2).mono ?_); rintro e w3 ⟨rfl, hr3, hk3⟩; have HR3:=lh hr3; have HK3:=lh hk3; clear hr3 hk3)
  go_ret
  exact ⟨rfl, HR3.out, (HK2.out.mono (by simp)).trans HK3.out (fun x hx => .inl hx)⟩
end Go.Proofs.YtmpjikihnmagoaaGreatDoor
/-
 A field is pushed on an encoder and popped again, for the counting and the writing one, for a length and for a sum. Conditions: an empty stack.
-/
namespace Go.Proofs.YtmpjikihnmagoaaGreatDoor
open Go.RowKit
/-- A field is pushed, then popped; between them so much is written. -/
def PushPop (T : TypeId) (v f : Value) (G : World → Prop) (g : Nat) (S : List Nat) (k0 total : List UInt8) (Q : World → Prop) (w : World) : Prop :=
 Inv T v "push" [f] w (fun e w1 => e = .returned (.tuple #[]) ∧ G w1 ∧ Kept (g :: S) w w1 ∧ ∃ At cap, total.length ≤ cap ∧ Enc T v false At S cap ∧ At k0 w1 ∧ ∀ W, Kept S w1 W → At total W → Inv T v "pop" [] W (fun e w2 => e = .returned .nilIface ∧ Q w2 ∧ Kept (g :: S) W w2))
/-- The same; between them the block mg may be written too. -/
def PushPopM (T : TypeId) (v f : Value) (G : World → Prop) (g : Nat) (S : List Nat) (mg : Nat) (k0 total : List UInt8) (Q : World → Prop) (w : World) : Prop :=
 Inv T v "push" [f] w (fun e w1 => e = .returned (.tuple #[]) ∧ G w1 ∧ Kept (g :: S) w w1 ∧ ∃ At cap, total.length ≤ cap ∧ Enc T v false At S cap ∧ (∀ k W W', At k W → Kept [mg] W W' → At k W') ∧ At k0 w1 ∧ ∀ W, Kept (mg :: S) w1 W → At total W → Inv T v "pop" [] W (fun e w2 => e = .returned .nilIface ∧ Q w2 ∧ Kept (g :: S) W w2))
theorem Inv.na {T : TypeId} {v : Value} {name : String} {args : List Value} {w : World} {post : Ending → World → Prop} (h : Inv T v name args w post) : (nilAhead 483 T v ("pub-kestrel/pub/sarama." ++ name)).run Tryz.prog w = .ok (some false) w:=by
 obtain ⟨_, _, _, _, h9, _⟩:=h
 exact h9
theorem fc_save (a : Addr) (w : World) : (Go.method 483 296 (.pointer (some a)) "pub-kestrel/pub/sarama.saveOffset").run Tryz.prog w = .ok (295, .pointer (some a)) w:=by kernel_rfl
theorem fca_save (a : Addr) (w : World) : (nilAhead 483 296 (.pointer (some a)) "pub-kestrel/pub/sarama.saveOffset").run Tryz.prog w = .ok (some false) w:=by kernel_rfl
theorem fc_res (a : Addr) (w : World) : (Go.method 483 296 (.pointer (some a)) "pub-kestrel/pub/sarama.reserveLength").run Tryz.prog w = .ok (293, .pointer (some a)) w:=by kernel_rfl
theorem fca_res (a : Addr) (w : World) : (nilAhead 483 296 (.pointer (some a)) "pub-kestrel/pub/sarama.reserveLength").run Tryz.prog w = .ok (some false) w:=by kernel_rfl
theorem fc_run (a : Addr) (w : World) : (Go.method 483 296 (.pointer (some a)) "pub-kestrel/pub/sarama.run").run Tryz.prog w = .ok (294, .pointer (some a)) w:=by kernel_rfl
theorem fca_run (a : Addr) (w : World) : (nilAhead 483 296 (.pointer (some a)) "pub-kestrel/pub/sarama.run").run Tryz.prog w = .ok (some false) w:=by kernel_rfl
section
variable {g : Nat} {h at_ td od ky vl : Value} {s n : Int} {w w' : World}
/-- The counting encoder, a length's field. -/
theorem pp_prep_vl (p : Nat) (total : List UInt8) (ht : total.length = 8) (hp : w.heap[p]? = some (.cells #[.slice none 0 0, .int .i64 0] 163 (0, 0))) (hgp : g ≠ p) (hf : FieldAt g h at_ td od ky vl s 0 w) :
  PushPop 160 (.pointer (some ⟨p, 0, none⟩)) (.iface 312 (.pointer (some ⟨g, 6, none⟩))) (FieldAt g h at_ td od ky vl 0 0) g [p] [0] total (fun W => FieldAt g h at_ td od ky vl 0 7 W ∧ ∃ st, PrepAt p st 8 W) w:=by
 have hpl : p < w.heap.size:=(Array.getElem?_eq_some_iff.1 hp).1
 refine ⟨_, _, (by kernel_rfl), fp_push _ w, fpa_push _ w, (prep_push p 312 (.pointer (some ⟨g, 6, none⟩)) (FieldAt g h at_ td od ky vl 0 0) g 1 w hp hgp (by omega) (fun W hk => ⟨_, _, (by kernel_rfl), fv_saveOffset _ W, fva_saveOffset _ W, vl_save g h at_ td od ky vl s 0 0 W (hf.keep hk (by simp))⟩) (fun W hW => ⟨_, _, (by kernel_rfl), fv_reserveLength _ W, fva_reserveLength _ W, by
   have h1:=vl_reserve g h at_ td od ky vl 0 0 W hW (by omega) (by omega)
   rw [uv0] at h1
   exact h1⟩) (fun W W' hW hk => hW.keep hk (by simpa using hgp))).mono ?_⟩
 rintro e w1 ⟨rfl, y, c, h1, h2, h3, h4, h5, h6⟩
 refine ⟨rfl, h5, h6, PAt p (.slice (some ⟨y, 0, none⟩) 1 c), 100000, by omega, enc_prep p _, h1, fun W hk hW => ?_⟩
 have hW' : W.heap[p]? = some (.cells #[.slice (some ⟨y, 0, none⟩) 1 c, .int .i64 8] 163 (0, 0)):=by
  have h7 : PrepAt p (.slice (some ⟨y, 0, none⟩) 1 c) total.length W:=hW
  rw [ht] at h7
  exact h7
 have hy2:=h2.kept hk (fun a ha => by cases ha; simp; omega)
 refine ⟨_, _, (by kernel_rfl), fp_pop _ W, fpa_pop _ W, (prep_pop_vl p y c g h at_ td od ky vl W hW' hy2 hgp (h5.keep hk (by simpa using hgp))).mono ?_⟩
 rintro e w2 ⟨rfl, h8, h9, h10⟩
 exact ⟨rfl, ⟨h9, _, h8⟩, h10⟩
/-- The writing encoder, a length's field. -/
theorem pp_real_vl (p r : Nat) (rest : List UInt8) (ht : rest.length = 7) (hp : w.heap[p]? = some (.cells #[.slice (some ⟨r, 0, none⟩) 8 8, .int .i64 0, .slice none 0 0] 174 (0, 0))) (hr : Raw r 8 [0] w) (hpr : p ≠ r) (hgp : g ≠ p) (hgr : g ≠ r) (hf : FieldAt g h at_ td od ky vl s 7 w) :
  PushPop 172 (.pointer (some ⟨p, 0, none⟩)) (.iface 312 (.pointer (some ⟨g, 6, none⟩))) (FieldAt g h at_ td od ky vl 0 7) g [p, r] [0] (0 :: rest) (fun W => Raw r 8 (14 :: rest) W ∧ ∃ k st, W.heap[p]? = some (.cells #[.slice (some ⟨r, 0, none⟩) 8 8, k, st] 174 (0, 0))) w:=by
 have hpl : p < w.heap.size:=(Array.getElem?_eq_some_iff.1 hp).1
 have hrl : r < w.heap.size:=by
  obtain ⟨A, h1, -⟩:=hr
  exact (Array.getElem?_eq_some_iff.1 h1).1
 refine ⟨_, _, (by kernel_rfl), fr_push _ w, fra_push _ w, (real_push p (.slice (some ⟨r, 0, none⟩) 8 8) 312 (.pointer (some ⟨g, 6, none⟩)) (FieldAt g h at_ td od ky vl 0 7) g 1 w hp hgp (by omega) (fun W hk => ⟨_, _, (by kernel_rfl), fv_saveOffset _ W, fva_saveOffset _ W, vl_save g h at_ td od ky vl s 7 0 W (hf.keep hk (by simp))⟩) (fun W hW => ⟨_, _, (by kernel_rfl), fv_reserveLength _ W, fva_reserveLength _ W, by
   have h1:=vl_reserve g h at_ td od ky vl 0 7 W hW (by omega) (by omega)
   rw [uv7] at h1
   exact h1⟩) (fun W W' hW hk => hW.keep hk (by simpa using hgp))).mono ?_⟩
 rintro e w1 ⟨rfl, y, c, h1, h2, h3, h4, h5, h6⟩
 refine ⟨rfl, h5, h6.mono (by simp), RealAt p r 8 (.slice (some ⟨y, 0, none⟩) 1 c), 8, by simp [ht], enc_real p r 8 _ (by omega), ⟨h1, hr.keep h6 (by simp; exact ⟨Ne.symm hgr, Ne.symm hpr⟩), hpr⟩, fun W hk hW => ?_⟩
 obtain ⟨hW1, hW2, -⟩:=hW
 rw [show (0 :: rest : List UInt8).length = 8 by simp [ht]] at hW1
 have hy2:=h2.kept hk (fun a ha => by cases ha; simp; omega)
 have hf2:=h5.keep hk (by simp; exact ⟨hgp, hgr⟩)
 refine ⟨_, _, (by kernel_rfl), fr_pop _ W, fra_pop _ W, (real_pop p y c r 8 8 312 (.pointer (some ⟨g, 6, none⟩)) (Raw r 8 (14 :: rest)) [r] W hW1 hy2 (fun W2 hk2 => ⟨_, _, (by kernel_rfl), fv_run _ W2, fva_run _ W2, vl_run g r h at_ td od ky vl 0 rest W2 (hf2.keep hk2 (by simpa using hgp)) (hW2.keep hk2 (by simpa using Ne.symm hpr))⟩)).mono ?_⟩
 rintro e w2 ⟨rfl, h8, W3, h9, h10, h11⟩
 exact ⟨rfl, ⟨h8, _, _, h11.heap h9 (by simpa using hpr)⟩, (h10.mono (T:=[g, p, r]) (by simp)).trans (h11.mono (by simp)) (fun x hx => .inl hx)⟩
/-- The counting encoder, a sum's field. -/
theorem pp_prep_crc (p n mg : Nat) (hmp : mg ≠ p) (hml : mg < w.heap.size) (_hmg : mg ≠ g) (total : List UInt8) (ht : total.length = n) (hp : w.heap[p]? = some (.cells #[.slice none 0 0, .int .i64 0] 163 (0, 0))) (hgp : g ≠ p) (hn : n ≤ 100000) (hf : SumAt g 0 0 w) :
  PushPopM 160 (.pointer (some ⟨p, 0, none⟩)) (.iface 296 (.pointer (some ⟨g, 0, none⟩))) (SumAt g 0 0) g [p] mg [0, 0, 0, 0] total (fun W => ∃ st, PrepAt p st n W) w:=by
 have hpl : p < w.heap.size:=(Array.getElem?_eq_some_iff.1 hp).1
 refine ⟨_, _, (by kernel_rfl), fp_push _ w, fpa_push _ w, (prep_push p 296 (.pointer (some ⟨g, 0, none⟩)) (SumAt g 0 0) g 4 w hp hgp (by omega) (fun W hk => ⟨_, _, (by kernel_rfl), fc_save _ W, fca_save _ W, crc_save g 0 0 0 W (hf.keep hk (by simp))⟩) (fun W hW => ⟨_, _, (by kernel_rfl), fc_res _ W, fca_res _ W, crc_reserve g W⟩) (fun W W' hW hk => hW.keep hk (by simpa using hgp))).mono ?_⟩
 rintro e w1 ⟨rfl, y, c, h1, h2, h3, h4, h5, h6⟩
 refine ⟨rfl, h5, h6, PAt p (.slice (some ⟨y, 0, none⟩) 1 c), 100000, by omega, enc_prep p _, (fun k W W' hW hk => PrepAt.keep hW hk (by simpa using hmp.symm)), h1, fun W hk hW => ?_⟩
 have hW' : W.heap[p]? = some (.cells #[.slice (some ⟨y, 0, none⟩) 1 c, .int .i64 n] 163 (0, 0)):=by
  have h7 : PrepAt p (.slice (some ⟨y, 0, none⟩) 1 c) total.length W:=hW
  rw [ht] at h7
  exact h7
 have hy2:=h2.kept hk (fun a ha => by cases ha; simp only [List.mem_cons, List.not_mem_nil, or_false, not_or]; omega)
 refine ⟨_, _, (by kernel_rfl), fp_pop _ W, fpa_pop _ W, (prep_pop_crc p y c n (.pointer (some ⟨g, 0, none⟩)) W hW' hy2).mono ?_⟩
 rintro e w2 ⟨rfl, h8, h10⟩
 exact ⟨rfl, ⟨_, h8⟩, h10.mono (by simp)⟩
/-- The writing encoder, a sum's field. -/
theorem pp_real_crc (p r N mg : Nat) (hmp : mg ≠ p) (hmr : mg ≠ r) (hml : mg < w.heap.size) (hmg : mg ≠ g) (rest : List UInt8) (ht : N = 4 + rest.length) (hr0 : 0 < rest.length) (hrm : rest.length ≤ 90000) (hp : w.heap[p]? = some (.cells #[.slice (some ⟨r, 0, none⟩) N N, .int .i64 0, .slice none 0 0] 174 (0, 0))) (hr : Raw r N [0, 0, 0, 0] w) (hpr : p ≠ r) (hgp : g ≠ p) (hgr : g ≠ r) (hf : SumAt g 0 0 w) :
  PushPopM 172 (.pointer (some ⟨p, 0, none⟩)) (.iface 296 (.pointer (some ⟨g, 0, none⟩))) (SumAt g 0 0) g [p, r] mg [0, 0, 0, 0] (0 :: 0 :: 0 :: 0 :: rest) (fun W => Raw r N (big 4 (sumB 3988292384 rest) ++ rest) W ∧ ∃ k st, W.heap[p]? = some (.cells #[.slice (some ⟨r, 0, none⟩) N N, k, st] 174 (0, 0))) w:=by
 have hpl : p < w.heap.size:=(Array.getElem?_eq_some_iff.1 hp).1
 have hrl : r < w.heap.size:=by
  obtain ⟨A, h1, -⟩:=hr
  exact (Array.getElem?_eq_some_iff.1 h1).1
 refine ⟨_, _, (by kernel_rfl), fr_push _ w, fra_push _ w, (real_push p (.slice (some ⟨r, 0, none⟩) N N) 296 (.pointer (some ⟨g, 0, none⟩)) (SumAt g 0 0) g 4 w hp hgp (by omega) (fun W hk => ⟨_, _, (by kernel_rfl), fc_save _ W, fca_save _ W, crc_save g 0 0 0 W (hf.keep hk (by simp))⟩) (fun W hW => ⟨_, _, (by kernel_rfl), fc_res _ W, fca_res _ W, crc_reserve g W⟩) (fun W W' hW hk => hW.keep hk (by simpa using hgp))).mono ?_⟩
 rintro e w1 ⟨rfl, y, c, h1, h2, h3, h4, h5, h6⟩
 refine ⟨rfl, h5, h6.mono (by simp), RealAt p r N (.slice (some ⟨y, 0, none⟩) 1 c), N, by simp; omega, enc_real p r N _ (by omega), (fun k W W' hW hk => RealAt.keep hW hk (by simpa using hmp.symm) (by simpa using hmr.symm)), ⟨h1, hr.keep h6 (by simp; exact ⟨Ne.symm hgr, Ne.symm hpr⟩), hpr⟩, fun W hk hW => ?_⟩
 obtain ⟨hW1, hW2, -⟩:=hW
 rw [show (0 :: 0 :: 0 :: 0 :: rest : List UInt8).length = N by simp; omega] at hW1
 have hy2:=h2.kept hk (fun a ha => by cases ha; simp only [List.mem_cons, List.not_mem_nil, or_false, not_or]; omega)
 have hf2:=h5.keep hk (by simp; exact ⟨hmg.symm, hgp, hgr⟩)
 refine ⟨_, _, (by kernel_rfl), fr_pop _ W, fra_pop _ W, (real_pop p y c r N N 296 (.pointer (some ⟨g, 0, none⟩)) (Raw r N (big 4 (sumB 3988292384 rest) ++ rest)) [r] W hW1 hy2 (fun W2 hk2 => ⟨_, _, (by kernel_rfl), fc_run _ W2, fca_run _ W2, crc_run g r N 0 0 0 0 rest W2 ht hr0 (by omega) (hf2.keep hk2 (by simpa using hgp)) (hW2.keep hk2 (by simpa using Ne.symm hpr))⟩)).mono ?_⟩
 rintro e w2 ⟨rfl, h8, W3, h9, h10, h11⟩
 exact ⟨rfl, ⟨h8, _, _, h11.heap h9 (by simpa using hpr)⟩, (h10.mono (T:=[g, p, r]) (by simp)).trans (h11.mono (by simp)) (fun x hx => .inl hx)⟩
end
end Go.Proofs.YtmpjikihnmagoaaGreatDoor
