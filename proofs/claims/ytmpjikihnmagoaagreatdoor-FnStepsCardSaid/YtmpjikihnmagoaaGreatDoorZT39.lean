/-
  The specification's numbers: Big (37), Uvarint (73), Varint (68), length (74). Conditions: numbers of 64 bits.
-/
import Derived.Test.YtmpjikihnmagoaaGreatDoorZT37
import Derived.Laws.Bits64
import Derived.Lib.AppendStr
set_option maxRecDepth 100000
set_option maxHeartbeats 3200000
namespace Go.Proofs.YtmpjikihnmagoaaGreatDoor
open Go.RowKit
/-- Bytes of the call's own are returned. -/
def BytesR (f : List UInt8) (n : Nat) (w : World) (e : Ending) (w' : World) : Prop:=∃ v, e = .returned v ∧ w'.ownsRow w.heap.size 5 1 v n (Lib.byteCells f) ∧ Kept [] w w'
theorem byte_shift {x : Int} (_hx : Num64 x) {i : Nat} (hi : i ≤ 7) : x / 2 ^ (8 * i) % 256 = (((u64 x / 256 ^ i % 256).toUInt8.toNat : Nat) : Int):=by
 have h1 : ((u64 x / 256 ^ i % 256).toUInt8.toNat : Nat) = u64 x / 256 ^ i % 256:=by
  show (u64 x / 256 ^ i % 256) % 256 = _
  exact Nat.mod_mod _ _
 rw [h1]
 unfold u64 Num64 at *
 rcases (by omega : i = 0 ∨ i = 1 ∨ i = 2 ∨ i = 3 ∨ i = 4 ∨ i = 5 ∨ i = 6 ∨ i = 7) with rfl | rfl | rfl | rfl | rfl | rfl | rfl | rfl <;> simp only [Nat.mul_zero, Nat.mul_one, Nat.reduceMul, Int.reducePow, Nat.reducePow, Int.pow_zero, Nat.pow_zero, Int.ediv_one, Nat.div_one] <;> omega
theorem cells_snoc (k : List UInt8) (b : UInt8) : Lib.byteCells (k ++ [b]) = Lib.byteCells k ++ [.int .u8 (b.toNat : Int)]:=by simp [Lib.byteCells]
theorem big_any (w : World) (x : Int) (n : Nat) (hn : n ≤ 8) (hx : Num64 x) : Calls Tryz.prog 37 #[.int .i64 x, .int .i64 n] w (BytesR (big n x) n w):=by
 have hn1 : wrap64 ((n : Int) - 1) = (n : Int) - 1:=IntWalk.wrap64_in _ (by omega)
 go_enter Tryz.func37, Tryz.ntmps37
 go_wp2
 go_loopw [5, 6] (fun bv iv wr => ∃ k : Nat, k ≤ n ∧ iv = .int .i64 ((n : Int) - 1 - k) ∧ wr.ownsRow w.heap.size 5 1 bv k (Lib.byteCells ((big n x).take k)) ∧ Kept [] w wr) (fun _ iv _ => (intOf iv + 1).toNat)
 case atStart => exact ⟨0, by omega, by simp, ⟨rfl, .inl ⟨rfl, rfl⟩⟩, Kept.refl _ _⟩
 case round =>
  obtain ⟨k, hk, rfl, hor, hkr⟩:=hrel
  have HOR:=lh hor
  have HKR:=lh hkr
  clear hor hkr
  by_cases hlt : k < n
  ·obtain ⟨i, hi⟩ : ∃ i : Nat, n - 1 - k = i:=⟨_, rfl⟩
   have hii : (n : Int) - 1 - k = (i : Int):=by omega
   rw [hii]
   have hi7 : i ≤ 7:=by omega
   have hiw : wrap64 ((i : Int) - 1) = (i : Int) - 1:=IntWalk.wrap64_in _ (by omega)
   have HBY:=lh (byte_shift hx hi7)
   have HTK:=lh (big_take n x k hlt)
   rw [hi] at HTK
   clear hx
   go_wp2_with (at_builtin; refine wl_append rfl _ _ 34 rfl w.heap.size 5 Tryz.underlying34 info5b rfl (by decide) u5 k _ rfl (own_kept0 HOR.out ((Kept.refl _ _).alloc _)) (some ⟨wr.heap.size, 0, none⟩) 1 1 [.int .u8 (x / 2 ^ (8 * i) % 256)] rfl (one_sl2 _ _ _ rfl) (by simp [Value.oneCell']) (by omega) (by omega) (by rw [alloc_size]; have:=HKR.out.size; omega) ?_; intro v' w4 hown4 hk4 hat4; have HOWN4:=lh hown4; have HK4:=lh ((HKR.out.alloc (.cells #[.int .u8 (x / 2 ^ (8 * i) % 256)] 5)).trans hk4 (fun x hx => .inr (own_ge HOR.out x (by simpa using hx)))); clear hown4 hk4 hat4)
   go_roundw
   case rel =>
    refine ⟨k + 1, by omega, ?_, ?_, HK4.out⟩
    ·congr 1
     omega
    ·rw [HTK.out, cells_snoc, ← HBY.out]
     exact HOWN4.out
   case measure =>
    simp only [intOf]
    omega
  ·have ek : k = n:=by omega
   subst ek
   have e : (big k x).take k = big k x:=List.take_of_length_le (by rw [big_len]; omega)
   rw [e] at HOR
   have hneg : (k : Int) - 1 - k = -1:=by omega
   rw [hneg]
   clear e hx
   go_wp2
   go_ret
   exact ⟨_, rfl, HOR.out, HKR.out⟩
theorem or128 (m : Nat) (h : m < 256) : bits .or .u8 (m : Int) 128 = ((m % 128 + 128 : Nat) : Int):=by
 have h1 : ∀ m : Fin 256, bits .or .u8 ((m.val : Nat) : Int) 128 = ((m.val % 128 + 128 : Nat) : Int):=by decide
 exact h1 ⟨m, h⟩
/-- The loop of groups of seven bits, as a list. -/
theorem uv_step {x u : Nat} {k : List UInt8} (h : k ++ Lib.uvarint u = Lib.uvarint x) (hu : 128 ≤ u) : (k ++ [(u % 128 + 128).toUInt8]) ++ Lib.uvarint (u / 128) = Lib.uvarint x:=by
 rw [← h, Lib.uvarint_big hu, List.append_assoc]
 rfl
theorem uv_byte (u : Nat) : (((u % 128 + 128).toUInt8.toNat : Nat) : Int) = ((u % 128 + 128 : Nat) : Int):=by
 have : (u % 128 + 128).toUInt8.toNat = (u % 128 + 128) % 256:=rfl
 rw [this]
 omega
theorem xor_ones (a : Nat) (h : a < 18446744073709551616) : a ^^^ 18446744073709551615 = 18446744073709551615 - a:=by
 have h1:=congrArg BitVec.toNat (BitVec.xor_allOnes (x:=BitVec.ofNat 64 a))
 simp [BitVec.toNat_xor, BitVec.toNat_not, Nat.mod_eq_of_lt h] at h1
 exact h1
theorem zz_xor {x : Int} (hx : Num64 x) : bits .xor .u64 (IntKind.u64.wrap (wrap64 (x * 2))) (IntKind.u64.wrap (x / 9223372036854775808)) = ((Lib.zigzag x : Nat) : Int):=by
 unfold Num64 at hx
 have ha : IntKind.u64.wrap (wrap64 (x * 2)) = ((u64 (2 * x) : Nat) : Int):=by
  rw [IntKind.wrap_u64]
  unfold wrap64 u64
  omega
 by_cases h0 : 0 ≤ x
 ·have hb : IntKind.u64.wrap (x / 9223372036854775808) = ((0 : Nat) : Int):=by
   rw [IntKind.wrap_u64]
   omega
  rw [ha, hb, bits_xor_u64_nat _ _ (u64_lt _) (by omega), Nat.xor_zero]
  unfold u64 Lib.zigzag
  rw [if_pos h0]
  omega
 ·have hb : IntKind.u64.wrap (x / 9223372036854775808) = ((18446744073709551615 : Nat) : Int):=by
   rw [IntKind.wrap_u64]
   omega
  rw [ha, hb, bits_xor_u64_nat _ _ (u64_lt _) (by omega), xor_ones _ (u64_lt _)]
  unfold u64 Lib.zigzag
  rw [if_neg h0]
  omega
theorem uv_any (w : World) (x : Nat) (hx : x < 18446744073709551616) : Calls Tryz.prog 73 #[.int .u64 x] w (BytesR (Lib.uvarint x) (Lib.uvarint x).length w):=by
 have HX:=lh hx
 clear hx
 go_enter Tryz.func73, Tryz.ntmps73
 go_wp2
 go_loopw [0, 3] (fun uv bv wr => ∃ (k : List UInt8) (u : Nat), uv = .int .u64 u ∧ u ≤ x ∧ k ++ Lib.uvarint u = Lib.uvarint x ∧ wr.ownsRow w.heap.size 5 1 bv k.length (Lib.byteCells k) ∧ Kept [] w wr) (fun uv _ _ => (intOf uv).toNat)
 case atStart => exact ⟨[], x, rfl, Nat.le_refl _, rfl, ⟨rfl, .inl ⟨rfl, rfl⟩⟩, Kept.refl _ _⟩
 case round =>
  obtain ⟨k, u, rfl, hu, hkk, hor, hkr⟩:=hrel
  have HOR:=lh hor
  have HKR:=lh hkr
  have HKK:=lh hkk
  have hk10 : k.length ≤ 10:=by
   have h1:=congrArg List.length hkk
   rw [List.length_append] at h1
   have h2:=Lib.uvarint_length64 (x:=x) HX.out
   omega
  obtain ⟨nk, hnk⟩ : ∃ nk, k.length = nk:=⟨_, rfl⟩
  rw [hnk] at HOR hk10
  have HNK:=lh hnk
  clear hor hkr hkk hnk
  by_cases hlt : 128 ≤ u
  ·have hlt2 : (128 : Int) ≤ (u : Int):=by omega
   have horr : bits .or .u8 ((u : Int) % 256) 128 = ((u % 128 + 128 : Nat) : Int):=by
    have h1:=or128 (u % 256) (by omega)
    have h2 : ((u % 256 : Nat) : Int) = (u : Int) % 256:=by omega
    have h3 : u % 256 % 128 + 128 = u % 128 + 128:=by omega
    rw [h2, h3] at h1
    exact h1
   obtain ⟨by1, hby1⟩ : ∃ by1 : Nat, u % 128 + 128 = by1:=⟨_, rfl⟩
   rw [hby1] at horr
   have HBY1:=lh hby1
   clear hby1
   go_wp2_with (at_builtin; refine wl_append rfl _ _ 34 rfl w.heap.size 5 Tryz.underlying34 info5b rfl (by decide) u3 nk _ rfl (own_kept0 HOR.out ((Kept.refl _ _).alloc _)) (some ⟨wr.heap.size, 0, none⟩) 1 1 [.int .u8 (by1 : Int)] rfl (one_sl2 _ _ _ rfl) (by simp [Value.oneCell']) (by omega) (by omega) (by rw [alloc_size]; have:=HKR.out.size; omega) ?_; intro v' w4 hown4 hk4 hat4; have HOWN4:=lh hown4; have HK4:=lh ((HKR.out.alloc (.cells #[.int .u8 (by1 : Int)] 5)).trans hk4 (fun x hx => .inr (own_ge HOR.out x (by simpa using hx)))); clear hown4 hk4 hat4)
   go_roundw
   case rel =>
    refine ⟨k ++ [(u % 128 + 128).toUInt8], u / 128, by go_num, by omega, uv_step HKK.out hlt, ?_, HK4.out⟩
    rw [List.length_append, HNK.out, cells_snoc, uv_byte, HBY1.out]
    exact HOWN4.out
   case measure =>
    simp only [intOf]
    omega
  ·have hlt2 : ¬ (128 : Int) ≤ (u : Int):=by omega
   have e:=HKK.out
   rw [Lib.uvarint_small (by omega)] at e
   have hlen : (Lib.uvarint x).length = nk + 1:=by rw [← e, List.length_append, HNK.out]; rfl
   have hcs : Lib.byteCells (Lib.uvarint x) = Lib.byteCells k ++ [.int .u8 (u : Int)]:=by
    rw [← e, cells_snoc]
    have : u.toUInt8.toNat = u:=by
     show u % 256 = u
     omega
    rw [this]
   have HLEN:=lh hlen
   have HCS:=lh hcs
   clear e hlen hcs
   go_wp2_with (at_builtin; refine wl_append rfl _ _ 34 rfl w.heap.size 5 Tryz.underlying34 info5b rfl (by decide) u3 nk _ rfl (own_kept0 HOR.out ((Kept.refl _ _).alloc _)) (some ⟨wr.heap.size, 0, none⟩) 1 1 [.int .u8 (u : Int)] rfl (one_sl2 _ _ _ rfl) (by simp [Value.oneCell']) (by omega) (by omega) (by rw [alloc_size]; have:=HKR.out.size; omega) ?_; intro v' w4 hown4 hk4 hat4; have HOWN4:=lh hown4; have HK4:=lh ((HKR.out.alloc (.cells #[.int .u8 (u : Int)] 5)).trans hk4 (fun x hx => .inr (own_ge HOR.out x (by simpa using hx)))); clear hown4 hk4 hat4)
   go_ret
   refine ⟨_, rfl, ?_, HK4.out⟩
   rw [HLEN.out, HCS.out]
   exact HOWN4.out
theorem varint_any (w : World) (y : Int) (hy : Num64 y) : Calls Tryz.prog 68 #[.int .i64 y] w (BytesR (Lib.uvarint (Lib.zigzag y)) (Lib.uvarint (Lib.zigzag y)).length w):=by
 have hx : Lib.zigzag y < 18446744073709551616:=by
  unfold Num64 at hy
  unfold Lib.zigzag
  split <;> omega
 have hzz:=zz_xor hy
 obtain ⟨x, hxx⟩ : ∃ x, Lib.zigzag y = x:=⟨_, rfl⟩
 rw [hxx] at hx hzz ⊢
 have HX:=lh hx
 clear hx hxx
 go_enter Tryz.func68, Tryz.ntmps68
 go_wp2
 clear hzz hy
 go_loopw [3, 4] (fun uv bv wr => ∃ (k : List UInt8) (u : Nat), uv = .int .u64 u ∧ u ≤ x ∧ k ++ Lib.uvarint u = Lib.uvarint x ∧ wr.ownsRow w.heap.size 5 1 bv k.length (Lib.byteCells k) ∧ Kept [] w wr) (fun uv _ _ => (intOf uv).toNat)
 case atStart => exact ⟨[], x, rfl, Nat.le_refl _, rfl, ⟨rfl, .inl ⟨rfl, rfl⟩⟩, Kept.refl _ _⟩
 case round =>
  obtain ⟨k, u, rfl, hu, hkk, hor, hkr⟩:=hrel
  have HOR:=lh hor
  have HKR:=lh hkr
  have HKK:=lh hkk
  have hk10 : k.length ≤ 10:=by
   have h1:=congrArg List.length hkk
   rw [List.length_append] at h1
   have h2:=Lib.uvarint_length64 (x:=x) HX.out
   omega
  obtain ⟨nk, hnk⟩ : ∃ nk, k.length = nk:=⟨_, rfl⟩
  rw [hnk] at HOR hk10
  have HNK:=lh hnk
  clear hor hkr hkk hnk
  by_cases hlt : 128 ≤ u
  ·have hlt2 : (128 : Int) ≤ (u : Int):=by omega
   have horr : bits .or .u8 ((u : Int) % 256) 128 = ((u % 128 + 128 : Nat) : Int):=by
    have h1:=or128 (u % 256) (by omega)
    have h2 : ((u % 256 : Nat) : Int) = (u : Int) % 256:=by omega
    have h3 : u % 256 % 128 + 128 = u % 128 + 128:=by omega
    rw [h2, h3] at h1
    exact h1
   obtain ⟨by1, hby1⟩ : ∃ by1 : Nat, u % 128 + 128 = by1:=⟨_, rfl⟩
   rw [hby1] at horr
   have HBY1:=lh hby1
   clear hby1
   go_wp2_with (at_builtin; refine wl_append rfl _ _ 34 rfl w.heap.size 5 Tryz.underlying34 info5b rfl (by decide) u4 nk _ rfl (own_kept0 HOR.out ((Kept.refl _ _).alloc _)) (some ⟨wr.heap.size, 0, none⟩) 1 1 [.int .u8 (by1 : Int)] rfl (one_sl2 _ _ _ rfl) (by simp [Value.oneCell']) (by omega) (by omega) (by rw [alloc_size]; have:=HKR.out.size; omega) ?_; intro v' w4 hown4 hk4 hat4; have HOWN4:=lh hown4; have HK4:=lh ((HKR.out.alloc (.cells #[.int .u8 (by1 : Int)] 5)).trans hk4 (fun x hx => .inr (own_ge HOR.out x (by simpa using hx)))); clear hown4 hk4 hat4)
   go_roundw
   case rel =>
    refine ⟨k ++ [(u % 128 + 128).toUInt8], u / 128, by go_num, by omega, uv_step HKK.out hlt, ?_, HK4.out⟩
    rw [List.length_append, HNK.out, cells_snoc, uv_byte, HBY1.out]
    exact HOWN4.out
   case measure =>
    simp only [intOf]
    omega
  ·have hlt2 : ¬ (128 : Int) ≤ (u : Int):=by omega
   have e:=HKK.out
   rw [Lib.uvarint_small (by omega)] at e
   have hlen : (Lib.uvarint x).length = nk + 1:=by rw [← e, List.length_append, HNK.out]; rfl
   have hcs : Lib.byteCells (Lib.uvarint x) = Lib.byteCells k ++ [.int .u8 (u : Int)]:=by
    rw [← e, cells_snoc]
    have : u.toUInt8.toNat = u:=by
     show u % 256 = u
     omega
    rw [this]
   have HLEN:=lh hlen
   have HCS:=lh hcs
   clear e hlen hcs
   go_wp2_with (at_builtin; refine wl_append rfl _ _ 34 rfl w.heap.size 5 Tryz.underlying34 info5b rfl (by decide) u4 nk _ rfl (own_kept0 HOR.out ((Kept.refl _ _).alloc _)) (some ⟨wr.heap.size, 0, none⟩) 1 1 [.int .u8 (u : Int)] rfl (one_sl2 _ _ _ rfl) (by simp [Value.oneCell']) (by omega) (by omega) (by rw [alloc_size]; have:=HKR.out.size; omega) ?_; intro v' w4 hown4 hk4 hat4; have HOWN4:=lh hown4; have HK4:=lh ((HKR.out.alloc (.cells #[.int .u8 (u : Int)] 5)).trans hk4 (fun x hx => .inr (own_ge HOR.out x (by simpa using hx)))); clear hown4 hk4 hat4)
   go_ret
   refine ⟨_, rfl, ?_, HK4.out⟩
   rw [HLEN.out, HCS.out]
   exact HOWN4.out
theorem length_any (fl : Bool) (w : World) (k : Int) (n : Nat) (hn : n ≤ 8) (h0 : -1 ≤ k) (h1 : k ≤ 1000000) : Calls Tryz.prog 74 #[.int .i64 k, .int .i64 n, .bool fl] w (BytesR (lenB fl k n) (lenB fl k n).length w):=by
 cases fl with
 | true =>
  have hu:=lh (fun W => uv_any W (u64 (k + 1)) (u64_lt _))
  have hcv : IntKind.u64.wrap (k + 1) = ((u64 (k + 1) : Nat) : Int):=by
   rw [IntKind.wrap_u64]
   unfold u64
   omega
  have hl : lenB true k n = Lib.uvarint (u64 (k + 1)):=rfl
  rw [hl]
  obtain ⟨u, huu⟩ : ∃ u, u64 (k + 1) = u:=⟨_, rfl⟩
  rw [huu] at hu hcv ⊢
  clear huu hl
  go_enter Tryz.func74, Tryz.ntmps74
  go_wp2_with ((with_reducible refine (hu.out _).mono ?_); rintro e w1 ⟨v1, rfl, ho1, hk1⟩; have HO1:=lh ho1; have HK1:=lh hk1; clear ho1 hk1)
  go_ret
  exact ⟨_, rfl, HO1.out, HK1.out⟩
 | false =>
  have hu:=lh (fun W => big_any W k n hn ⟨by omega, by omega⟩)
  have hl : lenB false k n = big n k:=rfl
  rw [hl, big_len]
  clear hl
  go_enter Tryz.func74, Tryz.ntmps74
  go_wp2_with ((with_reducible refine (hu.out _).mono ?_); rintro e w1 ⟨v1, rfl, ho1, hk1⟩; have HO1:=lh ho1; have HK1:=lh hk1; clear ho1 hk1)
  go_ret
  exact ⟨_, rfl, HO1.out, HK1.out⟩
end Go.Proofs.YtmpjikihnmagoaaGreatDoor
/-
 The specification's bytes behind a length (69), and tools. Conditions: few bytes.
-/
namespace Go.Proofs.YtmpjikihnmagoaaGreatDoor
open Go.RowKit
section
variable {ops : Array Oper} {Q : Exit → Act → World → Prop} {a : Act} {w : World} {rest : List Oper} {o : Oper}
theorem strCells_eq (s : ByteArray) : Lib.strCells s = Lib.byteCells s.data.toList:=rfl
theorem wl_append_str (hgd : o.guard = none) (sl x : Operand) (ho : o.op = .call { callee:=.builtin .append, args:=#[sl, x], argTypes:=#[34, 9] }) (base : Nat) (v : Value) (n : Nat) (xs : List Value) (hs : a.eval sl = v) (hown : w.ownsRow base 5 1 v n xs) (s : ByteArray) (hx : a.eval x = .string s) (h63 : n + s.size ≤ 1000000) (hbase : base ≤ w.heap.size) (h : ∀ v' w', w'.ownsRow base 5 1 v' (n + s.size) (xs ++ Lib.byteCells s.data.toList) → Kept v.ownBlock.toList w w' → wpList Tryz.prog ops Q rest (a.put o.dst v') w') : wpList Tryz.prog ops Q (o :: rest) a w:=by
 obtain ⟨i, hi, hz0, hz1, hz2⟩:=info_parts info5b
 exact Lib.wpList_append_own_string w hgd sl x 34 9 ho base 5 i Tryz.underlying34 Tryz.underlying9 hi hz0 hz1 hz2 v n xs hs hown s hx (by simp only [maxLen]; omega) (by omega) hbase fun v' w' h1 h2 _ => h v' w' (strCells_eq s ▸ h1) (Kept.of_grown h2)
end
/-- What StepBytes leaves. -/
def StepR (f : List UInt8) (n : Nat) (w : World) (e : Ending) (w' : World) : Prop:=∃ A c, e = .returned (.slice A n c) ∧ SlIs w' 1 A n (Lib.byteCells f) ∧ Kept [] w w'
theorem stepR_of {f : List UInt8} {base n : Nat} {v : Value} {w w' : World} (h : w'.ownsRow base 5 1 v n (Lib.byteCells f)) (hk : Kept [] w w') : StepR f f.length w (.returned v) w':=by
 obtain ⟨A, c, rfl, hsl, _⟩:=own_sl h
 have hl:=hsl.1
 rw [Lib.byteCells_length] at hl
 have hn : f.length = n:=by omega
 subst hn
 exact ⟨A, c, rfl, hsl, hk⟩
theorem own_kept_ge {w1 : World} {base base' : Nat} {e : TypeId} {s n : Nat} {v : Value} {xs : List Value} (h : w1.ownsRow base e s v n xs) (hb : base' ≤ base) : w1.ownsRow base' e s v n xs:=by
 rcases h.2 with ⟨rfl, h2⟩ | ⟨g, cap, cur, rfl, hbg, h3⟩
 ·exact ⟨h.1, .inl ⟨rfl, h2⟩⟩
 ·exact ⟨h.1, .inr ⟨g, cap, cur, rfl, by omega, h3⟩⟩
def vbF (A : Option Addr) (n c z8 z9 : Nat) (lb : List UInt8) (ix : Nat) (v : Value) (W : World) : Prop :=
 match ix with
 | 0 => v = .pointer (some ⟨z8, 1, none⟩)
 | 1 => v = .slice A n c
 | 2 => v = .int .i64 n
 | 3 => W.ownsRow z9 5 1 v lb.length (Lib.byteCells lb)
 | 4 => v = .pointer (some ⟨z8, 1, none⟩)
 | 5 => v = .slice A n c
 | _ => True
theorem vbF_stable {A n c z8 z9 lb} : ∀ ix v w w', vbF A n c z8 z9 lb ix v w → Kept [] w w' → vbF A n c z8 z9 lb ix v w':=by
 intro ix v w w' h k
 unfold vbF at h ⊢
 split at h <;> (first | (exact h) | (exact own_kept0 h k))
theorem varBytes_null (w : World) (A : Option Addr) (n c : Nat) : Calls Tryz.prog 69 #[.agg #[.bool true, .slice A n c]] w (BytesR (Lib.uvarint (Lib.zigzag (-1))) (Lib.uvarint (Lib.zigzag (-1))).length w):=by
 have hu:=lh (fun W => varint_any W (-1) ⟨by omega, by omega⟩)
 go_enter Tryz.func69, Tryz.ntmps69
 go_wp2_with ((with_reducible refine (hu.out _).mono ?_); rintro e w1 ⟨v1, rfl, ho1, hk1⟩; have HO1:=lh (own_kept_ge ho1 (by rw [alloc_size]; exact Nat.le_succ _)); have HK1:=lh (((Kept.refl [] w).alloc _).trans0 hk1); clear ho1 hk1)
 go_ret
 exact ⟨_, rfl, HO1.out, HK1.out⟩
theorem varBytes_any (w : World) (A : Option Addr) (n c : Nat) (f : List UInt8) (hn : f.length = n) (hn3 : n ≤ 1000) (hA : SlIs w 1 A n (Lib.byteCells f)) : Calls Tryz.prog 69 #[.agg #[.bool false, .slice A n c]] w (BytesR (Lib.uvarint (Lib.zigzag (n : Int)) ++ f) ((Lib.uvarint (Lib.zigzag (n : Int))).length + n) w):=by
 have HC:=lh (fun W => varint_any W (n : Int) ⟨by omega, by omega⟩)
 have hzl : (Lib.uvarint (Lib.zigzag (n : Int))).length ≤ 10:=Lib.uvarint_length64 (by unfold Lib.zigzag; split <;> omega)
 have HA:=lh hA
 obtain ⟨lb, hlb⟩ : ∃ lb, Lib.uvarint (Lib.zigzag (n : Int)) = lb:=⟨_, rfl⟩
 rw [hlb] at HC hzl ⊢
 clear hA hlb
 go_enter Tryz.func69, Tryz.ntmps69
 go_wp2
 obtain ⟨W3, hW3⟩ : ∃ W3, w.alloc (.cells #[.bool false, .slice A n c] 60) = W3:=⟨_, rfl⟩
 have hk3 : Kept [] w W3:=by rw [← hW3]; exact (Kept.refl [] w).alloc _
 have hc31 : W3.cell? ⟨w.heap.size, 1, none⟩ = some (.slice A n c):=by
  rw [← hW3]
  have h1:=heap_alloc_new w (.cells #[.bool false, .slice A n c] 60)
  simp only [World.cell?, h1]
  rfl
 have hs3 : W3.heap.size = w.heap.size + 1:=by rw [← hW3, alloc_size]
 rw [hW3]
 obtain ⟨z8, hz8⟩ : ∃ z8, w.heap.size = z8:=⟨_, rfl⟩
 obtain ⟨z9, hz9⟩ : ∃ z9, W3.heap.size = z9:=⟨_, rfl⟩
 rw [hz8] at hc31 ⊢
 have HZ8:=lh hz8
 have HZ9:=lh hz9
 have HZ89 : Hid (z8 ≤ z9):=lh (by omega)
 have HK3:=lh hk3
 have HC31:=lh hc31
 clear hW3 hk3 hc31 hs3 hz8 hz9
 refine wp_region_facts' 6 (Kept []) (vbF A n c z8 z9 lb) mixed (by kernel_rfl) (Kept.refl _ _).drew (fun _ _ _ h k => h.trans k (fun x hx => .inl hx)) vbF_stable ?_ ?_
 ·refine ⟨?_, ?_, ?_, ?_, ?_, ?_, trivial⟩
  all_goals go_light
  all_goals intro a W hR hs hd
  all_goals have p1 : a.tmps[1]? = some (.pointer (some ⟨z8, 0, none⟩)):=hs.2.2 1 (by decide)
  all_goals have hRr : Kept [] W W:=Kept.refl _ _
  all_goals have hc1 : W.cell? ⟨z8, 1, none⟩ = _:=hR.cell HC31.out (by simp)
  ·refine ov W (.pointer (some ⟨z8, 1, none⟩)) ?_ (.mk hRr rfl rfl)
   simp [go_sem, p1]
  ·have q0 : _ = _:=hd.1 rfl
   refine ov W (.slice A n c) ?_ (.mk hRr rfl rfl)
   simp [go_sem, q0, hc1]
  ·have q1 : _ = _:=hd.1 rfl
   refine ov W (.int .i64 n) ?_ (.mk hRr rfl rfl)
   simp [go_sem, q1]
  ·have q2 : _ = _:=hd.1 rfl
   refine ow_call (w':=W) (f:=68) (args:=#[.int .i64 n]) (by simp [go_sem, q2]) (HC.out W) ?_
   rintro e w' ⟨v1, rfl, h1, hk1⟩
   exact ⟨_, rfl, .mk hk1 (own_kept_ge h1 (by have h8:=hR.size; have h7:=HZ9.out; omega)) rfl⟩
  ·refine ov W (.pointer (some ⟨z8, 1, none⟩)) ?_ (.mk hRr rfl rfl)
   simp [go_sem, p1]
  ·have q4 : _ = _:=hd.1 rfl
   refine ov W (.slice A n c) ?_ (.mk hRr rfl rfl)
   simp [go_sem, q4, hc1]
 ·intro f W4 hR hf
  obtain ⟨f0, f1, f2, f3, f4, f5, -⟩:=hf
  change f 6 = _ at f0
  change f 7 = _ at f1
  change f 8 = _ at f2
  change W4.ownsRow z9 5 1 (f 9) lb.length (Lib.byteCells lb) at f3
  obtain ⟨x3, g3⟩ : ∃ x, f 9 = x:=⟨_, rfl⟩
  rw [g3] at f3
  change f 10 = _ at f4
  change f 11 = _ at f5
  simp only [headDsts, List.take_succ_cons, List.take_zero, List.filterMap_cons, List.filterMap_nil, setAll, f0, f1, f2, g3, f4, f5, List.setIfInBounds_toArray, List.set_cons_succ, List.set_cons_zero, List.drop_succ_cons, List.drop_zero]
  clear f0 f1 f2 g3 f4 f5 f
  have HOV:=lh f3
  have HBASE : Hid (z9 ≤ W4.heap.size):=lh (by have h8:=hR.size; have h7:=HZ9.out; omega)
  have HRW:=lh (HK3.out.trans0 hR)
  have HAW:=lh (HA.out.kept0 (HK3.out.trans0 hR))
  clear f3 hR
  go_wp2_with (at_builtin; refine wl_append rfl _ _ 34 rfl z9 5 Tryz.underlying34 info5b rfl (by decide) x3 lb.length _ rfl HOV.out A n c (Lib.byteCells f) rfl (HAW.out) (bytes_one f) (by omega) (by omega) (HBASE.out) ?_; intro v2 w6 hown6 hk6 _; have HO6:=lh hown6; have HK6:=lh ((HRW.out).trans hk6 (fun x hx => .inr (by have h9:=own_ge HOV.out x (by simpa using hx); have h8:=HZ8.out; have h7:=HZ89.out; omega))); clear hown6 hk6)
  go_ret
  exact ⟨_, rfl, by rw [Lib.byteCells_append, HZ8.out]; exact own_kept_ge HO6.out HZ89.out, HK6.out⟩
end Go.Proofs.YtmpjikihnmagoaaGreatDoor
