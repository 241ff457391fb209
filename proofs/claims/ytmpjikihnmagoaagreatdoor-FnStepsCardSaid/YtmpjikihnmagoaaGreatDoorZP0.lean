/-
  Plain laws of varints and of numbers with the greatest byte first: what is written is read, what is cut off is not. No program in sight. Conditions: none beyond each lemma's own.
-/
import Derived.Lib.Varint
import Derived.Lib.VarintDec
import Derived.Lib.Endian
import Derived.Lib.EndianMore
namespace Go.Proofs.YtmpjikihnmagoaaGreatDoor
open Go.Lib
theorem toUInt8_lt {x : Nat} (h : x < 256) : x.toUInt8.toNat = x:=by
 have:=Lib.toUInt8_mod x
 rw [Nat.mod_eq_of_lt h] at this
 exact this
theorem pow7 (i : Nat) : (2 : Nat) ^ (7 * (i + 1)) = 2 ^ (7 * i) * 128:=by
 rw [Nat.mul_succ, Nat.pow_add]
/-- What is written as a varint is read. -/
theorem uvarintFrom_uvarint : ∀ (k x i acc : Nat) (r : List UInt8), k + i = 9 → x < 2 ^ (64 - 7 * i) → uvarintFrom i acc (uvarint x ++ r) = (acc + x * 2 ^ (7 * i), ((i + (uvarint x).length : Nat) : Int))
 | 0, x, i, acc, r, hk, hx => by
  obtain rfl : i = 9:=by omega
  have hx2 : x < 2:=by simpa using hx
  rw [uvarint_small (by omega), List.singleton_append]
  simp only [uvarintFrom]
  rw [if_neg (by decide), toUInt8_lt (by omega), if_pos (by omega), if_neg (by omega)]
  rfl
 | k + 1, x, i, acc, r, hk, hx => by
  have hi : i ≤ 8:=by omega
  by_cases h : x < 128
  ·rw [uvarint_small h, List.singleton_append]
   simp only [uvarintFrom]
   rw [if_neg (by omega), toUInt8_lt (by omega), if_pos h, if_neg (by omega)]
   rfl
  ·rw [uvarint_big (by omega), List.cons_append]
   simp only [uvarintFrom]
   have hb : (x % 128 + 128).toUInt8.toNat = x % 128 + 128:=toUInt8_lt (by omega)
   have hx2 : x / 128 < 2 ^ (64 - 7 * (i + 1)):=by
    have e : (2 : Nat) ^ (64 - 7 * i) = 2 ^ (64 - 7 * (i + 1)) * 128:=by
     rw [show 64 - 7 * i = (64 - 7 * (i + 1)) + 7 by omega, Nat.pow_add]
    rw [e] at hx
    exact Nat.div_lt_of_lt_mul (by rw [Nat.mul_comm]; exact hx)
   rw [if_neg (by omega), hb, if_neg (by omega), uvarintFrom_uvarint k (x / 128) (i + 1) _ r (by omega) hx2]
   have e1 : (x % 128 + 128) % 128 = x % 128:=by omega
   rw [e1, pow7, List.length_cons]
   have e2 : acc + x % 128 * 2 ^ (7 * i) + x / 128 * (2 ^ (7 * i) * 128) = acc + x * 2 ^ (7 * i):=by
    have h1:=Nat.div_add_mod x 128
    have h2 : x * 2 ^ (7 * i) = (128 * (x / 128) + x % 128) * 2 ^ (7 * i):=by rw [h1]
    rw [h2, Nat.add_mul, Nat.mul_assoc, Nat.mul_comm (2 ^ (7 * i)) 128, ← Nat.mul_assoc, Nat.mul_comm (x / 128) 128, Nat.mul_assoc]
    omega
   rw [e2]
   congr 1
   omega
theorem uvarintDec_uvarint {x : Nat} (h : x < 18446744073709551616) (r : List UInt8) : uvarintDec (uvarint x ++ r) = (x, ((uvarint x).length : Int)):=by
 unfold uvarintDec
 rw [uvarintFrom_uvarint 9 x 0 0 r rfl h]
 simp
theorem zigzag_lt {x : Int} (h0 : -9223372036854775808 ≤ x) (h1 : x ≤ 9223372036854775807) : zigzag x < 18446744073709551616:=by
 unfold zigzag
 split <;> omega
theorem unzigzag_zigzag (x : Int) : unzigzag (zigzag x) = x:=by
 unfold zigzag unzigzag
 split <;> split <;> omega
theorem varintDec_varint {x : Int} (h0 : -9223372036854775808 ≤ x) (h1 : x ≤ 9223372036854775807) (r : List UInt8) : varintDec (uvarint (zigzag x) ++ r) = (x, ((uvarint (zigzag x)).length : Int)):=by
 unfold varintDec
 rw [uvarintDec_uvarint (zigzag_lt h0 h1), unzigzag_zigzag]
/-- A number as its 64 bits. -/
def u64 (x : Int) : Nat:=(x % 18446744073709551616).toNat
theorem u64_lt (x : Int) : u64 x < 18446744073709551616:=by unfold u64; omega
/-- The n least bytes of a number, the greatest first. -/
def big (n : Nat) (x : Int) : List UInt8:=beBytes n (u64 x)
theorem big_len (n : Nat) (x : Int) : (big n x).length = n:=beBytes_length _ _
end Go.Proofs.YtmpjikihnmagoaaGreatDoor
/-
 Data and their form, in plain Lean. No program in sight. Conditions: none beyond each lemma's own.
-/
namespace Go.Proofs.YtmpjikihnmagoaaGreatDoor
open Go.Lib
/-- A datum: its kind, a number, a text, whether it is null, bytes, texts, numbers. -/
structure St where
 /-- the kind -/
 kind : Nat
 /-- the number -/
 n : Int
 /-- the text -/
 s : ByteArray
 /-- null -/
 null : Bool
 /-- the bytes -/
 b : List UInt8
 /-- the texts -/
 texts : List ByteArray
 /-- the numbers -/
 nums : List Int
/-- A length: n bytes, or, in flexible versions, a number one greater. -/
def lenB (fl : Bool) (k : Int) (n : Nat) : List UInt8:=if fl then uvarint (u64 (k + 1)) else big n k
/-- A text behind its length. -/
def textB (fl : Bool) (s : ByteArray) : List UInt8:=lenB fl (s.size : Int) 2 ++ s.data.toList
/-- The form of a datum. -/
def stepB (fl : Bool) (x : St) : List UInt8 :=
 match x.kind with
 | 0 => big 1 x.n
 | 1 => big 2 x.n
 | 2 => big 4 x.n
 | 3 => big 8 x.n
 | 4 => uvarint (zigzag x.n)
 | 5 => uvarint (u64 x.n)
 | 6 => big 8 x.n
 | 7 => big 1 x.n
 | 8 => lenB fl x.n 4
 | 9 => textB fl x.s
 | 10 => if x.null then lenB fl (-1) 2 else textB fl x.s
 | 11 => if x.null then lenB fl (-1) 4 else lenB fl (x.b.length : Int) 4 ++ x.b
 | 12 => if x.null then uvarint (zigzag (-1)) else uvarint (zigzag (x.b.length : Int)) ++ x.b
 | 13 => lenB fl (x.texts.length : Int) 4 ++ x.texts.flatMap (textB fl)
 | 14 => lenB fl (x.nums.length : Int) 4 ++ x.nums.flatMap (big 4)
 | 15 => lenB fl (x.nums.length : Int) 4 ++ x.nums.flatMap (big 8)
 | _ => x.b
/-- The form of data. -/
def stepsB (fl : Bool) (l : List St) : List UInt8:=l.flatMap (stepB fl)
theorem stepsB_append (fl : Bool) (a b : List St) : stepsB fl (a ++ b) = stepsB fl a ++ stepsB fl b:=by simp [stepsB]
/-- A number of so many bits with its sign. -/
def fitsB (bits : Nat) (x : Int) : Prop:=-(2 ^ (bits - 1) : Nat) ≤ x ∧ x < (2 ^ (bits - 1) : Nat)
/-- A datum that is one of its kind, and nothing beside. -/
structure RightB (x : St) : Prop where
 kind : x.kind ≤ 16
 null : x.null = true → (x.kind = 10 ∨ x.kind = 11 ∨ x.kind = 12) ∧ x.s.size = 0 ∧ x.b = []
 s200 : x.s.size ≤ 200
 b300 : x.b.length ≤ 300
 t10 : x.texts.length ≤ 10
 n10 : x.nums.length ≤ 10
 t60 : ∀ s ∈ x.texts, s.size ≤ 60
 n32 : x.kind = 14 → ∀ v ∈ x.nums, fitsB 32 v
 num : ¬ x.kind ≤ 8 → x.n = 0
 text : ¬ (x.kind = 9 ∨ x.kind = 10) → x.s.size = 0
 bytes : ¬ (x.kind = 11 ∨ x.kind = 12 ∨ x.kind = 16) → x.b = []
 texts : x.kind ≠ 13 → x.texts = []
 nums : ¬ (x.kind = 14 ∨ x.kind = 15) → x.nums = []
 f8 : x.kind = 0 → fitsB 8 x.n
 f16 : x.kind = 1 → fitsB 16 x.n
 f32 : x.kind = 2 → fitsB 32 x.n
 bool : x.kind = 7 → x.n = 0 ∨ x.n = 1
 arr : x.kind = 8 → 0 ≤ x.n ∧ x.n ≤ 1000
 i64 : -9223372036854775808 ≤ x.n ∧ x.n ≤ 9223372036854775807
theorem lenB_pos (fl : Bool) (k : Int) {n : Nat} (hn : 0 < n) : 0 < (lenB fl k n).length:=by
 unfold lenB
 split
 ·exact uvarint_pos _
 ·rw [big_len]; exact hn
end Go.Proofs.YtmpjikihnmagoaaGreatDoor
/-
 Bytes of numbers, one by one. No program in sight. Conditions: none beyond each lemma's own.
-/
namespace Go.Proofs.YtmpjikihnmagoaaGreatDoor
open Go.Lib
theorem leBytes_get : ∀ (n v i : Nat), i < n → (Lib.leBytes n v)[i]? = some (v / 256 ^ i % 256).toUInt8
 | 0, _, _, h => by omega
 | n + 1, v, 0, _ => by simp [Lib.leBytes]
 | n + 1, v, i + 1, h => by
  rw [Lib.leBytes, List.getElem?_cons_succ, leBytes_get n (v / 256) i (by omega), Nat.div_div_eq_div_mul, Nat.pow_succ, Nat.mul_comm]
theorem beBytes_get (n v k : Nat) (h : k < n) : (beBytes n v)[k]? = some (v / 256 ^ (n - 1 - k) % 256).toUInt8:=by
 unfold beBytes
 rw [List.getElem?_reverse (by rw [Lib.leBytes_length]; exact h), Lib.leBytes_length, leBytes_get _ _ _ (by omega)]
theorem big_get (n : Nat) (x : Int) (k : Nat) (h : k < n) : (big n x)[k]? = some (u64 x / 256 ^ (n - 1 - k) % 256).toUInt8:=beBytes_get n _ k h
theorem big_take (n : Nat) (x : Int) (k : Nat) (h : k < n) : (big n x).take (k + 1) = (big n x).take k ++ [(u64 x / 256 ^ (n - 1 - k) % 256).toUInt8]:=by
 obtain ⟨h1, h2⟩:=List.getElem?_eq_some_iff.1 (big_get n x k h)
 rw [List.take_succ_eq_append_getElem h1, h2]
/-- What is read of a number's bytes. -/
theorem beNat_big {n : Nat} {x : Int} (h : u64 x < 256 ^ n) : beNat (big n x) = u64 x:=beNat_beBytes n _ h
theorem u64_nonneg {x : Int} (h0 : 0 ≤ x) (h1 : x ≤ 18446744073709551615) : (u64 x : Int) = x:=by unfold u64; omega
end Go.Proofs.YtmpjikihnmagoaaGreatDoor
