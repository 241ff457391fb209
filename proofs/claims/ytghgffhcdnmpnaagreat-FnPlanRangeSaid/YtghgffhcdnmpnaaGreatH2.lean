/-
  The partitions of keys, by the specification. Conditions: keys of 100 bytes at most, 1 to 2147483647 partitions.
-/
import Derived.Test.YtghgffhcdnmpnaaGreatH1
namespace Go.Proofs.YtghgffhcdnmpnaaGreat
open Go.RowKit
theorem wrap32_le {x : Int} (h0 : -2147483648 ≤ x) (h1 : x ≤ 2147483647) : wrap32 x = x := by
  unfold wrap32; omega
theorem and_i32 (x : Int) : bits .and .i32 x 2147483647 = x % 2147483648 := by
  have h : (BitVec.ofInt 32 x &&& BitVec.ofInt 32 2147483647).toNat = (x % 4294967296).toNat % 2147483648 := by
    rw [BitVec.toNat_and, BitVec.toNat_ofInt, BitVec.toNat_ofInt]
    have e : ((2147483647 : Int) % ((2 ^ 32 : Nat) : Int)).toNat = 2 ^ 31 - 1 := by decide
    rw [e, Nat.and_two_pow_sub_one_eq_mod]
    simp
  show IntKind.i32.wrap ((BitVec.ofInt 32 x &&& BitVec.ofInt 32 2147483647).toNat : Int) = _
  rw [h, IntWalk.i32_in _ (by omega)]
  omega
theorem and_u32 (x : Int) (h0 : 0 ≤ x) (h1 : x ≤ 4294967295) : bits .and .u32 x 2147483647 = x % 2147483648 := by
  rw [u32_and x 2147483647 h0 (by omega) (by omega) (by omega)]
  have e : (2147483647 : Int).toNat = 2 ^ 31 - 1 := by decide
  rw [e, Nat.and_two_pow_sub_one_eq_mod]
  omega
/-- What each kind of partitioner answers. -/
def ansOf (kind : Nat) (key : List Int) (part n : Int) : Int :=
  match kind with
  | 0 => ((wrap32 (fnvL key)).tmod n).natAbs
  | 1 => fnvL key % 2147483648 % n
  | 2 => inv32 (crcL key) % n
  | 3 => murL key % 2147483648 % n
  | _ => part
theorem murL_in (l : List Int) : 0 ≤ murL l ∧ murL l ≤ 4294967295 := by
  unfold murL murEnd
  generalize bits .xor .u32 (murFold l _) _ = y
  have := mMul_in y
  exact xor_in _ _ this.1 this.2 (by omega) (by omega)
theorem crcI_in (key : List Int) (hb : ∀ x ∈ key, isB x) : 0 ≤ inv32 (crcL key) ∧ inv32 (crcL key) ≤ 4294967295 := by
  have hc := crc_in key 4294967295 hb (by omega) (by omega)
  exact inv32_in _ hc.1 hc.2
theorem wrap32_in (x : Int) : -2147483648 ≤ wrap32 x ∧ wrap32 x ≤ 2147483647 := by unfold wrap32; omega
theorem tmod_abs (a n : Int) (hn : 1 ≤ n) : (a.tmod n).natAbs < n := by
  rw [Int.natAbs_tmod]
  have := Nat.mod_lt a.natAbs (y := n.natAbs) (by omega)
  omega
/-- They lie among the partitions. -/
theorem ansOf_in (kind : Nat) (hk : kind < 4) (key : List Int) (part n : Int) (hn : 1 ≤ n) : 0 ≤ ansOf kind key part n ∧ ansOf kind key part n < n := by
  rcases (by omega : kind = 0 ∨ kind = 1 ∨ kind = 2 ∨ kind = 3) with rfl | rfl | rfl | rfl
  · exact ⟨Int.natCast_nonneg _, tmod_abs _ n hn⟩
  · exact ⟨Int.emod_nonneg _ (by omega), Int.emod_lt_of_pos _ (by omega)⟩
  · exact ⟨Int.emod_nonneg _ (by omega), Int.emod_lt_of_pos _ (by omega)⟩
  · exact ⟨Int.emod_nonneg _ (by omega), Int.emod_lt_of_pos _ (by omega)⟩
theorem neg_wrap (r n : Int) (hn2 : n ≤ 2147483647) (h : (r.natAbs : Int) < n) : wrap32 (-r) = -r := wrap32_le (by omega) (by omega)
theorem and_mod (x n : Int) (h0 : 0 ≤ x) (h1 : x ≤ 4294967295) (_hn : 1 ≤ n) : (wrap32 (bits .and .u32 x 2147483647)).tmod n = x % 2147483648 % n := by
  rw [and_u32 x h0 h1, wrap32_le (by omega) (by omega), Int.tmod_eq_emod_of_nonneg (by omega)]
theorem mod_wrap (x n : Int) (hn : 1 ≤ n) (hn2 : n ≤ 2147483647) : wrap32 (x % n) = x % n := by
  have h1 := Int.emod_nonneg x (b := n) (by omega)
  have h2 := Int.emod_lt_of_pos x (b := n) (by omega)
  exact wrap32_le (by omega) (by omega)
def isKey (key : List Int) : Prop := key.length ≤ 100 ∧ ∀ x ∈ key, isB x
theorem specPart0 (A : Option Addr) (c : Nat) (key : List Int) (part n : Int) (w : World) (h : SlIs w 1 A key.length (bytesV key)) (hk : isKey key) (hn : 1 ≤ n) (hn2 : n ≤ 2147483647) :
    Calls Tryz.prog 14 #[.int .i64 0, .slice A key.length c, .int .i32 part, .int .i32 n] w fun e w' => e = .returned (.int .i32 (ansOf 0 key part n)) ∧ w = w' := by
  have hf := fnv_any A c key w h hk.1 hk.2
  have HF := Lib.hid hf
  obtain ⟨f0, f1⟩ := fnvL_in key
  obtain ⟨x, hx⟩ : ∃ x, fnvL key = x := ⟨_, rfl⟩
  have HA := Lib.hid (show ansOf 0 key part n = ((wrap32 x).tmod n).natAbs by rw [ansOf, hx])
  rw [hx] at HF f0 f1
  have HT := Lib.hid (tmod_abs (wrap32 x) n hn)
  have HW := Lib.hid (neg_wrap ((wrap32 x).tmod n) n hn2 (tmod_abs (wrap32 x) n hn))
  clear hx hf h
  go_enter Tryz.func14, Tryz.ntmps14
  go_wp2_with (with_reducible refine HF.out.mono ?_; rintro e w1 ⟨rfl, rfl⟩)
  · have h : (wrap32 x).tmod n < wrap32 (-(wrap32 x).tmod n) := by assumption
    go_ret
    exact ⟨ret_int32 (by rw [HA.out]; rw [HW.out] at h ⊢; omega), rfl⟩
  · have h : wrap32 (-(wrap32 x).tmod n) ≤ (wrap32 x).tmod n := by assumption
    go_ret
    exact ⟨ret_int32 (by rw [HA.out]; rw [HW.out] at h; omega), rfl⟩
theorem specPart1 (A : Option Addr) (c : Nat) (key : List Int) (part n : Int) (w : World) (h : SlIs w 1 A key.length (bytesV key)) (hk : isKey key) (hn : 1 ≤ n) :
    Calls Tryz.prog 14 #[.int .i64 1, .slice A key.length c, .int .i32 part, .int .i32 n] w fun e w' => e = .returned (.int .i32 (ansOf 1 key part n)) ∧ w = w' := by
  have hf := fnv_any A c key w h hk.1 hk.2
  have HF := Lib.hid hf
  obtain ⟨f0, f1⟩ := fnvL_in key
  obtain ⟨x, hx⟩ : ∃ x, fnvL key = x := ⟨_, rfl⟩
  have HA := Lib.hid (show ansOf 1 key part n = x % 2147483648 % n by rw [ansOf, hx])
  rw [hx] at HF f0 f1
  have HT := Lib.hid (and_mod x n f0 f1 hn)
  clear hx hf h
  go_enter Tryz.func14, Tryz.ntmps14
  go_wp2_with (with_reducible refine HF.out.mono ?_; rintro e w1 ⟨rfl, rfl⟩)
  go_ret
  exact ⟨ret_int32 (by rw [HA.out, HT.out]), rfl⟩
theorem specPart2 (A : Option Addr) (c : Nat) (key : List Int) (part n : Int) (w : World) (h : SlIs w 1 A key.length (bytesV key)) (hk : isKey key) (hn : 1 ≤ n) (hn2 : n ≤ 2147483647) :
    Calls Tryz.prog 14 #[.int .i64 2, .slice A key.length c, .int .i32 part, .int .i32 n] w fun e w' => e = .returned (.int .i32 (ansOf 2 key part n)) ∧ w = w' := by
  have hf := crc_any A c key w h hk.1 hk.2
  have HF := Lib.hid hf
  obtain ⟨f0, f1⟩ := crcI_in key hk.2
  obtain ⟨x, hx⟩ : ∃ x, inv32 (crcL key) = x := ⟨_, rfl⟩
  have HA := Lib.hid (show ansOf 2 key part n = x % n by rw [ansOf, hx])
  rw [hx] at HF f0 f1
  have HT := Lib.hid (mod_wrap x n hn hn2)
  clear hx hf h
  go_enter Tryz.func14, Tryz.ntmps14
  go_wp2_with (with_reducible refine HF.out.mono ?_; rintro e w1 ⟨rfl, rfl⟩)
  go_ret
  exact ⟨ret_int32 (by rw [HA.out, HT.out]), rfl⟩
theorem specPart3 (A : Option Addr) (c : Nat) (key : List Int) (part n : Int) (w : World) (h : SlIs w 1 A key.length (bytesV key)) (hk : isKey key) (hn : 1 ≤ n) :
    Calls Tryz.prog 14 #[.int .i64 3, .slice A key.length c, .int .i32 part, .int .i32 n] w fun e w' => e = .returned (.int .i32 (ansOf 3 key part n)) ∧ Kept [] w w' := by
  have hf := murmurS_any A c key w h hk.1 hk.2
  have HF := Lib.hid hf
  obtain ⟨f0, f1⟩ := murL_in key
  obtain ⟨x, hx⟩ : ∃ x, murL key = x := ⟨_, rfl⟩
  have HA := Lib.hid (show ansOf 3 key part n = x % 2147483648 % n by rw [ansOf, hx])
  rw [hx] at HF f0 f1
  have HT := Lib.hid (and_mod x n f0 f1 hn)
  clear hx hf h
  go_enter Tryz.func14, Tryz.ntmps14
  go_wp2_with (with_reducible refine HF.out.mono ?_; rintro e w1 ⟨rfl, hk1⟩; have HK1 := Lib.hid hk1; clear hk1)
  go_ret
  exact ⟨ret_int32 (by rw [HA.out, HT.out]), HK1.out⟩
theorem specPart4 (v : Value) (key : List Int) (part n : Int) (w : World) :
    Calls Tryz.prog 14 #[.int .i64 4, v, .int .i32 part, .int .i32 n] w fun e w' => e = .returned (.int .i32 (ansOf 4 key part n)) ∧ w = w' := by
  go_enter Tryz.func14, Tryz.ntmps14
  go_wp2
  go_ret
  exact ⟨rfl, rfl⟩
/-- The specification's partition. -/
theorem specPart_any (kind : Nat) (hkd : kind < 5) (A : Option Addr) (c : Nat) (key : List Int) (part n : Int) (w : World) (h : SlIs w 1 A key.length (bytesV key)) (hk : isKey key) (hn : 1 ≤ n) (hn2 : n ≤ 2147483647) :
    Calls Tryz.prog 14 #[.int .i64 kind, .slice A key.length c, .int .i32 part, .int .i32 n] w fun e w' => e = .returned (.int .i32 (ansOf kind key part n)) ∧ Kept [] w w' := by
  rcases (by omega : kind = 0 ∨ kind = 1 ∨ kind = 2 ∨ kind = 3 ∨ kind = 4) with rfl | rfl | rfl | rfl | rfl
  · exact (specPart0 A c key part n w h hk hn hn2).mono fun e w' ⟨h1, h2⟩ => ⟨h1, h2 ▸ Kept.refl _ _⟩
  · exact (specPart1 A c key part n w h hk hn).mono fun e w' ⟨h1, h2⟩ => ⟨h1, h2 ▸ Kept.refl _ _⟩
  · exact (specPart2 A c key part n w h hk hn hn2).mono fun e w' ⟨h1, h2⟩ => ⟨h1, h2 ▸ Kept.refl _ _⟩
  · exact specPart3 A c key part n w h hk hn
  · exact (specPart4 _ key part n w).mono fun e w' ⟨h1, h2⟩ => ⟨h1, h2 ▸ Kept.refl _ _⟩
end Go.Proofs.YtghgffhcdnmpnaaGreat
