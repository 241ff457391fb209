/-
  DERIVED: THE SHELF's CONTRACTS AT THIS DUMP, IN PLAIN WORDS (tools/lay-plain.mjs out of 'YtghgffhcdnmpnaaGreatShelf.lean', which tools/lay-shelf.mjs wrote): THE SAME DECLARATIONS UNDER THE SAME NAMES: 'import', 'namespace', 'open', 'def', 'theorem' AND NOTHING ELSE: no command of the shelf's: FOR A HAND-IN. Each laying: the table of numbers ('.._ren') and one theorem, a field a fact of the dump's own or the kernel's comparison; each contract: ONE APPLICATION.
-/
import Derived.Shelf.Small.Bits
import Derived.Shelf.Small.Strs
import Derived.Shelf.Strconv.Itoa0
import Derived.Shelf.Strconv.Itoa1
import Derived.Shelf.LaysM
import Derived.Shelf.Strconv.Itoa2
import Derived.Shelf.Strconv.Itoa3
import Derived.Ground.MnProg
import Derived.Shelf.Bin.LEUint32
import Derived.Shelf.Bin.BEUint16
import Derived.Shelf.Bin.BEUint32
import Derived.Shelf.Bin.BEUint32Panics
import Derived.Shelf.Sort.Plain
import Derived.Shelf.Bin.ReadersZ
import Derived.Ground.GgtProg
import Derived.Shelf.GgSortMore.Iface
import Derived.Shelf.GgSortMore.IfaceD
import Derived.Shelf.GgSortMore.IfacePart
import Derived.Shelf.GgSortMore.IfacePdq
import Derived.Shelf.GgSortMore.SortSort
import Derived.Ground.GguProg
import Derived.Shelf.GgSortLib.LibTypes
import Derived.Shelf.Slices.Turned
import Derived.Ground.Names2Prog
import Derived.Shelf.Slices.Clone
import Derived.Ground.GgsProg
import Derived.Shelf.SlSortFunc.Xorshift
import Derived.Shelf.SlSortIface.SiftDown
import Derived.Shelf.SlSortIface.HeapSort
import Derived.Shelf.SlSortIface.PartialInsertion
import Derived.Ground.SlgnProg
import Derived.Shelf.SlicesE.Clone
import Derived.Test.YtghgffhcdnmpnaaGreatProg
namespace Go.Proofs
open Go.Shelf
def Tryz.lays128_ren : Go.Shelf.Ren := ⟨fun | 128 => 86 | n => n, fun | 51 => 69 | 3 => 3 | 4 => 4 | 46 => 99 | 5 => 5 | 9 => 9 | n => n, fun | n => n⟩
theorem Tryz.lays128 : Go.Proofs.Lays.n128 Tryz.prog Tryz.lays128_ren := {
  mixed := by kernel_rfl
  f128 := Tryz.func86.trans (congrArg some (by kernel_rfl))
  t3 := Tryz.underlying3
  a3 := Tryz.isAgg3
  z3 := Tryz.sizeOf3
  v3 := Tryz.zeroValue3
  t4 := Tryz.underlying4
  a4 := Tryz.isAgg4
  z4 := Tryz.sizeOf4
  v4 := Tryz.zeroValue4
  t5 := Tryz.underlying5
  a5 := Tryz.isAgg5
  z5 := Tryz.sizeOf5
  v5 := Tryz.zeroValue5
  t9 := Tryz.underlying9
  a9 := Tryz.isAgg9
  z9 := Tryz.sizeOf9
  v9 := Tryz.zeroValue9
  t46 := Tryz.underlying99
  a46 := Tryz.isAgg99
  z46 := Tryz.sizeOf99
  v46 := Tryz.zeroValue99
  t51 := Tryz.underlying69
  a51 := Tryz.isAgg69
  z51 := Tryz.sizeOf69
  v51 := Tryz.zeroValue69 }
/-- bits.Len32: "Len32 returns the minimum number of bits required to represent x; the result is 0 for x == 0.": IT RETURNS 'Lib.bitLen x'; the world is as it was. ('h0', 'h1': x is a uint32.) (LAID: no walk: one application.) -/
theorem Tryz.bits_Len32 (x : Int) (w : World) (h0 : 0 ≤ x) (h1 : x ≤ 4294967295) :
    Calls Tryz.prog 86 #[.int .u32 x] w fun e w' => e = .returned (.int .i64 (Lib.bitLen x.toNat)) ∧ w' = w := Any.bits_Len32 Tryz.lays128 x w h0 h1
def Tryz.lays125_ren : Go.Shelf.Ren := ⟨fun | 125 => 66 | 128 => 86 | 129 => 87 | n => n, fun | 46 => 99 | 3 => 3 | 51 => 69 | 53 => 158 | 4 => 4 | 5 => 5 | 9 => 9 | n => n, fun | n => n⟩
theorem Tryz.lays125 : Go.Proofs.Lays.n125 Tryz.prog Tryz.lays125_ren := {
  mixed := by kernel_rfl
  f125 := Tryz.func66.trans (congrArg some (by kernel_rfl))
  f128 := Tryz.func86.trans (congrArg some (by kernel_rfl))
  f129 := Tryz.func87.trans (congrArg some (by kernel_rfl))
  t3 := Tryz.underlying3
  a3 := Tryz.isAgg3
  z3 := Tryz.sizeOf3
  v3 := Tryz.zeroValue3
  t4 := Tryz.underlying4
  a4 := Tryz.isAgg4
  z4 := Tryz.sizeOf4
  v4 := Tryz.zeroValue4
  t5 := Tryz.underlying5
  a5 := Tryz.isAgg5
  z5 := Tryz.sizeOf5
  v5 := Tryz.zeroValue5
  t9 := Tryz.underlying9
  a9 := Tryz.isAgg9
  z9 := Tryz.sizeOf9
  v9 := Tryz.zeroValue9
  t46 := Tryz.underlying99
  a46 := Tryz.isAgg99
  z46 := Tryz.sizeOf99
  v46 := Tryz.zeroValue99
  t51 := Tryz.underlying69
  a51 := Tryz.isAgg69
  z51 := Tryz.sizeOf69
  v51 := Tryz.zeroValue69
  t53 := Tryz.underlying158
  a53 := Tryz.isAgg158
  z53 := Tryz.sizeOf158
  v53 := Tryz.zeroValue158 }
/-- bits.Len: "Len returns the minimum number of bits required to represent x; the result is 0 for x == 0.": IT RETURNS 'Lib.bitLen x'; the world is as it was. (A uint has 64 bits in the model.) ITS CALLEE bits.Len64 IS MET BY ITS OWN CONTRACT OFF THE SHELF (lay that first). (LAID: no walk: one application.) -/
theorem Tryz.bits_Len (x : Int) (w : World) (h0 : 0 ≤ x) (h1 : x ≤ 18446744073709551615) :
    Calls Tryz.prog 66 #[.int .u64 x] w fun e w' => e = .returned (.int .i64 (Lib.bitLen x.toNat)) ∧ w' = w := Any.bits_Len Tryz.lays125 x w h0 h1
def Tryz.lays213_ren : Go.Shelf.Ren := ⟨fun | 213 => 237 | 265 => 241 | n => n, fun | 9 => 9 | 3 => 3 | n => n, fun | n => n⟩
theorem Tryz.lays213 : Go.Proofs.Lays.n213 Tryz.prog Tryz.lays213_ren := {
  mixed := by kernel_rfl
  f213 := Tryz.func237.trans (congrArg some (by kernel_rfl))
  f265 := Tryz.func241.trans (congrArg some (by kernel_rfl))
  t3 := Tryz.underlying3
  a3 := Tryz.isAgg3
  z3 := Tryz.sizeOf3
  v3 := Tryz.zeroValue3
  t9 := Tryz.underlying9
  a9 := Tryz.isAgg9
  z9 := Tryz.sizeOf9
  v9 := Tryz.zeroValue9 }
open Go.RowKit in
/-- internal/bytealg.CompareString (what strings.Compare calls): IT RETURNS 'Lib.compareBytes a b'; the world is as it was. (LAID: no walk: one application.) -/
theorem Tryz.bytealg_CompareString (a b : ByteArray) (w : World) :
    Calls Tryz.prog 237 #[.string a, .string b] w fun e w' => e = .returned (.int .i64 (Lib.compareBytes a.data.toList b.data.toList)) ∧ w' = w := Any.bytealg_CompareString Tryz.lays213 a b w
def Tryz.lays106_ren : Go.Shelf.Ren := ⟨fun | 106 => 231 | 213 => 237 | 265 => 241 | n => n, fun | 9 => 9 | 3 => 3 | n => n, fun | n => n⟩
theorem Tryz.lays106 : Go.Proofs.Lays.n106 Tryz.prog Tryz.lays106_ren := {
  mixed := by kernel_rfl
  f106 := Tryz.func231.trans (congrArg some (by kernel_rfl))
  f213 := Tryz.func237.trans (congrArg some (by kernel_rfl))
  f265 := Tryz.func241.trans (congrArg some (by kernel_rfl))
  t3 := Tryz.underlying3
  a3 := Tryz.isAgg3
  z3 := Tryz.sizeOf3
  v3 := Tryz.zeroValue3
  t9 := Tryz.underlying9
  a9 := Tryz.isAgg9
  z9 := Tryz.sizeOf9
  v9 := Tryz.zeroValue9 }
open Go.RowKit in
/-- strings.Compare: "Compare returns an integer comparing two strings lexicographically. The result will be 0 if a == b, -1 if a < b, and +1 if a > b.": IT RETURNS 'Lib.compareBytes a b'; the world is as it was. (LAID: no walk: one application.) -/
theorem Tryz.strings_Compare (a b : ByteArray) (w : World) :
    Calls Tryz.prog 231 #[.string a, .string b] w fun e w' => e = .returned (.int .i64 (Lib.compareBytes a.data.toList b.data.toList)) ∧ w' = w := Any.strings_Compare Tryz.lays106 a b w
def Tryz.lays129_ren : Go.Shelf.Ren := ⟨fun | 129 => 87 | n => n, fun | 53 => 158 | 3 => 3 | 4 => 4 | 46 => 99 | 5 => 5 | 9 => 9 | n => n, fun | n => n⟩
theorem Tryz.lays129 : Go.Proofs.Lays.n129 Tryz.prog Tryz.lays129_ren := {
  mixed := by kernel_rfl
  f129 := Tryz.func87.trans (congrArg some (by kernel_rfl))
  t3 := Tryz.underlying3
  a3 := Tryz.isAgg3
  z3 := Tryz.sizeOf3
  v3 := Tryz.zeroValue3
  t4 := Tryz.underlying4
  a4 := Tryz.isAgg4
  z4 := Tryz.sizeOf4
  v4 := Tryz.zeroValue4
  t5 := Tryz.underlying5
  a5 := Tryz.isAgg5
  z5 := Tryz.sizeOf5
  v5 := Tryz.zeroValue5
  t9 := Tryz.underlying9
  a9 := Tryz.isAgg9
  z9 := Tryz.sizeOf9
  v9 := Tryz.zeroValue9
  t46 := Tryz.underlying99
  a46 := Tryz.isAgg99
  z46 := Tryz.sizeOf99
  v46 := Tryz.zeroValue99
  t53 := Tryz.underlying158
  a53 := Tryz.isAgg158
  z53 := Tryz.sizeOf158
  v53 := Tryz.zeroValue158 }
/-- bits.Len64: "Len64 returns the minimum number of bits required to represent x; the result is 0 for x == 0.": IT RETURNS 'Lib.bitLen x'; the world is as it was. ('h0', 'h1': x is a uint64.) (LAID: no walk: one application.) -/
theorem Tryz.bits_Len64 (x : Int) (w : World) (h0 : 0 ≤ x) (h1 : x ≤ 18446744073709551615) :
    Calls Tryz.prog 87 #[.int .u64 x] w fun e w' => e = .returned (.int .i64 (Lib.bitLen x.toNat)) ∧ w' = w := Any.bits_Len64 Tryz.lays129 x w h0 h1
def Tryz.lays317_ren : Go.Shelf.Ren := ⟨fun | 317 => 185 | n => n, fun | 3 => 3 | 46 => 99 | n => n, fun | n => n⟩
theorem Tryz.lays317 : Go.Proofs.Lays.n317 Tryz.prog Tryz.lays317_ren := {
  mixed := by kernel_rfl
  f317 := Tryz.func185.trans (congrArg some (by kernel_rfl))
  t3 := Tryz.underlying3
  a3 := Tryz.isAgg3
  z3 := Tryz.sizeOf3
  v3 := Tryz.zeroValue3
  t46 := Tryz.underlying99
  a46 := Tryz.isAgg99
  z46 := Tryz.sizeOf99
  v46 := Tryz.zeroValue99 }
open Go.Lib in
/-- internal/strconv.log10Pow2: "log10Pow2(x) returns ⌊log₁₀ 2**x⌋ = ⌊x * log₁₀ 2⌋.": '(x * 78913) >> 18', at an x up to 64 (a length in bits). The world is as it was. (LAID: no walk: one application.) -/
theorem Tryz.internal_strconv_log10Pow2 (x : Nat) (h : x ≤ 64) (w : World) :
    Calls Tryz.prog 185 #[.int .i64 x] w fun e w' => e = .returned (.int .i64 (Lib.l10 x)) ∧ w' = w := Any.internal_strconv_log10Pow2 Tryz.lays317 x h w
def Tryz.lays318_ren : Go.Shelf.Ren := ⟨fun | 318 => 186 | n => n, fun | 3 => 3 | 4 => 4 | n => n, fun | n => n⟩
theorem Tryz.lays318 : Go.Proofs.Lays.n318 Tryz.prog Tryz.lays318_ren := {
  mixed := by kernel_rfl
  f318 := Tryz.func186.trans (congrArg some (by kernel_rfl))
  t3 := Tryz.underlying3
  a3 := Tryz.isAgg3
  z3 := Tryz.sizeOf3
  v3 := Tryz.zeroValue3
  t4 := Tryz.underlying4
  a4 := Tryz.isAgg4
  z4 := Tryz.sizeOf4
  v4 := Tryz.zeroValue4 }
open Go.Lib in
/-- internal/strconv.bool2: "bool2 converts b to an integer: 1 for true, 0 for false." The world is as it was. (LAID: no walk: one application.) -/
theorem Tryz.internal_strconv_bool2_int (b : Bool) (w : World) :
    Calls Tryz.prog 186 #[.bool b] w fun e w' => e = .returned (.int .i64 (if b then 1 else 0)) ∧ w' = w := Any.internal_strconv_bool2_int Tryz.lays318 b w
def Tryz.lays283_ren : Go.Shelf.Ren := ⟨fun | 283 => 181 | n => n, fun | 3 => 3 | 9 => 9 | 4 => 4 | n => n, fun | n => n⟩
theorem Tryz.lays283 : Go.Proofs.Lays.n283 Tryz.prog Tryz.lays283_ren := {
  mixed := by kernel_rfl
  f283 := Tryz.func181.trans (congrArg some (by kernel_rfl))
  t3 := Tryz.underlying3
  a3 := Tryz.isAgg3
  z3 := Tryz.sizeOf3
  v3 := Tryz.zeroValue3
  t4 := Tryz.underlying4
  a4 := Tryz.isAgg4
  z4 := Tryz.sizeOf4
  v4 := Tryz.zeroValue4
  t9 := Tryz.underlying9
  a9 := Tryz.isAgg9
  z9 := Tryz.sizeOf9
  v9 := Tryz.zeroValue9 }
open Go.Lib in
/-- internal/strconv.small: "small returns the string for an i with 0 <= i < nSmalls.": i's decimal numeral. The world is as it was. (LAID: no walk: one application.) -/
theorem Tryz.internal_strconv_small (i : Nat) (h : i < 100) (w : World) :
    Calls Tryz.prog 181 #[.int .i64 i] w fun e w' => e = .returned (.string ⟨(Lib.decDigits i).toArray⟩) ∧ w' = w := Any.internal_strconv_small Tryz.lays283 i h w
def Tryz.laysM284_ren : Go.Shelf.Ren := ⟨fun | 284 => 182 | 129 => 87 | 317 => 185 | 318 => 186 | n => n, fun | 53 => 158 | 3 => 3 | 212 => 257 | 0 => 0 | 4 => 4 | 46 => 99 | 5 => 5 | 9 => 9 | n => n, fun | 17 => 2 | n => n⟩
theorem Tryz.laysM284 : Go.Proofs.LaysM.n284 Tryz.prog Tryz.laysM284_ren := {
  mixed := by kernel_rfl
  f129 := Tryz.func87.trans (congrArg some (by kernel_rfl))
  f284 := Tryz.func182.trans (congrArg some (by kernel_rfl))
  f317 := Tryz.func185.trans (congrArg some (by kernel_rfl))
  f318 := Tryz.func186.trans (congrArg some (by kernel_rfl))
  t0 := Tryz.underlying0
  a0 := Tryz.isAgg0
  z0 := Tryz.sizeOf0
  v0 := Tryz.zeroValue0
  t3 := Tryz.underlying3
  a3 := Tryz.isAgg3
  z3 := Tryz.sizeOf3
  v3 := Tryz.zeroValue3
  t4 := Tryz.underlying4
  a4 := Tryz.isAgg4
  z4 := Tryz.sizeOf4
  v4 := Tryz.zeroValue4
  t5 := Tryz.underlying5
  a5 := Tryz.isAgg5
  z5 := Tryz.sizeOf5
  v5 := Tryz.zeroValue5
  t9 := Tryz.underlying9
  a9 := Tryz.isAgg9
  z9 := Tryz.sizeOf9
  v9 := Tryz.zeroValue9
  t46 := Tryz.underlying99
  a46 := Tryz.isAgg99
  z46 := Tryz.sizeOf99
  v46 := Tryz.zeroValue99
  t53 := Tryz.underlying158
  a53 := Tryz.isAgg158
  z53 := Tryz.sizeOf158
  v53 := Tryz.zeroValue158
  t212 := Tryz.underlying257
  a212 := Tryz.isAgg257
  z212 := Tryz.sizeOf257
  v212 := Tryz.zeroValue257
  g17 := by kernel_rfl
  i0 := by kernel_rfl
  i3 := by kernel_rfl
  i4 := by kernel_rfl
  i5 := by kernel_rfl
  i9 := by kernel_rfl
  i46 := by kernel_rfl
  i53 := by kernel_rfl
  i212 := by kernel_rfl
  m17 := by kernel_rfl }
open Go.Lib in
/-- internal/strconv.numDigits, at a d that is not 0: THE NUMBER OF d's DECIMAL DIGITS. The world is as it was. (LAID: no walk: one application.) -/
theorem Tryz.internal_strconv_numDigits (u : Nat) (h1 : 1 ≤ u) (h2 : u < 18446744073709551616) (w : World) (htab : Lib.TabIs Tryz.prog w "internal/strconv.uint64pow10" .u64 Lib.pow10Tab) :
    Calls Tryz.prog 182 #[.int .u64 u] w fun e w' => e = .returned (.int .i64 (Lib.nDigits u)) ∧ w' = w := Any.internal_strconv_numDigits Tryz.laysM284 u h1 h2 w htab
def Tryz.lays285_ren : Go.Shelf.Ren := ⟨fun | 285 => 183 | n => n, fun | 37 => 22 | 53 => 158 | 3 => 3 | 4 => 4 | 51 => 69 | 9 => 9 | 5 => 5 | 0 => 0 | n => n, fun | n => n⟩
theorem Tryz.lays285 : Go.Proofs.Lays.n285 Tryz.prog Tryz.lays285_ren := {
  mixed := by kernel_rfl
  f285 := Tryz.func183.trans (congrArg some (by kernel_rfl))
  t0 := Tryz.underlying0
  a0 := Tryz.isAgg0
  z0 := Tryz.sizeOf0
  v0 := Tryz.zeroValue0
  t3 := Tryz.underlying3
  a3 := Tryz.isAgg3
  z3 := Tryz.sizeOf3
  v3 := Tryz.zeroValue3
  t4 := Tryz.underlying4
  a4 := Tryz.isAgg4
  z4 := Tryz.sizeOf4
  v4 := Tryz.zeroValue4
  t5 := Tryz.underlying5
  a5 := Tryz.isAgg5
  z5 := Tryz.sizeOf5
  v5 := Tryz.zeroValue5
  t9 := Tryz.underlying9
  a9 := Tryz.isAgg9
  z9 := Tryz.sizeOf9
  v9 := Tryz.zeroValue9
  t37 := Tryz.underlying22
  a37 := Tryz.isAgg22
  z37 := Tryz.sizeOf22
  v37 := Tryz.zeroValue22
  t51 := Tryz.underlying69
  a51 := Tryz.isAgg69
  z51 := Tryz.sizeOf69
  v51 := Tryz.zeroValue69
  t53 := Tryz.underlying158
  a53 := Tryz.isAgg158
  z53 := Tryz.sizeOf158
  v53 := Tryz.zeroValue158 }
open Go.RowKit Go.Sort Go.Lib in
/-- internal/strconv.formatBase10: "formatBase10 formats the decimal representation of u into a. The caller is responsible for ensuring that a is big enough to hold u. If a is too big, leading zeros will be filled in as needed.": THE ROW HOLDS u's DIGITS ('FmtInv .. 0 ..': every place t holds 'dg u (len - 1 - t)'); all else is as it was but for the count of draws. (LAID: no walk: one application.) -/
theorem Tryz.internal_strconv_formatBase10 (blk off cap : Nat) (u : Nat) (d : Array UInt8) (w : World) (hH : Holds (fun (b : UInt8) => Value.int .u8 (b.toNat : Int)) w blk off d) (hu : u < 10 ^ d.size) (hu64 : u < 18446744073709551616) (hsz : d.size < 4611686018427387904) :
    Calls Tryz.prog 183 #[.slice (some ⟨blk, off, none⟩) d.size cap, .int .u64 u] w fun e w' =>
      e = .returned (.tuple #[]) ∧ ∃ (n v' : Nat) (dk : Array UInt8), w' = (putRow (fun (b : UInt8) => Value.int .u8 (b.toNat : Int)) w blk off dk).drewN n ∧ FmtInv d.size u 0 v' dk := Any.internal_strconv_formatBase10 Tryz.lays285 blk off cap u d w hH hu hu64 hsz
def Tryz.laysM246_ren : Go.Shelf.Ren := ⟨fun | 246 => 180 | 283 => 181 | 284 => 182 | 285 => 183 | 286 => 184 | 129 => 87 | 317 => 185 | 318 => 186 | 319 => 187 | 320 => 188 | 337 => 189 | 338 => 190 | n => n, fun | 2 => 2 | 3 => 3 | 9 => 9 | 4 => 4 | 171 => 251 | 0 => 0 | 53 => 158 | 37 => 22 | 5 => 5 | 173 => 253 | 212 => 257 | 51 => 69 | 20 => 20 | 213 => 258 | 46 => 99 | 232 => 260 | 233 => 261 | n => n, fun | 17 => 2 | 18 => 3 | 19 => 4 | n => n⟩
theorem Tryz.laysM246 : Go.Proofs.LaysM.n246 Tryz.prog Tryz.laysM246_ren := {
  mixed := by kernel_rfl
  f129 := Tryz.func87.trans (congrArg some (by kernel_rfl))
  f246 := Tryz.func180.trans (congrArg some (by kernel_rfl))
  f283 := Tryz.func181.trans (congrArg some (by kernel_rfl))
  f284 := Tryz.func182.trans (congrArg some (by kernel_rfl))
  f285 := Tryz.func183.trans (congrArg some (by kernel_rfl))
  f286 := Tryz.func184.trans (congrArg some (by kernel_rfl))
  f317 := Tryz.func185.trans (congrArg some (by kernel_rfl))
  f318 := Tryz.func186.trans (congrArg some (by kernel_rfl))
  f319 := Tryz.func187.trans (congrArg some (by kernel_rfl))
  f320 := Tryz.func188.trans (congrArg some (by kernel_rfl))
  f337 := Tryz.func189.trans (congrArg some (by kernel_rfl))
  f338 := Tryz.func190.trans (congrArg some (by kernel_rfl))
  t0 := Tryz.underlying0
  a0 := Tryz.isAgg0
  z0 := Tryz.sizeOf0
  v0 := Tryz.zeroValue0
  t2 := Tryz.underlying2
  a2 := Tryz.isAgg2
  z2 := Tryz.sizeOf2
  v2 := Tryz.zeroValue2
  t3 := Tryz.underlying3
  a3 := Tryz.isAgg3
  z3 := Tryz.sizeOf3
  v3 := Tryz.zeroValue3
  t4 := Tryz.underlying4
  a4 := Tryz.isAgg4
  z4 := Tryz.sizeOf4
  v4 := Tryz.zeroValue4
  t5 := Tryz.underlying5
  a5 := Tryz.isAgg5
  z5 := Tryz.sizeOf5
  v5 := Tryz.zeroValue5
  t9 := Tryz.underlying9
  a9 := Tryz.isAgg9
  z9 := Tryz.sizeOf9
  v9 := Tryz.zeroValue9
  t20 := Tryz.underlying20
  a20 := Tryz.isAgg20
  z20 := Tryz.sizeOf20
  v20 := Tryz.zeroValue20
  t37 := Tryz.underlying22
  a37 := Tryz.isAgg22
  z37 := Tryz.sizeOf22
  v37 := Tryz.zeroValue22
  t46 := Tryz.underlying99
  a46 := Tryz.isAgg99
  z46 := Tryz.sizeOf99
  v46 := Tryz.zeroValue99
  t51 := Tryz.underlying69
  a51 := Tryz.isAgg69
  z51 := Tryz.sizeOf69
  v51 := Tryz.zeroValue69
  t53 := Tryz.underlying158
  a53 := Tryz.isAgg158
  z53 := Tryz.sizeOf158
  v53 := Tryz.zeroValue158
  t171 := Tryz.underlying251
  a171 := Tryz.isAgg251
  z171 := Tryz.sizeOf251
  v171 := Tryz.zeroValue251
  t173 := Tryz.underlying253
  a173 := Tryz.isAgg253
  z173 := Tryz.sizeOf253
  v173 := Tryz.zeroValue253
  t212 := Tryz.underlying257
  a212 := Tryz.isAgg257
  z212 := Tryz.sizeOf257
  v212 := Tryz.zeroValue257
  t213 := Tryz.underlying258
  a213 := Tryz.isAgg258
  z213 := Tryz.sizeOf258
  t232 := Tryz.underlying260
  a232 := Tryz.isAgg260
  z232 := Tryz.sizeOf260
  v232 := Tryz.zeroValue260
  t233 := Tryz.underlying261
  a233 := Tryz.isAgg261
  z233 := Tryz.sizeOf261
  v233 := Tryz.zeroValue261
  g17 := by kernel_rfl
  g18 := by kernel_rfl
  g19 := by kernel_rfl
  i0 := by kernel_rfl
  i2 := by kernel_rfl
  i3 := by kernel_rfl
  i4 := by kernel_rfl
  i5 := by kernel_rfl
  i9 := by kernel_rfl
  i20 := by kernel_rfl
  i37 := by kernel_rfl
  i46 := by kernel_rfl
  i51 := by kernel_rfl
  i53 := by kernel_rfl
  i171 := by kernel_rfl
  i173 := by kernel_rfl
  i212 := by kernel_rfl
  i232 := by kernel_rfl
  i233 := by kernel_rfl
  m17 := by kernel_rfl
  m18 := by kernel_rfl
  m19 := by kernel_rfl }
open Go.RowKit Go.Sort Go.Lib in
/-- internal/strconv.FormatInt: "FormatInt returns the string representation of i in the given base": AT BASE 10: i's decimal numeral, for every int64. The world behind the call: the world before it, new blocks behind the heap, draws. (LAID: no walk: one application.) -/
theorem Tryz.internal_strconv_FormatInt_10 (n : Int) (h0 : -9223372036854775808 ≤ n) (h1 : n ≤ 9223372036854775807) (w : World) (htab : Lib.TabIs Tryz.prog w "internal/strconv.uint64pow10" .u64 Lib.pow10Tab) :
    Calls Tryz.prog 180 #[.int .i64 n, .int .i64 10] w fun e w' => e = .returned (.string ⟨(Lib.itoa n).toArray⟩) ∧ ∃ k os, w' = grow (w.drewN k) os := Any.internal_strconv_FormatInt_10 Tryz.laysM246 n h0 h1 w htab
def Tryz.lays246_ren : Go.Shelf.Ren := ⟨fun | 246 => 180 | 283 => 181 | 284 => 182 | 285 => 183 | 286 => 184 | 129 => 87 | 317 => 185 | 318 => 186 | 319 => 187 | 320 => 188 | 337 => 189 | 338 => 190 | n => n, fun | 2 => 2 | 3 => 3 | 9 => 9 | 4 => 4 | 171 => 251 | 0 => 0 | 53 => 158 | 37 => 22 | 5 => 5 | 173 => 253 | 212 => 257 | 51 => 69 | 20 => 20 | 213 => 258 | 46 => 99 | 232 => 260 | 233 => 261 | n => n, fun | 17 => 2 | 18 => 3 | 19 => 4 | n => n⟩
theorem Tryz.lays246 : Go.Proofs.Lays.n246 Tryz.prog Tryz.lays246_ren := {
  mixed := by kernel_rfl
  f129 := Tryz.func87.trans (congrArg some (by kernel_rfl))
  f246 := Tryz.func180.trans (congrArg some (by kernel_rfl))
  f283 := Tryz.func181.trans (congrArg some (by kernel_rfl))
  f284 := Tryz.func182.trans (congrArg some (by kernel_rfl))
  f285 := Tryz.func183.trans (congrArg some (by kernel_rfl))
  f286 := Tryz.func184.trans (congrArg some (by kernel_rfl))
  f317 := Tryz.func185.trans (congrArg some (by kernel_rfl))
  f318 := Tryz.func186.trans (congrArg some (by kernel_rfl))
  f319 := Tryz.func187.trans (congrArg some (by kernel_rfl))
  f320 := Tryz.func188.trans (congrArg some (by kernel_rfl))
  f337 := Tryz.func189.trans (congrArg some (by kernel_rfl))
  f338 := Tryz.func190.trans (congrArg some (by kernel_rfl))
  t0 := Tryz.underlying0
  a0 := Tryz.isAgg0
  z0 := Tryz.sizeOf0
  v0 := Tryz.zeroValue0
  t2 := Tryz.underlying2
  a2 := Tryz.isAgg2
  z2 := Tryz.sizeOf2
  v2 := Tryz.zeroValue2
  t3 := Tryz.underlying3
  a3 := Tryz.isAgg3
  z3 := Tryz.sizeOf3
  v3 := Tryz.zeroValue3
  t4 := Tryz.underlying4
  a4 := Tryz.isAgg4
  z4 := Tryz.sizeOf4
  v4 := Tryz.zeroValue4
  t5 := Tryz.underlying5
  a5 := Tryz.isAgg5
  z5 := Tryz.sizeOf5
  v5 := Tryz.zeroValue5
  t9 := Tryz.underlying9
  a9 := Tryz.isAgg9
  z9 := Tryz.sizeOf9
  v9 := Tryz.zeroValue9
  t20 := Tryz.underlying20
  a20 := Tryz.isAgg20
  z20 := Tryz.sizeOf20
  v20 := Tryz.zeroValue20
  t37 := Tryz.underlying22
  a37 := Tryz.isAgg22
  z37 := Tryz.sizeOf22
  v37 := Tryz.zeroValue22
  t46 := Tryz.underlying99
  a46 := Tryz.isAgg99
  z46 := Tryz.sizeOf99
  v46 := Tryz.zeroValue99
  t51 := Tryz.underlying69
  a51 := Tryz.isAgg69
  z51 := Tryz.sizeOf69
  v51 := Tryz.zeroValue69
  t53 := Tryz.underlying158
  a53 := Tryz.isAgg158
  z53 := Tryz.sizeOf158
  v53 := Tryz.zeroValue158
  t171 := Tryz.underlying251
  a171 := Tryz.isAgg251
  z171 := Tryz.sizeOf251
  v171 := Tryz.zeroValue251
  t173 := Tryz.underlying253
  a173 := Tryz.isAgg253
  z173 := Tryz.sizeOf253
  v173 := Tryz.zeroValue253
  t212 := Tryz.underlying257
  a212 := Tryz.isAgg257
  z212 := Tryz.sizeOf257
  v212 := Tryz.zeroValue257
  t213 := Tryz.underlying258
  a213 := Tryz.isAgg258
  z213 := Tryz.sizeOf258
  t232 := Tryz.underlying260
  a232 := Tryz.isAgg260
  z232 := Tryz.sizeOf260
  v232 := Tryz.zeroValue260
  t233 := Tryz.underlying261
  a233 := Tryz.isAgg261
  z233 := Tryz.sizeOf261
  v233 := Tryz.zeroValue261
  g17 := by kernel_rfl
  g18 := by kernel_rfl
  g19 := by kernel_rfl }
open Go.RowKit Go.Sort Go.Lib in
/-- THE ROAD WITHOUT THE TABLE: 0 <= i < 100: two constants are read, nothing is laid: no premise on the world, and the world is as it was. (LAID: no walk: one application.) -/
theorem Tryz.internal_strconv_FormatInt_10_small (i : Nat) (hi : i < 100) (w : World) :
    Calls Tryz.prog 180 #[.int .i64 i, .int .i64 10] w fun e w' => e = .returned (.string ⟨(Lib.decDigits i).toArray⟩) ∧ w' = w := Any.internal_strconv_FormatInt_10_small Tryz.lays246 i hi w
def Tryz.laysM243_ren : Go.Shelf.Ren := ⟨fun | 243 => 179 | 246 => 180 | 283 => 181 | 284 => 182 | 285 => 183 | 286 => 184 | 129 => 87 | 317 => 185 | 318 => 186 | 319 => 187 | 320 => 188 | 337 => 189 | 338 => 190 | n => n, fun | 3 => 3 | 9 => 9 | 2 => 2 | 4 => 4 | 171 => 251 | 0 => 0 | 53 => 158 | 37 => 22 | 5 => 5 | 173 => 253 | 212 => 257 | 51 => 69 | 20 => 20 | 213 => 258 | 46 => 99 | 232 => 260 | 233 => 261 | n => n, fun | 17 => 2 | 18 => 3 | 19 => 4 | n => n⟩
theorem Tryz.laysM243 : Go.Proofs.LaysM.n243 Tryz.prog Tryz.laysM243_ren := {
  mixed := by kernel_rfl
  f129 := Tryz.func87.trans (congrArg some (by kernel_rfl))
  f243 := Tryz.func179.trans (congrArg some (by kernel_rfl))
  f246 := Tryz.func180.trans (congrArg some (by kernel_rfl))
  f283 := Tryz.func181.trans (congrArg some (by kernel_rfl))
  f284 := Tryz.func182.trans (congrArg some (by kernel_rfl))
  f285 := Tryz.func183.trans (congrArg some (by kernel_rfl))
  f286 := Tryz.func184.trans (congrArg some (by kernel_rfl))
  f317 := Tryz.func185.trans (congrArg some (by kernel_rfl))
  f318 := Tryz.func186.trans (congrArg some (by kernel_rfl))
  f319 := Tryz.func187.trans (congrArg some (by kernel_rfl))
  f320 := Tryz.func188.trans (congrArg some (by kernel_rfl))
  f337 := Tryz.func189.trans (congrArg some (by kernel_rfl))
  f338 := Tryz.func190.trans (congrArg some (by kernel_rfl))
  t0 := Tryz.underlying0
  a0 := Tryz.isAgg0
  z0 := Tryz.sizeOf0
  v0 := Tryz.zeroValue0
  t2 := Tryz.underlying2
  a2 := Tryz.isAgg2
  z2 := Tryz.sizeOf2
  v2 := Tryz.zeroValue2
  t3 := Tryz.underlying3
  a3 := Tryz.isAgg3
  z3 := Tryz.sizeOf3
  v3 := Tryz.zeroValue3
  t4 := Tryz.underlying4
  a4 := Tryz.isAgg4
  z4 := Tryz.sizeOf4
  v4 := Tryz.zeroValue4
  t5 := Tryz.underlying5
  a5 := Tryz.isAgg5
  z5 := Tryz.sizeOf5
  v5 := Tryz.zeroValue5
  t9 := Tryz.underlying9
  a9 := Tryz.isAgg9
  z9 := Tryz.sizeOf9
  v9 := Tryz.zeroValue9
  t20 := Tryz.underlying20
  a20 := Tryz.isAgg20
  z20 := Tryz.sizeOf20
  v20 := Tryz.zeroValue20
  t37 := Tryz.underlying22
  a37 := Tryz.isAgg22
  z37 := Tryz.sizeOf22
  v37 := Tryz.zeroValue22
  t46 := Tryz.underlying99
  a46 := Tryz.isAgg99
  z46 := Tryz.sizeOf99
  v46 := Tryz.zeroValue99
  t51 := Tryz.underlying69
  a51 := Tryz.isAgg69
  z51 := Tryz.sizeOf69
  v51 := Tryz.zeroValue69
  t53 := Tryz.underlying158
  a53 := Tryz.isAgg158
  z53 := Tryz.sizeOf158
  v53 := Tryz.zeroValue158
  t171 := Tryz.underlying251
  a171 := Tryz.isAgg251
  z171 := Tryz.sizeOf251
  v171 := Tryz.zeroValue251
  t173 := Tryz.underlying253
  a173 := Tryz.isAgg253
  z173 := Tryz.sizeOf253
  v173 := Tryz.zeroValue253
  t212 := Tryz.underlying257
  a212 := Tryz.isAgg257
  z212 := Tryz.sizeOf257
  v212 := Tryz.zeroValue257
  t213 := Tryz.underlying258
  a213 := Tryz.isAgg258
  z213 := Tryz.sizeOf258
  t232 := Tryz.underlying260
  a232 := Tryz.isAgg260
  z232 := Tryz.sizeOf260
  v232 := Tryz.zeroValue260
  t233 := Tryz.underlying261
  a233 := Tryz.isAgg261
  z233 := Tryz.sizeOf261
  v233 := Tryz.zeroValue261
  g17 := by kernel_rfl
  g18 := by kernel_rfl
  g19 := by kernel_rfl
  i0 := by kernel_rfl
  i2 := by kernel_rfl
  i3 := by kernel_rfl
  i4 := by kernel_rfl
  i5 := by kernel_rfl
  i9 := by kernel_rfl
  i20 := by kernel_rfl
  i37 := by kernel_rfl
  i46 := by kernel_rfl
  i51 := by kernel_rfl
  i53 := by kernel_rfl
  i171 := by kernel_rfl
  i173 := by kernel_rfl
  i212 := by kernel_rfl
  i232 := by kernel_rfl
  i233 := by kernel_rfl
  m17 := by kernel_rfl
  m18 := by kernel_rfl
  m19 := by kernel_rfl }
open Go.RowKit Go.Sort Go.Lib in
/-- internal/strconv.Itoa: "Itoa is equivalent to FormatInt(int64(i), 10).": i's decimal numeral, for every int. (LAID: no walk: one application.) -/
theorem Tryz.internal_strconv_Itoa (n : Int) (h0 : -9223372036854775808 ≤ n) (h1 : n ≤ 9223372036854775807) (w : World) (htab : Lib.TabIs Tryz.prog w "internal/strconv.uint64pow10" .u64 Lib.pow10Tab) :
    Calls Tryz.prog 179 #[.int .i64 n] w fun e w' => e = .returned (.string ⟨(Lib.itoa n).toArray⟩) ∧ ∃ k os, w' = grow (w.drewN k) os := Any.internal_strconv_Itoa Tryz.laysM243 n h0 h1 w htab
def Tryz.lays243_ren : Go.Shelf.Ren := ⟨fun | 243 => 179 | 246 => 180 | 283 => 181 | 284 => 182 | 285 => 183 | 286 => 184 | 129 => 87 | 317 => 185 | 318 => 186 | 319 => 187 | 320 => 188 | 337 => 189 | 338 => 190 | n => n, fun | 3 => 3 | 9 => 9 | 2 => 2 | 4 => 4 | 171 => 251 | 0 => 0 | 53 => 158 | 37 => 22 | 5 => 5 | 173 => 253 | 212 => 257 | 51 => 69 | 20 => 20 | 213 => 258 | 46 => 99 | 232 => 260 | 233 => 261 | n => n, fun | 17 => 2 | 18 => 3 | 19 => 4 | n => n⟩
theorem Tryz.lays243 : Go.Proofs.Lays.n243 Tryz.prog Tryz.lays243_ren := {
  mixed := by kernel_rfl
  f129 := Tryz.func87.trans (congrArg some (by kernel_rfl))
  f243 := Tryz.func179.trans (congrArg some (by kernel_rfl))
  f246 := Tryz.func180.trans (congrArg some (by kernel_rfl))
  f283 := Tryz.func181.trans (congrArg some (by kernel_rfl))
  f284 := Tryz.func182.trans (congrArg some (by kernel_rfl))
  f285 := Tryz.func183.trans (congrArg some (by kernel_rfl))
  f286 := Tryz.func184.trans (congrArg some (by kernel_rfl))
  f317 := Tryz.func185.trans (congrArg some (by kernel_rfl))
  f318 := Tryz.func186.trans (congrArg some (by kernel_rfl))
  f319 := Tryz.func187.trans (congrArg some (by kernel_rfl))
  f320 := Tryz.func188.trans (congrArg some (by kernel_rfl))
  f337 := Tryz.func189.trans (congrArg some (by kernel_rfl))
  f338 := Tryz.func190.trans (congrArg some (by kernel_rfl))
  t0 := Tryz.underlying0
  a0 := Tryz.isAgg0
  z0 := Tryz.sizeOf0
  v0 := Tryz.zeroValue0
  t2 := Tryz.underlying2
  a2 := Tryz.isAgg2
  z2 := Tryz.sizeOf2
  v2 := Tryz.zeroValue2
  t3 := Tryz.underlying3
  a3 := Tryz.isAgg3
  z3 := Tryz.sizeOf3
  v3 := Tryz.zeroValue3
  t4 := Tryz.underlying4
  a4 := Tryz.isAgg4
  z4 := Tryz.sizeOf4
  v4 := Tryz.zeroValue4
  t5 := Tryz.underlying5
  a5 := Tryz.isAgg5
  z5 := Tryz.sizeOf5
  v5 := Tryz.zeroValue5
  t9 := Tryz.underlying9
  a9 := Tryz.isAgg9
  z9 := Tryz.sizeOf9
  v9 := Tryz.zeroValue9
  t20 := Tryz.underlying20
  a20 := Tryz.isAgg20
  z20 := Tryz.sizeOf20
  v20 := Tryz.zeroValue20
  t37 := Tryz.underlying22
  a37 := Tryz.isAgg22
  z37 := Tryz.sizeOf22
  v37 := Tryz.zeroValue22
  t46 := Tryz.underlying99
  a46 := Tryz.isAgg99
  z46 := Tryz.sizeOf99
  v46 := Tryz.zeroValue99
  t51 := Tryz.underlying69
  a51 := Tryz.isAgg69
  z51 := Tryz.sizeOf69
  v51 := Tryz.zeroValue69
  t53 := Tryz.underlying158
  a53 := Tryz.isAgg158
  z53 := Tryz.sizeOf158
  v53 := Tryz.zeroValue158
  t171 := Tryz.underlying251
  a171 := Tryz.isAgg251
  z171 := Tryz.sizeOf251
  v171 := Tryz.zeroValue251
  t173 := Tryz.underlying253
  a173 := Tryz.isAgg253
  z173 := Tryz.sizeOf253
  v173 := Tryz.zeroValue253
  t212 := Tryz.underlying257
  a212 := Tryz.isAgg257
  z212 := Tryz.sizeOf257
  v212 := Tryz.zeroValue257
  t213 := Tryz.underlying258
  a213 := Tryz.isAgg258
  z213 := Tryz.sizeOf258
  t232 := Tryz.underlying260
  a232 := Tryz.isAgg260
  z232 := Tryz.sizeOf260
  v232 := Tryz.zeroValue260
  t233 := Tryz.underlying261
  a233 := Tryz.isAgg261
  z233 := Tryz.sizeOf261
  v233 := Tryz.zeroValue261
  g17 := by kernel_rfl
  g18 := by kernel_rfl
  g19 := by kernel_rfl }
open Go.RowKit Go.Sort Go.Lib in
/-- THE ROAD WITHOUT THE TABLE: 0 <= i < 100. (LAID: no walk: one application.) -/
theorem Tryz.internal_strconv_Itoa_small (i : Nat) (hi : i < 100) (w : World) :
    Calls Tryz.prog 179 #[.int .i64 i] w fun e w' => e = .returned (.string ⟨(Lib.decDigits i).toArray⟩) ∧ w' = w := Any.internal_strconv_Itoa_small Tryz.lays243 i hi w
def Tryz.laysM171_ren : Go.Shelf.Ren := ⟨fun | 171 => 178 | 243 => 179 | 246 => 180 | 283 => 181 | 284 => 182 | 285 => 183 | 286 => 184 | 129 => 87 | 317 => 185 | 318 => 186 | 319 => 187 | 320 => 188 | 337 => 189 | 338 => 190 | n => n, fun | 3 => 3 | 9 => 9 | 2 => 2 | 4 => 4 | 171 => 251 | 0 => 0 | 53 => 158 | 37 => 22 | 5 => 5 | 173 => 253 | 212 => 257 | 51 => 69 | 20 => 20 | 213 => 258 | 46 => 99 | 232 => 260 | 233 => 261 | n => n, fun | 17 => 2 | 18 => 3 | 19 => 4 | n => n⟩
theorem Tryz.laysM171 : Go.Proofs.LaysM.n171 Tryz.prog Tryz.laysM171_ren := {
  mixed := by kernel_rfl
  f129 := Tryz.func87.trans (congrArg some (by kernel_rfl))
  f171 := Tryz.func178.trans (congrArg some (by kernel_rfl))
  f243 := Tryz.func179.trans (congrArg some (by kernel_rfl))
  f246 := Tryz.func180.trans (congrArg some (by kernel_rfl))
  f283 := Tryz.func181.trans (congrArg some (by kernel_rfl))
  f284 := Tryz.func182.trans (congrArg some (by kernel_rfl))
  f285 := Tryz.func183.trans (congrArg some (by kernel_rfl))
  f286 := Tryz.func184.trans (congrArg some (by kernel_rfl))
  f317 := Tryz.func185.trans (congrArg some (by kernel_rfl))
  f318 := Tryz.func186.trans (congrArg some (by kernel_rfl))
  f319 := Tryz.func187.trans (congrArg some (by kernel_rfl))
  f320 := Tryz.func188.trans (congrArg some (by kernel_rfl))
  f337 := Tryz.func189.trans (congrArg some (by kernel_rfl))
  f338 := Tryz.func190.trans (congrArg some (by kernel_rfl))
  t0 := Tryz.underlying0
  a0 := Tryz.isAgg0
  z0 := Tryz.sizeOf0
  v0 := Tryz.zeroValue0
  t2 := Tryz.underlying2
  a2 := Tryz.isAgg2
  z2 := Tryz.sizeOf2
  v2 := Tryz.zeroValue2
  t3 := Tryz.underlying3
  a3 := Tryz.isAgg3
  z3 := Tryz.sizeOf3
  v3 := Tryz.zeroValue3
  t4 := Tryz.underlying4
  a4 := Tryz.isAgg4
  z4 := Tryz.sizeOf4
  v4 := Tryz.zeroValue4
  t5 := Tryz.underlying5
  a5 := Tryz.isAgg5
  z5 := Tryz.sizeOf5
  v5 := Tryz.zeroValue5
  t9 := Tryz.underlying9
  a9 := Tryz.isAgg9
  z9 := Tryz.sizeOf9
  v9 := Tryz.zeroValue9
  t20 := Tryz.underlying20
  a20 := Tryz.isAgg20
  z20 := Tryz.sizeOf20
  v20 := Tryz.zeroValue20
  t37 := Tryz.underlying22
  a37 := Tryz.isAgg22
  z37 := Tryz.sizeOf22
  v37 := Tryz.zeroValue22
  t46 := Tryz.underlying99
  a46 := Tryz.isAgg99
  z46 := Tryz.sizeOf99
  v46 := Tryz.zeroValue99
  t51 := Tryz.underlying69
  a51 := Tryz.isAgg69
  z51 := Tryz.sizeOf69
  v51 := Tryz.zeroValue69
  t53 := Tryz.underlying158
  a53 := Tryz.isAgg158
  z53 := Tryz.sizeOf158
  v53 := Tryz.zeroValue158
  t171 := Tryz.underlying251
  a171 := Tryz.isAgg251
  z171 := Tryz.sizeOf251
  v171 := Tryz.zeroValue251
  t173 := Tryz.underlying253
  a173 := Tryz.isAgg253
  z173 := Tryz.sizeOf253
  v173 := Tryz.zeroValue253
  t212 := Tryz.underlying257
  a212 := Tryz.isAgg257
  z212 := Tryz.sizeOf257
  v212 := Tryz.zeroValue257
  t213 := Tryz.underlying258
  a213 := Tryz.isAgg258
  z213 := Tryz.sizeOf258
  t232 := Tryz.underlying260
  a232 := Tryz.isAgg260
  z232 := Tryz.sizeOf260
  v232 := Tryz.zeroValue260
  t233 := Tryz.underlying261
  a233 := Tryz.isAgg261
  z233 := Tryz.sizeOf261
  v233 := Tryz.zeroValue261
  g17 := by kernel_rfl
  g18 := by kernel_rfl
  g19 := by kernel_rfl
  i0 := by kernel_rfl
  i2 := by kernel_rfl
  i3 := by kernel_rfl
  i4 := by kernel_rfl
  i5 := by kernel_rfl
  i9 := by kernel_rfl
  i20 := by kernel_rfl
  i37 := by kernel_rfl
  i46 := by kernel_rfl
  i51 := by kernel_rfl
  i53 := by kernel_rfl
  i171 := by kernel_rfl
  i173 := by kernel_rfl
  i212 := by kernel_rfl
  i232 := by kernel_rfl
  i233 := by kernel_rfl
  m17 := by kernel_rfl
  m18 := by kernel_rfl
  m19 := by kernel_rfl }
open Go.RowKit Go.Sort Go.Lib in
/-- strconv.Itoa: "Itoa is equivalent to FormatInt(int64(i), 10).": i's DECIMAL NUMERAL ('Lib.itoa': a '-' where i is negative, then the digits), FOR EVERY int. The world behind the call: the world before it, new blocks behind the heap (the library's 'var a [24]byte'), draws. (LAID: no walk: one application.) -/
theorem Tryz.strconv_Itoa (n : Int) (h0 : -9223372036854775808 ≤ n) (h1 : n ≤ 9223372036854775807) (w : World) (htab : Lib.TabIs Tryz.prog w "internal/strconv.uint64pow10" .u64 Lib.pow10Tab) :
    Calls Tryz.prog 178 #[.int .i64 n] w fun e w' => e = .returned (.string ⟨(Lib.itoa n).toArray⟩) ∧ ∃ k os, w' = grow (w.drewN k) os := Any.strconv_Itoa Tryz.laysM171 n h0 h1 w htab
def Tryz.lays171_ren : Go.Shelf.Ren := ⟨fun | 171 => 178 | 243 => 179 | 246 => 180 | 283 => 181 | 284 => 182 | 285 => 183 | 286 => 184 | 129 => 87 | 317 => 185 | 318 => 186 | 319 => 187 | 320 => 188 | 337 => 189 | 338 => 190 | n => n, fun | 3 => 3 | 9 => 9 | 2 => 2 | 4 => 4 | 171 => 251 | 0 => 0 | 53 => 158 | 37 => 22 | 5 => 5 | 173 => 253 | 212 => 257 | 51 => 69 | 20 => 20 | 213 => 258 | 46 => 99 | 232 => 260 | 233 => 261 | n => n, fun | 17 => 2 | 18 => 3 | 19 => 4 | n => n⟩
theorem Tryz.lays171 : Go.Proofs.Lays.n171 Tryz.prog Tryz.lays171_ren := {
  mixed := by kernel_rfl
  f129 := Tryz.func87.trans (congrArg some (by kernel_rfl))
  f171 := Tryz.func178.trans (congrArg some (by kernel_rfl))
  f243 := Tryz.func179.trans (congrArg some (by kernel_rfl))
  f246 := Tryz.func180.trans (congrArg some (by kernel_rfl))
  f283 := Tryz.func181.trans (congrArg some (by kernel_rfl))
  f284 := Tryz.func182.trans (congrArg some (by kernel_rfl))
  f285 := Tryz.func183.trans (congrArg some (by kernel_rfl))
  f286 := Tryz.func184.trans (congrArg some (by kernel_rfl))
  f317 := Tryz.func185.trans (congrArg some (by kernel_rfl))
  f318 := Tryz.func186.trans (congrArg some (by kernel_rfl))
  f319 := Tryz.func187.trans (congrArg some (by kernel_rfl))
  f320 := Tryz.func188.trans (congrArg some (by kernel_rfl))
  f337 := Tryz.func189.trans (congrArg some (by kernel_rfl))
  f338 := Tryz.func190.trans (congrArg some (by kernel_rfl))
  t0 := Tryz.underlying0
  a0 := Tryz.isAgg0
  z0 := Tryz.sizeOf0
  v0 := Tryz.zeroValue0
  t2 := Tryz.underlying2
  a2 := Tryz.isAgg2
  z2 := Tryz.sizeOf2
  v2 := Tryz.zeroValue2
  t3 := Tryz.underlying3
  a3 := Tryz.isAgg3
  z3 := Tryz.sizeOf3
  v3 := Tryz.zeroValue3
  t4 := Tryz.underlying4
  a4 := Tryz.isAgg4
  z4 := Tryz.sizeOf4
  v4 := Tryz.zeroValue4
  t5 := Tryz.underlying5
  a5 := Tryz.isAgg5
  z5 := Tryz.sizeOf5
  v5 := Tryz.zeroValue5
  t9 := Tryz.underlying9
  a9 := Tryz.isAgg9
  z9 := Tryz.sizeOf9
  v9 := Tryz.zeroValue9
  t20 := Tryz.underlying20
  a20 := Tryz.isAgg20
  z20 := Tryz.sizeOf20
  v20 := Tryz.zeroValue20
  t37 := Tryz.underlying22
  a37 := Tryz.isAgg22
  z37 := Tryz.sizeOf22
  v37 := Tryz.zeroValue22
  t46 := Tryz.underlying99
  a46 := Tryz.isAgg99
  z46 := Tryz.sizeOf99
  v46 := Tryz.zeroValue99
  t51 := Tryz.underlying69
  a51 := Tryz.isAgg69
  z51 := Tryz.sizeOf69
  v51 := Tryz.zeroValue69
  t53 := Tryz.underlying158
  a53 := Tryz.isAgg158
  z53 := Tryz.sizeOf158
  v53 := Tryz.zeroValue158
  t171 := Tryz.underlying251
  a171 := Tryz.isAgg251
  z171 := Tryz.sizeOf251
  v171 := Tryz.zeroValue251
  t173 := Tryz.underlying253
  a173 := Tryz.isAgg253
  z173 := Tryz.sizeOf253
  v173 := Tryz.zeroValue253
  t212 := Tryz.underlying257
  a212 := Tryz.isAgg257
  z212 := Tryz.sizeOf257
  v212 := Tryz.zeroValue257
  t213 := Tryz.underlying258
  a213 := Tryz.isAgg258
  z213 := Tryz.sizeOf258
  t232 := Tryz.underlying260
  a232 := Tryz.isAgg260
  z232 := Tryz.sizeOf260
  v232 := Tryz.zeroValue260
  t233 := Tryz.underlying261
  a233 := Tryz.isAgg261
  z233 := Tryz.sizeOf261
  v233 := Tryz.zeroValue261
  g17 := by kernel_rfl
  g18 := by kernel_rfl
  g19 := by kernel_rfl }
open Go.RowKit Go.Sort Go.Lib in
/-- THE ROAD WITHOUT THE TABLE: 0 <= i < 100: NO PREMISE ON THE WORLD, AND THE WORLD IS AS IT WAS: a row that keeps its argument in that range need list no table ('laid = []'). (LAID: no walk: one application.) -/
theorem Tryz.strconv_Itoa_small (i : Nat) (hi : i < 100) (w : World) :
    Calls Tryz.prog 178 #[.int .i64 i] w fun e w' => e = .returned (.string ⟨(Lib.decDigits i).toArray⟩) ∧ w' = w := Any.strconv_Itoa_small Tryz.lays171 i hi w
def Tryz.laysBin30_ren : Go.Shelf.Ren := ⟨fun | 30 => 142 | n => n, fun | 25 => 212 | 22 => 22 | 29 => 69 | 0 => 0 | 5 => 5 | 45 => 99 | n => n, fun | n => n⟩
theorem Tryz.laysBin30 : Go.Proofs.LaysBin.n30 Tryz.prog Tryz.laysBin30_ren := {
  mixed := by kernel_rfl
  f30 := Tryz.func142.trans (congrArg some (by kernel_rfl))
  t0 := Tryz.underlying0
  a0 := Tryz.isAgg0
  z0 := Tryz.sizeOf0
  v0 := Tryz.zeroValue0
  i0 := by kernel_rfl
  t5 := Tryz.underlying5
  a5 := Tryz.isAgg5
  z5 := Tryz.sizeOf5
  v5 := Tryz.zeroValue5
  i5 := by kernel_rfl
  t22 := Tryz.underlying22
  a22 := Tryz.isAgg22
  z22 := Tryz.sizeOf22
  v22 := Tryz.zeroValue22
  i22 := by kernel_rfl
  t25 := Tryz.underlying212
  a25 := Tryz.isAgg212
  z25 := Tryz.sizeOf212
  v25 := Tryz.zeroValue212
  i25 := by kernel_rfl
  t29 := Tryz.underlying69
  a29 := Tryz.isAgg69
  z29 := Tryz.sizeOf69
  v29 := Tryz.zeroValue69
  i29 := by kernel_rfl
  t45 := Tryz.underlying99
  a45 := Tryz.isAgg99
  z45 := Tryz.sizeOf99
  v45 := Tryz.zeroValue99
  i45 := by kernel_rfl }
open Go.RowKit in
/-- binary.LittleEndian.Uint32: "Uint32 returns the uint32 representation of b[0:4].": THE NUMBER THAT THE FIRST 4 BYTES SPELL, the least byte first ('Lib.leNat'). Of what was there nothing has turned (the receiver, an empty struct, is laid in a new block without cells; the statement's order is drawn). (LAID: no walk: one application.) -/
theorem Tryz.binary_LE_Uint32 (g o n c : Nat) (b0 b1 b2 b3 : UInt8) (w : World) (hn : 4 ≤ n) (c0 : w.cell? ⟨g, o, none⟩ = some (.int .u8 b0.toNat)) (c1 : w.cell? ⟨g, o + 1, none⟩ = some (.int .u8 b1.toNat)) (c2 : w.cell? ⟨g, o + 2, none⟩ = some (.int .u8 b2.toNat)) (c3 : w.cell? ⟨g, o + 3, none⟩ = some (.int .u8 b3.toNat)) :
    Calls Tryz.prog 142 #[.agg #[], .slice (some ⟨g, o, none⟩) n c] w fun e w' => e = .returned (.int .u32 (Lib.leNat [b0, b1, b2, b3])) ∧ Below w.heap.size w w' := Any.binary_LE_Uint32 Tryz.laysBin30 g o n c b0 b1 b2 b3 w hn c0 c1 c2 c3
def Tryz.laysBin36_ren : Go.Shelf.Ren := ⟨fun | 36 => 293 | n => n, fun | 37 => 383 | 22 => 22 | 23 => 386 | 0 => 0 | 5 => 5 | 45 => 99 | n => n, fun | n => n⟩
theorem Tryz.laysBin36 : Go.Proofs.LaysBin.n36 Tryz.prog Tryz.laysBin36_ren := {
  mixed := by kernel_rfl
  f36 := Tryz.func293.trans (congrArg some (by kernel_rfl))
  t0 := Tryz.underlying0
  a0 := Tryz.isAgg0
  z0 := Tryz.sizeOf0
  v0 := Tryz.zeroValue0
  i0 := by kernel_rfl
  t5 := Tryz.underlying5
  a5 := Tryz.isAgg5
  z5 := Tryz.sizeOf5
  v5 := Tryz.zeroValue5
  i5 := by kernel_rfl
  t22 := Tryz.underlying22
  a22 := Tryz.isAgg22
  z22 := Tryz.sizeOf22
  v22 := Tryz.zeroValue22
  i22 := by kernel_rfl
  t23 := Tryz.underlying386
  a23 := Tryz.isAgg386
  z23 := Tryz.sizeOf386
  v23 := Tryz.zeroValue386
  i23 := by kernel_rfl
  t37 := Tryz.underlying383
  a37 := Tryz.isAgg383
  z37 := Tryz.sizeOf383
  v37 := Tryz.zeroValue383
  i37 := by kernel_rfl
  t45 := Tryz.underlying99
  a45 := Tryz.isAgg99
  z45 := Tryz.sizeOf99
  v45 := Tryz.zeroValue99
  i45 := by kernel_rfl }
open Go.RowKit in
/-- binary.BigEndian.Uint16: "Uint16 returns the uint16 representation of b[0:2].": THE NUMBER THAT THE FIRST 2 BYTES SPELL, the greatest byte first ('Lib.beNat'). Of what was there nothing has turned (the receiver, an empty struct, is laid in a new block without cells; the statement's order is drawn). (LAID: no walk: one application.) -/
theorem Tryz.binary_BE_Uint16 (g o n c : Nat) (b0 b1 : UInt8) (w : World) (hn : 2 ≤ n) (c0 : w.cell? ⟨g, o, none⟩ = some (.int .u8 b0.toNat)) (c1 : w.cell? ⟨g, o + 1, none⟩ = some (.int .u8 b1.toNat)) :
    Calls Tryz.prog 293 #[.agg #[], .slice (some ⟨g, o, none⟩) n c] w fun e w' => e = .returned (.int .u16 (Lib.beNat [b0, b1])) ∧ Below w.heap.size w w' := Any.binary_BE_Uint16 Tryz.laysBin36 g o n c b0 b1 w hn c0 c1
def Tryz.laysBin39_ren : Go.Shelf.Ren := ⟨fun | 39 => 289 | n => n, fun | 37 => 383 | 22 => 22 | 29 => 69 | 0 => 0 | 5 => 5 | 45 => 99 | n => n, fun | n => n⟩
theorem Tryz.laysBin39 : Go.Proofs.LaysBin.n39 Tryz.prog Tryz.laysBin39_ren := {
  mixed := by kernel_rfl
  f39 := Tryz.func289.trans (congrArg some (by kernel_rfl))
  t0 := Tryz.underlying0
  a0 := Tryz.isAgg0
  z0 := Tryz.sizeOf0
  v0 := Tryz.zeroValue0
  i0 := by kernel_rfl
  t5 := Tryz.underlying5
  a5 := Tryz.isAgg5
  z5 := Tryz.sizeOf5
  v5 := Tryz.zeroValue5
  i5 := by kernel_rfl
  t22 := Tryz.underlying22
  a22 := Tryz.isAgg22
  z22 := Tryz.sizeOf22
  v22 := Tryz.zeroValue22
  i22 := by kernel_rfl
  t29 := Tryz.underlying69
  a29 := Tryz.isAgg69
  z29 := Tryz.sizeOf69
  v29 := Tryz.zeroValue69
  i29 := by kernel_rfl
  t37 := Tryz.underlying383
  a37 := Tryz.isAgg383
  z37 := Tryz.sizeOf383
  v37 := Tryz.zeroValue383
  i37 := by kernel_rfl
  t45 := Tryz.underlying99
  a45 := Tryz.isAgg99
  z45 := Tryz.sizeOf99
  v45 := Tryz.zeroValue99
  i45 := by kernel_rfl }
open Go.RowKit in
/-- binary.BigEndian.Uint32: "Uint32 returns the uint32 representation of b[0:4].": THE NUMBER THAT THE FIRST 4 BYTES SPELL, the greatest byte first ('Lib.beNat'). Of what was there nothing has turned (the receiver, an empty struct, is laid in a new block without cells; the statement's order is drawn). (LAID: no walk: one application.) -/
theorem Tryz.binary_BE_Uint32 (g o n c : Nat) (b0 b1 b2 b3 : UInt8) (w : World) (hn : 4 ≤ n) (c0 : w.cell? ⟨g, o, none⟩ = some (.int .u8 b0.toNat)) (c1 : w.cell? ⟨g, o + 1, none⟩ = some (.int .u8 b1.toNat)) (c2 : w.cell? ⟨g, o + 2, none⟩ = some (.int .u8 b2.toNat)) (c3 : w.cell? ⟨g, o + 3, none⟩ = some (.int .u8 b3.toNat)) :
    Calls Tryz.prog 289 #[.agg #[], .slice (some ⟨g, o, none⟩) n c] w fun e w' => e = .returned (.int .u32 (Lib.beNat [b0, b1, b2, b3])) ∧ Below w.heap.size w w' := Any.binary_BE_Uint32 Tryz.laysBin39 g o n c b0 b1 b2 b3 w hn c0 c1 c2 c3
open Go.RowKit in
/-- binary.BigEndian.Uint32, b SHORTER THAN 4: IT PANICS: Go's 'runtime error: index out of range [3] with length n' ('Lib.boundsPanicked'). THE WORLD: the receiver's new block without cells, and the draw of the panic's flag. (LAID: no walk: one application.) -/
theorem Tryz.binary_BE_Uint32_panics (ao : Option Addr) (n c : Nat) (w : World) (hn : n < 4) (hnil : ao = none → n = 0) :
    Calls Tryz.prog 289 #[.agg #[], .slice ao n c] w fun e w' => Lib.boundsPanicked Tryz.prog 3 n e ∧ w' = (w.alloc (.cells #[] 383)).drew := Any.binary_BE_Uint32_panics Tryz.laysBin39 ao n c w hn hnil
def Tryz.lays190_ren : Go.Shelf.Ren := ⟨fun | 190 => 44 | 125 => 66 | 258 => 65 | 128 => 86 | 129 => 87 | 302 => 77 | 303 => 78 | 304 => 79 | 305 => 80 | 306 => 81 | 307 => 82 | 308 => 83 | 309 => 84 | 310 => 85 | 333 => 91 | 329 => 92 | 330 => 93 | 334 => 94 | 335 => 95 | 336 => 96 | 344 => 110 | n => n, fun | 31 => 44 | 9 => 9 | 3 => 3 | 46 => 99 | 0 => 0 | 51 => 69 | 53 => 158 | 4 => 4 | 183 => 149 | 182 => 148 | 131 => 154 | 5 => 5 | 218 => 166 | 222 => 170 | 228 => 181 | 229 => 182 | n => n, fun | n => n⟩
theorem Tryz.lays190 : Go.Proofs.Lays.n190 Tryz.prog Tryz.lays190_ren := {
  mixed := by kernel_rfl
  f125 := Tryz.func66.trans (congrArg some (by kernel_rfl))
  f128 := Tryz.func86.trans (congrArg some (by kernel_rfl))
  f129 := Tryz.func87.trans (congrArg some (by kernel_rfl))
  f190 := Tryz.func44.trans (congrArg some (by kernel_rfl))
  f258 := Tryz.func65.trans (congrArg some (by kernel_rfl))
  f302 := Tryz.func77.trans (congrArg some (by kernel_rfl))
  f303 := Tryz.func78.trans (congrArg some (by kernel_rfl))
  f304 := Tryz.func79.trans (congrArg some (by kernel_rfl))
  f305 := Tryz.func80.trans (congrArg some (by kernel_rfl))
  f306 := Tryz.func81.trans (congrArg some (by kernel_rfl))
  f307 := Tryz.func82.trans (congrArg some (by kernel_rfl))
  f308 := Tryz.func83.trans (congrArg some (by kernel_rfl))
  f309 := Tryz.func84.trans (congrArg some (by kernel_rfl))
  f310 := Tryz.func85.trans (congrArg some (by kernel_rfl))
  f329 := Tryz.func92.trans (congrArg some (by kernel_rfl))
  f330 := Tryz.func93.trans (congrArg some (by kernel_rfl))
  f333 := Tryz.func91.trans (congrArg some (by kernel_rfl))
  f334 := Tryz.func94.trans (congrArg some (by kernel_rfl))
  f335 := Tryz.func95.trans (congrArg some (by kernel_rfl))
  f336 := Tryz.func96.trans (congrArg some (by kernel_rfl))
  f344 := Tryz.func110.trans (congrArg some (by kernel_rfl))
  t0 := Tryz.underlying0
  a0 := Tryz.isAgg0
  z0 := Tryz.sizeOf0
  v0 := Tryz.zeroValue0
  t3 := Tryz.underlying3
  a3 := Tryz.isAgg3
  z3 := Tryz.sizeOf3
  v3 := Tryz.zeroValue3
  t4 := Tryz.underlying4
  a4 := Tryz.isAgg4
  z4 := Tryz.sizeOf4
  v4 := Tryz.zeroValue4
  t5 := Tryz.underlying5
  a5 := Tryz.isAgg5
  z5 := Tryz.sizeOf5
  v5 := Tryz.zeroValue5
  t9 := Tryz.underlying9
  a9 := Tryz.isAgg9
  z9 := Tryz.sizeOf9
  v9 := Tryz.zeroValue9
  t31 := Tryz.underlying44
  a31 := Tryz.isAgg44
  z31 := Tryz.sizeOf44
  v31 := Tryz.zeroValue44
  t46 := Tryz.underlying99
  a46 := Tryz.isAgg99
  z46 := Tryz.sizeOf99
  v46 := Tryz.zeroValue99
  t51 := Tryz.underlying69
  a51 := Tryz.isAgg69
  z51 := Tryz.sizeOf69
  v51 := Tryz.zeroValue69
  t53 := Tryz.underlying158
  a53 := Tryz.isAgg158
  z53 := Tryz.sizeOf158
  v53 := Tryz.zeroValue158
  t131 := Tryz.underlying154
  a131 := Tryz.isAgg154
  z131 := Tryz.sizeOf154
  v131 := Tryz.zeroValue154
  t182 := Tryz.underlying148
  a182 := Tryz.isAgg148
  z182 := Tryz.sizeOf148
  v182 := Tryz.zeroValue148
  t183 := Tryz.underlying149
  a183 := Tryz.isAgg149
  z183 := Tryz.sizeOf149
  v183 := Tryz.zeroValue149
  t218 := Tryz.underlying166
  a218 := Tryz.isAgg166
  z218 := Tryz.sizeOf166
  v218 := Tryz.zeroValue166
  t222 := Tryz.underlying170
  a222 := Tryz.isAgg170
  z222 := Tryz.sizeOf170
  v222 := Tryz.zeroValue170
  t228 := Tryz.underlying181
  a228 := Tryz.isAgg181
  z228 := Tryz.sizeOf181
  v228 := Tryz.zeroValue181
  t229 := Tryz.underlying182
  a229 := Tryz.isAgg182
  z229 := Tryz.sizeOf182
  v229 := Tryz.zeroValue182 }
open Go.Sort Go.RowKit in
theorem Tryz.slices_Sort_string (blk off cap : Nat) (ss : List (List UInt8)) (w : World) (hH : Holds encStr w blk off ss.toArray) (hblk : blk < w.heap.size) (hsz : ss.length < 4611686018427387904) :
    Calls Tryz.prog 44 #[.slice (some ⟨blk, off, none⟩) ss.length cap] w fun e w' =>
      e = .returned (.tuple #[]) ∧ ∃ n os, w' = grow (putRow encStr (Sort.ahead w n) blk off (ss.mergeSort fun x y => decide (x ≤ y)).toArray) os := Any.slices_Sort_string Tryz.lays190 blk off cap ss w hH hblk hsz
def Tryz.lays192_ren : Go.Shelf.Ren := ⟨fun | 192 => 73 | 190 => 44 | 125 => 66 | 258 => 65 | 128 => 86 | 129 => 87 | 302 => 77 | 303 => 78 | 304 => 79 | 305 => 80 | 306 => 81 | 307 => 82 | 308 => 83 | 309 => 84 | 310 => 85 | 333 => 91 | 329 => 92 | 330 => 93 | 334 => 94 | 335 => 95 | 336 => 96 | 344 => 110 | n => n, fun | 31 => 44 | 0 => 0 | 9 => 9 | 3 => 3 | 46 => 99 | 51 => 69 | 53 => 158 | 4 => 4 | 183 => 149 | 182 => 148 | 131 => 154 | 5 => 5 | 218 => 166 | 222 => 170 | 228 => 181 | 229 => 182 | n => n, fun | n => n⟩
theorem Tryz.lays192 : Go.Proofs.Lays.n192 Tryz.prog Tryz.lays192_ren := {
  mixed := by kernel_rfl
  f125 := Tryz.func66.trans (congrArg some (by kernel_rfl))
  f128 := Tryz.func86.trans (congrArg some (by kernel_rfl))
  f129 := Tryz.func87.trans (congrArg some (by kernel_rfl))
  f190 := Tryz.func44.trans (congrArg some (by kernel_rfl))
  f192 := Tryz.func73.trans (congrArg some (by kernel_rfl))
  f258 := Tryz.func65.trans (congrArg some (by kernel_rfl))
  f302 := Tryz.func77.trans (congrArg some (by kernel_rfl))
  f303 := Tryz.func78.trans (congrArg some (by kernel_rfl))
  f304 := Tryz.func79.trans (congrArg some (by kernel_rfl))
  f305 := Tryz.func80.trans (congrArg some (by kernel_rfl))
  f306 := Tryz.func81.trans (congrArg some (by kernel_rfl))
  f307 := Tryz.func82.trans (congrArg some (by kernel_rfl))
  f308 := Tryz.func83.trans (congrArg some (by kernel_rfl))
  f309 := Tryz.func84.trans (congrArg some (by kernel_rfl))
  f310 := Tryz.func85.trans (congrArg some (by kernel_rfl))
  f329 := Tryz.func92.trans (congrArg some (by kernel_rfl))
  f330 := Tryz.func93.trans (congrArg some (by kernel_rfl))
  f333 := Tryz.func91.trans (congrArg some (by kernel_rfl))
  f334 := Tryz.func94.trans (congrArg some (by kernel_rfl))
  f335 := Tryz.func95.trans (congrArg some (by kernel_rfl))
  f336 := Tryz.func96.trans (congrArg some (by kernel_rfl))
  f344 := Tryz.func110.trans (congrArg some (by kernel_rfl))
  t0 := Tryz.underlying0
  a0 := Tryz.isAgg0
  z0 := Tryz.sizeOf0
  v0 := Tryz.zeroValue0
  t3 := Tryz.underlying3
  a3 := Tryz.isAgg3
  z3 := Tryz.sizeOf3
  v3 := Tryz.zeroValue3
  t4 := Tryz.underlying4
  a4 := Tryz.isAgg4
  z4 := Tryz.sizeOf4
  v4 := Tryz.zeroValue4
  t5 := Tryz.underlying5
  a5 := Tryz.isAgg5
  z5 := Tryz.sizeOf5
  v5 := Tryz.zeroValue5
  t9 := Tryz.underlying9
  a9 := Tryz.isAgg9
  z9 := Tryz.sizeOf9
  v9 := Tryz.zeroValue9
  t31 := Tryz.underlying44
  a31 := Tryz.isAgg44
  z31 := Tryz.sizeOf44
  v31 := Tryz.zeroValue44
  t46 := Tryz.underlying99
  a46 := Tryz.isAgg99
  z46 := Tryz.sizeOf99
  v46 := Tryz.zeroValue99
  t51 := Tryz.underlying69
  a51 := Tryz.isAgg69
  z51 := Tryz.sizeOf69
  v51 := Tryz.zeroValue69
  t53 := Tryz.underlying158
  a53 := Tryz.isAgg158
  z53 := Tryz.sizeOf158
  v53 := Tryz.zeroValue158
  t131 := Tryz.underlying154
  a131 := Tryz.isAgg154
  z131 := Tryz.sizeOf154
  v131 := Tryz.zeroValue154
  t182 := Tryz.underlying148
  a182 := Tryz.isAgg148
  z182 := Tryz.sizeOf148
  v182 := Tryz.zeroValue148
  t183 := Tryz.underlying149
  a183 := Tryz.isAgg149
  z183 := Tryz.sizeOf149
  v183 := Tryz.zeroValue149
  t218 := Tryz.underlying166
  a218 := Tryz.isAgg166
  z218 := Tryz.sizeOf166
  v218 := Tryz.zeroValue166
  t222 := Tryz.underlying170
  a222 := Tryz.isAgg170
  z222 := Tryz.sizeOf170
  v222 := Tryz.zeroValue170
  t228 := Tryz.underlying181
  a228 := Tryz.isAgg181
  z228 := Tryz.sizeOf181
  v228 := Tryz.zeroValue181
  t229 := Tryz.underlying182
  a229 := Tryz.isAgg182
  z229 := Tryz.sizeOf182
  v229 := Tryz.zeroValue182 }
open Go.Sort Go.RowKit in
theorem Tryz.sort_Strings (blk off cap : Nat) (ss : List (List UInt8)) (w : World) (hH : Holds encStr w blk off ss.toArray) (hblk : blk < w.heap.size) (hsz : ss.length < 4611686018427387904) :
    Calls Tryz.prog 73 #[.slice (some ⟨blk, off, none⟩) ss.length cap] w fun e w' =>
      e = .returned (.tuple #[]) ∧ ∃ n os, w' = grow (putRow encStr (Sort.ahead w n) blk off (ss.mergeSort fun x y => decide (x ≤ y)).toArray) os := Any.sort_Strings Tryz.lays192 blk off cap ss w hH hblk hsz
open Go.RowKit in
/-- binary.LittleEndian.Uint32, ITS PREMISES 'open_ints'' CONCLUSION TO THE LETTER: a slice at WHATEVER address a, the numbers zs that its cells hold: THE NUMBER THAT THE FIRST 4 SPELL ('Lib.leZ'). (LAID: no walk: one application.) -/
theorem Tryz.binary_LE_Uint32_z (a : Addr) (n c : Nat) (zs : List Int) (w : World) (hn : 4 ≤ n) (hl : 4 ≤ zs.length) (hcell : ∀ i, i < zs.length → w.cell? (a.add i) = some (.int .u8 (zs.getD i 0))) (hw : ∀ z ∈ zs, (Lit.int .u8 z).wf = true) :
    Calls Tryz.prog 142 #[.agg #[], .slice (some a) n c] w fun e w' => e = .returned (.int .u32 (Lib.leZ (zs.take 4))) ∧ Below w.heap.size w w' := Any.binary_LE_Uint32_z Tryz.laysBin30 a n c zs w hn hl hcell hw
open Go.RowKit in
/-- binary.BigEndian.Uint16, ITS PREMISES 'open_ints'' CONCLUSION TO THE LETTER: a slice at WHATEVER address a, the numbers zs that its cells hold: THE NUMBER THAT THE FIRST 2 SPELL ('Lib.beZ'). (LAID: no walk: one application.) -/
theorem Tryz.binary_BE_Uint16_z (a : Addr) (n c : Nat) (zs : List Int) (w : World) (hn : 2 ≤ n) (hl : 2 ≤ zs.length) (hcell : ∀ i, i < zs.length → w.cell? (a.add i) = some (.int .u8 (zs.getD i 0))) (hw : ∀ z ∈ zs, (Lit.int .u8 z).wf = true) :
    Calls Tryz.prog 293 #[.agg #[], .slice (some a) n c] w fun e w' => e = .returned (.int .u16 (Lib.beZ (zs.take 2))) ∧ Below w.heap.size w w' := Any.binary_BE_Uint16_z Tryz.laysBin36 a n c zs w hn hl hcell hw
open Go.RowKit in
/-- binary.BigEndian.Uint32, ITS PREMISES 'open_ints'' CONCLUSION TO THE LETTER: a slice at WHATEVER address a, the numbers zs that its cells hold: THE NUMBER THAT THE FIRST 4 SPELL ('Lib.beZ'). (LAID: no walk: one application.) -/
theorem Tryz.binary_BE_Uint32_z (a : Addr) (n c : Nat) (zs : List Int) (w : World) (hn : 4 ≤ n) (hl : 4 ≤ zs.length) (hcell : ∀ i, i < zs.length → w.cell? (a.add i) = some (.int .u8 (zs.getD i 0))) (hw : ∀ z ∈ zs, (Lit.int .u8 z).wf = true) :
    Calls Tryz.prog 289 #[.agg #[], .slice (some a) n c] w fun e w' => e = .returned (.int .u32 (Lib.beZ (zs.take 4))) ∧ Below w.heap.size w w' := Any.binary_BE_Uint32_z Tryz.laysBin39 a n c zs w hn hl hcell hw
def Tryz.laysGt33_ren : Go.Shelf.Ren := ⟨fun | 33 => 153 | n => n, fun | 45 => 219 | 3 => 3 | 4 => 4 | 0 => 0 | 43 => 196 | 26 => 226 | 38 => 216 | n => n, fun | n => n⟩
theorem Tryz.laysGt33 : Go.Proofs.LaysGt.n33 Tryz.prog Tryz.laysGt33_ren := {
  mixed := by kernel_rfl
  f33 := Tryz.func153.trans (congrArg some (by kernel_rfl))
  t0 := Tryz.underlying0
  a0 := Tryz.isAgg0
  z0 := Tryz.sizeOf0
  v0 := Tryz.zeroValue0
  i0 := by kernel_rfl
  t3 := Tryz.underlying3
  a3 := Tryz.isAgg3
  z3 := Tryz.sizeOf3
  v3 := Tryz.zeroValue3
  i3 := by kernel_rfl
  t4 := Tryz.underlying4
  a4 := Tryz.isAgg4
  z4 := Tryz.sizeOf4
  v4 := Tryz.zeroValue4
  i4 := by kernel_rfl
  t26 := Tryz.underlying226
  a26 := Tryz.isAgg226
  z26 := Tryz.sizeOf226
  v26 := Tryz.zeroValue226
  i26 := by kernel_rfl
  t38 := Tryz.underlying216
  a38 := Tryz.isAgg216
  z38 := Tryz.sizeOf216
  v38 := Tryz.zeroValue216
  i38 := by kernel_rfl
  t43 := Tryz.underlying196
  a43 := Tryz.isAgg196
  z43 := Tryz.sizeOf196
  v43 := Tryz.zeroValue196
  i43 := by kernel_rfl
  t45 := Tryz.underlying219
  a45 := Tryz.isAgg219
  z45 := Tryz.sizeOf219
  v45 := Tryz.zeroValue219
  i45 := by kernel_rfl }
open Go.RowKit Go.Lib Go.Sort in
theorem Tryz.insertionSort_iface {α : Type} [Inhabited α] (T : TypeId) (rv : Value) (gl gs : Nat) (rL : Reaches Tryz.prog T rv "Less" gl) (rS : Reaches Tryz.prog T rv "Swap" gs) (enc : α → Value) (lt : α → α → Bool) (blk off a b : Nat) (d : Array α) (w : World) (hless : LessM Tryz.prog gl rv enc lt blk off d.size w) (hswap : SwapM Tryz.prog gs rv enc blk off d.size) (hH : Holds enc w blk off d) (hab : a ≤ b) (hb : b ≤ d.size) (hsz : d.size < 4611686018427387904) :
    Calls Tryz.prog 153 #[.iface T rv, .int .i64 a, .int .i64 b] w fun e w' =>
      e = .returned (.tuple #[]) ∧ ∃ n, w' = putRow enc (Sort.ahead w n) blk off (Sort.insertionSort lt d a b) := Any.insertionSort_iface Tryz.laysGt33 T rv gl gs rL rS enc lt blk off a b d w hless hswap hH hab hb hsz
open Go.RowKit Go.Lib Go.Sort in
/-- sort.insertionSort, from a world to a 'sortWorld' of it. (LAID: no walk: one application.) -/
theorem Tryz.insertionSort_iface_w {α : Type} [Inhabited α] (T : TypeId) (rv : Value) (gl gs : Nat) (rL : Reaches Tryz.prog T rv "Less" gl) (rS : Reaches Tryz.prog T rv "Swap" gs) (enc : α → Value) (lt : α → α → Bool) (blk off a b : Nat) (d : Array α) (w : World) (hless : LessM Tryz.prog gl rv enc lt blk off d.size w) (hswap : SwapM Tryz.prog gs rv enc blk off d.size) (hH : Holds enc w blk off d) (hab : a ≤ b) (hb : b ≤ d.size) (hsz : d.size < 4611686018427387904) :
    Calls Tryz.prog 153 #[.iface T rv, .int .i64 a, .int .i64 b] w fun e w' => e = .returned (.tuple #[]) ∧ ∃ n os, w' = sortWorld enc w blk off n (Sort.insertionSort lt d a b) os := Any.insertionSort_iface_w Tryz.laysGt33 T rv gl gs rL rS enc lt blk off a b d w hless hswap hH hab hb hsz
def Tryz.laysGt37_ren : Go.Shelf.Ren := ⟨fun | 37 => 157 | n => n, fun | 45 => 219 | 3 => 3 | 4 => 4 | 0 => 0 | 43 => 196 | 26 => 226 | 38 => 216 | n => n, fun | n => n⟩
theorem Tryz.laysGt37 : Go.Proofs.LaysGt.n37 Tryz.prog Tryz.laysGt37_ren := {
  mixed := by kernel_rfl
  f37 := Tryz.func157.trans (congrArg some (by kernel_rfl))
  t0 := Tryz.underlying0
  a0 := Tryz.isAgg0
  z0 := Tryz.sizeOf0
  v0 := Tryz.zeroValue0
  i0 := by kernel_rfl
  t3 := Tryz.underlying3
  a3 := Tryz.isAgg3
  z3 := Tryz.sizeOf3
  v3 := Tryz.zeroValue3
  i3 := by kernel_rfl
  t4 := Tryz.underlying4
  a4 := Tryz.isAgg4
  z4 := Tryz.sizeOf4
  v4 := Tryz.zeroValue4
  i4 := by kernel_rfl
  t26 := Tryz.underlying226
  a26 := Tryz.isAgg226
  z26 := Tryz.sizeOf226
  v26 := Tryz.zeroValue226
  i26 := by kernel_rfl
  t38 := Tryz.underlying216
  a38 := Tryz.isAgg216
  z38 := Tryz.sizeOf216
  v38 := Tryz.zeroValue216
  i38 := by kernel_rfl
  t43 := Tryz.underlying196
  a43 := Tryz.isAgg196
  z43 := Tryz.sizeOf196
  v43 := Tryz.zeroValue196
  i43 := by kernel_rfl
  t45 := Tryz.underlying219
  a45 := Tryz.isAgg219
  z45 := Tryz.sizeOf219
  v45 := Tryz.zeroValue219
  i45 := by kernel_rfl }
open Go.RowKit Go.Lib Go.Sort in
theorem Tryz.reverseRange_iface {α : Type} [Inhabited α] (T : TypeId) (rv : Value) (gs : Nat) (rS : Reaches Tryz.prog T rv "Swap" gs) (enc : α → Value) (blk off a b : Nat) (d : Array α) (w : World) (hswap : SwapM Tryz.prog gs rv enc blk off d.size) (hH : Holds enc w blk off d) (hab : a ≤ b) (hb : b ≤ d.size) (hsz : d.size < 4611686018427387904) :
    Calls Tryz.prog 157 #[.iface T rv, .int .i64 a, .int .i64 b] w fun e w' => e = .returned (.tuple #[]) ∧ ∃ n, w' = putRow enc (Sort.ahead w n) blk off (reverseRange d a b) := Any.reverseRange_iface Tryz.laysGt37 T rv gs rS enc blk off a b d w hswap hH hab hb hsz
open Go.RowKit Go.Lib Go.Sort in
theorem Tryz.reverseRange_iface_w {α : Type} [Inhabited α] (T : TypeId) (rv : Value) (gs : Nat) (rS : Reaches Tryz.prog T rv "Swap" gs) (enc : α → Value) (blk off a b : Nat) (d : Array α) (w : World) (hswap : SwapM Tryz.prog gs rv enc blk off d.size) (hH : Holds enc w blk off d) (hab : a ≤ b) (hb : b ≤ d.size) (hsz : d.size < 4611686018427387904) :
    Calls Tryz.prog 157 #[.iface T rv, .int .i64 a, .int .i64 b] w fun e w' => e = .returned (.tuple #[]) ∧ ∃ n os, w' = sortWorld enc w blk off n (reverseRange d a b) os := Any.reverseRange_iface_w Tryz.laysGt37 T rv gs rS enc blk off a b d w hswap hH hab hb hsz
def Tryz.laysGt50_ren : Go.Shelf.Ren := ⟨fun | 50 => 166 | n => n, fun | 45 => 219 | 3 => 3 | 71 => 170 | 4 => 4 | 0 => 0 | 43 => 196 | 26 => 226 | 38 => 216 | n => n, fun | n => n⟩
theorem Tryz.laysGt50 : Go.Proofs.LaysGt.n50 Tryz.prog Tryz.laysGt50_ren := {
  mixed := by kernel_rfl
  f50 := Tryz.func166.trans (congrArg some (by kernel_rfl))
  t0 := Tryz.underlying0
  a0 := Tryz.isAgg0
  z0 := Tryz.sizeOf0
  v0 := Tryz.zeroValue0
  i0 := by kernel_rfl
  t3 := Tryz.underlying3
  a3 := Tryz.isAgg3
  z3 := Tryz.sizeOf3
  v3 := Tryz.zeroValue3
  i3 := by kernel_rfl
  t4 := Tryz.underlying4
  a4 := Tryz.isAgg4
  z4 := Tryz.sizeOf4
  v4 := Tryz.zeroValue4
  i4 := by kernel_rfl
  t26 := Tryz.underlying226
  a26 := Tryz.isAgg226
  z26 := Tryz.sizeOf226
  v26 := Tryz.zeroValue226
  i26 := by kernel_rfl
  t38 := Tryz.underlying216
  a38 := Tryz.isAgg216
  z38 := Tryz.sizeOf216
  v38 := Tryz.zeroValue216
  i38 := by kernel_rfl
  t43 := Tryz.underlying196
  a43 := Tryz.isAgg196
  z43 := Tryz.sizeOf196
  v43 := Tryz.zeroValue196
  i43 := by kernel_rfl
  t45 := Tryz.underlying219
  a45 := Tryz.isAgg219
  z45 := Tryz.sizeOf219
  v45 := Tryz.zeroValue219
  i45 := by kernel_rfl
  t71 := Tryz.underlying170
  a71 := Tryz.isAgg170
  z71 := Tryz.sizeOf170
  v71 := Tryz.zeroValue170
  i71 := by kernel_rfl }
open Go.RowKit Go.Lib Go.Sort in
theorem Tryz.order2_iface {α : Type} [Inhabited α] (T : TypeId) (rv : Value) (gl : Nat) (rL : Reaches Tryz.prog T rv "Less" gl) (enc : α → Value) (lt : α → α → Bool) (blk off : Nat) (w0 W : World) (d : Array α) (a b cb co s : Nat) (hL : LessM Tryz.prog gl rv enc lt blk off d.size w0) (hW : SW enc w0 blk off d W) (ha : a < d.size) (hb : b < d.size) (hS : Holds (Value.int .i64) W cb co (one s)) (hs : s < 4611686018427387904) :
    Calls Tryz.prog 166 #[.iface T rv, .int .i64 a, .int .i64 b, .pointer (some ⟨cb, co, none⟩)] W fun e w' =>
      e = .returned (.tuple #[.int .i64 (order2 lt d a b s).1, .int .i64 (order2 lt d a b s).2.1]) ∧ ∃ n os, w' = sortWorld (Value.int .i64) W cb co n (one (order2 lt d a b s).2.2) os := Any.order2_iface Tryz.laysGt50 T rv gl rL enc lt blk off w0 W d a b cb co s hL hW ha hb hS hs
def Tryz.laysGt47_ren : Go.Shelf.Ren := ⟨fun | 47 => 165 | 50 => 166 | n => n, fun | 45 => 219 | 3 => 3 | 71 => 170 | 74 => 182 | 4 => 4 | 0 => 0 | 43 => 196 | 26 => 226 | 38 => 216 | n => n, fun | n => n⟩
theorem Tryz.laysGt47 : Go.Proofs.LaysGt.n47 Tryz.prog Tryz.laysGt47_ren := {
  mixed := by kernel_rfl
  f47 := Tryz.func165.trans (congrArg some (by kernel_rfl))
  f50 := Tryz.func166.trans (congrArg some (by kernel_rfl))
  t0 := Tryz.underlying0
  a0 := Tryz.isAgg0
  z0 := Tryz.sizeOf0
  v0 := Tryz.zeroValue0
  i0 := by kernel_rfl
  t3 := Tryz.underlying3
  a3 := Tryz.isAgg3
  z3 := Tryz.sizeOf3
  v3 := Tryz.zeroValue3
  i3 := by kernel_rfl
  t4 := Tryz.underlying4
  a4 := Tryz.isAgg4
  z4 := Tryz.sizeOf4
  v4 := Tryz.zeroValue4
  i4 := by kernel_rfl
  t26 := Tryz.underlying226
  a26 := Tryz.isAgg226
  z26 := Tryz.sizeOf226
  v26 := Tryz.zeroValue226
  i26 := by kernel_rfl
  t38 := Tryz.underlying216
  a38 := Tryz.isAgg216
  z38 := Tryz.sizeOf216
  v38 := Tryz.zeroValue216
  i38 := by kernel_rfl
  t43 := Tryz.underlying196
  a43 := Tryz.isAgg196
  z43 := Tryz.sizeOf196
  v43 := Tryz.zeroValue196
  i43 := by kernel_rfl
  t45 := Tryz.underlying219
  a45 := Tryz.isAgg219
  z45 := Tryz.sizeOf219
  v45 := Tryz.zeroValue219
  i45 := by kernel_rfl
  t71 := Tryz.underlying170
  a71 := Tryz.isAgg170
  z71 := Tryz.sizeOf170
  v71 := Tryz.zeroValue170
  i71 := by kernel_rfl
  t74 := Tryz.underlying182
  a74 := Tryz.isAgg182
  z74 := Tryz.sizeOf182
  v74 := Tryz.zeroValue182
  i74 := by kernel_rfl }
open Go.RowKit Go.Lib Go.Sort in
theorem Tryz.median_iface {α : Type} [Inhabited α] (T : TypeId) (rv : Value) (gl : Nat) (rL : Reaches Tryz.prog T rv "Less" gl) (enc : α → Value) (lt : α → α → Bool) (blk off : Nat) (w0 W : World) (d : Array α) (a b c cb co s : Nat) (hL : LessM Tryz.prog gl rv enc lt blk off d.size w0) (hW : SW enc w0 blk off d W) (ha : a < d.size) (hb : b < d.size) (hc : c < d.size) (hS : Holds (Value.int .i64) W cb co (one s)) (hcb0 : w0.heap.size ≤ cb) (hcb : cb < W.heap.size) (hs : s + 3 < 4611686018427387904) :
    Calls Tryz.prog 165 #[.iface T rv, .int .i64 a, .int .i64 b, .int .i64 c, .pointer (some ⟨cb, co, none⟩)] W fun e w' =>
      e = .returned (.int .i64 (median lt d a b c s).1) ∧ ∃ n os, w' = sortWorld (Value.int .i64) W cb co n (one (median lt d a b c s).2) os := Any.median_iface Tryz.laysGt47 T rv gl rL enc lt blk off w0 W d a b c cb co s hL hW ha hb hc hS hcb0 hcb hs
def Tryz.laysGt46_ren : Go.Shelf.Ren := ⟨fun | 46 => 164 | 47 => 165 | 50 => 166 | n => n, fun | 45 => 219 | 3 => 3 | 71 => 170 | 74 => 182 | 4 => 4 | 0 => 0 | 43 => 196 | 26 => 226 | 38 => 216 | n => n, fun | n => n⟩
theorem Tryz.laysGt46 : Go.Proofs.LaysGt.n46 Tryz.prog Tryz.laysGt46_ren := {
  mixed := by kernel_rfl
  f46 := Tryz.func164.trans (congrArg some (by kernel_rfl))
  f47 := Tryz.func165.trans (congrArg some (by kernel_rfl))
  f50 := Tryz.func166.trans (congrArg some (by kernel_rfl))
  t0 := Tryz.underlying0
  a0 := Tryz.isAgg0
  z0 := Tryz.sizeOf0
  v0 := Tryz.zeroValue0
  i0 := by kernel_rfl
  t3 := Tryz.underlying3
  a3 := Tryz.isAgg3
  z3 := Tryz.sizeOf3
  v3 := Tryz.zeroValue3
  i3 := by kernel_rfl
  t4 := Tryz.underlying4
  a4 := Tryz.isAgg4
  z4 := Tryz.sizeOf4
  v4 := Tryz.zeroValue4
  i4 := by kernel_rfl
  t26 := Tryz.underlying226
  a26 := Tryz.isAgg226
  z26 := Tryz.sizeOf226
  v26 := Tryz.zeroValue226
  i26 := by kernel_rfl
  t38 := Tryz.underlying216
  a38 := Tryz.isAgg216
  z38 := Tryz.sizeOf216
  v38 := Tryz.zeroValue216
  i38 := by kernel_rfl
  t43 := Tryz.underlying196
  a43 := Tryz.isAgg196
  z43 := Tryz.sizeOf196
  v43 := Tryz.zeroValue196
  i43 := by kernel_rfl
  t45 := Tryz.underlying219
  a45 := Tryz.isAgg219
  z45 := Tryz.sizeOf219
  v45 := Tryz.zeroValue219
  i45 := by kernel_rfl
  t71 := Tryz.underlying170
  a71 := Tryz.isAgg170
  z71 := Tryz.sizeOf170
  v71 := Tryz.zeroValue170
  i71 := by kernel_rfl
  t74 := Tryz.underlying182
  a74 := Tryz.isAgg182
  z74 := Tryz.sizeOf182
  v74 := Tryz.zeroValue182
  i74 := by kernel_rfl }
open Go.RowKit Go.Lib Go.Sort in
theorem Tryz.medianAdjacent_iface {α : Type} [Inhabited α] (T : TypeId) (rv : Value) (gl : Nat) (rL : Reaches Tryz.prog T rv "Less" gl) (enc : α → Value) (lt : α → α → Bool) (blk off : Nat) (w0 W : World) (d : Array α) (a cb co s : Nat) (hL : LessM Tryz.prog gl rv enc lt blk off d.size w0) (hW : SW enc w0 blk off d W) (ha1 : 1 ≤ a) (ha2 : a + 1 < d.size) (hsz : d.size < 4611686018427387904) (hS : Holds (Value.int .i64) W cb co (one s)) (hcb0 : w0.heap.size ≤ cb) (hcb : cb < W.heap.size) (hs : s + 3 < 4611686018427387904) :
    Calls Tryz.prog 164 #[.iface T rv, .int .i64 a, .pointer (some ⟨cb, co, none⟩)] W fun e w' =>
      e = .returned (.int .i64 (medianAdjacent lt d a s).1) ∧ ∃ n os, w' = sortWorld (Value.int .i64) W cb co n (one (medianAdjacent lt d a s).2) os := Any.medianAdjacent_iface Tryz.laysGt46 T rv gl rL enc lt blk off w0 W d a cb co s hL hW ha1 ha2 hsz hS hcb0 hcb hs
def Tryz.laysGt36_ren : Go.Shelf.Ren := ⟨fun | 36 => 156 | 46 => 164 | 47 => 165 | 50 => 166 | n => n, fun | 45 => 219 | 3 => 3 | 60 => 222 | 0 => 0 | 4 => 4 | 71 => 170 | 74 => 182 | 43 => 196 | 26 => 226 | 38 => 216 | n => n, fun | n => n⟩
theorem Tryz.laysGt36 : Go.Proofs.LaysGt.n36 Tryz.prog Tryz.laysGt36_ren := {
  mixed := by kernel_rfl
  f36 := Tryz.func156.trans (congrArg some (by kernel_rfl))
  f46 := Tryz.func164.trans (congrArg some (by kernel_rfl))
  f47 := Tryz.func165.trans (congrArg some (by kernel_rfl))
  f50 := Tryz.func166.trans (congrArg some (by kernel_rfl))
  t0 := Tryz.underlying0
  a0 := Tryz.isAgg0
  z0 := Tryz.sizeOf0
  v0 := Tryz.zeroValue0
  i0 := by kernel_rfl
  t3 := Tryz.underlying3
  a3 := Tryz.isAgg3
  z3 := Tryz.sizeOf3
  v3 := Tryz.zeroValue3
  i3 := by kernel_rfl
  t4 := Tryz.underlying4
  a4 := Tryz.isAgg4
  z4 := Tryz.sizeOf4
  v4 := Tryz.zeroValue4
  i4 := by kernel_rfl
  t26 := Tryz.underlying226
  a26 := Tryz.isAgg226
  z26 := Tryz.sizeOf226
  v26 := Tryz.zeroValue226
  i26 := by kernel_rfl
  t38 := Tryz.underlying216
  a38 := Tryz.isAgg216
  z38 := Tryz.sizeOf216
  v38 := Tryz.zeroValue216
  i38 := by kernel_rfl
  t43 := Tryz.underlying196
  a43 := Tryz.isAgg196
  z43 := Tryz.sizeOf196
  v43 := Tryz.zeroValue196
  i43 := by kernel_rfl
  t45 := Tryz.underlying219
  a45 := Tryz.isAgg219
  z45 := Tryz.sizeOf219
  v45 := Tryz.zeroValue219
  i45 := by kernel_rfl
  t60 := Tryz.underlying222
  a60 := Tryz.isAgg222
  z60 := Tryz.sizeOf222
  v60 := Tryz.zeroValue222
  i60 := by kernel_rfl
  t71 := Tryz.underlying170
  a71 := Tryz.isAgg170
  z71 := Tryz.sizeOf170
  v71 := Tryz.zeroValue170
  i71 := by kernel_rfl
  t74 := Tryz.underlying182
  a74 := Tryz.isAgg182
  z74 := Tryz.sizeOf182
  v74 := Tryz.zeroValue182
  i74 := by kernel_rfl }
open Go.RowKit Go.Lib Go.Sort in
/-- sort.choosePivot (zsortinterface.go): THE LIBRARY's OWN TEXT COMPUTES 'Sort.choosePivot lt d a b'; the row is not turned; W is grown. (Derived/Shelf/GgSortFunc/Pivot.lean's text, turned by program.) (LAID: no walk: one application.) -/
theorem Tryz.choosePivot_iface {α : Type} [Inhabited α] (T : TypeId) (rv : Value) (gl : Nat) (rL : Reaches Tryz.prog T rv "Less" gl) (enc : α → Value) (lt : α → α → Bool) (blk off a b : Nat) (W : World) (d : Array α) (hless : LessM Tryz.prog gl rv enc lt blk off d.size W) (hH : Holds enc W blk off d) (hab : a < b) (hb : b ≤ d.size) (hsz : d.size < 4611686018427387904) :
    Calls Tryz.prog 156 #[.iface T rv, .int .i64 a, .int .i64 b] W fun e w' =>
      e = .returned (.tuple #[.int .i64 (choosePivot lt d a b).1, .int .i64 (hintCode (choosePivot lt d a b).2)]) ∧ ∃ n os, w' = grow (Sort.ahead W n) os := Any.choosePivot_iface Tryz.laysGt36 T rv gl rL enc lt blk off a b W d hless hH hab hb hsz
def Tryz.laysGt39_ren : Go.Shelf.Ren := ⟨fun | 39 => 159 | n => n, fun | 45 => 219 | 3 => 3 | 0 => 0 | 4 => 4 | 43 => 196 | 26 => 226 | 38 => 216 | n => n, fun | n => n⟩
theorem Tryz.laysGt39 : Go.Proofs.LaysGt.n39 Tryz.prog Tryz.laysGt39_ren := {
  mixed := by kernel_rfl
  f39 := Tryz.func159.trans (congrArg some (by kernel_rfl))
  t0 := Tryz.underlying0
  a0 := Tryz.isAgg0
  z0 := Tryz.sizeOf0
  v0 := Tryz.zeroValue0
  i0 := by kernel_rfl
  t3 := Tryz.underlying3
  a3 := Tryz.isAgg3
  z3 := Tryz.sizeOf3
  v3 := Tryz.zeroValue3
  i3 := by kernel_rfl
  t4 := Tryz.underlying4
  a4 := Tryz.isAgg4
  z4 := Tryz.sizeOf4
  v4 := Tryz.zeroValue4
  i4 := by kernel_rfl
  t26 := Tryz.underlying226
  a26 := Tryz.isAgg226
  z26 := Tryz.sizeOf226
  v26 := Tryz.zeroValue226
  i26 := by kernel_rfl
  t38 := Tryz.underlying216
  a38 := Tryz.isAgg216
  z38 := Tryz.sizeOf216
  v38 := Tryz.zeroValue216
  i38 := by kernel_rfl
  t43 := Tryz.underlying196
  a43 := Tryz.isAgg196
  z43 := Tryz.sizeOf196
  v43 := Tryz.zeroValue196
  i43 := by kernel_rfl
  t45 := Tryz.underlying219
  a45 := Tryz.isAgg219
  z45 := Tryz.sizeOf219
  v45 := Tryz.zeroValue219
  i45 := by kernel_rfl }
open Go.RowKit Go.Lib Go.Sort in
theorem Tryz.partitionEqual_iface {α : Type} [Inhabited α] (T : TypeId) (rv : Value) (gl gs : Nat) (rL : Reaches Tryz.prog T rv "Less" gl) (rS : Reaches Tryz.prog T rv "Swap" gs) (enc : α → Value) (lt : α → α → Bool) (blk off a b pivot : Nat) (d : Array α) (W : World) (hless : LessM Tryz.prog gl rv enc lt blk off d.size W) (hswap : SwapM Tryz.prog gs rv enc blk off d.size) (hH : Holds enc W blk off d) (hap : a ≤ pivot) (hpb : pivot < b) (hb : b ≤ d.size) (hsz : d.size < 4611686018427387904) :
    Calls Tryz.prog 159 #[.iface T rv, .int .i64 a, .int .i64 b, .int .i64 pivot] W fun e w' =>
      e = .returned (.int .i64 (Sort.partitionEqual lt d a b pivot).1) ∧ ∃ n, w' = (putRow enc W blk off (Sort.partitionEqual lt d a b pivot).2).drewN n := Any.partitionEqual_iface Tryz.laysGt39 T rv gl gs rL rS enc lt blk off a b pivot d W hless hswap hH hap hpb hb hsz
def Tryz.laysGt40_ren : Go.Shelf.Ren := ⟨fun | 40 => 160 | n => n, fun | 45 => 219 | 3 => 3 | 4 => 4 | 0 => 0 | 43 => 196 | 26 => 226 | 38 => 216 | n => n, fun | n => n⟩
theorem Tryz.laysGt40 : Go.Proofs.LaysGt.n40 Tryz.prog Tryz.laysGt40_ren := {
  mixed := by kernel_rfl
  f40 := Tryz.func160.trans (congrArg some (by kernel_rfl))
  t0 := Tryz.underlying0
  a0 := Tryz.isAgg0
  z0 := Tryz.sizeOf0
  v0 := Tryz.zeroValue0
  i0 := by kernel_rfl
  t3 := Tryz.underlying3
  a3 := Tryz.isAgg3
  z3 := Tryz.sizeOf3
  v3 := Tryz.zeroValue3
  i3 := by kernel_rfl
  t4 := Tryz.underlying4
  a4 := Tryz.isAgg4
  z4 := Tryz.sizeOf4
  v4 := Tryz.zeroValue4
  i4 := by kernel_rfl
  t26 := Tryz.underlying226
  a26 := Tryz.isAgg226
  z26 := Tryz.sizeOf226
  v26 := Tryz.zeroValue226
  i26 := by kernel_rfl
  t38 := Tryz.underlying216
  a38 := Tryz.isAgg216
  z38 := Tryz.sizeOf216
  v38 := Tryz.zeroValue216
  i38 := by kernel_rfl
  t43 := Tryz.underlying196
  a43 := Tryz.isAgg196
  z43 := Tryz.sizeOf196
  v43 := Tryz.zeroValue196
  i43 := by kernel_rfl
  t45 := Tryz.underlying219
  a45 := Tryz.isAgg219
  z45 := Tryz.sizeOf219
  v45 := Tryz.zeroValue219
  i45 := by kernel_rfl }
open Go.RowKit Go.Lib Go.Sort in
theorem Tryz.partition_iface {α : Type} [Inhabited α] (T : TypeId) (rv : Value) (gl gs : Nat) (rL : Reaches Tryz.prog T rv "Less" gl) (rS : Reaches Tryz.prog T rv "Swap" gs) (enc : α → Value) (lt : α → α → Bool) (blk off a b pivot : Nat) (d : Array α) (W : World) (hless : LessM Tryz.prog gl rv enc lt blk off d.size W) (hswap : SwapM Tryz.prog gs rv enc blk off d.size) (hH : Holds enc W blk off d) (hap : a ≤ pivot) (hpb : pivot < b) (hb : b ≤ d.size) (hsz : d.size < 4611686018427387904) :
    Calls Tryz.prog 160 #[.iface T rv, .int .i64 a, .int .i64 b, .int .i64 pivot] W fun e w' =>
      e = .returned (.tuple #[.int .i64 (Sort.partition lt d a b pivot).1, .bool (Sort.partition lt d a b pivot).2.1]) ∧ ∃ n, w' = (putRow enc W blk off (Sort.partition lt d a b pivot).2.2).drewN n := Any.partition_iface Tryz.laysGt40 T rv gl gs rL rS enc lt blk off a b pivot d W hless hswap hH hap hpb hb hsz
open Go.RowKit Go.Lib Go.Sort in
theorem Tryz.partitionEqual_iface_w {α : Type} [Inhabited α] (T : TypeId) (rv : Value) (gl gs : Nat) (rL : Reaches Tryz.prog T rv "Less" gl) (rS : Reaches Tryz.prog T rv "Swap" gs) (enc : α → Value) (lt : α → α → Bool) (blk off a b pivot : Nat) (d : Array α) (W : World) (hless : LessM Tryz.prog gl rv enc lt blk off d.size W) (hswap : SwapM Tryz.prog gs rv enc blk off d.size) (hH : Holds enc W blk off d) (hap : a ≤ pivot) (hpb : pivot < b) (hb : b ≤ d.size) (hsz : d.size < 4611686018427387904) :
    Calls Tryz.prog 159 #[.iface T rv, .int .i64 a, .int .i64 b, .int .i64 pivot] W fun e w' => e = .returned (.int .i64 (Sort.partitionEqual lt d a b pivot).1) ∧ ∃ n os, w' = sortWorld enc W blk off n (Sort.partitionEqual lt d a b pivot).2 os := Any.partitionEqual_iface_w Tryz.laysGt39 T rv gl gs rL rS enc lt blk off a b pivot d W hless hswap hH hap hpb hb hsz
open Go.RowKit Go.Lib Go.Sort in
theorem Tryz.partition_iface_w {α : Type} [Inhabited α] (T : TypeId) (rv : Value) (gl gs : Nat) (rL : Reaches Tryz.prog T rv "Less" gl) (rS : Reaches Tryz.prog T rv "Swap" gs) (enc : α → Value) (lt : α → α → Bool) (blk off a b pivot : Nat) (d : Array α) (W : World) (hless : LessM Tryz.prog gl rv enc lt blk off d.size W) (hswap : SwapM Tryz.prog gs rv enc blk off d.size) (hH : Holds enc W blk off d) (hap : a ≤ pivot) (hpb : pivot < b) (hb : b ≤ d.size) (hsz : d.size < 4611686018427387904) :
    Calls Tryz.prog 160 #[.iface T rv, .int .i64 a, .int .i64 b, .int .i64 pivot] W fun e w' => e = .returned (.tuple #[.int .i64 (Sort.partition lt d a b pivot).1, .bool (Sort.partition lt d a b pivot).2.1]) ∧ ∃ n os, w' = sortWorld enc W blk off n (Sort.partition lt d a b pivot).2.2 os := Any.partition_iface_w Tryz.laysGt40 T rv gl gs rL rS enc lt blk off a b pivot d W hless hswap hH hap hpb hb hsz
def Tryz.laysGt18_ren : Go.Shelf.Ren := ⟨fun | 18 => 152 | 33 => 153 | 34 => 154 | 35 => 155 | 36 => 156 | 37 => 157 | 38 => 158 | 39 => 159 | 40 => 160 | 43 => 161 | 44 => 162 | 45 => 163 | 46 => 164 | 47 => 165 | 17 => 66 | 50 => 166 | 31 => 86 | 32 => 87 | n => n, fun | 45 => 219 | 3 => 3 | 4 => 4 | 0 => 0 | 61 => 223 | 60 => 222 | 65 => 154 | 67 => 229 | 47 => 99 | 58 => 158 | 71 => 170 | 73 => 232 | 74 => 182 | 56 => 69 | 5 => 5 | 9 => 9 | 43 => 196 | 26 => 226 | 38 => 216 | n => n, fun | n => n⟩
theorem Tryz.laysGt18 : Go.Proofs.LaysGt.n18 Tryz.prog Tryz.laysGt18_ren := {
  mixed := by kernel_rfl
  f17 := Tryz.func66.trans (congrArg some (by kernel_rfl))
  f18 := Tryz.func152.trans (congrArg some (by kernel_rfl))
  f31 := Tryz.func86.trans (congrArg some (by kernel_rfl))
  f32 := Tryz.func87.trans (congrArg some (by kernel_rfl))
  f33 := Tryz.func153.trans (congrArg some (by kernel_rfl))
  f34 := Tryz.func154.trans (congrArg some (by kernel_rfl))
  f35 := Tryz.func155.trans (congrArg some (by kernel_rfl))
  f36 := Tryz.func156.trans (congrArg some (by kernel_rfl))
  f37 := Tryz.func157.trans (congrArg some (by kernel_rfl))
  f38 := Tryz.func158.trans (congrArg some (by kernel_rfl))
  f39 := Tryz.func159.trans (congrArg some (by kernel_rfl))
  f40 := Tryz.func160.trans (congrArg some (by kernel_rfl))
  f43 := Tryz.func161.trans (congrArg some (by kernel_rfl))
  f44 := Tryz.func162.trans (congrArg some (by kernel_rfl))
  f45 := Tryz.func163.trans (congrArg some (by kernel_rfl))
  f46 := Tryz.func164.trans (congrArg some (by kernel_rfl))
  f47 := Tryz.func165.trans (congrArg some (by kernel_rfl))
  f50 := Tryz.func166.trans (congrArg some (by kernel_rfl))
  t0 := Tryz.underlying0
  a0 := Tryz.isAgg0
  z0 := Tryz.sizeOf0
  v0 := Tryz.zeroValue0
  i0 := by kernel_rfl
  t3 := Tryz.underlying3
  a3 := Tryz.isAgg3
  z3 := Tryz.sizeOf3
  v3 := Tryz.zeroValue3
  i3 := by kernel_rfl
  t4 := Tryz.underlying4
  a4 := Tryz.isAgg4
  z4 := Tryz.sizeOf4
  v4 := Tryz.zeroValue4
  i4 := by kernel_rfl
  t5 := Tryz.underlying5
  a5 := Tryz.isAgg5
  z5 := Tryz.sizeOf5
  v5 := Tryz.zeroValue5
  i5 := by kernel_rfl
  t9 := Tryz.underlying9
  a9 := Tryz.isAgg9
  z9 := Tryz.sizeOf9
  v9 := Tryz.zeroValue9
  i9 := by kernel_rfl
  t26 := Tryz.underlying226
  a26 := Tryz.isAgg226
  z26 := Tryz.sizeOf226
  v26 := Tryz.zeroValue226
  i26 := by kernel_rfl
  t38 := Tryz.underlying216
  a38 := Tryz.isAgg216
  z38 := Tryz.sizeOf216
  v38 := Tryz.zeroValue216
  i38 := by kernel_rfl
  t43 := Tryz.underlying196
  a43 := Tryz.isAgg196
  z43 := Tryz.sizeOf196
  v43 := Tryz.zeroValue196
  i43 := by kernel_rfl
  t45 := Tryz.underlying219
  a45 := Tryz.isAgg219
  z45 := Tryz.sizeOf219
  v45 := Tryz.zeroValue219
  i45 := by kernel_rfl
  t47 := Tryz.underlying99
  a47 := Tryz.isAgg99
  z47 := Tryz.sizeOf99
  v47 := Tryz.zeroValue99
  i47 := by kernel_rfl
  t56 := Tryz.underlying69
  a56 := Tryz.isAgg69
  z56 := Tryz.sizeOf69
  v56 := Tryz.zeroValue69
  i56 := by kernel_rfl
  t58 := Tryz.underlying158
  a58 := Tryz.isAgg158
  z58 := Tryz.sizeOf158
  v58 := Tryz.zeroValue158
  i58 := by kernel_rfl
  t60 := Tryz.underlying222
  a60 := Tryz.isAgg222
  z60 := Tryz.sizeOf222
  v60 := Tryz.zeroValue222
  i60 := by kernel_rfl
  t61 := Tryz.underlying223
  a61 := Tryz.isAgg223
  z61 := Tryz.sizeOf223
  v61 := Tryz.zeroValue223
  i61 := by kernel_rfl
  t65 := Tryz.underlying154
  a65 := Tryz.isAgg154
  z65 := Tryz.sizeOf154
  v65 := Tryz.zeroValue154
  i65 := by kernel_rfl
  t67 := Tryz.underlying229
  a67 := Tryz.isAgg229
  z67 := Tryz.sizeOf229
  v67 := Tryz.zeroValue229
  i67 := by kernel_rfl
  t71 := Tryz.underlying170
  a71 := Tryz.isAgg170
  z71 := Tryz.sizeOf170
  v71 := Tryz.zeroValue170
  i71 := by kernel_rfl
  t73 := Tryz.underlying232
  a73 := Tryz.isAgg232
  z73 := Tryz.sizeOf232
  v73 := Tryz.zeroValue232
  i73 := by kernel_rfl
  t74 := Tryz.underlying182
  a74 := Tryz.isAgg182
  z74 := Tryz.sizeOf182
  v74 := Tryz.zeroValue182
  i74 := by kernel_rfl }
open Go.RowKit Go.Lib Go.Sort in
theorem Tryz.pdqsort_iface {α : Type} [Inhabited α] (T : TypeId) (rv : Value) (gl gs : Nat) (rL : Reaches Tryz.prog T rv "Less" gl) (rS : Reaches Tryz.prog T rv "Swap" gs) (enc : α → Value) (lt : α → α → Bool) (hO : SWO lt) (C : IfaceThree Tryz.prog Tryz.laysGt18_ren T rv gl gs enc lt) :
    ∀ (N blk off a b limit : Nat) (d : Array α) (w : World), b - a < N → LessM Tryz.prog gl rv enc lt blk off d.size w → SwapM Tryz.prog gs rv enc blk off d.size → Holds enc w blk off d → blk < w.heap.size → a ≤ b → b ≤ d.size → d.size < 4611686018427387904 → limit < 4611686018427387904 → Below lt a b d →
    Calls Tryz.prog 152 #[.iface T rv, .int .i64 a, .int .i64 b, .int .i64 limit] w fun e w' => e = .returned (.tuple #[]) ∧ At enc w blk off (pdq lt d a b limit true true) w' := Any.pdqsort_iface Tryz.laysGt18 T rv gl gs rL rS enc lt hO C
def Tryz.laysGt11_ren : Go.Shelf.Ren := ⟨fun | 11 => 150 | 17 => 66 | 18 => 152 | 31 => 86 | 32 => 87 | 33 => 153 | 34 => 154 | 35 => 155 | 36 => 156 | 37 => 157 | 38 => 158 | 39 => 159 | 40 => 160 | 43 => 161 | 44 => 162 | 45 => 163 | 46 => 164 | 47 => 165 | 50 => 166 | n => n, fun | 45 => 219 | 3 => 3 | 4 => 4 | 47 => 99 | 0 => 0 | 56 => 69 | 58 => 158 | 61 => 223 | 60 => 222 | 65 => 154 | 5 => 5 | 9 => 9 | 67 => 229 | 71 => 170 | 73 => 232 | 74 => 182 | 43 => 196 | 26 => 226 | 38 => 216 | n => n, fun | n => n⟩
theorem Tryz.laysGt11 : Go.Proofs.LaysGt.n11 Tryz.prog Tryz.laysGt11_ren := {
  mixed := by kernel_rfl
  f11 := Tryz.func150.trans (congrArg some (by kernel_rfl))
  f17 := Tryz.func66.trans (congrArg some (by kernel_rfl))
  f18 := Tryz.func152.trans (congrArg some (by kernel_rfl))
  f31 := Tryz.func86.trans (congrArg some (by kernel_rfl))
  f32 := Tryz.func87.trans (congrArg some (by kernel_rfl))
  f33 := Tryz.func153.trans (congrArg some (by kernel_rfl))
  f34 := Tryz.func154.trans (congrArg some (by kernel_rfl))
  f35 := Tryz.func155.trans (congrArg some (by kernel_rfl))
  f36 := Tryz.func156.trans (congrArg some (by kernel_rfl))
  f37 := Tryz.func157.trans (congrArg some (by kernel_rfl))
  f38 := Tryz.func158.trans (congrArg some (by kernel_rfl))
  f39 := Tryz.func159.trans (congrArg some (by kernel_rfl))
  f40 := Tryz.func160.trans (congrArg some (by kernel_rfl))
  f43 := Tryz.func161.trans (congrArg some (by kernel_rfl))
  f44 := Tryz.func162.trans (congrArg some (by kernel_rfl))
  f45 := Tryz.func163.trans (congrArg some (by kernel_rfl))
  f46 := Tryz.func164.trans (congrArg some (by kernel_rfl))
  f47 := Tryz.func165.trans (congrArg some (by kernel_rfl))
  f50 := Tryz.func166.trans (congrArg some (by kernel_rfl))
  t0 := Tryz.underlying0
  a0 := Tryz.isAgg0
  z0 := Tryz.sizeOf0
  v0 := Tryz.zeroValue0
  i0 := by kernel_rfl
  t3 := Tryz.underlying3
  a3 := Tryz.isAgg3
  z3 := Tryz.sizeOf3
  v3 := Tryz.zeroValue3
  i3 := by kernel_rfl
  t4 := Tryz.underlying4
  a4 := Tryz.isAgg4
  z4 := Tryz.sizeOf4
  v4 := Tryz.zeroValue4
  i4 := by kernel_rfl
  t5 := Tryz.underlying5
  a5 := Tryz.isAgg5
  z5 := Tryz.sizeOf5
  v5 := Tryz.zeroValue5
  i5 := by kernel_rfl
  t9 := Tryz.underlying9
  a9 := Tryz.isAgg9
  z9 := Tryz.sizeOf9
  v9 := Tryz.zeroValue9
  i9 := by kernel_rfl
  t26 := Tryz.underlying226
  a26 := Tryz.isAgg226
  z26 := Tryz.sizeOf226
  v26 := Tryz.zeroValue226
  i26 := by kernel_rfl
  t38 := Tryz.underlying216
  a38 := Tryz.isAgg216
  z38 := Tryz.sizeOf216
  v38 := Tryz.zeroValue216
  i38 := by kernel_rfl
  t43 := Tryz.underlying196
  a43 := Tryz.isAgg196
  z43 := Tryz.sizeOf196
  v43 := Tryz.zeroValue196
  i43 := by kernel_rfl
  t45 := Tryz.underlying219
  a45 := Tryz.isAgg219
  z45 := Tryz.sizeOf219
  v45 := Tryz.zeroValue219
  i45 := by kernel_rfl
  t47 := Tryz.underlying99
  a47 := Tryz.isAgg99
  z47 := Tryz.sizeOf99
  v47 := Tryz.zeroValue99
  i47 := by kernel_rfl
  t56 := Tryz.underlying69
  a56 := Tryz.isAgg69
  z56 := Tryz.sizeOf69
  v56 := Tryz.zeroValue69
  i56 := by kernel_rfl
  t58 := Tryz.underlying158
  a58 := Tryz.isAgg158
  z58 := Tryz.sizeOf158
  v58 := Tryz.zeroValue158
  i58 := by kernel_rfl
  t60 := Tryz.underlying222
  a60 := Tryz.isAgg222
  z60 := Tryz.sizeOf222
  v60 := Tryz.zeroValue222
  i60 := by kernel_rfl
  t61 := Tryz.underlying223
  a61 := Tryz.isAgg223
  z61 := Tryz.sizeOf223
  v61 := Tryz.zeroValue223
  i61 := by kernel_rfl
  t65 := Tryz.underlying154
  a65 := Tryz.isAgg154
  z65 := Tryz.sizeOf154
  v65 := Tryz.zeroValue154
  i65 := by kernel_rfl
  t67 := Tryz.underlying229
  a67 := Tryz.isAgg229
  z67 := Tryz.sizeOf229
  v67 := Tryz.zeroValue229
  i67 := by kernel_rfl
  t71 := Tryz.underlying170
  a71 := Tryz.isAgg170
  z71 := Tryz.sizeOf170
  v71 := Tryz.zeroValue170
  i71 := by kernel_rfl
  t73 := Tryz.underlying232
  a73 := Tryz.isAgg232
  z73 := Tryz.sizeOf232
  v73 := Tryz.zeroValue232
  i73 := by kernel_rfl
  t74 := Tryz.underlying182
  a74 := Tryz.isAgg182
  z74 := Tryz.sizeOf182
  v74 := Tryz.zeroValue182
  i74 := by kernel_rfl }
open Go.RowKit Go.Lib Go.Sort in
theorem Tryz.sort_Sort_tiny {α : Type} [Inhabited α] (T : TypeId) (rv : Value) (gn : Nat) (rN : Reaches Tryz.prog T rv "Len" gn) (n : Nat) (hn : n ≤ 1) (w : World) (hlen : LenM Tryz.prog gn rv n w) :
    Calls Tryz.prog 150 #[.iface T rv] w fun e w' => e = .returned (.tuple #[]) ∧ ∃ q, w' = w.drewN q := Any.sort_Sort_tiny Tryz.laysGt11 T rv gn rN n hn w hlen
open Go.RowKit Go.Lib Go.Sort in
/-- **sort.Sort: WHAT THE ROW HOLDS, TO THE ELEMENT.** (LAID: no walk: one application.) -/
theorem Tryz.sort_Sort_eq {α : Type} [Inhabited α] (T : TypeId) (rv : Value) (gn gl gs : Nat) (rN : Reaches Tryz.prog T rv "Len" gn) (rL : Reaches Tryz.prog T rv "Less" gl) (rS : Reaches Tryz.prog T rv "Swap" gs) (enc : α → Value) (lt : α → α → Bool) (hO : SWO lt) (blk off : Nat) (d : Array α) (h2 : 2 ≤ d.size) (hsz : d.size < 4611686018427387904) (w : World) (hlen : LenM Tryz.prog gn rv d.size w) (hless : LessM Tryz.prog gl rv enc lt blk off d.size w) (hswap : SwapM Tryz.prog gs rv enc blk off d.size) (hH : Holds enc w blk off d) (hblk : blk < w.heap.size) :
    Calls Tryz.prog 150 #[.iface T rv] w fun e w' => e = .returned (.tuple #[]) ∧ ∃ n os, w' = grow (putRow enc (Sort.ahead w n) blk off (pdq lt d 0 d.size (Lib.bitLen d.size) true true)) os := Any.sort_Sort_eq Tryz.laysGt11 T rv gn gl gs rN rL rS enc lt hO blk off d h2 hsz w hlen hless hswap hH hblk
open Go.RowKit Go.Lib Go.Sort in
/-- **sort.Sort, IN THE DOCUMENTATION's OWN TERMS ("Sort sorts data in ascending order as determined by the Less method. .. The sort is not guaranteed to be stable"): A PERMUTATION OF WHAT THE ROW HELD, SORTED BY 'lt'.** (LAID: no walk: one application.) -/
theorem Tryz.sort_Sort_sorted {α : Type} [Inhabited α] (T : TypeId) (rv : Value) (gn gl gs : Nat) (rN : Reaches Tryz.prog T rv "Len" gn) (rL : Reaches Tryz.prog T rv "Less" gl) (rS : Reaches Tryz.prog T rv "Swap" gs) (enc : α → Value) (lt : α → α → Bool) (hO : SWO lt) (blk off : Nat) (d : Array α) (h2 : 2 ≤ d.size) (hsz : d.size < 4611686018427387904) (w : World) (hlen : LenM Tryz.prog gn rv d.size w) (hless : LessM Tryz.prog gl rv enc lt blk off d.size w) (hswap : SwapM Tryz.prog gs rv enc blk off d.size) (hH : Holds enc w blk off d) (hblk : blk < w.heap.size) :
    Calls Tryz.prog 150 #[.iface T rv] w fun e w' => e = .returned (.tuple #[]) ∧ ∃ d' n os, PermIn 0 d.size d d' ∧ SortedIn lt 0 d.size d' ∧ w' = grow (putRow enc (Sort.ahead w n) blk off d') os := Any.sort_Sort_sorted Tryz.laysGt11 T rv gn gl gs rN rL rS enc lt hO blk off d h2 hsz w hlen hless hswap hH hblk
def Tryz.laysGu44_ren : Go.Shelf.Ren := ⟨fun | 44 => 263 | n => n, fun | 24 => 289 | 3 => 3 | n => n, fun | n => n⟩
theorem Tryz.laysGu44 : Go.Proofs.LaysGu.n44 Tryz.prog Tryz.laysGu44_ren := {
  mixed := by kernel_rfl
  f44 := Tryz.func263.trans (congrArg some (by kernel_rfl))
  t3 := Tryz.underlying3
  a3 := Tryz.isAgg3
  z3 := Tryz.sizeOf3
  v3 := Tryz.zeroValue3
  i3 := by kernel_rfl
  t24 := Tryz.underlying289
  a24 := Tryz.isAgg289
  z24 := Tryz.sizeOf289
  v24 := Tryz.zeroValue289
  i24 := by kernel_rfl }
open Go.RowKit Go.Lib Go.Sort in
theorem Tryz.IntSlice_Len (p : Option Addr) (n c : Nat) (W : World) :
    LenM Tryz.prog 263 (.slice p n c) n W := Any.IntSlice_Len Tryz.laysGu44 p n c W
def Tryz.laysGu45_ren : Go.Shelf.Ren := ⟨fun | 45 => 264 | n => n, fun | 24 => 289 | 3 => 3 | 4 => 4 | 0 => 0 | n => n, fun | n => n⟩
theorem Tryz.laysGu45 : Go.Proofs.LaysGu.n45 Tryz.prog Tryz.laysGu45_ren := {
  mixed := by kernel_rfl
  f45 := Tryz.func264.trans (congrArg some (by kernel_rfl))
  t0 := Tryz.underlying0
  a0 := Tryz.isAgg0
  z0 := Tryz.sizeOf0
  v0 := Tryz.zeroValue0
  i0 := by kernel_rfl
  t3 := Tryz.underlying3
  a3 := Tryz.isAgg3
  z3 := Tryz.sizeOf3
  v3 := Tryz.zeroValue3
  i3 := by kernel_rfl
  t4 := Tryz.underlying4
  a4 := Tryz.isAgg4
  z4 := Tryz.sizeOf4
  v4 := Tryz.zeroValue4
  i4 := by kernel_rfl
  t24 := Tryz.underlying289
  a24 := Tryz.isAgg289
  z24 := Tryz.sizeOf289
  v24 := Tryz.zeroValue289
  i24 := by kernel_rfl }
open Go.RowKit Go.Lib Go.Sort in
theorem Tryz.IntSlice_Less (blk off c size : Nat) (W : World) (G : Nat → Int) (hc : ∀ t, t < size → W.cell? ⟨blk, off + t, none⟩ = some (.int .i64 (G t))) (i j : Nat) (hi : i < size) (hj : j < size) (_hsz : size < 4611686018427387904) :
    Calls Tryz.prog 264 #[.slice (some ⟨blk, off, none⟩) size c, .int .i64 i, .int .i64 j] W fun e w' => e = .returned (.bool (decide (G i < G j))) ∧ ∃ q, w' = W.drewN q := Any.IntSlice_Less Tryz.laysGu45 blk off c size W G hc i j hi hj _hsz
def Tryz.laysGu47_ren : Go.Shelf.Ren := ⟨fun | 47 => 266 | n => n, fun | 24 => 289 | 3 => 3 | 0 => 0 | n => n, fun | n => n⟩
theorem Tryz.laysGu47 : Go.Proofs.LaysGu.n47 Tryz.prog Tryz.laysGu47_ren := {
  mixed := by kernel_rfl
  f47 := Tryz.func266.trans (congrArg some (by kernel_rfl))
  t0 := Tryz.underlying0
  a0 := Tryz.isAgg0
  z0 := Tryz.sizeOf0
  v0 := Tryz.zeroValue0
  i0 := by kernel_rfl
  t3 := Tryz.underlying3
  a3 := Tryz.isAgg3
  z3 := Tryz.sizeOf3
  v3 := Tryz.zeroValue3
  i3 := by kernel_rfl
  t24 := Tryz.underlying289
  a24 := Tryz.isAgg289
  z24 := Tryz.sizeOf289
  v24 := Tryz.zeroValue289
  i24 := by kernel_rfl }
open Go.RowKit Go.Lib Go.Sort in
theorem Tryz.IntSlice_Swap (blk off c size : Nat) (W : World) (x y : Int) (i j : Nat) (hi : i < size) (hj : j < size) (_hsz : size < 4611686018427387904) (ci : W.cell? ⟨blk, off + i, none⟩ = some (.int .i64 x)) (cj : W.cell? ⟨blk, off + j, none⟩ = some (.int .i64 y)) (fi : W.frozen? ⟨blk, off + i, none⟩ = false) (fj : W.frozen? ⟨blk, off + j, none⟩ = false) :
    Calls Tryz.prog 266 #[.slice (some ⟨blk, off, none⟩) size c, .int .i64 i, .int .i64 j] W fun e w' => e = .returned (.tuple #[]) ∧ ∃ q, w' = ((W.setCell ⟨blk, off + i, none⟩ (.int .i64 y)).setCell ⟨blk, off + j, none⟩ (.int .i64 x)).drewN q := Any.IntSlice_Swap Tryz.laysGu47 blk off c size W x y i j hi hj _hsz ci cj fi fj
open Go.RowKit Go.Lib Go.Sort in
theorem Tryz.IntSlice_LessM (blk off c : Nat) (d : Array Int) (w : World) (hH : Holds (Value.int .i64) w blk off d) (hblk : blk < w.heap.size) (hsz : d.size < 4611686018427387904) :
    LessM Tryz.prog 264 (.slice (some ⟨blk, off, none⟩) d.size c) (Value.int .i64) ltInt blk off d.size w := Any.IntSlice_LessM Tryz.laysGu45 blk off c d w hH hblk hsz
open Go.RowKit Go.Lib Go.Sort in
theorem Tryz.IntSlice_SwapM (blk off c size : Nat) (hsz : size < 4611686018427387904) :
    SwapM Tryz.prog 266 (.slice (some ⟨blk, off, none⟩) size c) (Value.int .i64) blk off size := Any.IntSlice_SwapM Tryz.laysGu47 blk off c size hsz
def Tryz.laysGu48_ren : Go.Shelf.Ren := ⟨fun | 48 => 149 | n => n, fun | 27 => 214 | 3 => 3 | 9 => 9 | n => n, fun | n => n⟩
theorem Tryz.laysGu48 : Go.Proofs.LaysGu.n48 Tryz.prog Tryz.laysGu48_ren := {
  mixed := by kernel_rfl
  f48 := Tryz.func149.trans (congrArg some (by kernel_rfl))
  t3 := Tryz.underlying3
  a3 := Tryz.isAgg3
  z3 := Tryz.sizeOf3
  v3 := Tryz.zeroValue3
  i3 := by kernel_rfl
  t9 := Tryz.underlying9
  a9 := Tryz.isAgg9
  z9 := Tryz.sizeOf9
  v9 := Tryz.zeroValue9
  i9 := by kernel_rfl
  t27 := Tryz.underlying214
  a27 := Tryz.isAgg214
  z27 := Tryz.sizeOf214
  v27 := Tryz.zeroValue214
  i27 := by kernel_rfl }
open Go.RowKit Go.Lib Go.Sort in
theorem Tryz.StringSlice_Len (p : Option Addr) (n c : Nat) (W : World) :
    LenM Tryz.prog 149 (.slice p n c) n W := Any.StringSlice_Len Tryz.laysGu48 p n c W
def Tryz.laysGu49_ren : Go.Shelf.Ren := ⟨fun | 49 => 260 | n => n, fun | 27 => 214 | 3 => 3 | 4 => 4 | 0 => 0 | 9 => 9 | n => n, fun | n => n⟩
theorem Tryz.laysGu49 : Go.Proofs.LaysGu.n49 Tryz.prog Tryz.laysGu49_ren := {
  mixed := by kernel_rfl
  f49 := Tryz.func260.trans (congrArg some (by kernel_rfl))
  t0 := Tryz.underlying0
  a0 := Tryz.isAgg0
  z0 := Tryz.sizeOf0
  v0 := Tryz.zeroValue0
  i0 := by kernel_rfl
  t3 := Tryz.underlying3
  a3 := Tryz.isAgg3
  z3 := Tryz.sizeOf3
  v3 := Tryz.zeroValue3
  i3 := by kernel_rfl
  t4 := Tryz.underlying4
  a4 := Tryz.isAgg4
  z4 := Tryz.sizeOf4
  v4 := Tryz.zeroValue4
  i4 := by kernel_rfl
  t9 := Tryz.underlying9
  a9 := Tryz.isAgg9
  z9 := Tryz.sizeOf9
  v9 := Tryz.zeroValue9
  i9 := by kernel_rfl
  t27 := Tryz.underlying214
  a27 := Tryz.isAgg214
  z27 := Tryz.sizeOf214
  v27 := Tryz.zeroValue214
  i27 := by kernel_rfl }
open Go.RowKit Go.Lib Go.Sort in
theorem Tryz.StringSlice_Less (blk off c size : Nat) (W : World) (G : Nat → List UInt8) (hc : ∀ t, t < size → W.cell? ⟨blk, off + t, none⟩ = some (encS (G t))) (i j : Nat) (hi : i < size) (hj : j < size) (_hsz : size < 4611686018427387904) :
    Calls Tryz.prog 260 #[.slice (some ⟨blk, off, none⟩) size c, .int .i64 i, .int .i64 j] W fun e w' => e = .returned (.bool (ltStr (G i) (G j))) ∧ ∃ q, w' = W.drewN q := Any.StringSlice_Less Tryz.laysGu49 blk off c size W G hc i j hi hj _hsz
def Tryz.laysGu51_ren : Go.Shelf.Ren := ⟨fun | 51 => 151 | n => n, fun | 27 => 214 | 3 => 3 | 0 => 0 | 9 => 9 | n => n, fun | n => n⟩
theorem Tryz.laysGu51 : Go.Proofs.LaysGu.n51 Tryz.prog Tryz.laysGu51_ren := {
  mixed := by kernel_rfl
  f51 := Tryz.func151.trans (congrArg some (by kernel_rfl))
  t0 := Tryz.underlying0
  a0 := Tryz.isAgg0
  z0 := Tryz.sizeOf0
  v0 := Tryz.zeroValue0
  i0 := by kernel_rfl
  t3 := Tryz.underlying3
  a3 := Tryz.isAgg3
  z3 := Tryz.sizeOf3
  v3 := Tryz.zeroValue3
  i3 := by kernel_rfl
  t9 := Tryz.underlying9
  a9 := Tryz.isAgg9
  z9 := Tryz.sizeOf9
  v9 := Tryz.zeroValue9
  i9 := by kernel_rfl
  t27 := Tryz.underlying214
  a27 := Tryz.isAgg214
  z27 := Tryz.sizeOf214
  v27 := Tryz.zeroValue214
  i27 := by kernel_rfl }
open Go.RowKit Go.Lib Go.Sort in
theorem Tryz.StringSlice_Swap (blk off c size : Nat) (W : World) (x y : List UInt8) (i j : Nat) (hi : i < size) (hj : j < size) (_hsz : size < 4611686018427387904) (ci : W.cell? ⟨blk, off + i, none⟩ = some (encS x)) (cj : W.cell? ⟨blk, off + j, none⟩ = some (encS y)) (fi : W.frozen? ⟨blk, off + i, none⟩ = false) (fj : W.frozen? ⟨blk, off + j, none⟩ = false) :
    Calls Tryz.prog 151 #[.slice (some ⟨blk, off, none⟩) size c, .int .i64 i, .int .i64 j] W fun e w' => e = .returned (.tuple #[]) ∧ ∃ q, w' = ((W.setCell ⟨blk, off + i, none⟩ (encS y)).setCell ⟨blk, off + j, none⟩ (encS x)).drewN q := Any.StringSlice_Swap Tryz.laysGu51 blk off c size W x y i j hi hj _hsz ci cj fi fj
open Go.RowKit Go.Lib Go.Sort in
theorem Tryz.StringSlice_LessM (blk off c : Nat) (d : Array (List UInt8)) (w : World) (hH : Holds encS w blk off d) (hblk : blk < w.heap.size) (hsz : d.size < 4611686018427387904) :
    LessM Tryz.prog 260 (.slice (some ⟨blk, off, none⟩) d.size c) encS ltStr blk off d.size w := Any.StringSlice_LessM Tryz.laysGu49 blk off c d w hH hblk hsz
open Go.RowKit Go.Lib Go.Sort in
theorem Tryz.StringSlice_SwapM (blk off c size : Nat) (hsz : size < 4611686018427387904) :
    SwapM Tryz.prog 151 (.slice (some ⟨blk, off, none⟩) size c) encS blk off size := Any.StringSlice_SwapM Tryz.laysGu51 blk off c size hsz
def Tryz.lays109_ren : Go.Shelf.Ren := ⟨fun | 109 => 202 | n => n, fun | 31 => 44 | 9 => 9 | 3 => 3 | 0 => 0 | 4 => 4 | n => n, fun | n => n⟩
theorem Tryz.lays109 : Go.Proofs.Lays.n109 Tryz.prog Tryz.lays109_ren := {
  mixed := by kernel_rfl
  f109 := Tryz.func202.trans (congrArg some (by kernel_rfl))
  t0 := Tryz.underlying0
  a0 := Tryz.isAgg0
  z0 := Tryz.sizeOf0
  v0 := Tryz.zeroValue0
  t3 := Tryz.underlying3
  a3 := Tryz.isAgg3
  z3 := Tryz.sizeOf3
  v3 := Tryz.zeroValue3
  t4 := Tryz.underlying4
  a4 := Tryz.isAgg4
  z4 := Tryz.sizeOf4
  v4 := Tryz.zeroValue4
  t9 := Tryz.underlying9
  a9 := Tryz.isAgg9
  z9 := Tryz.sizeOf9
  v9 := Tryz.zeroValue9
  t31 := Tryz.underlying44
  a31 := Tryz.isAgg44
  z31 := Tryz.sizeOf44
  v31 := Tryz.zeroValue44 }
open Go.Lib in
/-- slices.Index at []string: "Index returns the index of the first occurrence of v in s, or -1 if not present.": IT RETURNS 'Lib.idxOfS (the elements) v'; the world is as it was. 'zs': what the cells behind the slice's address hold (its spare capacity too, if you have it); 'zs.take n': its elements. (LAID: no walk: one application.) -/
theorem Tryz.slices_Index_string (b off n c : Nat) (zs : List ByteArray) (x : ByteArray) (w : World) (hz : n ≤ zs.length) (hbig : n ≤ 9223372036854775807) (hc : ∀ j, j < zs.length → w.cell? ⟨b, off + j, none⟩ = some (.string (zs.getD j ByteArray.empty))) :
    Calls Tryz.prog 202 #[.slice (some ⟨b, off, none⟩) n c, .string x] w fun e w' => e = .returned (.int .i64 (Lib.idxOfS (zs.take n) x)) ∧ w' = w := Any.slices_Index_string Tryz.lays109 b off n c zs x w hz hbig hc
open Go.Lib in
/-- The same at a slice of length 0, a nil one too: no cell is known, none is asked for. (LAID: no walk: one application.) -/
theorem Tryz.slices_Index_string_empty (a : Option Addr) (c : Nat) (x : ByteArray) (w : World) :
    Calls Tryz.prog 202 #[.slice a 0 c, .string x] w fun e w' => e = .returned (.int .i64 (Lib.idxOfS [] x)) ∧ w' = w := Any.slices_Index_string_empty Tryz.lays109 a c x w
def Tryz.lays110_ren : Go.Shelf.Ren := ⟨fun | 110 => 195 | 109 => 202 | n => n, fun | 31 => 44 | 9 => 9 | 4 => 4 | 3 => 3 | 0 => 0 | n => n, fun | n => n⟩
theorem Tryz.lays110 : Go.Proofs.Lays.n110 Tryz.prog Tryz.lays110_ren := {
  mixed := by kernel_rfl
  f109 := Tryz.func202.trans (congrArg some (by kernel_rfl))
  f110 := Tryz.func195.trans (congrArg some (by kernel_rfl))
  t0 := Tryz.underlying0
  a0 := Tryz.isAgg0
  z0 := Tryz.sizeOf0
  v0 := Tryz.zeroValue0
  t3 := Tryz.underlying3
  a3 := Tryz.isAgg3
  z3 := Tryz.sizeOf3
  v3 := Tryz.zeroValue3
  t4 := Tryz.underlying4
  a4 := Tryz.isAgg4
  z4 := Tryz.sizeOf4
  v4 := Tryz.zeroValue4
  t9 := Tryz.underlying9
  a9 := Tryz.isAgg9
  z9 := Tryz.sizeOf9
  v9 := Tryz.zeroValue9
  t31 := Tryz.underlying44
  a31 := Tryz.isAgg44
  z31 := Tryz.sizeOf44
  v31 := Tryz.zeroValue44 }
open Go.Lib in
/-- slices.Contains at []string: "Contains reports whether v is present in s.": IT RETURNS 'Lib.containsS (the elements) v', which is true just where v is among them ('Lib.containsS_iff'); the world is as it was. ITS CALLEE slices.Index IS MET BY ITS OWN CONTRACT OFF THE SHELF (lay that first): no loop is walked here. (LAID: no walk: one application.) -/
theorem Tryz.slices_Contains_string (b off n c : Nat) (zs : List ByteArray) (x : ByteArray) (w : World) (hz : n ≤ zs.length) (hbig : n ≤ 9223372036854775807) (hc : ∀ j, j < zs.length → w.cell? ⟨b, off + j, none⟩ = some (.string (zs.getD j ByteArray.empty))) :
    Calls Tryz.prog 195 #[.slice (some ⟨b, off, none⟩) n c, .string x] w fun e w' => e = .returned (.bool (Lib.containsS (zs.take n) x)) ∧ w' = w := Any.slices_Contains_string Tryz.lays110 b off n c zs x w hz hbig hc
open Go.Lib in
/-- The same at a slice of length 0, a nil one too. (LAID: no walk: one application.) -/
theorem Tryz.slices_Contains_string_empty (a : Option Addr) (c : Nat) (x : ByteArray) (w : World) :
    Calls Tryz.prog 195 #[.slice a 0 c, .string x] w fun e w' => e = .returned (.bool false) ∧ w' = w := Any.slices_Contains_string_empty Tryz.lays110 a c x w
def Tryz.laysNm216_ren : Go.Shelf.Ren := ⟨fun | 16 => 59 | n => n, fun | 24 => 44 | 9 => 9 | 4 => 4 | n => n, fun | n => n⟩
theorem Tryz.laysNm216 : Go.Proofs.Lays2.n16 Tryz.prog Tryz.laysNm216_ren := {
  mixed := by kernel_rfl
  f16 := Tryz.func59.trans (congrArg some (by kernel_rfl))
  t4 := Tryz.underlying4
  a4 := Tryz.isAgg4
  z4 := Tryz.sizeOf4
  v4 := Tryz.zeroValue4
  t9 := Tryz.underlying9
  a9 := Tryz.isAgg9
  z9 := Tryz.sizeOf9
  v9 := Tryz.zeroValue9
  t24 := Tryz.underlying44
  a24 := Tryz.isAgg44
  z24 := Tryz.sizeOf44
  v24 := Tryz.zeroValue44
  i9 := by kernel_rfl }
open Go.RowKit Go.Lib in
/-- slices.Clone at []string: "Clone returns a copy of the slice. The elements are copied using assignment, so this is a shallow clone. The result may have additional unused capacity. The result preserves the nilness of s.": OF A SLICE THAT IS NOT nil IT RETURNS A SLICE THAT IS NOT nil, OF THE SAME ELEMENTS, IN MEMORY OF THE CALL's OWN: in the how-to's words (6f): 'w'.ownsRow B e 1 v' n cells': v' begins at the head of a row among the blocks from B on (B: the heap's size at the call), not frozen, whose first cells are the elements · 'Below B w w'': below B all is as it was. The capacity is whatever the run-time gives. 'zs': what the cells behind the slice's address hold; 'zs.take n': its elements. (LAID: no walk: one application.) -/
theorem Tryz.slices_Clone_string (b off n c : Nat) (zs : List ByteArray) (w : World) (hz : n ≤ zs.length) (hbig : n * 16 ≤ 140737488355328) (hc : ∀ j, j < zs.length → w.cell? ⟨b, off + j, none⟩ = some (.string (zs.getD j ByteArray.empty))) :
    Calls Tryz.prog 59 #[.slice (some ⟨b, off, none⟩) n c] w fun e w' => ∃ v', e = .returned v' ∧ w'.ownsRow w.heap.size 9 1 v' n ((zs.take n).map (Value.string)) ∧ v' ≠ .slice none 0 0 ∧ Below w.heap.size w w' := Any.slices_Clone_string Tryz.laysNm216 b off n c zs w hz hbig hc
open Go.RowKit Go.Lib in
/-- The same at nil: nil comes back; the world is as it was. (LAID: no walk: one application.) -/
theorem Tryz.slices_Clone_string_nil (n c : Nat) (w : World) :
    Calls Tryz.prog 59 #[.slice none n c] w fun e w' => e = .returned (.slice none 0 0) ∧ w' = w := Any.slices_Clone_string_nil Tryz.laysNm216 n c w
open Go.RowKit Go.Lib in
/-- The same at a slice of length 0 that is not nil, WHATEVER ITS ADDRESS (no cell is asked for): a slice that is not nil and owns nothing comes back. (LAID: no walk: one application.) -/
theorem Tryz.slices_Clone_string_zero (a : Addr) (c : Nat) (w : World) :
    Calls Tryz.prog 59 #[.slice (some a) 0 c] w fun e w' => ∃ v', e = .returned v' ∧ w'.ownsRow w.heap.size 9 1 v' 0 [] ∧ v' ≠ .slice none 0 0 ∧ Below w.heap.size w w' := Any.slices_Clone_string_zero Tryz.laysNm216 a c w
def Tryz.laysGg36_ren : Go.Shelf.Ren := ⟨fun | 36 => 163 | n => n, fun | 66 => 232 | 51 => 158 | 0 => 0 | 60 => 229 | 41 => 99 | n => n, fun | n => n⟩
theorem Tryz.laysGg36 : Go.Proofs.LaysGg.n36 Tryz.prog Tryz.laysGg36_ren := {
  mixed := by kernel_rfl
  f36 := Tryz.func163.trans (congrArg some (by kernel_rfl))
  t0 := Tryz.underlying0
  a0 := Tryz.isAgg0
  z0 := Tryz.sizeOf0
  v0 := Tryz.zeroValue0
  i0 := by kernel_rfl
  t41 := Tryz.underlying99
  a41 := Tryz.isAgg99
  z41 := Tryz.sizeOf99
  v41 := Tryz.zeroValue99
  i41 := by kernel_rfl
  t51 := Tryz.underlying158
  a51 := Tryz.isAgg158
  z51 := Tryz.sizeOf158
  v51 := Tryz.zeroValue158
  i51 := by kernel_rfl
  t60 := Tryz.underlying229
  a60 := Tryz.isAgg229
  z60 := Tryz.sizeOf229
  v60 := Tryz.zeroValue229
  i60 := by kernel_rfl
  t66 := Tryz.underlying232
  a66 := Tryz.isAgg232
  z66 := Tryz.sizeOf232
  v66 := Tryz.zeroValue232
  i66 := by kernel_rfl }
open Go.RowKit Go.Lib Go.Sort in
/-- '*r ^= *r << 13; *r ^= *r >> 7; *r ^= *r << 17; return uint64(*r)': the cell holds 'xorNextN X' and that is handed back; three draws; nothing else turns. (LAID: no walk: one application.) -/
theorem Tryz.xorshift_Next (rb ro X : Nat) (hX : X < 18446744073709551616) (w : World) (hc : w.cell? ⟨rb, ro, none⟩ = some (.int .u64 X)) (hf : w.frozen? ⟨rb, ro, none⟩ = false) :
    Calls Tryz.prog 163 #[.pointer (some ⟨rb, ro, none⟩)] w fun e w' => e = .returned (.int .u64 (xorNextN X : Nat)) ∧ w' = (w.setCell ⟨rb, ro, none⟩ (.int .u64 (xorNextN X : Nat))).drewN 3 := Any.xorshift_Next Tryz.laysGg36 rb ro X hX w hc hf
def Tryz.laysGg35_ren : Go.Shelf.Ren := ⟨fun | 35 => 162 | 13 => 66 | 24 => 86 | 25 => 87 | n => n, fun | 3 => 3 | 41 => 99 | 49 => 69 | 51 => 158 | 4 => 4 | 5 => 5 | 9 => 9 | n => n, fun | n => n⟩
theorem Tryz.laysGg35 : Go.Proofs.LaysGg.n35 Tryz.prog Tryz.laysGg35_ren := {
  mixed := by kernel_rfl
  f13 := Tryz.func66.trans (congrArg some (by kernel_rfl))
  f24 := Tryz.func86.trans (congrArg some (by kernel_rfl))
  f25 := Tryz.func87.trans (congrArg some (by kernel_rfl))
  f35 := Tryz.func162.trans (congrArg some (by kernel_rfl))
  t3 := Tryz.underlying3
  a3 := Tryz.isAgg3
  z3 := Tryz.sizeOf3
  v3 := Tryz.zeroValue3
  i3 := by kernel_rfl
  t4 := Tryz.underlying4
  a4 := Tryz.isAgg4
  z4 := Tryz.sizeOf4
  v4 := Tryz.zeroValue4
  i4 := by kernel_rfl
  t5 := Tryz.underlying5
  a5 := Tryz.isAgg5
  z5 := Tryz.sizeOf5
  v5 := Tryz.zeroValue5
  i5 := by kernel_rfl
  t9 := Tryz.underlying9
  a9 := Tryz.isAgg9
  z9 := Tryz.sizeOf9
  v9 := Tryz.zeroValue9
  i9 := by kernel_rfl
  t41 := Tryz.underlying99
  a41 := Tryz.isAgg99
  z41 := Tryz.sizeOf99
  v41 := Tryz.zeroValue99
  i41 := by kernel_rfl
  t49 := Tryz.underlying69
  a49 := Tryz.isAgg69
  z49 := Tryz.sizeOf69
  v49 := Tryz.zeroValue69
  i49 := by kernel_rfl
  t51 := Tryz.underlying158
  a51 := Tryz.isAgg158
  z51 := Tryz.sizeOf158
  v51 := Tryz.zeroValue158
  i51 := by kernel_rfl }
open Go.RowKit Go.Lib Go.Sort in
/-- 'return 1 << bits.Len(uint(length))'. (LAID: no walk: one application.) -/
theorem Tryz.nextPowerOfTwo (n : Nat) (hn : n < 4611686018427387904) (w : World) :
    Calls Tryz.prog 162 #[.int .i64 n] w fun e w' => e = .returned (.int .u64 ((1 <<< bitsLen n : Nat) : Int)) ∧ w' = w := Any.nextPowerOfTwo Tryz.laysGg35 n hn w
def Tryz.laysGt43_ren : Go.Shelf.Ren := ⟨fun | 43 => 161 | n => n, fun | 45 => 219 | 3 => 3 | 4 => 4 | 0 => 0 | 43 => 196 | 26 => 226 | 38 => 216 | n => n, fun | n => n⟩
theorem Tryz.laysGt43 : Go.Proofs.LaysGt.n43 Tryz.prog Tryz.laysGt43_ren := {
  mixed := by kernel_rfl
  f43 := Tryz.func161.trans (congrArg some (by kernel_rfl))
  t0 := Tryz.underlying0
  a0 := Tryz.isAgg0
  z0 := Tryz.sizeOf0
  v0 := Tryz.zeroValue0
  i0 := by kernel_rfl
  t3 := Tryz.underlying3
  a3 := Tryz.isAgg3
  z3 := Tryz.sizeOf3
  v3 := Tryz.zeroValue3
  i3 := by kernel_rfl
  t4 := Tryz.underlying4
  a4 := Tryz.isAgg4
  z4 := Tryz.sizeOf4
  v4 := Tryz.zeroValue4
  i4 := by kernel_rfl
  t26 := Tryz.underlying226
  a26 := Tryz.isAgg226
  z26 := Tryz.sizeOf226
  v26 := Tryz.zeroValue226
  i26 := by kernel_rfl
  t38 := Tryz.underlying216
  a38 := Tryz.isAgg216
  z38 := Tryz.sizeOf216
  v38 := Tryz.zeroValue216
  i38 := by kernel_rfl
  t43 := Tryz.underlying196
  a43 := Tryz.isAgg196
  z43 := Tryz.sizeOf196
  v43 := Tryz.zeroValue196
  i43 := by kernel_rfl
  t45 := Tryz.underlying219
  a45 := Tryz.isAgg219
  z45 := Tryz.sizeOf219
  v45 := Tryz.zeroValue219
  i45 := by kernel_rfl }
open Go.RowKit Go.Lib Go.Sort in
theorem Tryz.siftDown_iface {α : Type} [Inhabited α] (T : TypeId) (rv : Value) (gl gs : Nat) (rL : Reaches Tryz.prog T rv "Less" gl) (rS : Reaches Tryz.prog T rv "Swap" gs) (enc : α → Value) (lt : α → α → Bool) (blk off lo hi first : Nat) (d : Array α) (w : World) (hless : LessM Tryz.prog gl rv enc lt blk off d.size w) (hswap : SwapM Tryz.prog gs rv enc blk off d.size) (hH : Holds enc w blk off d) (hlo : lo ≤ hi) (hb : first + hi ≤ d.size) (hsz : d.size < 4611686018427387904) :
    Calls Tryz.prog 161 #[.iface T rv, .int .i64 lo, .int .i64 hi, .int .i64 first] w fun e w' =>
      e = .returned (.tuple #[]) ∧ ∃ n, w' = putRow enc (Sort.ahead w n) blk off (siftDown lt hi first lo d) := Any.siftDown_iface Tryz.laysGt43 T rv gl gs rL rS enc lt blk off lo hi first d w hless hswap hH hlo hb hsz
open Go.RowKit Go.Lib Go.Sort in
/-- sort.siftDown, from a world to a 'sortWorld' of it. (LAID: no walk: one application.) -/
theorem Tryz.siftDown_iface_w {α : Type} [Inhabited α] (T : TypeId) (rv : Value) (gl gs : Nat) (rL : Reaches Tryz.prog T rv "Less" gl) (rS : Reaches Tryz.prog T rv "Swap" gs) (enc : α → Value) (lt : α → α → Bool) (blk off lo hi first : Nat) (d : Array α) (w : World) (hless : LessM Tryz.prog gl rv enc lt blk off d.size w) (hswap : SwapM Tryz.prog gs rv enc blk off d.size) (hH : Holds enc w blk off d) (hlo : lo ≤ hi) (hb : first + hi ≤ d.size) (hsz : d.size < 4611686018427387904) :
    Calls Tryz.prog 161 #[.iface T rv, .int .i64 lo, .int .i64 hi, .int .i64 first] w fun e w' => e = .returned (.tuple #[]) ∧ ∃ n os, w' = sortWorld enc w blk off n (siftDown lt hi first lo d) os := Any.siftDown_iface_w Tryz.laysGt43 T rv gl gs rL rS enc lt blk off lo hi first d w hless hswap hH hlo hb hsz
def Tryz.laysGt34_ren : Go.Shelf.Ren := ⟨fun | 34 => 154 | 43 => 161 | n => n, fun | 45 => 219 | 3 => 3 | 4 => 4 | 0 => 0 | 43 => 196 | 26 => 226 | 38 => 216 | n => n, fun | n => n⟩
theorem Tryz.laysGt34 : Go.Proofs.LaysGt.n34 Tryz.prog Tryz.laysGt34_ren := {
  mixed := by kernel_rfl
  f34 := Tryz.func154.trans (congrArg some (by kernel_rfl))
  f43 := Tryz.func161.trans (congrArg some (by kernel_rfl))
  t0 := Tryz.underlying0
  a0 := Tryz.isAgg0
  z0 := Tryz.sizeOf0
  v0 := Tryz.zeroValue0
  i0 := by kernel_rfl
  t3 := Tryz.underlying3
  a3 := Tryz.isAgg3
  z3 := Tryz.sizeOf3
  v3 := Tryz.zeroValue3
  i3 := by kernel_rfl
  t4 := Tryz.underlying4
  a4 := Tryz.isAgg4
  z4 := Tryz.sizeOf4
  v4 := Tryz.zeroValue4
  i4 := by kernel_rfl
  t26 := Tryz.underlying226
  a26 := Tryz.isAgg226
  z26 := Tryz.sizeOf226
  v26 := Tryz.zeroValue226
  i26 := by kernel_rfl
  t38 := Tryz.underlying216
  a38 := Tryz.isAgg216
  z38 := Tryz.sizeOf216
  v38 := Tryz.zeroValue216
  i38 := by kernel_rfl
  t43 := Tryz.underlying196
  a43 := Tryz.isAgg196
  z43 := Tryz.sizeOf196
  v43 := Tryz.zeroValue196
  i43 := by kernel_rfl
  t45 := Tryz.underlying219
  a45 := Tryz.isAgg219
  z45 := Tryz.sizeOf219
  v45 := Tryz.zeroValue219
  i45 := by kernel_rfl }
open Go.RowKit Go.Lib Go.Sort in
theorem Tryz.heapSort_iface_w {α : Type} [Inhabited α] (T : TypeId) (rv : Value) (gl gs : Nat) (rL : Reaches Tryz.prog T rv "Less" gl) (rS : Reaches Tryz.prog T rv "Swap" gs) (enc : α → Value) (lt : α → α → Bool) (blk off a b : Nat) (d : Array α) (w : World) (hless : LessM Tryz.prog gl rv enc lt blk off d.size w) (hswap : SwapM Tryz.prog gs rv enc blk off d.size) (hH : Holds enc w blk off d) (hblk : blk < w.heap.size) (hab : a ≤ b) (hb : b ≤ d.size) (hsz : d.size < 4611686018427387904) :
    Calls Tryz.prog 154 #[.iface T rv, .int .i64 a, .int .i64 b] w fun e w' => e = .returned (.tuple #[]) ∧ ∃ n os, w' = sortWorld enc w blk off n (heapSort lt d a b) os := Any.heapSort_iface_w Tryz.laysGt34 T rv gl gs rL rS enc lt blk off a b d w hless hswap hH hblk hab hb hsz
def Tryz.laysGt38_ren : Go.Shelf.Ren := ⟨fun | 38 => 158 | n => n, fun | 45 => 219 | 3 => 3 | 4 => 4 | 0 => 0 | 43 => 196 | 26 => 226 | 38 => 216 | n => n, fun | n => n⟩
theorem Tryz.laysGt38 : Go.Proofs.LaysGt.n38 Tryz.prog Tryz.laysGt38_ren := {
  mixed := by kernel_rfl
  f38 := Tryz.func158.trans (congrArg some (by kernel_rfl))
  t0 := Tryz.underlying0
  a0 := Tryz.isAgg0
  z0 := Tryz.sizeOf0
  v0 := Tryz.zeroValue0
  i0 := by kernel_rfl
  t3 := Tryz.underlying3
  a3 := Tryz.isAgg3
  z3 := Tryz.sizeOf3
  v3 := Tryz.zeroValue3
  i3 := by kernel_rfl
  t4 := Tryz.underlying4
  a4 := Tryz.isAgg4
  z4 := Tryz.sizeOf4
  v4 := Tryz.zeroValue4
  i4 := by kernel_rfl
  t26 := Tryz.underlying226
  a26 := Tryz.isAgg226
  z26 := Tryz.sizeOf226
  v26 := Tryz.zeroValue226
  i26 := by kernel_rfl
  t38 := Tryz.underlying216
  a38 := Tryz.isAgg216
  z38 := Tryz.sizeOf216
  v38 := Tryz.zeroValue216
  i38 := by kernel_rfl
  t43 := Tryz.underlying196
  a43 := Tryz.isAgg196
  z43 := Tryz.sizeOf196
  v43 := Tryz.zeroValue196
  i43 := by kernel_rfl
  t45 := Tryz.underlying219
  a45 := Tryz.isAgg219
  z45 := Tryz.sizeOf219
  v45 := Tryz.zeroValue219
  i45 := by kernel_rfl }
open Go.RowKit Go.Lib Go.Sort in
theorem Tryz.partialInsertionSort_iface {α : Type} [Inhabited α] (T : TypeId) (rv : Value) (gl gs : Nat) (rL : Reaches Tryz.prog T rv "Less" gl) (rS : Reaches Tryz.prog T rv "Swap" gs) (enc : α → Value) (lt : α → α → Bool) (blk off a b : Nat) (d : Array α) (w : World) (hless : LessM Tryz.prog gl rv enc lt blk off d.size w) (hswap : SwapM Tryz.prog gs rv enc blk off d.size) (hH : Holds enc w blk off d) (hab : a < b) (hb : b ≤ d.size) (hsz : d.size < 4611686018427387904) :
    Calls Tryz.prog 158 #[.iface T rv, .int .i64 a, .int .i64 b] w fun e w' =>
      e = .returned (.bool (Sort.partialInsertionSort lt d a b).2) ∧ ∃ n, w' = putRow enc (Sort.ahead w n) blk off (Sort.partialInsertionSort lt d a b).1 := Any.partialInsertionSort_iface Tryz.laysGt38 T rv gl gs rL rS enc lt blk off a b d w hless hswap hH hab hb hsz
open Go.RowKit Go.Lib Go.Sort in
/-- sort.partialInsertionSort, from a world to a 'sortWorld' of it. (LAID: no walk: one application.) -/
theorem Tryz.partialInsertionSort_iface_w {α : Type} [Inhabited α] (T : TypeId) (rv : Value) (gl gs : Nat) (rL : Reaches Tryz.prog T rv "Less" gl) (rS : Reaches Tryz.prog T rv "Swap" gs) (enc : α → Value) (lt : α → α → Bool) (blk off a b : Nat) (d : Array α) (w : World) (hless : LessM Tryz.prog gl rv enc lt blk off d.size w) (hswap : SwapM Tryz.prog gs rv enc blk off d.size) (hH : Holds enc w blk off d) (hab : a < b) (hb : b ≤ d.size) (hsz : d.size < 4611686018427387904) :
    Calls Tryz.prog 158 #[.iface T rv, .int .i64 a, .int .i64 b] w fun e w' => e = .returned (.bool (Sort.partialInsertionSort lt d a b).2) ∧ ∃ n os, w' = sortWorld enc w blk off n (Sort.partialInsertionSort lt d a b).1 os := Any.partialInsertionSort_iface_w Tryz.laysGt38 T rv gl gs rL rS enc lt blk off a b d w hless hswap hH hab hb hsz
def Tryz.laysSlE041_f59_ren : Go.Shelf.Ren := ⟨fun | 41 => 59 | n => n, fun | 22 => 44 | 23 => 9 | 4 => 4 | n => n, fun | n => n⟩
theorem Tryz.laysSlE041_f59 : Go.Proofs.SlLaysE0.n41 Tryz.prog Tryz.laysSlE041_f59_ren := {
  mixed := by kernel_rfl
  f41 := ⟨Tryz.f59.name, by decide, Tryz.func59.trans (congrArg some (by kernel_rfl))⟩
  t4 := Tryz.underlying4
  a4 := Tryz.isAgg4
  z4 := Tryz.sizeOf4
  v4 := Tryz.zeroValue4
  t22 := Tryz.underlying44
  a22 := Tryz.isAgg44
  z22 := Tryz.sizeOf44
  v22 := Tryz.zeroValue44 }
open Go.RowKit Go.Lib in
/-- slices.Clone: "Clone returns a copy of the slice. The elements are copied using assignment, so this is a shallow clone. The result may have additional unused capacity. The result preserves the nilness of s.": OF A SLICE THAT IS NOT nil IT RETURNS A SLICE THAT IS NOT nil, OF THE SAME CELLS, IN MEMORY OF THE CALL's OWN ('ownsRow': the how-to's 6f); below the heap's size at the call all is as it was. (LAID AT THE INSTANCE 'slices.Clone[[]string,string]': no walk: one application.) -/
theorem Tryz.slices_Clone_f59 (i0 : TypeInfo) (z : Value) (size bytes : Nat) (hi : Tryz.prog.info? 9 = some i0) (hz0 : i0.zero = some z) (hz1 : i0.size = size) (hz2 : i0.bytes = bytes) (hzs : z.cells.size = size) (hsz : 0 < size) (z23 : ∀ w, (Go.sizeOf 9).run Tryz.prog w = .ok size w) (b off n c : Nat) (news : List Value) (w : World) (hl : news.length = n * size) (hn : n ≤ maxLen) (hbig : n * bytes ≤ 140737488355328) (hc : ∀ j u, news[j]? = some u → w.cell? ⟨b, off + j, none⟩ = some u) (h1 : ∀ u ∈ news, u.oneCell' = true) :
    Calls Tryz.prog 59 #[.slice (some ⟨b, off, none⟩) n c] w fun e w' => ∃ v', e = .returned v' ∧ w'.ownsRow w.heap.size 9 size v' n news ∧ v' ≠ .slice none 0 0 ∧ Below w.heap.size w w' := AnyE.slices_Clone Tryz.laysSlE041_f59 i0 z size bytes hi hz0 hz1 hz2 hzs hsz z23 b off n c news w hl hn hbig hc h1
def Tryz.laysSlE041_f60_ren : Go.Shelf.Ren := ⟨fun | 41 => 60 | n => n, fun | 22 => 49 | 23 => 21 | 4 => 4 | n => n, fun | n => n⟩
theorem Tryz.laysSlE041_f60 : Go.Proofs.SlLaysE0.n41 Tryz.prog Tryz.laysSlE041_f60_ren := {
  mixed := by kernel_rfl
  f41 := ⟨Tryz.f60.name, by decide, Tryz.func60.trans (congrArg some (by kernel_rfl))⟩
  t4 := Tryz.underlying4
  a4 := Tryz.isAgg4
  z4 := Tryz.sizeOf4
  v4 := Tryz.zeroValue4
  t22 := Tryz.underlying49
  a22 := Tryz.isAgg49
  z22 := Tryz.sizeOf49
  v22 := Tryz.zeroValue49 }
open Go.RowKit Go.Lib in
/-- slices.Clone: "Clone returns a copy of the slice. The elements are copied using assignment, so this is a shallow clone. The result may have additional unused capacity. The result preserves the nilness of s.": OF A SLICE THAT IS NOT nil IT RETURNS A SLICE THAT IS NOT nil, OF THE SAME CELLS, IN MEMORY OF THE CALL's OWN ('ownsRow': the how-to's 6f); below the heap's size at the call all is as it was. (LAID AT THE INSTANCE 'slices.Clone[[]int32,int32]': no walk: one application.) -/
theorem Tryz.slices_Clone_f60 (i0 : TypeInfo) (z : Value) (size bytes : Nat) (hi : Tryz.prog.info? 21 = some i0) (hz0 : i0.zero = some z) (hz1 : i0.size = size) (hz2 : i0.bytes = bytes) (hzs : z.cells.size = size) (hsz : 0 < size) (z23 : ∀ w, (Go.sizeOf 21).run Tryz.prog w = .ok size w) (b off n c : Nat) (news : List Value) (w : World) (hl : news.length = n * size) (hn : n ≤ maxLen) (hbig : n * bytes ≤ 140737488355328) (hc : ∀ j u, news[j]? = some u → w.cell? ⟨b, off + j, none⟩ = some u) (h1 : ∀ u ∈ news, u.oneCell' = true) :
    Calls Tryz.prog 60 #[.slice (some ⟨b, off, none⟩) n c] w fun e w' => ∃ v', e = .returned v' ∧ w'.ownsRow w.heap.size 21 size v' n news ∧ v' ≠ .slice none 0 0 ∧ Below w.heap.size w w' := AnyE.slices_Clone Tryz.laysSlE041_f60 i0 z size bytes hi hz0 hz1 hz2 hzs hsz z23 b off n c news w hl hn hbig hc h1
open Go.RowKit Go.Lib in
/-- The same at nil: nil comes back; the world is as it was; nothing is asked of the element's type. (LAID AT THE INSTANCE 'slices.Clone[[]string,string]': no walk: one application.) -/
theorem Tryz.slices_Clone_nil_f59 (n c : Nat) (w : World) :
    Calls Tryz.prog 59 #[.slice none n c] w fun e w' => e = .returned (.slice none 0 0) ∧ w' = w := AnyE.slices_Clone_nil Tryz.laysSlE041_f59 n c w
open Go.RowKit Go.Lib in
/-- The same at nil: nil comes back; the world is as it was; nothing is asked of the element's type. (LAID AT THE INSTANCE 'slices.Clone[[]int32,int32]': no walk: one application.) -/
theorem Tryz.slices_Clone_nil_f60 (n c : Nat) (w : World) :
    Calls Tryz.prog 60 #[.slice none n c] w fun e w' => e = .returned (.slice none 0 0) ∧ w' = w := AnyE.slices_Clone_nil Tryz.laysSlE041_f60 n c w
end Go.Proofs
