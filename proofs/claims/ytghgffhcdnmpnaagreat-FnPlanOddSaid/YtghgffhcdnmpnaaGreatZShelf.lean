/-
  DERIVED: THE SHELF's CONTRACTS AT THIS DUMP, IN PLAIN WORDS (tools/lay-plain.mjs out of 'YtghgffhcdnmpnaaGreatShelf.lean', which tools/lay-shelf.mjs wrote): THE SAME DECLARATIONS UNDER THE SAME NAMES: 'import', 'namespace', 'open', 'def', 'theorem' AND NOTHING ELSE: no command of the shelf's: FOR A HAND-IN. Each laying: the table of numbers ('.._ren') and one theorem, a field a fact of the dump's own or the kernel's comparison; each contract: ONE APPLICATION.
-/
import Derived.Shelf.Small.Bits
import Derived.Shelf.Small.Strs
import Derived.Shelf.Strconv.Itoa0
import Derived.Shelf.Strconv.Itoa1
import Derived.Shelf.LaysM
import Derived.Shelf.Strconv.Itoa2
import Derived.Shelf.Strconv.Itoa3
import Derived.Ground.MnProg
import Derived.Shelf.Bin.LEUint32
import Derived.Shelf.Bin.BEUint16
import Derived.Shelf.Bin.BEUint32
import Derived.Shelf.Bin.BEUint32Panics
import Derived.Shelf.Sort.Plain
import Derived.Shelf.Bin.ReadersZ
import Derived.Ground.GgtProg
import Derived.Shelf.GgSortMore.Iface
import Derived.Shelf.GgSortMore.IfaceD
import Derived.Shelf.GgSortMore.IfacePart
import Derived.Shelf.GgSortMore.IfacePdq
import Derived.Shelf.GgSortMore.SortSort
import Derived.Ground.GguProg
import Derived.Shelf.GgSortLib.LibTypes
import Derived.Shelf.Slices.Turned
import Derived.Ground.Names2Prog
import Derived.Shelf.Slices.Clone
import Derived.Ground.GgsProg
import Derived.Shelf.SlSortFunc.Xorshift
import Derived.Shelf.SlSortIface.SiftDown
import Derived.Shelf.SlSortIface.HeapSort
import Derived.Shelf.SlSortIface.PartialInsertion
import Derived.Ground.SlgnProg
import Derived.Shelf.SlicesE.Clone
import Derived.Test.YtghgffhcdnmpnaaGreatProg
namespace Go.Proofs
open Go.Shelf
def Tryz.lays125_ren : Go.Shelf.Ren := ⟨fun | 125 => 66 | 128 => 86 | 129 => 87 | n => n, fun | 46 => 99 | 3 => 3 | 51 => 69 | 53 => 158 | 4 => 4 | 5 => 5 | 9 => 9 | n => n, fun | n => n⟩
theorem Tryz.lays125 : Go.Proofs.Lays.n125 Tryz.prog Tryz.lays125_ren := {
  mixed := by kernel_rfl
  f125 := Tryz.func66.trans (congrArg some (by kernel_rfl))
  f128 := Tryz.func86.trans (congrArg some (by kernel_rfl))
  f129 := Tryz.func87.trans (congrArg some (by kernel_rfl))
  t3 := Tryz.underlying3
  a3 := Tryz.isAgg3
  z3 := Tryz.sizeOf3
  v3 := Tryz.zeroValue3
  t4 := Tryz.underlying4
  a4 := Tryz.isAgg4
  z4 := Tryz.sizeOf4
  v4 := Tryz.zeroValue4
  t5 := Tryz.underlying5
  a5 := Tryz.isAgg5
  z5 := Tryz.sizeOf5
  v5 := Tryz.zeroValue5
  t9 := Tryz.underlying9
  a9 := Tryz.isAgg9
  z9 := Tryz.sizeOf9
  v9 := Tryz.zeroValue9
  t46 := Tryz.underlying99
  a46 := Tryz.isAgg99
  z46 := Tryz.sizeOf99
  v46 := Tryz.zeroValue99
  t51 := Tryz.underlying69
  a51 := Tryz.isAgg69
  z51 := Tryz.sizeOf69
  v51 := Tryz.zeroValue69
  t53 := Tryz.underlying158
  a53 := Tryz.isAgg158
  z53 := Tryz.sizeOf158
  v53 := Tryz.zeroValue158 }
/-- bits.Len: "Len returns the minimum number of bits required to represent x; the result is 0 for x == 0.": IT RETURNS 'Lib.bitLen x'; the world is as it was. (A uint has 64 bits in the model.) ITS CALLEE bits.Len64 IS MET BY ITS OWN CONTRACT OFF THE SHELF (lay that first). (LAID: no walk: one application.) -/
theorem Tryz.bits_Len (x : Int) (w : World) (h0 : 0 ≤ x) (h1 : x ≤ 18446744073709551615) :
    Calls Tryz.prog 66 #[.int .u64 x] w fun e w' => e = .returned (.int .i64 (Lib.bitLen x.toNat)) ∧ w' = w := Any.bits_Len Tryz.lays125 x w h0 h1
open Go.RowKit in
open Go.RowKit in
def Tryz.lays129_ren : Go.Shelf.Ren := ⟨fun | 129 => 87 | n => n, fun | 53 => 158 | 3 => 3 | 4 => 4 | 46 => 99 | 5 => 5 | 9 => 9 | n => n, fun | n => n⟩
theorem Tryz.lays129 : Go.Proofs.Lays.n129 Tryz.prog Tryz.lays129_ren := {
  mixed := by kernel_rfl
  f129 := Tryz.func87.trans (congrArg some (by kernel_rfl))
  t3 := Tryz.underlying3
  a3 := Tryz.isAgg3
  z3 := Tryz.sizeOf3
  v3 := Tryz.zeroValue3
  t4 := Tryz.underlying4
  a4 := Tryz.isAgg4
  z4 := Tryz.sizeOf4
  v4 := Tryz.zeroValue4
  t5 := Tryz.underlying5
  a5 := Tryz.isAgg5
  z5 := Tryz.sizeOf5
  v5 := Tryz.zeroValue5
  t9 := Tryz.underlying9
  a9 := Tryz.isAgg9
  z9 := Tryz.sizeOf9
  v9 := Tryz.zeroValue9
  t46 := Tryz.underlying99
  a46 := Tryz.isAgg99
  z46 := Tryz.sizeOf99
  v46 := Tryz.zeroValue99
  t53 := Tryz.underlying158
  a53 := Tryz.isAgg158
  z53 := Tryz.sizeOf158
  v53 := Tryz.zeroValue158 }
/-- bits.Len64: "Len64 returns the minimum number of bits required to represent x; the result is 0 for x == 0.": IT RETURNS 'Lib.bitLen x'; the world is as it was. ('h0', 'h1': x is a uint64.) (LAID: no walk: one application.) -/
theorem Tryz.bits_Len64 (x : Int) (w : World) (h0 : 0 ≤ x) (h1 : x ≤ 18446744073709551615) :
    Calls Tryz.prog 87 #[.int .u64 x] w fun e w' => e = .returned (.int .i64 (Lib.bitLen x.toNat)) ∧ w' = w := Any.bits_Len64 Tryz.lays129 x w h0 h1
def Tryz.lays317_ren : Go.Shelf.Ren := ⟨fun | 317 => 185 | n => n, fun | 3 => 3 | 46 => 99 | n => n, fun | n => n⟩
theorem Tryz.lays317 : Go.Proofs.Lays.n317 Tryz.prog Tryz.lays317_ren := {
  mixed := by kernel_rfl
  f317 := Tryz.func185.trans (congrArg some (by kernel_rfl))
  t3 := Tryz.underlying3
  a3 := Tryz.isAgg3
  z3 := Tryz.sizeOf3
  v3 := Tryz.zeroValue3
  t46 := Tryz.underlying99
  a46 := Tryz.isAgg99
  z46 := Tryz.sizeOf99
  v46 := Tryz.zeroValue99 }
open Go.Lib in
/-- internal/strconv.log10Pow2: "log10Pow2(x) returns ⌊log₁₀ 2**x⌋ = ⌊x * log₁₀ 2⌋.": '(x * 78913) >> 18', at an x up to 64 (a length in bits). The world is as it was. (LAID: no walk: one application.) -/
theorem Tryz.internal_strconv_log10Pow2 (x : Nat) (h : x ≤ 64) (w : World) :
    Calls Tryz.prog 185 #[.int .i64 x] w fun e w' => e = .returned (.int .i64 (Lib.l10 x)) ∧ w' = w := Any.internal_strconv_log10Pow2 Tryz.lays317 x h w
def Tryz.lays318_ren : Go.Shelf.Ren := ⟨fun | 318 => 186 | n => n, fun | 3 => 3 | 4 => 4 | n => n, fun | n => n⟩
theorem Tryz.lays318 : Go.Proofs.Lays.n318 Tryz.prog Tryz.lays318_ren := {
  mixed := by kernel_rfl
  f318 := Tryz.func186.trans (congrArg some (by kernel_rfl))
  t3 := Tryz.underlying3
  a3 := Tryz.isAgg3
  z3 := Tryz.sizeOf3
  v3 := Tryz.zeroValue3
  t4 := Tryz.underlying4
  a4 := Tryz.isAgg4
  z4 := Tryz.sizeOf4
  v4 := Tryz.zeroValue4 }
open Go.Lib in
/-- internal/strconv.bool2: "bool2 converts b to an integer: 1 for true, 0 for false." The world is as it was. (LAID: no walk: one application.) -/
theorem Tryz.internal_strconv_bool2_int (b : Bool) (w : World) :
    Calls Tryz.prog 186 #[.bool b] w fun e w' => e = .returned (.int .i64 (if b then 1 else 0)) ∧ w' = w := Any.internal_strconv_bool2_int Tryz.lays318 b w
open Go.Lib in
open Go.Lib in
def Tryz.lays285_ren : Go.Shelf.Ren := ⟨fun | 285 => 183 | n => n, fun | 37 => 22 | 53 => 158 | 3 => 3 | 4 => 4 | 51 => 69 | 9 => 9 | 5 => 5 | 0 => 0 | n => n, fun | n => n⟩
theorem Tryz.lays285 : Go.Proofs.Lays.n285 Tryz.prog Tryz.lays285_ren := {
  mixed := by kernel_rfl
  f285 := Tryz.func183.trans (congrArg some (by kernel_rfl))
  t0 := Tryz.underlying0
  a0 := Tryz.isAgg0
  z0 := Tryz.sizeOf0
  v0 := Tryz.zeroValue0
  t3 := Tryz.underlying3
  a3 := Tryz.isAgg3
  z3 := Tryz.sizeOf3
  v3 := Tryz.zeroValue3
  t4 := Tryz.underlying4
  a4 := Tryz.isAgg4
  z4 := Tryz.sizeOf4
  v4 := Tryz.zeroValue4
  t5 := Tryz.underlying5
  a5 := Tryz.isAgg5
  z5 := Tryz.sizeOf5
  v5 := Tryz.zeroValue5
  t9 := Tryz.underlying9
  a9 := Tryz.isAgg9
  z9 := Tryz.sizeOf9
  v9 := Tryz.zeroValue9
  t37 := Tryz.underlying22
  a37 := Tryz.isAgg22
  z37 := Tryz.sizeOf22
  v37 := Tryz.zeroValue22
  t51 := Tryz.underlying69
  a51 := Tryz.isAgg69
  z51 := Tryz.sizeOf69
  v51 := Tryz.zeroValue69
  t53 := Tryz.underlying158
  a53 := Tryz.isAgg158
  z53 := Tryz.sizeOf158
  v53 := Tryz.zeroValue158 }
open Go.RowKit Go.Sort Go.Lib in
open Go.RowKit Go.Sort Go.Lib in
def Tryz.lays246_ren : Go.Shelf.Ren := ⟨fun | 246 => 180 | 283 => 181 | 284 => 182 | 285 => 183 | 286 => 184 | 129 => 87 | 317 => 185 | 318 => 186 | 319 => 187 | 320 => 188 | 337 => 189 | 338 => 190 | n => n, fun | 2 => 2 | 3 => 3 | 9 => 9 | 4 => 4 | 171 => 251 | 0 => 0 | 53 => 158 | 37 => 22 | 5 => 5 | 173 => 253 | 212 => 257 | 51 => 69 | 20 => 20 | 213 => 258 | 46 => 99 | 232 => 260 | 233 => 261 | n => n, fun | 17 => 2 | 18 => 3 | 19 => 4 | n => n⟩
theorem Tryz.lays246 : Go.Proofs.Lays.n246 Tryz.prog Tryz.lays246_ren := {
  mixed := by kernel_rfl
  f129 := Tryz.func87.trans (congrArg some (by kernel_rfl))
  f246 := Tryz.func180.trans (congrArg some (by kernel_rfl))
  f283 := Tryz.func181.trans (congrArg some (by kernel_rfl))
  f284 := Tryz.func182.trans (congrArg some (by kernel_rfl))
  f285 := Tryz.func183.trans (congrArg some (by kernel_rfl))
  f286 := Tryz.func184.trans (congrArg some (by kernel_rfl))
  f317 := Tryz.func185.trans (congrArg some (by kernel_rfl))
  f318 := Tryz.func186.trans (congrArg some (by kernel_rfl))
  f319 := Tryz.func187.trans (congrArg some (by kernel_rfl))
  f320 := Tryz.func188.trans (congrArg some (by kernel_rfl))
  f337 := Tryz.func189.trans (congrArg some (by kernel_rfl))
  f338 := Tryz.func190.trans (congrArg some (by kernel_rfl))
  t0 := Tryz.underlying0
  a0 := Tryz.isAgg0
  z0 := Tryz.sizeOf0
  v0 := Tryz.zeroValue0
  t2 := Tryz.underlying2
  a2 := Tryz.isAgg2
  z2 := Tryz.sizeOf2
  v2 := Tryz.zeroValue2
  t3 := Tryz.underlying3
  a3 := Tryz.isAgg3
  z3 := Tryz.sizeOf3
  v3 := Tryz.zeroValue3
  t4 := Tryz.underlying4
  a4 := Tryz.isAgg4
  z4 := Tryz.sizeOf4
  v4 := Tryz.zeroValue4
  t5 := Tryz.underlying5
  a5 := Tryz.isAgg5
  z5 := Tryz.sizeOf5
  v5 := Tryz.zeroValue5
  t9 := Tryz.underlying9
  a9 := Tryz.isAgg9
  z9 := Tryz.sizeOf9
  v9 := Tryz.zeroValue9
  t20 := Tryz.underlying20
  a20 := Tryz.isAgg20
  z20 := Tryz.sizeOf20
  v20 := Tryz.zeroValue20
  t37 := Tryz.underlying22
  a37 := Tryz.isAgg22
  z37 := Tryz.sizeOf22
  v37 := Tryz.zeroValue22
  t46 := Tryz.underlying99
  a46 := Tryz.isAgg99
  z46 := Tryz.sizeOf99
  v46 := Tryz.zeroValue99
  t51 := Tryz.underlying69
  a51 := Tryz.isAgg69
  z51 := Tryz.sizeOf69
  v51 := Tryz.zeroValue69
  t53 := Tryz.underlying158
  a53 := Tryz.isAgg158
  z53 := Tryz.sizeOf158
  v53 := Tryz.zeroValue158
  t171 := Tryz.underlying251
  a171 := Tryz.isAgg251
  z171 := Tryz.sizeOf251
  v171 := Tryz.zeroValue251
  t173 := Tryz.underlying253
  a173 := Tryz.isAgg253
  z173 := Tryz.sizeOf253
  v173 := Tryz.zeroValue253
  t212 := Tryz.underlying257
  a212 := Tryz.isAgg257
  z212 := Tryz.sizeOf257
  v212 := Tryz.zeroValue257
  t213 := Tryz.underlying258
  a213 := Tryz.isAgg258
  z213 := Tryz.sizeOf258
  t232 := Tryz.underlying260
  a232 := Tryz.isAgg260
  z232 := Tryz.sizeOf260
  v232 := Tryz.zeroValue260
  t233 := Tryz.underlying261
  a233 := Tryz.isAgg261
  z233 := Tryz.sizeOf261
  v233 := Tryz.zeroValue261
  g17 := by kernel_rfl
  g18 := by kernel_rfl
  g19 := by kernel_rfl }
open Go.RowKit Go.Sort Go.Lib in
/-- THE ROAD WITHOUT THE TABLE: 0 <= i < 100: two constants are read, nothing is laid: no premise on the world, and the world is as it was. (LAID: no walk: one application.) -/
theorem Tryz.internal_strconv_FormatInt_10_small (i : Nat) (hi : i < 100) (w : World) :
    Calls Tryz.prog 180 #[.int .i64 i, .int .i64 10] w fun e w' => e = .returned (.string ⟨(Lib.decDigits i).toArray⟩) ∧ w' = w := Any.internal_strconv_FormatInt_10_small Tryz.lays246 i hi w
open Go.RowKit Go.Sort Go.Lib in
open Go.RowKit Go.Sort Go.Lib in
open Go.RowKit Go.Sort Go.Lib in
open Go.RowKit Go.Sort Go.Lib in
open Go.RowKit in
open Go.RowKit in
open Go.RowKit in
open Go.RowKit in
def Tryz.lays190_ren : Go.Shelf.Ren := ⟨fun | 190 => 44 | 125 => 66 | 258 => 65 | 128 => 86 | 129 => 87 | 302 => 77 | 303 => 78 | 304 => 79 | 305 => 80 | 306 => 81 | 307 => 82 | 308 => 83 | 309 => 84 | 310 => 85 | 333 => 91 | 329 => 92 | 330 => 93 | 334 => 94 | 335 => 95 | 336 => 96 | 344 => 110 | n => n, fun | 31 => 44 | 9 => 9 | 3 => 3 | 46 => 99 | 0 => 0 | 51 => 69 | 53 => 158 | 4 => 4 | 183 => 149 | 182 => 148 | 131 => 154 | 5 => 5 | 218 => 166 | 222 => 170 | 228 => 181 | 229 => 182 | n => n, fun | n => n⟩
theorem Tryz.lays190 : Go.Proofs.Lays.n190 Tryz.prog Tryz.lays190_ren := {
  mixed := by kernel_rfl
  f125 := Tryz.func66.trans (congrArg some (by kernel_rfl))
  f128 := Tryz.func86.trans (congrArg some (by kernel_rfl))
  f129 := Tryz.func87.trans (congrArg some (by kernel_rfl))
  f190 := Tryz.func44.trans (congrArg some (by kernel_rfl))
  f258 := Tryz.func65.trans (congrArg some (by kernel_rfl))
  f302 := Tryz.func77.trans (congrArg some (by kernel_rfl))
  f303 := Tryz.func78.trans (congrArg some (by kernel_rfl))
  f304 := Tryz.func79.trans (congrArg some (by kernel_rfl))
  f305 := Tryz.func80.trans (congrArg some (by kernel_rfl))
  f306 := Tryz.func81.trans (congrArg some (by kernel_rfl))
  f307 := Tryz.func82.trans (congrArg some (by kernel_rfl))
  f308 := Tryz.func83.trans (congrArg some (by kernel_rfl))
  f309 := Tryz.func84.trans (congrArg some (by kernel_rfl))
  f310 := Tryz.func85.trans (congrArg some (by kernel_rfl))
  f329 := Tryz.func92.trans (congrArg some (by kernel_rfl))
  f330 := Tryz.func93.trans (congrArg some (by kernel_rfl))
  f333 := Tryz.func91.trans (congrArg some (by kernel_rfl))
  f334 := Tryz.func94.trans (congrArg some (by kernel_rfl))
  f335 := Tryz.func95.trans (congrArg some (by kernel_rfl))
  f336 := Tryz.func96.trans (congrArg some (by kernel_rfl))
  f344 := Tryz.func110.trans (congrArg some (by kernel_rfl))
  t0 := Tryz.underlying0
  a0 := Tryz.isAgg0
  z0 := Tryz.sizeOf0
  v0 := Tryz.zeroValue0
  t3 := Tryz.underlying3
  a3 := Tryz.isAgg3
  z3 := Tryz.sizeOf3
  v3 := Tryz.zeroValue3
  t4 := Tryz.underlying4
  a4 := Tryz.isAgg4
  z4 := Tryz.sizeOf4
  v4 := Tryz.zeroValue4
  t5 := Tryz.underlying5
  a5 := Tryz.isAgg5
  z5 := Tryz.sizeOf5
  v5 := Tryz.zeroValue5
  t9 := Tryz.underlying9
  a9 := Tryz.isAgg9
  z9 := Tryz.sizeOf9
  v9 := Tryz.zeroValue9
  t31 := Tryz.underlying44
  a31 := Tryz.isAgg44
  z31 := Tryz.sizeOf44
  v31 := Tryz.zeroValue44
  t46 := Tryz.underlying99
  a46 := Tryz.isAgg99
  z46 := Tryz.sizeOf99
  v46 := Tryz.zeroValue99
  t51 := Tryz.underlying69
  a51 := Tryz.isAgg69
  z51 := Tryz.sizeOf69
  v51 := Tryz.zeroValue69
  t53 := Tryz.underlying158
  a53 := Tryz.isAgg158
  z53 := Tryz.sizeOf158
  v53 := Tryz.zeroValue158
  t131 := Tryz.underlying154
  a131 := Tryz.isAgg154
  z131 := Tryz.sizeOf154
  v131 := Tryz.zeroValue154
  t182 := Tryz.underlying148
  a182 := Tryz.isAgg148
  z182 := Tryz.sizeOf148
  v182 := Tryz.zeroValue148
  t183 := Tryz.underlying149
  a183 := Tryz.isAgg149
  z183 := Tryz.sizeOf149
  v183 := Tryz.zeroValue149
  t218 := Tryz.underlying166
  a218 := Tryz.isAgg166
  z218 := Tryz.sizeOf166
  v218 := Tryz.zeroValue166
  t222 := Tryz.underlying170
  a222 := Tryz.isAgg170
  z222 := Tryz.sizeOf170
  v222 := Tryz.zeroValue170
  t228 := Tryz.underlying181
  a228 := Tryz.isAgg181
  z228 := Tryz.sizeOf181
  v228 := Tryz.zeroValue181
  t229 := Tryz.underlying182
  a229 := Tryz.isAgg182
  z229 := Tryz.sizeOf182
  v229 := Tryz.zeroValue182 }
open Go.Sort Go.RowKit in
theorem Tryz.slices_Sort_string (blk off cap : Nat) (ss : List (List UInt8)) (w : World) (hH : Holds encStr w blk off ss.toArray) (hblk : blk < w.heap.size) (hsz : ss.length < 4611686018427387904) :
    Calls Tryz.prog 44 #[.slice (some ⟨blk, off, none⟩) ss.length cap] w fun e w' =>
      e = .returned (.tuple #[]) ∧ ∃ n os, w' = grow (putRow encStr (Sort.ahead w n) blk off (ss.mergeSort fun x y => decide (x ≤ y)).toArray) os := Any.slices_Sort_string Tryz.lays190 blk off cap ss w hH hblk hsz
def Tryz.lays192_ren : Go.Shelf.Ren := ⟨fun | 192 => 73 | 190 => 44 | 125 => 66 | 258 => 65 | 128 => 86 | 129 => 87 | 302 => 77 | 303 => 78 | 304 => 79 | 305 => 80 | 306 => 81 | 307 => 82 | 308 => 83 | 309 => 84 | 310 => 85 | 333 => 91 | 329 => 92 | 330 => 93 | 334 => 94 | 335 => 95 | 336 => 96 | 344 => 110 | n => n, fun | 31 => 44 | 0 => 0 | 9 => 9 | 3 => 3 | 46 => 99 | 51 => 69 | 53 => 158 | 4 => 4 | 183 => 149 | 182 => 148 | 131 => 154 | 5 => 5 | 218 => 166 | 222 => 170 | 228 => 181 | 229 => 182 | n => n, fun | n => n⟩
theorem Tryz.lays192 : Go.Proofs.Lays.n192 Tryz.prog Tryz.lays192_ren := {
  mixed := by kernel_rfl
  f125 := Tryz.func66.trans (congrArg some (by kernel_rfl))
  f128 := Tryz.func86.trans (congrArg some (by kernel_rfl))
  f129 := Tryz.func87.trans (congrArg some (by kernel_rfl))
  f190 := Tryz.func44.trans (congrArg some (by kernel_rfl))
  f192 := Tryz.func73.trans (congrArg some (by kernel_rfl))
  f258 := Tryz.func65.trans (congrArg some (by kernel_rfl))
  f302 := Tryz.func77.trans (congrArg some (by kernel_rfl))
  f303 := Tryz.func78.trans (congrArg some (by kernel_rfl))
  f304 := Tryz.func79.trans (congrArg some (by kernel_rfl))
  f305 := Tryz.func80.trans (congrArg some (by kernel_rfl))
  f306 := Tryz.func81.trans (congrArg some (by kernel_rfl))
  f307 := Tryz.func82.trans (congrArg some (by kernel_rfl))
  f308 := Tryz.func83.trans (congrArg some (by kernel_rfl))
  f309 := Tryz.func84.trans (congrArg some (by kernel_rfl))
  f310 := Tryz.func85.trans (congrArg some (by kernel_rfl))
  f329 := Tryz.func92.trans (congrArg some (by kernel_rfl))
  f330 := Tryz.func93.trans (congrArg some (by kernel_rfl))
  f333 := Tryz.func91.trans (congrArg some (by kernel_rfl))
  f334 := Tryz.func94.trans (congrArg some (by kernel_rfl))
  f335 := Tryz.func95.trans (congrArg some (by kernel_rfl))
  f336 := Tryz.func96.trans (congrArg some (by kernel_rfl))
  f344 := Tryz.func110.trans (congrArg some (by kernel_rfl))
  t0 := Tryz.underlying0
  a0 := Tryz.isAgg0
  z0 := Tryz.sizeOf0
  v0 := Tryz.zeroValue0
  t3 := Tryz.underlying3
  a3 := Tryz.isAgg3
  z3 := Tryz.sizeOf3
  v3 := Tryz.zeroValue3
  t4 := Tryz.underlying4
  a4 := Tryz.isAgg4
  z4 := Tryz.sizeOf4
  v4 := Tryz.zeroValue4
  t5 := Tryz.underlying5
  a5 := Tryz.isAgg5
  z5 := Tryz.sizeOf5
  v5 := Tryz.zeroValue5
  t9 := Tryz.underlying9
  a9 := Tryz.isAgg9
  z9 := Tryz.sizeOf9
  v9 := Tryz.zeroValue9
  t31 := Tryz.underlying44
  a31 := Tryz.isAgg44
  z31 := Tryz.sizeOf44
  v31 := Tryz.zeroValue44
  t46 := Tryz.underlying99
  a46 := Tryz.isAgg99
  z46 := Tryz.sizeOf99
  v46 := Tryz.zeroValue99
  t51 := Tryz.underlying69
  a51 := Tryz.isAgg69
  z51 := Tryz.sizeOf69
  v51 := Tryz.zeroValue69
  t53 := Tryz.underlying158
  a53 := Tryz.isAgg158
  z53 := Tryz.sizeOf158
  v53 := Tryz.zeroValue158
  t131 := Tryz.underlying154
  a131 := Tryz.isAgg154
  z131 := Tryz.sizeOf154
  v131 := Tryz.zeroValue154
  t182 := Tryz.underlying148
  a182 := Tryz.isAgg148
  z182 := Tryz.sizeOf148
  v182 := Tryz.zeroValue148
  t183 := Tryz.underlying149
  a183 := Tryz.isAgg149
  z183 := Tryz.sizeOf149
  v183 := Tryz.zeroValue149
  t218 := Tryz.underlying166
  a218 := Tryz.isAgg166
  z218 := Tryz.sizeOf166
  v218 := Tryz.zeroValue166
  t222 := Tryz.underlying170
  a222 := Tryz.isAgg170
  z222 := Tryz.sizeOf170
  v222 := Tryz.zeroValue170
  t228 := Tryz.underlying181
  a228 := Tryz.isAgg181
  z228 := Tryz.sizeOf181
  v228 := Tryz.zeroValue181
  t229 := Tryz.underlying182
  a229 := Tryz.isAgg182
  z229 := Tryz.sizeOf182
  v229 := Tryz.zeroValue182 }
open Go.Sort Go.RowKit in
theorem Tryz.sort_Strings (blk off cap : Nat) (ss : List (List UInt8)) (w : World) (hH : Holds encStr w blk off ss.toArray) (hblk : blk < w.heap.size) (hsz : ss.length < 4611686018427387904) :
    Calls Tryz.prog 73 #[.slice (some ⟨blk, off, none⟩) ss.length cap] w fun e w' =>
      e = .returned (.tuple #[]) ∧ ∃ n os, w' = grow (putRow encStr (Sort.ahead w n) blk off (ss.mergeSort fun x y => decide (x ≤ y)).toArray) os := Any.sort_Strings Tryz.lays192 blk off cap ss w hH hblk hsz
open Go.RowKit in
open Go.RowKit in
open Go.RowKit in
open Go.RowKit Go.Lib Go.Sort in
open Go.RowKit Go.Lib Go.Sort in
open Go.RowKit Go.Lib Go.Sort in
open Go.RowKit Go.Lib Go.Sort in
open Go.RowKit Go.Lib Go.Sort in
open Go.RowKit Go.Lib Go.Sort in
open Go.RowKit Go.Lib Go.Sort in
open Go.RowKit Go.Lib Go.Sort in
open Go.RowKit Go.Lib Go.Sort in
open Go.RowKit Go.Lib Go.Sort in
open Go.RowKit Go.Lib Go.Sort in
open Go.RowKit Go.Lib Go.Sort in
open Go.RowKit Go.Lib Go.Sort in
def Tryz.laysGt11_ren : Go.Shelf.Ren := ⟨fun | 11 => 150 | 17 => 66 | 18 => 152 | 31 => 86 | 32 => 87 | 33 => 153 | 34 => 154 | 35 => 155 | 36 => 156 | 37 => 157 | 38 => 158 | 39 => 159 | 40 => 160 | 43 => 161 | 44 => 162 | 45 => 163 | 46 => 164 | 47 => 165 | 50 => 166 | n => n, fun | 45 => 219 | 3 => 3 | 4 => 4 | 47 => 99 | 0 => 0 | 56 => 69 | 58 => 158 | 61 => 223 | 60 => 222 | 65 => 154 | 5 => 5 | 9 => 9 | 67 => 229 | 71 => 170 | 73 => 232 | 74 => 182 | 43 => 196 | 26 => 226 | 38 => 216 | n => n, fun | n => n⟩
theorem Tryz.laysGt11 : Go.Proofs.LaysGt.n11 Tryz.prog Tryz.laysGt11_ren := {
  mixed := by kernel_rfl
  f11 := Tryz.func150.trans (congrArg some (by kernel_rfl))
  f17 := Tryz.func66.trans (congrArg some (by kernel_rfl))
  f18 := Tryz.func152.trans (congrArg some (by kernel_rfl))
  f31 := Tryz.func86.trans (congrArg some (by kernel_rfl))
  f32 := Tryz.func87.trans (congrArg some (by kernel_rfl))
  f33 := Tryz.func153.trans (congrArg some (by kernel_rfl))
  f34 := Tryz.func154.trans (congrArg some (by kernel_rfl))
  f35 := Tryz.func155.trans (congrArg some (by kernel_rfl))
  f36 := Tryz.func156.trans (congrArg some (by kernel_rfl))
  f37 := Tryz.func157.trans (congrArg some (by kernel_rfl))
  f38 := Tryz.func158.trans (congrArg some (by kernel_rfl))
  f39 := Tryz.func159.trans (congrArg some (by kernel_rfl))
  f40 := Tryz.func160.trans (congrArg some (by kernel_rfl))
  f43 := Tryz.func161.trans (congrArg some (by kernel_rfl))
  f44 := Tryz.func162.trans (congrArg some (by kernel_rfl))
  f45 := Tryz.func163.trans (congrArg some (by kernel_rfl))
  f46 := Tryz.func164.trans (congrArg some (by kernel_rfl))
  f47 := Tryz.func165.trans (congrArg some (by kernel_rfl))
  f50 := Tryz.func166.trans (congrArg some (by kernel_rfl))
  t0 := Tryz.underlying0
  a0 := Tryz.isAgg0
  z0 := Tryz.sizeOf0
  v0 := Tryz.zeroValue0
  i0 := by kernel_rfl
  t3 := Tryz.underlying3
  a3 := Tryz.isAgg3
  z3 := Tryz.sizeOf3
  v3 := Tryz.zeroValue3
  i3 := by kernel_rfl
  t4 := Tryz.underlying4
  a4 := Tryz.isAgg4
  z4 := Tryz.sizeOf4
  v4 := Tryz.zeroValue4
  i4 := by kernel_rfl
  t5 := Tryz.underlying5
  a5 := Tryz.isAgg5
  z5 := Tryz.sizeOf5
  v5 := Tryz.zeroValue5
  i5 := by kernel_rfl
  t9 := Tryz.underlying9
  a9 := Tryz.isAgg9
  z9 := Tryz.sizeOf9
  v9 := Tryz.zeroValue9
  i9 := by kernel_rfl
  t26 := Tryz.underlying226
  a26 := Tryz.isAgg226
  z26 := Tryz.sizeOf226
  v26 := Tryz.zeroValue226
  i26 := by kernel_rfl
  t38 := Tryz.underlying216
  a38 := Tryz.isAgg216
  z38 := Tryz.sizeOf216
  v38 := Tryz.zeroValue216
  i38 := by kernel_rfl
  t43 := Tryz.underlying196
  a43 := Tryz.isAgg196
  z43 := Tryz.sizeOf196
  v43 := Tryz.zeroValue196
  i43 := by kernel_rfl
  t45 := Tryz.underlying219
  a45 := Tryz.isAgg219
  z45 := Tryz.sizeOf219
  v45 := Tryz.zeroValue219
  i45 := by kernel_rfl
  t47 := Tryz.underlying99
  a47 := Tryz.isAgg99
  z47 := Tryz.sizeOf99
  v47 := Tryz.zeroValue99
  i47 := by kernel_rfl
  t56 := Tryz.underlying69
  a56 := Tryz.isAgg69
  z56 := Tryz.sizeOf69
  v56 := Tryz.zeroValue69
  i56 := by kernel_rfl
  t58 := Tryz.underlying158
  a58 := Tryz.isAgg158
  z58 := Tryz.sizeOf158
  v58 := Tryz.zeroValue158
  i58 := by kernel_rfl
  t60 := Tryz.underlying222
  a60 := Tryz.isAgg222
  z60 := Tryz.sizeOf222
  v60 := Tryz.zeroValue222
  i60 := by kernel_rfl
  t61 := Tryz.underlying223
  a61 := Tryz.isAgg223
  z61 := Tryz.sizeOf223
  v61 := Tryz.zeroValue223
  i61 := by kernel_rfl
  t65 := Tryz.underlying154
  a65 := Tryz.isAgg154
  z65 := Tryz.sizeOf154
  v65 := Tryz.zeroValue154
  i65 := by kernel_rfl
  t67 := Tryz.underlying229
  a67 := Tryz.isAgg229
  z67 := Tryz.sizeOf229
  v67 := Tryz.zeroValue229
  i67 := by kernel_rfl
  t71 := Tryz.underlying170
  a71 := Tryz.isAgg170
  z71 := Tryz.sizeOf170
  v71 := Tryz.zeroValue170
  i71 := by kernel_rfl
  t73 := Tryz.underlying232
  a73 := Tryz.isAgg232
  z73 := Tryz.sizeOf232
  v73 := Tryz.zeroValue232
  i73 := by kernel_rfl
  t74 := Tryz.underlying182
  a74 := Tryz.isAgg182
  z74 := Tryz.sizeOf182
  v74 := Tryz.zeroValue182
  i74 := by kernel_rfl }
open Go.RowKit Go.Lib Go.Sort in
open Go.RowKit Go.Lib Go.Sort in
open Go.RowKit Go.Lib Go.Sort in
/-- **sort.Sort, IN THE DOCUMENTATION's OWN TERMS ("Sort sorts data in ascending order as determined by the Less method. .. The sort is not guaranteed to be stable"): A PERMUTATION OF WHAT THE ROW HELD, SORTED BY 'lt'.** (LAID: no walk: one application.) -/
theorem Tryz.sort_Sort_sorted {α : Type} [Inhabited α] (T : TypeId) (rv : Value) (gn gl gs : Nat) (rN : Reaches Tryz.prog T rv "Len" gn) (rL : Reaches Tryz.prog T rv "Less" gl) (rS : Reaches Tryz.prog T rv "Swap" gs) (enc : α → Value) (lt : α → α → Bool) (hO : SWO lt) (blk off : Nat) (d : Array α) (h2 : 2 ≤ d.size) (hsz : d.size < 4611686018427387904) (w : World) (hlen : LenM Tryz.prog gn rv d.size w) (hless : LessM Tryz.prog gl rv enc lt blk off d.size w) (hswap : SwapM Tryz.prog gs rv enc blk off d.size) (hH : Holds enc w blk off d) (hblk : blk < w.heap.size) :
    Calls Tryz.prog 150 #[.iface T rv] w fun e w' => e = .returned (.tuple #[]) ∧ ∃ d' n os, PermIn 0 d.size d d' ∧ SortedIn lt 0 d.size d' ∧ w' = grow (putRow enc (Sort.ahead w n) blk off d') os := Any.sort_Sort_sorted Tryz.laysGt11 T rv gn gl gs rN rL rS enc lt hO blk off d h2 hsz w hlen hless hswap hH hblk
open Go.RowKit Go.Lib Go.Sort in
open Go.RowKit Go.Lib Go.Sort in
open Go.RowKit Go.Lib Go.Sort in
open Go.RowKit Go.Lib Go.Sort in
open Go.RowKit Go.Lib Go.Sort in
def Tryz.laysGu48_ren : Go.Shelf.Ren := ⟨fun | 48 => 149 | n => n, fun | 27 => 214 | 3 => 3 | 9 => 9 | n => n, fun | n => n⟩
theorem Tryz.laysGu48 : Go.Proofs.LaysGu.n48 Tryz.prog Tryz.laysGu48_ren := {
  mixed := by kernel_rfl
  f48 := Tryz.func149.trans (congrArg some (by kernel_rfl))
  t3 := Tryz.underlying3
  a3 := Tryz.isAgg3
  z3 := Tryz.sizeOf3
  v3 := Tryz.zeroValue3
  i3 := by kernel_rfl
  t9 := Tryz.underlying9
  a9 := Tryz.isAgg9
  z9 := Tryz.sizeOf9
  v9 := Tryz.zeroValue9
  i9 := by kernel_rfl
  t27 := Tryz.underlying214
  a27 := Tryz.isAgg214
  z27 := Tryz.sizeOf214
  v27 := Tryz.zeroValue214
  i27 := by kernel_rfl }
open Go.RowKit Go.Lib Go.Sort in
theorem Tryz.StringSlice_Len (p : Option Addr) (n c : Nat) (W : World) :
    LenM Tryz.prog 149 (.slice p n c) n W := Any.StringSlice_Len Tryz.laysGu48 p n c W
def Tryz.laysGu49_ren : Go.Shelf.Ren := ⟨fun | 49 => 260 | n => n, fun | 27 => 214 | 3 => 3 | 4 => 4 | 0 => 0 | 9 => 9 | n => n, fun | n => n⟩
theorem Tryz.laysGu49 : Go.Proofs.LaysGu.n49 Tryz.prog Tryz.laysGu49_ren := {
  mixed := by kernel_rfl
  f49 := Tryz.func260.trans (congrArg some (by kernel_rfl))
  t0 := Tryz.underlying0
  a0 := Tryz.isAgg0
  z0 := Tryz.sizeOf0
  v0 := Tryz.zeroValue0
  i0 := by kernel_rfl
  t3 := Tryz.underlying3
  a3 := Tryz.isAgg3
  z3 := Tryz.sizeOf3
  v3 := Tryz.zeroValue3
  i3 := by kernel_rfl
  t4 := Tryz.underlying4
  a4 := Tryz.isAgg4
  z4 := Tryz.sizeOf4
  v4 := Tryz.zeroValue4
  i4 := by kernel_rfl
  t9 := Tryz.underlying9
  a9 := Tryz.isAgg9
  z9 := Tryz.sizeOf9
  v9 := Tryz.zeroValue9
  i9 := by kernel_rfl
  t27 := Tryz.underlying214
  a27 := Tryz.isAgg214
  z27 := Tryz.sizeOf214
  v27 := Tryz.zeroValue214
  i27 := by kernel_rfl }
open Go.RowKit Go.Lib Go.Sort in
def Tryz.laysGu51_ren : Go.Shelf.Ren := ⟨fun | 51 => 151 | n => n, fun | 27 => 214 | 3 => 3 | 0 => 0 | 9 => 9 | n => n, fun | n => n⟩
theorem Tryz.laysGu51 : Go.Proofs.LaysGu.n51 Tryz.prog Tryz.laysGu51_ren := {
  mixed := by kernel_rfl
  f51 := Tryz.func151.trans (congrArg some (by kernel_rfl))
  t0 := Tryz.underlying0
  a0 := Tryz.isAgg0
  z0 := Tryz.sizeOf0
  v0 := Tryz.zeroValue0
  i0 := by kernel_rfl
  t3 := Tryz.underlying3
  a3 := Tryz.isAgg3
  z3 := Tryz.sizeOf3
  v3 := Tryz.zeroValue3
  i3 := by kernel_rfl
  t9 := Tryz.underlying9
  a9 := Tryz.isAgg9
  z9 := Tryz.sizeOf9
  v9 := Tryz.zeroValue9
  i9 := by kernel_rfl
  t27 := Tryz.underlying214
  a27 := Tryz.isAgg214
  z27 := Tryz.sizeOf214
  v27 := Tryz.zeroValue214
  i27 := by kernel_rfl }
open Go.RowKit Go.Lib Go.Sort in
theorem Tryz.StringSlice_Swap (blk off c size : Nat) (W : World) (x y : List UInt8) (i j : Nat) (hi : i < size) (hj : j < size) (_hsz : size < 4611686018427387904) (ci : W.cell? ⟨blk, off + i, none⟩ = some (encS x)) (cj : W.cell? ⟨blk, off + j, none⟩ = some (encS y)) (fi : W.frozen? ⟨blk, off + i, none⟩ = false) (fj : W.frozen? ⟨blk, off + j, none⟩ = false) :
    Calls Tryz.prog 151 #[.slice (some ⟨blk, off, none⟩) size c, .int .i64 i, .int .i64 j] W fun e w' => e = .returned (.tuple #[]) ∧ ∃ q, w' = ((W.setCell ⟨blk, off + i, none⟩ (encS y)).setCell ⟨blk, off + j, none⟩ (encS x)).drewN q := Any.StringSlice_Swap Tryz.laysGu51 blk off c size W x y i j hi hj _hsz ci cj fi fj
open Go.RowKit Go.Lib Go.Sort in
theorem Tryz.StringSlice_LessM (blk off c : Nat) (d : Array (List UInt8)) (w : World) (hH : Holds encS w blk off d) (hblk : blk < w.heap.size) (hsz : d.size < 4611686018427387904) :
    LessM Tryz.prog 260 (.slice (some ⟨blk, off, none⟩) d.size c) encS ltStr blk off d.size w := Any.StringSlice_LessM Tryz.laysGu49 blk off c d w hH hblk hsz
open Go.RowKit Go.Lib Go.Sort in
theorem Tryz.StringSlice_SwapM (blk off c size : Nat) (hsz : size < 4611686018427387904) :
    SwapM Tryz.prog 151 (.slice (some ⟨blk, off, none⟩) size c) encS blk off size := Any.StringSlice_SwapM Tryz.laysGu51 blk off c size hsz
open Go.Lib in
open Go.Lib in
open Go.Lib in
open Go.Lib in
open Go.RowKit Go.Lib in
open Go.RowKit Go.Lib in
open Go.RowKit Go.Lib in
open Go.RowKit Go.Lib Go.Sort in
open Go.RowKit Go.Lib Go.Sort in
open Go.RowKit Go.Lib Go.Sort in
open Go.RowKit Go.Lib Go.Sort in
open Go.RowKit Go.Lib Go.Sort in
open Go.RowKit Go.Lib Go.Sort in
open Go.RowKit Go.Lib Go.Sort in
def Tryz.laysSlE041_f59_ren : Go.Shelf.Ren := ⟨fun | 41 => 59 | n => n, fun | 22 => 44 | 23 => 9 | 4 => 4 | n => n, fun | n => n⟩
theorem Tryz.laysSlE041_f59 : Go.Proofs.SlLaysE0.n41 Tryz.prog Tryz.laysSlE041_f59_ren := {
  mixed := by kernel_rfl
  f41 := ⟨Tryz.f59.name, by decide, Tryz.func59.trans (congrArg some (by kernel_rfl))⟩
  t4 := Tryz.underlying4
  a4 := Tryz.isAgg4
  z4 := Tryz.sizeOf4
  v4 := Tryz.zeroValue4
  t22 := Tryz.underlying44
  a22 := Tryz.isAgg44
  z22 := Tryz.sizeOf44
  v22 := Tryz.zeroValue44 }
open Go.RowKit Go.Lib in
def Tryz.laysSlE041_f60_ren : Go.Shelf.Ren := ⟨fun | 41 => 60 | n => n, fun | 22 => 49 | 23 => 21 | 4 => 4 | n => n, fun | n => n⟩
theorem Tryz.laysSlE041_f60 : Go.Proofs.SlLaysE0.n41 Tryz.prog Tryz.laysSlE041_f60_ren := {
  mixed := by kernel_rfl
  f41 := ⟨Tryz.f60.name, by decide, Tryz.func60.trans (congrArg some (by kernel_rfl))⟩
  t4 := Tryz.underlying4
  a4 := Tryz.isAgg4
  z4 := Tryz.sizeOf4
  v4 := Tryz.zeroValue4
  t22 := Tryz.underlying49
  a22 := Tryz.isAgg49
  z22 := Tryz.sizeOf49
  v22 := Tryz.zeroValue49 }
open Go.RowKit Go.Lib in
open Go.RowKit Go.Lib in
/-- The same at nil: nil comes back; the world is as it was; nothing is asked of the element's type. (LAID AT THE INSTANCE 'slices.Clone[[]string,string]': no walk: one application.) -/
theorem Tryz.slices_Clone_nil_f59 (n c : Nat) (w : World) :
    Calls Tryz.prog 59 #[.slice none n c] w fun e w' => e = .returned (.slice none 0 0) ∧ w' = w := AnyE.slices_Clone_nil Tryz.laysSlE041_f59 n c w
open Go.RowKit Go.Lib in
/-- The same at nil: nil comes back; the world is as it was; nothing is asked of the element's type. (LAID AT THE INSTANCE 'slices.Clone[[]int32,int32]': no walk: one application.) -/
theorem Tryz.slices_Clone_nil_f60 (n c : Nat) (w : World) :
    Calls Tryz.prog 60 #[.slice none n c] w fun e w' => e = .returned (.slice none 0 0) ∧ w' = w := AnyE.slices_Clone_nil Tryz.laysSlE041_f60 n c w
end Go.Proofs
