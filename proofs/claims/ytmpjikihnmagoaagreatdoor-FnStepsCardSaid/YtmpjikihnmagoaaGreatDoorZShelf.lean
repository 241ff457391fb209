/-
  DERIVED: THE SHELF's CONTRACTS AT THIS DUMP, IN PLAIN WORDS (tools/lay-plain.mjs out of 'TryzShelf.lean', which tools/lay-shelf.mjs wrote): THE SAME DECLARATIONS UNDER THE SAME NAMES: 'import', 'namespace', 'open', 'def', 'theorem' AND NOTHING ELSE: no command of the shelf's: FOR A HAND-IN. Each laying: the table of numbers ('.._ren') and one theorem, a field a fact of the dump's own or the kernel's comparison; each contract: ONE APPLICATION.
-/
import Derived.Ground.MnProg
import Derived.Shelf.Bin.BEUint16
import Derived.Shelf.Bin.BEPutUint16
import Derived.Shelf.Bin.BEUint32
import Derived.Shelf.Bin.BEPutUint32
import Derived.Shelf.Bin.BEUint64
import Derived.Shelf.Bin.BEPutUint64
import Derived.Shelf.Bin.BEUint16Panics
import Derived.Shelf.Bin.BEPutUint16Panics
import Derived.Shelf.Bin.BEUint32Panics
import Derived.Shelf.Bin.BEPutUint32Panics
import Derived.Shelf.Bin.BEUint64Panics
import Derived.Shelf.Bin.BEPutUint64Panics
import Derived.Shelf.Bin.PutUvarint
import Derived.Shelf.Bin.PutVarint
import Derived.Shelf.Bin.Uvarint
import Derived.Shelf.Bin.Varint
import Derived.Shelf.Bin.UvarintEmpty
import Derived.Shelf.Bin.VarintEmpty
import Derived.Shelf.Bin.ReadersZ
import Derived.Test.YtmpjikihnmagoaaGreatDoorProg
namespace Go.Proofs
open Go.Shelf
def Tryz.laysBin36_ren : Go.Shelf.Ren:=⟨fun | 36 => 175 | n => n, fun | 37 => 315 | 22 => 34 | 23 => 41 | 0 => 0 | 5 => 5 | 45 => 194 | n => n, fun | n => n⟩
theorem Tryz.laysBin36 : Go.Proofs.LaysBin.n36 Tryz.prog Tryz.laysBin36_ren:={
 mixed:=by kernel_rfl
 f36:=Tryz.func175.trans (congrArg some (by kernel_rfl))
 t0:=Tryz.underlying0
 a0:=Tryz.isAgg0
 z0:=Tryz.sizeOf0
 v0:=Tryz.zeroValue0
 i0:=by kernel_rfl
 t5:=Tryz.underlying5
 a5:=Tryz.isAgg5
 z5:=Tryz.sizeOf5
 v5:=Tryz.zeroValue5
 i5:=by kernel_rfl
 t22:=Tryz.underlying34
 a22:=Tryz.isAgg34
 z22:=Tryz.sizeOf34
 v22:=Tryz.zeroValue34
 i22:=by kernel_rfl
 t23:=Tryz.underlying41
 a23:=Tryz.isAgg41
 z23:=Tryz.sizeOf41
 v23:=Tryz.zeroValue41
 i23:=by kernel_rfl
 t37:=Tryz.underlying315
 a37:=Tryz.isAgg315
 z37:=Tryz.sizeOf315
 v37:=Tryz.zeroValue315
 i37:=by kernel_rfl
 t45:=Tryz.underlying194
 a45:=Tryz.isAgg194
 z45:=Tryz.sizeOf194
 v45:=Tryz.zeroValue194
 i45:=by kernel_rfl }
open Go.RowKit in
/-- binary.BigEndian.Uint16: "Uint16 returns the uint16 representation of b[0:2].": THE NUMBER THAT THE FIRST 2 BYTES SPELL, the greatest byte first ('Lib.beNat'). Of what was there nothing has turned (the receiver, an empty struct, is laid in a new block without cells; the statement's order is drawn). (LAID: no walk: one application.) -/
theorem Tryz.binary_BE_Uint16 (g o n c : Nat) (b0 b1 : UInt8) (w : World) (hn : 2 ≤ n) (c0 : w.cell? ⟨g, o, none⟩ = some (.int .u8 b0.toNat)) (c1 : w.cell? ⟨g, o + 1, none⟩ = some (.int .u8 b1.toNat)) :
  Calls Tryz.prog 175 #[.agg #[], .slice (some ⟨g, o, none⟩) n c] w fun e w' => e = .returned (.int .u16 (Lib.beNat [b0, b1])) ∧ Below w.heap.size w w':=Any.binary_BE_Uint16 Tryz.laysBin36 g o n c b0 b1 w hn c0 c1
def Tryz.laysBin37_ren : Go.Shelf.Ren:=⟨fun | 37 => 262 | n => n, fun | 37 => 315 | 22 => 34 | 23 => 41 | 0 => 0 | 5 => 5 | 45 => 194 | n => n, fun | n => n⟩
theorem Tryz.laysBin37 : Go.Proofs.LaysBin.n37 Tryz.prog Tryz.laysBin37_ren:={
 mixed:=by kernel_rfl
 f37:=Tryz.func262.trans (congrArg some (by kernel_rfl))
 t0:=Tryz.underlying0
 a0:=Tryz.isAgg0
 z0:=Tryz.sizeOf0
 v0:=Tryz.zeroValue0
 i0:=by kernel_rfl
 t5:=Tryz.underlying5
 a5:=Tryz.isAgg5
 z5:=Tryz.sizeOf5
 v5:=Tryz.zeroValue5
 i5:=by kernel_rfl
 t22:=Tryz.underlying34
 a22:=Tryz.isAgg34
 z22:=Tryz.sizeOf34
 v22:=Tryz.zeroValue34
 i22:=by kernel_rfl
 t23:=Tryz.underlying41
 a23:=Tryz.isAgg41
 z23:=Tryz.sizeOf41
 v23:=Tryz.zeroValue41
 i23:=by kernel_rfl
 t37:=Tryz.underlying315
 a37:=Tryz.isAgg315
 z37:=Tryz.sizeOf315
 v37:=Tryz.zeroValue315
 i37:=by kernel_rfl
 t45:=Tryz.underlying194
 a45:=Tryz.isAgg194
 z45:=Tryz.sizeOf194
 v45:=Tryz.zeroValue194
 i45:=by kernel_rfl }
open Go.RowKit in
/-- binary.BigEndian.PutUint16: "PutUint16 stores v into b[0:2].": v's 2 BYTES, the greatest first ('Lib.beBytes 2 v'), ARE LAID IN THE SLICE's FIRST 2 CELLS ('World.setCells'); nothing else turns (the receiver, an empty struct, is laid in a new block without cells). (LAID: no walk: one application.) -/
theorem Tryz.binary_BE_PutUint16 (g o n c v : Nat) (hv : v < 65536) (x0 x1 : Value) (w : World) (hn : 2 ≤ n) (c0 : w.cell? ⟨g, o, none⟩ = some x0) (c1 : w.cell? ⟨g, o + 1, none⟩ = some x1) (f0 : w.frozen? ⟨g, o, none⟩ = false) (f1 : w.frozen? ⟨g, o + 1, none⟩ = false) :
  Calls Tryz.prog 262 #[.agg #[], .slice (some ⟨g, o, none⟩) n c, .int .u16 v] w fun e w' => e = .returned (.tuple #[]) ∧ w' = (w.alloc (.cells #[] 315)).setCells g o (Lib.byteCells (Lib.beBytes 2 v)):=Any.binary_BE_PutUint16 Tryz.laysBin37 g o n c v hv x0 x1 w hn c0 c1 f0 f1
def Tryz.laysBin39_ren : Go.Shelf.Ren:=⟨fun | 39 => 173 | n => n, fun | 37 => 315 | 22 => 34 | 29 => 91 | 0 => 0 | 5 => 5 | 45 => 194 | n => n, fun | n => n⟩
theorem Tryz.laysBin39 : Go.Proofs.LaysBin.n39 Tryz.prog Tryz.laysBin39_ren:={
 mixed:=by kernel_rfl
 f39:=Tryz.func173.trans (congrArg some (by kernel_rfl))
 t0:=Tryz.underlying0
 a0:=Tryz.isAgg0
 z0:=Tryz.sizeOf0
 v0:=Tryz.zeroValue0
 i0:=by kernel_rfl
 t5:=Tryz.underlying5
 a5:=Tryz.isAgg5
 z5:=Tryz.sizeOf5
 v5:=Tryz.zeroValue5
 i5:=by kernel_rfl
 t22:=Tryz.underlying34
 a22:=Tryz.isAgg34
 z22:=Tryz.sizeOf34
 v22:=Tryz.zeroValue34
 i22:=by kernel_rfl
 t29:=Tryz.underlying91
 a29:=Tryz.isAgg91
 z29:=Tryz.sizeOf91
 v29:=Tryz.zeroValue91
 i29:=by kernel_rfl
 t37:=Tryz.underlying315
 a37:=Tryz.isAgg315
 z37:=Tryz.sizeOf315
 v37:=Tryz.zeroValue315
 i37:=by kernel_rfl
 t45:=Tryz.underlying194
 a45:=Tryz.isAgg194
 z45:=Tryz.sizeOf194
 v45:=Tryz.zeroValue194
 i45:=by kernel_rfl }
open Go.RowKit in
/-- binary.BigEndian.Uint32: "Uint32 returns the uint32 representation of b[0:4].": THE NUMBER THAT THE FIRST 4 BYTES SPELL, the greatest byte first ('Lib.beNat'). Of what was there nothing has turned (the receiver, an empty struct, is laid in a new block without cells; the statement's order is drawn). (LAID: no walk: one application.) -/
theorem Tryz.binary_BE_Uint32 (g o n c : Nat) (b0 b1 b2 b3 : UInt8) (w : World) (hn : 4 ≤ n) (c0 : w.cell? ⟨g, o, none⟩ = some (.int .u8 b0.toNat)) (c1 : w.cell? ⟨g, o + 1, none⟩ = some (.int .u8 b1.toNat)) (c2 : w.cell? ⟨g, o + 2, none⟩ = some (.int .u8 b2.toNat)) (c3 : w.cell? ⟨g, o + 3, none⟩ = some (.int .u8 b3.toNat)) :
  Calls Tryz.prog 173 #[.agg #[], .slice (some ⟨g, o, none⟩) n c] w fun e w' => e = .returned (.int .u32 (Lib.beNat [b0, b1, b2, b3])) ∧ Below w.heap.size w w':=Any.binary_BE_Uint32 Tryz.laysBin39 g o n c b0 b1 b2 b3 w hn c0 c1 c2 c3
def Tryz.laysBin40_ren : Go.Shelf.Ren:=⟨fun | 40 => 263 | n => n, fun | 37 => 315 | 22 => 34 | 29 => 91 | 0 => 0 | 5 => 5 | 45 => 194 | n => n, fun | n => n⟩
theorem Tryz.laysBin40 : Go.Proofs.LaysBin.n40 Tryz.prog Tryz.laysBin40_ren:={
 mixed:=by kernel_rfl
 f40:=Tryz.func263.trans (congrArg some (by kernel_rfl))
 t0:=Tryz.underlying0
 a0:=Tryz.isAgg0
 z0:=Tryz.sizeOf0
 v0:=Tryz.zeroValue0
 i0:=by kernel_rfl
 t5:=Tryz.underlying5
 a5:=Tryz.isAgg5
 z5:=Tryz.sizeOf5
 v5:=Tryz.zeroValue5
 i5:=by kernel_rfl
 t22:=Tryz.underlying34
 a22:=Tryz.isAgg34
 z22:=Tryz.sizeOf34
 v22:=Tryz.zeroValue34
 i22:=by kernel_rfl
 t29:=Tryz.underlying91
 a29:=Tryz.isAgg91
 z29:=Tryz.sizeOf91
 v29:=Tryz.zeroValue91
 i29:=by kernel_rfl
 t37:=Tryz.underlying315
 a37:=Tryz.isAgg315
 z37:=Tryz.sizeOf315
 v37:=Tryz.zeroValue315
 i37:=by kernel_rfl
 t45:=Tryz.underlying194
 a45:=Tryz.isAgg194
 z45:=Tryz.sizeOf194
 v45:=Tryz.zeroValue194
 i45:=by kernel_rfl }
open Go.RowKit in
/-- binary.BigEndian.PutUint32: "PutUint32 stores v into b[0:4].": v's 4 BYTES, the greatest first ('Lib.beBytes 4 v'), ARE LAID IN THE SLICE's FIRST 4 CELLS ('World.setCells'); nothing else turns (the receiver, an empty struct, is laid in a new block without cells). (LAID: no walk: one application.) -/
theorem Tryz.binary_BE_PutUint32 (g o n c v : Nat) (hv : v < 4294967296) (x0 x1 x2 x3 : Value) (w : World) (hn : 4 ≤ n) (c0 : w.cell? ⟨g, o, none⟩ = some x0) (c1 : w.cell? ⟨g, o + 1, none⟩ = some x1) (c2 : w.cell? ⟨g, o + 2, none⟩ = some x2) (c3 : w.cell? ⟨g, o + 3, none⟩ = some x3) (f0 : w.frozen? ⟨g, o, none⟩ = false) (f1 : w.frozen? ⟨g, o + 1, none⟩ = false) (f2 : w.frozen? ⟨g, o + 2, none⟩ = false) (f3 : w.frozen? ⟨g, o + 3, none⟩ = false) :
  Calls Tryz.prog 263 #[.agg #[], .slice (some ⟨g, o, none⟩) n c, .int .u32 v] w fun e w' => e = .returned (.tuple #[]) ∧ w' = (w.alloc (.cells #[] 315)).setCells g o (Lib.byteCells (Lib.beBytes 4 v)):=Any.binary_BE_PutUint32 Tryz.laysBin40 g o n c v hv x0 x1 x2 x3 w hn c0 c1 c2 c3 f0 f1 f2 f3
def Tryz.laysBin42_ren : Go.Shelf.Ren:=⟨fun | 42 => 174 | n => n, fun | 37 => 315 | 22 => 34 | 33 => 146 | 0 => 0 | 5 => 5 | 45 => 194 | n => n, fun | n => n⟩
theorem Tryz.laysBin42 : Go.Proofs.LaysBin.n42 Tryz.prog Tryz.laysBin42_ren:={
 mixed:=by kernel_rfl
 f42:=Tryz.func174.trans (congrArg some (by kernel_rfl))
 t0:=Tryz.underlying0
 a0:=Tryz.isAgg0
 z0:=Tryz.sizeOf0
 v0:=Tryz.zeroValue0
 i0:=by kernel_rfl
 t5:=Tryz.underlying5
 a5:=Tryz.isAgg5
 z5:=Tryz.sizeOf5
 v5:=Tryz.zeroValue5
 i5:=by kernel_rfl
 t22:=Tryz.underlying34
 a22:=Tryz.isAgg34
 z22:=Tryz.sizeOf34
 v22:=Tryz.zeroValue34
 i22:=by kernel_rfl
 t33:=Tryz.underlying146
 a33:=Tryz.isAgg146
 z33:=Tryz.sizeOf146
 v33:=Tryz.zeroValue146
 i33:=by kernel_rfl
 t37:=Tryz.underlying315
 a37:=Tryz.isAgg315
 z37:=Tryz.sizeOf315
 v37:=Tryz.zeroValue315
 i37:=by kernel_rfl
 t45:=Tryz.underlying194
 a45:=Tryz.isAgg194
 z45:=Tryz.sizeOf194
 v45:=Tryz.zeroValue194
 i45:=by kernel_rfl }
open Go.RowKit in
/-- binary.BigEndian.Uint64: "Uint64 returns the uint64 representation of b[0:8].": THE NUMBER THAT THE FIRST 8 BYTES SPELL, the greatest byte first ('Lib.beNat'). Of what was there nothing has turned (the receiver, an empty struct, is laid in a new block without cells; the statement's order is drawn). (LAID: no walk: one application.) -/
theorem Tryz.binary_BE_Uint64 (g o n c : Nat) (b0 b1 b2 b3 b4 b5 b6 b7 : UInt8) (w : World) (hn : 8 ≤ n) (c0 : w.cell? ⟨g, o, none⟩ = some (.int .u8 b0.toNat)) (c1 : w.cell? ⟨g, o + 1, none⟩ = some (.int .u8 b1.toNat)) (c2 : w.cell? ⟨g, o + 2, none⟩ = some (.int .u8 b2.toNat)) (c3 : w.cell? ⟨g, o + 3, none⟩ = some (.int .u8 b3.toNat)) (c4 : w.cell? ⟨g, o + 4, none⟩ = some (.int .u8 b4.toNat)) (c5 : w.cell? ⟨g, o + 5, none⟩ = some (.int .u8 b5.toNat)) (c6 : w.cell? ⟨g, o + 6, none⟩ = some (.int .u8 b6.toNat)) (c7 : w.cell? ⟨g, o + 7, none⟩ = some (.int .u8 b7.toNat)) :
  Calls Tryz.prog 174 #[.agg #[], .slice (some ⟨g, o, none⟩) n c] w fun e w' => e = .returned (.int .u64 (Lib.beNat [b0, b1, b2, b3, b4, b5, b6, b7])) ∧ Below w.heap.size w w':=Any.binary_BE_Uint64 Tryz.laysBin42 g o n c b0 b1 b2 b3 b4 b5 b6 b7 w hn c0 c1 c2 c3 c4 c5 c6 c7
def Tryz.laysBin43_ren : Go.Shelf.Ren:=⟨fun | 43 => 261 | n => n, fun | 37 => 315 | 22 => 34 | 33 => 146 | 0 => 0 | 5 => 5 | 45 => 194 | n => n, fun | n => n⟩
theorem Tryz.laysBin43 : Go.Proofs.LaysBin.n43 Tryz.prog Tryz.laysBin43_ren:={
 mixed:=by kernel_rfl
 f43:=Tryz.func261.trans (congrArg some (by kernel_rfl))
 t0:=Tryz.underlying0
 a0:=Tryz.isAgg0
 z0:=Tryz.sizeOf0
 v0:=Tryz.zeroValue0
 i0:=by kernel_rfl
 t5:=Tryz.underlying5
 a5:=Tryz.isAgg5
 z5:=Tryz.sizeOf5
 v5:=Tryz.zeroValue5
 i5:=by kernel_rfl
 t22:=Tryz.underlying34
 a22:=Tryz.isAgg34
 z22:=Tryz.sizeOf34
 v22:=Tryz.zeroValue34
 i22:=by kernel_rfl
 t33:=Tryz.underlying146
 a33:=Tryz.isAgg146
 z33:=Tryz.sizeOf146
 v33:=Tryz.zeroValue146
 i33:=by kernel_rfl
 t37:=Tryz.underlying315
 a37:=Tryz.isAgg315
 z37:=Tryz.sizeOf315
 v37:=Tryz.zeroValue315
 i37:=by kernel_rfl
 t45:=Tryz.underlying194
 a45:=Tryz.isAgg194
 z45:=Tryz.sizeOf194
 v45:=Tryz.zeroValue194
 i45:=by kernel_rfl }
open Go.RowKit in
/-- binary.BigEndian.PutUint64: "PutUint64 stores v into b[0:8].": v's 8 BYTES, the greatest first ('Lib.beBytes 8 v'), ARE LAID IN THE SLICE's FIRST 8 CELLS ('World.setCells'); nothing else turns (the receiver, an empty struct, is laid in a new block without cells). (LAID: no walk: one application.) -/
theorem Tryz.binary_BE_PutUint64 (g o n c v : Nat) (hv : v < 18446744073709551616) (x0 x1 x2 x3 x4 x5 x6 x7 : Value) (w : World) (hn : 8 ≤ n) (c0 : w.cell? ⟨g, o, none⟩ = some x0) (c1 : w.cell? ⟨g, o + 1, none⟩ = some x1) (c2 : w.cell? ⟨g, o + 2, none⟩ = some x2) (c3 : w.cell? ⟨g, o + 3, none⟩ = some x3) (c4 : w.cell? ⟨g, o + 4, none⟩ = some x4) (c5 : w.cell? ⟨g, o + 5, none⟩ = some x5) (c6 : w.cell? ⟨g, o + 6, none⟩ = some x6) (c7 : w.cell? ⟨g, o + 7, none⟩ = some x7) (f0 : w.frozen? ⟨g, o, none⟩ = false) (f1 : w.frozen? ⟨g, o + 1, none⟩ = false) (f2 : w.frozen? ⟨g, o + 2, none⟩ = false) (f3 : w.frozen? ⟨g, o + 3, none⟩ = false) (f4 : w.frozen? ⟨g, o + 4, none⟩ = false) (f5 : w.frozen? ⟨g, o + 5, none⟩ = false) (f6 : w.frozen? ⟨g, o + 6, none⟩ = false) (f7 : w.frozen? ⟨g, o + 7, none⟩ = false) :
  Calls Tryz.prog 261 #[.agg #[], .slice (some ⟨g, o, none⟩) n c, .int .u64 v] w fun e w' => e = .returned (.tuple #[]) ∧ w' = (w.alloc (.cells #[] 315)).setCells g o (Lib.byteCells (Lib.beBytes 8 v)):=Any.binary_BE_PutUint64 Tryz.laysBin43 g o n c v hv x0 x1 x2 x3 x4 x5 x6 x7 w hn c0 c1 c2 c3 c4 c5 c6 c7 f0 f1 f2 f3 f4 f5 f6 f7
def Tryz.laysBin46_ren : Go.Shelf.Ren:=⟨fun | 46 => 219 | n => n, fun | 22 => 34 | 33 => 146 | 3 => 3 | 4 => 4 | 5 => 5 | 0 => 0 | 45 => 194 | n => n, fun | n => n⟩
theorem Tryz.laysBin46 : Go.Proofs.LaysBin.n46 Tryz.prog Tryz.laysBin46_ren:={
 mixed:=by kernel_rfl
 f46:=Tryz.func219.trans (congrArg some (by kernel_rfl))
 t0:=Tryz.underlying0
 a0:=Tryz.isAgg0
 z0:=Tryz.sizeOf0
 v0:=Tryz.zeroValue0
 i0:=by kernel_rfl
 t3:=Tryz.underlying3
 a3:=Tryz.isAgg3
 z3:=Tryz.sizeOf3
 v3:=Tryz.zeroValue3
 i3:=by kernel_rfl
 t4:=Tryz.underlying4
 a4:=Tryz.isAgg4
 z4:=Tryz.sizeOf4
 v4:=Tryz.zeroValue4
 i4:=by kernel_rfl
 t5:=Tryz.underlying5
 a5:=Tryz.isAgg5
 z5:=Tryz.sizeOf5
 v5:=Tryz.zeroValue5
 i5:=by kernel_rfl
 t22:=Tryz.underlying34
 a22:=Tryz.isAgg34
 z22:=Tryz.sizeOf34
 v22:=Tryz.zeroValue34
 i22:=by kernel_rfl
 t33:=Tryz.underlying146
 a33:=Tryz.isAgg146
 z33:=Tryz.sizeOf146
 v33:=Tryz.zeroValue146
 i33:=by kernel_rfl
 t45:=Tryz.underlying194
 a45:=Tryz.isAgg194
 z45:=Tryz.sizeOf194
 v45:=Tryz.zeroValue194
 i45:=by kernel_rfl }
open Go.RowKit in
/-- binary.PutUvarint: "PutUvarint encodes a uint64 into buf and returns the number of bytes written. If the buffer is too small, PutUvarint will panic.": WHERE buf HAS ROOM: x's VARINT ('Lib.uvarint x') IS LAID IN buf's FIRST CELLS ('World.setCells'); its length comes back; nothing else turns. (LAID: no walk: one application.) -/
theorem Tryz.binary_PutUvarint (g o n c x : Nat) (hx : x < 18446744073709551616) (w : World) (hn : (Lib.uvarint x).length ≤ n) (hcell : ∀ j, j < (Lib.uvarint x).length → (w.cell? ⟨g, o + j, none⟩).isSome = true ∧ w.frozen? ⟨g, o + j, none⟩ = false) :
  Calls Tryz.prog 219 #[.slice (some ⟨g, o, none⟩) n c, .int .u64 x] w fun e w' => e = .returned (.int .i64 (Lib.uvarint x).length) ∧ w' = w.setCells g o (Lib.byteCells (Lib.uvarint x)):=Any.binary_PutUvarint Tryz.laysBin46 g o n c x hx w hn hcell
def Tryz.laysBin49_ren : Go.Shelf.Ren:=⟨fun | 49 => 220 | 46 => 219 | n => n, fun | 22 => 34 | 2 => 2 | 3 => 3 | 33 => 146 | 45 => 194 | 4 => 4 | 5 => 5 | 0 => 0 | n => n, fun | n => n⟩
theorem Tryz.laysBin49 : Go.Proofs.LaysBin.n49 Tryz.prog Tryz.laysBin49_ren:={
 mixed:=by kernel_rfl
 f46:=Tryz.func219.trans (congrArg some (by kernel_rfl))
 f49:=Tryz.func220.trans (congrArg some (by kernel_rfl))
 t0:=Tryz.underlying0
 a0:=Tryz.isAgg0
 z0:=Tryz.sizeOf0
 v0:=Tryz.zeroValue0
 i0:=by kernel_rfl
 t2:=Tryz.underlying2
 a2:=Tryz.isAgg2
 z2:=Tryz.sizeOf2
 v2:=Tryz.zeroValue2
 i2:=by kernel_rfl
 t3:=Tryz.underlying3
 a3:=Tryz.isAgg3
 z3:=Tryz.sizeOf3
 v3:=Tryz.zeroValue3
 i3:=by kernel_rfl
 t4:=Tryz.underlying4
 a4:=Tryz.isAgg4
 z4:=Tryz.sizeOf4
 v4:=Tryz.zeroValue4
 i4:=by kernel_rfl
 t5:=Tryz.underlying5
 a5:=Tryz.isAgg5
 z5:=Tryz.sizeOf5
 v5:=Tryz.zeroValue5
 i5:=by kernel_rfl
 t22:=Tryz.underlying34
 a22:=Tryz.isAgg34
 z22:=Tryz.sizeOf34
 v22:=Tryz.zeroValue34
 i22:=by kernel_rfl
 t33:=Tryz.underlying146
 a33:=Tryz.isAgg146
 z33:=Tryz.sizeOf146
 v33:=Tryz.zeroValue146
 i33:=by kernel_rfl
 t45:=Tryz.underlying194
 a45:=Tryz.isAgg194
 z45:=Tryz.sizeOf194
 v45:=Tryz.zeroValue194
 i45:=by kernel_rfl }
open Go.RowKit in
/-- binary.PutVarint: "PutVarint encodes an int64 into buf and returns the number of bytes written. If the buffer is too small, PutVarint will panic.": WHERE buf HAS ROOM: THE VARINT OF x's ZIG-ZAG ('Lib.uvarint (Lib.zigzag x)') IS LAID IN buf's FIRST CELLS; its length comes back; nothing else turns. (LAID: no walk: one application.) -/
theorem Tryz.binary_PutVarint (g o n c : Nat) (x : Int) (h0 : -9223372036854775808 ≤ x) (h1 : x ≤ 9223372036854775807) (w : World) (hn : (Lib.uvarint (Lib.zigzag x)).length ≤ n) (hcell : ∀ j, j < (Lib.uvarint (Lib.zigzag x)).length → (w.cell? ⟨g, o + j, none⟩).isSome = true ∧ w.frozen? ⟨g, o + j, none⟩ = false) :
  Calls Tryz.prog 220 #[.slice (some ⟨g, o, none⟩) n c, .int .i64 x] w fun e w' => e = .returned (.int .i64 (Lib.uvarint (Lib.zigzag x)).length) ∧ w' = w.setCells g o (Lib.byteCells (Lib.uvarint (Lib.zigzag x))):=Any.binary_PutVarint Tryz.laysBin49 g o n c x h0 h1 w hn hcell
def Tryz.laysBin45_ren : Go.Shelf.Ren:=⟨fun | 45 => 178 | n => n, fun | 22 => 34 | 33 => 146 | 3 => 3 | 45 => 194 | 0 => 0 | 5 => 5 | 4 => 4 | n => n, fun | n => n⟩
theorem Tryz.laysBin45 : Go.Proofs.LaysBin.n45 Tryz.prog Tryz.laysBin45_ren:={
 mixed:=by kernel_rfl
 f45:=Tryz.func178.trans (congrArg some (by kernel_rfl))
 t0:=Tryz.underlying0
 a0:=Tryz.isAgg0
 z0:=Tryz.sizeOf0
 v0:=Tryz.zeroValue0
 i0:=by kernel_rfl
 t3:=Tryz.underlying3
 a3:=Tryz.isAgg3
 z3:=Tryz.sizeOf3
 v3:=Tryz.zeroValue3
 i3:=by kernel_rfl
 t4:=Tryz.underlying4
 a4:=Tryz.isAgg4
 z4:=Tryz.sizeOf4
 v4:=Tryz.zeroValue4
 i4:=by kernel_rfl
 t5:=Tryz.underlying5
 a5:=Tryz.isAgg5
 z5:=Tryz.sizeOf5
 v5:=Tryz.zeroValue5
 i5:=by kernel_rfl
 t22:=Tryz.underlying34
 a22:=Tryz.isAgg34
 z22:=Tryz.sizeOf34
 v22:=Tryz.zeroValue34
 i22:=by kernel_rfl
 t33:=Tryz.underlying146
 a33:=Tryz.isAgg146
 z33:=Tryz.sizeOf146
 v33:=Tryz.zeroValue146
 i33:=by kernel_rfl
 t45:=Tryz.underlying194
 a45:=Tryz.isAgg194
 z45:=Tryz.sizeOf194
 v45:=Tryz.zeroValue194
 i45:=by kernel_rfl }
open Go.RowKit in
/-- binary.Uvarint: "Uvarint decodes a uint64 from buf and returns that value and the number of bytes read (> 0). If an error occurred, the value is 0 and the number of bytes n is <= 0 meaning: n == 0: buf too small; n < 0: value larger than 64 bits (overflow) and -n is the number of bytes read.": 'Lib.uvarintDec' OF buf's BYTES, both results. The world is as it was. (LAID: no walk: one application.) -/
theorem Tryz.binary_Uvarint (g o n c : Nat) (l : List UInt8) (w : World) (hl : l.length = n) (hcell : ∀ j (hj : j < l.length), w.cell? ⟨g, o + j, none⟩ = some (.int .u8 (l[j]).toNat)) :
  Calls Tryz.prog 178 #[.slice (some ⟨g, o, none⟩) n c] w fun e w' => e = .returned (.tuple #[.int .u64 (Lib.uvarintDec l).1, .int .i64 (Lib.uvarintDec l).2]) ∧ w' = w:=Any.binary_Uvarint Tryz.laysBin45 g o n c l w hl hcell
def Tryz.laysBin48_ren : Go.Shelf.Ren:=⟨fun | 48 => 179 | 45 => 178 | n => n, fun | 22 => 34 | 2 => 2 | 3 => 3 | 38 => 318 | 33 => 146 | 45 => 194 | 4 => 4 | 0 => 0 | 5 => 5 | n => n, fun | n => n⟩
theorem Tryz.laysBin48 : Go.Proofs.LaysBin.n48 Tryz.prog Tryz.laysBin48_ren:={
 mixed:=by kernel_rfl
 f45:=Tryz.func178.trans (congrArg some (by kernel_rfl))
 f48:=Tryz.func179.trans (congrArg some (by kernel_rfl))
 t0:=Tryz.underlying0
 a0:=Tryz.isAgg0
 z0:=Tryz.sizeOf0
 v0:=Tryz.zeroValue0
 i0:=by kernel_rfl
 t2:=Tryz.underlying2
 a2:=Tryz.isAgg2
 z2:=Tryz.sizeOf2
 v2:=Tryz.zeroValue2
 i2:=by kernel_rfl
 t3:=Tryz.underlying3
 a3:=Tryz.isAgg3
 z3:=Tryz.sizeOf3
 v3:=Tryz.zeroValue3
 i3:=by kernel_rfl
 t4:=Tryz.underlying4
 a4:=Tryz.isAgg4
 z4:=Tryz.sizeOf4
 v4:=Tryz.zeroValue4
 i4:=by kernel_rfl
 t5:=Tryz.underlying5
 a5:=Tryz.isAgg5
 z5:=Tryz.sizeOf5
 v5:=Tryz.zeroValue5
 i5:=by kernel_rfl
 t22:=Tryz.underlying34
 a22:=Tryz.isAgg34
 z22:=Tryz.sizeOf34
 v22:=Tryz.zeroValue34
 i22:=by kernel_rfl
 t33:=Tryz.underlying146
 a33:=Tryz.isAgg146
 z33:=Tryz.sizeOf146
 v33:=Tryz.zeroValue146
 i33:=by kernel_rfl
 t38:=Tryz.underlying318
 a38:=Tryz.isAgg318
 z38:=Tryz.sizeOf318
 v38:=Tryz.zeroValue318
 i38:=by kernel_rfl
 t45:=Tryz.underlying194
 a45:=Tryz.isAgg194
 z45:=Tryz.sizeOf194
 v45:=Tryz.zeroValue194
 i45:=by kernel_rfl }
open Go.RowKit in
/-- binary.Varint: "Varint decodes an int64 from buf and returns that value and the number of bytes read (> 0). If an error occurred, the value is 0 and the number of bytes n is <= 0 ..": 'Lib.varintDec' OF buf's BYTES: what Uvarint decodes, out of the zig-zag ('Lib.unzigzag'); the count as Uvarint's. The world is as it was. (LAID: no walk: one application.) -/
theorem Tryz.binary_Varint (g o n c : Nat) (l : List UInt8) (w : World) (hl : l.length = n) (hcell : ∀ j (hj : j < l.length), w.cell? ⟨g, o + j, none⟩ = some (.int .u8 (l[j]).toNat)) :
  Calls Tryz.prog 179 #[.slice (some ⟨g, o, none⟩) n c] w fun e w' => e = .returned (.tuple #[.int .i64 (Lib.varintDec l).1, .int .i64 (Lib.varintDec l).2]) ∧ w' = w:=Any.binary_Varint Tryz.laysBin48 g o n c l w hl hcell
end Go.Proofs
