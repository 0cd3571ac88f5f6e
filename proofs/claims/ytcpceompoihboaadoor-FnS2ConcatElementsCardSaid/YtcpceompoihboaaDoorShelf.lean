/-
  The library contracts of the kit at this translation, in plain words, as the kit's program lay-plain.mjs writes them.
-/
import Derived.Ground.MnProg
import Derived.Shelf.Bin.LEUint16
import Derived.Shelf.Bin.LEUint32
import Derived.Shelf.Bin.LEPutUint32
import Derived.Shelf.Bin.LEUint16Panics
import Derived.Shelf.Bin.LEUint32Panics
import Derived.Shelf.Bin.LEPutUint32Panics
import Derived.Shelf.Bin.PutUvarint
import Derived.Shelf.Bin.PutVarint
import Derived.Shelf.Bin.Uvarint
import Derived.Shelf.Bin.Varint
import Derived.Shelf.Bin.UvarintEmpty
import Derived.Shelf.Bin.VarintEmpty
import Derived.Shelf.Bin.ReadersZ
import Derived.Shelf.Bytes.SlSearch0
import Derived.Shelf.Bytes.SlEqualAll
import Derived.Shelf.Bytes.Small
import Derived.Test.YtcpceompoihboaaDoorProg
namespace Go.Proofs
open Go.Shelf
def Tryd.laysBin27_ren : Go.Shelf.Ren := ⟨fun | 27 => 98 | n => n, fun | 25 => 132 | 22 => 26 | 23 => 35 | 0 => 0 | 5 => 5 | 45 => 85 | n => n, fun | n => n⟩
theorem Tryd.laysBin27 : Go.Proofs.LaysBin.n27 Tryd.prog Tryd.laysBin27_ren := {
  mixed := by kernel_rfl
  f27 := Tryd.func98.trans (congrArg some (by kernel_rfl))
  t0 := Tryd.underlying0
  a0 := Tryd.isAgg0
  z0 := Tryd.sizeOf0
  v0 := Tryd.zeroValue0
  i0 := by kernel_rfl
  t5 := Tryd.underlying5
  a5 := Tryd.isAgg5
  z5 := Tryd.sizeOf5
  v5 := Tryd.zeroValue5
  i5 := by kernel_rfl
  t22 := Tryd.underlying26
  a22 := Tryd.isAgg26
  z22 := Tryd.sizeOf26
  v22 := Tryd.zeroValue26
  i22 := by kernel_rfl
  t23 := Tryd.underlying35
  a23 := Tryd.isAgg35
  z23 := Tryd.sizeOf35
  v23 := Tryd.zeroValue35
  i23 := by kernel_rfl
  t25 := Tryd.underlying132
  a25 := Tryd.isAgg132
  z25 := Tryd.sizeOf132
  v25 := Tryd.zeroValue132
  i25 := by kernel_rfl
  t45 := Tryd.underlying85
  a45 := Tryd.isAgg85
  z45 := Tryd.sizeOf85
  v45 := Tryd.zeroValue85
  i45 := by kernel_rfl }
open Go.RowKit in
/-- binary.LittleEndian.Uint16: "Uint16 returns the uint16 representation of b[0:2].": THE NUMBER THAT THE FIRST 2 BYTES SPELL, the least byte first ('Lib.leNat'). Of what was there nothing has turned (the receiver, an empty struct, is laid in a new block without cells; the statement's order is drawn). (LAID: no walk: one application.) -/
theorem Tryd.binary_LE_Uint16 (g o n c : Nat) (b0 b1 : UInt8) (w : World) (hn : 2 ≤ n) (c0 : w.cell? ⟨g, o, none⟩ = some (.int .u8 b0.toNat)) (c1 : w.cell? ⟨g, o + 1, none⟩ = some (.int .u8 b1.toNat)) :
    Calls Tryd.prog 98 #[.agg #[], .slice (some ⟨g, o, none⟩) n c] w fun e w' => e = .returned (.int .u16 (Lib.leNat [b0, b1])) ∧ Below w.heap.size w w' := Any.binary_LE_Uint16 Tryd.laysBin27 g o n c b0 b1 w hn c0 c1
def Tryd.laysBin30_ren : Go.Shelf.Ren := ⟨fun | 30 => 104 | n => n, fun | 25 => 132 | 22 => 26 | 29 => 68 | 0 => 0 | 5 => 5 | 45 => 85 | n => n, fun | n => n⟩
theorem Tryd.laysBin30 : Go.Proofs.LaysBin.n30 Tryd.prog Tryd.laysBin30_ren := {
  mixed := by kernel_rfl
  f30 := Tryd.func104.trans (congrArg some (by kernel_rfl))
  t0 := Tryd.underlying0
  a0 := Tryd.isAgg0
  z0 := Tryd.sizeOf0
  v0 := Tryd.zeroValue0
  i0 := by kernel_rfl
  t5 := Tryd.underlying5
  a5 := Tryd.isAgg5
  z5 := Tryd.sizeOf5
  v5 := Tryd.zeroValue5
  i5 := by kernel_rfl
  t22 := Tryd.underlying26
  a22 := Tryd.isAgg26
  z22 := Tryd.sizeOf26
  v22 := Tryd.zeroValue26
  i22 := by kernel_rfl
  t25 := Tryd.underlying132
  a25 := Tryd.isAgg132
  z25 := Tryd.sizeOf132
  v25 := Tryd.zeroValue132
  i25 := by kernel_rfl
  t29 := Tryd.underlying68
  a29 := Tryd.isAgg68
  z29 := Tryd.sizeOf68
  v29 := Tryd.zeroValue68
  i29 := by kernel_rfl
  t45 := Tryd.underlying85
  a45 := Tryd.isAgg85
  z45 := Tryd.sizeOf85
  v45 := Tryd.zeroValue85
  i45 := by kernel_rfl }
open Go.RowKit in
/-- binary.LittleEndian.Uint32: "Uint32 returns the uint32 representation of b[0:4].": THE NUMBER THAT THE FIRST 4 BYTES SPELL, the least byte first ('Lib.leNat'). Of what was there nothing has turned (the receiver, an empty struct, is laid in a new block without cells; the statement's order is drawn). (LAID: no walk: one application.) -/
theorem Tryd.binary_LE_Uint32 (g o n c : Nat) (b0 b1 b2 b3 : UInt8) (w : World) (hn : 4 ≤ n) (c0 : w.cell? ⟨g, o, none⟩ = some (.int .u8 b0.toNat)) (c1 : w.cell? ⟨g, o + 1, none⟩ = some (.int .u8 b1.toNat)) (c2 : w.cell? ⟨g, o + 2, none⟩ = some (.int .u8 b2.toNat)) (c3 : w.cell? ⟨g, o + 3, none⟩ = some (.int .u8 b3.toNat)) :
    Calls Tryd.prog 104 #[.agg #[], .slice (some ⟨g, o, none⟩) n c] w fun e w' => e = .returned (.int .u32 (Lib.leNat [b0, b1, b2, b3])) ∧ Below w.heap.size w w' := Any.binary_LE_Uint32 Tryd.laysBin30 g o n c b0 b1 b2 b3 w hn c0 c1 c2 c3
def Tryd.laysBin31_ren : Go.Shelf.Ren := ⟨fun | 31 => 89 | n => n, fun | 25 => 132 | 22 => 26 | 29 => 68 | 0 => 0 | 5 => 5 | 45 => 85 | n => n, fun | n => n⟩
theorem Tryd.laysBin31 : Go.Proofs.LaysBin.n31 Tryd.prog Tryd.laysBin31_ren := {
  mixed := by kernel_rfl
  f31 := Tryd.func89.trans (congrArg some (by kernel_rfl))
  t0 := Tryd.underlying0
  a0 := Tryd.isAgg0
  z0 := Tryd.sizeOf0
  v0 := Tryd.zeroValue0
  i0 := by kernel_rfl
  t5 := Tryd.underlying5
  a5 := Tryd.isAgg5
  z5 := Tryd.sizeOf5
  v5 := Tryd.zeroValue5
  i5 := by kernel_rfl
  t22 := Tryd.underlying26
  a22 := Tryd.isAgg26
  z22 := Tryd.sizeOf26
  v22 := Tryd.zeroValue26
  i22 := by kernel_rfl
  t25 := Tryd.underlying132
  a25 := Tryd.isAgg132
  z25 := Tryd.sizeOf132
  v25 := Tryd.zeroValue132
  i25 := by kernel_rfl
  t29 := Tryd.underlying68
  a29 := Tryd.isAgg68
  z29 := Tryd.sizeOf68
  v29 := Tryd.zeroValue68
  i29 := by kernel_rfl
  t45 := Tryd.underlying85
  a45 := Tryd.isAgg85
  z45 := Tryd.sizeOf85
  v45 := Tryd.zeroValue85
  i45 := by kernel_rfl }
open Go.RowKit in
/-- binary.LittleEndian.PutUint32: "PutUint32 stores v into b[0:4].": v's 4 BYTES, the least first ('Lib.leBytes 4 v'), ARE LAID IN THE SLICE's FIRST 4 CELLS ('World.setCells'); nothing else turns (the receiver, an empty struct, is laid in a new block without cells). (LAID: no walk: one application.) -/
theorem Tryd.binary_LE_PutUint32 (g o n c v : Nat) (hv : v < 4294967296) (x0 x1 x2 x3 : Value) (w : World) (hn : 4 ≤ n) (c0 : w.cell? ⟨g, o, none⟩ = some x0) (c1 : w.cell? ⟨g, o + 1, none⟩ = some x1) (c2 : w.cell? ⟨g, o + 2, none⟩ = some x2) (c3 : w.cell? ⟨g, o + 3, none⟩ = some x3) (f0 : w.frozen? ⟨g, o, none⟩ = false) (f1 : w.frozen? ⟨g, o + 1, none⟩ = false) (f2 : w.frozen? ⟨g, o + 2, none⟩ = false) (f3 : w.frozen? ⟨g, o + 3, none⟩ = false) :
    Calls Tryd.prog 89 #[.agg #[], .slice (some ⟨g, o, none⟩) n c, .int .u32 v] w fun e w' => e = .returned (.tuple #[]) ∧ w' = (w.alloc (.cells #[] 132)).setCells g o (Lib.byteCells (Lib.leBytes 4 v)) := Any.binary_LE_PutUint32 Tryd.laysBin31 g o n c v hv x0 x1 x2 x3 w hn c0 c1 c2 c3 f0 f1 f2 f3
open Go.RowKit in
/-- binary.LittleEndian.Uint16, b SHORTER THAN 2: IT PANICS: Go's 'runtime error: index out of range [1] with length n' ('Lib.boundsPanicked'). THE WORLD: the receiver's new block without cells, and the draw of the panic's flag. (LAID: no walk: one application.) -/
theorem Tryd.binary_LE_Uint16_panics (ao : Option Addr) (n c : Nat) (w : World) (hn : n < 2) (hnil : ao = none → n = 0) :
    Calls Tryd.prog 98 #[.agg #[], .slice ao n c] w fun e w' => Lib.boundsPanicked Tryd.prog 1 n e ∧ w' = (w.alloc (.cells #[] 132)).drew := Any.binary_LE_Uint16_panics Tryd.laysBin27 ao n c w hn hnil
open Go.RowKit in
/-- binary.LittleEndian.Uint32, b SHORTER THAN 4: IT PANICS: Go's 'runtime error: index out of range [3] with length n' ('Lib.boundsPanicked'). THE WORLD: the receiver's new block without cells, and the draw of the panic's flag. (LAID: no walk: one application.) -/
theorem Tryd.binary_LE_Uint32_panics (ao : Option Addr) (n c : Nat) (w : World) (hn : n < 4) (hnil : ao = none → n = 0) :
    Calls Tryd.prog 104 #[.agg #[], .slice ao n c] w fun e w' => Lib.boundsPanicked Tryd.prog 3 n e ∧ w' = (w.alloc (.cells #[] 132)).drew := Any.binary_LE_Uint32_panics Tryd.laysBin30 ao n c w hn hnil
open Go.RowKit in
/-- binary.LittleEndian.PutUint32, b SHORTER THAN 4: IT PANICS: Go's 'runtime error: index out of range [3] with length n' ('Lib.boundsPanicked'). THE WORLD: the receiver's new block without cells, and the draw of the panic's flag: NOTHING IS WRITTEN. (LAID: no walk: one application.) -/
theorem Tryd.binary_LE_PutUint32_panics (ao : Option Addr) (n c v : Nat) (w : World) (hn : n < 4) (hnil : ao = none → n = 0) :
    Calls Tryd.prog 89 #[.agg #[], .slice ao n c, .int .u32 v] w fun e w' => Lib.boundsPanicked Tryd.prog 3 n e ∧ w' = (w.alloc (.cells #[] 132)).drew := Any.binary_LE_PutUint32_panics Tryd.laysBin31 ao n c v w hn hnil
def Tryd.laysBin46_ren : Go.Shelf.Ren := ⟨fun | 46 => 75 | n => n, fun | 22 => 26 | 33 => 116 | 3 => 3 | 4 => 4 | 5 => 5 | 0 => 0 | 45 => 85 | n => n, fun | n => n⟩
theorem Tryd.laysBin46 : Go.Proofs.LaysBin.n46 Tryd.prog Tryd.laysBin46_ren := {
  mixed := by kernel_rfl
  f46 := Tryd.func75.trans (congrArg some (by kernel_rfl))
  t0 := Tryd.underlying0
  a0 := Tryd.isAgg0
  z0 := Tryd.sizeOf0
  v0 := Tryd.zeroValue0
  i0 := by kernel_rfl
  t3 := Tryd.underlying3
  a3 := Tryd.isAgg3
  z3 := Tryd.sizeOf3
  v3 := Tryd.zeroValue3
  i3 := by kernel_rfl
  t4 := Tryd.underlying4
  a4 := Tryd.isAgg4
  z4 := Tryd.sizeOf4
  v4 := Tryd.zeroValue4
  i4 := by kernel_rfl
  t5 := Tryd.underlying5
  a5 := Tryd.isAgg5
  z5 := Tryd.sizeOf5
  v5 := Tryd.zeroValue5
  i5 := by kernel_rfl
  t22 := Tryd.underlying26
  a22 := Tryd.isAgg26
  z22 := Tryd.sizeOf26
  v22 := Tryd.zeroValue26
  i22 := by kernel_rfl
  t33 := Tryd.underlying116
  a33 := Tryd.isAgg116
  z33 := Tryd.sizeOf116
  v33 := Tryd.zeroValue116
  i33 := by kernel_rfl
  t45 := Tryd.underlying85
  a45 := Tryd.isAgg85
  z45 := Tryd.sizeOf85
  v45 := Tryd.zeroValue85
  i45 := by kernel_rfl }
open Go.RowKit in
/-- binary.PutUvarint: "PutUvarint encodes a uint64 into buf and returns the number of bytes written. If the buffer is too small, PutUvarint will panic.": WHERE buf HAS ROOM: x's VARINT ('Lib.uvarint x') IS LAID IN buf's FIRST CELLS ('World.setCells'); its length comes back; nothing else turns. (LAID: no walk: one application.) -/
theorem Tryd.binary_PutUvarint (g o n c x : Nat) (hx : x < 18446744073709551616) (w : World) (hn : (Lib.uvarint x).length ≤ n) (hcell : ∀ j, j < (Lib.uvarint x).length → (w.cell? ⟨g, o + j, none⟩).isSome = true ∧ w.frozen? ⟨g, o + j, none⟩ = false) :
    Calls Tryd.prog 75 #[.slice (some ⟨g, o, none⟩) n c, .int .u64 x] w fun e w' => e = .returned (.int .i64 (Lib.uvarint x).length) ∧ w' = w.setCells g o (Lib.byteCells (Lib.uvarint x)) := Any.binary_PutUvarint Tryd.laysBin46 g o n c x hx w hn hcell
def Tryd.laysBin49_ren : Go.Shelf.Ren := ⟨fun | 49 => 88 | 46 => 75 | n => n, fun | 22 => 26 | 2 => 2 | 3 => 3 | 33 => 116 | 45 => 85 | 4 => 4 | 5 => 5 | 0 => 0 | n => n, fun | n => n⟩
theorem Tryd.laysBin49 : Go.Proofs.LaysBin.n49 Tryd.prog Tryd.laysBin49_ren := {
  mixed := by kernel_rfl
  f46 := Tryd.func75.trans (congrArg some (by kernel_rfl))
  f49 := Tryd.func88.trans (congrArg some (by kernel_rfl))
  t0 := Tryd.underlying0
  a0 := Tryd.isAgg0
  z0 := Tryd.sizeOf0
  v0 := Tryd.zeroValue0
  i0 := by kernel_rfl
  t2 := Tryd.underlying2
  a2 := Tryd.isAgg2
  z2 := Tryd.sizeOf2
  v2 := Tryd.zeroValue2
  i2 := by kernel_rfl
  t3 := Tryd.underlying3
  a3 := Tryd.isAgg3
  z3 := Tryd.sizeOf3
  v3 := Tryd.zeroValue3
  i3 := by kernel_rfl
  t4 := Tryd.underlying4
  a4 := Tryd.isAgg4
  z4 := Tryd.sizeOf4
  v4 := Tryd.zeroValue4
  i4 := by kernel_rfl
  t5 := Tryd.underlying5
  a5 := Tryd.isAgg5
  z5 := Tryd.sizeOf5
  v5 := Tryd.zeroValue5
  i5 := by kernel_rfl
  t22 := Tryd.underlying26
  a22 := Tryd.isAgg26
  z22 := Tryd.sizeOf26
  v22 := Tryd.zeroValue26
  i22 := by kernel_rfl
  t33 := Tryd.underlying116
  a33 := Tryd.isAgg116
  z33 := Tryd.sizeOf116
  v33 := Tryd.zeroValue116
  i33 := by kernel_rfl
  t45 := Tryd.underlying85
  a45 := Tryd.isAgg85
  z45 := Tryd.sizeOf85
  v45 := Tryd.zeroValue85
  i45 := by kernel_rfl }
open Go.RowKit in
/-- binary.PutVarint: "PutVarint encodes an int64 into buf and returns the number of bytes written. If the buffer is too small, PutVarint will panic.": WHERE buf HAS ROOM: THE VARINT OF x's ZIG-ZAG ('Lib.uvarint (Lib.zigzag x)') IS LAID IN buf's FIRST CELLS; its length comes back; nothing else turns. (LAID: no walk: one application.) -/
theorem Tryd.binary_PutVarint (g o n c : Nat) (x : Int) (h0 : -9223372036854775808 ≤ x) (h1 : x ≤ 9223372036854775807) (w : World) (hn : (Lib.uvarint (Lib.zigzag x)).length ≤ n) (hcell : ∀ j, j < (Lib.uvarint (Lib.zigzag x)).length → (w.cell? ⟨g, o + j, none⟩).isSome = true ∧ w.frozen? ⟨g, o + j, none⟩ = false) :
    Calls Tryd.prog 88 #[.slice (some ⟨g, o, none⟩) n c, .int .i64 x] w fun e w' => e = .returned (.int .i64 (Lib.uvarint (Lib.zigzag x)).length) ∧ w' = w.setCells g o (Lib.byteCells (Lib.uvarint (Lib.zigzag x))) := Any.binary_PutVarint Tryd.laysBin49 g o n c x h0 h1 w hn hcell
def Tryd.laysBin45_ren : Go.Shelf.Ren := ⟨fun | 45 => 90 | n => n, fun | 22 => 26 | 33 => 116 | 3 => 3 | 45 => 85 | 0 => 0 | 5 => 5 | 4 => 4 | n => n, fun | n => n⟩
theorem Tryd.laysBin45 : Go.Proofs.LaysBin.n45 Tryd.prog Tryd.laysBin45_ren := {
  mixed := by kernel_rfl
  f45 := Tryd.func90.trans (congrArg some (by kernel_rfl))
  t0 := Tryd.underlying0
  a0 := Tryd.isAgg0
  z0 := Tryd.sizeOf0
  v0 := Tryd.zeroValue0
  i0 := by kernel_rfl
  t3 := Tryd.underlying3
  a3 := Tryd.isAgg3
  z3 := Tryd.sizeOf3
  v3 := Tryd.zeroValue3
  i3 := by kernel_rfl
  t4 := Tryd.underlying4
  a4 := Tryd.isAgg4
  z4 := Tryd.sizeOf4
  v4 := Tryd.zeroValue4
  i4 := by kernel_rfl
  t5 := Tryd.underlying5
  a5 := Tryd.isAgg5
  z5 := Tryd.sizeOf5
  v5 := Tryd.zeroValue5
  i5 := by kernel_rfl
  t22 := Tryd.underlying26
  a22 := Tryd.isAgg26
  z22 := Tryd.sizeOf26
  v22 := Tryd.zeroValue26
  i22 := by kernel_rfl
  t33 := Tryd.underlying116
  a33 := Tryd.isAgg116
  z33 := Tryd.sizeOf116
  v33 := Tryd.zeroValue116
  i33 := by kernel_rfl
  t45 := Tryd.underlying85
  a45 := Tryd.isAgg85
  z45 := Tryd.sizeOf85
  v45 := Tryd.zeroValue85
  i45 := by kernel_rfl }
open Go.RowKit in
/-- binary.Uvarint: "Uvarint decodes a uint64 from buf and returns that value and the number of bytes read (> 0). If an error occurred, the value is 0 and the number of bytes n is <= 0 meaning: n == 0: buf too small; n < 0: value larger than 64 bits (overflow) and -n is the number of bytes read.": 'Lib.uvarintDec' OF buf's BYTES, both results. The world is as it was. (LAID: no walk: one application.) -/
theorem Tryd.binary_Uvarint (g o n c : Nat) (l : List UInt8) (w : World) (hl : l.length = n) (hcell : ∀ j (hj : j < l.length), w.cell? ⟨g, o + j, none⟩ = some (.int .u8 (l[j]).toNat)) :
    Calls Tryd.prog 90 #[.slice (some ⟨g, o, none⟩) n c] w fun e w' => e = .returned (.tuple #[.int .u64 (Lib.uvarintDec l).1, .int .i64 (Lib.uvarintDec l).2]) ∧ w' = w := Any.binary_Uvarint Tryd.laysBin45 g o n c l w hl hcell
def Tryd.laysBin48_ren : Go.Shelf.Ren := ⟨fun | 48 => 64 | 45 => 90 | n => n, fun | 22 => 26 | 2 => 2 | 3 => 3 | 38 => 134 | 33 => 116 | 45 => 85 | 4 => 4 | 0 => 0 | 5 => 5 | n => n, fun | n => n⟩
theorem Tryd.laysBin48 : Go.Proofs.LaysBin.n48 Tryd.prog Tryd.laysBin48_ren := {
  mixed := by kernel_rfl
  f45 := Tryd.func90.trans (congrArg some (by kernel_rfl))
  f48 := Tryd.func64.trans (congrArg some (by kernel_rfl))
  t0 := Tryd.underlying0
  a0 := Tryd.isAgg0
  z0 := Tryd.sizeOf0
  v0 := Tryd.zeroValue0
  i0 := by kernel_rfl
  t2 := Tryd.underlying2
  a2 := Tryd.isAgg2
  z2 := Tryd.sizeOf2
  v2 := Tryd.zeroValue2
  i2 := by kernel_rfl
  t3 := Tryd.underlying3
  a3 := Tryd.isAgg3
  z3 := Tryd.sizeOf3
  v3 := Tryd.zeroValue3
  i3 := by kernel_rfl
  t4 := Tryd.underlying4
  a4 := Tryd.isAgg4
  z4 := Tryd.sizeOf4
  v4 := Tryd.zeroValue4
  i4 := by kernel_rfl
  t5 := Tryd.underlying5
  a5 := Tryd.isAgg5
  z5 := Tryd.sizeOf5
  v5 := Tryd.zeroValue5
  i5 := by kernel_rfl
  t22 := Tryd.underlying26
  a22 := Tryd.isAgg26
  z22 := Tryd.sizeOf26
  v22 := Tryd.zeroValue26
  i22 := by kernel_rfl
  t33 := Tryd.underlying116
  a33 := Tryd.isAgg116
  z33 := Tryd.sizeOf116
  v33 := Tryd.zeroValue116
  i33 := by kernel_rfl
  t38 := Tryd.underlying134
  a38 := Tryd.isAgg134
  z38 := Tryd.sizeOf134
  v38 := Tryd.zeroValue134
  i38 := by kernel_rfl
  t45 := Tryd.underlying85
  a45 := Tryd.isAgg85
  z45 := Tryd.sizeOf85
  v45 := Tryd.zeroValue85
  i45 := by kernel_rfl }
open Go.RowKit in
/-- binary.Varint: "Varint decodes an int64 from buf and returns that value and the number of bytes read (> 0). If an error occurred, the value is 0 and the number of bytes n is <= 0 ..": 'Lib.varintDec' OF buf's BYTES: what Uvarint decodes, out of the zig-zag ('Lib.unzigzag'); the count as Uvarint's. The world is as it was. (LAID: no walk: one application.) -/
theorem Tryd.binary_Varint (g o n c : Nat) (l : List UInt8) (w : World) (hl : l.length = n) (hcell : ∀ j (hj : j < l.length), w.cell? ⟨g, o + j, none⟩ = some (.int .u8 (l[j]).toNat)) :
    Calls Tryd.prog 64 #[.slice (some ⟨g, o, none⟩) n c] w fun e w' => e = .returned (.tuple #[.int .i64 (Lib.varintDec l).1, .int .i64 (Lib.varintDec l).2]) ∧ w' = w := Any.binary_Varint Tryd.laysBin48 g o n c l w hl hcell
open Go.RowKit in
/-- binary.Uvarint AT A SLICE WITHOUT ELEMENTS, nil too: (0, 0): "buf too small": 'Lib.uvarintDec []'. The world is as it was. (LAID: no walk: one application.) -/
theorem Tryd.binary_Uvarint_empty (ao : Option Addr) (c : Nat) (w : World) :
    Calls Tryd.prog 90 #[.slice ao 0 c] w fun e w' => e = .returned (.tuple #[.int .u64 (Lib.uvarintDec []).1, .int .i64 (Lib.uvarintDec []).2]) ∧ w' = w := Any.binary_Uvarint_empty Tryd.laysBin45 ao c w
open Go.RowKit in
/-- binary.Varint AT A SLICE WITHOUT ELEMENTS, nil too: (0, 0): 'Lib.varintDec []'. The world is as it was. (LAID: no walk: one application.) -/
theorem Tryd.binary_Varint_empty (ao : Option Addr) (c : Nat) (w : World) :
    Calls Tryd.prog 64 #[.slice ao 0 c] w fun e w' => e = .returned (.tuple #[.int .i64 (Lib.varintDec []).1, .int .i64 (Lib.varintDec []).2]) ∧ w' = w := Any.binary_Varint_empty Tryd.laysBin48 ao c w
open Go.RowKit in
/-- binary.LittleEndian.Uint16, ITS PREMISES 'open_ints'' CONCLUSION TO THE LETTER: a slice at WHATEVER address a, the numbers zs that its cells hold: THE NUMBER THAT THE FIRST 2 SPELL ('Lib.leZ'). (LAID: no walk: one application.) -/
theorem Tryd.binary_LE_Uint16_z (a : Addr) (n c : Nat) (zs : List Int) (w : World) (hn : 2 ≤ n) (hl : 2 ≤ zs.length) (hcell : ∀ i, i < zs.length → w.cell? (a.add i) = some (.int .u8 (zs.getD i 0))) (hw : ∀ z ∈ zs, (Lit.int .u8 z).wf = true) :
    Calls Tryd.prog 98 #[.agg #[], .slice (some a) n c] w fun e w' => e = .returned (.int .u16 (Lib.leZ (zs.take 2))) ∧ Below w.heap.size w w' := Any.binary_LE_Uint16_z Tryd.laysBin27 a n c zs w hn hl hcell hw
open Go.RowKit in
/-- binary.LittleEndian.Uint32, ITS PREMISES 'open_ints'' CONCLUSION TO THE LETTER: a slice at WHATEVER address a, the numbers zs that its cells hold: THE NUMBER THAT THE FIRST 4 SPELL ('Lib.leZ'). (LAID: no walk: one application.) -/
theorem Tryd.binary_LE_Uint32_z (a : Addr) (n c : Nat) (zs : List Int) (w : World) (hn : 4 ≤ n) (hl : 4 ≤ zs.length) (hcell : ∀ i, i < zs.length → w.cell? (a.add i) = some (.int .u8 (zs.getD i 0))) (hw : ∀ z ∈ zs, (Lit.int .u8 z).wf = true) :
    Calls Tryd.prog 104 #[.agg #[], .slice (some a) n c] w fun e w' => e = .returned (.int .u32 (Lib.leZ (zs.take 4))) ∧ Below w.heap.size w w' := Any.binary_LE_Uint32_z Tryd.laysBin30 a n c zs w hn hl hcell hw
def Tryd.lays115_ren : Go.Shelf.Ren := ⟨fun | 115 => 63 | n => n, fun | 37 => 26 | 4 => 4 | 9 => 9 | 5 => 5 | n => n, fun | n => n⟩
theorem Tryd.lays115 : Go.Proofs.Lays.n115 Tryd.prog Tryd.lays115_ren := {
  mixed := by kernel_rfl
  f115 := Tryd.func63.trans (congrArg some (by kernel_rfl))
  t4 := Tryd.underlying4
  a4 := Tryd.isAgg4
  z4 := Tryd.sizeOf4
  v4 := Tryd.zeroValue4
  t9 := Tryd.underlying9
  a9 := Tryd.isAgg9
  z9 := Tryd.sizeOf9
  v9 := Tryd.zeroValue9
  t37 := Tryd.underlying26
  a37 := Tryd.isAgg26
  z37 := Tryd.sizeOf26
  v37 := Tryd.zeroValue26 }
open Go.Proofs Go.RowKit Go.Lib in
/-- bytes.Equal, each argument with what 'string(..)' of it gives. (LAID: no walk: one application.) -/
theorem Tryd.bytes_Equal_strs (v1 v2 : Value) (t1 t2 : ByteArray) (w : World) (h1 : (convert 26 9 v1).run Tryd.prog w = .ok (.string t1) w) (h2 : (convert 26 9 v2).run Tryd.prog w = .ok (.string t2) w) :
    Calls Tryd.prog 63 #[v1, v2] w fun e w' => e = .returned (.bool (t1.toList == t2.toList)) ∧ w' = w := Any.bytes_Equal_strs Tryd.lays115 v1 v2 t1 t2 w h1 h2
def Tryd.laysnb115_ren : Go.Shelf.Ren := ⟨fun | 115 => 63 | n => n, fun | 37 => 26 | 4 => 4 | 9 => 9 | 5 => 5 | n => n, fun | n => n⟩
theorem Tryd.laysnb115 : Go.Proofs.Lays.nb115 Tryd.prog Tryd.laysnb115_ren := {
  mixed := by kernel_rfl
  f115 := Tryd.func63.trans (congrArg some (by kernel_rfl))
  t4 := Tryd.underlying4
  a4 := Tryd.isAgg4
  z4 := Tryd.sizeOf4
  v4 := Tryd.zeroValue4
  t9 := Tryd.underlying9
  a9 := Tryd.isAgg9
  z9 := Tryd.sizeOf9
  v9 := Tryd.zeroValue9
  t37 := Tryd.underlying26
  a37 := Tryd.isAgg26
  z37 := Tryd.sizeOf26
  v37 := Tryd.zeroValue26
  t5 := Tryd.underlying5
  a5 := Tryd.isAgg5
  z5 := Tryd.sizeOf5
  v5 := Tryd.zeroValue5 }
/-- bytes.Equal: WHOLE. (LAID: no walk: one application.) -/
theorem Tryd.bytes_Equal_all (p1 p2 : Option Addr) (n c m d : Nat) (xs ys : List Int) (w : World) (hx : xs.length = n) (hy : ys.length = m) (h1 : Lib.BytesIn w p1 n xs) (h2 : Lib.BytesIn w p2 m ys) :
    Calls Tryd.prog 63 #[.slice p1 n c, .slice p2 m d] w fun e w' => e = .returned (.bool (Lib.bytesOf xs == Lib.bytesOf ys)) ∧ w' = w := Any.bytes_Equal_all Tryd.laysnb115 p1 p2 n c m d xs ys w hx hy h1 h2
/-- bytes.Equal: "Equal reports whether a and b are the same length and contain the same bytes. A nil argument is equivalent to an empty slice.": IT RETURNS 'the bytes of the one == the bytes of the other'; the world is as it was. THE TWO ARGUMENTS COME AS WHATEVER VALUES, each with the one fact that the walk wants of it: what 'string(..)' of it gives: for a slice whose cells you know: 'run_convert_bytes_arg' (Derived/Laws/BytesArg.lean) hands that fact; for a nil one: 'run_convert_bytes_nil' (with xs := []). (LAID: no walk: one application.) -/
theorem Tryd.bytes_Equal (v1 v2 : Value) (xs ys : List Int) (w : World) (h1 : (convert 26 9 v1).run Tryd.prog w = .ok (.string (strOfNums xs)) w) (h2 : (convert 26 9 v2).run Tryd.prog w = .ok (.string (strOfNums ys)) w) :
    Calls Tryd.prog 63 #[v1, v2] w fun e w' => e = .returned (.bool (Lib.bytesOf xs == Lib.bytesOf ys)) ∧ w' = w := Any.bytes_Equal Tryd.lays115 v1 v2 xs ys w h1 h2
end Go.Proofs
