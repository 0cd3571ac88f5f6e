/-
  The library contracts of the kit at this translation, in plain words, as the kit's program lay-plain.mjs writes them.
-/
import Derived.Ground.MnProg
import Derived.Shelf.Bin.LEUint16
import Derived.Shelf.Bin.LEUint32
import Derived.Shelf.Bin.LEPutUint32
import Derived.Shelf.Bin.LEUint16Panics
import Derived.Shelf.Bin.LEUint32Panics
import Derived.Shelf.Bin.LEPutUint32Panics
import Derived.Shelf.Bin.PutUvarint
import Derived.Shelf.Bin.PutVarint
import Derived.Shelf.Bin.ReadersZ
import Derived.Test.YtcpceompoihboaaProg
namespace Go.Proofs
open Go.Shelf
def Try.laysBin27_ren : Go.Shelf.Ren := ⟨fun | 27 => 37 | n => n, fun | 25 => 77 | 22 => 26 | 23 => 84 | 0 => 0 | 5 => 5 | 45 => 79 | n => n, fun | n => n⟩
theorem Try.laysBin27 : Go.Proofs.LaysBin.n27 Try.prog Try.laysBin27_ren := {
  mixed := by kernel_rfl
  f27 := Try.func37.trans (congrArg some (by kernel_rfl))
  t0 := Try.underlying0
  a0 := Try.isAgg0
  z0 := Try.sizeOf0
  v0 := Try.zeroValue0
  i0 := by kernel_rfl
  t5 := Try.underlying5
  a5 := Try.isAgg5
  z5 := Try.sizeOf5
  v5 := Try.zeroValue5
  i5 := by kernel_rfl
  t22 := Try.underlying26
  a22 := Try.isAgg26
  z22 := Try.sizeOf26
  v22 := Try.zeroValue26
  i22 := by kernel_rfl
  t23 := Try.underlying84
  a23 := Try.isAgg84
  z23 := Try.sizeOf84
  v23 := Try.zeroValue84
  i23 := by kernel_rfl
  t25 := Try.underlying77
  a25 := Try.isAgg77
  z25 := Try.sizeOf77
  v25 := Try.zeroValue77
  i25 := by kernel_rfl
  t45 := Try.underlying79
  a45 := Try.isAgg79
  z45 := Try.sizeOf79
  v45 := Try.zeroValue79
  i45 := by kernel_rfl }
open Go.RowKit in
/-- binary.LittleEndian.Uint16: "Uint16 returns the uint16 representation of b[0:2].": THE NUMBER THAT THE FIRST 2 BYTES SPELL, the least byte first ('Lib.leNat'). Of what was there nothing has turned (the receiver, an empty struct, is laid in a new block without cells; the statement's order is drawn). (LAID: no walk: one application.) -/
theorem Try.binary_LE_Uint16 (g o n c : Nat) (b0 b1 : UInt8) (w : World) (hn : 2 ≤ n) (c0 : w.cell? ⟨g, o, none⟩ = some (.int .u8 b0.toNat)) (c1 : w.cell? ⟨g, o + 1, none⟩ = some (.int .u8 b1.toNat)) :
    Calls Try.prog 37 #[.agg #[], .slice (some ⟨g, o, none⟩) n c] w fun e w' => e = .returned (.int .u16 (Lib.leNat [b0, b1])) ∧ Below w.heap.size w w' := Any.binary_LE_Uint16 Try.laysBin27 g o n c b0 b1 w hn c0 c1
def Try.laysBin30_ren : Go.Shelf.Ren := ⟨fun | 30 => 38 | n => n, fun | 25 => 77 | 22 => 26 | 29 => 39 | 0 => 0 | 5 => 5 | 45 => 79 | n => n, fun | n => n⟩
theorem Try.laysBin30 : Go.Proofs.LaysBin.n30 Try.prog Try.laysBin30_ren := {
  mixed := by kernel_rfl
  f30 := Try.func38.trans (congrArg some (by kernel_rfl))
  t0 := Try.underlying0
  a0 := Try.isAgg0
  z0 := Try.sizeOf0
  v0 := Try.zeroValue0
  i0 := by kernel_rfl
  t5 := Try.underlying5
  a5 := Try.isAgg5
  z5 := Try.sizeOf5
  v5 := Try.zeroValue5
  i5 := by kernel_rfl
  t22 := Try.underlying26
  a22 := Try.isAgg26
  z22 := Try.sizeOf26
  v22 := Try.zeroValue26
  i22 := by kernel_rfl
  t25 := Try.underlying77
  a25 := Try.isAgg77
  z25 := Try.sizeOf77
  v25 := Try.zeroValue77
  i25 := by kernel_rfl
  t29 := Try.underlying39
  a29 := Try.isAgg39
  z29 := Try.sizeOf39
  v29 := Try.zeroValue39
  i29 := by kernel_rfl
  t45 := Try.underlying79
  a45 := Try.isAgg79
  z45 := Try.sizeOf79
  v45 := Try.zeroValue79
  i45 := by kernel_rfl }
open Go.RowKit in
/-- binary.LittleEndian.Uint32: "Uint32 returns the uint32 representation of b[0:4].": THE NUMBER THAT THE FIRST 4 BYTES SPELL, the least byte first ('Lib.leNat'). Of what was there nothing has turned (the receiver, an empty struct, is laid in a new block without cells; the statement's order is drawn). (LAID: no walk: one application.) -/
theorem Try.binary_LE_Uint32 (g o n c : Nat) (b0 b1 b2 b3 : UInt8) (w : World) (hn : 4 ≤ n) (c0 : w.cell? ⟨g, o, none⟩ = some (.int .u8 b0.toNat)) (c1 : w.cell? ⟨g, o + 1, none⟩ = some (.int .u8 b1.toNat)) (c2 : w.cell? ⟨g, o + 2, none⟩ = some (.int .u8 b2.toNat)) (c3 : w.cell? ⟨g, o + 3, none⟩ = some (.int .u8 b3.toNat)) :
    Calls Try.prog 38 #[.agg #[], .slice (some ⟨g, o, none⟩) n c] w fun e w' => e = .returned (.int .u32 (Lib.leNat [b0, b1, b2, b3])) ∧ Below w.heap.size w w' := Any.binary_LE_Uint32 Try.laysBin30 g o n c b0 b1 b2 b3 w hn c0 c1 c2 c3
def Try.laysBin31_ren : Go.Shelf.Ren := ⟨fun | 31 => 31 | n => n, fun | 25 => 77 | 22 => 26 | 29 => 39 | 0 => 0 | 5 => 5 | 45 => 79 | n => n, fun | n => n⟩
theorem Try.laysBin31 : Go.Proofs.LaysBin.n31 Try.prog Try.laysBin31_ren := {
  mixed := by kernel_rfl
  f31 := Try.func31.trans (congrArg some (by kernel_rfl))
  t0 := Try.underlying0
  a0 := Try.isAgg0
  z0 := Try.sizeOf0
  v0 := Try.zeroValue0
  i0 := by kernel_rfl
  t5 := Try.underlying5
  a5 := Try.isAgg5
  z5 := Try.sizeOf5
  v5 := Try.zeroValue5
  i5 := by kernel_rfl
  t22 := Try.underlying26
  a22 := Try.isAgg26
  z22 := Try.sizeOf26
  v22 := Try.zeroValue26
  i22 := by kernel_rfl
  t25 := Try.underlying77
  a25 := Try.isAgg77
  z25 := Try.sizeOf77
  v25 := Try.zeroValue77
  i25 := by kernel_rfl
  t29 := Try.underlying39
  a29 := Try.isAgg39
  z29 := Try.sizeOf39
  v29 := Try.zeroValue39
  i29 := by kernel_rfl
  t45 := Try.underlying79
  a45 := Try.isAgg79
  z45 := Try.sizeOf79
  v45 := Try.zeroValue79
  i45 := by kernel_rfl }
open Go.RowKit in
/-- binary.LittleEndian.PutUint32: "PutUint32 stores v into b[0:4].": v's 4 BYTES, the least first ('Lib.leBytes 4 v'), ARE LAID IN THE SLICE's FIRST 4 CELLS ('World.setCells'); nothing else turns (the receiver, an empty struct, is laid in a new block without cells). (LAID: no walk: one application.) -/
theorem Try.binary_LE_PutUint32 (g o n c v : Nat) (hv : v < 4294967296) (x0 x1 x2 x3 : Value) (w : World) (hn : 4 ≤ n) (c0 : w.cell? ⟨g, o, none⟩ = some x0) (c1 : w.cell? ⟨g, o + 1, none⟩ = some x1) (c2 : w.cell? ⟨g, o + 2, none⟩ = some x2) (c3 : w.cell? ⟨g, o + 3, none⟩ = some x3) (f0 : w.frozen? ⟨g, o, none⟩ = false) (f1 : w.frozen? ⟨g, o + 1, none⟩ = false) (f2 : w.frozen? ⟨g, o + 2, none⟩ = false) (f3 : w.frozen? ⟨g, o + 3, none⟩ = false) :
    Calls Try.prog 31 #[.agg #[], .slice (some ⟨g, o, none⟩) n c, .int .u32 v] w fun e w' => e = .returned (.tuple #[]) ∧ w' = (w.alloc (.cells #[] 77)).setCells g o (Lib.byteCells (Lib.leBytes 4 v)) := Any.binary_LE_PutUint32 Try.laysBin31 g o n c v hv x0 x1 x2 x3 w hn c0 c1 c2 c3 f0 f1 f2 f3
open Go.RowKit in
/-- binary.LittleEndian.Uint16, b SHORTER THAN 2: IT PANICS: Go's 'runtime error: index out of range [1] with length n' ('Lib.boundsPanicked'). THE WORLD: the receiver's new block without cells, and the draw of the panic's flag. (LAID: no walk: one application.) -/
theorem Try.binary_LE_Uint16_panics (ao : Option Addr) (n c : Nat) (w : World) (hn : n < 2) (hnil : ao = none → n = 0) :
    Calls Try.prog 37 #[.agg #[], .slice ao n c] w fun e w' => Lib.boundsPanicked Try.prog 1 n e ∧ w' = (w.alloc (.cells #[] 77)).drew := Any.binary_LE_Uint16_panics Try.laysBin27 ao n c w hn hnil
open Go.RowKit in
/-- binary.LittleEndian.Uint32, b SHORTER THAN 4: IT PANICS: Go's 'runtime error: index out of range [3] with length n' ('Lib.boundsPanicked'). THE WORLD: the receiver's new block without cells, and the draw of the panic's flag. (LAID: no walk: one application.) -/
theorem Try.binary_LE_Uint32_panics (ao : Option Addr) (n c : Nat) (w : World) (hn : n < 4) (hnil : ao = none → n = 0) :
    Calls Try.prog 38 #[.agg #[], .slice ao n c] w fun e w' => Lib.boundsPanicked Try.prog 3 n e ∧ w' = (w.alloc (.cells #[] 77)).drew := Any.binary_LE_Uint32_panics Try.laysBin30 ao n c w hn hnil
open Go.RowKit in
/-- binary.LittleEndian.PutUint32, b SHORTER THAN 4: IT PANICS: Go's 'runtime error: index out of range [3] with length n' ('Lib.boundsPanicked'). THE WORLD: the receiver's new block without cells, and the draw of the panic's flag: NOTHING IS WRITTEN. (LAID: no walk: one application.) -/
theorem Try.binary_LE_PutUint32_panics (ao : Option Addr) (n c v : Nat) (w : World) (hn : n < 4) (hnil : ao = none → n = 0) :
    Calls Try.prog 31 #[.agg #[], .slice ao n c, .int .u32 v] w fun e w' => Lib.boundsPanicked Try.prog 3 n e ∧ w' = (w.alloc (.cells #[] 77)).drew := Any.binary_LE_PutUint32_panics Try.laysBin31 ao n c v w hn hnil
def Try.laysBin46_ren : Go.Shelf.Ren := ⟨fun | 46 => 36 | n => n, fun | 22 => 26 | 33 => 90 | 3 => 3 | 4 => 4 | 5 => 5 | 0 => 0 | 45 => 79 | n => n, fun | n => n⟩
theorem Try.laysBin46 : Go.Proofs.LaysBin.n46 Try.prog Try.laysBin46_ren := {
  mixed := by kernel_rfl
  f46 := Try.func36.trans (congrArg some (by kernel_rfl))
  t0 := Try.underlying0
  a0 := Try.isAgg0
  z0 := Try.sizeOf0
  v0 := Try.zeroValue0
  i0 := by kernel_rfl
  t3 := Try.underlying3
  a3 := Try.isAgg3
  z3 := Try.sizeOf3
  v3 := Try.zeroValue3
  i3 := by kernel_rfl
  t4 := Try.underlying4
  a4 := Try.isAgg4
  z4 := Try.sizeOf4
  v4 := Try.zeroValue4
  i4 := by kernel_rfl
  t5 := Try.underlying5
  a5 := Try.isAgg5
  z5 := Try.sizeOf5
  v5 := Try.zeroValue5
  i5 := by kernel_rfl
  t22 := Try.underlying26
  a22 := Try.isAgg26
  z22 := Try.sizeOf26
  v22 := Try.zeroValue26
  i22 := by kernel_rfl
  t33 := Try.underlying90
  a33 := Try.isAgg90
  z33 := Try.sizeOf90
  v33 := Try.zeroValue90
  i33 := by kernel_rfl
  t45 := Try.underlying79
  a45 := Try.isAgg79
  z45 := Try.sizeOf79
  v45 := Try.zeroValue79
  i45 := by kernel_rfl }
open Go.RowKit in
/-- binary.PutUvarint: "PutUvarint encodes a uint64 into buf and returns the number of bytes written. If the buffer is too small, PutUvarint will panic.": WHERE buf HAS ROOM: x's VARINT ('Lib.uvarint x') IS LAID IN buf's FIRST CELLS ('World.setCells'); its length comes back; nothing else turns. (LAID: no walk: one application.) -/
theorem Try.binary_PutUvarint (g o n c x : Nat) (hx : x < 18446744073709551616) (w : World) (hn : (Lib.uvarint x).length ≤ n) (hcell : ∀ j, j < (Lib.uvarint x).length → (w.cell? ⟨g, o + j, none⟩).isSome = true ∧ w.frozen? ⟨g, o + j, none⟩ = false) :
    Calls Try.prog 36 #[.slice (some ⟨g, o, none⟩) n c, .int .u64 x] w fun e w' => e = .returned (.int .i64 (Lib.uvarint x).length) ∧ w' = w.setCells g o (Lib.byteCells (Lib.uvarint x)) := Any.binary_PutUvarint Try.laysBin46 g o n c x hx w hn hcell
def Try.laysBin49_ren : Go.Shelf.Ren := ⟨fun | 49 => 30 | 46 => 36 | n => n, fun | 22 => 26 | 2 => 2 | 3 => 3 | 33 => 90 | 45 => 79 | 4 => 4 | 5 => 5 | 0 => 0 | n => n, fun | n => n⟩
theorem Try.laysBin49 : Go.Proofs.LaysBin.n49 Try.prog Try.laysBin49_ren := {
  mixed := by kernel_rfl
  f46 := Try.func36.trans (congrArg some (by kernel_rfl))
  f49 := Try.func30.trans (congrArg some (by kernel_rfl))
  t0 := Try.underlying0
  a0 := Try.isAgg0
  z0 := Try.sizeOf0
  v0 := Try.zeroValue0
  i0 := by kernel_rfl
  t2 := Try.underlying2
  a2 := Try.isAgg2
  z2 := Try.sizeOf2
  v2 := Try.zeroValue2
  i2 := by kernel_rfl
  t3 := Try.underlying3
  a3 := Try.isAgg3
  z3 := Try.sizeOf3
  v3 := Try.zeroValue3
  i3 := by kernel_rfl
  t4 := Try.underlying4
  a4 := Try.isAgg4
  z4 := Try.sizeOf4
  v4 := Try.zeroValue4
  i4 := by kernel_rfl
  t5 := Try.underlying5
  a5 := Try.isAgg5
  z5 := Try.sizeOf5
  v5 := Try.zeroValue5
  i5 := by kernel_rfl
  t22 := Try.underlying26
  a22 := Try.isAgg26
  z22 := Try.sizeOf26
  v22 := Try.zeroValue26
  i22 := by kernel_rfl
  t33 := Try.underlying90
  a33 := Try.isAgg90
  z33 := Try.sizeOf90
  v33 := Try.zeroValue90
  i33 := by kernel_rfl
  t45 := Try.underlying79
  a45 := Try.isAgg79
  z45 := Try.sizeOf79
  v45 := Try.zeroValue79
  i45 := by kernel_rfl }
open Go.RowKit in
/-- binary.PutVarint: "PutVarint encodes an int64 into buf and returns the number of bytes written. If the buffer is too small, PutVarint will panic.": WHERE buf HAS ROOM: THE VARINT OF x's ZIG-ZAG ('Lib.uvarint (Lib.zigzag x)') IS LAID IN buf's FIRST CELLS; its length comes back; nothing else turns. (LAID: no walk: one application.) -/
theorem Try.binary_PutVarint (g o n c : Nat) (x : Int) (h0 : -9223372036854775808 ≤ x) (h1 : x ≤ 9223372036854775807) (w : World) (hn : (Lib.uvarint (Lib.zigzag x)).length ≤ n) (hcell : ∀ j, j < (Lib.uvarint (Lib.zigzag x)).length → (w.cell? ⟨g, o + j, none⟩).isSome = true ∧ w.frozen? ⟨g, o + j, none⟩ = false) :
    Calls Try.prog 30 #[.slice (some ⟨g, o, none⟩) n c, .int .i64 x] w fun e w' => e = .returned (.int .i64 (Lib.uvarint (Lib.zigzag x)).length) ∧ w' = w.setCells g o (Lib.byteCells (Lib.uvarint (Lib.zigzag x))) := Any.binary_PutVarint Try.laysBin49 g o n c x h0 h1 w hn hcell
open Go.RowKit in
/-- binary.LittleEndian.Uint16, ITS PREMISES 'open_ints'' CONCLUSION TO THE LETTER: a slice at WHATEVER address a, the numbers zs that its cells hold: THE NUMBER THAT THE FIRST 2 SPELL ('Lib.leZ'). (LAID: no walk: one application.) -/
theorem Try.binary_LE_Uint16_z (a : Addr) (n c : Nat) (zs : List Int) (w : World) (hn : 2 ≤ n) (hl : 2 ≤ zs.length) (hcell : ∀ i, i < zs.length → w.cell? (a.add i) = some (.int .u8 (zs.getD i 0))) (hw : ∀ z ∈ zs, (Lit.int .u8 z).wf = true) :
    Calls Try.prog 37 #[.agg #[], .slice (some a) n c] w fun e w' => e = .returned (.int .u16 (Lib.leZ (zs.take 2))) ∧ Below w.heap.size w w' := Any.binary_LE_Uint16_z Try.laysBin27 a n c zs w hn hl hcell hw
open Go.RowKit in
/-- binary.LittleEndian.Uint32, ITS PREMISES 'open_ints'' CONCLUSION TO THE LETTER: a slice at WHATEVER address a, the numbers zs that its cells hold: THE NUMBER THAT THE FIRST 4 SPELL ('Lib.leZ'). (LAID: no walk: one application.) -/
theorem Try.binary_LE_Uint32_z (a : Addr) (n c : Nat) (zs : List Int) (w : World) (hn : 4 ≤ n) (hl : 4 ≤ zs.length) (hcell : ∀ i, i < zs.length → w.cell? (a.add i) = some (.int .u8 (zs.getD i 0))) (hw : ∀ z ∈ zs, (Lit.int .u8 z).wf = true) :
    Calls Try.prog 38 #[.agg #[], .slice (some a) n c] w fun e w' => e = .returned (.int .u32 (Lib.leZ (zs.take 4))) ∧ Below w.heap.size w w' := Any.binary_LE_Uint32_z Try.laysBin30 a n c zs w hn hl hcell hw
end Go.Proofs
