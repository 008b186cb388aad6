/- Texts of this seat, merged: Shelf, Base, Append, Enc, Smp, SmpB, Safe, Wa. -/
import Derived.Shelf.Small.Utf8
import Derived.Shelf.Small.Bits
import Derived.Shelf.Small.Strs
import Derived.Shelf.Strconv.Itoa0
import Derived.Ground.MnProg
import Derived.Shelf.Bin.BEUint64
import Derived.Shelf.Bin.BEPutUint64
import Derived.Shelf.Bin.BEUint64Panics
import Derived.Shelf.Bin.PutUvarint
import Derived.Shelf.Bin.PutVarint
import Derived.Shelf.Bin.ReadersZ
import Derived.Shelf.Unicode.DecodeSlow
import Derived.Test.YtbkookiigkckdaaGreatDoorProg
import Derived.WalkKit
import Derived.BigQuiet
import Derived.Deep.QuietTactic
import Derived.WalkLawsBesides
import Derived.Deep.RegionHeld3
import Derived.Deep.RegionWith
import Derived.Deep.AppendSrc
import Derived.Deep.AppendLies
import Derived.Laws.OwnMore
import Derived.Laws.IdiomCopy
import Derived.Laws.Rows
import Derived.Laws.NewBlocks
import Derived.Lib.Hide
import Derived.Lib.ConvBytes
import Derived.LoopTactic
import Derived.Defers
import Derived.Recover
/-
  DERIVED: THE SHELF's CONTRACTS AT THIS DUMP, IN PLAIN WORDS (tools/lay-plain.mjs out of 'TryzShelf.lean', which tools/lay-shelf.mjs wrote): THE SAME DECLARATIONS UNDER THE SAME NAMES: 'import', 'namespace', 'open', 'def', 'theorem' AND NOTHING ELSE: no command of the shelf's: FOR A HAND-IN. Each laying: the table of numbers ('.._ren') and one theorem, a field a fact of the dump's own or the kernel's comparison; each contract: ONE APPLICATION.
-/
namespace Go.Proofs
open Go.Shelf
def Tryz.lays119_ren : Go.Shelf.Ren := ⟨fun | 119 => 287 | n => n, fun | 21 => 21 | 4 => 4 | n => n, fun | n => n⟩
theorem Tryz.lays119 : Go.Proofs.Lays.n119 Tryz.prog Tryz.lays119_ren := {
  mixed := by kernel_rfl
  f119 := Tryz.func287.trans (congrArg some (by kernel_rfl))
  t4 := Tryz.underlying4
  a4 := Tryz.isAgg4
  z4 := Tryz.sizeOf4
  v4 := Tryz.zeroValue4
  t21 := Tryz.underlying21
  a21 := Tryz.isAgg21
  z21 := Tryz.sizeOf21
  v21 := Tryz.zeroValue21 }
/-- utf8.ValidRune: "ValidRune reports whether r can be legally encoded as UTF-8. Code points that are out of range or a surrogate half are illegal.": IT RETURNS 'Lib.validRune r'; the world is as it was. (LAID: no walk: one application.) -/
theorem Tryz.utf8_ValidRune (r : Int) (w : World) :
    Calls Tryz.prog 287 #[.int .i32 r] w fun e w' => e = .returned (.bool (Lib.validRune r)) ∧ w' = w := Any.utf8_ValidRune Tryz.lays119 r w
def Tryz.lays128_ren : Go.Shelf.Ren := ⟨fun | 128 => 228 | n => n, fun | 51 => 317 | 3 => 3 | 4 => 4 | 46 => 268 | 5 => 5 | 9 => 9 | n => n, fun | n => n⟩
theorem Tryz.lays128 : Go.Proofs.Lays.n128 Tryz.prog Tryz.lays128_ren := {
  mixed := by kernel_rfl
  f128 := Tryz.func228.trans (congrArg some (by kernel_rfl))
  t3 := Tryz.underlying3
  a3 := Tryz.isAgg3
  z3 := Tryz.sizeOf3
  v3 := Tryz.zeroValue3
  t4 := Tryz.underlying4
  a4 := Tryz.isAgg4
  z4 := Tryz.sizeOf4
  v4 := Tryz.zeroValue4
  t5 := Tryz.underlying5
  a5 := Tryz.isAgg5
  z5 := Tryz.sizeOf5
  v5 := Tryz.zeroValue5
  t9 := Tryz.underlying9
  a9 := Tryz.isAgg9
  z9 := Tryz.sizeOf9
  v9 := Tryz.zeroValue9
  t46 := Tryz.underlying268
  a46 := Tryz.isAgg268
  z46 := Tryz.sizeOf268
  v46 := Tryz.zeroValue268
  t51 := Tryz.underlying317
  a51 := Tryz.isAgg317
  z51 := Tryz.sizeOf317
  v51 := Tryz.zeroValue317 }
/-- bits.Len32: "Len32 returns the minimum number of bits required to represent x; the result is 0 for x == 0.": IT RETURNS 'Lib.bitLen x'; the world is as it was. ('h0', 'h1': x is a uint32.) (LAID: no walk: one application.) -/
theorem Tryz.bits_Len32 (x : Int) (w : World) (h0 : 0 ≤ x) (h1 : x ≤ 4294967295) :
    Calls Tryz.prog 228 #[.int .u32 x] w fun e w' => e = .returned (.int .i64 (Lib.bitLen x.toNat)) ∧ w' = w := Any.bits_Len32 Tryz.lays128 x w h0 h1
def Tryz.lays125_ren : Go.Shelf.Ren := ⟨fun | 125 => 157 | 128 => 228 | 129 => 229 | n => n, fun | 46 => 268 | 3 => 3 | 51 => 317 | 53 => 111 | 4 => 4 | 5 => 5 | 9 => 9 | n => n, fun | n => n⟩
theorem Tryz.lays125 : Go.Proofs.Lays.n125 Tryz.prog Tryz.lays125_ren := {
  mixed := by kernel_rfl
  f125 := Tryz.func157.trans (congrArg some (by kernel_rfl))
  f128 := Tryz.func228.trans (congrArg some (by kernel_rfl))
  f129 := Tryz.func229.trans (congrArg some (by kernel_rfl))
  t3 := Tryz.underlying3
  a3 := Tryz.isAgg3
  z3 := Tryz.sizeOf3
  v3 := Tryz.zeroValue3
  t4 := Tryz.underlying4
  a4 := Tryz.isAgg4
  z4 := Tryz.sizeOf4
  v4 := Tryz.zeroValue4
  t5 := Tryz.underlying5
  a5 := Tryz.isAgg5
  z5 := Tryz.sizeOf5
  v5 := Tryz.zeroValue5
  t9 := Tryz.underlying9
  a9 := Tryz.isAgg9
  z9 := Tryz.sizeOf9
  v9 := Tryz.zeroValue9
  t46 := Tryz.underlying268
  a46 := Tryz.isAgg268
  z46 := Tryz.sizeOf268
  v46 := Tryz.zeroValue268
  t51 := Tryz.underlying317
  a51 := Tryz.isAgg317
  z51 := Tryz.sizeOf317
  v51 := Tryz.zeroValue317
  t53 := Tryz.underlying111
  a53 := Tryz.isAgg111
  z53 := Tryz.sizeOf111
  v53 := Tryz.zeroValue111 }
/-- bits.Len: "Len returns the minimum number of bits required to represent x; the result is 0 for x == 0.": IT RETURNS 'Lib.bitLen x'; the world is as it was. (A uint has 64 bits in the model.) ITS CALLEE bits.Len64 IS MET BY ITS OWN CONTRACT OFF THE SHELF (lay that first). (LAID: no walk: one application.) -/
theorem Tryz.bits_Len (x : Int) (w : World) (h0 : 0 ≤ x) (h1 : x ≤ 18446744073709551615) :
    Calls Tryz.prog 157 #[.int .u64 x] w fun e w' => e = .returned (.int .i64 (Lib.bitLen x.toNat)) ∧ w' = w := Any.bits_Len Tryz.lays125 x w h0 h1
def Tryz.lays213_ren : Go.Shelf.Ren := ⟨fun | 213 => 247 | 265 => 270 | n => n, fun | 9 => 9 | 3 => 3 | n => n, fun | n => n⟩
theorem Tryz.lays213 : Go.Proofs.Lays.n213 Tryz.prog Tryz.lays213_ren := {
  mixed := by kernel_rfl
  f213 := Tryz.func247.trans (congrArg some (by kernel_rfl))
  f265 := Tryz.func270.trans (congrArg some (by kernel_rfl))
  t3 := Tryz.underlying3
  a3 := Tryz.isAgg3
  z3 := Tryz.sizeOf3
  v3 := Tryz.zeroValue3
  t9 := Tryz.underlying9
  a9 := Tryz.isAgg9
  z9 := Tryz.sizeOf9
  v9 := Tryz.zeroValue9 }
open Go.RowKit in
/-- internal/bytealg.CompareString (what strings.Compare calls): IT RETURNS 'Lib.compareBytes a b'; the world is as it was. (LAID: no walk: one application.) -/
theorem Tryz.bytealg_CompareString (a b : ByteArray) (w : World) :
    Calls Tryz.prog 247 #[.string a, .string b] w fun e w' => e = .returned (.int .i64 (Lib.compareBytes a.data.toList b.data.toList)) ∧ w' = w := Any.bytealg_CompareString Tryz.lays213 a b w
def Tryz.lays106_ren : Go.Shelf.Ren := ⟨fun | 106 => 207 | 213 => 247 | 265 => 270 | n => n, fun | 9 => 9 | 3 => 3 | n => n, fun | n => n⟩
theorem Tryz.lays106 : Go.Proofs.Lays.n106 Tryz.prog Tryz.lays106_ren := {
  mixed := by kernel_rfl
  f106 := Tryz.func207.trans (congrArg some (by kernel_rfl))
  f213 := Tryz.func247.trans (congrArg some (by kernel_rfl))
  f265 := Tryz.func270.trans (congrArg some (by kernel_rfl))
  t3 := Tryz.underlying3
  a3 := Tryz.isAgg3
  z3 := Tryz.sizeOf3
  v3 := Tryz.zeroValue3
  t9 := Tryz.underlying9
  a9 := Tryz.isAgg9
  z9 := Tryz.sizeOf9
  v9 := Tryz.zeroValue9 }
open Go.RowKit in
/-- strings.Compare: "Compare returns an integer comparing two strings lexicographically. The result will be 0 if a == b, -1 if a < b, and +1 if a > b.": IT RETURNS 'Lib.compareBytes a b'; the world is as it was. (LAID: no walk: one application.) -/
theorem Tryz.strings_Compare (a b : ByteArray) (w : World) :
    Calls Tryz.prog 207 #[.string a, .string b] w fun e w' => e = .returned (.int .i64 (Lib.compareBytes a.data.toList b.data.toList)) ∧ w' = w := Any.strings_Compare Tryz.lays106 a b w
def Tryz.lays129_ren : Go.Shelf.Ren := ⟨fun | 129 => 229 | n => n, fun | 53 => 111 | 3 => 3 | 4 => 4 | 46 => 268 | 5 => 5 | 9 => 9 | n => n, fun | n => n⟩
theorem Tryz.lays129 : Go.Proofs.Lays.n129 Tryz.prog Tryz.lays129_ren := {
  mixed := by kernel_rfl
  f129 := Tryz.func229.trans (congrArg some (by kernel_rfl))
  t3 := Tryz.underlying3
  a3 := Tryz.isAgg3
  z3 := Tryz.sizeOf3
  v3 := Tryz.zeroValue3
  t4 := Tryz.underlying4
  a4 := Tryz.isAgg4
  z4 := Tryz.sizeOf4
  v4 := Tryz.zeroValue4
  t5 := Tryz.underlying5
  a5 := Tryz.isAgg5
  z5 := Tryz.sizeOf5
  v5 := Tryz.zeroValue5
  t9 := Tryz.underlying9
  a9 := Tryz.isAgg9
  z9 := Tryz.sizeOf9
  v9 := Tryz.zeroValue9
  t46 := Tryz.underlying268
  a46 := Tryz.isAgg268
  z46 := Tryz.sizeOf268
  v46 := Tryz.zeroValue268
  t53 := Tryz.underlying111
  a53 := Tryz.isAgg111
  z53 := Tryz.sizeOf111
  v53 := Tryz.zeroValue111 }
/-- bits.Len64: "Len64 returns the minimum number of bits required to represent x; the result is 0 for x == 0.": IT RETURNS 'Lib.bitLen x'; the world is as it was. ('h0', 'h1': x is a uint64.) (LAID: no walk: one application.) -/
theorem Tryz.bits_Len64 (x : Int) (w : World) (h0 : 0 ≤ x) (h1 : x ≤ 18446744073709551615) :
    Calls Tryz.prog 229 #[.int .u64 x] w fun e w' => e = .returned (.int .i64 (Lib.bitLen x.toNat)) ∧ w' = w := Any.bits_Len64 Tryz.lays129 x w h0 h1
def Tryz.laysBin42_ren : Go.Shelf.Ren := ⟨fun | 42 => 230 | n => n, fun | 37 => 357 | 22 => 44 | 33 => 111 | 0 => 0 | 5 => 5 | 45 => 268 | n => n, fun | n => n⟩
theorem Tryz.laysBin42 : Go.Proofs.LaysBin.n42 Tryz.prog Tryz.laysBin42_ren := {
  mixed := by kernel_rfl
  f42 := Tryz.func230.trans (congrArg some (by kernel_rfl))
  t0 := Tryz.underlying0
  a0 := Tryz.isAgg0
  z0 := Tryz.sizeOf0
  v0 := Tryz.zeroValue0
  i0 := by kernel_rfl
  t5 := Tryz.underlying5
  a5 := Tryz.isAgg5
  z5 := Tryz.sizeOf5
  v5 := Tryz.zeroValue5
  i5 := by kernel_rfl
  t22 := Tryz.underlying44
  a22 := Tryz.isAgg44
  z22 := Tryz.sizeOf44
  v22 := Tryz.zeroValue44
  i22 := by kernel_rfl
  t33 := Tryz.underlying111
  a33 := Tryz.isAgg111
  z33 := Tryz.sizeOf111
  v33 := Tryz.zeroValue111
  i33 := by kernel_rfl
  t37 := Tryz.underlying357
  a37 := Tryz.isAgg357
  z37 := Tryz.sizeOf357
  v37 := Tryz.zeroValue357
  i37 := by kernel_rfl
  t45 := Tryz.underlying268
  a45 := Tryz.isAgg268
  z45 := Tryz.sizeOf268
  v45 := Tryz.zeroValue268
  i45 := by kernel_rfl }
open Go.RowKit in
/-- binary.BigEndian.Uint64: "Uint64 returns the uint64 representation of b[0:8].": THE NUMBER THAT THE FIRST 8 BYTES SPELL, the greatest byte first ('Lib.beNat'). Of what was there nothing has turned (the receiver, an empty struct, is laid in a new block without cells; the statement's order is drawn). (LAID: no walk: one application.) -/
theorem Tryz.binary_BE_Uint64 (g o n c : Nat) (b0 b1 b2 b3 b4 b5 b6 b7 : UInt8) (w : World) (hn : 8 ≤ n) (c0 : w.cell? ⟨g, o, none⟩ = some (.int .u8 b0.toNat)) (c1 : w.cell? ⟨g, o + 1, none⟩ = some (.int .u8 b1.toNat)) (c2 : w.cell? ⟨g, o + 2, none⟩ = some (.int .u8 b2.toNat)) (c3 : w.cell? ⟨g, o + 3, none⟩ = some (.int .u8 b3.toNat)) (c4 : w.cell? ⟨g, o + 4, none⟩ = some (.int .u8 b4.toNat)) (c5 : w.cell? ⟨g, o + 5, none⟩ = some (.int .u8 b5.toNat)) (c6 : w.cell? ⟨g, o + 6, none⟩ = some (.int .u8 b6.toNat)) (c7 : w.cell? ⟨g, o + 7, none⟩ = some (.int .u8 b7.toNat)) :
    Calls Tryz.prog 230 #[.agg #[], .slice (some ⟨g, o, none⟩) n c] w fun e w' => e = .returned (.int .u64 (Lib.beNat [b0, b1, b2, b3, b4, b5, b6, b7])) ∧ Below w.heap.size w w' := Any.binary_BE_Uint64 Tryz.laysBin42 g o n c b0 b1 b2 b3 b4 b5 b6 b7 w hn c0 c1 c2 c3 c4 c5 c6 c7
def Tryz.laysBin43_ren : Go.Shelf.Ren := ⟨fun | 43 => 239 | n => n, fun | 37 => 357 | 22 => 44 | 33 => 111 | 0 => 0 | 5 => 5 | 45 => 268 | n => n, fun | n => n⟩
theorem Tryz.laysBin43 : Go.Proofs.LaysBin.n43 Tryz.prog Tryz.laysBin43_ren := {
  mixed := by kernel_rfl
  f43 := Tryz.func239.trans (congrArg some (by kernel_rfl))
  t0 := Tryz.underlying0
  a0 := Tryz.isAgg0
  z0 := Tryz.sizeOf0
  v0 := Tryz.zeroValue0
  i0 := by kernel_rfl
  t5 := Tryz.underlying5
  a5 := Tryz.isAgg5
  z5 := Tryz.sizeOf5
  v5 := Tryz.zeroValue5
  i5 := by kernel_rfl
  t22 := Tryz.underlying44
  a22 := Tryz.isAgg44
  z22 := Tryz.sizeOf44
  v22 := Tryz.zeroValue44
  i22 := by kernel_rfl
  t33 := Tryz.underlying111
  a33 := Tryz.isAgg111
  z33 := Tryz.sizeOf111
  v33 := Tryz.zeroValue111
  i33 := by kernel_rfl
  t37 := Tryz.underlying357
  a37 := Tryz.isAgg357
  z37 := Tryz.sizeOf357
  v37 := Tryz.zeroValue357
  i37 := by kernel_rfl
  t45 := Tryz.underlying268
  a45 := Tryz.isAgg268
  z45 := Tryz.sizeOf268
  v45 := Tryz.zeroValue268
  i45 := by kernel_rfl }
open Go.RowKit in
/-- binary.BigEndian.PutUint64: "PutUint64 stores v into b[0:8].": v's 8 BYTES, the greatest first ('Lib.beBytes 8 v'), ARE LAID IN THE SLICE's FIRST 8 CELLS ('World.setCells'); nothing else turns (the receiver, an empty struct, is laid in a new block without cells). (LAID: no walk: one application.) -/
theorem Tryz.binary_BE_PutUint64 (g o n c v : Nat) (hv : v < 18446744073709551616) (x0 x1 x2 x3 x4 x5 x6 x7 : Value) (w : World) (hn : 8 ≤ n) (c0 : w.cell? ⟨g, o, none⟩ = some x0) (c1 : w.cell? ⟨g, o + 1, none⟩ = some x1) (c2 : w.cell? ⟨g, o + 2, none⟩ = some x2) (c3 : w.cell? ⟨g, o + 3, none⟩ = some x3) (c4 : w.cell? ⟨g, o + 4, none⟩ = some x4) (c5 : w.cell? ⟨g, o + 5, none⟩ = some x5) (c6 : w.cell? ⟨g, o + 6, none⟩ = some x6) (c7 : w.cell? ⟨g, o + 7, none⟩ = some x7) (f0 : w.frozen? ⟨g, o, none⟩ = false) (f1 : w.frozen? ⟨g, o + 1, none⟩ = false) (f2 : w.frozen? ⟨g, o + 2, none⟩ = false) (f3 : w.frozen? ⟨g, o + 3, none⟩ = false) (f4 : w.frozen? ⟨g, o + 4, none⟩ = false) (f5 : w.frozen? ⟨g, o + 5, none⟩ = false) (f6 : w.frozen? ⟨g, o + 6, none⟩ = false) (f7 : w.frozen? ⟨g, o + 7, none⟩ = false) :
    Calls Tryz.prog 239 #[.agg #[], .slice (some ⟨g, o, none⟩) n c, .int .u64 v] w fun e w' => e = .returned (.tuple #[]) ∧ w' = (w.alloc (.cells #[] 357)).setCells g o (Lib.byteCells (Lib.beBytes 8 v)) := Any.binary_BE_PutUint64 Tryz.laysBin43 g o n c v hv x0 x1 x2 x3 x4 x5 x6 x7 w hn c0 c1 c2 c3 c4 c5 c6 c7 f0 f1 f2 f3 f4 f5 f6 f7
open Go.RowKit in
/-- binary.BigEndian.Uint64, b SHORTER THAN 8: IT PANICS: Go's 'runtime error: index out of range [7] with length n' ('Lib.boundsPanicked'). THE WORLD: the receiver's new block without cells, and the draw of the panic's flag. (LAID: no walk: one application.) -/
theorem Tryz.binary_BE_Uint64_panics (ao : Option Addr) (n c : Nat) (w : World) (hn : n < 8) (hnil : ao = none → n = 0) :
    Calls Tryz.prog 230 #[.agg #[], .slice ao n c] w fun e w' => Lib.boundsPanicked Tryz.prog 7 n e ∧ w' = (w.alloc (.cells #[] 357)).drew := Any.binary_BE_Uint64_panics Tryz.laysBin42 ao n c w hn hnil
def Tryz.laysBin46_ren : Go.Shelf.Ren := ⟨fun | 46 => 241 | n => n, fun | 22 => 44 | 33 => 111 | 3 => 3 | 4 => 4 | 5 => 5 | 0 => 0 | 45 => 268 | n => n, fun | n => n⟩
theorem Tryz.laysBin46 : Go.Proofs.LaysBin.n46 Tryz.prog Tryz.laysBin46_ren := {
  mixed := by kernel_rfl
  f46 := Tryz.func241.trans (congrArg some (by kernel_rfl))
  t0 := Tryz.underlying0
  a0 := Tryz.isAgg0
  z0 := Tryz.sizeOf0
  v0 := Tryz.zeroValue0
  i0 := by kernel_rfl
  t3 := Tryz.underlying3
  a3 := Tryz.isAgg3
  z3 := Tryz.sizeOf3
  v3 := Tryz.zeroValue3
  i3 := by kernel_rfl
  t4 := Tryz.underlying4
  a4 := Tryz.isAgg4
  z4 := Tryz.sizeOf4
  v4 := Tryz.zeroValue4
  i4 := by kernel_rfl
  t5 := Tryz.underlying5
  a5 := Tryz.isAgg5
  z5 := Tryz.sizeOf5
  v5 := Tryz.zeroValue5
  i5 := by kernel_rfl
  t22 := Tryz.underlying44
  a22 := Tryz.isAgg44
  z22 := Tryz.sizeOf44
  v22 := Tryz.zeroValue44
  i22 := by kernel_rfl
  t33 := Tryz.underlying111
  a33 := Tryz.isAgg111
  z33 := Tryz.sizeOf111
  v33 := Tryz.zeroValue111
  i33 := by kernel_rfl
  t45 := Tryz.underlying268
  a45 := Tryz.isAgg268
  z45 := Tryz.sizeOf268
  v45 := Tryz.zeroValue268
  i45 := by kernel_rfl }
open Go.RowKit in
/-- binary.PutUvarint: "PutUvarint encodes a uint64 into buf and returns the number of bytes written. If the buffer is too small, PutUvarint will panic.": WHERE buf HAS ROOM: x's VARINT ('Lib.uvarint x') IS LAID IN buf's FIRST CELLS ('World.setCells'); its length comes back; nothing else turns. (LAID: no walk: one application.) -/
theorem Tryz.binary_PutUvarint (g o n c x : Nat) (hx : x < 18446744073709551616) (w : World) (hn : (Lib.uvarint x).length ≤ n) (hcell : ∀ j, j < (Lib.uvarint x).length → (w.cell? ⟨g, o + j, none⟩).isSome = true ∧ w.frozen? ⟨g, o + j, none⟩ = false) :
    Calls Tryz.prog 241 #[.slice (some ⟨g, o, none⟩) n c, .int .u64 x] w fun e w' => e = .returned (.int .i64 (Lib.uvarint x).length) ∧ w' = w.setCells g o (Lib.byteCells (Lib.uvarint x)) := Any.binary_PutUvarint Tryz.laysBin46 g o n c x hx w hn hcell
def Tryz.laysBin49_ren : Go.Shelf.Ren := ⟨fun | 49 => 240 | 46 => 241 | n => n, fun | 22 => 44 | 2 => 2 | 3 => 3 | 33 => 111 | 45 => 268 | 4 => 4 | 5 => 5 | 0 => 0 | n => n, fun | n => n⟩
theorem Tryz.laysBin49 : Go.Proofs.LaysBin.n49 Tryz.prog Tryz.laysBin49_ren := {
  mixed := by kernel_rfl
  f46 := Tryz.func241.trans (congrArg some (by kernel_rfl))
  f49 := Tryz.func240.trans (congrArg some (by kernel_rfl))
  t0 := Tryz.underlying0
  a0 := Tryz.isAgg0
  z0 := Tryz.sizeOf0
  v0 := Tryz.zeroValue0
  i0 := by kernel_rfl
  t2 := Tryz.underlying2
  a2 := Tryz.isAgg2
  z2 := Tryz.sizeOf2
  v2 := Tryz.zeroValue2
  i2 := by kernel_rfl
  t3 := Tryz.underlying3
  a3 := Tryz.isAgg3
  z3 := Tryz.sizeOf3
  v3 := Tryz.zeroValue3
  i3 := by kernel_rfl
  t4 := Tryz.underlying4
  a4 := Tryz.isAgg4
  z4 := Tryz.sizeOf4
  v4 := Tryz.zeroValue4
  i4 := by kernel_rfl
  t5 := Tryz.underlying5
  a5 := Tryz.isAgg5
  z5 := Tryz.sizeOf5
  v5 := Tryz.zeroValue5
  i5 := by kernel_rfl
  t22 := Tryz.underlying44
  a22 := Tryz.isAgg44
  z22 := Tryz.sizeOf44
  v22 := Tryz.zeroValue44
  i22 := by kernel_rfl
  t33 := Tryz.underlying111
  a33 := Tryz.isAgg111
  z33 := Tryz.sizeOf111
  v33 := Tryz.zeroValue111
  i33 := by kernel_rfl
  t45 := Tryz.underlying268
  a45 := Tryz.isAgg268
  z45 := Tryz.sizeOf268
  v45 := Tryz.zeroValue268
  i45 := by kernel_rfl }
open Go.RowKit in
/-- binary.PutVarint: "PutVarint encodes an int64 into buf and returns the number of bytes written. If the buffer is too small, PutVarint will panic.": WHERE buf HAS ROOM: THE VARINT OF x's ZIG-ZAG ('Lib.uvarint (Lib.zigzag x)') IS LAID IN buf's FIRST CELLS; its length comes back; nothing else turns. (LAID: no walk: one application.) -/
theorem Tryz.binary_PutVarint (g o n c : Nat) (x : Int) (h0 : -9223372036854775808 ≤ x) (h1 : x ≤ 9223372036854775807) (w : World) (hn : (Lib.uvarint (Lib.zigzag x)).length ≤ n) (hcell : ∀ j, j < (Lib.uvarint (Lib.zigzag x)).length → (w.cell? ⟨g, o + j, none⟩).isSome = true ∧ w.frozen? ⟨g, o + j, none⟩ = false) :
    Calls Tryz.prog 240 #[.slice (some ⟨g, o, none⟩) n c, .int .i64 x] w fun e w' => e = .returned (.int .i64 (Lib.uvarint (Lib.zigzag x)).length) ∧ w' = w.setCells g o (Lib.byteCells (Lib.uvarint (Lib.zigzag x))) := Any.binary_PutVarint Tryz.laysBin49 g o n c x h0 h1 w hn hcell
open Go.RowKit in
/-- binary.BigEndian.Uint64, ITS PREMISES 'open_ints'' CONCLUSION TO THE LETTER: a slice at WHATEVER address a, the numbers zs that its cells hold: THE NUMBER THAT THE FIRST 8 SPELL ('Lib.beZ'). (LAID: no walk: one application.) -/
theorem Tryz.binary_BE_Uint64_z (a : Addr) (n c : Nat) (zs : List Int) (w : World) (hn : 8 ≤ n) (hl : 8 ≤ zs.length) (hcell : ∀ i, i < zs.length → w.cell? (a.add i) = some (.int .u8 (zs.getD i 0))) (hw : ∀ z ∈ zs, (Lit.int .u8 z).wf = true) :
    Calls Tryz.prog 230 #[.agg #[], .slice (some a) n c] w fun e w' => e = .returned (.int .u64 (Lib.beZ (zs.take 8))) ∧ Below w.heap.size w w' := Any.binary_BE_Uint64_z Tryz.laysBin42 a n c zs w hn hl hcell hw
def Tryz.lays260_ren : Go.Shelf.Ren := ⟨fun | 260 => 283 | n => n, fun | 9 => 9 | 21 => 21 | 3 => 3 | 4 => 4 | 5 => 5 | 119 => 407 | 0 => 0 | 46 => 268 | 139 => 410 | 138 => 409 | n => n, fun | 3 => 7 | 4 => 8 | n => n⟩
theorem Tryz.lays260 : Go.Proofs.Lays.n260 Tryz.prog Tryz.lays260_ren := {
  mixed := by kernel_rfl
  f260 := Tryz.func283.trans (congrArg some (by kernel_rfl))
  t0 := Tryz.underlying0
  a0 := Tryz.isAgg0
  z0 := Tryz.sizeOf0
  v0 := Tryz.zeroValue0
  t3 := Tryz.underlying3
  a3 := Tryz.isAgg3
  z3 := Tryz.sizeOf3
  v3 := Tryz.zeroValue3
  t4 := Tryz.underlying4
  a4 := Tryz.isAgg4
  z4 := Tryz.sizeOf4
  v4 := Tryz.zeroValue4
  t5 := Tryz.underlying5
  a5 := Tryz.isAgg5
  z5 := Tryz.sizeOf5
  v5 := Tryz.zeroValue5
  t9 := Tryz.underlying9
  a9 := Tryz.isAgg9
  z9 := Tryz.sizeOf9
  v9 := Tryz.zeroValue9
  t21 := Tryz.underlying21
  a21 := Tryz.isAgg21
  z21 := Tryz.sizeOf21
  v21 := Tryz.zeroValue21
  t46 := Tryz.underlying268
  a46 := Tryz.isAgg268
  z46 := Tryz.sizeOf268
  v46 := Tryz.zeroValue268
  t119 := Tryz.underlying407
  a119 := Tryz.isAgg407
  z119 := Tryz.sizeOf407
  t138 := Tryz.underlying409
  a138 := Tryz.isAgg409
  z138 := Tryz.sizeOf409
  v138 := Tryz.zeroValue409
  t139 := Tryz.underlying410
  a139 := Tryz.isAgg410
  z139 := Tryz.sizeOf410
  v139 := Tryz.zeroValue410
  g3 := by kernel_rfl
  g4 := by kernel_rfl }
open Go.RowKit Go.Lib in
theorem Tryz.utf8_decodeRuneInStringSlow (s : ByteArray) (w : World) (hT : Lib.Utf8Tabs 7 8 w) :
    Calls Tryz.prog 283 #[.string s] w fun e w' => e = .returned (.tuple #[.int .i32 (Lib.decodeGo s).1, .int .i64 (Lib.decodeGo s).2]) ∧ Below w.heap.size w w' := Any.utf8_decodeRuneInStringSlow Tryz.lays260 s w hT
end Go.Proofs

/- Words for memory that the walks of this seat share: frames over a set of blocks, a block known whole, bytes as cells, a slice that reads as a list. Nothing of the program. -/
namespace Go.Proofs.YtbkookiigkckdaaGreatDoor
open Go.RowKit

/-- Of the blocks of w none but those of S have turned. -/
structure Fr (S : Nat → Prop) (w w' : World) : Prop where
  os : w'.os = w.os
  tape : w'.tape = w.tape
  output : w'.output = w.output
  size : w.heap.size ≤ w'.heap.size
  block : ∀ k, k < w.heap.size → ¬ S k → w'.heap[k]? = w.heap[k]?

section
variable {S S' : Nat → Prop} {w w' w'' : World}
theorem Fr.refl (S : Nat → Prop) (w : World) : Fr S w w := ⟨rfl, rfl, rfl, Nat.le_refl _, fun _ _ _ => rfl⟩
theorem Fr.mono (h : Fr S w w') (hs : ∀ k, k < w.heap.size → S k → S' k) : Fr S' w w' :=
  ⟨h.os, h.tape, h.output, h.size, fun k hk hn => h.block k hk (fun s => hn (hs k hk s))⟩
theorem Fr.trans (h : Fr S w w') (h' : Fr S' w' w'') (hs : ∀ k, k < w.heap.size → S' k → S k) : Fr S w w'' :=
  ⟨h'.os.trans h.os, h'.tape.trans h.tape, h'.output.trans h.output, Nat.le_trans h.size h'.size,
    fun k hk hn => (h'.block k (Nat.lt_of_lt_of_le hk h.size) (fun s => hn (hs k hk s))).trans (h.block k hk hn)⟩
theorem Fr.same (h : Fr S w w') (h' : Fr S w' w'') : Fr S w w'' := h.trans h' fun _ _ s => s
theorem Fr.alloc (h : Fr S w w') (o : Obj) : Fr S w (w'.alloc o) :=
  h.trans (S' := fun _ => False) ⟨rfl, rfl, rfl, by simp, fun k hk _ => Below.heap_alloc _ _ _ hk⟩ (fun _ _ s => s.elim)
theorem Fr.drew (h : Fr S w w') : Fr S w w'.drew := ⟨h.os, h.tape, h.output, h.size, h.block⟩
theorem Fr.drewN (h : Fr S w w') (n : Nat) : Fr S w (w'.drewN n) := ⟨h.os, h.tape, h.output, h.size, h.block⟩
theorem Fr.setCell (h : Fr S w w') {p : Addr} (hp : S p.block ∨ w.heap.size ≤ p.block) (u : Value) : Fr S w (w'.setCell p u) :=
  h.trans (S' := fun k => k = p.block) ⟨rfl, rfl, rfl, by simp [World.setCell], fun k hk hn => Below.heap_setCell _ _ _ _ hn⟩ (fun k hk s => by subst s; rcases hp with hp | hp; exact hp; omega)
theorem Fr.grown {row : Option Nat} (h : Fr S w w') (hg : w'.grownBy w'' row) (hr : ∀ k, row = some k → S k ∨ w.heap.size ≤ k) : Fr S w w'' :=
  h.trans (S' := fun k => some k = row) ⟨hg.os, hg.tape, hg.output, hg.size, fun k hk hn => hg.block k hk hn⟩ (fun k hk s => by rcases hr k s.symm with hp | hp; exact hp; omega)
theorem Fr.below {B : Nat} (h : Fr S w w') (hb : Below B w' w'') (hB : ∀ k, k < w.heap.size → B ≤ k → S k) : Fr S w w'' :=
  h.trans (S' := fun k => B ≤ k) ⟨hb.os, hb.tape, hb.output, hb.size, fun k _ hn => hb.block k (by omega)⟩ hB
theorem Fr.toBelow (h : Fr S w w') (hn : ∀ k, k < w.heap.size → ¬ S k) : Below w.heap.size w w' :=
  ⟨h.os, h.tape, h.output, h.size, fun k hk => h.block k hk (hn k hk)⟩
theorem Fr.none_toBelow (h : Fr (fun _ => False) w w') : Below w.heap.size w w' := h.toBelow fun _ _ s => s
theorem Fr.ofBelow (h : Below w.heap.size w w') : Fr S w w' := (Fr.refl S w).below h fun k hk hb => by omega
theorem Fr.cell (h : Fr S w w') {p : Addr} (hp : p.block < w.heap.size) (hn : ¬ S p.block) : w'.cell? p = w.cell? p := World.cell?_of_block (w := w) (h.block p.block hp hn)
theorem heap_setCells (b : Nat) : ∀ (vs : List Value) (o : Nat) (w : World) (k : Nat), k ≠ b → (w.setCells b o vs).heap[k]? = w.heap[k]?
  | [], _, _, _, _ => rfl
  | v :: vs, o, w, k, hk => by
    rw [World.setCells, heap_setCells b vs _ _ k hk]
    exact Below.heap_setCell w ⟨b, o, none⟩ v k hk
end

/-- Block g holds just the cells cs of the element type t, none of them frozen. -/
def Blk (w : World) (g : Nat) (t : TypeId) (cs : Array Value) : Prop := w.heap[g]? = some (.cells cs t (0, 0))

section
variable {w w' : World} {g : Nat} {t : TypeId} {cs : Array Value} {S : Nat → Prop}
theorem Blk.lt (h : Blk w g t cs) : g < w.heap.size := by
  rcases Nat.lt_or_ge g w.heap.size with hlt | hge
  · exact hlt
  · unfold Blk at h; rw [Array.getElem?_eq_none hge] at h; cases h
theorem Blk.cell (h : Blk w g t cs) (i : Nat) : w.cell? ⟨g, i, none⟩ = cs[i]? := cell_of_row w g i cs t (0, 0) h
theorem Blk.frozen (h : Blk w g t cs) (i : Nat) : w.frozen? ⟨g, i, none⟩ = false := by
  unfold Blk at h
  simp [World.frozen?, h]
theorem Blk.new (w : World) (t : TypeId) (cs : Array Value) : Blk (w.alloc (.cells cs t)) w.heap.size t cs := heap_alloc_new w _
theorem Blk.drew (h : Blk w g t cs) : Blk w.drew g t cs := h
theorem Blk.drewN (h : Blk w g t cs) (n : Nat) : Blk (w.drewN n) g t cs := h
theorem Blk.alloc (h : Blk w g t cs) (o : Obj) : Blk (w.alloc o) g t cs := (Below.heap_alloc w o g h.lt).trans h
theorem Blk.set_ (h : Blk w g t cs) (i : Nat) (u : Value) : Blk (w.setCell ⟨g, i, none⟩ u) g t (cs.setIfInBounds i u) := by
  unfold Blk at h ⊢
  simp [World.setCell, Array.getElem?_modify, h]
theorem Blk.far (h : Blk w g t cs) {p : Addr} (hp : g ≠ p.block) (u : Value) : Blk (w.setCell p u) g t cs := (Below.heap_setCell w p u g hp).trans h
theorem Blk.fr (h : Blk w g t cs) (hf : Fr S w w') (hn : ¬ S g) : Blk w' g t cs := (hf.block g h.lt hn).trans h
theorem Blk.grown {row : Option Nat} (h : Blk w g t cs) (hb : w.grownBy w' row) (hg : some g ≠ row) : Blk w' g t cs := (hb.block g h.lt hg).trans h
theorem Blk.tag {t' : TypeId} {cs' : Array Value} (h : Blk w g t cs) (h' : Blk w g t' cs') : t = t' ∧ cs = cs' := by
  unfold Blk at h h'
  rw [h] at h'
  injection h' with h'
  injection h' with hc ht
  exact ⟨ht, hc⟩
theorem Blk.ne_ {g' : Nat} {t' : TypeId} {cs' : Array Value} (h : Blk w g t cs) (h' : Blk w g' t' cs') (hne : t ≠ t') : g ≠ g' := by
  rintro rfl
  exact hne (h.tag h').1
/-- A row that a slice owns is a block of its element type. -/
theorem own_ne {base : Nat} {e : TypeId} {size n : Nat} {v : Value} {xs : List Value} (h : w.ownsRow base e size v n xs) (hg : Blk w g t cs) (hne : e ≠ t) : v.ownBlock ≠ some g := by
  rcases h.2 with ⟨rfl, _⟩ | ⟨g', cap, cur, rfl, _, hh, _⟩
  · simp [Value.ownBlock]
  · intro he
    have : g' = g := by simpa [Value.ownBlock] using he
    subst this
    exact Blk.ne_ (t := e) hh hg hne rfl
theorem own_lt {base : Nat} {e : TypeId} {size n : Nat} {v : Value} {xs : List Value} (h : w.ownsRow base e size v n xs) {k : Nat} (hk : v.ownBlock = some k) : k < w.heap.size := (h.lt k hk).2
end

/-- Bytes as cells. -/
abbrev bc (l : List UInt8) : List Value := Lib.byteCells l

theorem bc_len (l : List UInt8) : (bc l).length = l.length := by simp [bc, Lib.byteCells]
theorem bc_one (l : List UInt8) : ∀ v ∈ bc l, v.oneCell' = true := by
  intro v hv
  simp only [bc, Lib.byteCells, List.mem_map] at hv
  obtain ⟨c, _, rfl⟩ := hv
  rfl
theorem bc_append (a b : List UInt8) : bc (a ++ b) = bc a ++ bc b := by simp [bc, Lib.byteCells]
theorem bc_get (l : List UInt8) (j : Nat) : (bc l)[j]? = (l[j]?).map fun c => .int .u8 c.toNat := by simp [bc, Lib.byteCells]

end Go.Proofs.YtbkookiigkckdaaGreatDoor

/- append onto a row of the call's own, from whatever source (a slice, nil, a string), with the place of the new row; and copies. Nothing of the program. -/
namespace Go.Proofs.YtbkookiigkckdaaGreatDoor
open Go.RowKit
set_option linter.unusedVariables false
set_option linter.unusedSimpArgs false

def setAll (cs : Array Value) : Nat → List Value → Array Value
  | _, [] => cs
  | o, v :: r => setAll (cs.setIfInBounds o v) (o + 1) r

theorem setCells_blk {t : TypeId} {g : Nat} : ∀ (vs : List Value) (o : Nat) (w : World) (cs : Array Value), Blk w g t cs → Blk (w.setCells g o vs) g t (setAll cs o vs)
  | [], _, _, _, h => h
  | v :: r, o, w, cs, h => setCells_blk r (o + 1) _ _ (h.set_ o v)

theorem setAll_toList : ∀ (vs : List Value) (o : Nat) (cs : Array Value), o + vs.length ≤ cs.size → (setAll cs o vs).toList = cs.toList.take o ++ vs ++ cs.toList.drop (o + vs.length)
  | [], o, cs, _ => by simp [setAll]
  | v :: r, o, cs, h => by
    rw [setAll, setAll_toList r (o + 1) _ (by simp at h ⊢; omega)]
    simp only [Array.toList_setIfInBounds, List.length_cons] at h ⊢
    have hl : cs.toList.length = cs.size := by simp
    generalize cs.toList = l at hl ⊢
    rw [← hl] at h
    clear hl
    apply List.ext_getElem?
    intro i
    simp only [List.append_assoc, List.getElem?_append, List.length_take, List.length_set, List.getElem?_take, List.getElem?_drop, List.getElem?_set, List.cons_append, List.getElem?_cons, List.length_cons]
    rw [show min (o + 1) l.length = o + 1 by omega, show min o l.length = o by omega]
    repeat' split
    all_goals first
      | rfl
      | (exfalso; omega)
      | (congr 1; omega)

theorem setAll_size : ∀ (vs : List Value) (o : Nat) (cs : Array Value), (setAll cs o vs).size = cs.size
  | [], _, _ => rfl
  | v :: r, o, cs => by rw [setAll, setAll_size r]; simp

theorem heap_size_setCells (b : Nat) : ∀ (vs : List Value) (o : Nat) (w : World), (w.setCells b o vs).heap.size = w.heap.size
  | [], _, _ => rfl
  | v :: r, o, w => by rw [World.setCells, heap_size_setCells b r]; simp [World.setCell]

theorem setCells_os (b : Nat) : ∀ (vs : List Value) (o : Nat) (w : World), (w.setCells b o vs).os = w.os ∧ (w.setCells b o vs).tape = w.tape ∧ (w.setCells b o vs).output = w.output
  | [], _, _ => ⟨rfl, rfl, rfl⟩
  | v :: r, o, w => by rw [World.setCells]; obtain ⟨h1, h2, h3⟩ := setCells_os b r (o + 1) (w.setCell ⟨b, o, none⟩ v); exact ⟨h1, h2, h3⟩

theorem Fr.setCells {S : Nat → Prop} {w w' : World} (h : Fr S w w') {b : Nat} (hp : S b ∨ w.heap.size ≤ b) (o : Nat) (vs : List Value) : Fr S w (w'.setCells b o vs) :=
  h.trans (S' := fun k => k = b) ⟨(setCells_os b vs o w').1, (setCells_os b vs o w').2.1, (setCells_os b vs o w').2.2, by rw [heap_size_setCells]; exact Nat.le_refl _, fun k _ hn => heap_setCells b vs o w' k hn⟩ (fun k hk s => by subst s; rcases hp with hp | hp; exact hp; omega)

theorem grownBy_setCells {w : World} (b : Nat) (o : Nat) (vs : List Value) : w.grownBy (w.setCells b o vs) (some b) :=
  ⟨(setCells_os b vs o w).1, (setCells_os b vs o w).2.1, (setCells_os b vs o w).2.2, by rw [heap_size_setCells]; exact Nat.le_refl _, fun k _ hn => heap_setCells b vs o w k (by simpa using hn)⟩

section
variable {P : Program} (w : World)

/-- append onto a row of the call's own, from whatever source: what comes of it, and where the new row lies. -/
theorem run_append_src (base : Nat) (t tx ty e : TypeId) (i : TypeInfo) (z : Value) (size bytes : Nat) (ht : P.underlying t = some (.slice e)) (hi : P.info? e = some i) (hz : i.zero = some z)
    (hsize : i.size = size) (hby : i.bytes = bytes) (hzs : z.cells.size = size) (hsz : 0 < size)
    (v : Value) (n : Nat) (xs : List Value) (hown : w.ownsRow base e size v n xs)
    (x : Value) (m : Nat) (news : List Value) (hs : Src P size tx x m news w)
    (h63 : n + m ≤ maxLen) (hbytes : (n + m) * bytes ≤ 140737488355328) (hbase : base ≤ w.heap.size) :
    ∃ v' w', (Builtin.append_ #[t, tx] ty #[v, x]).run P w = .ok v' w' ∧ w'.ownsRow base e size v' (n + m) (xs ++ news) ∧ w.grownBy w' v.ownBlock ∧
      (v'.ownBlock = v.ownBlock ∨ v'.ownBlock = some w.heap.size) := by
  subst hsize
  subst hby
  have hsmall : ((n + m : Nat) : Int) ≤ 9223372036854775807 := by simp only [maxLen] at h63; omega
  have hlen : (xs ++ news).length = (n + m) * i.size := by rw [List.length_append, hown.1, hs.newsLen, Nat.add_mul]
  have grow : ∀ (ao : Option Addr) (cap : Nat) (row : Option Nat), v = .slice ao n cap → cap < n + m → (Builtin.firstCells i.size n (.slice ao n cap)).run P w.drew = .ok xs.toArray w.drew →
      ∃ v' w', (Builtin.append_ #[t, tx] ty #[v, x]).run P w = .ok v' w' ∧ w'.ownsRow base e i.size v' (n + m) (xs ++ news) ∧ w.grownBy w' row ∧ v'.ownBlock = some w.heap.size := by
    intro ao cap row hv hcap hold
    subst hv
    have hr := run_append_grow_src w t tx ty e i z ht hi hz ao n cap xs hold x m news hs hcap hsmall (growslice_fits hcap hbytes)
    have hcm : grownCap w (n + m) cap e ≤ maxLen := grownCap_le_maxLen w (n + m) cap e h63
    have hge := grownCap_ge w (n + m) cap e
    have hzc : (Builtin.zeroCells z.cells (grownCap w (n + m) cap e - (n + m))).size = (grownCap w (n + m) cap e - (n + m)) * i.size := by rw [size_zeroCells, hzs]
    refine ⟨_, _, hr, ⟨hlen, .inr ⟨w.heap.size, _, _, rfl, hbase, heap_alloc_new w.drew _, hge, hcm, ?_, ?_⟩⟩, ?_, rfl⟩
    · rw [Array.size_append, hzc, List.size_toArray, hlen, ← Nat.add_mul]
      congr 1
      omega
    · rw [Array.toList_append, List.take_append_of_le_length (by simp [hlen])]
      rw [← hlen]
      exact List.take_length
    · exact ⟨rfl, rfl, rfl, by simp, fun k hk _ => Below.heap_alloc w.drew _ k hk⟩
  rcases hown.2 with ⟨rfl, rfl⟩ | ⟨g, cap, cur, rfl, hbg, hg, hncap, hcapm, hcs, htake⟩
  · have hxs : xs = [] := List.eq_nil_of_length_eq_zero (by simpa using hown.1)
    subst hxs
    rcases Nat.eq_zero_or_pos m with hm | hm
    · subst hm
      have hn : news = [] := List.eq_nil_of_length_eq_zero (by simpa using hs.newsLen)
      subst hn
      refine ⟨.slice none 0 0, w, ?_, by simpa using hown, World.grownBy.refl w _, .inl rfl⟩
      have hc := hs.cells
      rcases hs.kind with ⟨e', hk⟩ | hk <;> simp [Builtin.append_, run_underlying ht, run_underlying hk, sizeOf, typeInfo, hi, hs.len, hc, storeCells]
    · obtain ⟨v', w', h1, h2, h3, h4⟩ := grow none 0 none rfl (by omega) (by exact run_firstCells_none w.drew i.size 0 0 0)
      exact ⟨v', w', h1, h2, h3, .inr h4⟩
  · by_cases hroom : n + m ≤ cap
    · have hfit : n * i.size + news.length ≤ cur.size := by
        rw [hcs, hs.newsLen, ← Nat.add_mul]
        exact Nat.mul_le_mul_right _ hroom
      have hb : Blk w g e cur := hg
      have hr := run_append_room_src w t tx ty e i ht hi g 0 n cap x m news hs hroom
        (fun j hj => by rw [hb.cell, Array.getElem?_eq_getElem (by omega)]; rfl) (fun j _ => hb.frozen _)
      simp only [Nat.zero_add] at hr
      refine ⟨_, _, hr, ⟨hlen, .inr ⟨g, cap, setAll cur (n * i.size) news, rfl, hbg, setCells_blk news (n * i.size) w cur hb, hroom, hcapm, by rw [setAll_size, hcs], ?_⟩⟩, grownBy_setCells g _ _, .inl rfl⟩
      rw [setAll_toList _ _ _ hfit, htake, List.take_append_of_le_length (by rw [hlen]; exact Nat.le_refl _), ← hlen, List.take_length]
    · have hcells := hown.cells (g := g) rfl
      obtain ⟨v', w', h1, h2, h3, h4⟩ := grow (some ⟨g, 0, none⟩) cap (some g) rfl (by omega) (run_firstCells_some w.drew i.size n ⟨g, 0, none⟩ n cap xs hown.1 (by simpa using hcells))
      exact ⟨v', w', h1, h2, h3, .inr h4⟩

theorem wp_append_src {o : Oper} {a : Act} {K : Act → World → Prop} {Q : Exit → Act → World → Prop} (s x : Operand) (t tx : TypeId)
    (ho : o.op = .call { callee := .builtin .append, args := #[s, x], argTypes := #[t, tx] })
    (base : Nat) (e : TypeId) (i : TypeInfo) (z : Value) (size bytes : Nat) (ht : P.underlying t = some (.slice e)) (hi : P.info? e = some i) (hz : i.zero = some z)
    (hsize : i.size = size) (hby : i.bytes = bytes) (hzs : z.cells.size = size) (hsz : 0 < size)
    (v : Value) (n : Nat) (xs : List Value) (hs : a.eval s = v) (hown : w.ownsRow base e size v n xs)
    (y : Value) (m : Nat) (news : List Value) (hx : a.eval x = y) (hr : Src P size tx y m news w)
    (h63 : n + m ≤ maxLen) (hbytes : (n + m) * bytes ≤ 140737488355328) (hbase : base ≤ w.heap.size)
    (h : ∀ v' w', w'.ownsRow base e size v' (n + m) (xs ++ news) → w.grownBy w' v.ownBlock → (v'.ownBlock = v.ownBlock ∨ v'.ownBlock = some w.heap.size) → K (a.put o.dst v') w') : o.wp P a w K Q := by
  obtain ⟨v', w', hrun, h2, h3, h4⟩ := run_append_src (P := P) w base t tx o.type e i z size bytes ht hi hz hsize hby hzs hsz v n xs hown y m news hr h63 hbytes hbase
  unfold Oper.wp execOp
  simp only [ho, resolve, invoke, builtin, Sem.run_bind, Sem.run_pure, Result.andThen_ok, List.map_toArray, List.map_cons, List.map_nil, hs, hx, hrun]
  exact h v' w' h2 h3 h4

theorem wpList_append_src {ops : Array Oper} {rest : List Oper} {o : Oper} {a : Act} {Q : Exit → Act → World → Prop} (hgd : o.guard = none) (s x : Operand) (t tx : TypeId)
    (ho : o.op = .call { callee := .builtin .append, args := #[s, x], argTypes := #[t, tx] })
    (base : Nat) (e : TypeId) (i : TypeInfo) (z : Value) (size bytes : Nat) (ht : P.underlying t = some (.slice e)) (hi : P.info? e = some i) (hz : i.zero = some z)
    (hsize : i.size = size) (hby : i.bytes = bytes) (hzs : z.cells.size = size) (hsz : 0 < size)
    (v : Value) (n : Nat) (xs : List Value) (hs : a.eval s = v) (hown : w.ownsRow base e size v n xs)
    (y : Value) (m : Nat) (news : List Value) (hx : a.eval x = y) (hr : Src P size tx y m news w)
    (h63 : n + m ≤ maxLen) (hbytes : (n + m) * bytes ≤ 140737488355328) (hbase : base ≤ w.heap.size)
    (h : ∀ v' w', w'.ownsRow base e size v' (n + m) (xs ++ news) → w.grownBy w' v.ownBlock → (v'.ownBlock = v.ownBlock ∨ v'.ownBlock = some w.heap.size) → wpList P ops Q rest (a.put o.dst v') w') : wpList P ops Q (o :: rest) a w :=
  wpList_plain hgd fun _ hK => wp_append_src w s x t tx ho base e i z size bytes ht hi hz hsize hby hzs hsz v n xs hs hown y m news hx hr h63 hbytes hbase fun v' w' h2 h3 h4 => hK _ _ (h v' w' h2 h3 h4)

theorem step_append_src {ops : Array Oper} {o : Oper} {a : Act} {K : Act → World → Prop} {Q : Exit → Act → World → Prop} {E : Prop} (hgd : o.guard = none) (s x : Operand) (t tx : TypeId)
    (ho : o.op = .call { callee := .builtin .append, args := #[s, x], argTypes := #[t, tx] })
    (base : Nat) (e : TypeId) (i : TypeInfo) (z : Value) (size bytes : Nat) (ht : P.underlying t = some (.slice e)) (hi : P.info? e = some i) (hz : i.zero = some z)
    (hsize : i.size = size) (hby : i.bytes = bytes) (hzs : z.cells.size = size) (hsz : 0 < size)
    (v : Value) (n : Nat) (xs : List Value) (hs : a.eval s = v) (hown : w.ownsRow base e size v n xs)
    (y : Value) (m : Nat) (news : List Value) (hx : a.eval x = y) (hr : Src P size tx y m news w)
    (h63 : n + m ≤ maxLen) (hbytes : (n + m) * bytes ≤ 140737488355328) (hbase : base ≤ w.heap.size)
    (h : ∀ v' w', w'.ownsRow base e size v' (n + m) (xs ++ news) → w.grownBy w' v.ownBlock → (v'.ownBlock = v.ownBlock ∨ v'.ownBlock = some w.heap.size) → K (a.put o.dst v') w') :
    if Region.wanted o (yielded ops a.tmps) = true then Oper.wp P o a w K Q else E := by
  have hw : Region.wanted o (yielded ops a.tmps) = true := by simp [Region.wanted, hgd]
  rw [if_pos hw]
  exact wp_append_src w s x t tx ho base e i z size bytes ht hi hz hsize hby hzs hsz v n xs hs hown y m news hx hr h63 hbytes hbase h
end

theorem own_slice {w : World} {base : Nat} {e : TypeId} {size n : Nat} {v : Value} {xs : List Value} (h : w.ownsRow base e size v n xs) : ∃ a m c, v = .slice a m c := by
  rcases h.2 with ⟨rfl, _⟩ | ⟨g', cap, cur, rfl, _⟩
  · exact ⟨_, _, _, rfl⟩
  · exact ⟨_, _, _, rfl⟩

end Go.Proofs.YtbkookiigkckdaaGreatDoor

/- The Encbuf's methods: each puts its bytes behind what is there, and turns nothing else. -/
namespace Go.Proofs.YtbkookiigkckdaaGreatDoor
open Go.RowKit
set_option linter.unusedVariables false

theorem Tryz.info5 : (Tryz.prog.info? 5).map (fun i => (i.zero, i.size, i.bytes)) = some (some (.int .u8 0), 1, 1) := by kernel_rfl

/-- An Encbuf in block e, whose slice owns the bytes xs in the block o (none: the nil slice). -/
def Enc (w : World) (e : Nat) (o : Option Nat) (xs : List UInt8) : Prop :=
  ∃ (v : Value) (cs : Array Value), Blk w e 224 cs ∧ cs.size = 11 ∧ cs[0]? = some v ∧ w.ownsRow 0 5 1 v xs.length (bc xs) ∧ v.ownBlock = o

/-- The bytes ys have been put into it: nothing else has turned. -/
def Put (w : World) (e : Nat) (o : Option Nat) (xs ys : List UInt8) (w' : World) : Prop :=
  ∃ o', Enc w' e o' (xs ++ ys) ∧ Fr (fun k => k = e ∨ some k = o) w w' ∧ (o' = o ∨ ∃ k, o' = some k ∧ w.heap.size ≤ k)

def PutEnds (w : World) (e : Nat) (o : Option Nat) (xs ys : List UInt8) (r : Ending) (w' : World) : Prop := r = .returned (.tuple #[]) ∧ Put w e o xs ys w'

/-- The step of a put: the value is stored into the Encbuf behind an append. -/
theorem put_store {w w1 w2 : World} {e : Nat} {v v' : Value} {cs : Array Value} {xs ys : List UInt8} {r : Option Nat}
    (hf : Fr (fun k => k = e ∨ some k = v.ownBlock) w w1) (hb : Blk w1 e 224 cs) (hs : cs.size = 11) (hown : w1.ownsRow 0 5 1 v xs.length (bc xs)) (hw : v.ownBlock = r)
    (hown' : w2.ownsRow 0 5 1 v' (xs.length + ys.length) (bc xs ++ bc ys)) (hg : w1.grownBy w2 v.ownBlock) {z : Nat} (hat : v'.ownBlock = v.ownBlock ∨ v'.ownBlock = some z) (hz : w.heap.size ≤ z) :
    ∃ y, w2.cell? ⟨e, 0, none⟩ = some y ∧ w2.frozen? ⟨e, 0, none⟩ = false ∧ Put w e r xs ys (w2.setCell ⟨e, 0, none⟩ v') := by
  subst hw
  have hne := own_ne hown hb (by decide)
  have hb2 := hb.grown hg (Ne.symm hne)
  have hb3 := hb2.set_ 0 v'
  have hc2 := hb2.cell 0
  rw [Array.getElem?_eq_getElem (by omega)] at hc2
  refine ⟨_, hc2, hb2.frozen 0, v'.ownBlock, ⟨v', _, hb3, by simpa using hs, by simp [hs], ?_, rfl⟩, ?_, ?_⟩
  · rw [bc_append, List.length_append]
    refine hown'.kept (row := some e) ⟨rfl, rfl, rfl, by simp [World.setCell], fun k _ hk => Below.heap_setCell _ _ _ _ (by simpa using hk)⟩ (.inr (own_ne hown' hb2 (by decide)))
  · exact (hf.grown hg (fun k hk => .inl (.inr hk.symm))).setCell (.inl (.inl rfl)) _
  · rcases hat with h | h
    · exact .inl h
    · exact .inr ⟨_, h, hz⟩

theorem one_src (w : World) (c : UInt8) : Src Tryz.prog 1 44 (.slice (some ⟨w.heap.size, 0, none⟩) 1 1) 1 (bc [c]) (w.alloc (.cells #[.int .u8 c.toNat] 5)) :=
  Src.ofSlice (e' := 5) _ Tryz.underlying44 _ 1 1 _ (by simp [bc_len]) (fun j u hj => by
    match j, hj with
    | 0, hj => simp [bc_get] at hj; subst hj; simp [Addr.add]
    | j + 1, hj => simp [bc_get] at hj) (bc_one _)

set_option maxHeartbeats 400000 in
theorem putByte (e : Nat) (o : Option Nat) (xs : List UInt8) (c : UInt8) (w : World) (h : Enc w e o xs) (hl : xs.length ≤ 1099511627776) :
    Calls Tryz.prog 180 #[.pointer (some ⟨e, 0, none⟩), .int .u8 c.toNat] w (PutEnds w e o xs [c]) := by
  obtain ⟨v, cs, hb, hs, h0, hown, rfl⟩ := h
  obtain ⟨i0, hi0, hz0, hz1, hz2⟩ := info_parts Tryz.info5
  have hc : w.cell? ⟨e, 0, none⟩ = some v := (hb.cell 0).trans h0
  clear h0
  go_enter Tryz.func180, Tryz.ntmps180
  go_wp2_with (at_builtin; refine wpList_append_src _ rfl _ _ 44 44 rfl 0 5 i0 (.int .u8 0) 1 1 Tryz.underlying44 hi0 hz0 hz1 hz2 rfl (by decide) _ _ _ rfl (hown.alloc _) _ 1 (bc [c]) rfl (one_src w c) ?c1 ?c2 (Nat.zero_le _) ?_)
  case c1 => unfold maxLen; omega
  case c2 => omega
  intro v' w1 hown' hgrow hat
  obtain ⟨a', n', k', rfl⟩ := own_slice hown'
  obtain ⟨y, hc1, hf1, R⟩ := put_store (w := w) ((Fr.refl _ w).alloc _) (hb.alloc _) hs (hown.alloc _) rfl hown' hgrow hat (by omega)
  clear hb hown hc hown' hgrow hat
  go_wp2
  go_end0
  exact ⟨rfl, R⟩

/-- The first n bytes of the array, sliced. -/
theorem arr_src {w w0 : World} {e k : Nat} {cs : Array Value} {ys : List UInt8} (hb : Blk w e 224 cs) (hs : cs.size = 11) (hk : ys.length = k) (hy : ∀ j, j < ys.length → cs[1 + j]? = (bc ys)[j]?) (hw : w0 = w) :
    Src Tryz.prog 1 44 (.slice (some ⟨e, 1, none⟩) k 10) k (bc ys) w0 := by
  subst hk hw
  exact Src.ofSlice (e' := 5) _ Tryz.underlying44 _ _ 10 _ (by simp [bc_len]) (fun j u hj => by
    have hl : j < ys.length := by
      rcases Nat.lt_or_ge j ys.length with h | h
      · exact h
      · rw [List.getElem?_eq_none (by rw [bc_len]; exact h)] at hj; cases hj
    have e1 : (⟨e, 1, none⟩ : Addr).add j = ⟨e, 1 + j, none⟩ := by unfold Addr.add; split <;> simp_all
    rw [e1, hb.cell, hy j hl, hj]) (bc_one _)

theorem setAll_at : ∀ (vs : List Value) (o : Nat) (cs : Array Value), o + vs.length ≤ cs.size → ∀ j, j < vs.length → (setAll cs o vs)[o + j]? = vs[j]? := by
  intro vs o cs h j hj
  rw [← Array.getElem?_toList, setAll_toList vs o cs h]
  rw [List.append_assoc, List.getElem?_append_right (by simp; omega), List.getElem?_append_left (by simp; omega)]
  congr 1
  simp
  omega
theorem setAll_before : ∀ (vs : List Value) (o : Nat) (cs : Array Value), o + vs.length ≤ cs.size → ∀ j, j < o → (setAll cs o vs)[j]? = cs[j]? := by
  intro vs o cs h j hj
  rw [← Array.getElem?_toList, setAll_toList vs o cs h, List.append_assoc, List.getElem?_append_left (by simp; omega), List.getElem?_take, if_pos hj, Array.getElem?_toList]

/-- The Encbuf behind the writing of its array: the first bytes of the array are ys. -/
def EncC (w0 w : World) (e : Nat) (v : Value) (xs ys : List UInt8) : Prop :=
  ∃ cs : Array Value, Blk w e 224 cs ∧ cs.size = 11 ∧ w.cell? ⟨e, 0, none⟩ = some v ∧ (∀ j, j < ys.length → cs[1 + j]? = (bc ys)[j]?) ∧ w.ownsRow 0 5 1 v xs.length (bc xs) ∧ Fr (fun k => k = e ∨ some k = v.ownBlock) w0 w

theorem encC {w0 w : World} {e : Nat} {v : Value} {cs : Array Value} {xs ys : List UInt8} (hf : Fr (fun k => k = e ∨ some k = v.ownBlock) w0 w) (hb : Blk w e 224 cs) (hs : cs.size = 11) (h0 : cs[0]? = some v) (hown : w.ownsRow 0 5 1 v xs.length (bc xs)) (hy : ys.length ≤ 10) :
    EncC w0 (w.setCells e 1 (bc ys)) e v xs ys := by
  have hb1 := setCells_blk (bc ys) 1 w cs hb
  have hle : 1 + (bc ys).length ≤ cs.size := by rw [bc_len]; omega
  refine ⟨_, hb1, by rw [setAll_size, hs], ?_, fun j hj => ?_, ?_, hf.setCells (.inl (.inl rfl)) _ _⟩
  · rw [hb1.cell, setAll_before _ _ _ hle 0 (by omega), h0]
  · exact setAll_at _ _ _ hle j (by rw [bc_len]; exact hj)
  · exact hown.kept (grownBy_setCells e _ _) (.inr (own_ne hown hb (by decide)))

set_option maxHeartbeats 1000000 in
theorem putBE64 (e : Nat) (o : Option Nat) (xs : List UInt8) (x : Nat) (hx : x < 18446744073709551616) (w : World) (h : Enc w e o xs) (hl : xs.length ≤ 1099511627776) :
    Calls Tryz.prog 181 #[.pointer (some ⟨e, 0, none⟩), .int .u64 x] w (PutEnds w e o xs (Lib.beBytes 8 x)) := by
  obtain ⟨v, cs, hb, hs, h0, hown, rfl⟩ := h
  obtain ⟨i0, hi0, hz0, hz1, hz2⟩ := info_parts Tryz.info5
  have hcell : ∀ i, i < 11 → w.drew.cell? ⟨e, i, none⟩ = some (cs[i]?.getD .nilFunc) := fun i hi => by
    rw [hb.drew.cell, Array.getElem?_eq_getElem (by omega)]; rfl
  have hP := (Tryz.binary_BE_PutUint64 e 1 10 10 x hx _ _ _ _ _ _ _ _ w.drew (by omega) (hcell 1 (by omega)) (hcell 2 (by omega)) (hcell 3 (by omega)) (hcell 4 (by omega)) (hcell 5 (by omega)) (hcell 6 (by omega)) (hcell 7 (by omega)) (hcell 8 (by omega))
    (hb.drew.frozen _) (hb.drew.frozen _) (hb.drew.frozen _) (hb.drew.frozen _) (hb.drew.frozen _) (hb.drew.frozen _) (hb.drew.frozen _) (hb.drew.frozen _)).mono
    (R' := fun r w1 => r = .returned (.tuple #[]) ∧ EncC w w1 e v xs (Lib.beBytes 8 x)) (fun r w1 ⟨hr, hw⟩ => ⟨hr, by
      subst hw
      exact encC (((Fr.refl _ w).drew).alloc _) (hb.drew.alloc _) hs h0 (World.ownsRow.alloc (w := w.drew) hown _) (by rw [Lib.beBytes_length]; omega)⟩)
  clear hcell hb hs h0 hown
  have hlen := Lib.beBytes_length 8 x
  generalize Lib.beBytes 8 x = ys at hP hlen ⊢
  go_enter Tryz.func181, Tryz.ntmps181
  go_wp2_with fail
  go_region_with (go_at_call 239; refine hP.mono ?_; rintro r w1 ⟨rfl, hE⟩)
  clear hP
  obtain ⟨cs, hb, hs, h0, hy, hown, hf⟩ := hE
  go_wp2_with fail
  have hne := own_ne hown hb (by decide)
  go_region_law (refine step_append_src _ (by rfl) _ _ 44 44 (by rfl) 0 5 i0 (.int .u8 0) 1 1 Tryz.underlying44 hi0 hz0 hz1 hz2 rfl (by decide) v xs.length (bc xs) (by rfl) hown.drew _ 8 (bc ys) (by rfl) (arr_src hb.drew hs hlen hy rfl) (by unfold maxLen; omega) (by omega) (Nat.zero_le _) ?_; intro v' w2 hown' hgrow hat; rw [← hlen] at hown'; obtain ⟨a', n', k', rfl⟩ := own_slice hown'; obtain ⟨y, hc1, hf1, R⟩ := put_store hf.drew hb.drew hs hown.drew rfl hown' hgrow hat hf.size)
  all_goals
    go_wp2
    go_end0
    exact ⟨rfl, R⟩

set_option maxHeartbeats 1000000 in
theorem putUvarint64 (e : Nat) (o : Option Nat) (xs : List UInt8) (x : Nat) (hx : x < 18446744073709551616) (w : World) (h : Enc w e o xs) (hl : xs.length ≤ 1099511627776) :
    Calls Tryz.prog 185 #[.pointer (some ⟨e, 0, none⟩), .int .u64 x] w (PutEnds w e o xs (Lib.uvarint x)) := by
  obtain ⟨v, cs, hb, hs, h0, hown, rfl⟩ := h
  obtain ⟨i0, hi0, hz0, hz1, hz2⟩ := info_parts Tryz.info5
  have hlen : (Lib.uvarint x).length ≤ 10 := Lib.uvarint_length64 hx
  have hP := (Tryz.binary_PutUvarint e 1 10 10 x hx w (by omega) (fun j hj => ⟨by rw [hb.cell, Array.getElem?_eq_getElem (by omega)]; rfl, hb.frozen _⟩)).mono
    (R' := fun r w1 => r = .returned (.int .i64 (Lib.uvarint x).length) ∧ EncC w w1 e v xs (Lib.uvarint x)) (fun r w1 ⟨hr, hw⟩ => ⟨hr, by
      subst hw
      exact encC (Fr.refl _ w) hb hs h0 hown hlen⟩)
  clear hb hs h0 hown
  generalize Lib.uvarint x = ys at hP hlen ⊢
  obtain ⟨k, hk⟩ : ∃ k, ys.length = k := ⟨_, rfl⟩
  rw [hk] at hP hlen
  have h0k : (0 : Int) ≤ (k : Int) := by omega
  have hk10 : (k : Int) ≤ 10 := by omega
  go_enter Tryz.func185, Tryz.ntmps185
  go_wp2_with (go_at_call 241; refine hP.mono ?_; rintro r w1 ⟨rfl, hE⟩)
  clear hP
  obtain ⟨cs, hb, hs, h0, hy, hown, hf⟩ := hE
  have HK := Lib.hid hk
  clear hk
  go_wp2_with fail
  go_region_law (refine step_append_src _ (by rfl) _ _ 44 44 (by rfl) 0 5 i0 (.int .u8 0) 1 1 Tryz.underlying44 hi0 hz0 hz1 hz2 rfl (by decide) v xs.length (bc xs) (by rfl) hown.drew _ k (bc ys) (by rfl) (arr_src hb.drew hs HK.out hy rfl) (by unfold maxLen; omega) (by omega) (Nat.zero_le _) ?_; intro v' w2 hown' hgrow hat; rw [← HK.out] at hown'; obtain ⟨a', n', k', rfl⟩ := own_slice hown'; obtain ⟨y, hc1, hf1, R⟩ := put_store hf.drew hb.drew hs hown.drew rfl hown' hgrow hat hf.size)
  all_goals
    go_wp2
    go_end0
    exact ⟨rfl, R⟩

set_option maxHeartbeats 1000000 in
theorem putVarint64 (e : Nat) (o : Option Nat) (xs : List UInt8) (x : Int) (hx0 : -9223372036854775808 ≤ x) (hx1 : x ≤ 9223372036854775807) (w : World) (h : Enc w e o xs) (hl : xs.length ≤ 1099511627776) :
    Calls Tryz.prog 183 #[.pointer (some ⟨e, 0, none⟩), .int .i64 x] w (PutEnds w e o xs (Lib.uvarint (Lib.zigzag x))) := by
  obtain ⟨v, cs, hb, hs, h0, hown, rfl⟩ := h
  obtain ⟨i0, hi0, hz0, hz1, hz2⟩ := info_parts Tryz.info5
  have hzz : Lib.zigzag x < 18446744073709551616 := by unfold Lib.zigzag; split <;> omega
  have hlen : (Lib.uvarint (Lib.zigzag x)).length ≤ 10 := Lib.uvarint_length64 hzz
  have hP := (Tryz.binary_PutVarint e 1 10 10 x hx0 hx1 w (by omega) (fun j hj => ⟨by rw [hb.cell, Array.getElem?_eq_getElem (by omega)]; rfl, hb.frozen _⟩)).mono
    (R' := fun r w1 => r = .returned (.int .i64 (Lib.uvarint (Lib.zigzag x)).length) ∧ EncC w w1 e v xs (Lib.uvarint (Lib.zigzag x))) (fun r w1 ⟨hr, hw⟩ => ⟨hr, by
      subst hw
      exact encC (Fr.refl _ w) hb hs h0 hown hlen⟩)
  clear hb hs h0 hown hzz
  generalize Lib.uvarint (Lib.zigzag x) = ys at hP hlen ⊢
  obtain ⟨k, hk⟩ : ∃ k, ys.length = k := ⟨_, rfl⟩
  rw [hk] at hP hlen
  have h0k : (0 : Int) ≤ (k : Int) := by omega
  have hk10 : (k : Int) ≤ 10 := by omega
  go_enter Tryz.func183, Tryz.ntmps183
  go_wp2_with (go_at_call 240; refine hP.mono ?_; rintro r w1 ⟨rfl, hE⟩)
  clear hP
  obtain ⟨cs, hb, hs, h0, hy, hown, hf⟩ := hE
  have HK := Lib.hid hk
  clear hk
  go_wp2_with fail
  go_region_law (refine step_append_src _ (by rfl) _ _ 44 44 (by rfl) 0 5 i0 (.int .u8 0) 1 1 Tryz.underlying44 hi0 hz0 hz1 hz2 rfl (by decide) v xs.length (bc xs) (by rfl) hown.drew _ k (bc ys) (by rfl) (arr_src hb.drew hs HK.out hy rfl) (by unfold maxLen; omega) (by omega) (Nat.zero_le _) ?_; intro v' w2 hown' hgrow hat; rw [← HK.out] at hown'; obtain ⟨a', n', k', rfl⟩ := own_slice hown'; obtain ⟨y, hc1, hf1, R⟩ := put_store hf.drew hb.drew hs hown.drew rfl hown' hgrow hat hf.size)
  all_goals
    go_wp2
    go_end0
    exact ⟨rfl, R⟩

/-- Two puts, one behind the other. -/
theorem Put.trans {w w1 w2 : World} {e : Nat} {o : Option Nat} {xs ys zs : List UInt8} (h : Put w e o xs ys w1) (h2 : ∀ o1, Enc w1 e o1 (xs ++ ys) → Put w1 e o1 (xs ++ ys) zs w2) : Put w e o xs (ys ++ zs) w2 := by
  obtain ⟨o1, he, hf, ho⟩ := h
  obtain ⟨o2, he2, hf2, ho2⟩ := h2 o1 he
  refine ⟨o2, by rw [← List.append_assoc]; exact he2, hf.trans hf2 ?_, ?_⟩
  · rintro k hk (rfl | hk2)
    · exact .inl rfl
    · rcases ho with rfl | ⟨k', rfl, hk'⟩
      · exact .inr hk2
      · injection hk2 with hk2; omega
  · rcases ho2 with rfl | ⟨k, rfl, hk⟩
    · exact ho
    · exact .inr ⟨k, rfl, Nat.le_trans hf.size hk⟩

theorem Put.enc {w w1 : World} {e : Nat} {o : Option Nat} {xs ys : List UInt8} (h : Put w e o xs ys w1) : ∃ o1, Enc w1 e o1 (xs ++ ys) := let ⟨o1, he, _⟩ := h; ⟨o1, he⟩
theorem Put.refl {w : World} {e : Nat} {o : Option Nat} {xs : List UInt8} (h : Enc w e o xs) : Put w e o xs [] w := ⟨o, by simpa using h, Fr.refl _ w, .inl rfl⟩
/-- One put more, its own bound apart. -/
theorem Put.step {w w1 w2 : World} {e : Nat} {o o1 : Option Nat} {xs ys zs : List UInt8} (he : Enc w1 e o1 (xs ++ ys)) (hf : Fr (fun k => k = e ∨ some k = o) w w1) (ho : o1 = o ∨ ∃ k, o1 = some k ∧ w.heap.size ≤ k) (h2 : Put w1 e o1 (xs ++ ys) zs w2) : Put w e o xs (ys ++ zs) w2 := by
  obtain ⟨o2, he2, hf2, ho2⟩ := h2
  refine ⟨o2, by rw [← List.append_assoc]; exact he2, hf.trans hf2 ?_, ?_⟩
  · rintro k hk (rfl | hk2)
    · exact .inl rfl
    · rcases ho with rfl | ⟨k', rfl, hk'⟩
      · exact .inr hk2
      · injection hk2 with hk2; omega
  · rcases ho2 with rfl | ⟨k, rfl, hk⟩
    · exact ho
    · exact .inr ⟨k, rfl, Nat.le_trans hf.size hk⟩

theorem str_src (w : World) (s : ByteArray) : Src Tryz.prog 1 9 (.string s) s.size (bc s.data.toList) w := Src.ofString w Tryz.underlying9 s

set_option maxHeartbeats 400000 in
theorem putString (e : Nat) (o : Option Nat) (xs : List UInt8) (s : ByteArray) (w : World) (h : Enc w e o xs) (hl : xs.length ≤ 1099511627776) (hsz : s.size ≤ 1099511627776) :
    Calls Tryz.prog 242 #[.pointer (some ⟨e, 0, none⟩), .string s] w (PutEnds w e o xs s.data.toList) := by
  obtain ⟨v, cs, hb, hs, h0, hown, rfl⟩ := h
  obtain ⟨i0, hi0, hz0, hz1, hz2⟩ := info_parts Tryz.info5
  have hc : w.cell? ⟨e, 0, none⟩ = some v := (hb.cell 0).trans h0
  clear h0
  go_enter Tryz.func242, Tryz.ntmps242
  go_wp2_with (at_builtin; refine wpList_append_src _ rfl _ _ 44 9 rfl 0 5 i0 (.int .u8 0) 1 1 Tryz.underlying44 hi0 hz0 hz1 hz2 rfl (by decide) _ _ _ rfl hown _ s.size (bc s.data.toList) rfl (str_src w s) ?c1 ?c2 (Nat.zero_le _) ?_)
  case c1 => unfold maxLen; omega
  case c2 => omega
  intro v' w1 hown' hgrow hat
  obtain ⟨a', n', k', rfl⟩ := own_slice hown'
  obtain ⟨y, hc1, hf1, R⟩ := put_store (w := w) (Fr.refl _ w) hb hs hown rfl hown' hgrow hat (by omega)
  clear hb hown hc hown' hgrow hat
  go_wp2
  go_end0
  exact ⟨rfl, R⟩

set_option maxHeartbeats 400000 in
theorem putUvarint (e : Nat) (o : Option Nat) (xs : List UInt8) (n : Nat) (hn : n ≤ 9223372036854775807) (w : World) (h : Enc w e o xs) (hl : xs.length ≤ 1099511627776) :
    Calls Tryz.prog 186 #[.pointer (some ⟨e, 0, none⟩), .int .i64 n] w (PutEnds w e o xs (Lib.uvarint n)) := by
  have hP := putUvarint64 e o xs n (by omega) w h hl
  clear h
  go_enter Tryz.func186, Tryz.ntmps186
  go_wp2_with (go_at_call 185; refine hP.mono ?_; rintro r w1 ⟨rfl, R⟩)
  go_end0
  exact ⟨rfl, R⟩

set_option maxHeartbeats 400000 in
theorem putUvarint32 (e : Nat) (o : Option Nat) (xs : List UInt8) (n : Nat) (hn : n < 4294967296) (w : World) (h : Enc w e o xs) (hl : xs.length ≤ 1099511627776) :
    Calls Tryz.prog 243 #[.pointer (some ⟨e, 0, none⟩), .int .u32 n] w (PutEnds w e o xs (Lib.uvarint n)) := by
  have hP := putUvarint64 e o xs n (by omega) w h hl
  clear h
  go_enter Tryz.func243, Tryz.ntmps243
  go_wp2_with (go_at_call 185; refine hP.mono ?_; rintro r w1 ⟨rfl, R⟩)
  go_end0
  exact ⟨rfl, R⟩

/-- An int64 as a uint64. -/
def u64 (x : Int) : Nat := (x % 18446744073709551616).toNat
theorem u64_lt (x : Int) : u64 x < 18446744073709551616 := by unfold u64; omega

set_option maxHeartbeats 400000 in
theorem putBE64int64 (e : Nat) (o : Option Nat) (xs : List UInt8) (x : Int) (w : World) (h : Enc w e o xs) (hl : xs.length ≤ 1099511627776) :
    Calls Tryz.prog 182 #[.pointer (some ⟨e, 0, none⟩), .int .i64 x] w (PutEnds w e o xs (Lib.beBytes 8 (u64 x))) := by
  have hP := putBE64 e o xs (u64 x) (u64_lt x) w h hl
  clear h
  have hu : ((u64 x : Nat) : Int) = x % 18446744073709551616 := by unfold u64; omega
  rw [hu] at hP
  have HU := Lib.hid hu
  clear hu
  go_enter Tryz.func182, Tryz.ntmps182
  go_wp2_with (go_at_call 181; refine hP.mono ?_; rintro r w1 ⟨rfl, R⟩)
  go_end0
  exact ⟨rfl, R⟩

theorem put_more (e : Nat) (o : Option Nat) {w w1 : World} {xs ys zs : List UInt8} (h : Put w e o xs ys w1) {f : FuncId} {args : Array Value}
    (hc : ∀ o1, Enc w1 e o1 (xs ++ ys) → Calls Tryz.prog f args w1 (PutEnds w1 e o1 (xs ++ ys) zs)) : Calls Tryz.prog f args w1 fun r w2 => r = .returned (.tuple #[]) ∧ Put w e o xs (ys ++ zs) w2 := by
  obtain ⟨o1, he, hf, ho⟩ := h
  exact (hc o1 he).mono fun r w2 ⟨hr, h2⟩ => ⟨hr, Put.step he hf ho h2⟩

set_option maxHeartbeats 400000 in
theorem putUvarintStr (e : Nat) (o : Option Nat) (xs : List UInt8) (s : ByteArray) (w : World) (h : Enc w e o xs) (hl : xs.length ≤ 549755813888) (hsz : s.size ≤ 549755813888) :
    Calls Tryz.prog 187 #[.pointer (some ⟨e, 0, none⟩), .string s] w (PutEnds w e o xs (Lib.uvarint s.size ++ s.data.toList)) := by
  have hP := putUvarint e o xs s.size (by omega) w h (by omega)
  clear h
  have hlen : (Lib.uvarint s.size).length ≤ 10 := Lib.uvarint_length64 (by omega)
  generalize Lib.uvarint s.size = ys at hP hlen ⊢
  go_enter Tryz.func187, Tryz.ntmps187
  go_wp2_with (go_at_call 186; refine hP.mono ?_; rintro r w1 ⟨rfl, R⟩; refine Hid.out ?_)
  clear hP
  have hQ := put_more e o R (f := 242) (args := #[.pointer (some ⟨e, 0, none⟩), .string s]) (zs := s.data.toList) (fun o1 he => putString e o1 _ s w1 he (by rw [List.length_append]; omega) (by omega))
  clear R
  refine Lib.hid ?_
  go_wp2_with (go_at_call 242; refine hQ.mono ?_; rintro r w2 ⟨rfl, R⟩)
  go_end0
  exact ⟨rfl, R⟩

set_option maxHeartbeats 400000 in
theorem encGet (e : Nat) (o : Option Nat) (xs : List UInt8) (w : World) (h : Enc w e o xs) :
    Calls Tryz.prog 116 #[.pointer (some ⟨e, 0, none⟩)] w fun r w' => ∃ v, r = .returned v ∧ w = w' ∧ w.ownsRow 0 5 1 v xs.length (bc xs) ∧ v.ownBlock = o := by
  obtain ⟨v, cs, hb, hs, h0, hown, rfl⟩ := h
  have hc : w.cell? ⟨e, 0, none⟩ = some v := (hb.cell 0).trans h0
  obtain ⟨a', n', k', rfl⟩ := own_slice hown
  have HO := Lib.hid hown
  clear hown h0
  go_enter Tryz.func116, Tryz.ntmps116
  go_wp2
  go_ret
  exact ⟨_, rfl, rfl, HO.out, rfl⟩

theorem run168 (b : Nat) (w : World) : (callFunc 168 #[.float .f64 b]).run Tryz.prog w = .ok (.value (.int .u64 b)) w :=
  run_callFunc_extern (e := Extern.MathFloatBits.float64bits) Tryz.func168 (by kernel_rfl) (by kernel_rfl) (by kernel_rfl) (by kernel_rfl) _ _
theorem run166 (b : Nat) (w : World) : (callFunc 166 #[.int .u64 b]).run Tryz.prog w = .ok (.value (.float .f64 b)) w :=
  run_callFunc_extern (e := Extern.MathFloatBits.float64frombits) Tryz.func166 (by kernel_rfl) (by kernel_rfl) (by kernel_rfl) (by kernel_rfl) _ _

set_option maxHeartbeats 400000 in
theorem putBEFloat64 (e : Nat) (o : Option Nat) (xs : List UInt8) (x : Nat) (hx : x < 18446744073709551616) (w : World) (h : Enc w e o xs) (hl : xs.length ≤ 1099511627776) :
    Calls Tryz.prog 244 #[.pointer (some ⟨e, 0, none⟩), .float .f64 x] w (PutEnds w e o xs (Lib.beBytes 8 x)) := by
  have hP := putBE64 e o xs x hx w h hl
  have hr := run168
  clear h
  go_enter Tryz.func244, Tryz.ntmps244
  go_wp2_with (go_at_call 181; refine hP.mono ?_; rintro r w1 ⟨rfl, R⟩)
  go_end0
  exact ⟨rfl, R⟩

end Go.Proofs.YtbkookiigkckdaaGreatDoor

/- Samples: slices that read as lists, impl.refSamples. -/
namespace Go.Proofs.YtbkookiigkckdaaGreatDoor
open Go.RowKit
set_option linter.unusedVariables false
set_option linter.unusedSimpArgs false

/-- A slice v of n elements of 'size' cells each, that reads as xs; its block is one of P. -/
def Sl (P : Nat → Prop) (w : World) (v : Value) (size n : Nat) (xs : List Value) : Prop :=
  ∃ A c, v = .slice A n c ∧ xs.length = n * size ∧ n ≤ c ∧ (0 < n → ∃ g off, A = some ⟨g, off, none⟩ ∧ P g ∧ ∀ j u, xs[j]? = some u → w.cell? ⟨g, off + j, none⟩ = some u)

theorem Sl.fr {P S : Nat → Prop} {w w' : World} {v : Value} {size n : Nat} {xs : List Value} (h : Sl P w v size n xs) (hf : Fr S w w') (hs : ∀ g, P g → ¬ S g) : Sl P w' v size n xs := by
  obtain ⟨A, c, hv, hl, hc, hr⟩ := h
  refine ⟨A, c, hv, hl, hc, fun hn => ?_⟩
  obtain ⟨g, off, hA, hP, hcell⟩ := hr hn
  exact ⟨g, off, hA, hP, fun j u hu => by
    have := hcell j u hu
    rw [hf.cell (p := ⟨g, off + j, none⟩) (World.block_lt_of_cell? w _ this) (hs g hP)]
    exact this⟩
theorem Sl.mono {P Q : Nat → Prop} {w : World} {v : Value} {size n : Nat} {xs : List Value} (h : Sl P w v size n xs) (hs : ∀ g, P g → Q g) : Sl Q w v size n xs := by
  obtain ⟨A, c, hv, hl, hc, hr⟩ := h
  exact ⟨A, c, hv, hl, hc, fun hn => let ⟨g, off, hA, hP, hcell⟩ := hr hn; ⟨g, off, hA, hs g hP, hcell⟩⟩
theorem Sl.ofOwn {w : World} {base : Nat} {e : TypeId} {size n : Nat} {v : Value} {xs : List Value} (h : w.ownsRow base e size v n xs) : Sl (fun g => v.ownBlock = some g) w v size n xs := by
  have hl := h.1
  rcases h.2 with ⟨rfl, rfl⟩ | ⟨g, cap, cur, rfl, _, hg, hc, _⟩
  · exact ⟨_, _, rfl, hl, Nat.le_refl _, fun h => absurd h (by omega)⟩
  · refine ⟨_, _, rfl, hl, hc, fun _ => ⟨g, 0, rfl, rfl, fun j u hu => ?_⟩⟩
    have := h.cells (g := g) rfl j u hu
    have e1 : (⟨g, 0, none⟩ : Addr).add j = ⟨g, 0 + j, none⟩ := by unfold Addr.add; split <;> simp_all
    rwa [e1] at this

/-- A sample: its reference, its time, its value's bits. -/
structure Smp where
  ref : Nat
  t : Int
  v : Nat
def Smp.wf (s : Smp) : Prop := s.ref < 18446744073709551616 ∧ -9223372036854775808 ≤ s.t ∧ s.t ≤ 9223372036854775807 ∧ s.v < 18446744073709551616
/-- Its cells in impl's form and in the package's. -/
def Smp.a (s : Smp) : List Value := [.int .u64 s.ref, .int .i64 s.t, .int .u64 s.v]
def Smp.b (s : Smp) : List Value := [.int .u64 s.ref, .int .i64 s.t, .float .f64 s.v]

theorem Tryz.info137 : (Tryz.prog.info? 137).map (fun i => (i.zero, i.size, i.bytes)) = some (some (.agg #[.int .u64 0, .int .i64 0, .float .f64 0]), 3, 24) := by kernel_rfl

set_option maxHeartbeats 400000 in
theorem float_any (b : Nat) (w : World) : Calls Tryz.prog 167 #[.int .u64 b] w fun r w' => r = .returned (.float .f64 b) ∧ w = w' := by
  have hr := run166
  go_enter Tryz.func167, Tryz.ntmps167
  go_wp2
  go_ret
  exact ⟨rfl, rfl⟩

theorem flat3 {α : Type} (f : α → List Value) (h3 : ∀ x, (f x).length = 3) : ∀ (l : List α) (k : Nat) (x : α), l[k]? = some x → ∀ j, j < 3 → (l.flatMap f)[k * 3 + j]? = (f x)[j]?
  | [], k, x, h, j, hj => by simp at h
  | y :: l, 0, x, h, j, hj => by
    simp at h; subst h
    rw [List.flatMap_cons, List.getElem?_append_left (by rw [h3]; omega)]
    simp
  | y :: l, k + 1, x, h, j, hj => by
    rw [List.flatMap_cons, List.getElem?_append_right (by rw [h3]; omega), h3, show (k + 1) * 3 + j - 3 = k * 3 + j by omega]
    exact flat3 f h3 l k x (by simpa using h) j hj

/-- One element, laid in a block of its own, as what is appended. -/
theorem src_blk {W : World} {g t tx e size : Nat} {cs : List Value} (hk : Tryz.prog.underlying tx = some (.slice e)) (hb : Blk W g t cs.toArray) (hl : cs.length = size) (h1 : ∀ u ∈ cs, u.oneCell' = true) : Src Tryz.prog size tx (.slice (some ⟨g, 0, none⟩) 1 1) 1 cs W :=
  Src.ofSlice (e' := e) _ hk _ 1 1 _ (by omega) (fun j u hj => by
    have e1 : (⟨g, 0, none⟩ : Addr).add j = ⟨g, j, none⟩ := by unfold Addr.add; split <;> simp_all
    rw [e1, hb.cell]
    simpa using hj) h1
theorem blk_new2 (w : World) (o : Obj) (t : Nat) (cs : Array Value) : Blk ((w.alloc o).alloc (.cells cs t)) (w.heap.size + 1) t cs := by
  have := Blk.new (w.alloc o) t cs
  simpa using this

theorem flatMap_take_succ {α : Type} (f : α → List Value) (l : List α) (k : Nat) (x : α) (h : l[k]? = some x) : (l.take (k + 1)).flatMap f = (l.take k).flatMap f ++ f x := by
  rw [List.take_add_one, h]; simp

def RefSamplesEnds (w : World) (l : List Smp) (r : Ending) (w' : World) : Prop :=
  ∃ v, r = .returned v ∧ w'.ownsRow w.heap.size 137 3 v l.length (l.flatMap Smp.b) ∧ Fr (fun _ => False) w w'

set_option maxHeartbeats 1000000 in
set_option maxRecDepth 100000 in
theorem refSamples_any (P : Nat → Prop) (v : Value) (l : List Smp) (w : World) (h : Sl P w v 3 l.length (l.flatMap Smp.a)) (hl : l.length ≤ 1099511627776) :
    Calls Tryz.prog 72 #[v] w (RefSamplesEnds w l) := by
  obtain ⟨A, c, rfl, hlen, hnc, hr⟩ := h
  obtain ⟨n, hn⟩ : ∃ n, l.length = n := ⟨_, rfl⟩
  rw [hn] at hr hnc hl ⊢
  have HN := Lib.hid hn
  have HR := Lib.hid hr
  obtain ⟨i0, hi0, hz0, hz1, hz2⟩ := info_parts Tryz.info137
  clear hn hr hlen
  go_enter Tryz.func72, Tryz.ntmps72
  go_wp2
  go_loopw [2, 7] (fun v i wr => ∃ k : Nat, k ≤ n ∧ i = .int .i64 k ∧ wr.ownsRow w.heap.size 137 3 v k ((l.take k).flatMap Smp.b) ∧ Fr (fun _ => False) w wr) (fun _ i _ => n - (intOf i).toNat)
  case atStart => exact ⟨0, Nat.zero_le _, rfl, World.ownsRow_nil _ _ _ _, Fr.refl _ _⟩
  case round =>
    obtain ⟨k, hk, rfl, hown, hf⟩ := hrel
    by_cases hlt : k < n
    · obtain ⟨g, off, rfl, _, hcell⟩ := HR.out (by omega)
      obtain ⟨x, hx⟩ : ∃ x, l[k]? = some x := ⟨_, List.getElem?_eq_getElem (by rw [HN.out]; exact hlt)⟩
      have cc : ∀ j, j < 3 → ∀ u, (Smp.a x)[j]? = some u → wr.cell? ⟨g, off + (k * 3 + j), none⟩ = some u := fun j hj u hu => by
        have := hcell (k * 3 + j) u (by rw [flat3 Smp.a (fun _ => rfl) l k x hx j hj]; exact hu)
        rw [hf.cell (p := ⟨g, off + (k * 3 + j), none⟩) (World.block_lt_of_cell? w _ this) (fun e => e)]
        exact this
      have c0 : wr.cell? ⟨g, off + k * 3, none⟩ = some (.int .u64 x.ref) := cc 0 (by omega) _ rfl
      have c1 : wr.cell? ⟨g, off + k * 3 + 1, none⟩ = some (.int .i64 x.t) := cc 1 (by omega) _ rfl
      have c2 : wr.cell? ⟨g, off + k * 3 + 2, none⟩ = some (.int .u64 x.v) := cc 2 (by omega) _ rfl
      have HC := Lib.hid hcell
      have HO := Lib.hid hown
      have HX := Lib.hid hx
      obtain ⟨a', n', k', rfl⟩ := own_slice hown
      clear hcell cc hown hx
      go_wp2_with fail
      have s0 : (wr.alloc (Obj.cells #[Value.int IntKind.u64 ↑x.ref, Value.int IntKind.i64 x.t, Value.int IntKind.u64 ↑x.v] 113)).cell? ⟨wr.heap.size, 0, none⟩ = some (.int .u64 x.ref) := by simp
      have s1 : (wr.alloc (Obj.cells #[Value.int IntKind.u64 ↑x.ref, Value.int IntKind.i64 x.t, Value.int IntKind.u64 ↑x.v] 113)).cell? ⟨wr.heap.size, 1, none⟩ = some (.int .i64 x.t) := by simp
      have s2 : (wr.alloc (Obj.cells #[Value.int IntKind.u64 ↑x.ref, Value.int IntKind.i64 x.t, Value.int IntKind.u64 ↑x.v] 113)).cell? ⟨wr.heap.size, 2, none⟩ = some (.int .u64 x.v) := by simp
      have hsz := hf.size
      have hne : some wr.heap.size ≠ (Value.slice a' n' k').ownBlock := fun e => by have := own_lt HO.out e.symm; omega
      go_region_held3 (fun w' => w'.cell? ⟨wr.heap.size, 0, none⟩ = some (.int .u64 x.ref) ∧ w'.cell? ⟨wr.heap.size, 1, none⟩ = some (.int .i64 x.t) ∧ w'.cell? ⟨wr.heap.size, 2, none⟩ = some (.int .u64 x.v)) ((first | (go_split_ands; refine ⟨?_, ?_, ?_⟩ <;> (rw [World.grownBy.cell_far hgrow _ (by simp; omega) hne]; assumption)) | go_keep))
        ((first
          | (go_at_call 167; refine (float_any _ _).mono ?_; rintro r w' ⟨rfl, rfl⟩)
          | (refine step_append_src _ (by rfl) _ _ 131 131 (by rfl) w.heap.size 137 i0 _ 3 24 Tryz.underlying131 hi0 hz0 hz1 hz2 rfl (by decide) (.slice a' n' k') k ((l.take k).flatMap Smp.b) (by rfl) ((HO.out.alloc _).alloc _).drew _ 1 (Smp.b x) (by rfl) (src_blk Tryz.underlying131 (blk_new2 wr _ 137 (Smp.b x).toArray).drew rfl (by simp [Smp.b, Value.oneCell'])) (by unfold maxLen; omega) (by omega) (by simp; omega) ?_; intro v' w2 hown' hgrow hat)))
      have hown2 : w2.ownsRow w.heap.size 137 3 v' (k + 1) ((l.take (k + 1)).flatMap Smp.b) := by rw [flatMap_take_succ Smp.b l k x HX.out]; exact hown'
      have hf2 : Fr (fun _ => False) w w2 := (((hf.alloc _).alloc _).drew).grown hgrow (fun g hg => .inr (((HO.out.lt g hg)).1))
      have HO2 := Lib.hid hown2
      have HF2 := Lib.hid hf2
      clear hown' hgrow hown2 hf2 hf c0 c1 c2 s0 s1 s2 hat hne hsz
      go_wp2
      go_roundw
      case rel => exact ⟨k + 1, by omega, by go_num, HO2.out, HF2.out⟩
      case measure => simp [intOf]; omega
    · go_wp2
      go_ret
      obtain rfl : k = n := by omega
      refine ⟨_, rfl, ?_, hf⟩
      rw [← HN.out] at hown ⊢
      rw [List.take_length] at hown
      exact hown

end Go.Proofs.YtbkookiigkckdaaGreatDoor

/- Samples: the encoder. -/
namespace Go.Proofs.YtbkookiigkckdaaGreatDoor
open Go.RowKit
set_option linter.unusedVariables false
set_option linter.unusedSimpArgs false

theorem run_store_float (w : World) (a : Addr) (k : FloatKind) (b : Nat) (m : Mode) : (store a (.float k b) m).run Tryz.prog w = stored Tryz.prog w a (.float k b) m := run_store Tryz.prog w a _ m rfl

theorem Enc.alloc {w : World} {e : Nat} {o : Option Nat} {xs : List UInt8} (h : Enc w e o xs) (ob : Obj) : Enc (w.alloc ob) e o xs := by
  obtain ⟨v, cs, hb, hs, h0, hown, hv⟩ := h
  exact ⟨v, cs, hb.alloc ob, hs, h0, hown.alloc ob, hv⟩
theorem Enc.drew {w : World} {e : Nat} {o : Option Nat} {xs : List UInt8} (h : Enc w e o xs) : Enc w.drew e o xs := h
theorem Put.alloc {w w1 : World} {e : Nat} {o : Option Nat} {xs ys : List UInt8} (h : Put w e o xs ys w1) (ob : Obj) : Put w e o xs ys (w1.alloc ob) := by
  obtain ⟨o1, he, hf, ho⟩ := h
  exact ⟨o1, he.alloc ob, hf.alloc ob, ho⟩
/-- A fresh Encbuf over a row of bytes. -/
theorem Enc.made {w : World} {v : Value} {xs : List UInt8} {z : Value} (h : w.ownsRow 0 5 1 v xs.length (bc xs)) (ob : Obj) (hob : ob = .cells #[v, z, z, z, z, z, z, z, z, z, z] 224) : Enc (w.alloc ob) w.heap.size v.ownBlock xs := by
  subst hob
  exact ⟨v, _, Blk.new w 224 _, rfl, rfl, h.alloc _, rfl⟩

theorem wrap64_bd (x : Int) : -9223372036854775808 ≤ wrap64 x ∧ wrap64 x ≤ 9223372036854775807 := by unfold wrap64; omega

def dRef (f s : Smp) : Int := wrap64 (wrap64 s.ref - wrap64 f.ref)
def dT (f s : Smp) : Int := wrap64 (s.t - f.t)
def encSmp (f s : Smp) : List UInt8 := Lib.uvarint (Lib.zigzag (dRef f s)) ++ (Lib.uvarint (Lib.zigzag (dT f s)) ++ Lib.beBytes 8 s.v)
def encHdr (f : Smp) : List UInt8 := Lib.beBytes 8 f.ref ++ Lib.beBytes 8 (u64 f.t)
def encSamples : List Smp → List UInt8
  | [] => [2]
  | f :: r => [2] ++ (encHdr f ++ (f :: r).flatMap (encSmp f))

theorem zz_len (x : Int) (h0 : -9223372036854775808 ≤ x) (h1 : x ≤ 9223372036854775807) : (Lib.uvarint (Lib.zigzag x)).length ≤ 10 := Lib.uvarint_length64 (by unfold Lib.zigzag; split <;> omega)
theorem encSmp_len (f s : Smp) : (encSmp f s).length ≤ 28 := by
  have h1 := zz_len (dRef f s) (wrap64_bd _).1 (wrap64_bd _).2
  have h2 := zz_len (dT f s) (wrap64_bd _).1 (wrap64_bd _).2
  simp only [encSmp, List.length_append, Lib.beBytes_length]
  omega
theorem flatMap_len {α : Type} (f : α → List UInt8) (m : Nat) (hf : ∀ x, (f x).length ≤ m) : ∀ l : List α, (l.flatMap f).length ≤ l.length * m
  | [] => by simp
  | x :: l => by
    have h1 := flatMap_len f m hf l
    have h2 := hf x
    rw [List.flatMap_cons, List.length_append, List.length_cons, Nat.add_mul]
    omega
theorem flatMap_take_succ' {α β : Type} (f : α → List β) (l : List α) (k : Nat) (x : α) (h : l[k]? = some x) : (l.take (k + 1)).flatMap f = (l.take k).flatMap f ++ f x := by
  rw [List.take_add_one, h]; simp

def EncodeEnds (w : World) (o : Option Nat) (ys : List UInt8) (r : Ending) (w' : World) : Prop :=
  ∃ v', r = .returned v' ∧ w'.ownsRow 0 5 1 v' ys.length (bc ys) ∧ Fr (fun k => some k = o) w w' ∧ (v'.ownBlock = o ∨ ∃ k, v'.ownBlock = some k ∧ w.heap.size ≤ k)

theorem Enc.apart {w : World} {e : Nat} {o : Option Nat} {xs : List UInt8} (h : Enc w e o xs) {g t : Nat} {cs : Array Value} (hb : Blk w g t cs) (h1 : t ≠ 224) (h2 : t ≠ 5) : ¬ (g = e ∨ some g = o) := by
  obtain ⟨v, cs', hb', _, _, hown, rfl⟩ := h
  rintro (rfl | h)
  · exact Blk.ne_ hb hb' h1 rfl
  · exact own_ne hown hb (Ne.symm h2) h.symm
theorem Put.blk {w w' : World} {e : Nat} {o : Option Nat} {xs ys : List UInt8} (h : Put w e o xs ys w') (he : Enc w e o xs) {g t : Nat} {cs : Array Value} (hb : Blk w g t cs) (h1 : t ≠ 224) (h2 : t ≠ 5) : Blk w' g t cs := by
  obtain ⟨_, _, hf, _⟩ := h
  exact hb.fr hf (he.apart hb h1 h2)
theorem Put.fr {w w' : World} {e : Nat} {o : Option Nat} {xs ys : List UInt8} (h : Put w e o xs ys w') : Fr (fun k => k = e ∨ some k = o) w w' := let ⟨_, _, hf, _⟩ := h; hf

/-- Every block that is no Encbuf and no row of bytes stands. -/
def Keeps (w w' : World) : Prop := ∀ g t cs, t ≠ 224 → t ≠ 5 → Blk w g t cs → Blk w' g t cs
theorem Put.keeps {w w' : World} {e : Nat} {o : Option Nat} {xs ys : List UInt8} (h : Put w e o xs ys w') (he : Enc w e o xs) : Keeps w w' := fun g t cs h1 h2 hb => h.blk he hb h1 h2
theorem put_more2 {e : Nat} {o : Option Nat} {w w1 : World} {xs ys zs : List UInt8} (h : Put w e o xs ys w1) {f : FuncId} {args : Array Value}
    (hc : ∀ o1, Enc w1 e o1 (xs ++ ys) → Calls Tryz.prog f args w1 (PutEnds w1 e o1 (xs ++ ys) zs)) : Calls Tryz.prog f args w1 fun r w2 => r = .returned (.tuple #[]) ∧ Put w e o xs (ys ++ zs) w2 ∧ Hid (Keeps w1 w2) := by
  obtain ⟨o1, he, hf, ho⟩ := h
  exact (hc o1 he).mono fun r w2 ⟨hr, h2⟩ => ⟨hr, Put.step he hf ho h2, h2.keeps he⟩

/-- What a fresh Encbuf in a new block tells of the world ahead of it. -/
theorem made_end {w w1 : World} {ob : Obj} {o o1 : Option Nat} (hf : Fr (fun k => k = w.heap.size ∨ some k = o) (w.alloc ob) w1) : Fr (fun k => some k = o) w w1 :=
  ((Fr.refl (fun k => some k = o) w).alloc ob).trans hf (fun k hk h => by rcases h with rfl | h; omega; exact h)

set_option maxRecDepth 100000 in
theorem encSamples_nil (ep : Value) (sv : Value) (P : Nat → Prop) (v : Value) (xs : List UInt8) (w : World) (h : Sl P w sv 3 0 []) (hown : w.ownsRow 0 5 1 v xs.length (bc xs)) (hl : xs.length ≤ 1073741824) :
    Calls Tryz.prog 92 #[ep, sv, v] w (EncodeEnds w v.ownBlock (xs ++ [2])) := by
  obtain ⟨A, c, rfl, hlen, hnc, hr⟩ := h
  obtain ⟨a', n', k', rfl⟩ := own_slice hown
  have hE := Enc.made (z := .int .u8 0) hown _ rfl
  have hP := putByte w.heap.size _ xs 2 _ hE (by omega)
  have e2 : ((2 : UInt8).toNat : Int) = 2 := rfl
  rw [e2] at hP
  clear hE hr e2
  go_enter Tryz.func92, Tryz.ntmps92
  go_wp2_with (first | (go_at_call 180; refine hP.mono ?_; rintro r w1 ⟨rfl, R⟩; obtain ⟨o1, hE1, hf1, ho1⟩ := R; have hG := encGet _ _ _ _ hE1) | (go_at_call 116; refine hG.mono ?_; rintro r w2 ⟨v2, rfl, rfl, hown2, hv2⟩))
  go_ret
  refine ⟨v2, rfl, hown2, made_end (o1 := o1) hf1, ?_⟩
  rw [hv2]
  rcases ho1 with h | ⟨k, h, hk⟩
  · exact .inl h
  · exact .inr ⟨k, h, by simp at hk; omega⟩

set_option maxRecDepth 100000 in
set_option maxHeartbeats 2000000 in
theorem encSamples_cons (ep : Value) (sv : Value) (P : Nat → Prop) (v : Value) (xs : List UInt8) (f : Smp) (r : List Smp) (w : World) (h : Sl P w sv 3 (r.length + 1) ((f :: r).flatMap Smp.b)) (hown : w.ownsRow 0 5 1 v xs.length (bc xs)) (hl : xs.length ≤ 1073741824)
    (hsl : r.length ≤ 1073741824) (hwf : ∀ s ∈ f :: r, s.wf) (hP : ∀ g, P g → g < w.heap.size ∧ some g ≠ v.ownBlock) :
    Calls Tryz.prog 92 #[ep, sv, v] w (EncodeEnds w v.ownBlock (xs ++ encSamples (f :: r))) := by
  have HS := Lib.hid h
  obtain ⟨A, c, rfl, hlen, hnc, hr⟩ := h
  obtain ⟨a', n', k', rfl⟩ := own_slice hown
  obtain ⟨n, hn⟩ : ∃ n, r.length + 1 = n := ⟨_, rfl⟩
  rw [hn] at HS hnc hr ⊢
  obtain ⟨g, off, rfl, hPg, hcell⟩ := hr (by omega)
  have hE := Enc.made (z := .int .u8 0) hown _ rfl
  have hQ := putByte w.heap.size _ xs 2 _ hE (by omega)
  have e2 : ((2 : UInt8).toNat : Int) = 2 := rfl
  rw [e2] at hQ
  have HN := Lib.hid hn
  have c0 : w.cell? ⟨g, off, none⟩ = some (.int .u64 f.ref) := by simpa using hcell 0 _ rfl
  have c1 : w.cell? ⟨g, off + 1, none⟩ = some (.int .i64 f.t) := hcell 1 _ rfl
  have c2 : w.cell? ⟨g, off + 2, none⟩ = some (.float .f64 f.v) := hcell 2 _ rfl
  have hg := hP g hPg
  have hn0 : ((n : Int) == 0) = false := by simp; omega
  have hn1 : (0 : Int) < (n : Int) := by omega
  have HCELL := Lib.hid hcell
  have hsf := run_store_float
  clear hE hr e2 hn hlen hcell
  go_enter Tryz.func92, Tryz.ntmps92
  go_wp2_with (go_at_call 180; refine hQ.mono ?_; rintro r1 w1 ⟨rfl, R⟩; refine Hid.out ?_)
  obtain ⟨o1, hE1, hf1, ho1⟩ := R
  have hF1 := made_end (o1 := o1) hf1
  have hlt1 := hf1.size
  simp at hlt1
  have hk1 : ∀ j u, w.cell? ⟨g, off + j, none⟩ = some u → w1.cell? ⟨g, off + j, none⟩ = some u := fun j u hu => by
    rw [hF1.cell (p := ⟨g, off + j, none⟩) hg.1 hg.2]; exact hu
  have d0 : w1.cell? ⟨g, off, none⟩ = some (.int .u64 f.ref) := hk1 0 _ c0
  have d1 := hk1 1 _ c1
  have d2 := hk1 2 _ c2
  have hB1 := Blk.new w1 137 #[.int .u64 f.ref, .int .i64 f.t, .float .f64 f.v]
  have hE1' := hE1.alloc (.cells #[.int .u64 f.ref, .int .i64 f.t, .float .f64 f.v] 137)
  have hQ2 := putBE64 w.heap.size o1 (xs ++ [2]) f.ref (hwf f (by simp)).1 _ hE1' (by simp; omega)
  have HE := Lib.hid hE1'
  have HB := Lib.hid hB1
  have HF1 := Lib.hid hF1
  have HO1 := Lib.hid ho1
  clear hQ hf1 hF1 hk1 c0 c1 c2 ho1 hB1 hE1 hE1'
  refine Lib.hid ?_
  go_wp2_with (go_at_call 181; refine hQ2.mono ?_; rintro r2 w2 ⟨rfl, R2⟩; refine Hid.out ?_)
  have hB2 := R2.blk HE.out HB.out (by decide) (by decide)
  have b0 := hB2.cell 0
  have b1 := hB2.cell 1
  have b2 := hB2.cell 2
  simp at b0 b1 b2
  have hQ3 := put_more w.heap.size o1 R2 (f := 182) (args := #[.pointer (some ⟨w.heap.size, 0, none⟩), .int .i64 f.t]) (zs := Lib.beBytes 8 (u64 f.t)) (fun o2 he => putBE64int64 _ o2 _ f.t w2 he (by simp [Lib.beBytes_length]; omega))
  have hs2 := R2.fr.size
  clear hQ2 d0 d1 d2
  refine Lib.hid ?_
  go_wp2_with (go_at_call 182; refine hQ3.mono ?_; rintro r3 w3 ⟨rfl, R3⟩; refine Hid.out ?_)
  have hB3 := R3.blk HE.out HB.out (by decide) (by decide)
  have b0' := hB3.cell 0
  have b1' := hB3.cell 1
  simp at b0' b1'
  clear hQ3 b0 b1 b2 hB2 R2
  refine Lib.hid ?_
  go_wp2_with fail
  have hFW : Fr (fun k => some k = (Value.slice a' n' k').ownBlock) w (w1.alloc (.cells #[.int .u64 f.ref, .int .i64 f.t, .float .f64 f.v] 137)) := HF1.out.alloc _
  clear hB3 b0' b1' HF1
  generalize hWB : w1.alloc (.cells #[.int .u64 f.ref, .int .i64 f.t, .float .f64 f.v] 137) = WB at R3 HE HB hFW
  clear hWB
  generalize hf8 : w1.heap.size = f8 at HB hlt1
  have hO1 : ∀ k, k < w.heap.size → (k = w.heap.size ∨ some k = o1) → some k = (Value.slice a' n' k').ownBlock := by
    rintro k hk (rfl | h)
    · omega
    · rcases HO1.out with h1 | ⟨k2, h1, h2⟩
      · rw [h, h1]
      · rw [h1] at h; injection h with h; simp at h2; omega
  have HFW := Lib.hid hFW
  have HO := Lib.hid hO1
  clear hFW hO1 hf8
  go_loopw [29] (fun i wr => ∃ k : Nat, k ≤ n ∧ i = .int .i64 k ∧ Put WB w.heap.size o1 (xs ++ [2]) (encHdr f ++ ((f :: r).take k).flatMap (encSmp f)) wr) (fun i _ => n - (intOf i).toNat)
  case atStart => exact ⟨0, Nat.zero_le _, rfl, by simpa [encHdr] using R3⟩
  case round =>
    obtain ⟨k, hk, rfl, R⟩ := hrel
    by_cases hlt : k < n
    · obtain ⟨x, hx⟩ : ∃ x, (f :: r)[k]? = some x := ⟨_, List.getElem?_eq_getElem (by rw [List.length_cons, HN.out]; exact hlt)⟩
      have hwx := hwf x (List.mem_of_getElem? hx)
      have hFk : Fr (fun k => some k = (Value.slice a' n' k').ownBlock) w wr := HFW.out.trans R.fr HO.out
      have cc : ∀ j, j < 3 → ∀ u, (Smp.b x)[j]? = some u → wr.cell? ⟨g, off + (k * 3 + j), none⟩ = some u := fun j hj u hu => by
        rw [hFk.cell (p := ⟨g, off + (k * 3 + j), none⟩) hg.1 hg.2]
        exact HCELL.out (k * 3 + j) u (by rw [flat3 Smp.b (fun _ => rfl) (f :: r) k x hx j hj]; exact hu)
      have d0 : wr.cell? ⟨g, off + k * 3, none⟩ = some (.int .u64 x.ref) := cc 0 (by omega) _ rfl
      have d1 : wr.cell? ⟨g, off + k * 3 + 1, none⟩ = some (.int .i64 x.t) := cc 1 (by omega) _ rfl
      have d2 : wr.cell? ⟨g, off + k * 3 + 2, none⟩ = some (.float .f64 x.v) := cc 2 (by omega) _ rfl
      have hBk := R.blk HE.out HB.out (by decide) (by decide)
      have b0 := hBk.cell 0
      have b1 := hBk.cell 1
      simp at b0 b1
      have f8lt := hBk.lt
      have hyl : (encHdr f ++ ((f :: r).take k).flatMap (encSmp f)).length ≤ 16 + k * 28 := by
        have h1 := flatMap_len (encSmp f) 28 (encSmp_len f) ((f :: r).take k)
        have h2 : ((f :: r).take k).length ≤ k := List.length_take_le _ _
        have h3 : ((f :: r).take k).length * 28 ≤ k * 28 := Nat.mul_le_mul_right _ h2
        have h4 : (encHdr f).length = 16 := by simp [encHdr, Lib.beBytes_length]
        rw [List.length_append, h4]; omega
      have hn1 : n ≤ 1073741825 := by have := HN.out; omega
      have hxl : (xs ++ [(2 : UInt8)]).length = xs.length + 1 := by simp
      have RA := R.alloc (.cells #[.int .u64 x.ref, .int .i64 x.t, .float .f64 x.v] 137)
      have hQ1 := put_more2 RA (f := 183) (args := #[.pointer (some ⟨w.heap.size, 0, none⟩), .int .i64 (dRef f x)]) (zs := Lib.uvarint (Lib.zigzag (dRef f x))) (fun o2 he => putVarint64 _ o2 _ _ (wrap64_bd _).1 (wrap64_bd _).2 _ he (by rw [List.length_append, hxl]; omega))
      have hBx := Blk.new wr 137 #[.int .u64 x.ref, .int .i64 x.t, .float .f64 x.v]
      have HX := Lib.hid hx
      have HBX := Lib.hid hBx
      have HL := Lib.hid hyl
      have HXL := Lib.hid hxl
      have hl1 := zz_len (dRef f x) (wrap64_bd _).1 (wrap64_bd _).2
      have hl2 := zz_len (dT f x) (wrap64_bd _).1 (wrap64_bd _).2
      unfold dRef at hQ1
      clear hx hFk cc hBk hBx hyl hxl R3 HS
      go_wp2_with (go_at_call 183; refine hQ1.mono ?_; rintro rA wA ⟨rfl, RB, KB⟩; refine Hid.out ?_)
      have hBx := KB.out _ _ _ (by decide) (by decide) HBX.out
      have hBf := RB.blk HE.out HB.out (by decide) (by decide)
      have x0 := hBx.cell 0
      have x1 := hBx.cell 1
      have x2 := hBx.cell 2
      have y0 := hBf.cell 0
      have y1 := hBf.cell 1
      simp at x0 x1 x2 y0 y1
      have HBY := Lib.hid hBx
      have hQ2 := put_more2 RB (f := 183) (args := #[.pointer (some ⟨w.heap.size, 0, none⟩), .int .i64 (dT f x)]) (zs := Lib.uvarint (Lib.zigzag (dT f x))) (fun o2 he => putVarint64 _ o2 _ _ (wrap64_bd _).1 (wrap64_bd _).2 _ he (by have h1 := hl1; unfold dRef at h1; have := HL.out; rw [List.length_append, HXL.out, List.length_append]; omega))
      unfold dT at hQ2
      clear hQ1 d0 d1 d2 b0 b1 hBx hBf
      refine Lib.hid ?_
      go_wp2_with (go_at_call 183; refine hQ2.mono ?_; rintro rC wC ⟨rfl, RC, KC⟩; refine Hid.out ?_)
      have hBx := KC.out _ _ _ (by decide) (by decide) HBY.out
      have z2 := hBx.cell 2
      simp at z2
      have hr8 := run168
      have hQ3 := put_more2 RC (f := 181) (args := #[.pointer (some ⟨w.heap.size, 0, none⟩), .int .u64 x.v]) (zs := Lib.beBytes 8 x.v) (fun o2 he => putBE64 _ o2 _ _ hwx.2.2.2 _ he (by have h1 := hl1; unfold dRef at h1; have h2 := hl2; unfold dT at h2; have := HL.out; rw [List.length_append, HXL.out, List.length_append, List.length_append]; omega))
      clear hQ2 x0 x1 x2 y0 y1 hBx
      refine Lib.hid ?_
      go_wp2_with (go_at_call 181; refine hQ3.mono ?_; rintro rD wD ⟨rfl, RD, KD⟩)
      have RE : Put WB w.heap.size o1 (xs ++ [2]) (encHdr f ++ ((f :: r).take (k + 1)).flatMap (encSmp f)) wD := by
        rw [flatMap_take_succ' (encSmp f) (f :: r) k x HX.out]
        simpa [encSmp, dRef, dT, List.append_assoc] using RD
      have HRE := Lib.hid RE
      clear RE RD RC RB hQ3 z2 KB KC KD R
      go_wp2
      go_roundw
      case rel => exact ⟨k + 1, by omega, by go_num, HRE.out⟩
      case measure => simp [intOf]; omega
    · obtain rfl : k = n := by omega
      obtain ⟨oZ, hEZ, hfZ, hoZ⟩ := R
      have hG := encGet _ _ _ _ hEZ
      have HEZ := Lib.hid hEZ
      have HZ := Lib.hid hfZ
      clear hEZ hfZ R3 HS
      go_wp2_with (go_at_call 116; refine hG.mono ?_; rintro rr w2 ⟨v2, rfl, rfl, hown2, hv2⟩)
      go_ret
      refine ⟨v2, rfl, ?_, HFW.out.trans HZ.out HO.out, ?_⟩
      · have e1 : (f :: r).take k = f :: r := List.take_of_length_le (by rw [List.length_cons, HN.out]; exact Nat.le_refl _)
        rw [e1] at hown2
        simpa [encSamples, List.append_assoc] using hown2
      · rw [hv2]
        have hws := HFW.out.size
        rcases hoZ with h | ⟨k2, h, hk2⟩
        · rw [h]
          rcases HO1.out with h1 | ⟨k2, h1, hk2⟩
          · exact .inl h1
          · exact .inr ⟨k2, h1, by simp at hk2; omega⟩
        · exact .inr ⟨k2, h, by omega⟩

end Go.Proofs.YtbkookiigkckdaaGreatDoor

/- impl.safe over a closure that returns, and over one that panics. -/
namespace Go.Proofs.YtbkookiigkckdaaGreatDoor
open Go.RowKit
set_option linter.unusedVariables false
set_option linter.unusedSimpArgs false

/-- The deferred closure of 'safe', behind a body that returned. -/
theorem safe_idle (p : Addr) (x : Value) (w : World) (hc : w.cell? p = some x) (hz : w.frozen? p = false) :
    CallsD Tryz.prog 159 #[.pointer (some p)] .returning w fun e u' w' => e = .returned (.tuple #[]) ∧ u' = .returning ∧ w' = w.setCell p (.bool true) := by
  refine callsD_of_wpS Tryz.func159 rfl fun c₀ cs hu => ?_
  apply wpS_region
  simp [wpOpsS, go_sem, recoverD, hu, Tryz.ntmps159, Exit.thenS, hc, hz]
  cases c₀
  simp_all [bodyPostS, results, Tryz.results159]

theorem safe_caught (p : Addr) (x : Value) (u : TypeId) (pv : Value) (older : List PanicEntry) (w : World) (hc : w.cell? p = some x) (hz : w.frozen? p = false) :
    CallsD Tryz.prog 159 #[.pointer (some p)] (.panicking ({ v := .iface u pv, recovered := false } :: older)) w fun e u' w' =>
      e = .returned (.tuple #[]) ∧ u' = .panicking ({ v := .iface u pv, recovered := true } :: older) ∧ w' = w.setCell p (.bool false) := by
  refine callsD_of_wpS Tryz.func159 rfl fun c₀ cs hu => ?_
  apply wpS_region
  simp [wpOpsS, go_sem, recoverD, hu, Tryz.ntmps159, Exit.thenS, hc, hz]
  cases c₀
  simp_all [bodyPostS, results, Tryz.results159]

/-- 'safe' over a closure that returns: it says true; two stores into its own variable besides. -/
theorem safe_ok (g : FuncId) (cb : Array Value) (w : World) (Q : World → Prop) (eg : ∀ args w, (callFunc g args).run Tryz.prog w = .ok (.enter g args) w)
    (hf : Calls Tryz.prog g cb (w.alloc (.cells #[.bool false] 4)) fun e w' => e = .returned (.tuple #[]) ∧ Q w' ∧ Blk w' w.heap.size 4 #[.bool false]) :
    Calls Tryz.prog 65 #[.func (.func g) #[] cb] w fun e w' => e = .returned (.bool true) ∧ ∃ w1, Q w1 ∧ Blk w1 w.heap.size 4 #[.bool false] ∧ w' = (w1.setCell ⟨w.heap.size, 0, none⟩ (.bool true)).setCell ⟨w.heap.size, 0, none⟩ (.bool true) := by
  have hmf : ∀ (fn : Fn) (first cap : Array Value) (w : World), (Instr.makeFunc fn first cap).run Tryz.prog w = .ok (.func fn first cap) w := fun _ _ _ _ => rfl
  go_enter_defers Tryz.func65, Tryz.ntmps65
  go_wp2_with (refine hf.mono ?_; rintro e w1 ⟨rfl, hq, hb⟩; have HB := Lib.hid hb; have HQ := Lib.hid hq; have hc1 := hb.cell 0; simp at hc1; have hz1 := hb.frozen 0; clear hb hq)
  refine leaves_cons (f := 159) (args := #[.pointer (some ⟨w.heap.size, 0, none⟩)]) (by simp) (by simp [go_sem]) ?_
  refine (safe_idle ⟨w.heap.size, 0, none⟩ (.bool true) _ ?_ ?_).mono ?_
  · simpa using ((HB.out.set_ 0 (.bool true)).cell 0)
  · exact (HB.out.set_ 0 (.bool true)).frozen 0
  rintro e u' w'' ⟨rfl, rfl, rfl⟩
  have hX := (((HB.out.set_ 0 (.bool true)).set_ 0 (.bool true)).cell 0)
  simp at hX
  simp [Leaves, settle, results, Tryz.results65, go_sem, hX]
  exact ⟨w1, HQ.out, HB.out, rfl⟩

/-- 'safe' over a closure that panics: it says false. -/
theorem safe_no (g : FuncId) (cb : Array Value) (w : World) (Q : World → Prop) (eg : ∀ args w, (callFunc g args).run Tryz.prog w = .ok (.enter g args) w)
    (hf : Calls Tryz.prog g cb (w.alloc (.cells #[.bool false] 4)) fun e w' => (∃ u pv, e = .panicked [{ v := .iface u pv, recovered := false }]) ∧ Q w' ∧ Blk w' w.heap.size 4 #[.bool false]) :
    Calls Tryz.prog 65 #[.func (.func g) #[] cb] w fun e w' => e = .returned (.bool false) ∧ ∃ w1, Q w1 ∧ Blk w1 w.heap.size 4 #[.bool false] ∧ w' = w1.setCell ⟨w.heap.size, 0, none⟩ (.bool false) := by
  have hmf : ∀ (fn : Fn) (first cap : Array Value) (w : World), (Instr.makeFunc fn first cap).run Tryz.prog w = .ok (.func fn first cap) w := fun _ _ _ _ => rfl
  go_enter_defers Tryz.func65, Tryz.ntmps65
  go_wp2_with (refine hf.mono ?_; rintro e w1 ⟨⟨u, pv, rfl⟩, hq, hb⟩; have HB := Lib.hid hb; have HQ := Lib.hid hq; have hc1 := hb.cell 0; simp at hc1; have hz1 := hb.frozen 0; clear hb hq)
  refine leaves_cons (f := 159) (args := #[.pointer (some ⟨w.heap.size, 0, none⟩)]) (by simp) (by simp [go_sem]) ?_
  refine (safe_caught ⟨w.heap.size, 0, none⟩ (.bool false) _ _ _ _ ?_ ?_).mono ?_
  · simpa using HB.out.cell 0
  · exact HB.out.frozen 0
  rintro e u' w'' ⟨rfl, rfl, rfl⟩
  have hX := ((HB.out.set_ 0 (.bool false)).cell 0)
  simp at hX
  simp [Leaves, settle, results, Tryz.results65, go_sem, hX]
  exact ⟨w1, HQ.out, HB.out, rfl⟩

end Go.Proofs.YtbkookiigkckdaaGreatDoor

namespace Go.Proofs.YtbkookiigkckdaaGreatDoor
open Go.RowKit
set_option linter.unusedVariables false
set_option linter.unusedSimpArgs false

theorem own_fr {S : Nat → Prop} {w w' : World} {base : Nat} {e : TypeId} {size n : Nat} {v : Value} {xs : List Value} (h : w.ownsRow base e size v n xs) (hf : Fr S w w') (hn : ∀ g, v.ownBlock = some g → ¬ S g) : w'.ownsRow base e size v n xs := by
  refine ⟨h.1, ?_⟩
  rcases h.2 with h0 | ⟨g, cap, cur, rfl, hb, hg, rest⟩
  · exact .inl h0
  · exact .inr ⟨g, cap, cur, rfl, hb, (hf.block g (Array.getElem?_eq_some_iff.1 hg).1 (hn g rfl)).trans hg, rest⟩
theorem own_mono {w : World} {base base' : Nat} {e : TypeId} {size n : Nat} {v : Value} {xs : List Value} (h : w.ownsRow base e size v n xs) (hb : base' ≤ base) : w.ownsRow base' e size v n xs :=
  ⟨h.1, h.2.imp id fun ⟨g, cap, cur, h1, h2, h3⟩ => ⟨g, cap, cur, h1, Nat.le_trans hb h2, h3⟩⟩

theorem Fr.put_ (w : World) (d i : Nat) (u : Value) : Fr (fun k => k = d) w (w.setCell ⟨d, i, none⟩ u) := Fr.setCell (S := fun k => k = d) (Fr.refl _ w) (p := ⟨d, i, none⟩) (.inl rfl) u

/-- What encoding a kind of parts does, whatever kind: the record's bytes lie in a row of the call's own or in that of 'before'. -/
def WroteEnds (w : World) (br : Nat) (o : Option Nat) (ys : List UInt8) (r : Ending) (w' : World) : Prop :=
  r = .returned (.tuple #[]) ∧ ∃ v', Blk w' br 44 #[v'] ∧ w'.ownsRow 0 5 1 v' ys.length (bc ys) ∧ Fr (fun k => some k = o ∨ k = br) w w' ∧ (v'.ownBlock = o ∨ ∃ k, v'.ownBlock = some k ∧ w.heap.size ≤ k)

theorem encSamples_any (ep : Value) (sv : Value) (P : Nat → Prop) (v : Value) (xs : List UInt8) (l : List Smp) (w : World) (h : Sl P w sv 3 l.length (l.flatMap Smp.b)) (hown : w.ownsRow 0 5 1 v xs.length (bc xs)) (hl : xs.length ≤ 1073741824)
    (hsl : l.length ≤ 1073741824) (hwf : ∀ s ∈ l, s.wf) (hP : ∀ g, P g → g < w.heap.size ∧ some g ≠ v.ownBlock) :
    Calls Tryz.prog 92 #[ep, sv, v] w (EncodeEnds w v.ownBlock (xs ++ encSamples l)) := by
  rcases l with _ | ⟨f, r⟩
  · exact encSamples_nil ep sv P v xs w h hown hl
  · exact encSamples_cons ep sv P v xs f r w h hown hl (by simp at hsl; omega) hwf hP

theorem write1_side {w0 w w1 : World} {v1 v : Value} {n m : Nat} {xs ys : List Value} {e size : Nat} (h1 : w1.ownsRow w.heap.size e size v1 n xs) (h : w0.ownsRow 0 5 1 v m ys) (hw : w0.heap.size ≤ w.heap.size) : ∀ g, v1.ownBlock = some g → g < w1.heap.size ∧ some g ≠ v.ownBlock := fun g hg =>
  ⟨own_lt h1 hg, fun e => by have h2 := own_lt h e.symm; have h3 := (h1.lt g hg).1; omega⟩
theorem write1_keeps {w w1 w2 : World} {bp bb br : Nat} {P B R : Array Value} {v : Value} {n : Nat} {xs : List Value} (hp : Blk w bp 54 P) (hb : Blk w bb 44 B) (hr : Blk w br 44 R) (hown : w.ownsRow 0 5 1 v n xs) (hf1 : Fr (fun _ => False) w.drew w1) (hf2 : Fr (fun k => some k = v.ownBlock) w1 w2) :
    Hid (Blk w2 bp 54 P) ∧ Hid (Blk w2 bb 44 B) ∧ Hid (Blk w2 br 44 R) :=
  ⟨(hp.drew.fr hf1 (fun e => e)).fr hf2 (fun e => own_ne hown hp (by decide) e.symm), (hb.drew.fr hf1 (fun e => e)).fr hf2 (fun e => own_ne hown hb (by decide) e.symm), (hr.drew.fr hf1 (fun e => e)).fr hf2 (fun e => own_ne hown hr (by decide) e.symm)⟩

set_option maxRecDepth 100000 in
set_option maxHeartbeats 2000000 in
theorem write1_samples (bk bp bb br : Nat) (ep lp : Value) (P : Nat → Prop) (s0 s1 s2 s3 s4 s5 s6 v z : Value) (xs : List UInt8) (l : List Smp) (w : World) (hk : Blk w bk 3 #[.int .i64 2]) (hp : Blk w bp 54 #[s0, s1, s2, s3, s4, s5, s6]) (hb : Blk w bb 44 #[v]) (hr : Blk w br 44 #[z])
    (hown : w.ownsRow 0 5 1 v xs.length (bc xs)) (hs : Sl P w s1 3 l.length (l.flatMap Smp.a)) (hl : xs.length ≤ 1073741824) (hsl : l.length ≤ 1073741824) (hwf : ∀ s ∈ l, s.wf) (hbr : bb ≠ br) :
    Calls Tryz.prog 90 #[.pointer (some ⟨bk, 0, none⟩), ep, .pointer (some ⟨bp, 0, none⟩), .pointer (some ⟨bb, 0, none⟩), .pointer (some ⟨br, 0, none⟩), lp] w (WroteEnds w br v.ownBlock (xs ++ encSamples l)) := by
  have hpr : bp ≠ br := Blk.ne_ hp hr (by decide)
  have k0 := hk.cell 0
  have p1 := hp.cell 1
  have b0 := hb.cell 0
  simp at k0 p1 b0
  obtain ⟨a', n', k', rfl⟩ := own_slice hown
  have hs1 : ∃ A m c, s1 = .slice A m c := let ⟨A, c, h, _⟩ := hs; ⟨A, _, c, h⟩
  obtain ⟨A, m, c, rfl⟩ := hs1
  have hQ := refSamples_any P (.slice A m c) l w.drew hs (by omega)
  have HB := Lib.hid hb
  have HP := Lib.hid hp
  have HR := Lib.hid hr
  have HO := Lib.hid hown
  have p1d : w.drew.cell? ⟨bp, 1, none⟩ = some (.slice A m c) := p1
  have b0d : w.drew.cell? ⟨bb, 0, none⟩ = some (.slice a' n' k') := b0
  clear hk hp hb hr hown hs
  go_enter Tryz.func90, Tryz.ntmps90
  go_wp2_with fail
  have HW := Lib.hid hwf
  clear hwf
  go_region_held3 (fun w' => w'.cell? ⟨bp, 1, none⟩ = some (.slice A m c) ∧ w'.cell? ⟨bb, 0, none⟩ = some (.slice a' n' k'))
    ((first | (go_split_ands; refine ⟨?_, ?_⟩ <;> first | exact ((HP.out.drew).fr hf1 (fun e => e)).cell 1 | exact ((HB.out.drew).fr hf1 (fun e => e)).cell 0) | (go_split_ands; refine ⟨?_, ?_⟩ <;> first | exact KP.out.cell 1 | exact KB.out.cell 0) | (go_split_ands; refine ⟨?_, ?_⟩ <;> first | exact (KP.out.far (p := ⟨br, 0, none⟩) hpr _).cell 1 | exact (KB.out.far (p := ⟨br, 0, none⟩) hbr _).cell 0) | go_keep))
    ((first
      | (go_at_call 72; refine hQ.mono ?_; rintro r1 w1 ⟨v1, rfl, hown1, hf1⟩)
      | (go_at_call 92; refine (encSamples_any ep v1 (fun g => v1.ownBlock = some g) (.slice a' n' k') xs l w1 (Sl.ofOwn hown1) (own_fr (World.ownsRow.drew HO.out) hf1 (fun _ _ e => e)) hl hsl HW.out (write1_side hown1 HO.out (Nat.le_refl _))).mono ?_; rintro r2 w2 ⟨v2, rfl, hown2, hf2, hat2⟩; obtain ⟨KP, KB, KR⟩ := write1_keeps HP.out HB.out HR.out HO.out hf1 hf2; have q0 := KR.out.cell 0; simp at q0; have q1 := KR.out.frozen 0; obtain ⟨a2, n2, k2, rfl⟩ := own_slice hown2)))
  have HE : Fr (fun k => some k = (Value.slice a' n' k').ownBlock ∨ k = br) w (w2.setCell ⟨br, 0, none⟩ (.slice a2 n2 k2)) :=
    ((((Fr.refl (fun k => some k = (Value.slice a' n' k').ownBlock ∨ k = br) w).drew).trans hf1 (fun _ _ e => e.elim)).trans hf2 (fun _ _ e => .inl e)).setCell (p := ⟨br, 0, none⟩) (.inl (.inr rfl)) _
  have HV : Blk (w2.setCell ⟨br, 0, none⟩ (.slice a2 n2 k2)) br 44 #[.slice a2 n2 k2] := by simpa using KR.out.set_ 0 (.slice a2 n2 k2)
  have HF := Lib.hid HE
  have HVV := Lib.hid HV
  have HOW : (w2.setCell ⟨br, 0, none⟩ (.slice a2 n2 k2)).ownsRow 0 5 1 (.slice a2 n2 k2) (xs ++ encSamples l).length (bc (xs ++ encSamples l)) := own_fr hown2 (Fr.put_ w2 br 0 _) (fun g hg e => own_ne hown2 KR.out (by decide) (by rw [hg, e]))
  have HOWW := Lib.hid HOW
  have hsz := hf1.size
  have HAT := Lib.hid hat2
  clear HE HV HOW hown1 hf1 hown2 hf2 hat2 q0 q1 hQ p1 p1d b0 b0d
  go_wp2
  go_end0
  refine ⟨rfl, _, HVV.out, HOWW.out, HF.out, ?_⟩
  rcases HAT.out with h | ⟨k, h, hk⟩
  · exact .inl h
  · exact .inr ⟨k, h, by simp at hsz; omega⟩

end Go.Proofs.YtbkookiigkckdaaGreatDoor

