/- Texts of this seat, merged and shortened. -/
import Derived.Shelf.Small.Utf8
import Derived.Shelf.Small.Bits
import Derived.Shelf.Small.Strs
import Derived.Shelf.Strconv.Itoa0
import Derived.Ground.MnProg
import Derived.Shelf.Bin.BEUint64
import Derived.Shelf.Bin.BEPutUint64
import Derived.Shelf.Bin.BEUint64Panics
import Derived.Shelf.Bin.PutUvarint
import Derived.Shelf.Bin.PutVarint
import Derived.Shelf.Bin.ReadersZ
import Derived.Shelf.Unicode.DecodeSlow
import Derived.Test.YtbkookiigkckdaaGreatDoorProg
import Derived.WalkKit
import Derived.BigQuiet
import Derived.Deep.QuietTactic
import Derived.WalkLawsBesides
import Derived.Deep.RegionHeld3
import Derived.Deep.RegionWith
import Derived.Deep.AppendSrc
import Derived.Deep.AppendLies
import Derived.Laws.OwnMore
import Derived.Laws.IdiomCopy
import Derived.Laws.Rows
import Derived.Laws.NewBlocks
import Derived.Lib.Hide
import Derived.Lib.ConvBytes
import Derived.LoopTactic
import Derived.Defers
import Derived.Recover
import Derived.Lib.VarintDec
set_option linter.unusedVariables false
set_option linter.unusedSimpArgs false
set_option maxRecDepth 100000
set_option maxHeartbeats 8000000
namespace Go.Proofs
theorem zme : type_of% @List.getElem_toArray := @List.getElem_toArray
theorem zmf : type_of% @List.getElem_cons_succ := @List.getElem_cons_succ
theorem zmg : type_of% @List.getElem_cons_zero := @List.getElem_cons_zero
theorem zmh : type_of% @Lib.hid := @Lib.hid
theorem zmi : type_of% @List.length_append := @List.length_append
theorem zmj : type_of% @List.getElem?_eq_getElem := @List.getElem?_eq_getElem
theorem zmk : type_of% @List.append_assoc := @List.append_assoc
theorem zml : type_of% @List.setIfInBounds_toArray := @List.setIfInBounds_toArray
theorem zmm : type_of% @List.set_cons_zero := @List.set_cons_zero
theorem zmn : type_of% @List.set_cons_succ := @List.set_cons_succ
theorem zmo : type_of% @World.block_lt_of_cell? := @World.block_lt_of_cell?
theorem zmp : type_of% @List.mem_of_getElem? := @List.mem_of_getElem?
theorem zmq : type_of% @List.take_of_length_le := @List.take_of_length_le
theorem zmr : type_of% @Lib.beBytes_length := @Lib.beBytes_length
theorem zms : type_of% @Nat.zero_le := @Nat.zero_le
theorem zmt : type_of% @Nat.le_refl := @Nat.le_refl
theorem zmu : type_of% @Nat.mul_le_mul_right := @Nat.mul_le_mul_right
theorem zmv : type_of% @World.ownsRow_nil := @World.ownsRow_nil
theorem zmw : type_of% @List.flatMap_cons := @List.flatMap_cons
theorem zmx : type_of% @Lib.uvarint_length64 := @Lib.uvarint_length64
theorem zmy : type_of% @List.length_singleton := @List.length_singleton
theorem zmz : type_of% @List.length_cons := @List.length_cons
theorem zmA : type_of% @List.getElem?_cons_zero := @List.getElem?_cons_zero
theorem zmB : type_of% @List.getElem?_cons_succ := @List.getElem?_cons_succ
theorem zmC : type_of% @List.getElem?_toArray := @List.getElem?_toArray
theorem zmD : type_of% @List.append_nil := @List.append_nil
theorem zmE : type_of% @Nat.eq_zero_or_pos := @Nat.eq_zero_or_pos
theorem zmF : type_of% @List.length_map := @List.length_map
theorem zmG : type_of% @Nat.lt_of_lt_of_le := @Nat.lt_of_lt_of_le
theorem zmH : type_of% @List.map_append := @List.map_append
theorem zmI : type_of% @List.take_length := @List.take_length
theorem zmJ : type_of% @List.eq_nil_of_length_eq_zero := @List.eq_nil_of_length_eq_zero
theorem zmK : type_of% @Nat.lt_or_ge := @Nat.lt_or_ge
theorem zmL : type_of% @List.getElem?_eq_none := @List.getElem?_eq_none
theorem zmM : type_of% @Nat.zero_add := @Nat.zero_add
theorem zmN : type_of% @List.mem_map := @List.mem_map
theorem zmO : type_of% @iff_of_false := @iff_of_false
theorem zmP : type_of% @iff_of_true := @iff_of_true
theorem zmQ : type_of% @List.flatMap_append := @List.flatMap_append
theorem zmR : type_of% @List.getElem?_map := @List.getElem?_map
theorem zmS : type_of% @List.take_add_one := @List.take_add_one
theorem zmT : type_of% @List.nil_append := @List.nil_append
theorem zmU : type_of% @List.not_mem_nil := @List.not_mem_nil
theorem zmV : type_of% @List.mem_cons := @List.mem_cons
theorem zmW : type_of% @List.mem_filter := @List.mem_filter
theorem zmX : type_of% @List.mem_append := @List.mem_append
theorem zmY : type_of% @List.mem_singleton := @List.mem_singleton
theorem zmZ : type_of% @List.singleton_append := @List.singleton_append
theorem zm0 : type_of% @Nat.le_trans := @Nat.le_trans
theorem zm1 : type_of% @Nat.lt_irrefl := @Nat.lt_irrefl
theorem zm2 : type_of% @Nat.not_lt_zero := @Nat.not_lt_zero
theorem zm3 : type_of% @List.length_take := @List.length_take
theorem zm4 : type_of% @List.getElem?_append_left := @List.getElem?_append_left
theorem zm5 : type_of% @List.getElem?_append_right := @List.getElem?_append_right
theorem zm6 : type_of% @Option.some.inj := @Option.some.inj
theorem zm7 : type_of% @congrArg := @congrArg
theorem zm8 : type_of% @And.intro := @And.intro
theorem zm9 : type_of% @List.length_nil := @List.length_nil
theorem zna : type_of% @List.mem_cons_self := @List.mem_cons_self
theorem znb : type_of% @Lib.size_eq := @Lib.size_eq
theorem znc : type_of% @List.getElem_of_mem := @List.getElem_of_mem
theorem znd : type_of% @if_neg := @if_neg
theorem zne : type_of% @List.mem_of_mem_take := @List.mem_of_mem_take
theorem znf : type_of% @List.length_filter_le := @List.length_filter_le
theorem zng : type_of% @List.mem_cons_of_mem := @List.mem_cons_of_mem
theorem znh : type_of% @List.length_take_le := @List.length_take_le
theorem zni : type_of% @List.append_cons := @List.append_cons
theorem znj : type_of% @List.map_map := @List.map_map
theorem znk : type_of% @World.ownsRow_made := @World.ownsRow_made
end Go.Proofs
namespace Go.Proofs
open Go.Shelf
def Tryz.lays125_ren : Go.Shelf.Ren := ⟨fun | 125 => 157 | 128 => 228 | 129 => 229 | n => n, fun | 46 => 268 | 3 => 3 | 51 => 317 | 53 => 111 | 4 => 4 | 5 => 5 | 9 => 9 | n => n, fun | n => n⟩
theorem Tryz.lays125 : Go.Proofs.Lays.n125 Tryz.prog Tryz.lays125_ren := {
 mixed := by kernel_rfl
 f125 := Tryz.func157.trans (zm7 some (by kernel_rfl))
 f128 := Tryz.func228.trans (zm7 some (by kernel_rfl))
 f129 := Tryz.func229.trans (zm7 some (by kernel_rfl))
 t3 := Tryz.underlying3
 a3 := Tryz.isAgg3
 z3 := Tryz.sizeOf3
 v3 := Tryz.zeroValue3
 t4 := Tryz.underlying4
 a4 := Tryz.isAgg4
 z4 := Tryz.sizeOf4
 v4 := Tryz.zeroValue4
 t5 := Tryz.underlying5
 a5 := Tryz.isAgg5
 z5 := Tryz.sizeOf5
 v5 := Tryz.zeroValue5
 t9 := Tryz.underlying9
 a9 := Tryz.isAgg9
 z9 := Tryz.sizeOf9
 v9 := Tryz.zeroValue9
 t46 := Tryz.underlying268
 a46 := Tryz.isAgg268
 z46 := Tryz.sizeOf268
 v46 := Tryz.zeroValue268
 t51 := Tryz.underlying317
 a51 := Tryz.isAgg317
 z51 := Tryz.sizeOf317
 v51 := Tryz.zeroValue317
 t53 := Tryz.underlying111
 a53 := Tryz.isAgg111
 z53 := Tryz.sizeOf111
 v53 := Tryz.zeroValue111 }
theorem Tryz.bits_Len (x : Int) (w : World) (h0 : 0 <= x) (h1 : x <= 18446744073709551615) :
 Calls Tryz.prog 157 #[.int .u64 x] w fun e w' => e = .returned (.int .i64 (Lib.bitLen x.toNat)) /\ w' = w := Any.bits_Len Tryz.lays125 x w h0 h1
def Tryz.lays213_ren : Go.Shelf.Ren := ⟨fun | 213 => 247 | 265 => 270 | n => n, fun | 9 => 9 | 3 => 3 | n => n, fun | n => n⟩
def Tryz.lays106_ren : Go.Shelf.Ren := ⟨fun | 106 => 207 | 213 => 247 | 265 => 270 | n => n, fun | 9 => 9 | 3 => 3 | n => n, fun | n => n⟩
theorem Tryz.lays106 : Go.Proofs.Lays.n106 Tryz.prog Tryz.lays106_ren := {
 mixed := by kernel_rfl
 f106 := Tryz.func207.trans (zm7 some (by kernel_rfl))
 f213 := Tryz.func247.trans (zm7 some (by kernel_rfl))
 f265 := Tryz.func270.trans (zm7 some (by kernel_rfl))
 t3 := Tryz.underlying3
 a3 := Tryz.isAgg3
 z3 := Tryz.sizeOf3
 v3 := Tryz.zeroValue3
 t9 := Tryz.underlying9
 a9 := Tryz.isAgg9
 z9 := Tryz.sizeOf9
 v9 := Tryz.zeroValue9 }
open Go.RowKit in
theorem Tryz.strings_Compare (a b : ByteArray) (w : World) :
 Calls Tryz.prog 207 #[.string a, .string b] w fun e w' => e = .returned (.int .i64 (Lib.compareBytes a.data.toList b.data.toList)) /\ w' = w := Any.strings_Compare Tryz.lays106 a b w
def Tryz.laysBin42_ren : Go.Shelf.Ren := ⟨fun | 42 => 230 | n => n, fun | 37 => 357 | 22 => 44 | 33 => 111 | 0 => 0 | 5 => 5 | 45 => 268 | n => n, fun | n => n⟩
theorem Tryz.laysBin42 : Go.Proofs.LaysBin.n42 Tryz.prog Tryz.laysBin42_ren := {
 mixed := by kernel_rfl
 f42 := Tryz.func230.trans (zm7 some (by kernel_rfl))
 t0 := Tryz.underlying0
 a0 := Tryz.isAgg0
 z0 := Tryz.sizeOf0
 v0 := Tryz.zeroValue0
 i0 := by kernel_rfl
 t5 := Tryz.underlying5
 a5 := Tryz.isAgg5
 z5 := Tryz.sizeOf5
 v5 := Tryz.zeroValue5
 i5 := by kernel_rfl
 t22 := Tryz.underlying44
 a22 := Tryz.isAgg44
 z22 := Tryz.sizeOf44
 v22 := Tryz.zeroValue44
 i22 := by kernel_rfl
 t33 := Tryz.underlying111
 a33 := Tryz.isAgg111
 z33 := Tryz.sizeOf111
 v33 := Tryz.zeroValue111
 i33 := by kernel_rfl
 t37 := Tryz.underlying357
 a37 := Tryz.isAgg357
 z37 := Tryz.sizeOf357
 v37 := Tryz.zeroValue357
 i37 := by kernel_rfl
 t45 := Tryz.underlying268
 a45 := Tryz.isAgg268
 z45 := Tryz.sizeOf268
 v45 := Tryz.zeroValue268
 i45 := by kernel_rfl }
open Go.RowKit in
theorem Tryz.binary_BE_Uint64 (g o n c : Nat) (b0 b1 b2 b3 b4 b5 b6 b7 : UInt8) (w : World) (hn : 8 <= n) (c0 : w.cell? ⟨g, o, none⟩ = some (.int .u8 b0.toNat)) (c1 : w.cell? ⟨g, o + 1, none⟩ = some (.int .u8 b1.toNat)) (c2 : w.cell? ⟨g, o + 2, none⟩ = some (.int .u8 b2.toNat)) (c3 : w.cell? ⟨g, o + 3, none⟩ = some (.int .u8 b3.toNat)) (c4 : w.cell? ⟨g, o + 4, none⟩ = some (.int .u8 b4.toNat)) (c5 : w.cell? ⟨g, o + 5, none⟩ = some (.int .u8 b5.toNat)) (c6 : w.cell? ⟨g, o + 6, none⟩ = some (.int .u8 b6.toNat)) (c7 : w.cell? ⟨g, o + 7, none⟩ = some (.int .u8 b7.toNat)) :
 Calls Tryz.prog 230 #[.agg #[], .slice (some ⟨g, o, none⟩) n c] w fun e w' => e = .returned (.int .u64 (Lib.beNat [b0, b1, b2, b3, b4, b5, b6, b7])) /\ Below w.heap.size w w' := Any.binary_BE_Uint64 Tryz.laysBin42 g o n c b0 b1 b2 b3 b4 b5 b6 b7 w hn c0 c1 c2 c3 c4 c5 c6 c7
def Tryz.laysBin43_ren : Go.Shelf.Ren := ⟨fun | 43 => 239 | n => n, fun | 37 => 357 | 22 => 44 | 33 => 111 | 0 => 0 | 5 => 5 | 45 => 268 | n => n, fun | n => n⟩
theorem Tryz.laysBin43 : Go.Proofs.LaysBin.n43 Tryz.prog Tryz.laysBin43_ren := {
 mixed := by kernel_rfl
 f43 := Tryz.func239.trans (zm7 some (by kernel_rfl))
 t0 := Tryz.underlying0
 a0 := Tryz.isAgg0
 z0 := Tryz.sizeOf0
 v0 := Tryz.zeroValue0
 i0 := by kernel_rfl
 t5 := Tryz.underlying5
 a5 := Tryz.isAgg5
 z5 := Tryz.sizeOf5
 v5 := Tryz.zeroValue5
 i5 := by kernel_rfl
 t22 := Tryz.underlying44
 a22 := Tryz.isAgg44
 z22 := Tryz.sizeOf44
 v22 := Tryz.zeroValue44
 i22 := by kernel_rfl
 t33 := Tryz.underlying111
 a33 := Tryz.isAgg111
 z33 := Tryz.sizeOf111
 v33 := Tryz.zeroValue111
 i33 := by kernel_rfl
 t37 := Tryz.underlying357
 a37 := Tryz.isAgg357
 z37 := Tryz.sizeOf357
 v37 := Tryz.zeroValue357
 i37 := by kernel_rfl
 t45 := Tryz.underlying268
 a45 := Tryz.isAgg268
 z45 := Tryz.sizeOf268
 v45 := Tryz.zeroValue268
 i45 := by kernel_rfl }
open Go.RowKit in
theorem Tryz.binary_BE_PutUint64 (g o n c v : Nat) (hv : v < 18446744073709551616) (x0 x1 x2 x3 x4 x5 x6 x7 : Value) (w : World) (hn : 8 <= n) (c0 : w.cell? ⟨g, o, none⟩ = some x0) (c1 : w.cell? ⟨g, o + 1, none⟩ = some x1) (c2 : w.cell? ⟨g, o + 2, none⟩ = some x2) (c3 : w.cell? ⟨g, o + 3, none⟩ = some x3) (c4 : w.cell? ⟨g, o + 4, none⟩ = some x4) (c5 : w.cell? ⟨g, o + 5, none⟩ = some x5) (c6 : w.cell? ⟨g, o + 6, none⟩ = some x6) (c7 : w.cell? ⟨g, o + 7, none⟩ = some x7) (f0 : w.frozen? ⟨g, o, none⟩ = false) (f1 : w.frozen? ⟨g, o + 1, none⟩ = false) (f2 : w.frozen? ⟨g, o + 2, none⟩ = false) (f3 : w.frozen? ⟨g, o + 3, none⟩ = false) (f4 : w.frozen? ⟨g, o + 4, none⟩ = false) (f5 : w.frozen? ⟨g, o + 5, none⟩ = false) (f6 : w.frozen? ⟨g, o + 6, none⟩ = false) (f7 : w.frozen? ⟨g, o + 7, none⟩ = false) :
 Calls Tryz.prog 239 #[.agg #[], .slice (some ⟨g, o, none⟩) n c, .int .u64 v] w fun e w' => e = .returned (.tuple #[]) /\ w' = (w.alloc (.cells #[] 357)).setCells g o (Lib.byteCells (Lib.beBytes 8 v)) := Any.binary_BE_PutUint64 Tryz.laysBin43 g o n c v hv x0 x1 x2 x3 x4 x5 x6 x7 w hn c0 c1 c2 c3 c4 c5 c6 c7 f0 f1 f2 f3 f4 f5 f6 f7
def Tryz.laysBin46_ren : Go.Shelf.Ren := ⟨fun | 46 => 241 | n => n, fun | 22 => 44 | 33 => 111 | 3 => 3 | 4 => 4 | 5 => 5 | 0 => 0 | 45 => 268 | n => n, fun | n => n⟩
theorem Tryz.laysBin46 : Go.Proofs.LaysBin.n46 Tryz.prog Tryz.laysBin46_ren := {
 mixed := by kernel_rfl
 f46 := Tryz.func241.trans (zm7 some (by kernel_rfl))
 t0 := Tryz.underlying0
 a0 := Tryz.isAgg0
 z0 := Tryz.sizeOf0
 v0 := Tryz.zeroValue0
 i0 := by kernel_rfl
 t3 := Tryz.underlying3
 a3 := Tryz.isAgg3
 z3 := Tryz.sizeOf3
 v3 := Tryz.zeroValue3
 i3 := by kernel_rfl
 t4 := Tryz.underlying4
 a4 := Tryz.isAgg4
 z4 := Tryz.sizeOf4
 v4 := Tryz.zeroValue4
 i4 := by kernel_rfl
 t5 := Tryz.underlying5
 a5 := Tryz.isAgg5
 z5 := Tryz.sizeOf5
 v5 := Tryz.zeroValue5
 i5 := by kernel_rfl
 t22 := Tryz.underlying44
 a22 := Tryz.isAgg44
 z22 := Tryz.sizeOf44
 v22 := Tryz.zeroValue44
 i22 := by kernel_rfl
 t33 := Tryz.underlying111
 a33 := Tryz.isAgg111
 z33 := Tryz.sizeOf111
 v33 := Tryz.zeroValue111
 i33 := by kernel_rfl
 t45 := Tryz.underlying268
 a45 := Tryz.isAgg268
 z45 := Tryz.sizeOf268
 v45 := Tryz.zeroValue268
 i45 := by kernel_rfl }
open Go.RowKit in
theorem Tryz.binary_PutUvarint (g o n c x : Nat) (hx : x < 18446744073709551616) (w : World) (hn : (Lib.uvarint x).length <= n) (aa : ∀ j, j < (Lib.uvarint x).length -> (w.cell? ⟨g, o + j, none⟩).isSome = true /\ w.frozen? ⟨g, o + j, none⟩ = false) :
 Calls Tryz.prog 241 #[.slice (some ⟨g, o, none⟩) n c, .int .u64 x] w fun e w' => e = .returned (.int .i64 (Lib.uvarint x).length) /\ w' = w.setCells g o (Lib.byteCells (Lib.uvarint x)) := Any.binary_PutUvarint Tryz.laysBin46 g o n c x hx w hn aa
def Tryz.laysBin49_ren : Go.Shelf.Ren := ⟨fun | 49 => 240 | 46 => 241 | n => n, fun | 22 => 44 | 2 => 2 | 3 => 3 | 33 => 111 | 45 => 268 | 4 => 4 | 5 => 5 | 0 => 0 | n => n, fun | n => n⟩
theorem Tryz.laysBin49 : Go.Proofs.LaysBin.n49 Tryz.prog Tryz.laysBin49_ren := {
 mixed := by kernel_rfl
 f46 := Tryz.func241.trans (zm7 some (by kernel_rfl))
 f49 := Tryz.func240.trans (zm7 some (by kernel_rfl))
 t0 := Tryz.underlying0
 a0 := Tryz.isAgg0
 z0 := Tryz.sizeOf0
 v0 := Tryz.zeroValue0
 i0 := by kernel_rfl
 t2 := Tryz.underlying2
 a2 := Tryz.isAgg2
 z2 := Tryz.sizeOf2
 v2 := Tryz.zeroValue2
 i2 := by kernel_rfl
 t3 := Tryz.underlying3
 a3 := Tryz.isAgg3
 z3 := Tryz.sizeOf3
 v3 := Tryz.zeroValue3
 i3 := by kernel_rfl
 t4 := Tryz.underlying4
 a4 := Tryz.isAgg4
 z4 := Tryz.sizeOf4
 v4 := Tryz.zeroValue4
 i4 := by kernel_rfl
 t5 := Tryz.underlying5
 a5 := Tryz.isAgg5
 z5 := Tryz.sizeOf5
 v5 := Tryz.zeroValue5
 i5 := by kernel_rfl
 t22 := Tryz.underlying44
 a22 := Tryz.isAgg44
 z22 := Tryz.sizeOf44
 v22 := Tryz.zeroValue44
 i22 := by kernel_rfl
 t33 := Tryz.underlying111
 a33 := Tryz.isAgg111
 z33 := Tryz.sizeOf111
 v33 := Tryz.zeroValue111
 i33 := by kernel_rfl
 t45 := Tryz.underlying268
 a45 := Tryz.isAgg268
 z45 := Tryz.sizeOf268
 v45 := Tryz.zeroValue268
 i45 := by kernel_rfl }
open Go.RowKit in
theorem Tryz.binary_PutVarint (g o n c : Nat) (x : Int) (h0 : -9223372036854775808 <= x) (h1 : x <= 9223372036854775807) (w : World) (hn : (Lib.uvarint (Lib.zigzag x)).length <= n) (aa : ∀ j, j < (Lib.uvarint (Lib.zigzag x)).length -> (w.cell? ⟨g, o + j, none⟩).isSome = true /\ w.frozen? ⟨g, o + j, none⟩ = false) :
 Calls Tryz.prog 240 #[.slice (some ⟨g, o, none⟩) n c, .int .i64 x] w fun e w' => e = .returned (.int .i64 (Lib.uvarint (Lib.zigzag x)).length) /\ w' = w.setCells g o (Lib.byteCells (Lib.uvarint (Lib.zigzag x))) := Any.binary_PutVarint Tryz.laysBin49 g o n c x h0 h1 w hn aa
end Go.Proofs
namespace Go.Proofs.YtbkookiigkckdaaGreatDoor
open Go.RowKit Go.Proofs.Tryz
structure Fr (S : Nat -> Prop) (w w' : World) : Prop where
 os : w'.os = w.os
 tape : w'.tape = w.tape
 output : w'.output = w.output
 size : w.heap.size <= w'.heap.size
 block : ∀ k, k < w.heap.size -> ¬ S k -> w'.heap[k]? = w.heap[k]?
section
variable {S S' : Nat -> Prop} {w w' w'' : World}
theorem Fr.refl (S : Nat -> Prop) (w : World) : Fr S w w := ⟨rfl, rfl, rfl, Nat.le_refl _, fun _ _ _ => rfl⟩
theorem znl : type_of% @Fr.refl := @Fr.refl
theorem Fr.mono (h : Fr S w w') (hs : ∀ k, k < w.heap.size -> S k -> S' k) : Fr S' w w' :=
 ⟨h.os, h.tape, h.output, h.size, fun k hk hn => h.block k hk (fun s => hn (hs k hk s))⟩
theorem Fr.trans (h : Fr S w w') (h' : Fr S' w' w'') (hs : ∀ k, k < w.heap.size -> S' k -> S k) : Fr S w w'' :=
 ⟨h'.os.trans h.os, h'.tape.trans h.tape, h'.output.trans h.output, zm0 h.size h'.size,
  fun k hk hn => (h'.block k (zmG hk h.size) (fun s => hn (hs k hk s))).trans (h.block k hk hn)⟩
theorem Fr.same (h : Fr S w w') (h' : Fr S w' w'') : Fr S w w'' := h.trans h' fun _ _ s => s
theorem Fr.alloc (h : Fr S w w') (o : Obj) : Fr S w (w'.alloc o) :=
 h.trans (S' := fun _ => False) ⟨rfl, rfl, rfl, by simp, fun k hk _ => Below.heap_alloc _ _ _ hk⟩ (fun _ _ s => s.elim)
theorem Fr.drew (h : Fr S w w') : Fr S w w'.drew := ⟨h.os, h.tape, h.output, h.size, h.block⟩
theorem Fr.setCell (h : Fr S w w') {p : Addr} (hp : S p.block ∨ w.heap.size <= p.block) (u : Value) : Fr S w (w'.setCell p u) :=
 h.trans (S' := fun k => k = p.block) ⟨rfl, rfl, rfl, by simp [World.setCell], fun k hk hn => Below.heap_setCell _ _ _ _ hn⟩ (fun k hk s => by subst s; rcases hp with hp | hp; exact hp; omega)
theorem Fr.grown {row : Option Nat} (h : Fr S w w') (hg : w'.grownBy w'' row) (hr : ∀ k, row = some k -> S k ∨ w.heap.size <= k) : Fr S w w'' :=
 h.trans (S' := fun k => some k = row) ⟨hg.os, hg.tape, hg.output, hg.size, fun k hk hn => hg.block k hk hn⟩ (fun k hk s => by rcases hr k s.symm with hp | hp; exact hp; omega)
theorem Fr.below {B : Nat} (h : Fr S w w') (hb : Below B w' w'') (hB : ∀ k, k < w.heap.size -> B <= k -> S k) : Fr S w w'' :=
 h.trans (S' := fun k => B <= k) ⟨hb.os, hb.tape, hb.output, hb.size, fun k _ hn => hb.block k (by omega)⟩ hB
theorem Fr.toBelow (h : Fr S w w') (hn : ∀ k, k < w.heap.size -> ¬ S k) : Below w.heap.size w w' :=
 ⟨h.os, h.tape, h.output, h.size, fun k hk => h.block k hk (hn k hk)⟩
theorem Fr.none_toBelow (h : Fr (fun _ => False) w w') : Below w.heap.size w w' := h.toBelow fun _ _ s => s
theorem Fr.ofBelow (h : Below w.heap.size w w') : Fr S w w' := (znl S w).below h fun k hk hb => by omega
theorem Fr.cell (h : Fr S w w') {p : Addr} (hp : p.block < w.heap.size) (hn : ¬ S p.block) : w'.cell? p = w.cell? p := World.cell?_of_block (w := w) (h.block p.block hp hn)
theorem zdJ (b : Nat) : ∀ (vs : List Value) (o : Nat) (w : World) (k : Nat), k ≠ b -> (w.setCells b o vs).heap[k]? = w.heap[k]?
 | [], _, _, _, _ => rfl
 | v :: vs, o, w, k, hk => by
   rw [World.setCells, zdJ b vs _ _ k hk]; exact Below.heap_setCell w ⟨b, o, none⟩ v k hk
end
def Blk (w : World) (g : Nat) (t : TypeId) (cs : Array Value) : Prop := w.heap[g]? = some (.cells cs t (0, 0))
section
variable {w w' : World} {g : Nat} {t : TypeId} {cs : Array Value} {S : Nat -> Prop}
theorem Blk.lt (h : Blk w g t cs) : g < w.heap.size := by
 rcases zmK g w.heap.size with hlt | eJ
 ·exact hlt
 ·unfold Blk at h; rw [Array.getElem?_eq_none eJ] at h; cases h
theorem Blk.cell (h : Blk w g t cs) (i : Nat) : w.cell? ⟨g, i, none⟩ = cs[i]? := cell_of_row w g i cs t (0, 0) h
theorem Blk.frozen (h : Blk w g t cs) (i : Nat) : w.frozen? ⟨g, i, none⟩ = false := by
 unfold Blk at h; simp [World.frozen?, h]
theorem Blk.new (w : World) (t : TypeId) (cs : Array Value) : Blk (w.alloc (.cells cs t)) w.heap.size t cs := heap_alloc_new w _
theorem znm : type_of% @Blk.new := @Blk.new
theorem Blk.drew (h : Blk w g t cs) : Blk w.drew g t cs := h
theorem Blk.alloc (h : Blk w g t cs) (o : Obj) : Blk (w.alloc o) g t cs := (Below.heap_alloc w o g h.lt).trans h
theorem Blk.set_ (h : Blk w g t cs) (i : Nat) (u : Value) : Blk (w.setCell ⟨g, i, none⟩ u) g t (cs.setIfInBounds i u) := by
 unfold Blk at h ⊢; simp [World.setCell, Array.getElem?_modify, h]
theorem Blk.far (h : Blk w g t cs) {p : Addr} (hp : g ≠ p.block) (u : Value) : Blk (w.setCell p u) g t cs := (Below.heap_setCell w p u g hp).trans h
theorem Blk.fr (h : Blk w g t cs) (hf : Fr S w w') (hn : ¬ S g) : Blk w' g t cs := (hf.block g h.lt hn).trans h
theorem Blk.grown {row : Option Nat} (h : Blk w g t cs) (hb : w.grownBy w' row) (hg : some g ≠ row) : Blk w' g t cs := (hb.block g h.lt hg).trans h
theorem Blk.tag {t' : TypeId} {jU : Array Value} (h : Blk w g t cs) (h' : Blk w g t' jU) : t = t' /\ cs = jU := by
 unfold Blk at h h'; rw [h] at h'; injection h' with h'; injection h' with hc ht; exact ⟨ht, hc⟩
theorem Blk.ne_ {g' : Nat} {t' : TypeId} {jU : Array Value} (h : Blk w g t cs) (h' : Blk w g' t' jU) (aN : t ≠ t') : g ≠ g' := by
 rintro rfl; exact aN (h.tag h').1
theorem znn : type_of% @Blk.ne_ := @Blk.ne_
theorem zak {base : Nat} {e : TypeId} {size n : Nat} {v : Value} {xs : List Value} (h : w.ownsRow base e size v n xs) (hg : Blk w g t cs) (aN : e ≠ t) : v.ownBlock ≠ some g := by
 rcases h.2 with ⟨rfl, _⟩ | ⟨g', aK, cur, rfl, _, hh, _⟩
 ·simp [Value.ownBlock]
 ·intro he
  have : g' = g := by simpa [Value.ownBlock] using he
  subst this; exact znn (t := e) hh hg aN rfl
theorem zaq {base : Nat} {e : TypeId} {size n : Nat} {v : Value} {xs : List Value} (h : w.ownsRow base e size v n xs) {k : Nat} (hk : v.ownBlock = some k) : k < w.heap.size := (h.lt k hk).2
end
abbrev bc (l : List UInt8) : List Value := Lib.byteCells l
theorem zda (l : List UInt8) : (bc l).length = l.length := by simp [bc, Lib.byteCells]
theorem zfC (l : List UInt8) : ∀ v ∈ bc l, v.oneCell' = true := by
 intro v hv; simp only [bc, Lib.byteCells, zmN] at hv; obtain ⟨c, _, rfl⟩ := hv; rfl
theorem zjm (a b : List UInt8) : bc (a ++ b) = bc a ++ bc b := by simp [bc, Lib.byteCells]
theorem zd6 (l : List UInt8) (j : Nat) : (bc l)[j]? = (l[j]?).map fun c => .int .u8 c.toNat := by simp [bc, Lib.byteCells]
theorem exE {α : Type} (a : α) : ∃ b, a = b := ⟨a, rfl⟩
def zet (cs : Array Value) : Nat -> List Value -> Array Value
 | _, [] => cs
 | o, v :: r => zet (cs.setIfInBounds o v) (o + 1) r
theorem zdf {t : TypeId} {g : Nat} : ∀ (vs : List Value) (o : Nat) (w : World) (cs : Array Value), Blk w g t cs -> Blk (w.setCells g o vs) g t (zet cs o vs)
 | [], _, _, _, h => h
 | v :: r, o, w, cs, h => zdf r (o + 1) _ _ (h.set_ o v)
theorem zci : ∀ (vs : List Value) (o : Nat) (cs : Array Value), o + vs.length <= cs.size -> (zet cs o vs).toList = cs.toList.take o ++ vs ++ cs.toList.drop (o + vs.length)
 | [], o, cs, _ => by simp [zet]
 | v :: r, o, cs, h => by
   rw [zet, zci r (o + 1) _ (by simp at h ⊢; omega)]; simp only [Array.toList_setIfInBounds, zmz] at h ⊢; have hl : cs.toList.length = cs.size := by simp
   generalize cs.toList = l at hl ⊢; rw [<- hl] at h; clear hl; apply List.ext_getElem?; intro i; simp only [zmk, List.getElem?_append, zm3, List.length_set, List.getElem?_take, List.getElem?_drop, List.getElem?_set, List.cons_append, List.getElem?_cons, zmz]; rw [show min (o + 1) l.length = o + 1 by omega, show min o l.length = o by omega]
   repeat' split
   all_goals first
    | rfl
    | (exfalso; omega)
    | (congr 1; omega)
theorem zdC : ∀ (vs : List Value) (o : Nat) (cs : Array Value), (zet cs o vs).size = cs.size
 | [], _, _ => rfl
 | v :: r, o, cs => by rw [zet, zdC r]; simp
theorem zco (b : Nat) : ∀ (vs : List Value) (o : Nat) (w : World), (w.setCells b o vs).heap.size = w.heap.size
 | [], _, _ => rfl
 | v :: r, o, w => by rw [World.setCells, zco b r]; simp [World.setCell]
theorem zcc (b : Nat) : ∀ (vs : List Value) (o : Nat) (w : World), (w.setCells b o vs).os = w.os /\ (w.setCells b o vs).tape = w.tape /\ (w.setCells b o vs).output = w.output
 | [], _, _ => ⟨rfl, rfl, rfl⟩
 | v :: r, o, w => by rw [World.setCells]; obtain ⟨h1, h2, h3⟩ := zcc b r (o + 1) (w.setCell ⟨b, o, none⟩ v); exact ⟨h1, h2, h3⟩
theorem Fr.setCells {S : Nat -> Prop} {w w' : World} (h : Fr S w w') {b : Nat} (hp : S b ∨ w.heap.size <= b) (o : Nat) (vs : List Value) : Fr S w (w'.setCells b o vs) :=
 h.trans (S' := fun k => k = b) ⟨(zcc b vs o w').1, (zcc b vs o w').2.1, (zcc b vs o w').2.2, by rw [zco]; exact zmt _, fun k _ hn => zdJ b vs o w' k hn⟩ (fun k hk s => by subst s; rcases hp with hp | hp; exact hp; omega)
theorem zd1 {w : World} (b : Nat) (o : Nat) (vs : List Value) : w.grownBy (w.setCells b o vs) (some b) :=
 ⟨(zcc b vs o w).1, (zcc b vs o w).2.1, (zcc b vs o w).2.2, by rw [zco]; exact zmt _, fun k _ hn => zdJ b vs o w k (by simpa using hn)⟩
section
variable {P : Program} (w : World)
theorem zg1 (base : Nat) (t tx ty e : TypeId) (i : TypeInfo) (z : Value) (size bytes : Nat) (ht : P.underlying t = some (.slice e)) (hi : P.info? e = some i) (hz : i.zero = some z)
 (cf : i.size = size) (nE : i.bytes = bytes) (mW : z.cells.size = size) (bD : 0 < size)
 (v : Value) (n : Nat) (xs : List Value) (ab : w.ownsRow base e size v n xs)
 (x : Value) (m : Nat) (bW : List Value) (hs : Src P size tx x m bW w)
 (mG : n + m <= maxLen) (cZ : (n + m) * bytes <= 140737488355328) (bS : base <= w.heap.size) :
 ∃ v' w', (Builtin.append_ #[t, tx] ty #[v, x]).run P w = .ok v' w' /\ w'.ownsRow base e size v' (n + m) (xs ++ bW) /\ w.grownBy w' v.ownBlock /\
  (v'.ownBlock = v.ownBlock ∨ v'.ownBlock = some w.heap.size) := by
 subst cf; subst nE; have nl : ((n + m : Nat) : Int) <= 9223372036854775807 := by simp only [maxLen] at mG; omega
 have ai : (xs ++ bW).length = (n + m) * i.size := by rw [zmi, ab.1, hs.newsLen, Nat.add_mul]
 have grow : ∀ (ao : Option Addr) (aK : Nat) (row : Option Nat), v = .slice ao n aK -> aK < n + m -> (Builtin.firstCells i.size n (.slice ao n aK)).run P w.drew = .ok xs.toArray w.drew ->
  ∃ v' w', (Builtin.append_ #[t, tx] ty #[v, x]).run P w = .ok v' w' /\ w'.ownsRow base e i.size v' (n + m) (xs ++ bW) /\ w.grownBy w' row /\ v'.ownBlock = some w.heap.size := by
  intro ao aK row hv hcap hold; subst hv; have hr := run_append_grow_src w t tx ty e i z ht hi hz ao n aK xs hold x m bW hs hcap nl (growslice_fits hcap cZ); have hcm : grownCap w (n + m) aK e <= maxLen := grownCap_le_maxLen w (n + m) aK e mG; have eJ := grownCap_ge w (n + m) aK e
  have hzc : (Builtin.zeroCells z.cells (grownCap w (n + m) aK e - (n + m))).size = (grownCap w (n + m) aK e - (n + m)) * i.size := by rw [size_zeroCells, mW]
  refine ⟨_, _, hr, ⟨ai, .inr ⟨w.heap.size, _, _, rfl, bS, heap_alloc_new w.drew _, eJ, hcm, ?_, ?_⟩⟩, ?_, rfl⟩
  ·rw [Array.size_append, hzc, List.size_toArray, ai, <- Nat.add_mul]
   congr 1; omega
  ·rw [Array.toList_append, List.take_append_of_le_length (by simp [ai])]
   rw [<- ai]; exact zmI
  ·exact ⟨rfl, rfl, rfl, by simp, fun k hk _ => Below.heap_alloc w.drew _ k hk⟩
 rcases ab.2 with ⟨rfl, rfl⟩ | ⟨g, aK, cur, rfl, mA, hg, hncap, qm, im, pE⟩
 ·have ej : xs = [] := zmJ (by simpa using ab.1)
  subst ej; rcases zmE m with hm | hm
  ·subst hm
   have hn : bW = [] := zmJ (by simpa using hs.newsLen); subst hn; refine ⟨.slice none 0 0, w, ?_, by simpa using ab, World.grownBy.refl w _, .inl rfl⟩; have hc := hs.cells; rcases hs.kind with ⟨e', hk⟩ | hk <;> simp [Builtin.append_, run_underlying ht, run_underlying hk, sizeOf, typeInfo, hi, hs.len, hc, storeCells]
  ·obtain ⟨v', w', h1, h2, h3, h4⟩ := grow none 0 none rfl (by omega) (by exact run_firstCells_none w.drew i.size 0 0 0)
   exact ⟨v', w', h1, h2, h3, .inr h4⟩
 ·by_cases hroom : n + m <= aK
  ·have hfit : n * i.size + bW.length <= cur.size := by
    rw [im, hs.newsLen, <- Nat.add_mul]; exact zmu _ hroom
   have hb : Blk w g e cur := hg; have hr := run_append_room_src w t tx ty e i ht hi g 0 n aK x m bW hs hroom
    (fun j hj => by rw [hb.cell, Array.getElem?_eq_getElem (by omega)]; rfl) (fun j _ => hb.frozen _)
   simp only [zmM] at hr; refine ⟨_, _, hr, ⟨ai, .inr ⟨g, aK, zet cur (n * i.size) bW, rfl, mA, zdf bW (n * i.size) w cur hb, hroom, qm, by rw [zdC, im], ?_⟩⟩, zd1 g _ _, .inl rfl⟩; rw [zci _ _ _ hfit, pE, List.take_append_of_le_length (by rw [ai]; exact zmt _), <- ai, zmI]
  ·have cY := ab.cells (g := g) rfl
   obtain ⟨v', w', h1, h2, h3, h4⟩ := grow (some ⟨g, 0, none⟩) aK (some g) rfl (by omega) (run_firstCells_some w.drew i.size n ⟨g, 0, none⟩ n aK xs ab.1 (by simpa using cY)); exact ⟨v', w', h1, h2, h3, .inr h4⟩
theorem zaw {o : Oper} {a : Act} {K : Act -> World -> Prop} {Q : Exit -> Act -> World -> Prop} (s x : Operand) (t tx : TypeId)
 (ho : o.op = .call { callee := .builtin .append, args := #[s, x], argTypes := #[t, tx] })
 (base : Nat) (e : TypeId) (i : TypeInfo) (z : Value) (size bytes : Nat) (ht : P.underlying t = some (.slice e)) (hi : P.info? e = some i) (hz : i.zero = some z)
 (cf : i.size = size) (nE : i.bytes = bytes) (mW : z.cells.size = size) (bD : 0 < size)
 (v : Value) (n : Nat) (xs : List Value) (hs : a.eval s = v) (ab : w.ownsRow base e size v n xs)
 (y : Value) (m : Nat) (bW : List Value) (hx : a.eval x = y) (hr : Src P size tx y m bW w)
 (mG : n + m <= maxLen) (cZ : (n + m) * bytes <= 140737488355328) (bS : base <= w.heap.size)
 (h : ∀ v' w', w'.ownsRow base e size v' (n + m) (xs ++ bW) -> w.grownBy w' v.ownBlock -> (v'.ownBlock = v.ownBlock ∨ v'.ownBlock = some w.heap.size) -> K (a.put o.dst v') w') : o.wp P a w K Q := by
 obtain ⟨v', w', gG, h2, h3, h4⟩ := zg1 (P := P) w base t tx o.type e i z size bytes ht hi hz cf nE mW bD v n xs ab y m bW hr mG cZ bS; unfold Oper.wp execOp; simp only [ho, resolve, invoke, builtin, Sem.run_bind, Sem.run_pure, Result.andThen_ok, List.map_toArray, List.map_cons, List.map_nil, hs, hx, gG]; exact h v' w' h2 h3 h4
theorem zaf {ops : Array Oper} {rest : List Oper} {o : Oper} {a : Act} {Q : Exit -> Act -> World -> Prop} (oN : o.guard = none) (s x : Operand) (t tx : TypeId)
 (ho : o.op = .call { callee := .builtin .append, args := #[s, x], argTypes := #[t, tx] })
 (base : Nat) (e : TypeId) (i : TypeInfo) (z : Value) (size bytes : Nat) (ht : P.underlying t = some (.slice e)) (hi : P.info? e = some i) (hz : i.zero = some z)
 (cf : i.size = size) (nE : i.bytes = bytes) (mW : z.cells.size = size) (bD : 0 < size)
 (v : Value) (n : Nat) (xs : List Value) (hs : a.eval s = v) (ab : w.ownsRow base e size v n xs)
 (y : Value) (m : Nat) (bW : List Value) (hx : a.eval x = y) (hr : Src P size tx y m bW w)
 (mG : n + m <= maxLen) (cZ : (n + m) * bytes <= 140737488355328) (bS : base <= w.heap.size)
 (h : ∀ v' w', w'.ownsRow base e size v' (n + m) (xs ++ bW) -> w.grownBy w' v.ownBlock -> (v'.ownBlock = v.ownBlock ∨ v'.ownBlock = some w.heap.size) -> wpList P ops Q rest (a.put o.dst v') w') : wpList P ops Q (o :: rest) a w :=
 wpList_plain oN fun _ hK => zaw w s x t tx ho base e i z size bytes ht hi hz cf nE mW bD v n xs hs ab y m bW hx hr mG cZ bS fun v' w' h2 h3 h4 => hK _ _ (h v' w' h2 h3 h4)
theorem zat {ops : Array Oper} {o : Oper} {a : Act} {K : Act -> World -> Prop} {Q : Exit -> Act -> World -> Prop} {E : Prop} (oN : o.guard = none) (s x : Operand) (t tx : TypeId)
 (ho : o.op = .call { callee := .builtin .append, args := #[s, x], argTypes := #[t, tx] })
 (base : Nat) (e : TypeId) (i : TypeInfo) (z : Value) (size bytes : Nat) (ht : P.underlying t = some (.slice e)) (hi : P.info? e = some i) (hz : i.zero = some z)
 (cf : i.size = size) (nE : i.bytes = bytes) (mW : z.cells.size = size) (bD : 0 < size)
 (v : Value) (n : Nat) (xs : List Value) (hs : a.eval s = v) (ab : w.ownsRow base e size v n xs)
 (y : Value) (m : Nat) (bW : List Value) (hx : a.eval x = y) (hr : Src P size tx y m bW w)
 (mG : n + m <= maxLen) (cZ : (n + m) * bytes <= 140737488355328) (bS : base <= w.heap.size)
 (h : ∀ v' w', w'.ownsRow base e size v' (n + m) (xs ++ bW) -> w.grownBy w' v.ownBlock -> (v'.ownBlock = v.ownBlock ∨ v'.ownBlock = some w.heap.size) -> K (a.put o.dst v') w') :
 if Region.wanted o (yielded ops a.tmps) = true then Oper.wp P o a w K Q else E := by
 have hw : Region.wanted o (yielded ops a.tmps) = true := by simp [Region.wanted, oN]
 rw [if_pos hw]; exact zaw w s x t tx ho base e i z size bytes ht hi hz cf nE mW bD v n xs hs ab y m bW hx hr mG cZ bS h
end
theorem zab {w : World} {base : Nat} {e : TypeId} {size n : Nat} {v : Value} {xs : List Value} (h : w.ownsRow base e size v n xs) : ∃ a m c, v = .slice a m c := by
 rcases h.2 with ⟨rfl, _⟩ | ⟨g', aK, cur, rfl, _⟩
 ·exact ⟨_, _, _, rfl⟩
 ·exact ⟨_, _, _, rfl⟩
theorem zff : (prog.info? 5).map (fun i => (i.zero, i.size, i.bytes)) = some (some (.int .u8 0), 1, 1) := by kernel_rfl
def Enc (w : World) (e : Nat) (o : Option Nat) (xs : List UInt8) : Prop :=
 ∃ (v : Value) (cs : Array Value), Blk w e 224 cs /\ cs.size = 11 /\ cs[0]? = some v /\ w.ownsRow 0 5 1 v xs.length (bc xs) /\ v.ownBlock = o
def Put (w : World) (e : Nat) (o : Option Nat) (xs ys : List UInt8) (w' : World) : Prop :=
 ∃ o', Enc w' e o' (xs ++ ys) /\ Fr (fun k => k = e ∨ some k = o) w w' /\ (o' = o ∨ ∃ k, o' = some k /\ w.heap.size <= k)
def zbZ (w : World) (e : Nat) (o : Option Nat) (xs ys : List UInt8) (r : Ending) (w' : World) : Prop := r = .returned (.tuple #[]) /\ Put w e o xs ys w'
theorem zec {w w1 w2 : World} {e : Nat} {v v' : Value} {cs : Array Value} {xs ys : List UInt8} {r : Option Nat}
 (hf : Fr (fun k => k = e ∨ some k = v.ownBlock) w w1) (hb : Blk w1 e 224 cs) (hs : cs.size = 11) (ab : w1.ownsRow 0 5 1 v xs.length (bc xs)) (hw : v.ownBlock = r)
 (ac : w2.ownsRow 0 5 1 v' (xs.length + ys.length) (bc xs ++ bc ys)) (hg : w1.grownBy w2 v.ownBlock) {z : Nat} (av : v'.ownBlock = v.ownBlock ∨ v'.ownBlock = some z) (hz : w.heap.size <= z) :
 ∃ y, w2.cell? ⟨e, 0, none⟩ = some y /\ w2.frozen? ⟨e, 0, none⟩ = false /\ Put w e r xs ys (w2.setCell ⟨e, 0, none⟩ v') := by
 subst hw; have aN := zak ab hb (by decide); have hb2 := hb.grown hg (Ne.symm aN); have hb3 := hb2.set_ 0 v'; have iM := hb2.cell 0; rw [Array.getElem?_eq_getElem (by omega)] at iM; refine ⟨_, iM, hb2.frozen 0, v'.ownBlock, ⟨v', _, hb3, by simpa using hs, by simp [hs], ?_, rfl⟩, ?_, ?_⟩
 ·rw [zjm, zmi]
  refine ac.kept (row := some e) ⟨rfl, rfl, rfl, by simp [World.setCell], fun k _ hk => Below.heap_setCell _ _ _ _ (by simpa using hk)⟩ (.inr (zak ac hb2 (by decide)))
 ·exact (hf.grown hg (fun k hk => .inl (.inr hk.symm))).setCell (.inl (.inl rfl)) _
 ·rcases av with h | h
  ·exact .inl h
  ·exact .inr ⟨_, h, hz⟩
theorem one_src (w : World) (c : UInt8) : Src prog 1 44 (.slice (some ⟨w.heap.size, 0, none⟩) 1 1) 1 (bc [c]) (w.alloc (.cells #[.int .u8 c.toNat] 5)) :=
 Src.ofSlice (e' := 5) _ underlying44 _ 1 1 _ (by simp [zda]) (fun j u hj => by
  match j, hj with
  | 0, hj => simp [zd6] at hj; subst hj; simp [Addr.add]
  | j + 1, hj => simp [zd6] at hj) (zfC _)
theorem zck (e : Nat) (o : Option Nat) (xs : List UInt8) (c : UInt8) (w : World) (h : Enc w e o xs) (hl : xs.length <= 1099511627776) :
 Calls prog 180 #[.pointer (some ⟨e, 0, none⟩), .int .u8 c.toNat] w (zbZ w e o xs [c]) := by
 obtain ⟨v, cs, hb, hs, h0, ab, rfl⟩ := h; obtain ⟨i0, aC, az, ay, aB⟩ := info_parts zff; have hc : w.cell? ⟨e, 0, none⟩ = some v := (hb.cell 0).trans h0; clear h0; go_enter func180, ntmps180
 go_wp2_with (at_builtin; refine zaf _ rfl _ _ 44 44 rfl 0 5 i0 (.int .u8 0) 1 1 underlying44 aC az ay aB rfl (by decide) _ _ _ rfl (ab.alloc _) _ 1 (bc [c]) rfl (one_src w c) ?c1 ?c2 (zms _) ?_)
 case c1 => unfold maxLen; omega
 case c2 => omega
 intro v' w1 ac ad av
 obtain ⟨a', n', k', rfl⟩ := zab ac; obtain ⟨y, bP, ah, R⟩ := zec (w := w) ((znl _ w).alloc _) (hb.alloc _) hs (ab.alloc _) rfl ac ad av (by omega); clear hb ab hc ac ad av
 go_wp2; go_end0; exact ⟨rfl, R⟩
theorem zkz {w w0 : World} {e k : Nat} {cs : Array Value} {ys : List UInt8} (hb : Blk w e 224 cs) (hs : cs.size = 11) (hk : ys.length = k) (hy : ∀ j, j < ys.length -> cs[1 + j]? = (bc ys)[j]?) (hw : w0 = w) :
 Src prog 1 44 (.slice (some ⟨e, 1, none⟩) k 10) k (bc ys) w0 := by
 subst hk hw
 exact Src.ofSlice (e' := 5) _ underlying44 _ _ 10 _ (by simp [zda]) (fun j u hj => by
  have hl : j < ys.length := by
   rcases zmK j ys.length with h | h
   ·exact h
   ·rw [zmL (by rw [zda]; exact h)] at hj; cases hj
  have e1 : (⟨e, 1, none⟩ : Addr).add j = ⟨e, 1 + j, none⟩ := by unfold Addr.add; split <;> simp_all
  rw [e1, hb.cell, hy j hl, hj]) (zfC _)
theorem setAll_at : ∀ (vs : List Value) (o : Nat) (cs : Array Value), o + vs.length <= cs.size -> ∀ j, j < vs.length -> (zet cs o vs)[o + j]? = vs[j]? := by
 intro vs o cs h j hj; rw [<- Array.getElem?_toList, zci vs o cs h]; rw [zmk, zm5 (by simp; omega), zm4 (by simp; omega)]; congr 1; simp; omega
theorem zhQ : ∀ (vs : List Value) (o : Nat) (cs : Array Value), o + vs.length <= cs.size -> ∀ j, j < o -> (zet cs o vs)[j]? = cs[j]? := by
 intro vs o cs h j hj; rw [<- Array.getElem?_toList, zci vs o cs h, zmk, zm4 (by simp; omega), List.getElem?_take, if_pos hj, Array.getElem?_toList]
def EncC (w0 w : World) (e : Nat) (v : Value) (xs ys : List UInt8) : Prop :=
 ∃ cs : Array Value, Blk w e 224 cs /\ cs.size = 11 /\ w.cell? ⟨e, 0, none⟩ = some v /\ (∀ j, j < ys.length -> cs[1 + j]? = (bc ys)[j]?) /\ w.ownsRow 0 5 1 v xs.length (bc xs) /\ Fr (fun k => k = e ∨ some k = v.ownBlock) w0 w
theorem encC {w0 w : World} {e : Nat} {v : Value} {cs : Array Value} {xs ys : List UInt8} (hf : Fr (fun k => k = e ∨ some k = v.ownBlock) w0 w) (hb : Blk w e 224 cs) (hs : cs.size = 11) (h0 : cs[0]? = some v) (ab : w.ownsRow 0 5 1 v xs.length (bc xs)) (hy : ys.length <= 10) :
 EncC w0 (w.setCells e 1 (bc ys)) e v xs ys := by
 have hb1 := zdf (bc ys) 1 w cs hb; have bQ : 1 + (bc ys).length <= cs.size := by rw [zda]; omega
 refine ⟨_, hb1, by rw [zdC, hs], ?_, fun j hj => ?_, ?_, hf.setCells (.inl (.inl rfl)) _ _⟩
 ·rw [hb1.cell, zhQ _ _ _ bQ 0 (by omega), h0]
 ·exact setAll_at _ _ _ bQ j (by rw [zda]; exact hj)
 ·exact ab.kept (zd1 e _ _) (.inr (zak ab hb (by decide)))
theorem zcl (e : Nat) (o : Option Nat) (xs : List UInt8) (x : Nat) (hx : x < 18446744073709551616) (w : World) (h : Enc w e o xs) (hl : xs.length <= 1099511627776) :
 Calls prog 181 #[.pointer (some ⟨e, 0, none⟩), .int .u64 x] w (zbZ w e o xs (Lib.beBytes 8 x)) := by
 obtain ⟨v, cs, hb, hs, h0, ab, rfl⟩ := h; obtain ⟨i0, aC, az, ay, aB⟩ := info_parts zff; have aa : ∀ i, i < 11 -> w.drew.cell? ⟨e, i, none⟩ = some (cs[i]?.getD .nilFunc) := fun i hi => by
  rw [hb.drew.cell, Array.getElem?_eq_getElem (by omega)]; rfl
 have hP := (binary_BE_PutUint64 e 1 10 10 x hx _ _ _ _ _ _ _ _ w.drew (by omega) (aa 1 (by omega)) (aa 2 (by omega)) (aa 3 (by omega)) (aa 4 (by omega)) (aa 5 (by omega)) (aa 6 (by omega)) (aa 7 (by omega)) (aa 8 (by omega))
  (hb.drew.frozen _) (hb.drew.frozen _) (hb.drew.frozen _) (hb.drew.frozen _) (hb.drew.frozen _) (hb.drew.frozen _) (hb.drew.frozen _) (hb.drew.frozen _)).mono
  (R' := fun r w1 => r = .returned (.tuple #[]) /\ EncC w w1 e v xs (Lib.beBytes 8 x)) (fun r w1 ⟨hr, hw⟩ => ⟨hr, by
    subst hw
    exact encC (((znl _ w).drew).alloc _) (hb.drew.alloc _) hs h0 (World.ownsRow.alloc (w := w.drew) ab _) (by rw [zmr]; omega)⟩)
 clear aa hb hs h0 ab; have ai := zmr 8 x; generalize Lib.beBytes 8 x = ys at hP ai ⊢; go_enter func181, ntmps181; go_wp2_with fail
 go_region_with (go_at_call 239; refine hP.mono ?_; rintro r w1 ⟨rfl, hE⟩)
 clear hP; obtain ⟨cs, hb, hs, h0, hy, ab, hf⟩ := hE; go_wp2_with fail
 have aN := zak ab hb (by decide)
 go_region_law (refine zat _ (by rfl) _ _ 44 44 (by rfl) 0 5 i0 (.int .u8 0) 1 1 underlying44 aC az ay aB rfl (by decide) v xs.length (bc xs) (by rfl) ab.drew _ 8 (bc ys) (by rfl) (zkz hb.drew hs ai hy rfl) (by unfold maxLen; omega) (by omega) (zms _) ?_; intro v' w2 ac ad av; rw [<- ai] at ac; obtain ⟨a', n', k', rfl⟩ := zab ac; obtain ⟨y, bP, ah, R⟩ := zec hf.drew hb.drew hs ab.drew rfl ac ad av hf.size)
 all_goals
  go_wp2; go_end0; exact ⟨rfl, R⟩
theorem zcK (e : Nat) (o : Option Nat) (xs : List UInt8) (x : Nat) (hx : x < 18446744073709551616) (w : World) (h : Enc w e o xs) (hl : xs.length <= 1099511627776) :
 Calls prog 185 #[.pointer (some ⟨e, 0, none⟩), .int .u64 x] w (zbZ w e o xs (Lib.uvarint x)) := by
 obtain ⟨v, cs, hb, hs, h0, ab, rfl⟩ := h; obtain ⟨i0, aC, az, ay, aB⟩ := info_parts zff; have ai : (Lib.uvarint x).length <= 10 := zmx hx; have hP := (binary_PutUvarint e 1 10 10 x hx w (by omega) (fun j hj => ⟨by rw [hb.cell, Array.getElem?_eq_getElem (by omega)]; rfl, hb.frozen _⟩)).mono
  (R' := fun r w1 => r = .returned (.int .i64 (Lib.uvarint x).length) /\ EncC w w1 e v xs (Lib.uvarint x)) (fun r w1 ⟨hr, hw⟩ => ⟨hr, by
    subst hw
    exact encC (znl _ w) hb hs h0 ab ai⟩)
 clear hb hs h0 ab; generalize Lib.uvarint x = ys at hP ai ⊢; obtain ⟨k, hk⟩ := exE ys.length; rw [hk] at hP ai; have h0k : (0 : Int) <= (k : Int) := by omega
 have hk10 : (k : Int) <= 10 := by omega
 go_enter func185, ntmps185; go_wp2_with (go_at_call 241; refine hP.mono ?_; rintro r w1 ⟨rfl, hE⟩)
 clear hP; obtain ⟨cs, hb, hs, h0, hy, ab, hf⟩ := hE; have HK := zmh hk; clear hk; go_wp2_with fail
 go_region_law (refine zat _ (by rfl) _ _ 44 44 (by rfl) 0 5 i0 (.int .u8 0) 1 1 underlying44 aC az ay aB rfl (by decide) v xs.length (bc xs) (by rfl) ab.drew _ k (bc ys) (by rfl) (zkz hb.drew hs HK.out hy rfl) (by unfold maxLen; omega) (by omega) (zms _) ?_; intro v' w2 ac ad av; rw [<- HK.out] at ac; obtain ⟨a', n', k', rfl⟩ := zab ac; obtain ⟨y, bP, ah, R⟩ := zec hf.drew hb.drew hs ab.drew rfl ac ad av hf.size)
 all_goals
  go_wp2; go_end0; exact ⟨rfl, R⟩
theorem zaz (e : Nat) (o : Option Nat) (xs : List UInt8) (x : Int) (gC : -9223372036854775808 <= x) (fL : x <= 9223372036854775807) (w : World) (h : Enc w e o xs) (hl : xs.length <= 1099511627776) :
 Calls prog 183 #[.pointer (some ⟨e, 0, none⟩), .int .i64 x] w (zbZ w e o xs (Lib.uvarint (Lib.zigzag x))) := by
 obtain ⟨v, cs, hb, hs, h0, ab, rfl⟩ := h; obtain ⟨i0, aC, az, ay, aB⟩ := info_parts zff; have fK : Lib.zigzag x < 18446744073709551616 := by unfold Lib.zigzag; split <;> omega
 have ai : (Lib.uvarint (Lib.zigzag x)).length <= 10 := zmx fK; have hP := (binary_PutVarint e 1 10 10 x gC fL w (by omega) (fun j hj => ⟨by rw [hb.cell, Array.getElem?_eq_getElem (by omega)]; rfl, hb.frozen _⟩)).mono
  (R' := fun r w1 => r = .returned (.int .i64 (Lib.uvarint (Lib.zigzag x)).length) /\ EncC w w1 e v xs (Lib.uvarint (Lib.zigzag x))) (fun r w1 ⟨hr, hw⟩ => ⟨hr, by
    subst hw
    exact encC (znl _ w) hb hs h0 ab ai⟩)
 clear hb hs h0 ab fK; generalize Lib.uvarint (Lib.zigzag x) = ys at hP ai ⊢; obtain ⟨k, hk⟩ := exE ys.length; rw [hk] at hP ai; have h0k : (0 : Int) <= (k : Int) := by omega
 have hk10 : (k : Int) <= 10 := by omega
 go_enter func183, ntmps183; go_wp2_with (go_at_call 240; refine hP.mono ?_; rintro r w1 ⟨rfl, hE⟩)
 clear hP; obtain ⟨cs, hb, hs, h0, hy, ab, hf⟩ := hE; have HK := zmh hk; clear hk; go_wp2_with fail
 go_region_law (refine zat _ (by rfl) _ _ 44 44 (by rfl) 0 5 i0 (.int .u8 0) 1 1 underlying44 aC az ay aB rfl (by decide) v xs.length (bc xs) (by rfl) ab.drew _ k (bc ys) (by rfl) (zkz hb.drew hs HK.out hy rfl) (by unfold maxLen; omega) (by omega) (zms _) ?_; intro v' w2 ac ad av; rw [<- HK.out] at ac; obtain ⟨a', n', k', rfl⟩ := zab ac; obtain ⟨y, bP, ah, R⟩ := zec hf.drew hb.drew hs ab.drew rfl ac ad av hf.size)
 all_goals
  go_wp2; go_end0; exact ⟨rfl, R⟩
theorem Put.trans {w w1 w2 : World} {e : Nat} {o : Option Nat} {xs ys zs : List UInt8} (h : Put w e o xs ys w1) (h2 : ∀ o1, Enc w1 e o1 (xs ++ ys) -> Put w1 e o1 (xs ++ ys) zs w2) : Put w e o xs (ys ++ zs) w2 := by
 obtain ⟨o1, he, hf, ho⟩ := h; obtain ⟨o2, he2, aq, dJ⟩ := h2 o1 he; refine ⟨o2, by rw [<- zmk]; exact he2, hf.trans aq ?_, ?_⟩
 ·rintro k hk (rfl | cI)
  ·exact .inl rfl
  ·rcases ho with rfl | ⟨k', rfl, fD⟩
   ·exact .inr cI
   ·injection cI with cI; omega
 ·rcases dJ with rfl | ⟨k, rfl, hk⟩
  ·exact ho
  ·exact .inr ⟨k, rfl, zm0 hf.size hk⟩
theorem Put.refl {w : World} {e : Nat} {o : Option Nat} {xs : List UInt8} (h : Enc w e o xs) : Put w e o xs [] w := ⟨o, by simpa using h, znl _ w, .inl rfl⟩
theorem Put.step {w w1 w2 : World} {e : Nat} {o o1 : Option Nat} {xs ys zs : List UInt8} (he : Enc w1 e o1 (xs ++ ys)) (hf : Fr (fun k => k = e ∨ some k = o) w w1) (ho : o1 = o ∨ ∃ k, o1 = some k /\ w.heap.size <= k) (h2 : Put w1 e o1 (xs ++ ys) zs w2) : Put w e o xs (ys ++ zs) w2 := by
 obtain ⟨o2, he2, aq, dJ⟩ := h2; refine ⟨o2, by rw [<- zmk]; exact he2, hf.trans aq ?_, ?_⟩
 ·rintro k hk (rfl | cI)
  ·exact .inl rfl
  ·rcases ho with rfl | ⟨k', rfl, fD⟩
   ·exact .inr cI
   ·injection cI with cI; omega
 ·rcases dJ with rfl | ⟨k, rfl, hk⟩
  ·exact ho
  ·exact .inr ⟨k, rfl, zm0 hf.size hk⟩
theorem str_src (w : World) (s : ByteArray) : Src prog 1 9 (.string s) s.size (bc s.data.toList) w := Src.ofString w underlying9 s
theorem putString (e : Nat) (o : Option Nat) (xs : List UInt8) (s : ByteArray) (w : World) (h : Enc w e o xs) (hl : xs.length <= 1099511627776) (bD : s.size <= 1099511627776) :
 Calls prog 242 #[.pointer (some ⟨e, 0, none⟩), .string s] w (zbZ w e o xs s.data.toList) := by
 obtain ⟨v, cs, hb, hs, h0, ab, rfl⟩ := h; obtain ⟨i0, aC, az, ay, aB⟩ := info_parts zff; have hc : w.cell? ⟨e, 0, none⟩ = some v := (hb.cell 0).trans h0; clear h0; go_enter func242, ntmps242
 go_wp2_with (at_builtin; refine zaf _ rfl _ _ 44 9 rfl 0 5 i0 (.int .u8 0) 1 1 underlying44 aC az ay aB rfl (by decide) _ _ _ rfl ab _ s.size (bc s.data.toList) rfl (str_src w s) ?c1 ?c2 (zms _) ?_)
 case c1 => unfold maxLen; omega
 case c2 => omega
 intro v' w1 ac ad av
 obtain ⟨a', n', k', rfl⟩ := zab ac; obtain ⟨y, bP, ah, R⟩ := zec (w := w) (znl _ w) hb hs ab rfl ac ad av (by omega); clear hb ab hc ac ad av
 go_wp2; go_end0; exact ⟨rfl, R⟩
theorem za8 (e : Nat) (o : Option Nat) (xs : List UInt8) (n : Nat) (hn : n <= 9223372036854775807) (w : World) (h : Enc w e o xs) (hl : xs.length <= 1099511627776) :
 Calls prog 186 #[.pointer (some ⟨e, 0, none⟩), .int .i64 n] w (zbZ w e o xs (Lib.uvarint n)) := by
 have hP := zcK e o xs n (by omega) w h hl; clear h; go_enter func186, ntmps186; go_wp2_with (go_at_call 185; refine hP.mono ?_; rintro r w1 ⟨rfl, R⟩)
 go_end0; exact ⟨rfl, R⟩
theorem zdi (e : Nat) (o : Option Nat) (xs : List UInt8) (n : Nat) (hn : n < 4294967296) (w : World) (h : Enc w e o xs) (hl : xs.length <= 1099511627776) :
 Calls prog 243 #[.pointer (some ⟨e, 0, none⟩), .int .u32 n] w (zbZ w e o xs (Lib.uvarint n)) := by
 have hP := zcK e o xs n (by omega) w h hl; clear h; go_enter func243, ntmps243; go_wp2_with (go_at_call 185; refine hP.mono ?_; rintro r w1 ⟨rfl, R⟩)
 go_end0; exact ⟨rfl, R⟩
def u64 (x : Int) : Nat := (x % 18446744073709551616).toNat
theorem zkF (x : Int) : u64 x < 18446744073709551616 := by unfold u64; omega
theorem zdj (e : Nat) (o : Option Nat) (xs : List UInt8) (x : Int) (w : World) (h : Enc w e o xs) (hl : xs.length <= 1099511627776) :
 Calls prog 182 #[.pointer (some ⟨e, 0, none⟩), .int .i64 x] w (zbZ w e o xs (Lib.beBytes 8 (u64 x))) := by
 have hP := zcl e o xs (u64 x) (zkF x) w h hl; clear h; have hu : ((u64 x : Nat) : Int) = x % 18446744073709551616 := by unfold u64; omega
 rw [hu] at hP; have HU := zmh hu; clear hu; go_enter func182, ntmps182; go_wp2_with (go_at_call 181; refine hP.mono ?_; rintro r w1 ⟨rfl, R⟩)
 go_end0; exact ⟨rfl, R⟩
theorem zkI (e : Nat) (o : Option Nat) {w w1 : World} {xs ys zs : List UInt8} (h : Put w e o xs ys w1) {f : FuncId} {args : Array Value}
 (hc : ∀ o1, Enc w1 e o1 (xs ++ ys) -> Calls prog f args w1 (zbZ w1 e o1 (xs ++ ys) zs)) : Calls prog f args w1 fun r w2 => r = .returned (.tuple #[]) /\ Put w e o xs (ys ++ zs) w2 := by
 obtain ⟨o1, he, hf, ho⟩ := h; exact (hc o1 he).mono fun r w2 ⟨hr, h2⟩ => ⟨hr, Put.step he hf ho h2⟩
theorem zb1 (e : Nat) (o : Option Nat) (xs : List UInt8) (s : ByteArray) (w : World) (h : Enc w e o xs) (hl : xs.length <= 549755813888) (bD : s.size <= 549755813888) :
 Calls prog 187 #[.pointer (some ⟨e, 0, none⟩), .string s] w (zbZ w e o xs (Lib.uvarint s.size ++ s.data.toList)) := by
 have hP := za8 e o xs s.size (by omega) w h (by omega); clear h; have ai : (Lib.uvarint s.size).length <= 10 := zmx (by omega); generalize Lib.uvarint s.size = ys at hP ai ⊢; go_enter func187, ntmps187; go_wp2_with (go_at_call 186; refine hP.mono ?_; rintro r w1 ⟨rfl, R⟩; refine Hid.out ?_)
 clear hP; have hQ := zkI e o R (f := 242) (args := #[.pointer (some ⟨e, 0, none⟩), .string s]) (zs := s.data.toList) (fun o1 he => putString e o1 _ s w1 he (by rw [zmi]; omega) (by omega)); clear R; refine zmh ?_; go_wp2_with (go_at_call 242; refine hQ.mono ?_; rintro r w2 ⟨rfl, R⟩)
 go_end0; exact ⟨rfl, R⟩
theorem zd4 (e : Nat) (o : Option Nat) (xs : List UInt8) (w : World) (h : Enc w e o xs) :
 Calls prog 116 #[.pointer (some ⟨e, 0, none⟩)] w fun r w' => ∃ v, r = .returned v /\ w = w' /\ w.ownsRow 0 5 1 v xs.length (bc xs) /\ v.ownBlock = o := by
 obtain ⟨v, cs, hb, hs, h0, ab, rfl⟩ := h; have hc : w.cell? ⟨e, 0, none⟩ = some v := (hb.cell 0).trans h0; obtain ⟨a', n', k', rfl⟩ := zab ab; have HO := zmh ab; clear ab h0; go_enter func116, ntmps116; go_wp2; go_ret; exact ⟨_, rfl, rfl, HO.out, rfl⟩
theorem ziD (b : Nat) (w : World) : (callFunc 168 #[.float .f64 b]).run prog w = .ok (.value (.int .u64 b)) w :=
 run_callFunc_extern (e := Extern.MathFloatBits.float64bits) func168 (by kernel_rfl) (by kernel_rfl) (by kernel_rfl) (by kernel_rfl) _ _
theorem ziE (b : Nat) (w : World) : (callFunc 166 #[.int .u64 b]).run prog w = .ok (.value (.float .f64 b)) w :=
 run_callFunc_extern (e := Extern.MathFloatBits.float64frombits) func166 (by kernel_rfl) (by kernel_rfl) (by kernel_rfl) (by kernel_rfl) _ _
theorem zbV (e : Nat) (o : Option Nat) (xs : List UInt8) (x : Nat) (hx : x < 18446744073709551616) (w : World) (h : Enc w e o xs) (hl : xs.length <= 1099511627776) :
 Calls prog 244 #[.pointer (some ⟨e, 0, none⟩), .float .f64 x] w (zbZ w e o xs (Lib.beBytes 8 x)) := by
 have hP := zcl e o xs x hx w h hl; have hr := ziD; clear h; go_enter func244, ntmps244; go_wp2_with (go_at_call 181; refine hP.mono ?_; rintro r w1 ⟨rfl, R⟩)
 go_end0; exact ⟨rfl, R⟩
def Sl (P : Nat -> Prop) (w : World) (v : Value) (size n : Nat) (xs : List Value) : Prop :=
 ∃ A c, v = .slice A n c /\ xs.length = n * size /\ n <= c /\ (0 < n -> ∃ g off, A = some ⟨g, off, none⟩ /\ P g /\ ∀ j u, xs[j]? = some u -> w.cell? ⟨g, off + j, none⟩ = some u)
theorem Sl.fr {P S : Nat -> Prop} {w w' : World} {v : Value} {size n : Nat} {xs : List Value} (h : Sl P w v size n xs) (hf : Fr S w w') (hs : ∀ g, P g -> ¬ S g) : Sl P w' v size n xs := by
 obtain ⟨A, c, hv, hl, hc, hr⟩ := h; refine ⟨A, c, hv, hl, hc, fun hn => ?_⟩; obtain ⟨g, off, hA, hP, aa⟩ := hr hn
 exact ⟨g, off, hA, hP, fun j u hu => by
  have := aa j u hu; rw [hf.cell (p := ⟨g, off + j, none⟩) (zmo w _ this) (hs g hP)]
  exact this⟩
theorem Sl.mono {P Q : Nat -> Prop} {w : World} {v : Value} {size n : Nat} {xs : List Value} (h : Sl P w v size n xs) (hs : ∀ g, P g -> Q g) : Sl Q w v size n xs := by
 obtain ⟨A, c, hv, hl, hc, hr⟩ := h; exact ⟨A, c, hv, hl, hc, fun hn => let ⟨g, off, hA, hP, aa⟩ := hr hn; ⟨g, off, hA, hs g hP, aa⟩⟩
theorem Sl.ofOwn {w : World} {base : Nat} {e : TypeId} {size n : Nat} {v : Value} {xs : List Value} (h : w.ownsRow base e size v n xs) : Sl (fun g => v.ownBlock = some g) w v size n xs := by
 have hl := h.1; rcases h.2 with ⟨rfl, rfl⟩ | ⟨g, aK, cur, rfl, _, hg, hc, _⟩
 ·exact ⟨_, _, rfl, hl, zmt _, fun h => absurd h (by omega)⟩
 ·refine ⟨_, _, rfl, hl, hc, fun _ => ⟨g, 0, rfl, rfl, fun j u hu => ?_⟩⟩
  have := h.cells (g := g) rfl j u hu; have e1 : (⟨g, 0, none⟩ : Addr).add j = ⟨g, 0 + j, none⟩ := by unfold Addr.add; split <;> simp_all
  rwa [e1] at this
theorem zno : type_of% @Sl.ofOwn := @Sl.ofOwn
structure Smp where
 ref : Nat
 t : Int
 v : Nat
def Smp.wf (s : Smp) : Prop := s.ref < 18446744073709551616 /\ -9223372036854775808 <= s.t /\ s.t <= 9223372036854775807 /\ s.v < 18446744073709551616
def Smp.a (s : Smp) : List Value := [.int .u64 s.ref, .int .i64 s.t, .int .u64 s.v]
def Smp.b (s : Smp) : List Value := [.int .u64 s.ref, .int .i64 s.t, .float .f64 s.v]
theorem info137 : (prog.info? 137).map (fun i => (i.zero, i.size, i.bytes)) = some (some (.agg #[.int .u64 0, .int .i64 0, .float .f64 0]), 3, 24) := by kernel_rfl
theorem ze1 (b : Nat) (w : World) : Calls prog 167 #[.int .u64 b] w fun r w' => r = .returned (.float .f64 b) /\ w = w' := by
 have hr := ziE; go_enter func167, ntmps167; go_wp2; go_ret; exact ⟨rfl, rfl⟩
theorem ze2 {α : Type} (f : α -> List Value) (h3 : ∀ x, (f x).length = 3) : ∀ (l : List α) (k : Nat) (x : α), l[k]? = some x -> ∀ j, j < 3 -> (l.flatMap f)[k * 3 + j]? = (f x)[j]?
 | [], k, x, h, j, hj => by simp at h
 | y :: l, 0, x, h, j, hj => by
   simp at h; subst h; rw [zmw, zm4 (by rw [h3]; omega)]; simp
 | y :: l, k + 1, x, h, j, hj => by
   rw [zmw, zm5 (by rw [h3]; omega), h3, show (k + 1) * 3 + j - 3 = k * 3 + j by omega]; exact ze2 f h3 l k x (by simpa using h) j hj
theorem zaF {W : World} {g t tx e size : Nat} {cs : List Value} (hk : prog.underlying tx = some (.slice e)) (hb : Blk W g t cs.toArray) (hl : cs.length = size) (h1 : ∀ u ∈ cs, u.oneCell' = true) : Src prog size tx (.slice (some ⟨g, 0, none⟩) 1 1) 1 cs W :=
 Src.ofSlice (e' := e) _ hk _ 1 1 _ (by omega) (fun j u hj => by
  have e1 : (⟨g, 0, none⟩ : Addr).add j = ⟨g, j, none⟩ := by unfold Addr.add; split <;> simp_all
  rw [e1, hb.cell]
  simpa using hj) h1
theorem zaH (w : World) (o : Obj) (t : Nat) (cs : Array Value) : Blk ((w.alloc o).alloc (.cells cs t)) (w.heap.size + 1) t cs := by
 have := znm (w.alloc o) t cs; simpa using this
theorem zam {α : Type} (f : α -> List Value) (l : List α) (k : Nat) (x : α) (h : l[k]? = some x) : (l.take (k + 1)).flatMap f = (l.take k).flatMap f ++ f x := by
 rw [zmS, h]; simp
def zhi (w : World) (l : List Smp) (r : Ending) (w' : World) : Prop :=
 ∃ v, r = .returned v /\ w'.ownsRow w.heap.size 137 3 v l.length (l.flatMap Smp.b) /\ Fr (fun _ => False) w w'
theorem zev (P : Nat -> Prop) (v : Value) (l : List Smp) (w : World) (h : Sl P w v 3 l.length (l.flatMap Smp.a)) (hl : l.length <= 1099511627776) :
 Calls prog 72 #[v] w (zhi w l) := by
 obtain ⟨A, c, rfl, ai, aQ, hr⟩ := h; obtain ⟨n, hn⟩ := exE l.length; rw [hn] at hr aQ hl ⊢; have HN := zmh hn; have HR := zmh hr; obtain ⟨i0, aC, az, ay, aB⟩ := info_parts info137; clear hn hr ai; go_enter func72, ntmps72; go_wp2
 go_loopw [2, 7] (fun v i wr => ∃ k : Nat, k <= n /\ i = .int .i64 k /\ wr.ownsRow w.heap.size 137 3 v k ((l.take k).flatMap Smp.b) /\ Fr (fun _ => False) w wr) (fun _ i _ => n - (intOf i).toNat)
 case atStart => exact ⟨0, zms _, rfl, zmv _ _ _ _, znl _ _⟩
 case round =>
  obtain ⟨k, hk, rfl, ab, hf⟩ := hrel; by_cases hlt : k < n
  ·obtain ⟨g, off, rfl, _, aa⟩ := HR.out (by omega)
   obtain ⟨x, hx⟩ : ∃ x, l[k]? = some x := ⟨_, zmj (by rw [HN.out]; exact hlt)⟩; have cc : ∀ j, j < 3 -> ∀ u, (Smp.a x)[j]? = some u -> wr.cell? ⟨g, off + (k * 3 + j), none⟩ = some u := fun j hj u hu => by
    have := aa (k * 3 + j) u (by rw [ze2 Smp.a (fun _ => rfl) l k x hx j hj]; exact hu); rw [hf.cell (p := ⟨g, off + (k * 3 + j), none⟩) (zmo w _ this) (fun e => e)]; exact this
   have c0 : wr.cell? ⟨g, off + k * 3, none⟩ = some (.int .u64 x.ref) := cc 0 (by omega) _ rfl; have c1 : wr.cell? ⟨g, off + k * 3 + 1, none⟩ = some (.int .i64 x.t) := cc 1 (by omega) _ rfl; have c2 : wr.cell? ⟨g, off + k * 3 + 2, none⟩ = some (.int .u64 x.v) := cc 2 (by omega) _ rfl; have HC := zmh aa; have HO := zmh ab; have HX := zmh hx; obtain ⟨a', n', k', rfl⟩ := zab ab
   clear aa cc ab hx; go_wp2_with fail
   have s0 : (wr.alloc (Obj.cells #[Value.int IntKind.u64 ↑x.ref, Value.int IntKind.i64 x.t, Value.int IntKind.u64 ↑x.v] 113)).cell? ⟨wr.heap.size, 0, none⟩ = some (.int .u64 x.ref) := by simp
   have s1 : (wr.alloc (Obj.cells #[Value.int IntKind.u64 ↑x.ref, Value.int IntKind.i64 x.t, Value.int IntKind.u64 ↑x.v] 113)).cell? ⟨wr.heap.size, 1, none⟩ = some (.int .i64 x.t) := by simp
   have s2 : (wr.alloc (Obj.cells #[Value.int IntKind.u64 ↑x.ref, Value.int IntKind.i64 x.t, Value.int IntKind.u64 ↑x.v] 113)).cell? ⟨wr.heap.size, 2, none⟩ = some (.int .u64 x.v) := by simp
   have bD := hf.size; have aN : some wr.heap.size ≠ (Value.slice a' n' k').ownBlock := fun e => by have := zaq HO.out e.symm; omega
   go_region_held3 (fun w' => w'.cell? ⟨wr.heap.size, 0, none⟩ = some (.int .u64 x.ref) /\ w'.cell? ⟨wr.heap.size, 1, none⟩ = some (.int .i64 x.t) /\ w'.cell? ⟨wr.heap.size, 2, none⟩ = some (.int .u64 x.v)) ((first | (go_split_ands; refine ⟨?_, ?_, ?_⟩ <;> (rw [World.grownBy.cell_far ad _ (by simp; omega) aN]; assumption)) | go_keep))
    ((first
      | (go_at_call 167; refine (ze1 _ _).mono ?_; rintro r w' ⟨rfl, rfl⟩)
      | (refine zat _ (by rfl) _ _ 131 131 (by rfl) w.heap.size 137 i0 _ 3 24 underlying131 aC az ay aB rfl (by decide) (.slice a' n' k') k ((l.take k).flatMap Smp.b) (by rfl) ((HO.out.alloc _).alloc _).drew _ 1 (Smp.b x) (by rfl) (zaF underlying131 (zaH wr _ 137 (Smp.b x).toArray).drew rfl (by simp [Smp.b, Value.oneCell'])) (by unfold maxLen; omega) (by omega) (by simp; omega) ?_; intro v' w2 ac ad av)))
   have af : w2.ownsRow w.heap.size 137 3 v' (k + 1) ((l.take (k + 1)).flatMap Smp.b) := by rw [zam Smp.b l k x HX.out]; exact ac
   have aq : Fr (fun _ => False) w w2 := (((hf.alloc _).alloc _).drew).grown ad (fun g hg => .inr (((HO.out.lt g hg)).1)); have cD := zmh af; have bu := zmh aq; clear ac ad af aq hf c0 c1 c2 s0 s1 s2 av aN bD; go_wp2; go_roundw
   case rel => exact ⟨k + 1, by omega, by go_num, cD.out, bu.out⟩
   case measure => simp [intOf]; omega
  ·go_wp2
   go_ret; obtain rfl : k = n := by omega
   refine ⟨_, rfl, ?_, hf⟩; rw [<- HN.out] at ab ⊢; rw [zmI] at ab; exact ab
theorem zbU (w : World) (a : Addr) (k : FloatKind) (b : Nat) (m : Mode) : (store a (.float k b) m).run prog w = stored prog w a (.float k b) m := run_store prog w a _ m rfl
theorem Enc.alloc {w : World} {e : Nat} {o : Option Nat} {xs : List UInt8} (h : Enc w e o xs) (ob : Obj) : Enc (w.alloc ob) e o xs := by
 obtain ⟨v, cs, hb, hs, h0, ab, hv⟩ := h; exact ⟨v, cs, hb.alloc ob, hs, h0, ab.alloc ob, hv⟩
theorem Put.alloc {w w1 : World} {e : Nat} {o : Option Nat} {xs ys : List UInt8} (h : Put w e o xs ys w1) (ob : Obj) : Put w e o xs ys (w1.alloc ob) := by
 obtain ⟨o1, he, hf, ho⟩ := h; exact ⟨o1, he.alloc ob, hf.alloc ob, ho⟩
theorem Enc.made {w : World} {v : Value} {xs : List UInt8} {z : Value} (h : w.ownsRow 0 5 1 v xs.length (bc xs)) (ob : Obj) (hob : ob = .cells #[v, z, z, z, z, z, z, z, z, z, z] 224) : Enc (w.alloc ob) w.heap.size v.ownBlock xs := by
 subst hob; exact ⟨v, _, znm w 224 _, rfl, rfl, h.alloc _, rfl⟩
theorem zae (x : Int) : -9223372036854775808 <= wrap64 x /\ wrap64 x <= 9223372036854775807 := by unfold wrap64; omega
def zmd (f s : Smp) : Int := wrap64 (wrap64 s.ref - wrap64 f.ref)
def dT (f s : Smp) : Int := wrap64 (s.t - f.t)
def zbq (f s : Smp) : List UInt8 := Lib.uvarint (Lib.zigzag (zmd f s)) ++ (Lib.uvarint (Lib.zigzag (dT f s)) ++ Lib.beBytes 8 s.v)
def zd3 (f : Smp) : List UInt8 := Lib.beBytes 8 f.ref ++ Lib.beBytes 8 (u64 f.t)
def zaE : List Smp -> List UInt8
 | [] => [2]
 | f :: r => [2] ++ (zd3 f ++ (f :: r).flatMap (zbq f))
theorem zdV (x : Int) (h0 : -9223372036854775808 <= x) (h1 : x <= 9223372036854775807) : (Lib.uvarint (Lib.zigzag x)).length <= 10 := zmx (by unfold Lib.zigzag; split <;> omega)
theorem zfk (f s : Smp) : (zbq f s).length <= 28 := by
 have h1 := zdV (zmd f s) (zae _).1 (zae _).2; have h2 := zdV (dT f s) (zae _).1 (zae _).2; simp only [zbq, zmi, zmr]; omega
theorem zdN {α : Type} (f : α -> List UInt8) (m : Nat) (hf : ∀ x, (f x).length <= m) : ∀ l : List α, (l.flatMap f).length <= l.length * m
 | [] => by simp
 | x :: l => by
   have h1 := zdN f m hf l; have h2 := hf x; rw [zmw, zmi, zmz, Nat.add_mul]; omega
theorem zal {α β : Type} (f : α -> List β) (l : List α) (k : Nat) (x : α) (h : l[k]? = some x) : (l.take (k + 1)).flatMap f = (l.take k).flatMap f ++ f x := by
 rw [zmS, h]; simp
def zbP (w : World) (o : Option Nat) (ys : List UInt8) (r : Ending) (w' : World) : Prop :=
 ∃ v', r = .returned v' /\ w'.ownsRow 0 5 1 v' ys.length (bc ys) /\ Fr (fun k => some k = o) w w' /\ (v'.ownBlock = o ∨ ∃ k, v'.ownBlock = some k /\ w.heap.size <= k)
theorem Enc.apart {w : World} {e : Nat} {o : Option Nat} {xs : List UInt8} (h : Enc w e o xs) {g t : Nat} {cs : Array Value} (hb : Blk w g t cs) (h1 : t ≠ 224) (h2 : t ≠ 5) : ¬ (g = e ∨ some g = o) := by
 obtain ⟨v, jU, bJ, _, _, ab, rfl⟩ := h; rintro (rfl | h)
 ·exact znn hb bJ h1 rfl
 ·exact zak ab hb (Ne.symm h2) h.symm
theorem Put.blk {w w' : World} {e : Nat} {o : Option Nat} {xs ys : List UInt8} (h : Put w e o xs ys w') (he : Enc w e o xs) {g t : Nat} {cs : Array Value} (hb : Blk w g t cs) (h1 : t ≠ 224) (h2 : t ≠ 5) : Blk w' g t cs := by
 obtain ⟨_, _, hf, _⟩ := h; exact hb.fr hf (he.apart hb h1 h2)
theorem Put.fr {w w' : World} {e : Nat} {o : Option Nat} {xs ys : List UInt8} (h : Put w e o xs ys w') : Fr (fun k => k = e ∨ some k = o) w w' := let ⟨_, _, hf, _⟩ := h; hf
def Keeps (w w' : World) : Prop := ∀ g t cs, t ≠ 224 -> t ≠ 5 -> Blk w g t cs -> Blk w' g t cs
theorem Put.keeps {w w' : World} {e : Nat} {o : Option Nat} {xs ys : List UInt8} (h : Put w e o xs ys w') (he : Enc w e o xs) : Keeps w w' := fun g t cs h1 h2 hb => h.blk he hb h1 h2
theorem zag {e : Nat} {o : Option Nat} {w w1 : World} {xs ys zs : List UInt8} (h : Put w e o xs ys w1) {f : FuncId} {args : Array Value}
 (hc : ∀ o1, Enc w1 e o1 (xs ++ ys) -> Calls prog f args w1 (zbZ w1 e o1 (xs ++ ys) zs)) : Calls prog f args w1 fun r w2 => r = .returned (.tuple #[]) /\ Put w e o xs (ys ++ zs) w2 /\ Hid (Keeps w1 w2) := by
 obtain ⟨o1, he, hf, ho⟩ := h; exact (hc o1 he).mono fun r w2 ⟨hr, h2⟩ => ⟨hr, Put.step he hf ho h2, h2.keeps he⟩
theorem zdl {w w1 : World} {ob : Obj} {o o1 : Option Nat} (hf : Fr (fun k => k = w.heap.size ∨ some k = o) (w.alloc ob) w1) : Fr (fun k => some k = o) w w1 :=
 ((znl (fun k => some k = o) w).alloc ob).trans hf (fun k hk h => by rcases h with rfl | h; omega; exact h)
theorem zg8 (ep : Value) (sv : Value) (P : Nat -> Prop) (v : Value) (xs : List UInt8) (w : World) (h : Sl P w sv 3 0 []) (ab : w.ownsRow 0 5 1 v xs.length (bc xs)) (hl : xs.length <= 1073741824) :
 Calls prog 92 #[ep, sv, v] w (zbP w v.ownBlock (xs ++ [2])) := by
 obtain ⟨A, c, rfl, ai, aQ, hr⟩ := h; obtain ⟨a', n', k', rfl⟩ := zab ab; have hE := Enc.made (z := .int .u8 0) ab _ rfl; have hP := zck w.heap.size _ xs 2 _ hE (by omega); have e2 : ((2 : UInt8).toNat : Int) = 2 := rfl; rw [e2] at hP; clear hE hr e2; go_enter func92, ntmps92
 go_wp2_with (first | (go_at_call 180; refine hP.mono ?_; rintro r w1 ⟨rfl, R⟩; obtain ⟨o1, eF, ah, dK⟩ := R; have hG := zd4 _ _ _ _ eF) | (go_at_call 116; refine hG.mono ?_; rintro r w2 ⟨v2, rfl, rfl, af, bd⟩))
 go_ret; refine ⟨v2, rfl, af, zdl (o1 := o1) ah, ?_⟩; rw [bd]; rcases dK with h | ⟨k, h, hk⟩
 ·exact .inl h
 ·exact .inr ⟨k, h, by simp at hk; omega⟩
theorem zgL (ep : Value) (sv : Value) (P : Nat -> Prop) (v : Value) (xs : List UInt8) (f : Smp) (r : List Smp) (w : World) (h : Sl P w sv 3 (r.length + 1) ((f :: r).flatMap Smp.b)) (ab : w.ownsRow 0 5 1 v xs.length (bc xs)) (hl : xs.length <= 1073741824)
 (au : r.length <= 1073741824) (aD : ∀ s ∈ f :: r, s.wf) (hP : ∀ g, P g -> g < w.heap.size /\ some g ≠ v.ownBlock) :
 Calls prog 92 #[ep, sv, v] w (zbP w v.ownBlock (xs ++ zaE (f :: r))) := by
 have HS := zmh h; obtain ⟨A, c, rfl, ai, aQ, hr⟩ := h; obtain ⟨a', n', k', rfl⟩ := zab ab; obtain ⟨n, hn⟩ := exE (r.length + 1); rw [hn] at HS aQ hr ⊢; obtain ⟨g, off, rfl, ga, aa⟩ := hr (by omega); have hE := Enc.made (z := .int .u8 0) ab _ rfl; have hQ := zck w.heap.size _ xs 2 _ hE (by omega); have e2 : ((2 : UInt8).toNat : Int) = 2 := rfl; rw [e2] at hQ
 have HN := zmh hn; have c0 : w.cell? ⟨g, off, none⟩ = some (.int .u64 f.ref) := by simpa using aa 0 _ rfl
 have c1 : w.cell? ⟨g, off + 1, none⟩ = some (.int .i64 f.t) := aa 1 _ rfl; have c2 : w.cell? ⟨g, off + 2, none⟩ = some (.float .f64 f.v) := aa 2 _ rfl; have hg := hP g ga; have fT : ((n : Int) == 0) = false := by simp; omega
 have eM : (0 : Int) < (n : Int) := by omega
 have dW := zmh aa; have hsf := zbU
 clear hE hr e2 hn ai aa; go_enter func92, ntmps92; go_wp2_with (go_at_call 180; refine hQ.mono ?_; rintro r1 w1 ⟨rfl, R⟩; refine Hid.out ?_)
 obtain ⟨o1, eF, ah, dK⟩ := R; have dE := zdl (o1 := o1) ah; have iD := ah.size; simp at iD; have oL : ∀ j u, w.cell? ⟨g, off + j, none⟩ = some u -> w1.cell? ⟨g, off + j, none⟩ = some u := fun j u hu => by
  rw [dE.cell (p := ⟨g, off + j, none⟩) hg.1 hg.2]; exact hu
 have d0 : w1.cell? ⟨g, off, none⟩ = some (.int .u64 f.ref) := oL 0 _ c0; have d1 := oL 1 _ c1; have d2 := oL 2 _ c2; have ax := znm w1 137 #[.int .u64 f.ref, .int .i64 f.t, .float .f64 f.v]; have nN := eF.alloc (.cells #[.int .u64 f.ref, .int .i64 f.t, .float .f64 f.v] 137); have dc := zcl w.heap.size o1 (xs ++ [2]) f.ref (aD f (by simp)).1 _ nN (by simp; omega)
 have HE := zmh nN; have HB := zmh ax; have bX := zmh dE; have de := zmh dK; clear hQ ah dE oL c0 c1 c2 dK ax eF nN; refine zmh ?_; go_wp2_with (go_at_call 181; refine dc.mono ?_; rintro r2 w2 ⟨rfl, R2⟩; refine Hid.out ?_)
 have bn := R2.blk HE.out HB.out (by decide) (by decide); have b0 := bn.cell 0; have b1 := bn.cell 1; have b2 := bn.cell 2; simp at b0 b1 b2; have jh := zkI w.heap.size o1 R2 (f := 182) (args := #[.pointer (some ⟨w.heap.size, 0, none⟩), .int .i64 f.t]) (zs := Lib.beBytes 8 (u64 f.t)) (fun o2 he => zdj _ o2 _ f.t w2 he (by simp [zmr]; omega)); have ek := R2.fr.size
 clear dc d0 d1 d2; refine zmh ?_; go_wp2_with (go_at_call 182; refine jh.mono ?_; rintro r3 w3 ⟨rfl, R3⟩; refine Hid.out ?_)
 have gW := R3.blk HE.out HB.out (by decide) (by decide); have b0' := gW.cell 0; have b1' := gW.cell 1; simp at b0' b1'; clear jh b0 b1 b2 bn R2; refine zmh ?_; go_wp2_with fail
 have cL : Fr (fun k => some k = (Value.slice a' n' k').ownBlock) w (w1.alloc (.cells #[.int .u64 f.ref, .int .i64 f.t, .float .f64 f.v] 137)) := bX.out.alloc _; clear gW b0' b1' bX; generalize dZ : w1.alloc (.cells #[.int .u64 f.ref, .int .i64 f.t, .float .f64 f.v] 137) = WB at R3 HE HB cL; clear dZ; generalize cB : w1.heap.size = f8 at HB iD
 have hO1 : ∀ k, k < w.heap.size -> (k = w.heap.size ∨ some k = o1) -> some k = (Value.slice a' n' k').ownBlock := by
  rintro k hk (rfl | h)
  ·omega
  ·rcases de.out with h1 | ⟨k2, h1, h2⟩
   ·rw [h, h1]
   ·rw [h1] at h; injection h with h; simp at h2; omega
 have cS := zmh cL; have HO := zmh hO1; clear cL hO1 cB; go_loopw [29] (fun i wr => ∃ k : Nat, k <= n /\ i = .int .i64 k /\ Put WB w.heap.size o1 (xs ++ [2]) (zd3 f ++ ((f :: r).take k).flatMap (zbq f)) wr) (fun i _ => n - (intOf i).toNat)
 case atStart => exact ⟨0, zms _, rfl, by simpa [zd3] using R3⟩
 case round =>
  obtain ⟨k, hk, rfl, R⟩ := hrel; by_cases hlt : k < n
  ·obtain ⟨x, hx⟩ : ∃ x, (f :: r)[k]? = some x := ⟨_, zmj (by rw [zmz, HN.out]; exact hlt)⟩
   have eW := aD x (zmp hx); have dM : Fr (fun k => some k = (Value.slice a' n' k').ownBlock) w wr := cS.out.trans R.fr HO.out; have cc : ∀ j, j < 3 -> ∀ u, (Smp.b x)[j]? = some u -> wr.cell? ⟨g, off + (k * 3 + j), none⟩ = some u := fun j hj u hu => by
    rw [dM.cell (p := ⟨g, off + (k * 3 + j), none⟩) hg.1 hg.2]; exact dW.out (k * 3 + j) u (by rw [ze2 Smp.b (fun _ => rfl) (f :: r) k x hx j hj]; exact hu)
   have d0 : wr.cell? ⟨g, off + k * 3, none⟩ = some (.int .u64 x.ref) := cc 0 (by omega) _ rfl; have d1 : wr.cell? ⟨g, off + k * 3 + 1, none⟩ = some (.int .i64 x.t) := cc 1 (by omega) _ rfl; have d2 : wr.cell? ⟨g, off + k * 3 + 2, none⟩ = some (.float .f64 x.v) := cc 2 (by omega) _ rfl; have kt := R.blk HE.out HB.out (by decide) (by decide); have b0 := kt.cell 0; have b1 := kt.cell 1; simp at b0 b1
   have f8lt := kt.lt; have bI : (zd3 f ++ ((f :: r).take k).flatMap (zbq f)).length <= 16 + k * 28 := by
    have h1 := zdN (zbq f) 28 (zfk f) ((f :: r).take k); have h2 : ((f :: r).take k).length <= k := znh _ _; have h3 : ((f :: r).take k).length * 28 <= k * 28 := zmu _ h2; have h4 : (zd3 f).length = 16 := by simp [zd3, zmr]
    rw [zmi, h4]; omega
   have eM : n <= 1073741825 := by have := HN.out; omega
   have bm : (xs ++ [(2 : UInt8)]).length = xs.length + 1 := by simp
   have RA := R.alloc (.cells #[.int .u64 x.ref, .int .i64 x.t, .float .f64 x.v] 137); have ee := zag RA (f := 183) (args := #[.pointer (some ⟨w.heap.size, 0, none⟩), .int .i64 (zmd f x)]) (zs := Lib.uvarint (Lib.zigzag (zmd f x))) (fun o2 he => zaz _ o2 _ _ (zae _).1 (zae _).2 _ he (by rw [zmi, bm]; omega))
   have dd := znm wr 137 #[.int .u64 x.ref, .int .i64 x.t, .float .f64 x.v]; have HX := zmh hx; have cT := zmh dd; have HL := zmh bI; have HXL := zmh bm; have iG := zdV (zmd f x) (zae _).1 (zae _).2; have iF := zdV (dT f x) (zae _).1 (zae _).2; unfold zmd at ee; clear hx dM cc kt dd bI bm R3 HS
   go_wp2_with (go_at_call 183; refine ee.mono ?_; rintro rA wA ⟨rfl, RB, KB⟩; refine Hid.out ?_)
   have dd := KB.out _ _ _ (by decide) (by decide) cT.out; have hBf := RB.blk HE.out HB.out (by decide) (by decide); have x0 := dd.cell 0; have x1 := dd.cell 1; have x2 := dd.cell 2; have y0 := hBf.cell 0; have y1 := hBf.cell 1; simp at x0 x1 x2 y0 y1; have pf := zmh dd
   have dc := zag RB (f := 183) (args := #[.pointer (some ⟨w.heap.size, 0, none⟩), .int .i64 (dT f x)]) (zs := Lib.uvarint (Lib.zigzag (dT f x))) (fun o2 he => zaz _ o2 _ _ (zae _).1 (zae _).2 _ he (by have h1 := iG; unfold zmd at h1; have := HL.out; rw [zmi, HXL.out, zmi]; omega)); unfold dT at dc; clear ee d0 d1 d2 b0 b1 dd hBf
   refine zmh ?_; go_wp2_with (go_at_call 183; refine dc.mono ?_; rintro rC wC ⟨rfl, RC, KC⟩; refine Hid.out ?_)
   have dd := KC.out _ _ _ (by decide) (by decide) pf.out; have z2 := dd.cell 2; simp at z2; have hr8 := ziD
   have jh := zag RC (f := 181) (args := #[.pointer (some ⟨w.heap.size, 0, none⟩), .int .u64 x.v]) (zs := Lib.beBytes 8 x.v) (fun o2 he => zcl _ o2 _ _ eW.2.2.2 _ he (by have h1 := iG; unfold zmd at h1; have h2 := iF; unfold dT at h2; have := HL.out; rw [zmi, HXL.out, zmi, zmi]; omega)); clear dc x0 x1 x2 y0 y1 dd; refine zmh ?_
   go_wp2_with (go_at_call 181; refine jh.mono ?_; rintro rD wD ⟨rfl, RD, KD⟩)
   have RE : Put WB w.heap.size o1 (xs ++ [2]) (zd3 f ++ ((f :: r).take (k + 1)).flatMap (zbq f)) wD := by
    rw [zal (zbq f) (f :: r) k x HX.out]; simpa [zbq, zmd, dT, zmk] using RD
   have cM := zmh RE; clear RE RD RC RB jh z2 KB KC KD R; go_wp2; go_roundw
   case rel => exact ⟨k + 1, by omega, by go_num, cM.out⟩
   case measure => simp [intOf]; omega
  ·obtain rfl : k = n := by omega
   obtain ⟨oZ, dx, dX, fS⟩ := R; have hG := zd4 _ _ _ _ dx; have HEZ := zmh dx; have HZ := zmh dX; clear dx dX R3 HS; go_wp2_with (go_at_call 116; refine hG.mono ?_; rintro rr w2 ⟨v2, rfl, rfl, af, bd⟩)
   go_ret; refine ⟨v2, rfl, ?_, cS.out.trans HZ.out HO.out, ?_⟩
   ·have e1 : (f :: r).take k = f :: r := zmq (by rw [zmz, HN.out]; exact zmt _)
    rw [e1] at af; simpa [zaE, zmk] using af
   ·rw [bd]
    have hws := cS.out.size; rcases fS with h | ⟨k2, h, cI⟩
    ·rw [h]
     rcases de.out with h1 | ⟨k2, h1, cI⟩
     ·exact .inl h1
     ·exact .inr ⟨k2, h1, by simp at cI; omega⟩
    ·exact .inr ⟨k2, h, by omega⟩
theorem safe_idle (p : Addr) (x : Value) (w : World) (hc : w.cell? p = some x) (hz : w.frozen? p = false) :
 CallsD prog 159 #[.pointer (some p)] .returning w fun e u' w' => e = .returned (.tuple #[]) /\ u' = .returning /\ w' = w.setCell p (.bool true) := by
 refine callsD_of_wpS func159 rfl fun c₀ cs hu => ?_; apply wpS_region; simp [wpOpsS, go_sem, recoverD, hu, ntmps159, Exit.thenS, hc, hz]; cases c₀
 simp_all [bodyPostS, results, results159]
theorem safe_ok (g : FuncId) (cb : Array Value) (w : World) (Q : World -> Prop) (eg : ∀ args w, (callFunc g args).run prog w = .ok (.enter g args) w)
 (hf : Calls prog g cb (w.alloc (.cells #[.bool false] 4)) fun e w' => e = .returned (.tuple #[]) /\ Q w' /\ Blk w' w.heap.size 4 #[.bool false]) :
 Calls prog 65 #[.func (.func g) #[] cb] w fun e w' => e = .returned (.bool true) /\ ∃ w1, Q w1 /\ Blk w1 w.heap.size 4 #[.bool false] /\ w' = (w1.setCell ⟨w.heap.size, 0, none⟩ (.bool true)).setCell ⟨w.heap.size, 0, none⟩ (.bool true) := by
 have hmf : ∀ (fn : Fn) (first aK : Array Value) (w : World), (Instr.makeFunc fn first aK).run prog w = .ok (.func fn first aK) w := fun _ _ _ _ => rfl; go_enter_defers func65, ntmps65
 go_wp2_with (refine hf.mono ?_; rintro e w1 ⟨rfl, hq, hb⟩; have HB := zmh hb; have HQ := zmh hq; have bP := hb.cell 0; simp at bP; have ay := hb.frozen 0; clear hb hq)
 refine leaves_cons (f := 159) (args := #[.pointer (some ⟨w.heap.size, 0, none⟩)]) (by simp) (by simp [go_sem]) ?_; refine (safe_idle ⟨w.heap.size, 0, none⟩ (.bool true) _ ?_ ?_).mono ?_
 ·simpa using ((HB.out.set_ 0 (.bool true)).cell 0)
 ·exact (HB.out.set_ 0 (.bool true)).frozen 0
 rintro e u' w'' ⟨rfl, rfl, rfl⟩; have hX := (((HB.out.set_ 0 (.bool true)).set_ 0 (.bool true)).cell 0); simp at hX; simp [Leaves, settle, results, results65, go_sem, hX]; exact ⟨w1, HQ.out, HB.out, rfl⟩
theorem zai {S : Nat -> Prop} {w w' : World} {base : Nat} {e : TypeId} {size n : Nat} {v : Value} {xs : List Value} (h : w.ownsRow base e size v n xs) (hf : Fr S w w') (hn : ∀ g, v.ownBlock = some g -> ¬ S g) : w'.ownsRow base e size v n xs := by
 refine ⟨h.1, ?_⟩; rcases h.2 with h0 | ⟨g, aK, cur, rfl, hb, hg, rest⟩
 ·exact .inl h0
 ·exact .inr ⟨g, aK, cur, rfl, hb, (hf.block g (Array.getElem?_eq_some_iff.1 hg).1 (hn g rfl)).trans hg, rest⟩
theorem zah {w : World} {base base' : Nat} {e : TypeId} {size n : Nat} {v : Value} {xs : List Value} (h : w.ownsRow base e size v n xs) (hb : base' <= base) : w.ownsRow base' e size v n xs :=
 ⟨h.1, h.2.imp id fun ⟨g, aK, cur, h1, h2, h3⟩ => ⟨g, aK, cur, h1, zm0 hb h2, h3⟩⟩
theorem Fr.put_ (w : World) (d i : Nat) (u : Value) : Fr (fun k => k = d) w (w.setCell ⟨d, i, none⟩ u) := Fr.setCell (S := fun k => k = d) (znl _ w) (p := ⟨d, i, none⟩) (.inl rfl) u
def zcs (w : World) (br : Nat) (o : Option Nat) (ys : List UInt8) (r : Ending) (w' : World) : Prop :=
 r = .returned (.tuple #[]) /\ ∃ v', Blk w' br 44 #[v'] /\ w'.ownsRow 0 5 1 v' ys.length (bc ys) /\ Fr (fun k => some k = o ∨ k = br) w w' /\ (v'.ownBlock = o ∨ ∃ k, v'.ownBlock = some k /\ w.heap.size <= k)
theorem zg9 (ep : Value) (sv : Value) (P : Nat -> Prop) (v : Value) (xs : List UInt8) (l : List Smp) (w : World) (h : Sl P w sv 3 l.length (l.flatMap Smp.b)) (ab : w.ownsRow 0 5 1 v xs.length (bc xs)) (hl : xs.length <= 1073741824)
 (au : l.length <= 1073741824) (aD : ∀ s ∈ l, s.wf) (hP : ∀ g, P g -> g < w.heap.size /\ some g ≠ v.ownBlock) :
 Calls prog 92 #[ep, sv, v] w (zbP w v.ownBlock (xs ++ zaE l)) := by
 rcases l with _ | ⟨f, r⟩
 ·exact zg8 ep sv P v xs w h ab hl
 ·exact zgL ep sv P v xs f r w h ab hl (by simp at au; omega) aD hP
theorem zcY {w0 w w1 : World} {v1 v : Value} {n m : Nat} {xs ys : List Value} {e size : Nat} (h1 : w1.ownsRow w.heap.size e size v1 n xs) (h : w0.ownsRow 0 5 1 v m ys) (hw : w0.heap.size <= w.heap.size) : ∀ g, v1.ownBlock = some g -> g < w1.heap.size /\ some g ≠ v.ownBlock := fun g hg =>
 ⟨zaq h1 hg, fun e => by have h2 := zaq h e.symm; have h3 := (h1.lt g hg).1; omega⟩
theorem za7 {w w1 w2 : World} {bp bb br : Nat} {P B R : Array Value} {v : Value} {n : Nat} {xs : List Value} (hp : Blk w bp 54 P) (hb : Blk w bb 44 B) (hr : Blk w br 44 R) (ab : w.ownsRow 0 5 1 v n xs) (ah : Fr (fun _ => False) w.drew w1) (aq : Fr (fun k => some k = v.ownBlock) w1 w2) :
 Hid (Blk w2 bp 54 P) /\ Hid (Blk w2 bb 44 B) /\ Hid (Blk w2 br 44 R) :=
 ⟨(hp.drew.fr ah (fun e => e)).fr aq (fun e => zak ab hp (by decide) e.symm), (hb.drew.fr ah (fun e => e)).fr aq (fun e => zak ab hb (by decide) e.symm), (hr.drew.fr ah (fun e => e)).fr aq (fun e => zak ab hr (by decide) e.symm)⟩
theorem zgX (bk bp bb br : Nat) (ep lp : Value) (P : Nat -> Prop) (s0 s1 s2 s3 s4 s5 s6 v z : Value) (xs : List UInt8) (l : List Smp) (w : World) (hk : Blk w bk 3 #[.int .i64 2]) (hp : Blk w bp 54 #[s0, s1, s2, s3, s4, s5, s6]) (hb : Blk w bb 44 #[v]) (hr : Blk w br 44 #[z])
 (ab : w.ownsRow 0 5 1 v xs.length (bc xs)) (hs : Sl P w s1 3 l.length (l.flatMap Smp.a)) (hl : xs.length <= 1073741824) (au : l.length <= 1073741824) (aD : ∀ s ∈ l, s.wf) (bM : bb ≠ br) :
 Calls prog 90 #[.pointer (some ⟨bk, 0, none⟩), ep, .pointer (some ⟨bp, 0, none⟩), .pointer (some ⟨bb, 0, none⟩), .pointer (some ⟨br, 0, none⟩), lp] w (zcs w br v.ownBlock (xs ++ zaE l)) := by
 have iC : bp ≠ br := znn hp hr (by decide); have k0 := hk.cell 0; have p1 := hp.cell 1; have b0 := hb.cell 0; simp at k0 p1 b0; obtain ⟨a', n', k', rfl⟩ := zab ab; have bh : ∃ A m c, s1 = .slice A m c := let ⟨A, c, h, _⟩ := hs; ⟨A, _, c, h⟩
 obtain ⟨A, m, c, rfl⟩ := bh; have hQ := zev P (.slice A m c) l w.drew hs (by omega); have HB := zmh hb; have HP := zmh hp; have HR := zmh hr; have HO := zmh ab; have gA : w.drew.cell? ⟨bp, 1, none⟩ = some (.slice A m c) := p1; have ib : w.drew.cell? ⟨bb, 0, none⟩ = some (.slice a' n' k') := b0; clear hk hp hb hr ab hs; go_enter func90, ntmps90
 go_wp2_with fail
 have HW := zmh aD; clear aD; go_region_held3 (fun w' => w'.cell? ⟨bp, 1, none⟩ = some (.slice A m c) /\ w'.cell? ⟨bb, 0, none⟩ = some (.slice a' n' k'))
  ((first | (go_split_ands; refine ⟨?_, ?_⟩ <;> first | exact ((HP.out.drew).fr ah (fun e => e)).cell 1 | exact ((HB.out.drew).fr ah (fun e => e)).cell 0) | (go_split_ands; refine ⟨?_, ?_⟩ <;> first | exact KP.out.cell 1 | exact KB.out.cell 0) | (go_split_ands; refine ⟨?_, ?_⟩ <;> first | exact (KP.out.far (p := ⟨br, 0, none⟩) iC _).cell 1 | exact (KB.out.far (p := ⟨br, 0, none⟩) bM _).cell 0) | go_keep))
  ((first
    | (go_at_call 72; refine hQ.mono ?_; rintro r1 w1 ⟨v1, rfl, am, ah⟩)
    | (go_at_call 92; refine (zg9 ep v1 (fun g => v1.ownBlock = some g) (.slice a' n' k') xs l w1 (zno am) (zai (World.ownsRow.drew HO.out) ah (fun _ _ e => e)) hl au HW.out (zcY am HO.out (zmt _))).mono ?_; rintro r2 w2 ⟨v2, rfl, af, aq, bA⟩; obtain ⟨KP, KB, KR⟩ := za7 HP.out HB.out HR.out HO.out ah aq; have q0 := KR.out.cell 0; simp at q0; have q1 := KR.out.frozen 0; obtain ⟨a2, n2, k2, rfl⟩ := zab af)))
 have HE : Fr (fun k => some k = (Value.slice a' n' k').ownBlock ∨ k = br) w (w2.setCell ⟨br, 0, none⟩ (.slice a2 n2 k2)) :=
  ((((znl (fun k => some k = (Value.slice a' n' k').ownBlock ∨ k = br) w).drew).trans ah (fun _ _ e => e.elim)).trans aq (fun _ _ e => .inl e)).setCell (p := ⟨br, 0, none⟩) (.inl (.inr rfl)) _
 have HV : Blk (w2.setCell ⟨br, 0, none⟩ (.slice a2 n2 k2)) br 44 #[.slice a2 n2 k2] := by simpa using KR.out.set_ 0 (.slice a2 n2 k2)
 have HF := zmh HE; have iX := zmh HV; have eU : (w2.setCell ⟨br, 0, none⟩ (.slice a2 n2 k2)).ownsRow 0 5 1 (.slice a2 n2 k2) (xs ++ zaE l).length (bc (xs ++ zaE l)) := zai af (Fr.put_ w2 br 0 _) (fun g hg e => zak af KR.out (by decide) (by rw [hg, e])); have dO := zmh eU; have bD := ah.size; have gl := zmh bA
 clear HE HV eU am ah af aq bA q0 q1 hQ p1 gA b0 ib; go_wp2; go_end0; refine ⟨rfl, _, iX.out, dO.out, HF.out, ?_⟩; rcases gl.out with h | ⟨k, h, hk⟩
 ·exact .inl h
 ·exact .inr ⟨k, h, by simp at bD; omega⟩
def DecOk (ev : Value) (w : World) (d g : Nat) (cur : Array Value) (rest : List UInt8) (E : Value) : Prop :=
 ∃ off c, Blk w d 229 #[.slice (some ⟨g, off, none⟩) rest.length c, E] /\ Blk w g 5 cur /\ rest.length <= c /\ (c <= 9223372036854775807 /\ rest.length <= 1099511627776) /\ (∀ j u, (bc rest)[j]? = some u -> cur[off + j]? = some u) /\ w.cell? ⟨2, 0, none⟩ = some ev
abbrev St := Option (List UInt8)
def Dec (te : TypeId) (pe : Value) (w : World) (d g : Nat) (cur : Array Value) : St -> Prop
 | some rest => DecOk (.iface te pe) w d g cur rest .nilIface
 | none => ∃ rest, DecOk (.iface te pe) w d g cur rest (.iface te pe)
theorem DecOk.ne2 {ev : Value} {w : World} {d g : Nat} {cur : Array Value} {rest : List UInt8} {E : Value} {te : TypeId} {pe : Value} (h : DecOk (.iface te pe) w d g cur rest E) : d ≠ 2 := by
 obtain ⟨off, c, hb, _, _, _, _, hc⟩ := h; rintro rfl; have := hb.cell 0; rw [hc] at this; simp at this
theorem DecOk.move {te : TypeId} {pe : Value} {w : World} {d g : Nat} {cur : Array Value} {rest rest' : List UInt8} {E E' : Value} {w' : World} (h : DecOk (.iface te pe) w d g cur rest E) (hf : Fr (fun k => k = d) w w')
 {off' c' : Nat} (hb : Blk w' d 229 #[.slice (some ⟨g, off', none⟩) rest'.length c', E']) (hc : rest'.length <= c') (hm : c' <= 9223372036854775807 /\ rest'.length <= 1099511627776) (hr : ∀ j u, (bc rest')[j]? = some u -> cur[off' + j]? = some u) : DecOk (.iface te pe) w' d g cur rest' E' := by
 have h2 := h.ne2 (ev := .nilIface); obtain ⟨off, c, fE, hg, _, _, _, hE⟩ := h; refine ⟨off', c', hb, hg.fr hf (fun e => znn hg fE (by decide) e), hc, hm, hr, ?_⟩; rw [hf.cell (p := ⟨2, 0, none⟩) (zmo w _ hE) (fun e => h2 e.symm)]; exact hE
theorem Fr.at_ (w : World) (d i : Nat) (u : Value) : Fr (fun k => k = d) w (w.setCell ⟨d, i, none⟩ u) := Fr.setCell (S := fun k => k = d) (znl _ w) (p := ⟨d, i, none⟩) (.inl rfl) u
def zaD : St -> Nat × St
 | some (b :: r) => (b.toNat, some r)
 | _ => (0, none)
def zb0 (te : TypeId) (pe : Value) (w : World) (d g : Nat) (cur : Array Value) (v : Value) (st : St) (r : Ending) (w' : World) : Prop :=
 r = .returned v /\ Dec te pe w' d g cur st /\ Fr (fun k => k = d) w w'
theorem zbC (te : TypeId) (pe : Value) (d g : Nat) (cur : Array Value) (st : St) (w : World) (h : Dec te pe w d g cur st) :
 Calls prog 160 #[.pointer (some ⟨d, 0, none⟩)] w (zb0 te pe w d g cur (.int .u8 (zaD st).1) (zaD st).2) := by
 match st, h with
 | none, ⟨rest, h⟩ =>
   have H := zmh h; obtain ⟨off, c, hb, hg, hl, hm, hr, hE⟩ := h; have bP := hb.cell 1; simp at bP; clear hb hr hg; go_enter func160, ntmps160; go_wp2; go_ret; exact ⟨rfl, ⟨_, H.out⟩, znl _ _⟩
 | some [], h =>
   have H := zmh h; obtain ⟨off, c, hb, hg, hl, hm, hr, hE⟩ := h; have fe := hb.cell 0; have bP := hb.cell 1; simp at fe bP; have ah := hb.frozen 1; have HB := zmh hb; clear hb hr hg; go_enter func160, ntmps160; go_wp2; go_ret; refine ⟨rfl, ⟨[], H.out.move (Fr.at_ _ _ _ _) (off' := off) (c' := c) ?_ (by simp) hm (by simp [bc, Lib.byteCells])⟩, Fr.at_ _ _ _ _⟩
   simpa using HB.out.set_ 1 (Value.iface te pe)
 | some (b :: rs), h =>
   have H := zmh h; obtain ⟨off, c, hb, hg, hl, hm, hr, hE⟩ := h; have fe := hb.cell 0; have bP := hb.cell 1; simp at fe bP; have fo := hb.frozen 0; have HB := zmh hb; have HR := zmh hr; have fE : w.cell? ⟨g, off, none⟩ = some (.int .u8 b.toNat) := by rw [hg.cell]; simpa [zd6] using hr 0 (.int .u8 b.toNat) (by simp [zd6])
   clear hb hr hg; simp only [zmz] at hl hm fe; by_cases hc : c = 1
   ·subst hc
    have hl0 : rs.length = 0 := by omega
    go_enter func160, ntmps160; go_wp2; go_ret; refine ⟨rfl, H.out.move (Fr.at_ _ _ _ _) (off' := off) (c' := 0) ?_ (by omega) (by omega) (fun j u hu => ?_), Fr.at_ _ _ _ _⟩
    ·simpa [hl0] using HB.out.set_ 0 (.slice (some ⟨g, off, none⟩) 0 0)
    ·rw [zmJ hl0] at hu; simp [bc, Lib.byteCells] at hu
   ·go_enter func160, ntmps160
    go_wp2; go_ret; refine ⟨rfl, H.out.move (Fr.at_ _ _ _ _) (off' := off + 1) (c' := c - 1) ?_ (by omega) (by omega) (fun j u hu => ?_), Fr.at_ _ _ _ _⟩
    ·simpa using HB.out.set_ 0 (.slice (some ⟨g, off + 1, none⟩) rs.length (c - 1))
    ·have := HR.out (j + 1) u (by simpa [zd6] using hu)
     rw [<- this]; congr 1; omega
theorem DecOk.cut {te : TypeId} {pe : Value} {w w1 : World} {d g : Nat} {cur : Array Value} {rest : List UInt8} {E : Value} {off c k off' n : Nat} (h : DecOk (.iface te pe) w d g cur rest E) (hf : Fr (fun k => k = d) w w1)
 (hb : Blk w1 d 229 #[.slice (some ⟨g, off, none⟩) n c, E]) (hr : ∀ j u, (bc rest)[j]? = some u -> cur[off + j]? = some u) (hn : rest.length = n) (hl : n <= c) (hm : c <= 9223372036854775807 /\ n <= 1099511627776) (hk : k <= n) (ho : off' = off + k ∨ c = k) :
 DecOk (.iface te pe) (w1.setCell ⟨d, 0, none⟩ (.slice (some ⟨g, off', none⟩) (n - k) (c - k))) d g cur (rest.drop k) E := by
 have hdl : (rest.drop k).length = n - k := by rw [List.length_drop, hn]
 refine h.move (hf.setCell (p := ⟨d, 0, none⟩) (.inl rfl) _) (off' := off') (c' := c - k) ?_ (by omega) (by omega) (fun j u hu => ?_)
 ·have := hb.set_ 0 (.slice (some ⟨g, off', none⟩) (n - k) (c - k))
  rw [hdl]; simpa using this
 ·rcases ho with rfl | rfl
  ·have := hr (k + j) u (by rw [<- hu]; simp [zd6])
   rw [<- this]; congr 1; omega
  ·rw [zmL (by rw [zda]; omega)] at hu
   cases hu
theorem zko : prog.elem 44 = 5 := by kernel_rfl
theorem size5 (w : World) : (sizeOf 5).run prog w = .ok 1 w := by kernel_rfl
theorem zl3 (g off n c k : Nat) (kd : IntKind) (x : Int) (hx : x = k) (hk : k <= n) : ∃ off', (off' = off + k ∨ c = k) /\
 ∀ W, (Instr.slice 44 (.slice (some ⟨g, off, none⟩) n c) (some (.int kd x)) none none).run prog W = .ok (.slice (some ⟨g, off', none⟩) (n - k) (c - k)) W := by
 subst hx; have h5 := size5; have hr : ∀ W, (Instr.slice 44 (.slice (some ⟨g, off, none⟩) n c) (some (.int kd k)) none none).run prog W = ((sizeOf 5).run prog W).andThen fun s w => .ok (sliced (some ⟨g, off, none⟩) k n c s) w := fun W => by
  have h := run_slice_l (P := prog) W 44 (some ⟨g, off, none⟩) n c (by rw [zko]; exact underlying44) kd k (by omega) (by omega); rw [zko] at h; rw [h]; simp only [Int.toNat_natCast]
 by_cases hc : c = k
 ·refine ⟨off, .inr hc, fun W => ?_⟩
  rw [hr, h5]; simp [Result.andThen, sliced, hc]
 ·refine ⟨off + k, .inl rfl, fun W => ?_⟩
  rw [hr, h5]; have : (⟨g, off, none⟩ : Addr).add k = ⟨g, off + k, none⟩ := by unfold Addr.add; split <;> simp_all
  simp [Result.andThen, sliced, hc, this]
theorem zgB {S : Nat -> Prop} {w w' : World} (h : Below w.heap.size w w') : Fr S w w' := Fr.ofBelow h
def zac : St -> Nat × St
 | some (b0 :: b1 :: b2 :: b3 :: b4 :: b5 :: b6 :: b7 :: r) => (Lib.beNat [b0, b1, b2, b3, b4, b5, b6, b7], some r)
 | _ => (0, none)
theorem zgA {l : List UInt8} (h : l.length < 8) : zac (some l) = (0, none) := by
 unfold zac; split
 ·rename_i e
  simp at e; subst e; simp at h; omega
 ·rfl
theorem eight {l : List UInt8} (h : 8 <= l.length) : ∃ b0 b1 b2 b3 b4 b5 b6 b7 r, l = b0 :: b1 :: b2 :: b3 :: b4 :: b5 :: b6 :: b7 :: r := by
 match l, h with
 | b0 :: b1 :: b2 :: b3 :: b4 :: b5 :: b6 :: b7 :: r, _ => exact ⟨b0, b1, b2, b3, b4, b5, b6, b7, r, rfl⟩
theorem zhv {l : List UInt8} (h : 8 <= l.length) : zac (some l) = (Lib.beNat (l.take 8), some (l.drop 8)) := by
 obtain ⟨b0, b1, b2, b3, b4, b5, b6, b7, r, rfl⟩ := eight h; rfl
theorem be_read {w : World} {g off c : Nat} {cur : Array Value} {l : List UInt8} (hg : Blk w g 5 cur) (hr : ∀ j u, (bc l)[j]? = some u -> cur[off + j]? = some u) (n : Nat) (hn : l.length = n) (h8 : 8 <= n) :
 Calls prog 230 #[.agg #[], .slice (some ⟨g, off, none⟩) n c] w fun e w' => e = .returned (.int .u64 (Lib.beNat (l.take 8))) /\ Below w.heap.size w w' := by
 obtain ⟨b0, b1, b2, b3, b4, b5, b6, b7, r, rfl⟩ := eight (l := l) (by omega); have aa : ∀ j x, (b0 :: b1 :: b2 :: b3 :: b4 :: b5 :: b6 :: b7 :: r)[j]? = some x -> w.cell? ⟨g, off + j, none⟩ = some (.int .u8 x.toNat) := fun j x hx => by
  have := hr j (.int .u8 x.toNat) (by rw [zd6, hx]; rfl); rw [hg.cell, this]
 exact binary_BE_Uint64 g off n c b0 b1 b2 b3 b4 b5 b6 b7 w h8 (by simpa using aa 0 b0 rfl) (aa 1 b1 rfl) (aa 2 b2 rfl) (aa 3 b3 rfl) (aa 4 b4 rfl) (aa 5 b5 rfl) (aa 6 b6 rfl) (aa 7 b7 rfl)
theorem zcA (te : TypeId) (pe : Value) (d g : Nat) (cur : Array Value) (st : St) (w : World) (h : Dec te pe w d g cur st) :
 Calls prog 162 #[.pointer (some ⟨d, 0, none⟩)] w (zb0 te pe w d g cur (.int .u64 (zac st).1) (zac st).2) := by
 rcases st with _ | l
 ·obtain ⟨rest, h⟩ := h
  have H := zmh h; obtain ⟨off, c, hb, hg, hl, hm, hr, hE⟩ := h; have bP := hb.cell 1; simp at bP; clear hb hr hg; go_enter func162, ntmps162; go_wp2; go_ret; exact ⟨rfl, ⟨_, H.out⟩, znl _ _⟩
 ·have h : DecOk (.iface te pe) w d g cur l .nilIface := h
  have H := zmh h; obtain ⟨off, c, hb, hg, hl, hm, hr, hE⟩ := h; obtain ⟨n, hn⟩ := exE l.length; rw [hn] at hb hl; have fe := hb.cell 0; have bP := hb.cell 1; simp at fe bP; have HB := zmh hb; have HR := zmh hr; have HN := zmh hn; by_cases h8 : 8 <= n
  ·have hP := be_read (w := w.drew) (c := c) hg.drew hr n hn h8
   rw [zhv (by omega)]; simp only []; obtain ⟨off', ho, nv⟩ := zl3 g off n c 8 .i64 8 rfl h8; clear hb hr hg hn; have HO := zmh ho; clear ho; generalize Lib.beNat (l.take 8) = x at hP ⊢; go_enter func162, ntmps162; go_wp2_with fail
   go_region_held3 (fun w' => w'.cell? ⟨d, 0, none⟩ = some (.slice (some ⟨g, off, none⟩) n c)) ((first | exact (kp.cell (p := ⟨d, 0, none⟩) (by simpa using HB.out.lt)).trans (by simpa using fe) | go_keep)) ((go_at_call 230; refine hP.mono ?_; rintro r1 w1 ⟨rfl, kp⟩))
   have ah : Fr (fun k => k = d) w w1 := ((znl _ w).drew).trans (zgB kp) (fun _ _ s => s); have ax : Blk w1 d 229 #[.slice (some ⟨g, off, none⟩) n c, .nilIface] := (HB.out.drew).fr (zgB (S := fun _ => False) kp) (fun e => e); have nD := ax.cell 0; simp at nD; have az := ax.frozen 0
   have RR := zmh (DecOk.cut H.out ah ax HR.out HN.out hl ⟨hm.1, HN.out ▸ hm.2⟩ h8 HO.out); have HF := zmh (ah.setCell (p := ⟨d, 0, none⟩) (.inl rfl) (.slice (some ⟨g, off', none⟩) (n - 8) (c - 8))); clear ax ah hP kp fe bP hE; go_wp2; go_ret; exact ⟨rfl, RR.out, HF.out⟩
  ·rw [zgA (by omega)]
   have ah := hb.frozen 1; have h8' : (n : Int) < 8 := by omega
   clear hb hr hg hn; go_enter func162, ntmps162; go_wp2; go_ret; refine ⟨rfl, ⟨l, H.out.move (Fr.at_ _ _ _ _) (off' := off) (c' := c) ?_ (by rw [HN.out]; exact hl) hm HR.out⟩, Fr.at_ _ _ _ _⟩; rw [HN.out]; simpa using HB.out.set_ 1 (Value.iface te pe)
abbrev z_F := Fr (fun _ => False)
theorem z_i {α : Sort _} {β : α → Sort _} {γ : ∀ a, β a → Prop} (a : α) (b : β a) (h : γ a b) : γ a b := h
end Go.Proofs.YtbkookiigkckdaaGreatDoor
