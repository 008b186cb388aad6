/-
  DERIVED: THE SHELF's CONTRACTS AT THIS DUMP, IN PLAIN WORDS (tools/lay-plain.mjs out of 'YtbkookiigkckdaaGreatDoorPrintS.lean', which tools/lay-shelf.mjs wrote): THE SAME DECLARATIONS UNDER THE SAME NAMES: 'import', 'namespace', 'open', 'def', 'theorem' AND NOTHING ELSE: no command of the shelf's: FOR A HAND-IN. Each laying: the table of numbers ('.._ren') and one theorem, a field a fact of the dump's own or the kernel's comparison; each contract: ONE APPLICATION.
-/
import Derived.Shelf.Strconv.IsPrint32
import Derived.Shelf.Unicode.DecodeAny
import Derived.Ground.NamesProg
import Derived.Test.YtbkookiigkckdaaGreatDoorProg
namespace Go.Proofs
open Go.Shelf
def Tryz.lays339_ren : Go.Shelf.Ren := ⟨fun | 339 => 284 | 345 => 296 | 346 => 297 | n => n, fun | 21 => 21 | 4 => 4 | 49 => 70 | 234 => 411 | 131 => 86 | 3 => 3 | 0 => 0 | 51 => 317 | 236 => 413 | 46 => 268 | n => n, fun | 20 => 9 | 21 => 10 | 22 => 11 | 23 => 12 | n => n⟩
theorem Tryz.lays339 : Go.Proofs.Lays.n339 Tryz.prog Tryz.lays339_ren := {
  mixed := by kernel_rfl
  f339 := Tryz.func284.trans (congrArg some (by kernel_rfl))
  f345 := Tryz.func296.trans (congrArg some (by kernel_rfl))
  f346 := Tryz.func297.trans (congrArg some (by kernel_rfl))
  t0 := Tryz.underlying0
  a0 := Tryz.isAgg0
  z0 := Tryz.sizeOf0
  v0 := Tryz.zeroValue0
  t3 := Tryz.underlying3
  a3 := Tryz.isAgg3
  z3 := Tryz.sizeOf3
  v3 := Tryz.zeroValue3
  t4 := Tryz.underlying4
  a4 := Tryz.isAgg4
  z4 := Tryz.sizeOf4
  v4 := Tryz.zeroValue4
  t21 := Tryz.underlying21
  a21 := Tryz.isAgg21
  z21 := Tryz.sizeOf21
  v21 := Tryz.zeroValue21
  t46 := Tryz.underlying268
  a46 := Tryz.isAgg268
  z46 := Tryz.sizeOf268
  v46 := Tryz.zeroValue268
  t49 := Tryz.underlying70
  a49 := Tryz.isAgg70
  z49 := Tryz.sizeOf70
  v49 := Tryz.zeroValue70
  t51 := Tryz.underlying317
  a51 := Tryz.isAgg317
  z51 := Tryz.sizeOf317
  v51 := Tryz.zeroValue317
  t131 := Tryz.underlying86
  a131 := Tryz.isAgg86
  z131 := Tryz.sizeOf86
  v131 := Tryz.zeroValue86
  t234 := Tryz.underlying411
  a234 := Tryz.isAgg411
  z234 := Tryz.sizeOf411
  v234 := Tryz.zeroValue411
  t236 := Tryz.underlying413
  a236 := Tryz.isAgg413
  z236 := Tryz.sizeOf413
  v236 := Tryz.zeroValue413
  g20 := by kernel_rfl
  g21 := by kernel_rfl
  g22 := by kernel_rfl
  g23 := by kernel_rfl }
def Tryz.lays197_ren : Go.Shelf.Ren := ⟨fun | 197 => 255 | 260 => 283 | n => n, fun | 9 => 9 | 21 => 21 | 3 => 3 | 4 => 4 | 5 => 5 | 105 => 380 | 119 => 407 | 0 => 0 | 46 => 268 | 139 => 410 | 138 => 409 | n => n, fun | 3 => 7 | 4 => 8 | n => n⟩
theorem Tryz.lays197 : Go.Proofs.Lays.n197 Tryz.prog Tryz.lays197_ren := {
  mixed := by kernel_rfl
  f197 := Tryz.func255.trans (congrArg some (by kernel_rfl))
  f260 := Tryz.func283.trans (congrArg some (by kernel_rfl))
  t0 := Tryz.underlying0
  a0 := Tryz.isAgg0
  z0 := Tryz.sizeOf0
  v0 := Tryz.zeroValue0
  t3 := Tryz.underlying3
  a3 := Tryz.isAgg3
  z3 := Tryz.sizeOf3
  v3 := Tryz.zeroValue3
  t4 := Tryz.underlying4
  a4 := Tryz.isAgg4
  z4 := Tryz.sizeOf4
  v4 := Tryz.zeroValue4
  t5 := Tryz.underlying5
  a5 := Tryz.isAgg5
  z5 := Tryz.sizeOf5
  v5 := Tryz.zeroValue5
  t9 := Tryz.underlying9
  a9 := Tryz.isAgg9
  z9 := Tryz.sizeOf9
  v9 := Tryz.zeroValue9
  t21 := Tryz.underlying21
  a21 := Tryz.isAgg21
  z21 := Tryz.sizeOf21
  v21 := Tryz.zeroValue21
  t46 := Tryz.underlying268
  a46 := Tryz.isAgg268
  z46 := Tryz.sizeOf268
  v46 := Tryz.zeroValue268
  t105 := Tryz.underlying380
  a105 := Tryz.isAgg380
  z105 := Tryz.sizeOf380
  v105 := Tryz.zeroValue380
  t119 := Tryz.underlying407
  a119 := Tryz.isAgg407
  z119 := Tryz.sizeOf407
  t138 := Tryz.underlying409
  a138 := Tryz.isAgg409
  z138 := Tryz.sizeOf409
  v138 := Tryz.zeroValue409
  t139 := Tryz.underlying410
  a139 := Tryz.isAgg410
  z139 := Tryz.sizeOf410
  v139 := Tryz.zeroValue410
  g3 := by kernel_rfl
  g4 := by kernel_rfl }
end Go.Proofs
