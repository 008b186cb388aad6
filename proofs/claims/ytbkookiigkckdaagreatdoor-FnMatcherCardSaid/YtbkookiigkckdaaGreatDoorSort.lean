/-
  DERIVED: THE SHELF's CONTRACTS AT THIS DUMP, IN PLAIN WORDS (tools/lay-plain.mjs out of 'YtbkookiigkckdaaGreatDoorSortS.lean', which tools/lay-shelf.mjs wrote): THE SAME DECLARATIONS UNDER THE SAME NAMES: 'import', 'namespace', 'open', 'def', 'theorem' AND NOTHING ELSE: no command of the shelf's: FOR A HAND-IN. Each laying: the table of numbers ('.._ren') and one theorem, a field a fact of the dump's own or the kernel's comparison; each contract: ONE APPLICATION.
-/
import Derived.Shelf.SlSortCmp.SmallK
import Derived.Shelf.SlSortCmp.NoneTotal
import Derived.Ground.SlsfProg
import Derived.Test.YtbkookiigkckdaaGreatDoorProg
namespace Go.Proofs
open Go.Shelf
def Tryz.sortLab_ren : Go.Shelf.Ren := ⟨fun | 6 => 205 | 15 => 157 | 14 => 246 | 28 => 228 | 29 => 229 | 20 => 262 | 21 => 263 | 22 => 264 | 23 => 265 | 24 => 266 | 25 => 267 | 26 => 268 | 27 => 269 | 46 => 289 | 47 => 258 | 48 => 259 | 49 => 290 | 50 => 291 | 57 => 299 | n => n, fun | 22 => 115 | 24 => 108 | 25 => 326 | 3 => 3 | 39 => 268 | 0 => 0 | 53 => 317 | 55 => 111 | 4 => 4 | 46 => 347 | 45 => 346 | 50 => 86 | 5 => 5 | 9 => 9 | 66 => 383 | 70 => 386 | 76 => 401 | 77 => 261 | n => n, fun | n => n⟩
theorem Tryz.sortLab : Go.Proofs.SlLaysF0.n6 Tryz.prog Tryz.sortLab_ren := {
  mixed := by kernel_rfl
  f6 := ⟨Tryz.f205.name, by decide, Tryz.func205.trans (congrArg some (by kernel_rfl))⟩
  f14 := ⟨Tryz.f246.name, by decide, Tryz.func246.trans (congrArg some (by kernel_rfl))⟩
  f15 := Tryz.func157.trans (congrArg some (by kernel_rfl))
  f20 := ⟨Tryz.f262.name, by decide, Tryz.func262.trans (congrArg some (by kernel_rfl))⟩
  f21 := ⟨Tryz.f263.name, by decide, Tryz.func263.trans (congrArg some (by kernel_rfl))⟩
  f22 := ⟨Tryz.f264.name, by decide, Tryz.func264.trans (congrArg some (by kernel_rfl))⟩
  f23 := ⟨Tryz.f265.name, by decide, Tryz.func265.trans (congrArg some (by kernel_rfl))⟩
  f24 := ⟨Tryz.f266.name, by decide, Tryz.func266.trans (congrArg some (by kernel_rfl))⟩
  f25 := ⟨Tryz.f267.name, by decide, Tryz.func267.trans (congrArg some (by kernel_rfl))⟩
  f26 := ⟨Tryz.f268.name, by decide, Tryz.func268.trans (congrArg some (by kernel_rfl))⟩
  f27 := ⟨Tryz.f269.name, by decide, Tryz.func269.trans (congrArg some (by kernel_rfl))⟩
  f28 := Tryz.func228.trans (congrArg some (by kernel_rfl))
  f29 := Tryz.func229.trans (congrArg some (by kernel_rfl))
  f46 := ⟨Tryz.f289.name, by decide, Tryz.func289.trans (congrArg some (by kernel_rfl))⟩
  f47 := Tryz.func258.trans (congrArg some (by kernel_rfl))
  f48 := Tryz.func259.trans (congrArg some (by kernel_rfl))
  f49 := ⟨Tryz.f290.name, by decide, Tryz.func290.trans (congrArg some (by kernel_rfl))⟩
  f50 := ⟨Tryz.f291.name, by decide, Tryz.func291.trans (congrArg some (by kernel_rfl))⟩
  f57 := ⟨Tryz.f299.name, by decide, Tryz.func299.trans (congrArg some (by kernel_rfl))⟩
  t0 := Tryz.underlying0
  a0 := Tryz.isAgg0
  z0 := Tryz.sizeOf0
  v0 := Tryz.zeroValue0
  t3 := Tryz.underlying3
  a3 := Tryz.isAgg3
  z3 := Tryz.sizeOf3
  v3 := Tryz.zeroValue3
  t4 := Tryz.underlying4
  a4 := Tryz.isAgg4
  z4 := Tryz.sizeOf4
  v4 := Tryz.zeroValue4
  t5 := Tryz.underlying5
  a5 := Tryz.isAgg5
  z5 := Tryz.sizeOf5
  v5 := Tryz.zeroValue5
  t9 := Tryz.underlying9
  a9 := Tryz.isAgg9
  z9 := Tryz.sizeOf9
  v9 := Tryz.zeroValue9
  t22 := Tryz.underlying115
  a22 := Tryz.isAgg115
  z22 := Tryz.sizeOf115
  v22 := Tryz.zeroValue115
  t25 := Tryz.underlying326
  a25 := Tryz.isAgg326
  z25 := Tryz.sizeOf326
  v25 := Tryz.zeroValue326
  t39 := Tryz.underlying268
  a39 := Tryz.isAgg268
  z39 := Tryz.sizeOf268
  v39 := Tryz.zeroValue268
  t45 := Tryz.underlying346
  a45 := Tryz.isAgg346
  z45 := Tryz.sizeOf346
  v45 := Tryz.zeroValue346
  t46 := Tryz.underlying347
  a46 := Tryz.isAgg347
  z46 := Tryz.sizeOf347
  v46 := Tryz.zeroValue347
  t50 := Tryz.underlying86
  a50 := Tryz.isAgg86
  z50 := Tryz.sizeOf86
  v50 := Tryz.zeroValue86
  t53 := Tryz.underlying317
  a53 := Tryz.isAgg317
  z53 := Tryz.sizeOf317
  v53 := Tryz.zeroValue317
  t55 := Tryz.underlying111
  a55 := Tryz.isAgg111
  z55 := Tryz.sizeOf111
  v55 := Tryz.zeroValue111
  t66 := Tryz.underlying383
  a66 := Tryz.isAgg383
  z66 := Tryz.sizeOf383
  v66 := Tryz.zeroValue383
  t70 := Tryz.underlying386
  a70 := Tryz.isAgg386
  z70 := Tryz.sizeOf386
  v70 := Tryz.zeroValue386
  t76 := Tryz.underlying401
  a76 := Tryz.isAgg401
  z76 := Tryz.sizeOf401
  v76 := Tryz.zeroValue401
  t77 := Tryz.underlying261
  a77 := Tryz.isAgg261
  z77 := Tryz.sizeOf261
  v77 := Tryz.zeroValue261 }
end Go.Proofs
