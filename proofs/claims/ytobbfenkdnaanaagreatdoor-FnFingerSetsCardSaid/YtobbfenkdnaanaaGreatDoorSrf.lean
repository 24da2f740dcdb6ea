/-
  DERIVED: THE SHELF's CONTRACTS AT THIS DUMP, IN PLAIN WORDS (tools/lay-plain.mjs out of 'TryzSrf.lean', which tools/lay-shelf.mjs wrote): THE SAME DECLARATIONS UNDER THE SAME NAMES: 'import', 'namespace', 'open', 'def', 'theorem' AND NOTHING ELSE: no command of the shelf's: FOR A HAND-IN. Each laying: the table of numbers ('.._ren') and one theorem, a field a fact of the dump's own or the kernel's comparison; each contract: ONE APPLICATION.
-/
import Derived.Shelf.SlGeneric
import Derived.Shelf.SlSortCmp.WholeK
import Derived.Ground.SlsfProg
import Derived.Test.YtobbfenkdnaanaaGreatDoorProg
namespace Go.Proofs
open Go.Shelf
def Tryz.sortF_ren : Go.Shelf.Ren := ⟨fun | 6 => 78 | 15 => 68 | 14 => 141 | 28 => 129 | 29 => 130 | 20 => 195 | 21 => 196 | 22 => 197 | 23 => 198 | 24 => 199 | 25 => 200 | 26 => 201 | 27 => 202 | 46 => 253 | 47 => 239 | 48 => 240 | 49 => 254 | 50 => 255 | 57 => 287 | n => n, fun | 22 => 22 | 24 => 70 | 25 => 121 | 3 => 3 | 39 => 106 | 0 => 0 | 53 => 150 | 55 => 25 | 4 => 4 | 46 => 228 | 45 => 227 | 50 => 158 | 5 => 5 | 9 => 9 | 66 => 274 | 70 => 224 | 76 => 305 | 77 => 272 | n => n, fun | n => n⟩
theorem Tryz.sortF : Go.Proofs.SlLaysF0.n6 Tryz.prog Tryz.sortF_ren := {
  mixed := by kernel_rfl
  f6 := ⟨Tryz.f78.name, by decide, Tryz.func78.trans (congrArg some (by kernel_rfl))⟩
  f14 := ⟨Tryz.f141.name, by decide, Tryz.func141.trans (congrArg some (by kernel_rfl))⟩
  f15 := Tryz.func68.trans (congrArg some (by kernel_rfl))
  f20 := ⟨Tryz.f195.name, by decide, Tryz.func195.trans (congrArg some (by kernel_rfl))⟩
  f21 := ⟨Tryz.f196.name, by decide, Tryz.func196.trans (congrArg some (by kernel_rfl))⟩
  f22 := ⟨Tryz.f197.name, by decide, Tryz.func197.trans (congrArg some (by kernel_rfl))⟩
  f23 := ⟨Tryz.f198.name, by decide, Tryz.func198.trans (congrArg some (by kernel_rfl))⟩
  f24 := ⟨Tryz.f199.name, by decide, Tryz.func199.trans (congrArg some (by kernel_rfl))⟩
  f25 := ⟨Tryz.f200.name, by decide, Tryz.func200.trans (congrArg some (by kernel_rfl))⟩
  f26 := ⟨Tryz.f201.name, by decide, Tryz.func201.trans (congrArg some (by kernel_rfl))⟩
  f27 := ⟨Tryz.f202.name, by decide, Tryz.func202.trans (congrArg some (by kernel_rfl))⟩
  f28 := Tryz.func129.trans (congrArg some (by kernel_rfl))
  f29 := Tryz.func130.trans (congrArg some (by kernel_rfl))
  f46 := ⟨Tryz.f253.name, by decide, Tryz.func253.trans (congrArg some (by kernel_rfl))⟩
  f47 := Tryz.func239.trans (congrArg some (by kernel_rfl))
  f48 := Tryz.func240.trans (congrArg some (by kernel_rfl))
  f49 := ⟨Tryz.f254.name, by decide, Tryz.func254.trans (congrArg some (by kernel_rfl))⟩
  f50 := ⟨Tryz.f255.name, by decide, Tryz.func255.trans (congrArg some (by kernel_rfl))⟩
  f57 := ⟨Tryz.f287.name, by decide, Tryz.func287.trans (congrArg some (by kernel_rfl))⟩
  t0 := Tryz.underlying0
  a0 := Tryz.isAgg0
  z0 := Tryz.sizeOf0
  v0 := Tryz.zeroValue0
  t3 := Tryz.underlying3
  a3 := Tryz.isAgg3
  z3 := Tryz.sizeOf3
  v3 := Tryz.zeroValue3
  t4 := Tryz.underlying4
  a4 := Tryz.isAgg4
  z4 := Tryz.sizeOf4
  v4 := Tryz.zeroValue4
  t5 := Tryz.underlying5
  a5 := Tryz.isAgg5
  z5 := Tryz.sizeOf5
  v5 := Tryz.zeroValue5
  t9 := Tryz.underlying9
  a9 := Tryz.isAgg9
  z9 := Tryz.sizeOf9
  v9 := Tryz.zeroValue9
  t22 := Tryz.underlying22
  a22 := Tryz.isAgg22
  z22 := Tryz.sizeOf22
  v22 := Tryz.zeroValue22
  t25 := Tryz.underlying121
  a25 := Tryz.isAgg121
  z25 := Tryz.sizeOf121
  v25 := Tryz.zeroValue121
  t39 := Tryz.underlying106
  a39 := Tryz.isAgg106
  z39 := Tryz.sizeOf106
  v39 := Tryz.zeroValue106
  t45 := Tryz.underlying227
  a45 := Tryz.isAgg227
  z45 := Tryz.sizeOf227
  v45 := Tryz.zeroValue227
  t46 := Tryz.underlying228
  a46 := Tryz.isAgg228
  z46 := Tryz.sizeOf228
  v46 := Tryz.zeroValue228
  t50 := Tryz.underlying158
  a50 := Tryz.isAgg158
  z50 := Tryz.sizeOf158
  v50 := Tryz.zeroValue158
  t53 := Tryz.underlying150
  a53 := Tryz.isAgg150
  z53 := Tryz.sizeOf150
  v53 := Tryz.zeroValue150
  t55 := Tryz.underlying25
  a55 := Tryz.isAgg25
  z55 := Tryz.sizeOf25
  v55 := Tryz.zeroValue25
  t66 := Tryz.underlying274
  a66 := Tryz.isAgg274
  z66 := Tryz.sizeOf274
  v66 := Tryz.zeroValue274
  t70 := Tryz.underlying224
  a70 := Tryz.isAgg224
  z70 := Tryz.sizeOf224
  v70 := Tryz.zeroValue224
  t76 := Tryz.underlying305
  a76 := Tryz.isAgg305
  z76 := Tryz.sizeOf305
  v76 := Tryz.zeroValue305
  t77 := Tryz.underlying272
  a77 := Tryz.isAgg272
  z77 := Tryz.sizeOf272
  v77 := Tryz.zeroValue272 }
end Go.Proofs
