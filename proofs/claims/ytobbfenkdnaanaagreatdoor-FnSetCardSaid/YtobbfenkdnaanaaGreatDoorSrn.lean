/-
  DERIVED: THE SHELF's CONTRACTS AT THIS DUMP, IN PLAIN WORDS (tools/lay-plain.mjs out of 'YtobbfenkdnaanaaGreatDoorSrn.lean', which tools/lay-shelf.mjs wrote): THE SAME DECLARATIONS UNDER THE SAME NAMES: 'import', 'namespace', 'open', 'def', 'theorem' AND NOTHING ELSE: no command of the shelf's: FOR A HAND-IN. Each laying: the table of numbers ('.._ren') and one theorem, a field a fact of the dump's own or the kernel's comparison; each contract: ONE APPLICATION.
-/
import Derived.Shelf.SlGeneric
import Derived.Shelf.SortM.Plain
import Derived.Shelf.SortM.SortNone
import Derived.Ground.SlgmProg
import Derived.Test.YtobbfenkdnaanaaGreatDoorProg
namespace Go.Proofs
open Go.Shelf
def Tryz.mStrs_ren : Go.Shelf.Ren := ⟨fun | 6 => 115 | 8 => 68 | 9 => 179 | 19 => 129 | 20 => 130 | 21 => 228 | 22 => 229 | 23 => 230 | 24 => 231 | 25 => 232 | 26 => 233 | 27 => 234 | 28 => 235 | 29 => 236 | 36 => 278 | 31 => 239 | 32 => 240 | 37 => 279 | 38 => 280 | 39 => 281 | 41 => 314 | n => n, fun | 27 => 81 | 29 => 9 | 3 => 3 | 32 => 106 | 26 => 81 | 0 => 0 | 44 => 150 | 46 => 25 | 4 => 4 | 36 => 228 | 35 => 227 | 41 => 158 | 5 => 5 | 9 => 9 | 53 => 274 | 57 => 224 | 63 => 305 | 64 => 272 | n => n, fun | n => n⟩
theorem Tryz.mStrs : Go.Proofs.SlLaysM.n6 Tryz.prog Tryz.mStrs_ren := {
  mixed := by kernel_rfl
  f6 := ⟨Tryz.f115.name, by decide, Tryz.func115.trans (congrArg some (by kernel_rfl))⟩
  f8 := Tryz.func68.trans (congrArg some (by kernel_rfl))
  f9 := ⟨Tryz.f179.name, by decide, Tryz.func179.trans (congrArg some (by kernel_rfl))⟩
  f19 := Tryz.func129.trans (congrArg some (by kernel_rfl))
  f20 := Tryz.func130.trans (congrArg some (by kernel_rfl))
  f21 := ⟨Tryz.f228.name, by decide, Tryz.func228.trans (congrArg some (by kernel_rfl))⟩
  f22 := ⟨Tryz.f229.name, by decide, Tryz.func229.trans (congrArg some (by kernel_rfl))⟩
  f23 := ⟨Tryz.f230.name, by decide, Tryz.func230.trans (congrArg some (by kernel_rfl))⟩
  f24 := ⟨Tryz.f231.name, by decide, Tryz.func231.trans (congrArg some (by kernel_rfl))⟩
  f25 := ⟨Tryz.f232.name, by decide, Tryz.func232.trans (congrArg some (by kernel_rfl))⟩
  f26 := ⟨Tryz.f233.name, by decide, Tryz.func233.trans (congrArg some (by kernel_rfl))⟩
  f27 := ⟨Tryz.f234.name, by decide, Tryz.func234.trans (congrArg some (by kernel_rfl))⟩
  f28 := ⟨Tryz.f235.name, by decide, Tryz.func235.trans (congrArg some (by kernel_rfl))⟩
  f29 := ⟨Tryz.f236.name, by decide, Tryz.func236.trans (congrArg some (by kernel_rfl))⟩
  f31 := Tryz.func239.trans (congrArg some (by kernel_rfl))
  f32 := Tryz.func240.trans (congrArg some (by kernel_rfl))
  f36 := ⟨Tryz.f278.name, by decide, Tryz.func278.trans (congrArg some (by kernel_rfl))⟩
  f37 := ⟨Tryz.f279.name, by decide, Tryz.func279.trans (congrArg some (by kernel_rfl))⟩
  f38 := ⟨Tryz.f280.name, by decide, Tryz.func280.trans (congrArg some (by kernel_rfl))⟩
  f39 := ⟨Tryz.f281.name, by decide, Tryz.func281.trans (congrArg some (by kernel_rfl))⟩
  f41 := ⟨Tryz.f314.name, by decide, Tryz.func314.trans (congrArg some (by kernel_rfl))⟩
  t0 := Tryz.underlying0
  a0 := Tryz.isAgg0
  z0 := Tryz.sizeOf0
  v0 := Tryz.zeroValue0
  t3 := Tryz.underlying3
  a3 := Tryz.isAgg3
  z3 := Tryz.sizeOf3
  v3 := Tryz.zeroValue3
  t4 := Tryz.underlying4
  a4 := Tryz.isAgg4
  z4 := Tryz.sizeOf4
  v4 := Tryz.zeroValue4
  t5 := Tryz.underlying5
  a5 := Tryz.isAgg5
  z5 := Tryz.sizeOf5
  v5 := Tryz.zeroValue5
  t9 := Tryz.underlying9
  a9 := Tryz.isAgg9
  z9 := Tryz.sizeOf9
  v9 := Tryz.zeroValue9
  t26 := Tryz.underlying81
  a26 := Tryz.isAgg81
  z26 := Tryz.sizeOf81
  v26 := Tryz.zeroValue81
  t27 := Tryz.underlying81
  a27 := Tryz.isAgg81
  z27 := Tryz.sizeOf81
  v27 := Tryz.zeroValue81
  t29 := Tryz.underlying9
  a29 := Tryz.isAgg9
  z29 := Tryz.sizeOf9
  v29 := Tryz.zeroValue9
  t32 := Tryz.underlying106
  a32 := Tryz.isAgg106
  z32 := Tryz.sizeOf106
  v32 := Tryz.zeroValue106
  t35 := Tryz.underlying227
  a35 := Tryz.isAgg227
  z35 := Tryz.sizeOf227
  v35 := Tryz.zeroValue227
  t36 := Tryz.underlying228
  a36 := Tryz.isAgg228
  z36 := Tryz.sizeOf228
  v36 := Tryz.zeroValue228
  t41 := Tryz.underlying158
  a41 := Tryz.isAgg158
  z41 := Tryz.sizeOf158
  v41 := Tryz.zeroValue158
  t44 := Tryz.underlying150
  a44 := Tryz.isAgg150
  z44 := Tryz.sizeOf150
  v44 := Tryz.zeroValue150
  t46 := Tryz.underlying25
  a46 := Tryz.isAgg25
  z46 := Tryz.sizeOf25
  v46 := Tryz.zeroValue25
  t53 := Tryz.underlying274
  a53 := Tryz.isAgg274
  z53 := Tryz.sizeOf274
  v53 := Tryz.zeroValue274
  t57 := Tryz.underlying224
  a57 := Tryz.isAgg224
  z57 := Tryz.sizeOf224
  v57 := Tryz.zeroValue224
  t63 := Tryz.underlying305
  a63 := Tryz.isAgg305
  z63 := Tryz.sizeOf305
  v63 := Tryz.zeroValue305
  t64 := Tryz.underlying272
  a64 := Tryz.isAgg272
  z64 := Tryz.sizeOf272
  v64 := Tryz.zeroValue272 }
open Go.RowKit Go.Sort Go.Lib in
/-- slices.Sort at strings, of no element. -/
theorem Tryz.sort_strs_none (p : Option Addr) (cap : Nat) (w : World) : Calls Tryz.prog 115 #[.slice p 0 cap] w fun e w' => e = .returned (.tuple #[]) ∧ w' = w := AnyM.slices_Sort_string_none Tryz.mStrs p cap w
end Go.Proofs
