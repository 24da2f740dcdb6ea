/-
  DERIVED: THE SHELF's CONTRACTS AT THIS DUMP, IN PLAIN WORDS (tools/lay-plain.mjs out of 'YtobbfenkdnaanaaGreatDoorSrt.lean', which tools/lay-shelf.mjs wrote): THE SAME DECLARATIONS UNDER THE SAME NAMES: 'import', 'namespace', 'open', 'def', 'theorem' AND NOTHING ELSE: no command of the shelf's: FOR A HAND-IN. Each laying: the table of numbers ('.._ren') and one theorem, a field a fact of the dump's own or the kernel's comparison; each contract: ONE APPLICATION.
-/
import Derived.Shelf.SlGeneric
import Derived.Shelf.SortM.Plain
import Derived.Shelf.SortM.SortNone
import Derived.Ground.SlgmProg
import Derived.Shelf.Sort.Plain
import Derived.Test.YtobbfenkdnaanaaGreatDoorProg
namespace Go.Proofs
open Go.Shelf
def Tryz.mNames_ren : Go.Shelf.Ren := ⟨fun | 6 => 140 | 8 => 68 | 9 => 194 | 19 => 129 | 20 => 130 | 21 => 244 | 22 => 245 | 23 => 246 | 24 => 247 | 25 => 248 | 26 => 249 | 27 => 250 | 28 => 251 | 29 => 252 | 36 => 283 | 31 => 239 | 32 => 240 | 37 => 284 | 38 => 285 | 39 => 286 | 41 => 315 | n => n, fun | 27 => 164 | 29 => 118 | 3 => 3 | 32 => 106 | 26 => 163 | 0 => 0 | 44 => 150 | 46 => 25 | 4 => 4 | 36 => 228 | 35 => 227 | 41 => 158 | 5 => 5 | 9 => 9 | 53 => 274 | 57 => 224 | 63 => 305 | 64 => 272 | n => n, fun | n => n⟩
theorem Tryz.mNames : Go.Proofs.SlLaysM.n6 Tryz.prog Tryz.mNames_ren := {
  mixed := by kernel_rfl
  f6 := ⟨Tryz.f140.name, by decide, Tryz.func140.trans (congrArg some (by kernel_rfl))⟩
  f8 := Tryz.func68.trans (congrArg some (by kernel_rfl))
  f9 := ⟨Tryz.f194.name, by decide, Tryz.func194.trans (congrArg some (by kernel_rfl))⟩
  f19 := Tryz.func129.trans (congrArg some (by kernel_rfl))
  f20 := Tryz.func130.trans (congrArg some (by kernel_rfl))
  f21 := ⟨Tryz.f244.name, by decide, Tryz.func244.trans (congrArg some (by kernel_rfl))⟩
  f22 := ⟨Tryz.f245.name, by decide, Tryz.func245.trans (congrArg some (by kernel_rfl))⟩
  f23 := ⟨Tryz.f246.name, by decide, Tryz.func246.trans (congrArg some (by kernel_rfl))⟩
  f24 := ⟨Tryz.f247.name, by decide, Tryz.func247.trans (congrArg some (by kernel_rfl))⟩
  f25 := ⟨Tryz.f248.name, by decide, Tryz.func248.trans (congrArg some (by kernel_rfl))⟩
  f26 := ⟨Tryz.f249.name, by decide, Tryz.func249.trans (congrArg some (by kernel_rfl))⟩
  f27 := ⟨Tryz.f250.name, by decide, Tryz.func250.trans (congrArg some (by kernel_rfl))⟩
  f28 := ⟨Tryz.f251.name, by decide, Tryz.func251.trans (congrArg some (by kernel_rfl))⟩
  f29 := ⟨Tryz.f252.name, by decide, Tryz.func252.trans (congrArg some (by kernel_rfl))⟩
  f31 := Tryz.func239.trans (congrArg some (by kernel_rfl))
  f32 := Tryz.func240.trans (congrArg some (by kernel_rfl))
  f36 := ⟨Tryz.f283.name, by decide, Tryz.func283.trans (congrArg some (by kernel_rfl))⟩
  f37 := ⟨Tryz.f284.name, by decide, Tryz.func284.trans (congrArg some (by kernel_rfl))⟩
  f38 := ⟨Tryz.f285.name, by decide, Tryz.func285.trans (congrArg some (by kernel_rfl))⟩
  f39 := ⟨Tryz.f286.name, by decide, Tryz.func286.trans (congrArg some (by kernel_rfl))⟩
  f41 := ⟨Tryz.f315.name, by decide, Tryz.func315.trans (congrArg some (by kernel_rfl))⟩
  t0 := Tryz.underlying0
  a0 := Tryz.isAgg0
  z0 := Tryz.sizeOf0
  v0 := Tryz.zeroValue0
  t3 := Tryz.underlying3
  a3 := Tryz.isAgg3
  z3 := Tryz.sizeOf3
  v3 := Tryz.zeroValue3
  t4 := Tryz.underlying4
  a4 := Tryz.isAgg4
  z4 := Tryz.sizeOf4
  v4 := Tryz.zeroValue4
  t5 := Tryz.underlying5
  a5 := Tryz.isAgg5
  z5 := Tryz.sizeOf5
  v5 := Tryz.zeroValue5
  t9 := Tryz.underlying9
  a9 := Tryz.isAgg9
  z9 := Tryz.sizeOf9
  v9 := Tryz.zeroValue9
  t26 := Tryz.underlying163
  a26 := Tryz.isAgg163
  z26 := Tryz.sizeOf163
  v26 := Tryz.zeroValue163
  t27 := Tryz.underlying164
  a27 := Tryz.isAgg164
  z27 := Tryz.sizeOf164
  v27 := Tryz.zeroValue164
  t29 := Tryz.underlying118
  a29 := Tryz.isAgg118
  z29 := Tryz.sizeOf118
  v29 := Tryz.zeroValue118
  t32 := Tryz.underlying106
  a32 := Tryz.isAgg106
  z32 := Tryz.sizeOf106
  v32 := Tryz.zeroValue106
  t35 := Tryz.underlying227
  a35 := Tryz.isAgg227
  z35 := Tryz.sizeOf227
  v35 := Tryz.zeroValue227
  t36 := Tryz.underlying228
  a36 := Tryz.isAgg228
  z36 := Tryz.sizeOf228
  v36 := Tryz.zeroValue228
  t41 := Tryz.underlying158
  a41 := Tryz.isAgg158
  z41 := Tryz.sizeOf158
  v41 := Tryz.zeroValue158
  t44 := Tryz.underlying150
  a44 := Tryz.isAgg150
  z44 := Tryz.sizeOf150
  v44 := Tryz.zeroValue150
  t46 := Tryz.underlying25
  a46 := Tryz.isAgg25
  z46 := Tryz.sizeOf25
  v46 := Tryz.zeroValue25
  t53 := Tryz.underlying274
  a53 := Tryz.isAgg274
  z53 := Tryz.sizeOf274
  v53 := Tryz.zeroValue274
  t57 := Tryz.underlying224
  a57 := Tryz.isAgg224
  z57 := Tryz.sizeOf224
  v57 := Tryz.zeroValue224
  t63 := Tryz.underlying305
  a63 := Tryz.isAgg305
  z63 := Tryz.sizeOf305
  v63 := Tryz.zeroValue305
  t64 := Tryz.underlying272
  a64 := Tryz.isAgg272
  z64 := Tryz.sizeOf272
  v64 := Tryz.zeroValue272 }
def Tryz.lays192_ren : Go.Shelf.Ren := ⟨fun | 192 => 56 | 190 => 115 | 125 => 68 | 258 => 179 | 128 => 129 | 129 => 130 | 302 => 228 | 303 => 229 | 304 => 230 | 305 => 231 | 306 => 232 | 307 => 233 | 308 => 234 | 309 => 235 | 310 => 236 | 333 => 278 | 329 => 239 | 330 => 240 | 334 => 279 | 335 => 280 | 336 => 281 | 344 => 314 | n => n, fun | 31 => 81 | 0 => 0 | 9 => 9 | 3 => 3 | 46 => 106 | 51 => 150 | 53 => 25 | 4 => 4 | 183 => 228 | 182 => 227 | 131 => 158 | 5 => 5 | 218 => 274 | 222 => 224 | 228 => 305 | 229 => 272 | n => n, fun | n => n⟩
theorem Tryz.lays192 : Go.Proofs.Lays.n192 Tryz.prog Tryz.lays192_ren := {
  mixed := by kernel_rfl
  f125 := Tryz.func68.trans (congrArg some (by kernel_rfl))
  f128 := Tryz.func129.trans (congrArg some (by kernel_rfl))
  f129 := Tryz.func130.trans (congrArg some (by kernel_rfl))
  f190 := Tryz.func115.trans (congrArg some (by kernel_rfl))
  f192 := Tryz.func56.trans (congrArg some (by kernel_rfl))
  f258 := Tryz.func179.trans (congrArg some (by kernel_rfl))
  f302 := Tryz.func228.trans (congrArg some (by kernel_rfl))
  f303 := Tryz.func229.trans (congrArg some (by kernel_rfl))
  f304 := Tryz.func230.trans (congrArg some (by kernel_rfl))
  f305 := Tryz.func231.trans (congrArg some (by kernel_rfl))
  f306 := Tryz.func232.trans (congrArg some (by kernel_rfl))
  f307 := Tryz.func233.trans (congrArg some (by kernel_rfl))
  f308 := Tryz.func234.trans (congrArg some (by kernel_rfl))
  f309 := Tryz.func235.trans (congrArg some (by kernel_rfl))
  f310 := Tryz.func236.trans (congrArg some (by kernel_rfl))
  f329 := Tryz.func239.trans (congrArg some (by kernel_rfl))
  f330 := Tryz.func240.trans (congrArg some (by kernel_rfl))
  f333 := Tryz.func278.trans (congrArg some (by kernel_rfl))
  f334 := Tryz.func279.trans (congrArg some (by kernel_rfl))
  f335 := Tryz.func280.trans (congrArg some (by kernel_rfl))
  f336 := Tryz.func281.trans (congrArg some (by kernel_rfl))
  f344 := Tryz.func314.trans (congrArg some (by kernel_rfl))
  t0 := Tryz.underlying0
  a0 := Tryz.isAgg0
  z0 := Tryz.sizeOf0
  v0 := Tryz.zeroValue0
  t3 := Tryz.underlying3
  a3 := Tryz.isAgg3
  z3 := Tryz.sizeOf3
  v3 := Tryz.zeroValue3
  t4 := Tryz.underlying4
  a4 := Tryz.isAgg4
  z4 := Tryz.sizeOf4
  v4 := Tryz.zeroValue4
  t5 := Tryz.underlying5
  a5 := Tryz.isAgg5
  z5 := Tryz.sizeOf5
  v5 := Tryz.zeroValue5
  t9 := Tryz.underlying9
  a9 := Tryz.isAgg9
  z9 := Tryz.sizeOf9
  v9 := Tryz.zeroValue9
  t31 := Tryz.underlying81
  a31 := Tryz.isAgg81
  z31 := Tryz.sizeOf81
  v31 := Tryz.zeroValue81
  t46 := Tryz.underlying106
  a46 := Tryz.isAgg106
  z46 := Tryz.sizeOf106
  v46 := Tryz.zeroValue106
  t51 := Tryz.underlying150
  a51 := Tryz.isAgg150
  z51 := Tryz.sizeOf150
  v51 := Tryz.zeroValue150
  t53 := Tryz.underlying25
  a53 := Tryz.isAgg25
  z53 := Tryz.sizeOf25
  v53 := Tryz.zeroValue25
  t131 := Tryz.underlying158
  a131 := Tryz.isAgg158
  z131 := Tryz.sizeOf158
  v131 := Tryz.zeroValue158
  t182 := Tryz.underlying227
  a182 := Tryz.isAgg227
  z182 := Tryz.sizeOf227
  v182 := Tryz.zeroValue227
  t183 := Tryz.underlying228
  a183 := Tryz.isAgg228
  z183 := Tryz.sizeOf228
  v183 := Tryz.zeroValue228
  t218 := Tryz.underlying274
  a218 := Tryz.isAgg274
  z218 := Tryz.sizeOf274
  v218 := Tryz.zeroValue274
  t222 := Tryz.underlying224
  a222 := Tryz.isAgg224
  z222 := Tryz.sizeOf224
  v222 := Tryz.zeroValue224
  t228 := Tryz.underlying305
  a228 := Tryz.isAgg305
  z228 := Tryz.sizeOf305
  v228 := Tryz.zeroValue305
  t229 := Tryz.underlying272
  a229 := Tryz.isAgg272
  z229 := Tryz.sizeOf272
  v229 := Tryz.zeroValue272 }
open Go.RowKit Go.Sort Go.Lib in
/-- slices.Sort at the names of labels. -/
theorem Tryz.sort_names (blk off cap : Nat) (ss : List (List UInt8)) (w : World) (hH : Holds encStr w blk off ss.toArray) (hblk : blk < w.heap.size) (hsz : ss.length < 4611686018427387904) :
    Calls Tryz.prog 140 #[.slice (some ⟨blk, off, none⟩) ss.length cap] w fun e w' =>
      e = .returned (.tuple #[]) ∧ ∃ n os, w' = grow (putRow encStr (Sort.ahead w n) blk off (ss.mergeSort fun x y => decide (x ≤ y)).toArray) os := AnyM.slices_Sort_string Tryz.mNames blk off cap ss w hH hblk hsz
open Go.RowKit Go.Sort Go.Lib in
/-- sort.Strings. -/
theorem Tryz.sort_strings (blk off cap : Nat) (ss : List (List UInt8)) (w : World) (hH : Holds encStr w blk off ss.toArray) (hblk : blk < w.heap.size) (hsz : ss.length < 4611686018427387904) :
    Calls Tryz.prog 56 #[.slice (some ⟨blk, off, none⟩) ss.length cap] w fun e w' =>
      e = .returned (.tuple #[]) ∧ ∃ n os, w' = grow (putRow encStr (Sort.ahead w n) blk off (ss.mergeSort fun x y => decide (x ≤ y)).toArray) os := Any.sort_Strings Tryz.lays192 blk off cap ss w hH hblk hsz
end Go.Proofs
