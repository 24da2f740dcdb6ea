/- What the rows' list gives the law on escaping. -/
import Derived.Test.YtaajhionmdjhjaaDoorLaidN
import Derived.Test.YtaajhionmdjhjaaDoorEscL
set_option linter.unusedVariables false
set_option linter.unusedSimpArgs false
namespace Go.Proofs.YtaajhionmdjhjaaDoor
open Go.ChangeShapes Go.WideShapes Go.ChangeAt Go.RowKit

/-- The table of trailing zeros, as numbers. -/
def db64 : List Int := [0, 1, 56, 2, 57, 49, 28, 3, 61, 58, 42, 50, 38, 29, 17, 4, 62, 47, 59, 36, 45, 43, 51, 22, 53, 39, 33, 30, 24, 18, 12, 5, 63, 55, 48, 27, 60, 41, 37, 16, 46, 35, 44, 21, 52, 32, 23, 11, 54, 26, 40, 15, 34, 20, 31, 10, 25, 14, 19, 9, 13, 8, 7, 6]
theorem g6ty : (Tryd.prog.globals[6]?).map (·.type) = some 139 := by kernel_rfl
theorem cells139 : Tryd.prog.cellsOf 139 = 64 := by kernel_rfl
theorem cells5 : Tryd.prog.cellsOf 5 = 1 := by kernel_rfl

set_option maxRecDepth 100000 in
theorem globE_of_laid {W : World} (h0 : laidMetH Tryd.prog laid7 W) : GlobE W := by
  refine ⟨globT_of_laid h0, ?_⟩
  have h : laidMet Tryd.prog laid7 W := h0
  have ht : Lib.TabIs Tryd.prog W "math/bits.deBruijn64tab" .u8 db64 := Lib.tabIs_of_head (zs := db64) g_last g6ty Tryd.underlying139 Tryd.underlying5 cells5 cells139 h.tail
  unfold Lib.TabIs at ht
  unfold Ctz
  rw [World.var?_cell g_last ht 15]
  rfl
end Go.Proofs.YtaajhionmdjhjaaDoor
