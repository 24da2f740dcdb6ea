/- What the rows' list of package-level variables gives a walk, and a world that meets it. -/
import Derived.Test.YtobbfenkdnaanaaGreatDoorRows
import Derived.Test.YtobbfenkdnaanaaGreatDoorDurB
import Derived.ProofKit
import Derived.LaidMore
import Derived.LaidLaws
import Derived.Stop.Joined
import Derived.Stop.LaidErr
import Derived.Lib.LaidTab
import Derived.Deep.DeepHandedRow
import Derived.Deep.DeepWitnessRowRef
import Derived.Lay
import Derived.MakeChecks
set_option linter.unusedVariables false
set_option linter.unusedSimpArgs false
namespace Go.Proofs.YtobbfenkdnaanaaGreatDoor
open Go.ChangeShapes Go.WideShapes Go.ChangeAt Go.RowKit

theorem own : ownKnob Tryz.prog.godebug = none := by kernel_rfl
theorem starErr : "*" ++ "errors.errorString" = "*errors.errorString" := by decide
theorem rowErr (u : TypeId) (h : Tryz.prog.typeName? 3 u = some "*errors.errorString") : u = 217 :=
  typeName_ptr_named (nm := "errors.errorString") (by rw [starErr]; kernel_rfl) (by kernel_rfl) (by decide) u (by rw [starErr]; exact h)
theorem g_last : Tryz.prog.globalNamed "math/bits.deBruijn64tab" = some 14 := by kernel_rfl
theorem g2ty : (Tryz.prog.globals[3]?).map (·.type) = some 296 := by kernel_rfl
theorem g3ty : (Tryz.prog.globals[4]?).map (·.type) = some 95 := by kernel_rfl
theorem g4ty : (Tryz.prog.globals[5]?).map (·.type) = some 95 := by kernel_rfl
theorem cells219 : Tryz.prog.cellsOf 219 = 1 := by kernel_rfl
theorem cells9 : Tryz.prog.cellsOf 9 = 1 := by kernel_rfl
theorem cells25 : Tryz.prog.cellsOf 25 = 1 := by kernel_rfl
theorem cells296 : Tryz.prog.cellsOf 296 = 20 := by kernel_rfl

/-- The variables that every law of this seat lists, the decoding tables apart. -/
abbrev laid5 : List (String × DataW Unit) := [("math/bits.deBruijn32tab", Rows.laid_math_bits_deBruijn32tab), ("math/bits.deBruijn64tab", Rows.laid_math_bits_deBruijn64tab), ("internal/strconv.uint64pow10", Rows.laid_internal_strconv_uint64pow10), ("strconv.ErrRange", Rows.laid_strconv_ErrRange), ("strconv.ErrSyntax", Rows.laid_strconv_ErrSyntax)]

/-- WHAT THE CONDITION GIVES THE WALKS. -/
theorem glob_of_laid {W : World} (h0 : laidMetH Tryz.prog laid5 W) : Glob W := by
  have h : laidMet Tryz.prog laid5 W := h0
  have hs : 15 ≤ W.heap.size := by
    obtain ⟨ps, ⟨g, t, cs, fuel, p, q, hg, _, hv, _⟩, _⟩ := h.tail
    obtain rfl := Option.some.inj (g_last.symm.trans hg)
    unfold World.var? at hv
    simp only [g_last, Option.bind_some] at hv
    rcases Nat.lt_or_ge 14 W.heap.size with h' | h'
    · omega
    · simp [Array.getElem?_eq_none h'] at hv
  have h2 := h.tail.tail
  have h3 := h2.tail
  have h4 := h3.tail
  refine ⟨hs, ?_, ?_, ?_⟩
  · exact Lib.tabIs_of_head (zs := Lib.pow10Tab) g_pow g2ty Tryz.underlying296 Tryz.underlying25 cells25 cells296 h2
  · obtain ⟨a, s, hv, _, _, _⟩ := laid_sentinel h4 g_syn g3ty Tryz.underlying95 rowErr Tryz.underlying217 Tryz.underlying219 rfl rfl Tryz.underlying9 cells219 cells9
    exact ⟨_, _, hv⟩
  · obtain ⟨a, s, hv, _, _, _⟩ := laid_sentinel h3 g_rng g4ty Tryz.underlying95 rowErr Tryz.underlying217 Tryz.underlying219 rfl rfl Tryz.underlying9 cells219 cells9
    exact ⟨_, _, hv⟩

set_option maxRecDepth 100000 in
/-- The world that a program lays by the datum meets the condition. -/
theorem door_metN (os : Os) (args : Array Value) : laidMetH Tryz.prog laid5 ((World.laidAll Tryz.prog os laid5).forCall (fun _ _ => 0) ⟨#[], args, []⟩).memory := by
  rw [MakeChecks.laidMetH_plain _ _ _ (by kernel_rfl)]; exact laidMet_laidAll _ (by kernel_rfl) (by kernel_rfl)
end Go.Proofs.YtobbfenkdnaanaaGreatDoor
