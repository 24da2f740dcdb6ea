/- What the rows' list of package-level variables gives a walk, and a world that meets it. -/
import Derived.Test.YtaajhionmdjhjaaDoorRows
import Derived.Test.YtaajhionmdjhjaaDoorDurB
import Derived.ProofKit
import Derived.LaidMore
import Derived.LaidLaws
import Derived.Stop.Joined
import Derived.Stop.LaidErr
import Derived.Lib.LaidTab
import Derived.Deep.DeepHandedRow
import Derived.Deep.DeepWitnessRowRef
set_option linter.unusedVariables false
set_option linter.unusedSimpArgs false
namespace Go.Proofs.YtaajhionmdjhjaaDoor
open Go.ChangeShapes Go.WideShapes Go.ChangeAt Go.RowKit

theorem own : ownKnob Tryd.prog.godebug = none := by kernel_rfl
theorem star108 : "*" ++ "errors.errorString" = "*errors.errorString" := by decide
theorem row108 (u : TypeId) (h : Tryd.prog.typeName? 3 u = some "*errors.errorString") : u = 108 :=
  typeName_ptr_named (nm := "errors.errorString") (by rw [star108]; kernel_rfl) (by kernel_rfl) (by decide) u (by rw [star108]; exact h)
theorem g_last : Tryd.prog.globalNamed "math/bits.deBruijn64tab" = some 6 := by kernel_rfl
theorem g2ty : (Tryd.prog.globals[2]?).map (·.type) = some 126 := by kernel_rfl
theorem g3ty : (Tryd.prog.globals[3]?).map (·.type) = some 55 := by kernel_rfl
theorem g4ty : (Tryd.prog.globals[4]?).map (·.type) = some 55 := by kernel_rfl
theorem cells110 : Tryd.prog.cellsOf 110 = 1 := by kernel_rfl
theorem cells9 : Tryd.prog.cellsOf 9 = 1 := by kernel_rfl
theorem cells51 : Tryd.prog.cellsOf 51 = 1 := by kernel_rfl
theorem cells126 : Tryd.prog.cellsOf 126 = 20 := by kernel_rfl

/-- The variables that every law of this seat lists, the decoding tables apart. -/
abbrev laid5 : List (String × DataW Unit) := [("math/bits.deBruijn32tab", Rows.laid_math_bits_deBruijn32tab), ("math/bits.deBruijn64tab", Rows.laid_math_bits_deBruijn64tab), ("internal/strconv.uint64pow10", Rows.laid_internal_strconv_uint64pow10), ("strconv.ErrRange", Rows.laid_strconv_ErrRange), ("strconv.ErrSyntax", Rows.laid_strconv_ErrSyntax)]

/-- WHAT THE CONDITION GIVES THE WALKS. -/
theorem glob_of_laid {W : World} (h0 : laidMetH Tryd.prog laid5 W) : Glob W := by
  have h : laidMet Tryd.prog laid5 W := h0
  have hs : 7 ≤ W.heap.size := by
    obtain ⟨ps, ⟨g, t, cs, fuel, p, q, hg, _, hv, _⟩, _⟩ := h.tail
    obtain rfl := Option.some.inj (g_last.symm.trans hg)
    unfold World.var? at hv
    simp only [g_last, Option.bind_some] at hv
    rcases Nat.lt_or_ge 6 W.heap.size with h' | h'
    · omega
    · simp [Array.getElem?_eq_none h'] at hv
  have h2 := h.tail.tail
  have h3 := h2.tail
  have h4 := h3.tail
  refine ⟨hs, ?_, ?_, ?_⟩
  · exact Lib.tabIs_of_head (zs := Lib.pow10Tab) g_pow g2ty Tryd.underlying126 Tryd.underlying51 cells51 cells126 h2
  · obtain ⟨a, s, hv, _, _, _⟩ := laid_sentinel h4 g_syn g3ty Tryd.underlying55 row108 Tryd.underlying108 Tryd.underlying110 rfl rfl Tryd.underlying9 cells110 cells9
    exact ⟨_, _, hv⟩
  · obtain ⟨a, s, hv, _, _, _⟩ := laid_sentinel h3 g_rng g4ty Tryd.underlying55 row108 Tryd.underlying108 Tryd.underlying110 rfl rfl Tryd.underlying9 cells110 cells9
    exact ⟨_, _, hv⟩

/-- The heap that the door's own run leaves meets the condition. -/
theorem door_met (os : Os) (args : Array Value) : laidMetH Tryd.prog laid5 ((World.doorLaid Tryd.prog 72 os).forCall (fun _ _ => 0) ⟨#[], args, []⟩).memory :=
  laidMetH_of_parts3 (fuel := 8) (laidMet_of_run' 8 (by kernel_rfl) (by kernel_rfl)) (by kernel_rfl) (by kernel_rfl)
end Go.Proofs.YtaajhionmdjhjaaDoor
