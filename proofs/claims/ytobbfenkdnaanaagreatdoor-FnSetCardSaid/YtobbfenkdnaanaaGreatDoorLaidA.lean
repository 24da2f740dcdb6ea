/- What the row of FnAlert lists, and a world that meets it. -/
import Derived.Test.YtobbfenkdnaanaaGreatDoorLaid
import Derived.Test.YtobbfenkdnaanaaGreatDoorAlA
import Derived.Lib.LaidU8T
import Derived.Lay
import Derived.MakeChecks
set_option linter.unusedVariables false
set_option linter.unusedSimpArgs false
namespace Go.Proofs.YtobbfenkdnaanaaGreatDoor
open Go.ChangeShapes Go.WideShapes Go.ChangeAt Go.RowKit

/-- What the law FnAlert asks of a world. -/
structure GlobT (w : World) : Prop where
  glob : Glob w
  tabs : Tabs w
theorem GlobT.next {w w' : World} (h : GlobT w) (hb : Below w.heap.size w w') : GlobT w' := ⟨h.glob.next hb, h.tabs.next hb⟩

set_option maxRecDepth 100000
/-- The variables that the law FnAlert lists. -/
abbrev laid7 : List (String × DataW Unit) := [("math/bits.deBruijn32tab", Rows.laid_math_bits_deBruijn32tab), ("math/bits.deBruijn64tab", Rows.laid_math_bits_deBruijn64tab), ("internal/strconv.uint64pow10", Rows.laid_internal_strconv_uint64pow10), ("unicode/utf8.acceptRanges", Rows.laid_unicode_utf8_acceptRanges), ("strconv.ErrRange", Rows.laid_strconv_ErrRange), ("strconv.ErrSyntax", Rows.laid_strconv_ErrSyntax), ("unicode/utf8.first", Rows.laid_unicode_utf8_first)]

theorem globT_of_laid {W : World} (h0 : laidMetH Tryz.prog laid7 W) : GlobT W := by
  have h : laidMet Tryz.prog laid7 W := h0
  have hs : 15 ≤ W.heap.size := by
    obtain ⟨ps, ⟨g, t, cs, fuel, p, q, hg, _, hv, _⟩, _⟩ := h.tail
    obtain rfl := Option.some.inj (g_last.symm.trans hg)
    unfold World.var? at hv
    simp only [g_last, Option.bind_some] at hv
    rcases Nat.lt_or_ge 14 W.heap.size with h' | h'
    · omega
    · simp [Array.getElem?_eq_none h'] at hv
  have h2 := h.tail.tail
  have h3 := h2.tail.tail
  have h4 := h3.tail
  refine ⟨⟨hs, ?_, ?_, ?_⟩, ?_⟩
  · exact Lib.tabIs_of_head (zs := Lib.pow10Tab) g_pow g2ty Tryz.underlying296 Tryz.underlying25 cells25 cells296 h2
  · obtain ⟨a, s, hv, _, _, _⟩ := laid_sentinel h4 g_syn g3ty Tryz.underlying95 rowErr Tryz.underlying217 Tryz.underlying219 rfl rfl Tryz.underlying9 cells219 cells9
    exact ⟨_, _, hv⟩
  · obtain ⟨a, s, hv, _, _, _⟩ := laid_sentinel h3 g_rng g4ty Tryz.underlying95 rowErr Tryz.underlying217 Tryz.underlying219 rfl rfl Tryz.underlying9 cells219 cells9
    exact ⟨_, _, hv⟩
  · exact utf8Tabs_of_readsT (U8Types.of196 Tryz.laysValid) ⟨by kernel_rfl, by kernel_rfl, by kernel_rfl, by kernel_rfl, by kernel_rfl, by kernel_rfl, by kernel_rfl⟩
      (Lib.laidMet.reads h (.tail _ (.tail _ (.tail _ (.tail _ (.tail _ (.tail _ (.head _)))))))) (Lib.laidMet.reads h (.tail _ (.tail _ (.tail _ (.head _)))))

/-- The world that a program lays by the datum meets the condition. -/
theorem door_met7 (os : Os) (args : Array Value) : laidMetH Tryz.prog laid7 ((World.laidAll Tryz.prog os laid7).forCall (fun _ _ => 0) ⟨#[], args, []⟩).memory := by
  rw [MakeChecks.laidMetH_plain _ _ _ (by kernel_rfl)]; exact laidMet_laidAll _ (by kernel_rfl) (by kernel_rfl)
end Go.Proofs.YtobbfenkdnaanaaGreatDoor
