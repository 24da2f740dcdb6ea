/- What the row of FnSet lists, and a world that meets it. -/
import Derived.Test.YtobbfenkdnaanaaGreatDoorLaidA
import Derived.Test.YtobbfenkdnaanaaGreatDoorHxB
import Derived.Test.YtobbfenkdnaanaaGreatDoorQjr
import Derived.Lib.LaidPrint
set_option linter.unusedVariables false
set_option linter.unusedSimpArgs false
namespace Go.Proofs.YtobbfenkdnaanaaGreatDoor
open Go.ChangeShapes Go.WideShapes Go.ChangeAt Go.RowKit Go.Proofs

set_option maxRecDepth 100000
/-- The four tables of strconv.IsPrint, as the model's own text bears them. -/
def tabsZ : Lib.PrintTabs where
  p16 := Go.Pinned.isPrint16Z
  n16 := Go.Pinned.isNotPrint16Z
  p32 := Go.Pinned.isPrint32Z
  n32 := Go.Pinned.isNotPrint32Z
/-- What the law FnSet asks of a world. -/
structure GlobZ (w : World) : Prop where
  glob : Glob w
  ctz : Ctz w
  prin : Lib.PrintTabsAt 8 9 10 11 tabsZ w
  utf : Lib.Utf8Tabs 0 1 w
theorem GlobZ.next {w w' : World} (h : GlobZ w) (hb : Below w.heap.size w w') : GlobZ w' := ⟨h.glob.next hb, cell_below hb h.ctz, printTabs_below h.prin hb, Utf8Tabs_below h.utf hb⟩
/-- The variables that the law FnSet lists. -/
abbrev laid13 : List (String × DataW Unit) := [("math/bits.deBruijn32tab", Rows.laid_math_bits_deBruijn32tab), ("math/bits.deBruijn64tab", Rows.laid_math_bits_deBruijn64tab), ("internal/strconv.uint64pow10", Rows.laid_internal_strconv_uint64pow10), ("unicode/utf8.acceptRanges", Rows.laid_unicode_utf8_acceptRanges), ("strconv.ErrRange", Rows.laid_strconv_ErrRange), ("strconv.ErrSyntax", Rows.laid_strconv_ErrSyntax), ("bytes.ErrTooLarge", Rows.laid_bytes_ErrTooLarge), ("strconv.isGraphic", Rows.laid_strconv_isGraphic), ("strconv.isNotPrint16", Rows.laid_strconv_isNotPrint16), ("strconv.isNotPrint32", Rows.laid_strconv_isNotPrint32), ("strconv.isPrint16", Rows.laid_strconv_isPrint16), ("strconv.isPrint32", Rows.laid_strconv_isPrint32), ("unicode/utf8.first", Rows.laid_unicode_utf8_first)]

/-- The table of trailing zeros, as numbers. -/
def db64 : List Int := [0, 1, 56, 2, 57, 49, 28, 3, 61, 58, 42, 50, 38, 29, 17, 4, 62, 47, 59, 36, 45, 43, 51, 22, 53, 39, 33, 30, 24, 18, 12, 5, 63, 55, 48, 27, 60, 41, 37, 16, 46, 35, 44, 21, 52, 32, 23, 11, 54, 26, 40, 15, 34, 20, 31, 10, 25, 14, 19, 9, 13, 8, 7, 6]
theorem g14ty : (Tryz.prog.globals[14]?).map (·.type) = some 338 := by kernel_rfl
theorem cells338 : Tryz.prog.cellsOf 338 = 64 := by kernel_rfl
theorem zcells5 : Tryz.prog.cellsOf 5 = 1 := by kernel_rfl
theorem zcells333 : Tryz.prog.cellsOf 333 = 1 := by kernel_rfl
theorem zcells150 : Tryz.prog.cellsOf 150 = 1 := by kernel_rfl
theorem n16p : Tryz.prog.globalNamed "strconv.isPrint16" = some 8 := by kernel_rfl
theorem n16n : Tryz.prog.globalNamed "strconv.isNotPrint16" = some 9 := by kernel_rfl
theorem n32p : Tryz.prog.globalNamed "strconv.isPrint32" = some 10 := by kernel_rfl
theorem n32n : Tryz.prog.globalNamed "strconv.isNotPrint32" = some 11 := by kernel_rfl
theorem y16p : (Tryz.prog.globals[8]?).map (·.type) = some 334 := by kernel_rfl
theorem y16n : (Tryz.prog.globals[9]?).map (·.type) = some 334 := by kernel_rfl
theorem y32p : (Tryz.prog.globals[10]?).map (·.type) = some 336 := by kernel_rfl
theorem y32n : (Tryz.prog.globals[11]?).map (·.type) = some 334 := by kernel_rfl

theorem print_of_laid {W : World} (h : laidMet Tryz.prog laid13 W) : Lib.PrintTabsAt 8 9 10 11 tabsZ W :=
  ⟨Lib.tabSlice_of_reads (k := .u16) (l := tabsZ.p16) n16p y16p Tryz.underlying334 Tryz.underlying333 zcells333 (by decide +kernel) (Lib.laidMet.reads h (.tail _ (.tail _ (.tail _ (.tail _ (.tail _ (.tail _ (.tail _ (.tail _ (.tail _ (.tail _ (.head _)))))))))))),
   Lib.tabSlice_of_reads (k := .u16) (l := tabsZ.n16) n16n y16n Tryz.underlying334 Tryz.underlying333 zcells333 (by decide +kernel) (Lib.laidMet.reads h (.tail _ (.tail _ (.tail _ (.tail _ (.tail _ (.tail _ (.tail _ (.tail _ (.head _)))))))))),
   Lib.tabSlice_of_reads (k := .u32) (l := tabsZ.p32) n32p y32p Tryz.underlying336 Tryz.underlying150 zcells150 (by decide +kernel) (Lib.laidMet.reads h (.tail _ (.tail _ (.tail _ (.tail _ (.tail _ (.tail _ (.tail _ (.tail _ (.tail _ (.tail _ (.tail _ (.head _))))))))))))),
   Lib.tabSlice_of_reads (k := .u16) (l := tabsZ.n32) n32n y32n Tryz.underlying334 Tryz.underlying333 zcells333 (by decide +kernel) (Lib.laidMet.reads h (.tail _ (.tail _ (.tail _ (.tail _ (.tail _ (.tail _ (.tail _ (.tail _ (.tail _ (.head _))))))))))),
   by decide +kernel, by decide +kernel, by decide +kernel⟩

theorem globZ_of_laid {W : World} (h0 : laidMetH Tryz.prog laid13 W) : GlobZ W := by
  have h : laidMet Tryz.prog laid13 W := h0
  have hs : 15 ≤ W.heap.size := by
    obtain ⟨ps, ⟨g, t, cs, fuel, p, q, hg, _, hv, _⟩, _⟩ := h.tail
    obtain rfl := Option.some.inj (g_last.symm.trans hg)
    unfold World.var? at hv
    simp only [g_last, Option.bind_some] at hv
    rcases Nat.lt_or_ge 14 W.heap.size with h' | h'
    · omega
    · simp [Array.getElem?_eq_none h'] at hv
  have h2 := h.tail.tail
  have h3 := h2.tail.tail
  have h4 := h3.tail
  refine ⟨⟨hs, ?_, ?_, ?_⟩, ?_, print_of_laid h, ?_⟩
  · exact Lib.tabIs_of_head (zs := Lib.pow10Tab) g_pow g2ty Tryz.underlying296 Tryz.underlying25 cells25 cells296 h2
  · obtain ⟨a, s, hv, _, _, _⟩ := laid_sentinel h4 g_syn g3ty Tryz.underlying95 rowErr Tryz.underlying217 Tryz.underlying219 rfl rfl Tryz.underlying9 cells219 cells9
    exact ⟨_, _, hv⟩
  · obtain ⟨a, s, hv, _, _, _⟩ := laid_sentinel h3 g_rng g4ty Tryz.underlying95 rowErr Tryz.underlying217 Tryz.underlying219 rfl rfl Tryz.underlying9 cells219 cells9
    exact ⟨_, _, hv⟩
  · have ht : Lib.TabIs Tryz.prog W "math/bits.deBruijn64tab" .u8 db64 := Lib.tabIs_of_head (zs := db64) g_last g14ty Tryz.underlying338 Tryz.underlying5 zcells5 cells338 h.tail
    unfold Lib.TabIs at ht
    unfold Ctz
    rw [World.var?_cell g_last ht 15]
    rfl
  · exact utf8Tabs_of_readsT (U8Types.of196 Tryz.laysValid) ⟨by kernel_rfl, by kernel_rfl, by kernel_rfl, by kernel_rfl, by kernel_rfl, by kernel_rfl, by kernel_rfl⟩
      (Lib.laidMet.reads h (.tail _ (.tail _ (.tail _ (.tail _ (.tail _ (.tail _ (.tail _ (.tail _ (.tail _ (.tail _ (.tail _ (.tail _ (.head _)))))))))))))) (Lib.laidMet.reads h (.tail _ (.tail _ (.tail _ (.head _)))))

/-- The world that a program lays by the datum meets the condition. -/
theorem door_met13 (os : Os) (args : Array Value) : laidMetH Tryz.prog laid13 ((World.laidAll Tryz.prog os laid13).forCall (fun _ _ => 0) ⟨#[], args, []⟩).memory := by
  rw [MakeChecks.laidMetH_plain _ _ _ (by kernel_rfl)]; exact laidMet_laidAll _ (by kernel_rfl) (by kernel_rfl)
end Go.Proofs.YtobbfenkdnaanaaGreatDoor
