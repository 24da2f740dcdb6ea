/- What the row of FnTime lists, and a world that meets it. -/
import Derived.Test.YtobbfenkdnaanaaGreatDoorLaid
import Derived.Test.YtobbfenkdnaanaaGreatDoorTimD
import Derived.Lib.LaidU8T
import Derived.Lay
import Derived.MakeChecks
set_option linter.unusedVariables false
set_option linter.unusedSimpArgs false
namespace Go.Proofs.YtobbfenkdnaanaaGreatDoor
open Go.ChangeShapes Go.WideShapes Go.ChangeAt Go.RowKit

set_option maxRecDepth 100000
/-- The variables that the law FnTime lists. -/
abbrev laid10 : List (String × DataW Unit) := [("math/bits.deBruijn32tab", Rows.laid_math_bits_deBruijn32tab), ("math/bits.deBruijn64tab", Rows.laid_math_bits_deBruijn64tab), ("internal/strconv.optimize", Rows.laid_internal_strconv_optimize), ("internal/strconv.uint64pow10", Rows.laid_internal_strconv_uint64pow10), ("unicode/utf8.acceptRanges", Rows.laid_unicode_utf8_acceptRanges), ("strconv.ErrRange", Rows.laid_strconv_ErrRange), ("strconv.ErrSyntax", Rows.laid_strconv_ErrSyntax), ("internal/strconv.leftcheats", Rows.laid_internal_strconv_leftcheats), ("internal/strconv.pow10Tab", Rows.laid_internal_strconv_pow10Tab), ("unicode/utf8.first", Rows.laid_unicode_utf8_first)]

theorem g_tab : Tryz.prog.globalNamed "internal/strconv.pow10Tab" = some 15 := by kernel_rfl
theorem g_tabty : (Tryz.prog.globals[15]?).map (·.type) = some 354 := by kernel_rfl
theorem cells353 : Tryz.prog.cellsOf 353 = 2 := by kernel_rfl
theorem rows_all : ((List.range 20).all fun p => decide (p < 4) || (Go.Pinned.pow10Rows[p + 348]? == some (10 ^ p * 2 ^ (63 - lpOf p), 0))) = true := by decide +kernel
theorem rows_at {p : Nat} (h1 : 4 ≤ p) (h2 : p ≤ 19) : Go.Pinned.pow10Rows[p + 348]? = some (10 ^ p * 2 ^ (63 - lpOf p), 0) := by
  have h := List.all_eq_true.1 rows_all p (List.mem_range.2 (by omega))
  simp only [Bool.or_eq_true, decide_eq_true_eq, beq_iff_eq] at h
  rcases h with h | h
  · omega
  · exact h

theorem pow_of_reads {w : World} (hs : 16 ≤ w.heap.size) (h : Lib.VarReads Tryz.prog w "internal/strconv.pow10Tab" Rows.laid_internal_strconv_pow10Tab) : PowT w := by
  obtain ⟨g, t, cs, fuel, p, hg, hty, hvar, hd⟩ := h
  obtain rfl := Option.some.inj (g_tab.symm.trans hg)
  obtain rfl := Option.some.inj (g_tabty.symm.trans hty)
  have key : ∀ q : Nat, 4 ≤ q → q ≤ 19 → w.cell? ⟨15, (q + 348) * 2, none⟩ = some (.int .u64 ((10 ^ q * 2 ^ (63 - lpOf q) : Nat) : Int)) ∧ w.cell? ⟨15, (q + 348) * 2 + 1, none⟩ = some (.int .u64 0) := by
    intro q h1 h2
    obtain ⟨fuel', d, r, hdi, he⟩ := Lib.array_elem Tryz.underlying354 hd (q + 348) (by omega)
    rw [List.getElem?_map, rows_at h1 h2] at hdi
    simp only [Option.map_some, Option.some.injEq] at hdi
    subst hdi
    rw [cells353] at he
    have hcs := Lib.ints_of_struct (k := .u64) (zs := [((10 ^ q * 2 ^ (63 - lpOf q) : Nat) : Int), 0]) Tryz.underlying353 (fun j f hj => by
      match j, hj with
      | 0, hj => simp at hj; subst hj; exact ⟨Tryz.underlying25, rfl, cells25⟩
      | 1, hj => simp at hj; subst hj; exact ⟨Tryz.underlying25, rfl, cells25⟩
      | j + 2, hj => simp at hj) (by rw [cells353]; rfl) he
    have e0 := congrArg (·[0]?) hcs
    have e1 := congrArg (·[1]?) hcs
    simp only [List.getElem?_take, List.getElem?_drop] at e0 e1
    constructor
    · rw [World.var?_cell hg hvar ((q + 348) * 2), ← Array.getElem?_toList]
      simpa using e0
    · rw [World.var?_cell hg hvar ((q + 348) * 2 + 1), ← Array.getElem?_toList]
      simpa using e1
  exact ⟨hs, fun q h1 h2 => (key q h1 h2).1, fun q h1 h2 => (key q h1 h2).2⟩

theorem globP_of_laid {W : World} (h0 : laidMetH Tryz.prog laid10 W) : Glob W ∧ PowT W := by
  have h : laidMet Tryz.prog laid10 W := h0
  have hr := Lib.laidMet.reads h (n := "internal/strconv.pow10Tab") (d := Rows.laid_internal_strconv_pow10Tab) (.tail _ (.tail _ (.tail _ (.tail _ (.tail _ (.tail _ (.tail _ (.tail _ (.head _)))))))))
  have hs : 16 ≤ W.heap.size := by
    obtain ⟨g, t, cs, fuel, p, hg, _, hv, _⟩ := hr
    obtain rfl := Option.some.inj (g_tab.symm.trans hg)
    unfold World.var? at hv
    simp only [g_tab, Option.bind_some] at hv
    rcases Nat.lt_or_ge 15 W.heap.size with h' | h'
    · omega
    · simp [Array.getElem?_eq_none h'] at hv
  have h2 := h.tail.tail.tail
  have h3 := h2.tail.tail
  have h4 := h3.tail
  refine ⟨⟨by omega, ?_, ?_, ?_⟩, pow_of_reads hs hr⟩
  · exact Lib.tabIs_of_head (zs := Lib.pow10Tab) g_pow g2ty Tryz.underlying296 Tryz.underlying25 cells25 cells296 h2
  · obtain ⟨a, s, hv, _, _, _⟩ := laid_sentinel h4 g_syn g3ty Tryz.underlying95 rowErr Tryz.underlying217 Tryz.underlying219 rfl rfl Tryz.underlying9 cells219 cells9
    exact ⟨_, _, hv⟩
  · obtain ⟨a, s, hv, _, _, _⟩ := laid_sentinel h3 g_rng g4ty Tryz.underlying95 rowErr Tryz.underlying217 Tryz.underlying219 rfl rfl Tryz.underlying9 cells219 cells9
    exact ⟨_, _, hv⟩

/-- The world that a program lays by the datum meets the condition. -/
theorem door_met10 (os : Os) (args : Array Value) : laidMetH Tryz.prog laid10 ((World.laidAll Tryz.prog os laid10).forCall (fun _ _ => 0) ⟨#[], args, []⟩).memory := by
  rw [MakeChecks.laidMetH_plain _ _ _ (by kernel_rfl)]; exact laidMet_laidAll _ (by kernel_rfl) (by kernel_rfl)
end Go.Proofs.YtobbfenkdnaanaaGreatDoor
