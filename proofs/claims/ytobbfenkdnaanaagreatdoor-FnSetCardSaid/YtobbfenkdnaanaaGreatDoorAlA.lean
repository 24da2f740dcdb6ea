/- An alert's small parts: utf8.ValidString laid, moments, by contract. -/
import Derived.Test.YtobbfenkdnaanaaGreatDoorMetP
import Derived.Test.YtobbfenkdnaanaaGreatDoorMcA
import Derived.Test.YtobbfenkdnaanaaGreatDoorSpBB
import Derived.Test.YtobbfenkdnaanaaGreatDoorVal
import Derived.Below
set_option linter.unusedVariables false
set_option linter.unusedSimpArgs false
namespace Go.Proofs.YtobbfenkdnaanaaGreatDoor
open Go.RowKit Go.Maps Go.WideMaps Go.Sort

/-- The decoding tables lie. -/
def Tabs (w : World) : Prop := Lib.Utf8Tabs (Tryz.laysValid_ren.g 3) (Tryz.laysValid_ren.g 4) w
/-- A text that is not empty and valid UTF-8. -/
def utfB (s : ByteArray) : Bool := !decide (s.size = 0) && Lib.validD s.data.toList

theorem valid_calls (s : ByteArray) (hs : s.size ≤ 2147483647) (w : World) (hT : Tabs w) :
    Calls Tryz.prog 102 #[.string s] w fun e w' => e = .returned (.bool (Lib.validD s.data.toList)) ∧ Below w.heap.size w w' :=
  Any.utf8_ValidString Tryz.laysValid s w (by omega) hT

theorem Tabs.next {w w' : World} (h : Tabs w) (hb : Below w.heap.size w w') : Tabs w' := Utf8Tabs_below h hb

set_option maxRecDepth 100000 in
theorem labelUtf_calls (s : ByteArray) (hs : s.size ≤ 2147483647) (w : World) (hT : Tabs w) :
    Calls Tryz.prog 156 #[.string s] w fun e w' => e = .returned (.bool (utfB s)) ∧ Below w.heap.size w w' := by
  have HT := Aside0.mk hT; clear hT
  by_cases he : s.size = 0
  · have HE := Aside0.mk (show utfB s = false by simp [utfB, he])
    have c0 : ((s.size : Int) == 0) = true := by simp [he]
    clear he
    go_enter Tryz.func156, Tryz.ntmps156
    go_wp2
    go_ret
    exact ⟨by rw [HE.out]; rfl, Below.refl _ _⟩
  · have HE := Aside0.mk (show utfB s = Lib.validD s.data.toList by rw [utfB, decide_eq_false he]; rfl)
    have c0 : ((s.size : Int) == 0) = false := beq_eq_false_iff_ne.2 (by omega)
    clear he
    go_enter Tryz.func156, Tryz.ntmps156
    go_wp2_with fail
    refine (valid_calls s hs _ HT.out).mono ?_
    rintro e w1 ⟨rfl, hb⟩
    go_wp2
    go_ret
    exact ⟨by rw [HE.out]; rfl, hb⟩

set_option maxRecDepth 100000 in
theorem valueUtf_calls (s : ByteArray) (hs : s.size ≤ 2147483647) (w : World) (hT : Tabs w) :
    Calls Tryz.prog 157 #[.string s] w fun e w' => e = .returned (.bool (Lib.validD s.data.toList)) ∧ Below w.heap.size w w' := by
  have HT := Aside0.mk hT; clear hT
  go_enter Tryz.func157, Tryz.ntmps157
  go_wp2_with fail
  refine (valid_calls s hs _ HT.out).mono ?_
  rintro e w1 ⟨rfl, hb⟩
  go_wp2
  go_ret
  exact ⟨rfl, hb⟩

/-- A moment of seconds. -/
def momS (s : Int) : Int := if s = 0 then 0 else s + 62135596800

set_option maxRecDepth 100000 in
theorem unix_calls (s : Int) (h0 : 0 ≤ s) (h1 : s ≤ 8589934592) (w : World) :
    Calls Tryz.prog 59 #[.int .i64 s, .int .i64 0] w fun e w' => e = .returned (.agg #[.int .i64 (s + 62135596800), .int .i64 0]) ∧ Below w.heap.size w w' := by
  go_enter Tryz.func59, Tryz.ntmps59
  go_wp2
  refine bodyPost_ret (v := .agg #[.int .i64 (s + 62135596800), .int .i64 0]) (by simp [results, Tryz.results59, go_sem]) rfl ⟨rfl, ?_⟩
  exact below_alloc (Below.refl _ _) _

set_option maxRecDepth 100000 in
theorem moment_calls (s : Int) (h0 : 0 ≤ s) (h1 : s ≤ 8589934592) (w : World) :
    Calls Tryz.prog 58 #[.int .i64 s] w fun e w' => e = .returned (.agg #[.int .i64 (momS s), .int .i64 0]) ∧ Below w.heap.size w w' := by
  by_cases hs : s = 0
  · subst hs
    go_enter Tryz.func58, Tryz.ntmps58
    go_wp2
    refine bodyPost_ret (v := .agg #[.int .i64 0, .int .i64 0]) (by simp [results, Tryz.results58, go_sem]) rfl ⟨rfl, ?_⟩
    exact below_alloc (Below.refl _ _) _
  · have HM := Aside0.mk (show momS s = s + 62135596800 from if_neg hs)
    have c0 : (s == 0) = false := beq_eq_false_iff_ne.2 hs
    clear hs
    go_enter Tryz.func58, Tryz.ntmps58
    go_wp2_with fail
    refine (unix_calls s h0 h1 _).mono ?_
    rintro e w1 ⟨rfl, hb⟩
    have e0 := hb.cell (p := ⟨w.heap.size, 0, none⟩) (by simp)
    have e1 := hb.cell (p := ⟨w.heap.size, 1, none⟩) (by simp)
    have f0 := hb.frozen (p := ⟨w.heap.size, 0, none⟩) (by simp)
    have f1 := hb.frozen (p := ⟨w.heap.size, 1, none⟩) (by simp)
    simp [go_sem] at e0 e1 f0 f1
    have HB := Aside0.mk (below_step (below_alloc (Below.refl w.heap.size w) _) hb); clear hb
    go_wp2
    refine bodyPost_ret (v := .agg #[.int .i64 (s + 62135596800), .int .i64 0]) (by simp [results, Tryz.results58, go_sem, e0, e1, f0, f1]) rfl ⟨by rw [HM.out], ?_⟩
    exact (HB.out.setCell (p := ⟨w.heap.size, 0, none⟩) (Nat.le_refl _) _).setCell (p := ⟨w.heap.size, 1, none⟩) (Nat.le_refl _) _

set_option maxRecDepth 100000 in
theorem isZero_calls (s : Int) (w : World) :
    Calls Tryz.prog 116 #[.agg #[.int .i64 s, .int .i64 0]] w fun e w' => e = .returned (.bool (decide (s = 0))) ∧ Below w.heap.size w w' := by
  by_cases hs : s = 0
  · subst hs
    go_enter Tryz.func116, Tryz.ntmps116
    go_wp2
    go_ret
    exact ⟨rfl, below_alloc (Below.refl _ _) _⟩
  · have c0 : (s == 0) = false := beq_eq_false_iff_ne.2 hs
    have HD := Aside0.mk (decide_eq_false hs)
    clear hs
    go_enter Tryz.func116, Tryz.ntmps116
    go_wp2
    go_ret
    exact ⟨by rw [HD.out]; rfl, below_alloc (Below.refl _ _) _⟩

set_option maxRecDepth 100000 in
theorem tbefore_calls (s u : Int) (w : World) :
    Calls Tryz.prog 119 #[.agg #[.int .i64 s, .int .i64 0], .agg #[.int .i64 u, .int .i64 0]] w fun e w' => e = .returned (.bool (decide (s < u))) ∧ Below w.heap.size w w' := by
  by_cases hs : s < u
  · have c0 : decide (s < u) = true := decide_eq_true hs
    rw [c0]
    clear hs
    go_enter Tryz.func119, Tryz.ntmps119
    go_wp2
    go_ret
    exact ⟨rfl, below_alloc (below_alloc (Below.refl _ _) _) _⟩
  · have c0 : decide (s < u) = false := decide_eq_false hs
    rw [c0]
    clear hs
    by_cases he : s = u
    · subst he
      go_enter Tryz.func119, Tryz.ntmps119
      go_wp2
      go_ret
      exact ⟨rfl, below_alloc (below_alloc (Below.refl _ _) _) _⟩
    · have c1 : (s == u) = false := beq_eq_false_iff_ne.2 he
      clear he
      go_enter Tryz.func119, Tryz.ntmps119
      go_wp2
      go_ret
      exact ⟨rfl, below_alloc (below_alloc (Below.refl _ _) _) _⟩

set_option maxRecDepth 100000 in
theorem after_calls (s u : Int) (w : World) :
    Calls Tryz.prog 117 #[.agg #[.int .i64 s, .int .i64 0], .agg #[.int .i64 u, .int .i64 0]] w fun e w' => e = .returned (.bool (decide (u < s))) ∧ Below w.heap.size w w' := by
  go_enter Tryz.func117, Tryz.ntmps117
  go_wp2_with fail
  refine (tbefore_calls u s _).mono ?_
  rintro e w1 ⟨rfl, hb⟩
  go_wp2
  go_ret
  exact ⟨rfl, below_step (below_alloc (below_alloc (Below.refl _ _) _) _) hb⟩
end Go.Proofs.YtobbfenkdnaanaaGreatDoor
