/- Names: utf8.ValidString laid; the package's four questions, by contract. -/
import Derived.Test.YtaajhionmdjhjaaDoorNamB
import Derived.Test.YtaajhionmdjhjaaDoorVal
import Derived.Below
set_option linter.unusedVariables false
set_option linter.unusedSimpArgs false
namespace Go.Proofs.YtaajhionmdjhjaaDoor
open Go.RowKit

/-- The decoding tables lie. -/
def Tabs (w : World) : Prop := Lib.Utf8Tabs (Tryd.laysValid_ren.g 3) (Tryd.laysValid_ren.g 4) w
/-- A text that is not empty and valid UTF-8. -/
def utfB (s : ByteArray) : Bool := !decide (s.size = 0) && Lib.validD s.data.toList

theorem valid_calls (s : ByteArray) (hs : s.size ≤ 2147483647) (w : World) (hT : Tabs w) :
    Calls Tryd.prog 25 #[.string s] w fun e w' => e = .returned (.bool (Lib.validD s.data.toList)) ∧ Below w.heap.size w w' :=
  Any.utf8_ValidString Tryd.laysValid s w (by omega) hT

theorem Tabs.next {w w' : World} (h : Tabs w) (hb : Below w.heap.size w w') : Tabs w' := Utf8Tabs_below h hb

set_option maxRecDepth 100000 in
theorem labelUtf_calls (s : ByteArray) (hs : s.size ≤ 2147483647) (w : World) (hT : Tabs w) :
    Calls Tryd.prog 61 #[.string s] w fun e w' => e = .returned (.bool (utfB s)) ∧ Below w.heap.size w w' := by
  have HT := Aside0.mk hT; clear hT
  by_cases he : s.size = 0
  · have HE := Aside0.mk (show utfB s = false by simp [utfB, he])
    have c0 : ((s.size : Int) == 0) = true := by simp [he]
    clear he
    go_enter Tryd.func61, Tryd.ntmps61
    go_wp2
    go_ret
    exact ⟨by rw [HE.out]; rfl, Below.refl _ _⟩
  · have HE := Aside0.mk (show utfB s = Lib.validD s.data.toList by rw [utfB, decide_eq_false he]; rfl)
    have c0 : ((s.size : Int) == 0) = false := beq_eq_false_iff_ne.2 (by omega)
    clear he
    go_enter Tryd.func61, Tryd.ntmps61
    go_wp2_with fail
    refine (valid_calls s hs _ HT.out).mono ?_
    rintro e w1 ⟨rfl, hb⟩
    go_wp2
    go_ret
    exact ⟨by rw [HE.out]; rfl, hb⟩

set_option maxRecDepth 100000 in
theorem metricUtf_calls (s : ByteArray) (hs : s.size ≤ 2147483647) (w : World) (hT : Tabs w) :
    Calls Tryd.prog 62 #[.string s] w fun e w' => e = .returned (.bool (utfB s)) ∧ Below w.heap.size w w' := by
  have HT := Aside0.mk hT; clear hT
  by_cases he : s.size = 0
  · have HE := Aside0.mk (show utfB s = false by simp [utfB, he])
    have c0 : ((s.size : Int) == 0) = true := by simp [he]
    clear he
    go_enter Tryd.func62, Tryd.ntmps62
    go_wp2
    go_ret
    exact ⟨by rw [HE.out]; rfl, Below.refl _ _⟩
  · have HE := Aside0.mk (show utfB s = Lib.validD s.data.toList by rw [utfB, decide_eq_false he]; rfl)
    have c0 : ((s.size : Int) == 0) = false := beq_eq_false_iff_ne.2 (by omega)
    clear he
    go_enter Tryd.func62, Tryd.ntmps62
    go_wp2_with fail
    refine (valid_calls s hs _ HT.out).mono ?_
    rintro e w1 ⟨rfl, hb⟩
    go_wp2
    go_ret
    exact ⟨by rw [HE.out]; rfl, hb⟩

set_option maxRecDepth 100000 in
theorem nameAbout_calls (s : ByteArray) (hs : s.size ≤ 2147483647) (w : World) (hT : Tabs w) :
    Calls Tryd.prog 26 #[.string s] w fun e w' => e = .returned (.agg #[.bool (legB s false), .bool (legB s true), .bool (utfB s), .bool (utfB s)]) ∧ Below w.heap.size w w' := by
  have HT := Aside0.mk hT; clear hT
  go_enter Tryd.func26, Tryd.ntmps26
  go_wp2_with fail
  refine (labelLegacy_calls s hs _).mono ?_
  rintro e w1 ⟨rfl, hb1⟩
  have HB1 := Aside0.mk hb1; clear hb1
  go_wp2_with fail
  refine (metricLegacy_calls s hs _).mono ?_
  rintro e w2 ⟨rfl, hb2⟩
  have HB2 := Aside0.mk (below_step HB1.out hb2); clear hb2 HB1
  go_wp2_with fail
  refine (labelUtf_calls s hs _ (Tabs.next (Tabs.next HT.out (below_alloc (Below.refl _ _) _)) HB2.out)).mono ?_
  rintro e w3 ⟨rfl, hb3⟩
  have HB3 := Aside0.mk (below_step HB2.out hb3); clear hb3 HB2
  go_wp2_with fail
  refine (metricUtf_calls s hs _ (Tabs.next (Tabs.next HT.out (below_alloc (Below.refl _ _) _)) HB3.out)).mono ?_
  rintro e w4 ⟨rfl, hb4⟩
  have hb := below_step HB3.out hb4; clear hb4 HB3
  have e0 := hb.cell (p := ⟨w.heap.size, 0, none⟩) (by simp)
  have e1 := hb.cell (p := ⟨w.heap.size, 1, none⟩) (by simp)
  have e2 := hb.cell (p := ⟨w.heap.size, 2, none⟩) (by simp)
  have e3 := hb.cell (p := ⟨w.heap.size, 3, none⟩) (by simp)
  have f0 := hb.frozen (p := ⟨w.heap.size, 0, none⟩) (by simp)
  have f1 := hb.frozen (p := ⟨w.heap.size, 1, none⟩) (by simp)
  have f2 := hb.frozen (p := ⟨w.heap.size, 2, none⟩) (by simp)
  have f3 := hb.frozen (p := ⟨w.heap.size, 3, none⟩) (by simp)
  simp [go_sem] at e0 e1 e2 e3 f0 f1 f2 f3
  have HB := Aside0.mk (below_step (below_alloc (Below.refl w.heap.size w) (.cells #[.bool false, .bool false, .bool false, .bool false] 43)) hb); clear hb
  go_wp2_with fail
  refine bodyPost_ret (v := .agg #[.bool (legB s false), .bool (legB s true), .bool (utfB s), .bool (utfB s)]) (by simp [results, Tryd.results26, go_sem, e0, e1, e2, e3, f0, f1, f2, f3]) rfl ⟨rfl, ?_⟩
  exact (((HB.out.setCell (p := ⟨w.heap.size, 0, none⟩) (Nat.le_refl _) _).setCell (p := ⟨w.heap.size, 1, none⟩) (Nat.le_refl _) _).setCell (p := ⟨w.heap.size, 2, none⟩) (Nat.le_refl _) _).setCell (p := ⟨w.heap.size, 3, none⟩) (Nat.le_refl _) _

/-- What the laws on names ask of a world. -/
structure GlobT (w : World) : Prop where
  glob : Glob w
  tabs : Tabs w
theorem GlobT.next {w w' : World} (h : GlobT w) (hb : Below w.heap.size w w') : GlobT w' := ⟨h.glob.next hb, h.tabs.next hb⟩

theorem legacy_calls (s : ByteArray) (m : Bool) (hs : s.size ≤ 2147483647) (w : World) :
    Calls Tryd.prog 27 #[.string s, .bool m] w fun e w' => e = .returned (.bool (legB s m)) ∧ Below w.heap.size w w' := by
  cases m
  · exact legacy_false s hs w
  · exact legacy_true s hs w

set_option maxHeartbeats 1000000 in
set_option maxRecDepth 100000 in
theorem namesLaw_calls (s : ByteArray) (hm : s.size ≤ maxLen) (w : World) (hg : GlobT w) :
    Calls Tryd.prog 9 #[.string s] w fun e w' => e = .returned (.bool true) ∧ Below w.heap.size w w' := by
  have HG := Aside0.mk hg; clear hg
  unfold maxLen at hm
  by_cases hm2 : 2147483647 < s.size
  · go_enter Tryd.func9, Tryd.ntmps9
    go_wp2
    go_ret
    exact ⟨rfl, Below.refl _ _⟩
  · by_cases hbig : s.size ≤ 300
    · have hs : s.size ≤ 2147483647 := by omega
      have c5 := empty_of s
      by_cases he : s.size = 0
      · have HE := Aside0.mk (show utfB s = false by simp [utfB, he])
        have hz : s.toList.isEmpty = true := by rw [c5]; simp [he]
        clear c5 he
        go_enter Tryd.func9, Tryd.ntmps9
        go_wp2_with fail
        refine (awake_calls _ HG.out.glob).mono ?_
        rintro e w1 ⟨rfl, hb1⟩
        have HB1 := Aside0.mk hb1; clear hb1
        go_wp2_with fail
        refine (nameAbout_calls s hs _ (HG.out.next HB1.out).tabs).mono ?_
        rintro e w2 ⟨rfl, hb2⟩
        have HB2 := Aside0.mk (below_step HB1.out hb2); clear hb2
        rw [HE.out]
        go_wp2_with fail
        refine (legacy_calls s false hs _).mono ?_
        rintro e w3 ⟨rfl, hb3⟩
        have HB3 := Aside0.mk (below_step HB2.out hb3); clear hb3
        go_wp2_with fail
        refine (legacy_calls s true hs _).mono ?_
        rintro e w4 ⟨rfl, hb4⟩
        have HB4 := Aside0.mk (below_step HB3.out hb4); clear hb4
        go_wp2
        go_ret
        exact ⟨rfl, HB4.out⟩
      · have HE := Aside0.mk (show utfB s = Lib.validD s.data.toList by rw [utfB, decide_eq_false he]; rfl)
        have hz : s.toList.isEmpty = false := by rw [c5]; simp [he]
        clear c5 he
        go_enter Tryd.func9, Tryd.ntmps9
        go_wp2_with fail
        refine (valid_calls s hs _ HG.out.tabs).mono ?_
        rintro e w0 ⟨rfl, hb0⟩
        have HB0 := Aside0.mk hb0; clear hb0
        go_wp2_with fail
        refine (awake_calls _ (HG.out.next HB0.out).glob).mono ?_
        rintro e w1 ⟨rfl, hb1⟩
        have HB1 := Aside0.mk (below_step HB0.out hb1); clear hb1
        go_wp2_with fail
        refine (nameAbout_calls s hs _ (HG.out.next HB1.out).tabs).mono ?_
        rintro e w2 ⟨rfl, hb2⟩
        have HB2 := Aside0.mk (below_step HB1.out hb2); clear hb2
        rw [HE.out]
        go_wp2_with fail
        refine (legacy_calls s false hs _).mono ?_
        rintro e w3 ⟨rfl, hb3⟩
        have HB3 := Aside0.mk (below_step HB2.out hb3); clear hb3
        go_wp2_with fail
        refine (legacy_calls s true hs _).mono ?_
        rintro e w4 ⟨rfl, hb4⟩
        have HB4 := Aside0.mk (below_step HB3.out hb4); clear hb4
        go_wp2
        go_ret
        exact ⟨rfl, HB4.out⟩
    · go_enter Tryd.func9, Tryd.ntmps9
      go_wp2_with (go_at_call 12; refine (awake_calls _ HG.out.glob).mono ?_; rintro e w1 ⟨rfl, hb⟩)
      go_ret
      exact ⟨rfl, hb⟩
end Go.Proofs.YtaajhionmdjhjaaDoor
