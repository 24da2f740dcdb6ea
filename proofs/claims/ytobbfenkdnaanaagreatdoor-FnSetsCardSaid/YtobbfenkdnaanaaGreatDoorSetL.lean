/- The law FnSets, walked: whatever the labels, it answers true. -/
import Derived.Test.YtobbfenkdnaanaaGreatDoorMetP
import Derived.Test.YtobbfenkdnaanaaGreatDoorSetE
import Derived.Test.YtobbfenkdnaanaaGreatDoorSpBB
set_option linter.unusedVariables false
set_option linter.unusedSimpArgs false
namespace Go.Proofs.YtobbfenkdnaanaaGreatDoor
open Go.RowKit Go.Maps Go.WideMaps Go.Sort

theorem fits_len3 {l : LL} (h : fitsB l = true) : l.length ≤ 2147483647 := by
  unfold fitsB at h
  rw [Bool.and_eq_true] at h
  exact of_decide_eq_true h.1
theorem ord_ten {l : LL} (h : ordB l = true) : l.length ≤ 10 := by
  unfold ordB fewB at h
  rw [Bool.and_eq_true, Bool.and_eq_true] at h
  exact of_decide_eq_true h.1.2

set_option maxHeartbeats 2000000 in
set_option maxRecDepth 100000 in
theorem setsLaw_calls (a a' : Option Addr) (cap cap' : Nat) (la lb : LL) (w : World) (hla : Labs w a la) (hlb : Labs w a' lb) (ha : a = none → cap = 0) (ha' : a' = none → cap' = 0) (hma : la.length ≤ maxLen) (hmb : lb.length ≤ maxLen) (hg : Glob w) :
    Calls Tryz.prog 6 #[.slice a la.length cap, .slice a' lb.length cap'] w fun e w' => e = .returned (.bool true) ∧ Below w.heap.size w w' := by
  have HG := Aside0.mk hg
  have HL := Aside0.mk (And.intro hla hlb)
  have HC := Aside0.mk (And.intro ha ha')
  have hma' : la.length ≤ 9223372036854775807 := hma
  have hmb' : lb.length ≤ 9223372036854775807 := hmb
  clear hg hla hlb ha ha' hma hmb
  cases hfa : fitsB la with
  | false =>
    have HFA := Aside0.mk hfa
    clear hfa
    go_enter Tryz.func6, Tryz.ntmps6
    go_wp2_with fail
    refine (fits_calls a cap la _ HL.out.1 hma').mono ?_
    rintro e w1 ⟨rfl, hb1⟩
    rw [HFA.out]
    have HB1 := Aside0.mk hb1; clear hb1
    go_wp2
    go_ret
    exact ⟨rfl, HB1.out⟩
  | true =>
    have HFA := Aside0.mk hfa
    have hlena := fits_len3 hfa
    clear hfa
    cases hfb : fitsB lb with
    | false =>
      have HFB := Aside0.mk hfb
      clear hfb
      go_enter Tryz.func6, Tryz.ntmps6
      go_wp2_with fail
      refine (fits_calls a cap la _ HL.out.1 hma').mono ?_
      rintro e w1 ⟨rfl, hb1⟩
      rw [HFA.out]
      have HB1 := Aside0.mk hb1; clear hb1
      go_wp2_with fail
      refine (fits_calls a' cap' lb _ (HL.out.2.next HB1.out) hmb').mono ?_
      rintro e w2 ⟨rfl, hb2⟩
      rw [HFB.out]
      have HB2 := Aside0.mk (below_step HB1.out hb2); clear hb2
      go_wp2
      go_ret
      exact ⟨rfl, HB2.out⟩
    | true =>
      have HFB := Aside0.mk hfb
      have hlenb := fits_len3 hfb
      clear hfb
      cases hoa : ordB la with
      | false =>
        have HOA := Aside0.mk hoa
        clear hoa
        go_enter Tryz.func6, Tryz.ntmps6
        go_wp2_with fail
        refine (fits_calls a cap la _ HL.out.1 hma').mono ?_
        rintro e w1 ⟨rfl, hb1⟩
        rw [HFA.out]
        have HB1 := Aside0.mk hb1; clear hb1
        go_wp2_with fail
        refine (fits_calls a' cap' lb _ (HL.out.2.next HB1.out) hmb').mono ?_
        rintro e w2 ⟨rfl, hb2⟩
        rw [HFB.out]
        have HB2 := Aside0.mk (below_step HB1.out hb2); clear hb2
        go_wp2_with fail
        refine (ordered_calls a cap la _ (HL.out.1.next HB2.out) hlena).mono ?_
        rintro e w3 ⟨rfl, hb3⟩
        rw [HOA.out]
        have HB3 := Aside0.mk (below_step HB2.out hb3); clear hb3
        go_wp2_with fail
        refine (awake_calls _ (HG.out.next HB3.out)).mono ?_
        rintro e w4 ⟨rfl, hb4⟩
        have HB4 := Aside0.mk (below_step HB3.out hb4); clear hb4
        go_wp2
        go_ret
        exact ⟨rfl, HB4.out⟩
      | true =>
        have HOA := Aside0.mk hoa
        have HSA := Aside0.mk (ord_of hoa)
        clear hoa
        cases hob : ordB lb with
        | false =>
          have HOB := Aside0.mk hob
          clear hob
          go_enter Tryz.func6, Tryz.ntmps6
          go_wp2_with fail
          refine (fits_calls a cap la _ HL.out.1 hma').mono ?_
          rintro e w1 ⟨rfl, hb1⟩
          rw [HFA.out]
          have HB1 := Aside0.mk hb1; clear hb1
          go_wp2_with fail
          refine (fits_calls a' cap' lb _ (HL.out.2.next HB1.out) hmb').mono ?_
          rintro e w2 ⟨rfl, hb2⟩
          rw [HFB.out]
          have HB2 := Aside0.mk (below_step HB1.out hb2); clear hb2
          go_wp2_with fail
          refine (ordered_calls a cap la _ (HL.out.1.next HB2.out) hlena).mono ?_
          rintro e w3 ⟨rfl, hb3⟩
          rw [HOA.out]
          have HB3 := Aside0.mk (below_step HB2.out hb3); clear hb3
          go_wp2_with fail
          refine (ordered_calls a' cap' lb _ (HL.out.2.next HB3.out) hlenb).mono ?_
          rintro e w4 ⟨rfl, hb4⟩
          rw [HOB.out]
          have HB4 := Aside0.mk (below_step HB3.out hb4); clear hb4
          go_wp2_with fail
          refine (awake_calls _ (HG.out.next HB4.out)).mono ?_
          rintro e w5 ⟨rfl, hb5⟩
          have HB5 := Aside0.mk (below_step HB4.out hb5); clear hb5
          go_wp2
          go_ret
          exact ⟨rfl, HB5.out⟩
        | true =>
          have HOB := Aside0.mk hob
          have HSB := Aside0.mk (ord_of hob)
          have HEQ := Aside0.mk (same_eq HSA.out.2 HSB.out.2)
          have HTEN := Aside0.mk (And.intro (ord_ten HOA.out) (ord_ten hob))
          have HTEN2 := Aside0.mk (show (mrgS la lb).length ≤ 20 by rw [(mrgS_is la lb).1.length_eq]; have := mrg_length la lb; have := HTEN.out; omega)
          clear hob
          go_enter Tryz.func6, Tryz.ntmps6
          go_wp2_with fail
          refine (fits_calls a cap la _ HL.out.1 hma').mono ?_
          rintro e w1 ⟨rfl, hb1⟩
          rw [HFA.out]
          have HB1 := Aside0.mk hb1; clear hb1
          go_wp2_with fail
          refine (fits_calls a' cap' lb _ (HL.out.2.next HB1.out) hmb').mono ?_
          rintro e w2 ⟨rfl, hb2⟩
          rw [HFB.out]
          have HB2 := Aside0.mk (below_step HB1.out hb2); clear hb2
          go_wp2_with fail
          refine (ordered_calls a cap la _ (HL.out.1.next HB2.out) hlena).mono ?_
          rintro e w3 ⟨rfl, hb3⟩
          rw [HOA.out]
          have HB3 := Aside0.mk (below_step HB2.out hb3); clear hb3
          go_wp2_with fail
          refine (ordered_calls a' cap' lb _ (HL.out.2.next HB3.out) hlenb).mono ?_
          rintro e w4 ⟨rfl, hb4⟩
          rw [HOB.out]
          have HB4 := Aside0.mk (below_step HB3.out hb4); clear hb4
          go_wp2_with fail
          refine (sc_calls a a' cap cap' la lb _ (HL.out.1.next HB4.out) (HL.out.2.next HB4.out) (once_of_rise HSA.out.2) (once_of_rise HSB.out.2) HSA.out.1 HSB.out.1).mono ?_
          rintro e w5 ⟨g, c, rfl, hlw, hb5⟩
          have HB5 := Aside0.mk (below_step HB4.out hb5)
          have HLM := Aside0.mk hlw
          clear hb5 hlw
          rw [HEQ.out]
          obtain ⟨vE, hvE⟩ : ∃ vE, eqLB la lb = vE := ⟨_, rfl⟩
          obtain ⟨vB, hvB⟩ : ∃ vB, befB la lb = vB := ⟨_, rfl⟩
          rw [hvE, hvB]
          have HV := Aside0.mk (And.intro hvE hvB)
          clear hvE hvB
          go_wp2_with fail
          refine (awake_calls _ (HG.out.next HB5.out)).mono ?_
          rintro e w6 ⟨rfl, hb6⟩
          have HB6 := Aside0.mk (below_step HB5.out hb6)
          have HLM6 := Aside0.mk (HLM.out.next hb6); clear hb6
          go_wp2_with fail
          refine (specSame_calls a a' cap cap' la lb _ (HL.out.1.next HB6.out) (HL.out.2.next HB6.out) HSA.out.1.1 HSB.out.1.1).mono ?_
          rintro e w7 ⟨rfl, hb7⟩
          rw [HV.out.1]
          have HB7 := Aside0.mk (below_step HB6.out hb7)
          have HLM7 := Aside0.mk (HLM6.out.next hb7); clear hb7
          go_wp2_with fail
          refine (specBefore_calls a a' cap cap' la lb _ (HL.out.1.next HB7.out) (HL.out.2.next HB7.out) HSA.out.1 HSB.out.1 HC.out.1 HC.out.2).mono ?_
          rintro e w8 ⟨rfl, hb8⟩
          rw [HV.out.2]
          have HB8 := Aside0.mk (below_step HB7.out hb8)
          have HLM8 := Aside0.mk (HLM7.out.next hb8); clear hb8
          go_wp2_with fail
          refine (smerge_calls a a' cap cap' la lb _ (HL.out.1.next HB8.out) (HL.out.2.next HB8.out) HC.out.2 HTEN.out.1 HTEN.out.2).mono ?_
          rintro e w9 ⟨g2, c2, rfl, hl9, hb9⟩
          have HB9 := Aside0.mk (below_step HB8.out hb9)
          have HLM9 := Aside0.mk (HLM8.out.next hb9)
          have HL9 := Aside0.mk hl9
          clear hb9 hl9
          go_wp2_with fail
          refine (specSame_calls (some ⟨g, 0, none⟩) (some ⟨g2, 0, none⟩) c c2 (mrgS la lb) (mrgS la lb) _ HLM9.out HL9.out HTEN2.out HTEN2.out).mono ?_
          rintro e w10 ⟨rfl, hb10⟩
          rw [eqLB_true (rfl : mrgS la lb = mrgS la lb)]
          have HB10 := Aside0.mk (below_step HB9.out hb10); clear hb10
          go_wp2
          go_ret
          exact ⟨rfl, HB10.out⟩
end Go.Proofs.YtobbfenkdnaanaaGreatDoor
