/- The law FnDurationWays, walked: whatever the text and the number, it answers true. -/
import Derived.Test.YtaajhionmdjhjaaDoorWaysC
set_option linter.unusedVariables false
set_option linter.unusedSimpArgs false
namespace Go.Proofs.YtaajhionmdjhjaaDoor
open Go.RowKit

theorem text_of (n : Int) (h0 : 0 ≤ n) (h1 : n ≤ 9223372036854775807) (s : ByteArray) (hs : Aside0 (s = ⟨(durText (n / 1000000)).toArray⟩)) (w : World) (hg : Glob w) :
    Calls Tryd.prog 15 #[.int .i64 n] w fun e w' => e = .returned (.string s) ∧ Below w.heap.size w w' := by
  rw [hs.out]; exact durationText_calls n h0 h1 w hg

set_option maxHeartbeats 1000000 in
set_option maxRecDepth 100000 in
theorem waysLaw_calls (s : ByteArray) (hm : s.size ≤ maxLen) (n : Int) (hl : -9223372036854775808 ≤ n) (h1 : n ≤ 9223372036854775807) (w : World) (hg : Glob w) :
    Calls Tryd.prog 8 #[.string s, .int .i64 n] w fun e w' => e = .returned (.bool true) ∧ Below w.heap.size w w' := by
  have HG := Aside0.mk hg; clear hg
  unfold maxLen at hm
  by_cases hm2 : 2147483647 < s.size
  · go_enter Tryd.func8, Tryd.ntmps8
    go_wp2
    go_ret
    exact ⟨rfl, Below.refl _ _⟩
  · by_cases hbig : s.size ≤ 60 ∧ 0 ≤ n
    · obtain ⟨hb60, hn⟩ := hbig
      obtain ⟨t, ht⟩ : ∃ t : ByteArray, t = ⟨(durText (n / 1000000)).toArray⟩ := ⟨_, rfl⟩
      have HT := Aside0.mk ht
      clear ht
      cases hp : Dur.parse s.data.toList with
      | some m =>
        have HP := Aside0.mk hp
        have H1 := Aside0.mk (show parseNum s.data.toList = (m : Int) by rw [parseNum, hp])
        have H2 := Aside0.mk (show (Dur.parse s.data.toList).isSome = true by rw [hp]; rfl)
        clear hp
        go_enter Tryd.func8, Tryd.ntmps8
        go_wp2_with fail
        refine (durationRead_calls s (by omega) _ HG.out).mono ?_
        rintro e w1 ⟨rfl, hb1⟩
        have HB1 := Aside0.mk hb1; clear hb1
        simp only [H1.out, H2.out]
        go_wp2_with fail
        refine (durationSet_calls s (by omega) _ (HG.out.next HB1.out)).mono ?_
        rintro e w2 ⟨rfl, hb2⟩
        have HB2 := Aside0.mk (below_step HB1.out hb2); clear hb2
        simp only [H1.out, H2.out]
        go_wp2_with fail
        refine (durationUnmarshal_calls s (by omega) _ (HG.out.next HB2.out)).mono ?_
        rintro e w3 ⟨rfl, hb3⟩
        have HB3 := Aside0.mk (below_step HB2.out hb3); clear hb3
        simp only [H1.out, H2.out]
        go_wp2_with fail
        refine (durationMarshal_calls n hn h1 t HT _ (HG.out.next HB3.out)).mono ?_
        rintro e w4 ⟨rfl, hb4⟩
        have HB4 := Aside0.mk (below_step HB3.out hb4); clear hb4
        go_wp2_with fail
        refine (awake_calls _ (HG.out.next HB4.out)).mono ?_
        rintro e w5 ⟨rfl, hb5⟩
        have HB5 := Aside0.mk (below_step HB4.out hb5); clear hb5
        go_wp2_with fail
        refine (text_of n hn h1 t HT _ (HG.out.next HB5.out)).mono ?_
        rintro e w6 ⟨rfl, hb6⟩
        have HB6 := Aside0.mk (below_step HB5.out hb6); clear hb6
        go_wp2
        go_ret
        exact ⟨rfl, HB6.out⟩
      | none =>
        have HP := Aside0.mk hp
        have H1 := Aside0.mk (show parseNum s.data.toList = 0 by rw [parseNum, hp])
        have H2 := Aside0.mk (show (Dur.parse s.data.toList).isSome = false by rw [hp]; rfl)
        clear hp
        go_enter Tryd.func8, Tryd.ntmps8
        go_wp2_with fail
        refine (durationRead_calls s (by omega) _ HG.out).mono ?_
        rintro e w1 ⟨rfl, hb1⟩
        have HB1 := Aside0.mk hb1; clear hb1
        simp only [H1.out, H2.out]
        go_wp2_with fail
        refine (durationSet_calls s (by omega) _ (HG.out.next HB1.out)).mono ?_
        rintro e w2 ⟨rfl, hb2⟩
        have HB2 := Aside0.mk (below_step HB1.out hb2); clear hb2
        simp only [H1.out, H2.out]
        go_wp2_with fail
        refine (durationUnmarshal_calls s (by omega) _ (HG.out.next HB2.out)).mono ?_
        rintro e w3 ⟨rfl, hb3⟩
        have HB3 := Aside0.mk (below_step HB2.out hb3); clear hb3
        simp only [H1.out, H2.out]
        go_wp2_with fail
        refine (durationMarshal_calls n hn h1 t HT _ (HG.out.next HB3.out)).mono ?_
        rintro e w4 ⟨rfl, hb4⟩
        have HB4 := Aside0.mk (below_step HB3.out hb4); clear hb4
        go_wp2_with fail
        refine (awake_calls _ (HG.out.next HB4.out)).mono ?_
        rintro e w5 ⟨rfl, hb5⟩
        have HB5 := Aside0.mk (below_step HB4.out hb5); clear hb5
        go_wp2_with fail
        refine (text_of n hn h1 t HT _ (HG.out.next HB5.out)).mono ?_
        rintro e w6 ⟨rfl, hb6⟩
        have HB6 := Aside0.mk (below_step HB5.out hb6); clear hb6
        go_wp2
        go_ret
        exact ⟨rfl, HB6.out⟩
    · by_cases h60 : s.size ≤ 60
      · have hn : n < 0 := by omega
        clear hbig
        go_enter Tryd.func8, Tryd.ntmps8
        go_wp2_with (go_at_call 12; refine (awake_calls _ HG.out).mono ?_; rintro e w1 ⟨rfl, hb⟩)
        go_ret
        exact ⟨rfl, hb⟩
      · clear hbig
        go_enter Tryd.func8, Tryd.ntmps8
        go_wp2_with (go_at_call 12; refine (awake_calls _ HG.out).mono ?_; rintro e w1 ⟨rfl, hb⟩)
        go_ret
        exact ⟨rfl, hb⟩
end Go.Proofs.YtaajhionmdjhjaaDoor
