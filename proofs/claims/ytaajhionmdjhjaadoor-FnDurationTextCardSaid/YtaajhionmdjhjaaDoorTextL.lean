/- The law FnDurationText, walked: whatever the number, it answers true. -/
import Derived.Test.YtaajhionmdjhjaaDoorDurF
import Derived.Test.YtaajhionmdjhjaaDoorSpecB
import Derived.Test.YtaajhionmdjhjaaDoorDurQ
set_option linter.unusedVariables false
set_option linter.unusedSimpArgs false
namespace Go.Proofs.YtaajhionmdjhjaaDoor
open Go.RowKit

theorem durText_len (ms : Int) (h0 : 0 ≤ ms) (h1 : ms ≤ 9223372036854775807) : (durText ms).length ≤ 200 := by
  by_cases hz : ms = 0
  · rw [durText, if_pos hz]; simp
  · rw [told_text ms hz]
    simp only [told]
    have a1 := durStep_lo [121] 31536000000 true (ms, []) (by decide) h0 h1 (by decide)
    have a2 := durStep_lo [119] 604800000 true _ (by decide) a1.1 a1.2.1 (by decide)
    have a3 := durStep_lo [100] 86400000 false _ (by decide) a2.1 a2.2.1 (by decide)
    have a4 := durStep_lo [104] 3600000 false _ (by decide) a3.1 a3.2.1 (by decide)
    have a5 := durStep_lo [109] 60000 false _ (by decide) a4.1 a4.2.1 (by decide)
    have a6 := durStep_lo [115] 1000 false _ (by decide) a5.1 a5.2.1 (by decide)
    have a7 := durStep_lo [109, 115] 1 false _ (by decide) a6.1 a6.2.1 (by decide)
    have := a1.2.2; have := a2.2.2; have := a3.2.2; have := a4.2.2; have := a5.2.2; have := a6.2.2; have := a7.2.2
    simp only [List.length_nil] at *
    omega
theorem text_back (n : Int) (h0 : 0 ≤ n) (h1 : n ≤ 9223372036854775807) : Dur.parse (durText (n / 1000000)) = some ((n / 1000000).toNat * 1000000) := by
  have e : n / 1000000 = (((n / 1000000).toNat : Nat) : Int) := by omega
  rw [e]
  exact Dur.parse_text _ (by omega)

set_option maxHeartbeats 1000000 in
set_option maxRecDepth 100000 in
theorem textLaw_calls (n : Int) (hl : -9223372036854775808 ≤ n) (h1 : n ≤ 9223372036854775807) (w : World) (hg : Glob w) :
    Calls Tryd.prog 4 #[.int .i64 n] w fun e w' => e = .returned (.bool true) ∧ Below w.heap.size w w' := by
  have HG := Aside0.mk hg; clear hg
  by_cases h0 : n < 0
  · go_enter Tryd.func4, Tryd.ntmps4
    go_wp2_with (go_at_call 12; refine (awake_calls _ HG.out).mono ?_; rintro e w1 ⟨rfl, hb⟩)
    go_ret
    exact ⟨rfl, hb⟩
  · have h0' : 0 ≤ n := by omega
    have hq0 : 0 ≤ n / 1000000 := by omega
    have hq1 : n / 1000000 ≤ 9223372036854 := by omega
    have hlen := durText_len (n / 1000000) hq0 (by omega)
    have HP := Aside0.mk (text_back n h0' h1)
    have p1 : parseNum (durText (n / 1000000)) = n / 1000000 * 1000000 := by rw [parseNum, HP.out]; simp only []; omega
    have p2 : (Dur.parse (durText (n / 1000000))).isSome = true := by rw [HP.out]; rfl
    have HP1 := Aside0.mk p1
    have HP2 := Aside0.mk p2
    clear h0 p1 p2
    go_enter Tryd.func4, Tryd.ntmps4
    go_wp2_with fail
    refine (durationText_calls n h0' h1 w HG.out).mono ?_
    rintro e w1 ⟨rfl, hb1⟩
    have HB1 := Aside0.mk hb1; clear hb1
    go_wp2_with fail
    refine (durationRead_calls ⟨(durText (n / 1000000)).toArray⟩ (by show (durText (n / 1000000)).toArray.size ≤ _; simp; omega) _ (HG.out.next HB1.out)).mono ?_
    rintro e w2 ⟨rfl, hb2⟩
    have HB2 := Aside0.mk (below_step HB1.out hb2); clear hb2
    simp only [List.toList_toArray, HP1.out, HP2.out]
    go_wp2_with fail
    refine (awake_calls _ (HG.out.next HB2.out)).mono ?_
    rintro e w3 ⟨rfl, hb3⟩
    have HB3 := Aside0.mk (below_step HB2.out hb3); clear hb3
    go_wp2_with fail
    refine (specText_calls (n / 1000000) hq0 (by omega) _ (HG.out.next HB3.out)).mono ?_
    rintro e w4 ⟨rfl, hb4⟩
    have HB4 := Aside0.mk (below_step HB3.out hb4); clear hb4
    go_wp2
    go_ret
    exact ⟨rfl, HB4.out⟩
end Go.Proofs.YtaajhionmdjhjaaDoor
