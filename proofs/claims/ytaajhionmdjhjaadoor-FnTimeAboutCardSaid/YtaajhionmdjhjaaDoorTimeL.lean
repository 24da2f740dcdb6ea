/- The law FnTimeAbout, walked: whatever the numbers, it answers true. -/
import Derived.Test.YtaajhionmdjhjaaDoorDurF
import Derived.Deep.RegionHeld3
set_option linter.unusedVariables false
set_option linter.unusedSimpArgs false
namespace Go.Proofs.YtaajhionmdjhjaaDoor
open Go.RowKit

theorem tdiv_lo (x d B : Int) (hd : 0 < d) (h0 : -(B * d) ≤ x) (h1 : x ≤ B * d) : -B ≤ x.tdiv d ∧ x.tdiv d ≤ B := by
  rcases Int.lt_or_le x 0 with h | h
  · have e : x.tdiv d = -((-x) / d) := by
      rw [← Int.neg_neg x, Int.neg_tdiv, Int.tdiv_eq_ediv_of_nonneg (by omega), Int.neg_neg]
    have h2 : (-x) / d ≤ B := Int.ediv_le_of_le_mul hd (by omega)
    have h3 : 0 ≤ (-x) / d := Int.ediv_nonneg (by omega) (by omega)
    rw [e]; omega
  · rw [Int.tdiv_eq_ediv_of_nonneg h]
    have h2 : x / d ≤ B := Int.ediv_le_of_le_mul hd h1
    have h3 : 0 ≤ x / d := Int.ediv_nonneg h (by omega)
    omega

set_option maxHeartbeats 1000000 in
set_option maxRecDepth 100000 in
theorem timeAbout_calls (ms : Int) (h0 : -9000000000000 ≤ ms) (h1 : ms ≤ 9000000000000) (w : World) :
    Calls Tryd.prog 19 #[.int .i64 ms] w fun e w' => e = .returned (.agg #[.int .i64 (ms.tdiv 1000), .int .i64 (ms * 1000000), .int .i64 (ms.tdiv 1000 * 1000), .int .i64 ms]) ∧ Below w.heap.size w w' := by
  obtain ⟨t0, t1⟩ := tdiv_lo ms 1000 9000000000 (by decide) (by omega) (by omega)
  have t2 : (ms * 1000000).tdiv 1000000 = ms := Int.mul_tdiv_cancel ms (by decide)
  go_enter Tryd.func19, Tryd.ntmps19
  go_wp2
  refine bodyPost_ret (v := .agg #[.int .i64 (ms.tdiv 1000), .int .i64 (ms * 1000000), .int .i64 (ms.tdiv 1000 * 1000), .int .i64 ms]) (by simp [results, Tryd.results19, go_sem]) rfl ⟨rfl, below_alloc (Below.refl _ _) _⟩
set_option maxHeartbeats 1000000 in
set_option maxRecDepth 100000 in
theorem timeMoved_calls (ms by_ other : Int) (h0 : -9000000000000 ≤ ms) (h1 : ms ≤ 9000000000000) (h2 : -9000000000000000000 ≤ by_) (h3 : by_ ≤ 9000000000000000000) (h4 : -9000000000000 ≤ ms - other) (h5 : ms - other ≤ 9000000000000) (w : World) :
    Calls Tryd.prog 18 #[.int .i64 ms, .int .i64 by_, .int .i64 other] w fun e w' => e = .returned (.tuple #[.int .i64 (ms + by_.tdiv 1000000), .int .i64 ((ms - other) * 1000000), .bool (decide (ms < other)), .bool (decide (other < ms)), .bool (ms == other)]) ∧ w = w' := by
  obtain ⟨t0, t1⟩ := tdiv_lo by_ 1000000 9000000000000 (by decide) (by omega) (by omega)
  go_enter Tryd.func18, Tryd.ntmps18
  go_wp2
  refine bodyPost_ret (v := .tuple #[.int .i64 (ms + by_.tdiv 1000000), .int .i64 ((ms - other) * 1000000), .bool (decide (ms < other)), .bool (decide (other < ms)), .bool (ms == other)]) (by simp [results, Tryd.results18, go_sem]) rfl ⟨rfl, rfl⟩

set_option maxHeartbeats 2000000 in
set_option maxRecDepth 100000 in
theorem timeLaw_in (ms by_ other : Int) (h0 : -9000000000000 ≤ ms) (h1 : ms ≤ 9000000000000) (h2 : -9000000000000000000 ≤ by_) (h3 : by_ ≤ 9000000000000000000) (h4 : -9000000000000 ≤ ms - other) (h5 : ms - other ≤ 9000000000000)
    (h6 : -4500000000000 ≤ other) (h7 : other ≤ 4500000000000) (w : World) (hg : Glob w) :
    Calls Tryd.prog 6 #[.int .i64 ms, .int .i64 by_, .int .i64 other] w fun e w' => e = .returned (.bool true) ∧ Below w.heap.size w w' := by
  have HG := Aside0.mk hg; clear hg
  obtain ⟨t0, t1⟩ := tdiv_lo ms 1000 9000000000 (by decide) (by omega) (by omega)
  obtain ⟨t2, t3⟩ := tdiv_lo by_ 1000000 9000000000000 (by decide) (by omega) (by omega)
  have s1 : other - ms ≤ 9000000000000 := by omega
  go_enter Tryd.func6, Tryd.ntmps6
  go_wp2_with fail
  refine (timeMoved_calls ms by_ other h0 h1 h2 h3 h4 h5 _).mono ?_
  rintro e w1 ⟨rfl, rfl⟩
  go_wp2_with fail
  have c0 : (w.alloc (.cells #[.int .i64 (ms.tdiv 1000), .int .i64 (ms * 1000000), .int .i64 (ms.tdiv 1000 * 1000), .int .i64 ms] 32)).cell? ⟨w.heap.size, 0, none⟩ = some (.int .i64 (ms.tdiv 1000)) := by simp [go_sem]
  have c1 : (w.alloc (.cells #[.int .i64 (ms.tdiv 1000), .int .i64 (ms * 1000000), .int .i64 (ms.tdiv 1000 * 1000), .int .i64 ms] 32)).cell? ⟨w.heap.size, 1, none⟩ = some (.int .i64 (ms * 1000000)) := by simp [go_sem]
  have c2 : (w.alloc (.cells #[.int .i64 (ms.tdiv 1000), .int .i64 (ms * 1000000), .int .i64 (ms.tdiv 1000 * 1000), .int .i64 ms] 32)).cell? ⟨w.heap.size, 2, none⟩ = some (.int .i64 (ms.tdiv 1000 * 1000)) := by simp [go_sem]
  have c3 : (w.alloc (.cells #[.int .i64 (ms.tdiv 1000), .int .i64 (ms * 1000000), .int .i64 (ms.tdiv 1000 * 1000), .int .i64 ms] 32)).cell? ⟨w.heap.size, 3, none⟩ = some (.int .i64 ms) := by simp [go_sem]
  have HW := Aside0.mk (below_alloc (Below.refl w.heap.size w) (.cells #[.int .i64 (ms.tdiv 1000), .int .i64 (ms * 1000000), .int .i64 (ms.tdiv 1000 * 1000), .int .i64 ms] 32))
  generalize w.alloc (.cells #[.int .i64 (ms.tdiv 1000), .int .i64 (ms * 1000000), .int .i64 (ms.tdiv 1000 * 1000), .int .i64 ms] 32) = W at *
  have q1 : IntKind.i64.wrap (by_.tdiv 1000000) = by_.tdiv 1000000 := IntWalk.i64_in _ ⟨by omega, by omega⟩
  have q2 : IntKind.i64.wrap (ms + by_.tdiv 1000000) = ms + by_.tdiv 1000000 := IntWalk.i64_in _ ⟨by omega, by omega⟩
  have q3 : IntKind.i64.wrap (ms - other) = ms - other := IntWalk.i64_in _ ⟨by omega, by omega⟩
  have q4 : IntKind.i64.wrap ((ms - other) * 1000000) = (ms - other) * 1000000 := IntWalk.i64_in _ ⟨by omega, by omega⟩
  go_region_held3 (fun w' => w'.cell? ⟨w.heap.size, 0, none⟩ = some (.int .i64 (ms.tdiv 1000)) ∧ w'.cell? ⟨w.heap.size, 1, none⟩ = some (.int .i64 (ms * 1000000)) ∧ w'.cell? ⟨w.heap.size, 2, none⟩ = some (.int .i64 (ms.tdiv 1000 * 1000)) ∧ w'.cell? ⟨w.heap.size, 3, none⟩ = some (.int .i64 ms)) (first | exact ⟨c0, c1, c2, c3⟩ | exact ⟨cell_below HK2.out c0, cell_below HK2.out c1, cell_below HK2.out c2, cell_below HK2.out c3⟩ | exact ⟨cell_below HK.out c0, cell_below HK.out c1, cell_below HK.out c2, cell_below HK.out c3⟩) (first | (go_at_call 12; refine (awake_calls _ ?_).mono ?_; (exact (HG.out.next HW.out).next (below_drew (Below.refl _ _))); rintro e w2 ⟨rfl, hb⟩; have HK := Aside0.mk (below_step (below_drew (Below.refl W.heap.size W)) hb); clear hb) | (go_at_call 19; refine (timeAbout_calls ms h0 h1 _).mono ?_; rintro e w3 ⟨rfl, hb⟩; have HK2 := Aside0.mk (below_step HK.out hb); clear hb))
  go_wp2
  go_ret
  exact ⟨rfl, below_step HW.out HK2.out⟩

set_option maxHeartbeats 2000000 in
set_option maxRecDepth 100000 in
theorem timeLaw_calls (ms : Int) (hm0 : -9223372036854775808 ≤ ms) (hm1 : ms ≤ 9223372036854775807) (by_ : Int) (hb0 : -9223372036854775808 ≤ by_) (hb1 : by_ ≤ 9223372036854775807) (other : Int) (ho0 : -9223372036854775808 ≤ other) (ho1 : other ≤ 9223372036854775807) (w : World) (hg : Glob w) :
    Calls Tryd.prog 6 #[.int .i64 ms, .int .i64 by_, .int .i64 other] w fun e w' => e = .returned (.bool true) ∧ Below w.heap.size w w' := by
  by_cases hin : -9000000000000 ≤ ms ∧ ms ≤ 9000000000000 ∧ -4500000000000 ≤ other ∧ other ≤ 4500000000000 ∧ ms - other ≤ 9000000000000 ∧ other - ms ≤ 9000000000000 ∧ -9000000000000000000 ≤ by_ ∧ by_ ≤ 9000000000000000000
  · obtain ⟨h0, h1, h6, h7, h5, h4, h2, h3⟩ := hin
    exact timeLaw_in ms by_ other h0 h1 h2 h3 (by omega) h5 h6 h7 w hg
  have HG := Aside0.mk hg; clear hg
  by_cases h0 : ms < -9000000000000
  · clear hin
    go_enter Tryd.func6, Tryd.ntmps6
    go_wp2_with (go_at_call 12; refine (awake_calls _ HG.out).mono ?_; rintro e w1 ⟨rfl, hb⟩)
    go_ret
    exact ⟨rfl, hb⟩
  by_cases h1 : 9000000000000 < ms
  · clear hin
    go_enter Tryd.func6, Tryd.ntmps6
    go_wp2_with (go_at_call 12; refine (awake_calls _ HG.out).mono ?_; rintro e w1 ⟨rfl, hb⟩)
    go_ret
    exact ⟨rfl, hb⟩
  by_cases h2 : other < -4500000000000
  · clear hin
    go_enter Tryd.func6, Tryd.ntmps6
    go_wp2_with (go_at_call 12; refine (awake_calls _ HG.out).mono ?_; rintro e w1 ⟨rfl, hb⟩)
    go_ret
    exact ⟨rfl, hb⟩
  by_cases h3 : 4500000000000 < other
  · clear hin
    go_enter Tryd.func6, Tryd.ntmps6
    go_wp2_with (go_at_call 12; refine (awake_calls _ HG.out).mono ?_; rintro e w1 ⟨rfl, hb⟩)
    go_ret
    exact ⟨rfl, hb⟩
  have g0 : -9000000000000 ≤ ms := by omega
  have g1 : ms ≤ 9000000000000 := by omega
  have g2 : -4500000000000 ≤ other := by omega
  have g3 : other ≤ 4500000000000 := by omega
  by_cases h4 : 9000000000000 < ms - other
  · clear hin
    go_enter Tryd.func6, Tryd.ntmps6
    go_wp2_with (go_at_call 12; refine (awake_calls _ HG.out).mono ?_; rintro e w1 ⟨rfl, hb⟩)
    go_ret
    exact ⟨rfl, hb⟩
  by_cases h5 : 9000000000000 < other - ms
  · clear hin
    go_enter Tryd.func6, Tryd.ntmps6
    go_wp2_with (go_at_call 12; refine (awake_calls _ HG.out).mono ?_; rintro e w1 ⟨rfl, hb⟩)
    go_ret
    exact ⟨rfl, hb⟩
  by_cases h6 : by_ < -9000000000000000000
  · clear hin
    go_enter Tryd.func6, Tryd.ntmps6
    go_wp2_with (go_at_call 12; refine (awake_calls _ HG.out).mono ?_; rintro e w1 ⟨rfl, hb⟩)
    go_ret
    exact ⟨rfl, hb⟩
  have h7 : 9000000000000000000 < by_ := by omega
  clear hin
  go_enter Tryd.func6, Tryd.ntmps6
  go_wp2_with (go_at_call 12; refine (awake_calls _ HG.out).mono ?_; rintro e w1 ⟨rfl, hb⟩)
  go_ret
  exact ⟨rfl, hb⟩
end Go.Proofs.YtaajhionmdjhjaaDoor
