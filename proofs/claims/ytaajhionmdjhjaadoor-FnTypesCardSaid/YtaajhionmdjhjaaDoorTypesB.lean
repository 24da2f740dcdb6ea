/- The law FnTypes, walked: whatever the number, it answers true. -/
import Derived.Test.YtaajhionmdjhjaaDoorTypesA
import Derived.Deep.RegionWith
set_option linter.unusedVariables false
set_option linter.unusedSimpArgs false
namespace Go.Proofs.YtaajhionmdjhjaaDoor
open Go.RowKit
set_option maxHeartbeats 2000000 in
set_option maxRecDepth 100000 in
theorem types0 (k : Int) (h0 : 0 ≤ k) (h1 : k ≤ 255) (hk : k % 5 = 0) (w : World) (hg : Glob w) :
    Calls Tryd.prog 5 #[.int .u8 k] w fun e w' => e = .returned (.bool true) ∧ Below w.heap.size w w' := by
  have HG := Aside0.mk hg; clear hg
  go_enter Tryd.func5, Tryd.ntmps5
  go_wp2_with fail
  go_region_with (first | (go_at_call 12; refine (awake_calls _ ?_).mono ?_; (exact HG.out.next (below_drew (Below.refl _ _))); rintro e w1 ⟨rfl, hb1⟩; have HB1 := Aside0.mk hb1; clear hb1) | (go_at_call 17; refine (typeText0 _).mono ?_; rintro e w2 ⟨rfl, hb2⟩; have HB2 := Aside0.mk hb2; obtain ⟨hc, hf⟩ := bcell hb2; have hz := hb2.size; clear hb2))
  all_goals
    have HB3 := Aside0.mk (below_step (below_drew (Below.refl w.heap.size w)) HB1.out)
    go_wp2
    go_ret
    refine ⟨rfl, ?_⟩
    first
      | exact below_alloc (below_step HB3.out HB2.out) _
      | exact below_step (below_alloc HB3.out _) HB2.out
set_option maxHeartbeats 2000000 in
set_option maxRecDepth 100000 in
theorem types1 (k : Int) (h0 : 0 ≤ k) (h1 : k ≤ 255) (hk : k % 5 = 1) (w : World) (hg : Glob w) :
    Calls Tryd.prog 5 #[.int .u8 k] w fun e w' => e = .returned (.bool true) ∧ Below w.heap.size w w' := by
  have HG := Aside0.mk hg; clear hg
  go_enter Tryd.func5, Tryd.ntmps5
  go_wp2_with fail
  go_region_with (first | (go_at_call 12; refine (awake_calls _ ?_).mono ?_; (exact HG.out.next (below_drew (Below.refl _ _))); rintro e w1 ⟨rfl, hb1⟩; have HB1 := Aside0.mk hb1; clear hb1) | (go_at_call 17; refine (typeText1 _).mono ?_; rintro e w2 ⟨rfl, hb2⟩; have HB2 := Aside0.mk hb2; obtain ⟨hc, hf⟩ := bcell hb2; have hz := hb2.size; clear hb2))
  all_goals
    have HB3 := Aside0.mk (below_step (below_drew (Below.refl w.heap.size w)) HB1.out)
    go_wp2
    go_ret
    refine ⟨rfl, ?_⟩
    first
      | exact below_alloc (below_step HB3.out HB2.out) _
      | exact below_step (below_alloc HB3.out _) HB2.out
set_option maxHeartbeats 2000000 in
set_option maxRecDepth 100000 in
theorem types2 (k : Int) (h0 : 0 ≤ k) (h1 : k ≤ 255) (hk : k % 5 = 2) (w : World) (hg : Glob w) :
    Calls Tryd.prog 5 #[.int .u8 k] w fun e w' => e = .returned (.bool true) ∧ Below w.heap.size w w' := by
  have HG := Aside0.mk hg; clear hg
  go_enter Tryd.func5, Tryd.ntmps5
  go_wp2_with fail
  go_region_with (first | (go_at_call 12; refine (awake_calls _ ?_).mono ?_; (exact HG.out.next (below_drew (Below.refl _ _))); rintro e w1 ⟨rfl, hb1⟩; have HB1 := Aside0.mk hb1; clear hb1) | (go_at_call 17; refine (typeText2 _).mono ?_; rintro e w2 ⟨rfl, hb2⟩; have HB2 := Aside0.mk hb2; obtain ⟨hc, hf⟩ := bcell hb2; have hz := hb2.size; clear hb2))
  all_goals
    have HB3 := Aside0.mk (below_step (below_drew (Below.refl w.heap.size w)) HB1.out)
    go_wp2
    go_ret
    refine ⟨rfl, ?_⟩
    first
      | exact below_alloc (below_step HB3.out HB2.out) _
      | exact below_step (below_alloc HB3.out _) HB2.out
set_option maxHeartbeats 2000000 in
set_option maxRecDepth 100000 in
theorem types3 (k : Int) (h0 : 0 ≤ k) (h1 : k ≤ 255) (hk : k % 5 = 3) (w : World) (hg : Glob w) :
    Calls Tryd.prog 5 #[.int .u8 k] w fun e w' => e = .returned (.bool true) ∧ Below w.heap.size w w' := by
  have HG := Aside0.mk hg; clear hg
  go_enter Tryd.func5, Tryd.ntmps5
  go_wp2_with fail
  go_region_with (first | (go_at_call 12; refine (awake_calls _ ?_).mono ?_; (exact HG.out.next (below_drew (Below.refl _ _))); rintro e w1 ⟨rfl, hb1⟩; have HB1 := Aside0.mk hb1; clear hb1) | (go_at_call 17; refine (typeText3 _).mono ?_; rintro e w2 ⟨rfl, hb2⟩; have HB2 := Aside0.mk hb2; obtain ⟨hc, hf⟩ := bcell hb2; have hz := hb2.size; clear hb2))
  all_goals
    have HB3 := Aside0.mk (below_step (below_drew (Below.refl w.heap.size w)) HB1.out)
    go_wp2
    go_ret
    refine ⟨rfl, ?_⟩
    first
      | exact below_alloc (below_step HB3.out HB2.out) _
      | exact below_step (below_alloc HB3.out _) HB2.out
set_option maxHeartbeats 2000000 in
set_option maxRecDepth 100000 in
theorem types4 (k : Int) (h0 : 0 ≤ k) (h1 : k ≤ 255) (hk : k % 5 = 4) (w : World) (hg : Glob w) :
    Calls Tryd.prog 5 #[.int .u8 k] w fun e w' => e = .returned (.bool true) ∧ Below w.heap.size w w' := by
  have HG := Aside0.mk hg; clear hg
  go_enter Tryd.func5, Tryd.ntmps5
  go_wp2_with fail
  go_region_with (first | (go_at_call 12; refine (awake_calls _ ?_).mono ?_; (exact HG.out.next (below_drew (Below.refl _ _))); rintro e w1 ⟨rfl, hb1⟩; have HB1 := Aside0.mk hb1; clear hb1) | (go_at_call 17; refine (typeText4 _).mono ?_; rintro e w2 ⟨rfl, hb2⟩; have HB2 := Aside0.mk hb2; obtain ⟨hc, hf⟩ := bcell hb2; have hz := hb2.size; clear hb2))
  all_goals
    have HB3 := Aside0.mk (below_step (below_drew (Below.refl w.heap.size w)) HB1.out)
    go_wp2
    go_ret
    refine ⟨rfl, ?_⟩
    first
      | exact below_alloc (below_step HB3.out HB2.out) _
      | exact below_step (below_alloc HB3.out _) HB2.out
theorem types_calls (k : Int) (h0 : 0 ≤ k) (h1 : k ≤ 255) (w : World) (hg : Glob w) :
    Calls Tryd.prog 5 #[.int .u8 k] w fun e w' => e = .returned (.bool true) ∧ Below w.heap.size w w' := by
  rcases (show k % 5 = 0 ∨ k % 5 = 1 ∨ k % 5 = 2 ∨ k % 5 = 3 ∨ k % 5 = 4 by omega) with h | h | h | h | h
  · exact types0 k h0 h1 h w hg
  · exact types1 k h0 h1 h w hg
  · exact types2 k h0 h1 h w hg
  · exact types3 k h0 h1 h w hg
  · exact types4 k h0 h1 h w hg
end Go.Proofs.YtaajhionmdjhjaaDoor
