/- The law FnDurationRead, walked: whatever the text, it answers true. -/
import Derived.Test.YtaajhionmdjhjaaDoorSpecR
set_option linter.unusedVariables false
set_option linter.unusedSimpArgs false
namespace Go.Proofs.YtaajhionmdjhjaaDoor
open Go.RowKit

theorem spec_some (s : ByteArray) (hs : s.size ≤ 281474976710656) (n : Nat) (h : Dur.parse s.data.toList = some n) (w : World) :
    Calls Tryd.prog 13 #[.string s] w fun e w' => e = .returned (.tuple #[.int .i64 (n : Int), .bool true]) ∧ Below w.heap.size w w' := by
  refine (specRead_calls s hs w).mono ?_
  rintro e w' ⟨he, hb⟩
  rw [h] at he
  exact ⟨he, hb⟩
theorem spec_none (s : ByteArray) (hs : s.size ≤ 281474976710656) (h : Dur.parse s.data.toList = none) (w : World) :
    Calls Tryd.prog 13 #[.string s] w fun e w' => e = .returned (.tuple #[.int .i64 0, .bool false]) ∧ Below w.heap.size w w' := by
  refine (specRead_calls s hs w).mono ?_
  rintro e w' ⟨he, hb⟩
  rw [h] at he
  exact ⟨he, hb⟩

set_option maxHeartbeats 1000000 in
set_option maxRecDepth 100000 in
theorem readLaw_calls (s : ByteArray) (hm : s.size ≤ maxLen) (w : World) (hg : Glob w) :
    Calls Tryd.prog 3 #[.string s] w fun e w' => e = .returned (.bool true) ∧ Below w.heap.size w w' := by
  have HG := Aside0.mk hg; clear hg
  unfold maxLen at hm
  by_cases hbig : s.size ≤ 60
  · go_enter Tryd.func3, Tryd.ntmps3
    go_wp2_with fail
    obtain ⟨wo, hwo⟩ : ∃ wo : World, wo = w := ⟨_, rfl⟩
    subst hwo
    go_loopg [3] (s.size + 1) (fun kq v3 w' => ∃ i : Nat, v3 = .int .i64 (i : Int) ∧ i + kq = s.size + 1 ∧ i ≤ s.size ∧ wo = w')
    case atStart => exact ⟨0, rfl, by omega, by omega, rfl⟩
    case round =>
      obtain ⟨i, rfl, hik, hile, rfl⟩ := hrel
      obtain ⟨g1, rfl⟩ : ∃ m, gk = m + 1 := ⟨gk - 1, by omega⟩
      have hxi : ∀ h : i < s.size, ((s[i]'h).toNat : Int) = bt s (i : Int) := fun h => by simpa using bt_at s (i : Int) (by simpa using h)
      have hri := bt_range s (i : Int)
      by_cases hlt : i < s.size
      · go_wp2_with (go_at_call 12; refine (awake_calls _ HG.out).mono ?_; rintro e w1 ⟨rfl, hb⟩)
        all_goals
          first
            | (go_ret
               exact ⟨rfl, hb⟩)
            | (go_roundg g1
               case measure => omega
               case rel => exact ⟨i + 1, by go_num, by omega, by omega, rfl⟩)
      · clear hxi hri
        cases hp : Dur.parse s.data.toList with
        | some n =>
          have HP := Aside0.mk hp
          have h1 : parseNum s.data.toList = (n : Int) := by rw [parseNum, hp]
          have h2 : (Dur.parse s.data.toList).isSome = true := by rw [hp]; rfl
          have H1 := Aside0.mk h1
          have H2 := Aside0.mk h2
          clear hp h1 h2
          go_wp2_with fail
          refine (spec_some s (by omega) n HP.out wo).mono ?_
          rintro e w1 ⟨rfl, hb1⟩
          have HB1 := Aside0.mk hb1; clear hb1
          go_wp2_with fail
          refine (durationRead_calls s (by omega) _ (HG.out.next HB1.out)).mono ?_
          rintro e w2 ⟨rfl, hb2⟩
          have HB2 := Aside0.mk (below_step HB1.out hb2); clear hb2
          simp only [H1.out, H2.out]
          go_wp2_with fail
          refine (awake_calls _ (HG.out.next HB2.out)).mono ?_
          rintro e w3 ⟨rfl, hb3⟩
          have HB3 := Aside0.mk (below_step HB2.out hb3); clear hb3
          go_wp2
          go_ret
          exact ⟨rfl, HB3.out⟩
        | none =>
          have HP := Aside0.mk hp
          have h1 : parseNum s.data.toList = 0 := by rw [parseNum, hp]
          have h2 : (Dur.parse s.data.toList).isSome = false := by rw [hp]; rfl
          have H1 := Aside0.mk h1
          have H2 := Aside0.mk h2
          clear hp h1 h2
          go_wp2_with fail
          refine (spec_none s (by omega) HP.out wo).mono ?_
          rintro e w1 ⟨rfl, hb1⟩
          have HB1 := Aside0.mk hb1; clear hb1
          go_wp2_with fail
          refine (durationRead_calls s (by omega) _ (HG.out.next HB1.out)).mono ?_
          rintro e w2 ⟨rfl, hb2⟩
          have HB2 := Aside0.mk (below_step HB1.out hb2); clear hb2
          simp only [H1.out, H2.out]
          go_wp2_with fail
          refine (awake_calls _ (HG.out.next HB2.out)).mono ?_
          rintro e w3 ⟨rfl, hb3⟩
          have HB3 := Aside0.mk (below_step HB2.out hb3); clear hb3
          go_wp2
          go_ret
          exact ⟨rfl, HB3.out⟩
  · by_cases hm2 : 2147483647 < s.size
    · clear hbig
      go_enter Tryd.func3, Tryd.ntmps3
      go_wp2
      go_ret
      exact ⟨rfl, Below.refl _ _⟩
    · go_enter Tryd.func3, Tryd.ntmps3
      go_wp2_with (go_at_call 12; refine (awake_calls _ HG.out).mono ?_; rintro e w1 ⟨rfl, hb⟩)
      go_ret
      exact ⟨rfl, hb⟩
end Go.Proofs.YtaajhionmdjhjaaDoor
