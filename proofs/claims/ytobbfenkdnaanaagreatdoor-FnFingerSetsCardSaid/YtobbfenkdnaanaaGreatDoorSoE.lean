/- slices' partial insertion sort over fewer than 50 numbers, by contract: it only looks whether they are in order. -/
import Derived.Test.YtobbfenkdnaanaaGreatDoorSoA
set_option linter.unusedVariables false
set_option linter.unusedSimpArgs false
namespace Go.Proofs.YtobbfenkdnaanaaGreatDoor
open Go.RowKit Go.Sort

theorem drewN_ahead (w : World) (n : Nat) : w.drewN n = Sort.ahead w n := rfl

set_option maxHeartbeats 2000000 in
theorem partins_u (blk off cap a b : Nat) (d : Array Int) (n : Nat) (hn : d.size = n) (w : World) (hH : Holds U64 w blk off d) (hab : a + 13 ≤ b) (h49 : b ≤ a + 49) (hb : b ≤ d.size) (hsz : n ≤ 1000000) :
    Calls Tryz.prog 190 #[.slice (some ⟨blk, off, none⟩) n cap, .int .i64 a, .int .i64 b] w fun e w' =>
      ∃ r : Bool, e = .returned (.bool r) ∧ (r = true → SortedIn ltInt a b d) ∧ ∃ n, w' = Sort.ahead w n := by
  subst hn
  have hLb : (b : Int) - a < 50 := by omega
  go_enter Tryz.func190, Tryz.ntmps190
  go_wp2
  refine wp_loop_rounds 1 ?_
  rw [rounds_succ]
  go_wp2
  go_loopw [7] (fun vi wr => ∃ (i n : Nat), vi = .int .i64 i ∧ a < i ∧ i ≤ b ∧ wr = w.drewN n ∧ (∀ k, a < k → k < i → d[k - 1]! ≤ d[k]!)) (fun vi _ => b + 1 - (intOf vi).toNat)
  case atStart => exact ⟨a + 1, 0, by go_num, by omega, by omega, rfl, fun k h1 h2 => by omega⟩
  case round =>
    obtain ⟨i, n, rfl, hai, hib, hw, hS⟩ := hrel
    obtain ⟨G, hG⟩ : ∃ G : Nat → Int, ∀ t, G t = d[t]! := ⟨fun t => d[t]!, fun _ => rfl⟩
    have hcw : ∀ t, t < d.size → wr.cell? ⟨blk, off + t, none⟩ = some (.int .u64 (G t)) := fun t ht => by rw [hw, hG]; exact (hH t ht).1
    have HW := Lib.hid hw
    have HG := Lib.hid hG
    have HS := Lib.hid hS
    have HH := Lib.hid hH
    clear hw hG hS hH
    by_cases hlt : i < b
    · have hne : ((i : Int) == (b : Int)) = false := by simp; omega
      go_wp2_with fail
      go_quiet ((go_at_call 191; refine Calls.quiet_of_same (less_u _ _ _)))
      go_wp2
      · have hl0 : (!ltInt (G i) (G (i - 1))) = true := by assumption
        have hl : ltInt (G i) (G (i - 1)) = false := by simpa using hl0
        go_roundw
        case rel =>
          refine ⟨i + 1, n + nq, by go_num, by omega, by omega, by rw [HW.out, World.drewN_drewN], fun k h1 h2 => ?_⟩
          by_cases e : k = i
          · subst e
            rw [HG.out, HG.out] at hl
            simp only [ltInt, decide_eq_false_iff_not] at hl
            omega
          · exact HS.out k h1 (by omega)
        case measure => simp [intOf]; omega
      · go_ret
        exact ⟨false, rfl, (fun h => by cases h), n + nq, by rw [HW.out, World.drewN_drewN]; rfl⟩
    · have he : i = b := by omega
      subst he
      go_wp2_with fail
      go_quiet ((go_at_call 191; refine Calls.quiet_of_same (less_u _ _ _)))
      go_wp2
      go_ret
      exact ⟨true, rfl, fun _ => sorted_steps HS.out, n + nq, by rw [HW.out, World.drewN_drewN]; rfl⟩
end Go.Proofs.YtobbfenkdnaanaaGreatDoor
