/- Names by the older rules: the package's two, by contract. -/
import Derived.Test.YtaajhionmdjhjaaDoorNamA
set_option linter.unusedVariables false
set_option linter.unusedSimpArgs false
namespace Go.Proofs.YtaajhionmdjhjaaDoor
open Go.RowKit

set_option maxHeartbeats 1600000 in
set_option maxRecDepth 100000 in
theorem labelLegacy_calls (s : ByteArray) (hs : s.size ≤ 2147483647) (w : World) :
    Calls Tryd.prog 59 #[.string s] w fun e w' => e = .returned (.bool (legB s false)) ∧ Below w.heap.size w w' := by
  by_cases he : s.size = 0
  · have HE := Aside0.mk he
    have c0 : ((s.size : Int) == 0) = true := by simp [he]
    clear he
    go_enter Tryd.func59, Tryd.ntmps59
    go_wp2
    go_ret
    exact ⟨by rw [legB_empty HE.out]; rfl, Below.refl _ _⟩
  · have HE := Aside0.mk he
    have c0 : ((s.size : Int) == 0) = false := beq_eq_false_iff_ne.2 (by omega)
    clear he
    obtain ⟨wo, hwo⟩ : ∃ wo : World, wo = w := ⟨_, rfl⟩
    subst hwo
    go_enter Tryd.func59, Tryd.ntmps59
    go_wp2_with fail
    go_loopg [3] (s.size + 1) (fun kq v3 w' => ∃ i : Nat, i + kq = s.size + 1 ∧ i ≤ s.size ∧ Aside0 (∀ j : Nat, j < i → LegOk (bt s (j : Int)) j false) ∧ w' = wo.iter s i)
    case atStart => exact ⟨0, by omega, by omega, ⟨fun j hj => by omega⟩, rfl⟩
    case round =>
      obtain ⟨i, hik, hile, HA, rfl⟩ := hrel
      obtain ⟨g1, rfl⟩ : ∃ m, gk = m + 1 := ⟨gk - 1, by omega⟩
      have hri := bt_range s (i : Int)
      by_cases hlt : i < s.size
      · have hxi : ((s[i]'hlt).toNat : Int) = bt s (i : Int) := bt_high s i hlt
        by_cases hasc : bt s (i : Int) < 128
        · have hnx : ∀ ty, (Instr.next (.pointer (some ⟨wo.heap.size, 0, none⟩)) true ty).run Tryd.prog (wo.iter s i) = .ok (.tuple #[.bool true, .int .i64 (i : Int), .int .i32 (bt s (i : Int))]) (wo.iter s (i + 1)) := fun ty => by
            rw [run_next_ascii (P := Tryd.prog) wo s i ty hlt (by omega), hxi]
          clear hxi
          rcases (show bt s (i : Int) < 48 ∨ (48 ≤ bt s (i : Int) ∧ bt s (i : Int) ≤ 57) ∨ bt s (i : Int) = 58 ∨ (59 ≤ bt s (i : Int) ∧ bt s (i : Int) ≤ 64) ∨ (65 ≤ bt s (i : Int) ∧ bt s (i : Int) ≤ 90) ∨ (91 ≤ bt s (i : Int) ∧ bt s (i : Int) ≤ 94) ∨ bt s (i : Int) = 95 ∨ bt s (i : Int) = 96 ∨ (97 ≤ bt s (i : Int) ∧ bt s (i : Int) ≤ 122) ∨ 122 < bt s (i : Int) by omega) with h | ⟨h, h'⟩ | h | ⟨h, h'⟩ | ⟨h, h'⟩ | ⟨h, h'⟩ | h | h | ⟨h, h'⟩ | h
          · have c1 : (bt s (i : Int) == 95) = false := by simp; try omega
            have c2 : (bt s (i : Int) == 58) = false := by simp; try omega
            have d0 : decide (97 ≤ bt s (i : Int)) = false := by simp; omega
            have d1 : bt s (i : Int) ≤ 122 := by omega
            have d2 : decide (65 ≤ bt s (i : Int)) = false := by simp; omega
            have d3 : bt s (i : Int) ≤ 90 := by omega
            have d4 : decide (48 ≤ bt s (i : Int)) = false := by simp; omega
            have d5 : bt s (i : Int) ≤ 57 := by omega
            go_wp2
            go_ret
            exact ⟨by rw [legB_bad i hlt (by unfold LegOk; omega)]; rfl, below_alloc (Below.refl _ _) _⟩
          · have c1 : (bt s (i : Int) == 95) = false := by simp; try omega
            have c2 : (bt s (i : Int) == 58) = false := by simp; try omega
            have d0 : decide (97 ≤ bt s (i : Int)) = false := by simp; omega
            have d1 : bt s (i : Int) ≤ 122 := by omega
            have d2 : decide (65 ≤ bt s (i : Int)) = false := by simp; omega
            have d3 : bt s (i : Int) ≤ 90 := by omega
            have d4 : 48 ≤ bt s (i : Int) := by omega
            have d5 : bt s (i : Int) ≤ 57 := by omega
            by_cases hi0 : i = 0
            · have c4 : (i : Int) ≤ 0 := by omega
              have c5 : ¬ 0 < i := by omega
              have HI0 := Aside0.mk hi0; clear hi0
              go_wp2
              go_ret
              exact ⟨by rw [legB_bad i hlt (by have := HI0.out; unfold LegOk; omega)]; rfl, below_alloc (Below.refl _ _) _⟩
            · have c4 : (0 : Int) < (i : Int) := by omega
              have c5 : 0 < i := by omega
              go_wp2
              go_roundg g1
              case measure => omega
              case rel => exact ⟨i + 1, by omega, by omega, ⟨leg_step HA.out (by unfold LegOk; omega)⟩, rfl⟩
          · have c1 : (bt s (i : Int) == 95) = false := by simp; try omega
            have c2 : (bt s (i : Int) == 58) = true := by simp; try omega
            go_wp2
            go_ret
            exact ⟨by rw [legB_bad i hlt (by unfold LegOk; rintro (h1 | h1 | h1 | ⟨_, h1⟩ | h1) <;> first | omega | cases h1)]; rfl, below_alloc (Below.refl _ _) _⟩
          · have c1 : (bt s (i : Int) == 95) = false := by simp; try omega
            have c2 : (bt s (i : Int) == 58) = false := by simp; try omega
            have d0 : decide (97 ≤ bt s (i : Int)) = false := by simp; omega
            have d1 : bt s (i : Int) ≤ 122 := by omega
            have d2 : decide (65 ≤ bt s (i : Int)) = false := by simp; omega
            have d3 : bt s (i : Int) ≤ 90 := by omega
            have d4 : 48 ≤ bt s (i : Int) := by omega
            have d5 : decide (bt s (i : Int) ≤ 57) = false := by simp; omega
            go_wp2
            go_ret
            exact ⟨by rw [legB_bad i hlt (by unfold LegOk; omega)]; rfl, below_alloc (Below.refl _ _) _⟩
          · have c1 : (bt s (i : Int) == 95) = false := by simp; try omega
            have c2 : (bt s (i : Int) == 58) = false := by simp; try omega
            have d0 : decide (97 ≤ bt s (i : Int)) = false := by simp; omega
            have d1 : bt s (i : Int) ≤ 122 := by omega
            have d2 : 65 ≤ bt s (i : Int) := by omega
            have d3 : bt s (i : Int) ≤ 90 := by omega
            have d4 : 48 ≤ bt s (i : Int) := by omega
            have d5 : decide (bt s (i : Int) ≤ 57) = false := by simp; omega
            go_wp2
            go_roundg g1
            case measure => omega
            case rel => exact ⟨i + 1, by omega, by omega, ⟨leg_step HA.out (by unfold LegOk; omega)⟩, rfl⟩
          · have c1 : (bt s (i : Int) == 95) = false := by simp; try omega
            have c2 : (bt s (i : Int) == 58) = false := by simp; try omega
            have d0 : decide (97 ≤ bt s (i : Int)) = false := by simp; omega
            have d1 : bt s (i : Int) ≤ 122 := by omega
            have d2 : 65 ≤ bt s (i : Int) := by omega
            have d3 : decide (bt s (i : Int) ≤ 90) = false := by simp; omega
            have d4 : 48 ≤ bt s (i : Int) := by omega
            have d5 : decide (bt s (i : Int) ≤ 57) = false := by simp; omega
            go_wp2
            go_ret
            exact ⟨by rw [legB_bad i hlt (by unfold LegOk; omega)]; rfl, below_alloc (Below.refl _ _) _⟩
          · have c1 : (bt s (i : Int) == 95) = true := by simp; try omega
            have c2 : (bt s (i : Int) == 58) = false := by simp; try omega
            go_wp2
            go_roundg g1
            case measure => omega
            case rel => exact ⟨i + 1, by omega, by omega, ⟨leg_step HA.out (by unfold LegOk; omega)⟩, rfl⟩
          · have c1 : (bt s (i : Int) == 95) = false := by simp; try omega
            have c2 : (bt s (i : Int) == 58) = false := by simp; try omega
            go_wp2
            go_ret
            exact ⟨by rw [legB_bad i hlt (by unfold LegOk; omega)]; rfl, below_alloc (Below.refl _ _) _⟩
          · have c1 : (bt s (i : Int) == 95) = false := by simp; try omega
            have c2 : (bt s (i : Int) == 58) = false := by simp; try omega
            have d0 : 97 ≤ bt s (i : Int) := by omega
            have d1 : bt s (i : Int) ≤ 122 := by omega
            have d2 : 65 ≤ bt s (i : Int) := by omega
            have d3 : decide (bt s (i : Int) ≤ 90) = false := by simp; omega
            have d4 : 48 ≤ bt s (i : Int) := by omega
            have d5 : decide (bt s (i : Int) ≤ 57) = false := by simp; omega
            go_wp2
            go_roundg g1
            case measure => omega
            case rel => exact ⟨i + 1, by omega, by omega, ⟨leg_step HA.out (by unfold LegOk; omega)⟩, rfl⟩
          · have c1 : (bt s (i : Int) == 95) = false := by simp; try omega
            have c2 : (bt s (i : Int) == 58) = false := by simp; try omega
            have d0 : 97 ≤ bt s (i : Int) := by omega
            have d1 : decide (bt s (i : Int) ≤ 122) = false := by simp; omega
            have d2 : 65 ≤ bt s (i : Int) := by omega
            have d3 : decide (bt s (i : Int) ≤ 90) = false := by simp; omega
            have d4 : 48 ≤ bt s (i : Int) := by omega
            have d5 : decide (bt s (i : Int) ≤ 57) = false := by simp; omega
            go_wp2
            go_ret
            exact ⟨by rw [legB_bad i hlt (by unfold LegOk; omega)]; rfl, below_alloc (Below.refl _ _) _⟩
        · obtain ⟨c, wd, hc1, hc2, hnx⟩ : ∃ (c : Int) (wd : Nat), 128 ≤ c ∧ c ≤ 2147483647 ∧ ∀ ty, (Instr.next (.pointer (some ⟨wo.heap.size, 0, none⟩)) true ty).run Tryd.prog (wo.iter s i) = .ok (.tuple #[.bool true, .int .i64 (i : Int), .int .i32 c]) (wo.iter s (i + wd)) :=
            ⟨((Utf8.decode s i).1 : Int), (Utf8.decode s i).2, by have := (decode_high s i hlt (by omega)).1; omega, by have := decode_le s i; omega, fun ty => run_next_any (P := Tryd.prog) wo s i ty hlt⟩
          have hbad := Aside0.mk (show ¬ LegOk (bt s (i : Int)) i false by unfold LegOk; omega)
          have c1 : (c == 95) = false := by simp; omega
          have c2 : (c == 58) = false := by simp; omega
          have d1 : decide (c ≤ 122) = false := by simp; omega
          have d2 : decide (c ≤ 90) = false := by simp; omega
          have d3 : decide (c ≤ 57) = false := by simp; omega
          clear hxi hasc hri
          go_wp2
          go_ret
          exact ⟨by rw [legB_bad i hlt hbad.out]; rfl, below_alloc (Below.refl _ _) _⟩
      · clear hri
        have HL := Aside0.mk (show i = s.size by omega)
        have hnx : ∀ ty, (Instr.next (.pointer (some ⟨wo.heap.size, 0, none⟩)) true ty).run Tryd.prog (wo.iter s i) = .ok (.tuple #[.bool false]) (wo.iter s i) := fun ty => run_next_end (P := Tryd.prog) wo s i ty hlt
        go_wp2
        go_ret
        exact ⟨by rw [legB_true ⟨Nat.pos_of_ne_zero HE.out, fun j hj => HA.out j (by rw [HL.out]; exact hj)⟩]; rfl, below_alloc (Below.refl _ _) _⟩
set_option maxHeartbeats 1600000 in
set_option maxRecDepth 100000 in
theorem metricLegacy_calls (s : ByteArray) (hs : s.size ≤ 2147483647) (w : World) :
    Calls Tryd.prog 60 #[.string s] w fun e w' => e = .returned (.bool (legB s true)) ∧ Below w.heap.size w w' := by
  by_cases he : s.size = 0
  · have HE := Aside0.mk he
    have c0 : ((s.size : Int) == 0) = true := by simp [he]
    clear he
    go_enter Tryd.func60, Tryd.ntmps60
    go_wp2
    go_ret
    exact ⟨by rw [legB_empty HE.out]; rfl, Below.refl _ _⟩
  · have HE := Aside0.mk he
    have c0 : ((s.size : Int) == 0) = false := beq_eq_false_iff_ne.2 (by omega)
    clear he
    obtain ⟨wo, hwo⟩ : ∃ wo : World, wo = w := ⟨_, rfl⟩
    subst hwo
    go_enter Tryd.func60, Tryd.ntmps60
    go_wp2_with fail
    go_loopg [3] (s.size + 1) (fun kq v3 w' => ∃ i : Nat, i + kq = s.size + 1 ∧ i ≤ s.size ∧ Aside0 (∀ j : Nat, j < i → LegOk (bt s (j : Int)) j true) ∧ w' = wo.iter s i)
    case atStart => exact ⟨0, by omega, by omega, ⟨fun j hj => by omega⟩, rfl⟩
    case round =>
      obtain ⟨i, hik, hile, HA, rfl⟩ := hrel
      obtain ⟨g1, rfl⟩ : ∃ m, gk = m + 1 := ⟨gk - 1, by omega⟩
      have hri := bt_range s (i : Int)
      by_cases hlt : i < s.size
      · have hxi : ((s[i]'hlt).toNat : Int) = bt s (i : Int) := bt_high s i hlt
        by_cases hasc : bt s (i : Int) < 128
        · have hnx : ∀ ty, (Instr.next (.pointer (some ⟨wo.heap.size, 0, none⟩)) true ty).run Tryd.prog (wo.iter s i) = .ok (.tuple #[.bool true, .int .i64 (i : Int), .int .i32 (bt s (i : Int))]) (wo.iter s (i + 1)) := fun ty => by
            rw [run_next_ascii (P := Tryd.prog) wo s i ty hlt (by omega), hxi]
          clear hxi
          rcases (show bt s (i : Int) < 48 ∨ (48 ≤ bt s (i : Int) ∧ bt s (i : Int) ≤ 57) ∨ bt s (i : Int) = 58 ∨ (59 ≤ bt s (i : Int) ∧ bt s (i : Int) ≤ 64) ∨ (65 ≤ bt s (i : Int) ∧ bt s (i : Int) ≤ 90) ∨ (91 ≤ bt s (i : Int) ∧ bt s (i : Int) ≤ 94) ∨ bt s (i : Int) = 95 ∨ bt s (i : Int) = 96 ∨ (97 ≤ bt s (i : Int) ∧ bt s (i : Int) ≤ 122) ∨ 122 < bt s (i : Int) by omega) with h | ⟨h, h'⟩ | h | ⟨h, h'⟩ | ⟨h, h'⟩ | ⟨h, h'⟩ | h | h | ⟨h, h'⟩ | h
          · have c1 : (bt s (i : Int) == 95) = false := by simp; try omega
            have c2 : (bt s (i : Int) == 58) = false := by simp; try omega
            have d0 : decide (97 ≤ bt s (i : Int)) = false := by simp; omega
            have d1 : bt s (i : Int) ≤ 122 := by omega
            have d2 : decide (65 ≤ bt s (i : Int)) = false := by simp; omega
            have d3 : bt s (i : Int) ≤ 90 := by omega
            have d4 : decide (48 ≤ bt s (i : Int)) = false := by simp; omega
            have d5 : bt s (i : Int) ≤ 57 := by omega
            go_wp2_with (go_at_call 75; go_in)
            go_ret
            exact ⟨by rw [legB_bad i hlt (by unfold LegOk; omega)]; rfl, below_alloc (Below.refl _ _) _⟩
          · have c1 : (bt s (i : Int) == 95) = false := by simp; try omega
            have c2 : (bt s (i : Int) == 58) = false := by simp; try omega
            have d0 : decide (97 ≤ bt s (i : Int)) = false := by simp; omega
            have d1 : bt s (i : Int) ≤ 122 := by omega
            have d2 : decide (65 ≤ bt s (i : Int)) = false := by simp; omega
            have d3 : bt s (i : Int) ≤ 90 := by omega
            have d4 : 48 ≤ bt s (i : Int) := by omega
            have d5 : bt s (i : Int) ≤ 57 := by omega
            by_cases hi0 : i = 0
            · have c4 : (i : Int) ≤ 0 := by omega
              have c5 : ¬ 0 < i := by omega
              have HI0 := Aside0.mk hi0; clear hi0
              go_wp2_with (go_at_call 75; go_in)
              go_ret
              exact ⟨by rw [legB_bad i hlt (by have := HI0.out; unfold LegOk; omega)]; rfl, below_alloc (Below.refl _ _) _⟩
            · have c4 : (0 : Int) < (i : Int) := by omega
              have c5 : 0 < i := by omega
              go_wp2_with (go_at_call 75; go_in)
              go_roundg g1
              case measure => omega
              case rel => exact ⟨i + 1, by omega, by omega, ⟨leg_step HA.out (by unfold LegOk; omega)⟩, rfl⟩
          · have c1 : (bt s (i : Int) == 95) = false := by simp; try omega
            have c2 : (bt s (i : Int) == 58) = true := by simp; try omega
            go_wp2_with (go_at_call 75; go_in)
            go_roundg g1
            case measure => omega
            case rel => exact ⟨i + 1, by omega, by omega, ⟨leg_step HA.out (.inr (.inr (.inr (.inl ⟨h, rfl⟩))))⟩, rfl⟩
          · have c1 : (bt s (i : Int) == 95) = false := by simp; try omega
            have c2 : (bt s (i : Int) == 58) = false := by simp; try omega
            have d0 : decide (97 ≤ bt s (i : Int)) = false := by simp; omega
            have d1 : bt s (i : Int) ≤ 122 := by omega
            have d2 : decide (65 ≤ bt s (i : Int)) = false := by simp; omega
            have d3 : bt s (i : Int) ≤ 90 := by omega
            have d4 : 48 ≤ bt s (i : Int) := by omega
            have d5 : decide (bt s (i : Int) ≤ 57) = false := by simp; omega
            go_wp2_with (go_at_call 75; go_in)
            go_ret
            exact ⟨by rw [legB_bad i hlt (by unfold LegOk; omega)]; rfl, below_alloc (Below.refl _ _) _⟩
          · have c1 : (bt s (i : Int) == 95) = false := by simp; try omega
            have c2 : (bt s (i : Int) == 58) = false := by simp; try omega
            have d0 : decide (97 ≤ bt s (i : Int)) = false := by simp; omega
            have d1 : bt s (i : Int) ≤ 122 := by omega
            have d2 : 65 ≤ bt s (i : Int) := by omega
            have d3 : bt s (i : Int) ≤ 90 := by omega
            have d4 : 48 ≤ bt s (i : Int) := by omega
            have d5 : decide (bt s (i : Int) ≤ 57) = false := by simp; omega
            go_wp2_with (go_at_call 75; go_in)
            go_roundg g1
            case measure => omega
            case rel => exact ⟨i + 1, by omega, by omega, ⟨leg_step HA.out (by unfold LegOk; omega)⟩, rfl⟩
          · have c1 : (bt s (i : Int) == 95) = false := by simp; try omega
            have c2 : (bt s (i : Int) == 58) = false := by simp; try omega
            have d0 : decide (97 ≤ bt s (i : Int)) = false := by simp; omega
            have d1 : bt s (i : Int) ≤ 122 := by omega
            have d2 : 65 ≤ bt s (i : Int) := by omega
            have d3 : decide (bt s (i : Int) ≤ 90) = false := by simp; omega
            have d4 : 48 ≤ bt s (i : Int) := by omega
            have d5 : decide (bt s (i : Int) ≤ 57) = false := by simp; omega
            go_wp2_with (go_at_call 75; go_in)
            go_ret
            exact ⟨by rw [legB_bad i hlt (by unfold LegOk; omega)]; rfl, below_alloc (Below.refl _ _) _⟩
          · have c1 : (bt s (i : Int) == 95) = true := by simp; try omega
            have c2 : (bt s (i : Int) == 58) = false := by simp; try omega
            go_wp2_with (go_at_call 75; go_in)
            go_roundg g1
            case measure => omega
            case rel => exact ⟨i + 1, by omega, by omega, ⟨leg_step HA.out (by unfold LegOk; omega)⟩, rfl⟩
          · have c1 : (bt s (i : Int) == 95) = false := by simp; try omega
            have c2 : (bt s (i : Int) == 58) = false := by simp; try omega
            go_wp2_with (go_at_call 75; go_in)
            go_ret
            exact ⟨by rw [legB_bad i hlt (by unfold LegOk; omega)]; rfl, below_alloc (Below.refl _ _) _⟩
          · have c1 : (bt s (i : Int) == 95) = false := by simp; try omega
            have c2 : (bt s (i : Int) == 58) = false := by simp; try omega
            have d0 : 97 ≤ bt s (i : Int) := by omega
            have d1 : bt s (i : Int) ≤ 122 := by omega
            have d2 : 65 ≤ bt s (i : Int) := by omega
            have d3 : decide (bt s (i : Int) ≤ 90) = false := by simp; omega
            have d4 : 48 ≤ bt s (i : Int) := by omega
            have d5 : decide (bt s (i : Int) ≤ 57) = false := by simp; omega
            go_wp2_with (go_at_call 75; go_in)
            go_roundg g1
            case measure => omega
            case rel => exact ⟨i + 1, by omega, by omega, ⟨leg_step HA.out (by unfold LegOk; omega)⟩, rfl⟩
          · have c1 : (bt s (i : Int) == 95) = false := by simp; try omega
            have c2 : (bt s (i : Int) == 58) = false := by simp; try omega
            have d0 : 97 ≤ bt s (i : Int) := by omega
            have d1 : decide (bt s (i : Int) ≤ 122) = false := by simp; omega
            have d2 : 65 ≤ bt s (i : Int) := by omega
            have d3 : decide (bt s (i : Int) ≤ 90) = false := by simp; omega
            have d4 : 48 ≤ bt s (i : Int) := by omega
            have d5 : decide (bt s (i : Int) ≤ 57) = false := by simp; omega
            go_wp2_with (go_at_call 75; go_in)
            go_ret
            exact ⟨by rw [legB_bad i hlt (by unfold LegOk; omega)]; rfl, below_alloc (Below.refl _ _) _⟩
        · obtain ⟨c, wd, hc1, hc2, hnx⟩ : ∃ (c : Int) (wd : Nat), 128 ≤ c ∧ c ≤ 2147483647 ∧ ∀ ty, (Instr.next (.pointer (some ⟨wo.heap.size, 0, none⟩)) true ty).run Tryd.prog (wo.iter s i) = .ok (.tuple #[.bool true, .int .i64 (i : Int), .int .i32 c]) (wo.iter s (i + wd)) :=
            ⟨((Utf8.decode s i).1 : Int), (Utf8.decode s i).2, by have := (decode_high s i hlt (by omega)).1; omega, by have := decode_le s i; omega, fun ty => run_next_any (P := Tryd.prog) wo s i ty hlt⟩
          have hbad := Aside0.mk (show ¬ LegOk (bt s (i : Int)) i true by unfold LegOk; omega)
          have c1 : (c == 95) = false := by simp; omega
          have c2 : (c == 58) = false := by simp; omega
          have d1 : decide (c ≤ 122) = false := by simp; omega
          have d2 : decide (c ≤ 90) = false := by simp; omega
          have d3 : decide (c ≤ 57) = false := by simp; omega
          clear hxi hasc hri
          go_wp2_with (go_at_call 75; go_in)
          go_ret
          exact ⟨by rw [legB_bad i hlt hbad.out]; rfl, below_alloc (Below.refl _ _) _⟩
      · clear hri
        have HL := Aside0.mk (show i = s.size by omega)
        have hnx : ∀ ty, (Instr.next (.pointer (some ⟨wo.heap.size, 0, none⟩)) true ty).run Tryd.prog (wo.iter s i) = .ok (.tuple #[.bool false]) (wo.iter s i) := fun ty => run_next_end (P := Tryd.prog) wo s i ty hlt
        go_wp2
        go_ret
        exact ⟨by rw [legB_true ⟨Nat.pos_of_ne_zero HE.out, fun j hj => HA.out j (by rw [HL.out]; exact hj)⟩]; rfl, below_alloc (Below.refl _ _) _⟩
end Go.Proofs.YtaajhionmdjhjaaDoor
