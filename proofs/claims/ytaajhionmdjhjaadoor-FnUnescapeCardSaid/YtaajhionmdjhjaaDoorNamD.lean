/- A letter that stands in a name by the older rules: the package's and the reference's, by contract. -/
import Derived.Test.YtaajhionmdjhjaaDoorNamA
set_option linter.unusedVariables false
set_option linter.unusedSimpArgs false
namespace Go.Proofs.YtaajhionmdjhjaaDoor
open Go.RowKit

instance (c : Int) (pos : Nat) (m : Bool) : Decidable (LegOk c pos m) := by unfold LegOk; infer_instance

set_option maxHeartbeats 1600000 in
set_option maxRecDepth 100000 in
theorem legRune_calls (c : Int) (pos : Nat) (h0 : -2147483648 ≤ c) (h1 : c ≤ 2147483647) (hp : pos ≤ 2147483647) (w : World) :
    Calls Tryd.prog 75 #[.int .i32 c, .int .i64 (pos : Int)] w fun e w' => e = .returned (.bool (decide (LegOk c pos true))) ∧ w' = w := by
  rcases (show c < 48 ∨ (48 ≤ c ∧ c ≤ 57) ∨ c = 58 ∨ (59 ≤ c ∧ c ≤ 64) ∨ (65 ≤ c ∧ c ≤ 90) ∨ (91 ≤ c ∧ c ≤ 94) ∨ c = 95 ∨ c = 96 ∨ (97 ≤ c ∧ c ≤ 122) ∨ 122 < c by omega) with h | ⟨h, h'⟩ | h | ⟨h, h'⟩ | ⟨h, h'⟩ | ⟨h, h'⟩ | h | h | ⟨h, h'⟩ | h
  · have c1 : (c == 95) = false := by simp; omega
    have c2 : (c == 58) = false := by simp; omega
    have d0 : decide (97 ≤ c) = false := by simp; omega
    have d1 : c ≤ 122 := by omega
    have d2 : decide (65 ≤ c) = false := by simp; omega
    have d3 : c ≤ 90 := by omega
    have d4 : decide (48 ≤ c) = false := by simp; omega
    have d5 : c ≤ 57 := by omega
    have HL := Aside0.mk (show ¬ LegOk c pos true by unfold LegOk; omega)
    go_enter Tryd.func75, Tryd.ntmps75
    go_wp2
    go_ret
    exact ⟨by rw [decide_eq_false HL.out]; rfl, rfl⟩
  · have c1 : (c == 95) = false := by simp; omega
    have c2 : (c == 58) = false := by simp; omega
    have d0 : decide (97 ≤ c) = false := by simp; omega
    have d1 : c ≤ 122 := by omega
    have d2 : decide (65 ≤ c) = false := by simp; omega
    have d3 : c ≤ 90 := by omega
    have d4 : 48 ≤ c := by omega
    have d5 : c ≤ 57 := by omega
    by_cases hi0 : pos = 0
    · have c4 : (pos : Int) ≤ 0 := by omega
      have c5 : ¬ 0 < pos := by omega
      have HL := Aside0.mk (show ¬ LegOk c pos true by unfold LegOk; omega)
      clear hi0
      go_enter Tryd.func75, Tryd.ntmps75
      go_wp2
      go_ret
      exact ⟨by rw [decide_eq_false HL.out]; rfl, rfl⟩
    · have c4 : (0 : Int) < (pos : Int) := by omega
      have c5 : 0 < pos := by omega
      have HL := Aside0.mk (show LegOk c pos true by unfold LegOk; omega)
      clear hi0
      go_enter Tryd.func75, Tryd.ntmps75
      go_wp2
      go_ret
      exact ⟨by rw [decide_eq_true HL.out]; rfl, rfl⟩
  · subst h
    have HL := Aside0.mk (show LegOk 58 pos true from .inr (.inr (.inr (.inl ⟨rfl, rfl⟩))))
    go_enter Tryd.func75, Tryd.ntmps75
    go_wp2
    go_ret
    exact ⟨by rw [decide_eq_true HL.out]; rfl, rfl⟩
  · have c1 : (c == 95) = false := by simp; omega
    have c2 : (c == 58) = false := by simp; omega
    have d0 : decide (97 ≤ c) = false := by simp; omega
    have d1 : c ≤ 122 := by omega
    have d2 : decide (65 ≤ c) = false := by simp; omega
    have d3 : c ≤ 90 := by omega
    have d4 : 48 ≤ c := by omega
    have d5 : decide (c ≤ 57) = false := by simp; omega
    have HL := Aside0.mk (show ¬ LegOk c pos true by unfold LegOk; omega)
    go_enter Tryd.func75, Tryd.ntmps75
    go_wp2
    go_ret
    exact ⟨by rw [decide_eq_false HL.out]; rfl, rfl⟩
  · have c1 : (c == 95) = false := by simp; omega
    have c2 : (c == 58) = false := by simp; omega
    have d0 : decide (97 ≤ c) = false := by simp; omega
    have d1 : c ≤ 122 := by omega
    have d2 : 65 ≤ c := by omega
    have d3 : c ≤ 90 := by omega
    have d4 : 48 ≤ c := by omega
    have d5 : decide (c ≤ 57) = false := by simp; omega
    have HL := Aside0.mk (show LegOk c pos true by unfold LegOk; omega)
    go_enter Tryd.func75, Tryd.ntmps75
    go_wp2
    go_ret
    exact ⟨by rw [decide_eq_true HL.out]; rfl, rfl⟩
  · have c1 : (c == 95) = false := by simp; omega
    have c2 : (c == 58) = false := by simp; omega
    have d0 : decide (97 ≤ c) = false := by simp; omega
    have d1 : c ≤ 122 := by omega
    have d2 : 65 ≤ c := by omega
    have d3 : decide (c ≤ 90) = false := by simp; omega
    have d4 : 48 ≤ c := by omega
    have d5 : decide (c ≤ 57) = false := by simp; omega
    have HL := Aside0.mk (show ¬ LegOk c pos true by unfold LegOk; omega)
    go_enter Tryd.func75, Tryd.ntmps75
    go_wp2
    go_ret
    exact ⟨by rw [decide_eq_false HL.out]; rfl, rfl⟩
  · subst h
    have HL := Aside0.mk (show LegOk 95 pos true by unfold LegOk; omega)
    go_enter Tryd.func75, Tryd.ntmps75
    go_wp2
    go_ret
    exact ⟨by rw [decide_eq_true HL.out]; rfl, rfl⟩
  · subst h
    have HL := Aside0.mk (show ¬ LegOk 96 pos true by unfold LegOk; omega)
    go_enter Tryd.func75, Tryd.ntmps75
    go_wp2
    go_ret
    exact ⟨by rw [decide_eq_false HL.out]; rfl, rfl⟩
  · have c1 : (c == 95) = false := by simp; omega
    have c2 : (c == 58) = false := by simp; omega
    have d0 : 97 ≤ c := by omega
    have d1 : c ≤ 122 := by omega
    have d2 : 65 ≤ c := by omega
    have d3 : decide (c ≤ 90) = false := by simp; omega
    have d4 : 48 ≤ c := by omega
    have d5 : decide (c ≤ 57) = false := by simp; omega
    have HL := Aside0.mk (show LegOk c pos true by unfold LegOk; omega)
    go_enter Tryd.func75, Tryd.ntmps75
    go_wp2
    go_ret
    exact ⟨by rw [decide_eq_true HL.out]; rfl, rfl⟩
  · have c1 : (c == 95) = false := by simp; omega
    have c2 : (c == 58) = false := by simp; omega
    have d0 : 97 ≤ c := by omega
    have d1 : decide (c ≤ 122) = false := by simp; omega
    have d2 : 65 ≤ c := by omega
    have d3 : decide (c ≤ 90) = false := by simp; omega
    have d4 : 48 ≤ c := by omega
    have d5 : decide (c ≤ 57) = false := by simp; omega
    have HL := Aside0.mk (show ¬ LegOk c pos true by unfold LegOk; omega)
    go_enter Tryd.func75, Tryd.ntmps75
    go_wp2
    go_ret
    exact ⟨by rw [decide_eq_false HL.out]; rfl, rfl⟩
set_option maxHeartbeats 1600000 in
set_option maxRecDepth 100000 in
theorem plain_calls (c : Int) (pos : Nat) (h0 : -2147483648 ≤ c) (h1 : c ≤ 2147483647) (hp : pos ≤ 2147483647) (w : World) :
    Calls Tryd.prog 65 #[.int .i32 c, .bool (decide (pos = 0))] w fun e w' => e = .returned (.bool (decide (LegOk c pos true))) ∧ w' = w := by
  rcases (show c < 48 ∨ (48 ≤ c ∧ c ≤ 57) ∨ c = 58 ∨ (59 ≤ c ∧ c ≤ 64) ∨ (65 ≤ c ∧ c ≤ 90) ∨ (91 ≤ c ∧ c ≤ 94) ∨ c = 95 ∨ c = 96 ∨ (97 ≤ c ∧ c ≤ 122) ∨ 122 < c by omega) with h | ⟨h, h'⟩ | h | ⟨h, h'⟩ | ⟨h, h'⟩ | ⟨h, h'⟩ | h | h | ⟨h, h'⟩ | h
  · have c1 : (c == 95) = false := by simp; omega
    have c2 : (c == 58) = false := by simp; omega
    have d0 : decide (97 ≤ c) = false := by simp; omega
    have d1 : c ≤ 122 := by omega
    have d2 : decide (65 ≤ c) = false := by simp; omega
    have d3 : c ≤ 90 := by omega
    have d4 : decide (48 ≤ c) = false := by simp; omega
    have d5 : c ≤ 57 := by omega
    have HL := Aside0.mk (show ¬ LegOk c pos true by unfold LegOk; omega)
    generalize decide (pos = 0) = fst
    go_enter Tryd.func65, Tryd.ntmps65
    go_wp2
    go_ret
    exact ⟨by rw [decide_eq_false HL.out]; rfl, rfl⟩
  · have c1 : (c == 95) = false := by simp; omega
    have c2 : (c == 58) = false := by simp; omega
    have d0 : decide (97 ≤ c) = false := by simp; omega
    have d1 : c ≤ 122 := by omega
    have d2 : decide (65 ≤ c) = false := by simp; omega
    have d3 : c ≤ 90 := by omega
    have d4 : 48 ≤ c := by omega
    have d5 : c ≤ 57 := by omega
    by_cases hi0 : pos = 0
    · have c4 : decide (pos = 0) = true := decide_eq_true hi0
      have HL := Aside0.mk (show ¬ LegOk c pos true by unfold LegOk; omega)
      clear hi0
      rw [c4]
      clear c4
      go_enter Tryd.func65, Tryd.ntmps65
      go_wp2
      go_ret
      exact ⟨by rw [decide_eq_false HL.out]; rfl, rfl⟩
    · have c4 : decide (pos = 0) = false := decide_eq_false hi0
      have HL := Aside0.mk (show LegOk c pos true by unfold LegOk; omega)
      clear hi0
      rw [c4]
      clear c4
      go_enter Tryd.func65, Tryd.ntmps65
      go_wp2
      go_ret
      exact ⟨by rw [decide_eq_true HL.out]; rfl, rfl⟩
  · subst h
    have HL := Aside0.mk (show LegOk 58 pos true from .inr (.inr (.inr (.inl ⟨rfl, rfl⟩))))
    generalize decide (pos = 0) = fst
    go_enter Tryd.func65, Tryd.ntmps65
    go_wp2
    go_ret
    exact ⟨by rw [decide_eq_true HL.out]; rfl, rfl⟩
  · have c1 : (c == 95) = false := by simp; omega
    have c2 : (c == 58) = false := by simp; omega
    have d0 : decide (97 ≤ c) = false := by simp; omega
    have d1 : c ≤ 122 := by omega
    have d2 : decide (65 ≤ c) = false := by simp; omega
    have d3 : c ≤ 90 := by omega
    have d4 : 48 ≤ c := by omega
    have d5 : decide (c ≤ 57) = false := by simp; omega
    have HL := Aside0.mk (show ¬ LegOk c pos true by unfold LegOk; omega)
    generalize decide (pos = 0) = fst
    go_enter Tryd.func65, Tryd.ntmps65
    go_wp2
    go_ret
    exact ⟨by rw [decide_eq_false HL.out]; rfl, rfl⟩
  · have c1 : (c == 95) = false := by simp; omega
    have c2 : (c == 58) = false := by simp; omega
    have d0 : decide (97 ≤ c) = false := by simp; omega
    have d1 : c ≤ 122 := by omega
    have d2 : 65 ≤ c := by omega
    have d3 : c ≤ 90 := by omega
    have d4 : 48 ≤ c := by omega
    have d5 : decide (c ≤ 57) = false := by simp; omega
    have HL := Aside0.mk (show LegOk c pos true by unfold LegOk; omega)
    generalize decide (pos = 0) = fst
    go_enter Tryd.func65, Tryd.ntmps65
    go_wp2
    go_ret
    exact ⟨by rw [decide_eq_true HL.out]; rfl, rfl⟩
  · have c1 : (c == 95) = false := by simp; omega
    have c2 : (c == 58) = false := by simp; omega
    have d0 : decide (97 ≤ c) = false := by simp; omega
    have d1 : c ≤ 122 := by omega
    have d2 : 65 ≤ c := by omega
    have d3 : decide (c ≤ 90) = false := by simp; omega
    have d4 : 48 ≤ c := by omega
    have d5 : decide (c ≤ 57) = false := by simp; omega
    have HL := Aside0.mk (show ¬ LegOk c pos true by unfold LegOk; omega)
    generalize decide (pos = 0) = fst
    go_enter Tryd.func65, Tryd.ntmps65
    go_wp2
    go_ret
    exact ⟨by rw [decide_eq_false HL.out]; rfl, rfl⟩
  · subst h
    have HL := Aside0.mk (show LegOk 95 pos true by unfold LegOk; omega)
    generalize decide (pos = 0) = fst
    go_enter Tryd.func65, Tryd.ntmps65
    go_wp2
    go_ret
    exact ⟨by rw [decide_eq_true HL.out]; rfl, rfl⟩
  · subst h
    have HL := Aside0.mk (show ¬ LegOk 96 pos true by unfold LegOk; omega)
    generalize decide (pos = 0) = fst
    go_enter Tryd.func65, Tryd.ntmps65
    go_wp2
    go_ret
    exact ⟨by rw [decide_eq_false HL.out]; rfl, rfl⟩
  · have c1 : (c == 95) = false := by simp; omega
    have c2 : (c == 58) = false := by simp; omega
    have d0 : 97 ≤ c := by omega
    have d1 : c ≤ 122 := by omega
    have d2 : 65 ≤ c := by omega
    have d3 : decide (c ≤ 90) = false := by simp; omega
    have d4 : 48 ≤ c := by omega
    have d5 : decide (c ≤ 57) = false := by simp; omega
    have HL := Aside0.mk (show LegOk c pos true by unfold LegOk; omega)
    generalize decide (pos = 0) = fst
    go_enter Tryd.func65, Tryd.ntmps65
    go_wp2
    go_ret
    exact ⟨by rw [decide_eq_true HL.out]; rfl, rfl⟩
  · have c1 : (c == 95) = false := by simp; omega
    have c2 : (c == 58) = false := by simp; omega
    have d0 : 97 ≤ c := by omega
    have d1 : decide (c ≤ 122) = false := by simp; omega
    have d2 : 65 ≤ c := by omega
    have d3 : decide (c ≤ 90) = false := by simp; omega
    have d4 : 48 ≤ c := by omega
    have d5 : decide (c ≤ 57) = false := by simp; omega
    have HL := Aside0.mk (show ¬ LegOk c pos true by unfold LegOk; omega)
    generalize decide (pos = 0) = fst
    go_enter Tryd.func65, Tryd.ntmps65
    go_wp2
    go_ret
    exact ⟨by rw [decide_eq_false HL.out]; rfl, rfl⟩
end Go.Proofs.YtaajhionmdjhjaaDoor
