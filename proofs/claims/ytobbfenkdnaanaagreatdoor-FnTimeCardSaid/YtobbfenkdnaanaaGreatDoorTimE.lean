/- Decimal digits: plain facts. -/
import Derived.Test.YtobbfenkdnaanaaGreatDoorTimB
set_option linter.unusedVariables false
set_option linter.unusedSimpArgs false
namespace Go.Proofs.YtobbfenkdnaanaaGreatDoor
open Go.Lib

theorem decDigits_ten (u : Nat) (h : 1 ≤ u) : decDigits (u * 10) = decDigits u ++ [48] := by
  rw [decDigits, dif_neg (by omega), show u * 10 / 10 = u by omega, show u * 10 % 10 = 0 by omega]
  rfl

theorem decDigits_mul (u : Nat) (h : 1 ≤ u) : ∀ j, decDigits (u * 10 ^ j) = decDigits u ++ List.replicate j 48
  | 0 => by simp
  | j + 1 => by
    rw [Nat.pow_succ, ← Nat.mul_assoc, decDigits_ten _ (Nat.mul_pos h (Nat.pow_pos (by decide))), decDigits_mul u h j, List.append_assoc, ← List.replicate_succ']

theorem nDigits_mul (u : Nat) (h : 1 ≤ u) (j : Nat) : nDigits (u * 10 ^ j) = nDigits u + j := by
  rw [← decDigits_length, decDigits_mul u h, List.length_append, List.length_replicate, decDigits_length]

theorem head_ne : ∀ (u : Nat), 1 ≤ u → ∃ x, (decDigits u)[0]? = some x ∧ x ≠ 48 := by
  intro u
  induction u using Nat.strongRecOn with
  | _ u ih =>
    intro h
    by_cases c : u < 10
    · rw [decDigits, dif_pos c]
      refine ⟨_, rfl, ?_⟩
      have : u = 1 ∨ u = 2 ∨ u = 3 ∨ u = 4 ∨ u = 5 ∨ u = 6 ∨ u = 7 ∨ u = 8 ∨ u = 9 := by omega
      rcases this with rfl | rfl | rfl | rfl | rfl | rfl | rfl | rfl | rfl <;> decide
    · obtain ⟨x, hx, hne⟩ := ih (u / 10) (by omega) (by omega)
      refine ⟨x, ?_, hne⟩
      rw [decDigits, dif_neg c, List.getElem?_append_left (by rw [decDigits_length]; exact nDigits_pos _)]
      exact hx

theorem trim_pos {u k : Nat} (h : 1 ≤ u) (ht : Trim (decDigits u) k) : 1 ≤ k := by
  rcases Nat.eq_zero_or_pos k with h0 | h0
  · subst h0
    obtain ⟨x, hx, hne⟩ := head_ne u h
    have := ht.2.1 0 (Nat.le_refl _) (by rw [decDigits_length]; exact nDigits_pos _)
    rw [this] at hx
    exact absurd (Option.some.inj hx).symm hne
  · exact h0

theorem nDigits_le (k : Nat) : ∀ u, u < 10 ^ (k + 1) → nDigits u ≤ k + 1 := by
  induction k with
  | zero => intro u h; rw [nDigits, dif_pos (by omega)]; omega
  | succ k ih =>
    intro u h
    by_cases c : u < 10
    · rw [nDigits, dif_pos c]; omega
    · rw [nDigits, dif_neg c]
      have := ih (u / 10) (by rw [Nat.div_lt_iff_lt_mul (by decide), ← Nat.pow_succ]; exact h)
      omega
end Go.Proofs.YtobbfenkdnaanaaGreatDoor
