/- Durations: the reference's text of a duration, by its contract. -/
import Derived.Test.YtaajhionmdjhjaaDoorDurE
set_option linter.unusedVariables false
set_option linter.unusedSimpArgs false
namespace Go.Proofs.YtaajhionmdjhjaaDoor
open Go.RowKit

/-- The first i units told. -/
def told (ms : Int) : Nat → Int × List UInt8
  | 0 => (ms, [])
  | 1 => durStep [121] 31536000000 true (told ms 0)
  | 2 => durStep [119] 604800000 true (told ms 1)
  | 3 => durStep [100] 86400000 false (told ms 2)
  | 4 => durStep [104] 3600000 false (told ms 3)
  | 5 => durStep [109] 60000 false (told ms 4)
  | 6 => durStep [115] 1000 false (told ms 5)
  | 7 => durStep [109, 115] 1 false (told ms 6)
  | _ => (0, [])
theorem told_text (ms : Int) (h : ms ≠ 0) : durText ms = (told ms 7).2 := by rw [durText, if_neg h]; simp only [told]
theorem durStep_lo (u : List UInt8) (m : Int) (ex : Bool) (z : Int × List UInt8) (hm : 0 < m) (h0 : 0 ≤ z.1) (h1 : z.1 ≤ 9223372036854775807) (hu : u.length ≤ 2) :
    0 ≤ (durStep u m ex z).1 ∧ (durStep u m ex z).1 ≤ 9223372036854775807 ∧ (durStep u m ex z).2.length ≤ z.2.length + 23 := by
  have p1 : 0 ≤ z.1 / m * m := Int.mul_nonneg (Int.ediv_nonneg h0 (by omega)) (by omega)
  have p2 : z.1 / m * m ≤ z.1 := Int.ediv_mul_le z.1 (by omega)
  have p3 : z.1 / m ≤ z.1 := Int.ediv_le_self m h0
  have p4 : 0 ≤ z.1 / m := Int.ediv_nonneg h0 (by omega)
  have hl := Lib.itoa_length_le (z.1 / m) (by omega) (by omega)
  rw [durStep]
  split
  · exact ⟨h0, h1, by omega⟩
  · simp; omega
theorem durStep_skip {u : List UInt8} {m : Int} {ex : Bool} {x : Int} {t : List UInt8} (h : (ex = true ∧ x % m ≠ 0) ∨ x < m) (h0 : 0 ≤ x) : durStep u m ex (x, t) = (x, t) := by
  rw [durStep, if_pos]
  rcases h with h | h
  · exact .inl h
  · exact .inr (by show x / m ≤ 0; rw [Int.ediv_eq_zero_of_lt h0 h]; exact Int.le_refl _)
theorem durStep_put {u : List UInt8} {m : Int} {ex : Bool} {x : Int} {t : List UInt8} (h1 : ¬ (ex = true ∧ x % m ≠ 0)) (h : m ≤ x) (hm : 0 < m) : durStep u m ex (x, t) = (x % m, t ++ (Lib.itoa (x / m) ++ u)) := by
  have : 1 ≤ x / m := Int.le_ediv_of_mul_le hm (by omega)
  rw [durStep, if_neg]
  · have := Int.emod_add_mul_ediv x m
    show (x - x / m * m, _) = _
    rw [show x - x / m * m = x % m by rw [Int.mul_comm (x / m) m]; omega]
  · rintro (h | h)
    · exact h1 h
    · have h' : x / m ≤ 0 := h
      omega
end Go.Proofs.YtaajhionmdjhjaaDoor
