/- Durations, plain: what is told is read back. -/
import Derived.Test.YtaajhionmdjhjaaDoorDurA
import Derived.Lib.ItoaMem
set_option linter.unusedVariables false
set_option linter.unusedSimpArgs false
namespace Go.Proofs.YtaajhionmdjhjaaDoor.Dur
open Go.Proofs

theorem dig_ofNat {d : Nat} (h : d < 10) : isDig (UInt8.ofNat (48 + d)) = true ∧ (UInt8.ofNat (48 + d)).toNat = 48 + d := by
  have e : (UInt8.ofNat (48 + d)).toNat = 48 + d := by simp; omega
  refine ⟨?_, e⟩
  simp only [isDig, Bool.and_eq_true, decide_eq_true_eq, UInt8.le_iff_toNat_le]
  rw [e]; simp; omega
theorem digits_all (u : Nat) : ∀ c ∈ Lib.decDigits u, isDig c = true := by
  induction u using Nat.strongRecOn with
  | _ u ih =>
    intro c hc
    rw [Lib.decDigits] at hc
    split at hc
    · rename_i h; simp only [List.mem_singleton] at hc; subst hc; exact (dig_ofNat h).1
    · rename_i h
      rw [List.mem_append] at hc
      rcases hc with hc | hc
      · exact ih (u / 10) (by omega) c hc
      · simp only [List.mem_singleton] at hc; subst hc; exact (dig_ofNat (by omega)).1
theorem digits_ne (u : Nat) : Lib.decDigits u ≠ [] := by
  rw [Lib.decDigits]
  split <;> simp
theorem digits_parse (u : Nat) (h : u ≤ 18446744073709551615) (r : List UInt8) : Lib.parseUintM 18446744073709551615 0 (Lib.decDigits u ++ r) = Lib.parseUintM 18446744073709551615 u r := by
  induction u using Nat.strongRecOn generalizing r with
  | _ u ih =>
    rw [Lib.decDigits]
    split
    · rename_i hu
      obtain ⟨_, e⟩ := dig_ofNat hu
      simp only [List.cons_append, List.nil_append, Lib.parseUintM]
      rw [e, if_pos (by omega), if_neg (by omega), if_neg (by omega)]
      congr 1; omega
    · rename_i hu
      obtain ⟨_, e⟩ := dig_ofNat (d := u % 10) (by omega)
      rw [List.append_assoc, ih (u / 10) (by omega) (by omega)]
      simp only [List.cons_append, List.nil_append, Lib.parseUintM]
      rw [e, if_pos (by omega), if_neg (by omega), if_neg (by omega)]
      congr 1; omega
theorem parse_digits (u : Nat) (h : u ≤ 18446744073709551615) : Lib.parseUintB 64 (Lib.decDigits u) = .ok u := by
  have := digits_parse u h []
  rw [List.append_nil] at this
  rw [Lib.parseUintB, if_neg (digits_ne u)]
  exact this

/-- A text that is empty, or begins with a digit. -/
def Opens (l : List UInt8) : Prop := ∀ c r, l = c :: r → isDig c = true
theorem opens_nil : Opens [] := fun _ _ h => by cases h
theorem opens_digits (u : Nat) (r : List UInt8) : Opens (Lib.decDigits u ++ r) := by
  intro c r' h
  cases hd : Lib.decDigits u with
  | nil => exact absurd hd (digits_ne u)
  | cons a l =>
    rw [hd] at h
    simp only [List.cons_append, List.cons.injEq] at h
    rw [← h.1]
    exact digits_all u a (by rw [hd]; simp)
theorem takeDrop_all {p : UInt8 → Bool} : ∀ (l r : List UInt8), (∀ c ∈ l, p c = true) → (∀ c r', r = c :: r' → p c = false) → (l ++ r).takeWhile p = l ∧ (l ++ r).dropWhile p = r
  | [], r, _, h => by cases r with
    | nil => simp
    | cons c r' => have := h c r' rfl; simp [this]
  | a :: l, r, ha, h => by
    have h1 := ha a (by simp)
    have h2 := takeDrop_all l r (fun c hc => ha c (by simp [hc])) h
    simp [h1, h2.1, h2.2]

/-- One number with its unit is read off the head of a text. -/
theorem rounds_seg {k dur last v pos mult : Nat} {u rest : List UInt8} (hu : unit u = some (pos, mult)) (hnd : ∀ c ∈ u, isDig c = false) (hne : u ≠ []) (hp : last < pos) (hm : 0 < mult)
    (hs : dur + v * mult ≤ 9223372036854775807) (ho : Opens rest) (hv : v ≤ 18446744073709551615) :
    rounds (k + 1) dur last (Lib.decDigits v ++ (u ++ rest)) = rounds k (dur + v * mult) pos rest := by
  have h1 := takeDrop_all (p := isDig) (Lib.decDigits v) (u ++ rest) (digits_all v) (by
    intro c r' h
    cases u with
    | nil => exact absurd rfl hne
    | cons a l => simp only [List.cons_append, List.cons.injEq] at h; rw [← h.1]; exact hnd a (by simp))
  have h2 := takeDrop_all (p := fun c => !isDig c) u rest (fun c hc => by simp [hnd c hc]) (fun c r' h => by simp [ho c r' h])
  have hlt : v * mult ≤ 9223372036854775808 := by omega
  rw [rounds, if_neg (by simp [digits_ne]), h1.1, h1.2, if_neg (digits_ne v), parse_digits v hv]
  simp only [h2.1, h2.2, hu]
  rw [if_neg (by omega), if_neg (by rw [Nat.not_lt, Nat.le_div_iff_mul_le hm]; exact hlt), if_neg (by omega)]
end Go.Proofs.YtaajhionmdjhjaaDoor.Dur
