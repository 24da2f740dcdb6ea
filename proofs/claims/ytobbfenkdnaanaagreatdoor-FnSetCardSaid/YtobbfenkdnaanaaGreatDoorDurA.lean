/- Durations: plain functions. What ParseDuration answers of a list of bytes. -/
import Derived.Lib.ParseIntBCases
import Derived.IntWalk
set_option linter.unusedVariables false
set_option linter.unusedSimpArgs false
namespace Go.Proofs.YtobbfenkdnaanaaGreatDoor.Dur
open Go.Proofs
/-- A decimal digit. -/
def isDig (c : UInt8) : Bool := 48 ≤ c && c ≤ 57
/-- The unit of a text: its place and its nanoseconds. -/
def unit (u : List UInt8) : Option (Nat × Nat) :=
  if u = [109, 115] then some (7, 1000000)
  else if u = [115] then some (6, 1000000000)
  else if u = [109] then some (5, 60000000000)
  else if u = [104] then some (4, 3600000000000)
  else if u = [100] then some (3, 86400000000000)
  else if u = [119] then some (2, 604800000000000)
  else if u = [121] then some (1, 31536000000000000)
  else none
/-- The rounds of ParseDuration: what is read so far, the last unit's place, what is left. -/
def rounds : Nat → Nat → Nat → List UInt8 → Option Nat
  | 0, _, _, _ => none
  | k + 1, dur, last, l =>
    if l = [] then some dur
    else if l.takeWhile isDig = [] then none
    else match Lib.parseUintB 64 (l.takeWhile isDig) with
      | .ok v =>
        match unit ((l.dropWhile isDig).takeWhile (fun c => !isDig c)) with
        | none => none
        | some (pos, mult) =>
          if pos ≤ last then none
          else if 9223372036854775808 / mult < v then none
          else if 9223372036854775807 < dur + v * mult then none
          else rounds k (dur + v * mult) pos ((l.dropWhile isDig).dropWhile (fun c => !isDig c))
      | _ => none
/-- What ParseDuration answers of a text's bytes. -/
def parse (l : List UInt8) : Option Nat := if l = [48] then some 0 else if l = [] then none else rounds (l.length + 1) 0 0 l

theorem takeWhile_of {p : UInt8 → Bool} {l : List UInt8} {k : Nat} (hk : k ≤ l.length) (h : ∀ j (hj : j < l.length), j < k → p l[j] = true) (he : ∀ hk' : k < l.length, p l[k] = false) :
    l.takeWhile p = l.take k ∧ l.dropWhile p = l.drop k := by
  induction l generalizing k with
  | nil => simp at hk; subst hk; simp
  | cons c l ih =>
    cases k with
    | zero => have := he (by simp); simp at this; simp [this]
    | succ k =>
      have h0 := h 0 (by simp) (by omega)
      simp at h0
      have := ih (k := k) (by simpa using hk) (fun j hj hjk => by have := h (j + 1) (by simpa using hj) (by omega); simpa using this) (fun hk' => by have := he (by simpa using hk'); simpa using this)
      simp [h0, this.1, this.2]
theorem rounds_next {f dur last : Nat} {l : List UInt8} (hl : l ≠ []) {k : Nat} (h : l.takeWhile isDig = l.take k ∧ l.dropWhile isDig = l.drop k) :
    rounds (f + 1) dur last l = if l.take k = [] then none else match Lib.parseUintB 64 (l.take k) with
      | .ok v =>
        match unit ((l.drop k).takeWhile (fun c => !isDig c)) with
        | none => none
        | some (pos, mult) =>
          if pos ≤ last then none
          else if 9223372036854775808 / mult < v then none
          else if 9223372036854775807 < dur + v * mult then none
          else rounds f (dur + v * mult) pos ((l.drop k).dropWhile (fun c => !isDig c))
      | _ => none := by
  rw [rounds, if_neg hl, h.1, h.2]
theorem unit_nil : unit [] = none := by simp [unit]
theorem unit_mult {u : List UInt8} {p m : Nat} (h : unit u = some (p, m)) : 1 ≤ p ∧ p ≤ 7 ∧ 1000000 ≤ m ∧ m ≤ 31536000000000000 := by
  unfold unit at h
  repeat' split at h
  all_goals first | (simp only [Option.some.injEq, Prod.mk.injEq] at h; omega) | simp at h
theorem no_wrap {dur v m : Nat} (hd : dur ≤ 9223372036854775807) (hm : 1 ≤ m) (hv : v ≤ 9223372036854775808 / m) : v * m ≤ 9223372036854775808 :=
  Nat.le_trans (Nat.mul_le_mul_right m hv) (Nat.div_mul_le_self _ _)
theorem wrap_sum {dur v m : Nat} (hd : dur ≤ 9223372036854775807) (h : v * m ≤ 9223372036854775808) :
    Go.IntKind.u64.wrap ((dur : Int) + Go.IntKind.u64.wrap ((v : Int) * (m : Int))) = ((dur + v * m : Nat) : Int) := by
  have e : ((v : Int) * (m : Int)) = ((v * m : Nat) : Int) := by push_cast; rfl
  rw [e]
  generalize v * m = x at *
  rw [Go.IntWalk.u64_in (x : Int) ⟨by omega, by omega⟩, Go.IntWalk.u64_in _ ⟨by omega, by omega⟩]
  omega
theorem div_lt {m v : Nat} (h : 9223372036854775808 / m < v) : (9223372036854775808 : Int) / (m : Int) < (v : Int) := by
  show ((9223372036854775808 : Nat) : Int) / (m : Int) < (v : Int)
  rw [← Int.natCast_ediv]; exact Int.ofNat_lt.2 h
theorem le_div {m v : Nat} (h : v ≤ 9223372036854775808 / m) : (v : Int) ≤ (9223372036854775808 : Int) / (m : Int) := by
  show (v : Int) ≤ ((9223372036854775808 : Nat) : Int) / (m : Int)
  rw [← Int.natCast_ediv]; exact Int.ofNat_le.2 h
end Go.Proofs.YtobbfenkdnaanaaGreatDoor.Dur
