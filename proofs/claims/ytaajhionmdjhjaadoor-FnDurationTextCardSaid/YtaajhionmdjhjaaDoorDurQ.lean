/- Durations, plain: the text of a duration reads back as its milliseconds. -/
import Derived.Test.YtaajhionmdjhjaaDoorDurP
import Derived.Test.YtaajhionmdjhjaaDoorSpecA
set_option linter.unusedVariables false
set_option linter.unusedSimpArgs false
namespace Go.Proofs.YtaajhionmdjhjaaDoor.Dur
open Go.Proofs Go.Proofs.YtaajhionmdjhjaaDoor

/-- What units from here on tell of what is left. -/
def rem : List (List UInt8 × Nat × Bool) → Nat → List UInt8
  | [], _ => []
  | (u, m, ex) :: r, x => if (ex = true ∧ x % m ≠ 0) ∨ x / m = 0 then rem r x else Lib.decDigits (x / m) ++ (u ++ rem r (x % m))
theorem durStep_nat (u : List UInt8) (m : Nat) (ex : Bool) (x : Nat) (t : List UInt8) :
    durStep u (m : Int) ex ((x : Int), t) = if (ex = true ∧ x % m ≠ 0) ∨ x / m = 0 then ((x : Int), t) else (((x % m : Nat) : Int), t ++ (Lib.decDigits (x / m) ++ u)) := by
  have e1 : (x : Int) % (m : Int) = ((x % m : Nat) : Int) := (Int.natCast_emod x m).symm
  have e2 : (x : Int) / (m : Int) = ((x / m : Nat) : Int) := (Int.natCast_ediv x m).symm
  have e3 : (x : Int) - ((x / m : Nat) : Int) * (m : Int) = ((x % m : Nat) : Int) := by
    have := Nat.mod_add_div x m
    rw [← Int.natCast_mul]
    have h2 : x / m * m ≤ x := Nat.div_mul_le_self x m
    rw [Nat.mul_comm] at this
    omega
  rw [durStep]
  simp only [e1, e2]
  generalize x % m = a at *
  generalize x / m = b at *
  by_cases h : (ex = true ∧ a ≠ 0) ∨ b = 0
  · rw [if_pos h, if_pos]
    rcases h with ⟨h1, h2⟩ | h
    · exact .inl ⟨h1, by omega⟩
    · exact .inr (by omega)
  · rw [if_neg h, if_neg]
    · rw [e3, Lib.itoa_nonneg]
    · rintro (⟨h1, h2⟩ | h3)
      · exact h (.inl ⟨h1, by omega⟩)
      · exact h (.inr (by omega))
theorem rem_step (u : List UInt8) (m : Nat) (ex : Bool) (r : List (List UInt8 × Nat × Bool)) (x : Nat) (t : List UInt8) :
    ∃ x' t', durStep u (m : Int) ex ((x : Int), t) = (((x' : Nat) : Int), t') ∧ t ++ rem ((u, m, ex) :: r) x = t' ++ rem r x' := by
  rw [durStep_nat, rem]
  split
  · exact ⟨x, t, rfl, rfl⟩
  · exact ⟨x % m, _, rfl, by simp⟩
/-- The units of a duration's text. -/
def us : List (List UInt8 × Nat × Bool) := [([121], 31536000000, true), ([119], 604800000, true), ([100], 86400000, false), ([104], 3600000, false), ([109], 60000, false), ([115], 1000, false), ([109, 115], 1, false)]
theorem durText_rem (x : Nat) (hx : x ≠ 0) : durText (x : Int) = rem us x := by
  rw [told_text _ (by omega)]
  simp only [told]
  obtain ⟨x1, t1, e1, h1⟩ := rem_step [121] 31536000000 true (us.drop 1) x []
  obtain ⟨x2, t2, e2, h2⟩ := rem_step [119] 604800000 true (us.drop 2) x1 t1
  obtain ⟨x3, t3, e3, h3⟩ := rem_step [100] 86400000 false (us.drop 3) x2 t2
  obtain ⟨x4, t4, e4, h4⟩ := rem_step [104] 3600000 false (us.drop 4) x3 t3
  obtain ⟨x5, t5, e5, h5⟩ := rem_step [109] 60000 false (us.drop 5) x4 t4
  obtain ⟨x6, t6, e6, h6⟩ := rem_step [115] 1000 false (us.drop 6) x5 t5
  obtain ⟨x7, t7, e7, h7⟩ := rem_step [109, 115] 1 false (us.drop 7) x6 t6
  have c : rem us x = t7 := by
    have : [] ++ rem us x = t7 ++ rem [] x7 := by
      refine Eq.trans h1 (Eq.trans h2 (Eq.trans h3 (Eq.trans h4 (Eq.trans h5 (Eq.trans h6 h7)))))
    simpa [rem] using this
  rw [c]
  have f1 : durStep [121] 31536000000 true ((x : Int), []) = ((x1 : Int), t1) := e1
  have f2 : durStep [119] 604800000 true ((x1 : Int), t1) = ((x2 : Int), t2) := e2
  have f3 : durStep [100] 86400000 false ((x2 : Int), t2) = ((x3 : Int), t3) := e3
  have f4 : durStep [104] 3600000 false ((x3 : Int), t3) = ((x4 : Int), t4) := e4
  have f5 : durStep [109] 60000 false ((x4 : Int), t4) = ((x5 : Int), t5) := e5
  have f6 : durStep [115] 1000 false ((x5 : Int), t5) = ((x6 : Int), t6) := e6
  have f7 : durStep [109, 115] 1 false ((x6 : Int), t6) = ((x7 : Int), t7) := e7
  rw [f1, f2, f3, f4, f5, f6, f7]

/-- Reading what the units from here on tell gives what is left. -/
def Good (r : List (List UInt8 × Nat × Bool)) (p n : Nat) : Prop :=
  ∀ (k dur last x : Nat), last ≤ p → n ≤ k → dur + x * 1000000 ≤ 9223372036854775807 → rounds k dur last (rem r x) = some (dur + x * 1000000) ∧ Opens (rem r x)
theorem rounds_done (k dur last : Nat) : rounds (k + 1) dur last [] = some dur := by simp [rounds]
theorem good_last : Good [([109, 115], 1, false)] 6 2 := by
  intro k dur last x hl hk hs
  obtain ⟨k, rfl⟩ : ∃ j, k = j + 2 := ⟨k - 2, by omega⟩
  rw [rem]
  by_cases hx : x = 0
  · subst hx
    rw [if_pos (.inr (by simp))]
    simp only [rem]
    exact ⟨by rw [rounds_done]; simp, opens_nil⟩
  · rw [if_neg (by simp; exact hx), Nat.div_one]
    simp only [rem]
    refine ⟨?_, opens_digits x _⟩
    rw [rounds_seg (pos := 7) (mult := 1000000) (by decide) (by decide) (by decide) (by omega) (by omega) hs opens_nil (by omega), rounds_done]
theorem good_step {u : List UInt8} {m pos n : Nat} {ex : Bool} {r : List (List UInt8 × Nat × Bool)} (hu : unit u = some (pos, m * 1000000)) (hnd : ∀ c ∈ u, isDig c = false) (hne : u ≠ []) (hm : 0 < m) (hp : 1 ≤ pos)
    (h : Good r pos n) : Good ((u, m, ex) :: r) (pos - 1) (n + 1) := by
  intro k dur last x hl hk hs
  obtain ⟨k, rfl⟩ : ∃ j, k = j + 1 := ⟨k - 1, by omega⟩
  rw [rem]
  split
  · exact h (k + 1) dur last x (by omega) (by omega) hs
  · have e := Nat.mod_add_div x m
    have hq : x / m * (m * 1000000) + x % m * 1000000 = x * 1000000 := by
      rw [← Nat.mul_assoc, ← Nat.add_mul, Nat.mul_comm (x / m) m, Nat.add_comm, e]
    have hv : x / m ≤ x := Nat.div_le_self x m
    obtain ⟨h1, h2⟩ := h k (dur + x / m * (m * 1000000)) pos (x % m) (Nat.le_refl _) (by omega) (by omega)
    refine ⟨?_, opens_digits _ _⟩
    rw [rounds_seg hu hnd hne (by omega) (by omega) (by omega) h2 (by omega), h1]
    congr 1; omega
theorem good_all : Good us 0 8 :=
  good_step (u := [121]) (m := 31536000000) (pos := 1) (by decide) (by decide) (by decide) (by decide) (by decide)
  (good_step (u := [119]) (m := 604800000) (pos := 2) (by decide) (by decide) (by decide) (by decide) (by decide)
  (good_step (u := [100]) (m := 86400000) (pos := 3) (by decide) (by decide) (by decide) (by decide) (by decide)
  (good_step (u := [104]) (m := 3600000) (pos := 4) (by decide) (by decide) (by decide) (by decide) (by decide)
  (good_step (u := [109]) (m := 60000) (pos := 5) (by decide) (by decide) (by decide) (by decide) (by decide)
  (good_step (u := [115]) (m := 1000) (pos := 6) (by decide) (by decide) (by decide) (by decide) (by decide) good_last)))))
theorem dropWhile_le (p : UInt8 → Bool) (l : List UInt8) : (l.dropWhile p).length ≤ l.length := by
  induction l with
  | nil => simp
  | cons c l ih => rw [List.dropWhile_cons]; split <;> simp <;> omega
theorem dropWhile_lt (p : UInt8 → Bool) (l : List UInt8) (h : l.takeWhile p ≠ []) : (l.dropWhile p).length < l.length := by
  cases l with
  | nil => exact absurd rfl h
  | cons c l =>
    rw [List.takeWhile_cons] at h
    rw [List.dropWhile_cons]
    split at h
    · rename_i hc; rw [if_pos hc]; have := dropWhile_le p l; simp; omega
    · exact absurd rfl h
theorem rounds_fuel (k : Nat) : ∀ (dur last : Nat) (l : List UInt8), l.length < k → ∀ j, rounds (k + j) dur last l = rounds k dur last l := by
  induction k with
  | zero => intro _ _ l h; omega
  | succ k ih =>
    intro dur last l hl j
    rw [show k + 1 + j = (k + j) + 1 by omega, rounds, rounds]
    split
    · rfl
    · split
      · rfl
      · rename_i h2
        split
        · split
          · rfl
          · rename_i h3
            split
            · rfl
            · split
              · rfl
              · split
                · rfl
                · have a1 := dropWhile_lt isDig l h2
                  have a2 := dropWhile_le (fun c => !isDig c) (l.dropWhile isDig)
                  exact ih _ _ _ (by omega) j
        · rfl
theorem parse_text (x : Nat) (h : x * 1000000 ≤ 9223372036854775807) : parse (durText (x : Int)) = some (x * 1000000) := by
  by_cases hx : x = 0
  · subst hx; decide
  · obtain ⟨h1, h2⟩ := good_all ((rem us x).length + 1 + 8) 0 0 x (Nat.le_refl _) (by omega) (by omega)
    rw [rounds_fuel _ _ _ _ (by omega), Nat.zero_add] at h1
    rw [durText_rem x hx, parse, if_neg, if_neg, h1]
    · intro he; rw [he] at h1; simp [rounds] at h1; omega
    · intro he; rw [he] at h1; revert h1; simp only [show rounds (([48] : List UInt8).length + 1) 0 0 [48] = none by decide]; intro h1; cases h1
end Go.Proofs.YtaajhionmdjhjaaDoor.Dur
