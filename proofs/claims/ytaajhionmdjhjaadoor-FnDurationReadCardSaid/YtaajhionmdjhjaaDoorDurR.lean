/- Durations, plain: a round of reading by the number that its digits spell. -/
import Derived.Test.YtaajhionmdjhjaaDoorDurA
set_option linter.unusedVariables false
set_option linter.unusedSimpArgs false
namespace Go.Proofs.YtaajhionmdjhjaaDoor.Dur
open Go.Proofs

/-- The number that digits spell, from acc on. -/
def dvA (acc : Nat) : List UInt8 → Nat
  | [] => acc
  | c :: r => dvA (acc * 10 + (c.toNat - 48)) r
/-- The number that digits spell. -/
def dv (l : List UInt8) : Nat := dvA 0 l
theorem dvA_append (acc : Nat) (l r : List UInt8) : dvA acc (l ++ r) = dvA (dvA acc l) r := by
  induction l generalizing acc with
  | nil => rfl
  | cons c l ih => exact ih _
theorem dv_snoc (l : List UInt8) (c : UInt8) : dv (l ++ [c]) = dv l * 10 + (c.toNat - 48) := by
  rw [dv, dvA_append]; rfl
theorem dvA_ge (acc : Nat) (l : List UInt8) : acc ≤ dvA acc l := by
  induction l generalizing acc with
  | nil => exact Nat.le_refl acc
  | cons c l ih => exact Nat.le_trans (by omega) (ih (acc * 10 + (c.toNat - 48)))
theorem dv_take_ge (l : List UInt8) (i k : Nat) (h : i ≤ k) : dv (l.take i) ≤ dv (l.take k) := by
  have e : l.take k = l.take i ++ (l.take k).drop i := by
    have := (List.take_append_drop i (l.take k)).symm
    rwa [List.take_take, Nat.min_eq_left h] at this
  rw [e, dv, dv, dvA_append]
  exact dvA_ge _ _
theorem isDig_iff (c : UInt8) : isDig c = true ↔ 48 ≤ c.toNat ∧ c.toNat ≤ 57 := by
  simp [isDig, UInt8.le_iff_toNat_le]
theorem parseM_dv (M : Nat) (hM : M = 18446744073709551615) (l : List UInt8) : ∀ (acc : Nat), acc ≤ M → (∀ c ∈ l, isDig c = true) →
    (Lib.parseUintM M acc l = .ok (dvA acc l) ∧ dvA acc l ≤ M) ∨ ((∀ u, Lib.parseUintM M acc l ≠ .ok u) ∧ M < dvA acc l) := by
  induction l with
  | nil => intro acc h0 _; exact .inl ⟨rfl, h0⟩
  | cons c l ih =>
    intro acc h0 hl
    have hc := (isDig_iff c).1 (hl c (List.mem_cons_self ..))
    have hr : ∀ x ∈ l, isDig x = true := fun x hx => hl x (List.mem_cons_of_mem _ hx)
    have hge := dvA_ge (acc * 10 + (c.toNat - 48)) l
    have e1 : dvA acc (c :: l) = dvA (acc * 10 + (c.toNat - 48)) l := rfl
    obtain ⟨z, e2⟩ : ∃ z, Lib.parseUintM M acc (c :: l) = if 48 ≤ c.toNat ∧ c.toNat ≤ 57 then if 1844674407370955162 ≤ acc then .range else if M < acc * 10 + (c.toNat - 48) then .range else Lib.parseUintM M (acc * 10 + (c.toNat - 48)) l else z := ⟨_, rfl⟩
    rw [e2, if_pos hc, e1]
    by_cases h1 : 1844674407370955162 ≤ acc
    · rw [if_pos h1]; exact .inr ⟨(fun u h => by cases h), by omega⟩
    · rw [if_neg h1]
      by_cases h2 : M < acc * 10 + (c.toNat - 48)
      · rw [if_pos h2]; exact .inr ⟨(fun u h => by cases h), by omega⟩
      · rw [if_neg h2]; exact ih _ (by omega) hr
/-- What a round comes to, by the number that its digits spell. -/
def after (f dur last : Nat) (ds rest : List UInt8) : Option Nat :=
  match unit (rest.takeWhile (fun c => !isDig c)) with
  | none => none
  | some (pos, mult) =>
    if pos ≤ last then none
    else if 9223372036854775808 / mult < dv ds then none
    else if 9223372036854775807 < dur + dv ds * mult then none
    else rounds f (dur + dv ds * mult) pos (rest.dropWhile (fun c => !isDig c))
theorem after_great (f dur last : Nat) (ds rest : List UInt8) (h : 9223372036854775800 ≤ dv ds) : after f dur last ds rest = none := by
  unfold after
  split
  · rfl
  · rename_i pos mult hu
    obtain ⟨_, _, h1, _⟩ := unit_mult hu
    split
    · rfl
    · have : 9223372036854775808 / mult ≤ 9223372036854775808 / 1000000 := Nat.div_le_div_left h1 (by decide)
      rw [if_pos (by omega)]
theorem rounds_dv {f dur last : Nat} {l : List UInt8} (hl : l ≠ []) {k : Nat} (h : l.takeWhile isDig = l.take k ∧ l.dropWhile isDig = l.drop k) :
    rounds (f + 1) dur last l = if l.take k = [] then none else after f dur last (l.take k) (l.drop k) := by
  rw [rounds_next hl h]
  by_cases hk : l.take k = []
  · rw [if_pos hk, if_pos hk]
  · rw [if_neg hk, if_neg hk]
    have hd : ∀ c ∈ l.take k, isDig c = true := by
      rw [← h.1]; intro c hc; exact List.all_eq_true.1 (List.all_takeWhile) c hc
    have hb : Lib.parseUintB 64 (l.take k) = Lib.parseUintM 18446744073709551615 0 (l.take k) := by rw [Lib.parseUintB, if_neg hk]
    rcases parseM_dv _ rfl (l.take k) 0 (Nat.zero_le _) hd with ⟨h1, h2⟩ | ⟨h1, h2⟩
    · rw [hb, h1]; rfl
    · rw [after_great _ _ _ _ _ (by have : dv (l.take k) = dvA 0 (l.take k) := rfl; omega)]
      rw [hb]
      split
      · rename_i v hv; exact absurd hv (h1 v)
      · rfl
theorem split_at {p : UInt8 → Bool} {l : List UInt8} {k : Nat} (hk : k = (l.takeWhile p).length) :
    (l.takeWhile p = l.take k ∧ l.dropWhile p = l.drop k) ∧ k ≤ l.length ∧ (∀ j (hj : j < l.length), j < k → p l[j] = true) ∧ (∀ hk' : k < l.length, p l[k] = false) := by
  subst hk
  induction l with
  | nil => simp
  | cons c l ih =>
    by_cases hc : p c = true
    · obtain ⟨⟨h1, h2⟩, h3, h4, h5⟩ := ih
      simp only [List.takeWhile_cons, List.dropWhile_cons, hc, if_true, List.length_cons]
      refine ⟨⟨by rw [List.take_succ_cons, ← h1], by rw [List.drop_succ_cons, ← h2]⟩, by omega, ?_, ?_⟩
      · intro j hj hjk
        cases j with
        | zero => exact hc
        | succ j => exact h4 j (by simpa using hj) (by omega)
      · intro hk'
        exact h5 (by simpa using hk')
    · simp only [List.takeWhile_cons, List.dropWhile_cons, hc]
      refine ⟨⟨by simp, by simp⟩, by simp, fun j _ h => by simp at h, fun _ => by simpa using hc⟩
/-- The place of a unit among the first n names; -1: it is none of them. -/
def ui (u : List UInt8) : Nat → Int
  | 0 => -1
  | 1 => if [121] = u then 0 else ui u 0
  | 2 => if [119] = u then 1 else ui u 1
  | 3 => if [100] = u then 2 else ui u 2
  | 4 => if [104] = u then 3 else ui u 3
  | 5 => if [109] = u then 4 else ui u 4
  | 6 => if [115] = u then 5 else ui u 5
  | 7 => if [109, 115] = u then 6 else ui u 6
  | _ => -1
theorem ui1 (u : List UInt8) : ui u 1 = if [121] = u then 0 else ui u 0 := by conv => lhs; rw [ui]
theorem ui2 (u : List UInt8) : ui u 2 = if [119] = u then 1 else ui u 1 := by conv => lhs; rw [ui]
theorem ui3 (u : List UInt8) : ui u 3 = if [100] = u then 2 else ui u 2 := by conv => lhs; rw [ui]
theorem ui4 (u : List UInt8) : ui u 4 = if [104] = u then 3 else ui u 3 := by conv => lhs; rw [ui]
theorem ui5 (u : List UInt8) : ui u 5 = if [109] = u then 4 else ui u 4 := by conv => lhs; rw [ui]
theorem ui6 (u : List UInt8) : ui u 6 = if [115] = u then 5 else ui u 5 := by conv => lhs; rw [ui]
theorem ui7 (u : List UInt8) : ui u 7 = if [109, 115] = u then 6 else ui u 6 := by conv => lhs; rw [ui]
theorem ui_unit (u : List UInt8) : (unit u = none ∧ ui u 7 = -1) ∨ (∃ pos mult, unit u = some (pos, mult) ∧ ui u 7 = (pos : Int) - 1) := by
  by_cases h1 : u = [109, 115]
  · subst h1; exact .inr ⟨7, 1000000, by decide, by simp [ui]⟩
  by_cases h2 : u = [115]
  · subst h2; exact .inr ⟨6, 1000000000, by decide, by simp [ui]⟩
  by_cases h3 : u = [109]
  · subst h3; exact .inr ⟨5, 60000000000, by decide, by simp [ui]⟩
  by_cases h4 : u = [104]
  · subst h4; exact .inr ⟨4, 3600000000000, by decide, by simp [ui]⟩
  by_cases h5 : u = [100]
  · subst h5; exact .inr ⟨3, 86400000000000, by decide, by simp [ui]⟩
  by_cases h6 : u = [119]
  · subst h6; exact .inr ⟨2, 604800000000000, by decide, by simp [ui]⟩
  by_cases h7 : u = [121]
  · subst h7; exact .inr ⟨1, 31536000000000000, by decide, by simp [ui]⟩
  · refine .inl ⟨by simp [unit, h1, h2, h3, h4, h5, h6, h7], ?_⟩
    simp [ui, Ne.symm h1, Ne.symm h2, Ne.symm h3, Ne.symm h4, Ne.symm h5, Ne.symm h6, Ne.symm h7]
theorem unit_cases {u : List UInt8} {p m : Nat} (h : unit u = some (p, m)) : (p = 1 ∧ m = 31536000000000000) ∨ (p = 2 ∧ m = 604800000000000) ∨ (p = 3 ∧ m = 86400000000000) ∨ (p = 4 ∧ m = 3600000000000) ∨ (p = 5 ∧ m = 60000000000) ∨ (p = 6 ∧ m = 1000000000) ∨ (p = 7 ∧ m = 1000000) := by
  unfold unit at h
  repeat' split at h
  all_goals first | (simp only [Option.some.injEq, Prod.mk.injEq] at h; omega) | simp at h
end Go.Proofs.YtaajhionmdjhjaaDoor.Dur
