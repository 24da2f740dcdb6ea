/- A time's text read back: plain facts. -/
import Derived.Test.YtobbfenkdnaanaaGreatDoorTimI
import Derived.Lib.ParseIntB
set_option linter.unusedVariables false
set_option linter.unusedSimpArgs false
namespace Go.Proofs.YtobbfenkdnaanaaGreatDoor
open Go.Lib

theorem dot_at (l : List UInt8) (i : Nat) : occAt l [46] i = true ↔ l[i]? = some 46 := by
  unfold occAt
  rw [← List.head?_drop]
  cases h : l.drop i with
  | nil => simp
  | cons a t =>
    simp only [List.isPrefixOf, Bool.and_true, beq_iff_eq, List.head?_cons, Option.some.injEq]
    exact eq_comm

theorem dot_none {l : List UInt8} (h : ∀ x ∈ l, x ≠ 46) : index l [46] = -1 := by
  refine index_past (i := l.length) (by simp) (fun j hj => ?_) (by simp)
  rw [Bool.eq_false_iff, ne_eq, dot_at]
  intro he
  exact h 46 (List.mem_of_getElem? he) rfl

theorem dot_here {a b : List UInt8} (h : ∀ x ∈ a, x ≠ 46) : index (a ++ 46 :: b) [46] = (a.length : Int) := by
  refine index_hit (i := a.length) (fun j hj => ?_) (by simp) ?_
  · rw [Bool.eq_false_iff, ne_eq, dot_at, List.getElem?_append_left hj]
    intro he
    exact h 46 (List.mem_of_getElem? he) rfl
  · rw [dot_at, List.getElem?_append_right (Nat.le_refl _), Nat.sub_self]; rfl

def dig (c : UInt8) : Bool := decide (48 ≤ c.toNat) && decide (c.toNat ≤ 57)
def val (acc : Nat) : List UInt8 → Nat
  | [] => acc
  | c :: r => val (acc * 10 + (c.toNat - 48)) r

theorem val_ge : ∀ (l : List UInt8) (acc : Nat), acc ≤ val acc l
  | [], _ => Nat.le_refl _
  | c :: r, acc => Nat.le_trans (by omega) (val_ge r (acc * 10 + (c.toNat - 48)))

theorem val_snoc : ∀ (l : List UInt8) (acc : Nat) (c : UInt8), val acc (l ++ [c]) = val acc l * 10 + (c.toNat - 48)
  | [], _, _ => rfl
  | _ :: r, _, c => val_snoc r _ c

theorem parse_val (M : Nat) (hM : M < 18446744073709551616) : ∀ (l : List UInt8) (acc : Nat), l.all dig = true → val acc l ≤ M → parseUintM M acc l = .ok (val acc l)
  | [], _, _, _ => rfl
  | c :: r, acc, hd, hv => by
    simp only [List.all_cons, Bool.and_eq_true, dig, decide_eq_true_eq] at hd
    have h1 := val_ge r (acc * 10 + (c.toNat - 48))
    have h2 : val acc (c :: r) = val (acc * 10 + (c.toNat - 48)) r := rfl
    rw [h2] at hv ⊢
    rw [parseUintM, if_pos ⟨hd.1.1, hd.1.2⟩, if_neg (by omega), if_neg (by omega)]
    exact parse_val M hM r _ hd.2 hv

theorem digit_of (d : Nat) (h : d < 10) : (UInt8.ofNat (48 + d)).toNat = 48 + d := by
  rw [UInt8.toNat_ofNat', Nat.mod_eq_of_lt (by omega)]

theorem decDigits_val : ∀ (u : Nat), (decDigits u).all dig = true ∧ val 0 (decDigits u) = u := by
  intro u
  induction u using Nat.strongRecOn with
  | _ u ih =>
    by_cases c : u < 10
    · rw [decDigits, dif_pos c]
      refine ⟨?_, ?_⟩
      · simp only [List.all_cons, List.all_nil, dig, digit_of u c]
        simp; omega
      · show 0 * 10 + ((UInt8.ofNat (48 + u)).toNat - 48) = u
        rw [digit_of u c]; omega
    · obtain ⟨h1, h2⟩ := ih (u / 10) (by omega)
      rw [decDigits, dif_neg c]
      refine ⟨?_, ?_⟩
      · rw [List.all_append, h1]
        simp only [List.all_cons, List.all_nil, dig, digit_of _ (show u % 10 < 10 by omega)]
        simp; omega
      · rw [val_snoc, h2, digit_of _ (by omega)]; omega

theorem dig_ne {l : List UInt8} (h : l.all dig = true) (c : UInt8) (hc : dig c = false) : ∀ x ∈ l, x ≠ c := by
  intro x hx e
  subst e
  rw [List.all_eq_true] at h
  rw [h x hx] at hc
  cases hc

/-- The sign and the whole part. -/
def preT (neg : Bool) (N : Nat) : List UInt8 := cond neg [45] [] ++ decDigits (N / 1000)

theorem preT_dot (neg : Bool) (N : Nat) : ∀ x ∈ preT neg N, x ≠ 46 := by
  intro x hx
  unfold preT at hx
  rcases List.mem_append.1 hx with h | h
  · cases neg
    · cases h
    · rw [show x = 45 from by simpa using h]; decide
  · exact dig_ne (decDigits_val _).1 46 (by decide) x h

theorem decDigits_ne (u : Nat) : decDigits u ≠ [] := by
  intro h
  have := decDigits_length u
  rw [h] at this
  have := nDigits_pos u
  simp at *
  omega

theorem preT_parse (neg : Bool) (N : Nat) (hN : N < 10 ^ 15) : parseIntB 64 (preT neg N) = .ok (if neg then -((N / 1000 : Nat) : Int) else ((N / 1000 : Nat) : Int)) := by
  have hv := decDigits_val (N / 1000)
  have hp : parseUintB 64 (decDigits (N / 1000)) = .ok (N / 1000) := by
    unfold parseUintB
    rw [if_neg (decDigits_ne _), parse_val _ (by decide) _ 0 hv.1 (by rw [hv.2]; omega), hv.2]
  cases neg
  · unfold preT
    show parseIntB 64 (decDigits (N / 1000)) = _
    cases hd : decDigits (N / 1000) with
    | nil => exact absurd hd (decDigits_ne _)
    | cons c r =>
      have hc : dig c = true := by rw [hd] at hv; have := hv.1; simp only [List.all_cons, Bool.and_eq_true] at this; exact this.1
      simp only [dig, Bool.and_eq_true, decide_eq_true_eq] at hc
      unfold parseIntB
      simp only []
      rw [if_neg (by omega), ← hd, hp]
      simp only []
      rw [if_neg (by omega), if_neg (by omega), if_neg (by omega)]
      rfl
  · unfold preT
    show parseIntB 64 (45 :: decDigits (N / 1000)) = _
    unfold parseIntB
    simp only []
    rw [if_pos (by decide), hp]
    simp only []
    rw [if_neg (by simp), if_neg (by omega), if_pos (by decide)]
    rfl

/-- What is known of the digits behind the dot. -/
theorem frac_all : ((List.range 1000).all fun r => decide (r = 0) || ((trimR (d3 r)).all dig && decide (1 ≤ (trimR (d3 r)).length) && decide ((trimR (d3 r)).length ≤ 3) && (trimR (d3 r) ++ List.replicate (3 - (trimR (d3 r)).length) 48 == d3 r) && (d3 r).all dig && decide (val 0 (d3 r) = r))) = true := by decide +kernel

theorem frac_at {r : Nat} (h : r < 1000) (h0 : r ≠ 0) : (trimR (d3 r)).all dig = true ∧ 1 ≤ (trimR (d3 r)).length ∧ (trimR (d3 r)).length ≤ 3 ∧ trimR (d3 r) ++ List.replicate (3 - (trimR (d3 r)).length) 48 = d3 r ∧ parseIntB 32 (d3 r) = .ok (r : Int) := by
  have hh := List.all_eq_true.1 frac_all r (List.mem_range.2 h)
  simp only [Bool.or_eq_true, Bool.and_eq_true, decide_eq_true_eq, beq_iff_eq] at hh
  rcases hh with hh | ⟨⟨⟨⟨⟨a, b⟩, c⟩, d⟩, e⟩, f⟩
  · exact absurd hh h0
  · refine ⟨a, b, c, d, ?_⟩
    have hp : parseUintB 32 (d3 r) = .ok r := by
      unfold parseUintB
      rw [if_neg (by unfold d3; simp), parse_val _ (by decide) _ 0 e (by rw [f]; omega), f]
    obtain ⟨x, t, hxt⟩ : ∃ x t, d3 r = x :: t := ⟨_, _, rfl⟩
    have hc : dig x = true := by rw [hxt] at e; simp only [List.all_cons, Bool.and_eq_true] at e; exact e.1
    simp only [dig, Bool.and_eq_true, decide_eq_true_eq] at hc
    rw [hxt] at hp ⊢
    unfold parseIntB
    simp only []
    rw [if_neg (by omega), hp]
    simp only []
    rw [if_neg (by omega), if_neg (by omega), if_neg (by omega)]
end Go.Proofs.YtobbfenkdnaanaaGreatDoor
