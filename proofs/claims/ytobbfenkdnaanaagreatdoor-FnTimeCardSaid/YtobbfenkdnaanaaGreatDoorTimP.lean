/- A whole number of thousandths as a float of 64 bits: the quotient by 1000, rounded: plain facts. -/
import Derived.Laws.FloatArith
import Derived.ProofKit
set_option linter.unusedVariables false
set_option linter.unusedSimpArgs false
namespace Go.Proofs.YtobbfenkdnaanaaGreatDoor
open Ieee

theorem log2_bounds {n : Nat} (h : n ≠ 0) : 2 ^ n.log2 ≤ n ∧ n < 2 ^ (n.log2 + 1) := ⟨Nat.log2_self_le h, Nat.lt_log2_self⟩

theorem log2_of {n k : Nat} (h1 : 2 ^ k ≤ n) (h2 : n < 2 ^ (k + 1)) : n.log2 = k := by
  have hn : n ≠ 0 := by have := Nat.two_pow_pos k; omega
  obtain ⟨a, b⟩ := log2_bounds hn
  have c1 : k < n.log2 + 1 := (Nat.pow_lt_pow_iff_right (by decide : 1 < 2)).1 (Nat.lt_of_le_of_lt h1 b)
  have c2 : n.log2 < k + 1 := (Nat.pow_lt_pow_iff_right (by decide : 1 < 2)).1 (Nat.lt_of_le_of_lt a h2)
  omega

/-- The cut of nothing. -/
theorem cut_zero (neg : Bool) (n : Nat) : Toward.even.cut neg n 0 = n := by
  unfold Toward.cut
  simp [Nat.mod_one]

/-- A whole number below 2^50, not nought, as a float's word. -/
theorem word_int (neg : Bool) (N : Nat) (h0 : 1 ≤ N) (h1 : N < 2 ^ 50) :
    double.nearest neg N 0 = (if neg then 2 ^ 63 else 0) + ((1022 + N.log2) * 2 ^ 52 + N * 2 ^ (52 - N.log2)) := by
  have hL : N.log2 < 50 := (Nat.log2_lt (by omega)).2 h1
  obtain ⟨a, b⟩ := log2_bounds (show N ≠ 0 by omega)
  have hlast : max ((0 : Int) + N.log2 - double.fractionBits) double.leastPlace = (N.log2 : Int) - 52 := by
    show max ((0 : Int) + (N.log2 : Int) - (52 : Nat)) (2 - 2 ^ (11 - 1) - (52 : Nat)) = _
    omega
  have hA : N * 2 ^ (52 - N.log2) < 2 ^ 53 := by
    have : N * 2 ^ (52 - N.log2) < 2 ^ (N.log2 + 1) * 2 ^ (52 - N.log2) := Nat.mul_lt_mul_of_pos_right b (Nat.two_pow_pos _)
    rwa [← Nat.pow_add, show N.log2 + 1 + (52 - N.log2) = 53 by omega] at this
  unfold Format.nearest
  rw [if_neg (by omega)]
  simp only [hlast]
  have e1 : ((0 : Int) - ((N.log2 : Int) - 52)).toNat = 52 - N.log2 := by omega
  have e2 : ((N.log2 : Int) - 52 - 0).toNat = 0 := by omega
  have e3 : ((N.log2 : Int) - 52 - double.leastPlace).toNat = 1022 + N.log2 := by
    show ((N.log2 : Int) - 52 - (2 - 2 ^ (11 - 1) - (52 : Nat))).toNat = _
    omega
  rw [e1, e2, e3, cut_zero, Nat.shiftLeft_eq]
  have hinf : double.infRung = 2047 * 2 ^ 52 := by decide
  have hbin : double.binade = 2 ^ 52 := rfl
  have hsw : double.signWeight = 2 ^ 63 := rfl
  rw [hbin, hinf, Nat.min_eq_left (by omega)]
  unfold Format.word
  rw [hsw]
  cases neg <;> simp

theorem read_mid (f : Format) (w : Nat) (h1 : ¬ (w % f.signWeight < f.binade)) (h2 : w % f.signWeight < f.infRung) :
    f.read w = .number (w / f.signWeight % 2 == 1) (f.binade + w % f.signWeight % f.binade) (f.leastPlace + (w % f.signWeight / f.binade - 1 : Nat)) := by
  unfold Format.read
  simp only []
  rw [if_neg h1, if_pos h2]

/-- A word that was written so is read back. -/
theorem read_word (neg : Bool) (E A : Nat) (hE : E ≤ 2000) (h1 : 2 ^ 52 ≤ A) (h2 : A < 2 ^ 53) :
    double.read ((if neg then 2 ^ 63 else 0) + (E * 2 ^ 52 + A)) = .number neg A ((E : Int) - 1074) := by
  have hsw : double.signWeight = 2 ^ 63 := rfl
  have hinf : double.infRung = 2047 * 2 ^ 52 := by decide
  have hbin : double.binade = 2 ^ 52 := rfl
  have hlp : double.leastPlace = -1074 := by decide
  have hr : E * 2 ^ 52 + A < 2 ^ 63 := by omega
  have e1 : ((if neg then 2 ^ 63 else 0) + (E * 2 ^ 52 + A)) % 2 ^ 63 = E * 2 ^ 52 + A := by cases neg <;> simp <;> omega
  have e2 : (((if neg then 2 ^ 63 else 0) + (E * 2 ^ 52 + A)) / 2 ^ 63 % 2 == 1) = neg := by
    cases neg
    · simp; omega
    · simp; omega
  rw [read_mid _ _ (by rw [hsw, hbin, e1]; omega) (by rw [hsw, hinf, e1]; omega), hsw, hbin, hlp, e1, e2]
  have e3 : (E * 2 ^ 52 + A) / 2 ^ 52 = E + 1 := by omega
  have e4 : (E * 2 ^ 52 + A) % 2 ^ 52 = A - 2 ^ 52 := by omega
  have e5 : 2 ^ 52 + (A - 2 ^ 52) = A := by omega
  have e6 : (-1074 : Int) + ((E + 1 - 1 : Nat) : Int) = (E : Int) - 1074 := by omega
  rw [e3, e4, e5, e6]

theorem read_thousand : double.read 4652007308841189376 = .number false (1000 * 2 ^ 43) (-43) := by decide +kernel

/-- What the float nearest to N thousandths is: M at the place -T. -/
structure Thou (N T M : Nat) : Prop where
  t1 : 13 ≤ T
  t2 : T ≤ 62
  m1 : 2 ^ 52 ≤ M
  m2 : M < 2 ^ 53
  lo : 1000 * M < N * 2 ^ T + 500
  hi : N * 2 ^ T < 1000 * M + 500

/-- The cut by two or three binary digits, of the quotient by 1000: no tie, no carry. -/
theorem cut_thou (neg : Bool) (X Y Z D mag : Nat) (hZ : Y = 8192 * Z) (hD : (D = 2 ∧ X = 2 * Y) ∨ (D = 3 ∧ X = 4 * Y))
    (hm : mag = 2 * (X / 1000) + (X % 1000 != 0).toNat) (h1 : 2 ^ (D + 52) ≤ mag) (h2 : mag < 2 ^ (D + 53)) :
    2 ^ 52 ≤ Toward.even.cut neg mag D ∧ Toward.even.cut neg mag D < 2 ^ 53 ∧ 1000 * Toward.even.cut neg mag D < Y + 500 ∧ Y < 1000 * Toward.even.cut neg mag D + 500 := by
  have hl : min D (mag.log2 + 2) = D := by
    have : D + 52 ≤ mag.log2 := by
      rw [Nat.le_log2 (by have := Nat.two_pow_pos (D + 52); omega)]; exact h1
    omega
  have hs : (X % 1000 != 0).toNat = if X % 1000 = 0 then 0 else 1 := by
    by_cases h : X % 1000 = 0 <;> simp [h]
  rw [hs] at hm
  have hc : Toward.even.cut neg mag D = mag / 2 ^ D + (if 2 ^ D < 2 * (mag % 2 ^ D) ∨ (2 ^ D = 2 * (mag % 2 ^ D) ∧ (mag / 2 ^ D) % 2 = 1) then 1 else 0) := by
    unfold Toward.cut
    simp only [hl, Nat.shiftLeft_eq, Nat.one_mul]
    congr 1
    by_cases c : 2 ^ D < 2 * (mag % 2 ^ D) ∨ (2 ^ D = 2 * (mag % 2 ^ D) ∧ (mag / 2 ^ D) % 2 = 1)
    · rw [if_pos c]
      simp only [Bool.toNat_eq_one, Bool.or_eq_true, Bool.and_eq_true, decide_eq_true_eq, beq_iff_eq]
      exact c
    · rw [if_neg c]
      simp only [Bool.toNat_eq_zero]
      rw [Bool.eq_false_iff]
      simpa only [ne_eq, Bool.or_eq_true, Bool.and_eq_true, decide_eq_true_eq, beq_iff_eq] using c
  rw [hc]
  clear hc
  have hs2 : (X % 1000 = 0 ∧ mag = 2 * (X / 1000)) ∨ (X % 1000 ≠ 0 ∧ mag = 2 * (X / 1000) + 1) := by
    by_cases c : X % 1000 = 0
    · rw [if_pos c] at hm; exact Or.inl ⟨c, hm⟩
    · rw [if_neg c] at hm; exact Or.inr ⟨c, hm⟩
  clear hm hs
  obtain ⟨e, he, hee⟩ : ∃ e, (if 2 ^ D < 2 * (mag % 2 ^ D) ∨ (2 ^ D = 2 * (mag % 2 ^ D) ∧ (mag / 2 ^ D) % 2 = 1) then 1 else 0) = e ∧ (((2 ^ D < 2 * (mag % 2 ^ D) ∨ (2 ^ D = 2 * (mag % 2 ^ D) ∧ (mag / 2 ^ D) % 2 = 1)) ∧ e = 1) ∨ (¬ (2 ^ D < 2 * (mag % 2 ^ D) ∨ (2 ^ D = 2 * (mag % 2 ^ D) ∧ (mag / 2 ^ D) % 2 = 1)) ∧ e = 0)) := by
    by_cases c : 2 ^ D < 2 * (mag % 2 ^ D) ∨ (2 ^ D = 2 * (mag % 2 ^ D) ∧ (mag / 2 ^ D) % 2 = 1)
    · rw [if_pos c]; exact ⟨1, rfl, Or.inl ⟨c, rfl⟩⟩
    · rw [if_neg c]; exact ⟨0, rfl, Or.inr ⟨c, rfl⟩⟩
  rw [he]
  clear he hl
  rcases hD with ⟨rfl, hX⟩ | ⟨rfl, hX⟩ <;> simp only [Nat.reducePow, Nat.reduceAdd] at h1 h2 hee ⊢
  · by_cases hb : mag / 4 = 9007199254740991
    · rw [hb] at hee ⊢; omega
    · omega
  · by_cases hb : mag / 8 = 9007199254740991
    · rw [hb] at hee ⊢
      have : X / 1000 = 36028797018963967 ∨ X / 1000 = 36028797018963966 ∨ X / 1000 = 36028797018963965 ∨ X / 1000 = 36028797018963964 := by omega
      omega
    · omega

theorem thou_of {N : Nat} (h0 : 1 ≤ N) (h1 : N < 10 ^ 15) (neg : Bool) :
    ∃ T M, Thou N T M ∧ (Datum.quotient 54 (.number neg (N * 2 ^ (52 - N.log2)) ((N.log2 : Int) - 52)) (.number false (1000 * 2 ^ 43) (-43))).map double.write = some ((if neg then 2 ^ 63 else 0) + ((1074 - T) * 2 ^ 52 + M)) := by
  obtain ⟨a, b⟩ := log2_bounds (show N ≠ 0 by omega)
  have hL : N.log2 < 50 := (Nat.log2_lt (by omega)).2 (Nat.lt_of_lt_of_le h1 (by decide))
  generalize hLL : N.log2 = L at *
  have hA1 : 2 ^ 52 ≤ N * 2 ^ (52 - L) := by
    have := Nat.mul_le_mul_right (2 ^ (52 - L)) a
    rwa [← Nat.pow_add, show L + (52 - L) = 52 by omega] at this
  have hA2 : N * 2 ^ (52 - L) < 2 ^ 53 := by
    have := Nat.mul_lt_mul_of_pos_right b (Nat.two_pow_pos (52 - L))
    rwa [← Nat.pow_add, show L + 1 + (52 - L) = 53 by omega] at this
  have hX1 : 2 ^ 63 ≤ N * 2 ^ (63 - L) := by
    have := Nat.mul_le_mul_right (2 ^ (63 - L)) a
    rwa [← Nat.pow_add, show L + (63 - L) = 63 by omega] at this
  have hX2 : N * 2 ^ (63 - L) < 2 ^ 64 := by
    have := Nat.mul_lt_mul_of_pos_right b (Nat.two_pow_pos (63 - L))
    rwa [← Nat.pow_add, show L + 1 + (63 - L) = 64 by omega] at this
  have lA : (N * 2 ^ (52 - L)).log2 = 52 := log2_of hA1 hA2
  have lK : (1000 * 2 ^ 43).log2 = 52 := by decide +kernel
  have hdiv : N * 2 ^ (52 - L) * 2 ^ 54 = N * 2 ^ (63 - L) * 2 ^ 43 := by
    rw [Nat.mul_assoc, Nat.mul_assoc, ← Nat.pow_add, ← Nat.pow_add, show 52 - L + 54 = 63 - L + 43 by omega]
  generalize hXX : N * 2 ^ (63 - L) = X at *
  generalize hmag : 2 * (X / 1000) + (X % 1000 != 0).toNat = mag
  have hq : Datum.quotient 54 (.number neg (N * 2 ^ (52 - L)) ((L : Int) - 52)) (.number false (1000 * 2 ^ 43) (-43)) = some (.number neg mag ((L : Int) - 64)) := by
    unfold Datum.quotient
    simp only []
    rw [if_neg (by decide)]
    simp only [lA, lK]
    rw [show 54 + 52 - 52 = 54 from rfl, Nat.shiftLeft_eq, hdiv, Nat.mul_div_mul_right _ _ (Nat.two_pow_pos 43), Nat.mul_mod_mul_right]
    have : ((X % 1000 * 2 ^ 43 != 0)) = (X % 1000 != 0) := by
      by_cases c : X % 1000 = 0
      · rw [c]
      · rw [bne_iff_ne.2 c]; exact bne_iff_ne.2 (by omega)
    rw [this, hmag]
    rw [show (L : Int) - 52 - -43 - ((54 : Nat) : Int) - 1 = (L : Int) - 64 by omega]
    cases neg <;> rfl
  rw [hq]
  have hs : (X % 1000 != 0).toNat = if X % 1000 = 0 then 0 else 1 := by
    by_cases h : X % 1000 = 0 <;> simp [h]
  have hmag2 := hmag
  rw [hs] at hmag2
  have hm1 : 2 ^ 54 ≤ mag := by split at hmag2 <;> omega
  have hm2 : mag < 2 ^ 56 := by split at hmag2 <;> omega
  obtain ⟨D, hD, hD1, hD2⟩ : ∃ D, (D = 2 ∨ D = 3) ∧ 2 ^ (D + 52) ≤ mag ∧ mag < 2 ^ (D + 53) := by
    by_cases c : mag < 2 ^ 55
    · exact ⟨2, Or.inl rfl, hm1, c⟩
    · exact ⟨3, Or.inr rfl, by simp only [Nat.reduceAdd]; omega, hm2⟩
  have hml : mag.log2 = D + 52 := log2_of hD1 hD2
  have hLD : L + D ≤ 51 := by
    rcases Nat.lt_or_ge L 49 with c | c
    · omega
    · have : L = 49 := by omega
      subst this
      rcases hD with rfl | rfl
      · omega
      · simp only [Nat.reduceSub, Nat.reducePow, Nat.reduceAdd] at *
        split at hmag2 <;> omega
  obtain ⟨T, hT⟩ : ∃ T, T = 64 - L - D := ⟨_, rfl⟩
  have hY : (D = 2 ∧ X = 2 * (N * 2 ^ T)) ∨ (D = 3 ∧ X = 4 * (N * 2 ^ T)) := by
    rcases hD with rfl | rfl
    · left
      refine ⟨rfl, ?_⟩
      rw [← hXX, show 63 - L = T + 1 by omega, Nat.pow_succ]
      simp only [Nat.mul_comm, Nat.mul_left_comm]
    · right
      refine ⟨rfl, ?_⟩
      rw [← hXX, show 63 - L = T + 2 by omega, Nat.pow_add, show 2 ^ 2 = 4 from rfl]
      rw [← Nat.mul_assoc, Nat.mul_comm]
  have hZ : N * 2 ^ T = 8192 * (N * 2 ^ (T - 13)) := by
    conv => lhs; rw [show T = T - 13 + 13 by omega]
    rw [Nat.pow_add, show 2 ^ 13 = 8192 from rfl, ← Nat.mul_assoc, Nat.mul_comm]
  obtain ⟨r1, r2, r3, r4⟩ := cut_thou neg X (N * 2 ^ T) _ D mag hZ hY hmag.symm hD1 hD2
  refine ⟨T, Toward.even.cut neg mag D, ⟨by omega, by omega, r1, r2, r3, r4⟩, ?_⟩
  show some (double.nearest neg mag ((L : Int) - 64)) = _
  have hlast : max ((L : Int) - 64 + ((mag.log2 : Nat) : Int) - (double.fractionBits : Nat)) double.leastPlace = -(T : Int) := by
    rw [hml]
    show max ((L : Int) - 64 + ((D + 52 : Nat) : Int) - (52 : Nat)) (2 - 2 ^ (11 - 1) - (52 : Nat)) = _
    omega
  unfold Format.nearest
  rw [if_neg (by omega)]
  simp only [hlast]
  have e1 : ((L : Int) - 64 - -(T : Int)).toNat = 0 := by omega
  have e2 : (-(T : Int) - ((L : Int) - 64)).toNat = D := by omega
  have e3 : (-(T : Int) - double.leastPlace).toNat = 1074 - T := by
    show (-(T : Int) - (2 - 2 ^ (11 - 1) - (52 : Nat))).toNat = _
    omega
  rw [e1, e2, e3, Nat.shiftLeft_zero]
  have hinf : double.infRung = 2047 * 2 ^ 52 := by decide
  have hbin : double.binade = 2 ^ 52 := rfl
  have hsw : double.signWeight = 2 ^ 63 := rfl
  rw [hbin, hinf, Nat.min_eq_left (by omega)]
  unfold Format.word
  rw [hsw]
  cases neg <;> simp
end Go.Proofs.YtobbfenkdnaanaaGreatDoor
