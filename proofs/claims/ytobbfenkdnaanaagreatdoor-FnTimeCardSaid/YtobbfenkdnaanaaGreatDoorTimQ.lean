/- The shortest decimals of a float that is nearest to a number of thousandths: plain facts. -/
import Derived.Test.YtobbfenkdnaanaaGreatDoorTimP
set_option linter.unusedVariables false
set_option linter.unusedSimpArgs false
namespace Go.Proofs.YtobbfenkdnaanaaGreatDoor

/-- What uscale gives: the quotient by 2^(64 + s), with a last bit that tells whether anything is left. -/
def uS (Z s : Nat) : Nat := if Z / 2 ^ 64 / 2 ^ s * 2 ^ s ≠ Z / 2 ^ 64 then Z / 2 ^ 64 / 2 ^ s ||| 1 else Z / 2 ^ 64 / 2 ^ s ||| (if Z % 2 ^ 64 > 1 then 1 else 0)

theorem or_one (V : Nat) : V ||| 1 = 2 * (V / 2) + 1 := by
  have h1 : 2 * (V / 2) + 1 = 2 * (V / 2) ||| 1 := Nat.two_pow_add_eq_or_of_lt (i := 1) (by decide) (V / 2)
  have h2 : V = 2 * (V / 2) ||| V % 2 := by
    have := Nat.two_pow_add_eq_or_of_lt (i := 1) (b := V % 2) (by omega) (V / 2)
    rw [show 2 ^ 1 = 2 from rfl] at this
    rw [← this]; omega
  rw [h1]
  conv => lhs; rw [h2]
  rw [Nat.or_assoc]
  rcases Nat.mod_two_eq_zero_or_one V with h | h <;> rw [h] <;> rfl

theorem uS_le (Z s : Nat) : uS Z s ≤ 2 * (Z / 2 ^ (64 + s) / 2) + 1 := by
  have e : Z / 2 ^ 64 / 2 ^ s = Z / 2 ^ (64 + s) := by rw [Nat.div_div_eq_div_mul, ← Nat.pow_add]
  unfold uS
  rw [e, ← or_one]
  split
  · exact Nat.le_refl _
  · split
    · exact Nat.le_refl _
    · rw [Nat.or_zero, or_one]; omega

theorem uS_ge (Z s : Nat) : Z / 2 ^ (64 + s) ≤ uS Z s := by
  have e : Z / 2 ^ 64 / 2 ^ s = Z / 2 ^ (64 + s) := by rw [Nat.div_div_eq_div_mul, ← Nat.pow_add]
  unfold uS
  rw [e]
  split
  · rw [or_one]; omega
  · split
    · rw [or_one]; omega
    · rw [Nat.or_zero]; exact Nat.le_refl _

theorem uS_sticky (Z s : Nat) (h1 : Z % 2 ^ 64 ≠ 1) (h2 : Z / 2 ^ (64 + s) * 2 ^ (64 + s) ≠ Z) : uS Z s = 2 * (Z / 2 ^ (64 + s) / 2) + 1 := by
  have e : Z / 2 ^ 64 / 2 ^ s = Z / 2 ^ (64 + s) := by rw [Nat.div_div_eq_div_mul, ← Nat.pow_add]
  unfold uS
  by_cases hc : Z / 2 ^ 64 / 2 ^ s * 2 ^ s = Z / 2 ^ 64
  · rw [if_neg (by omega), if_pos, e, or_one]
    have : Z / 2 ^ (64 + s) * 2 ^ (64 + s) = Z / 2 ^ 64 * 2 ^ 64 := by
      rw [← e, Nat.pow_add, Nat.mul_comm (2 ^ 64), ← Nat.mul_assoc, hc]
    omega
  · rw [if_pos hc, e, or_one]

/-- The numbers of the scaling: p decimals for a last place of 2^-T. -/
structure Scale (T p lp s : Nat) (h : Nat) : Prop where
  p1 : 4 ≤ p
  p2 : p ≤ 19
  lpe : lp = p * 108853 / 32768
  l1 : lp ≤ 63
  se : s + lp = T + 8
  s1 : s ≤ 63
  s2 : 3 ≤ s
  P1 : 10 ^ p * 2 ^ (63 - lp) < 2 ^ 64
  hh : (h = 1024 ∧ 10 ^ p ≤ 10 * 2 ^ T) ∨ (h = 512 ∧ 10 ^ p < 20 * 2 ^ T)

theorem lt_add_of (A B K W : Nat) (hK : 0 < K) (h : A * 1000 < B + 2048000) (h2 : 2048000 * K ≤ 40 * W) : A * 1000 * K < B * K + 40 * W := by
  have h3 := Nat.mul_lt_mul_of_pos_right h hK
  rw [Nat.add_mul B] at h3
  omega

theorem lt_add_of2 (A B K W : Nat) (h : A * 1000 ≤ B + 1024000) (h2 : 1024000 * K < 40 * W) : A * 1000 * K < B * K + 40 * W := by
  have h3 := Nat.mul_le_mul_right K h
  rw [Nat.add_mul B] at h3
  omega

theorem not_one (q : Nat) : 2 * q % 2 ^ 64 ≠ 1 := by omega

theorem short_plain {N T M p lp s h o : Nat} (hN : 1 ≤ N) (ht : Thou N T M) (hs : Scale T p lp s h) (hk : h = 512 → M = 2 ^ 52) (ho : o ≤ 1) :
    (uS ((M * 2048 - h) * (10 ^ p * 2 ^ (63 - lp))) s + o + 3) / 4 ≤ N * 10 ^ (p - 4) * 10 ∧
    o + 1 ≤ uS ((M * 2048 + 1024) * (10 ^ p * 2 ^ (63 - lp))) s ∧
    (uS ((M * 2048 + 1024) * (10 ^ p * 2 ^ (63 - lp))) s - o) / 4 / 10 = N * 10 ^ (p - 4) := by
  obtain ⟨K, hK⟩ : ∃ K, K = 10 ^ (p - 3) * 2 ^ (63 - lp) := ⟨_, rfl⟩
  have hK0 : 0 < K := by rw [hK]; exact Nat.mul_pos (Nat.pow_pos (by decide)) (Nat.two_pow_pos _)
  have hP : 10 ^ p * 2 ^ (63 - lp) = 1000 * K := by
    rw [hK, ← Nat.mul_assoc, show 1000 * 10 ^ (p - 3) = 10 ^ p by rw [show p = 3 + (p - 3) by have := hs.p1; omega, Nat.pow_add]; simp]
  obtain ⟨d, hd⟩ : ∃ d, d = N * 10 ^ (p - 4) := ⟨_, rfl⟩
  have hD : N * 10 ^ (p - 3) = 10 * d := by
    rw [hd, show p - 3 = p - 4 + 1 by have := hs.p1; omega, Nat.pow_succ]
    rw [← Nat.mul_assoc, Nat.mul_comm 10]
  obtain ⟨W, hW⟩ : ∃ W, W = 2 ^ (64 + s) := ⟨_, rfl⟩
  have hW4 : 4 * W = 2 ^ T * 2048 * 2 ^ (63 - lp) := by
    rw [hW, show 4 = 2 ^ 2 from rfl, show 2048 = 2 ^ 11 from rfl, ← Nat.pow_add, ← Nat.pow_add, ← Nat.pow_add]
    congr 1
    have := hs.se; have := hs.l1
    omega
  obtain ⟨Y, hY⟩ : ∃ Y, Y = N * 2 ^ T := ⟨_, rfl⟩
  have hWD : 4 * W * (10 * d) = Y * 2048 * K := by
    rw [hW4, ← hD, hY, hK]
    simp only [Nat.mul_comm, Nat.mul_left_comm, Nat.mul_assoc]
  have hW0 : 0 < W := by rw [hW]; exact Nat.two_pow_pos _
  have hlo := ht.lo; have hhi := ht.hi
  have hT8 : Y % 8192 = 0 := by
    rw [hY, show T = 13 + (T - 13) by have := ht.t1; omega, Nat.pow_add, show 2 ^ 13 = 8192 from rfl, Nat.mul_left_comm]
    exact Nat.mul_mod_right _ _
  rw [← hY] at hlo hhi
  have hm1 := ht.m1; have hm2 := ht.m2
  rw [hP, ← hd]
  have hZ1 : (M * 2048 - h) * (1000 * K) < 4 * W * (10 * d) := by
    rw [hWD, ← Nat.mul_assoc]
    refine Nat.mul_lt_mul_of_pos_right ?_ hK0
    rcases hs.hh with ⟨rfl, _⟩ | ⟨rfl, _⟩
    · omega
    · have := hk rfl; subst this; omega
  have hZ2 : 4 * W * (10 * d) < (M * 2048 + 1024) * (1000 * K) := by
    rw [hWD, ← Nat.mul_assoc]
    refine Nat.mul_lt_mul_of_pos_right ?_ hK0
    omega
  have hZ3 : (M * 2048 + 1024) * (1000 * K) < 4 * W * (10 * d) + 40 * W := by
    have hb : 10 ^ p * (2048 * 2 ^ (63 - lp)) = 1000 * K * 2048 := by
      rw [← hP]; simp only [Nat.mul_comm, Nat.mul_left_comm, Nat.mul_assoc]
    have hc : 2 ^ T * (2048 * 2 ^ (63 - lp)) = 4 * W := by rw [hW4, Nat.mul_assoc]
    rw [hWD, ← Nat.mul_assoc]
    have h5 : 0 < 2048 * 2 ^ (63 - lp) := Nat.mul_pos (by decide) (Nat.two_pow_pos _)
    rcases hs.hh with ⟨rfl, h4⟩ | ⟨rfl, h4⟩
    · have h6 := Nat.mul_le_mul_right (2048 * 2 ^ (63 - lp)) h4
      rw [hb, show 10 * 2 ^ T * (2048 * 2 ^ (63 - lp)) = 10 * (4 * W) by rw [Nat.mul_assoc, hc]] at h6
      have h9 : (M * 2048 + 1024) * 1000 < Y * 2048 + 2048000 := by omega
      exact lt_add_of (M * 2048 + 1024) (Y * 2048) K W hK0 h9 (by omega)
    · have h6 := Nat.mul_lt_mul_of_pos_right h4 h5
      rw [hb, show 20 * 2 ^ T * (2048 * 2 ^ (63 - lp)) = 20 * (4 * W) by rw [Nat.mul_assoc, hc]] at h6
      have := hk rfl; subst this
      have h9 : (2 ^ 52 * 2048 + 1024) * 1000 ≤ Y * 2048 + 1024000 := by omega
      exact lt_add_of2 (2 ^ 52 * 2048 + 1024) (Y * 2048) K W h9 (by omega)
  have hd0 : 0 < d := by
    rw [hd]; exact Nat.mul_pos hN (Nat.pow_pos (by decide))
  have hmod : (M * 2048 + 1024) * (1000 * K) % 2 ^ 64 ≠ 1 := by
    have : (M * 2048 + 1024) * (1000 * K) = 2 * ((M * 1024 + 512) * (1000 * K)) := by
      rw [show M * 2048 + 1024 = 2 * (M * 1024 + 512) by omega, Nat.mul_assoc]
    rw [this]
    exact not_one _
  clear hm1 hm2 hk hlo hhi hT8
  generalize (M * 2048 - h) * (1000 * K) = Z1 at hZ1 ⊢
  generalize (M * 2048 + 1024) * (1000 * K) = Z2 at hZ2 hZ3 hmod ⊢
  have hV1 : Z1 / W < 40 * d := by
    rw [Nat.div_lt_iff_lt_mul hW0]
    have : 40 * d * W = 4 * W * (10 * d) := by rw [show 40 = 4 * 10 from rfl]; simp only [Nat.mul_comm, Nat.mul_left_comm, Nat.mul_assoc]
    omega
  have hV2 : 40 * d ≤ Z2 / W := by
    rw [Nat.le_div_iff_mul_le hW0]
    have : 40 * d * W = 4 * W * (10 * d) := by rw [show 40 = 4 * 10 from rfl]; simp only [Nat.mul_comm, Nat.mul_left_comm, Nat.mul_assoc]
    omega
  have hV3 : Z2 / W < 40 * d + 40 := by
    rw [Nat.div_lt_iff_lt_mul hW0]
    have : 40 * d * W = 4 * W * (10 * d) := by rw [show 40 = 4 * 10 from rfl]; simp only [Nat.mul_comm, Nat.mul_left_comm, Nat.mul_assoc]
    rw [Nat.add_mul]
    omega
  have u1 := uS_le Z1 s
  have u1' := uS_ge Z1 s
  have u2 := uS_le Z2 s
  have u3 := uS_ge Z2 s
  rw [← hW] at u1 u2 u3 u1'
  have u4 : 40 * d + 1 ≤ uS Z2 s := by
    rcases Nat.lt_or_ge (40 * d) (Z2 / W) with c | c
    · omega
    · have : Z2 / W = 40 * d := by omega
      have hs2 := uS_sticky Z2 s hmod (by
        rw [← hW, this]
        have : 40 * d * W = 4 * W * (10 * d) := by rw [show 40 = 4 * 10 from rfl]; simp only [Nat.mul_comm, Nat.mul_left_comm, Nat.mul_assoc]
        omega)
      rw [← hW, this] at hs2
      omega
  refine ⟨by omega, by omega, by omega⟩

theorem uS_bound (x P s : Nat) (hx : x < 2 ^ 64) (hP : P < 2 ^ 64) (hs : 3 ≤ s) : uS (x * P) s ≤ 2 ^ 61 := by
  have h1 := uS_le (x * P) s
  have h2 : x * P / 2 ^ (64 + s) < 2 ^ 61 := by
    rw [Nat.div_lt_iff_lt_mul (Nat.two_pow_pos _)]
    have h3 : x * P ≤ x * 2 ^ 64 := Nat.mul_le_mul_left x (by omega)
    have h4 : x * 2 ^ 64 < 2 ^ 64 * 2 ^ 64 := Nat.mul_lt_mul_of_pos_right hx (by decide)
    have h5 : 2 ^ 64 * 2 ^ 64 ≤ 2 ^ 61 * 2 ^ (64 + s) := by
      rw [← Nat.pow_add, ← Nat.pow_add]
      exact Nat.pow_le_pow_right (by decide) (by omega)
    omega
  omega

/-- How many decimals; at the lower end of a binade. -/
def pN (T : Nat) : Nat := (-(-(T : Int) * 78913 / 262144)).toNat
def pK (T : Nat) : Nat := (-((-(T : Int) * 631305 - 261663) / 2097152)).toNat
def lpOf (p : Nat) : Nat := p * 108853 / 32768
def scaleB (T p : Nat) : Bool := decide (4 ≤ p) && decide (p ≤ 19) && decide (lpOf p ≤ 63) && decide (lpOf p ≤ T + 5) && decide (T + 8 - lpOf p ≤ 63) && decide (10 ^ p * 2 ^ (63 - lpOf p) < 2 ^ 64)
theorem scale_all : ((List.range 63).all fun T => decide (T < 13) || (scaleB T (pN T) && scaleB T (pK T) && decide (10 ^ pN T ≤ 10 * 2 ^ T) && decide (10 ^ pK T < 20 * 2 ^ T) &&
    decide (-(-(T : Int) * 78913 / 262144) = (pN T : Int)) && decide (-((-(T : Int) * 631305 - 261663) / 2097152) = (pK T : Int)))) = true := by decide +kernel

theorem scale_at {T : Nat} (h1 : 13 ≤ T) (h2 : T ≤ 62) : (Scale T (pN T) (lpOf (pN T)) (T + 8 - lpOf (pN T)) 1024 ∧ -(T : Int) * 78913 / 262144 = -(pN T : Int)) ∧
    (Scale T (pK T) (lpOf (pK T)) (T + 8 - lpOf (pK T)) 512 ∧ (-(T : Int) * 631305 - 261663) / 2097152 = -(pK T : Int)) := by
  have h := List.all_eq_true.1 scale_all T (List.mem_range.2 (by omega))
  simp only [Bool.or_eq_true, Bool.and_eq_true, decide_eq_true_eq, scaleB] at h
  rcases h with h | ⟨⟨⟨⟨⟨a, b⟩, c⟩, d⟩, e⟩, f⟩
  · omega
  · obtain ⟨⟨⟨⟨⟨a1, a2⟩, a3⟩, a4⟩, a5⟩, a6⟩ := a
    obtain ⟨⟨⟨⟨⟨b1, b2⟩, b3⟩, b4⟩, b5⟩, b6⟩ := b
    exact ⟨⟨⟨a1, a2, rfl, a3, by omega, a5, by omega, a6, Or.inl ⟨rfl, c⟩⟩, by omega⟩, ⟨⟨b1, b2, rfl, b3, by omega, b5, by omega, b6, Or.inr ⟨rfl, d⟩⟩, by omega⟩⟩
end Go.Proofs.YtobbfenkdnaanaaGreatDoor
