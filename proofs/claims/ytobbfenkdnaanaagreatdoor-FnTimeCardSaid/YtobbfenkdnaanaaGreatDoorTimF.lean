/- The shortest decimals of a number of thousandths, as a text: plain facts. -/
import Derived.Test.YtobbfenkdnaanaaGreatDoorTimD
import Derived.Lib.Strings
set_option linter.unusedVariables false
set_option linter.unusedSimpArgs false
namespace Go.Proofs.YtobbfenkdnaanaaGreatDoor
open Go.Lib

def d3 (r : Nat) : List UInt8 := [UInt8.ofNat (48 + r / 100), UInt8.ofNat (48 + r / 10 % 10), UInt8.ofNat (48 + r % 10)]

theorem decDigits_step {u : Nat} (h : 10 ≤ u) : decDigits u = decDigits (u / 10) ++ [UInt8.ofNat (48 + u % 10)] := by
  rw [decDigits, dif_neg (by omega)]

theorem decDigits_thou {N : Nat} (h : 1000 ≤ N) : decDigits N = decDigits (N / 1000) ++ d3 (N % 1000) := by
  rw [decDigits_step (u := N) (by omega), decDigits_step (u := N / 10) (by omega), decDigits_step (u := N / 10 / 10) (by omega)]
  rw [show N / 10 / 10 / 10 = N / 1000 by omega, List.append_assoc, List.append_assoc]
  unfold d3
  rw [show N % 1000 / 100 = N / 10 / 10 % 10 by omega, show N % 1000 / 10 % 10 = N / 10 % 10 by omega, show N % 1000 % 10 = N % 10 by omega]
  rfl

theorem decDigits_small : ∀ r, r < 1000 → List.replicate (3 - nDigits r) 48 ++ decDigits r = d3 r := by
  intro r h
  by_cases h1 : r < 10
  · rw [nDigits, dif_pos h1, decDigits, dif_pos h1]
    unfold d3
    rw [show r / 100 = 0 by omega, show r / 10 % 10 = 0 by omega, show r % 10 = r by omega]
    rfl
  · by_cases h2 : r < 100
    · rw [nDigits, dif_neg h1, nDigits, dif_pos (by omega), decDigits_step (by omega), decDigits, dif_pos (by omega)]
      unfold d3
      rw [show r / 100 = 0 by omega, show r / 10 % 10 = r / 10 by omega]
      rfl
    · rw [nDigits, dif_neg h1, nDigits, dif_neg (by omega), nDigits, dif_pos (by omega), decDigits_step (by omega), decDigits_step (by omega), decDigits, dif_pos (by omega)]
      unfold d3
      rw [show r / 10 / 10 = r / 100 by omega]
      rfl

/-- Noughts at the end cut off. -/
def trimR (l : List UInt8) : List UInt8 := (l.reverse.dropWhile (· == 48)).reverse

theorem trimR_zeros (A : List UInt8) : ∀ m, trimR (A ++ List.replicate m 48) = trimR A
  | 0 => by simp
  | m + 1 => by
    rw [List.replicate_succ', ← List.append_assoc]
    unfold trimR
    rw [List.reverse_append]
    show (List.dropWhile _ (48 :: (A ++ List.replicate m 48).reverse)).reverse = _
    rw [List.dropWhile_cons_of_pos (by rfl)]
    exact trimR_zeros A m

theorem trimR_snoc (A : List UInt8) (x : UInt8) (h : x ≠ 48) : trimR (A ++ [x]) = A ++ [x] := by
  unfold trimR
  rw [List.reverse_append]
  show (List.dropWhile _ (x :: A.reverse)).reverse = _
  rw [List.dropWhile_cons_of_neg (by simpa using h)]
  simp

theorem take_trim (F : List UInt8) (j : Nat) (h1 : ∀ i, j ≤ i → i < F.length → F[i]? = some 48) (hj : 1 ≤ j) (x : UInt8) (hx : F[j - 1]? = some x) (hne : x ≠ 48) : F.take j = trimR F := by
  have hlt : j - 1 < F.length := by
    rcases Nat.lt_or_ge (j - 1) F.length with h | h
    · exact h
    · rw [List.getElem?_eq_none h] at hx; cases hx
  have e1 : F = F.take j ++ List.replicate (F.length - j) 48 := by
    conv => lhs; rw [← List.take_append_drop j F]
    congr 1
    refine List.ext_getElem? fun i => ?_
    rw [List.getElem?_drop, List.getElem?_replicate]
    split
    · exact h1 _ (by omega) (by omega)
    · exact List.getElem?_eq_none (by omega)
  have e2 : F.take j = F.take (j - 1) ++ [x] := by
    conv => lhs; rw [show j = j - 1 + 1 by omega]
    rw [List.take_add_one, hx]; rfl
  conv => rhs; rw [e1]
  rw [trimR_zeros, e2, trimR_snoc _ _ hne]

/-- The text of a number of thousandths. -/
def timeT (neg : Bool) (N : Nat) : List UInt8 := cond neg [45] [] ++ decDigits (N / 1000) ++ (if N % 1000 = 0 then [] else 46 :: trimR (d3 (N % 1000)))

theorem d3_zero (r : Nat) (h : r < 1000) (hz : ∀ i, i < 3 → (d3 r)[i]? = some 48) : r = 0 := by
  have a := hz 0 (by omega); have b := hz 1 (by omega); have c := hz 2 (by omega)
  simp only [d3, List.getElem?_cons_zero, List.getElem?_cons_succ, Option.some.injEq] at a b c
  have a' := congrArg UInt8.toNat a; have b' := congrArg UInt8.toNat b; have c' := congrArg UInt8.toNat c
  rw [UInt8.toNat_ofNat', Nat.mod_eq_of_lt (by omega)] at a' b' c'
  have e : (48 : UInt8).toNat = 48 := rfl
  omega

theorem short_text {N : Nat} (h1 : 1 ≤ N) {neg : Bool} {t : List UInt8} (hs : Short N neg t) : t = timeT neg N := by
  obtain ⟨p, k, hp1, hp2, _, htr, rfl⟩ := hs
  have hkp := trim_pos (Nat.mul_pos h1 (Nat.pow_pos (by decide))) htr
  obtain ⟨q, rfl⟩ : ∃ q, p = q + 4 := ⟨p - 4, by omega⟩
  rw [show q + 4 - 4 = q by omega, nDigits_mul N h1] at *
  rw [decDigits_mul N h1] at *
  obtain ⟨n1, hn1⟩ : ∃ n1, n1 = nDigits N := ⟨_, rfl⟩
  have hlen : (decDigits N).length = n1 := by rw [decDigits_length, hn1]
  rw [← hn1]
  have hdp : ((n1 + q : Nat) : Int) + (1 - ((q + 4 : Nat) : Int)) = (n1 : Int) - 3 := by omega
  rw [hdp]
  obtain ⟨l, hl⟩ : ∃ l, l = decDigits N ++ List.replicate q 48 := ⟨_, rfl⟩
  rw [← hl] at htr ⊢
  have hll : l.length = n1 + q := by rw [hl, List.length_append, hlen, List.length_replicate]
  obtain ⟨hk, hz, hne⟩ := htr
  obtain ⟨x, hx, hx48⟩ : ∃ x, l[k - 1]? = some x ∧ x ≠ 48 := by rcases hne with h | h; · omega
                                                                · exact h
  have hkl : (l.take k).length = k := by rw [List.length_take]; omega
  -- the whole part and the rest
  obtain ⟨F, hF⟩ : ∃ F, F = d3 (N % 1000) ++ List.replicate q 48 := ⟨_, rfl⟩
  have hFl : F.length = q + 3 := by rw [hF, List.length_append, List.length_replicate]; show 3 + q = _; omega
  unfold decT timeT
  rw [List.append_assoc, List.append_assoc]
  congr 1
  by_cases hN : 1000 ≤ N
  · have hA : (decDigits (N / 1000)).length + 3 = n1 := by
      rw [← hlen, decDigits_thou hN, List.length_append]; rfl
    have hA0 : 1 ≤ (decDigits (N / 1000)).length := by rw [decDigits_length]; exact nDigits_pos _
    obtain ⟨A, hAA⟩ : ∃ A, A = decDigits (N / 1000) := ⟨_, rfl⟩
    rw [← hAA] at hA hA0 ⊢
    have hlF : l = A ++ F := by rw [hl, decDigits_thou hN, hF, ← hAA, List.append_assoc]
    have hdt : ((n1 : Int) - 3).toNat = A.length := by omega
    unfold wholeT fracT
    rw [if_pos (by omega), hdt, hkl]
    have hwh : (l.take k).take A.length ++ zeros (A.length - k) = A := by
      rw [List.take_take]
      rcases Nat.lt_or_ge k A.length with c | c
      · rw [Nat.min_eq_right (by omega)]
        have : A = l.take A.length := by rw [hlF, List.take_left']; rfl
        conv => rhs; rw [this, ← List.take_append_drop k (l.take A.length), List.take_take, Nat.min_eq_left (by omega)]
        congr 1
        refine List.ext_getElem? fun i => ?_
        rw [List.getElem?_drop, List.getElem?_take]
        unfold zeros
        rw [List.getElem?_replicate]
        split
        · rw [if_pos (by omega)]; exact (hz _ (by omega) (by omega)).symm
        · rw [if_neg (by omega)]
      · rw [Nat.min_eq_left (by omega), show A.length - k = 0 by omega, hlF, List.take_left' rfl]
        unfold zeros; simp
    rw [hwh]
    congr 1
    by_cases hd : A.length < k
    · have hFx : F[k - A.length - 1]? = some x := by
        rw [← hx, hlF, List.getElem?_append_right (by omega), show k - 1 - A.length = k - A.length - 1 by omega]
      have hFz : ∀ i, k - A.length ≤ i → i < F.length → F[i]? = some 48 := by
        intro i h2 h3
        have := hz (A.length + i) (by omega) (by omega)
        rw [hlF, List.getElem?_append_right (by omega), show A.length + i - A.length = i by omega] at this
        exact this
      have hr : N % 1000 ≠ 0 := by
        intro hr
        rw [hF, hr] at hFx
        have : F[k - A.length - 1]? = some x := by rw [hF, hr]; exact hFx
        rw [show (d3 0 ++ List.replicate q 48 : List UInt8) = List.replicate (3 + q) 48 by rw [show d3 0 = List.replicate 3 48 from rfl, List.replicate_append_replicate], List.getElem?_replicate] at hFx
        split at hFx
        · exact hx48 (Option.some.inj hFx).symm
        · cases hFx
      rw [if_pos (by omega), if_neg hr, show (-((n1 : Int) - 3)).toNat = 0 by omega]
      congr 1
      show (l.take k).drop A.length = _
      rw [List.drop_take, hlF, List.drop_left' rfl, take_trim F _ hFz (by omega) x hFx hx48, hF, trimR_zeros]
    · have hr : N % 1000 = 0 := by
        refine d3_zero _ (Nat.mod_lt _ (by decide)) fun i hi => ?_
        have := hz (A.length + i) (by omega) (by omega)
        rw [hlF, List.getElem?_append_right (by omega), show A.length + i - A.length = i by omega, hF, List.getElem?_append_left (by exact hi)] at this
        exact this
      rw [if_neg (by omega), if_pos hr]
  · have hN0 : N / 1000 = 0 := by omega
    have hr : N % 1000 = N := by omega
    have hn3 : n1 ≤ 3 := by rw [hn1]; exact nDigits_le 2 N (by omega)
    have hlF : zeros (3 - n1) ++ l = F := by
      rw [hl, ← List.append_assoc, hF, hr, ← decDigits_small N (by omega), hn1]; rfl
    unfold wholeT fracT
    rw [if_neg (by omega), hkl, if_pos (by omega), hN0, hr, if_neg (by omega)]
    rw [show decDigits 0 = [48] by rw [decDigits, dif_pos (by decide)]; rfl]
    congr 2
    rw [show (-((n1 : Int) - 3)).toNat = 3 - n1 by omega, show ((n1 : Int) - 3).toNat = 0 by omega]
    show zeros (3 - n1) ++ l.take k = _
    have hzl : (zeros (3 - n1)).length = 3 - n1 := by unfold zeros; rw [List.length_replicate]
    have e1 : zeros (3 - n1) ++ l.take k = F.take (3 - n1 + k) := by
      rw [← hlF, List.take_append, List.take_of_length_le (l := zeros (3 - n1)) (by omega), hzl, show 3 - n1 + k - (3 - n1) = k by omega]
    have hFx : F[3 - n1 + k - 1]? = some x := by
      rw [← hx, ← hlF, List.getElem?_append_right (by omega), hzl, show 3 - n1 + k - 1 - (3 - n1) = k - 1 by omega]
    have hFz : ∀ i, 3 - n1 + k ≤ i → i < F.length → F[i]? = some 48 := by
      intro i h2 h3
      rw [← hlF, List.getElem?_append_right (by omega), hzl]
      exact hz _ (by omega) (by omega)
    rw [e1, take_trim F _ hFz (by omega) x hFx hx48, hF, trimR_zeros, hr]
end Go.Proofs.YtobbfenkdnaanaaGreatDoor
