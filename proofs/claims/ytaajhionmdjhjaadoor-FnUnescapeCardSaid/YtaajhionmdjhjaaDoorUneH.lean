/- The letters of a rune at base 16, within an escaped text (plain). -/
import Derived.Test.YtaajhionmdjhjaaDoorUneP
set_option linter.unusedVariables false
set_option linter.unusedSimpArgs false
namespace Go.Proofs.YtaajhionmdjhjaaDoor
open Go.RowKit

theorem hexR_short : ∀ (n f u : Nat) (acc : List Int), n ≤ f → u < 16 ^ (n + 1) → (hexR f u acc).length ≤ acc.length + n + 1
  | n, 0, u, acc, h, hu => by simp [hexR]
  | 0, f + 1, u, acc, h, hu => by
    unfold hexR
    rw [if_pos (by simpa using hu)]
    simp
  | n + 1, f + 1, u, acc, h, hu => by
    unfold hexR
    split
    · simp
    · have := hexR_short n f (u / 16) (hexD (u % 16) :: acc) (by omega) (by rw [Nat.pow_succ] at hu; exact Nat.div_lt_of_lt_mul (by omega))
      simp only [List.length_cons] at this
      omega
theorem hexR_ne : ∀ (f u : Nat) (acc : List Int), hexR f u acc ≠ []
  | 0, u, acc => by simp [hexR]
  | f + 1, u, acc => by
    unfold hexR
    split
    · simp
    · exact hexR_ne f _ _
theorem hexL_pos (c : Nat) : 0 < (hexL c).length := List.length_pos_iff.2 (hexR_ne 8 c [])
theorem hexL_short (c : Nat) (h : c < 1048576) : (hexL c).length ≤ 5 := by
  have := hexR_short 4 8 c [] (by decide) (by omega)
  simpa [hexL] using this
def HexDig (x : Int) : Prop := (48 ≤ x ∧ x ≤ 57) ∨ (97 ≤ x ∧ x ≤ 102)
theorem hexD_dig (d : Nat) (h : d < 16) : HexDig (hexD d) := by unfold HexDig hexD; split <;> omega
theorem hexR_dig : ∀ (f u : Nat) (acc : List Int), u < 16 ^ (f + 1) → (∀ x ∈ acc, HexDig x) → ∀ x ∈ hexR f u acc, HexDig x
  | 0, u, acc, hu, ha => by
    intro x hx
    simp only [hexR, List.mem_cons] at hx
    rcases hx with rfl | hx
    · exact hexD_dig u (by simpa using hu)
    · exact ha x hx
  | f + 1, u, acc, hu, ha => by
    intro x hx
    unfold hexR at hx
    split at hx
    · rename_i h16
      simp only [List.mem_cons] at hx
      rcases hx with rfl | hx
      · exact hexD_dig u h16
      · exact ha x hx
    · refine hexR_dig f (u / 16) _ (by rw [Nat.pow_succ] at hu; exact Nat.div_lt_of_lt_mul (by omega)) ?_ x hx
      intro y hy
      simp only [List.mem_cons] at hy
      rcases hy with rfl | hy
      · exact hexD_dig _ (by omega)
      · exact ha y hy
theorem hexL_dig (c : Nat) (hc : c ≤ 1114111) : ∀ x ∈ hexL c, HexDig x := hexR_dig 8 c [] (by omega) (fun x hx => by cases hx)
theorem hexT_length (c : Nat) : (hexT c).data.toList.length = (hexL c).length := by rw [hexT, strOfNums_data, List.length_map]
/-- The letters between the two underscores, read in the rest; and the closing one. -/
theorem hex_in {R : ByteArray} {i c : Nat} {rest : List UInt8} (hc : c ≤ 1114111) (h : R.data.toList.drop i = ([95] ++ (hexT c).data.toList ++ [95]) ++ rest) :
    (∀ m (hm : m < (hexL c).length), i + (1 + m) < R.size ∧ bt R ((i + (1 + m) : Nat) : Int) = (hexL c)[m]'hm) ∧
      i + (1 + (hexL c).length) < R.size ∧ bt R ((i + (1 + (hexL c).length) : Nat) : Int) = 95 := by
  have hl := hexT_length c
  have hl' : (hexT c).size = (hexL c).length := by rw [← len_toList]; exact hl
  refine ⟨fun m hm => ?_, ?_⟩
  · have h1 := at_drop h (1 + m) (by simp; omega)
    refine ⟨h1.1, h1.2.trans ?_⟩
    have h2 : ([95] ++ (hexT c).data.toList ++ [95])[1 + m]? = some (UInt8.ofNat ((hexL c)[m]'hm).toNat) := by
      rw [List.append_assoc, List.getElem?_append_right (by simp), List.getElem?_append_left (by simp; omega)]
      simp [hexT, strOfNums_data, hm]
    rw [List.getElem?_eq_getElem (by simp; omega)] at h2
    rw [Option.some.inj h2]
    have h3 := hexL_dig c hc _ (List.getElem_mem hm)
    unfold HexDig at h3
    rw [UInt8.toNat_ofNat']
    omega
  · have h1 := at_drop h (1 + (hexL c).length) (by simp; omega)
    refine ⟨h1.1, h1.2.trans ?_⟩
    have h2 : ([95] ++ (hexT c).data.toList ++ [95])[1 + (hexL c).length]? = some 95 := by
      rw [List.getElem?_append_right (by simp; omega)]
      simp only [List.length_append, List.length_singleton, hl]
      rw [show 1 + (hexL c).length - (1 + (hexL c).length) = 0 by omega]
      rfl
    rw [List.getElem?_eq_getElem (by simp; omega)] at h2
    rw [Option.some.inj h2]
    rfl
end Go.Proofs.YtaajhionmdjhjaaDoor
