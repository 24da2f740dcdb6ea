/- Escaping by dots, of letters, digits, colons and dots: one letter after the other (plain). -/
import Derived.Test.YtaajhionmdjhjaaDoorUneB
import Derived.Test.YtaajhionmdjhjaaDoorUneT
import Derived.Test.YtaajhionmdjhjaaDoorEscL
set_option linter.unusedVariables false
set_option linter.unusedSimpArgs false
namespace Go.Proofs.YtaajhionmdjhjaaDoor
open Go.RowKit

/-- Letters that dots bring back: no underscore, no first digit. -/
def DotOk (s : ByteArray) : Prop := ∀ i : Nat, i < s.size → bt s (i : Int) ≠ 95 ∧ (bt s (i : Int) = 46 ∨ LegOk (bt s (i : Int)) i true)

theorem dot_piece (c : Int) (pos : Nat) (h95 : c ≠ 95) (h : c = 46 ∨ LegOk c pos true) (h0 : 0 ≤ c) (h1 : c < 256) : piece 2 c pos = if UInt8.ofNat c.toNat = 46 then [95, 100, 111, 116, 95] else [UInt8.ofNat c.toNat] := by
  unfold piece oneB
  rw [if_neg (by decide), if_neg h95]
  by_cases h46 : c = 46
  · subst h46
    simp
  · have hne : UInt8.ofNat c.toNat ≠ 46 := by
      intro e
      have := congrArg UInt8.toNat e
      rw [UInt8.toNat_ofNat'] at this
      have : (46 : UInt8).toNat = 46 := rfl
      omega
    rw [if_neg (by rintro ⟨_, h⟩; exact h46 h), if_neg hne, if_pos (h.resolve_left h46)]
theorem dot_tail (s : ByteArray) (hd : DotOk s) : ∀ (f pos : Nat), s.size < pos + f → escTail 2 s f pos = dotL (s.data.toList.drop pos)
  | 0, pos, hf => by
    rw [List.drop_of_length_le (by rw [len_toList]; omega)]
    rfl
  | f + 1, pos, hf => by
    unfold escTail
    by_cases hp : pos < s.size
    · have hl : pos < s.data.toList.length := by rw [len_toList]; exact hp
      have hb := hd pos hp
      have hr := bt_range s (pos : Int)
      have hx := bt_high s pos hp
      have hlt : (s[pos]'hp).toNat < 128 := by
        rcases hb.2 with h | h
        · omega
        · have := legOk_lt h; omega
      have hdec := decode_ascii s pos hp hlt
      rw [if_pos hp, hdec]
      simp only []
      rw [List.drop_eq_getElem_cons hl, dotL, dot_tail s hd f (pos + 1) (by omega)]
      rw [hx, dot_piece _ pos hb.1 hb.2 hr.1 (by omega)]
      have e : UInt8.ofNat (bt s (pos : Int)).toNat = s.data.toList[pos]'hl := by
        rw [← hx, Int.toNat_natCast]
        show UInt8.ofNat (s[pos]'hp).toNat = s[pos]'hp
        simp
      rw [e]
    · rw [if_neg hp, List.drop_of_length_le (by rw [len_toList]; omega)]
      rfl
theorem dot_escT (s : ByteArray) (hd : DotOk s) : escT 2 s = dotL s.data.toList := by
  rw [escT_tail, dot_tail s hd _ _ (by omega), List.drop_zero]
  rfl
theorem dot_no (s : ByteArray) (hd : DotOk s) : ∀ x ∈ s.data.toList, x ≠ 95 := by
  intro x hx e
  obtain ⟨i, hi, rfl⟩ := List.getElem_of_mem hx
  rw [len_toList] at hi
  have h := (hd i hi).1
  rw [← bt_high s i hi] at h
  apply h
  have : s[i]'hi = 95 := e
  rw [this]
  rfl
theorem undot_back (s : ByteArray) (hd : DotOk s) : undot (escOut 2 s) = s := by
  have he : (escOut 2 s).data.toList = dotL s.data.toList := by
    unfold escOut
    split
    · rename_i h
      have h0 : s.size = 0 := by
        rcases h with h | h | h
        · exact absurd h (by decide)
        · exact h
        · exact absurd rfl h.1
      have : s.data.toList = [] := List.eq_nil_of_length_eq_zero (by rw [len_toList]; exact h0)
      rw [this]; rfl
    · show (escT 2 s).toArray.toList = _
      rw [List.toList_toArray, dot_escT s hd]
  have h1 : (undot1 (escOut 2 s)).data.toList = s.data.toList := by
    show (Lib.replaceK _ _ _ _).toArray.toList = _
    rw [List.toList_toArray, he, dots_back s.data.toList _ (by have := dotL_le s.data.toList; have h2 := len_toList (escOut 2 s); rw [he] at h2; omega) (dot_no s hd)]
  unfold undot
  rw [h1, none_back _ _ _ _ _ (dot_no s hd)]
end Go.Proofs.YtaajhionmdjhjaaDoor
