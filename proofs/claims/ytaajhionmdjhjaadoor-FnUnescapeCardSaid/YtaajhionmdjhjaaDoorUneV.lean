/- A valid text's bytes at a place are its rune's own (plain). -/
import Derived.Test.YtaajhionmdjhjaaDoorUneP
import Derived.Lib.MapLaws
import Derived.Lib.ValidLaws
import Derived.Lib.TrimUEq
set_option linter.unusedVariables false
set_option linter.unusedSimpArgs false
namespace Go.Proofs.YtaajhionmdjhjaaDoor
open Go.RowKit

theorem rune_bytes (s : ByteArray) (pos : Nat) (hp : pos < s.size) (hv : Lib.validD (s.data.toList.drop pos) = true) :
    Lib.byteCells (s.data.toList.take (pos + (Utf8.decode s pos).2)) = Lib.byteCells (s.data.toList.take pos) ++ Lib.runeCells ((Utf8.decode s pos).1 : Int) ∧
      Lib.validD (s.data.toList.drop (pos + (Utf8.decode s pos).2)) = true := by
  have hne : s.data.toList.drop pos ≠ [] := by
    intro h
    have := congrArg List.length h
    rw [List.length_drop, len_toList, List.length_nil] at this
    omega
  rw [Lib.validD_step _ hne, Lib.decodeL_drop] at hv
  split at hv
  · cases hv
  · rename_i hno
    have he := Lib.encode_decode (s.data.toList.drop pos) hne (by rw [Lib.decodeL_drop]; exact hno)
    rw [Lib.decodeL_drop] at he
    refine ⟨?_, by rw [← List.drop_drop]; exact hv⟩
    rw [← Lib.byteCells_encodeRune, he, List.take_add]
    unfold Lib.byteCells
    rw [List.map_append]
theorem rune_within (s : ByteArray) (pos : Nat) (hp : pos < s.size) : pos + (Utf8.decode s pos).2 ≤ s.size := by
  have hlen : (s.data.toList.drop pos).length = s.size - pos := by rw [List.length_drop, len_toList]
  have hne : s.data.toList.drop pos ≠ [] := by
    intro h
    rw [h, List.length_nil] at hlen
    omega
  have := Lib.decodeL_le _ hne
  rw [Lib.decodeL_drop, hlen] at this
  omega
end Go.Proofs.YtaajhionmdjhjaaDoor
