/- Unescaping: what an escaped text is made of, letter by letter (plain). -/
import Derived.Test.YtaajhionmdjhjaaDoorEscP
import Derived.Lib.MapLaws
set_option linter.unusedVariables false
set_option linter.unusedSimpArgs false
namespace Go.Proofs.YtaajhionmdjhjaaDoor
open Go.RowKit

/-- The pieces from a place on. -/
def escTail (k : Nat) (s : ByteArray) : Nat → Nat → List UInt8
  | 0, _ => []
  | f + 1, pos => if pos < s.size then piece k ((Utf8.decode s pos).1 : Int) pos ++ escTail k s f (pos + (Utf8.decode s pos).2) else []
theorem esc_tail (k : Nat) (s : ByteArray) : ∀ (f pos : Nat) (acc : List UInt8), esc k s f pos acc = acc ++ escTail k s f pos
  | 0, pos, acc => by simp [esc, escTail]
  | f + 1, pos, acc => by
    unfold esc escTail
    split
    · rw [esc_tail k s f, List.append_assoc]
    · simp
theorem escT_tail (k : Nat) (s : ByteArray) : escT k s = escHead k ++ escTail k s (s.size + 1) 0 := esc_tail k s _ _ _

/-- A text whose rest from place i on begins with given letters: each of these, read. -/
theorem at_drop {R : ByteArray} {i : Nat} {l rest : List UInt8} (h : R.data.toList.drop i = l ++ rest) (j : Nat) (hj : j < l.length) :
    i + j < R.size ∧ bt R ((i + j : Nat) : Int) = ((l[j]'hj).toNat : Int) := by
  have hlen : (R.data.toList.drop i).length = l.length + rest.length := by rw [h, List.length_append]
  rw [List.length_drop, len_toList] at hlen
  have hlt : i + j < R.size := by omega
  refine ⟨hlt, ?_⟩
  rw [← bt_high R (i + j) hlt]
  have h1 : (R.data.toList.drop i)[j]? = some (l[j]'hj) := by rw [h, List.getElem?_append_left hj, List.getElem?_eq_getElem hj]
  rw [List.getElem?_drop] at h1
  have h2 : R.data.toList[i + j]? = some (R[i + j]'hlt) := by
    rw [List.getElem?_eq_getElem (by rw [len_toList]; exact hlt)]
    rfl
  rw [h2] at h1
  rw [Option.some.inj h1]
/-- .. and the rest behind them. -/
theorem drop_more {R : ByteArray} {i : Nat} {l rest : List UInt8} (h : R.data.toList.drop i = l ++ rest) : R.data.toList.drop (i + l.length) = rest := by
  rw [← List.drop_drop, h, List.drop_left]
theorem drop_end {R : ByteArray} {i : Nat} (h : R.data.toList.drop i = []) (hi : i ≤ R.size) : i = R.size := by
  have := congrArg List.length h
  rw [List.length_drop, len_toList, List.length_nil] at this
  omega

/-- The number that hexadecimal letters spell. -/
def hexV (x : Int) : Nat := if x < 97 then (x - 48).toNat else (x - 87).toNat
theorem hexV_D (d : Nat) (h : d < 16) : hexV (hexD d) = d := by unfold hexV hexD; split <;> split <;> omega
def hexN (l : List Int) : Nat := l.foldl (fun n x => n * 16 + hexV x) 0
theorem hexN_from : ∀ (l : List Int) (n : Nat), l.foldl (fun n x => n * 16 + hexV x) n = n * 16 ^ l.length + hexN l
  | [], n => by simp [hexN]
  | x :: l, n => by
    unfold hexN
    rw [List.foldl_cons, List.foldl_cons, hexN_from l, hexN_from l (0 * 16 + hexV x), List.length_cons, Nat.pow_succ]
    generalize 16 ^ l.length = p
    rw [Nat.add_mul, Nat.zero_mul, Nat.zero_add, Nat.mul_assoc, Nat.mul_comm 16 p, Nat.add_assoc]
theorem hexR_val : ∀ (f u : Nat) (acc : List Int), u < 16 ^ (f + 1) → hexN (hexR f u acc) = u * 16 ^ acc.length + hexN acc
  | 0, u, acc, h => by
    unfold hexR
    rw [show hexN (hexD u :: acc) = acc.foldl (fun n x => n * 16 + hexV x) (0 * 16 + hexV (hexD u)) from rfl, hexN_from, hexV_D u (by simpa using h)]
    simp
  | f + 1, u, acc, h => by
    unfold hexR
    split
    · rename_i h16
      rw [show hexN (hexD u :: acc) = acc.foldl (fun n x => n * 16 + hexV x) (0 * 16 + hexV (hexD u)) from rfl, hexN_from, hexV_D u h16]
      simp
    · rw [hexR_val f (u / 16) _ (by rw [Nat.pow_succ] at h; exact Nat.div_lt_of_lt_mul (by omega))]
      rw [show hexN (hexD (u % 16) :: acc) = acc.foldl (fun n x => n * 16 + hexV x) (0 * 16 + hexV (hexD (u % 16))) from rfl, hexN_from, hexV_D _ (by omega)]
      rw [List.length_cons, Nat.pow_succ]
      have h2 := Nat.div_add_mod u 16
      generalize 16 ^ acc.length = p at *
      generalize u / 16 = a at *
      generalize u % 16 = b at *
      subst h2
      rw [Nat.zero_mul, Nat.zero_add, Nat.mul_comm 16 a, Nat.add_mul, Nat.mul_assoc, Nat.mul_comm 16 p, Nat.add_assoc]
/-- A rune's letters at base 16 spell it. -/
theorem hexL_val (c : Nat) (hc : c ≤ 1114111) : hexN (hexL c) = c := by
  have := hexR_val 8 c [] (by omega)
  simpa [hexL, hexN] using this
end Go.Proofs.YtaajhionmdjhjaaDoor
