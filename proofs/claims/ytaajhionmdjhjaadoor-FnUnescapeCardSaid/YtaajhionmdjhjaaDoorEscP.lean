/- Escaped names: what is written for each letter; a builder in a range. -/
import Derived.Test.YtaajhionmdjhjaaDoorNamD
import Derived.Test.YtaajhionmdjhjaaDoorHexA
import Derived.Test.YtaajhionmdjhjaaDoorBldA
import Derived.Lib.QuoteLoop
import Derived.Lib.TrimU
set_option linter.unusedVariables false
set_option linter.unusedSimpArgs false
namespace Go.Proofs.YtaajhionmdjhjaaDoor
open Go.RowKit

def oneB (c : Int) : List UInt8 := [UInt8.ofNat c.toNat]
/-- What is written for a letter. -/
def piece (k : Nat) (c : Int) (pos : Nat) : List UInt8 :=
  if k = 1 then (if LegOk c pos true then oneB c else [95])
  else if c = 95 then [95, 95]
  else if k = 2 ∧ c = 46 then [95, 100, 111, 116, 95]
  else if LegOk c pos true then oneB c
  else if k = 2 then [95, 95]
  else [95] ++ (hexT c.toNat).data.toList ++ [95]
def esc (k : Nat) (s : ByteArray) : Nat → Nat → List UInt8 → List UInt8
  | 0, _, acc => acc
  | f + 1, pos, acc => if pos < s.size then esc k s f (pos + (Utf8.decode s pos).2) (acc ++ piece k ((Utf8.decode s pos).1 : Int) pos) else acc
def escHead (k : Nat) : List UInt8 := if k = 3 then [85, 95, 95] else []
def escT (k : Nat) (s : ByteArray) : List UInt8 := esc k s (s.size + 1) 0 (escHead k)

theorem esc_end (k : Nat) (s : ByteArray) (f pos : Nat) (acc : List UInt8) (h : ¬ pos < s.size) : esc k s f pos acc = acc := by
  cases f with
  | zero => rfl
  | succ f => simp [esc, h]

theorem hexR_len : ∀ (f u : Nat) (acc : List Int), (hexR f u acc).length ≤ acc.length + f + 1
  | 0, u, acc => by simp [hexR]
  | f + 1, u, acc => by
    unfold hexR
    split
    · simp
    · have := hexR_len f (u / 16) (hexD (u % 16) :: acc)
      simp at this
      omega
theorem hexT_size (c : Nat) : (hexT c).size ≤ 9 := by
  rw [hexT, strOfNums_size]
  have := hexR_len 8 c []
  simpa [hexL] using this
theorem piece_len (k : Nat) (c : Int) (pos : Nat) : (piece k c pos).length ≤ 11 := by
  have h := hexT_size c.toNat
  have h' : (hexT c.toNat).data.toList.length ≤ 9 := by rw [len_toList]; exact h
  unfold piece oneB
  repeat' split
  all_goals simp
  all_goals (try omega)
  all_goals (have h2 : (hexT c.toNat).data.size ≤ 9 := h; omega)

theorem rune_ok (s : ByteArray) (pos : Nat) : (Utf8.decode s pos).1 ≤ 1114111 := Lib.rune_le s pos
theorem rune_validAt (s : ByteArray) (pos : Nat) : Lib.validRune ((Utf8.decode s pos).1 : Int) = true := by
  have := Lib.decodeN_valid (s.size - pos) (s.get! pos).toNat (s.get! (pos + 1)).toNat (s.get! (pos + 2)).toNat (s.get! (pos + 3)).toNat (UInt8.toNat_lt _)
  rw [← Lib.decode_at] at this
  unfold Lib.validRune
  exact decide_eq_true (by omega)

/-- The builder and the iterator in a round. -/
structure EscAt (wo : World) (N k : Nat) (s : ByteArray) (f pos : Nat) (acc : List UInt8) (wr : World) : Prop where
  it : wr.heap[N]? = some (.stringIter s pos)
  lt : wo.heap.size < N
  bld : Lib.IsBuilderF 99 5 wo.heap.size wo.heap.size (Lib.byteCells acc) wr
  below : Below wo.heap.size wo wr
  eq : esc k s f pos acc = escT k s
  fuel : s.size < pos + f
  len : acc.length + 16 * f ≤ 3 + 16 * (s.size + 1)

theorem Wrote.trans {B b : Nat} {bs bs' : List Value} {w w1 w2 : World} (h : Wrote B b bs w w1) (h' : Wrote B b bs' w1 w2) : Wrote B b bs' w w2 :=
  ⟨h'.1, h.2.1.trans h'.2.1, h.2.2.trans h'.2.2⟩
theorem Wrote.is {B b : Nat} {bs : List Value} {w w1 : World} (h : Wrote B b bs w w1) : Lib.IsBuilderF 99 5 B b bs w1 := .inr h.1

/-- A round of a range with a builder: what 'next' hands, and what a write of the letter's piece makes of it. -/
theorem EscAt.next {wo wr : World} {N k : Nat} {s : ByteArray} {f pos : Nat} {acc : List UInt8} (h : EscAt wo N k s (f + 1) pos acc wr) (hp : pos < s.size) :
    ∃ (c : Nat) (W1 : World), c ≤ 1114111 ∧ Lib.validRune (c : Int) = true ∧ (∀ ty, (Instr.next (.pointer (some ⟨N, 0, none⟩)) true ty).run Tryd.prog wr = .ok (.tuple #[.bool true, .int .i64 (pos : Int), .int .i32 (c : Int)]) W1) ∧
      Lib.IsBuilderF 99 5 wo.heap.size wo.heap.size (Lib.byteCells acc) W1 ∧ wo.heap.size ≤ W1.heap.size ∧ Below wo.heap.size wo W1 ∧
      (∀ W2, Wrote wo.heap.size wo.heap.size (Lib.byteCells (acc ++ piece k (c : Int) pos)) W1 W2 → ∃ pos', EscAt wo N k s f pos' (acc ++ piece k (c : Int) pos) W2) := by
  have hit2 := Lib.iterAt_heap wr N s pos (pos + (Utf8.decode s pos).2) h.it
  have hb2 := Lib.below_iterAt h.below (k := N) (by have := h.lt; omega) s (pos + (Utf8.decode s pos).2)
  refine ⟨(Utf8.decode s pos).1, wr.iterAt N s (pos + (Utf8.decode s pos).2), rune_ok s pos, rune_validAt s pos,
    fun ty => Lib.run_next_any_at wr N s pos ty h.it hp, h.bld.iterAt h.it _, hb2.size, hb2, ?_⟩
  intro W2 hw
  have hwd := Lib.width_pos s pos
  refine ⟨pos + (Utf8.decode s pos).2, hw.2.2.iter hit2 (by have := h.lt; omega), h.lt, hw.is, hb2.trans hw.2.1, ?_, by have := h.fuel; omega, ?_⟩
  · rw [← h.eq]; simp [esc, hp]
  · have h1 := piece_len k ((Utf8.decode s pos).1 : Int) pos
    have h2 := h.len
    simp only [List.length_append]
    omega
theorem EscAt.stop {wo wr : World} {N k : Nat} {s : ByteArray} {f pos : Nat} {acc : List UInt8} (h : EscAt wo N k s f pos acc wr) (hp : ¬ pos < s.size) :
    acc = escT k s ∧ ∀ ty, (Instr.next (.pointer (some ⟨N, 0, none⟩)) true ty).run Tryd.prog wr = .ok (.tuple #[.bool false]) wr :=
  ⟨by rw [← h.eq, esc_end _ _ _ _ _ hp], fun ty => Lib.run_next_end_at wr N s pos ty h.it hp⟩
theorem EscAt.start (wo w1 : World) (k : Nat) (s : ByteArray) (hb : Lib.IsBuilderF 99 5 wo.heap.size wo.heap.size (Lib.byteCells (escHead k)) w1) (hbl : Below wo.heap.size wo w1) (hs : wo.heap.size < w1.heap.size) :
    EscAt wo w1.heap.size k s (s.size + 1) 0 (escHead k) (w1.iter s 0) where
  it := World.iter_heap w1 s 0
  lt := hs
  bld := hb.alloc _
  below := hbl.alloc hbl.size _
  eq := rfl
  fuel := by omega
  len := by unfold escHead; split <;> simp
end Go.Proofs.YtaajhionmdjhjaaDoor
