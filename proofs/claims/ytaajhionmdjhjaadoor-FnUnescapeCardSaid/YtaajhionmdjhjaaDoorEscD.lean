/- Escaped names are names by the older rules; impl.Escape and the reference's, whole. -/
import Derived.Test.YtaajhionmdjhjaaDoorEscC
set_option linter.unusedVariables false
set_option linter.unusedSimpArgs false
namespace Go.Proofs.YtaajhionmdjhjaaDoor
open Go.RowKit

/-- The letters of a list stand rightly, from place n on. -/
def LegAt (n : Nat) (l : List UInt8) : Prop := ∀ i (h : i < l.length), LegOk ((l[i]'h).toNat : Int) (n + i) true

theorem legOk_up {c : Int} {p q : Nat} (h : LegOk c p true) (hq : 0 < q) : LegOk c q true := by
  rcases h with h | h | h | h | h
  · exact .inl h
  · exact .inr (.inl h)
  · exact .inr (.inr (.inl h))
  · exact .inr (.inr (.inr (.inl h)))
  · exact .inr (.inr (.inr (.inr ⟨h.1, h.2.1, hq⟩)))
theorem legAt_append {n : Nat} {a b : List UInt8} (ha : LegAt n a) (hb : LegAt (n + a.length) b) : LegAt n (a ++ b) := by
  intro i h
  rw [List.length_append] at h
  by_cases hi : i < a.length
  · rw [List.getElem_append_left hi]; exact ha i hi
  · rw [List.getElem_append_right (by omega)]
    have := hb (i - a.length) (by omega)
    rwa [show n + a.length + (i - a.length) = n + i by omega] at this
theorem legAt_up {n m : Nat} {l : List UInt8} (h : LegAt n l) (hm : 0 < m) : LegAt m l := fun i hi => legOk_up (h i hi) (by omega)
theorem legAt_us (n : Nat) (l : List UInt8) (h : ∀ x ∈ l, x = 95 ∨ x = 100 ∨ x = 111 ∨ x = 116) : LegAt n l := by
  intro i hi
  have := h _ (List.getElem_mem hi)
  unfold LegOk
  rcases this with e | e | e | e <;> rw [e] <;> simp

theorem hexD_leg (d : Nat) (h : d < 16) : LegOk (hexD d) 1 true := by
  unfold hexD LegOk
  split <;> omega
theorem hexR_leg : ∀ (f u : Nat) (acc : List Int), u < 16 ^ (f + 1) → (∀ x ∈ acc, LegOk x 1 true) → ∀ x ∈ hexR f u acc, LegOk x 1 true
  | 0, u, acc, hu, ha => by
    intro x hx
    simp only [hexR, List.mem_cons] at hx
    rcases hx with rfl | hx
    · exact hexD_leg u (by simpa using hu)
    · exact ha x hx
  | f + 1, u, acc, hu, ha => by
    intro x hx
    unfold hexR at hx
    split at hx
    · rename_i h16
      simp only [List.mem_cons] at hx
      rcases hx with rfl | hx
      · exact hexD_leg u h16
      · exact ha x hx
    · refine hexR_leg f (u / 16) _ ?_ ?_ x hx
      · rw [Nat.pow_succ] at hu
        exact Nat.div_lt_of_lt_mul (by omega)
      · intro y hy
        simp only [List.mem_cons] at hy
        rcases hy with rfl | hy
        · exact hexD_leg _ (by omega)
        · exact ha y hy
theorem hexT_leg (c : Nat) (hc : c ≤ 1114111) : LegAt 1 (hexT c).data.toList := by
  intro i hi
  rw [hexT, strOfNums_data] at hi
  have hm := hexR_leg 8 c [] (by omega) (fun x hx => by cases hx)
  have hi' : i < (hexL c).length := by simpa using hi
  have h1 := hm _ (List.getElem_mem (l := hexL c) hi')
  have h2 : ((hexT c).data.toList[i]'(by rw [hexT, strOfNums_data]; exact hi)) = UInt8.ofNat ((hexL c)[i]'hi').toNat := by
    simp [hexT, strOfNums_data]
  rw [h2]
  have h3 := legOk_lt h1
  have h4 : ((UInt8.ofNat ((hexL c)[i]'hi').toNat).toNat : Int) = (hexL c)[i]'hi' := by rw [UInt8.toNat_ofNat']; omega
  rw [h4]
  exact legOk_up h1 (by omega)

theorem oneB_leg {c : Int} {n pos : Nat} (h : LegOk c pos true) (hn : 0 < n ∨ n = pos) : LegAt n (oneB c) := by
  intro i hi
  have hl := legOk_lt h
  simp only [oneB, List.length_singleton] at hi
  obtain rfl : i = 0 := by omega
  have h4 : ((UInt8.ofNat c.toNat).toNat : Int) = c := by rw [UInt8.toNat_ofNat']; omega
  show LegOk (((oneB c)[0]'_).toNat : Int) (n + 0) true
  simp only [oneB, List.getElem_cons_zero]
  rw [h4]
  rcases hn with hn | rfl
  · exact legOk_up h (by omega)
  · exact h

theorem piece_leg' (k : Nat) (hk : k = 1 ∨ k = 2 ∨ k = 3) (c : Nat) (hc : c ≤ 1114111) (pos n : Nat) (hn : 0 < n ∨ n = pos) : LegAt n (piece k (c : Int) pos) ∧ piece k (c : Int) pos ≠ [] := by
  unfold piece
  split
  · split
    · rename_i h; exact ⟨oneB_leg h hn, by simp [oneB]⟩
    · exact ⟨legAt_us _ _ (by simp), by simp⟩
  · split
    · exact ⟨legAt_us _ _ (by simp), by simp⟩
    · split
      · exact ⟨legAt_us _ _ (by simp), by simp⟩
      · split
        · rename_i h; exact ⟨oneB_leg h hn, by simp [oneB]⟩
        · split
          · exact ⟨legAt_us _ _ (by simp), by simp⟩
          · refine ⟨legAt_append (legAt_append (legAt_us _ _ (by simp)) ?_) (legAt_us _ _ (by simp)), by simp⟩
            rw [Int.toNat_natCast]
            exact legAt_up (hexT_leg c hc) (by simp)

theorem esc_leg (k : Nat) (hk : k = 1 ∨ k = 2 ∨ k = 3) (s : ByteArray) : ∀ (f pos : Nat) (acc : List UInt8), s.size < pos + f → LegAt 0 acc → (acc = [] → pos = 0) → (0 < s.size) → LegAt 0 (esc k s f pos acc) ∧ esc k s f pos acc ≠ []
  | 0, pos, acc, hf, ha, he, hs => ⟨ha, fun h => by have := he h; omega⟩
  | f + 1, pos, acc, hf, ha, he, hs => by
    unfold esc
    split
    · rename_i hp
      have hwd := Lib.width_pos s pos
      have hpc := piece_leg' k hk (Utf8.decode s pos).1 (rune_ok s pos) pos acc.length (by
        cases acc with
        | nil => exact .inr (he rfl).symm
        | cons a l => exact .inl (by simp))
      exact esc_leg k hk s f _ _ (by omega) (legAt_append ha (by rw [Nat.zero_add]; exact hpc.1)) (fun h => absurd (List.append_eq_nil_iff.1 h).2 hpc.2) hs
    · rename_i hp
      exact ⟨ha, fun h => by have := he h; omega⟩

theorem escT_legal (k : Nat) (hk : k = 1 ∨ k = 2 ∨ k = 3) (s : ByteArray) (h0 : s.size ≠ 0) : Legal ⟨(escT k s).toArray⟩ true := by
  have hh : LegAt 0 (escHead k) := by
    unfold escHead
    split
    · intro i hi
      have : i = 0 ∨ i = 1 ∨ i = 2 := by simp at hi; omega
      unfold LegOk
      rcases this with rfl | rfl | rfl <;> simp
    · intro i hi; simp at hi
  have h := esc_leg k hk s (s.size + 1) 0 (escHead k) (by omega) hh (fun _ => rfl) (by omega)
  have hsz : (⟨(escT k s).toArray⟩ : ByteArray).size = (escT k s).length := by simp [ByteArray.size]
  refine ⟨by rw [hsz]; exact List.length_pos_iff.2 h.2, fun i hi => ?_⟩
  rw [hsz] at hi
  have h1 := h.1 i hi
  rw [Nat.zero_add] at h1
  have h2 : bt (⟨(escT k s).toArray⟩ : ByteArray) (i : Int) = ((escT k s)[i]'hi).toNat := by
    rw [← bt_high _ i (by rw [hsz]; exact hi)]
    rfl
  rw [h2]
  exact h1
end Go.Proofs.YtaajhionmdjhjaaDoor
