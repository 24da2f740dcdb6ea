/- Rows of labels that the call has made. -/
import Derived.Test.YtobbfenkdnaanaaGreatDoorSpSA
import Derived.Test.YtobbfenkdnaanaaGreatDoorBefA
set_option linter.unusedVariables false
set_option linter.unusedSimpArgs false
namespace Go.Proofs.YtobbfenkdnaanaaGreatDoor
open Go.RowKit Go.Maps Go.WideMaps Go.Sort

def cellsL : LL → List Value
  | [] => []
  | p :: l => .string p.1 :: .string p.2 :: cellsL l
theorem cellsL_length : ∀ l : LL, (cellsL l).length = l.length * 2
  | [] => rfl
  | p :: l => by
    have := cellsL_length l
    simp only [cellsL, List.length_cons, this]
    omega
theorem cellsL_append : ∀ l l' : LL, cellsL (l ++ l') = cellsL l ++ cellsL l'
  | [], l' => rfl
  | p :: l, l' => by simp only [List.cons_append, cellsL, cellsL_append l l']
theorem cellsL_get : ∀ (l : LL) (i : Nat) (h : i < l.length), (cellsL l)[i * 2]? = some (.string (l[i]'h).1) ∧ (cellsL l)[i * 2 + 1]? = some (.string (l[i]'h).2)
  | [], i, h => by simp at h
  | p :: l, 0, h => by simp [cellsL]
  | p :: l, i + 1, h => by
    have h' : i < l.length := by simpa using h
    have := cellsL_get l i h'
    rw [show (i + 1) * 2 = i * 2 + 1 + 1 by omega]
    simp only [cellsL, List.getElem?_cons_succ, List.getElem_cons_succ]
    exact this
theorem cellsL_one : ∀ (l : LL), ∀ u ∈ cellsL l, u.oneCell' = true
  | [], u, h => by cases h
  | p :: l, u, h => by
    simp only [cellsL, List.mem_cons] at h
    rcases h with rfl | rfl | h
    · simp [Value.oneCell']
    · simp [Value.oneCell']
    · exact cellsL_one l u h
theorem addr_add (b off j : Nat) : (⟨b, off, none⟩ : Addr).add j = ⟨b, off + j, none⟩ := by
  unfold Addr.add
  split
  · rename_i h; subst h; rfl
  · rfl
theorem labs_cells {w : World} {b off : Nat} {l : LL} (hc : ∀ i (h : i < l.length), w.cell? ⟨b, off + i * 2, none⟩ = some (.string (l[i]'h).1) ∧ w.cell? ⟨b, off + i * 2 + 1, none⟩ = some (.string (l[i]'h).2)) :
    ∀ (j : Nat) (u : Value), (cellsL l)[j]? = some u → w.cell? ((⟨b, off, none⟩ : Addr).add j) = some u := by
  intro j u hu
  have hj : j < (cellsL l).length := (List.getElem?_eq_some_iff.1 hu).1
  rw [cellsL_length] at hj
  have hi : j / 2 < l.length := by omega
  rw [addr_add]
  rcases (show j = j / 2 * 2 ∨ j = j / 2 * 2 + 1 by omega) with e | e
  · rw [e] at hu ⊢
    rw [(cellsL_get l (j / 2) hi).1] at hu
    rw [← hu]
    exact (hc (j / 2) hi).1
  · rw [e] at hu ⊢
    rw [(cellsL_get l (j / 2) hi).2] at hu
    rw [← hu]
    exact (hc (j / 2) hi).2
/-- The slice owns a row of these labels. -/
def RowLb (w : World) (base : Nat) (v : Value) (l : LL) : Prop := w.ownsRow base 70 2 v l.length (cellsL l)
theorem RowLb.labs {w : World} {base g cap n : Nat} {l : LL} (h : RowLb w base (.slice (some ⟨g, 0, none⟩) n cap) l) : Labs w (some ⟨g, 0, none⟩) l ∧ n = l.length := by
  have hlt := World.ownsRow.lt h g rfl
  have h' : w.ownsRow base 70 2 (.slice (some ⟨g, 0, none⟩) n cap) l.length (cellsL l) := h
  have hn : n = l.length := by
    rcases h'.2 with ⟨h0, _⟩ | ⟨g', cap', cur, hv, _⟩
    · cases h0
    · cases hv; rfl
  subst hn
  refine ⟨.inr ⟨g, 0, rfl, hlt.2, fun i hi => ?_⟩, rfl⟩
  have e1 := h'.cellAt (i * 2) (by omega)
  have e2 := h'.cellAt (i * 2 + 1) (by omega)
  have := cellsL_get l i hi
  rw [Nat.zero_add]
  exact ⟨e1.trans this.1, e2.trans this.2⟩
theorem rowLb_empty (w : World) : RowLb (w.alloc (.cells #[] 70)) w.heap.size (.slice (some ⟨w.heap.size, 0, none⟩) 0 0) [] := by
  refine ⟨rfl, .inr ⟨w.heap.size, 0, #[], rfl, Nat.le_refl _, ?_, Nat.le_refl _, Nat.zero_le _, rfl, rfl⟩⟩
  show (w.heap.push _)[w.heap.size]? = _
  simp
theorem RowLb.form {w : World} {base : Nat} {v : Value} {l : LL} (h : RowLb w base v l) (hv : v ≠ .slice none 0 0) : ∃ g cap, v = .slice (some ⟨g, 0, none⟩) l.length cap ∧ base ≤ g ∧ g < w.heap.size := by
  rcases h.2 with ⟨hnil, _⟩ | ⟨g, cap, cur, hv', hbase, hb, h1, h2, h3, h4⟩
  · exact absurd hnil hv
  · exact ⟨g, cap, hv', hbase, (Array.getElem?_eq_some_iff.1 hb).1⟩
end Go.Proofs.YtobbfenkdnaanaaGreatDoor
