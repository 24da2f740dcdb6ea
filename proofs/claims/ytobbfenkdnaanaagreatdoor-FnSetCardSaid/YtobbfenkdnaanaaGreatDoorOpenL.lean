/- An argument that is a slice of labels: what lies in memory. -/
import Derived.Test.YtobbfenkdnaanaaGreatDoorLabA
import Derived.Deep.SlicePairs
set_option linter.unusedVariables false
set_option linter.unusedSimpArgs false
namespace Go.Proofs.YtobbfenkdnaanaaGreatDoor
open Go.ChangeShapes Go.WideShapes Go.ChangeAt Go.RowKit Go.Deep

theorem lcells70 : Tryz.prog.cellsOf 70 = 2 := by kernel_rfl
theorem lcells9 : Tryz.prog.cellsOf 9 = 1 := by kernel_rfl
def strV : Value → ByteArray
  | .string s => s
  | _ => ⟨#[]⟩
theorem cell_spot {w : World} {b off k : Nat} {v : Value} (h : w.cell? ⟨b, off, some k⟩ = some v) : False := by
  unfold World.cell? at h
  split at h
  · simp at h
  · cases h

theorem open_labs {H : Type} {enc : TypeId × Value → H} {W : World} {v : Value} {d : DataW H} {p : List MemPlace} (hv : ∃ a len cap, v = .slice a len cap) (h : DataW.Trod enc Tryz.prog W 0 (fun _ => true) true 22 v d p) :
    ∃ (a : Option Addr) (cap : Nat) (l : LL), v = .slice a l.length cap ∧ Labs W a l ∧ (a = none → cap = 0) ∧ l.length ≤ maxLen := by
  obtain ⟨a0, len0, cap0, rfl⟩ := hv
  obtain ⟨n, t0⟩ := h
  rcases open_slice_pairs Tryz.underlying22 Tryz.underlying70 lcells70 rfl rfl lcells9 lcells9 t0 with ⟨hc, hx⟩ | ⟨a, len, cap, m, k, V0, V1, D0, D1, P0, P1, hc, _, hl, hm, hmm, hx, hall⟩
  · simp only [Value.cells, List.cons.injEq, and_true] at hc
    exact ⟨none, 0, [], hc, .inl rfl, fun _ => rfl, Nat.zero_le _⟩
  · simp only [Value.cells, List.cons.injEq, and_true] at hc
    simp only [if_true] at hmm
    subst hmm
    have hs : ∀ i, i < m → V0 i = .string (strV (V0 i)) ∧ V1 i = .string (strV (V1 i)) := fun i hi => by
      obtain ⟨s, h1, _, _⟩ := DataW.trod_string Tryz.underlying9 (hall i hi).2.2.1
      obtain ⟨s', h1', _, _⟩ := DataW.trod_string Tryz.underlying9 (hall i hi).2.2.2
      simp only [List.cons.injEq, and_true] at h1 h1'
      rw [h1, h1']
      exact ⟨rfl, rfl⟩
    refine ⟨some a, m, (List.range len).map fun i => (strV (V0 i), strV (V1 i)), by rw [List.length_map, List.length_range]; exact hc, ?_, fun h => (by cases h), by rw [List.length_map, List.length_range]; omega⟩
    by_cases h0 : len = 0
    · subst h0; exact .inl rfl
    · obtain ⟨b, off, sp⟩ := a
      have hz := (hall 0 (by omega)).1
      cases sp with
      | some k =>
        exfalso
        have : (⟨b, off, some k⟩ : Addr).add (0 * 2) = ⟨b, off, some k⟩ := by simp [Addr.add]
        rw [this] at hz
        exact cell_spot hz
      | none =>
        have hadd : ∀ j, (⟨b, off, none⟩ : Addr).add j = ⟨b, off + j, none⟩ := fun j => by
          unfold Addr.add
          split
          · rename_i h; subst h; rfl
          · rfl
        refine .inr ⟨b, off, rfl, ?_, fun i hi => ?_⟩
        · exact World.block_lt_of_cell? W _ hz |> fun h => by simpa [hadd] using h
        · rw [List.length_map, List.length_range] at hi
          have h1 := hall i (by omega)
          rw [hadd, hadd] at h1
          simp only [List.getElem_map, List.getElem_range]
          rw [← (hs i (by omega)).1, ← (hs i (by omega)).2]
          exact ⟨h1.1, by rw [Nat.add_assoc]; exact h1.2.1⟩
end Go.Proofs.YtobbfenkdnaanaaGreatDoor
