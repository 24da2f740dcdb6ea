/- An argument that is a slice of numbers of 64 bits: what lies in memory. -/
import Derived.Test.YtobbfenkdnaanaaGreatDoorFpB
import Derived.ChangeSlices
import Derived.ProofKit
import Derived.DeepKeys
set_option linter.unusedVariables false
set_option linter.unusedSimpArgs false
namespace Go.Proofs.YtobbfenkdnaanaaGreatDoor
open Go.ChangeShapes Go.WideShapes Go.ChangeAt Go.RowKit Go.ChangeMaps

theorem ucells25 : Tryz.prog.cellsOf 25 = 1 := by kernel_rfl
theorem cell_spotU {w : World} {b off k : Nat} {v : Value} (h : w.cell? ⟨b, off, some k⟩ = some v) : False := by
  unfold World.cell? at h
  split at h
  · simp at h
  · cases h

theorem open_nums {H : Type} {enc : TypeId × Value → H} {W : World} {v : Value} {d : DataW H} {p : List MemPlace} (hv : ∃ a len cap, v = .slice a len cap) (h : DataW.Trod enc Tryz.prog W 0 (fun _ => true) true 39 v d p) :
    ∃ (a : Option Addr) (cap : Nat) (l : List Int), v = .slice a l.length cap ∧ Nums W a l ∧ (∀ x ∈ l, In64 x) ∧ l.length ≤ maxLen := by
  obtain ⟨a0, len0, cap0, rfl⟩ := hv
  obtain ⟨n, t0⟩ := h
  rcases open_ints Tryz.underlying39 Tryz.underlying25 ucells25 t0 with ⟨hc, hx⟩ | ⟨a, len, cap, zs, hc, _, hl, hm, hz, hx, hall, hwf⟩
  · simp only [Value.cells, List.cons.injEq, and_true] at hc
    exact ⟨none, 0, [], hc, .inl rfl, (fun x h => by cases h), Nat.zero_le _⟩
  · simp only [Value.cells, List.cons.injEq, and_true] at hc
    simp only [if_true] at hz
    have hlen : (zs.take len).length = len := by rw [List.length_take]; omega
    refine ⟨some a, cap, zs.take len, by rw [hlen]; exact hc, ?_, fun x hx => ?_, by rw [hlen]; omega⟩
    · by_cases h0 : len = 0
      · left; rw [h0]; rfl
      · obtain ⟨b, off, sp⟩ := a
        have hz0 := hall 0 (by omega)
        cases sp with
        | some k =>
          exfalso
          have : (⟨b, off, some k⟩ : Addr).add 0 = ⟨b, off, some k⟩ := by simp [Addr.add]
          rw [this] at hz0
          exact cell_spotU hz0
        | none =>
          have hadd : ∀ j, (⟨b, off, none⟩ : Addr).add j = ⟨b, off + j, none⟩ := fun j => by
            unfold Addr.add
            split
            · rename_i h; subst h; rfl
            · rfl
          refine .inr ⟨b, off, rfl, ?_, fun i hi => ?_⟩
          · exact World.block_lt_of_cell? W _ hz0 |> fun h => by simpa [hadd] using h
          · rw [hlen] at hi
            have h1 := hall i (by omega)
            rw [hadd] at h1
            rw [h1, List.getElem_take]
            simp [List.getD, List.getElem?_eq_getElem (show i < zs.length by omega)]
    · have h1 := hwf x (List.mem_of_mem_take hx)
      have a1 : IntKind.u64.min = 0 := by decide
      have a2 : IntKind.u64.max = 18446744073709551615 := by decide
      simp [Lit.wf, a1, a2] at h1
      exact ⟨h1.1, by omega⟩
end Go.Proofs.YtobbfenkdnaanaaGreatDoor
