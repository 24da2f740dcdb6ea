/- An argument that is a slice of alerts: what lies in memory. -/
import Derived.Test.YtobbfenkdnaanaaGreatDoorOpenA
import Derived.Test.YtobbfenkdnaanaaGreatDoorAsB
import Derived.Deep.Slices
set_option linter.unusedVariables false
set_option linter.unusedSimpArgs false
namespace Go.Proofs.YtobbfenkdnaanaaGreatDoor
open Go.ChangeShapes Go.WideShapes Go.ChangeAt Go.RowKit Go.Deep

instance : Inhabited AlD := ⟨⟨none, 0, [], none, 0, [], 0, 0⟩⟩
def AtA (W : World) (p : Addr) (x : AlD) : Prop :=
  W.cell? p = some (.slice x.a x.la.length x.cap) ∧ W.cell? (p.add 1) = some (.slice x.a' x.lb.length x.cap') ∧ W.cell? (p.add 2) = some (.int .i64 x.s) ∧ W.cell? (p.add 3) = some (.int .i64 x.e) ∧
    Labs W x.a x.la ∧ Labs W x.a' x.lb ∧ x.la.length ≤ maxLen ∧ x.lb.length ≤ maxLen

theorem open_alerts {H : Type} {enc : TypeId × Value → H} {W : World} {v : Value} {d : DataW H} {p : List MemPlace} (hv : ∃ a len cap, v = .slice a len cap) (h : DataW.Trod enc Tryz.prog W 0 (fun _ => true) true 49 v d p) :
    ∃ (a : Option Addr) (cap : Nat) (xs : List AlD), v = .slice a xs.length cap ∧ AlsIn W a xs ∧ xs.length ≤ maxLen ∧ ∀ x ∈ xs, x.la.length ≤ maxLen ∧ x.lb.length ≤ maxLen := by
  obtain ⟨a0, len0, cap0, rfl⟩ := hv
  obtain ⟨n, t0⟩ := h
  rcases open_slice Tryz.underlying49 t0 with ⟨hc, hx⟩ | ⟨a, len, cap, m, k, D, Pl, hc, _, hl, hm, hmm, hx, hall⟩
  · simp only [Value.cells, List.cons.injEq, and_true] at hc
    exact ⟨none, 0, [], hc, .inl rfl, Nat.zero_le _, fun x hx => by cases hx⟩
  · simp only [Value.cells, List.cons.injEq, and_true] at hc
    simp only [if_true] at hmm
    subst hmm
    have each : ∀ i, i < m → ∃ x : AlD, AtA W (a.add (i * 4)) x := fun i hi => by
      obtain ⟨cs, h1, h2⟩ := hall i hi
      rw [cells31] at h1
      obtain ⟨_, hlen, hcell⟩ := World.cells?_some h1
      obtain ⟨b, b', c, c', l, l', s, e, hv, hl1, hl2, hm1, hm2⟩ := open_alert (enc := enc) (v := .agg cs.toArray) ⟨cs.toArray, rfl, by rw [cells31]; simpa using hlen⟩ ⟨k, by simpa [Value.cells] using h2⟩
      injection hv with hv
      have hcs : cs = [.slice b l.length c, .slice b' l'.length c', .int .i64 s, .int .i64 e] := by
        have := congrArg Array.toList hv
        simpa using this
      subst hcs
      have e0 := hcell 0 (by omega)
      have e1 := hcell 1 (by omega)
      have e2 := hcell 2 (by omega)
      have e3 := hcell 3 (by omega)
      refine ⟨⟨b, c, l, b', c', l', s, e⟩, ?_, by simpa using e1, by simpa using e2, by simpa using e3, hl1, hl2, hm1, hm2⟩
      have e0' : W.cell? ((a.add (i * 4)).add 0) = some (.slice b l.length c) := by simpa using e0
      rwa [show (a.add (i * 4)).add 0 = a.add (i * 4) by simp [Addr.add]] at e0'
    obtain ⟨f, hf⟩ := choose_lt each
    refine ⟨some a, m, (List.range len).map f, by rw [List.length_map, List.length_range]; exact hc, ?_, by rw [List.length_map, List.length_range]; omega, ?_⟩
    · by_cases h0 : len = 0
      · subst h0; exact .inl rfl
      · obtain ⟨b, off, sp⟩ := a
        have hz := (hf 0 (by omega)).1
        cases sp with
        | some j =>
          exfalso
          have : (⟨b, off, some j⟩ : Addr).add (0 * 4) = ⟨b, off, some j⟩ := by simp [Addr.add]
          rw [this] at hz
          exact cell_spot hz
        | none =>
          have hadd : ∀ o j, (⟨b, o, none⟩ : Addr).add j = ⟨b, o + j, none⟩ := fun o j => by
            unfold Addr.add
            split
            · rename_i h; subst h; rfl
            · rfl
          refine .inr ⟨b, off, rfl, ?_, fun i hi => ?_⟩
          · exact World.block_lt_of_cell? W _ hz |> fun h => by simpa [hadd] using h
          · rw [List.length_map, List.length_range] at hi
            obtain ⟨g0, g1, g2, g3, g4, g5, _, _⟩ := hf i (by omega)
            rw [hadd] at g0 g1 g2 g3
            rw [hadd] at g1 g2 g3
            simp only [List.getElem_map, List.getElem_range]
            exact ⟨g0, g1, g2, g3, g4, g5⟩
    · intro x hx
      obtain ⟨i, hi, rfl⟩ := List.mem_map.1 hx
      have := hf i (by have := List.mem_range.1 hi; omega)
      exact ⟨this.2.2.2.2.2.2.1, this.2.2.2.2.2.2.2⟩
end Go.Proofs.YtobbfenkdnaanaaGreatDoor
