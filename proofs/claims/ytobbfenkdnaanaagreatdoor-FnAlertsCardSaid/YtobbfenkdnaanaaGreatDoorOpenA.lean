/- An argument that is an alert (a struct of two slices of labels and two numbers): what lies in memory. -/
import Derived.Test.YtobbfenkdnaanaaGreatDoorOpenL
import Derived.ChangeArms
import Derived.ProofKit
set_option linter.unusedVariables false
set_option linter.unusedSimpArgs false
namespace Go.Proofs.YtobbfenkdnaanaaGreatDoor
open Go.ChangeShapes Go.WideShapes Go.ChangeAt Go.RowKit Go.Deep

theorem cells31 : Tryz.prog.cellsOf 31 = 4 := by kernel_rfl
theorem lcells22 : Tryz.prog.cellsOf 22 = 1 := by kernel_rfl
theorem lcells2 : Tryz.prog.cellsOf 2 = 1 := by kernel_rfl

theorem open_labs_cell {H : Type} {enc : TypeId × Value → H} {W : World} {v : Value} {n : Nat} {x : DataW H × List MemPlace} (h : DataW.trod enc Tryz.prog W 0 (fun _ => true) true n 22 [v] = some x) :
    ∃ (a : Option Addr) (cap : Nat) (l : LL), v = .slice a l.length cap ∧ Labs W a l ∧ (a = none → cap = 0) ∧ l.length ≤ maxLen := by
  have hv : ∃ a len cap, v = .slice a len cap := by
    rcases open_slice_pairs Tryz.underlying22 Tryz.underlying70 lcells70 rfl rfl lcells9 lcells9 h with ⟨hc, hx⟩ | ⟨a, len, cap, m, k, V0, V1, D0, D1, P0, P1, hc, _⟩
    · simp only [List.cons.injEq, and_true] at hc
      exact ⟨_, _, _, hc⟩
    · simp only [List.cons.injEq, and_true] at hc
      exact ⟨_, _, _, hc⟩
  obtain ⟨a, len, cap, rfl⟩ := hv
  exact open_labs (d := x.1) (p := x.2) ⟨a, len, cap, rfl⟩ ⟨n, h⟩

theorem open_alert {H : Type} {enc : TypeId × Value → H} {W : World} {v : Value} {d : DataW H} {p : List MemPlace} (hv : ∃ cs : Array Value, v = .agg cs ∧ cs.size = Tryz.prog.cellsOf 31) (h : DataW.Trod enc Tryz.prog W 0 (fun _ => true) true 31 v d p) :
    ∃ (a a' : Option Addr) (cap cap' : Nat) (l l' : LL) (s e : Int), v = .agg #[.slice a l.length cap, .slice a' l'.length cap', .int .i64 s, .int .i64 e] ∧ Labs W a l ∧ Labs W a' l' ∧ l.length ≤ maxLen ∧ l'.length ≤ maxLen := by
  obtain ⟨cs, rfl, hsz⟩ := hv
  rw [cells31] at hsz
  obtain ⟨n, t0⟩ := h
  obtain ⟨xs, m, _, _, hlen, hxl, hf⟩ := DataW.trod_struct Tryz.underlying31 t0
  obtain ⟨l⟩ := cs
  have hl4 : l.length = 4 := hsz
  clear hsz
  have f0 := hf 0 _ rfl
  have f1 := hf 1 _ rfl
  have f2 := hf 2 _ rfl
  have f3 := hf 3 _ rfl
  clear hf t0 hlen
  have hx4 : xs.length = 4 := hxl
  clear hxl
  obtain ⟨v0, v1, v2, v3, rfl⟩ : ∃ v0 v1 v2 v3, l = [v0, v1, v2, v3] := by
    rcases l with _ | ⟨v0, _ | ⟨v1, _ | ⟨v2, _ | ⟨v3, _ | ⟨v4, tl⟩⟩⟩⟩⟩
    all_goals first
    | exact ⟨_, _, _, _, rfl⟩
    | (simp at hl4)
  obtain ⟨y0, y1, y2, y3, rfl⟩ : ∃ y0 y1 y2 y3, xs = [y0, y1, y2, y3] := by
    rcases xs with _ | ⟨v0, _ | ⟨v1, _ | ⟨v2, _ | ⟨v3, _ | ⟨v4, tl⟩⟩⟩⟩⟩
    all_goals first
    | exact ⟨_, _, _, _, rfl⟩
    | (simp at hx4)
  clear hl4 hx4
  simp [Value.cells, lcells22, lcells2] at f0 f1 f2 f3
  obtain ⟨a, cap, l, rfl, hl, _, hm⟩ := open_labs_cell f0
  obtain ⟨a', cap', l', rfl, hl', _, hm'⟩ := open_labs_cell f1
  obtain ⟨s, h2, _, _⟩ := DataW.trod_int Tryz.underlying2 f2
  obtain ⟨e, h3, _, _⟩ := DataW.trod_int Tryz.underlying2 f3
  simp only [List.cons.injEq, and_true] at h2 h3
  subst h2 h3
  exact ⟨a, a', cap, cap', l, l', s, e, rfl, hl, hl', hm, hm'⟩
end Go.Proofs.YtobbfenkdnaanaaGreatDoor
