/- slices.SortFunc's closure over labels, by name. -/
import Derived.Test.YtobbfenkdnaanaaGreatDoorSrtL
set_option linter.unusedVariables false
set_option linter.unusedSimpArgs false
namespace Go.Proofs.YtobbfenkdnaanaaGreatDoor
open Go.RowKit Go.Maps Go.WideMaps Go.Sort Go.Lib

def cfN (p q : ByteArray × ByteArray) : Int := if Op.bytesLess p.1.toList q.1.toList then -1 else if p.1.toList == q.1.toList then 0 else 1
theorem cfN_lt (p q : ByteArray × ByteArray) : decide (cfN p q < 0) = ltN p q := by
  rw [← ltN_is]
  unfold cfN
  cases Op.bytesLess p.1.toList q.1.toList with
  | true => rfl
  | false =>
    cases p.1.toList == q.1.toList <;> rfl

set_option maxHeartbeats 1000000 in
theorem cmp79_calls (p q : ByteArray × ByteArray) (W : World) : Calls Tryz.prog 79 #[.agg (encL p).toArray, .agg (encL q).toArray] W fun e w' => e = .returned (.int .i64 (cfN p q)) ∧ ∃ n os', w' = grow (W.drewN n) os' := by
  obtain ⟨x, u⟩ := p
  obtain ⟨y, v⟩ := q
  show Calls Tryz.prog 79 #[.agg #[.string x, .string u], .agg #[.string y, .string v]] W _
  cases h1 : Op.bytesLess x.toList y.toList with
  | true =>
    have HE := Aside0.mk (show cfN (x, u) (y, v) = -1 by unfold cfN; simp [h1])
    go_enter Tryz.func79, Tryz.ntmps79
    go_wp2
    go_ret
    exact ⟨by rw [HE.out]; rfl, 0, _, by rw [alloc_eq_grow, alloc_eq_grow, grow_grow]; rfl⟩
  | false =>
    cases h2 : (x.toList == y.toList) with
    | true =>
      have HE := Aside0.mk (show cfN (x, u) (y, v) = 0 by unfold cfN; simp only [h1, h2]; rfl)
      go_enter Tryz.func79, Tryz.ntmps79
      go_wp2
      go_ret
      exact ⟨by rw [HE.out]; rfl, 0, _, by rw [alloc_eq_grow, alloc_eq_grow, grow_grow]; rfl⟩
    | false =>
      have HE := Aside0.mk (show cfN (x, u) (y, v) = 1 by unfold cfN; simp only [h1, h2]; rfl)
      go_enter Tryz.func79, Tryz.ntmps79
      go_wp2
      go_ret
      exact ⟨by rw [HE.out]; rfl, 0, _, by rw [alloc_eq_grow, alloc_eq_grow, grow_grow]; rfl⟩
end Go.Proofs.YtobbfenkdnaanaaGreatDoor
