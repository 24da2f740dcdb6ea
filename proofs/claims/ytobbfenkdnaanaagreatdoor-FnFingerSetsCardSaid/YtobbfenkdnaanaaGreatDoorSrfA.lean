/- slices.SortFunc over labels, by contract. -/
import Derived.Test.YtobbfenkdnaanaaGreatDoorSrf
import Derived.Test.YtobbfenkdnaanaaGreatDoorMrgA
set_option linter.unusedVariables false
set_option linter.unusedSimpArgs false
namespace Go.Proofs.YtobbfenkdnaanaaGreatDoor
open Go.RowKit Go.Maps Go.WideMaps Go.Sort Go.Lib

theorem ltOf_cfN : ltOf cfN = ltN := by
  funext p q
  exact cfN_lt p q

theorem sorts_calls (g cap : Nat) (l : LL) (w : World) (hH : HoldsK encL 2 w g 0 l.toArray) (hg : g < w.heap.size) (hl : l.length ≤ 1000000) :
    Calls Tryz.prog 78 #[.slice (some ⟨g, 0, none⟩) l.length cap, .func (.func 79) #[] #[]] w fun e w' => e = .returned (.tuple #[]) ∧ ∃ d' n os, PermIn 0 l.length l.toArray d' ∧ SortedIn ltN 0 l.length d' ∧ w' = sortWorldK encL 2 w g 0 n d' os := by
  have hcmp : CmpLays Tryz.prog 79 #[] encL 2 cfN g 0 l.toArray.size w := fun _ _ _ _ x y => cmp79_calls x y _
  have h := AnyQ.slices_SortFunc Tryz.sortF 2 (fun _ => by kernel_rfl) (fun _ => by kernel_rfl) encL encL_len encL_one cfN (by rw [ltOf_cfN]; exact swo_ltN) 79 #[] g 0 cap l.toArray w (enters_of Tryz.func79 (by kernel_rfl) rfl) hcmp hH hg (by rw [List.size_toArray]; omega)
  rw [ltOf_cfN] at h
  exact h
end Go.Proofs.YtobbfenkdnaanaaGreatDoor
