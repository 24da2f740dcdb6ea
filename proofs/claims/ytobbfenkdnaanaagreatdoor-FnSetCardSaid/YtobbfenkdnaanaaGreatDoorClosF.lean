/- The closed facts of the law FnSet, each by itself. -/
import Derived.Test.YtobbfenkdnaanaaGreatDoorRows
import Derived.JoinedOf
import Derived.ProofKit
import Derived.OpenShut
set_option linter.unusedVariables false
set_option linter.unusedSimpArgs false
namespace Go.Proofs.YtobbfenkdnaanaaGreatDoor
open Go

set_option maxHeartbeats 100000000 in
theorem closedF : joinedFacts Tryz.prog 8 Tryz.f8 Rows.fnSetSpec Rows.fnSetRow = true := by
  unfold joinedFacts
  simp only [Bool.and_eq_true]
  repeat' apply And.intro
  all_goals (as_aux_lemma => kernel_rfl)
end Go.Proofs.YtobbfenkdnaanaaGreatDoor
