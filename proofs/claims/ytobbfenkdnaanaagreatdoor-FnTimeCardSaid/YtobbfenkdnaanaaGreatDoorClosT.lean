/- The closed facts of the law FnTime, each by itself. -/
import Derived.Test.YtobbfenkdnaanaaGreatDoorRows
import Derived.JoinedOf
import Derived.ProofKit
import Derived.OpenShut
set_option linter.unusedVariables false
set_option linter.unusedSimpArgs false
namespace Go.Proofs.YtobbfenkdnaanaaGreatDoor
open Go

set_option maxHeartbeats 100000000 in
theorem closedT : joinedFacts Tryz.prog 9 Tryz.f9 Rows.fnTimeSpec Rows.fnTimeRow = true := by
  unfold joinedFacts
  simp only [Bool.and_eq_true]
  repeat' apply And.intro
  all_goals (as_aux_lemma => kernel_rfl)
end Go.Proofs.YtobbfenkdnaanaaGreatDoor
