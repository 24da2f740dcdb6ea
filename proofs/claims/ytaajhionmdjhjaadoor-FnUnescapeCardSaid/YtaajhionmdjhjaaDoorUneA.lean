/- The package's UnescapeName: nothing escaped. -/
import Derived.Test.YtaajhionmdjhjaaDoorUneP
import Derived.Test.YtaajhionmdjhjaaDoorBldC
import Derived.Test.YtaajhionmdjhjaaDoorCut
import Derived.WalkMore
set_option linter.unusedVariables false
set_option linter.unusedSimpArgs false
namespace Go.Proofs.YtaajhionmdjhjaaDoor
open Go.RowKit

set_option maxHeartbeats 1000000 in
set_option maxRecDepth 100000 in
/-- Without escaping, and by underscores: the text itself. -/
theorem unesc01_calls (k : Nat) (hk : k ≤ 1) (s : ByteArray) (w : World) :
    Calls Tryd.prog 67 #[.string s, .int .i64 (k : Int)] w fun e w' => e = .returned (.string s) ∧ w' = w := by
  by_cases he : s.size = 0
  · have c0 : ((s.size : Int) == 0) = true := by simp [he]
    clear he
    go_enter Tryd.func67, Tryd.ntmps67
    go_wp2
    go_ret
    exact ⟨rfl, rfl⟩
  · have c0 : ((s.size : Int) == 0) = false := beq_eq_false_iff_ne.2 (by omega)
    clear he
    rcases (show k = 0 ∨ k = 1 by omega) with rfl | rfl
    · show Calls Tryd.prog 67 #[.string s, .int .i64 0] w _
      go_enter Tryd.func67, Tryd.ntmps67
      go_wp2
      go_ret
      exact ⟨rfl, rfl⟩
    · show Calls Tryd.prog 67 #[.string s, .int .i64 1] w _
      go_enter Tryd.func67, Tryd.ntmps67
      go_wp2
      go_ret
      exact ⟨rfl, rfl⟩

set_option maxHeartbeats 1000000 in
set_option maxRecDepth 100000 in
/-- By values, of a text that does not begin as an escaped one: the text itself. -/
theorem unesc3_plain (s : ByteArray) (hp : Lib.hasPrefix s.data.toList [85, 95, 95] = false) (w : World) :
    Calls Tryd.prog 67 #[.string s, .int .i64 3] w fun e w' => e = .returned (.string s) ∧ w' = w := by
  have HP := Aside0.mk hp
  clear hp
  by_cases he : s.size = 0
  · have c0 : ((s.size : Int) == 0) = true := by simp [he]
    clear he
    go_enter Tryd.func67, Tryd.ntmps67
    go_wp2
    go_ret
    exact ⟨rfl, rfl⟩
  · have c0 : ((s.size : Int) == 0) = false := beq_eq_false_iff_ne.2 (by omega)
    clear he
    go_enter Tryd.func67, Tryd.ntmps67
    go_wp2
    go_step3
    go_wp2_with (go_at_call 81; refine (Tryd.strings_CutPrefix s ⟨#[85, 95, 95]⟩ _).mono ?_; rintro e w1 ⟨rfl, rfl⟩; rw [show (⟨#[85, 95, 95]⟩ : ByteArray).data.toList = [85, 95, 95] from rfl, HP.out])
    rw [Exit.noGoto_ret]
    first | go_ret | (unfold Exit.inBlock; go_ret) | (simp only [Exit.inBlock]; go_ret)
    exact ⟨rfl, rfl⟩
end Go.Proofs.YtaajhionmdjhjaaDoor
