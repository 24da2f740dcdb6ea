/- The package's zzIndex, by contract. -/
import Derived.Test.YtaajhionmdjhjaaDoorSafe
import Derived.Test.YtaajhionmdjhjaaDoorWords
import Derived.Test.YtaajhionmdjhjaaDoorUneR
import Derived.Lib.IndexEntry
import Derived.Lib.FrozenHead2
import Derived.Lib.OthersKept
import Derived.Deep.LoopGhost
import Derived.Deep.QuietTactic
import Derived.BigQuiet
import Derived.WalkMore
set_option linter.unusedVariables false
set_option linter.unusedSimpArgs false
namespace Go.Proofs.YtaajhionmdjhjaaDoor
open Go.RowKit

set_option maxHeartbeats 1000000 in
set_option maxRecDepth 100000 in
theorem zzIndex_calls (s sub : ByteArray) (hs : s.size ≤ 100000000) (hsub : sub.size ≤ 100) (hsub0 : 0 < sub.size) (w : World) :
    Calls Tryd.prog 92 #[.string s, .string sub] w fun e w' => e = .returned (.int .i64 (Lib.index s.data.toList sub.data.toList)) ∧ w' = w := by
  obtain ⟨wo, hwo⟩ : ∃ wo : World, wo = w := ⟨_, rfl⟩
  subst hwo
  go_enter Tryd.func92, Tryd.ntmps92
  have HSUB := Aside0.mk (show sub.data.toList ≠ [] by
    intro h
    have := (Lib.size_eq sub).symm
    rw [h, List.length_nil] at this
    omega)
  have l1 := (Lib.size_eq s).symm
  have l2 := (Lib.size_eq sub).symm
  have HL := Aside0.mk (And.intro l1 l2)
  clear l1 l2
  go_wp2_with fail
  go_loopg [5] (s.size + 1) (fun g v5 w' => ∃ i : Nat, v5 = .int .i64 (i : Int) ∧ i + g = s.size + 1 ∧ Aside0 (Lib.NoOcc s.data.toList sub.data.toList i) ∧ wo = w')
  case atStart => exact ⟨0, rfl, by omega, ⟨Lib.NoOcc.zero _ _⟩, rfl⟩
  case round =>
    obtain ⟨i, rfl, hik, HN, rfl⟩ := hrel
    by_cases hin : i + sub.size ≤ s.size
    · have c1 : (i : Int) + (sub.size : Int) ≤ (s.size : Int) := by omega
      have c2 : (i : Int) ≤ (i : Int) + (sub.size : Int) := by omega
      have HO := Aside0.mk (Lib.occ_of_piece s sub i hin)
      obtain ⟨b, hb⟩ : ∃ b, Lib.occAt s.data.toList sub.data.toList i = b := ⟨_, rfl⟩
      have hp : ((s.extract i (i + sub.size)).toList == sub.toList) = b := by rw [← HO.out, hb]
      have HBB := Aside0.mk hb
      clear hb
      cases b with
      | true =>
        go_wp2_with fail
        go_ret
        exact ⟨by rw [Lib.index_hit HN.out (by rw [HL.out.1]; omega) HBB.out]; rfl, rfl⟩
      | false =>
        obtain ⟨g1, rfl⟩ : ∃ m, gk = m + 1 := ⟨gk - 1, by omega⟩
        go_wp2_with fail
        go_roundg g1
        case measure => omega
        case rel => exact ⟨i + 1, by go_num, by omega, ⟨HN.out.succ HBB.out⟩, rfl⟩
    · have c1 : (s.size : Int) < (i : Int) + (sub.size : Int) := by omega
      go_wp2_with fail
      go_ret
      exact ⟨by rw [Lib.index_past HSUB.out HN.out (by rw [HL.out.1, HL.out.2]; omega)]; rfl, rfl⟩
end Go.Proofs.YtaajhionmdjhjaaDoor
