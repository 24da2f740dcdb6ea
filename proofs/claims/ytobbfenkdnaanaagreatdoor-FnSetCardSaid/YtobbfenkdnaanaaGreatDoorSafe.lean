/- The contract of impl.safe: a function value that returns is carried out, and safe answers true. -/
import Derived.Test.YtobbfenkdnaanaaGreatDoorProg
import Derived.Tactics
import Derived.Tactics2
import Derived.Defers
import Derived.Recover
import Derived.WalkKit
import Derived.WalkLawsBesides
import Derived.Laws.Pointers
import Derived.Below
import Derived.Outline
import Derived.Lib.Hide
set_option linter.unusedVariables false
set_option linter.unusedSimpArgs false
namespace Go.Proofs.YtobbfenkdnaanaaGreatDoor
open Go.RowKit

theorem safe1_idle (p : Addr) (x : Bool) (w : World) (hc : w.cell? p = some (.bool x)) (hz : w.frozen? p = false) :
    CallsD Tryz.prog 114 #[.pointer (some p)] .returning w fun e u' w' => e = .returned (.tuple #[]) ∧ u' = .returning ∧ w' = w.setCell p (.bool true) := by
  refine callsD_of_wpS Tryz.func114 rfl fun c₀ cs hu => ?_
  apply wpS_region
  simp [wpOpsS, go_sem, recoverD, hu, Tryz.ntmps114, Exit.thenS, hc, hz, Result.andThen, Oper.upon, Act.put, bodyPostS, results, Tryz.results114]
  cases c₀
  simp_all

set_option maxRecDepth 100000 in
theorem safe_calls (G : Nat) (cap : Array Value) (w : World) (Q : World → Prop)
    (hE : ∀ w, (callFunc G cap).run Tryz.prog w = .ok (.enter G cap) w)
    (hG : Calls Tryz.prog G cap (w.alloc (.cells #[.bool false] 4)) fun e w' => e = .returned (.tuple #[]) ∧ Q w')
    (hQ : ∀ w', Q w' → w'.cell? ⟨w.heap.size, 0, none⟩ = some (.bool false) ∧ w'.frozen? ⟨w.heap.size, 0, none⟩ = false) :
    Calls Tryz.prog 48 #[.func (.func G) #[] cap] w fun e w' => e = .returned (.bool true) ∧ ∃ w1, Q w1 ∧ Below w.heap.size w1 w' := by
  have HG := Lib.hid hG; clear hG
  have HQ := Lib.hid hQ; clear hQ
  have hmf : ∀ (fn : Fn) (first cap : Array Value) (w : World), (Instr.makeFunc fn first cap).run Tryz.prog w = .ok (.func fn first cap) w := fun _ _ _ _ => rfl
  go_enter_defers Tryz.func48, Tryz.ntmps48
  go_wp2_with fail
  refine (HG.out).mono ?_
  rintro e w1 ⟨rfl, hq⟩
  obtain ⟨hc, hz⟩ := HQ.out w1 hq
  go_wp2
  refine leaves_cons (f := 114) (args := #[.pointer (some ⟨w.heap.size, 0, none⟩)]) (by simp) (by simp [go_sem]) ?_
  refine (safe1_idle ⟨w.heap.size, 0, none⟩ true _ ?_ ?_).mono ?_
  · simp [go_sem, hc]
  · simp [go_sem, hz]
  rintro e u' w'' ⟨rfl, rfl, rfl⟩
  simp [Leaves, settle, results, Tryz.results48, go_sem, hc]
  exact ⟨w1, hq, ((Below.refl w.heap.size w1).setCell (p := ⟨w.heap.size, 0, none⟩) (Nat.le_refl _) _).setCell (p := ⟨w.heap.size, 0, none⟩) (Nat.le_refl _) _⟩
end Go.Proofs.YtobbfenkdnaanaaGreatDoor
