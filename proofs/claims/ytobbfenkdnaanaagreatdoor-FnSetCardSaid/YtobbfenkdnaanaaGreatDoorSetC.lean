/- A set of labels is copied: Clone, by contract. -/
import Derived.Test.YtobbfenkdnaanaaGreatDoorSetB
set_option linter.unusedVariables false
set_option linter.unusedSimpArgs false
namespace Go.Proofs.YtobbfenkdnaanaaGreatDoor
open Go.RowKit Go.Maps Go.WideMaps

theorem run_makeMap_hint (t : TypeId) (kt et : TypeId) (ht : Tryz.prog.underlying t = some (.map kt et)) (n : Int) (w : World) : (Instr.makeMap t (some (.int .i64 n))).run Tryz.prog w = .ok (.map (some w.heap.size)) (w.alloc (.map #[] 0)) := by
  simp [Instr.makeMap, run_underlying ht, asInt, asIntOf, Result.andThen]

set_option maxHeartbeats 1000000 in
set_option maxRecDepth 100000 in
theorem clone_calls (ba na : Nat) (la : LL) (w : World) (ha : MapIs w ba na la) (hsa : Sized la) :
    Calls Tryz.prog 53 #[.map (some ba)] w fun e w' => ∃ b, e = .returned (.map (some b)) ∧ w.heap.size ≤ b ∧ MapIs w' b 20 la ∧ Below w.heap.size w w' := by
  have HA := Aside0.mk ha
  have HSA := Aside0.mk hsa
  have hlen := hsa.1
  clear ha hsa
  have hmm := run_makeMap_hint 74 118 119 Tryz.underlying74
  go_enter Tryz.func53, Tryz.ntmps53
  go_wp2_with (first | (at_len; refine wpList_len_label _ rfl _ 74 rfl Tryz.underlying74 ba na la rfl HA.out ?_) | (at_range; refine wpList_range_label _ rfl _ 74 rfl Tryz.underlying74 ba na la rfl (HA.out.alloc _) ?_; intro w0 hrg0 hg0 hs0; have HRG := Aside0.mk hrg0; have HG0 := Aside0.mk (And.intro hg0 hs0); clear hrg0 hg0 hs0))
  go_frame
  have e1 : (w.alloc (.map #[] 0)).heap.size = w.heap.size + 1 := by simp
  have hR := HRG.out
  rw [e1] at hR ⊢
  have HRG := Aside0.mk hR
  have hlt0 := HA.out.lt
  have HNE := Aside0.mk (show some ba ≠ some w.heap.size ∧ some (w.heap.size + 1) ≠ some w.heap.size ∧ some w.heap.size ≠ some (w.heap.size + 1) from ⟨fun e => by have := Option.some.inj e; omega, fun e => by have := Option.some.inj e; omega, fun e => by have := Option.some.inj e; omega⟩)
  have HM0 := Aside0.mk ((MapIs.made w).kept HG0.out.1 (by simp))
  have HB0 := Aside0.mk ((below_alloc (Below.refl w.heap.size w) (.map #[] 0)).grown HG0.out.1 (by simp) (fun k hk => by cases hk))
  clear hR e1 hlt0
  go_loopg [4] la.length (fun g v4 w' => ∃ d : LL, Aside0 (RangeIs w' ba (w.heap.size + 1) na la d g) ∧ Aside0 (MapIs w' w.heap.size d.length d) ∧ Aside0 (Below w.heap.size w w'))
  case atStart => exact ⟨[], HRG, HM0, HB0⟩
  case round =>
    obtain ⟨d, HR, HM, HBW⟩ := hrel
    go_wp2_with (at_next; refine wpList_next_label _ rfl _ rfl ba (w.heap.size + 1) na la d gk rfl HR.out ?_ ?_)
    · intro hperm
      have HF := Aside0.mk hperm
      clear hperm
      go_wp2
      go_ret
      exact ⟨w.heap.size, rfl, Nat.le_refl _, (HM.out.swap HF.out.symm).mono (by rw [HF.out.length_eq]; omega), HBW.out⟩
    · intro x v w1 cnt1 hlx hdx hxl hrg1 hlt hg1 hs1 hen
      have HBX := Aside0.mk (HBW.out.grown hg1 (by have := HBW.out.size; omega) (fun k hk => by cases hk; omega))
      have HM1 := Aside0.mk (HM.out.kept hg1 HNE.out.2.2)
      have hsv := HSA.out.2 _ (getL_some hlx)
      have hdl := HR.out.count
      have HX := Aside0.mk (And.intro hdx (And.intro hxl (And.intro (show v.size ≤ maxLen by have h2 : v.size ≤ 300 := hsv.2; unfold maxLen; omega) (show d.length < maxLen by unfold maxLen; omega))))
      have HRG1 := Aside0.mk hrg1
      clear hlx hdx hxl hrg1 hg1 hs1 hsv hdl
      go_wp2_with (at_mapUpdate; refine wpList_store_label _ rfl _ _ _ 74 rfl Tryz.underlying74 w.heap.size d.length d rfl HM1.out HX.out.2.2.2 x v rfl rfl HX.out.2.1 HX.out.2.2.1 HX.out.1 ?_; intro w2 hm3 hg3; have HM3 := Aside0.mk hm3; have HG3 := Aside0.mk hg3; clear hm3 hg3)
      go_frame
      go_roundg cnt1
      case measure => exact hlt
      case rel => exact ⟨d ++ [(x, v)], ⟨HRG1.out.kept HG3.out HNE.out.1 HNE.out.2.1⟩, ⟨by rw [List.length_append]; exact HM3.out⟩, ⟨HBX.out.grown HG3.out (by have := HBX.out.size; omega) (fun k hk => by cases hk; exact Nat.le_refl _)⟩⟩
end Go.Proofs.YtobbfenkdnaanaaGreatDoor
