/-
  The law FnTime: for every int64 the law answers true and its argument reads afterwards as before. Conditions: the package-level variables of Go's library that the card lists hold what the program's text lays (the card ties them).
-/
import Derived.Test.YtobbfenkdnaanaaGreatDoorCards
import Derived.Test.YtobbfenkdnaanaaGreatDoorTie
import Derived.Test.YtobbfenkdnaanaaGreatDoorLaidT
import Derived.Test.YtobbfenkdnaanaaGreatDoorTimL
import Derived.Test.YtobbfenkdnaanaaGreatDoorClosT
import Derived.OpenShut
import Derived.Carry
set_option linter.unusedVariables false
set_option linter.unusedSimpArgs false
namespace Go.Proofs.YtobbfenkdnaanaaGreatDoor.FnTime
open Go.ChangeShapes Go.WideShapes Go.ChangeAt Go.RowKit Go.Proofs.YtobbfenkdnaanaaGreatDoor

theorem laidOut : laidOutB Tryz.prog = true := by kernel_rfl

set_option maxRecDepth 100000 in
theorem lifted (os : Os) (started : os.Started) (H : Type) (enc : TypeId × Value → H) :
    ReturnsInHanded {} Tryz.checked os 9 .any (fun w args => (Rows.fnTimeSpec.pre enc Tryz.prog Tryz.f9 [] false w args ∧ laidMetH Tryz.prog laid10 w) ∧ sizedMet enc Tryz.prog Tryz.f9 (OpenSpec.ofChange Rows.fnTimeSpec) false w args)
      (Rows.fnTimeSpec.post enc Tryz.prog Tryz.f9 false true false false) := by
  refine returnsInHanded_of_change_and (C := Tryz.checked) (X := fun w _ => laidMetH Tryz.prog laid10 w) (fun _ _ _ hh h => h.of_heap hh) own started (by kernel_rfl) Tryz.func9
    (ChangeSpec.witness_shaped (enc := enc) (C := Tryz.checked) (os := os) (X := fun w _ => laidMetH Tryz.prog laid10 w) false (World.laidAll Tryz.prog os laid10) #[.int .i64 0] 8 (World.laidAll_os _ _ _) (World.shaped_of_ZipB (by kernel_rfl) (by kernel_rfl)) (by kernel_rfl) (by kernel_rfl) (by kernel_rfl) (door_met10 os _)) ?_
  intro W base args ds gs before hval0 hW _ _ hL _
  have hval : ∀ (j : Nat) t v, Tryz.f9.params[j]? = some t → args[j]? = some v → Value.okWide Tryz.prog W .any base t v := hval0
  have hW' := hW
  obtain ⟨p, q, hA0, hV, rfl, hfz, hnd⟩ := hW
  have hA : DataW.TrodAll enc Tryz.prog W 0 (fun _ => true) true Tryz.f9.params.toList args.toList ds p := hA0
  rw [Tryz.params9] at hA hval
  obtain ⟨v0, d0, rfl, rfl, h0⟩ := trodAll_one hA
  obtain ⟨rfl, rfl⟩ := trodVars_none hV
  obtain ⟨x0, rfl, rfl, rfl, w0⟩ := open_int Tryz.underlying2 (hval 0 2 v0 rfl rfl) h0
  have b0 := bounds_i64 w0
  clear hA0 hval0
  simp only [List.append_nil] at hW'
  refine (timeLaw_calls x0 b0.1 b0.2 W (globP_of_laid hL).1 (globP_of_laid hL).2).mono fun e W' ⟨he, hg⟩ => ?_
  subst he
  have e1 : Rows.fnTimeSpec.fn H ([.lit (.int .i64 x0)] ++ []) = { results := [.lit (.bool true)], args := [.lit (.int .i64 x0)] } := by simp [Rows.fnTimeSpec]
  refine ⟨_, rfl, _, _, _, [], [], [], hW', ?_, ?_, ?_, hg.frame _, fun h => by cases h⟩
  · rw [e1]; exact trodAll_mk1 (shut_bool Tryz.underlying4 true)
  · rw [e1]; exact trodAll_mk1 (shut_int Tryz.underlying2 w0)
  · rw [e1]; rfl

theorem said : Rows.FnTimeSaid :=
  OpenClaim.holds_of_wide 9 Tryz.f9 rfl rfl rfl rfl rfl rfl rfl ⟨rfl, rfl, rfl, rfl, rfl⟩ rfl rfl rfl rfl rfl (by kernel_rfl) Tryz.func9 closedT
    (of_decide_eq_true (by kernel_rfl)) (by unfold Func.isWrapper; first | (rw [if_pos (by decide +kernel)]; kernel_rfl) | (rw [if_neg (by decide +kernel)]; exact ⟨rfl, rfl⟩))
    (fun os started H enc _ => lifted os started H enc)

theorem plain (f : FuncId) (fn : Func) (hf : Tryz.pinned.checked.prog.funcNamed "pub-samphire/laws.FnTime" = some f) (hfn : Tryz.pinned.checked.prog.funcs[f]? = some fn) :
    true = Tryz.pinned.checked.prog.looks [] ∧ ∀ (j : Nat) t, fn.params[j]? = some t → Tryz.pinned.checked.prog.wantsStandIn t = false := by
  obtain rfl : f = 9 := Option.some.inj ((show Tryz.prog.funcNamed "pub-samphire/laws.FnTime" = some 9 by kernel_rfl).symm.trans hf) |>.symm
  obtain rfl : fn = Tryz.f9 := (Option.some.inj (Tryz.func9.symm.trans hfn)).symm
  refine ⟨by kernel_rfl, fun j t ht => ?_⟩
  rw [Tryz.params9] at ht
  have ht' : t = 2 := by simpa using Array.mem_of_getElem? ht
  subst ht'
  exact (show Tryz.prog.wantsStandIn 2 = false by kernel_rfl)

theorem card : Rows.FnTimeCardSaid :=
  Claim7.holds_tied_plain_at .later [] _ _ _ _ said (fun _ h => by cases h) (by kernel_rfl) (fun _ h => by cases h) fnTime_row_tie rfl ⟨rfl, rfl⟩ (by kernel_rfl) rfl plain (by kernel_rfl)
end Go.Proofs.YtobbfenkdnaanaaGreatDoor.FnTime
