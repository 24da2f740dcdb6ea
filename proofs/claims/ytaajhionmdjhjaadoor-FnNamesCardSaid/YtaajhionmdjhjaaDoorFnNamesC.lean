/-
  The law FnNames: for every text the law answers true and its argument reads afterwards as before. Conditions: the package-level variables of Go's library that the card lists hold what the program's text lays (the card ties them).
-/
import Derived.Test.YtaajhionmdjhjaaDoorCards
import Derived.Test.YtaajhionmdjhjaaDoorTie
import Derived.Test.YtaajhionmdjhjaaDoorLaidN
import Derived.Test.YtaajhionmdjhjaaDoorNamC
import Derived.OpenShut
import Derived.ShutString
set_option linter.unusedVariables false
set_option linter.unusedSimpArgs false
namespace Go.Proofs.YtaajhionmdjhjaaDoor.FnNames
open Go.ChangeShapes Go.WideShapes Go.ChangeAt Go.RowKit Go.Proofs.YtaajhionmdjhjaaDoor
open Go.ChangeMaps (open_string shut_string)

set_option maxRecDepth 100000 in
theorem lifted (os : Os) (started : os.Started) (H : Type) (enc : TypeId × Value → H) :
    ReturnsInHanded {} Tryd.checked os 9 .any (fun w args => (Rows.fnNamesSpec.pre enc Tryd.prog Tryd.f9 [] false w args ∧ laidMetH Tryd.prog laid7 w) ∧ sizedMet enc Tryd.prog Tryd.f9 (OpenSpec.ofChange Rows.fnNamesSpec) false w args)
      (Rows.fnNamesSpec.post enc Tryd.prog Tryd.f9 false true false false) := by
  refine returnsInHanded_of_change_and (C := Tryd.checked) (X := fun w _ => laidMetH Tryd.prog laid7 w) (fun _ _ _ hh h => h.of_heap hh) own started (by kernel_rfl) Tryd.func9
    (ChangeSpec.witness_shaped (enc := enc) (C := Tryd.checked) (os := os) (X := fun w _ => laidMetH Tryd.prog laid7 w) false (World.laidAll Tryd.prog os laid7) #[.string ⟨#[]⟩] 8 (World.laidAll_os _ _ _) (World.shaped_of_ZipB (by kernel_rfl) (by kernel_rfl)) (by kernel_rfl) (by kernel_rfl) (by kernel_rfl) (door_metN os _)) ?_
  intro W base args ds gs before hval0 hW _ _ hL _
  have hval : ∀ (j : Nat) t v, Tryd.f9.params[j]? = some t → args[j]? = some v → Value.okWide Tryd.prog W .any base t v := hval0
  have hW' := hW
  obtain ⟨p, q, hA0, hV, rfl, hfz, hnd⟩ := hW
  have hA : DataW.TrodAll enc Tryd.prog W 0 (fun _ => true) true Tryd.f9.params.toList args.toList ds p := hA0
  rw [Tryd.params9] at hA hval
  obtain ⟨v0, d0, rfl, rfl, h0⟩ := trodAll_one hA
  obtain ⟨rfl, rfl⟩ := trodVars_none hV
  obtain ⟨x0, rfl, rfl, rfl, w0⟩ := open_string Tryd.underlying9 (hval 0 9 v0 rfl rfl) h0
  clear hA0 hval0
  simp only [List.append_nil] at hW'
  refine (namesLaw_calls x0 w0 W (globT_of_laid hL)).mono fun e W' ⟨he, hg⟩ => ?_
  subst he
  have e1 : Rows.fnNamesSpec.fn H ([.lit (.string x0.data.toList)] ++ []) = { results := [.lit (.bool true)], args := [.lit (.string x0.data.toList)] } := by simp [Rows.fnNamesSpec]
  refine ⟨_, rfl, _, _, _, [], [], [], hW', ?_, ?_, ?_, hg.frame _, fun h => by cases h⟩
  · rw [e1]; exact trodAll_mk1 (shut_bool Tryd.underlying4 true)
  · rw [e1]; exact trodAll_mk1 (shut_string Tryd.underlying9 w0)
  · rw [e1]; rfl

theorem said : Rows.FnNamesSaid :=
  OpenClaim.holds_of_wide 9 Tryd.f9 rfl rfl rfl rfl rfl rfl rfl ⟨rfl, rfl, rfl, rfl, rfl⟩ rfl rfl rfl rfl rfl (by kernel_rfl) Tryd.func9 (by kernel_rfl)
    (of_decide_eq_true (by kernel_rfl)) (by unfold Func.isWrapper; first | (rw [if_pos (by decide +kernel)]; kernel_rfl) | (rw [if_neg (by decide +kernel)]; exact ⟨rfl, rfl⟩))
    (fun os started H enc _ => lifted os started H enc)

theorem plain (f : FuncId) (fn : Func) (hf : Tryd.pinned.checked.prog.funcNamed "pub-samphire/laws.FnNames" = some f) (hfn : Tryd.pinned.checked.prog.funcs[f]? = some fn) :
    true = Tryd.pinned.checked.prog.looks [] ∧ ∀ (j : Nat) t, fn.params[j]? = some t → Tryd.pinned.checked.prog.wantsStandIn t = false := by
  obtain rfl : f = 9 := Option.some.inj ((show Tryd.prog.funcNamed "pub-samphire/laws.FnNames" = some 9 by kernel_rfl).symm.trans hf) |>.symm
  obtain rfl : fn = Tryd.f9 := (Option.some.inj (Tryd.func9.symm.trans hfn)).symm
  refine ⟨by kernel_rfl, fun j t ht => ?_⟩
  rw [Tryd.params9] at ht
  have ht' : t = 9 := by simpa using Array.mem_of_getElem? ht
  rcases ht' with rfl
  · exact (show Tryd.prog.wantsStandIn 9 = false by kernel_rfl)

theorem card : Rows.FnNamesCardSaid :=
  Claim7.holds_tied_plain_at .later [] _ _ _ _ said (fun _ h => by cases h) (by kernel_rfl) (fun _ h => by cases h) fnNames_row_tie rfl ⟨rfl, rfl⟩ (by kernel_rfl) rfl plain (by kernel_rfl)
end Go.Proofs.YtaajhionmdjhjaaDoor.FnNames
