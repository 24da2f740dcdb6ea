/- Sets of labels are compared: Equal, by contract. -/
import Derived.Test.YtobbfenkdnaanaaGreatDoorSetA
set_option linter.unusedVariables false
set_option linter.unusedSimpArgs false
namespace Go.Proofs.YtobbfenkdnaanaaGreatDoor
open Go.RowKit Go.Maps Go.WideMaps

/-- The same labels. -/
def SameL (la lb : LL) : Prop := la.length = lb.length ∧ ∀ p ∈ la, getL lb p.1 = some p.2
open Classical in
noncomputable def sameB (la lb : LL) : Bool := decide (SameL la lb)
theorem sameB_true {la lb : LL} (h : SameL la lb) : sameB la lb = true := by classical (unfold sameB; exact decide_eq_true h)
theorem sameB_false {la lb : LL} (h : ¬ SameL la lb) : sameB la lb = false := by classical (unfold sameB; exact decide_eq_false h)

set_option maxHeartbeats 1000000 in
set_option maxRecDepth 100000 in
theorem equal_calls (ba bb na nb : Nat) (la lb : LL) (w : World) (ha : MapIs w ba na la) (hb : MapIs w bb nb lb) (hsa : Sized la) (hsb : Sized lb) :
    Calls Tryz.prog 75 #[.map (some ba), .map (some bb)] w fun e w' => e = .returned (.bool (sameB la lb)) ∧ Below w.heap.size w w' := by
  have HA := Aside0.mk ha
  have HB := Aside0.mk hb
  have HSA := Aside0.mk hsa
  have HSB := Aside0.mk hsb
  clear ha hb hsa hsb
  by_cases hlen : la.length = lb.length
  · have c1 : ((la.length : Int) != (lb.length : Int)) = false := by rw [hlen]; simp
    have HLEN := Aside0.mk hlen
    clear hlen
    go_enter Tryz.func75, Tryz.ntmps75
    go_wp2_with (first | (at_len; refine wpList_len_label _ rfl _ 75 rfl Tryz.underlying75 ba na la rfl HA.out ?_) | (at_len; refine wpList_len_label _ rfl _ 75 rfl Tryz.underlying75 bb nb lb rfl HB.out ?_) | (at_range; refine wpList_range_label _ rfl _ 75 rfl Tryz.underlying75 ba na la rfl HA.out ?_; intro w0 hrg0 hg0 hs0; have HRG := Aside0.mk hrg0; have HG0 := Aside0.mk (And.intro hg0 hs0); clear hrg0 hg0 hs0))
    go_frame
    have HB0 := Aside0.mk ((Below.refl w.heap.size w).grown HG0.out.1 (Nat.le_refl _) (fun k hk => by cases hk))
    go_loopg [5] la.length (fun g v5 w' => ∃ d : LL, Aside0 (RangeIs w' ba w.heap.size na la d g) ∧ Aside0 (∀ p ∈ d, getL lb p.1 = some p.2) ∧ Aside0 (Below w.heap.size w w'))
    case atStart => exact ⟨[], HRG, ⟨fun p hp => by cases hp⟩, HB0⟩
    case round =>
      obtain ⟨d, HR, HD, HBW⟩ := hrel
      go_wp2_with (at_next; refine wpList_next_label _ rfl _ rfl ba w.heap.size na la d gk rfl HR.out ?_ ?_)
      · intro hperm
        have HF := Aside0.mk (sameB_true (la := la) (lb := lb) ⟨HLEN.out, fun p hp => HD.out p (hperm.mem_iff.2 hp)⟩)
        clear hperm
        go_wp2
        go_ret
        exact ⟨by rw [HF.out]; rfl, HBW.out⟩
      · intro x v w1 cnt1 hlx hdx hxl hrg1 hlt hg1 hs1 hen
        have HBX := Aside0.mk (HBW.out.grown hg1 (by have := HBW.out.size; omega) (fun k hk => by cases hk; exact Nat.le_refl _))
        have HMB := Aside0.mk (HB.out.next HBX.out)
        have HX := Aside0.mk (And.intro hlx (And.intro hdx hxl))
        have HRG1 := Aside0.mk hrg1
        clear hlx hdx hxl hrg1 hg1 hs1
        cases hgl : getL lb x with
        | none =>
          have HF := Aside0.mk (sameB_false (la := la) (lb := lb) fun h => by
            have := h.2 (x, v) (getL_some HX.out.1)
            rw [hgl] at this
            cases this)
          have HGL := Aside0.mk hgl
          clear hgl
          go_wp2_with (at_lookup; refine wpList_look_label _ rfl _ _ 75 rfl Tryz.underlying75 bb nb lb rfl HMB.out x rfl HX.out.2.2 ?_; rw [HGL.out])
          go_ret
          exact ⟨by rw [HF.out]; rfl, HBX.out⟩
        | some u =>
          have HGL := Aside0.mk hgl
          clear hgl
          by_cases huv : u = v
          · subst huv
            go_wp2_with (at_lookup; refine wpList_look_label _ rfl _ _ 75 rfl Tryz.underlying75 bb nb lb rfl HMB.out x rfl HX.out.2.2 ?_; rw [HGL.out])
            go_roundg cnt1
            case measure => exact hlt
            case rel => exact ⟨d ++ [(x, u)], HRG1, ⟨fun p hp => by
              rcases List.mem_append.1 hp with hp | hp
              · exact HD.out p hp
              · simp only [List.mem_singleton] at hp
                subst hp
                exact HGL.out⟩, HBX⟩
          · have hne : (u.toList == v.toList) = false := beq_ne huv
            have HF := Aside0.mk (sameB_false (la := la) (lb := lb) fun h => by
              have := h.2 (x, v) (getL_some HX.out.1)
              rw [HGL.out] at this
              exact huv (Option.some.inj this))
            clear huv
            go_wp2_with (at_lookup; refine wpList_look_label _ rfl _ _ 75 rfl Tryz.underlying75 bb nb lb rfl HMB.out x rfl HX.out.2.2 ?_; rw [HGL.out])
            go_ret
            exact ⟨by rw [HF.out]; rfl, HBX.out⟩
  · have c1 : ((la.length : Int) != (lb.length : Int)) = true := by simp; omega
    have HF := Aside0.mk (sameB_false (la := la) (lb := lb) fun h => hlen h.1)
    clear hlen
    go_enter Tryz.func75, Tryz.ntmps75
    go_wp2_with (first | (at_len; refine wpList_len_label _ rfl _ 75 rfl Tryz.underlying75 ba na la rfl HA.out ?_) | (at_len; refine wpList_len_label _ rfl _ 75 rfl Tryz.underlying75 bb nb lb rfl HB.out ?_))
    go_ret
    exact ⟨by rw [HF.out]; rfl, Below.refl _ _⟩
end Go.Proofs.YtobbfenkdnaanaaGreatDoor
