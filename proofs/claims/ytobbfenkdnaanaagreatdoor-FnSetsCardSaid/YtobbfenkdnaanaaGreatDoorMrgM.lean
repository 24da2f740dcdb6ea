/- Two sets of labels are merged: LabelSet.Merge, by contract. -/
import Derived.Test.YtobbfenkdnaanaaGreatDoorMrgP
set_option linter.unusedVariables false
set_option linter.unusedSimpArgs false
namespace Go.Proofs.YtobbfenkdnaanaaGreatDoor
open Go.RowKit Go.Maps Go.WideMaps

section
variable (w : World) {ops : Array Oper} {rest : List Oper} {o : Oper} {a : Act} {Q : Exit → Act → World → Prop}
/-- 'm[x] = v', whether the name is there or not. -/
theorem wpList_put_label (hg : o.guard = none) (m x v : Operand) (t : TypeId) (hop : o.op = Op.mapUpdate t m x v) (ht : Tryz.prog.underlying t = some (.map 118 119)) (b n : Nat) (l : LL)
    (hm : a.eval m = .map (some b)) (hown : MapIs w b n l) (hn : n < maxLen) (xs vs : ByteArray) (hx : a.eval x = .string xs) (hv : a.eval v = .string vs) (hxl : xs.size ≤ maxLen) (hvl : vs.size ≤ maxLen)
    (hK : ∀ w', MapIs w' b (n + 1) (setL l xs vs) → w.grownBy w' (some b) → wpList Tryz.prog ops Q rest (a.put o.dst undef) w') :
    wpList Tryz.prog ops Q (o :: rest) a w := by
  obtain ⟨D, ho, hr⟩ := hown
  exact wpList_mapUpdate_own w hg m x v t hop 118 119 law ht RE b n D hm ho hn _ _ (kl xs) hx hv (keyOf_string_mk Tryz.underlying118 hxl) (.lit (.string vs.data.toList)) [] (plainElem_string Tryz.underlying119 hvl)
    (fun w' h1 h2 => hK w' ⟨_, h1, hr.set xs vs⟩ h2)
end

theorem mrg_step {la lb d l' : LL} {x v : ByteArray} (hl : ∀ y, getL l' y = (getL d y).or (getL la y)) (hdx : getL d x = none) : ∀ y, getL (setL l' x v) y = (getL (d ++ [(x, v)]) y).or (getL la y) := fun y => by
  rw [getL_set, getL_append, hl]
  by_cases hy : y = x
  · subst hy; rw [if_pos rfl, hdx, getL_cons_same]; rfl
  · rw [if_neg hy, getL_cons_other _ _ (Ne.symm hy), getL_nil]; cases getL d y <;> rfl
theorem getL_perm {l l' : LL} (h : l'.Perm l) (ho : Once l) (y : ByteArray) : getL l' y = getL l y := by
  have ho' : Once l' := (List.Perm.nodup_iff (h.map _)).2 ho
  cases e : getL l y with
  | none => exact getL_none.2 fun hx => getL_none.1 e ((h.map _).mem_iff.1 hx)
  | some v => exact getL_of_mem ho' (h.mem_iff.2 (getL_some e))

set_option maxHeartbeats 2000000 in
set_option maxRecDepth 100000 in
theorem merge_calls (ba bb na nb : Nat) (la lb : LL) (w : World) (ha : MapIs w ba na la) (hb : MapIs w bb nb lb) (hsa : Sized la) (hsb : Sized lb) :
    Calls Tryz.prog 77 #[.map (some ba), .map (some bb)] w fun e w' => ∃ b, e = .returned (.map (some b)) ∧ w.heap.size ≤ b ∧ MapIs w' b 40 (mrgL la lb) ∧ Below w.heap.size w w' := by
  have HA := Aside0.mk ha
  have HBM := Aside0.mk hb
  have HSA := Aside0.mk hsa
  have HSB := Aside0.mk hsb
  have hlen := hsa.1
  have hlenb := hsb.1
  have HLT := Aside0.mk (And.intro ha.lt hb.lt)
  clear ha hb hsa hsb
  have hmm := run_makeMap_hint 75 118 119 Tryz.underlying75
  go_enter Tryz.func77, Tryz.ntmps77
  go_wp2_with (first | (at_len; refine wpList_len_label _ rfl _ 75 rfl Tryz.underlying75 ba na la rfl HA.out ?_) | (at_range; refine wpList_range_label _ rfl _ 75 rfl Tryz.underlying75 ba na la rfl (HA.out.alloc _) ?_; intro w0 hrg0 hg0 hs0; have HRG := Aside0.mk hrg0; have HG0 := Aside0.mk (And.intro hg0 hs0); clear hrg0 hg0 hs0))
  go_frame
  have e1 : (w.alloc (.map #[] 0)).heap.size = w.heap.size + 1 := by simp
  have hR := HRG.out
  rw [e1] at hR ⊢
  have HRG := Aside0.mk hR
  have hlt0 := HA.out.lt
  have HNE := Aside0.mk (show some ba ≠ some w.heap.size ∧ some (w.heap.size + 1) ≠ some w.heap.size ∧ some w.heap.size ≠ some (w.heap.size + 1) from ⟨fun e => by have := Option.some.inj e; omega, fun e => by have := Option.some.inj e; omega, fun e => by have := Option.some.inj e; omega⟩)
  have HM0 := Aside0.mk ((MapIs.made w).kept HG0.out.1 (by simp))
  have HB0 := Aside0.mk ((below_alloc (Below.refl w.heap.size w) (.map #[] 0)).grown HG0.out.1 (by simp) (fun k hk => by cases hk))
  clear hR e1 hlt0
  go_loopg [7] la.length (fun g v7 w' => ∃ d : LL, Aside0 (RangeIs w' ba (w.heap.size + 1) na la d g) ∧ Aside0 (MapIs w' w.heap.size d.length d) ∧ Aside0 (Below w.heap.size w w'))
  case atStart => exact ⟨[], HRG, HM0, HB0⟩
  case round =>
    obtain ⟨d, HR, HM, HBW⟩ := hrel
    go_wp2_with (at_next; refine wpList_next_label _ rfl _ rfl ba (w.heap.size + 1) na la d gk rfl HR.out ?_ ?_)
    · intro hperm
      have HF := Aside0.mk hperm
      have HNB := Aside0.mk (HBM.out.next HBW.out)
      have HMW := Aside0.mk (show MapIs wr w.heap.size la.length la from (HM.out.swap hperm.symm).mono (by rw [hperm.length_eq]; exact Nat.le_refl _))
      clear hperm
      obtain ⟨wq, hwq⟩ : ∃ wq : World, wq = wr := ⟨_, rfl⟩
      subst hwq
      go_wp2_with (at_range; refine wpList_range_label _ rfl _ 75 rfl Tryz.underlying75 bb nb lb rfl HNB.out ?_; intro w5 hrg5 hg5 hs5; have HRG5 := Aside0.mk hrg5; have HG5 := Aside0.mk (And.intro hg5 hs5); clear hrg5 hg5 hs5)
      go_frame
      have HWQ := Aside0.mk (And.intro HBW.out.size HMW.out.lt)
      have HM5 := Aside0.mk (HMW.out.kept HG5.out.1 (by simp))
      have HB5 := Aside0.mk (HBW.out.grown HG5.out.1 HBW.out.size (fun k hk => by cases hk))
      have HNE5 := Aside0.mk (show some bb ≠ some w.heap.size ∧ some wq.heap.size ≠ some w.heap.size ∧ some w.heap.size ≠ some wq.heap.size from ⟨fun e => by have := Option.some.inj e; have := HLT.out.2; omega, fun e => by have := Option.some.inj e; have := HWQ.out.2; omega, fun e => by have := Option.some.inj e; have := HWQ.out.2; omega⟩)
      go_loopg [9] lb.length (fun g v9 w' => ∃ d2 l2 : LL, Aside0 (RangeIs w' bb wq.heap.size nb lb d2 g) ∧ Aside0 (MapIs w' w.heap.size (la.length + d2.length) l2) ∧ Aside0 (∀ y, getL l2 y = (getL d2 y).or (getL la y)) ∧ Aside0 (Below w.heap.size w w'))
      case atStart => exact ⟨[], la, HRG5, HM5, ⟨fun y => rfl⟩, HB5⟩
      case round =>
        obtain ⟨d2, l2, HR2, HM2, HL2, HBW2⟩ := hrel
        go_wp2_with (at_next; refine wpList_next_label _ rfl _ rfl bb wq.heap.size nb lb d2 gk rfl HR2.out ?_ ?_)
        · intro hperm
          have HF2 := Aside0.mk hperm
          clear hperm
          go_wp2
          go_ret
          refine ⟨w.heap.size, rfl, Nat.le_refl _, ?_, HBW2.out⟩
          have hlb := HR2.out.map.once
          have hla := HMW.out.once
          refine (HM2.out.swap (mrg_perm hla hlb HM2.out.once fun y => ?_)).mono (by have h1 := HF2.out.length_eq; have h2 := HSA.out.1; have h3 := HSB.out.1; omega)
          rw [HL2.out, getL_perm HF2.out hlb]
        · intro x v w1 cnt1 hlx hdx hxl hrg1 hlt hg1 hs1 hen
          have HBX := Aside0.mk (HBW2.out.grown hg1 (by have := HBW2.out.size; omega) (fun k hk => by cases hk; exact HWQ.out.1))
          have HM1 := Aside0.mk (HM2.out.kept hg1 HNE5.out.2.2)
          have hsv := HSB.out.2 _ (getL_some hlx)
          have hdl := HR2.out.count
          have HX := Aside0.mk (And.intro hdx (And.intro hxl (And.intro (show v.size ≤ maxLen by have h2 : v.size ≤ 300 := hsv.2; unfold maxLen; omega) (show la.length + d2.length < maxLen by unfold maxLen; omega))))
          have HRG1 := Aside0.mk hrg1
          clear hlx hdx hxl hrg1 hg1 hs1 hsv hdl
          go_wp2_with (at_mapUpdate; refine wpList_put_label _ rfl _ _ _ 75 rfl Tryz.underlying75 w.heap.size (la.length + d2.length) l2 rfl HM1.out HX.out.2.2.2 x v rfl rfl HX.out.2.1 HX.out.2.2.1 ?_; intro w2 hm3 hg3; have HM3 := Aside0.mk hm3; have HG3 := Aside0.mk hg3; clear hm3 hg3)
          go_frame
          go_roundg cnt1
          case measure => exact hlt
          case rel => exact ⟨d2 ++ [(x, v)], setL l2 x v, ⟨HRG1.out.kept HG3.out HNE5.out.1 HNE5.out.2.1⟩, ⟨by rw [List.length_append]; exact HM3.out⟩, ⟨mrg_step (lb := lb) HL2.out HX.out.1⟩, ⟨HBX.out.grown HG3.out (by have := HBX.out.size; omega) (fun k hk => by cases hk; exact Nat.le_refl _)⟩⟩
    · intro x v w1 cnt1 hlx hdx hxl hrg1 hlt hg1 hs1 hen
      have HBX := Aside0.mk (HBW.out.grown hg1 (by have := HBW.out.size; omega) (fun k hk => by cases hk; omega))
      have HM1 := Aside0.mk (HM.out.kept hg1 HNE.out.2.2)
      have hsv := HSA.out.2 _ (getL_some hlx)
      have hdl := HR.out.count
      have HX := Aside0.mk (And.intro hdx (And.intro hxl (And.intro (show v.size ≤ maxLen by have h2 : v.size ≤ 300 := hsv.2; unfold maxLen; omega) (show d.length < maxLen by unfold maxLen; omega))))
      have HRG1 := Aside0.mk hrg1
      clear hlx hdx hxl hrg1 hg1 hs1 hsv hdl
      go_wp2_with (at_mapUpdate; refine wpList_store_label _ rfl _ _ _ 75 rfl Tryz.underlying75 w.heap.size d.length d rfl HM1.out HX.out.2.2.2 x v rfl rfl HX.out.2.1 HX.out.2.2.1 HX.out.1 ?_; intro w2 hm3 hg3; have HM3 := Aside0.mk hm3; have HG3 := Aside0.mk hg3; clear hm3 hg3)
      go_frame
      go_roundg cnt1
      case measure => exact hlt
      case rel => exact ⟨d ++ [(x, v)], ⟨HRG1.out.kept HG3.out HNE.out.1 HNE.out.2.1⟩, ⟨by rw [List.length_append]; exact HM3.out⟩, ⟨HBX.out.grown HG3.out (by have := HBX.out.size; omega) (fun k hk => by cases hk; exact Nat.le_refl _)⟩⟩
end Go.Proofs.YtobbfenkdnaanaaGreatDoor
