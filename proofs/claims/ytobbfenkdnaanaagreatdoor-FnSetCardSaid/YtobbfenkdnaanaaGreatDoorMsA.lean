/- Metric.String, by contract. -/
import Derived.Test.YtobbfenkdnaanaaGreatDoorTxA
set_option linter.unusedVariables false
set_option linter.unusedSimpArgs false
namespace Go.Proofs.YtobbfenkdnaanaaGreatDoor
open Go.RowKit Go.Maps Go.WideMaps Go.Sort Go.Proofs

/-- '__name__'. -/
abbrev nameB : ByteArray := ⟨#[95, 95, 110, 97, 109, 101, 95, 95]⟩
/-- The labels but the metric's name. -/
noncomputable def outL (l : LL) : LL := by classical exact l.filter fun p => decide (p.1 ≠ nameB)
theorem outL_nil : outL [] = [] := rfl
theorem outL_snoc_name (l : LL) (v : ByteArray) : outL (l ++ [(nameB, v)]) = outL l := by
  classical
  unfold outL
  rw [List.filter_append]
  simp
theorem outL_snoc (l : LL) (x v : ByteArray) (h : x ≠ nameB) : outL (l ++ [(x, v)]) = outL l ++ [(x, v)] := by
  classical
  unfold outL
  rw [List.filter_append]
  simp [h]
theorem outL_perm {l d : LL} (h : d.Perm l) : (outL d).Perm (outL l) := by
  classical
  unfold outL
  exact h.filter _
theorem outL_le (l : LL) : (outL l).length ≤ l.length := by
  classical
  unfold outL
  exact List.length_filter_le _ _
theorem outL_mem {l : LL} {p : ByteArray × ByteArray} (h : p ∈ outL l) : p ∈ l := by
  classical
  unfold outL at h
  exact (List.mem_filter.1 h).1
theorem outL_len : ∀ {l : LL}, Once l → (outL l).length + (if (getL l nameB).isSome then 1 else 0) = l.length
  | [], _ => rfl
  | p :: l, ho => by
    have ho' : Once l := by
      unfold Once at ho ⊢
      rw [List.map_cons, List.nodup_cons] at ho
      exact ho.2
    have ih := outL_len ho'
    classical
    by_cases h : p.1 = nameB
    · have hn : getL l nameB = none := by
        cases hg : getL l nameB with
        | none => rfl
        | some v =>
          exfalso
          unfold Once at ho
          rw [List.map_cons, List.nodup_cons] at ho
          have := getL_some hg
          exact ho.1 (by rw [h]; exact List.mem_map.2 ⟨_, this, rfl⟩)
      rw [hn] at ih
      obtain ⟨x, v⟩ := p
      obtain rfl : x = nameB := h
      rw [getL_cons_same]
      have : outL ((nameB, v) :: l) = outL l := by unfold outL; simp
      rw [this]
      simp at ih ⊢
      omega
    · obtain ⟨x, v⟩ := p
      have hx : x ≠ nameB := h
      rw [getL_cons_other v l hx]
      have : outL ((x, v) :: l) = (x, v) :: outL l := by unfold outL; simp [hx]
      rw [this, List.length_cons, List.length_cons]
      omega
/-- The lines of the metric's other labels. -/
noncomputable def outB (T : Lib.PrintTabs) (l : LL) : List ByteArray := (outL l).map (rtB T)
/-- The text of a metric. -/
noncomputable def metT (T : Lib.PrintTabs) (l : LL) : ByteArray :=
  if (outL l).length = 0 then (if (getL l nameB).isSome then (getL l nameB).getD ⟨#[]⟩ else ⟨#[123, 125]⟩)
  else (getL l nameB).getD ⟨#[]⟩ ++ ⟨#[123]⟩ ++ joinB (sortN (outB T l)) ++ ⟨#[125]⟩

theorem RangeIs.nextB {w w' : World} {b r n : Nat} {l d : LL} {cnt : Nat} (h : RangeIs w b r n l d cnt) (hb : Below w.heap.size w w') : RangeIs w' b r n l d cnt :=
  h.kept (row := none) ⟨hb.os, hb.tape, hb.output, hb.size, fun k hk _ => hb.block k hk⟩ (by simp) (by simp)
theorem RowN.nextB {w w' : World} {base : Nat} {e : TypeId} {v : Value} {ks : List ByteArray} (h : RowN w base e v ks) (hb : Below w.heap.size w w') : RowN w' base e v ks :=
  h.kept (row := none) ⟨hb.os, hb.tape, hb.output, hb.size, fun k hk _ => hb.block k hk⟩ (by cases hv : v.ownBlock <;> simp)
theorem name_list : nameB.toList = [95, 95, 110, 97, 109, 101, 95, 95] := by rw [ba_toList]
theorem name_ne {x : ByteArray} (h : x ≠ nameB) : (x.toList == [95, 95, 110, 97, 109, 101, 95, 95]) = false := by
  rw [← name_list]
  exact beq_ne h
set_option maxHeartbeats 2000000 in
set_option maxRecDepth 100000 in
theorem metString_calls (T : Lib.PrintTabs) (ba na : Nat) (la : LL) (w : World) (ha : MapIs w ba na la) (hsa : Sized la) (hT : Lib.PrintTabsAt 8 9 10 11 T w) (hU : Lib.Utf8Tabs 0 1 w) :
    Calls Tryz.prog 94 #[.map (some ba)] w fun e w' => e = .returned (.string (metT T la)) ∧ Below w.heap.size w w' := by
  have HA := Aside0.mk ha
  have HSA := Aside0.mk hsa
  have HTU := Aside0.mk (And.intro hT hU)
  have hbl := ha.lt
  have hol := outL_len ha.once
  have hlen := hsa.1
  have HW := Aside0.mk (And.intro hbl (Below.refl w.heap.size w))
  clear ha hsa hT hU
  obtain ⟨i0, hi, hz0, hz1, hz2⟩ := info_parts infoS
  have HI := Aside0.mk (And.intro hi (And.intro hz0 (And.intro hz1 hz2)))
  clear hi hz0 hz1 hz2
  obtain ⟨nm, hnm⟩ : ∃ nm, (getL la nameB).getD ⟨#[]⟩ = nm := ⟨_, rfl⟩
  obtain ⟨k, hk⟩ : ∃ k, (outL la).length = k := ⟨_, rfl⟩
  have HK := Aside0.mk (And.intro hk hnm)
  rw [hk] at hol
  clear hk
  cases hh : (getL la nameB).isSome with
  | true =>
    rw [hh, if_pos rfl] at hol
    have HH := Aside0.mk hh
    have hsub : (la.length : Int) - 1 = (k : Int) := by omega
    go_enter Tryz.func94, Tryz.ntmps94
    go_wp2_with (first
      | (at_lookup; refine wpList_look_label _ rfl _ _ 74 rfl Tryz.underlying74 ba na la rfl HA.out nameB rfl (by unfold maxLen; decide) ?_; rw [hnm, hh])
      | (at_len; refine wpList_len_label _ rfl _ 74 rfl Tryz.underlying74 ba na la rfl HA.out ?_)
      | (at_make; refine wpList_make_own _ rfl _ _ 81 rfl w.heap.size 9 i0 (.string ⟨#[]⟩) 1 Tryz.underlying81 HI.out.1 HI.out.2.1 HI.out.2.2.1 _ _ _ k rfl rfl (by omega) (by rw [HI.out.2.2.2]; omega) (by unfold maxLen; omega) (Nat.le_refl _) ?_; intro w1 hrow1 hg1; have HR1 := Aside0.mk hrow1; have HG1 := Aside0.mk hg1; clear hrow1 hg1)
      | (at_range; refine wpList_range_label _ rfl _ 74 rfl Tryz.underlying74 ba na la rfl (HA.out.kept HG1.out (by simp)) ?_; intro w0 hrg0 hg0 hs0; have HRG := Aside0.mk hrg0; have HG0 := Aside0.mk (And.intro hg0 hs0); clear hrg0 hg0 hs0))
    go_frame
    have HB1 := Aside0.mk ((Below.refl w.heap.size w).grown HG1.out (Nat.le_refl _) (fun k hk => by cases hk))
    have HB0 := Aside0.mk (HB1.out.grown HG0.out.1 HG1.out.size (fun k hk => by cases hk))
    have HR0 := Aside0.mk (show RowN w0 w.heap.size 9 (.slice (some ⟨w.heap.size, 0, none⟩) 0 k) (outB T []) from World.ownsRow.kept HR1.out HG0.out.1 (Or.inr (by simp [Value.ownBlock])))
    have HW1 := Aside0.mk HG1.out.size
    go_loopg [6] la.length (fun g v6 w' => ∃ d : LL, Aside0 (RangeIs w' ba w1.heap.size na la d g) ∧ Aside0 (RowN w' w.heap.size 9 v6 (outB T d)) ∧ Aside0 (v6 ≠ .slice none 0 0) ∧ Aside0 (Below w.heap.size w w'))
    case atStart => exact ⟨[], HRG, (by first | exact HR0 | (rw [show la.length = k by omega]; exact HR0)), ⟨by simp⟩, HB0⟩
    case round =>
      obtain ⟨d, HR, HN, HV, HBW⟩ := hrel
      obtain ⟨g, cap, hv, hbase⟩ := HN.out.form HV.out
      subst hv
      have HBS := Aside0.mk hbase
      clear hbase
      go_wp2_with (at_next; refine wpList_next_label _ rfl _ rfl ba w1.heap.size na la d gk rfl HR.out ?_ ?_)
      · intro hperm
        have HP := Aside0.mk hperm
        have HOB := Aside0.mk (show sortN (outB T d) = sortN (outB T la) from sortN_perm ((outL_perm hperm).map _))
        have HKD := Aside0.mk (show (outB T d).length = k by unfold outB; rw [List.length_map, (outL_perm hperm).length_eq]; exact HK.out.1)
        by_cases hk0 : k = 0
        · have c0 : ((k : Int) == 0) = true := by simp [hk0]
          have HM := Aside0.mk (show metT T la = nm by
            unfold metT
            rw [if_pos (HK.out.1.trans hk0), HH.out]
            exact HK.out.2)
          clear hk0 hperm
          go_wp2_with fail
          go_ret
          exact ⟨by rw [HM.out]; rfl, HBW.out⟩
        · have c0 : ((k : Int) == 0) = false := beq_eq_false_iff_ne.2 (by omega)
          have HM := Aside0.mk (show metT T la = nm ++ ⟨#[123]⟩ ++ joinB (sortN (outB T la)) ++ ⟨#[125]⟩ by
            unfold metT
            rw [if_neg (by rw [HK.out.1]; exact hk0), HK.out.2])
          have HS := Aside0.mk (sort_row sortAt_strs HN.out (by rw [HKD.out]; have := HSA.out.1; omega) rfl)
          rw [HOB.out] at HS
          have hnz : nm.size ≤ 300 := by
            rw [← HK.out.2]
            cases hg : getL la nameB with
            | none => exact Nat.zero_le _
            | some u => exact (HSA.out.2 _ (getL_some hg)).2
          have hjl := join_len (ks := sortN (outB T la)) (by rw [← HOB.out, sortN_length, HKD.out]; omega) (fun x hx => by
            have := sortN_mem hx
            unfold outB at this
            obtain ⟨p, hp, rfl⟩ := List.mem_map.1 this
            have h2 := HSA.out.2 p (outL_mem hp)
            exact rtB_size T p h2.1 h2.2)
          have HJ := Aside0.mk (fun (W : World) (h : RowN W w.heap.size 9 (.slice (some ⟨g, 0, none⟩) (outB T d).length cap) (sortN (outB T la))) => join_calls h (by rw [← HOB.out, sortN_length, HKD.out]; omega) (fun x hx => by
            have := sortN_mem hx
            unfold outB at this
            obtain ⟨p, hp, rfl⟩ := List.mem_map.1 this
            have h2 := HSA.out.2 p (outL_mem hp)
            exact rtB_size T p h2.1 h2.2))
          have hjs : (joinB (sortN (outB T la))).size ≤ 100000 := hjl
          obtain ⟨jt, hjt⟩ : ∃ jt, joinB (sortN (outB T la)) = jt := ⟨_, rfl⟩
          rw [hjt] at HM HJ hjs
          have hb1 : ¬ 9223372036854775807 < nm.size + 1 := by omega
          have hb2 : ¬ 9223372036854775807 < nm.size + 1 + jt.size := by omega
          have hb3 : ¬ 9223372036854775807 < nm.size + 1 + jt.size + 1 := by omega
          clear hk0 hperm hjl hnz hjs hjt
          go_wp2_with fail
          refine HS.out.mono ?_
          rintro e w4 ⟨rfl, hrow4, hg4⟩
          have HB4 := Aside0.mk (HBW.out.grown hg4 HBW.out.size (fun k hk => by cases hk; exact HBS.out))
          have HC := Aside0.mk (HJ.out w4 hrow4)
          clear hrow4 hg4
          go_wp2_with fail
          refine HC.out.mono ?_
          rintro e w5 ⟨rfl, hb5⟩
          have HB5 := Aside0.mk (below_step HB4.out hb5)
          clear hb5
          go_wp2_with fail
          go_ret
          exact ⟨by rw [HM.out]; rfl, HB5.out⟩
      · intro x v w2 cnt1 hlx hdx hxl hrg2 hlt hg2 hs2 hen
        have HBX := Aside0.mk (HBW.out.grown hg2 (by have := HBW.out.size; omega) (fun k hk => by cases hk; exact HW1.out))
        have HR2 := Aside0.mk (HN.out.kept hg2 (Or.inr (HN.out.ne_iter HR.out).symm))
        have hdl := HR.out.count
        have HRG2 := Aside0.mk hrg2
        have hsz : x.size ≤ 300 ∧ v.size ≤ 300 := HSA.out.2 _ (getL_some hlx)
        clear hlx hdx hxl hrg2 hg2 hs2
        by_cases hx : x = nameB
        · subst hx
          go_wp2_with fail
          go_roundg cnt1
          case measure => exact hlt
          case rel => exact ⟨d ++ [(nameB, v)], HRG2, ⟨by
            have := HR2.out
            unfold outB at this ⊢
            rw [outL_snoc_name]
            exact this⟩, HV, HBX⟩
        · have c1 : (x.toList == [95, 95, 110, 97, 109, 101, 95, 95]) = false := name_ne hx
          have hb1 : ¬ 9223372036854775807 < x.size + 1 := by have := hsz.1; omega
          have HX := Aside0.mk (And.intro hx hsz)
          have hql : (strOfNums (Lib.quoteZ T v)).size ≤ 3002 := by rw [strOfNums_size]; have := quoteZ_len T v; have := hsz.2; omega
          have HOL := Aside0.mk (show (outB T d).length ≤ 20 by unfold outB; rw [List.length_map]; have := outL_le d; omega)
          obtain ⟨q, hq⟩ : ∃ q, strOfNums (Lib.quoteZ T v) = q := ⟨_, rfl⟩
          rw [hq] at hql
          have hb2 : ¬ 9223372036854775807 < x.size + 1 + q.size := by have := hsz.1; omega
          have HQ := Aside0.mk (quote_calls T v w2 hsz.2 (printTabs_below HTU.out.1 HBX.out) (Utf8Tabs_below HTU.out.2 HBX.out))
          have HQE := Aside0.mk hq
          rw [hq] at HQ
          clear hsz hx hq hql hdl
          go_wp2_with fail
          refine HQ.out.mono ?_
          rintro e w3 ⟨rfl, hb3⟩
          have HB3 := Aside0.mk (below_step HBX.out hb3)
          have HRG3 := Aside0.mk (HRG2.out.nextB hb3)
          have HR3 := Aside0.mk (HR2.out.nextB hb3)
          clear hb3
          go_wp2_with (at_builtin; refine wpList_append_own _ rfl _ _ 81 rfl w.heap.size 9 i0 (.string ⟨#[]⟩) 1 16 Tryz.underlying81 HI.out.1 HI.out.2.1 HI.out.2.2.1 HI.out.2.2.2 rfl (by decide) _ _ _ rfl (HR3.out.alloc _) ⟨w3.heap.size, 0, none⟩ 1 1 [.string (x ++ ⟨#[61]⟩ ++ q)] rfl rfl (cell_one_new _ _ _) (by simp [Value.oneCell']) (by have := HOL.out; unfold maxLen; omega) (by have := HOL.out; omega) (by have := HB3.out.size; simp; omega) ?_; intro v' w4 hown' hg4 hnil4; have HR4 := Aside0.mk hown'; have HG4 := Aside0.mk (And.intro hg4 hnil4); clear hown' hg4 hnil4)
          try go_frame
          go_roundg cnt1
          case measure => exact hlt
          case rel =>
            refine ⟨d ++ [(x, v)], ⟨(HRG3.out.alloc _).kept HG4.out.1 (HR3.out.ne_low hbl) (HR3.out.ne_iter HRG3.out)⟩, ⟨?_⟩, ⟨fun hv' => by have := (HG4.out.2.1 hv').2; omega⟩, ⟨?_⟩⟩
            · have := HR4.out
              unfold outB at this ⊢
              rw [outL_snoc d x v HX.out.1, List.map_append]
              show RowN w4 w.heap.size 9 v' ((outL d).map (rtB T) ++ [rtB T (x, v)])
              rw [show rtB T (x, v) = x ++ ⟨#[61]⟩ ++ q by unfold rtB; rw [HQE.out]]
              unfold RowN
              simpa using this
            · exact (below_alloc HB3.out _).grown HG4.out.1 (by have := HB3.out.size; simp; omega) (fun j hj => (World.ownsRow.lt HR3.out j hj).1)
  | false =>
    rw [hh] at hol
    simp only [Bool.false_eq_true, if_false, Nat.add_zero] at hol
    have HH := Aside0.mk hh
    have hsub : (la.length : Int) = (k : Int) := by omega
    go_enter Tryz.func94, Tryz.ntmps94
    go_wp2_with (first
      | (at_lookup; refine wpList_look_label _ rfl _ _ 74 rfl Tryz.underlying74 ba na la rfl HA.out nameB rfl (by unfold maxLen; decide) ?_; rw [hnm, hh])
      | (at_len; refine wpList_len_label _ rfl _ 74 rfl Tryz.underlying74 ba na la rfl HA.out ?_)
      | (at_make; refine wpList_make_own _ rfl _ _ 81 rfl w.heap.size 9 i0 (.string ⟨#[]⟩) 1 Tryz.underlying81 HI.out.1 HI.out.2.1 HI.out.2.2.1 _ _ _ k rfl rfl (by omega) (by rw [HI.out.2.2.2]; omega) (by unfold maxLen; omega) (Nat.le_refl _) ?_; intro w1 hrow1 hg1; have HR1 := Aside0.mk hrow1; have HG1 := Aside0.mk hg1; clear hrow1 hg1)
      | (at_range; refine wpList_range_label _ rfl _ 74 rfl Tryz.underlying74 ba na la rfl (HA.out.kept HG1.out (by simp)) ?_; intro w0 hrg0 hg0 hs0; have HRG := Aside0.mk hrg0; have HG0 := Aside0.mk (And.intro hg0 hs0); clear hrg0 hg0 hs0))
    go_frame
    have HB1 := Aside0.mk ((Below.refl w.heap.size w).grown HG1.out (Nat.le_refl _) (fun k hk => by cases hk))
    have HB0 := Aside0.mk (HB1.out.grown HG0.out.1 HG1.out.size (fun k hk => by cases hk))
    have HR0 := Aside0.mk (show RowN w0 w.heap.size 9 (.slice (some ⟨w.heap.size, 0, none⟩) 0 k) (outB T []) from World.ownsRow.kept HR1.out HG0.out.1 (Or.inr (by simp [Value.ownBlock])))
    have HW1 := Aside0.mk HG1.out.size
    go_loopg [6] la.length (fun g v6 w' => ∃ d : LL, Aside0 (RangeIs w' ba w1.heap.size na la d g) ∧ Aside0 (RowN w' w.heap.size 9 v6 (outB T d)) ∧ Aside0 (v6 ≠ .slice none 0 0) ∧ Aside0 (Below w.heap.size w w'))
    case atStart => exact ⟨[], HRG, (by first | exact HR0 | (rw [show la.length = k by omega]; exact HR0)), ⟨by simp⟩, HB0⟩
    case round =>
      obtain ⟨d, HR, HN, HV, HBW⟩ := hrel
      obtain ⟨g, cap, hv, hbase⟩ := HN.out.form HV.out
      subst hv
      have HBS := Aside0.mk hbase
      clear hbase
      go_wp2_with (at_next; refine wpList_next_label _ rfl _ rfl ba w1.heap.size na la d gk rfl HR.out ?_ ?_)
      · intro hperm
        have HP := Aside0.mk hperm
        have HOB := Aside0.mk (show sortN (outB T d) = sortN (outB T la) from sortN_perm ((outL_perm hperm).map _))
        have HKD := Aside0.mk (show (outB T d).length = k by unfold outB; rw [List.length_map, (outL_perm hperm).length_eq]; exact HK.out.1)
        by_cases hk0 : k = 0
        · have c0 : ((k : Int) == 0) = true := by simp [hk0]
          have HM := Aside0.mk (show metT T la = ⟨#[123, 125]⟩ by
            unfold metT
            rw [if_pos (HK.out.1.trans hk0), HH.out]
            rfl)
          clear hk0 hperm
          go_wp2_with fail
          go_ret
          exact ⟨by rw [HM.out]; rfl, HBW.out⟩
        · have c0 : ((k : Int) == 0) = false := beq_eq_false_iff_ne.2 (by omega)
          have HM := Aside0.mk (show metT T la = nm ++ ⟨#[123]⟩ ++ joinB (sortN (outB T la)) ++ ⟨#[125]⟩ by
            unfold metT
            rw [if_neg (by rw [HK.out.1]; exact hk0), HK.out.2])
          have HS := Aside0.mk (sort_row sortAt_strs HN.out (by rw [HKD.out]; have := HSA.out.1; omega) rfl)
          rw [HOB.out] at HS
          have hnz : nm.size ≤ 300 := by
            rw [← HK.out.2]
            cases hg : getL la nameB with
            | none => exact Nat.zero_le _
            | some u => exact (HSA.out.2 _ (getL_some hg)).2
          have hjl := join_len (ks := sortN (outB T la)) (by rw [← HOB.out, sortN_length, HKD.out]; omega) (fun x hx => by
            have := sortN_mem hx
            unfold outB at this
            obtain ⟨p, hp, rfl⟩ := List.mem_map.1 this
            have h2 := HSA.out.2 p (outL_mem hp)
            exact rtB_size T p h2.1 h2.2)
          have HJ := Aside0.mk (fun (W : World) (h : RowN W w.heap.size 9 (.slice (some ⟨g, 0, none⟩) (outB T d).length cap) (sortN (outB T la))) => join_calls h (by rw [← HOB.out, sortN_length, HKD.out]; omega) (fun x hx => by
            have := sortN_mem hx
            unfold outB at this
            obtain ⟨p, hp, rfl⟩ := List.mem_map.1 this
            have h2 := HSA.out.2 p (outL_mem hp)
            exact rtB_size T p h2.1 h2.2))
          have hjs : (joinB (sortN (outB T la))).size ≤ 100000 := hjl
          obtain ⟨jt, hjt⟩ : ∃ jt, joinB (sortN (outB T la)) = jt := ⟨_, rfl⟩
          rw [hjt] at HM HJ hjs
          have hb1 : ¬ 9223372036854775807 < nm.size + 1 := by omega
          have hb2 : ¬ 9223372036854775807 < nm.size + 1 + jt.size := by omega
          have hb3 : ¬ 9223372036854775807 < nm.size + 1 + jt.size + 1 := by omega
          clear hk0 hperm hjl hnz hjs hjt
          go_wp2_with fail
          refine HS.out.mono ?_
          rintro e w4 ⟨rfl, hrow4, hg4⟩
          have HB4 := Aside0.mk (HBW.out.grown hg4 HBW.out.size (fun k hk => by cases hk; exact HBS.out))
          have HC := Aside0.mk (HJ.out w4 hrow4)
          clear hrow4 hg4
          go_wp2_with fail
          refine HC.out.mono ?_
          rintro e w5 ⟨rfl, hb5⟩
          have HB5 := Aside0.mk (below_step HB4.out hb5)
          clear hb5
          go_wp2_with fail
          go_ret
          exact ⟨by rw [HM.out]; rfl, HB5.out⟩
      · intro x v w2 cnt1 hlx hdx hxl hrg2 hlt hg2 hs2 hen
        have HBX := Aside0.mk (HBW.out.grown hg2 (by have := HBW.out.size; omega) (fun k hk => by cases hk; exact HW1.out))
        have HR2 := Aside0.mk (HN.out.kept hg2 (Or.inr (HN.out.ne_iter HR.out).symm))
        have hdl := HR.out.count
        have HRG2 := Aside0.mk hrg2
        have hsz : x.size ≤ 300 ∧ v.size ≤ 300 := HSA.out.2 _ (getL_some hlx)
        clear hlx hdx hxl hrg2 hg2 hs2
        by_cases hx : x = nameB
        · subst hx
          go_wp2_with fail
          go_roundg cnt1
          case measure => exact hlt
          case rel => exact ⟨d ++ [(nameB, v)], HRG2, ⟨by
            have := HR2.out
            unfold outB at this ⊢
            rw [outL_snoc_name]
            exact this⟩, HV, HBX⟩
        · have c1 : (x.toList == [95, 95, 110, 97, 109, 101, 95, 95]) = false := name_ne hx
          have hb1 : ¬ 9223372036854775807 < x.size + 1 := by have := hsz.1; omega
          have HX := Aside0.mk (And.intro hx hsz)
          have hql : (strOfNums (Lib.quoteZ T v)).size ≤ 3002 := by rw [strOfNums_size]; have := quoteZ_len T v; have := hsz.2; omega
          have HOL := Aside0.mk (show (outB T d).length ≤ 20 by unfold outB; rw [List.length_map]; have := outL_le d; omega)
          obtain ⟨q, hq⟩ : ∃ q, strOfNums (Lib.quoteZ T v) = q := ⟨_, rfl⟩
          rw [hq] at hql
          have hb2 : ¬ 9223372036854775807 < x.size + 1 + q.size := by have := hsz.1; omega
          have HQ := Aside0.mk (quote_calls T v w2 hsz.2 (printTabs_below HTU.out.1 HBX.out) (Utf8Tabs_below HTU.out.2 HBX.out))
          have HQE := Aside0.mk hq
          rw [hq] at HQ
          clear hsz hx hq hql hdl
          go_wp2_with fail
          refine HQ.out.mono ?_
          rintro e w3 ⟨rfl, hb3⟩
          have HB3 := Aside0.mk (below_step HBX.out hb3)
          have HRG3 := Aside0.mk (HRG2.out.nextB hb3)
          have HR3 := Aside0.mk (HR2.out.nextB hb3)
          clear hb3
          go_wp2_with (at_builtin; refine wpList_append_own _ rfl _ _ 81 rfl w.heap.size 9 i0 (.string ⟨#[]⟩) 1 16 Tryz.underlying81 HI.out.1 HI.out.2.1 HI.out.2.2.1 HI.out.2.2.2 rfl (by decide) _ _ _ rfl (HR3.out.alloc _) ⟨w3.heap.size, 0, none⟩ 1 1 [.string (x ++ ⟨#[61]⟩ ++ q)] rfl rfl (cell_one_new _ _ _) (by simp [Value.oneCell']) (by have := HOL.out; unfold maxLen; omega) (by have := HOL.out; omega) (by have := HB3.out.size; simp; omega) ?_; intro v' w4 hown' hg4 hnil4; have HR4 := Aside0.mk hown'; have HG4 := Aside0.mk (And.intro hg4 hnil4); clear hown' hg4 hnil4)
          try go_frame
          go_roundg cnt1
          case measure => exact hlt
          case rel =>
            refine ⟨d ++ [(x, v)], ⟨(HRG3.out.alloc _).kept HG4.out.1 (HR3.out.ne_low hbl) (HR3.out.ne_iter HRG3.out)⟩, ⟨?_⟩, ⟨fun hv' => by have := (HG4.out.2.1 hv').2; omega⟩, ⟨?_⟩⟩
            · have := HR4.out
              unfold outB at this ⊢
              rw [outL_snoc d x v HX.out.1, List.map_append]
              show RowN w4 w.heap.size 9 v' ((outL d).map (rtB T) ++ [rtB T (x, v)])
              rw [show rtB T (x, v) = x ++ ⟨#[61]⟩ ++ q by unfold rtB; rw [HQE.out]]
              unfold RowN
              simpa using this
            · exact (below_alloc HB3.out _).grown HG4.out.1 (by have := HB3.out.size; simp; omega) (fun j hj => (World.ownsRow.lt HR3.out j hj).1)
end Go.Proofs.YtobbfenkdnaanaaGreatDoor
