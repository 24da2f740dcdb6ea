/- Sets of labels in order: Before, by contract. -/
import Derived.Test.YtobbfenkdnaanaaGreatDoorFingA
set_option linter.unusedVariables false
set_option linter.unusedSimpArgs false
namespace Go.Proofs.YtobbfenkdnaanaaGreatDoor
open Go.RowKit Go.Maps Go.WideMaps Go.Sort

/-- By the names in an order: the one that lacks a name, or has its lesser value, comes first. -/
def bef (la lb : LL) : List ByteArray → Bool
  | [] => false
  | k :: ks => match getL la k with
    | none => true
    | some x => match getL lb k with
      | none => false
      | some y => if x.toList == y.toList then bef la lb ks else Op.bytesLess x.toList y.toList
def befB (la lb : LL) : Bool := if la.length < lb.length then true else if lb.length < la.length then false else bef la lb (sortN (la.map Prod.fst ++ lb.map Prod.fst))

theorem less_self (l : List UInt8) : Op.bytesLess l l = false := by
  rw [bytesLess_eq]
  exact decide_eq_false (List.lt_irrefl l)

set_option maxHeartbeats 2000000 in
set_option maxRecDepth 100000 in
theorem before1_calls (ba bb na nb : Nat) (la lb : LL) (w : World) (ha : MapIs w ba na la) (hb : MapIs w bb nb lb) (hsa : Sized la) (hsb : Sized lb) :
    Calls Tryz.prog 76 #[.map (some ba), .map (some bb)] w fun e w' => e = .returned (.bool (befB la lb)) ∧ Below w.heap.size w w' := by
  have HA := Aside0.mk ha
  have HB := Aside0.mk hb
  have HSA := Aside0.mk hsa
  have HSB := Aside0.mk hsb
  have hlena := hsa.1
  have hlenb := hsb.1
  have hbla := ha.lt
  have hblb := hb.lt
  clear ha hb hsa hsb
  by_cases h1 : la.length < lb.length
  · have c1 : decide ((la.length : Int) < (lb.length : Int)) = true := decide_eq_true (by omega)
    have HF := Aside0.mk (show befB la lb = true by unfold befB; rw [if_pos h1])
    go_enter Tryz.func76, Tryz.ntmps76
    go_wp2_with (first | (at_len; refine wpList_len_label _ rfl _ 75 rfl Tryz.underlying75 ba na la rfl HA.out ?_) | (at_len; refine wpList_len_label _ rfl _ 75 rfl Tryz.underlying75 bb nb lb rfl HB.out ?_))
    go_ret
    exact ⟨by rw [HF.out]; rfl, Below.refl _ _⟩
  · have c1 : decide ((la.length : Int) < (lb.length : Int)) = false := decide_eq_false (by omega)
    by_cases h2 : lb.length < la.length
    · have c2 : decide ((lb.length : Int) < (la.length : Int)) = true := decide_eq_true (by omega)
      have HF := Aside0.mk (show befB la lb = false by unfold befB; rw [if_neg h1, if_pos h2])
      go_enter Tryz.func76, Tryz.ntmps76
      go_wp2_with (first | (at_len; refine wpList_len_label _ rfl _ 75 rfl Tryz.underlying75 ba na la rfl HA.out ?_) | (at_len; refine wpList_len_label _ rfl _ 75 rfl Tryz.underlying75 bb nb lb rfl HB.out ?_))
      go_ret
      exact ⟨by rw [HF.out]; rfl, Below.refl _ _⟩
    · have c2 : decide ((lb.length : Int) < (la.length : Int)) = false := decide_eq_false (by omega)
      have HF := Aside0.mk (show befB la lb = bef la lb (sortN (la.map Prod.fst ++ lb.map Prod.fst)) by unfold befB; rw [if_neg h1, if_neg h2])
      have heq : lb.length = la.length := by omega
      clear h1 h2
      obtain ⟨i0, hi, hz0, hz1, hz2⟩ := info_parts infoN
      have HI := Aside0.mk (And.intro hi (And.intro hz0 (And.intro hz1 hz2)))
      clear hi hz0 hz1 hz2
      go_enter Tryz.func76, Tryz.ntmps76
      go_wp2_with (first
        | (at_len; refine wpList_len_label _ rfl _ 75 rfl Tryz.underlying75 ba na la rfl HA.out ?_)
        | (at_len; refine wpList_len_label _ rfl _ 75 rfl Tryz.underlying75 bb nb lb rfl HB.out ?_)
        | (at_make; refine wpList_make_own _ rfl _ _ 164 rfl w.heap.size 118 i0 (.string ⟨#[]⟩) 1 Tryz.underlying164 HI.out.1 HI.out.2.1 HI.out.2.2.1 _ _ _ (la.length + lb.length) rfl rfl (by omega) (by rw [HI.out.2.2.2]; omega) (by unfold maxLen; omega) (Nat.le_refl _) ?_; intro w1 hrow1 hg1; have HR1 := Aside0.mk hrow1; have HG1 := Aside0.mk hg1; clear hrow1 hg1)
        | (at_range; refine wpList_range_label _ rfl _ 75 rfl Tryz.underlying75 ba na la rfl (HA.out.kept HG1.out (by simp)) ?_; intro w0 hrg0 hg0 hs0; have HRG := Aside0.mk hrg0; have HG0 := Aside0.mk (And.intro hg0 hs0); clear hrg0 hg0 hs0))
      go_frame
      have HEQ := Aside0.mk heq
      have HB1 := Aside0.mk ((Below.refl w.heap.size w).grown HG1.out (Nat.le_refl _) (fun k hk => by cases hk))
      have HB0 := Aside0.mk (HB1.out.grown HG0.out.1 HG1.out.size (fun k hk => by cases hk))
      have HR0 := Aside0.mk (show RowN w0 w.heap.size 118 (.slice (some ⟨w.heap.size, 0, none⟩) 0 (la.length + lb.length)) [] from World.ownsRow.kept HR1.out HG0.out.1 (Or.inr (by simp [Value.ownBlock])))
      rw [heq] at HR0
      have HW1 := Aside0.mk HG1.out.size
      go_loopg [5] la.length (fun g v5 w' => ∃ d : LL, Aside0 (RangeIs w' ba w1.heap.size na la d g) ∧ Aside0 (RowN w' w.heap.size 118 v5 (d.map Prod.fst)) ∧ Aside0 (v5 ≠ .slice none 0 0) ∧ Aside0 (Below w.heap.size w w'))
      case atStart => exact ⟨[], HRG, HR0, ⟨by simp⟩, HB0⟩
      case round =>
        obtain ⟨d, HR, HN, HV, HBW⟩ := hrel
        obtain ⟨g, cap, hv, hbase⟩ := HN.out.form HV.out
        rw [List.length_map] at hv
        subst hv
        have HBS := Aside0.mk hbase
        clear hbase
        go_wp2_with (at_next; refine wpList_next_label _ rfl _ rfl ba w1.heap.size na la d gk rfl HR.out ?_ ?_)
        · intro hperm
          have HP := Aside0.mk hperm
          have HNB := Aside0.mk (HB.out.next HBW.out)
          clear hperm
          obtain ⟨wq, hwq⟩ : ∃ wq : World, wq = wr := ⟨_, rfl⟩
          subst hwq
          go_wp2_with (at_range; refine wpList_range_label _ rfl _ 75 rfl Tryz.underlying75 bb nb lb rfl HNB.out ?_; intro w5 hrg5 hg5 hs5; have HRG5 := Aside0.mk hrg5; have HG5 := Aside0.mk (And.intro hg5 hs5); clear hrg5 hg5 hs5)
          go_frame
          have HWQ := Aside0.mk HBW.out.size
          have HB5 := Aside0.mk (HBW.out.grown HG5.out.1 HBW.out.size (fun k hk => by cases hk))
          have HR5 := Aside0.mk (HN.out.kept HG5.out.1 (Or.inr (by simp [Value.ownBlock])))
          go_loopg [5] lb.length (fun g v5 w' => ∃ d2 : LL, Aside0 (RangeIs w' bb wq.heap.size nb lb d2 g) ∧ Aside0 (RowN w' w.heap.size 118 v5 (d.map Prod.fst ++ d2.map Prod.fst)) ∧ Aside0 (v5 ≠ .slice none 0 0) ∧ Aside0 (Below w.heap.size w w'))
          case atStart => exact ⟨[], HRG5, ⟨by rw [List.map_nil, List.append_nil]; exact HR5.out⟩, ⟨by simp⟩, HB5⟩
          case round =>
            obtain ⟨d2, HR, HN, HV, HBW⟩ := hrel
            obtain ⟨g, cap, hv, hbase⟩ := HN.out.form HV.out
            rw [List.length_append, List.length_map, List.length_map] at hv
            subst hv
            have HBS := Aside0.mk hbase
            have HDL := Aside0.mk (show d.length = la.length from HP.out.length_eq)
            clear hbase
            go_wp2_with (at_next; refine wpList_next_label _ rfl _ rfl bb wq.heap.size nb lb d2 gk rfl HR.out ?_ ?_)
            · intro hperm
              have HP2 := Aside0.mk hperm
              have hkn : (d.map Prod.fst ++ d2.map Prod.fst).length = d.length + d2.length := by rw [List.length_append, List.length_map, List.length_map]
              have HS := Aside0.mk (sort_row sortAt_names HN.out (by rw [hkn, HDL.out, hperm.length_eq]; omega) hkn.symm)
              clear hperm hkn
              go_wp2_with (go_at_call 140; refine HS.out.mono ?_; rintro e w4 ⟨rfl, hrow4, hg4⟩; have HR4 := Aside0.mk hrow4; have HG4 := Aside0.mk hg4; clear hrow4 hg4)
              have HB4 := Aside0.mk (HBW.out.grown HG4.out HBW.out.size (fun k hk => by cases hk; exact HBS.out))
              have HMA := Aside0.mk (HA.out.next HB4.out)
              have HMB := Aside0.mk (HB.out.next HB4.out)
              have hks := sortN_perm ((HP.out.map Prod.fst).append (HP2.out.map Prod.fst))
              obtain ⟨ks, hkse⟩ : ∃ ks, sortN (la.map Prod.fst ++ lb.map Prod.fst) = ks := ⟨_, rfl⟩
              rw [hkse] at hks
              have hrow5 := HR4.out
              rw [hks] at hrow5
              have hkl : ks.length = d.length + d2.length := by rw [← hkse, sortN_length, List.length_append, List.length_map, List.length_map, HP.out.length_eq, HP2.out.length_eq]
              have hdl2 : d.length + d2.length ≤ 40 := by rw [HP.out.length_eq, HP2.out.length_eq]; omega
              have HR6 := Aside0.mk hrow5
              have HKS := Aside0.mk (And.intro hkse hkl)
              have HKM := Aside0.mk (show ∀ x ∈ ks, x.size ≤ maxLen from fun x hx => by
                rw [← hkse] at hx
                rcases List.mem_append.1 (sortN_mem hx) with hx | hx
                · obtain ⟨p, hp, rfl⟩ := List.mem_map.1 hx
                  have h1 := HSA.out.2 p hp
                  unfold maxLen; omega
                · obtain ⟨p, hp, rfl⟩ := List.mem_map.1 hx
                  have h1 := HSB.out.2 p hp
                  unfold maxLen; omega)
              clear hks hkse hrow5 heq
              obtain ⟨N, hN⟩ : ∃ N, d.length + d2.length = N := ⟨_, rfl⟩
              go_loopg [53] (d.length + d2.length + 1) (fun g2 v53 w' => ∃ i : Nat, v53 = .int .i64 (i : Int) ∧ i + g2 = d.length + d2.length + 1 ∧ i ≤ d.length + d2.length ∧ Aside0 (bef la lb (ks.drop i) = bef la lb ks) ∧ w4 = w')
              case atStart => exact ⟨0, rfl, by omega, by omega, ⟨by rw [List.drop_zero]⟩, rfl⟩
              case round =>
                obtain ⟨i, rfl, hig, hile, HBF, rfl⟩ := hrel
                by_cases hlt : i < d.length + d2.length
                · obtain ⟨g1, rfl⟩ : ∃ m, gk = m + 1 := ⟨gk - 1, by omega⟩
                  have hlk : i < ks.length := by rw [hkl]; exact hlt
                  have c0 := HR6.out.cell i hlk
                  have hm := HKM.out _ (List.getElem_mem hlk)
                  have hdr := HBF.out
                  rw [List.drop_eq_getElem_cons hlk] at hdr
                  obtain ⟨x, hx⟩ : ∃ x, ks[i]'hlk = x := ⟨_, rfl⟩
                  rw [hx] at c0 hm hdr
                  have HX := Aside0.mk hm
                  have hlt' : (i : Int) < (d.length : Int) + (d2.length : Int) := by omega
                  clear hx hlk hkl hm hN
                  cases hga : getL la x with
                  | none =>
                    have HGA := Aside0.mk hga
                    have HE := Aside0.mk (show befB la lb = true by rw [HF.out, HKS.out.1, ← hdr]; simp [bef, hga])
                    clear hga hdr
                    go_wp2_with (at_lookup; refine wpList_look_label _ rfl _ _ 75 rfl Tryz.underlying75 ba na la rfl HMA.out x rfl HX.out ?_; rw [HGA.out])
                    go_ret
                    exact ⟨by rw [HE.out]; rfl, HB4.out⟩
                  | some u =>
                    have HGA := Aside0.mk hga
                    cases hgb : getL lb x with
                    | none =>
                      have HGB := Aside0.mk hgb
                      have HE := Aside0.mk (show befB la lb = false by rw [HF.out, HKS.out.1, ← hdr]; simp [bef, hga, hgb])
                      clear hga hgb hdr
                      go_wp2_with (first | (at_lookup; refine wpList_look_label _ rfl _ _ 75 rfl Tryz.underlying75 ba na la rfl HMA.out x rfl HX.out ?_; rw [HGA.out]) | (at_lookup; refine wpList_look_label _ rfl _ _ 75 rfl Tryz.underlying75 bb nb lb rfl HMB.out x rfl HX.out ?_; rw [HGB.out]))
                      go_ret
                      exact ⟨by rw [HE.out]; rfl, HB4.out⟩
                    | some y =>
                      have HGB := Aside0.mk hgb
                      by_cases huy : u = y
                      · subst huy
                        have h3 := less_self u.toList
                        have h4 : (u.toList == u.toList) = true := beq_same u
                        have HE := Aside0.mk (show bef la lb (ks.drop (i + 1)) = bef la lb ks by rw [← hdr]; simp [bef, hga, hgb])
                        clear hga hgb hdr
                        go_wp2_with (first | (at_lookup; refine wpList_look_label _ rfl _ _ 75 rfl Tryz.underlying75 ba na la rfl HMA.out x rfl HX.out ?_; rw [HGA.out]) | (at_lookup; refine wpList_look_label _ rfl _ _ 75 rfl Tryz.underlying75 bb nb lb rfl HMB.out x rfl HX.out ?_; rw [HGB.out]))
                        go_roundg g1
                        case measure => omega
                        case rel => exact ⟨i + 1, by go_num, by omega, by omega, HE, rfl⟩
                      · have h4 : (u.toList == y.toList) = false := beq_ne huy
                        have h5 : ¬ u.toList = y.toList := fun e => by rw [e] at h4; simp at h4
                        clear huy
                        cases h3 : Op.bytesLess u.toList y.toList with
                        | true =>
                          have HE := Aside0.mk (show befB la lb = true by rw [HF.out, HKS.out.1, ← hdr]; simp [bef, hga, hgb, h3, h5])
                          clear hga hgb hdr h5
                          go_wp2_with (first | (at_lookup; refine wpList_look_label _ rfl _ _ 75 rfl Tryz.underlying75 ba na la rfl HMA.out x rfl HX.out ?_; rw [HGA.out]) | (at_lookup; refine wpList_look_label _ rfl _ _ 75 rfl Tryz.underlying75 bb nb lb rfl HMB.out x rfl HX.out ?_; rw [HGB.out]))
                          go_ret
                          exact ⟨by rw [HE.out]; rfl, HB4.out⟩
                        | false =>
                          have HE := Aside0.mk (show befB la lb = false by rw [HF.out, HKS.out.1, ← hdr]; simp [bef, hga, hgb, h3, h5])
                          clear hga hgb hdr h5
                          go_wp2_with (first | (at_lookup; refine wpList_look_label _ rfl _ _ 75 rfl Tryz.underlying75 ba na la rfl HMA.out x rfl HX.out ?_; rw [HGA.out]) | (at_lookup; refine wpList_look_label _ rfl _ _ 75 rfl Tryz.underlying75 bb nb lb rfl HMB.out x rfl HX.out ?_; rw [HGB.out]))
                          go_ret
                          exact ⟨by rw [HE.out]; rfl, HB4.out⟩
                · have HE := Aside0.mk (show befB la lb = false by
                    have h1 := HBF.out
                    rw [List.drop_of_length_le (by omega)] at h1
                    rw [HF.out, HKS.out.1, ← h1]
                    rfl)
                  have hge : ¬ ((i : Int) < (d.length : Int) + (d2.length : Int)) := by omega
                  clear hig hile
                  go_wp2_with fail
                  go_ret
                  exact ⟨by rw [HE.out]; rfl, HB4.out⟩
            · intro x v w2 cnt1 hlx hdx hxl hrg2 hlt hg2 hs2 hen
              have HBX := Aside0.mk (HBW.out.grown hg2 (by have := HBW.out.size; omega) (fun k hk => by cases hk; exact HWQ.out))
              have HR2 := Aside0.mk (HN.out.kept hg2 (Or.inr (HN.out.ne_iter HR.out).symm))
              have hdl := HR.out.count
              have HRG2 := Aside0.mk hrg2
              have HSZ := Aside0.mk (show (d.map Prod.fst ++ d2.map Prod.fst).length ≤ 40 by rw [List.length_append, List.length_map, List.length_map, HDL.out]; omega)
              clear hlx hdx hxl hrg2 hg2 hs2 hdl
              go_wp2_with (at_builtin; refine wpList_append_own _ rfl _ _ 164 rfl w.heap.size 118 i0 (.string ⟨#[]⟩) 1 16 Tryz.underlying164 HI.out.1 HI.out.2.1 HI.out.2.2.1 HI.out.2.2.2 rfl (by decide) _ _ _ rfl (HR2.out.alloc _) ⟨w2.heap.size, 0, none⟩ 1 1 [.string x] rfl rfl (cell_one_new _ _ _) (by simp [Value.oneCell']) (by have := HSZ.out; unfold maxLen; omega) (by have := HSZ.out; omega) (by have := HBX.out.size; simp; omega) ?_; intro v' w3 hown' hg3 hnil3; have HR3 := Aside0.mk hown'; have HG3 := Aside0.mk (And.intro hg3 hnil3); clear hown' hg3 hnil3)
              try go_frame
              go_roundg cnt1
              case measure => exact hlt
              case rel =>
                refine ⟨d2 ++ [(x, v)], ⟨(HRG2.out.alloc _).kept HG3.out.1 (HR2.out.ne_low hblb) (HR2.out.ne_iter HRG2.out)⟩, ⟨by have := HR3.out; simpa [RowN, Nat.add_assoc] using this⟩, ⟨fun hv' => by have := (HG3.out.2.1 hv').2; omega⟩, ⟨?_⟩⟩
                exact (below_alloc HBX.out _).grown HG3.out.1 (by have := HBX.out.size; simp; omega) (fun j hj => (World.ownsRow.lt HR2.out j hj).1)
        · intro x v w2 cnt1 hlx hdx hxl hrg2 hlt hg2 hs2 hen
          have HBX := Aside0.mk (HBW.out.grown hg2 (by have := HBW.out.size; omega) (fun k hk => by cases hk; exact HW1.out))
          have HR2 := Aside0.mk (HN.out.kept hg2 (Or.inr (HN.out.ne_iter HR.out).symm))
          have hdl := HR.out.count
          have HRG2 := Aside0.mk hrg2
          have HSZ := Aside0.mk (show (d.map Prod.fst).length ≤ 20 by rw [List.length_map]; omega)
          clear hlx hdx hxl hrg2 hg2 hs2 hdl
          go_wp2_with (at_builtin; refine wpList_append_own _ rfl _ _ 164 rfl w.heap.size 118 i0 (.string ⟨#[]⟩) 1 16 Tryz.underlying164 HI.out.1 HI.out.2.1 HI.out.2.2.1 HI.out.2.2.2 rfl (by decide) _ _ _ rfl (HR2.out.alloc _) ⟨w2.heap.size, 0, none⟩ 1 1 [.string x] rfl rfl (cell_one_new _ _ _) (by simp [Value.oneCell']) (by have := HSZ.out; unfold maxLen; omega) (by have := HSZ.out; omega) (by have := HBX.out.size; simp; omega) ?_; intro v' w3 hown' hg3 hnil3; have HR3 := Aside0.mk hown'; have HG3 := Aside0.mk (And.intro hg3 hnil3); clear hown' hg3 hnil3)
          try go_frame
          go_roundg cnt1
          case measure => exact hlt
          case rel =>
            refine ⟨d ++ [(x, v)], ⟨(HRG2.out.alloc _).kept HG3.out.1 (HR2.out.ne_low hbla) (HR2.out.ne_iter HRG2.out)⟩, ⟨by have := HR3.out; simpa [RowN] using this⟩, ⟨fun hv' => by have := (HG3.out.2.1 hv').2; omega⟩, ⟨?_⟩⟩
            exact (below_alloc HBX.out _).grown HG3.out.1 (by have := HBX.out.size; simp; omega) (fun j hj => (World.ownsRow.lt HR2.out j hj).1)

set_option maxRecDepth 100000 in
theorem mequal_calls (ba bb na nb : Nat) (la lb : LL) (w : World) (ha : MapIs w ba na la) (hb : MapIs w bb nb lb) (hsa : Sized la) (hsb : Sized lb) :
    Calls Tryz.prog 51 #[.map (some ba), .map (some bb)] w fun e w' => e = .returned (.bool (sameB la lb)) ∧ Below w.heap.size w w' := by
  have HA := Aside0.mk (And.intro ha (And.intro hb (And.intro hsa hsb)))
  clear ha hb hsa hsb
  go_enter Tryz.func51, Tryz.ntmps51
  go_wp2_with fail
  refine (equal_calls ba bb na nb la lb _ HA.out.1 HA.out.2.1 HA.out.2.2.1 HA.out.2.2.2).mono ?_
  rintro e w1 ⟨rfl, hb⟩
  have HB := Aside0.mk hb; clear hb
  go_wp2
  go_ret
  exact ⟨rfl, HB.out⟩
set_option maxRecDepth 100000 in
theorem mbefore_calls (ba bb na nb : Nat) (la lb : LL) (w : World) (ha : MapIs w ba na la) (hb : MapIs w bb nb lb) (hsa : Sized la) (hsb : Sized lb) :
    Calls Tryz.prog 52 #[.map (some ba), .map (some bb)] w fun e w' => e = .returned (.bool (befB la lb)) ∧ Below w.heap.size w w' := by
  have HA := Aside0.mk (And.intro ha (And.intro hb (And.intro hsa hsb)))
  clear ha hb hsa hsb
  go_enter Tryz.func52, Tryz.ntmps52
  go_wp2_with fail
  refine (before1_calls ba bb na nb la lb _ HA.out.1 HA.out.2.1 HA.out.2.2.1 HA.out.2.2.2).mono ?_
  rintro e w1 ⟨rfl, hb⟩
  have HB := Aside0.mk hb; clear hb
  go_wp2
  go_ret
  exact ⟨rfl, HB.out⟩
end Go.Proofs.YtobbfenkdnaanaaGreatDoor
