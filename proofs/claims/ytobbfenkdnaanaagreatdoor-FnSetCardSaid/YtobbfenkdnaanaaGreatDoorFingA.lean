/- The fingerprint of a set of labels, by contract. -/
import Derived.Test.YtobbfenkdnaanaaGreatDoorRowA
import Derived.Maps.AppendAt
set_option linter.unusedVariables false
set_option linter.unusedSimpArgs false
namespace Go.Proofs.YtobbfenkdnaanaaGreatDoor
open Go.RowKit Go.Maps Go.WideMaps Go.Sort

theorem infoN : (Tryz.prog.info? 118).map (fun i => (i.zero, i.size, i.bytes)) = some (some (.string ⟨#[]⟩), 1, 16) := by kernel_rfl
/-- The hash over names in an order, each with its value of the set. -/
def fingF (l : LL) (h : Int) (x : ByteArray) : Int := hstep (fnvL (hstep (fnvL h x.data.toList) 255) ((getL l x).getD ⟨#[]⟩).data.toList) 255
def fingL (l : LL) (ks : List ByteArray) : Int := ks.foldl (fingF l) fnv0
def fingH (l : LL) : Int := if l.length = 0 then fnv0 else fingL l (sortN (l.map Prod.fst))

set_option maxHeartbeats 1000000 in
set_option maxRecDepth 100000 in
theorem finger1_calls (ba na : Nat) (la : LL) (w : World) (ha : MapIs w ba na la) (hsa : Sized la) :
    Calls Tryz.prog 153 #[.map (some ba)] w fun e w' => e = .returned (.int .u64 (fingH la)) ∧ Below w.heap.size w w' := by
  have HA := Aside0.mk ha
  have HSA := Aside0.mk hsa
  have hlen := hsa.1
  have hbl := ha.lt
  clear ha hsa
  by_cases h0 : la.length = 0
  · have c0 : ((la.length : Int) == 0) = true := by simp [h0]
    have HF := Aside0.mk (show fingH la = fnv0 by unfold fingH; rw [if_pos h0])
    clear h0
    go_enter Tryz.func153, Tryz.ntmps153
    go_wp2_with (at_len; refine wpList_len_label _ rfl _ 75 rfl Tryz.underlying75 ba na la rfl HA.out ?_)
    go_ret
    exact ⟨by rw [HF.out]; rfl, Below.refl _ _⟩
  · have c0 : ((la.length : Int) == 0) = false := beq_eq_false_iff_ne.2 (by omega)
    have HF := Aside0.mk (show fingH la = fingL la (sortN (la.map Prod.fst)) by unfold fingH; rw [if_neg h0])
    clear h0
    obtain ⟨i0, hi, hz0, hz1, hz2⟩ := info_parts infoN
    have HI := Aside0.mk (And.intro hi (And.intro hz0 (And.intro hz1 hz2)))
    clear hi hz0 hz1 hz2
    go_enter Tryz.func153, Tryz.ntmps153
    go_wp2_with (first
      | (at_len; refine wpList_len_label _ rfl _ 75 rfl Tryz.underlying75 ba na la rfl HA.out ?_)
      | (at_make; refine wpList_make_own _ rfl _ _ 164 rfl w.heap.size 118 i0 (.string ⟨#[]⟩) 1 Tryz.underlying164 HI.out.1 HI.out.2.1 HI.out.2.2.1 _ _ _ la.length rfl rfl rfl (by rw [HI.out.2.2.2]; omega) (by unfold maxLen; omega) (Nat.le_refl _) ?_; intro w1 hrow1 hg1; have HR1 := Aside0.mk hrow1; have HG1 := Aside0.mk hg1; clear hrow1 hg1)
      | (at_range; refine wpList_range_label _ rfl _ 75 rfl Tryz.underlying75 ba na la rfl (HA.out.kept HG1.out (by simp)) ?_; intro w0 hrg0 hg0 hs0; have HRG := Aside0.mk hrg0; have HG0 := Aside0.mk (And.intro hg0 hs0); clear hrg0 hg0 hs0))
    go_frame
    have HB1 := Aside0.mk ((Below.refl w.heap.size w).grown HG1.out (Nat.le_refl _) (fun k hk => by cases hk))
    have HB0 := Aside0.mk (HB1.out.grown HG0.out.1 HG1.out.size (fun k hk => by cases hk))
    have HR0 := Aside0.mk (show RowN w0 w.heap.size 118 (.slice (some ⟨w.heap.size, 0, none⟩) 0 la.length) [] from World.ownsRow.kept HR1.out HG0.out.1 (Or.inr (by simp [Value.ownBlock])))
    have HW1 := Aside0.mk HG1.out.size
    go_loopg [3] la.length (fun g v3 w' => ∃ d : LL, Aside0 (RangeIs w' ba w1.heap.size na la d g) ∧ Aside0 (RowN w' w.heap.size 118 v3 (d.map Prod.fst)) ∧ Aside0 (v3 ≠ .slice none 0 0) ∧ Aside0 (Below w.heap.size w w'))
    case atStart => exact ⟨[], HRG, HR0, ⟨by simp⟩, HB0⟩
    case round =>
      obtain ⟨d, HR, HN, HV, HBW⟩ := hrel
      obtain ⟨g, cap, hv, hbase⟩ := HN.out.form HV.out
      rw [List.length_map] at hv
      subst hv
      have HBS := Aside0.mk hbase
      clear hbase
      go_wp2_with (at_next; refine wpList_next_label _ rfl _ rfl ba w1.heap.size na la d gk rfl HR.out ?_ ?_)
      · intro hperm
        have HP := Aside0.mk hperm
        have hdl : (d.map Prod.fst).length = la.length := by rw [List.length_map, hperm.length_eq]
        have HS := Aside0.mk (sort_row sortAt_names HN.out (by rw [hdl]; omega) (by rw [List.length_map]))
        have HDL := Aside0.mk hdl
        clear hperm hdl
        go_wp2_with (go_at_call 140; refine HS.out.mono ?_; rintro e w4 ⟨rfl, hrow4, hg4⟩; have HR4 := Aside0.mk hrow4; have HG4 := Aside0.mk hg4; clear hrow4 hg4)
        have HM4 := Aside0.mk (HR.out.map.kept HG4.out (HN.out.ne_low hbl))
        have HB4 := Aside0.mk (HBW.out.grown HG4.out HBW.out.size (fun k hk => by cases hk; exact HBS.out))
        have hks := sortN_perm (HP.out.map Prod.fst)
        obtain ⟨ks, hkse⟩ : ∃ ks, sortN (la.map Prod.fst) = ks := ⟨_, rfl⟩
        rw [hkse] at hks
        have hrow5 := HR4.out
        rw [hks] at hrow5
        have hkl : ks.length = d.length := by rw [← hkse, sortN_length, List.length_map, HP.out.length_eq]
        have hdl2 : d.length ≤ 20 := by rw [HP.out.length_eq]; exact hlen
        have HR5 := Aside0.mk hrow5
        have HKS := Aside0.mk (And.intro hkse hkl)
        have HKM := Aside0.mk (show ∀ x ∈ ks, x.size ≤ maxLen ∧ ((getL la x).getD ⟨#[]⟩).size ≤ maxLen from fun x hx => by
          rw [← hkse] at hx
          obtain ⟨p, hp, rfl⟩ := List.mem_map.1 (sortN_mem hx)
          have h1 := HSA.out.2 p hp
          refine ⟨by unfold maxLen; omega, ?_⟩
          rw [getL_of_mem (v := p.2) HR.out.map.once hp]
          show p.2.size ≤ maxLen
          unfold maxLen; omega)
        clear hks hkse hrow5
        go_wp2_with (go_at_call 207; refine (hashNew_calls _).mono ?_; rintro e wx ⟨rfl, rfl⟩)
        go_loopg [5, 29] (d.length + 1) (fun g2 v5 v29 w' => ∃ i : Nat, v29 = .int .i64 (i : Int) ∧ v5 = .int .u64 (fingL la (ks.take i)) ∧ i + g2 = d.length + 1 ∧ i ≤ d.length ∧ wx = w')
        case atStart => exact ⟨0, rfl, rfl, by omega, by omega, rfl⟩
        case round =>
          obtain ⟨i, rfl, rfl, hig, hile, rfl⟩ := hrel
          obtain ⟨z, hz⟩ : ∃ z, fingL la (ks.take i) = z := ⟨_, rfl⟩
          rw [hz]
          by_cases hlt : i < d.length
          · obtain ⟨g1, rfl⟩ : ∃ m, gk = m + 1 := ⟨gk - 1, by omega⟩
            have hlk : i < ks.length := by rw [hkl]; exact hlt
            have c0 := HR5.out.cell i hlk
            have hm := HKM.out _ (List.getElem_mem hlk)
            have hnx : fingL la (ks.take (i + 1)) = fingF la z (ks[i]'hlk) := by
              rw [← hz, List.take_add_one, List.getElem?_eq_getElem hlk]
              unfold fingL
              rw [List.foldl_append]
              rfl
            obtain ⟨x, hx⟩ : ∃ x, ks[i]'hlk = x := ⟨_, rfl⟩
            rw [hx] at c0 hm hnx
            obtain ⟨u, hu⟩ : ∃ u, (getL la x).getD ⟨#[]⟩ = u := ⟨_, rfl⟩
            rw [hu] at hm
            have HN2 := Aside0.mk (And.intro hnx (And.intro hm hu))
            clear hz hnx hm hu hx hlk hkl
            go_wp2_with (first
              | (at_lookup; refine wpList_get_label _ rfl _ _ 75 rfl Tryz.underlying75 ba na la rfl HM4.out x rfl HN2.out.2.1.1 ?_; rw [HN2.out.2.2])
              | (go_at_call 209; refine (hashAddByte_calls _ _ _).mono ?_; rintro e wy ⟨rfl, rfl⟩)
              | (go_at_call 208; refine Calls.mono (hashAdd_calls _ _ ?hsz _) ?_; (case hsz => first | exact HN2.out.2.1.1 | exact HN2.out.2.1.2); rintro e wy ⟨rfl, rfl⟩))
            go_roundg g1
            case measure => omega
            case rel => exact ⟨i + 1, by go_num, by rw [HN2.out.1]; unfold fingF; rw [HN2.out.2.2], by omega, by omega, rfl⟩
          · have HX := Aside0.mk (show fingH la = z by rw [HF.out, HKS.out.1, ← hz, List.take_of_length_le (by omega)])
            clear hz hig hile
            go_wp2_with fail
            go_ret
            exact ⟨by rw [HX.out]; rfl, HB4.out⟩
      · intro x v w2 cnt1 hlx hdx hxl hrg2 hlt hg2 hs2 hen
        have HBX := Aside0.mk (HBW.out.grown hg2 (by have := HBW.out.size; omega) (fun k hk => by cases hk; exact HW1.out))
        have HR2 := Aside0.mk (HN.out.kept hg2 (Or.inr (HN.out.ne_iter HR.out).symm))
        have hdl := HR.out.count
        have HRG2 := Aside0.mk hrg2
        have HSZ := Aside0.mk (show (d.map Prod.fst).length ≤ 20 by rw [List.length_map]; omega)
        clear hlx hdx hxl hrg2 hg2 hs2 hdl
        go_wp2_with (at_builtin; refine wpList_append_own _ rfl _ _ 164 rfl w.heap.size 118 i0 (.string ⟨#[]⟩) 1 16 Tryz.underlying164 HI.out.1 HI.out.2.1 HI.out.2.2.1 HI.out.2.2.2 rfl (by decide) _ _ _ rfl (HR2.out.alloc _) ⟨w2.heap.size, 0, none⟩ 1 1 [.string x] rfl rfl (cell_one_new _ _ _) (by simp [Value.oneCell']) (by have := HSZ.out; unfold maxLen; omega) (by have := HSZ.out; omega) (by have := HBX.out.size; simp; omega) ?_; intro v' w3 hown' hg3 hnil3; have HR3 := Aside0.mk hown'; have HG3 := Aside0.mk (And.intro hg3 hnil3); clear hown' hg3 hnil3)
        try go_frame
        go_roundg cnt1
        case measure => exact hlt
        case rel =>
          refine ⟨d ++ [(x, v)], ⟨(HRG2.out.alloc _).kept HG3.out.1 (HR2.out.ne_low hbl) (HR2.out.ne_iter HRG2.out)⟩, ⟨by have := HR3.out; simpa [RowN] using this⟩, ⟨fun hv' => by have := (HG3.out.2.1 hv').2; omega⟩, ⟨?_⟩⟩
          exact (below_alloc HBX.out _).grown HG3.out.1 (by have := HBX.out.size; simp; omega) (fun j hj => (World.ownsRow.lt HR2.out j hj).1)
set_option maxRecDepth 100000 in
theorem finger_calls (ba na : Nat) (la : LL) (w : World) (ha : MapIs w ba na la) (hsa : Sized la) :
    Calls Tryz.prog 54 #[.map (some ba)] w fun e w' => e = .returned (.int .u64 (fingH la)) ∧ Below w.heap.size w w' := by
  have HA := Aside0.mk ha
  have HSA := Aside0.mk hsa
  clear ha hsa
  go_enter Tryz.func54, Tryz.ntmps54
  go_wp2_with (go_at_call 95; go_in)
  refine (finger1_calls ba na la _ HA.out HSA.out).mono ?_
  rintro e w1 ⟨rfl, hb⟩
  have HB := Aside0.mk hb; clear hb
  go_wp2
  go_ret
  exact ⟨rfl, HB.out⟩
end Go.Proofs.YtobbfenkdnaanaaGreatDoor
